/-
  (Named).fields$1: what it yields, by its contract.
-/
import Derived.Test.Qxb6618677aWk2
import Derived.Test.Qxb6618677aLw
import Derived.Test.Qxb6618677aNf
import Derived.Test.Qxb6618677aWs0
import Derived.Deep.DeepMust
import Derived.Test.Qxb6618677aQm
namespace Go.Proofs.Qxb6618677a
open Go.RowKit Go.Shelf
attribute [local go_sem] Oper.semAt_some

/-- What a walk yields is of the run. -/
theorem fld_ok {T X : ByteArray} {i0 x0 : Nat} {ts : List Stif.Tok} {into : Nat → Stif.Tok → Bool} {p : Nat × Stif.Tok} (hch : Stif.chain T X.size i0 x0 ts T.size X.size) (hp : p ∈ Stif.flds into 0 0 ts) :
    Stif.tokAt T p.2.tok p.2.txt = some p.2 ∧ p.2.txt + p.2.n ≤ X.size ∧ p.1 ≤ T.size ∧ p ∈ Stif.runN 0 ts := by
  have h := into_every (av := X ++ ⟨#[33]⟩) (md := (T.size : Int) + 1) (by rw [ByteArray.size_append]; show X.size < X.size + 1; omega) (by omega) hch
  have h1 := (Stif.flds_sub into _ ts 0 0 h).subset hp
  rw [show (0 + 0 : Nat) = 0 from rfl, flds_every (by rw [ByteArray.size_append]; show X.size < X.size + 1; omega) (by omega) hch] at h1
  have h2 := (List.mem_filter.1 h1).1
  have h3 := Stif.chain_mem hch _ (Stif.runN_mem ts 0 p h2)
  have h4 := Stif.runN_depth ts 0 p h2
  have h5 := (Stif.chain_le hch).1
  exact ⟨h3.2.1, h3.2.2, by omega, h2⟩

def fsel (X nm : ByteArray) (nest : Bool) (lev : Nat) (p : Nat × Stif.Tok) : Bool := (p.1 == lev) && ((((p.2.kind : Int) == 2) == nest) && ((X.extract p.2.txt (p.2.txt + p.2.n)).toList == nm.toList))
/-- The fields that a Named names. -/
def named (X : ByteArray) (P : List ByteArray) (nm : ByteArray) (nest : Bool) (ts : List Stif.Tok) : List (Nat × Stif.Tok) := (Stif.flds (pathInto X P) 0 0 ts).filter (fsel X nm nest P.length)
/-- The boxes that these iterators lay and read. -/
def Y0 (t : Nat) : Prop := t = 78 ∨ t = 103 ∨ t = 105 ∨ t = 35 ∨ t = 80 ∨ t = 48

theorem keep_own {β : Type} {B : Nat} {S Y : Nat → Prop} {w : World} (hS : ∀ k, S k → k < w.heap.size) (hB : w.heap.size ≤ B) : OwnFrom B (fun (_ : β) W => Keep S Y w W) := fun _ A A' row h hg hr => by
  have hlt := h.lt hS
  refine h.trans ⟨fun k hk => hg.block k (hlt k hk) (fun e => by have := (hr k e.symm).1; have := hS k hk; omega), fun k c t fr _ hc => (hg.block k (Array.getElem?_eq_some_iff.1 hc).1 (fun e => by
    obtain ⟨_, o, ho, hc'⟩ := hr k e.symm
    rw [hc] at ho; cases ho; cases hc')).trans hc⟩

theorem Turn.below {B : Nat} {Z : TypeId → Prop} {V x : World} (h : Below V.heap.size V x) : Turn B Z V x := ⟨h.os, h.tape, h.output, h.size, fun k _ hs => h.block k hs, fun k _ _ _ hk _ => h.block k (Array.getElem?_eq_some_iff.1 hk).1⟩
theorem keepsFrom_below {B : Nat} {V x : World} (h : Below V.heap.size V x) : KeepsFrom B V x := ⟨h.size, fun k _ _ hk _ => (h.block k (Array.getElem?_eq_some_iff.1 hk).1).trans hk⟩
theorem filter_snoc_no {α : Type} {f : α → Bool} {l : List α} {a : α} (h : f a = false) : (l ++ [a]).filter f = l.filter f := by rw [List.filter_append]; simp [h]

def fdFrame (l bN bt b1 b2 b3 b4 bx g o lp c i0 x0 : Nat) (p : Nat × Stif.Tok) : Act := { tmps := #[.func (.yield l) #[] #[], .pointer (some ⟨bN, 0, none⟩), .pointer (some ⟨b1, 0, none⟩), .pointer (some ⟨b2, 0, none⟩), .func (.func 45) #[] #[.pointer (some ⟨b2, 0, none⟩), .pointer (some ⟨bN, 0, none⟩)], .int .i64 p.1, .pointer (some ⟨bx, 0, none⟩), .pointer (some ⟨bN, 6, none⟩), .slice (some ⟨g, o, none⟩) lp c, .int .i64 (lp : Nat), .func (.func 45) #[] #[.pointer (some ⟨b2, 0, none⟩), .pointer (some ⟨bN, 0, none⟩)], .pointer (some ⟨bN, 2, none⟩), .agg #[.pointer (some ⟨bt, 0, none⟩), .int .i64 i0, .int .i64 x0, .int .i64 0], .func (.func 45) #[] #[.pointer (some ⟨b2, 0, none⟩), .pointer (some ⟨bN, 0, none⟩)], .func (.func 40) #[] #[.pointer (some ⟨b3, 0, none⟩), .pointer (some ⟨b4, 0, none⟩)], .int .i64 p.1, .agg #[.pointer (some ⟨bt, 0, none⟩), .int .i64 p.2.tok, .int .i64 p.2.txt, .int .i64 0], undef, undef, undef, undef, undef, undef, undef, undef, undef, undef, undef, undef, undef, undef, undef, undef, undef, undef, undef, undef, undef, undef, undef], defers := [] }

set_option maxRecDepth 100000 in
set_option maxHeartbeats 2000000 in
theorem fields1_T (B bN bt g : Nat) (Z : TypeId → Prop) (T X : ByteArray) (P : List ByteArray) (nm : ByteArray) (nest : Bool) (pv : Value) (ix : Int) (S : Nat → Prop) (ts : List Stif.Tok) (i0 x0 k0 : Nat) (w : World)
    (hT : T.size ≤ 1048576) (hX : X.size ≤ 1048576) (hSw : ∀ k, S k → k < w.heap.size) (hSN : S bN) (hSt : S bt) (hSg : S g) (htr : IsTree w bt T X) (hN : IsNamed w bN bt nm nest i0 x0 pv ix) (hp : StrRow w pv g P) (hch : Stif.chain T X.size i0 x0 ts T.size X.size) (hbal : Stif.bal k0 ts) :
    SeqT B Z 5 Try.prog 44 #[.pointer (some ⟨bN, 0, none⟩)] (fun x : Of (named X P nm nest ts) => #[.agg #[.pointer (some ⟨bt, 0, none⟩), .int .i64 x.1.2.tok, .int .i64 x.1.2.txt, .int .i64 0]]) (KeepB B S Y0)
      (fun ys => ys.map Subtype.val = named X P nm nest ts) (fun pre => pre.map Subtype.val <+: named X P nm nest ts) (Stif.flds (pathInto X P) 0 0 ts).length w := by
  intro l J Jx W hW hBW hJ hJx hY h0
  have hro : Fence.wide.round = none := rfl
  have hmix : Try.prog.follows .mixedOrders = true := by kernel_rfl
  have hmf : ∀ (fn : Fn) (first cap : Array Value) (w : World), (Instr.makeFunc fn first cap).run Try.prog w = .ok (.func fn first cap) w := fun _ _ _ _ => rfl
  obtain ⟨o, c, rfl, hnc, hcm, hcells⟩ := hp.ex
  have hNW : IsNamed W bN bt nm nest i0 x0 _ ix := hN.of_block (hW.block bN (hSw bN hSN))
  have cN0 := cell_at (i := 0) hNW.blk rfl
  have cN1 := cell_at (i := 1) hNW.blk rfl
  have cN2 := cell_at (i := 2) hNW.blk rfl
  have cN3 := cell_at (i := 3) hNW.blk rfl
  have cN4 := cell_at (i := 4) hNW.blk rfl
  have cN5 := cell_at (i := 5) hNW.blk rfl
  have cN6 := cell_at (i := 6) hNW.blk rfl
  have hbN : bN < W.heap.size := (Array.getElem?_eq_some_iff.1 hNW.blk).1
  refine callsIn_of_wp_marks Try.func44 rfl trivial ?_ hro
  simp only [Try.ntmps44, List.size_toArray, List.length_cons, List.length_nil, Nat.reduceAdd, Nat.reduceSub, Array.replicate_succ, Array.replicate_zero, List.push_toArray, List.append_toArray, List.nil_append, List.cons_append]
  gi_wp2
  refine ⟨trivial, ?_⟩
  gi_at_call 30
  refine (callsIn_wide.2 (walk_any _ _ _ _ _ _ rfl 45 _ rfl _)).mono ?_
  rintro e w' ⟨rfl, rfl⟩
  gi_wp2
  obtain ⟨hA1, hA2, hA3⟩ := allocs_spec [.cells #[.func (.yield l) #[] #[]] 103, .cells #[.int .i64 (P.length : Nat)] 3, .cells #[.pointer (some ⟨bt, 0, none⟩), .int .i64 i0, .int .i64 x0, .int .i64 0] 35, .cells #[.func (.func 45) #[] #[.pointer (some ⟨W.heap.size + 1, 0, none⟩), .pointer (some ⟨bN, 0, none⟩)]] 80] W
  change Code.wpIn Fence.wide 5 Try.prog _ _ _ (allocs W [.cells #[.func (.yield l) #[] #[]] 103, .cells #[.int .i64 (P.length : Nat)] 3, .cells #[.pointer (some ⟨bt, 0, none⟩), .int .i64 i0, .int .i64 x0, .int .i64 0] 35, .cells #[.func (.func 45) #[] #[.pointer (some ⟨W.heap.size + 1, 0, none⟩), .pointer (some ⟨bN, 0, none⟩)]] 80])
  generalize allocs W [.cells #[.func (.yield l) #[] #[]] 103, .cells #[.int .i64 (P.length : Nat)] 3, .cells #[.pointer (some ⟨bt, 0, none⟩), .int .i64 i0, .int .i64 x0, .int .i64 0] 35, .cells #[.func (.func 45) #[] #[.pointer (some ⟨W.heap.size + 1, 0, none⟩), .pointer (some ⟨bN, 0, none⟩)]] 80] = W0 at *
  have f0 : W0.heap[W.heap.size]? = _ := hA3 0
  have f1 : W0.heap[W.heap.size + 1]? = _ := hA3 1
  have f2 : W0.heap[W.heap.size + 1 + 1]? = _ := hA3 2
  have f3 : W0.heap[W.heap.size + 1 + 1 + 1]? = _ := hA3 3
  simp only [List.getElem?_cons_zero, List.getElem?_cons_succ, List.length_cons, List.length_nil] at f0 f1 f2 f3 hA2
  clear hA3
  have o4 : W.heap.size + 1 + 1 + 1 < W0.heap.size := by omega
  have o3 : W.heap.size + 1 + 1 < W0.heap.size := by omega
  have o2 : W.heap.size + 1 < W0.heap.size := by omega
  have o1 : W.heap.size < W0.heap.size := by omega
  have l1 : W.heap.size ≤ W.heap.size + 1 + 1 + 1 := by omega
  have l2 : W.heap.size ≤ W.heap.size + 1 := by omega
  generalize W.heap.size + 1 + 1 + 1 = b4 at *
  generalize W.heap.size + 1 + 1 = b3 at *
  generalize W.heap.size + 1 = b2 at *
  have hBb2 : B ≤ b2 := by omega
  have hWW0 : W.heap.size ≤ W0.heap.size := by omega
  have htr0 : IsTree W0 bt T X := ⟨(hA1.block _ (by have := hSw bt hSt; have := hW.size; omega)).trans ((hW.block _ (hSw bt hSt)).trans htr.blk)⟩
  have hN0 : IsNamed W0 bN bt nm nest i0 x0 (.slice (some ⟨g, o, none⟩) P.length c) ix := hNW.of_block (hA1.block _ hbN)
  have hp0 : StrRow W0 (.slice (some ⟨g, o, none⟩) P.length c) g P := (hp.of_block (hW.block g (hSw g hSg))).of_block (hA1.block g (by have := hSw g hSg; have := hW.size; omega))
  obtain ⟨S', hS'⟩ : ∃ S' : Nat → Prop, S' = fun k => S k ∨ k = W.heap.size ∨ k = b2 ∨ k = b3 ∨ k = b4 := ⟨_, rfl⟩
  have hSS : ∀ k, S k → S' k := fun k h => by rw [hS']; exact .inl h
  have hS1 : S' W.heap.size := by rw [hS']; exact .inr (.inl rfl)
  have hS2 : S' b2 := by rw [hS']; exact .inr (.inr (.inl rfl))
  have hS3 : S' b3 := by rw [hS']; exact .inr (.inr (.inr (.inl rfl)))
  have hS4 : S' b4 := by rw [hS']; exact .inr (.inr (.inr (.inr rfl)))
  have hSw0 : ∀ k, S' k → k < W0.heap.size := fun k h => by
    rw [hS'] at h
    rcases h with h | rfl | rfl | rfl | rfl
    · have := hSw k h; have := hW.size; omega
    all_goals omega
  have hseq := walk1_of (5 - 1) (by omega) b3 b4 bt 45 #[.pointer (some ⟨b2, 0, none⟩), .pointer (some ⟨bN, 0, none⟩)] T X (pathInto X P) S' Y0 (.inl rfl) ts i0 x0 k0 W0 hT hX hSw0 hS3 hS4 (hSS _ hSt) f2 f3 htr0 hch hbal (enters_of Try.func45 (by kernel_rfl) rfl) (fun U d i x t hk ht hn _ =>
    along_any bt b2 bN g T X P nm nest i0 x0 _ ix d i x t U hT hX (htr0.keep hk (hSS _ hSt)) ht hn ((hk.s b2 hS2).trans f1) (hN0.of_block (hk.s bN (hSS _ hSN))) (hp0.of_block (hk.s g (hSS _ hSg))))
  have hJ0 : AbT W0.heap.size Z J := hJ.mono hWW0
  have hJx0 : AbT W0.heap.size Z Jx := hJx.mono hWW0
  refine wpIn_rangeFunc_ownH hro (by omega) (gf := 40) (lb := #[.pointer (some ⟨b3, 0, none⟩), .pointer (some ⟨b4, 0, none⟩)]) rfl trivial (enters_of Try.func40 (by kernel_rfl) rfl)
    hseq Keep.trans (keepK_b hSw0) (Below.refl _ _) (fun _ => rfl)
    (fun pre V => (∃ q : List (Of (named X P nm nest ts)), q.map Subtype.val = (pre.map Subtype.val).filter (fsel X nm nest P.length) ∧ J q V) ∧ Keep S' Y0 W0 V ∧ W0.heap.size ≤ V.heap.size)
    (fun c pre V => c = .ret ∧ ∃ q : List (Of (named X P nm nest ts)), q.map Subtype.val = (pre.map Subtype.val).filter (fsel X nm nest P.length) ∧ Jx q V)
    ?hI ?hIx ?h0
    (fun p a' V => ∃ bx, W0.heap.size ≤ bx ∧ V.heap[bx]? = some (.cells #[.pointer (some ⟨bt, 0, none⟩), .int .i64 p.1.2.tok, .int .i64 p.1.2.txt, .int .i64 0] 78 (0, 0)) ∧ a' = fdFrame l bN bt W.heap.size b2 b3 b4 bx g o P.length c i0 x0 p.1)
    ?hAx ?assign ?body ?done ?stop
  case hI =>
    rintro pre A A' row ⟨⟨q, hq, hj⟩, hk, hs⟩ hg hr
    exact ⟨⟨q, hq, (hJ0.own (Nat.le_refl _)) q A A' row hj hg hr⟩, (keep_own hSw0 (Nat.le_refl _)) () A A' row hk hg hr, Nat.le_trans hs hg.size⟩
  case hIx =>
    rintro c pre A A' row ⟨hc, q, hq, hj⟩ hg hr
    exact ⟨hc, q, hq, (hJx0.own (Nat.le_refl _)) q A A' row hj hg hr⟩
  case h0 => exact ⟨⟨[], rfl, hJ [] W W0 h0 (Turn.grown (row := none) ⟨hA1.os, hA1.tape, hA1.output, hA1.size, fun k hk _ => hA1.block k hk⟩ (fun r e => by cases e))⟩, Keep.refl _ _ _, Nat.le_refl _⟩
  case hAx =>
    rintro p a' _ A A' row ⟨bx, h1, h2, h3⟩ hg hr
    refine ⟨bx, h1, ?_, h3⟩
    rw [hg.block bx (Array.getElem?_eq_some_iff.1 h2).1 (fun e => by
      obtain ⟨_, o, ho, hoc⟩ := hr bx e.symm
      rw [h2] at ho
      cases ho
      simp [Obj.isCells] at hoc)]
    exact h2
  case assign =>
    rintro ll pre p V K ⟨⟨q, hq, hj⟩, hk, hs⟩ hK
    dsimp only [encF]
    gi_wp2
    exact hK _ _ ((KeepsOthers.alloc _ _).from _) (Keep.below ((Below.refl _ _).alloc (Nat.le_refl _) _) (hk.lt hSw0)) ⟨⟨q, hq, (hJ0.own (Nat.le_refl _)).alloc _ hj⟩, hk.trans (Keep.below ((Below.refl _ _).alloc (Nat.le_refl _) _) (hk.lt hSw0)), by rw [World.size_alloc]; omega⟩ ⟨V.heap.size, hs, World.alloc_heap_new V _, rfl⟩
  case body =>
    rintro ll pre p a' V hl ⟨r, hr⟩ ⟨⟨q, hq, hj⟩, hk, hs⟩ ⟨bx, hbx, hB, rfl⟩ hlt
    obtain ⟨ht, hn, hd, hrun⟩ := fld_ok hch p.2
    have htrV := htr0.keep hk (hSS _ hSt)
    have d2 := cell_at (i := 0) ((hk.s b2 hS2).trans f1) rfl
    have d1 := cell_at (i := 0) ((hk.s _ hS1).trans f0) rfl
    have e0 := cell_at (i := 0) ((hk.s bN (hSS _ hSN)).trans hN0.blk) rfl
    have e1 := cell_at (i := 1) ((hk.s bN (hSS _ hSN)).trans hN0.blk) rfl
    have x0' := box4 hB
    obtain ⟨x0', x1', x2', x3'⟩ := x0'
    have hlV := hk.lt hSw0
    have k2 : b2 < V.heap.size := hlV b2 hS2
    have k1 : W.heap.size < V.heap.size := hlV _ hS1
    have kN : bN < V.heap.size := hlV bN (hSS _ hSN)
    have kx : bx < V.heap.size := (Array.getElem?_eq_some_iff.1 hB).1
    have HP : Hid (Stif.tokAt T p.1.2.tok p.1.2.txt = some p.1.2 ∧ p.1.2.txt + p.1.2.n ≤ X.size ∧ IsTree V bt T X) := ⟨ht, hn, htrV⟩
    have HI : Hid (q.map Subtype.val = (pre.map Subtype.val).filter (fsel X nm nest P.length) ∧ J q V ∧ Keep S' Y0 W0 V ∧ W0.heap.size ≤ V.heap.size) := ⟨hq, hj, hk, hs⟩
    have HBX : Hid (V.heap[bx]? = some (.cells #[.pointer (some ⟨bt, 0, none⟩), .int .i64 p.1.2.tok, .int .i64 p.1.2.txt, .int .i64 0] 78 (0, 0))) := hB
    clear ht hn htrV hq hj hk hs hB hseq
    have y1 : ∀ x : Grew V, x.1.cell? ⟨b2, 0, none⟩ = some (.int .i64 (P.length : Nat)) := fun x => x.cell d2
    have y2 : ∀ x : Grew V, x.1.cell? ⟨W.heap.size, 0, none⟩ = some (.func (.yield l) #[] #[]) := fun x => x.cell d1
    have y3 : ∀ x : Grew V, x.1.cell? ⟨bN, 0, none⟩ = some (.string nm) := fun x => x.cell e0
    have y4 : ∀ x : Grew V, x.1.cell? ⟨bN, 1, none⟩ = some (.bool nest) := fun x => x.cell e1
    have y5 : ∀ x : Grew V, x.1.cell? ⟨bx, 0, none⟩ = some (.pointer (some ⟨bt, 0, none⟩)) := fun x => x.cell x0'
    have y6 : ∀ x : Grew V, x.1.cell? ⟨bx, 1, none⟩ = some (.int .i64 p.1.2.tok) := fun x => x.cell x1'
    have y7 : ∀ x : Grew V, x.1.cell? ⟨bx, 2, none⟩ = some (.int .i64 p.1.2.txt) := fun x => x.cell x2'
    have y8 : ∀ x : Grew V, x.1.cell? ⟨bx, 3, none⟩ = some (.int .i64 0) := fun x => x.cell x3'
    have hne : Nonempty (Grew V) := ⟨⟨V, Below.refl _ _⟩⟩
    have hfn : ∀ f, (Fence.wide.inRound ll).fn f := fun _ => trivial
    have skip : ∀ x : Grew V, fsel X nm nest P.length p.1 = false → KeepsFrom W0.heap.size V x.1 ∧ Keep S' Y0 V x.1 ∧ ((∃ q : List (Of (named X P nm nest ts)), q.map Subtype.val = ((pre ++ [p]).map Subtype.val).filter (fsel X nm nest P.length) ∧ J q x.1) ∧ Keep S' Y0 W0 x.1 ∧ W0.heap.size ≤ x.1.heap.size) := fun x hf => by
      obtain ⟨h1, h2, h3, h4⟩ := HI.out
      have hkx : Keep S' Y0 V x.1 := Keep.below x.2 hlV
      exact ⟨keepsFrom_below x.2, hkx, ⟨q, by rw [List.map_append, List.map_singleton, filter_snoc_no hf]; exact h1, hJ q V x.1 h2 (Turn.below x.2)⟩, h3.trans hkx, Nat.le_trans h4 x.2.size⟩
    unfold fdFrame
    by_cases c1 : p.1.1 = P.length
    · have z1 : ((p.1.1 : Int) == (P.length : Int)) = true := by simp [c1]
      have H1 : Hid (p.1.1 = P.length) := c1
      clear c1
      by_cases c2 : (((p.1.2.kind : Int) == 2) == nest) = true
      · by_cases c3 : ((X.extract p.1.2.txt (p.1.2.txt + p.1.2.n)).toList == nm.toList) = true
        · have z3 : ((X.extract p.1.2.txt (p.1.2.txt + p.1.2.n)).toList == nm.toList) = true := c3
          have H3 : Hid (fsel X nm nest P.length p.1 = true) := by show fsel X nm nest P.length p.1 = true; unfold fsel; rw [z3, c2, H1.out]; simp
          clear c3
          gi_wp2
          refine region_mix 20 (by decide) (by kernel_rfl) (noDefer_of (by kernel_rfl)) hmix (by kernel_rfl) ?_
          simp only [List.take_succ_cons, List.take_zero]
          repeat (gi_big_quiet_step (first | (gi_at_call 46; refine (CallsIn.inRound ll (callsIn_wide.2 (nest_any bt T X _ _ p.1.2 _ hT ?_ HP.out.1))).mono ?_; exact ⟨(Subtype.property _ : Below _ _ _).block bt (Array.getElem?_eq_some_iff.1 HP.out.2.2.blk).1 |>.trans HP.out.2.2.blk⟩; rintro e w' ⟨rfl, m0, rfl⟩; exact ⟨rfl, ⟨_, below_drewN ((Subtype.property _ : Below _ _ _).alloc (Subtype.property _ : Below _ _ _).size _) _⟩, rfl⟩) | (gi_at_call 32; refine (CallsIn.inRound ll (callsIn_wide.2 (name_any bt T X _ _ p.1.2 _ hT hX ?_ HP.out.1 HP.out.2.1))).mono ?_; exact ⟨(Subtype.property _ : Below _ _ _).block bt (Array.getElem?_eq_some_iff.1 HP.out.2.2.blk).1 |>.trans HP.out.2.2.blk⟩; rintro e w' ⟨rfl, m0, rfl⟩; exact ⟨rfl, ⟨_, below_drewN ((Subtype.property _ : Below _ _ _).alloc (Subtype.property _ : Below _ _ _).size _) _⟩, rfl⟩)))
          refine wpQuietIn_nil ?_
          rintro _ ⟨x, rfl⟩
          have hgm : p.1 ∈ named X P nm nest ts := List.mem_filter.2 ⟨p.2, H3.out⟩
          have hql : q.length < (Stif.flds (pathInto X P) 0 0 ts).length := by
            have h1 : q.length = ((pre.map Subtype.val).filter (fsel X nm nest P.length)).length := by rw [← HI.out.1, List.length_map]
            have h2 := List.length_filter_le (fsel X nm nest P.length) (pre.map Subtype.val)
            rw [List.length_map] at h2
            omega
          obtain ⟨fn, tmps, assign, body, hy, hR⟩ := yield_deep (m' := 2) (hY q ⟨p.1, hgm⟩ x.1 (hJ q V x.1 HI.out.2.1 (Turn.below x.2)) hql)
          dsimp only at hy
          have gone : ∀ W3, KeepB B S Y0 x.1 W3 → KeepsFrom W0.heap.size V W3 ∧ Keep S' Y0 V W3 := fun W3 hk3 => by
            have hkx : Keep S' Y0 V x.1 := Keep.below x.2 hlV
            have hkV := HI.out.2.2.1
            refine ⟨⟨Nat.le_trans x.2.size hk3.size, fun k ob hB hk ho => hk3.o k ob (by omega) ((x.2.block k (Array.getElem?_eq_some_iff.1 hk).1).trans hk) ho⟩, hkx.trans ⟨fun k hk => ?_, hk3.y⟩⟩
            have c1 := (hkx.s k hk).trans (hkV.s k hk)
            rw [hS'] at hk
            rcases hk with hk | rfl | rfl | rfl | rfl
            · exact hk3.s k hk
            · rw [f0] at c1; rw [c1]; exact hk3.y _ _ _ _ (.inr (.inl rfl)) c1
            · rw [f1] at c1; rw [c1]; exact hk3.i _ _ _ hBb2 c1
            · rw [f2] at c1; rw [c1]; exact hk3.y _ _ _ _ (.inr (.inr (.inr (.inl rfl)))) c1
            · rw [f3] at c1; rw [c1]; exact hk3.y _ _ _ _ (.inr (.inr (.inr (.inr (.inl rfl))))) c1
          have snoc : (q ++ [(⟨p.1, hgm⟩ : Of (named X P nm nest ts))]).map Subtype.val = ((pre ++ [p]).map Subtype.val).filter (fsel X nm nest P.length) := by
            rw [List.map_append, List.map_append, List.filter_append, HI.out.1]
            simp [H3.out]
          refine (show wpAnyIn _ _ _ _ _ _ (2 + 1) _ _ _ from ?_)
          refine wpAnyIn_ready (rs := [20]) (by kernel_rfl) (by simp) (AllReadyIn.cons rfl (fun K hK => ?_) AllReadyIn.nil)
          go_simp
          refine RoundIn.mono (show RoundIn (Fence.wide.inRound ll) 2 _ _ _ _ _ _ _ _ from hR) ?_
          rintro e W3 (⟨rfl, hJ3, hk3⟩ | ⟨rfl, hJx3, hk3⟩)
          · refine hK _ _ ?_
            refine (show wpAnyIn _ _ _ _ _ _ (1 + 1) _ _ _ from ?_)
            refine wpAnyIn_ready (rs := [21]) (by kernel_rfl) (by simp) (AllReadyIn.cons rfl (fun K hK => ?_) AllReadyIn.nil)
            go_simp
            refine hK _ _ ?_
            refine (show wpAnyIn _ _ _ _ _ _ (0 + 1) _ _ _ from ?_)
            refine wpAnyIn_ready (rs := [22]) (by kernel_rfl) (by simp) (AllReadyIn.cons rfl (fun K hK => ?_) AllReadyIn.nil)
            go_simp
            refine hK _ _ ?_
            refine wpAnyIn_done (by kernel_rfl) ?_ _
            gi_wp2
            obtain ⟨g1, g2⟩ := gone W3 hk3
            exact ⟨g1, g2, ⟨_, snoc, hJ3⟩, HI.out.2.2.1.trans g2, Nat.le_trans HI.out.2.2.2 g1.size⟩
          · refine hK _ _ ?_
            refine (show wpAnyIn _ _ _ _ _ _ (1 + 1) _ _ _ from ?_)
            refine wpAnyIn_ready (rs := [21]) (by kernel_rfl) (by simp) (AllReadyIn.cons rfl (fun K hK => ?_) AllReadyIn.nil)
            go_simp
            refine hK _ _ ?_
            refine (show wpAnyIn _ _ _ _ _ _ (0 + 1) _ _ _ from ?_)
            refine wpAnyIn_ready (rs := [22]) (by kernel_rfl) (by simp) (AllReadyIn.cons rfl (fun K hK => ?_) AllReadyIn.nil)
            go_simp
            refine hK _ _ ?_
            refine wpAnyIn_done (by kernel_rfl) ?_ _
            gi_wp2
            obtain ⟨g1, g2⟩ := gone W3 hk3
            exact ⟨g1, rfl, _, snoc, hJx3⟩
        · have z3 : ((X.extract p.1.2.txt (p.1.2.txt + p.1.2.n)).toList == nm.toList) = false := by simpa using c3
          have H3 : Hid (fsel X nm nest P.length p.1 = false) := by show fsel X nm nest P.length p.1 = false; unfold fsel; rw [z3]; simp
          clear c3
          gi_wp2
          refine region_grew (noDefer_of (by kernel_rfl)) hmix (by kernel_rfl) ?_
          repeat (gi_big_quiet_step (first | (gi_at_call 46; refine (CallsIn.inRound ll (callsIn_wide.2 (nest_any bt T X _ _ p.1.2 _ hT ?_ HP.out.1))).mono ?_; exact ⟨(Subtype.property _ : Below _ _ _).block bt (Array.getElem?_eq_some_iff.1 HP.out.2.2.blk).1 |>.trans HP.out.2.2.blk⟩; rintro e w' ⟨rfl, m0, rfl⟩; exact ⟨rfl, ⟨_, below_drewN ((Subtype.property _ : Below _ _ _).alloc (Subtype.property _ : Below _ _ _).size _) _⟩, rfl⟩) | (gi_at_call 32; refine (CallsIn.inRound ll (callsIn_wide.2 (name_any bt T X _ _ p.1.2 _ hT hX ?_ HP.out.1 HP.out.2.1))).mono ?_; exact ⟨(Subtype.property _ : Below _ _ _).block bt (Array.getElem?_eq_some_iff.1 HP.out.2.2.blk).1 |>.trans HP.out.2.2.blk⟩; rintro e w' ⟨rfl, m0, rfl⟩; exact ⟨rfl, ⟨_, below_drewN ((Subtype.property _ : Below _ _ _).alloc (Subtype.property _ : Below _ _ _).size _) _⟩, rfl⟩)))
          refine wpQuietIn_nil ?_
          rintro _ ⟨x, rfl⟩
          gi_wp2
          exact skip x H3.out
      · have z2 : (((p.1.2.kind : Int) == 2) == nest) = false := by simpa using c2
        have H3 : Hid (fsel X nm nest P.length p.1 = false) := by show fsel X nm nest P.length p.1 = false; unfold fsel; rw [z2]; simp
        clear c2
        gi_wp2
        refine region_grew (noDefer_of (by kernel_rfl)) hmix (by kernel_rfl) ?_
        repeat (gi_big_quiet_step ((gi_at_call 46; refine (CallsIn.inRound ll (callsIn_wide.2 (nest_any bt T X _ _ p.1.2 _ hT ?_ HP.out.1))).mono ?_; exact ⟨(Subtype.property _ : Below _ _ _).block bt (Array.getElem?_eq_some_iff.1 HP.out.2.2.blk).1 |>.trans HP.out.2.2.blk⟩; rintro e w' ⟨rfl, m0, rfl⟩; exact ⟨rfl, ⟨_, below_drewN ((Subtype.property _ : Below _ _ _).alloc (Subtype.property _ : Below _ _ _).size _) _⟩, rfl⟩)))
        refine wpQuietIn_nil ?_
        rintro _ ⟨x, rfl⟩
        gi_wp2
        exact skip x H3.out
    · have z1 : ((p.1.1 : Int) == (P.length : Int)) = false := by rw [beq_eq_false_iff_ne]; omega
      have H3 : Hid (fsel X nm nest P.length p.1 = false) := by show fsel X nm nest P.length p.1 = false; unfold fsel; simp [c1]
      clear c1
      gi_wp2
      refine region_grew (noDefer_of (by kernel_rfl)) hmix (by kernel_rfl) ?_
      repeat (gi_big_quiet_step (fail))
      refine wpQuietIn_nil ?_
      rintro _ ⟨x, rfl⟩
      gi_wp2
      exact skip x H3.out
  case done =>
    rintro D ys V hD hys ⟨⟨q, hq, hj⟩, hk, hs⟩ hK
    gi_wp2
    refine ⟨by simp, .inl ⟨_, _, rfl, run_takeDeferred hK, ?_⟩⟩
    exact ⟨_, results_none rfl _ _ _, ⟨_, rfl⟩, .inl ⟨q, by rw [hq, hys]; rfl, (hJ0.own (Nat.le_refl _)).putObj _ hj hD hK rfl⟩⟩
  case stop =>
    rintro D c pre V hD hpre ⟨rfl, q, hq, hj⟩ hK
    gi_wp2
    refine ⟨by simp, .inl ⟨_, _, rfl, run_takeDeferred hK, ?_⟩⟩
    exact ⟨_, results_none rfl _ _ _, ⟨_, rfl⟩, .inr ⟨q, by rw [hq]; exact hpre.filter _, (hJx0.own (Nat.le_refl _)).putObj _ hj hD hK rfl⟩⟩
end Go.Proofs.Qxb6618677a
