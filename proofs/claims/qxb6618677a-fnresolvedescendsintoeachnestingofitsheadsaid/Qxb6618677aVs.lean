/-
  (Named).Values$1: what it yields, by its contract.
-/
import Derived.Test.Qxb6618677aVs0
namespace Go.Proofs.Qxb6618677a
open Go.RowKit Go.Shelf
attribute [local go_sem] Oper.semAt_some

def Z3 (t : TypeId) : Prop := t = 3

set_option maxRecDepth 100000 in
theorem namedFields_any (a b c d e f g h : Value) (w : World) :
    Calls Try.prog 35 #[.agg #[a, b, c, d, e, f, g, h]] w fun r w' => r = .returned (.func (.func 44) #[] #[.pointer (some ⟨w.heap.size, 0, none⟩)]) ∧ w' = w.alloc (.cells #[a, b, c, d, e, f, g, h] 48) := by
  go_enter Try.func35, Try.ntmps35
  go_wp2
  go_ret
  exact ⟨rfl, rfl⟩

theorem picks_zero (a : List ByteArray) : picks 0 a = a := by simp [picks]
theorem picks_pre {ix : Int} {a b : List ByteArray} (h0 : ix ≠ 0) (h : 1 ≤ ix ∧ ix ≤ (a.length : Int)) (hab : a <+: b) : picks ix b = picks ix a := by
  obtain ⟨c, rfl⟩ := hab
  unfold picks
  rw [if_neg h0, if_neg h0, if_pos h.1, if_pos h.1, List.drop_append_of_le_length (by omega), List.take_append_of_le_length (by rw [List.length_drop]; omega)]

/-- In the midst: the values of L have been met, the picked one is not among them. -/
structure VS (J : List ByteArray → World → Prop) (ix : Int) (b2 : Nat) (S' : Nat → Prop) (W0 V : World) (L : List ByteArray) : Prop where
  j : J (sofar ix L) V
  cnt : V.heap[b2]? = some (.cells #[.int .i64 (L.length : Nat)] 3 (0, 0))
  no : ix ≠ 0 → ¬ (1 ≤ ix ∧ ix ≤ (L.length : Int))
  keep : Keep S' Y0 W0 V
  size : W0.heap.size ≤ V.heap.size
/-- It has stopped at the last of L. -/
def VX (J Jx : List ByteArray → World → Prop) (ix : Int) (V : World) (L : List ByteArray) : Prop :=
  (∃ q, Jx q V ∧ ((ix = 0 ∧ q <+: L) ∨ (ix ≠ 0 ∧ (1 ≤ ix ∧ ix ≤ (L.length : Int)) ∧ q <+: picks ix L))) ∨ (ix ≠ 0 ∧ (1 ≤ ix ∧ ix ≤ (L.length : Int)) ∧ J (picks ix L) V)

theorem turn_keep {B : Nat} {S' : Nat → Prop} {A A' : World} (hS : ∀ k, S' k → k < B) (ht : Turn B Z3 A A') (hA : ∀ k, S' k → k < A.heap.size) : Keep S' Y0 A A' :=
  ⟨fun k hk => ht.low k (hS k hk) (hA k hk), fun k c t fr hY hc => (ht.high k c t fr hc (fun h => by cases h; rcases hY with h | h | h | h | h | h <;> cases h)).trans hc⟩
theorem VX.turn {J Jx : List ByteArray → World → Prop} {ix : Int} {A A' : World} {L : List ByteArray} {B : Nat} (h : VX J Jx ix A L) (hJ : AbT B Z3 J) (hJx : AbT B Z3 Jx) (ht : Turn B Z3 A A') : VX J Jx ix A' L := by
  rcases h with ⟨q, h1, h2⟩ | ⟨h1, h2, h3⟩
  · exact .inl ⟨q, hJx _ _ _ h1 ht, h2⟩
  · exact .inr ⟨h1, h2, hJ _ _ _ h3 ht⟩

theorem sofar_picks {ix : Int} {L : List ByteArray} (no : ix ≠ 0 → ¬ (1 ≤ ix ∧ ix ≤ (L.length : Int))) : sofar ix L = picks ix L := by
  by_cases h : ix = 0
  · subst h; simp [sofar, picks]
  · rw [picks_miss h (no h)]; simp [sofar, h]
theorem allv_pre {X : ByteArray} {ts : List Stif.Tok} {a b : List (Nat × Stif.Tok)} (h : a <+: b) : allv X ts a <+: allv X ts b := by
  obtain ⟨c, rfl⟩ := h
  exact ⟨allv X ts c, by simp [allv]⟩
theorem allv_snoc (X : ByteArray) (ts : List Stif.Tok) (a : List (Nat × Stif.Tok)) (p : Nat × Stif.Tok) : allv X ts (a ++ [p]) = allv X ts a ++ fvals X ts p := by simp [allv]
theorem VX.longer {J Jx : List ByteArray → World → Prop} {ix : Int} {V : World} {L L' : List ByteArray} (h : VX J Jx ix V L) (hl : L <+: L') : VX J Jx ix V L' := by
  have hlen := hl.length_le
  rcases h with ⟨q, h1, ⟨h2, h3⟩ | ⟨h2, h3, h4⟩⟩ | ⟨h1, h2, h3⟩
  · exact .inl ⟨q, h1, .inl ⟨h2, h3.trans hl⟩⟩
  · exact .inl ⟨q, h1, .inr ⟨h2, ⟨h3.1, by omega⟩, by rw [picks_pre h2 h3 hl]; exact h4⟩⟩
  · exact .inr ⟨h1, ⟨h2.1, by omega⟩, by rw [picks_pre h1 h2 hl]; exact h3⟩
theorem VS.turn {J : List ByteArray → World → Prop} {ix : Int} {b2 B : Nat} {S' : Nat → Prop} {W0 A A' : World} {L : List ByteArray} (h : VS J ix b2 S' W0 A L) (hJ : AbT B Z3 J) (hb : b2 < B) (hS : ∀ k, S' k → k < W0.heap.size) (hB : W0.heap.size ≤ B) (ht : Turn B Z3 A A') : VS J ix b2 S' W0 A' L :=
  ⟨hJ _ _ _ h.j ht, (ht.low b2 hb (Array.getElem?_eq_some_iff.1 h.cnt).1).trans h.cnt, h.no, h.keep.trans (turn_keep (fun k hk => Nat.lt_of_lt_of_le (hS k hk) hB) ht (h.keep.lt hS)), Nat.le_trans h.size ht.size⟩
theorem VS.below {J : List ByteArray → World → Prop} {ix : Int} {b2 : Nat} {S' : Nat → Prop} {W0 A A' : World} {L : List ByteArray} (h : VS J ix b2 S' W0 A L) (hJ : AbT W0.heap.size Z3 J) (hb : b2 < W0.heap.size) (hS : ∀ k, S' k → k < W0.heap.size) (hA : Below A.heap.size A A') : VS J ix b2 S' W0 A' L :=
  h.turn hJ hb hS (Nat.le_refl _) (Turn.below hA)
theorem keepB_turn {B' C : Nat} {S' : Nat → Prop} {V A A' : World} (h : KeepB B' S' Y0 V A) (hC : V.heap.size ≤ C) (hS : ∀ k, S' k → k < V.heap.size) (ht : Turn C Z3 A A') : KeepB B' S' Y0 V A' := by
  have hs := h.size
  have e : ∀ k, k < V.heap.size → A'.heap[k]? = A.heap[k]? := fun k hk => ht.low k (by omega) (by omega)
  exact ⟨Nat.le_trans hs ht.size, fun k hk => (e k (hS k hk)).trans (h.s k hk), fun k c t fr hy hc => (e k (Array.getElem?_eq_some_iff.1 hc).1).trans (h.y k c t fr hy hc),
    fun k c fr hB hc => (e k (Array.getElem?_eq_some_iff.1 hc).1).trans (h.i k c fr hB hc), fun k ob hB hc ho => (e k (Array.getElem?_eq_some_iff.1 hc).1).trans (h.o k ob hB hc ho)⟩
theorem keepsFrom_turn {B' C : Nat} {V A A' : World} (h : KeepsFrom B' V A) (hC : V.heap.size ≤ C) (ht : Turn C Z3 A A') : KeepsFrom B' V A' := by
  have hs := h.size
  exact ⟨Nat.le_trans hs ht.size, fun k o hB hc ho => (ht.low k (by have := (Array.getElem?_eq_some_iff.1 hc).1; omega) (by have := (Array.getElem?_eq_some_iff.1 hc).1; omega)).trans (h.same k o hB hc ho)⟩
theorem keepsFrom_mono {B B' : Nat} {V A : World} (h : KeepsFrom B V A) (hB : B ≤ B') : KeepsFrom B' V A := ⟨h.size, fun k o hk hc ho => h.same k o (by omega) hc ho⟩

theorem set_blk {U : World} {b2 : Nat} {u v : Value} {t : TypeId} (h : U.heap[b2]? = some (.cells #[u] t (0, 0))) : (U.setCell ⟨b2, 0, none⟩ v).heap[b2]? = some (.cells #[v] t (0, 0)) := by
  simp [World.setCell, Array.getElem?_modify, h]
theorem set_turn {U : World} {b2 B : Nat} {u v : Value} (h : U.heap[b2]? = some (.cells #[u] 3 (0, 0))) (hB : B ≤ b2) : Turn B Z3 U (U.setCell ⟨b2, 0, none⟩ v) :=
  ⟨rfl, rfl, rfl, by simp [World.setCell], fun k hk _ => Below.heap_setCell _ _ _ _ (by simp; omega), fun k c t f hk hz => Below.heap_setCell _ _ _ _ (by
    intro e
    simp only at e
    subst e
    rw [h] at hk
    cases hk
    exact hz rfl)⟩
theorem set_keepB {U : World} {b2 B' : Nat} {S' : Nat → Prop} {u v : Value} (h : U.heap[b2]? = some (.cells #[u] 3 (0, 0))) (hB : b2 < B') (hS : ¬ S' b2) : KeepB B' S' Y0 U (U.setCell ⟨b2, 0, none⟩ v) := by
  have e : ∀ k, k ≠ b2 → (U.setCell ⟨b2, 0, none⟩ v).heap[k]? = U.heap[k]? := fun k hk => Below.heap_setCell _ _ _ _ (by simpa using hk)
  refine ⟨by simp [World.setCell], fun k hk => e k (fun h' => hS (h' ▸ hk)), fun k c t fr hy hc => (e k (fun h' => ?_)).trans hc, fun k c fr hk hc => (e k (by omega)).trans hc, fun k ob hk hc ho => (e k (by omega)).trans hc⟩
  subst h'
  rw [h] at hc
  cases hc
  rcases hy with h | h | h | h | h | h <;> cases h
theorem set_keepsFrom {U : World} {b2 B' : Nat} {u v : Value} (h : U.heap[b2]? = some (.cells #[u] 3 (0, 0))) : KeepsFrom B' U (U.setCell ⟨b2, 0, none⟩ v) :=
  ⟨by simp [World.setCell], fun k o _ hk ho => (Below.heap_setCell _ _ _ _ (by
    intro e
    simp only at e
    subst e
    rw [h] at hk
    cases hk
    cases ho)).trans hk⟩

theorem frozen_at0 {w : World} {k : Nat} {c : Array Value} {t : TypeId} (h : w.heap[k]? = some (.cells c t (0, 0))) : w.frozen? ⟨k, 0, none⟩ = false := by
  simp [World.frozen?, h]
theorem flds_len {T X : ByteArray} {i0 x0 : Nat} {ts : List Stif.Tok} {into : Nat → Stif.Tok → Bool} (hT : T.size ≤ 1048576) (hch : Stif.chain T X.size i0 x0 ts T.size X.size) : (Stif.flds into 0 0 ts).length ≤ 1048576 := by
  have h := into_every (av := X ++ ⟨#[33]⟩) (md := (T.size : Int) + 1) (by rw [ByteArray.size_append]; show X.size < X.size + 1; omega) (by omega) hch
  have h4 := (Stif.flds_sub into _ ts 0 0 h).length_le
  rw [show (0 + 0 : Nat) = 0 from rfl, flds_every (by rw [ByteArray.size_append]; show X.size < X.size + 1; omega) (by omega) hch] at h4
  have := allF_len hch
  omega

def vsFrame (l bN b1 b2 b3 bt bx i0 x0 : Nat) (nm : ByteArray) (nest : Bool) (pv : Value) (ix : Int) (p : Nat × Stif.Tok) : Act := { tmps := #[.func (.yield l) #[] #[], .pointer (some ⟨bN, 0, none⟩), .pointer (some ⟨b1, 0, none⟩), .pointer (some ⟨b2, 0, none⟩), .pointer (some ⟨bx, 0, none⟩), undef,
  .agg #[.string nm, .bool nest, .pointer (some ⟨bt, 0, none⟩), .int .i64 i0, .int .i64 x0, .int .i64 0, pv, .int .i64 ix], .func (.func 44) #[] #[.pointer (some ⟨b3, 0, none⟩)], .agg #[.pointer (some ⟨bt, 0, none⟩), .int .i64 p.2.tok, .int .i64 p.2.txt, .int .i64 0],
  undef, undef, undef, undef, undef, undef, undef, undef, undef, undef, undef, undef, undef, undef, undef, undef, undef, undef, undef, undef, undef], defers := [] }

def vsFrame2 (l bN b1 b2 b3 bt bx by' i0 x0 : Nat) (nm : ByteArray) (nest : Bool) (pv : Value) (ix : Int) (p : Nat × Stif.Tok) (v : ByteArray) : Act := { tmps := #[.func (.yield l) #[] #[], .pointer (some ⟨bN, 0, none⟩), .pointer (some ⟨b1, 0, none⟩), .pointer (some ⟨b2, 0, none⟩), .pointer (some ⟨bx, 0, none⟩), .string v,
  .agg #[.string nm, .bool nest, .pointer (some ⟨bt, 0, none⟩), .int .i64 i0, .int .i64 x0, .int .i64 0, pv, .int .i64 ix], .func (.func 44) #[] #[.pointer (some ⟨b3, 0, none⟩)], .agg #[.pointer (some ⟨bt, 0, none⟩), .int .i64 p.2.tok, .int .i64 p.2.txt, .int .i64 0],
  .agg #[.pointer (some ⟨bt, 0, none⟩), .int .i64 p.2.tok, .int .i64 p.2.txt, .int .i64 0], .func (.func 52) #[] #[.pointer (some ⟨by', 0, none⟩)], .string v, undef, undef, undef, undef, undef, undef, undef, undef, undef, undef, undef, undef, undef, undef, undef, undef, undef, undef], defers := [] }

set_option maxRecDepth 100000 in
set_option maxHeartbeats 2000000 in
theorem values1_T (B bN bt g : Nat) (T X : ByteArray) (P : List ByteArray) (nm : ByteArray) (nest : Bool) (pv : Value) (ix : Int) (S : Nat → Prop) (ts : List Stif.Tok) (i0 x0 k0 : Nat) (w : World)
    (hT : T.size ≤ 1048576) (hX : X.size ≤ 1048576) (hSw : ∀ k, S k → k < w.heap.size) (hSN : S bN) (hSt : S bt) (hSg : S g) (htr : IsTree w bt T X) (hN : IsNamed w bN bt nm nest i0 x0 pv ix) (hp : StrRow w pv g P) (hch : Stif.chain T X.size i0 x0 ts T.size X.size) (hbal : Stif.bal k0 ts) :
    SeqT B Z3 7 Try.prog 47 #[.pointer (some ⟨bN, 0, none⟩)] (fun v : ByteArray => #[.string v]) (KeepB B S Y0)
      (fun ys => ys = picks ix (allv X ts (named X P nm nest ts))) (fun pre => pre <+: picks ix (allv X ts (named X P nm nest ts))) 2199023255552 w := by
  intro l J Jx W hW hBW hJ hJx hY h0
  have hro : Fence.wide.round = none := rfl
  have hNW : IsNamed W bN bt nm nest i0 x0 _ ix := hN.of_block (hW.block bN (hSw bN hSN))
  have cN0 := cell_at (i := 0) hNW.blk rfl
  have cN1 := cell_at (i := 1) hNW.blk rfl
  have cN2 := cell_at (i := 2) hNW.blk rfl
  have cN3 := cell_at (i := 3) hNW.blk rfl
  have cN4 := cell_at (i := 4) hNW.blk rfl
  have cN5 := cell_at (i := 5) hNW.blk rfl
  have cN6 := cell_at (i := 6) hNW.blk rfl
  have cN7 := cell_at (i := 7) hNW.blk rfl
  have hbN : bN < W.heap.size := (Array.getElem?_eq_some_iff.1 hNW.blk).1
  refine callsIn_of_wp_marks Try.func47 rfl trivial ?_ hro
  simp only [Try.ntmps47, List.size_toArray, List.length_cons, List.length_nil, Nat.reduceAdd, Nat.reduceSub, Array.replicate_succ, Array.replicate_zero, List.push_toArray, List.append_toArray, List.nil_append, List.cons_append]
  gi_wp2
  refine ⟨trivial, ?_⟩
  gi_at_call 35
  refine (callsIn_wide.2 (namedFields_any _ _ _ _ _ _ _ _ _)).mono ?_
  rintro e w' ⟨rfl, rfl⟩
  gi_wp2
  clear cN0 cN1 cN2 cN3 cN4 cN5 cN6 cN7
  obtain ⟨hA1, hA2, hA3⟩ := allocs_spec [.cells #[.func (.yield l) #[] #[]] 105, .cells #[.int .i64 0] 3, .cells #[.string nm, .bool nest, .pointer (some ⟨bt, 0, none⟩), .int .i64 i0, .int .i64 x0, .int .i64 0, pv, .int .i64 ix] 48] W
  change Code.wpIn Fence.wide 7 Try.prog _ _ _ (allocs W [.cells #[.func (.yield l) #[] #[]] 105, .cells #[.int .i64 0] 3, .cells #[.string nm, .bool nest, .pointer (some ⟨bt, 0, none⟩), .int .i64 i0, .int .i64 x0, .int .i64 0, pv, .int .i64 ix] 48])
  generalize allocs W [.cells #[.func (.yield l) #[] #[]] 105, .cells #[.int .i64 0] 3, .cells #[.string nm, .bool nest, .pointer (some ⟨bt, 0, none⟩), .int .i64 i0, .int .i64 x0, .int .i64 0, pv, .int .i64 ix] 48] = W0 at *
  have f0 : W0.heap[W.heap.size]? = _ := hA3 0
  have f1 : W0.heap[W.heap.size + 1]? = _ := hA3 1
  have f2 : W0.heap[W.heap.size + 1 + 1]? = _ := hA3 2
  simp only [List.getElem?_cons_zero, List.getElem?_cons_succ, List.length_cons, List.length_nil] at f0 f1 f2 hA2
  clear hA3
  have o3 : W.heap.size + 1 + 1 < W0.heap.size := by omega
  have o2 : W.heap.size + 1 < W0.heap.size := by omega
  have o1 : W.heap.size < W0.heap.size := by omega
  have hlb2 : W.heap.size ≤ W.heap.size + 1 := by omega
  have n21 : W.heap.size + 1 ≠ W.heap.size := by omega
  have n23 : W.heap.size + 1 ≠ W.heap.size + 1 + 1 := by omega
  have n2S : ∀ k, S k → k ≠ W.heap.size + 1 := fun k hk => by have := hSw k hk; have := hW.size; omega
  generalize W.heap.size + 1 + 1 = b3 at *
  generalize W.heap.size + 1 = b2 at *
  have hWW0 : W.heap.size ≤ W0.heap.size := by omega
  have hSwW : ∀ k, S k → k < W.heap.size := fun k h => by have := hSw k h; have := hW.size; omega
  have htr0 : IsTree W0 bt T X := ⟨(hA1.block _ (hSwW bt hSt)).trans ((hW.block _ (hSw bt hSt)).trans htr.blk)⟩
  have hN0 : IsNamed W0 bN bt nm nest i0 x0 pv ix := hNW.of_block (hA1.block _ hbN)
  have hN3 : IsNamed W0 b3 bt nm nest i0 x0 pv ix := ⟨f2⟩
  have hp0 : StrRow W0 pv g P := (hp.of_block (hW.block g (hSw g hSg))).of_block (hA1.block g (hSwW g hSg))
  obtain ⟨S', hS'⟩ : ∃ S' : Nat → Prop, S' = fun k => S k ∨ k = W.heap.size ∨ k = b3 := ⟨_, rfl⟩
  have hSS : ∀ k, S k → S' k := fun k h => by rw [hS']; exact .inl h
  have hS1 : S' W.heap.size := by rw [hS']; exact .inr (.inl rfl)
  have hS3 : S' b3 := by rw [hS']; exact .inr (.inr rfl)
  have hS2 : ¬ S' b2 := fun h => by
    rw [hS'] at h
    rcases h with h | h | h
    · exact n2S b2 h rfl
    · exact n21 h
    · exact n23 h
  have hSw0 : ∀ k, S' k → k < W0.heap.size := fun k h => by
    rw [hS'] at h
    rcases h with h | rfl | rfl
    · have := hSwW k h; omega
    all_goals omega
  have hseq := (fields1_T (W0.heap.size + 2) b3 bt g Z3 T X P nm nest pv ix S' ts i0 x0 k0 W0 hT hX hSw0 hS3 (hSS _ hSt) (hSS _ hSg) htr0 hN3 hp0 hch hbal).deep (7 - 1)
  have hJ0 : AbT W0.heap.size Z3 J := hJ.mono hWW0
  have hJx0 : AbT W0.heap.size Z3 Jx := hJx.mono hWW0
  refine over_T (gf := 44) (lb := #[.pointer (some ⟨b3, 0, none⟩)]) (Z := Z3) rfl (enters_of Try.func44 (by kernel_rfl) rfl) hseq KeepB.trans ?hKb (Below.refl _ _) (fun _ => rfl)
    (fun pre V => VS J ix b2 S' W0 V (allv X ts (pre.map Subtype.val)))
    (fun c pre V => c = .ret ∧ VX J Jx ix V (allv X ts (pre.map Subtype.val)))
    ?hI ?hIx ?h0
    (fun p a' V => ∃ bx, W0.heap.size ≤ bx ∧ V.heap[bx]? = some (.cells #[.pointer (some ⟨bt, 0, none⟩), .int .i64 p.1.2.tok, .int .i64 p.1.2.txt, .int .i64 0] 78 (0, 0)) ∧ a' = vsFrame l bN W.heap.size b2 b3 bt bx i0 x0 nm nest pv ix p.1)
    ?hAx ?assign ?body ?done ?stop
  case hKb => exact fun V o o' ho hc => KeepB.putObj o' (by omega) (fun h => by have := hSw0 _ h; omega) ho hc
  case hI => exact fun pre A A' hs ht => ⟨hJ0 _ A A' hs.j ht, (ht.low b2 o2 (Array.getElem?_eq_some_iff.1 hs.cnt).1).trans hs.cnt, hs.no, hs.keep.trans (turn_keep hSw0 ht (hs.keep.lt hSw0)), Nat.le_trans hs.size ht.size⟩
  case hIx => exact fun c pre A A' ⟨hc, hx⟩ ht => ⟨hc, hx.turn hJ0 hJx0 ht⟩
  case h0 => exact ⟨by simpa [allv, sofar] using hJ [] W W0 h0 (Turn.below hA1), by simpa [allv] using f1, fun _ h => by simp [allv] at h; omega, Keep.refl _ _ _, Nat.le_refl _⟩
  case hAx =>
    rintro p a' _ A A' row ⟨bx, h1, h2, h3⟩ hg hr
    refine ⟨bx, h1, ?_, h3⟩
    rw [hg.block bx (Array.getElem?_eq_some_iff.1 h2).1 (fun e => by
      obtain ⟨_, o, ho, hoc⟩ := hr bx e.symm
      rw [h2] at ho
      cases ho
      simp [Obj.isCells] at hoc)]
    exact h2
  case assign =>
    rintro ll pre p V K hv hK
    gi_wp2
    exact hK _ _ ((KeepsOthers.alloc _ _).from _) (KeepB.below ((Below.refl _ _).alloc (Nat.le_refl _) _) (hv.keep.lt hSw0)) (hv.below hJ0 o2 hSw0 ((Below.refl _ _).alloc (Nat.le_refl _) _)) ⟨V.heap.size, hv.size, World.alloc_heap_new V _, rfl⟩
  case body =>
    rintro ll pre p a' V hl ⟨r, hr⟩ hv ⟨bx, hbx, hB, rfl⟩ hlt
    obtain ⟨ht, hn, hd, hrun⟩ := fld_ok hch (List.mem_filter.1 p.2).1
    have hmem := Stif.runN_mem ts 0 p.1 hrun
    have hch' := tail_split hch hmem
    obtain ⟨x0', x1', x2', x3'⟩ := box4 hB
    have hfn : ∀ f, (Fence.wide.inRound ll).fn f := fun _ => trivial
    unfold vsFrame
    gi_wp2
    gi_at_call 48
    refine (CallsIn.inRound ll (callsIn_wide.2 (fvalues_any _ _ _ _ _))).mono ?_
    rintro e w' ⟨rfl, rfl⟩
    gi_wp2
    have hV1 : Below V.heap.size V (V.alloc (.cells #[.pointer (some ⟨bt, 0, none⟩), .int .i64 p.1.2.tok, .int .i64 p.1.2.txt, .int .i64 0] 78)) := (Below.refl _ _).alloc (Nat.le_refl _) _
    have hbv := World.alloc_heap_new V (.cells #[.pointer (some ⟨bt, 0, none⟩), .int .i64 p.1.2.tok, .int .i64 p.1.2.txt, .int .i64 0] 78)
    have hsz1 : V.heap.size < (V.alloc (.cells #[.pointer (some ⟨bt, 0, none⟩), .int .i64 p.1.2.tok, .int .i64 p.1.2.txt, .int .i64 0] 78)).heap.size := by simp
    generalize (V.alloc (.cells #[.pointer (some ⟨bt, 0, none⟩), .int .i64 p.1.2.tok, .int .i64 p.1.2.txt, .int .i64 0] 78)) = V1 at *
    have hv1 := hv.below hJ0 o2 hSw0 hV1
    have hSV : ∀ k, S' k → k < V.heap.size := hv.keep.lt hSw0
    have hr1 : V1.heap[ll]? = some (.loop r) := (hV1.block ll (Array.getElem?_eq_some_iff.1 hr).1).trans hr
    obtain ⟨S2, hS2'⟩ : ∃ S2 : Nat → Prop, S2 = fun k => S' k ∨ k = V.heap.size := ⟨_, rfl⟩
    have hS2w : ∀ k, S2 k → k < V1.heap.size := fun k hk => by
      rw [hS2'] at hk
      rcases hk with hk | rfl
      · have := hSV k hk; omega
      · exact hsz1
    have hseq2 := (fval_stops (5 - 1) V.heap.size bt T X S2 Y0 p.1.2 (tailOf ts p.1.2) V1 hT hX hS2w (by rw [hS2']; exact .inr rfl) (by rw [hS2']; exact .inl (hSS _ hSt)) hbv (htr0.keep hv1.keep (hSS _ hSt)) ht hn hch').inRound ll
    refine wpIn_rangeFunc_ownN (l₀ := ll) rfl hr1 (by omega) (gf := 52) (lb := #[.pointer (some ⟨V.heap.size, 0, none⟩)]) rfl (hfn 52) (enters_of Try.func52 (by kernel_rfl) rfl) hseq2 Keep.trans (keepK_b hS2w) (Below.refl _ _) (fun _ => rfl)
      (fun pre' U => VS J ix b2 S' W0 U (allv X ts (pre.map Subtype.val) ++ pre') ∧ KeepB (W0.heap.size + 2) S' Y0 V U ∧ KeepsFrom W0.heap.size V U ∧ Keep S2 Y0 V1 U ∧ V1.heap.size ≤ U.heap.size)
      (fun c pre' U => c = .ret ∧ VX J Jx ix U (allv X ts (pre.map Subtype.val) ++ pre') ∧ KeepB (W0.heap.size + 2) S' Y0 V U ∧ KeepsFrom W0.heap.size V U)
      ?hI2 ?hIx2 ?h02
      (fun v a' _ => a' = vsFrame2 l bN W.heap.size b2 b3 bt bx V.heap.size i0 x0 nm nest pv ix p.1 v)
      (fun _ _ _ _ _ _ hs _ _ => hs) ?assign2 ?body2 ?done2 ?stop2
    case hI2 =>
      rintro pre' A A' row ⟨k1, k2, k3, k4, k5⟩ hg hr
      have ht := Turn.grown (Z := Z3) hg hr
      exact ⟨k1.turn (hJ0.mono (by have := hv.size; omega)) (by have := hv.size; omega) hSw0 (by have := hv.size; omega) ht, keepB_turn k2 (by omega) hSV ht, keepsFrom_turn k3 (by omega) ht, (keep_own hS2w (Nat.le_refl _)) () A A' row k4 hg hr, Nat.le_trans k5 hg.size⟩
    case hIx2 =>
      rintro c pre' A A' row ⟨k0, k1, k2, k3⟩ hg hr
      have ht := Turn.grown (Z := Z3) hg hr
      exact ⟨k0, k1.turn (hJ0.mono (by have := hv.size; omega)) (hJx0.mono (by have := hv.size; omega)) ht, keepB_turn k2 (by omega) hSV ht, keepsFrom_turn k3 (by omega) ht⟩
    case h02 => exact ⟨by rw [List.append_nil]; exact hv1, KeepB.below hV1 hSV, keepsFrom_below hV1, Keep.refl _ _ _, Nat.le_refl _⟩
    case assign2 =>
      rintro l2 pre' v U K hI hK
      gi_wp2
      exact hK _ _ (KeepsFrom.refl _ _) (Keep.refl _ _ _) hI rfl
    case body2 =>
      rintro l2 pre' v a2 U hl2 ⟨r2, hr2⟩ ⟨k1, k2, k3, k4, k5⟩ rfl hlt2
      have hLlen : (allv X ts (pre.map Subtype.val) ++ pre').length < 2199023255552 := by
        have h1 := flat_len (fvals X ts) T.size (fun a => by have := fvals_len X ts a; have := (Stif.chain_le hch).1; omega) (pre.map Subtype.val)
        have h2 : pre.length ≤ 1048576 := by
          have := flds_len hT hch (into := pathInto X P)
          omega
        rw [List.length_map] at h1
        have h3 : pre.length * T.size ≤ 1048576 * 1048576 := Nat.mul_le_mul h2 hT
        have h4 : pre'.length < ts.length + 1 := by
          have := fvals_len X ts p.1
          unfold fvals at this
          omega
        have h5 := (Stif.chain_le hch).1
        rw [List.length_append]
        unfold allv
        omega
      generalize hLe : allv X ts (pre.map Subtype.val) ++ pre' = L at *
      have hNU := hN0.of_block (k1.keep.s bN (hSS _ hSN))
      have y1 := cell_at (i := 0) ((k1.keep.s _ hS1).trans f0) rfl
      have y2 := cell_at (i := 0) k1.cnt rfl
      have y3 := frozen_at0 k1.cnt
      have y4 := cell_at (i := 7) hNU.blk rfl
      have hfn2 : ∀ f, ((Fence.wide.inRound ll).inRound l2).fn f := fun _ => trivial
      have m1 : b2 < U.heap.size := (Array.getElem?_eq_some_iff.1 k1.cnt).1
      have hU1 := set_blk (v := .int .i64 ((L.length : Int) + 1)) k1.cnt
      have tU1 : Turn W.heap.size Z3 U (U.setCell ⟨b2, 0, none⟩ (.int .i64 ((L.length : Int) + 1))) := set_turn k1.cnt hlb2
      have bU1 : KeepB (W0.heap.size + 2) S' Y0 U (U.setCell ⟨b2, 0, none⟩ (.int .i64 ((L.length : Int) + 1))) := set_keepB k1.cnt (by omega) hS2
      have fU1 : KeepsFrom W0.heap.size U (U.setCell ⟨b2, 0, none⟩ (.int .i64 ((L.length : Int) + 1))) := set_keepsFrom k1.cnt
      have e1 := (k1.keep.s _ hS1).trans f0
      have e3 := (k1.keep.s _ hS3).trans f2
      have gone : ∀ W3, KeepB B S Y0 (U.setCell ⟨b2, 0, none⟩ (.int .i64 ((L.length : Int) + 1))) W3 → KeepB (W0.heap.size + 2) S' Y0 U W3 ∧ KeepsFrom W0.heap.size U W3 ∧ W3.heap[b2]? = some (.cells #[.int .i64 ((L.length : Int) + 1)] 3 (0, 0)) := fun W3 h3 => by
        refine ⟨bU1.trans ⟨h3.size, fun k hk => ?_, h3.y, fun k c fr hB hc => h3.i k c fr (by omega) hc, fun k ob hB hc ho => h3.o k ob (by omega) hc ho⟩, ⟨Nat.le_trans fU1.size h3.size, fun k ob hB hk ho => h3.o k ob (by omega) (fU1.same k ob hB hk ho) ho⟩, h3.i b2 _ _ (by omega) hU1⟩
        have c1 := bU1.s k hk
        rw [hS'] at hk
        rcases hk with hk | rfl | rfl
        · exact h3.s k hk
        · rw [e1] at c1; rw [c1]; exact h3.y _ _ _ _ (.inr (.inr (.inl rfl))) c1
        · rw [e3] at c1; rw [c1]; exact h3.y _ _ _ _ (.inr (.inr (.inr (.inr (.inr rfl))))) c1
      have fin : ∀ W3, KeepB (W0.heap.size + 2) S' Y0 U W3 → KeepsFrom W0.heap.size U W3 → KeepsFrom V1.heap.size U W3 ∧ Keep S2 Y0 U W3 ∧ KeepB (W0.heap.size + 2) S' Y0 V W3 ∧ KeepsFrom W0.heap.size V W3 ∧ Keep S2 Y0 V1 W3 ∧ V1.heap.size ≤ W3.heap.size ∧ Keep S' Y0 W0 W3 ∧ W0.heap.size ≤ W3.heap.size := fun W3 h3 g3 => by
        have hk : Keep S2 Y0 U W3 := ⟨fun k hk => by
          rw [hS2'] at hk
          rcases hk with hk | rfl
          · exact h3.s k hk
          · have c1 := (k4.s V.heap.size (by rw [hS2']; exact .inr rfl)).trans hbv
            rw [c1]; exact h3.y _ _ _ _ (.inl rfl) c1, h3.y⟩
        have := hv.size
        have := k1.size
        have := h3.size
        exact ⟨keepsFrom_mono g3 (by omega), hk, k2.trans h3, k3.trans g3, k4.trans hk, by omega, k1.keep.trans h3.keep, by omega⟩
      have hj := k1.j
      have HJ : Hid (J (sofar ix L) U ∧ (ix ≠ 0 → ¬ (1 ≤ ix ∧ ix ≤ (L.length : Int)))) := ⟨hj, k1.no⟩
      have HG : Hid (Turn W.heap.size Z3 U (U.setCell ⟨b2, 0, none⟩ (.int .i64 ((L.length : Int) + 1))) ∧ (∀ W3, KeepB B S Y0 (U.setCell ⟨b2, 0, none⟩ (.int .i64 ((L.length : Int) + 1))) W3 → KeepB (W0.heap.size + 2) S' Y0 U W3 ∧ KeepsFrom W0.heap.size U W3 ∧ W3.heap[b2]? = some (.cells #[.int .i64 ((L.length : Int) + 1)] 3 (0, 0))) ∧ KeepB (W0.heap.size + 2) S' Y0 U (U.setCell ⟨b2, 0, none⟩ (.int .i64 ((L.length : Int) + 1))) ∧ KeepsFrom W0.heap.size U (U.setCell ⟨b2, 0, none⟩ (.int .i64 ((L.length : Int) + 1))) ∧ (U.setCell ⟨b2, 0, none⟩ (.int .i64 ((L.length : Int) + 1))).heap[b2]? = some (.cells #[.int .i64 ((L.length : Int) + 1)] 3 (0, 0))) := ⟨tU1, gone, bU1, fU1, hU1⟩
      have HF : Hid (∀ W3, KeepB (W0.heap.size + 2) S' Y0 U W3 → KeepsFrom W0.heap.size U W3 → KeepsFrom V1.heap.size U W3 ∧ Keep S2 Y0 U W3 ∧ KeepB (W0.heap.size + 2) S' Y0 V W3 ∧ KeepsFrom W0.heap.size V W3 ∧ Keep S2 Y0 V1 W3 ∧ V1.heap.size ≤ W3.heap.size ∧ Keep S' Y0 W0 W3 ∧ W0.heap.size ≤ W3.heap.size) := fin
      have HY : Hid (∀ (pre : List ByteArray) (x : ByteArray) (W1 : World), J pre W1 → pre.length < 2199023255552 → YieldAt Fence.wide (7 - 1) Try.prog l #[.string x] W1 fun e W' => (e = .returned (.bool true) ∧ J (pre ++ [x]) W' ∧ KeepB B S Y0 W1 W') ∨ (e = .returned (.bool false) ∧ Jx (pre ++ [x]) W' ∧ KeepB B S Y0 W1 W')) := hY
      have HL : Hid (allv X ts (pre.map Subtype.val) ++ (pre' ++ [v]) = L ++ [v]) := by show _ = _; rw [← hLe, List.append_assoc]
      have hL1 : (L.length : Int) + 1 ≤ 9223372036854775807 := by omega
      clear tU1 gone bU1 fU1 hU1 fin hj k1 k2 k3 k4 k5 e1 e3 hNU hY hLe hseq hseq2 hv hv1 hbv hV1 htr0 hN0 hN3 hp0 hch hbal hr hr1 hr2 f0 f1 f2 htr hN hp hNW h0 hA1 hW hch' ht hn
      unfold vsFrame2
      have len1 : ((L ++ [v]).length : Nat) = L.length + 1 := by simp
      have fin2 : ∀ W3, KeepB (W0.heap.size + 2) S' Y0 U W3 → KeepsFrom W0.heap.size U W3 → W3.heap[b2]? = some (.cells #[.int .i64 ((L.length : Int) + 1)] 3 (0, 0)) → J (sofar ix (L ++ [v])) W3 → (ix ≠ 0 → ¬ (1 ≤ ix ∧ ix ≤ (L.length : Int) + 1)) →
          KeepsFrom V1.heap.size U W3 ∧ Keep S2 Y0 U W3 ∧ VS J ix b2 S' W0 W3 (allv X ts (pre.map Subtype.val) ++ (pre' ++ [v])) ∧ KeepB (W0.heap.size + 2) S' Y0 V W3 ∧ KeepsFrom W0.heap.size V W3 ∧ Keep S2 Y0 V1 W3 ∧ V1.heap.size ≤ W3.heap.size := fun W3 h1 h2 h3 h4 h5 => by
        obtain ⟨t1, t2, t3, t4, t5, t6, t7, t8⟩ := HF.out W3 h1 h2
        refine ⟨t1, t2, ?_, t3, t4, t5, t6⟩
        rw [HL.out]
        exact ⟨h4, by rw [len1]; exact h3, fun h => by rw [len1]; exact h5 h, t7, t8⟩
      have fin3 : ∀ W3, KeepB (W0.heap.size + 2) S' Y0 U W3 → KeepsFrom W0.heap.size U W3 → VX J Jx ix W3 (L ++ [v]) →
          KeepsFrom V1.heap.size U W3 ∧ VX J Jx ix W3 (allv X ts (pre.map Subtype.val) ++ (pre' ++ [v])) ∧ KeepB (W0.heap.size + 2) S' Y0 V W3 ∧ KeepsFrom W0.heap.size V W3 := fun W3 h1 h2 h3 => by
        obtain ⟨t1, t2, t3, t4, t5, t6, t7, t8⟩ := HF.out W3 h1 h2
        rw [HL.out]
        exact ⟨t1, h3, t3, t4⟩
      have HE : Hid (∀ W3, KeepB (W0.heap.size + 2) S' Y0 U W3 → KeepsFrom W0.heap.size U W3 → W3.heap[b2]? = some (.cells #[.int .i64 ((L.length : Int) + 1)] 3 (0, 0)) → J (sofar ix (L ++ [v])) W3 → (ix ≠ 0 → ¬ (1 ≤ ix ∧ ix ≤ (L.length : Int) + 1)) →
          KeepsFrom V1.heap.size U W3 ∧ Keep S2 Y0 U W3 ∧ VS J ix b2 S' W0 W3 (allv X ts (pre.map Subtype.val) ++ (pre' ++ [v])) ∧ KeepB (W0.heap.size + 2) S' Y0 V W3 ∧ KeepsFrom W0.heap.size V W3 ∧ Keep S2 Y0 V1 W3 ∧ V1.heap.size ≤ W3.heap.size) := fin2
      have HE3 : Hid (∀ W3, KeepB (W0.heap.size + 2) S' Y0 U W3 → KeepsFrom W0.heap.size U W3 → VX J Jx ix W3 (L ++ [v]) →
          KeepsFrom V1.heap.size U W3 ∧ VX J Jx ix W3 (allv X ts (pre.map Subtype.val) ++ (pre' ++ [v])) ∧ KeepB (W0.heap.size + 2) S' Y0 V W3 ∧ KeepsFrom W0.heap.size V W3) := fin3
      have HLL : Hid (L.length < 2199023255552) := hLlen
      clear fin2 fin3 len1 HF HL hLlen hS' hS2' hA2
      by_cases hix : ix = 0
      · subst hix
        obtain ⟨fn, tmps, assign, body, hy, hR⟩ := yield_deep (m' := 2) (HY.out (sofar 0 L) v (U.setCell ⟨b2, 0, none⟩ (.int .i64 ((L.length : Int) + 1))) (hJ _ _ _ HJ.out.1 HG.out.1) (by simpa [sofar] using HLL.out))
        gi_wp2
        refine RoundIn.mono (show RoundIn ((Fence.wide.inRound ll).inRound l2) 2 _ _ _ _ _ _ _ _ from hR) ?_
        clear hy hR
        rintro e W3 (⟨rfl, hJ3, hk3⟩ | ⟨rfl, hJx3, hk3⟩)
        · gi_wp2
          obtain ⟨g1, g2, g3⟩ := HG.out.2.1 W3 hk3
          exact HE.out W3 g1 g2 g3 (by simpa [sofar] using hJ3) (fun h => absurd rfl h)
        · gi_wp2
          obtain ⟨g1, g2, g3⟩ := HG.out.2.1 W3 hk3
          have hh := HE3.out W3 g1 g2 (.inl ⟨_, hJx3, .inl ⟨rfl, by simp [sofar]⟩⟩)
          exact ⟨hh.1, rfl, hh.2⟩
      · have hib : (ix == 0) = false := by simp [hix]
        by_cases hhit : (L.length : Int) + 1 = ix
        · have hhb : ((L.length : Int) + 1 == ix) = true := by simp [hhit]
          have HH : Hid ((L.length : Int) + 1 = ix ∧ ix ≠ 0) := ⟨hhit, hix⟩
          obtain ⟨fn, tmps, assign, body, hy, hR⟩ := yield_deep (m' := 2) (HY.out (sofar ix L) v (U.setCell ⟨b2, 0, none⟩ (.int .i64 ((L.length : Int) + 1))) (hJ _ _ _ HJ.out.1 HG.out.1) (by simp [sofar, hix]))
          have hps : picks ix (L ++ [v]) = [v] := picks_hit hix (by omega)
          have hso : sofar ix L = [] := by simp [sofar, hix]
          have HP : Hid (picks ix (L ++ [v]) = [v] ∧ sofar ix L = [] ∧ (1 ≤ ix ∧ ix ≤ ((L ++ [v]).length : Int))) := ⟨hps, hso, by simp; omega⟩
          clear hhit hix hps hso
          gi_wp2
          refine RoundIn.mono (show RoundIn ((Fence.wide.inRound ll).inRound l2) 2 _ _ _ _ _ _ _ _ from hR) ?_
          clear hy hR
          rintro e W3 (⟨rfl, hJ3, hk3⟩ | ⟨rfl, hJx3, hk3⟩)
          · gi_wp2
            obtain ⟨g1, g2, g3⟩ := HG.out.2.1 W3 hk3
            have hh := HE3.out W3 g1 g2 (.inr ⟨HH.out.2, HP.out.2.2, by rw [HP.out.1]; rw [HP.out.2.1] at hJ3; exact hJ3⟩)
            exact ⟨hh.1, rfl, hh.2⟩
          · gi_wp2
            obtain ⟨g1, g2, g3⟩ := HG.out.2.1 W3 hk3
            have hh := HE3.out W3 g1 g2 (.inl ⟨_, hJx3, .inr ⟨HH.out.2, HP.out.2.2, by rw [HP.out.1, HP.out.2.1]; exact List.prefix_refl _⟩⟩)
            exact ⟨hh.1, rfl, hh.2⟩
        · have hhb : ((L.length : Int) + 1 == ix) = false := by simp [hhit]
          have HH : Hid ((L.length : Int) + 1 ≠ ix ∧ ix ≠ 0) := ⟨hhit, hix⟩
          clear hhit hix
          gi_wp2
          refine HE.out _ HG.out.2.2.1 HG.out.2.2.2.1 HG.out.2.2.2.2 ?_ (fun h h' => ?_)
          · have h1 := hJ _ _ _ HJ.out.1 HG.out.1
            have h2 : sofar ix (L ++ [v]) = sofar ix L := by simp [sofar, HH.out.2]
            rw [h2]; exact h1
          · exact HJ.out.2 h ⟨h'.1, by have := HH.out.1; omega⟩
    case done2 =>
      rintro xs U hxs ⟨k1, k2, k3, k4, k5⟩
      gi_wp2
      rw [hxs] at k1
      refine ⟨k3, k2, ?_⟩
      show VS J ix b2 S' W0 U (allv X ts ((pre ++ [p]).map Subtype.val))
      rw [List.map_append, List.map_singleton, allv_snoc]
      exact k1
    case stop2 =>
      rintro c pre' U hpre ⟨rfl, k1, k2, k3⟩
      gi_wp2
      refine ⟨k3, k2, rfl, ?_⟩
      show VX J Jx ix U (allv X ts ((pre ++ [p]).map Subtype.val))
      rw [List.map_append, List.map_singleton, allv_snoc]
      exact k1.longer (by obtain ⟨q, hq⟩ := hpre; exact ⟨q, by rw [List.append_assoc, hq]; rfl⟩)
  case done =>
    rintro D ys V hD hys hv hK
    gi_wp2
    refine ⟨by simp, .inl ⟨_, _, rfl, run_takeDeferred hK, ?_⟩⟩
    refine ⟨_, results_none rfl _ _ _, ⟨_, rfl⟩, .inl ⟨_, rfl, ?_⟩⟩
    have hj := (hJ0.own (Nat.le_refl _)).putObj (s := sofar ix (allv X ts (ys.map Subtype.val))) (.deferred none) hv.j hD hK rfl
    rw [sofar_picks hv.no, hys] at hj
    exact hj
  case stop =>
    rintro D c pre V hD hpre ⟨rfl, hx⟩ hK
    gi_wp2
    refine ⟨by simp, .inl ⟨_, _, rfl, run_takeDeferred hK, ?_⟩⟩
    refine ⟨_, results_none rfl _ _ _, ⟨_, rfl⟩, ?_⟩
    rcases hx.longer (allv_pre (X := X) (ts := ts) hpre) with ⟨q, h1, ⟨h2, h3⟩ | ⟨h2, h3, h4⟩⟩ | ⟨h1, h2, h3⟩
    · exact .inr ⟨q, by rw [h2, picks_zero]; exact h3, (hJx0.own (Nat.le_refl _)).putObj _ h1 hD hK rfl⟩
    · exact .inr ⟨q, h4, (hJx0.own (Nat.le_refl _)).putObj _ h1 hD hK rfl⟩
    · exact .inl ⟨_, rfl, (hJ0.own (Nat.le_refl _)).putObj _ h3 hD hK rfl⟩
end Go.Proofs.Qxb6618677a
