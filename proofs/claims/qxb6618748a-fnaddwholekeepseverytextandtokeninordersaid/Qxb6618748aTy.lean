/-
  toWireToks.
-/
import Derived.Test.Qxb6618748aTz
namespace Go.Proofs.Qxb6618748a
open Go.RowKit

/-- A wire token is handed back; its candidates lie in a new row. -/
def WireFar (w : World) (s : ByteArray) (f : Nat) (ab : Option Addr) (lb cb : Nat) (isNil : Bool) (n : Nat) (C : Nat → Cd) (e : Ending) (w' : World) : Prop :=
  ∃ a' c', e = .returned (.agg #[.string s, .float .f64 f, .slice ab lb cb, .slice a' n c']) ∧ a'.isNone = isNil ∧ n ≤ c' ∧ c' ≤ 1048576 ∧ IsCands w' a' n C ∧ Below w.heap.size w w' ∧ ∀ x, a' = some x → w.heap.size ≤ x.block
set_option maxRecDepth 100000 in
set_option maxHeartbeats 1000000 in
theorem toWireTok_far (s : ByteArray) (f : Nat) (ab : Option Addr) (lb cb : Nat) (ac : Option Addr) (lc cc : Nat) (C : Nat → Cd) (w : World) (hc : IsCands w ac lc C) (hl : lc ≤ 1048576) :
    Calls Try.prog 8 #[.agg #[.string s, .float .f64 f, .slice ab lb cb, .slice ac lc cc]] w (WireFar w s f ab lb cb ac.isNone lc C) := by
  have H : Hid (IsCands w ac lc C) := hc
  clear hc
  go_enter Try.func8, Try.ntmps8
  go_wp2
  have k1 : ((w.alloc (.cells #[.string s, .float .f64 f, .slice ab lb cb, .slice ac lc cc] 26)).alloc (.cells #[.string ⟨#[]⟩, .float .f64 0, .slice none 0 0, .slice none 0 0] 31)).heap[w.heap.size]? = some (.cells #[.string s, .float .f64 f, .slice ab lb cb, .slice ac lc cc] 26) := by
    rw [Deep.blk_alloc_lt _ _ _ (by simp), Deep.blk_alloc_new]
  have k2 : ((w.alloc (.cells #[.string s, .float .f64 f, .slice ab lb cb, .slice ac lc cc] 26)).alloc (.cells #[.string ⟨#[]⟩, .float .f64 0, .slice none 0 0, .slice none 0 0] 31)).heap[w.heap.size + 1]? = some (.cells #[.string ⟨#[]⟩, .float .f64 0, .slice none 0 0, .slice none 0 0] 31) := by
    have := Deep.blk_alloc_new (w.alloc (.cells #[.string s, .float .f64 f, .slice ab lb cb, .slice ac lc cc] 26)) (.cells #[.string ⟨#[]⟩, .float .f64 0, .slice none 0 0, .slice none 0 0] 31)
    simpa using this
  have k3 : Below w.heap.size w ((w.alloc (.cells #[.string s, .float .f64 f, .slice ab lb cb, .slice ac lc cc] 26)).alloc (.cells #[.string ⟨#[]⟩, .float .f64 0, .slice none 0 0, .slice none 0 0] 31)) := ((Below.refl _ _).alloc (Nat.le_refl _) _).alloc (by simp) _
  have k4 : ((w.alloc (.cells #[.string s, .float .f64 f, .slice ab lb cb, .slice ac lc cc] 26)).alloc (.cells #[.string ⟨#[]⟩, .float .f64 0, .slice none 0 0, .slice none 0 0] 31)).heap.size = w.heap.size + 2 := by simp
  generalize (w.alloc (.cells #[.string s, .float .f64 f, .slice ab lb cb, .slice ac lc cc] 26)).alloc (.cells #[.string ⟨#[]⟩, .float .f64 0, .slice none 0 0, .slice none 0 0] 31) = W1 at k1 k2 k3 k4 ⊢
  generalize hg : w.heap.size = g at k1 k2 k3 k4 ⊢
  have c0 := cell_at (i := 0) k1 rfl
  have c1 := cell_at (i := 1) k1 rfl
  have c2 := cell_at (i := 2) k1 rfl
  have c3 := cell_at (i := 3) k1 rfl
  have HK : Hid (W1.heap[g]? = some (.cells #[.string s, .float .f64 f, .slice ab lb cb, .slice ac lc cc] 26) ∧ W1.heap[g + 1]? = some (.cells #[.string ⟨#[]⟩, .float .f64 0, .slice none 0 0, .slice none 0 0] 31) ∧ Below g w W1 ∧ W1.heap.size = g + 2 ∧ w.heap.size = g) := ⟨k1, k2, k3, k4, hg⟩
  clear k1 k2 k3 k4 hg
  simp only [List.getElem_toArray, List.getElem_cons_zero, List.getElem_cons_succ] at c0 c1 c2 c3
  go_region_held3 (fun w' => w'.cell? ⟨g, 0, none⟩ = some (.string s) ∧ w'.cell? ⟨g, 1, none⟩ = some (.float .f64 f) ∧ w'.cell? ⟨g, 2, none⟩ = some (.slice ab lb cb) ∧ w'.cell? ⟨g, 3, none⟩ = some (.slice ac lc cc)) (go_keep)
    (first | (go_at_call 27; refine (toWireCands_any ac lc cc C _ ?_ hl).mono ?_; exact H.out.below (HK.out.2.2.2.2 ▸ HK.out.2.2.1.drew); rintro e w' ⟨a', c', rfl, x1, x2, x3, x4, x5, x6⟩; have q1 := tok_below x5 HK.out.1 HK.out.2.1 HK.out.2.2.1 HK.out.2.2.2.1 HK.out.2.2.2.2; have d0 := cell_at (i := 0) q1.1 rfl; have d1 := cell_at (i := 1) q1.1 rfl; have d2 := cell_at (i := 2) q1.1 rfl; have d3 := cell_at (i := 3) q1.1 rfl; have e0 := cell_at (i := 0) q1.2.1 rfl; have e1 := cell_at (i := 1) q1.2.1 rfl; have e2 := cell_at (i := 2) q1.2.1 rfl; have e3 := cell_at (i := 3) q1.2.1 rfl; have f0 := frozen_at q1.2.1 0; have f1 := frozen_at q1.2.1 1; have f2 := frozen_at q1.2.1 2; have f3 := frozen_at q1.2.1 3; have HX : Hid (a'.isNone = ac.isNone ∧ lc ≤ c' ∧ c' ≤ 1048576 ∧ IsCands w' a' lc C ∧ Below g w w' ∧ g + 2 ≤ w'.heap.size ∧ (∀ x, a' = some x → g + 2 ≤ x.block) ∧ w'.heap[g + 1]? = some (.cells #[.string ⟨#[]⟩, .float .f64 0, .slice none 0 0, .slice none 0 0] 31)) := ⟨isNone_iff x1, x2, x3, x4, q1.2.2.1, q1.2.2.2, fun x hx => by have h1 := x6 x hx; have h2 := HK.out.2.2.2.1; simp at h1; omega, q1.2.1⟩; clear x1 x2 x3 x4 x5 x6 q1; simp only [List.getElem_toArray, List.getElem_cons_zero, List.getElem_cons_succ] at d0 d1 d2 d3 e0 e1 e2 e3))
  go_wp2
  (try simp only [Exit.inBlock, Exit.then])
  have HF : Hid (WireFar w s f ab lb cb ac.isNone lc C (.returned (.agg #[.string s, .float .f64 f, .slice ab lb cb, .slice a' lc c'])) ((((w'.setCell ⟨g + 1, 0, none⟩ (.string s)).setCell ⟨g + 1, 1, none⟩ (.float .f64 f)).setCell ⟨g + 1, 2, none⟩ (.slice ab lb cb)).setCell ⟨g + 1, 3, none⟩ (.slice a' lc c'))) := by
    have hg := HK.out.2.2.2.2
    obtain ⟨y1, y2, y3, y4, y5, y6, y7, y8⟩ := HX.out
    have hB : Below w.heap.size w ((((w'.setCell ⟨g + 1, 0, none⟩ (.string s)).setCell ⟨g + 1, 1, none⟩ (.float .f64 f)).setCell ⟨g + 1, 2, none⟩ (.slice ab lb cb)).setCell ⟨g + 1, 3, none⟩ (.slice a' lc c')) := by
      rw [hg]
      exact (((y5.setCell (by simp) _).setCell (by simp) _).setCell (by simp) _).setCell (by simp) _
    refine ⟨a', c', rfl, y1, y2, y3, isCands_move H.out y4 (fun x hx => ?_) hB, hB, fun x hx => by have := y7 x hx; omega⟩
    have h1 := y7 x hx
    rw [Deep.blk_setCell_other _ _ _ _ (by simp; omega), Deep.blk_setCell_other _ _ _ _ (by simp; omega), Deep.blk_setCell_other _ _ _ _ (by simp; omega), Deep.blk_setCell_other _ _ _ _ (by simp; omega)]
  refine bodyPost_ret (v := .agg #[.string s, .float .f64 f, .slice ab lb cb, .slice a' lc c']) ?_ rfl HF.out
  simp [results, Try.results8, go_sem, e0, e1, e2, e3]


/-- A wire token with the same text and candidates. -/
def WireR (Q : Nat → Prop) (w : World) (t : Tk) (a : Option Addr) (c : Nat) (e : Ending) (w' : World) : Prop :=
  ∃ a' c', e = .returned (.agg #[.string t.x.s, .float .f64 t.x.f, .slice a t.x.I.length c, .slice a' t.C.length c']) ∧ a'.isNone = t.cn ∧ CandsR (fun b => Q b ∨ w.heap.size ≤ b ∧ b < w'.heap.size) w' a' t.C ∧ Below w.heap.size w w'
theorem Keeps.below {Q P : Nat → Prop} {w w' : World} (h : Below w.heap.size w w') (hQ : ∀ b, Q b → P b) : Keeps Q P w w' := fun b hb => ⟨hQ b hb, fun _ hc => (h.block b (Array.getElem?_eq_some_iff.1 hc).1).trans hc⟩
theorem toWireTok_R (Q : Nat → Prop) (t : Tk) (a : Option Addr) (c : Nat) (ca : Option Addr) (cc : Nat) (w : World) (hn : ca.isNone = t.cn) (hC : CandsR Q w ca t.C) (hl : tsz t ≤ 1048576) :
    Calls Try.prog 8 #[.agg #[.string t.x.s, .float .f64 t.x.f, .slice a t.x.I.length c, .slice ca t.C.length cc]] w (WireR Q w t a c) := by
  have e : tsz t = t.x.s.size + t.x.I.length + t.C.length + (t.C.map csz).sum := rfl
  obtain ⟨K, hK, hO⟩ := hC.cds (by omega)
  refine (toWireTok_far t.x.s t.x.f a t.x.I.length c ca t.C.length cc K w hK (by omega)).mono ?_
  rintro e w' ⟨a', c', rfl, h1, _, _, h2, h3, h4⟩
  refine ⟨a', c', rfl, h1.trans hn, ⟨fun e => ?_, fun i x hx => ?_⟩, h3⟩
  · exact List.length_eq_zero_iff.1 (h2.nil e)
  · cases a' with
    | none => have := h2.nil rfl; have := (List.getElem?_eq_some_iff.1 hx).1; omega
    | some y =>
      obtain ⟨y1, y2, y3⟩ := y
      obtain ⟨hsp, hA⟩ := h2.at' _ rfl i (List.getElem?_eq_some_iff.1 hx).1
      simp only at hsp hA
      subst hsp
      have h5 := h4 _ rfl
      obtain ⟨k1, k2, k3, k4, k5, k6⟩ := hO.of i x hx
      refine ⟨y1, y2, (K i).a, (K i).c, rfl, .inr ⟨h5, cell_lt hA.c0⟩, k1 ▸ hA.c0, k2 ▸ hA.c1, k3 ▸ hA.c2, k4, k5.keep (.below h3 fun b hb => .inl hb), k6⟩

theorem Try.nil36 (w : World) (a : Option Addr) (n c : Nat) : (binOp .eql 36 (.slice a n c) (.slice none 0 0)).run Try.prog w = .ok (.bool a.isNone) w := Lib.run_eql_slice_nil w 36 26 a n c 0 0 Try.underlying36
theorem Try.info31 : (Try.prog.info? 31).map (fun i => (i.zero, i.size, i.bytes)) = some (some (.agg #[.string ByteArray.empty, .float .f64 0, .slice none 0 0, .slice none 0 0]), 4, 72) := by kernel_rfl
def zeros4 (k : Nat) : Array Value := madeCells #[.string ByteArray.empty, .float .f64 0, .slice none 0 0, .slice none 0 0] (k * 4)
theorem make31 (k : Nat) (hk : k ≤ 1048576) (w : World) : (Instr.makeSlice 43 (.int .i64 (k : Int)) (.int .i64 (k : Int))).run Try.prog w = .ok (.slice (some ⟨w.heap.size, 0, none⟩) k k) (w.alloc (.cells (zeros4 k) 31)) := by
  have h := Try.info31
  cases hi : Try.prog.info? 31 with
  | none => rw [hi] at h; simp at h
  | some i =>
    rw [hi] at h
    simp only [Option.map_some, Option.some.injEq, Prod.mk.injEq] at h
    obtain ⟨h1, h2, h3⟩ := h
    have := run_make (P := Try.prog) w 43 31 i _ Try.underlying43 hi h1 .i64 .i64 k k (by omega) (by omega) (by rw [h3]; omega) (by omega)
    rw [h2] at this
    simp only [Int.toNat_natCast] at this
    exact this

/-- The first i tokens stand in the new row. -/
structure FillT (Q : Nat → Prop) (w wr : World) (g n : Nat) (TS : List Tk) (i : Nat) (f : Nat → Value) : Prop where
  row : wr.rowIs g 31 (n * 4) f
  done : ∀ k t, k < i → TS[k]? = some t → ∃ a c ca cc, f (k * 4) = .string t.x.s ∧ f (k * 4 + 1) = .float .f64 t.x.f ∧ f (k * 4 + 2) = .slice a t.x.I.length c ∧ f (k * 4 + 3) = .slice ca t.C.length cc ∧ a.isNone = t.x.bn ∧ IntsR Q w a t.x.I ∧ ca.isNone = t.cn ∧ CandsR (fun b => Q b ∨ g < b ∧ b < wr.heap.size) wr ca t.C ∧ t.x.f < 18446744073709551616
  below : Below w.heap.size w wr
theorem fillT_start (Q : Nat → Prop) (w : World) (n : Nat) (TS : List Tk) : ∃ f, FillT Q w (w.alloc (.cells (zeros4 n) 31)) w.heap.size n TS 0 f := by
  refine ⟨fun j => (zeros4 n)[j]?.getD undef, ⟨_, Go.Deep.blk_alloc_new _ _, size_madeCells _ _, fun i hi => ?_⟩, fun k t hk => by omega, (Below.refl _ _).alloc (Nat.le_refl _) _⟩
  have : i < (zeros4 n).size := by rw [show (zeros4 n).size = n * 4 from size_madeCells _ _]; exact hi
  simp [this]
theorem rowIs_below {w w' : World} {g n : Nat} {T : TypeId} {f : Nat → Value} (h : w.rowIs g T n f) (hb : Below w.heap.size w w') : w'.rowIs g T n f := by
  obtain ⟨c, h1, h2, h3⟩ := h
  exact ⟨c, (hb.block g (Array.getElem?_eq_some_iff.1 h1).1).trans h1, h2, h3⟩
/-- A call in between. -/
theorem FillT.call {Q : Nat → Prop} {w wr w' : World} {g n : Nat} {TS : List Tk} {i : Nat} {f : Nat → Value} (h : FillT Q w wr g n TS i f) (hb : Below wr.heap.size wr w') : FillT Q w w' g n TS i f :=
  ⟨rowIs_below h.row hb, fun k t hk ht => let ⟨a, c, ca, cc, h1, h2, h3, h4, h5, h6, h7, h8, h9⟩ := h.done k t hk ht; ⟨a, c, ca, cc, h1, h2, h3, h4, h5, h6, h7, h8.keep (.below hb fun _ hb' => hb'.imp id fun ⟨x, y⟩ => ⟨x, Nat.lt_of_lt_of_le y hb.size⟩), h9⟩, h.below.trans (hb.mono h.below.size)⟩
theorem fillT_step {Q : Nat → Prop} {w wr : World} {g n : Nat} {TS : List Tk} {i : Nat} {f : Nat → Value} {t : Tk} {a ca : Option Addr} {c cc : Nat} (h : FillT Q w wr g n TS i f) (hg : w.heap.size = g) (hQ : ∀ b, Q b → b < w.heap.size) (ht : TS[i]? = some t) (ha : a.isNone = t.x.bn) (hI : IntsR Q w a t.x.I) (hca : ca.isNone = t.cn) (hC : CandsR (fun b => Q b ∨ g < b ∧ b < wr.heap.size) wr ca t.C) (hf : t.x.f < 18446744073709551616) :
    ∃ f', FillT Q w ((((wr.setCell ⟨g, i * 4, none⟩ (.string t.x.s)).setCell ⟨g, i * 4 + 1, none⟩ (.float .f64 t.x.f)).setCell ⟨g, i * 4 + 2, none⟩ (.slice a t.x.I.length c)).setCell ⟨g, i * 4 + 3, none⟩ (.slice ca t.C.length cc)) g n TS (i + 1) f' := by
  have kp : Keeps (fun b => Q b ∨ g < b ∧ b < wr.heap.size) (fun b => Q b ∨ g < b ∧ b < wr.heap.size) wr ((((wr.setCell ⟨g, i * 4, none⟩ (.string t.x.s)).setCell ⟨g, i * 4 + 1, none⟩ (.float .f64 t.x.f)).setCell ⟨g, i * 4 + 2, none⟩ (.slice a t.x.I.length c)).setCell ⟨g, i * 4 + 3, none⟩ (.slice ca t.C.length cc)) := by
    intro b hb
    have hne : b ≠ g := by
      rcases hb with h1 | ⟨h1, _⟩
      · have := hQ b h1; omega
      · omega
    refine ⟨hb, fun o ho => ?_⟩
    rw [Below.heap_setCell _ _ _ _ hne, Below.heap_setCell _ _ _ _ hne, Below.heap_setCell _ _ _ _ hne, Below.heap_setCell _ _ _ _ hne]
    exact ho
  have hs : ((((wr.setCell ⟨g, i * 4, none⟩ (.string t.x.s)).setCell ⟨g, i * 4 + 1, none⟩ (.float .f64 t.x.f)).setCell ⟨g, i * 4 + 2, none⟩ (.slice a t.x.I.length c)).setCell ⟨g, i * 4 + 3, none⟩ (.slice ca t.C.length cc)).heap.size = wr.heap.size := by simp
  refine ⟨_, ((((h.row.set _ _).set _ _).set _ _).set _ _), fun k tk hk htk => ?_, ((((h.below.setCell (by simp [hg]) _).setCell (by simp [hg]) _).setCell (by simp [hg]) _).setCell (by simp [hg]) _)⟩
  rw [hs]
  by_cases hki : k = i
  · subst hki
    rw [ht] at htk
    cases htk
    exact ⟨a, c, ca, cc, by simp, by simp, by simp, by simp, ha, hI, hca, hC.keep kp, hf⟩
  · obtain ⟨a2, c2, ca2, cc2, d0, d1, d2, d3, d4, d5, d6, d7, d8⟩ := h.done k tk (by omega) htk
    refine ⟨a2, c2, ca2, cc2, ?_, ?_, ?_, ?_, d4, d5, d6, d7.keep kp, d8⟩
    · rw [if_neg (by omega), if_neg (by omega), if_neg (by omega), if_neg (by omega)]; exact d0
    · rw [if_neg (by omega), if_neg (by omega), if_neg (by omega), if_neg (by omega)]; exact d1
    · rw [if_neg (by omega), if_neg (by omega), if_neg (by omega), if_neg (by omega)]; exact d2
    · rw [if_neg (by omega), if_neg (by omega), if_neg (by omega), if_neg (by omega)]; exact d3
theorem FillT.toks {Q : Nat → Prop} {w wr : World} {g n : Nat} {TS : List Tk} {f : Nat → Value} (h : FillT Q w wr g n TS n f) (hn : n = TS.length) (hl : n ≤ 1048576) (hg : w.heap.size = g) : ToksR (fun b => Q b ∨ w.heap.size ≤ b ∧ b < wr.heap.size) wr (some ⟨g, 0, none⟩) n n TS := by
  refine ⟨hn, Nat.le_refl _, by simp only [maxLen]; omega, fun e => (by cases e), fun x hx => by cases hx; rfl, fun i t ht => ?_⟩
  have hi := (List.getElem?_eq_some_iff.1 ht).1
  obtain ⟨a, c, ca, cc, d0, d1, d2, d3, d4, d5, d6, d7, d8⟩ := h.done i t (by omega) ht
  have r0 : wr.cell? ⟨g, 0 + i * 4, none⟩ = some (.string t.x.s) := by rw [Nat.zero_add, h.row.cell (by omega), d0]
  have r1 : wr.cell? ⟨g, 0 + i * 4 + 1, none⟩ = some (.float .f64 t.x.f) := by rw [Nat.zero_add, h.row.cell (by omega), d1]
  have r2 : wr.cell? ⟨g, 0 + i * 4 + 2, none⟩ = some (.slice a t.x.I.length c) := by rw [Nat.zero_add, h.row.cell (by omega), d2]
  have r3 : wr.cell? ⟨g, 0 + i * 4 + 3, none⟩ = some (.slice ca t.C.length cc) := by rw [Nat.zero_add, h.row.cell (by omega), d3]
  exact ⟨g, 0, a, c, ca, cc, rfl, ⟨.inr ⟨by omega, cell_lt r0⟩, r0, r1, r2, d4, d5.keep (.below h.below fun b hb => .inl hb), d8⟩, r3, d6, d7.keep fun _ hb => ⟨hb.imp id fun ⟨x, y⟩ => ⟨by omega, y⟩, fun _ h => h⟩⟩

/-- Wire tokens, the same, in new rows. -/
def WiresOk (Q : Nat → Prop) (n : Nat) (TS : List Tk) (w : World) (e : Ending) (w' : World) : Prop :=
  ∃ a' c', e = .returned (.slice a' n c') ∧ ToksR (fun b => Q b ∨ w.heap.size ≤ b ∧ b < w'.heap.size) w' a' n c' TS ∧ Below w.heap.size w w'
set_option maxRecDepth 100000 in
set_option maxHeartbeats 1000000 in
theorem toWireToks_any (Q : Nat → Prop) (a : Option Addr) (n tc : Nat) (TS : List Tk) (w : World) (h : ToksR Q w a n tc TS) (hQ : ∀ b, Q b → b < w.heap.size) (hs : Small 1048576 TS) :
    Calls Try.prog 15 #[.slice a n tc] w (WiresOk Q n TS w) := by
  have hnl := Try.nil36
  have hl : n ≤ 1048576 := by have := hs.le; have := h.len; omega
  have H : Hid (ToksR Q w a n tc TS ∧ Small 1048576 TS ∧ ∀ b, Q b → b < w.heap.size) := ⟨h, hs, hQ⟩
  clear h hs hQ
  cases a with
  | none =>
    have h0 : n = 0 := by have h1 := H.out.1.nil rfl; have h2 := H.out.1.cap; omega
    subst h0
    go_enter Try.func15, Try.ntmps15
    go_wp2
    go_ret
    have ht : TS = [] := List.length_eq_zero_iff.1 H.out.1.len.symm
    subst ht
    exact ⟨none, 0, rfl, ⟨rfl, Nat.le_refl _, Nat.zero_le _, fun _ => rfl, fun x hx => (by cases hx), fun i t ht => (by simp at ht)⟩, Below.refl _ _⟩
  | some x =>
    have hmk := make31 n hl
    go_enter Try.func15, Try.ntmps15
    go_wp2
    obtain ⟨f0, hf0⟩ := fillT_start Q w n TS
    have HF0 : Hid (FillT Q w (w.alloc (.cells (zeros4 n) 31)) w.heap.size n TS 0 f0) := hf0
    clear hf0 hmk hnl
    generalize w.alloc (.cells (zeros4 n) 31) = w1 at HF0 ⊢
    have hgw : w.heap.size ≤ w.heap.size := Nat.le_refl _
    generalize hg : w.heap.size = g at HF0 ⊢
    have HG : Hid (w.heap.size = g) := hg
    clear hg hgw
    go_loopg [12] n (fun gk iv wr => ∃ (i : Nat) (f : Nat → Value), gk = n - i ∧ i ≤ n ∧ iv = .int .i64 i ∧ Hid (FillT Q w wr g n TS i f))
    case atStart => exact ⟨0, f0, by omega, by omega, rfl, HF0⟩
    case round =>
      clear HF0
      obtain ⟨i, f, hgk, hi, rfl, HF⟩ := hrel
      by_cases hlt : i < n
      · obtain ⟨t, ht⟩ : ∃ t, TS[i]? = some t := ⟨_, List.getElem?_eq_getElem (by have := H.out.1.len; omega)⟩
        obtain ⟨xb, xo, a', c', ca, cc, hx, hT⟩ := H.out.1.cell i t ht
        cases hx
        have hT2 := hT.keep (P := Q) (Keeps.below HF.out.below fun b hb => hb)
        have c0 := hT2.tx.c0
        have c1 := hT2.tx.c1
        have c2 := hT2.tx.c2
        have c3 := hT2.c3
        have HT : Hid (TkR Q w xb (xo + i * 4) t a' c' ca cc ∧ TkR Q wr xb (xo + i * 4) t a' c' ca cc ∧ TS[i]? = some t) := ⟨hT, hT2, ht⟩
        clear hT hT2 ht
        have hltb : decide ((i : Int) < (n : Int)) = true := by simp; omega
        have hlt' : (i : Int) < (n : Int) := by omega
        go_wp2_with fail
        refine (toWireTok_R Q t a' c' ca cc wr HT.out.1.cn HT.out.2.1.cands (by have h1 := mem_sum tsz HT.out.2.2; have h2 := H.out.2.1.le; omega)).mono ?_
        rintro e w' ⟨da, dc, rfl, h1, h2, h3⟩
        have hF := HF.out.call h3
        have hgw : g < wr.heap.size := by have h := HF.out.row.cell (i := i * 4) (by omega); exact cell_lt h
        have HR : Hid (FillT Q w w' g n TS i f ∧ da.isNone = t.cn ∧ CandsR (fun b => Q b ∨ g < b ∧ b < w'.heap.size) w' da t.C) := ⟨hF, h1, h2.keep fun _ hb => ⟨hb.imp id fun ⟨x, y⟩ => ⟨by omega, y⟩, fun _ h => h⟩⟩
        clear h1 h2 h3 hF hgw HF c0 c1 c2 c3
        have z0 := HR.out.1.row.cell (i := i * 4) (by omega)
        have y0 := HR.out.1.row.frozen (i * 4)
        have e1 : ∀ v, (w'.setCell ⟨g, i * 4, none⟩ v).cell? ⟨g, i * 4 + 1, none⟩ = some (f (i * 4 + 1)) := fun v => by rw [(HR.out.1.row.set _ _).cell (by omega), if_neg (by omega)]
        have e1f : ∀ v, (w'.setCell ⟨g, i * 4, none⟩ v).frozen? ⟨g, i * 4 + 1, none⟩ = false := fun v => (HR.out.1.row.set _ _).frozen _
        have e2 : ∀ v v', ((w'.setCell ⟨g, i * 4, none⟩ v).setCell ⟨g, i * 4 + 1, none⟩ v').cell? ⟨g, i * 4 + 2, none⟩ = some (f (i * 4 + 2)) := fun v v' => by rw [((HR.out.1.row.set _ _).set _ _).cell (by omega), if_neg (by omega), if_neg (by omega)]
        have e2f : ∀ v v', ((w'.setCell ⟨g, i * 4, none⟩ v).setCell ⟨g, i * 4 + 1, none⟩ v').frozen? ⟨g, i * 4 + 2, none⟩ = false := fun v v' => ((HR.out.1.row.set _ _).set _ _).frozen _
        have e3 : ∀ v v' v'', (((w'.setCell ⟨g, i * 4, none⟩ v).setCell ⟨g, i * 4 + 1, none⟩ v').setCell ⟨g, i * 4 + 2, none⟩ v'').cell? ⟨g, i * 4 + 3, none⟩ = some (f (i * 4 + 3)) := fun v v' v'' => by rw [(((HR.out.1.row.set _ _).set _ _).set _ _).cell (by omega), if_neg (by omega), if_neg (by omega), if_neg (by omega)]
        have e3f : ∀ v v' v'', (((w'.setCell ⟨g, i * 4, none⟩ v).setCell ⟨g, i * 4 + 1, none⟩ v').setCell ⟨g, i * 4 + 2, none⟩ v'').frozen? ⟨g, i * 4 + 3, none⟩ = false := fun v v' v'' => (((HR.out.1.row.set _ _).set _ _).set _ _).frozen _
        dsimp only
        go_wp2
        go_roundg (n - (i + 1))
        case measure => omega
        case rel =>
          obtain ⟨f', hf'⟩ := fillT_step (c := c') (cc := dc) HR.out.1 HG.out H.out.2.2 HT.out.2.2 HT.out.1.tx.bn HT.out.1.tx.ints HR.out.2.1 HR.out.2.2 HT.out.1.tx.f64
          exact ⟨i + 1, f', rfl, by omega, by go_num, hf'⟩
      · have hltb : decide ((i : Int) < (n : Int)) = false := by simp; omega
        obtain rfl : i = n := by omega
        go_wp2
        go_ret
        exact ⟨_, _, rfl, HF.out.toks H.out.1.len hl HG.out, HF.out.below⟩
end Go.Proofs.Qxb6618748a
