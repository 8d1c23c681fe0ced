/-
  toWireTok, WithCandidates.
-/
import Derived.Test.Qxb6618748aTw
import Derived.Deep.RegionHeld3
namespace Go.Proofs.Qxb6618748a
open Go.RowKit

theorem cell_at {w : World} {b : Nat} {t : TypeId} {c : Array Value} {i : Nat} {v : Value} (h : w.heap[b]? = some (.cells c t)) (hv : c[i]? = some v) : w.cell? ⟨b, i, none⟩ = some v := by
  simp [World.cell?, h, hv]
theorem frozen_at {w : World} {b : Nat} {t : TypeId} {c : Array Value} (h : w.heap[b]? = some (.cells c t)) (i : Nat) : w.frozen? ⟨b, i, none⟩ = false := by
  simp [World.frozen?, h]

theorem isNone_iff {α β : Type} {a : Option α} {b : Option β} (h : a = none ↔ b = none) : a.isNone = b.isNone := by
  cases a <;> cases b <;> simp_all
theorem tok_below {w W1 w' : World} {g : Nat} {o1 o2 : Obj} (h : Below W1.heap.size W1.drew w') (k1 : W1.heap[g]? = some o1) (k2 : W1.heap[g + 1]? = some o2) (k3 : Below g w W1) (k4 : W1.heap.size = g + 2) (_k5 : w.heap.size = g) :
    w'.heap[g]? = some o1 ∧ w'.heap[g + 1]? = some o2 ∧ Below g w w' ∧ g + 2 ≤ w'.heap.size :=
  ⟨(h.block g (by omega)).trans k1, (h.block (g + 1) (by omega)).trans k2, k3.drew.trans (h.mono (by omega)), by have := h.size; simp at this; omega⟩

theorem isCands_move {w w' w'' : World} {ac a' : Option Addr} {lc : Nat} {C : Nat → Cd} (hc : IsCands w ac lc C) (hx : IsCands w' a' lc C) (hk : ∀ x, a' = some x → w''.heap[x.block]? = w'.heap[x.block]?) (hB : Below w.heap.size w w'') : IsCands w'' a' lc C := by
  refine ⟨hx.nil, hx.le, fun x hxx i hi => ?_⟩
  obtain ⟨hs, h⟩ := hx.at' x hxx i hi
  have hb : ∀ o, w''.cell? ⟨x.block, o, none⟩ = w'.cell? ⟨x.block, o, none⟩ := fun o => World.cell?_of_block (w := w') (hk x hxx)
  cases ac with
  | none => have := hc.nil rfl; omega
  | some y => exact ⟨hs, (hb _).trans h.c0, (hb _).trans h.c1, (hb _).trans h.c2, ((hc.at' y rfl i hi).2.ints).below hB, h.size⟩

/-- A wire token is handed back, with the first n candidates of C. -/
def WireOk (w : World) (s : ByteArray) (f : Nat) (ab : Option Addr) (lb cb : Nat) (isNil : Bool) (n : Nat) (C : Nat → Cd) (e : Ending) (w' : World) : Prop :=
  ∃ a' c', e = .returned (.agg #[.string s, .float .f64 f, .slice ab lb cb, .slice a' n c']) ∧ a'.isNone = isNil ∧ n ≤ c' ∧ c' ≤ 1048576 ∧ IsCands w' a' n C ∧ Below w.heap.size w w'

set_option maxRecDepth 100000 in
set_option maxHeartbeats 1000000 in
theorem toWireTok_any (s : ByteArray) (f : Nat) (ab : Option Addr) (lb cb : Nat) (ac : Option Addr) (lc cc : Nat) (C : Nat → Cd) (w : World) (hc : IsCands w ac lc C) (hl : lc ≤ 1048576) :
    Calls Try.prog 8 #[.agg #[.string s, .float .f64 f, .slice ab lb cb, .slice ac lc cc]] w (WireOk w s f ab lb cb ac.isNone lc C) := by
  have H : Hid (IsCands w ac lc C) := hc
  clear hc
  go_enter Try.func8, Try.ntmps8
  go_wp2
  have k1 : ((w.alloc (.cells #[.string s, .float .f64 f, .slice ab lb cb, .slice ac lc cc] 26)).alloc (.cells #[.string ⟨#[]⟩, .float .f64 0, .slice none 0 0, .slice none 0 0] 31)).heap[w.heap.size]? = some (.cells #[.string s, .float .f64 f, .slice ab lb cb, .slice ac lc cc] 26) := by
    rw [Deep.blk_alloc_lt _ _ _ (by simp), Deep.blk_alloc_new]
  have k2 : ((w.alloc (.cells #[.string s, .float .f64 f, .slice ab lb cb, .slice ac lc cc] 26)).alloc (.cells #[.string ⟨#[]⟩, .float .f64 0, .slice none 0 0, .slice none 0 0] 31)).heap[w.heap.size + 1]? = some (.cells #[.string ⟨#[]⟩, .float .f64 0, .slice none 0 0, .slice none 0 0] 31) := by
    have := Deep.blk_alloc_new (w.alloc (.cells #[.string s, .float .f64 f, .slice ab lb cb, .slice ac lc cc] 26)) (.cells #[.string ⟨#[]⟩, .float .f64 0, .slice none 0 0, .slice none 0 0] 31)
    simpa using this
  have k3 : Below w.heap.size w ((w.alloc (.cells #[.string s, .float .f64 f, .slice ab lb cb, .slice ac lc cc] 26)).alloc (.cells #[.string ⟨#[]⟩, .float .f64 0, .slice none 0 0, .slice none 0 0] 31)) := ((Below.refl _ _).alloc (Nat.le_refl _) _).alloc (by simp) _
  have k4 : ((w.alloc (.cells #[.string s, .float .f64 f, .slice ab lb cb, .slice ac lc cc] 26)).alloc (.cells #[.string ⟨#[]⟩, .float .f64 0, .slice none 0 0, .slice none 0 0] 31)).heap.size = w.heap.size + 2 := by simp
  generalize (w.alloc (.cells #[.string s, .float .f64 f, .slice ab lb cb, .slice ac lc cc] 26)).alloc (.cells #[.string ⟨#[]⟩, .float .f64 0, .slice none 0 0, .slice none 0 0] 31) = W1 at k1 k2 k3 k4 ⊢
  generalize hg : w.heap.size = g at k1 k2 k3 k4 ⊢
  have c0 := cell_at (i := 0) k1 rfl
  have c1 := cell_at (i := 1) k1 rfl
  have c2 := cell_at (i := 2) k1 rfl
  have c3 := cell_at (i := 3) k1 rfl
  have HK : Hid (W1.heap[g]? = some (.cells #[.string s, .float .f64 f, .slice ab lb cb, .slice ac lc cc] 26) ∧ W1.heap[g + 1]? = some (.cells #[.string ⟨#[]⟩, .float .f64 0, .slice none 0 0, .slice none 0 0] 31) ∧ Below g w W1 ∧ W1.heap.size = g + 2 ∧ w.heap.size = g) := ⟨k1, k2, k3, k4, hg⟩
  clear k1 k2 k3 k4 hg
  simp only [List.getElem_toArray, List.getElem_cons_zero, List.getElem_cons_succ] at c0 c1 c2 c3
  go_region_held3 (fun w' => w'.cell? ⟨g, 0, none⟩ = some (.string s) ∧ w'.cell? ⟨g, 1, none⟩ = some (.float .f64 f) ∧ w'.cell? ⟨g, 2, none⟩ = some (.slice ab lb cb) ∧ w'.cell? ⟨g, 3, none⟩ = some (.slice ac lc cc)) (go_keep)
    (first | (go_at_call 27; refine (toWireCands_any ac lc cc C _ ?_ hl).mono ?_; exact H.out.below (HK.out.2.2.2.2 ▸ HK.out.2.2.1.drew); rintro e w' ⟨a', c', rfl, x1, x2, x3, x4, x5, x6⟩; have q1 := tok_below x5 HK.out.1 HK.out.2.1 HK.out.2.2.1 HK.out.2.2.2.1 HK.out.2.2.2.2; have d0 := cell_at (i := 0) q1.1 rfl; have d1 := cell_at (i := 1) q1.1 rfl; have d2 := cell_at (i := 2) q1.1 rfl; have d3 := cell_at (i := 3) q1.1 rfl; have e0 := cell_at (i := 0) q1.2.1 rfl; have e1 := cell_at (i := 1) q1.2.1 rfl; have e2 := cell_at (i := 2) q1.2.1 rfl; have e3 := cell_at (i := 3) q1.2.1 rfl; have f0 := frozen_at q1.2.1 0; have f1 := frozen_at q1.2.1 1; have f2 := frozen_at q1.2.1 2; have f3 := frozen_at q1.2.1 3; have HX : Hid (a'.isNone = ac.isNone ∧ lc ≤ c' ∧ c' ≤ 1048576 ∧ IsCands w' a' lc C ∧ Below g w w' ∧ g + 2 ≤ w'.heap.size ∧ (∀ x, a' = some x → g + 2 ≤ x.block) ∧ w'.heap[g + 1]? = some (.cells #[.string ⟨#[]⟩, .float .f64 0, .slice none 0 0, .slice none 0 0] 31)) := ⟨isNone_iff x1, x2, x3, x4, q1.2.2.1, q1.2.2.2, fun x hx => by have h1 := x6 x hx; have h2 := HK.out.2.2.2.1; simp at h1; omega, q1.2.1⟩; clear x1 x2 x3 x4 x5 x6 q1; simp only [List.getElem_toArray, List.getElem_cons_zero, List.getElem_cons_succ] at d0 d1 d2 d3 e0 e1 e2 e3))
  go_wp2
  (try simp only [Exit.inBlock, Exit.then])
  have HF : Hid (WireOk w s f ab lb cb ac.isNone lc C (.returned (.agg #[.string s, .float .f64 f, .slice ab lb cb, .slice a' lc c'])) ((((w'.setCell ⟨g + 1, 0, none⟩ (.string s)).setCell ⟨g + 1, 1, none⟩ (.float .f64 f)).setCell ⟨g + 1, 2, none⟩ (.slice ab lb cb)).setCell ⟨g + 1, 3, none⟩ (.slice a' lc c'))) := by
    have hg := HK.out.2.2.2.2
    obtain ⟨y1, y2, y3, y4, y5, y6, y7, y8⟩ := HX.out
    have hB : Below w.heap.size w ((((w'.setCell ⟨g + 1, 0, none⟩ (.string s)).setCell ⟨g + 1, 1, none⟩ (.float .f64 f)).setCell ⟨g + 1, 2, none⟩ (.slice ab lb cb)).setCell ⟨g + 1, 3, none⟩ (.slice a' lc c')) := by
      rw [hg]
      exact (((y5.setCell (by simp) _).setCell (by simp) _).setCell (by simp) _).setCell (by simp) _
    refine ⟨a', c', rfl, y1, y2, y3, isCands_move H.out y4 (fun x hx => ?_) hB, hB⟩
    have h1 := y7 x hx
    rw [Deep.blk_setCell_other _ _ _ _ (by simp; omega), Deep.blk_setCell_other _ _ _ _ (by simp; omega), Deep.blk_setCell_other _ _ _ _ (by simp; omega), Deep.blk_setCell_other _ _ _ _ (by simp; omega)]
  refine bodyPost_ret (v := .agg #[.string s, .float .f64 f, .slice ab lb cb, .slice a' lc c']) ?_ rfl HF.out
  simp [results, Try.results8, go_sem, e0, e1, e2, e3]

set_option maxRecDepth 100000 in
set_option maxHeartbeats 1000000 in
theorem withCands_any (s : ByteArray) (f : Nat) (ab : Option Addr) (lb cb : Nat) (ac : Option Addr) (lc cc : Nat) (C : Nat → Cd) (n : Int) (hn : 0 ≤ n) (w : World) (hc : IsCands w ac lc C) (hl : lc ≤ cc) :
    Calls Try.prog 9 #[.agg #[.string s, .float .f64 f, .slice ab lb cb, .slice ac lc cc], .int .i64 n] w fun e w' => e = .returned (.agg #[.string s, .float .f64 f, .slice ab lb cb, .slice ac (min n lc).toNat cc]) ∧ Below w.heap.size w w' := by
  have H : Hid (IsCands w ac lc C) := hc
  clear hc
  have hB : ∀ o o', Below w.heap.size w ((w.alloc o).alloc o') := fun o o' => ((Below.refl _ _).alloc (Nat.le_refl _) o).alloc (by simp) o'
  have HB : Hid (∀ o o', Below w.heap.size w ((w.alloc o).alloc o')) := hB
  clear hB
  by_cases hnl : n ≤ lc
  · have e : (min n lc).toNat = n.toNat := by omega
    rw [e]
    have hk : n.toNat ≤ lc := by omega
    clear e
    cases ac with
    | none =>
      have h0 := H.out.nil rfl
      subst h0
      obtain rfl : n = 0 := by omega
      go_enter Try.func9, Try.ntmps9
      go_wp2
      all_goals (try simp only [Exit.inBlock, Exit.then])
      all_goals refine bodyPost_ret (v := .agg #[.string s, .float .f64 f, .slice ab lb cb, .slice none 0 cc]) (by simp [results, Try.results9, go_sem]) rfl ?_
      all_goals exact ⟨rfl, HB.out _ _⟩
    | some x =>
      go_enter Try.func9, Try.ntmps9
      go_wp2
      all_goals (try simp only [Exit.inBlock, Exit.then])
      all_goals refine bodyPost_ret (v := .agg #[.string s, .float .f64 f, .slice ab lb cb, .slice (some x) n.toNat cc]) (by simp [results, Try.results9, go_sem]) rfl ?_
      all_goals exact ⟨rfl, HB.out _ _⟩
  · have e : (min n lc).toNat = lc := by omega
    rw [e]
    clear e
    go_enter Try.func9, Try.ntmps9
    go_wp2
    cases ac with
    | none =>
      (try simp only [Exit.inBlock, Exit.then])
      refine bodyPost_ret (v := .agg #[.string s, .float .f64 f, .slice ab lb cb, .slice none lc cc]) (by simp [results, Try.results9, go_sem]) rfl ?_
      exact ⟨rfl, HB.out _ _⟩
    | some x =>
      (try simp only [Exit.inBlock, Exit.then])
      refine bodyPost_ret (v := .agg #[.string s, .float .f64 f, .slice ab lb cb, .slice (some x) lc cc]) (by simp [results, Try.results9, go_sem]) rfl ?_
      exact ⟨rfl, HB.out _ _⟩
end Go.Proofs.Qxb6618748a
