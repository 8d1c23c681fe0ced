/-
  (Field).Name, and the plain 'into' of ZZWalk.
-/
import Derived.Test.Qxb6618677aPs
import Derived.Deep.QuietTactic
import Derived.BigQuiet
import Derived.Deep.RegionWith
namespace Go.Proofs.Qxb6618677a
open Go.RowKit

def fieldV (bt : Nat) (t : Stif.Tok) : Value := .agg #[.pointer (some ⟨bt, 0, none⟩), .int .i64 t.tok, .int .i64 t.txt, .int .i64 0]
def nameOf (X : ByteArray) (t : Stif.Tok) : ByteArray := X.extract t.txt (t.txt + t.n)

theorem IsTree.alloc {w : World} {bt : Nat} {T X : ByteArray} (h : IsTree w bt T X) (o : Obj) : IsTree (w.alloc o) bt T X :=
  ⟨(Below.heap_alloc _ _ _ (Array.getElem?_eq_some_iff.1 h.blk).1).trans h.blk⟩
theorem drewN_drewN' (w : World) (a b : Nat) : (w.drewN a).drewN b = w.drewN (a + b) := by
  induction b with
  | zero => rfl
  | succ b ih => show ((w.drewN a).drewN b).drew = _; rw [ih]; rfl

set_option maxRecDepth 100000 in
set_option maxHeartbeats 1000000 in
theorem name_any (bt : Nat) (T X : ByteArray) (i x : Nat) (t : Stif.Tok) (w : World) (hT : T.size ≤ 1048576) (hX : X.size ≤ 1048576) (h : IsTree w bt T X) (ht : Stif.tokAt T i x = some t) (hn : x + t.n ≤ X.size) :
    Calls Try.prog 32 #[.agg #[.pointer (some ⟨bt, 0, none⟩), .int .i64 i, .int .i64 x, .int .i64 0]] w fun e w' => e = .returned (.string (X.extract x (x + t.n))) ∧ ∃ nq, w' = (w.alloc (.cells #[.pointer (some ⟨bt, 0, none⟩), .int .i64 i, .int .i64 x, .int .i64 0] 78)).drewN nq := by
  have h0 := h.c0
  have h1 := h.c1
  have hbt : bt < w.heap.size := (Array.getElem?_eq_some_iff.1 h.blk).1
  have HT : Hid (Stif.tokAt T i x = some t) := ht
  clear h ht
  go_enter Try.func32, Try.ntmps32
  go_wp2
  go_quiet ((go_at_call 41; exact Calls.quiet_of_same (token_tok T i x t _ hT HT.out)))
  go_wp2
  go_quiet (fail)
  go_wp2
  go_ret
  exact ⟨rfl, _, drewN_drewN' _ _ _⟩

set_option maxRecDepth 100000 in
set_option maxHeartbeats 1000000 in
/-- The plain 'into': under maxDepth, and not named avoid. -/
theorem into_any (bt bm ba : Nat) (T X av : ByteArray) (md : Int) (d i x : Nat) (t : Stif.Tok) (w : World) (hT : T.size ≤ 1048576) (hX : X.size ≤ 1048576) (h : IsTree w bt T X) (ht : Stif.tokAt T i x = some t) (hn : x + t.n ≤ X.size)
    (hm : w.cell? ⟨bm, 0, none⟩ = some (.int .i64 md)) (ha : w.cell? ⟨ba, 0, none⟩ = some (.string av)) (hbm : bm < w.heap.size) (hba : ba < w.heap.size) :
    Calls Try.prog 31 #[.int .i64 d, .agg #[.pointer (some ⟨bt, 0, none⟩), .int .i64 i, .int .i64 x, .int .i64 0], .pointer (some ⟨bm, 0, none⟩), .pointer (some ⟨ba, 0, none⟩)] w fun e w' => e = .returned (.bool (decide ((d : Int) < md) && !((X.extract x (x + t.n)).toList == av.toList))) ∧ Below w.heap.size w w' := by
  have hbt : bt < w.heap.size := (Array.getElem?_eq_some_iff.1 h.blk).1
  have HH : Hid (IsTree w bt T X ∧ Stif.tokAt T i x = some t) := ⟨h, ht⟩
  clear h ht
  by_cases hd : (d : Int) < md
  · have hdb : decide ((d : Int) < md) = true := by simpa using hd
    go_enter Try.func31, Try.ntmps31
    go_wp2
    go_region_with ((go_at_call 32; refine (name_any bt T X i x t _ hT hX ?_ HH.out.2 hn).mono ?_; exact ⟨(HH.out.1.alloc _).blk⟩; rintro e w' ⟨rfl, nq, rfl⟩))
    all_goals go_wp2
    all_goals go_ret
    all_goals
      refine ⟨?_, below_drewN (((Below.refl _ _).alloc (Nat.le_refl _) _).alloc (by simp) _) _⟩
      rw [hdb]
      rfl
  · have hdb : decide ((d : Int) < md) = false := by simpa using hd
    go_enter Try.func31, Try.ntmps31
    go_wp2
    go_quiet (fail)
    go_wp2
    go_ret
    exact ⟨by rw [hdb]; rfl, below_drewN ((Below.refl _ _).alloc (Nat.le_refl _) _) _⟩

end Go.Proofs.Qxb6618677a
