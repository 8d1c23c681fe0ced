/-
  sameFloat of a float with itself; minInt; grow; sameInts of a slice with itself.
-/
import Derived.Test.Qxb6618748aProg
import Derived.WalkKit
import Derived.WalkSpells
import Derived.WalkLawsBesides
import Derived.Laws.FloatArith
import Derived.Below
namespace Go.Proofs.Qxb6618748a
open Go.RowKit

@[go_sem] theorem run_store_float (P : Program) (w : World) (a : Addr) (m : Mode) (k : FloatKind) (n : Nat) : (store a (.float k n) m).run P w = stored P w a (.float k n) m := run_store P w a _ m rfl

theorem datum_order_self (d : Ieee.Datum) : d.order d = some .eq ∨ ∃ s f, d = .nan s f := by
  cases d with
  | number s m i => left; simp [Ieee.Datum.order]
  | infinity s => left; simp [Ieee.Datum.order]
  | nan s f => right; exact ⟨s, f, rfl⟩

theorem order_self {x : Nat} : FloatKind.f64.format.order x x = some .eq ∨ FloatKind.f64.format.order x x = none := by
  show (FloatKind.f64.format.read x).order _ = _ ∨ (FloatKind.f64.format.read x).order _ = _
  rcases datum_order_self (FloatKind.f64.format.read x) with h | ⟨s, f, h⟩
  · exact .inl h
  · right; rw [h]; rfl

theorem div_some {x : Nat} (h : FloatKind.f64.format.order x x = some .eq) : ∃ r, FloatKind.f64.format.div 4607182418800017408 x = some r := by
  have h1 : FloatKind.f64.format.read 4607182418800017408 = .number false 4503599627370496 (-52) := by kernel_rfl
  have h' : (FloatKind.f64.format.read x).order (FloatKind.f64.format.read x) = some .eq := h
  unfold Ieee.Format.div
  rw [h1]
  cases hx : FloatKind.f64.format.read x with
  | number s m i =>
    by_cases hm : m = 0
    · exact ⟨_, by simp [Ieee.Datum.quotient, hm]; rfl⟩
    · exact ⟨_, by simp only [Ieee.Datum.quotient, hm, if_false]; rfl⟩
  | infinity s => exact ⟨_, by unfold Ieee.Datum.quotient; rfl⟩
  | nan s f => rw [hx] at h'; simp [Ieee.Datum.order] at h'

set_option maxRecDepth 100000 in
theorem sameFloat_self (x : Nat) (w : World) : Calls Try.prog 28 #[.float .f64 x, .float .f64 x] w fun e w' => e = .returned (.bool true) ∧ w' = w := by
  rcases order_self (x := x) with h | h
  · obtain ⟨r, hr⟩ := div_some h
    have hq : ∀ w : World, (binOp .quo 22 (.float .f64 4607182418800017408) (.float .f64 x)).run Try.prog w = .ok (.float .f64 r) w := fun w => run_float_arith w .quo 22 .f64 _ _ r hr
    clear hr
    go_enter Try.func28, Try.ntmps28
    go_wp2
    all_goals (go_ret; exact ⟨rfl, rfl⟩)
  · go_enter Try.func28, Try.ntmps28
    go_wp2
    all_goals (go_ret; exact ⟨rfl, rfl⟩)

set_option maxRecDepth 100000 in
theorem minInt_any (a b : Int) (w : World) : Calls Try.prog 10 #[.int .i64 a, .int .i64 b] w fun e w' => e = .returned (.int .i64 (min a b)) ∧ w' = w := by
  by_cases h : a < b
  · have e : min a b = a := by omega
    rw [e]
    clear e
    go_enter Try.func10, Try.ntmps10
    go_wp2
    go_ret
    exact ⟨rfl, rfl⟩
  · have e : min a b = b := by omega
    rw [e]
    clear e
    go_enter Try.func10, Try.ntmps10
    go_wp2
    go_ret
    exact ⟨rfl, rfl⟩

def growV (a b c d : Int) : Int :=
  if d < a then wrap64 (d + 1) else if wrap64 ((wrap64 (d - a)).tdiv 8) < b then wrap64 (d + 1) else if wrap64 (d - wrap64 (a + wrap64 (8 * b))) < c then wrap64 (d + 1) else wrap64 (wrap64 (a + wrap64 (8 * b)) + c)
set_option maxRecDepth 100000 in
theorem grow_any (a b c d : Int) (w : World) : Calls Try.prog 26 #[.int .i64 a, .int .i64 b, .int .i64 c, .int .i64 d] w fun e w' => e = .returned (.int .i64 (growV a b c d)) ∧ w' = w := by
  go_enter Try.func26, Try.ntmps26
  go_wp2
  all_goals (go_ret; refine ⟨?_, rfl⟩; unfold growV; (repeat' split) <;> first | rfl | omega)
end Go.Proofs.Qxb6618748a
