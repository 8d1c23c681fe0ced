/-
  The law on Resolve's head: a path of less than two names; a path beyond the gate.
-/
import Derived.Test.Qxb6618677aZb
import Derived.Test.Qxb6618677aPi
import Derived.Deep.LoopGhost
namespace Go.Proofs.Qxb6618677a
open Go.RowKit

set_option maxRecDepth 100000 in
theorem law7_big (pa : Option Addr) (n c : Nat) (ix : Int) (T X : ByteArray) (tok txt skip : Int) (w : World) (h : (1048576 : Int) < n) :
    Calls Try.prog 7 #[.slice pa n c, .int .i64 ix, .string T, .string X, .int .i64 tok, .int .i64 txt, .int .i64 skip] w fun e w' => e = .returned (.bool true) ∧ Below w.heap.size w w' := by
  go_enter Try.func7, Try.ntmps7
  go_wp2_with fail
  refine (bytes26_big _ n c _ _ _ _ _ _ _ h).mono ?_
  rintro e w ⟨rfl, rfl⟩
  go_wp2
  go_ret
  exact ⟨rfl, Below.refl _ _⟩

set_option maxRecDepth 100000 in
set_option maxHeartbeats 4000000 in
theorem law7_short (pa : Option Addr) (n c : Nat) (A : List ByteArray) (ix : Int) (T X : ByteArray) (tok txt skip : Int) (w : World) (hp : SR w pa n A) (hn2 : (n : Int) < 2) :
    Calls Try.prog 7 #[.slice pa n c, .int .i64 ix, .string T, .string X, .int .i64 tok, .int .i64 txt, .int .i64 skip] w fun e w' => e = .returned (.bool true) ∧ Below w.heap.size w w' := by
  have HP : Hid (SR w pa n A) := hp
  clear hp
  have hnl : (n : Int) ≤ 1048576 := by omega
  go_enter Try.func7, Try.ntmps7
  go_wp2_with fail
  refine (bytes26_any _ n c A _ _ _ _ _ _ _ hnl HP.out).mono ?_
  rintro e w ⟨b, rfl, rfl⟩
  cases b with
  | false =>
    go_wp2
    go_ret
    exact ⟨rfl, Below.refl _ _⟩
  | true =>
  by_cases hT : (T.size : Int) ≤ 1048576
  case neg =>
    go_wp2
    go_ret
    exact ⟨rfl, Below.refl _ _⟩
  by_cases hX : (X.size : Int) ≤ 1048576
  case neg =>
    go_wp2
    go_ret
    exact ⟨rfl, Below.refl _ _⟩
  by_cases htot : (T.size : Int) + X.size + 16 * n ≤ 1048576
  case neg =>
    go_wp2
    all_goals (go_ret; exact ⟨rfl, Below.refl _ _⟩)
  go_wp2_with fail
  go_loopg [15, 16] n (fun gk tv iv wr => ∃ (i : Nat) (t : Int), gk = n - i ∧ i ≤ n ∧ tv = .int .i64 t ∧ iv = .int .i64 i ∧ wr = w)
  case atStart => exact ⟨0, _, by omega, by omega, rfl, rfl, rfl⟩
  case round =>
    obtain ⟨i, t, hgk, hi, rfl, rfl, rfl⟩ := hrel
    by_cases hlt : i < n
    · obtain ⟨q, hq⟩ : ∃ q, A[i]? = some q := ⟨_, List.getElem?_eq_getElem (by have := HP.out.len; omega)⟩
      obtain ⟨g', o', rfl, c1⟩ := HP.out.cell i q hq
      have hltb : decide ((i : Int) < (n : Int)) = true := by simp; omega
      have hlt' : (i : Int) < (n : Int) := by omega
      clear hq
      go_wp2
      all_goals first | (go_ret; exact ⟨rfl, Below.refl _ _⟩) | skip
      go_roundg (n - (i + 1))
      case measure => omega
      case rel => exact ⟨i + 1, _, rfl, by omega, rfl, by go_num, rfl⟩
    · have hltb : decide ((i : Int) < (n : Int)) = false := by simp; omega
      have hlt2 : (n : Int) ≤ (i : Int) := by omega
      clear hgk hi hlt
      go_wp2
      go_ret
      exact ⟨rfl, Below.refl _ _⟩
end Go.Proofs.Qxb6618677a
