/-
  zzBytes of the two laws on Resolve: some bool.
-/
import Derived.Test.Qxb6618677aSm
namespace Go.Proofs.Qxb6618677a
open Go.RowKit

def AnyBool (w : World) (e : Ending) (w' : World) : Prop := ∃ b, e = .returned (.bool b) ∧ w' = w

set_option maxRecDepth 100000 in
theorem bytes20_big (pa : Option Addr) (n c : Nat) (ix : Int) (T X : ByteArray) (a b d : Int) (w : World) (h : (1048576 : Int) < n) :
    Calls Try.prog 20 #[.slice pa n c, .int .i64 ix, .string T, .string X, .int .i64 a, .int .i64 b, .int .i64 d] w fun e w' => e = .returned (.bool false) ∧ w' = w := by
  go_enter Try.func20, Try.ntmps20
  go_wp2
  go_ret
  exact ⟨rfl, rfl⟩

set_option maxRecDepth 100000 in
set_option maxHeartbeats 1000000 in
theorem bytes20_any (pa : Option Addr) (n c : Nat) (A : List ByteArray) (ix : Int) (T X : ByteArray) (a b d : Int) (w : World) (hn : (n : Int) ≤ 1048576) (hp : SR w pa n A) :
    Calls Try.prog 20 #[.slice pa n c, .int .i64 ix, .string T, .string X, .int .i64 a, .int .i64 b, .int .i64 d] w (AnyBool w) := by
  have H : Hid (SR w pa n A) := hp
  clear hp
  go_enter Try.func20, Try.ntmps20
  go_wp2
  go_loopg [15, 16] n (fun gk tv iv wr => ∃ (i : Nat) (t : Int), gk = n - i ∧ i ≤ n ∧ tv = .int .i64 t ∧ iv = .int .i64 i ∧ wr = w)
  case atStart => exact ⟨0, _, by omega, by omega, rfl, rfl, rfl⟩
  case round =>
    obtain ⟨i, t, hgk, hi, rfl, rfl, rfl⟩ := hrel
    by_cases hlt : i < n
    · obtain ⟨q, hq⟩ : ∃ q, A[i]? = some q := ⟨_, List.getElem?_eq_getElem (by have := H.out.len; omega)⟩
      obtain ⟨g, o, rfl, c1⟩ := H.out.cell i q hq
      have hltb : decide ((i : Int) < (n : Int)) = true := by simp; omega
      have hlt' : (i : Int) < (n : Int) := by omega
      clear hq
      go_wp2
      all_goals first | (go_ret; exact ⟨_, rfl, rfl⟩) | skip
      go_roundg (n - (i + 1))
      case measure => omega
      case rel => exact ⟨i + 1, _, rfl, by omega, rfl, by go_num, rfl⟩
    · have hltb : decide ((i : Int) < (n : Int)) = false := by simp; omega
      go_wp2
      all_goals (go_ret; exact ⟨_, rfl, rfl⟩)

set_option maxRecDepth 100000 in
theorem bytes26_big (pa : Option Addr) (n c : Nat) (ix : Int) (T X : ByteArray) (a b d : Int) (w : World) (h : (1048576 : Int) < n) :
    Calls Try.prog 26 #[.slice pa n c, .int .i64 ix, .string T, .string X, .int .i64 a, .int .i64 b, .int .i64 d] w fun e w' => e = .returned (.bool false) ∧ w' = w := by
  go_enter Try.func26, Try.ntmps26
  go_wp2
  go_ret
  exact ⟨rfl, rfl⟩

set_option maxRecDepth 100000 in
set_option maxHeartbeats 1000000 in
theorem bytes26_any (pa : Option Addr) (n c : Nat) (A : List ByteArray) (ix : Int) (T X : ByteArray) (a b d : Int) (w : World) (hn : (n : Int) ≤ 1048576) (hp : SR w pa n A) :
    Calls Try.prog 26 #[.slice pa n c, .int .i64 ix, .string T, .string X, .int .i64 a, .int .i64 b, .int .i64 d] w (AnyBool w) := by
  have H : Hid (SR w pa n A) := hp
  clear hp
  go_enter Try.func26, Try.ntmps26
  go_wp2
  go_loopg [15, 16] n (fun gk tv iv wr => ∃ (i : Nat) (t : Int), gk = n - i ∧ i ≤ n ∧ tv = .int .i64 t ∧ iv = .int .i64 i ∧ wr = w)
  case atStart => exact ⟨0, _, by omega, by omega, rfl, rfl, rfl⟩
  case round =>
    obtain ⟨i, t, hgk, hi, rfl, rfl, rfl⟩ := hrel
    by_cases hlt : i < n
    · obtain ⟨q, hq⟩ : ∃ q, A[i]? = some q := ⟨_, List.getElem?_eq_getElem (by have := H.out.len; omega)⟩
      obtain ⟨g, o, rfl, c1⟩ := H.out.cell i q hq
      have hltb : decide ((i : Int) < (n : Int)) = true := by simp; omega
      have hlt' : (i : Int) < (n : Int) := by omega
      clear hq
      go_wp2
      all_goals first | (go_ret; exact ⟨_, rfl, rfl⟩) | skip
      go_roundg (n - (i + 1))
      case measure => omega
      case rel => exact ⟨i + 1, _, rfl, by omega, rfl, by go_num, rfl⟩
    · have hltb : decide ((i : Int) < (n : Int)) = false := by simp; omega
      go_wp2
      all_goals (go_ret; exact ⟨_, rfl, rfl⟩)
end Go.Proofs.Qxb6618677a
