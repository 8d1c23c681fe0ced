/-
  The law on Resolve's head, whatever the input.
-/
import Derived.Test.Qxb6618677aPi
import Derived.Test.Qxb6618677aLu
import Derived.Test.Qxb6618677aLs
namespace Go.Proofs.Qxb6618677a
open Go.RowKit

theorem law7 (a : Option Addr) (n c : Nat) (ix : Int) (T X : ByteArray) (tok txt skip : Int) (w : World) (h : PathIn w a n c) :
    Calls Try.prog 7 #[.slice a n c, .int .i64 ix, .string T, .string X, .int .i64 tok, .int .i64 txt, .int .i64 skip] w fun e w' => e = .returned (.bool true) ∧ Below w.heap.size w w' := by
  rcases h with rfl | h | ⟨g, o, Pa, nm, rfl, hn, hl, hp⟩
  · exact law7_short a 0 c [] ix T X tok txt skip w ⟨rfl, by simp, fun i q hq => by simp at hq⟩ (by decide)
  · exact law7_big a n c ix T X tok txt skip w h
  · by_cases h2 : (2 : Int) ≤ n
    · exact law7_any g o n c Pa nm ix T X tok txt skip w hn hp hl h2
    · obtain ⟨a0, c0, hv0, hsr⟩ := SR.of_str hp (by simp; omega)
      simp at hv0
      obtain ⟨rfl, hn', rfl⟩ := hv0
      have e : n = (Pa ++ [nm]).length := by simp [hn]
      refine law7_short _ n c (Pa ++ [nm]) ix T X tok txt skip w ?_ (by omega)
      rw [e]
      exact hsr
end Go.Proofs.Qxb6618677a
