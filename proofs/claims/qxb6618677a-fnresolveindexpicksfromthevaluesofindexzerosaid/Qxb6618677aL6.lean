/-
  The law on Resolve's index, whatever the input.
-/
import Derived.Test.Qxb6618677aPi
import Derived.Test.Qxb6618677aLa
import Derived.Test.Qxb6618677aL0
namespace Go.Proofs.Qxb6618677a
open Go.RowKit

theorem law6 (a : Option Addr) (n c : Nat) (ix : Int) (T X : ByteArray) (tok txt skip : Int) (w : World) (h : PathIn w a n c) :
    Calls Try.prog 6 #[.slice a n c, .int .i64 ix, .string T, .string X, .int .i64 tok, .int .i64 txt, .int .i64 skip] w fun e w' => e = .returned (.bool true) ∧ Below w.heap.size w w' := by
  rcases h with rfl | h | ⟨g, o, Pa, nm, rfl, hn, hl, hp⟩
  · exact law6_nil a c ix T X tok txt skip w
  · exact law6_big a n c ix T X tok txt skip w h
  · exact law6_any g o n c Pa nm ix T X tok txt skip w hn hp hl
end Go.Proofs.Qxb6618677a
