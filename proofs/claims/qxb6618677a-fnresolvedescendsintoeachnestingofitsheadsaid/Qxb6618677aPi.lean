/-
  The argument path, as it comes in.
-/
import Derived.Test.Qxb6618677aZb
import Derived.WideShapes
namespace Go.Proofs.Qxb6618677a
open Go.RowKit

/-- None; or beyond the gate; or a row of strings. -/
def PathIn (w : World) (a : Option Addr) (n c : Nat) : Prop :=
  n = 0 ∨ (1048576 : Int) < n ∨ ∃ g o Pa nm, a = some ⟨g, o, none⟩ ∧ n = Pa.length + 1 ∧ Pa.length ≤ 1048575 ∧ StrRow w (.slice (some ⟨g, o, none⟩) n c) g (Pa ++ [nm])
theorem path_in {w : World} {x : Addr} {n c : Nat} {Sx : Nat → ByteArray} (hl : n ≤ c) (hm : c ≤ maxLen) (hc : ∀ i, i < n → w.cell? (x.add i) = some (.string (Sx i))) : PathIn w (some x) n c := by
  by_cases h0 : n = 0
  · exact .inl h0
  by_cases h1 : (1048576 : Int) < n
  · exact .inr (.inl h1)
  refine .inr (.inr ?_)
  obtain ⟨g, o, sp⟩ := x
  have hz := hc 0 (by omega)
  have hsp : sp = none := by simpa [Addr.add] using World.cell?_spot hz
  subst hsp
  obtain ⟨k, rfl⟩ : ∃ k, n = k + 1 := ⟨n - 1, by omega⟩
  refine ⟨g, o, (List.range k).map Sx, Sx k, rfl, by simp, by simp; omega, ⟨⟨o, c, by simp, by simpa using hl, hm, fun i q hq => ?_⟩, ?_⟩⟩
  · have e : (List.range k).map Sx ++ [Sx k] = (List.range (k + 1)).map Sx := by rw [List.range_succ]; simp
    rw [e, List.getElem?_map] at hq
    obtain ⟨j, hj, rfl⟩ := Option.map_eq_some_iff.1 hq
    have hjl := (List.getElem?_eq_some_iff.1 hj).1
    rw [List.length_range] at hjl
    have hji : j = i := by
      have := (List.getElem?_eq_some_iff.1 hj).2
      simpa using this.symm
    subst hji
    have := hc j hjl
    rw [Go.WideShapes.add_plain] at this
    exact this
  · rw [Go.WideShapes.add_plain] at hz
    exact cell_lt' hz
end Go.Proofs.Qxb6618677a
