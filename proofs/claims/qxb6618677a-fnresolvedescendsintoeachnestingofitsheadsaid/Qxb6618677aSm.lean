/-
  Slices of strings that can be read; zzSameStrings of two that hold the same.
-/
import Derived.Test.Qxb6618677aRs
import Derived.Test.Qxb6618677aNp
import Derived.BigQuiet
import Derived.Deep.QuietTactic
import Derived.Deep.LoopGhost
namespace Go.Proofs.Qxb6618677a
open Go.RowKit

/-- A slice value that reads as the strings A. -/
structure SR (w : World) (a : Option Addr) (n : Nat) (A : List ByteArray) : Prop where
  len : n = A.length
  le : A.length ≤ 4398046511104
  cell : ∀ (i : Nat) q, A[i]? = some q → ∃ g o, a = some ⟨g, o, none⟩ ∧ w.cell? ⟨g, o + i, none⟩ = some (.string q)
theorem cell_lt' {w : World} {a : Addr} {v : Value} (h : w.cell? a = some v) : a.block < w.heap.size := by
  by_cases hl : a.block < w.heap.size
  · exact hl
  · have h0 : w.heap[a.block]? = none := by simp; omega
    simp [World.cell?, h0] at h
theorem SR.below {w w' : World} {a : Option Addr} {n : Nat} {A : List ByteArray} (h : SR w a n A) (hb : Below w.heap.size w w') : SR w' a n A :=
  ⟨h.len, h.le, fun i q hq => by
    obtain ⟨g, o, h1, h2⟩ := h.cell i q hq
    exact ⟨g, o, h1, by rw [hb.cell (cell_lt' h2)]; exact h2⟩⟩
theorem SR.nil (w : World) : SR w none 0 [] := ⟨rfl, by simp, fun i q hq => by simp at hq⟩
theorem SR.of_owns {w : World} {base : Nat} {v : Value} {A : List ByteArray} (h : w.ownsRow base 9 1 v A.length (A.map .string)) (hl : A.length ≤ 4398046511104) : ∃ a c, v = .slice a A.length c ∧ SR w a A.length A := by
  rcases h.2 with ⟨h1, h2⟩ | ⟨g, cap, cur, hv, hg, hh, hr⟩
  · have : A = [] := List.eq_nil_of_length_eq_zero h2
    subst this
    exact ⟨none, 0, h1, SR.nil w⟩
  · subst hv
    refine ⟨_, _, rfl, rfl, hl, fun i q hq => ⟨g, 0, rfl, ?_⟩⟩
    have hi : i < A.length := (List.getElem?_eq_some_iff.1 hq).1
    have := h.cellAt i (by omega)
    rw [Nat.zero_add, this, List.getElem?_map, hq]; rfl
theorem SR.of_str {w : World} {v : Value} {g : Nat} {P : List ByteArray} (h : StrRow w v g P) (hl : P.length ≤ 4398046511104) : ∃ a c, v = .slice a P.length c ∧ SR w a P.length P := by
  obtain ⟨o, c, rfl, _, _, hc⟩ := h.ex
  exact ⟨_, _, rfl, rfl, hl, fun i q hq => ⟨g, o, rfl, hc i q hq⟩⟩

set_option maxRecDepth 100000 in
theorem same_eq (a b : Option Addr) (n c d : Nat) (A : List ByteArray) (w : World) (ha : SR w a n A) (hb : SR w b n A) :
    Calls Try.prog 25 #[.slice a n c, .slice b n d] w fun e w' => e = .returned (.bool true) ∧ ∃ k, w' = w.drewN k := by
  have H : Hid (SR w a n A ∧ SR w b n A) := ⟨ha, hb⟩
  have hle : (n : Int) ≤ 4398046511104 := by have := ha.len; have := ha.le; omega
  clear ha hb
  go_enter Try.func25, Try.ntmps25
  go_wp2
  go_loopg [5] n (fun gk iv wr => ∃ i m0 : Nat, gk = n - i ∧ i ≤ n ∧ iv = .int .i64 i ∧ wr = w.drewN m0)
  case atStart => exact ⟨0, 0, by omega, by omega, rfl, rfl⟩
  case round =>
    obtain ⟨i, m0, hgk, hi, rfl, rfl⟩ := hrel
    by_cases hlt : i < n
    · obtain ⟨q, hq⟩ : ∃ q, A[i]? = some q := ⟨_, List.getElem?_eq_getElem (by have := H.out.1.len; omega)⟩
      obtain ⟨g1, o1, rfl, c1⟩ := H.out.1.cell i q hq
      obtain ⟨g2, o2, rfl, c2⟩ := H.out.2.cell i q hq
      have hltb : decide ((i : Int) < (n : Int)) = true := by simp; omega
      have hlt' : (i : Int) < (n : Int) := by omega
      clear hq
      go_wp2
      go_quiet (fail)
      go_wp2
      go_roundg (n - (i + 1))
      case measure => omega
      case rel => exact ⟨i + 1, m0 + nq, rfl, by omega, by go_num, rfl⟩
    · have hltb : decide ((i : Int) < (n : Int)) = false := by simp; omega
      go_wp2
      go_ret
      exact ⟨rfl, _, rfl⟩
end Go.Proofs.Qxb6618677a
