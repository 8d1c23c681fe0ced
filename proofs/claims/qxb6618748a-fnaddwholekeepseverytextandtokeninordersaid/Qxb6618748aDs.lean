/-
  sameInts of two slices that hold the same.
-/
import Derived.Test.Qxb6618748aDx
namespace Go.Proofs.Qxb6618748a
open Go.RowKit

set_option maxRecDepth 100000 in
set_option maxHeartbeats 1000000 in
theorem sameInts_eq (bd base : Nat) (a1 a2 : Option Addr) (I : List Int) (c1 c2 : Nat) (w : World) (h1 : IntsAt bd base w a1 I) (h2 : IntsAt bd base w a2 I) (hn : a1.isNone = a2.isNone) :
    Calls Try.prog 29 #[.slice a1 I.length c1, .slice a2 I.length c2] w (YesN w) := by
  have hnl := Try.nil23
  have hle := h1.le
  have hle' : (I.length : Int) ≤ 1048576 := by omega
  have H : Hid (IntsAt bd base w a1 I ∧ IntsAt bd base w a2 I) := ⟨h1, h2⟩
  clear h1 h2
  cases a1 with
  | none =>
    cases a2 with
    | some x => simp at hn
    | none =>
      have h0 : I = [] := H.out.1.nil rfl
      subst h0
      clear hn
      go_enter Try.func29, Try.ntmps29
      go_wp2
      go_loopg [5] 0 (fun gk iv wr => iv = .int .i64 0 ∧ wr = w)
      case atStart => exact ⟨rfl, rfl⟩
      case round =>
        obtain ⟨rfl, rfl⟩ := hrel
        go_wp2
        go_ret
        exact ⟨rfl, Below.refl _ _⟩
  | some x1 =>
    cases a2 with
    | none => simp at hn
    | some x2 =>
      clear hn
      go_enter Try.func29, Try.ntmps29
      go_wp2
      go_loopg [5] I.length (fun gk iv wr => ∃ i m0 : Nat, gk = I.length - i ∧ i ≤ I.length ∧ iv = .int .i64 (i : Int) ∧ wr = w.drewN m0)
      case atStart => exact ⟨0, 0, by omega, by omega, rfl, rfl⟩
      case round =>
        obtain ⟨i, m0, hgk, hi, rfl, rfl⟩ := hrel
        by_cases hlt : i < I.length
        · obtain ⟨z, hz⟩ : ∃ z, I[i]? = some z := ⟨_, List.getElem?_eq_getElem hlt⟩
          obtain ⟨_, _, g1, o1, hx1, _, _, hc1⟩ := H.out.1.cell i z hz
          obtain ⟨_, _, g2, o2, hx2, _, _, hc2⟩ := H.out.2.cell i z hz
          cases hx1
          cases hx2
          have hltb : decide ((i : Int) < (I.length : Int)) = true := by simp; omega
          have hlt' : (i : Int) < (I.length : Int) := by omega
          clear hz
          go_wp2
          go_quiet (fail)
          go_wp2
          go_roundg (I.length - (i + 1))
          case measure => omega
          case rel => exact ⟨i + 1, m0 + nq, rfl, by omega, by go_num, rfl⟩
        · have hltb : decide ((i : Int) < (I.length : Int)) = false := by simp; omega
          go_wp2
          go_ret
          exact ⟨rfl, below_drewN (Below.refl _ _) _⟩
end Go.Proofs.Qxb6618748a
