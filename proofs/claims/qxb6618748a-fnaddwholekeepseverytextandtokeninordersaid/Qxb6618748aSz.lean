/-
  candsSize: some number; zzBytes: some bool, and where it is true the candidates are at most 1 << 20.
-/
import Derived.Test.Qxb6618748aCd
namespace Go.Proofs.Qxb6618748a
open Go.RowKit

set_option maxRecDepth 100000 in
set_option maxHeartbeats 1000000 in
theorem candsSize_any (a : Option Addr) (len cap : Nat) (C : Nat → Cd) (bd : Int) (w : World) (h : IsCands w a len C) :
    Calls Try.prog 7 #[.slice a len cap, .int .i64 bd] w fun e w' => (∃ r : Int, e = .returned (.int .i64 r)) ∧ ∃ n, w' = w.drewN n := by
  have hle := h.le
  simp only [maxLen] at hle
  have hle' : (len : Int) ≤ 9223372036854775807 := by omega
  clear hle
  have H : Hid (IsCands w a len C) := h
  clear h
  go_enter Try.func7, Try.ntmps7
  go_wp2
  go_loopg [5, 9] len (fun gk tv iv wr => ∃ (i m0 : Nat) (t : Int), gk = len - i ∧ i ≤ len ∧ tv = .int .i64 t ∧ iv = .int .i64 i ∧ wr = w.drewN m0)
  case atStart => exact ⟨0, 0, 0, by omega, by omega, rfl, rfl, rfl⟩
  case round =>
    obtain ⟨i, m0, t, hgk, hi, rfl, rfl, rfl⟩ := hrel
    by_cases hlt : i < len
    · obtain ⟨x, rfl⟩ : ∃ x, a = some x := by
        cases a with
        | none => have := H.out.nil rfl; omega
        | some x => exact ⟨x, rfl⟩
      obtain ⟨hs, c0, c1, c2, hint, hsz⟩ := H.out.at' x rfl i hlt
      obtain ⟨b, o, sp⟩ := x
      simp only at hs c0 c1 c2
      subst hs
      clear hint hsz
      generalize C i = c at c0 c1 c2
      obtain ⟨cs, cf, ca, cl, cc⟩ := c
      simp only at c0 c1 c2
      have hltb : decide ((i : Int) < (len : Int)) = true := by simp; omega
      have hlt' : (i : Int) < (len : Int) := by omega
      go_wp2
      go_quiet ((go_at_call 26; refine (grow_any _ _ _ _ _).mono ?_; rintro e w' ⟨rfl, rfl⟩; exact ⟨rfl, _, rfl⟩))
      go_wp2
      · go_ret
        exact ⟨⟨_, rfl⟩, _, rfl⟩
      · go_roundg (len - (i + 1))
        case measure => omega
        case rel => exact ⟨i + 1, m0 + nq, _, rfl, by omega, rfl, by go_num, rfl⟩
    · have hltb : decide ((i : Int) < (len : Int)) = false := by simp; omega
      go_wp2
      go_ret
      exact ⟨⟨_, rfl⟩, _, rfl⟩

def BytesOk (w : World) (lc : Nat) (e : Ending) (w' : World) : Prop := ∃ b, e = .returned (.bool b) ∧ (b = true → lc ≤ 1048576) ∧ Below w.heap.size w w'
set_option maxRecDepth 100000 in
set_option maxHeartbeats 1000000 in
theorem zzBytes_any (s : ByteArray) (f : Nat) (ab : Option Addr) (lb cb : Nat) (ac : Option Addr) (lc cc : Nat) (C : Nat → Cd) (p q : Int) (w : World) (hc : IsCands w ac lc C) (hs : s.size ≤ maxLen) (hlb : lb ≤ maxLen) :
    Calls Try.prog 6 #[.agg #[.string s, .float .f64 f, .slice ab lb cb, .slice ac lc cc], .int .i64 p, .int .i64 q] w (BytesOk w lc) := by
  have hle := hc.le
  simp only [maxLen] at hle hs hlb
  have hle' : (lc : Int) ≤ 9223372036854775807 := by omega
  clear hle
  have H : Hid (IsCands w ac lc C) := hc
  clear hc
  by_cases h1 : (s.size : Int) ≤ 1048576
  case neg =>
    go_enter Try.func6, Try.ntmps6
    go_wp2
    go_ret
    exact ⟨_, rfl, by simp, (Below.refl _ _).alloc (Nat.le_refl _) _⟩
  by_cases h2 : (lb : Int) ≤ 1048576
  case neg =>
    go_enter Try.func6, Try.ntmps6
    go_wp2
    go_ret
    exact ⟨_, rfl, by simp, (Below.refl _ _).alloc (Nat.le_refl _) _⟩
  by_cases h3 : (lc : Int) ≤ 1048576
  case neg =>
    go_enter Try.func6, Try.ntmps6
    go_wp2
    all_goals go_ret
    all_goals exact ⟨_, rfl, by simp, (Below.refl _ _).alloc (Nat.le_refl _) _⟩
  by_cases h4 : (s.size : Int) + lb ≤ 1048576
  case neg =>
    go_enter Try.func6, Try.ntmps6
    go_wp2
    all_goals go_ret
    all_goals exact ⟨_, rfl, by simp, (Below.refl _ _).alloc (Nat.le_refl _) _⟩
  by_cases h5 : (s.size : Int) + lb + lc ≤ 1048576
  case neg =>
    go_enter Try.func6, Try.ntmps6
    go_wp2
    all_goals go_ret
    all_goals exact ⟨_, rfl, by simp, (Below.refl _ _).alloc (Nat.le_refl _) _⟩
  have hB : Below w.heap.size w (w.alloc (.cells #[.string s, .float .f64 f, .slice ab lb cb, .slice ac lc cc] 26)) := (Below.refl _ _).alloc (Nat.le_refl _) _
  have HB : Hid (Below w.heap.size w (w.alloc (.cells #[.string s, .float .f64 f, .slice ab lb cb, .slice ac lc cc] 26))) := hB
  clear hB
  go_enter Try.func6, Try.ntmps6
  go_wp2
  go_loopg [7, 8] lc (fun gk nv iv wr => ∃ (i : Nat) (t : Int), gk = lc - i ∧ i ≤ lc ∧ nv = .int .i64 t ∧ iv = .int .i64 i ∧ wr = w.alloc (.cells #[.string s, .float .f64 f, .slice ab lb cb, .slice ac lc cc] 26))
  case atStart => exact ⟨0, _, by omega, by omega, rfl, rfl, rfl⟩
  case round =>
    obtain ⟨i, t, hgk, hi, rfl, rfl, rfl⟩ := hrel
    by_cases hlt : i < lc
    · obtain ⟨x, rfl⟩ : ∃ x, ac = some x := by
        cases ac with
        | none => have := H.out.nil rfl; omega
        | some x => exact ⟨x, rfl⟩
      obtain ⟨hsp, c0, c1, c2, hint, hsz⟩ := H.out.at' x rfl i hlt
      obtain ⟨b, o, sp⟩ := x
      simp only at hsp c0 c1 c2
      subst hsp
      clear hint hsz
      generalize C i = c at c0 c1 c2
      obtain ⟨cs, cf, ca, cl, cc⟩ := c
      simp only at c0 c1 c2
      have hbl : b < w.heap.size := cell_lt c0
      have hltb : decide ((i : Int) < (lc : Int)) = true := by simp; omega
      have hlt' : (i : Int) < (lc : Int) := by omega
      go_wp2
      all_goals first | (go_ret; exact ⟨_, rfl, by simp, HB.out⟩) | skip
      go_roundg (lc - (i + 1))
      case measure => omega
      case rel => exact ⟨i + 1, _, rfl, by omega, rfl, by go_num, rfl⟩
    · have hltb : decide ((i : Int) < (lc : Int)) = false := by simp; omega
      go_wp2
      go_ret
      exact ⟨_, rfl, fun _ => by omega, HB.out⟩
end Go.Proofs.Qxb6618748a
