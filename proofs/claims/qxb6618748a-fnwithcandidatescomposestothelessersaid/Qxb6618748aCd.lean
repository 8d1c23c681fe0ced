/-
  A slice of ints, a slice of candidates as they lie in a world; sameInts of a slice with itself.
-/
import Derived.Test.Qxb6618748aSf
import Derived.Deep.LoopGhost
import Derived.BigQuiet
import Derived.Deep.QuietTactic
import Derived.WideShapes
import Derived.Deep.Draws
namespace Go.Proofs.Qxb6618748a
open Go.RowKit

theorem cell_lt {w : World} {a : Addr} {v : Value} (h : w.cell? a = some v) : a.block < w.heap.size := by
  by_cases hl : a.block < w.heap.size
  · exact hl
  · have h0 : w.heap[a.block]? = none := by simp; omega
    simp [World.cell?, h0] at h
theorem below_cell {w w' : World} (hb : Below w.heap.size w w') {a : Addr} {v : Value} (h : w.cell? a = some v) : w'.cell? a = some v := by
  rw [hb.cell (cell_lt h)]; exact h
theorem below_drewN {B : Nat} {a w : World} (h : Below B a w) (n : Nat) : Below B a (w.drewN n) := h.trans ⟨rfl, rfl, rfl, Nat.le_refl _, fun _ _ => rfl⟩

/-- A slice of ints that can be read. -/
structure IsInts (w : World) (a : Option Addr) (len : Nat) : Prop where
  nil : a = none → len = 0
  le : len ≤ maxLen
  cell : ∀ x, a = some x → ∀ i, i < len → x.spot = none ∧ ∃ z : Int, w.cell? ⟨x.block, x.off + i, none⟩ = some (.int .i64 z)
theorem IsInts.below {w w' : World} {a : Option Addr} {len : Nat} (h : IsInts w a len) (hb : Below w.heap.size w w') : IsInts w' a len :=
  ⟨h.nil, h.le, fun x hx i hi => ⟨(h.cell x hx i hi).1, let ⟨z, hz⟩ := (h.cell x hx i hi).2; ⟨z, below_cell hb hz⟩⟩⟩

structure Cd where
  s : ByteArray
  f : Nat
  a : Option Addr
  l : Nat
  c : Nat
/-- The empty candidate. -/
def Cd.zero : Cd := ⟨ByteArray.empty, 0, none, 0, 0⟩
/-- The three cells of a candidate. -/
structure CandAt (w : World) (b o : Nat) (c : Cd) : Prop where
  c0 : w.cell? ⟨b, o, none⟩ = some (.string c.s)
  c1 : w.cell? ⟨b, o + 1, none⟩ = some (.float .f64 c.f)
  c2 : w.cell? ⟨b, o + 2, none⟩ = some (.slice c.a c.l c.c)
  ints : IsInts w c.a c.l
  size : c.s.size ≤ maxLen
theorem CandAt.below {w w' : World} {b o : Nat} {c : Cd} (h : CandAt w b o c) (hb : Below w.heap.size w w') : CandAt w' b o c :=
  ⟨below_cell hb h.c0, below_cell hb h.c1, below_cell hb h.c2, h.ints.below hb, h.size⟩
structure IsCands (w : World) (a : Option Addr) (len : Nat) (C : Nat → Cd) : Prop where
  nil : a = none → len = 0
  le : len ≤ maxLen
  at' : ∀ x, a = some x → ∀ i, i < len → x.spot = none ∧ CandAt w x.block (x.off + i * 3) (C i)
theorem IsCands.below {w w' : World} {a : Option Addr} {len : Nat} {C : Nat → Cd} (h : IsCands w a len C) (hb : Below w.heap.size w w') : IsCands w' a len C :=
  ⟨h.nil, h.le, fun x hx i hi => ⟨(h.at' x hx i hi).1, (h.at' x hx i hi).2.below hb⟩⟩
theorem IsCands.take {w : World} {a : Option Addr} {len : Nat} {C : Nat → Cd} (h : IsCands w a len C) {k : Nat} (hk : k ≤ len) : IsCands w a k C :=
  ⟨fun hn => by have := h.nil hn; omega, by have := h.le; omega, fun x hx i hi => h.at' x hx i (by omega)⟩

theorem Try.nil23 (w : World) (a : Option Addr) (n c : Nat) : (binOp .eql 23 (.slice a n c) (.slice none 0 0)).run Try.prog w = .ok (.bool a.isNone) w := Lib.run_eql_slice_nil w 23 3 a n c 0 0 Try.underlying23
theorem Try.nil24 (w : World) (a : Option Addr) (n c : Nat) : (binOp .eql 24 (.slice a n c) (.slice none 0 0)).run Try.prog w = .ok (.bool a.isNone) w := Lib.run_eql_slice_nil w 24 62 a n c 0 0 Try.underlying24
theorem Try.nil29 (w : World) (a : Option Addr) (n c : Nat) : (binOp .eql 29 (.slice a n c) (.slice none 0 0)).run Try.prog w = .ok (.bool a.isNone) w := Lib.run_eql_slice_nil w 29 68 a n c 0 0 Try.underlying29

set_option maxRecDepth 100000 in
theorem sameInts_self (a : Option Addr) (len cap : Nat) (w : World) (h : IsInts w a len) :
    Calls Try.prog 29 #[.slice a len cap, .slice a len cap] w fun e w' => e = .returned (.bool true) ∧ ∃ n, w' = w.drewN n := by
  have hnl := Try.nil23
  have hle := h.le
  simp only [maxLen] at hle
  have hle' : (len : Int) ≤ 9223372036854775807 := by omega
  clear hle
  cases a with
  | none =>
    have h0 := h.nil rfl
    subst h0
    clear h
    go_enter Try.func29, Try.ntmps29
    go_wp2
    go_loopg [5] 0 (fun gk iv wr => iv = .int .i64 0 ∧ wr = w)
    case atStart => exact ⟨rfl, rfl⟩
    case round =>
      obtain ⟨rfl, rfl⟩ := hrel
      go_wp2
      go_ret
      exact ⟨rfl, 0, rfl⟩
  | some x =>
    have H : Hid (IsInts w (some x) len) := h
    clear h
    go_enter Try.func29, Try.ntmps29
    go_wp2
    go_loopg [5] len (fun gk iv wr => ∃ i m0 : Nat, gk = len - i ∧ i ≤ len ∧ iv = .int .i64 i ∧ wr = w.drewN m0)
    case atStart => exact ⟨0, 0, by omega, by omega, rfl, rfl⟩
    case round =>
      obtain ⟨i, m0, hgk, hi, rfl, rfl⟩ := hrel
      by_cases hlt : i < len
      · obtain ⟨hs, z, hz⟩ := H.out.cell x rfl i hlt
        obtain ⟨b, o, sp⟩ := x
        simp only at hs hz
        subst hs
        have hltb : decide ((i : Int) < (len : Int)) = true := by simp; omega
        have hlt' : (i : Int) < (len : Int) := by omega
        go_wp2
        go_quiet (fail)
        go_wp2
        go_roundg (len - (i + 1))
        case measure => omega
        case rel => exact ⟨i + 1, m0 + nq, rfl, by omega, by go_num, rfl⟩
      · have hltb : decide ((i : Int) < (len : Int)) = false := by simp; omega
        go_wp2
        go_ret
        exact ⟨rfl, _, rfl⟩
end Go.Proofs.Qxb6618748a
