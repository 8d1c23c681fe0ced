/-
  The argument of type Tok, opened.
-/
import Derived.Test.Qxb6618748aLaw
import Derived.ProofKit
import Derived.Deep.Slices
import Derived.Deep.Strs
import Derived.Lib.SmallJoins
namespace Go.Proofs.Qxb6618748a
open Go.ChangeShapes Go.WideShapes Go.RowKit Go.Deep Go.Joins

theorem Try.cells3 : Try.prog.cellsOf 3 = 1 := by kernel_rfl
theorem Try.cells26 : Try.prog.cellsOf 26 = 4 := by kernel_rfl
theorem Try.cells62 : Try.prog.cellsOf 62 = 3 := by kernel_rfl
theorem Try.cells9 : Try.prog.cellsOf 9 = 1 := by kernel_rfl
theorem Try.cells22 : Try.prog.cellsOf 22 = 1 := by kernel_rfl
theorem Try.cells23 : Try.prog.cellsOf 23 = 1 := by kernel_rfl

section
variable {H : Type} {enc : TypeId × Value → H} {w : World} {held : Bool}

theorem trod_float {P : Program} {base : Nat} {spare : Nat → Bool} {t : TypeId} {fuel : Nat} {k : FloatKind} {cs : List Value} {x : DataW H × List MemPlace} (ht : P.underlying t = some (.float k)) (h : DataW.trod enc P w base spare held fuel t cs = some x) :
    ∃ b : Nat, cs = [.float k b] := by
  cases fuel with
  | zero => simp [DataW.trod] at h
  | succ n =>
    unfold DataW.trod at h
    rw [ht] at h
    split at h <;> simp_all

theorem spot_of {x : Addr} {v : Value} (h : w.cell? (x.add 0) = some v) : x.spot = none := by
  obtain ⟨b, o, sp⟩ := x
  simpa [Addr.add] using World.cell?_spot h

theorem ints_in {fuel : Nat} {v : Value} {x : DataW H × List MemPlace} (h : DataW.trod enc Try.prog w 0 (fun _ => true) held fuel 23 [v] = some x) : ∃ a l c, v = .slice a l c ∧ IsInts w a l := by
  rcases open_ints Try.underlying23 Try.underlying3 Try.cells3 h with ⟨hcs, _⟩ | ⟨a, l, c, zs, hcs, _, hl, hm, hz, _, hcell, _⟩
  · simp at hcs
    exact ⟨none, 0, 0, hcs, fun _ => rfl, by simp, fun _ hx => by cases hx⟩
  · simp at hcs
    refine ⟨some a, l, c, hcs, (fun hx => by cases hx), by omega, fun x hx i hi => ?_⟩
    cases hx
    simp only [if_true] at hz
    have hs := spot_of (hcell 0 (by omega))
    have hc := hcell i (by omega)
    obtain ⟨b, o, sp⟩ := a
    simp only at hs
    subst hs
    rw [add_plain] at hc
    exact ⟨rfl, _, hc⟩

theorem cand_in {fuel : Nat} {cs : List Value} {x : DataW H × List MemPlace} (h : DataW.trod enc Try.prog w 0 (fun _ => true) held fuel 62 cs = some x) :
    ∃ c : Cd, cs = [.string c.s, .float .f64 c.f, .slice c.a c.l c.c] ∧ IsInts w c.a c.l ∧ c.s.size ≤ maxLen := by
  obtain ⟨y0, y1, y2, n, _, hlen, h0, h1, h2⟩ := trod_struct3 Try.underlying62 h
  rw [Try.cells62] at hlen
  match cs, hlen with
  | [v0, v1, v2], _ =>
    simp only [Try.cells9, Try.cells22, Try.cells23, List.drop_zero, List.drop_succ_cons, List.take_succ_cons, List.take_zero] at h0 h1 h2
    obtain ⟨s, e0, _, hs⟩ := DataW.trod_string Try.underlying9 h0
    obtain ⟨b, e1⟩ := trod_float Try.underlying22 h1
    obtain ⟨a, l, c, e2, hi⟩ := ints_in h2
    simp at e0 e1
    subst e0 e1 e2
    exact ⟨⟨s, b, a, l, c⟩, rfl, hi, hs⟩

theorem cands_in {fuel : Nat} {v : Value} {x : DataW H × List MemPlace} (h : DataW.trod enc Try.prog w 0 (fun _ => true) held fuel 24 [v] = some x) : ∃ a l c C, v = .slice a l c ∧ IsCands w a l C := by
  rcases open_slice Try.underlying24 h with ⟨hcs, _⟩ | ⟨a, l, c, m, n, D, Pl, hcs, _, hl, hm, hmm, _, hel⟩
  · simp at hcs
    exact ⟨none, 0, 0, fun _ => Cd.zero, hcs, fun _ => rfl, by simp, fun _ hx => by cases hx⟩
  · simp at hcs
    simp only [if_true] at hmm
    have hmm' := hmm.symm
    subst hmm'
    clear hmm
    rw [Try.cells62] at hel
    have hin : Inhabited Cd := ⟨Cd.zero⟩
    obtain ⟨C, hC⟩ := choose_lt (α := Cd) (p := fun i cd => w.cells? 0 (a.add (i * 3)) 3 = some [.string cd.s, .float .f64 cd.f, .slice cd.a cd.l cd.c] ∧ IsInts w cd.a cd.l ∧ cd.s.size ≤ maxLen) (fun i hi => by
      obtain ⟨cs', h1, h2⟩ := hel i hi
      obtain ⟨cd, rfl, h3, h4⟩ := cand_in h2
      exact ⟨cd, h1, h3, h4⟩)
    refine ⟨some a, l, _, C, hcs, (fun hx => by cases hx), by omega, fun x hx i hi => ?_⟩
    cases hx
    have hz := (World.cells?_some (hC 0 (by omega)).1).2.2 0 (by omega)
    have hs : a.spot = none := by
      obtain ⟨b, o, sp⟩ := a
      simpa [Addr.add] using World.cell?_spot hz
    obtain ⟨h1, h2, h3⟩ := hC i (by omega)
    obtain ⟨_, _, h4⟩ := World.cells?_some h1
    obtain ⟨b, o, sp⟩ := a
    simp only at hs
    subst hs
    have e0 := h4 0 (by omega)
    have e1 := h4 1 (by omega)
    have e2 := h4 2 (by omega)
    rw [add_plain, add_plain] at e0 e1 e2
    exact ⟨rfl, e0, e1, e2, h2, h3⟩
end
end Go.Proofs.Qxb6618748a
