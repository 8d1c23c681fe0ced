/-
  toWireCands, toWireTok, WithCandidates.
-/
import Derived.Test.Qxb6618748aSz
import Derived.Deep.OwnRows
import Derived.Laws.MakeOwn
import Derived.Deep.RegionWith
import Derived.BigRegion
namespace Go.Proofs.Qxb6618748a
open Go.RowKit

theorem Try.info68 : (Try.prog.info? 68).map (fun i => (i.zero, i.size, i.bytes)) = some (some (.agg #[.string ByteArray.empty, .float .f64 0, .slice none 0 0]), 3, 48) := by kernel_rfl
def zeros3 (k : Nat) : Array Value := madeCells #[.string ByteArray.empty, .float .f64 0, .slice none 0 0] (k * 3)
theorem make68 (k : Nat) (hk : k ≤ 1048576) (w : World) : (Instr.makeSlice 29 (.int .i64 (k : Int)) (.int .i64 (k : Int))).run Try.prog w = .ok (.slice (some ⟨w.heap.size, 0, none⟩) k k) (w.alloc (.cells (zeros3 k) 68)) := by
  have h := Try.info68
  cases hi : Try.prog.info? 68 with
  | none => rw [hi] at h; simp at h
  | some i =>
    rw [hi] at h
    simp only [Option.map_some, Option.some.injEq, Prod.mk.injEq] at h
    obtain ⟨h1, h2, h3⟩ := h
    have := run_make (P := Try.prog) w 29 68 i _ Try.underlying29 hi h1 .i64 .i64 k k (by omega) (by omega) (by rw [h3]; omega) (by omega)
    rw [h2] at this
    simp only [Int.toNat_natCast] at this
    exact this

/-- The first i candidates stand in the new row. -/
structure Filled (w wr : World) (g len : Nat) (C : Nat → Cd) (i : Nat) (f : Nat → Value) : Prop where
  row : wr.rowIs g 68 (len * 3) f
  done : ∀ k, k < i → f (k * 3) = .string (C k).s ∧ f (k * 3 + 1) = .float .f64 (C k).f ∧ f (k * 3 + 2) = .slice (C k).a (C k).l (C k).c
  below : Below w.heap.size w wr
theorem filled_start (w : World) (len : Nat) (C : Nat → Cd) : ∃ f, Filled w (w.alloc (.cells (zeros3 len) 68)) w.heap.size len C 0 f := by
  refine ⟨fun j => (zeros3 len)[j]?.getD undef, ⟨_, Go.Deep.blk_alloc_new _ _, size_madeCells _ _, fun i hi => ?_⟩, fun k hk => by omega, (Below.refl _ _).alloc (Nat.le_refl _) _⟩
  have : i < (zeros3 len).size := by rw [show (zeros3 len).size = len * 3 from size_madeCells _ _]; exact hi
  simp [this]
theorem filled_step {w wr : World} {g len : Nat} {C : Nat → Cd} {i : Nat} {f : Nat → Value} (h : Filled w wr g len C i f) (hg : w.heap.size ≤ g) :
    ∃ f', Filled w (((wr.setCell ⟨g, i * 3, none⟩ (.string (C i).s)).setCell ⟨g, i * 3 + 1, none⟩ (.float .f64 (C i).f)).setCell ⟨g, i * 3 + 2, none⟩ (.slice (C i).a (C i).l (C i).c)).drew g len C (i + 1) f' := by
  refine ⟨_, (((h.row.set _ _).set _ _).set _ _).drew, fun k hk => ?_, (((h.below.setCell hg _).setCell hg _).setCell hg _).drew⟩
  by_cases hki : k = i
  · subst hki
    exact ⟨by simp, by simp, by simp⟩
  · obtain ⟨d0, d1, d2⟩ := h.done k (by omega)
    refine ⟨?_, ?_, ?_⟩
    · rw [if_neg (by omega), if_neg (by omega), if_neg (by omega)]; exact d0
    · rw [if_neg (by omega), if_neg (by omega), if_neg (by omega)]; exact d1
    · rw [if_neg (by omega), if_neg (by omega), if_neg (by omega)]; exact d2
theorem filled_cands {w wr : World} {g len : Nat} {C : Nat → Cd} {f : Nat → Value} {a : Option Addr} (h : Filled w wr g len C len f) (hc : IsCands w a len C) (ha : a ≠ none) : IsCands wr (some ⟨g, 0, none⟩) len C := by
  refine ⟨fun h => (by cases h), hc.le, fun x hx i hi => ?_⟩
  cases hx
  obtain ⟨d0, d1, d2⟩ := h.done i hi
  cases a with
  | none => exact absurd rfl ha
  | some y =>
    have hy := (hc.at' y rfl i hi).2
    refine ⟨rfl, ?_, ?_, ?_, hy.ints.below h.below, hy.size⟩
    · show wr.cell? ⟨g, 0 + i * 3, none⟩ = _
      rw [Nat.zero_add, h.row.cell (by omega), d0]
    · show wr.cell? ⟨g, 0 + i * 3 + 1, none⟩ = _
      rw [Nat.zero_add, h.row.cell (by omega), d1]
    · show wr.cell? ⟨g, 0 + i * 3 + 2, none⟩ = _
      rw [Nat.zero_add, h.row.cell (by omega), d2]

set_option maxRecDepth 100000 in
set_option maxHeartbeats 1000000 in
theorem toWireCands_any (a : Option Addr) (len cap : Nat) (C : Nat → Cd) (w : World) (h : IsCands w a len C) (hl : len ≤ 1048576) :
    Calls Try.prog 27 #[.slice a len cap] w fun e w' => ∃ a' c', e = .returned (.slice a' len c') ∧ (a' = none ↔ a = none) ∧ len ≤ c' ∧ c' ≤ 1048576 ∧ IsCands w' a' len C ∧ Below w.heap.size w w' ∧ ∀ x, a' = some x → w.heap.size ≤ x.block := by
  have hnl := Try.nil24
  have H : Hid (IsCands w a len C) := h
  clear h
  cases a with
  | none =>
    have h0 := H.out.nil rfl
    subst h0
    go_enter Try.func27, Try.ntmps27
    go_wp2
    go_ret
    exact ⟨_, 0, rfl, by simp, by simp, by simp, H.out, Below.refl _ _, by simp⟩
  | some x =>
    have hmk := make68 len hl
    go_enter Try.func27, Try.ntmps27
    go_wp2
    obtain ⟨f0, hf0⟩ := filled_start w len C
    have HF0 : Hid (Filled w (w.alloc (.cells (zeros3 len) 68)) w.heap.size len C 0 f0) := hf0
    clear hf0 hmk hnl
    generalize w.alloc (.cells (zeros3 len) 68) = w1 at HF0 ⊢
    have hgw : w.heap.size ≤ w.heap.size := Nat.le_refl _
    generalize hg : w.heap.size = g at HF0 ⊢
    have HG : Hid (w.heap.size = g) := hg
    clear hg hgw
    go_loopg [12] len (fun gk iv wr => ∃ (i : Nat) (f : Nat → Value), gk = len - i ∧ i ≤ len ∧ iv = .int .i64 i ∧ Hid (Filled w wr g len C i f))
    case atStart => exact ⟨0, f0, by omega, by omega, rfl, HF0⟩
    case round =>
      clear HF0
      obtain ⟨i, f, hgk, hi, rfl, HF⟩ := hrel
      by_cases hlt : i < len
      · obtain ⟨hs, hca⟩ := H.out.at' x rfl i hlt
        obtain ⟨c0, c1, c2, hint, hsz⟩ := hca.below HF.out.below
        obtain ⟨b, o, sp⟩ := x
        simp only at hs c0 c1 c2
        subst hs
        clear hint hsz hca
        have z0 := HF.out.row.cell (i := i * 3) (by omega)
        have y0 := HF.out.row.frozen (i * 3)
        have e1 : ∀ v, (wr.setCell ⟨g, i * 3, none⟩ v).cell? ⟨g, i * 3 + 1, none⟩ = some (f (i * 3 + 1)) := fun v => by rw [(HF.out.row.set _ _).cell (by omega), if_neg (by omega)]
        have e1f : ∀ v, (wr.setCell ⟨g, i * 3, none⟩ v).frozen? ⟨g, i * 3 + 1, none⟩ = false := fun v => (HF.out.row.set _ _).frozen _
        have e2 : ∀ v v', ((wr.setCell ⟨g, i * 3, none⟩ v).setCell ⟨g, i * 3 + 1, none⟩ v').cell? ⟨g, i * 3 + 2, none⟩ = some (f (i * 3 + 2)) := fun v v' => by rw [((HF.out.row.set _ _).set _ _).cell (by omega), if_neg (by omega), if_neg (by omega)]
        have e2f : ∀ v v', ((wr.setCell ⟨g, i * 3, none⟩ v).setCell ⟨g, i * 3 + 1, none⟩ v').frozen? ⟨g, i * 3 + 2, none⟩ = false := fun v v' => ((HF.out.row.set _ _).set _ _).frozen _
        have hltb : decide ((i : Int) < (len : Int)) = true := by simp; omega
        have hlt' : (i : Int) < (len : Int) := by omega
        go_wp2
        go_region
        go_wp2
        go_roundg (len - (i + 1))
        case measure => omega
        case rel =>
          obtain ⟨f', hf'⟩ := filled_step HF.out (Nat.le_of_eq HG.out)
          exact ⟨i + 1, f', rfl, by omega, by go_num, hf'⟩
      · have hltb : decide ((i : Int) < (len : Int)) = false := by simp; omega
        obtain rfl : i = len := by omega
        go_wp2
        go_ret
        have hgg := HG.out
        subst hgg
        exact ⟨_, _, rfl, by simp, Nat.le_refl _, hl, filled_cands HF.out H.out (by simp), HF.out.below, fun x hx => by cases hx; exact Nat.le_refl _⟩
end Go.Proofs.Qxb6618748a
