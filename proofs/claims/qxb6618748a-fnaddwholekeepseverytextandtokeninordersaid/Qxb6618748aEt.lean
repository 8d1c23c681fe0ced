/-
  isTokenItself.
-/
import Derived.Test.Qxb6618748aEn
import Derived.Deep.RegionHeld3
namespace Go.Proofs.Qxb6618748a
open Go.RowKit

@[go_sem] theorem Try.run47 (b : Nat) (w : World) : (callFunc 47 #[.float .f64 b]).run Try.prog w = .ok (.value (.int .u64 (b : Int))) w := by
  rw [run_callFunc_extern (e := Extern.MathFloatBits.float64bits) Try.func47 (by kernel_rfl) (by kernel_rfl) (by kernel_rfl) (by kernel_rfl)]
  rfl

theorem below_two (w : World) (a b : Obj) : Below w.heap.size w ((w.alloc a).alloc b) := ((Below.refl _ _).alloc (Nat.le_refl _) a).alloc (by simp) b
theorem str_eq (a b : ByteArray) : (a.toList == b.toList) = decide (a = b) := by
  rw [ByteArray.toList_eq, ByteArray.toList_eq]
  by_cases h : a = b
  · subst h; simp
  · rw [decide_eq_false h, beq_eq_false_iff_ne]
    exact fun e => h (WideShapes.bytes_inj e)

set_option maxRecDepth 100000 in
set_option maxHeartbeats 1000000 in
theorem isItself_any (bp base : Nat) (s1 s2 : ByteArray) (f1 f2 : Nat) (a1 a2 ca : Option Addr) (I1 I2 : List Int) (c1 c2 n cc : Nat) (w : World) (h1 : IntsAt bp base w a1 I1) (h2 : IntsAt bp base w a2 I2) :
    Calls Try.prog 48 #[.agg #[.string s1, .float .f64 f1, .slice a1 I1.length c1, .slice ca n cc], .agg #[.string s2, .float .f64 f2, .slice a2 I2.length c2]] w fun e w' => e = .returned (.bool (decide (s2 = s1 ∧ f2 = f1 ∧ a2.isNone = a1.isNone ∧ I2 = I1))) ∧ Below w.heap.size w w' := by
  have hnl := Try.nil23
  have H : Hid (IntsAt bp base w a1 I1 ∧ IntsAt bp base w a2 I2) := ⟨h1, h2⟩
  have hl1 := h1.le
  have hl2 := h2.le
  clear h1 h2
  cases hs : (s2.toList == s1.toList) with
  | false =>
    have HN : Hid (¬ s2 = s1) := by
      rw [str_eq] at hs
      exact (of_decide_eq_false hs : ¬ s2 = s1)
    go_enter Try.func48, Try.ntmps48
    go_wp2
    go_quiet (fail)
    go_wp2
    go_ret
    refine ⟨?_, below_drewN (below_two w _ _) _⟩
    rw [decide_eq_false (fun e => HN.out e.1)]
    rfl
  | true =>
    have HS : Hid (s2 = s1) := by
      rw [str_eq] at hs
      exact (of_decide_eq_true hs : s2 = s1)
    by_cases hf : f2 = f1
    case neg =>
      have hfb : ((f2 : Int) != (f1 : Int)) = true := by simp; omega
      go_enter Try.func48, Try.ntmps48
      go_wp2
      go_quiet (fail)
      go_wp2
      go_ret
      refine ⟨?_, below_drewN (below_two w _ _) _⟩
      rw [decide_eq_false (fun e => hf e.2.1)]
      rfl
    have hfb : ((f2 : Int) != (f1 : Int)) = false := by simp; omega
    have HF : Hid (f2 = f1) := hf
    clear hf
    cases a1 with
    | none =>
      cases a2 with
      | some x2 =>
        go_enter Try.func48, Try.ntmps48
        go_wp2
        go_quiet (fail)
        go_wp2
        go_ret
        refine ⟨?_, below_drewN (below_two w _ _) _⟩
        rw [decide_eq_false (fun e => by simp at e)]
        rfl
      | none =>
        have HN : Hid ((none : Option Addr).isNone = (none : Option Addr).isNone) := rfl
        by_cases hl : I2.length = I1.length
        case neg =>
          have hlb : ((I2.length : Int) != (I1.length : Int)) = true := by simp; omega
          go_enter Try.func48, Try.ntmps48
          go_wp2
          go_quiet (fail)
          go_wp2
          go_ret
          refine ⟨?_, below_drewN (below_two w _ _) _⟩
          rw [decide_eq_false (fun e => hl (by rw [e.2.2.2]))]
          rfl
        have hlb : ((I2.length : Int) != (I1.length : Int)) = false := by simp; omega
        have HL : Hid (I2.length = I1.length) := hl
        clear hl
        go_enter Try.func48, Try.ntmps48
        go_wp2
        go_quiet (fail)
        go_wp2_with fail
        have hb0 : Below w.heap.size w (((w.alloc (.cells #[.string s1, .float .f64 f1, .slice none I1.length c1, .slice ca n cc] 31)).alloc (.cells #[.string s2, .float .f64 f2, .slice none I2.length c2] 68)).drewN nq) := below_drewN (below_two w _ _) _
        have hk1 : (((w.alloc (.cells #[.string s1, .float .f64 f1, .slice none I1.length c1, .slice ca n cc] 31)).alloc (.cells #[.string s2, .float .f64 f2, .slice none I2.length c2] 68)).drewN nq).cell? ⟨w.heap.size, 2, none⟩ = some (.slice none I1.length c1) := by simp
        generalize (((w.alloc (.cells #[.string s1, .float .f64 f1, .slice none I1.length c1, .slice ca n cc] 31)).alloc (.cells #[.string s2, .float .f64 f2, .slice none I2.length c2] 68)).drewN nq) = W at hb0 hk1 ⊢
        have HB : Hid (Below w.heap.size w W) := hb0
        generalize w.heap.size = b1 at hk1 ⊢
        clear hb0
        go_loopg [42] I2.length (fun gk iv wr => ∃ i : Nat, gk = I2.length - i ∧ i ≤ I2.length ∧ iv = .int .i64 (i : Int) ∧ wr = W ∧ Hid (∀ j, j < i → I2[j]? = I1[j]?))
        case atStart => exact ⟨0, by omega, by omega, rfl, rfl, fun j hj => absurd hj (by omega)⟩
        case round =>
          obtain ⟨i, hgk, hi, rfl, rfl, HE⟩ := hrel
          by_cases hlt : i < I2.length
          · have h0 := H.out.2.nil rfl
            rw [h0] at hlt
            simp at hlt
          · have hltb : decide ((i : Int) < (I2.length : Int)) = false := by simp; omega
            go_wp2
            go_ret
            refine ⟨?_, HB.out⟩
            have hee : I2 = I1 := by
              apply List.ext_getElem?
              intro j
              rcases Nat.lt_or_ge j i with h1 | h1
              · exact HE.out j h1
              · rw [List.getElem?_eq_none (by omega), List.getElem?_eq_none (by have := HL.out; omega)]
            simp [HS.out, HF.out, hee]
    | some x1 =>
      cases a2 with
      | none =>
        go_enter Try.func48, Try.ntmps48
        go_wp2
        go_quiet (fail)
        go_wp2
        go_ret
        refine ⟨?_, below_drewN (below_two w _ _) _⟩
        rw [decide_eq_false (fun e => by simp at e)]
        rfl
      | some x2 =>
        have HN : Hid ((some x2).isNone = (some x1).isNone) := rfl
        by_cases hl : I2.length = I1.length
        case neg =>
          have hlb : ((I2.length : Int) != (I1.length : Int)) = true := by simp; omega
          go_enter Try.func48, Try.ntmps48
          go_wp2
          go_quiet (fail)
          go_wp2
          go_ret
          refine ⟨?_, below_drewN (below_two w _ _) _⟩
          rw [decide_eq_false (fun e => hl (by rw [e.2.2.2]))]
          rfl
        have hlb : ((I2.length : Int) != (I1.length : Int)) = false := by simp; omega
        have HL : Hid (I2.length = I1.length) := hl
        clear hl
        go_enter Try.func48, Try.ntmps48
        go_wp2
        go_quiet (fail)
        go_wp2_with fail
        have hb0 : Below w.heap.size w (((w.alloc (.cells #[.string s1, .float .f64 f1, .slice (some x1) I1.length c1, .slice ca n cc] 31)).alloc (.cells #[.string s2, .float .f64 f2, .slice (some x2) I2.length c2] 68)).drewN nq) := below_drewN (below_two w _ _) _
        have hk1 : (((w.alloc (.cells #[.string s1, .float .f64 f1, .slice (some x1) I1.length c1, .slice ca n cc] 31)).alloc (.cells #[.string s2, .float .f64 f2, .slice (some x2) I2.length c2] 68)).drewN nq).cell? ⟨w.heap.size, 2, none⟩ = some (.slice (some x1) I1.length c1) := by simp
        generalize (((w.alloc (.cells #[.string s1, .float .f64 f1, .slice (some x1) I1.length c1, .slice ca n cc] 31)).alloc (.cells #[.string s2, .float .f64 f2, .slice (some x2) I2.length c2] 68)).drewN nq) = W at hb0 hk1 ⊢
        have HB : Hid (Below w.heap.size w W) := hb0
        generalize w.heap.size = b1 at hk1 ⊢
        clear hb0
        go_loopg [42] I2.length (fun gk iv wr => ∃ i : Nat, gk = I2.length - i ∧ i ≤ I2.length ∧ iv = .int .i64 (i : Int) ∧ wr = W ∧ Hid (∀ j, j < i → I2[j]? = I1[j]?))
        case atStart => exact ⟨0, by omega, by omega, rfl, rfl, fun j hj => absurd hj (by omega)⟩
        case round =>
          obtain ⟨i, hgk, hi, rfl, rfl, HE⟩ := hrel
          by_cases hlt : i < I2.length
          · obtain ⟨z2, hz2⟩ : ∃ z, I2[i]? = some z := ⟨_, List.getElem?_eq_getElem hlt⟩
            obtain ⟨z1, hz1⟩ : ∃ z, I1[i]? = some z := ⟨_, List.getElem?_eq_getElem (by have := HL.out; omega)⟩
            obtain ⟨_, _, g2, o2, hx2, _, _, hc2⟩ := H.out.2.cell i z2 hz2
            obtain ⟨_, _, g1, o1, hx1, _, _, hc1⟩ := H.out.1.cell i z1 hz1
            cases hx1; cases hx2
            have hd2 := below_cell HB.out hc2
            have hd1 := below_cell HB.out hc1
            have hltb : decide ((i : Int) < (I2.length : Int)) = true := by simp; omega
            have hlt' : (i : Int) < (I2.length : Int) := by omega
            have hlt1 : (i : Int) < (I1.length : Int) := by have := HL.out; omega
            have HZ : Hid (I2[i]? = some z2 ∧ I1[i]? = some z1) := ⟨hz2, hz1⟩
            clear hz1 hz2 hc1 hc2
            by_cases hq : z2 = z1
            · have hqb : (z2 != z1) = false := by simp [hq]
              go_wp2
              go_roundg (I2.length - (i + 1))
              case measure => omega
              case rel =>
                refine ⟨i + 1, rfl, by omega, by go_num, rfl, fun j hj => ?_⟩
                rcases Nat.lt_or_ge j i with h1 | h1
                · exact HE.out j h1
                · obtain rfl : j = i := by omega
                  rw [HZ.out.1, HZ.out.2, hq]
            · have hqb : (z2 != z1) = true := by simp [hq]
              go_wp2
              go_ret
              refine ⟨?_, HB.out⟩
              have hne : ¬ I2 = I1 := by
                intro e
                have h1 := HZ.out.1
                rw [e, HZ.out.2] at h1
                exact hq (by simpa using h1.symm)
              simp [hne]
          · have hltb : decide ((i : Int) < (I2.length : Int)) = false := by simp; omega
            go_wp2
            go_ret
            refine ⟨?_, HB.out⟩
            have hee : I2 = I1 := by
              apply List.ext_getElem?
              intro j
              rcases Nat.lt_or_ge j i with h1 | h1
              · exact HE.out j h1
              · rw [List.getElem?_eq_none (by omega), List.getElem?_eq_none (by have := HL.out; omega)]
            simp [HS.out, HF.out, hee]
end Go.Proofs.Qxb6618748a
