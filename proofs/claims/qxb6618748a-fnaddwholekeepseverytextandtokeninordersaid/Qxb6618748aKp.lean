/-
  keeps: of a token and of a wire token that holds its first m candidates: true.
-/
import Derived.Test.Qxb6618748aTk
namespace Go.Proofs.Qxb6618748a
open Go.RowKit

theorem IsCands.some {w : World} {a : Option Addr} {len : Nat} {C : Nat → Cd} (h : IsCands w a len C) {i : Nat} (hi : i < len) : ∃ b o, a = Option.some ⟨b, o, none⟩ ∧ CandAt w b (o + i * 3) (C i) := by
  cases a with
  | none => have := h.nil rfl; omega
  | some x =>
    obtain ⟨b, o, sp⟩ := x
    obtain ⟨hs, hc⟩ := h.at' _ rfl i hi
    simp only at hs
    subst hs
    exact ⟨b, o, rfl, hc⟩

set_option maxRecDepth 100000 in
set_option maxHeartbeats 1000000 in
theorem keeps_any (s : ByteArray) (f : Nat) (ab : Option Addr) (lb cb : Nat) (ag : Option Addr) (m cg : Nat) (ac : Option Addr) (lc cc : Nat) (C : Nat → Cd) (w : World) (hi : IsInts w ab lb) (hg : IsCands w ag m C) (hc : IsCands w ac lc C)
    (hm : m ≤ lc) (hl : lc ≤ 1048576) (hn : ag.isNone = ac.isNone) :
    Calls Try.prog 11 #[.agg #[.string s, .float .f64 f, .slice ab lb cb, .slice ag m cg], .agg #[.string s, .float .f64 f, .slice ab lb cb, .slice ac lc cc], .int .i64 m] w fun e w' => e = .returned (.bool true) ∧ Below w.heap.size w w' := by
  have hnl1 := Try.nil24
  have hnl2 := Try.nil29
  have H : Hid (IsInts w ab lb ∧ IsCands w ag m C ∧ IsCands w ac lc C) := ⟨hi, hg, hc⟩
  clear hi hg hc
  go_enter Try.func11, Try.ntmps11
  go_wp2_with (first | (go_at_call 28; refine (sameFloat_self _ _).mono ?_; rintro e w' ⟨rfl, rfl⟩) | (go_at_call 29; refine (sameInts_self _ _ _ _ ?_).mono ?_; exact H.out.1.below (((Below.refl _ _).alloc (Nat.le_refl _) _).alloc (by simp) _); rintro e w' ⟨rfl, nq, rfl⟩))
  have k1 : (((w.alloc (.cells #[.string s, .float .f64 f, .slice ab lb cb, .slice ag m cg] 31)).alloc (.cells #[.string s, .float .f64 f, .slice ab lb cb, .slice ac lc cc] 26)).drewN nq).heap[w.heap.size]? = some (.cells #[.string s, .float .f64 f, .slice ab lb cb, .slice ag m cg] 31) := by
    show ((w.alloc (.cells #[.string s, .float .f64 f, .slice ab lb cb, .slice ag m cg] 31)).alloc (.cells #[.string s, .float .f64 f, .slice ab lb cb, .slice ac lc cc] 26)).heap[w.heap.size]? = _
    rw [Deep.blk_alloc_lt _ _ _ (by simp), Deep.blk_alloc_new]
  have k2 : (((w.alloc (.cells #[.string s, .float .f64 f, .slice ab lb cb, .slice ag m cg] 31)).alloc (.cells #[.string s, .float .f64 f, .slice ab lb cb, .slice ac lc cc] 26)).drewN nq).heap[w.heap.size + 1]? = some (.cells #[.string s, .float .f64 f, .slice ab lb cb, .slice ac lc cc] 26) := by
    have := Deep.blk_alloc_new (w.alloc (.cells #[.string s, .float .f64 f, .slice ab lb cb, .slice ag m cg] 31)) (.cells #[.string s, .float .f64 f, .slice ab lb cb, .slice ac lc cc] 26)
    show ((w.alloc (.cells #[.string s, .float .f64 f, .slice ab lb cb, .slice ag m cg] 31)).alloc (.cells #[.string s, .float .f64 f, .slice ab lb cb, .slice ac lc cc] 26)).heap[w.heap.size + 1]? = _
    simpa using this
  have k3 : Below w.heap.size w (((w.alloc (.cells #[.string s, .float .f64 f, .slice ab lb cb, .slice ag m cg] 31)).alloc (.cells #[.string s, .float .f64 f, .slice ab lb cb, .slice ac lc cc] 26)).drewN nq) := below_drewN (((Below.refl _ _).alloc (Nat.le_refl _) _).alloc (by simp) _) _
  have k4 : (((w.alloc (.cells #[.string s, .float .f64 f, .slice ab lb cb, .slice ag m cg] 31)).alloc (.cells #[.string s, .float .f64 f, .slice ab lb cb, .slice ac lc cc] 26)).drewN nq).heap.size = w.heap.size + 2 := by
    show ((w.alloc (.cells #[.string s, .float .f64 f, .slice ab lb cb, .slice ag m cg] 31)).alloc (.cells #[.string s, .float .f64 f, .slice ab lb cb, .slice ac lc cc] 26)).heap.size = _
    simp
  generalize ((w.alloc (.cells #[.string s, .float .f64 f, .slice ab lb cb, .slice ag m cg] 31)).alloc (.cells #[.string s, .float .f64 f, .slice ab lb cb, .slice ac lc cc] 26)).drewN nq = W1 at k1 k2 k3 k4 ⊢
  have HK : Hid (W1.heap[w.heap.size]? = some (.cells #[.string s, .float .f64 f, .slice ab lb cb, .slice ag m cg] 31) ∧ W1.heap[w.heap.size + 1]? = some (.cells #[.string s, .float .f64 f, .slice ab lb cb, .slice ac lc cc] 26) ∧ Below w.heap.size w W1 ∧ W1.heap.size = w.heap.size + 2) := ⟨k1, k2, k3, k4⟩
  clear k1 k2 k3 k4
  go_loopg [7] m (fun gk iv wr => ∃ i : Nat, gk = m - i ∧ i ≤ m ∧ iv = .int .i64 i ∧ Hid (Below W1.heap.size W1 wr))
  case atStart => exact ⟨0, by omega, by omega, rfl, Below.refl _ _⟩
  case round =>
    obtain ⟨i, hgk, hi, rfl, HW⟩ := hrel
    have hsz := HW.out.size
    have hz := HK.out.2.2.2
    have bA := (HW.out.block w.heap.size (by omega)).trans HK.out.1
    have bB := (HW.out.block (w.heap.size + 1) (by omega)).trans HK.out.2.1
    have hBw : Below w.heap.size w wr := HK.out.2.2.1.trans (HW.out.mono (by omega))
    have a3 : wr.cell? ⟨w.heap.size, 3, none⟩ = some (.slice ag m cg) := cell_at bA rfl
    have b3 : wr.cell? ⟨w.heap.size + 1, 3, none⟩ = some (.slice ac lc cc) := cell_at bB rfl
    by_cases hlt : i < m
    · obtain ⟨bg, og, hge, hgc⟩ := (H.out.2.1.below hBw).some hlt
      obtain ⟨bc, oc, hce, hcc⟩ := (H.out.2.2.below hBw).some (show i < lc by omega)
      subst hge hce
      obtain ⟨c0, c1, c2, hint, _⟩ := hgc
      obtain ⟨d0, d1, d2, _, _⟩ := hcc
      have HI : Hid (IsInts wr (C i).a (C i).l ∧ Below w.heap.size w wr) := ⟨hint, hBw⟩
      have l1 : bg < wr.heap.size := cell_lt c0
      have l2 : bc < wr.heap.size := cell_lt d0
      have l3 : w.heap.size < wr.heap.size := by omega
      have l4 : w.heap.size + 1 < wr.heap.size := by omega
      clear hint hBw bA bB hsz hz
      generalize C i = c at c0 c1 c2 d0 d1 d2 HI
      obtain ⟨cs, cf, ca, cl, cp⟩ := c
      simp only at c0 c1 c2 d0 d1 d2
      have hltb : decide ((i : Int) < (m : Int)) = true := by simp; omega
      have hlt' : (i : Int) < (m : Int) := by omega
      have hlt2 : (i : Int) < (lc : Int) := by omega
      go_wp2_with (first | (go_at_call 28; refine (sameFloat_self _ _).mono ?_; rintro e w' ⟨rfl, rfl⟩) | (go_at_call 29; refine (sameInts_self _ _ _ _ ?_).mono ?_; exact HI.out.1.below (((Below.refl _ _).alloc (Nat.le_refl _) _).alloc (by simp) _); rintro e w' ⟨rfl, nq, rfl⟩))
      go_roundg (m - (i + 1))
      case measure => omega
      case rel => exact ⟨i + 1, rfl, by omega, by go_num, below_drewN ((HW.out.alloc HW.out.size _).alloc (by have := HW.out.size; simp; omega) _) _⟩
    · have hltb : decide ((i : Int) < (m : Int)) = false := by simp; omega
      clear bA bB hsz hz
      go_wp2
      go_ret
      exact ⟨rfl, hBw⟩
end Go.Proofs.Qxb6618748a
