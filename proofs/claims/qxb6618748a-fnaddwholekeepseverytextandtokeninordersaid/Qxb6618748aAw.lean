/-
  AddWhole.
-/
import Derived.Test.Qxb6618748aAt
namespace Go.Proofs.Qxb6618748a
open Go.RowKit

/-- What AddWhole does: the reasoning's pieces, then the content's. -/
def WholeOk (bp base : Nat) (r c : List UInt8) (TS : List Tk) (w : World) (e : Ending) (w' : World) : Prop :=
  e = .returned (.tuple #[]) ∧ ∃ (ps qs : List Pc) (T1 T2 : List Tk) (v' : Value), Adds r [] T1 ps ∧ Adds [] c T2 qs ∧ T1 ++ T2 = TS ∧ PAt bp base w' v' ((ps ++ qs).length) ((ps ++ qs).flatMap Pc.enc) ∧ Ap true bp base w w' ∧ ((ps ++ qs).flatMap Pc.enc).length ≤ r.length + c.length + 2 * (TS.flatMap Tk.enc).length + 80 * TS.length + 80 ∧ (ps ++ qs).length ≤ 2 * TS.length + 2

set_option maxRecDepth 100000 in
set_option maxHeartbeats 1000000 in
theorem addWhole_any (bp base : Nat) (r c : ByteArray) (a : Option Addr) (n tc : Nat) (TS : List Tk) (v : Value) (w : World) (hbp : bp < base) (hb : base ≤ w.heap.size) (hr : r.size ≤ 1048576) (hc : c.size ≤ 1048576) (hT : ToksAt bp base w a n tc TS) (hP : PAt bp base w v 0 []) (hl : r.size + c.size + 2 * (TS.flatMap Tk.enc).length + 80 * n + 200 ≤ 1099511627776) :
    Calls Try.prog 14 #[.pointer (some ⟨bp, 0, none⟩), .agg #[.string r, .string c, .slice a n tc]] w (WholeOk bp base r.data.toList c.data.toList TS w) := by
  have H : Hid (ToksAt bp base w a n tc TS ∧ PAt bp base w v 0 []) := ⟨hT, hP⟩
  have hle := hT.le
  have HLN : Hid (n = TS.length) := hT.len
  clear hT hP
  go_enter Try.func14, Try.ntmps14
  go_wp2_with fail
  have hbx : Below w.heap.size w (w.alloc (.cells #[.string r, .string c, .slice a n tc] 46)) := (Below.refl _ _).alloc (Nat.le_refl _) _
  have HW : Hid (PAt bp base (w.alloc (.cells #[.string r, .string c, .slice a n tc] 46)) v 0 [] ∧ (w.alloc (.cells #[.string r, .string c, .slice a n tc] 46)).heap[w.heap.size]? = some (.cells #[.string r, .string c, .slice a n tc] 46) ∧ Ap true bp base w (w.alloc (.cells #[.string r, .string c, .slice a n tc] 46)) ∧ ToksAt bp base (w.alloc (.cells #[.string r, .string c, .slice a n tc] 46)) a n tc TS) := ⟨H.out.2.below hbx, Deep.blk_alloc_new _ _, .of_below hbx, H.out.1.below hbx⟩
  clear hbx
  generalize w.alloc (.cells #[.string r, .string c, .slice a n tc] 46) = W at HW ⊢
  have hb0 := hb
  have hbp3 : bp < w.heap.size := (Array.getElem?_eq_some_iff.1 H.out.2.box).1
  generalize w.heap.size = b3 at HW hb hbp3 ⊢
  refine (splitTokens_any bp base r c a n tc TS W hr hc HW.out.2.2.2).mono ?_
  rintro e w1 ⟨k, a1, a2, c1, c2, hk, rfl, hb1, hT1, hT2⟩
  have HW1 : Hid (PAt bp base w1 v 0 [] ∧ w1.heap[b3]? = some (.cells #[.string r, .string c, .slice a n tc] 46) ∧ Ap true bp base w w1 ∧ ToksAt bp base w1 a1 k c1 (TS.take k) ∧ ToksAt bp base w1 a2 (n - k) c2 (TS.drop k)) := ⟨HW.out.1.below hb1, (hb1.block b3 (Array.getElem?_eq_some_iff.1 HW.out.2.1).1).trans HW.out.2.1, HW.out.2.2.1.next hb1, hT1, hT2⟩
  have hen : ((TS.take k).flatMap Tk.enc).length + ((TS.drop k).flatMap Tk.enc).length = (TS.flatMap Tk.enc).length := by
    rw [← List.length_append, ← List.flatMap_append, List.take_append_drop]
  have q0 : w1.cell? ⟨b3, 0, none⟩ = some (.string r) := cell_atB HW1.out.2.1 rfl
  clear hb1 hT1 hT2 HW
  obtain ⟨nk, hnk⟩ : ∃ nk, n - k = nk := ⟨_, rfl⟩
  rw [hnk] at HW1 ⊢
  have hnk1 : k + nk ≤ n := by omega
  have hnk2 : n ≤ k + nk := by omega
  clear hnk
  dsimp only
  go_wp2_with fail
  refine (addText_true bp base 0 r a1 k c1 (TS.take k) [] v w1 hbp (Nat.le_trans hb0 HW1.out.2.2.1.size) hr (by omega) HW1.out.2.2.2.1 HW1.out.1 (by simp only [List.length_nil]; omega)).mono ?_
  rintro e w2 ⟨rfl, ps, v2, hA2, hP2, hAp2, hl2, hq2⟩
  have HW2 : Hid (Adds r.data.toList [] (TS.take k) ps ∧ PAt bp base w2 v2 ps.length (ps.flatMap Pc.enc) ∧ w2.heap[b3]? = some (.cells #[.string r, .string c, .slice a n tc] 46) ∧ Ap true bp base w w2 ∧ ToksAt bp base w2 a2 nk c2 (TS.drop k)) := ⟨hA2, by simpa using hP2, hAp2.keepT (by omega) HW1.out.2.1 (by decide), HW1.out.2.2.1.trans hAp2, HW1.out.2.2.2.2.ap hAp2⟩
  have hr1 : r.data.toList.length = r.size := size_list _
  have hc1 : c.data.toList.length = c.size := size_list _
  simp only [hr1, List.length_nil] at hl2
  have q1 : w2.cell? ⟨b3, 1, none⟩ = some (.string c) := cell_atB HW2.out.2.2.1 rfl
  clear q0 hA2 hP2 hAp2 HW1
  dsimp only
  go_wp2_with fail
  refine (addText_false bp base ps.length c a2 nk c2 (TS.drop k) (ps.flatMap Pc.enc) v2 w2 hbp (Nat.le_trans hb0 HW2.out.2.2.2.1.size) hc (by omega) HW2.out.2.2.2.2 HW2.out.2.1 (by omega)).mono ?_
  rintro e w3 ⟨rfl, qs, v3, hA3, hP3, hAp3, hl3, hq3⟩
  have HW3 : Hid (Adds [] c.data.toList (TS.drop k) qs ∧ PAt bp base w3 v3 (ps ++ qs).length ((ps ++ qs).flatMap Pc.enc) ∧ Ap true bp base w w3) := ⟨hA3, by rw [List.length_append, List.flatMap_append]; exact hP3, HW2.out.2.2.2.1.trans hAp3⟩
  simp only [hc1, List.length_nil] at hl3
  clear q1 hA3 hP3 hAp3
  dsimp only
  go_wp2
  refine bodyPost_ret (v := .tuple #[]) (by simp [results, Try.results14, go_sem]) rfl ?_
  have hln := HLN.out
  refine ⟨rfl, ps, qs, _, _, v3, HW2.out.1, HW3.out.1, List.take_append_drop k TS, HW3.out.2.1, HW3.out.2.2, ?_, ?_⟩
  · rw [List.flatMap_append, List.length_append, hr1, hc1]
    omega
  · rw [List.length_append]
    omega
end Go.Proofs.Qxb6618748a
