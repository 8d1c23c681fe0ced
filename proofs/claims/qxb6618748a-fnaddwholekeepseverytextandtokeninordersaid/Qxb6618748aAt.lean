/-
  addText, AddWhole.
-/
import Derived.Test.Qxb6618748aAc
namespace Go.Proofs.Qxb6618748a
open Go.RowKit

set_option maxRecDepth 100000 in
theorem chunk40 (s : ByteArray) (a : Option Addr) (n c b7 : Nat) (rs : Bool) (w : World) (h : w.cell? ⟨b7, 0, none⟩ = some (.bool rs)) :
    Calls Try.prog 40 #[.string s, .slice a n c, .pointer (some ⟨b7, 0, none⟩)] w fun e w' => e = .returned (.agg #[.string (if rs then s else ⟨#[]⟩), .string (if rs then ⟨#[]⟩ else s), .slice a n c]) ∧ Below w.heap.size w w' := by
  have hl : b7 < w.heap.size := cell_lt h
  cases rs with
  | true =>
    go_enter Try.func40, Try.ntmps40
    go_wp2
    refine bodyPost_ret (v := .agg #[.string s, .string ⟨#[]⟩, .slice a n c]) (by simp [results, Try.results40, go_sem]) rfl ?_
    exact ⟨rfl, (Below.refl _ _).alloc (Nat.le_refl _) _⟩
  | false =>
    go_enter Try.func40, Try.ntmps40
    go_wp2
    refine bodyPost_ret (v := .agg #[.string ⟨#[]⟩, .string s, .slice a n c]) (by simp [results, Try.results40, go_sem]) rfl ?_
    exact ⟨rfl, (Below.refl _ _).alloc (Nat.le_refl _) _⟩

theorem sx_split (s : ByteArray) (z : Nat) : (s.extract 0 z).data.toList ++ (s.extract z s.size).data.toList = s.data.toList := by
  have e2 : (s.data.toList.drop z).take (s.size - z) = s.data.toList.drop z := List.take_of_length_le (by rw [List.length_drop, size_list]; exact Nat.le_refl _)
  rw [extract_list, extract_list, e2, List.drop_zero, Nat.sub_zero, List.take_append_drop]
theorem sx_end (s : ByteArray) : (s.extract s.size s.size).data.toList = [] := by
  rw [extract_list, Nat.sub_self, List.take_zero]
theorem bw1 {V w7 : World} (hb : Below V.heap.size V w7) : Below V.heap.size V w7 := hb
theorem bw2 {V w7 : World} (hb : Below V.drew.heap.size V.drew w7) : Below V.heap.size V w7 := (Below.refl V.heap.size V).drew.trans (hb.mono (by simp))
theorem bw2b {V w7 : World} (hb : Below V.drew.drew.heap.size V.drew.drew w7) : Below V.heap.size V w7 := (Below.refl V.heap.size V).drew.drew.trans (hb.mono (by simp))
/-- What addText and AddWhole do. -/
def TextsOk (bp base N : Nat) (r c : List UInt8) (TS : List Tk) (D : List UInt8) (K J : Nat) (w : World) (e : Ending) (w' : World) : Prop :=
  e = .returned (.tuple #[]) ∧ ∃ (ps : List Pc) (v' : Value), Adds r c TS ps ∧ PAt bp base w' v' (N + ps.length) (D ++ ps.flatMap Pc.enc) ∧ Ap true bp base w w' ∧ (ps.flatMap Pc.enc).length ≤ r.length + c.length + 2 * (TS.flatMap Tk.enc).length + K ∧ ps.length ≤ J

set_option maxRecDepth 100000 in
set_option maxHeartbeats 1000000 in
theorem addText_true (bp base N : Nat) (s : ByteArray) (a : Option Addr) (n tc : Nat) (TS : List Tk) (D : List UInt8) (v : Value) (w : World) (hbp : bp < base) (hb : base ≤ w.heap.size) (hs : s.size ≤ 1048576) (hN : N + 2 * n + 1 ≤ 4194304) (hT : ToksAt bp base w a n tc TS) (hP : PAt bp base w v N D) (hl : D.length + s.size + 2 * (TS.flatMap Tk.enc).length + 80 * n + 80 ≤ 1099511627776) :
    Calls Try.prog 31 #[.pointer (some ⟨bp, 0, none⟩), .string s, .slice a n tc, .bool true] w (TextsOk bp base N (s.data.toList) ([]) TS D (80 * n + 40) (2 * n + 1) w) := by
  have H : Hid (ToksAt bp base w a n tc TS ∧ PAt bp base w v N D) := ⟨hT, hP⟩
  have hle := hT.le
  clear hT hP
  go_enter Try.func31, Try.ntmps31
  go_wp2_with fail
  have hbx : Below w.heap.size w (w.alloc (.cells #[.bool true] 4)) := (Below.refl _ _).alloc (Nat.le_refl _) _
  have HW : Hid (PAt bp base (w.alloc (.cells #[.bool true] 4)) v N D ∧ (w.alloc (.cells #[.bool true] 4)).heap[w.heap.size]? = some (.cells #[.bool true] 4) ∧ Ap true bp base w (w.alloc (.cells #[.bool true] 4)) ∧ ToksAt bp base (w.alloc (.cells #[.bool true] 4)) a n tc TS) := ⟨H.out.2.below hbx, Deep.blk_alloc_new _ _, .of_below hbx, H.out.1.below hbx⟩
  clear hbx
  generalize w.alloc (.cells #[.bool true] 4) = W at HW ⊢
  have hb0 := hb
  have hbp7 : bp < w.heap.size := (Array.getElem?_eq_some_iff.1 H.out.2.box).1
  generalize w.heap.size = b7 at HW hb hbp7 ⊢
  go_loopg [1, 2] n (fun gk sv tv wr => ∃ (k : Nat) (s' : ByteArray) (a' : Option Addr) (nk c' : Nat) (pre : List UInt8) (ps : List Pc) (vi : Value), gk = n - k ∧ k ≤ n ∧ k + nk ≤ n ∧ n ≤ k + nk ∧ sv = .string s' ∧ tv = .slice a' nk c' ∧ s'.size ≤ 1048576 ∧ Hid (s.data.toList = pre ++ s'.data.toList ∧ ToksAt bp base wr a' nk c' (TS.drop k) ∧ Adds (pre) ([]) (TS.take k) ps ∧ ps.length ≤ 2 * k ∧ PAt bp base wr vi (N + ps.length) (D ++ ps.flatMap Pc.enc) ∧ wr.heap[b7]? = some (.cells #[.bool true] 4) ∧ Ap true bp base w wr ∧ (ps.flatMap Pc.enc).length ≤ pre.length + 2 * ((TS.take k).flatMap Tk.enc).length + 80 * k))
  case atStart => exact ⟨0, s, a, n, tc, [], [], v, by omega, by omega, by omega, by omega, rfl, rfl, hs, rfl, HW.out.2.2.2, Adds.nil, by simp, by simpa using HW.out.1, HW.out.2.1, HW.out.2.2.1, by simp⟩
  case round =>
    obtain ⟨k, s', a', nk, c', pre, ps, vi, hgk, hk, hnk1, hnk2, rfl, rfl, hs', HR⟩ := hrel
    by_cases hlt : 0 < nk
    · have hltb : decide ((0 : Int) < (nk : Int)) = true := by simp; omega
      go_wp2_with fail
      refine (nextChunk_any bp base s' a' nk c' _ wr hs' HR.out.2.1 hlt).mono ?_
      rintro e w1 ⟨m, z, ok, rfl, hb1, hok⟩
      have HR1 : Hid (ToksAt bp base w1 a' nk c' (TS.drop k) ∧ PAt bp base w1 vi (N + ps.length) (D ++ ps.flatMap Pc.enc) ∧ w1.heap[b7]? = some (.cells #[.bool true] 4) ∧ Ap true bp base w w1) := ⟨HR.out.2.1.below hb1, HR.out.2.2.2.2.1.below hb1, (hb1.block b7 (Array.getElem?_eq_some_iff.1 HR.out.2.2.2.2.2.1).1).trans HR.out.2.2.2.2.2.1, HR.out.2.2.2.2.2.2.1.next hb1⟩
      clear hb1
      dsimp only
      cases ok with
      | false =>
        clear hok
        obtain ⟨t0, ht0⟩ : ∃ t, (TS.drop k)[0]? = some t := ⟨_, List.getElem?_eq_getElem (by have := HR1.out.1.len; omega)⟩
        obtain ⟨g, o, _, _, _, _, hxa, _⟩ := HR1.out.1.cell 0 t0 ht0
        subst hxa
        clear ht0
        have hcap := HR1.out.1.cap
        have hZ : (s'.size : Int) ≤ (s'.size : Int) := by omega
        have hM' : (nk : Int) ≤ (nk : Int) := by omega
        have hMc : (nk : Int) ≤ (c' : Int) := by omega
        have hnc : (nk : Int) ≤ (c' : Int) := by omega
        have hpz : pre.length + s'.size = s.size := by
          have := congrArg List.length HR.out.1
          rw [List.length_append, size_list, size_list] at this
          omega
        have htk : TS.take (k + nk) = TS.take k ++ (TS.drop k).take nk := List.take_add
        have hen : ((TS.take k).flatMap Tk.enc).length + (((TS.drop k).take nk).flatMap Tk.enc).length ≤ (TS.flatMap Tk.enc).length := by
          have := flat_take_le Tk.enc TS (k + nk)
          rw [htk, List.flatMap_append, List.length_append] at this
          exact this
        have hpsl := HR.out.2.2.2.1
        have hbnd := HR.out.2.2.2.2.2.2.2
        have HTK : Hid (TS.take (k + nk) = TS.take k ++ (TS.drop k).take nk) := htk
        have hXs : s'.size = s'.size := by first | rfl | (rw [ByteArray.size_extract]; omega)
        have hE0 : (⟨#[]⟩ : ByteArray).size = 0 := rfl
        have HDA : Hid (∀ W', Below w1.heap.size w1 W' → W'.cell? ⟨b7, 0, none⟩ = some (.bool true) ∧ base ≤ W'.heap.size ∧ ToksAt bp base W' (some ⟨g, o, none⟩) nk c' ((TS.drop k).take nk) ∧ PAt bp base W' vi (N + ps.length) (D ++ ps.flatMap Pc.enc) ∧ W'.heap[b7]? = some (.cells #[.bool true] 4) ∧ Ap true bp base w W' ∧ ToksAt bp base W' (some ⟨g, o, none⟩) nk c' (TS.drop k)) := fun W' hB => by
          have hbox := (hB.block b7 (Array.getElem?_eq_some_iff.1 HR1.out.2.2.1).1).trans HR1.out.2.2.1
          exact ⟨cell_atB hbox rfl, Nat.le_trans hb0 (Nat.le_trans HR1.out.2.2.2.size hB.size), (HR1.out.1.below hB).take (by omega), HR1.out.2.1.below hB, hbox, HR1.out.2.2.2.next hB, HR1.out.1.below hB⟩
        clear htk
        go_upto_region 6 with fail
        go_region_held3 (fun _ => True) (trivial) (first | (go_at_call 40; refine (chunk40 _ _ _ _ b7 true _ ?_).mono ?_; exact (HDA.out _ (by first | with_reducible exact Below.refl _ _ | with_reducible exact (Below.refl _ _).drew | with_reducible exact (Below.refl _ _).drew.drew)).1; rintro e w2 ⟨rfl, hb2⟩; have hb2' : Below w1.heap.size w1 w2 := (by first | with_reducible exact bw1 hb2 | with_reducible exact bw2 hb2 | with_reducible exact bw2b hb2); have HB2 : Hid (Below w1.heap.size w1 w2) := hb2'; clear hb2 hb2'; dsimp only) | (go_at_call 41; refine (addChunk_any bp base (N + ps.length) s' ⟨#[]⟩ _ _ c' ((TS.drop k).take nk) (D ++ ps.flatMap Pc.enc) vi _ hbp (HDA.out _ HB2.out).2.1 (by first | omega | (rw [hXs]; omega) | (rw [hE0]; omega)) (by first | omega | (rw [hXs]; omega) | (rw [hE0]; omega)) (by omega) (HDA.out _ HB2.out).2.2.1 (HDA.out _ HB2.out).2.2.2.1 (by first | (rw [hXs, hE0, List.length_append]; omega) | (rw [hE0, List.length_append]; omega))).mono ?_; rintro e w3 ⟨rfl, qs, v3, hA3, hP3, hAp3, hl3, hq3⟩; have HR3 : Hid (Adds (s'.data.toList) ([]) ((TS.drop k).take nk) qs ∧ PAt bp base w3 v3 (N + ps.length + qs.length) (D ++ ps.flatMap Pc.enc ++ qs.flatMap Pc.enc) ∧ Ap true bp base w2 w3 ∧ (qs.flatMap Pc.enc).length ≤ s'.size + 2 * (((TS.drop k).take nk).flatMap Tk.enc).length + 40 * (nk + 1) ∧ qs.length ≤ nk + 1) := ⟨hA3, hP3, hAp3, by have e1 : s'.data.toList.length = s'.size := (size_list _).trans hXs; simp only [e1, List.length_nil] at hl3; simpa using hl3, by have := List.length_take_le nk (TS.drop k); omega⟩; clear hA3 hP3 hAp3 hl3 hq3; dsimp only))
        clear HDA
        have HW3 : Hid (w3.heap[b7]? = some (.cells #[.bool true] 4) ∧ Ap true bp base w w3 ∧ ToksAt bp base w3 (some ⟨g, o, none⟩) nk c' (TS.drop k)) := by
          have hA := (HR1.out.2.2.2.next HB2.out).trans HR3.out.2.2.1
          exact ⟨HR3.out.2.2.1.keepT (by omega) ((HB2.out.block b7 (Array.getElem?_eq_some_iff.1 HR1.out.2.2.1).1).trans HR1.out.2.2.1) (by decide), hA, (HR1.out.1.below HB2.out).ap HR3.out.2.2.1⟩
        have fin : ∀ (a2 : Option Addr) (cx : Nat) (w4 : World) (s2 : ByteArray), Below w3.heap.size w3 w4 → cx = c' - nk → (a2 = some ⟨g, o, none⟩ ∧ c' = nk ∨ a2 = some ⟨g, o + nk * 4, none⟩) → s2.data.toList = (s'.extract s'.size s'.size).data.toList → Hid (s.data.toList = (pre ++ s'.data.toList) ++ s2.data.toList ∧ ToksAt bp base w4 a2 0 cx (TS.drop (k + nk)) ∧ Adds (pre ++ s'.data.toList) ([]) (TS.take (k + nk)) (ps ++ qs) ∧ (ps ++ qs).length ≤ 2 * (k + nk) ∧ PAt bp base w4 v3 (N + (ps ++ qs).length) (D ++ (ps ++ qs).flatMap Pc.enc) ∧ w4.heap[b7]? = some (.cells #[.bool true] 4) ∧ Ap true bp base w w4 ∧ ((ps ++ qs).flatMap Pc.enc).length ≤ (pre ++ s'.data.toList).length + 2 * ((TS.take (k + nk)).flatMap Tk.enc).length + 80 * (k + nk)) := by
          intro a2 cx w4 s2 hb4 hcx ha2 hs2
          subst hcx
          refine ⟨?_, ?_, ?_, ?_, ?_, ?_, HW3.out.2.1.next hb4, ?_⟩
          · rw [HR.out.1, hs2, List.append_assoc]
            congr 1
            rw [sx_end, List.append_nil]
          · rw [← List.drop_drop]
            rcases ha2 with ⟨rfl, hcM⟩ | rfl
            · have hnM : nk = nk := by omega
              have h0 := HW3.out.2.2.below hb4
              have e1 : (TS.drop k).drop nk = [] := List.drop_eq_nil_of_le (by have := h0.len; omega)
              have e2 : 0 = 0 := by omega
              have e3 : c' - nk = 0 := by omega
              rw [e1, e2, e3]
              exact ⟨rfl, by omega, by omega, by unfold maxLen; omega, fun _ => rfl, h0.spot, fun i t ht => by simp at ht⟩
            · have h9 := (HW3.out.2.2.below hb4).drop (k := nk) (by omega)
              first | exact h9 | (rw [Nat.sub_self] at h9; exact h9)
          · rw [HTK.out]
            have h1 := HR.out.2.2.1.append HR3.out.1
            simpa using h1
          · rw [List.length_append]
            have := HR3.out.2.2.2.2
            omega
          · rw [List.length_append, List.flatMap_append, ← Nat.add_assoc, ← List.append_assoc]
            exact HR3.out.2.1.below hb4
          · exact (hb4.block b7 (Array.getElem?_eq_some_iff.1 HW3.out.1).1).trans HW3.out.1
          · rw [HTK.out, List.flatMap_append, List.flatMap_append, List.length_append, List.length_append, List.length_append, size_list, hXs]
            have := HR3.out.2.2.2.1
            omega
        have FIN : Hid (∀ (a2 : Option Addr) (cx : Nat) (w4 : World) (s2 : ByteArray), Below w3.heap.size w3 w4 → cx = c' - nk → (a2 = some ⟨g, o, none⟩ ∧ c' = nk ∨ a2 = some ⟨g, o + nk * 4, none⟩) → s2.data.toList = (s'.extract s'.size s'.size).data.toList → Hid (s.data.toList = (pre ++ s'.data.toList) ++ s2.data.toList ∧ ToksAt bp base w4 a2 0 cx (TS.drop (k + nk)) ∧ Adds (pre ++ s'.data.toList) ([]) (TS.take (k + nk)) (ps ++ qs) ∧ (ps ++ qs).length ≤ 2 * (k + nk) ∧ PAt bp base w4 v3 (N + (ps ++ qs).length) (D ++ (ps ++ qs).flatMap Pc.enc) ∧ w4.heap[b7]? = some (.cells #[.bool true] 4) ∧ Ap true bp base w w4 ∧ ((ps ++ qs).flatMap Pc.enc).length ≤ (pre ++ s'.data.toList).length + 2 * ((TS.take (k + nk)).flatMap Tk.enc).length + 80 * (k + nk))) := fin
        clear fin hpsl hbnd hen hpz
        go_wp2
        go_quiet (fail)
        go_wp2
        all_goals
          go_roundg (n - (k + nk))
          case measure => omega
          case rel =>
            refine ⟨k + nk, _, _, _, _, pre ++ s'.data.toList, ps ++ qs, v3, rfl, ?_, ?_, ?_, rfl, rfl, ?_, ?_⟩
            · omega
            · omega
            · omega
            · first | (show (0 : Nat) ≤ _; omega) | (rw [ByteArray.size_extract]; omega)
            · refine FIN.out _ _ _ _ ?_ ?_ ?_ ?_
              · exact below_drewN (Below.refl _ _) _
              · omega
              · first | exact .inr rfl | (left; exact ⟨rfl, by first | assumption | omega⟩)
              · first | rfl | (rw [sx_end]; rfl)
      | true =>
        obtain ⟨hm1, hm2, hz⟩ := hok rfl
        clear hok
        by_cases hmn : m = nk
        · have hmb : ((m : Int) == (nk : Int)) = true := by simp; omega
          clear hmn
          obtain ⟨t0, ht0⟩ : ∃ t, (TS.drop k)[0]? = some t := ⟨_, List.getElem?_eq_getElem (by have := HR1.out.1.len; omega)⟩
          obtain ⟨g, o, _, _, _, _, hxa, _⟩ := HR1.out.1.cell 0 t0 ht0
          subst hxa
          clear ht0
          have hcap := HR1.out.1.cap
          have hZ : (s'.size : Int) ≤ (s'.size : Int) := by omega
          have hM' : (nk : Int) ≤ (nk : Int) := by omega
          have hMc : (nk : Int) ≤ (c' : Int) := by omega
          have hnc : (nk : Int) ≤ (c' : Int) := by omega
          have hpz : pre.length + s'.size = s.size := by
            have := congrArg List.length HR.out.1
            rw [List.length_append, size_list, size_list] at this
            omega
          have htk : TS.take (k + nk) = TS.take k ++ (TS.drop k).take nk := List.take_add
          have hen : ((TS.take k).flatMap Tk.enc).length + (((TS.drop k).take nk).flatMap Tk.enc).length ≤ (TS.flatMap Tk.enc).length := by
            have := flat_take_le Tk.enc TS (k + nk)
            rw [htk, List.flatMap_append, List.length_append] at this
            exact this
          have hpsl := HR.out.2.2.2.1
          have hbnd := HR.out.2.2.2.2.2.2.2
          have HTK : Hid (TS.take (k + nk) = TS.take k ++ (TS.drop k).take nk) := htk
          have hXs : s'.size = s'.size := by first | rfl | (rw [ByteArray.size_extract]; omega)
          have hE0 : (⟨#[]⟩ : ByteArray).size = 0 := rfl
          have HDA : Hid (∀ W', Below w1.heap.size w1 W' → W'.cell? ⟨b7, 0, none⟩ = some (.bool true) ∧ base ≤ W'.heap.size ∧ ToksAt bp base W' (some ⟨g, o, none⟩) nk c' ((TS.drop k).take nk) ∧ PAt bp base W' vi (N + ps.length) (D ++ ps.flatMap Pc.enc) ∧ W'.heap[b7]? = some (.cells #[.bool true] 4) ∧ Ap true bp base w W' ∧ ToksAt bp base W' (some ⟨g, o, none⟩) nk c' (TS.drop k)) := fun W' hB => by
            have hbox := (hB.block b7 (Array.getElem?_eq_some_iff.1 HR1.out.2.2.1).1).trans HR1.out.2.2.1
            exact ⟨cell_atB hbox rfl, Nat.le_trans hb0 (Nat.le_trans HR1.out.2.2.2.size hB.size), (HR1.out.1.below hB).take (by omega), HR1.out.2.1.below hB, hbox, HR1.out.2.2.2.next hB, HR1.out.1.below hB⟩
          clear htk
          go_upto_region 6 with fail
          go_region_held3 (fun _ => True) (trivial) (first | (go_at_call 40; refine (chunk40 _ _ _ _ b7 true _ ?_).mono ?_; exact (HDA.out _ (by first | with_reducible exact Below.refl _ _ | with_reducible exact (Below.refl _ _).drew | with_reducible exact (Below.refl _ _).drew.drew)).1; rintro e w2 ⟨rfl, hb2⟩; have hb2' : Below w1.heap.size w1 w2 := (by first | with_reducible exact bw1 hb2 | with_reducible exact bw2 hb2 | with_reducible exact bw2b hb2); have HB2 : Hid (Below w1.heap.size w1 w2) := hb2'; clear hb2 hb2'; dsimp only) | (go_at_call 41; refine (addChunk_any bp base (N + ps.length) s' ⟨#[]⟩ _ _ c' ((TS.drop k).take nk) (D ++ ps.flatMap Pc.enc) vi _ hbp (HDA.out _ HB2.out).2.1 (by first | omega | (rw [hXs]; omega) | (rw [hE0]; omega)) (by first | omega | (rw [hXs]; omega) | (rw [hE0]; omega)) (by omega) (HDA.out _ HB2.out).2.2.1 (HDA.out _ HB2.out).2.2.2.1 (by first | (rw [hXs, hE0, List.length_append]; omega) | (rw [hE0, List.length_append]; omega))).mono ?_; rintro e w3 ⟨rfl, qs, v3, hA3, hP3, hAp3, hl3, hq3⟩; have HR3 : Hid (Adds (s'.data.toList) ([]) ((TS.drop k).take nk) qs ∧ PAt bp base w3 v3 (N + ps.length + qs.length) (D ++ ps.flatMap Pc.enc ++ qs.flatMap Pc.enc) ∧ Ap true bp base w2 w3 ∧ (qs.flatMap Pc.enc).length ≤ s'.size + 2 * (((TS.drop k).take nk).flatMap Tk.enc).length + 40 * (nk + 1) ∧ qs.length ≤ nk + 1) := ⟨hA3, hP3, hAp3, by have e1 : s'.data.toList.length = s'.size := (size_list _).trans hXs; simp only [e1, List.length_nil] at hl3; simpa using hl3, by have := List.length_take_le nk (TS.drop k); omega⟩; clear hA3 hP3 hAp3 hl3 hq3; dsimp only))
          clear HDA
          have HW3 : Hid (w3.heap[b7]? = some (.cells #[.bool true] 4) ∧ Ap true bp base w w3 ∧ ToksAt bp base w3 (some ⟨g, o, none⟩) nk c' (TS.drop k)) := by
            have hA := (HR1.out.2.2.2.next HB2.out).trans HR3.out.2.2.1
            exact ⟨HR3.out.2.2.1.keepT (by omega) ((HB2.out.block b7 (Array.getElem?_eq_some_iff.1 HR1.out.2.2.1).1).trans HR1.out.2.2.1) (by decide), hA, (HR1.out.1.below HB2.out).ap HR3.out.2.2.1⟩
          have fin : ∀ (a2 : Option Addr) (cx : Nat) (w4 : World) (s2 : ByteArray), Below w3.heap.size w3 w4 → cx = c' - nk → (a2 = some ⟨g, o, none⟩ ∧ c' = nk ∨ a2 = some ⟨g, o + nk * 4, none⟩) → s2.data.toList = (s'.extract s'.size s'.size).data.toList → Hid (s.data.toList = (pre ++ s'.data.toList) ++ s2.data.toList ∧ ToksAt bp base w4 a2 0 cx (TS.drop (k + nk)) ∧ Adds (pre ++ s'.data.toList) ([]) (TS.take (k + nk)) (ps ++ qs) ∧ (ps ++ qs).length ≤ 2 * (k + nk) ∧ PAt bp base w4 v3 (N + (ps ++ qs).length) (D ++ (ps ++ qs).flatMap Pc.enc) ∧ w4.heap[b7]? = some (.cells #[.bool true] 4) ∧ Ap true bp base w w4 ∧ ((ps ++ qs).flatMap Pc.enc).length ≤ (pre ++ s'.data.toList).length + 2 * ((TS.take (k + nk)).flatMap Tk.enc).length + 80 * (k + nk)) := by
            intro a2 cx w4 s2 hb4 hcx ha2 hs2
            subst hcx
            refine ⟨?_, ?_, ?_, ?_, ?_, ?_, HW3.out.2.1.next hb4, ?_⟩
            · rw [HR.out.1, hs2, List.append_assoc]
              congr 1
              rw [sx_end, List.append_nil]
            · rw [← List.drop_drop]
              rcases ha2 with ⟨rfl, hcM⟩ | rfl
              · have hnM : nk = nk := by omega
                have h0 := HW3.out.2.2.below hb4
                have e1 : (TS.drop k).drop nk = [] := List.drop_eq_nil_of_le (by have := h0.len; omega)
                have e2 : 0 = 0 := by omega
                have e3 : c' - nk = 0 := by omega
                rw [e1, e2, e3]
                exact ⟨rfl, by omega, by omega, by unfold maxLen; omega, fun _ => rfl, h0.spot, fun i t ht => by simp at ht⟩
              · have h9 := (HW3.out.2.2.below hb4).drop (k := nk) (by omega)
                first | exact h9 | (rw [Nat.sub_self] at h9; exact h9)
            · rw [HTK.out]
              have h1 := HR.out.2.2.1.append HR3.out.1
              simpa using h1
            · rw [List.length_append]
              have := HR3.out.2.2.2.2
              omega
            · rw [List.length_append, List.flatMap_append, ← Nat.add_assoc, ← List.append_assoc]
              exact HR3.out.2.1.below hb4
            · exact (hb4.block b7 (Array.getElem?_eq_some_iff.1 HW3.out.1).1).trans HW3.out.1
            · rw [HTK.out, List.flatMap_append, List.flatMap_append, List.length_append, List.length_append, List.length_append, size_list, hXs]
              have := HR3.out.2.2.2.1
              omega
          have FIN : Hid (∀ (a2 : Option Addr) (cx : Nat) (w4 : World) (s2 : ByteArray), Below w3.heap.size w3 w4 → cx = c' - nk → (a2 = some ⟨g, o, none⟩ ∧ c' = nk ∨ a2 = some ⟨g, o + nk * 4, none⟩) → s2.data.toList = (s'.extract s'.size s'.size).data.toList → Hid (s.data.toList = (pre ++ s'.data.toList) ++ s2.data.toList ∧ ToksAt bp base w4 a2 0 cx (TS.drop (k + nk)) ∧ Adds (pre ++ s'.data.toList) ([]) (TS.take (k + nk)) (ps ++ qs) ∧ (ps ++ qs).length ≤ 2 * (k + nk) ∧ PAt bp base w4 v3 (N + (ps ++ qs).length) (D ++ (ps ++ qs).flatMap Pc.enc) ∧ w4.heap[b7]? = some (.cells #[.bool true] 4) ∧ Ap true bp base w w4 ∧ ((ps ++ qs).flatMap Pc.enc).length ≤ (pre ++ s'.data.toList).length + 2 * ((TS.take (k + nk)).flatMap Tk.enc).length + 80 * (k + nk))) := fin
          clear fin hpsl hbnd hen hpz
          go_wp2
          go_quiet (fail)
          go_wp2
          all_goals
            go_roundg (n - (k + nk))
            case measure => omega
            case rel =>
              refine ⟨k + nk, _, _, _, _, pre ++ s'.data.toList, ps ++ qs, v3, rfl, ?_, ?_, ?_, rfl, rfl, ?_, ?_⟩
              · omega
              · omega
              · omega
              · first | (show (0 : Nat) ≤ _; omega) | (rw [ByteArray.size_extract]; omega)
              · refine FIN.out _ _ _ _ ?_ ?_ ?_ ?_
                · exact below_drewN (Below.refl _ _) _
                · omega
                · first | exact .inr rfl | (left; exact ⟨rfl, by first | assumption | omega⟩)
                · first | rfl | (rw [sx_end]; rfl)
        · have hmb : ((m : Int) == (nk : Int)) = false := by simp; omega
          obtain ⟨t0, ht0⟩ : ∃ t, (TS.drop k)[0]? = some t := ⟨_, List.getElem?_eq_getElem (by have := HR1.out.1.len; omega)⟩
          obtain ⟨g, o, _, _, _, _, hxa, _⟩ := HR1.out.1.cell 0 t0 ht0
          subst hxa
          clear ht0
          have hcap := HR1.out.1.cap
          have hZ : (z : Int) ≤ (s'.size : Int) := by omega
          have hM' : (m : Int) ≤ (nk : Int) := by omega
          have hMc : (m : Int) ≤ (c' : Int) := by omega
          have hnc : (nk : Int) ≤ (c' : Int) := by omega
          have hpz : pre.length + s'.size = s.size := by
            have := congrArg List.length HR.out.1
            rw [List.length_append, size_list, size_list] at this
            omega
          have htk : TS.take (k + m) = TS.take k ++ (TS.drop k).take m := List.take_add
          have hen : ((TS.take k).flatMap Tk.enc).length + (((TS.drop k).take m).flatMap Tk.enc).length ≤ (TS.flatMap Tk.enc).length := by
            have := flat_take_le Tk.enc TS (k + m)
            rw [htk, List.flatMap_append, List.length_append] at this
            exact this
          have hpsl := HR.out.2.2.2.1
          have hbnd := HR.out.2.2.2.2.2.2.2
          have HTK : Hid (TS.take (k + m) = TS.take k ++ (TS.drop k).take m) := htk
          have hXs : (s'.extract 0 z).size = z := by first | rfl | (rw [ByteArray.size_extract]; omega)
          have hE0 : (⟨#[]⟩ : ByteArray).size = 0 := rfl
          have HDA : Hid (∀ W', Below w1.heap.size w1 W' → W'.cell? ⟨b7, 0, none⟩ = some (.bool true) ∧ base ≤ W'.heap.size ∧ ToksAt bp base W' (some ⟨g, o, none⟩) m c' ((TS.drop k).take m) ∧ PAt bp base W' vi (N + ps.length) (D ++ ps.flatMap Pc.enc) ∧ W'.heap[b7]? = some (.cells #[.bool true] 4) ∧ Ap true bp base w W' ∧ ToksAt bp base W' (some ⟨g, o, none⟩) nk c' (TS.drop k)) := fun W' hB => by
            have hbox := (hB.block b7 (Array.getElem?_eq_some_iff.1 HR1.out.2.2.1).1).trans HR1.out.2.2.1
            exact ⟨cell_atB hbox rfl, Nat.le_trans hb0 (Nat.le_trans HR1.out.2.2.2.size hB.size), (HR1.out.1.below hB).take (by omega), HR1.out.2.1.below hB, hbox, HR1.out.2.2.2.next hB, HR1.out.1.below hB⟩
          clear htk
          go_upto_region 6 with fail
          go_region_held3 (fun _ => True) (trivial) (first | (go_at_call 40; refine (chunk40 _ _ _ _ b7 true _ ?_).mono ?_; exact (HDA.out _ (by first | with_reducible exact Below.refl _ _ | with_reducible exact (Below.refl _ _).drew | with_reducible exact (Below.refl _ _).drew.drew)).1; rintro e w2 ⟨rfl, hb2⟩; have hb2' : Below w1.heap.size w1 w2 := (by first | with_reducible exact bw1 hb2 | with_reducible exact bw2 hb2 | with_reducible exact bw2b hb2); have HB2 : Hid (Below w1.heap.size w1 w2) := hb2'; clear hb2 hb2'; dsimp only) | (go_at_call 41; refine (addChunk_any bp base (N + ps.length) (s'.extract 0 z) ⟨#[]⟩ _ _ c' ((TS.drop k).take m) (D ++ ps.flatMap Pc.enc) vi _ hbp (HDA.out _ HB2.out).2.1 (by first | omega | (rw [hXs]; omega) | (rw [hE0]; omega)) (by first | omega | (rw [hXs]; omega) | (rw [hE0]; omega)) (by omega) (HDA.out _ HB2.out).2.2.1 (HDA.out _ HB2.out).2.2.2.1 (by first | (rw [hXs, hE0, List.length_append]; omega) | (rw [hE0, List.length_append]; omega))).mono ?_; rintro e w3 ⟨rfl, qs, v3, hA3, hP3, hAp3, hl3, hq3⟩; have HR3 : Hid (Adds ((s'.extract 0 z).data.toList) ([]) ((TS.drop k).take m) qs ∧ PAt bp base w3 v3 (N + ps.length + qs.length) (D ++ ps.flatMap Pc.enc ++ qs.flatMap Pc.enc) ∧ Ap true bp base w2 w3 ∧ (qs.flatMap Pc.enc).length ≤ z + 2 * (((TS.drop k).take m).flatMap Tk.enc).length + 40 * (m + 1) ∧ qs.length ≤ m + 1) := ⟨hA3, hP3, hAp3, by have e1 : (s'.extract 0 z).data.toList.length = z := (size_list _).trans hXs; simp only [e1, List.length_nil] at hl3; simpa using hl3, by have := List.length_take_le m (TS.drop k); omega⟩; clear hA3 hP3 hAp3 hl3 hq3; dsimp only))
          clear HDA
          have HW3 : Hid (w3.heap[b7]? = some (.cells #[.bool true] 4) ∧ Ap true bp base w w3 ∧ ToksAt bp base w3 (some ⟨g, o, none⟩) nk c' (TS.drop k)) := by
            have hA := (HR1.out.2.2.2.next HB2.out).trans HR3.out.2.2.1
            exact ⟨HR3.out.2.2.1.keepT (by omega) ((HB2.out.block b7 (Array.getElem?_eq_some_iff.1 HR1.out.2.2.1).1).trans HR1.out.2.2.1) (by decide), hA, (HR1.out.1.below HB2.out).ap HR3.out.2.2.1⟩
          have fin : ∀ (a2 : Option Addr) (cx : Nat) (w4 : World) (s2 : ByteArray), Below w3.heap.size w3 w4 → cx = c' - m → (a2 = some ⟨g, o, none⟩ ∧ c' = m ∨ a2 = some ⟨g, o + m * 4, none⟩) → s2.data.toList = (s'.extract z s'.size).data.toList → Hid (s.data.toList = (pre ++ (s'.extract 0 z).data.toList) ++ s2.data.toList ∧ ToksAt bp base w4 a2 (nk - m) cx (TS.drop (k + m)) ∧ Adds (pre ++ (s'.extract 0 z).data.toList) ([]) (TS.take (k + m)) (ps ++ qs) ∧ (ps ++ qs).length ≤ 2 * (k + m) ∧ PAt bp base w4 v3 (N + (ps ++ qs).length) (D ++ (ps ++ qs).flatMap Pc.enc) ∧ w4.heap[b7]? = some (.cells #[.bool true] 4) ∧ Ap true bp base w w4 ∧ ((ps ++ qs).flatMap Pc.enc).length ≤ (pre ++ (s'.extract 0 z).data.toList).length + 2 * ((TS.take (k + m)).flatMap Tk.enc).length + 80 * (k + m)) := by
            intro a2 cx w4 s2 hb4 hcx ha2 hs2
            subst hcx
            refine ⟨?_, ?_, ?_, ?_, ?_, ?_, HW3.out.2.1.next hb4, ?_⟩
            · rw [HR.out.1, hs2, List.append_assoc]
              congr 1
              exact (sx_split s' z).symm
            · rw [← List.drop_drop]
              rcases ha2 with ⟨rfl, hcM⟩ | rfl
              · have hnM : nk = m := by omega
                have h0 := HW3.out.2.2.below hb4
                have e1 : (TS.drop k).drop m = [] := List.drop_eq_nil_of_le (by have := h0.len; omega)
                have e2 : (nk - m) = 0 := by omega
                have e3 : c' - m = 0 := by omega
                rw [e1, e2, e3]
                exact ⟨rfl, by omega, by omega, by unfold maxLen; omega, fun _ => rfl, h0.spot, fun i t ht => by simp at ht⟩
              · have h9 := (HW3.out.2.2.below hb4).drop (k := m) (by omega)
                first | exact h9 | (rw [Nat.sub_self] at h9; exact h9)
            · rw [HTK.out]
              have h1 := HR.out.2.2.1.append HR3.out.1
              simpa using h1
            · rw [List.length_append]
              have := HR3.out.2.2.2.2
              omega
            · rw [List.length_append, List.flatMap_append, ← Nat.add_assoc, ← List.append_assoc]
              exact HR3.out.2.1.below hb4
            · exact (hb4.block b7 (Array.getElem?_eq_some_iff.1 HW3.out.1).1).trans HW3.out.1
            · rw [HTK.out, List.flatMap_append, List.flatMap_append, List.length_append, List.length_append, List.length_append, size_list, hXs]
              have := HR3.out.2.2.2.1
              omega
          have FIN : Hid (∀ (a2 : Option Addr) (cx : Nat) (w4 : World) (s2 : ByteArray), Below w3.heap.size w3 w4 → cx = c' - m → (a2 = some ⟨g, o, none⟩ ∧ c' = m ∨ a2 = some ⟨g, o + m * 4, none⟩) → s2.data.toList = (s'.extract z s'.size).data.toList → Hid (s.data.toList = (pre ++ (s'.extract 0 z).data.toList) ++ s2.data.toList ∧ ToksAt bp base w4 a2 (nk - m) cx (TS.drop (k + m)) ∧ Adds (pre ++ (s'.extract 0 z).data.toList) ([]) (TS.take (k + m)) (ps ++ qs) ∧ (ps ++ qs).length ≤ 2 * (k + m) ∧ PAt bp base w4 v3 (N + (ps ++ qs).length) (D ++ (ps ++ qs).flatMap Pc.enc) ∧ w4.heap[b7]? = some (.cells #[.bool true] 4) ∧ Ap true bp base w w4 ∧ ((ps ++ qs).flatMap Pc.enc).length ≤ (pre ++ (s'.extract 0 z).data.toList).length + 2 * ((TS.take (k + m)).flatMap Tk.enc).length + 80 * (k + m))) := fin
          clear fin hpsl hbnd hen hpz
          go_wp2
          go_quiet (fail)
          go_wp2
          all_goals
            go_roundg (n - (k + m))
            case measure => omega
            case rel =>
              refine ⟨k + m, _, _, _, _, pre ++ (s'.extract 0 z).data.toList, ps ++ qs, v3, rfl, ?_, ?_, ?_, rfl, rfl, ?_, ?_⟩
              · omega
              · omega
              · omega
              · first | (show (0 : Nat) ≤ _; omega) | (rw [ByteArray.size_extract]; omega)
              · refine FIN.out _ _ _ _ ?_ ?_ ?_ ?_
                · exact below_drewN (Below.refl _ _) _
                · omega
                · first | exact .inr rfl | (left; exact ⟨rfl, by first | assumption | omega⟩)
                · first | rfl | (rw [sx_end]; rfl)
    · have hltb : decide ((0 : Int) < (nk : Int)) = false := by simp; omega
      have hkn : k = n := by omega
      have HKN : Hid (TS.take k = TS) := List.take_of_length_le (by have := H.out.1.len; omega)
      clear hkn
      cases he : s'.toList.isEmpty with
      | true =>
        have HE : Hid (s'.data.toList = []) := isEmpty_list he
        go_wp2
        refine bodyPost_ret (v := .tuple #[]) (by simp [results, Try.results31, go_sem]) rfl ?_
        obtain ⟨h1, h2, h3, h4, h5, h6, h7, h8⟩ := HR.out
        rw [HKN.out] at h3 h8
        rw [HE.out, List.append_nil] at h1
        refine ⟨rfl, ps, vi, by rw [h1]; exact h3, h5, h7, ?_, by omega⟩
        rw [h1]
        simp only [List.length_nil]
        omega
      | false =>
        have r7 : wr.cell? ⟨b7, 0, none⟩ = some (.bool true) := cell_atB HR.out.2.2.2.2.2.1 rfl
        have hpz : pre.length + s'.size = s.size := by
          have := congrArg List.length HR.out.1
          rw [List.length_append, size_list, size_list] at this
          omega
        have hpsl := HR.out.2.2.2.1
        have hbnd := HR.out.2.2.2.2.2.2.2
        rw [HKN.out] at hbnd
        have hE0 : (⟨#[]⟩ : ByteArray).size = 0 := rfl
        go_wp2_with fail
        refine (chunk40 s' none 0 0 b7 true wr r7).mono ?_
        rintro e w2 ⟨rfl, hb2⟩
        have HB2 : Hid (Below wr.heap.size wr w2) := hb2
        clear hb2 r7
        dsimp only
        go_wp2_with fail
        refine (addChunk_any bp base (N + ps.length) s' ⟨#[]⟩ none 0 0 [] (D ++ ps.flatMap Pc.enc) vi w2 hbp (Nat.le_trans hb0 (Nat.le_trans HR.out.2.2.2.2.2.2.1.size HB2.out.size)) (by first | omega | (rw [hE0]; omega)) (by first | omega | (rw [hE0]; omega)) (by omega) (ToksAt.none0 _ _ _) (HR.out.2.2.2.2.1.below HB2.out) (by rw [hE0, List.length_append]; simp only [List.flatMap_nil, List.length_nil]; omega)).mono ?_
        rintro e w3 ⟨rfl, qs, v3, hA3, hP3, hAp3, hl3, hq3⟩
        have HR3 : Hid (Adds (s'.data.toList) ([]) [] qs ∧ PAt bp base w3 v3 (N + ps.length + qs.length) (D ++ ps.flatMap Pc.enc ++ qs.flatMap Pc.enc) ∧ Ap true bp base w2 w3 ∧ (qs.flatMap Pc.enc).length ≤ s'.size + 40 ∧ qs.length ≤ 1) := ⟨hA3, hP3, hAp3, by have e1 : s'.data.toList.length = s'.size := size_list _; simp only [e1, List.length_nil, List.flatMap_nil] at hl3; omega, by simpa using hq3⟩
        clear hA3 hP3 hAp3 hl3 hq3
        dsimp only
        go_wp2
        refine bodyPost_ret (v := .tuple #[]) (by simp [results, Try.results31, go_sem]) rfl ?_
        obtain ⟨h1, h2, h3, h4, h5, h6, h7, h8⟩ := HR.out
        rw [HKN.out] at h3
        have hA := h3.append HR3.out.1
        refine ⟨rfl, ps ++ qs, v3, ?_, ?_, (h7.next HB2.out).trans HR3.out.2.2.1, ?_, ?_⟩
        · rw [h1]
          simpa using hA
        · rw [List.length_append, List.flatMap_append, ← Nat.add_assoc, ← List.append_assoc]
          exact HR3.out.2.1
        · rw [List.flatMap_append, List.length_append]
          have h9 := HR3.out.2.2.2.1
          have e1 : s.data.toList.length = s.size := size_list _
          simp only [e1, List.length_nil]
          omega
        · rw [List.length_append]
          have := HR3.out.2.2.2.2
          omega

set_option maxRecDepth 100000 in
set_option maxHeartbeats 1000000 in
theorem addText_false (bp base N : Nat) (s : ByteArray) (a : Option Addr) (n tc : Nat) (TS : List Tk) (D : List UInt8) (v : Value) (w : World) (hbp : bp < base) (hb : base ≤ w.heap.size) (hs : s.size ≤ 1048576) (hN : N + 2 * n + 1 ≤ 4194304) (hT : ToksAt bp base w a n tc TS) (hP : PAt bp base w v N D) (hl : D.length + s.size + 2 * (TS.flatMap Tk.enc).length + 80 * n + 80 ≤ 1099511627776) :
    Calls Try.prog 31 #[.pointer (some ⟨bp, 0, none⟩), .string s, .slice a n tc, .bool false] w (TextsOk bp base N ([]) (s.data.toList) TS D (80 * n + 40) (2 * n + 1) w) := by
  have H : Hid (ToksAt bp base w a n tc TS ∧ PAt bp base w v N D) := ⟨hT, hP⟩
  have hle := hT.le
  clear hT hP
  go_enter Try.func31, Try.ntmps31
  go_wp2_with fail
  have hbx : Below w.heap.size w (w.alloc (.cells #[.bool false] 4)) := (Below.refl _ _).alloc (Nat.le_refl _) _
  have HW : Hid (PAt bp base (w.alloc (.cells #[.bool false] 4)) v N D ∧ (w.alloc (.cells #[.bool false] 4)).heap[w.heap.size]? = some (.cells #[.bool false] 4) ∧ Ap true bp base w (w.alloc (.cells #[.bool false] 4)) ∧ ToksAt bp base (w.alloc (.cells #[.bool false] 4)) a n tc TS) := ⟨H.out.2.below hbx, Deep.blk_alloc_new _ _, .of_below hbx, H.out.1.below hbx⟩
  clear hbx
  generalize w.alloc (.cells #[.bool false] 4) = W at HW ⊢
  have hb0 := hb
  have hbp7 : bp < w.heap.size := (Array.getElem?_eq_some_iff.1 H.out.2.box).1
  generalize w.heap.size = b7 at HW hb hbp7 ⊢
  go_loopg [1, 2] n (fun gk sv tv wr => ∃ (k : Nat) (s' : ByteArray) (a' : Option Addr) (nk c' : Nat) (pre : List UInt8) (ps : List Pc) (vi : Value), gk = n - k ∧ k ≤ n ∧ k + nk ≤ n ∧ n ≤ k + nk ∧ sv = .string s' ∧ tv = .slice a' nk c' ∧ s'.size ≤ 1048576 ∧ Hid (s.data.toList = pre ++ s'.data.toList ∧ ToksAt bp base wr a' nk c' (TS.drop k) ∧ Adds ([]) (pre) (TS.take k) ps ∧ ps.length ≤ 2 * k ∧ PAt bp base wr vi (N + ps.length) (D ++ ps.flatMap Pc.enc) ∧ wr.heap[b7]? = some (.cells #[.bool false] 4) ∧ Ap true bp base w wr ∧ (ps.flatMap Pc.enc).length ≤ pre.length + 2 * ((TS.take k).flatMap Tk.enc).length + 80 * k))
  case atStart => exact ⟨0, s, a, n, tc, [], [], v, by omega, by omega, by omega, by omega, rfl, rfl, hs, rfl, HW.out.2.2.2, Adds.nil, by simp, by simpa using HW.out.1, HW.out.2.1, HW.out.2.2.1, by simp⟩
  case round =>
    obtain ⟨k, s', a', nk, c', pre, ps, vi, hgk, hk, hnk1, hnk2, rfl, rfl, hs', HR⟩ := hrel
    by_cases hlt : 0 < nk
    · have hltb : decide ((0 : Int) < (nk : Int)) = true := by simp; omega
      go_wp2_with fail
      refine (nextChunk_any bp base s' a' nk c' _ wr hs' HR.out.2.1 hlt).mono ?_
      rintro e w1 ⟨m, z, ok, rfl, hb1, hok⟩
      have HR1 : Hid (ToksAt bp base w1 a' nk c' (TS.drop k) ∧ PAt bp base w1 vi (N + ps.length) (D ++ ps.flatMap Pc.enc) ∧ w1.heap[b7]? = some (.cells #[.bool false] 4) ∧ Ap true bp base w w1) := ⟨HR.out.2.1.below hb1, HR.out.2.2.2.2.1.below hb1, (hb1.block b7 (Array.getElem?_eq_some_iff.1 HR.out.2.2.2.2.2.1).1).trans HR.out.2.2.2.2.2.1, HR.out.2.2.2.2.2.2.1.next hb1⟩
      clear hb1
      dsimp only
      cases ok with
      | false =>
        clear hok
        obtain ⟨t0, ht0⟩ : ∃ t, (TS.drop k)[0]? = some t := ⟨_, List.getElem?_eq_getElem (by have := HR1.out.1.len; omega)⟩
        obtain ⟨g, o, _, _, _, _, hxa, _⟩ := HR1.out.1.cell 0 t0 ht0
        subst hxa
        clear ht0
        have hcap := HR1.out.1.cap
        have hZ : (s'.size : Int) ≤ (s'.size : Int) := by omega
        have hM' : (nk : Int) ≤ (nk : Int) := by omega
        have hMc : (nk : Int) ≤ (c' : Int) := by omega
        have hnc : (nk : Int) ≤ (c' : Int) := by omega
        have hpz : pre.length + s'.size = s.size := by
          have := congrArg List.length HR.out.1
          rw [List.length_append, size_list, size_list] at this
          omega
        have htk : TS.take (k + nk) = TS.take k ++ (TS.drop k).take nk := List.take_add
        have hen : ((TS.take k).flatMap Tk.enc).length + (((TS.drop k).take nk).flatMap Tk.enc).length ≤ (TS.flatMap Tk.enc).length := by
          have := flat_take_le Tk.enc TS (k + nk)
          rw [htk, List.flatMap_append, List.length_append] at this
          exact this
        have hpsl := HR.out.2.2.2.1
        have hbnd := HR.out.2.2.2.2.2.2.2
        have HTK : Hid (TS.take (k + nk) = TS.take k ++ (TS.drop k).take nk) := htk
        have hXs : s'.size = s'.size := by first | rfl | (rw [ByteArray.size_extract]; omega)
        have hE0 : (⟨#[]⟩ : ByteArray).size = 0 := rfl
        have HDA : Hid (∀ W', Below w1.heap.size w1 W' → W'.cell? ⟨b7, 0, none⟩ = some (.bool false) ∧ base ≤ W'.heap.size ∧ ToksAt bp base W' (some ⟨g, o, none⟩) nk c' ((TS.drop k).take nk) ∧ PAt bp base W' vi (N + ps.length) (D ++ ps.flatMap Pc.enc) ∧ W'.heap[b7]? = some (.cells #[.bool false] 4) ∧ Ap true bp base w W' ∧ ToksAt bp base W' (some ⟨g, o, none⟩) nk c' (TS.drop k)) := fun W' hB => by
          have hbox := (hB.block b7 (Array.getElem?_eq_some_iff.1 HR1.out.2.2.1).1).trans HR1.out.2.2.1
          exact ⟨cell_atB hbox rfl, Nat.le_trans hb0 (Nat.le_trans HR1.out.2.2.2.size hB.size), (HR1.out.1.below hB).take (by omega), HR1.out.2.1.below hB, hbox, HR1.out.2.2.2.next hB, HR1.out.1.below hB⟩
        clear htk
        go_upto_region 6 with fail
        go_region_held3 (fun _ => True) (trivial) (first | (go_at_call 40; refine (chunk40 _ _ _ _ b7 false _ ?_).mono ?_; exact (HDA.out _ (by first | with_reducible exact Below.refl _ _ | with_reducible exact (Below.refl _ _).drew | with_reducible exact (Below.refl _ _).drew.drew)).1; rintro e w2 ⟨rfl, hb2⟩; have hb2' : Below w1.heap.size w1 w2 := (by first | with_reducible exact bw1 hb2 | with_reducible exact bw2 hb2 | with_reducible exact bw2b hb2); have HB2 : Hid (Below w1.heap.size w1 w2) := hb2'; clear hb2 hb2'; dsimp only) | (go_at_call 41; refine (addChunk_any bp base (N + ps.length) ⟨#[]⟩ s' _ _ c' ((TS.drop k).take nk) (D ++ ps.flatMap Pc.enc) vi _ hbp (HDA.out _ HB2.out).2.1 (by first | omega | (rw [hXs]; omega) | (rw [hE0]; omega)) (by first | omega | (rw [hXs]; omega) | (rw [hE0]; omega)) (by omega) (HDA.out _ HB2.out).2.2.1 (HDA.out _ HB2.out).2.2.2.1 (by first | (rw [hXs, hE0, List.length_append]; omega) | (rw [hE0, List.length_append]; omega))).mono ?_; rintro e w3 ⟨rfl, qs, v3, hA3, hP3, hAp3, hl3, hq3⟩; have HR3 : Hid (Adds ([]) (s'.data.toList) ((TS.drop k).take nk) qs ∧ PAt bp base w3 v3 (N + ps.length + qs.length) (D ++ ps.flatMap Pc.enc ++ qs.flatMap Pc.enc) ∧ Ap true bp base w2 w3 ∧ (qs.flatMap Pc.enc).length ≤ s'.size + 2 * (((TS.drop k).take nk).flatMap Tk.enc).length + 40 * (nk + 1) ∧ qs.length ≤ nk + 1) := ⟨hA3, hP3, hAp3, by have e1 : s'.data.toList.length = s'.size := (size_list _).trans hXs; simp only [e1, List.length_nil] at hl3; simpa using hl3, by have := List.length_take_le nk (TS.drop k); omega⟩; clear hA3 hP3 hAp3 hl3 hq3; dsimp only))
        clear HDA
        have HW3 : Hid (w3.heap[b7]? = some (.cells #[.bool false] 4) ∧ Ap true bp base w w3 ∧ ToksAt bp base w3 (some ⟨g, o, none⟩) nk c' (TS.drop k)) := by
          have hA := (HR1.out.2.2.2.next HB2.out).trans HR3.out.2.2.1
          exact ⟨HR3.out.2.2.1.keepT (by omega) ((HB2.out.block b7 (Array.getElem?_eq_some_iff.1 HR1.out.2.2.1).1).trans HR1.out.2.2.1) (by decide), hA, (HR1.out.1.below HB2.out).ap HR3.out.2.2.1⟩
        have fin : ∀ (a2 : Option Addr) (cx : Nat) (w4 : World) (s2 : ByteArray), Below w3.heap.size w3 w4 → cx = c' - nk → (a2 = some ⟨g, o, none⟩ ∧ c' = nk ∨ a2 = some ⟨g, o + nk * 4, none⟩) → s2.data.toList = (s'.extract s'.size s'.size).data.toList → Hid (s.data.toList = (pre ++ s'.data.toList) ++ s2.data.toList ∧ ToksAt bp base w4 a2 0 cx (TS.drop (k + nk)) ∧ Adds ([]) (pre ++ s'.data.toList) (TS.take (k + nk)) (ps ++ qs) ∧ (ps ++ qs).length ≤ 2 * (k + nk) ∧ PAt bp base w4 v3 (N + (ps ++ qs).length) (D ++ (ps ++ qs).flatMap Pc.enc) ∧ w4.heap[b7]? = some (.cells #[.bool false] 4) ∧ Ap true bp base w w4 ∧ ((ps ++ qs).flatMap Pc.enc).length ≤ (pre ++ s'.data.toList).length + 2 * ((TS.take (k + nk)).flatMap Tk.enc).length + 80 * (k + nk)) := by
          intro a2 cx w4 s2 hb4 hcx ha2 hs2
          subst hcx
          refine ⟨?_, ?_, ?_, ?_, ?_, ?_, HW3.out.2.1.next hb4, ?_⟩
          · rw [HR.out.1, hs2, List.append_assoc]
            congr 1
            rw [sx_end, List.append_nil]
          · rw [← List.drop_drop]
            rcases ha2 with ⟨rfl, hcM⟩ | rfl
            · have hnM : nk = nk := by omega
              have h0 := HW3.out.2.2.below hb4
              have e1 : (TS.drop k).drop nk = [] := List.drop_eq_nil_of_le (by have := h0.len; omega)
              have e2 : 0 = 0 := by omega
              have e3 : c' - nk = 0 := by omega
              rw [e1, e2, e3]
              exact ⟨rfl, by omega, by omega, by unfold maxLen; omega, fun _ => rfl, h0.spot, fun i t ht => by simp at ht⟩
            · have h9 := (HW3.out.2.2.below hb4).drop (k := nk) (by omega)
              first | exact h9 | (rw [Nat.sub_self] at h9; exact h9)
          · rw [HTK.out]
            have h1 := HR.out.2.2.1.append HR3.out.1
            simpa using h1
          · rw [List.length_append]
            have := HR3.out.2.2.2.2
            omega
          · rw [List.length_append, List.flatMap_append, ← Nat.add_assoc, ← List.append_assoc]
            exact HR3.out.2.1.below hb4
          · exact (hb4.block b7 (Array.getElem?_eq_some_iff.1 HW3.out.1).1).trans HW3.out.1
          · rw [HTK.out, List.flatMap_append, List.flatMap_append, List.length_append, List.length_append, List.length_append, size_list, hXs]
            have := HR3.out.2.2.2.1
            omega
        have FIN : Hid (∀ (a2 : Option Addr) (cx : Nat) (w4 : World) (s2 : ByteArray), Below w3.heap.size w3 w4 → cx = c' - nk → (a2 = some ⟨g, o, none⟩ ∧ c' = nk ∨ a2 = some ⟨g, o + nk * 4, none⟩) → s2.data.toList = (s'.extract s'.size s'.size).data.toList → Hid (s.data.toList = (pre ++ s'.data.toList) ++ s2.data.toList ∧ ToksAt bp base w4 a2 0 cx (TS.drop (k + nk)) ∧ Adds ([]) (pre ++ s'.data.toList) (TS.take (k + nk)) (ps ++ qs) ∧ (ps ++ qs).length ≤ 2 * (k + nk) ∧ PAt bp base w4 v3 (N + (ps ++ qs).length) (D ++ (ps ++ qs).flatMap Pc.enc) ∧ w4.heap[b7]? = some (.cells #[.bool false] 4) ∧ Ap true bp base w w4 ∧ ((ps ++ qs).flatMap Pc.enc).length ≤ (pre ++ s'.data.toList).length + 2 * ((TS.take (k + nk)).flatMap Tk.enc).length + 80 * (k + nk))) := fin
        clear fin hpsl hbnd hen hpz
        go_wp2
        go_quiet (fail)
        go_wp2
        all_goals
          go_roundg (n - (k + nk))
          case measure => omega
          case rel =>
            refine ⟨k + nk, _, _, _, _, pre ++ s'.data.toList, ps ++ qs, v3, rfl, ?_, ?_, ?_, rfl, rfl, ?_, ?_⟩
            · omega
            · omega
            · omega
            · first | (show (0 : Nat) ≤ _; omega) | (rw [ByteArray.size_extract]; omega)
            · refine FIN.out _ _ _ _ ?_ ?_ ?_ ?_
              · exact below_drewN (Below.refl _ _) _
              · omega
              · first | exact .inr rfl | (left; exact ⟨rfl, by first | assumption | omega⟩)
              · first | rfl | (rw [sx_end]; rfl)
      | true =>
        obtain ⟨hm1, hm2, hz⟩ := hok rfl
        clear hok
        by_cases hmn : m = nk
        · have hmb : ((m : Int) == (nk : Int)) = true := by simp; omega
          clear hmn
          obtain ⟨t0, ht0⟩ : ∃ t, (TS.drop k)[0]? = some t := ⟨_, List.getElem?_eq_getElem (by have := HR1.out.1.len; omega)⟩
          obtain ⟨g, o, _, _, _, _, hxa, _⟩ := HR1.out.1.cell 0 t0 ht0
          subst hxa
          clear ht0
          have hcap := HR1.out.1.cap
          have hZ : (s'.size : Int) ≤ (s'.size : Int) := by omega
          have hM' : (nk : Int) ≤ (nk : Int) := by omega
          have hMc : (nk : Int) ≤ (c' : Int) := by omega
          have hnc : (nk : Int) ≤ (c' : Int) := by omega
          have hpz : pre.length + s'.size = s.size := by
            have := congrArg List.length HR.out.1
            rw [List.length_append, size_list, size_list] at this
            omega
          have htk : TS.take (k + nk) = TS.take k ++ (TS.drop k).take nk := List.take_add
          have hen : ((TS.take k).flatMap Tk.enc).length + (((TS.drop k).take nk).flatMap Tk.enc).length ≤ (TS.flatMap Tk.enc).length := by
            have := flat_take_le Tk.enc TS (k + nk)
            rw [htk, List.flatMap_append, List.length_append] at this
            exact this
          have hpsl := HR.out.2.2.2.1
          have hbnd := HR.out.2.2.2.2.2.2.2
          have HTK : Hid (TS.take (k + nk) = TS.take k ++ (TS.drop k).take nk) := htk
          have hXs : s'.size = s'.size := by first | rfl | (rw [ByteArray.size_extract]; omega)
          have hE0 : (⟨#[]⟩ : ByteArray).size = 0 := rfl
          have HDA : Hid (∀ W', Below w1.heap.size w1 W' → W'.cell? ⟨b7, 0, none⟩ = some (.bool false) ∧ base ≤ W'.heap.size ∧ ToksAt bp base W' (some ⟨g, o, none⟩) nk c' ((TS.drop k).take nk) ∧ PAt bp base W' vi (N + ps.length) (D ++ ps.flatMap Pc.enc) ∧ W'.heap[b7]? = some (.cells #[.bool false] 4) ∧ Ap true bp base w W' ∧ ToksAt bp base W' (some ⟨g, o, none⟩) nk c' (TS.drop k)) := fun W' hB => by
            have hbox := (hB.block b7 (Array.getElem?_eq_some_iff.1 HR1.out.2.2.1).1).trans HR1.out.2.2.1
            exact ⟨cell_atB hbox rfl, Nat.le_trans hb0 (Nat.le_trans HR1.out.2.2.2.size hB.size), (HR1.out.1.below hB).take (by omega), HR1.out.2.1.below hB, hbox, HR1.out.2.2.2.next hB, HR1.out.1.below hB⟩
          clear htk
          go_upto_region 6 with fail
          go_region_held3 (fun _ => True) (trivial) (first | (go_at_call 40; refine (chunk40 _ _ _ _ b7 false _ ?_).mono ?_; exact (HDA.out _ (by first | with_reducible exact Below.refl _ _ | with_reducible exact (Below.refl _ _).drew | with_reducible exact (Below.refl _ _).drew.drew)).1; rintro e w2 ⟨rfl, hb2⟩; have hb2' : Below w1.heap.size w1 w2 := (by first | with_reducible exact bw1 hb2 | with_reducible exact bw2 hb2 | with_reducible exact bw2b hb2); have HB2 : Hid (Below w1.heap.size w1 w2) := hb2'; clear hb2 hb2'; dsimp only) | (go_at_call 41; refine (addChunk_any bp base (N + ps.length) ⟨#[]⟩ s' _ _ c' ((TS.drop k).take nk) (D ++ ps.flatMap Pc.enc) vi _ hbp (HDA.out _ HB2.out).2.1 (by first | omega | (rw [hXs]; omega) | (rw [hE0]; omega)) (by first | omega | (rw [hXs]; omega) | (rw [hE0]; omega)) (by omega) (HDA.out _ HB2.out).2.2.1 (HDA.out _ HB2.out).2.2.2.1 (by first | (rw [hXs, hE0, List.length_append]; omega) | (rw [hE0, List.length_append]; omega))).mono ?_; rintro e w3 ⟨rfl, qs, v3, hA3, hP3, hAp3, hl3, hq3⟩; have HR3 : Hid (Adds ([]) (s'.data.toList) ((TS.drop k).take nk) qs ∧ PAt bp base w3 v3 (N + ps.length + qs.length) (D ++ ps.flatMap Pc.enc ++ qs.flatMap Pc.enc) ∧ Ap true bp base w2 w3 ∧ (qs.flatMap Pc.enc).length ≤ s'.size + 2 * (((TS.drop k).take nk).flatMap Tk.enc).length + 40 * (nk + 1) ∧ qs.length ≤ nk + 1) := ⟨hA3, hP3, hAp3, by have e1 : s'.data.toList.length = s'.size := (size_list _).trans hXs; simp only [e1, List.length_nil] at hl3; simpa using hl3, by have := List.length_take_le nk (TS.drop k); omega⟩; clear hA3 hP3 hAp3 hl3 hq3; dsimp only))
          clear HDA
          have HW3 : Hid (w3.heap[b7]? = some (.cells #[.bool false] 4) ∧ Ap true bp base w w3 ∧ ToksAt bp base w3 (some ⟨g, o, none⟩) nk c' (TS.drop k)) := by
            have hA := (HR1.out.2.2.2.next HB2.out).trans HR3.out.2.2.1
            exact ⟨HR3.out.2.2.1.keepT (by omega) ((HB2.out.block b7 (Array.getElem?_eq_some_iff.1 HR1.out.2.2.1).1).trans HR1.out.2.2.1) (by decide), hA, (HR1.out.1.below HB2.out).ap HR3.out.2.2.1⟩
          have fin : ∀ (a2 : Option Addr) (cx : Nat) (w4 : World) (s2 : ByteArray), Below w3.heap.size w3 w4 → cx = c' - nk → (a2 = some ⟨g, o, none⟩ ∧ c' = nk ∨ a2 = some ⟨g, o + nk * 4, none⟩) → s2.data.toList = (s'.extract s'.size s'.size).data.toList → Hid (s.data.toList = (pre ++ s'.data.toList) ++ s2.data.toList ∧ ToksAt bp base w4 a2 0 cx (TS.drop (k + nk)) ∧ Adds ([]) (pre ++ s'.data.toList) (TS.take (k + nk)) (ps ++ qs) ∧ (ps ++ qs).length ≤ 2 * (k + nk) ∧ PAt bp base w4 v3 (N + (ps ++ qs).length) (D ++ (ps ++ qs).flatMap Pc.enc) ∧ w4.heap[b7]? = some (.cells #[.bool false] 4) ∧ Ap true bp base w w4 ∧ ((ps ++ qs).flatMap Pc.enc).length ≤ (pre ++ s'.data.toList).length + 2 * ((TS.take (k + nk)).flatMap Tk.enc).length + 80 * (k + nk)) := by
            intro a2 cx w4 s2 hb4 hcx ha2 hs2
            subst hcx
            refine ⟨?_, ?_, ?_, ?_, ?_, ?_, HW3.out.2.1.next hb4, ?_⟩
            · rw [HR.out.1, hs2, List.append_assoc]
              congr 1
              rw [sx_end, List.append_nil]
            · rw [← List.drop_drop]
              rcases ha2 with ⟨rfl, hcM⟩ | rfl
              · have hnM : nk = nk := by omega
                have h0 := HW3.out.2.2.below hb4
                have e1 : (TS.drop k).drop nk = [] := List.drop_eq_nil_of_le (by have := h0.len; omega)
                have e2 : 0 = 0 := by omega
                have e3 : c' - nk = 0 := by omega
                rw [e1, e2, e3]
                exact ⟨rfl, by omega, by omega, by unfold maxLen; omega, fun _ => rfl, h0.spot, fun i t ht => by simp at ht⟩
              · have h9 := (HW3.out.2.2.below hb4).drop (k := nk) (by omega)
                first | exact h9 | (rw [Nat.sub_self] at h9; exact h9)
            · rw [HTK.out]
              have h1 := HR.out.2.2.1.append HR3.out.1
              simpa using h1
            · rw [List.length_append]
              have := HR3.out.2.2.2.2
              omega
            · rw [List.length_append, List.flatMap_append, ← Nat.add_assoc, ← List.append_assoc]
              exact HR3.out.2.1.below hb4
            · exact (hb4.block b7 (Array.getElem?_eq_some_iff.1 HW3.out.1).1).trans HW3.out.1
            · rw [HTK.out, List.flatMap_append, List.flatMap_append, List.length_append, List.length_append, List.length_append, size_list, hXs]
              have := HR3.out.2.2.2.1
              omega
          have FIN : Hid (∀ (a2 : Option Addr) (cx : Nat) (w4 : World) (s2 : ByteArray), Below w3.heap.size w3 w4 → cx = c' - nk → (a2 = some ⟨g, o, none⟩ ∧ c' = nk ∨ a2 = some ⟨g, o + nk * 4, none⟩) → s2.data.toList = (s'.extract s'.size s'.size).data.toList → Hid (s.data.toList = (pre ++ s'.data.toList) ++ s2.data.toList ∧ ToksAt bp base w4 a2 0 cx (TS.drop (k + nk)) ∧ Adds ([]) (pre ++ s'.data.toList) (TS.take (k + nk)) (ps ++ qs) ∧ (ps ++ qs).length ≤ 2 * (k + nk) ∧ PAt bp base w4 v3 (N + (ps ++ qs).length) (D ++ (ps ++ qs).flatMap Pc.enc) ∧ w4.heap[b7]? = some (.cells #[.bool false] 4) ∧ Ap true bp base w w4 ∧ ((ps ++ qs).flatMap Pc.enc).length ≤ (pre ++ s'.data.toList).length + 2 * ((TS.take (k + nk)).flatMap Tk.enc).length + 80 * (k + nk))) := fin
          clear fin hpsl hbnd hen hpz
          go_wp2
          go_quiet (fail)
          go_wp2
          all_goals
            go_roundg (n - (k + nk))
            case measure => omega
            case rel =>
              refine ⟨k + nk, _, _, _, _, pre ++ s'.data.toList, ps ++ qs, v3, rfl, ?_, ?_, ?_, rfl, rfl, ?_, ?_⟩
              · omega
              · omega
              · omega
              · first | (show (0 : Nat) ≤ _; omega) | (rw [ByteArray.size_extract]; omega)
              · refine FIN.out _ _ _ _ ?_ ?_ ?_ ?_
                · exact below_drewN (Below.refl _ _) _
                · omega
                · first | exact .inr rfl | (left; exact ⟨rfl, by first | assumption | omega⟩)
                · first | rfl | (rw [sx_end]; rfl)
        · have hmb : ((m : Int) == (nk : Int)) = false := by simp; omega
          obtain ⟨t0, ht0⟩ : ∃ t, (TS.drop k)[0]? = some t := ⟨_, List.getElem?_eq_getElem (by have := HR1.out.1.len; omega)⟩
          obtain ⟨g, o, _, _, _, _, hxa, _⟩ := HR1.out.1.cell 0 t0 ht0
          subst hxa
          clear ht0
          have hcap := HR1.out.1.cap
          have hZ : (z : Int) ≤ (s'.size : Int) := by omega
          have hM' : (m : Int) ≤ (nk : Int) := by omega
          have hMc : (m : Int) ≤ (c' : Int) := by omega
          have hnc : (nk : Int) ≤ (c' : Int) := by omega
          have hpz : pre.length + s'.size = s.size := by
            have := congrArg List.length HR.out.1
            rw [List.length_append, size_list, size_list] at this
            omega
          have htk : TS.take (k + m) = TS.take k ++ (TS.drop k).take m := List.take_add
          have hen : ((TS.take k).flatMap Tk.enc).length + (((TS.drop k).take m).flatMap Tk.enc).length ≤ (TS.flatMap Tk.enc).length := by
            have := flat_take_le Tk.enc TS (k + m)
            rw [htk, List.flatMap_append, List.length_append] at this
            exact this
          have hpsl := HR.out.2.2.2.1
          have hbnd := HR.out.2.2.2.2.2.2.2
          have HTK : Hid (TS.take (k + m) = TS.take k ++ (TS.drop k).take m) := htk
          have hXs : (s'.extract 0 z).size = z := by first | rfl | (rw [ByteArray.size_extract]; omega)
          have hE0 : (⟨#[]⟩ : ByteArray).size = 0 := rfl
          have HDA : Hid (∀ W', Below w1.heap.size w1 W' → W'.cell? ⟨b7, 0, none⟩ = some (.bool false) ∧ base ≤ W'.heap.size ∧ ToksAt bp base W' (some ⟨g, o, none⟩) m c' ((TS.drop k).take m) ∧ PAt bp base W' vi (N + ps.length) (D ++ ps.flatMap Pc.enc) ∧ W'.heap[b7]? = some (.cells #[.bool false] 4) ∧ Ap true bp base w W' ∧ ToksAt bp base W' (some ⟨g, o, none⟩) nk c' (TS.drop k)) := fun W' hB => by
            have hbox := (hB.block b7 (Array.getElem?_eq_some_iff.1 HR1.out.2.2.1).1).trans HR1.out.2.2.1
            exact ⟨cell_atB hbox rfl, Nat.le_trans hb0 (Nat.le_trans HR1.out.2.2.2.size hB.size), (HR1.out.1.below hB).take (by omega), HR1.out.2.1.below hB, hbox, HR1.out.2.2.2.next hB, HR1.out.1.below hB⟩
          clear htk
          go_upto_region 6 with fail
          go_region_held3 (fun _ => True) (trivial) (first | (go_at_call 40; refine (chunk40 _ _ _ _ b7 false _ ?_).mono ?_; exact (HDA.out _ (by first | with_reducible exact Below.refl _ _ | with_reducible exact (Below.refl _ _).drew | with_reducible exact (Below.refl _ _).drew.drew)).1; rintro e w2 ⟨rfl, hb2⟩; have hb2' : Below w1.heap.size w1 w2 := (by first | with_reducible exact bw1 hb2 | with_reducible exact bw2 hb2 | with_reducible exact bw2b hb2); have HB2 : Hid (Below w1.heap.size w1 w2) := hb2'; clear hb2 hb2'; dsimp only) | (go_at_call 41; refine (addChunk_any bp base (N + ps.length) ⟨#[]⟩ (s'.extract 0 z) _ _ c' ((TS.drop k).take m) (D ++ ps.flatMap Pc.enc) vi _ hbp (HDA.out _ HB2.out).2.1 (by first | omega | (rw [hXs]; omega) | (rw [hE0]; omega)) (by first | omega | (rw [hXs]; omega) | (rw [hE0]; omega)) (by omega) (HDA.out _ HB2.out).2.2.1 (HDA.out _ HB2.out).2.2.2.1 (by first | (rw [hXs, hE0, List.length_append]; omega) | (rw [hE0, List.length_append]; omega))).mono ?_; rintro e w3 ⟨rfl, qs, v3, hA3, hP3, hAp3, hl3, hq3⟩; have HR3 : Hid (Adds ([]) ((s'.extract 0 z).data.toList) ((TS.drop k).take m) qs ∧ PAt bp base w3 v3 (N + ps.length + qs.length) (D ++ ps.flatMap Pc.enc ++ qs.flatMap Pc.enc) ∧ Ap true bp base w2 w3 ∧ (qs.flatMap Pc.enc).length ≤ z + 2 * (((TS.drop k).take m).flatMap Tk.enc).length + 40 * (m + 1) ∧ qs.length ≤ m + 1) := ⟨hA3, hP3, hAp3, by have e1 : (s'.extract 0 z).data.toList.length = z := (size_list _).trans hXs; simp only [e1, List.length_nil] at hl3; simpa using hl3, by have := List.length_take_le m (TS.drop k); omega⟩; clear hA3 hP3 hAp3 hl3 hq3; dsimp only))
          clear HDA
          have HW3 : Hid (w3.heap[b7]? = some (.cells #[.bool false] 4) ∧ Ap true bp base w w3 ∧ ToksAt bp base w3 (some ⟨g, o, none⟩) nk c' (TS.drop k)) := by
            have hA := (HR1.out.2.2.2.next HB2.out).trans HR3.out.2.2.1
            exact ⟨HR3.out.2.2.1.keepT (by omega) ((HB2.out.block b7 (Array.getElem?_eq_some_iff.1 HR1.out.2.2.1).1).trans HR1.out.2.2.1) (by decide), hA, (HR1.out.1.below HB2.out).ap HR3.out.2.2.1⟩
          have fin : ∀ (a2 : Option Addr) (cx : Nat) (w4 : World) (s2 : ByteArray), Below w3.heap.size w3 w4 → cx = c' - m → (a2 = some ⟨g, o, none⟩ ∧ c' = m ∨ a2 = some ⟨g, o + m * 4, none⟩) → s2.data.toList = (s'.extract z s'.size).data.toList → Hid (s.data.toList = (pre ++ (s'.extract 0 z).data.toList) ++ s2.data.toList ∧ ToksAt bp base w4 a2 (nk - m) cx (TS.drop (k + m)) ∧ Adds ([]) (pre ++ (s'.extract 0 z).data.toList) (TS.take (k + m)) (ps ++ qs) ∧ (ps ++ qs).length ≤ 2 * (k + m) ∧ PAt bp base w4 v3 (N + (ps ++ qs).length) (D ++ (ps ++ qs).flatMap Pc.enc) ∧ w4.heap[b7]? = some (.cells #[.bool false] 4) ∧ Ap true bp base w w4 ∧ ((ps ++ qs).flatMap Pc.enc).length ≤ (pre ++ (s'.extract 0 z).data.toList).length + 2 * ((TS.take (k + m)).flatMap Tk.enc).length + 80 * (k + m)) := by
            intro a2 cx w4 s2 hb4 hcx ha2 hs2
            subst hcx
            refine ⟨?_, ?_, ?_, ?_, ?_, ?_, HW3.out.2.1.next hb4, ?_⟩
            · rw [HR.out.1, hs2, List.append_assoc]
              congr 1
              exact (sx_split s' z).symm
            · rw [← List.drop_drop]
              rcases ha2 with ⟨rfl, hcM⟩ | rfl
              · have hnM : nk = m := by omega
                have h0 := HW3.out.2.2.below hb4
                have e1 : (TS.drop k).drop m = [] := List.drop_eq_nil_of_le (by have := h0.len; omega)
                have e2 : (nk - m) = 0 := by omega
                have e3 : c' - m = 0 := by omega
                rw [e1, e2, e3]
                exact ⟨rfl, by omega, by omega, by unfold maxLen; omega, fun _ => rfl, h0.spot, fun i t ht => by simp at ht⟩
              · have h9 := (HW3.out.2.2.below hb4).drop (k := m) (by omega)
                first | exact h9 | (rw [Nat.sub_self] at h9; exact h9)
            · rw [HTK.out]
              have h1 := HR.out.2.2.1.append HR3.out.1
              simpa using h1
            · rw [List.length_append]
              have := HR3.out.2.2.2.2
              omega
            · rw [List.length_append, List.flatMap_append, ← Nat.add_assoc, ← List.append_assoc]
              exact HR3.out.2.1.below hb4
            · exact (hb4.block b7 (Array.getElem?_eq_some_iff.1 HW3.out.1).1).trans HW3.out.1
            · rw [HTK.out, List.flatMap_append, List.flatMap_append, List.length_append, List.length_append, List.length_append, size_list, hXs]
              have := HR3.out.2.2.2.1
              omega
          have FIN : Hid (∀ (a2 : Option Addr) (cx : Nat) (w4 : World) (s2 : ByteArray), Below w3.heap.size w3 w4 → cx = c' - m → (a2 = some ⟨g, o, none⟩ ∧ c' = m ∨ a2 = some ⟨g, o + m * 4, none⟩) → s2.data.toList = (s'.extract z s'.size).data.toList → Hid (s.data.toList = (pre ++ (s'.extract 0 z).data.toList) ++ s2.data.toList ∧ ToksAt bp base w4 a2 (nk - m) cx (TS.drop (k + m)) ∧ Adds ([]) (pre ++ (s'.extract 0 z).data.toList) (TS.take (k + m)) (ps ++ qs) ∧ (ps ++ qs).length ≤ 2 * (k + m) ∧ PAt bp base w4 v3 (N + (ps ++ qs).length) (D ++ (ps ++ qs).flatMap Pc.enc) ∧ w4.heap[b7]? = some (.cells #[.bool false] 4) ∧ Ap true bp base w w4 ∧ ((ps ++ qs).flatMap Pc.enc).length ≤ (pre ++ (s'.extract 0 z).data.toList).length + 2 * ((TS.take (k + m)).flatMap Tk.enc).length + 80 * (k + m))) := fin
          clear fin hpsl hbnd hen hpz
          go_wp2
          go_quiet (fail)
          go_wp2
          all_goals
            go_roundg (n - (k + m))
            case measure => omega
            case rel =>
              refine ⟨k + m, _, _, _, _, pre ++ (s'.extract 0 z).data.toList, ps ++ qs, v3, rfl, ?_, ?_, ?_, rfl, rfl, ?_, ?_⟩
              · omega
              · omega
              · omega
              · first | (show (0 : Nat) ≤ _; omega) | (rw [ByteArray.size_extract]; omega)
              · refine FIN.out _ _ _ _ ?_ ?_ ?_ ?_
                · exact below_drewN (Below.refl _ _) _
                · omega
                · first | exact .inr rfl | (left; exact ⟨rfl, by first | assumption | omega⟩)
                · first | rfl | (rw [sx_end]; rfl)
    · have hltb : decide ((0 : Int) < (nk : Int)) = false := by simp; omega
      have hkn : k = n := by omega
      have HKN : Hid (TS.take k = TS) := List.take_of_length_le (by have := H.out.1.len; omega)
      clear hkn
      cases he : s'.toList.isEmpty with
      | true =>
        have HE : Hid (s'.data.toList = []) := isEmpty_list he
        go_wp2
        refine bodyPost_ret (v := .tuple #[]) (by simp [results, Try.results31, go_sem]) rfl ?_
        obtain ⟨h1, h2, h3, h4, h5, h6, h7, h8⟩ := HR.out
        rw [HKN.out] at h3 h8
        rw [HE.out, List.append_nil] at h1
        refine ⟨rfl, ps, vi, by rw [h1]; exact h3, h5, h7, ?_, by omega⟩
        rw [h1]
        simp only [List.length_nil]
        omega
      | false =>
        have r7 : wr.cell? ⟨b7, 0, none⟩ = some (.bool false) := cell_atB HR.out.2.2.2.2.2.1 rfl
        have hpz : pre.length + s'.size = s.size := by
          have := congrArg List.length HR.out.1
          rw [List.length_append, size_list, size_list] at this
          omega
        have hpsl := HR.out.2.2.2.1
        have hbnd := HR.out.2.2.2.2.2.2.2
        rw [HKN.out] at hbnd
        have hE0 : (⟨#[]⟩ : ByteArray).size = 0 := rfl
        go_wp2_with fail
        refine (chunk40 s' none 0 0 b7 false wr r7).mono ?_
        rintro e w2 ⟨rfl, hb2⟩
        have HB2 : Hid (Below wr.heap.size wr w2) := hb2
        clear hb2 r7
        dsimp only
        go_wp2_with fail
        refine (addChunk_any bp base (N + ps.length) ⟨#[]⟩ s' none 0 0 [] (D ++ ps.flatMap Pc.enc) vi w2 hbp (Nat.le_trans hb0 (Nat.le_trans HR.out.2.2.2.2.2.2.1.size HB2.out.size)) (by first | omega | (rw [hE0]; omega)) (by first | omega | (rw [hE0]; omega)) (by omega) (ToksAt.none0 _ _ _) (HR.out.2.2.2.2.1.below HB2.out) (by rw [hE0, List.length_append]; simp only [List.flatMap_nil, List.length_nil]; omega)).mono ?_
        rintro e w3 ⟨rfl, qs, v3, hA3, hP3, hAp3, hl3, hq3⟩
        have HR3 : Hid (Adds ([]) (s'.data.toList) [] qs ∧ PAt bp base w3 v3 (N + ps.length + qs.length) (D ++ ps.flatMap Pc.enc ++ qs.flatMap Pc.enc) ∧ Ap true bp base w2 w3 ∧ (qs.flatMap Pc.enc).length ≤ s'.size + 40 ∧ qs.length ≤ 1) := ⟨hA3, hP3, hAp3, by have e1 : s'.data.toList.length = s'.size := size_list _; simp only [e1, List.length_nil, List.flatMap_nil] at hl3; omega, by simpa using hq3⟩
        clear hA3 hP3 hAp3 hl3 hq3
        dsimp only
        go_wp2
        refine bodyPost_ret (v := .tuple #[]) (by simp [results, Try.results31, go_sem]) rfl ?_
        obtain ⟨h1, h2, h3, h4, h5, h6, h7, h8⟩ := HR.out
        rw [HKN.out] at h3
        have hA := h3.append HR3.out.1
        refine ⟨rfl, ps ++ qs, v3, ?_, ?_, (h7.next HB2.out).trans HR3.out.2.2.1, ?_, ?_⟩
        · rw [h1]
          simpa using hA
        · rw [List.length_append, List.flatMap_append, ← Nat.add_assoc, ← List.append_assoc]
          exact HR3.out.2.1
        · rw [List.flatMap_append, List.length_append]
          have h9 := HR3.out.2.2.2.1
          have e1 : s.data.toList.length = s.size := size_list _
          simp only [e1, List.length_nil]
          omega
        · rw [List.length_append]
          have := HR3.out.2.2.2.2
          omega
end Go.Proofs.Qxb6618748a
