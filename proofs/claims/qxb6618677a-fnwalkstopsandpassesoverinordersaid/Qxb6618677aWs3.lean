/-
  FnWalkStopsAndPassesOverInOrder: the walk.
-/
import Derived.Test.Qxb6618677aWs2
namespace Go.Proofs.Qxb6618677a
open Go.RowKit

set_option maxRecDepth 100000 in
set_option maxHeartbeats 4000000 in
theorem walkStops_any (T X : ByteArray) (tok txt skip md : Int) (av : ByteArray) (lim : Int) (w : World) :
    Calls Try.prog 5 #[.string T, .string X, .int .i64 tok, .int .i64 txt, .int .i64 skip, .int .i64 md, .string av, .int .i64 lim] w fun e w' => e = .returned (.bool true) ∧ Below w.heap.size w w' := by
  go_enter Try.func5, Try.ntmps5
  go_wp2_with (go_at_call 19; refine (bytes19 _ _ _ _ _ _ _ _ _).mono ?_)
  rintro e w ⟨rfl, rfl | ⟨rfl, hsz⟩⟩
  · go_wp2
    go_ret
    exact ⟨rfl, Below.refl _ _⟩
  have hT : T.size ≤ 1048576 := by omega
  have hX : X.size ≤ 1048576 := by omega
  have hV : av.size ≤ 1048576 := by omega
  go_wp2_with (go_at_call 12; refine (parse_any _ _ _ hT hX).mono ?_)
  rintro e w1 ⟨hb1, rfl | ⟨v, L, st, rfl, hch, hrun, hop, hrow⟩⟩
  · go_wp2
    go_ret
    exact ⟨rfl, hb1⟩
  obtain ⟨hnl, hns⟩ := nodes_facts hch hrun
  have HNS : Hid (∀ d ∈ st.nodes, d.txt + d.n ≤ X.size) := hns
  have HCH : Hid (Stif.chain T X.size 0 0 L T.size X.size ∧ Stif.run Stif.init L = some st ∧ st.op = []) := ⟨hch, hrun, hop⟩
  clear hch hrun hop hns
  go_wp2_with (go_at_call 13; refine (start_any v st.nodes _ _ _ _ _ hrow (by omega) (fun d hd => by have := HNS.out d hd; omega)).mono ?_)
  rintro e w2 ⟨hb2, ⟨b, rfl⟩ | ⟨b, rfl, rfl, hst⟩⟩
  · go_wp2
    go_ret
    exact ⟨rfl, hb1.trans (hb2.mono hb1.size)⟩
  obtain ⟨ts, i0, x0, s, bd, R, rfl, rfl, hcht, hbal, hR, hRl, hRm, -⟩ := run_front HCH.out.1 HCH.out.2.1 HCH.out.2.2 hst
  obtain ⟨hsl, rfl⟩ := hR.le
  have HST : Hid (RunIs st.nodes ((s : Int) - 1) s bd R ∧ R.length = (Stif.runN 0 ts).length ∧ (∀ (i : Nat) nd p, R[i]? = some nd → (Stif.runN 0 ts)[i]? = some p → Stif.Meets bd nd p)) := ⟨hR, hRl, hRm⟩
  have HT : Hid (Stif.chain T X.size i0 x0 ts T.size X.size ∧ Stif.bal bd ts) := ⟨hcht, hbal⟩
  clear hR hRl hRm hcht hbal hst
  go_wp2_with (first | (go_at_call 14; refine (newFields_any _ _ _ _ _ _).mono ?_; rintro e w3 ⟨rfl, rfl⟩))
  have hAv : Stif.flds (intoOf X (X ++ ⟨#[33]⟩) ((T.size : Int) + 1)) 0 0 ts = allF ts := flds_every (by rw [ByteArray.size_append]; show X.size < X.size + 1; omega) (by omega) HT.out.1
  have hAl := allF_len HT.out.1
  generalize hw3 : World.alloc _ (Obj.cells #[Value.pointer (some ⟨w2.heap.size + 1, 0, none⟩), Value.int IntKind.i64 (i0 : Int), Value.int IntKind.i64 (x0 : Int), Value.int IntKind.i64 0] 35) = w3
  obtain ⟨hb3, htr3, hbx3⟩ := laid rfl w3 hw3.symm
  clear hw3
  have hbxl : w2.heap.size + 1 + 1 < w3.heap.size := (Array.getElem?_eq_some_iff.1 hbx3).1
  generalize hbt : w2.heap.size + 1 = bt at *
  generalize hbx : bt + 1 = bx at *
  refine (zzwalk_yield bt T X _ _ _ ts i0 x0 bd w3 hT hX htr3 HT.out.1 HT.out.2).mono ?_
  rintro e w4 ⟨hb4, d1, t1, x1, s1, f1, rfl, hY1⟩
  rw [hAv, List.take_of_length_le (by omega)] at hY1
  have hrow4 := ownsRow_below (ownsRow_below (ownsRow_below hrow hb2 (Nat.le_refl _)) hb3 (Nat.le_refl _)) hb4 (Nat.le_refl _)
  go_wp2_with (first | (go_at_call 17; refine (runEnd_run v st.nodes R _ s bd _ _ hrow4 (by omega) HST.out.1).mono ?_; rintro e w5 ⟨rfl, hb5⟩))
  have HB : Hid (Below w.heap.size w w5) := ((hb1.trans (hb2.mono hb1.size)).trans (hb3.mono (Nat.le_trans hb1.size hb2.size))).trans ((hb4.mono (Nat.le_trans (Nat.le_trans hb1.size hb2.size) hb3.size)).trans (hb5.mono (Nat.le_trans (Nat.le_trans (Nat.le_trans hb1.size hb2.size) hb3.size) hb4.size)))
  have hrow5 := ownsRow_below hrow4 hb5 (Nat.le_refl _)
  have hY5 := hY1.below hb5 (Nat.le_refl _)
  have HTR : Hid (IsTree w5 bt T X) := ⟨by rw [hb5.block _ (by have := hb4.size; omega), hb4.block _ (by omega)]; exact htr3.blk⟩
  have hbx5 : w5.heap[bx]? = _ := ((hb5.block _ (by have := hb4.size; omega)).trans (hb4.block _ (by omega))).trans hbx3
  have HBX : Hid (w5.heap[bx]? = some (Obj.cells #[Value.pointer (some ⟨bt, 0, none⟩), Value.int IntKind.i64 (i0 : Int), Value.int IntKind.i64 (x0 : Int), Value.int IntKind.i64 0] 35)) := hbx5
  clear hrow hrow4 hb1 hb2 hb3 hb4 hb5 hY1 htr3 hbx3 hbx5 HCH HNS hAv hbt hbx hbxl
  generalize w3.heap.size = B3 at hY5
  clear w1 w2 w3
  obtain ⟨ao, c, rfl⟩ := row_slice hrow5
  have HROW : Hid (w5.ownsRow w.heap.size 44 8 (.slice ao st.nodes.length c) st.nodes.length (rowOf st.nodes)) := hrow5
  have HY : Hid (Yield w5 B3 d1 t1 x1 s1 f1 (allF ts)) := hY5
  clear hrow5 hY5
  go_loopg [29, 30] R.length (fun gk nv iv wr => ∃ i : Nat, gk = R.length - i ∧ i ≤ R.length ∧ nv = .int .i64 (cnt (R.take i) : Nat) ∧ iv = .int .i64 ((s + i : Nat) : Int) ∧ wr = w5)
  case atStart => exact ⟨0, by omega, by omega, by simp [cnt], by go_num, rfl⟩
  case round =>
    obtain ⟨i, hgk, hi, rfl, rfl, rfl⟩ := hrel
    have hcl := cnt_le R i
    by_cases hlt : i < R.length
    · obtain ⟨d, hd⟩ : ∃ d, R[i]? = some d := ⟨_, List.getElem?_eq_getElem hlt⟩
      obtain ⟨g, rfl, hnc, hcm, hbg, hgl⟩ := row_some HROW.out (by omega)
      have c0 := (nodeAt HROW.out (HST.out.1.get hd)).c0
      have hct := cnt_take hd
      have HD : Hid (cnt (R.take (i + 1)) = cnt (R.take i) + if d.kind = 1 then 0 else 1) := hct
      clear hd hct
      go_wp2
      · go_roundg (R.length - (i + 1))
        case measure => omega
        case rel =>
          rename_i hk
          have hk' : d.kind ≠ 1 := by simp at hk; omega
          exact ⟨i + 1, rfl, by omega, by rw [HD.out, if_neg hk']; go_num, by go_num, rfl⟩
      · go_roundg (R.length - (i + 1))
        case measure => omega
        case rel =>
          rename_i hk
          have hk' : d.kind = 1 := by simp at hk; omega
          exact ⟨i + 1, rfl, by omega, by rw [HD.out, if_pos hk']; go_num, by go_num, rfl⟩
    obtain rfl : i = R.length := by omega
    have hcA : cnt (R.take R.length) = (allF ts).length := by rw [List.take_length]; exact filter_len HST.out.2.1 HST.out.2.2
    rw [hcA]
    clear hcl hcA
    obtain ⟨ad, cd, rfl⟩ := row_slice HY.out.dep
    obtain ⟨at1, ct, rfl⟩ := row_slice HY.out.tok
    obtain ⟨ax, cx, rfl⟩ := row_slice HY.out.txt
    clear hgk hi hlt
    go_upto_block 2 with fail
    go_cut [31] from 153 to 188 (fun _ wx => ∃ m0 : Nat, wx = wr.drewN m0)
    case first =>
      go_wp2_with fail
      have HA : Hid (Stif.Rise 0 (allF ts)) := allF_rise HT.out.1
      go_loopg [31] (allF ts).length (fun gk kv wq => ∃ k m0 : Nat, gk = (allF ts).length - k ∧ k ≤ (allF ts).length ∧ kv = .int .i64 (k : Int) ∧ wq = wr.drewN m0)
      case atStart => exact ⟨0, 0, rfl, by omega, rfl, rfl⟩
      case round =>
        obtain ⟨k, m0, hgk, hk, rfl, rfl⟩ := hrel
        by_cases hlt : k < (allF ts).length
        · obtain ⟨p, hp⟩ : ∃ p, (allF ts)[k]? = some p := ⟨_, List.getElem?_eq_getElem hlt⟩
          obtain ⟨g, rfl, hnc, hcm, hbg, hgl⟩ := row_some HY.out.dep (by omega)
          have cp := rowCell HY.out.dep hp
          have hri := HA.out.get k p hp
          have HP : Hid ((allF ts)[k]? = some p) := hp
          clear hp
          have hltb : decide ((k : Int) < ((allF ts).length : Int)) = true := by simp; omega
          cases k with
          | zero =>
            have hp0 : ((p.1 : Int) != 0) = false := by have := hri.1 rfl; simp; omega
            clear hri
            go_wp2
            go_quiet (fail)
            go_wp2
            go_roundg ((allF ts).length - 1)
            case measure => omega
            case rel => exact ⟨1, _, rfl, by omega, by go_num, rfl⟩
          | succ j =>
            obtain ⟨q, hq⟩ : ∃ q, (allF ts)[j]? = some q := ⟨_, List.getElem?_eq_getElem (by omega)⟩
            have cq := rowCell HY.out.dep hq
            have h1 : decide ((p.1 : Int) < 0) = false := by simp
            have h2 : decide ((p.1 : Int) > (q.1 : Int) + 1) = false := by have := hri.2 q (by omega) (by simpa using hq); simp; omega
            have hqb : q.1 ≤ 1048576 := by
              have := Stif.runN_depth ts 0 q (List.mem_filter.1 (List.mem_of_getElem? hq)).1
              have := (Stif.chain_le HT.out.1).1
              omega
            clear hri hq
            go_wp2
            go_quiet (fail)
            go_wp2
            go_roundg ((allF ts).length - (j + 1 + 1))
            case measure => omega
            case rel => exact ⟨j + 1 + 1, _, rfl, by omega, by go_num, rfl⟩
        obtain rfl : k = (allF ts).length := by omega
        clear hgk hk hlt
        go_wp2
        go_meet
        exact ⟨_, rfl⟩
    case rest =>
      obtain ⟨m0, rfl⟩ := hcut
      rename_i K hK
      refine hK _ _ ?_
      exact ws_mid T X av md lim ts i0 x0 bd bt bx w.heap.size B3 w (wr.drewN m0) ad at1 ax cd ct cx s1 f1 hT hX (Nat.le_trans HB.out.size (Nat.le_refl _)) (below_drewN HB.out _) HT ⟨HTR.out.blk⟩ HBX.out (HY.out.below (below_drewN (Below.refl wr.heap.size wr) m0) (Nat.le_refl _)) _ _ _ _ _ _ _ _ _ _ _ _ _ _ _ _ _ _ _ _ _ _ _ _ _ _ _ _ _ _ _ _ _ _ _ _ _ _ _ _ _ _ _ _ _ _ _ _ _ _ _ _ _ _ _ _ _ _ _ _ _ _ _ _ _ _ _ _ _ _ _ _ _ _ _ _ _ _ _ _ _ _ _ _ _ _ _ _ _ _ _ _ _ _ _ _ _ _ _ _ _ _ _ _ _ _ _ _ _ _ _ _ _ _ _ _ _ _ _ _ _ _ _ _ _ _ _ _ _ _ _ _ _ _ _ _ _ _ _ _ _ _ _ _ _ _ _ _ _ _ _ _ _ _ _ _ _ _ _ _ _ _ _ _ _ _ _ _ _ _ _ _ _ _ _ _ _ _ _ _ _ _ _ _ _ _ _ _ _ _ _ _ _ _ _ _ _ _ _ _ _ _ _ _ _ _ _ _ _ _ _ _ _ _ _ _ _ _ _ _ _ _ _ _ _ _ _ _ _ _ _ _ _ _ _ _ _ _ _ _ _ _ _ _ _ _ _ _ _ _ _ _ _ _ _ _ _ _ _ _ _ _ _ _ _ _ _ _ _ _ _ _ _ _ _ _ _ _ _ _ _ _ _ _ _ _ _ _ _ _ _ _ _ _ _ _ _ _ _ _ _ _ _ _ _ _ _ _ _ _ _ _ _ _ _ _ _ _ _ _ _ _ _ _

end Go.Proofs.Qxb6618677a
