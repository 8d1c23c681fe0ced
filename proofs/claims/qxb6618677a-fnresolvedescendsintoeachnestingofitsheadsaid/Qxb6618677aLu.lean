/-
  The law on Resolve's head: its front.
-/
import Derived.Test.Qxb6618677aLt
import Derived.Test.Qxb6618677aWy
namespace Go.Proofs.Qxb6618677a
open Go.RowKit

set_option maxRecDepth 100000 in
set_option maxHeartbeats 4000000 in
theorem law7_any (g o n c : Nat) (Pa : List ByteArray) (nm : ByteArray) (ix : Int) (T X : ByteArray) (tok txt skip : Int) (w : World) (hn : n = Pa.length + 1) (hpa : StrRow w (.slice (some ⟨g, o, none⟩) n c) g (Pa ++ [nm])) (hpl : Pa.length ≤ 1048575) (hn2 : (2 : Int) ≤ n) :
    Calls Try.prog 7 #[.slice (some ⟨g, o, none⟩) n c, .int .i64 ix, .string T, .string X, .int .i64 tok, .int .i64 txt, .int .i64 skip] w fun e w' => e = .returned (.bool true) ∧ Below w.heap.size w w' := by
  obtain ⟨a0, c0, hv0, hsr⟩ := SR.of_str hpa (by simp; omega)
  simp at hv0
  obtain ⟨rfl, hn', rfl⟩ := hv0
  replace hsr : SR w (some ⟨g, o, none⟩) n (Pa ++ [nm]) := by
    have e : n = (Pa ++ [nm]).length := by simp [hn]
    rw [e]; exact hsr
  have HP : Hid (StrRow w (.slice (some ⟨g, o, none⟩) n c) g (Pa ++ [nm]) ∧ SR w (some ⟨g, o, none⟩) n (Pa ++ [nm]) ∧ n = Pa.length + 1) := ⟨hpa, hsr, hn⟩
  clear hpa hsr hn' hn
  have hnl : (n : Int) ≤ 1048576 := by have := HP.out.2.2; omega
  go_enter Try.func7, Try.ntmps7
  go_wp2_with fail
  refine (bytes26_any _ n c _ _ _ _ _ _ _ _ hnl HP.out.2.1).mono ?_
  rintro e w ⟨b, rfl, rfl⟩
  cases b with
  | false =>
    go_wp2
    go_ret
    exact ⟨rfl, Below.refl _ _⟩
  | true =>
  by_cases hg1 : (n : Int) ≤ 4096
  case neg =>
    go_wp2
    go_ret
    exact ⟨rfl, Below.refl _ _⟩
  by_cases hT : (T.size : Int) ≤ 1048576
  case neg =>
    go_wp2
    go_ret
    exact ⟨rfl, Below.refl _ _⟩
  by_cases hX : (X.size : Int) ≤ 1048576
  case neg =>
    go_wp2
    go_ret
    exact ⟨rfl, Below.refl _ _⟩
  by_cases htot : (T.size : Int) + X.size + 16 * n ≤ 1048576
  case neg =>
    go_wp2
    all_goals (go_ret; exact ⟨rfl, Below.refl _ _⟩)
  go_wp2_with fail
  go_loopg [15, 16] n (fun gk tv iv wr => ∃ (i : Nat) (t : Int), gk = n - i ∧ i ≤ n ∧ tv = .int .i64 t ∧ iv = .int .i64 i ∧ wr = w)
  case atStart => exact ⟨0, _, by omega, by omega, rfl, rfl, rfl⟩
  case round =>
    obtain ⟨i, t, hgk, hi, rfl, rfl, rfl⟩ := hrel
    by_cases hlt : i < n
    · obtain ⟨q, hq⟩ : ∃ q, (Pa ++ [nm])[i]? = some q := ⟨_, List.getElem?_eq_getElem (by have := HP.out.2.2; simp; omega)⟩
      obtain ⟨g', o', hgo, c1⟩ := HP.out.2.1.cell i q hq
      simp at hgo
      obtain ⟨rfl, rfl⟩ := hgo
      have hltb : decide ((i : Int) < (n : Int)) = true := by simp; omega
      have hlt' : (i : Int) < (n : Int) := by omega
      clear hq
      go_wp2
      all_goals first | (go_ret; exact ⟨rfl, Below.refl _ _⟩) | skip
      go_roundg (n - (i + 1))
      case measure => omega
      case rel => exact ⟨i + 1, _, rfl, by omega, rfl, by go_num, rfl⟩
    · have hltb : decide ((i : Int) < (n : Int)) = false := by simp; omega
      have hlt2 : (n : Int) ≤ (i : Int) := by omega
      clear hgk hi hlt
      go_wp2_with fail
      have hT' : T.size ≤ 1048576 := by omega
      have hX' : X.size ≤ 1048576 := by omega
      refine (parse_any _ _ _ hT' hX').mono ?_
      rintro e w1 ⟨hb1, rfl | ⟨v, L, st, rfl, hch, hrun, hop, hrow⟩⟩
      · dsimp only
        go_wp2
        go_ret
        exact ⟨rfl, hb1⟩
      obtain ⟨hnl', hns⟩ := nodes_facts hch hrun
      have hnd := nodes_depth hch hrun
      have HNS : Hid ((∀ d ∈ st.nodes, d.txt + d.n ≤ X.size) ∧ (∀ d ∈ st.nodes, d.depth ≤ T.size)) := ⟨hns, hnd⟩
      have HCH : Hid (Stif.chain T X.size 0 0 L T.size X.size ∧ Stif.run Stif.init L = some st ∧ st.op = []) := ⟨hch, hrun, hop⟩
      clear hch hrun hop hns hnd
      dsimp only
      go_wp2_with fail
      refine (start_any v st.nodes _ _ _ _ _ hrow (by omega) (fun d hd => by have := HNS.out.1 d hd; omega)).mono ?_
      rintro e w2 ⟨hb2, ⟨b, rfl⟩ | ⟨b, rfl, rfl, hst⟩⟩
      · dsimp only
        go_wp2
        go_ret
        exact ⟨rfl, hb1.trans (hb2.mono hb1.size)⟩
      obtain ⟨ts, i0, x0, s, bd, R, op, rfl, rfl, hcht, hbal, hR, hRl, hRm, hop1, hop2, hop3, A, hA⟩ := run_front3 HCH.out.1 HCH.out.2.1 HCH.out.2.2 hst
      obtain ⟨hsl, rfl⟩ := hR.le
      have HST : Hid (RunIs st.nodes ((s : Int) - 1) s bd R ∧ R.length = (Stif.runN 0 ts).length ∧ (∀ (i : Nat) nd p, R[i]? = some nd → (Stif.runN 0 ts)[i]? = some p → Stif.Meets bd nd p) ∧ op.length = bd ∧ Stif.parentOf op = (s : Int) - 1 ∧ st.nodes.drop s = Stif.nodesOf op s ts) := ⟨hR, hRl, hRm, hop1, hop2, hop3⟩
      have HT : Hid (Stif.chain T X.size i0 x0 ts T.size X.size ∧ Stif.bal bd ts) := ⟨hcht, hbal⟩
      have hnv : NoNV ts := by
        have := run_nonv HCH.out.2.1
        rw [hA] at this
        exact this.suffix
      have HNV : Hid (NoNV ts) := hnv
      have HB : Hid (Below wr.heap.size wr w2 ∧ w2.ownsRow wr.heap.size 44 8 v st.nodes.length (rowOf st.nodes)) := ⟨hb1.trans (hb2.mono hb1.size), ownsRow_below hrow hb2 (Nat.le_refl _)⟩
      clear hR hRl hRm hcht hbal hst hop1 hop2 hop3 hA hnv hb1 hb2 hrow
      obtain ⟨ao, cn, rfl⟩ := row_slice HB.out.2
      clear hltb hlt2
      dsimp only
      go_upto_region 24 with fail
      go_cut [20] from 68 to 115 (fun v20 wx => v20 = .pointer (some ⟨w2.heap.size + 1 + 1, 0, none⟩) ∧ wx = (((w2.alloc (.cells #[.pointer (some ⟨w2.heap.size + 1, 0, none⟩), .int .i64 i0, .int .i64 x0, .int .i64 0] 35)).alloc (.cells #[.string T, .string X, .slice none 0 0] 74)).alloc (.cells #[.pointer (some ⟨w2.heap.size + 1, 0, none⟩), .int .i64 i0, .int .i64 x0, .int .i64 0] 35)))
      case first =>
        go_wp2_with (first | (go_at_call 14; refine (newFields_any _ _ _ _ _ _).mono ?_; rintro e w3 ⟨rfl, rfl⟩))
        go_meet
        exact ⟨rfl, rfl⟩
      case rest =>
        obtain ⟨rfl, rfl⟩ := hcut
        rename_i K hK
        refine hK _ _ ?_
        have hn := HP.out.2.2
        subst hn
        cases Pa with
        | nil => simp at hn2
        | cons h Pq =>
        obtain ⟨hb3, htr3, hbx3⟩ := laid rfl _ rfl
        exact l5_res T X h Pq nm st.nodes R ts op wr.heap.size g o c wr.heap.size s bd cn (w2.heap.size + 1) i0 x0 (w2.heap.size + 1 + 1) ao ix wr _
          ⟨by omega, hT', hX', HST.out.1, fun d hd => by have := HNS.out.2 d hd; omega, HNS.out.1, HST.out.2.1, HST.out.2.2.1, HT.out.1, HT.out.2, HST.out.2.2.2.1, HST.out.2.2.2.2.1, HST.out.2.2.2.2.2, HNV.out⟩
          ⟨(HP.out.1.below HB.out.1).below hb3, ownsRow_below HB.out.2 hb3 (Nat.le_refl _), htr3, HB.out.1.trans (hb3.mono HB.out.1.size), Nat.le_trans HB.out.1.size hb3.size⟩ (by simp at hg1; omega) hbx3 _ _ _ _ _ _ _ _ _ _ _ _ _ _ _ _ _ _ _ _ _ _ _ _ _ _ _ _ _ _ _ _ _ _ _ _ _ _ _ _ _ _ _ _ _ _ _ _ _ _ _ _ _ _ _ _ _ _ _ _ _ _ _ _ _ _ _ _ _ _ _ _ _ _ _ _ _ _ _ _ _ _ _ _ _ _ _ _ _ _ _ _ _ _ _ _ _ _ _ _ _ _ _ _ _ _ _ _ _ _ _ _ _ _ _ _ _ _ _ _ _ _ _ _ _ _ _ _ _ _ _ _ _ _ _ _ _ _ _ _ _ _ _ _ _ _ _ _ _ _ _ _ _ _ _ _ _ _ _ _ _ _ _ _ _ _ _ _ _ _ _ _ _ _ _ _ _ _ _ _ _ _ _ _ _ _ _ _ _ _ _ _ _ _ _ _ _ _ _ _ _ _ _ _ _ _ _ _ _ _ _ _ _ _ _ _ _ _ _ _ _ _ _ _ _ _ _ _ _ _ _ _ _ _ _ _ _ _ _ _ _ _ _ _ _
end Go.Proofs.Qxb6618677a
