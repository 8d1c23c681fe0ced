/-
  zzReach along a path.
-/
import Derived.Test.Qxb6618677aRe
import Derived.Test.Qxb6618677aNf
import Derived.Deep.OwnRows
namespace Go.Proofs.Qxb6618677a
open Go.RowKit

set_option maxRecDepth 100000 in
set_option maxHeartbeats 4000000 in
theorem reach_path (v : Value) (ns R : List Stif.Node) (P : List (Nat × Stif.Tok)) (rA eA : Nat → Bool) (base s bd : Nat) (X : ByteArray) (Pa : List ByteArray) (nm : ByteArray) (g0 o0 c0 : Nat) (md : Int) (av : ByteArray) (b : Int) (w : World) (hpa : StrRow w (.slice (some ⟨g0, o0, none⟩) (Pa.length + 1) c0) g0 (Pa ++ [nm])) (hPl : Pa.length ≤ 1048576) (hn : w.ownsRow base 44 8 v ns.length (rowOf ns)) (hlen : ns.length ≤ 1048576) (hX : X.size ≤ 1048576) (hR : RunIs ns b s bd R) (hd : ∀ d ∈ ns, d.depth ≤ 1048576)
    (hx : ∀ d ∈ ns, d.txt + d.n ≤ X.size) (hl : R.length = P.length) (hm : ∀ (i : Nat) nd p, R[i]? = some nd → P[i]? = some p → Stif.Meets bd nd p) (hre : Reach R P b s (pathInto X Pa) rA eA) :
    Calls Try.prog 16 #[v, .int .i64 b, .string X, .bool true, .int .i64 md, .string av, .slice (some ⟨g0, o0, none⟩) (Pa.length + 1) c0] w fun e w' => Below w.heap.size w w' ∧ ∃ g, e = .returned (.slice (some ⟨g, 0, none⟩) ns.length ns.length) ∧ w.heap.size ≤ g ∧ w'.rowIs g 4 ns.length (rowF s R.length rA) := by
  obtain ⟨hsl, rfl⟩ := hR.le
  have hg0 := hpa.lt
  have hpc : ∀ (i : Nat) q, (Pa ++ [nm])[i]? = some q → w.cell? ⟨g0, o0 + i, none⟩ = some (.string q) := by
    obtain ⟨o', c', hv, _, _, h⟩ := hpa.ex
    simp at hv
    obtain ⟨rfl, rfl⟩ := hv
    exact h
  have HPC : Hid (∀ (i : Nat) q, (Pa ++ [nm])[i]? = some q → w.cell? ⟨g0, o0 + i, none⟩ = some (.string q)) := hpc
  have hPi : (Pa.length : Int) ≤ 1048576 := by omega
  clear hpc hpa
  have hmk := run_make_row' (P := Try.prog) 38 4 (.bool false) 1 Try.underlying38 Try.info4 rfl .i64 .i64 ns.length (by omega) (by omega)
  have HL : Hid (R.length = P.length) := hl
  clear hl
  go_enter Try.func16, Try.ntmps16
  go_wp2_with (first | (go_at_call 17; refine (runEnd_run v ns R _ s bd _ _ hn (by omega) hR).mono ?_; rintro e w1 ⟨rfl, hb1⟩))
  have hn1 := ownsRow_below hn hb1 (Nat.le_refl _)
  refine (baseDepth_run v ns R _ s bd _ _ hn1 (by omega) hR hd).mono ?_; rintro e w2 ⟨rfl, rfl⟩
  obtain ⟨ao, c, rfl⟩ := row_slice hn1
  have HN : Hid (w2.ownsRow base 44 8 (.slice ao ns.length c) ns.length (rowOf ns)) := hn1
  have HR : Hid (RunIs ns (↑s - 1) s bd R ∧ (∀ d ∈ ns, d.depth ≤ 1048576) ∧ (∀ d ∈ ns, d.txt + d.n ≤ X.size)) := ⟨hR, hd, hx⟩
  have HM : Hid ((∀ (i : Nat) nd p, R[i]? = some nd → P[i]? = some p → Stif.Meets bd nd p) ∧ Reach R P (↑s - 1) s (pathInto X Pa) rA eA) := ⟨hm, hre⟩
  clear hn hn1 hR hd hx hm hre
  go_wp2
  have hg2 : ((w2.alloc (Obj.cells (madeCells #[Value.bool false] ns.length) 4)).alloc (Obj.cells (madeCells #[Value.bool false] ns.length) 4)).rowIs (w2.heap.size + 1) 4 ns.length (rowF s 0 eA) :=
    (by have := World.rowIs_made (w2.alloc (Obj.cells (madeCells #[Value.bool false] ns.length) 4)) (.bool false) ns.length 4; rwa [World.size_alloc] at this : World.rowIs _ (w2.heap.size + 1) 4 ns.length (fun _ => .bool false)).congr fun j _ => by simp [rowF]; omega
  have hg1 : ((w2.alloc (Obj.cells (madeCells #[Value.bool false] ns.length) 4)).alloc (Obj.cells (madeCells #[Value.bool false] ns.length) 4)).rowIs w2.heap.size 4 ns.length (rowF s 0 rA) :=
    ((World.rowIs_made w2 (.bool false) ns.length 4).alloc _).congr fun j _ => by simp [rowF]; omega
  have hbl0 : Below w2.heap.size w2 ((w2.alloc (Obj.cells (madeCells #[Value.bool false] ns.length) 4)).alloc (Obj.cells (madeCells #[Value.bool false] ns.length) 4)) := ((Below.refl _ _).alloc (Nat.le_refl _) _).alloc (by rw [World.size_alloc]; omega) _
  generalize (w2.alloc (Obj.cells (madeCells #[Value.bool false] ns.length) 4)).alloc (Obj.cells (madeCells #[Value.bool false] ns.length) 4) = w3 at hg1 hg2 hbl0 ⊢
  have hgb : w2.heap.size ≤ w2.heap.size := Nat.le_refl _
  have hgc : w2.heap.size ≤ w2.heap.size + 1 := by omega
  have hgn : w2.heap.size ≠ w2.heap.size + 1 := by omega
  have hgw : w.heap.size ≤ w2.heap.size := hb1.size
  generalize hq2 : w2.heap.size + 1 = g2 at hg2 hgc hgn ⊢
  clear hq2
  generalize hq1 : w2.heap.size = g1 at hg1 hgb hgn ⊢
  have hgw1 : w.heap.size ≤ g1 := by omega
  have hgb1 : w2.heap.size ≤ g1 := by omega
  have hgc1 : w2.heap.size ≤ g2 := by omega
  clear hq1 hgb hgc
  have HG : Hid (w3.rowIs g1 4 ns.length (rowF s 0 rA) ∧ w3.rowIs g2 4 ns.length (rowF s 0 eA) ∧ Below w2.heap.size w2 w3) := ⟨hg1, hg2, hbl0⟩
  clear hg1 hg2 hbl0
  go_loopg [19] R.length (fun gk iv wr => ∃ i : Nat, gk = R.length - i ∧ i ≤ R.length ∧ iv = .int .i64 ((s + i : Nat) : Int) ∧ Hid (wr.rowIs g1 4 ns.length (rowF s i rA) ∧ wr.rowIs g2 4 ns.length (rowF s i eA) ∧ Below w2.heap.size w2 wr))
  case atStart => exact ⟨0, by omega, by omega, by go_num, HG⟩
  case round =>
    obtain ⟨i, hgk, hi, rfl, HW⟩ := hrel
    clear HG
    by_cases hlt : i < R.length
    · obtain ⟨nd, hnd⟩ : ∃ d, R[i]? = some d := ⟨_, List.getElem?_eq_getElem hlt⟩
      obtain ⟨p, hp⟩ : ∃ p, P[i]? = some p := ⟨_, List.getElem?_eq_getElem (by have := HL.out; omega)⟩
      obtain ⟨g, rfl, hnc, hcm, hbg, hgl⟩ := row_some HN.out (by omega)
      have hrow := ownsRow_below HN.out HW.out.2.2 (Nat.le_refl _)
      have hnn := HR.out.1.get hnd
      obtain ⟨c0, c1, c2, c3, c4, c5, c6, c7⟩ := nodeAt hrow hnn
      have hmm := HM.out.1 i nd p hnd hp
      have hpar := HM.out.2.par i nd hnd
      have hent := HM.out.2.ent i p hp
      have hdep := HR.out.2.1 nd (List.mem_of_getElem? hnn)
      have htx := HR.out.2.2 nd (List.mem_of_getElem? hnn)
      have hgl' : g < wr.heap.size := by have := HW.out.2.2.size; omega
      have hl1 : g1 < wr.heap.size := HW.out.1.lt
      have hl2 : g2 < wr.heap.size := HW.out.2.1.lt
      have HE : Hid (eA (s + i) = (p.2.kind == 2 && pathInto X Pa p.1 p.2)) := hent
      have HP : Hid ((nd.parent = (s : Int) - 1 ∧ rA (s + i) = true) ∨ ∃ x : Nat, nd.parent = (x : Int) ∧ s ≤ x ∧ x < s + i ∧ rA (s + i) = (rA x && eA x)) := hpar
      have HMM : Hid (Stif.Meets bd nd p) := hmm
      have z1 : wr.cell? ⟨g1, s + i, none⟩ = some (rowF s i rA (s + i)) := HW.out.1.cell (by omega)
      have z2 : wr.frozen? ⟨g1, s + i, none⟩ = false := HW.out.1.frozen _
      clear hent hpar hmm hrow hnn hnd hp
      go_upto_if 49 with fail
      go_cut [] from 50 to 67 (fun wx => RMid w2 wr wx g1 g2 ns.length s i rA eA nd)
      case first =>
        rcases HP.out with ⟨h1, h2⟩ | ⟨x, h1, h2, h3, h4⟩
        · have hb1 : (nd.parent == (s : Int) - 1) = true := by simp [h1]
          clear h1
          have H2 : Hid (rA (s + i) = true) := h2
          clear h2
          go_wp2
          go_meet
          exact rmid HW.out.1 HW.out.2.1 HW.out.2.2 hgb1 hgn H2.out.symm
        · have hb1 : (nd.parent == (s : Int) - 1) = false := by rw [beq_eq_false_iff_ne]; omega
          have hxn : nd.parent.toNat = x := by omega
          have k1 : wr.cell? ⟨g1, nd.parent.toNat, none⟩ = some (.bool (rA x)) := by rw [HW.out.1.cell (i := nd.parent.toNat) (by omega), hxn, rowF_in h2 h3]
          have k2 : wr.cell? ⟨g2, nd.parent.toNat, none⟩ = some (.bool (eA x)) := by rw [HW.out.2.1.cell (i := nd.parent.toNat) (by omega), hxn, rowF_in h2 h3]
          have hx0 : 0 ≤ nd.parent := by omega
          have hx1 : nd.parent < ns.length := by omega
          have H4 : Hid (rA (s + i) = (rA x && eA x)) := h4
          clear h1 hxn h4
          cases hrx : rA x
          · have H5 : Hid (rA x = false) := hrx
            rw [hrx] at k1
            clear hrx
            go_wp2
            go_meet
            exact rmid HW.out.1 HW.out.2.1 HW.out.2.2 hgb1 hgn (by rw [H4.out, H5.out, Bool.false_and])
          · have H5 : Hid (rA x = true) := hrx
            rw [hrx] at k1
            clear hrx
            go_wp2
            go_meet
            exact rmid HW.out.1 HW.out.2.1 HW.out.2.2 hgb1 hgn (by rw [H4.out, H5.out, Bool.true_and])
      case rest =>
        obtain ⟨blk, r1, r2, bl, sz⟩ := hcut
        clear c0 c1 c2 c3 c4 c5 c6 c7 hgl' hl1 hl2 z1 z2 HP
        have hdb := HMM.out.depth
        have hkk := HMM.out.kind
        have n0 := cell_at (i := 0) blk rfl
        have n3 := cell_at (i := 3) blk rfl
        have n4 := cell_at (i := 4) blk rfl
        have n5 := cell_at (i := 5) blk rfl
        have y1 : wc.cell? ⟨g2, s + i, none⟩ = some (rowF s i eA (s + i)) := r2.cell (by omega)
        have y2 : wc.frozen? ⟨g2, s + i, none⟩ = false := r2.frozen _
        have HQ : Hid (wc.rowIs g1 4 ns.length (rowF s (i + 1) rA) ∧ wc.rowIs g2 4 ns.length (rowF s i eA) ∧ Below w2.heap.size w2 wc) := ⟨r1, r2, bl⟩
        have HD : Hid (nd.depth = bd + p.1) := hdb
        have hbd : (bd : Int) ≤ nd.depth := by omega
        have HK : Hid (nd.kind = p.2.kind) := hkk
        clear r1 r2 bl blk hdb hkk HW
        generalize wr.heap.size = bn at *
        by_cases hk2 : nd.kind = 2
        · have hkb : ((nd.kind : Int) == 2) = true := by simp [hk2]
          have HK2 : Hid (nd.kind = 2) := hk2
          clear hk2
          by_cases hlm : (nd.depth : Int) - bd < Pa.length
          · have hlb : decide ((nd.depth : Int) - bd < Pa.length) = true := by simp only [hlm, decide_true]
            obtain ⟨q, hq⟩ : ∃ q, Pa[p.1]? = some q := ⟨_, List.getElem?_eq_getElem (by have := HD.out; omega)⟩
            have hix : nd.depth - bd = p.1 := by have := HD.out; omega
            have hpq : wc.cell? ⟨g0, o0 + (nd.depth - bd), none⟩ = some (.string q) := by
              rw [hix, HQ.out.2.2.cell (show g0 < w2.heap.size by omega), hb1.cell hg0]
              exact HPC.out p.1 q (by rw [List.getElem?_append_left (by have := HD.out; omega)]; exact hq)
            have HQ2 : Hid (Pa[p.1]? = some q) := hq
            have hd0 : (0 : Int) ≤ (nd.depth : Int) - bd := by omega
            have hd1 : (nd.depth : Int) - bd < (Pa.length : Int) + 1 := by omega
            clear hix hq
            go_wp2
            go_roundg (R.length - (i + 1))
            case measure => omega
            case rel =>
              refine ⟨i + 1, rfl, by omega, by go_num, HQ.out.1.setOther (by exact hgn) _, row_set HQ.out.2.1 ?_, HQ.out.2.2.setCell hgc1 _⟩
              have e2 : eA (s + i) = ((X.extract nd.txt (nd.txt + nd.n)).toList == q.toList) := by
                rw [HE.out, ← HK.out, HK2.out]; unfold pathInto; rw [HQ2.out, HMM.out.txt, HMM.out.n]; rfl
              rw [e2]
          · have hlb : decide ((nd.depth : Int) - bd < Pa.length) = false := by simp only [hlm, decide_false]
            have hq : Pa[p.1]? = none := by have := HD.out; exact List.getElem?_eq_none (by omega)
            have HQ2 : Hid (Pa[p.1]? = none) := hq
            clear hq
            go_wp2
            go_roundg (R.length - (i + 1))
            case measure => omega
            case rel =>
              refine ⟨i + 1, rfl, by omega, by go_num, HQ.out.1.setOther (by exact hgn) _, row_set HQ.out.2.1 ?_, HQ.out.2.2.setCell hgc1 _⟩
              have e2 : eA (s + i) = false := by
                rw [HE.out, ← HK.out, HK2.out]; unfold pathInto; rw [HQ2.out]; rfl
              rw [e2]
        · have hkb : ((nd.kind : Int) == 2) = false := by simp; omega
          have HK2 : Hid (nd.kind ≠ 2) := hk2
          clear hk2
          go_wp2
          go_roundg (R.length - (i + 1))
          case measure => omega
          case rel =>
            refine ⟨i + 1, rfl, by omega, by go_num, HQ.out.1, row_keep HQ.out.2.1 ?_, HQ.out.2.2⟩
            rw [HE.out, ← HK.out]
            have := HK2.out
            simp [this]
    obtain rfl : i = R.length := by omega
    clear hgk hi hlt
    go_wp2
    go_ret
    exact ⟨hb1.trans (HW.out.2.2.mono hgw), g1, rfl, hgw1, HW.out.1⟩
end Go.Proofs.Qxb6618677a
