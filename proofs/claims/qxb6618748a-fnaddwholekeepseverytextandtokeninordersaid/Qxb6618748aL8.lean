/-
  The law.
-/
import Derived.Test.Qxb6618748aLp
namespace Go.Proofs.Qxb6618748a
open Go.RowKit

def Yes8 (w : World) (e : Ending) (w' : World) : Prop := e = .returned (.bool true) ∧ Below w.heap.size w w'
theorem dat_read {base : Nat} {w : World} {a : Option Addr} {n c : Nat} {D : List UInt8} (h : Dat base w (.slice a n c) D) : (a = none ∧ n = 0 ∧ c = 0 ∧ D = []) ∨ ∃ g, a = some ⟨g, 0, none⟩ ∧ n = D.length ∧ base ≤ g ∧ D.length ≤ c ∧ c ≤ maxLen ∧ g < w.heap.size ∧ ∀ (i : Nat) b, D[i]? = some b → w.cell? ⟨g, i, none⟩ = some (.int .u8 (b.toNat : Int)) := by
  rcases h.2 with ⟨h1, h2⟩ | ⟨g, cap, cur, h1, h2, h3, h4, h5, h6, h7⟩
  · cases h1
    exact .inl ⟨rfl, rfl, rfl, List.length_eq_zero_iff.1 h2⟩
  · cases h1
    refine .inr ⟨g, rfl, rfl, h2, h4, h5, (Array.getElem?_eq_some_iff.1 h3).1, fun i b hb => ?_⟩
    have hi := (List.getElem?_eq_some_iff.1 hb).1
    have e : (cur.toList.take (D.length * 1))[i]? = some (.int .u8 (b.toNat : Int)) := by
      rw [h7]; simp [Lib.byteCells, hb]
    rw [List.getElem?_take_of_lt (by omega), Array.getElem?_toList] at e
    exact cell_atD h3 e
theorem below_only {pb bd : Nat} {a b c : World} (h : Below pb a b) (k : Only bd b c) (hp : pb ≤ bd) (hs : pb ≤ b.heap.size) : Below pb a c :=
  h.trans ⟨k.os, k.tape, k.output, k.size, fun i hi => k.block i (by omega) (by omega)⟩
theorem and3 {x m f : Nat} (hx : x < 18446744073709551616) (h : x = m * 4 + f) (hf : f < 3) : bits .and .u64 (x : Int) 3 = (f : Int) := by
  have e := u64_and_nat x 3 hx (by decide)
  rw [nat_mask2, show x % 4 = f by omega] at e
  exact e
theorem flat_len_le {α β : Type} (f : α → List β) (L : List α) (i : Nat) : ((L.take i).flatMap f).length ≤ (L.flatMap f).length := by
  have e := congrArg (List.flatMap f) (List.take_append_drop i L)
  rw [List.flatMap_append] at e
  rw [← e, List.length_append]
  omega

set_option maxRecDepth 100000 in
set_option maxHeartbeats 4000000 in
theorem law8 (r c : ByteArray) (a : Option Addr) (n tc : Nat) (TS : List Tk) (w : World) (h : ToksR (fun b => b < w.heap.size) w a n tc TS) :
    Calls Try.prog 4 #[.string r, .string c, .slice a n tc] w (Yes8 w) := by
  have H : Hid (ToksR (fun b => b < w.heap.size) w a n tc TS) := h
  clear h
  go_enter Try.func4, Try.ntmps4
  go_wp2_with fail
  refine (zzBytes12 r c a n tc TS _ w H.out).mono ?_
  rintro e w0 ⟨b, rfl, rfl, hb⟩
  dsimp only
  cases b
  · go_wp2
    go_ret
    exact ⟨rfl, Below.refl _ _⟩
  have hgate := hb rfl
  clear hb
  have hSm : Small 1048576 TS := ⟨by omega⟩
  have HS : Hid (Small 1048576 TS) := hSm
  have hnl := H.out.len
  have hn : n ≤ 1048576 := by omega
  have hr : r.size ≤ 1048576 := by omega
  have hc : c.size ≤ 1048576 := by omega
  clear hgate hSm hnl
  by_cases g1 : (r.size : Int) ≤ 262144
  case neg =>
    go_wp2
    all_goals (go_ret; exact ⟨rfl, Below.refl _ _⟩)
  by_cases g2 : (c.size : Int) ≤ 262144
  case neg =>
    go_wp2
    all_goals (go_ret; exact ⟨rfl, Below.refl _ _⟩)
  go_wp2_with fail
  refine (toksSize_any a n tc TS 524288 _ w0 H.out HS.out).mono ?_
  rintro e w1 ⟨⟨z, rfl⟩, n1, rfl⟩
  dsimp only
  by_cases g3 : z ≤ 524288
  case neg =>
    go_wp2
    go_ret
    exact ⟨rfl, below_drewN (Below.refl _ _) _⟩
  go_wp2_with fail
  have hbW : Below w0.heap.size w0 ((w0.drewN n1).alloc (.cells #[.slice none 0 0, .int .i64 0] 41)) := (below_drewN (Below.refl _ _) _).alloc (Nat.le_refl _) _
  have HW : Hid (ToksR (fun b => b < w0.heap.size) ((w0.drewN n1).alloc (.cells #[.slice none 0 0, .int .i64 0] 41)) a n tc TS ∧ ((w0.drewN n1).alloc (.cells #[.slice none 0 0, .int .i64 0] 41)).heap[w0.heap.size]? = some (.cells #[.slice none 0 0, .int .i64 0] 41) ∧ Below w0.heap.size w0 ((w0.drewN n1).alloc (.cells #[.slice none 0 0, .int .i64 0] 41))) := ⟨H.out.keep (.below hbW fun _ h => h), Deep.blk_alloc_new (w0.drewN n1) _, hbW⟩
  clear hbW
  generalize (w0.drewN n1).alloc (.cells #[.slice none 0 0, .int .i64 0] 41) = W at HW ⊢
  have HPB0 : Hid (w0.heap.size = w0.heap.size) := rfl
  obtain ⟨pb, HPB⟩ : ∃ pb, Hid (w0.heap.size = pb) := ⟨_, rfl⟩
  clear HPB0
  rw [HPB.out] at HW ⊢
  have HH : Hid (ToksR (fun b => b < pb) w0 a n tc TS) := by have := H.out; rw [HPB.out] at this; exact this
  clear H
  refine (toWireToks_any (fun b => b < pb) a n tc TS W HW.out.1 (fun b hb => by have := (Array.getElem?_eq_some_iff.1 HW.out.2.1).1; omega) HS.out).mono ?_
  rintro e w2 ⟨wa, wc, rfl, hT2, hb2⟩
  have hpW : pb < W.heap.size := (Array.getElem?_eq_some_iff.1 HW.out.2.1).1
  have HW2 : Hid (ToksR (fun b => b < pb ∨ pb + 1 ≤ b ∧ b < w2.heap.size) w2 wa n wc TS ∧ w2.heap[pb]? = some (.cells #[.slice none 0 0, .int .i64 0] 41) ∧ Below pb w0 w2 ∧ pb < w2.heap.size) := ⟨hT2.keep fun b hb => ⟨hb.imp id fun ⟨x, y⟩ => ⟨by omega, y⟩, fun _ h => h⟩, (hb2.block pb hpW).trans HW.out.2.1, HW.out.2.2.trans (hb2.mono (by omega)), Nat.lt_of_lt_of_le hpW hb2.size⟩
  clear hT2 hb2 HW hpW
  dsimp only
  go_wp2_with fail
  refine (addWhole_any pb w2.heap.size r c wa n wc TS (.slice none 0 0) w2 HW2.out.2.2.2 (Nat.le_refl _) hr hc (HW2.out.1.at' (fun b hb => by have := HW2.out.2.2.2; omega) HS.out) ⟨HW2.out.2.1, Dat.nil _ _⟩ (by have := toks_len HW2.out.1 HS.out; omega)).mono ?_
  rintro e w3 ⟨rfl, ps, qs, T1, T2, v3, hA1, hA2, hTT, hP3, hAp3, hl3, hq3⟩
  have hWh := whole_of hA1 hA2
  rw [hTT] at hWh
  clear hA1 hA2 hTT
  generalize ps ++ qs = P at hWh hP3 hl3 hq3
  clear ps qs T1 T2
  obtain ⟨D, hD⟩ : ∃ D, D = P.flatMap Pc.enc := ⟨_, rfl⟩
  rw [← hD] at hP3 hl3
  have HWh : Hid (Whole r.data.toList c.data.toList TS P ∧ D = P.flatMap Pc.enc ∧ D.length ≤ 1099511627776) := by
    refine ⟨hWh, hD, ?_⟩
    have h1 := toks_len HW2.out.1 HS.out
    have h2 := HW2.out.1.len
    rw [size_list, size_list] at hl3
    omega
  have hPl : P.length ≤ 4194304 := by have h2 := HW2.out.1.len; omega
  obtain ⟨va, vn, vc, rfl⟩ := dat_slice hP3.dat
  have HW3 : Hid (PAt pb w2.heap.size w3 (.slice va vn vc) P.length D ∧ Below pb w0 w3 ∧ pb < w2.heap.size ∧ w2.heap.size ≤ w3.heap.size) := ⟨hP3, HW2.out.2.2.1.trans ⟨hAp3.os, hAp3.tape, hAp3.output, hAp3.size, fun k hk => hAp3.block k (by have := HW2.out.2.2.2; omega) (.inl (by have := HW2.out.2.2.2; omega))⟩, HW2.out.2.2.2, hAp3.size⟩
  clear hWh hD hP3 hAp3 hl3 hq3 HW2
  dsimp only
  go_wp2_with fail
  refine (piecesData_any pb w2.heap.size P.length (.slice va vn vc) D w3 HW3.out.1).mono ?_
  rintro e w4 ⟨rfl, rfl⟩
  dsimp only
  go_wp2_with fail
  have hb4 : Below w4.heap.size w4 (w4.alloc (.cells #[.slice va vn vc, .int .i64 0, .bool false] 50)) := (Below.refl _ _).alloc (Nat.le_refl _) _
  have HV : Hid ((w4.alloc (.cells #[.slice va vn vc, .int .i64 0, .bool false] 50)).heap[pb]? = some (.cells #[.slice va vn vc, .int .i64 (P.length : Int)] 41) ∧ Below pb w0 (w4.alloc (.cells #[.slice va vn vc, .int .i64 0, .bool false] 50)) ∧ pb < w4.heap.size ∧ w4.heap.size < (w4.alloc (.cells #[.slice va vn vc, .int .i64 0, .bool false] 50)).heap.size ∧ (w4.alloc (.cells #[.slice va vn vc, .int .i64 0, .bool false] 50)).heap[w4.heap.size]? = some (.cells #[.slice va vn vc, .int .i64 0, .bool false] 50)) := ⟨(hb4.block pb (by have := HW3.out.2.2; omega)).trans HW3.out.1.box, HW3.out.2.1.trans (hb4.mono (by have := HW3.out.2.2; omega)), by have := HW3.out.2.2; omega, (Array.getElem?_eq_some_iff.1 (Deep.blk_alloc_new w4 _)).1, Deep.blk_alloc_new w4 _⟩
  have HDR : Hid ((va = none ∧ vn = 0 ∧ vc = 0 ∧ D = []) ∨ ∃ gd, va = some ⟨gd, 0, none⟩ ∧ vn = D.length ∧ DAt w4.heap.size gd (w4.alloc (.cells #[.slice va vn vc, .int .i64 0, .bool false] 50)) D vc 0) := by
    rcases dat_read HW3.out.1.dat with h | ⟨gd, rfl, rfl, h2, h3, h4, h5, h6⟩
    · exact .inl h
    · exact .inr ⟨gd, rfl, rfl, Deep.blk_alloc_new w4 _, fun i b hi => below_cell hb4 (h6 i b hi), by omega, HWh.out.2.2, h3, h4⟩
  clear hb4 HW3
  generalize w4.alloc (.cells #[.slice va vn vc, .int .i64 0, .bool false] 50) = V at HV HDR ⊢
  generalize w4.heap.size = bd at HV HDR ⊢
  clear w4
  rcases HDR.out with ⟨rfl, rfl, rfl, hD0⟩ | ⟨gd, rfl, rfl, hDA⟩
  · -- no piece
    have hP0 : P = [] := by
      rcases Nat.eq_zero_or_pos P.length with h | h
      · exact List.length_eq_zero_iff.1 h
      · have h2 := (far_start P).lt_iff.2 h
        rw [← HWh.out.2.1, hD0] at h2
        cases h2
    have hr0 : r.size = 0 := by have h := HWh.out.1.r; rw [hP0] at h; rw [← size_list, ← h]; rfl
    have hc0 : c.size = 0 := by have h := HWh.out.1.c; rw [hP0] at h; rw [← size_list, ← h]; rfl
    have ht0 : n = 0 := by have h := HWh.out.1.T; rw [hP0] at h; rw [HH.out.len, ← h]; rfl
    have HP0 : Hid (P = []) := hP0
    have v0 : V.cell? ⟨bd, 0, none⟩ = some (.slice none 0 0) := cell_atD HV.out.2.2.2.2 rfl
    have v1 : V.cell? ⟨bd, 1, none⟩ = some (.int .i64 0) := cell_atD HV.out.2.2.2.2 rfl
    clear hP0 hD0 HDR g1 g2 g3
    go_loopg [9, 10, 11, 12] 0 (fun gk rv cv tv kv wr => gk = 0 ∧ rv = .int .i64 0 ∧ cv = .int .i64 0 ∧ tv = .int .i64 0 ∧ kv = .int .i64 0 ∧ wr = V)
    case atStart => exact ⟨rfl, rfl, rfl, rfl, rfl, rfl⟩
    case round =>
      obtain ⟨rfl, rfl, rfl, rfl, rfl, rfl⟩ := hrel
      go_wp2_with fail
      refine (piecesN_any pb 0 _ _ (by have h := HV.out.1; rw [HP0.out] at h; exact h)).mono ?_
      rintro e w5 ⟨rfl, rfl⟩
      dsimp only
      go_wp2
      go_ret
      exact ⟨rfl, by rw [HPB.out]; exact HV.out.2.1⟩
  have HDA : Hid (DAt bd gd V D vc 0) := hDA
  clear hDA HDR g1 g2 g3
  go_loopg [9, 10, 11, 12] P.length (fun gk rv cv tv kv wr => ∃ (i rq cq tq p : Nat), gk = P.length - i ∧ i ≤ P.length ∧ rq ≤ 1048576 ∧ cq ≤ 1048576 ∧ tq ≤ 1048576 ∧ rv = .int .i64 (rq : Int) ∧ cv = .int .i64 (cq : Int) ∧ tv = .int .i64 (tq : Int) ∧ kv = .int .i64 (i : Int) ∧ Hid (DAt bd gd wr D vc p ∧ Only bd V wr ∧ Far D P i p ∧ rq = ((P.take i).flatMap Pc.r).length ∧ cq = ((P.take i).flatMap Pc.c).length ∧ tq = ((P.take i).flatMap Pc.T).length))
  case atStart => exact ⟨0, 0, 0, 0, 0, by omega, by omega, by omega, by omega, by omega, rfl, rfl, rfl, rfl, HDA.out, Only.refl _ _, by rw [HWh.out.2.1]; exact far_start P, rfl, rfl, rfl⟩
  case round =>
    clear HDA
    obtain ⟨i, rq, cq, tq, p, hgk, hi, hrq, hcq, htq, rfl, rfl, rfl, rfl, HR⟩ := hrel
    have r0 : wr.cell? ⟨bd, 0, none⟩ = some (.slice (some ⟨gd, 0, none⟩) D.length vc) := cell_atD HR.out.1.box rfl
    have r1 : wr.cell? ⟨bd, 1, none⟩ = some (.int .i64 (p : Int)) := cell_atD HR.out.1.box rfl
    by_cases hip : i < P.length
    case neg =>
      have hnp : ¬ p < D.length := fun h => hip (HR.out.2.2.1.lt_iff.1 h)
      have hpd : decide ((p : Int) < (D.length : Int)) = false := by simp; omega
      have hpd2 : ¬ (p : Int) < (D.length : Int) := by omega
      have hie : i = P.length := by omega
      have hrr : rq = r.size := by have h := HR.out.2.2.2.1; rw [List.take_of_length_le (by omega), HWh.out.1.r, size_list] at h; exact h
      have hcc : cq = c.size := by have h := HR.out.2.2.2.2.1; rw [List.take_of_length_le (by omega), HWh.out.1.c, size_list] at h; exact h
      have htt : tq = n := by have h := HR.out.2.2.2.2.2; rw [List.take_of_length_le (by omega), HWh.out.1.T, ← HH.out.len] at h; exact h
      clear hnp hip
      subst hrr hcc htt hie
      go_wp2_with fail
      refine (piecesN_any pb P.length _ wr (HR.out.2.1.keep HV.out.1 (by have := HV.out.2.2; omega))).mono ?_
      rintro e w5 ⟨rfl, rfl⟩
      dsimp only
      go_wp2
      go_ret
      exact ⟨rfl, by rw [HPB.out]; exact below_only HV.out.2.1 HR.out.2.1 (by have := HV.out.2.2; omega) (by have := HV.out.2.2; omega)⟩
    have hpd0 : p < D.length := HR.out.2.2.1.lt_iff.2 hip
    have hpd : decide ((p : Int) < (D.length : Int)) = true := by simp; omega
    have hpd2 : (p : Int) < (D.length : Int) := by omega
    obtain ⟨pc, hpc⟩ : ∃ pc, P[i]? = some pc := ⟨_, List.getElem?_eq_getElem hip⟩
    obtain ⟨R, hR1, hR2, hR3⟩ := HR.out.2.2.1.head hpc
    have hok := HWh.out.1.mem hpc
    have hflt := hok.lt
    have hTl : tq + pc.T.length ≤ n := by
      have h1 := flat_succ Pc.T hpc
      have h2 := flat_len_le Pc.T P (i + 1)
      rw [HWh.out.1.T, ← HH.out.len, h1, ← HR.out.2.2.2.2.2] at h2
      exact h2
    obtain ⟨m, hm⟩ : ∃ m, m = pc.T.length := ⟨_, rfl⟩
    rw [← hm] at hTl hR1 hR2
    obtain ⟨x, hx⟩ : ∃ x, x = m * 4 + pc.f := ⟨_, rfl⟩
    rw [← hx] at hR1 hR2
    have hx64 : x < 18446744073709551616 := by omega
    have hx40 : (x : Int) < 1099511627776 := by omega
    have hshr : (x : Int) / 4 = (m : Int) := by omega
    have hand := and3 hx64 hx hflt
    have hm20 : m ≤ 1048576 := by omega
    have HX : Hid (D.drop p = Lib.uvarint x ++ R ∧ (pc.f ≠ 2 → In D P i pc 0 (p + (Lib.uvarint x).length)) ∧ (pc.f = 2 → R = Lib.uvarint pc.r.length ++ (pc.r ++ (Lib.uvarint pc.c.length ++ (pc.c ++ (pc.T.flatMap Tk.enc ++ (P.drop (i + 1)).flatMap Pc.enc))))) ∧ m = pc.T.length ∧ P[i]? = some pc) := ⟨hR1, hR2, hR3, hm, hpc⟩
    have HTL : Hid (tq + m ≤ n) := hTl
    clear hR1 hR2 hR3 hm hok hx hpc hpd0 hTl
    obtain ⟨f, hf⟩ : ∃ f, pc.f = f := ⟨_, rfl⟩
    rw [hf] at hand hflt
    have HF : Hid (pc.f = f) := hf
    clear hf
    go_wp2_with fail
    refine (uvarint_any bd gd vc p x D R wr HR.out.1 hx64 HX.out.1).mono ?_
    rintro e w5 ⟨rfl, hD5, hO5⟩
    have HA : Hid (DAt bd gd w5 D vc (p + (Lib.uvarint x).length) ∧ Only bd V w5) := ⟨hD5, HR.out.2.1.trans hO5⟩
    have q2 : w5.cell? ⟨bd, 2, none⟩ = some (.bool false) := cell_atD hD5.box rfl
    have HQ0 : Hid (rq = ((P.take i).flatMap Pc.r).length ∧ cq = ((P.take i).flatMap Pc.c).length ∧ tq = ((P.take i).flatMap Pc.T).length) := ⟨HR.out.2.2.2.1, HR.out.2.2.2.2.1, HR.out.2.2.2.2.2⟩
    clear hD5 hO5 HR r0 r1 hpd hpd2
    dsimp only
    obtain rfl | rfl | rfl : f = 0 ∨ f = 1 ∨ f = 2 := by omega
    · have hand0 : bits .and .u64 (x : Int) 3 = 0 := hand
      clear hand hflt
      have HI : Hid (DAt bd gd w5 D vc (p + (Lib.uvarint x).length) ∧ Only bd V w5 ∧ In D P i pc 0 (p + (Lib.uvarint x).length)) := ⟨HA.out.1, HA.out.2, HX.out.2.1 (by rw [HF.out]; decide)⟩
      clear HA
      go_wp2_with fail
      clear q2
      go_loopg [9, 10, 11, 17] m (fun gk rv cv tv kv wr => ∃ (j q2 tq2 p2 : Nat), gk = m - j ∧ j ≤ m ∧ q2 ≤ 1048576 ∧ tq2 ≤ 1048576 ∧ rv = .int .i64 (rq : Int) ∧ cv = .int .i64 (q2 : Int) ∧ tv = .int .i64 (tq2 : Int) ∧ kv = .int .u64 (j : Int) ∧ Hid (DAt bd gd wr D vc p2 ∧ Only bd V wr ∧ In D P i pc j p2 ∧ q2 = cq + (cat (pc.T.take j)).length ∧ tq2 = tq + j))
      case atStart => exact ⟨0, cq, tq, _, by omega, by omega, by omega, by omega, rfl, rfl, rfl, rfl, HI.out.1, HI.out.2.1, HI.out.2.2, by simp [cat], by omega⟩
      case round =>
        clear HI
        obtain ⟨j, q2, tq2, p2, hgk2, hj, hq2, htq2, rfl, rfl, rfl, rfl, HI⟩ := hrel
        by_cases hjm : j < m
        case neg =>
          have hjm1 : decide ((j : Int) < (m : Int)) = false := by simp; omega
          have hjm2 : ¬ (j : Int) < (m : Int) := by omega
          have HN : Hid (DAt bd gd wr D vc p2 ∧ Only bd V wr ∧ Far D P (i + 1) p2 ∧ rq = ((P.take (i + 1)).flatMap Pc.r).length ∧ q2 = ((P.take (i + 1)).flatMap Pc.c).length ∧ tq2 = ((P.take (i + 1)).flatMap Pc.T).length) := by
            have hpc := HX.out.2.2.2.2
            have hm := HX.out.2.2.2.1
            obtain ⟨e1, e2, e3⟩ := HQ0.out
            obtain ⟨h1, h2, h3, h4, h5⟩ := HI.out
            refine ⟨h1, h2, h3.done (by omega) hip, ?_, ?_, ?_⟩
            · rw [flat_succ Pc.r hpc, ((HWh.out.1.mem hpc).f0 HF.out).1, e1]; rfl
            · rw [flat_succ Pc.c hpc, ((HWh.out.1.mem hpc).f0 HF.out).2, h4, List.take_of_length_le (by omega), e2]
            · rw [flat_succ Pc.T hpc]; omega
          clear hjm HI
          go_wp2
          go_roundg (P.length - (i + 1))
          case measure => omega
          case rel => exact ⟨i + 1, rq, q2, tq2, p2, rfl, by omega, by omega, by omega, by omega, rfl, rfl, rfl, by go_num, HN⟩
        have hjm1 : decide ((j : Int) < (m : Int)) = true := by simp; omega
        have hjm2 : (j : Int) < (m : Int) := by omega
        obtain ⟨t, ht⟩ : ∃ t, pc.T[j]? = some t := ⟨_, List.getElem?_eq_getElem (by have := HX.out.2.2.2.1; omega)⟩
        have htS : TS[tq2]? = some t := by rw [HI.out.2.2.2.2, HQ0.out.2.2]; exact HWh.out.1.tok HX.out.2.2.2.2 ht
        have hbl : Below pb w0 wr := below_only HV.out.2.1 HI.out.2.1 (by have := HV.out.2.2; omega) (by have := HV.out.2.2; omega)
        obtain ⟨g, o, a', c', ca, cc, hax, hT⟩ := (HH.out.keep (P := fun b => b < pb) (w' := wr) fun b hb => ⟨hb, fun _ hc => (hbl.block b hb).trans hc⟩).cell tq2 t htS
        have c0 := hT.tx.c0
        have c1 := hT.tx.c1
        have c2 := hT.tx.c2
        have c3 := hT.c3
        have hsz : tsz t ≤ 1048576 := by have h1 := mem_sum tsz htS; have h2 := HS.out.le; omega
        have htz : t.x.s.size ≤ 1048576 := by have e : tsz t = t.x.s.size + t.x.I.length + t.C.length + (t.C.map csz).sum := rfl; omega
        have HT : Hid (TkAt bd pb wr g (o + tq2 * 4) t a' c' ca cc ∧ pc.T[j]? = some t) := ⟨hT.at' (fun b hb => by have := HV.out.2.2; omega) hsz, ht⟩
        have htn : tq2 < n := by have h1 := HTL.out; have h2 := HI.out.2.2.2.2; omega
        have htnb : decide ((n : Int) ≤ (tq2 : Int)) = false := by simp; omega
        have htnc : ¬ ((n : Int) ≤ (tq2 : Int)) := by omega
        have htnd : (tq2 : Int) < (n : Int) := by omega
        have HTX : Hid (t.x.s.data.toList = (c.data.toList.drop q2).take t.x.s.size ∧ q2 + t.x.s.size ≤ c.size) := by
          have h := HWh.out.1.ct HX.out.2.2.2.2 HF.out ht
          rw [← HQ0.out.2.1, ← HI.out.2.2.2.1, size_list] at h
          exact h
        have hq2n : q2 + t.x.s.size ≤ 1048576 := by have := HTX.out.2; omega
        clear hT ht htS hbl htn hsz
        subst hax
        go_wp2_with fail
        refine (token_any bd gd vc p2 pb t.x t.C a' ca c' cc D _ wr HI.out.1 HT.out.1.tx.bn HT.out.1.tx.ints HT.out.1.tx.size HT.out.1.tx.f64 HT.out.1.cands HI.out.2.2.1.le (by rw [HT.out.1.cn]; exact (HI.out.2.2.1.next HT.out.2).1)).mono ?_
        rintro e w6 ⟨a6, c6, rfl, hB6, hD6, hO6⟩
        rw [HT.out.1.cn] at hD6
        have HI6 : Hid (BySl bd w6 a6 t.x.s.data.toList ∧ DAt bd gd w6 D vc (p2 + t.enc.length) ∧ Only bd V w6 ∧ In D P i pc (j + 1) (p2 + t.enc.length) ∧ q2 + t.x.s.size = cq + (cat (pc.T.take (j + 1))).length ∧ tq2 + 1 = tq + (j + 1)) := ⟨hB6, hD6, HI.out.2.1.trans hO6, (HI.out.2.2.1.next HT.out.2).2, by rw [cat_succ HT.out.2]; have := HI.out.2.2.2.1; omega, by have := HI.out.2.2.2.2; omega⟩
        clear hB6 hD6 hO6 HI c0 c1 c2 c3 hjm1 hjm2 htnb htnc
        dsimp only
        go_wp2_with fail
        refine (textAt_any bd t.x.s.size c6 q2 a6 t.x.s.data.toList c w6 (size_list _).symm HI6.out.1 HTX.out.1 hc HTX.out.2).mono ?_
        rintro e w7 ⟨rfl, hb7⟩
        have HI7 : Hid (DAt bd gd w7 D vc (p2 + t.enc.length) ∧ Only bd V w7) := ⟨HI6.out.2.1.move hb7, HI6.out.2.2.1.trans (.of_below hb7)⟩
        clear hb7
        dsimp only
        go_wp2
        go_roundg (m - (j + 1))
        case measure => omega
        case rel => exact ⟨j + 1, q2 + t.x.s.size, tq2 + 1, _, rfl, by omega, by omega, by omega, by go_num, by go_num, by go_num, by go_num, HI7.out.1, HI7.out.2, HI6.out.2.2.2⟩
    · have hand0 : bits .and .u64 (x : Int) 3 = 1 := hand
      clear hand hflt
      have HI : Hid (DAt bd gd w5 D vc (p + (Lib.uvarint x).length) ∧ Only bd V w5 ∧ In D P i pc 0 (p + (Lib.uvarint x).length)) := ⟨HA.out.1, HA.out.2, HX.out.2.1 (by rw [HF.out]; decide)⟩
      clear HA
      go_wp2_with fail
      clear q2
      go_loopg [9, 10, 11, 17] m (fun gk rv cv tv kv wr => ∃ (j q2 tq2 p2 : Nat), gk = m - j ∧ j ≤ m ∧ q2 ≤ 1048576 ∧ tq2 ≤ 1048576 ∧ rv = .int .i64 (q2 : Int) ∧ cv = .int .i64 (cq : Int) ∧ tv = .int .i64 (tq2 : Int) ∧ kv = .int .u64 (j : Int) ∧ Hid (DAt bd gd wr D vc p2 ∧ Only bd V wr ∧ In D P i pc j p2 ∧ q2 = rq + (cat (pc.T.take j)).length ∧ tq2 = tq + j))
      case atStart => exact ⟨0, rq, tq, _, by omega, by omega, by omega, by omega, rfl, rfl, rfl, rfl, HI.out.1, HI.out.2.1, HI.out.2.2, by simp [cat], by omega⟩
      case round =>
        clear HI
        obtain ⟨j, q2, tq2, p2, hgk2, hj, hq2, htq2, rfl, rfl, rfl, rfl, HI⟩ := hrel
        by_cases hjm : j < m
        case neg =>
          have hjm1 : decide ((j : Int) < (m : Int)) = false := by simp; omega
          have hjm2 : ¬ (j : Int) < (m : Int) := by omega
          have HN : Hid (DAt bd gd wr D vc p2 ∧ Only bd V wr ∧ Far D P (i + 1) p2 ∧ q2 = ((P.take (i + 1)).flatMap Pc.r).length ∧ cq = ((P.take (i + 1)).flatMap Pc.c).length ∧ tq2 = ((P.take (i + 1)).flatMap Pc.T).length) := by
            have hpc := HX.out.2.2.2.2
            have hm := HX.out.2.2.2.1
            obtain ⟨e1, e2, e3⟩ := HQ0.out
            obtain ⟨h1, h2, h3, h4, h5⟩ := HI.out
            refine ⟨h1, h2, h3.done (by omega) hip, ?_, ?_, ?_⟩
            · rw [flat_succ Pc.r hpc, ((HWh.out.1.mem hpc).f1 HF.out).2, h4, List.take_of_length_le (by omega), e1]
            · rw [flat_succ Pc.c hpc, ((HWh.out.1.mem hpc).f1 HF.out).1, e2]; rfl
            · rw [flat_succ Pc.T hpc]; omega
          clear hjm HI
          go_wp2
          go_roundg (P.length - (i + 1))
          case measure => omega
          case rel => exact ⟨i + 1, q2, cq, tq2, p2, rfl, by omega, by omega, by omega, by omega, rfl, rfl, rfl, by go_num, HN⟩
        have hjm1 : decide ((j : Int) < (m : Int)) = true := by simp; omega
        have hjm2 : (j : Int) < (m : Int) := by omega
        obtain ⟨t, ht⟩ : ∃ t, pc.T[j]? = some t := ⟨_, List.getElem?_eq_getElem (by have := HX.out.2.2.2.1; omega)⟩
        have htS : TS[tq2]? = some t := by rw [HI.out.2.2.2.2, HQ0.out.2.2]; exact HWh.out.1.tok HX.out.2.2.2.2 ht
        have hbl : Below pb w0 wr := below_only HV.out.2.1 HI.out.2.1 (by have := HV.out.2.2; omega) (by have := HV.out.2.2; omega)
        obtain ⟨g, o, a', c', ca, cc, hax, hT⟩ := (HH.out.keep (P := fun b => b < pb) (w' := wr) fun b hb => ⟨hb, fun _ hc => (hbl.block b hb).trans hc⟩).cell tq2 t htS
        have c0 := hT.tx.c0
        have c1 := hT.tx.c1
        have c2 := hT.tx.c2
        have c3 := hT.c3
        have hsz : tsz t ≤ 1048576 := by have h1 := mem_sum tsz htS; have h2 := HS.out.le; omega
        have htz : t.x.s.size ≤ 1048576 := by have e : tsz t = t.x.s.size + t.x.I.length + t.C.length + (t.C.map csz).sum := rfl; omega
        have HT : Hid (TkAt bd pb wr g (o + tq2 * 4) t a' c' ca cc ∧ pc.T[j]? = some t) := ⟨hT.at' (fun b hb => by have := HV.out.2.2; omega) hsz, ht⟩
        have htn : tq2 < n := by have h1 := HTL.out; have h2 := HI.out.2.2.2.2; omega
        have htnb : decide ((n : Int) ≤ (tq2 : Int)) = false := by simp; omega
        have htnc : ¬ ((n : Int) ≤ (tq2 : Int)) := by omega
        have htnd : (tq2 : Int) < (n : Int) := by omega
        have HTX : Hid ((t.x.s.data.toList = (r.data.toList.drop q2).take t.x.s.size ∧ q2 + t.x.s.size ≤ r.size) ∧ (0 < t.x.s.size → cq = 0)) := by
          have h := HWh.out.1.rt HX.out.2.2.2.2 HF.out ht
          rw [← HQ0.out.1, ← HI.out.2.2.2.1, size_list] at h
          refine ⟨h, fun hs => ?_⟩
          have h2 := HWh.out.1.ot HX.out.2.2.2.2 HF.out ht hs
          rw [← HQ0.out.2.1] at h2
          exact h2
        have hq2n : q2 + t.x.s.size ≤ 1048576 := by have := HTX.out.1.2; omega
        clear hT ht htS hbl htn hsz
        subst hax
        go_wp2_with fail
        refine (token_any bd gd vc p2 pb t.x t.C a' ca c' cc D _ wr HI.out.1 HT.out.1.tx.bn HT.out.1.tx.ints HT.out.1.tx.size HT.out.1.tx.f64 HT.out.1.cands HI.out.2.2.1.le (by rw [HT.out.1.cn]; exact (HI.out.2.2.1.next HT.out.2).1)).mono ?_
        rintro e w6 ⟨a6, c6, rfl, hB6, hD6, hO6⟩
        rw [HT.out.1.cn] at hD6
        have HI6 : Hid (BySl bd w6 a6 t.x.s.data.toList ∧ DAt bd gd w6 D vc (p2 + t.enc.length) ∧ Only bd V w6 ∧ In D P i pc (j + 1) (p2 + t.enc.length) ∧ q2 + t.x.s.size = rq + (cat (pc.T.take (j + 1))).length ∧ tq2 + 1 = tq + (j + 1)) := ⟨hB6, hD6, HI.out.2.1.trans hO6, (HI.out.2.2.1.next HT.out.2).2, by rw [cat_succ HT.out.2]; have := HI.out.2.2.2.1; omega, by have := HI.out.2.2.2.2; omega⟩
        clear hB6 hD6 hO6 HI c0 c1 c2 c3 hjm1 hjm2 htnb htnc
        dsimp only
        go_wp2_with fail
        refine (textAt_any bd t.x.s.size c6 q2 a6 t.x.s.data.toList r w6 (size_list _).symm HI6.out.1 HTX.out.1.1 hr HTX.out.1.2).mono ?_
        rintro e w7 ⟨rfl, hb7⟩
        have HI7 : Hid (DAt bd gd w7 D vc (p2 + t.enc.length) ∧ Only bd V w7) := ⟨HI6.out.2.1.move hb7, HI6.out.2.2.1.trans (.of_below hb7)⟩
        clear hb7
        dsimp only
        by_cases hs0 : 0 < t.x.s.size
        · have hs1 : ¬ (0 < cq) := by have := HTX.out.2 hs0; omega
          have hs2 : ¬ (0 < t.x.s.size ∧ 0 < cq) := fun h => hs1 h.2
          have hs3 : (decide (0 < t.x.s.size) && decide (0 < cq)) = false := by rw [decide_eq_false hs1, Bool.and_false]
          go_wp2
          go_roundg (m - (j + 1))
          case measure => omega
          case rel => exact ⟨j + 1, q2 + t.x.s.size, tq2 + 1, _, rfl, by omega, by omega, by omega, by go_num, by go_num, by go_num, by go_num, HI7.out.1, HI7.out.2, HI6.out.2.2.2⟩
        · have hs2 : ¬ ((0 : Int) < (t.x.s.size : Int)) := by omega
          go_wp2
          go_roundg (m - (j + 1))
          case measure => omega
          case rel => exact ⟨j + 1, q2 + t.x.s.size, tq2 + 1, _, rfl, by omega, by omega, by omega, by go_num, by go_num, by go_num, by go_num, HI7.out.1, HI7.out.2, HI6.out.2.2.2⟩
    · have hand0 : bits .and .u64 (x : Int) 3 = 2 := hand
      clear hand hflt
      obtain ⟨rk, hrk⟩ : ∃ rk, rk = pc.r.length := ⟨_, rfl⟩
      obtain ⟨ck, hck⟩ : ∃ ck, ck = pc.c.length := ⟨_, rfl⟩
      have hRs := HWh.out.1.rs HX.out.2.2.2.2
      have hCs := HWh.out.1.cs HX.out.2.2.2.2
      rw [← HQ0.out.1, ← hrk, size_list] at hRs
      rw [← HQ0.out.2.1, ← hck, size_list] at hCs
      have hRl : rq + rk ≤ 1048576 := by omega
      have hCl : cq + ck ≤ 1048576 := by omega
      have HRS : Hid ((pc.r = (r.data.toList.drop rq).take rk ∧ rq + rk ≤ r.size) ∧ (pc.c = (c.data.toList.drop cq).take ck ∧ cq + ck ≤ c.size) ∧ rk = pc.r.length ∧ ck = pc.c.length ∧ (0 < rk → cq = 0)) := ⟨hRs, hCs, hrk, hck, fun h => by rw [HQ0.out.2.1]; exact HWh.out.1.oc HX.out.2.2.2.2 (by omega)⟩
      have hd0 := drop_next HX.out.1
      rw [HX.out.2.2.1 HF.out, ← hrk, ← hck] at hd0
      have HD0 : Hid (D.drop (p + (Lib.uvarint x).length) = Lib.uvarint rk ++ (pc.r ++ (Lib.uvarint ck ++ (pc.c ++ (pc.T.flatMap Tk.enc ++ (P.drop (i + 1)).flatMap Pc.enc)))) ∧ p + (Lib.uvarint x).length ≤ D.length) := ⟨hd0, drop_le HX.out.1 (by
        rcases Nat.lt_or_ge D.length p with h | h
        · have := HX.out.1; rw [List.drop_eq_nil_of_le (by omega)] at this
          have h2 := congrArg List.length this
          have h3 := Lib.uvarint_pos x
          rw [List.length_append, List.length_nil] at h2
          omega
        · exact h)⟩
      clear hRs hCs hrk hck hd0
      generalize p + (Lib.uvarint x).length = p0 at HA HD0
      go_wp2_with fail
      refine (uvarint_any bd gd vc p0 rk D _ w5 HA.out.1 (by omega) HD0.out.1).mono ?_
      rintro e w6 ⟨rfl, hD6, hO6⟩
      have HA6 : Hid (DAt bd gd w6 D vc (p0 + (Lib.uvarint rk).length) ∧ Only bd V w6 ∧ D.drop (p0 + (Lib.uvarint rk).length) = pc.r ++ (Lib.uvarint ck ++ (pc.c ++ (pc.T.flatMap Tk.enc ++ (P.drop (i + 1)).flatMap Pc.enc))) ∧ p0 + (Lib.uvarint rk).length ≤ D.length) := ⟨hD6, HA.out.2.trans hO6, drop_next HD0.out.1, drop_le HD0.out.1 HD0.out.2⟩
      clear hD6 hO6 HA HD0 q2
      generalize p0 + (Lib.uvarint rk).length = p1 at HA6
      dsimp only
      go_wp2_with fail
      refine (take_any bd gd vc p1 rk D w6 HA6.out.1 (by have := drop_le HA6.out.2.2.1 HA6.out.2.2.2; have := HRS.out.2.2.1; omega)).mono ?_
      rintro e w7 ⟨ra, rc, rfl, hB7, hD7, hO7⟩
      have HA7 : Hid (BySl bd w7 ra pc.r ∧ DAt bd gd w7 D vc (p1 + rk) ∧ Only bd V w7 ∧ D.drop (p1 + rk) = Lib.uvarint ck ++ (pc.c ++ (pc.T.flatMap Tk.enc ++ (P.drop (i + 1)).flatMap Pc.enc)) ∧ p1 + rk ≤ D.length) := by
        have h1 := HRS.out.2.2.1
        refine ⟨?_, hD7, HA6.out.2.1.trans hO7, ?_, ?_⟩
        · rw [HA6.out.2.2.1, h1, List.take_left] at hB7; exact hB7
        · rw [h1]; exact drop_next HA6.out.2.2.1
        · rw [h1]; exact drop_le HA6.out.2.2.1 HA6.out.2.2.2
      clear hB7 hD7 hO7 HA6
      generalize p1 + rk = p2 at HA7
      dsimp only
      go_wp2_with fail
      refine (uvarint_any bd gd vc p2 ck D _ w7 HA7.out.2.1 (by omega) HA7.out.2.2.2.1).mono ?_
      rintro e w8 ⟨rfl, hD8, hO8⟩
      have HA8 : Hid (BySl bd w8 ra pc.r ∧ DAt bd gd w8 D vc (p2 + (Lib.uvarint ck).length) ∧ Only bd V w8 ∧ D.drop (p2 + (Lib.uvarint ck).length) = pc.c ++ (pc.T.flatMap Tk.enc ++ (P.drop (i + 1)).flatMap Pc.enc) ∧ p2 + (Lib.uvarint ck).length ≤ D.length) := ⟨HA7.out.1.only hO8, hD8, HA7.out.2.2.1.trans hO8, drop_next HA7.out.2.2.2.1, drop_le HA7.out.2.2.2.1 HA7.out.2.2.2.2⟩
      clear hD8 hO8 HA7
      generalize p2 + (Lib.uvarint ck).length = p3 at HA8
      dsimp only
      go_wp2_with fail
      refine (take_any bd gd vc p3 ck D w8 HA8.out.2.1 (by have := drop_le HA8.out.2.2.2.1 HA8.out.2.2.2.2; have := HRS.out.2.2.2.1; omega)).mono ?_
      rintro e w9 ⟨xa, xc, rfl, hB9, hD9, hO9⟩
      have HA9 : Hid (BySl bd w9 ra pc.r ∧ BySl bd w9 xa pc.c ∧ DAt bd gd w9 D vc (p3 + ck) ∧ Only bd V w9 ∧ In D P i pc 0 (p3 + ck)) := by
        have h1 := HRS.out.2.2.2.1
        refine ⟨HA8.out.1.only hO9, ?_, hD9, HA8.out.2.2.1.trans hO9, ?_, ?_⟩
        · rw [HA8.out.2.2.2.1, h1, List.take_left] at hB9; exact hB9
        · rw [h1]; exact drop_le HA8.out.2.2.2.1 HA8.out.2.2.2.2
        · rw [h1, List.drop_zero]; exact drop_next HA8.out.2.2.2.1
      have q9 : w9.cell? ⟨bd, 2, none⟩ = some (.bool false) := cell_atD hD9.box rfl
      clear hB9 hD9 hO9 HA8
      generalize p3 + ck = p4 at HA9
      dsimp only
      go_wp2_with fail
      refine (textAt_any bd rk rc rq ra pc.r r w9 HRS.out.2.2.1 HA9.out.1 HRS.out.1.1 hr HRS.out.1.2).mono ?_
      rintro e wa ⟨rfl, hba⟩
      have HAa : Hid (BySl bd wa xa pc.c ∧ DAt bd gd wa D vc p4 ∧ Only bd V wa ∧ In D P i pc 0 p4) := ⟨HA9.out.2.1.only (.of_below hba), HA9.out.2.2.1.move hba, HA9.out.2.2.2.1.trans (.of_below hba), HA9.out.2.2.2.2⟩
      clear hba HA9 q9
      dsimp only
      go_wp2_with fail
      refine (textAt_any bd ck xc cq xa pc.c c wa HRS.out.2.2.2.1 HAa.out.1 HRS.out.2.1.1 hc HRS.out.2.1.2).mono ?_
      rintro e wb ⟨rfl, hbb⟩
      have HI : Hid (DAt bd gd wb D vc p4 ∧ Only bd V wb ∧ In D P i pc 0 p4) := ⟨HAa.out.2.1.move hbb, HAa.out.2.2.1.trans (.of_below hbb), HAa.out.2.2.2⟩
      clear hbb HAa
      dsimp only
      obtain ⟨rq3, hrq3⟩ : ∃ rq3, rq3 = rq + rk := ⟨_, rfl⟩
      obtain ⟨cq3, hcq3⟩ : ∃ cq3, cq3 = cq + ck := ⟨_, rfl⟩
      have HQ3 : Hid (rq3 = ((P.take i).flatMap Pc.r).length + pc.r.length ∧ cq3 = ((P.take i).flatMap Pc.c).length + pc.c.length) := by have h1 := HRS.out.2.2; have h2 := HQ0.out; constructor <;> omega
      have hr3 : rq3 ≤ 1048576 := by omega
      have hc3 : cq3 ≤ 1048576 := by omega
      have HE3 : Hid ((rq : Int) + (rk : Int) = (rq3 : Int) ∧ (cq : Int) + (ck : Int) = (cq3 : Int)) := ⟨by omega, by omega⟩
      clear hrq3 hcq3
      by_cases hs0 : 0 < rk
      · have hs1 : ¬ (0 < cq) := by have := HRS.out.2.2.2.2 hs0; omega
        have hs2 : ¬ (0 < rk ∧ 0 < cq) := fun h => hs1 h.2
        have hs3 : (decide (0 < rk) && decide (0 < cq)) = false := by rw [decide_eq_false hs1, Bool.and_false]
        go_wp2_with fail
        rw [HE3.out.1, HE3.out.2]
        clear hs0 hs1 hs2 hs3
        go_loopg [9, 10, 11, 17] m (fun gk rv cv tv kv wr => ∃ (j q2 tq2 p2 : Nat), gk = m - j ∧ j ≤ m ∧ q2 ≤ 1048576 ∧ tq2 ≤ 1048576 ∧ rv = .int .i64 (rq3 : Int) ∧ cv = .int .i64 (cq3 : Int) ∧ tv = .int .i64 (tq2 : Int) ∧ kv = .int .u64 (j : Int) ∧ Hid (DAt bd gd wr D vc p2 ∧ Only bd V wr ∧ In D P i pc j p2 ∧ q2 = 0 ∧ tq2 = tq + j))
        case atStart => exact ⟨0, 0, tq, _, by omega, by omega, by omega, by omega, rfl, rfl, rfl, rfl, HI.out.1, HI.out.2.1, HI.out.2.2, rfl, by omega⟩
        case round =>
          clear HI
          obtain ⟨j, q2, tq2, p2, hgk2, hj, hq2, htq2, rfl, rfl, rfl, rfl, HI⟩ := hrel
          by_cases hjm : j < m
          case neg =>
            have hjm1 : decide ((j : Int) < (m : Int)) = false := by simp; omega
            have hjm2 : ¬ (j : Int) < (m : Int) := by omega
            have HN : Hid (DAt bd gd wr D vc p2 ∧ Only bd V wr ∧ Far D P (i + 1) p2 ∧ rq3 = ((P.take (i + 1)).flatMap Pc.r).length ∧ cq3 = ((P.take (i + 1)).flatMap Pc.c).length ∧ tq2 = ((P.take (i + 1)).flatMap Pc.T).length) := by
              have hpc := HX.out.2.2.2.2
              have hm := HX.out.2.2.2.1
              obtain ⟨e1, e2, e3⟩ := HQ0.out
              obtain ⟨h1, h2, h3, h4, h5⟩ := HI.out
              refine ⟨h1, h2, h3.done (by omega) hip, ?_, ?_, ?_⟩
              · rw [flat_succ Pc.r hpc]; have := HQ3.out; omega
              · rw [flat_succ Pc.c hpc]; have := HQ3.out; omega
              · rw [flat_succ Pc.T hpc]; omega
            clear hjm HI
            go_wp2
            go_roundg (P.length - (i + 1))
            case measure => omega
            case rel => exact ⟨i + 1, rq3, cq3, tq2, p2, rfl, by omega, by omega, by omega, by omega, rfl, rfl, rfl, by go_num, HN⟩
          have hjm1 : decide ((j : Int) < (m : Int)) = true := by simp; omega
          have hjm2 : (j : Int) < (m : Int) := by omega
          obtain ⟨t, ht⟩ : ∃ t, pc.T[j]? = some t := ⟨_, List.getElem?_eq_getElem (by have := HX.out.2.2.2.1; omega)⟩
          have htS : TS[tq2]? = some t := by rw [HI.out.2.2.2.2, HQ0.out.2.2]; exact HWh.out.1.tok HX.out.2.2.2.2 ht
          have hbl : Below pb w0 wr := below_only HV.out.2.1 HI.out.2.1 (by have := HV.out.2.2; omega) (by have := HV.out.2.2; omega)
          obtain ⟨g, o, a', c', ca, cc, hax, hT⟩ := (HH.out.keep (P := fun b => b < pb) (w' := wr) fun b hb => ⟨hb, fun _ hc => (hbl.block b hb).trans hc⟩).cell tq2 t htS
          have c0 := hT.tx.c0
          have c1 := hT.tx.c1
          have c2 := hT.tx.c2
          have c3 := hT.c3
          have hsz : tsz t ≤ 1048576 := by have h1 := mem_sum tsz htS; have h2 := HS.out.le; omega
          have htz : t.x.s.size ≤ 1048576 := by have e : tsz t = t.x.s.size + t.x.I.length + t.C.length + (t.C.map csz).sum := rfl; omega
          have HT : Hid (TkAt bd pb wr g (o + tq2 * 4) t a' c' ca cc ∧ pc.T[j]? = some t) := ⟨hT.at' (fun b hb => by have := HV.out.2.2; omega) hsz, ht⟩
          have htn : tq2 < n := by have h1 := HTL.out; have h2 := HI.out.2.2.2.2; omega
          have htnb : decide ((n : Int) ≤ (tq2 : Int)) = false := by simp; omega
          have htnc : ¬ ((n : Int) ≤ (tq2 : Int)) := by omega
          have htnd : (tq2 : Int) < (n : Int) := by omega
          clear hT ht htS hbl htn hsz
          subst hax
          go_wp2_with fail
          refine (token_any bd gd vc p2 pb t.x t.C a' ca c' cc D _ wr HI.out.1 HT.out.1.tx.bn HT.out.1.tx.ints HT.out.1.tx.size HT.out.1.tx.f64 HT.out.1.cands HI.out.2.2.1.le (by rw [HT.out.1.cn]; exact (HI.out.2.2.1.next HT.out.2).1)).mono ?_
          rintro e w6 ⟨a6, c6, rfl, hB6, hD6, hO6⟩
          rw [HT.out.1.cn] at hD6
          have HI6 : Hid (BySl bd w6 a6 t.x.s.data.toList ∧ DAt bd gd w6 D vc (p2 + t.enc.length) ∧ Only bd V w6 ∧ In D P i pc (j + 1) (p2 + t.enc.length) ∧ 0 = 0 ∧ tq2 + 1 = tq + (j + 1)) := ⟨hB6, hD6, HI.out.2.1.trans hO6, (HI.out.2.2.1.next HT.out.2).2, rfl, by have := HI.out.2.2.2.2; omega⟩
          clear hB6 hD6 hO6 HI c0 c1 c2 c3 hjm1 hjm2 htnb htnc
          dsimp only
          go_wp2
          go_roundg (m - (j + 1))
          case measure => omega
          case rel => exact ⟨j + 1, 0, tq2 + 1, _, rfl, by omega, by omega, by omega, by go_num, by go_num, by go_num, by go_num, HI6.out.2.1, HI6.out.2.2.1, HI6.out.2.2.2.1, rfl, HI6.out.2.2.2.2.2⟩
      · have hs2 : ¬ ((0 : Int) < (rk : Int)) := by omega
        go_wp2_with fail
        rw [HE3.out.1, HE3.out.2]
        clear hs0 hs2
        go_loopg [9, 10, 11, 17] m (fun gk rv cv tv kv wr => ∃ (j q2 tq2 p2 : Nat), gk = m - j ∧ j ≤ m ∧ q2 ≤ 1048576 ∧ tq2 ≤ 1048576 ∧ rv = .int .i64 (rq3 : Int) ∧ cv = .int .i64 (cq3 : Int) ∧ tv = .int .i64 (tq2 : Int) ∧ kv = .int .u64 (j : Int) ∧ Hid (DAt bd gd wr D vc p2 ∧ Only bd V wr ∧ In D P i pc j p2 ∧ q2 = 0 ∧ tq2 = tq + j))
        case atStart => exact ⟨0, 0, tq, _, by omega, by omega, by omega, by omega, rfl, rfl, rfl, rfl, HI.out.1, HI.out.2.1, HI.out.2.2, rfl, by omega⟩
        case round =>
          clear HI
          obtain ⟨j, q2, tq2, p2, hgk2, hj, hq2, htq2, rfl, rfl, rfl, rfl, HI⟩ := hrel
          by_cases hjm : j < m
          case neg =>
            have hjm1 : decide ((j : Int) < (m : Int)) = false := by simp; omega
            have hjm2 : ¬ (j : Int) < (m : Int) := by omega
            have HN : Hid (DAt bd gd wr D vc p2 ∧ Only bd V wr ∧ Far D P (i + 1) p2 ∧ rq3 = ((P.take (i + 1)).flatMap Pc.r).length ∧ cq3 = ((P.take (i + 1)).flatMap Pc.c).length ∧ tq2 = ((P.take (i + 1)).flatMap Pc.T).length) := by
              have hpc := HX.out.2.2.2.2
              have hm := HX.out.2.2.2.1
              obtain ⟨e1, e2, e3⟩ := HQ0.out
              obtain ⟨h1, h2, h3, h4, h5⟩ := HI.out
              refine ⟨h1, h2, h3.done (by omega) hip, ?_, ?_, ?_⟩
              · rw [flat_succ Pc.r hpc]; have := HQ3.out; omega
              · rw [flat_succ Pc.c hpc]; have := HQ3.out; omega
              · rw [flat_succ Pc.T hpc]; omega
            clear hjm HI
            go_wp2
            go_roundg (P.length - (i + 1))
            case measure => omega
            case rel => exact ⟨i + 1, rq3, cq3, tq2, p2, rfl, by omega, by omega, by omega, by omega, rfl, rfl, rfl, by go_num, HN⟩
          have hjm1 : decide ((j : Int) < (m : Int)) = true := by simp; omega
          have hjm2 : (j : Int) < (m : Int) := by omega
          obtain ⟨t, ht⟩ : ∃ t, pc.T[j]? = some t := ⟨_, List.getElem?_eq_getElem (by have := HX.out.2.2.2.1; omega)⟩
          have htS : TS[tq2]? = some t := by rw [HI.out.2.2.2.2, HQ0.out.2.2]; exact HWh.out.1.tok HX.out.2.2.2.2 ht
          have hbl : Below pb w0 wr := below_only HV.out.2.1 HI.out.2.1 (by have := HV.out.2.2; omega) (by have := HV.out.2.2; omega)
          obtain ⟨g, o, a', c', ca, cc, hax, hT⟩ := (HH.out.keep (P := fun b => b < pb) (w' := wr) fun b hb => ⟨hb, fun _ hc => (hbl.block b hb).trans hc⟩).cell tq2 t htS
          have c0 := hT.tx.c0
          have c1 := hT.tx.c1
          have c2 := hT.tx.c2
          have c3 := hT.c3
          have hsz : tsz t ≤ 1048576 := by have h1 := mem_sum tsz htS; have h2 := HS.out.le; omega
          have htz : t.x.s.size ≤ 1048576 := by have e : tsz t = t.x.s.size + t.x.I.length + t.C.length + (t.C.map csz).sum := rfl; omega
          have HT : Hid (TkAt bd pb wr g (o + tq2 * 4) t a' c' ca cc ∧ pc.T[j]? = some t) := ⟨hT.at' (fun b hb => by have := HV.out.2.2; omega) hsz, ht⟩
          have htn : tq2 < n := by have h1 := HTL.out; have h2 := HI.out.2.2.2.2; omega
          have htnb : decide ((n : Int) ≤ (tq2 : Int)) = false := by simp; omega
          have htnc : ¬ ((n : Int) ≤ (tq2 : Int)) := by omega
          have htnd : (tq2 : Int) < (n : Int) := by omega
          clear hT ht htS hbl htn hsz
          subst hax
          go_wp2_with fail
          refine (token_any bd gd vc p2 pb t.x t.C a' ca c' cc D _ wr HI.out.1 HT.out.1.tx.bn HT.out.1.tx.ints HT.out.1.tx.size HT.out.1.tx.f64 HT.out.1.cands HI.out.2.2.1.le (by rw [HT.out.1.cn]; exact (HI.out.2.2.1.next HT.out.2).1)).mono ?_
          rintro e w6 ⟨a6, c6, rfl, hB6, hD6, hO6⟩
          rw [HT.out.1.cn] at hD6
          have HI6 : Hid (BySl bd w6 a6 t.x.s.data.toList ∧ DAt bd gd w6 D vc (p2 + t.enc.length) ∧ Only bd V w6 ∧ In D P i pc (j + 1) (p2 + t.enc.length) ∧ 0 = 0 ∧ tq2 + 1 = tq + (j + 1)) := ⟨hB6, hD6, HI.out.2.1.trans hO6, (HI.out.2.2.1.next HT.out.2).2, rfl, by have := HI.out.2.2.2.2; omega⟩
          clear hB6 hD6 hO6 HI c0 c1 c2 c3 hjm1 hjm2 htnb htnc
          dsimp only
          go_wp2
          go_roundg (m - (j + 1))
          case measure => omega
          case rel => exact ⟨j + 1, 0, tq2 + 1, _, rfl, by omega, by omega, by omega, by go_num, by go_num, by go_num, by go_num, HI6.out.2.1, HI6.out.2.2.1, HI6.out.2.2.2.1, rfl, HI6.out.2.2.2.2.2⟩
end Go.Proofs.Qxb6618748a
