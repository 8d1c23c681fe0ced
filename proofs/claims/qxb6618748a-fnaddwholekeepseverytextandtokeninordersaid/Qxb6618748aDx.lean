/-
  textAt; packed.text.
-/
import Derived.Test.Qxb6618748aDt
import Derived.Test.Qxb6618748aEn
namespace Go.Proofs.Qxb6618748a
open Go.RowKit

def YesN (w : World) (e : Ending) (w' : World) : Prop := e = .returned (.bool true) ∧ Below w.heap.size w w'
set_option maxRecDepth 100000 in
set_option maxHeartbeats 1000000 in
theorem textAt_any (bd k c q : Nat) (a : Option Addr) (L : List UInt8) (s : ByteArray) (w : World) (hk : k = L.length) (h : BySl bd w a L) (hL : L = (s.data.toList.drop q).take k) (hs : s.size ≤ 1048576) (hq : q + k ≤ s.size) :
    Calls Try.prog 19 #[.slice a k c, .string s, .int .i64 (q : Int)] w (YesN w) := by
  have H : Hid (BySl bd w a L ∧ L = (s.data.toList.drop q).take k ∧ k = L.length) := ⟨h, hL, hk⟩
  clear h hL hk
  have h1 : decide ((q : Int) < 0) = false := by simp
  have h2 : decide ((s.size : Int) < (q : Int)) = false := by simp; omega
  have h3 : decide ((s.size : Int) - (q : Int) < (k : Int)) = false := by simp; omega
  have hqi : (q : Int) ≤ 1048576 := by omega
  have hki : (k : Int) ≤ 1048576 := by omega
  go_enter Try.func19, Try.ntmps19
  go_wp2
  go_loopg [7] k (fun gk iv wr => ∃ i : Nat, gk = k - i ∧ i ≤ k ∧ iv = .int .i64 (i : Int) ∧ Hid (Below w.heap.size w wr))
  case atStart => exact ⟨0, by omega, by omega, rfl, Below.refl _ _⟩
  case round =>
    obtain ⟨i, hgk, hi, rfl, HR⟩ := hrel
    by_cases hlt : i < k
    · obtain ⟨m, hm⟩ : ∃ m, m = q + i := ⟨_, rfl⟩
      have hqs : m < s.size := by omega
      have hLi : L[i]? = some s[m] := by
        rw [H.out.2.1, List.getElem?_take_of_lt hlt, List.getElem?_drop, ← hm, Array.getElem?_toList, Array.getElem?_eq_getElem hqs]
        rfl
      obtain ⟨g, o, rfl, _, hc⟩ := H.out.1 _ _ hLi
      have hc' := below_cell HR.out hc
      have hltb : decide ((i : Int) < (k : Int)) = true := by simp; omega
      have hlt' : (i : Int) < (k : Int) := by omega
      have hqs' : (m : Int) < (s.size : Int) := by omega
      have hsum : (q : Int) + (i : Int) = (m : Int) := by omega
      have hm20 : (m : Int) ≤ 1048576 := by omega
      clear hc hLi hm
      go_wp2
      go_quiet (fail)
      go_wp2
      go_roundg (k - (i + 1))
      case measure => omega
      case rel => exact ⟨i + 1, rfl, by omega, by go_num, below_drewN HR.out _⟩
    · have hltb : decide ((i : Int) < (k : Int)) = false := by simp; omega
      go_wp2
      go_ret
      exact ⟨rfl, HR.out⟩

theorem IntsAt.only {bd base : Nat} {w w' : World} {a : Option Addr} {I : List Int} (h : IntsAt bd base w a I) (hb : Only bd w w') : IntsAt bd base w' a I :=
  ⟨h.nil, h.le, fun i y hy => let ⟨h1, h2, g, o, h3, h4, h5, h6⟩ := h.cell i y hy; ⟨h1, h2, g, o, h3, h4, h5, hb.cell h5 h6⟩⟩
theorem drop_at {D R A : List UInt8} {p : Nat} {I : List Int} {i : Nat} {z : Int} (h : D.drop p = A ++ (I.flatMap (fun x => Lib.uvarint (Lib.zigzag x)) ++ R)) (hz : I[i]? = some z) : D.drop (p + A.length + ((I.take i).flatMap (fun x => Lib.uvarint (Lib.zigzag x))).length) = Lib.uvarint (Lib.zigzag z) ++ ((I.drop (i + 1)).flatMap (fun x => Lib.uvarint (Lib.zigzag x)) ++ R) := by
  have hlt := (List.getElem?_eq_some_iff.1 hz).1
  have e1 : I.flatMap (fun x => Lib.uvarint (Lib.zigzag x)) = (I.take i).flatMap (fun x => Lib.uvarint (Lib.zigzag x)) ++ (Lib.uvarint (Lib.zigzag z) ++ (I.drop (i + 1)).flatMap (fun x => Lib.uvarint (Lib.zigzag x))) := by
    have e2 : I = I.take i ++ (z :: I.drop (i + 1)) := by
      rw [← (List.getElem?_eq_some_iff.1 hz).2, ← List.drop_eq_getElem_cons hlt, List.take_append_drop]
    conv => lhs; rw [e2]
    rw [List.flatMap_append, List.flatMap_cons]
  rw [← List.drop_drop, ← List.drop_drop, h, List.drop_left, e1, List.append_assoc, List.drop_left, List.append_assoc]
/-- A text is read. -/
def TextOk (bd gd : Nat) (D : List UInt8) (cp p' : Nat) (s : ByteArray) (w : World) (e : Ending) (w' : World) : Prop := ∃ (a' : Option Addr) (c' : Nat), e = .returned (.tuple #[.slice a' s.size c', .bool true]) ∧ BySl bd w' a' s.data.toList ∧ DAt bd gd w' D cp p' ∧ Only bd w w'
/-- What lies behind the text. -/
def tail2 (s : ByteArray) (bn : Bool) (I : List Int) : List UInt8 := if mk s bn I = 2 then Lib.uvarint I.length ++ I.flatMap (fun x => Lib.uvarint (Lib.zigzag x)) else []

set_option maxRecDepth 100000 in
set_option maxHeartbeats 1000000 in
theorem text_any (bd gd cp p base : Nat) (s : ByteArray) (a : Option Addr) (I : List Int) (c hd : Nat) (D R : List UInt8) (w : World) (h : DAt bd gd w D cp p) (hI : IntsAt bd base w a I) (hs : s.size ≤ 1048576) (hhd : hd = s.size * 4 + mk s a.isNone I) (hpl : p ≤ D.length) (hD : D.drop p = s.data.toList ++ tail2 s a.isNone I ++ R) :
    Calls Try.prog 32 #[.pointer (some ⟨bd, 0, none⟩), .int .u64 (hd : Int), .string s, .slice a I.length c] w (TextOk bd gd D cp (p + s.size + (tail2 s a.isNone I).length) s w) := by
  have hnl := Try.nil23
  have hIl := hI.le
  have hlen : p + s.size ≤ D.length := by
    have := congrArg List.length hD
    rw [List.length_drop, List.length_append, List.length_append, size_list] at this
    omega
  have HT : Hid ((D.drop p).take s.size = s.data.toList ∧ D.drop (p + s.size) = tail2 s a.isNone I ++ R) := by
    refine ⟨?_, ?_⟩
    · rw [hD, List.append_assoc, List.take_append_of_le_length (by simp), List.take_of_length_le (by simp)]
    · rw [← List.drop_drop, hD, List.append_assoc, List.drop_append_of_le_length (by simp), List.drop_eq_nil_of_le (by simp), List.nil_append]
  have H : Hid (DAt bd gd w D cp p ∧ IntsAt bd base w a I) := ⟨h, hI⟩
  obtain ⟨M, hM⟩ : ∃ M, mk s a.isNone I = M := ⟨_, rfl⟩
  have hM3 : M < 3 := by rw [← hM]; exact mk_lt s a.isNone I
  have HM : Hid (mk s a.isNone I = M) := hM
  rw [hM] at hhd
  have hshr : (hd : Int) / 4 = (s.size : Int) := by omega
  have hand : bits .and .u64 (hd : Int) 3 = (M : Int) := by
    have e := u64_and_nat hd 3 (by omega) (by decide)
    rw [nat_mask2, show hd % 4 = M by omega] at e
    exact e
  have q0 : w.cell? ⟨bd, 2, none⟩ = some (.bool false) := cell_atD h.box rfl
  have hhl : (hd : Int) < 18446744073709551616 := by omega
  have hnb : ((s.size : Int) != (s.size : Int)) = false := by simp
  clear h hI hD hhd hM
  obtain rfl | rfl | rfl : M = 0 ∨ M = 1 ∨ M = 2 := by omega
  · -- no bytes
    cases a with
    | some xa =>
      have := HM.out
      unfold mk at this
      rw [if_neg (by simp)] at this
      split at this <;> cases this
    | none =>
    have hand0 : bits .and .u64 (hd : Int) 3 = 0 := hand
    clear hand
    have hand := hand0
    clear hand0
    go_enter Try.func32, Try.ntmps32
    go_wp2_with fail
    refine (take_any bd gd cp p s.size D w H.out.1 hlen).mono ?_
    rintro e w1 ⟨a', c', rfl, hB, hD1, hO1⟩
    rw [HT.out.1] at hB
    have HB : Hid (BySl bd w1 a' s.data.toList ∧ DAt bd gd w1 D cp (p + s.size) ∧ Only bd w w1) := ⟨hB, hD1, hO1⟩
    have q2 : w1.cell? ⟨bd, 2, none⟩ = some (.bool false) := cell_atD hD1.box rfl
    clear hB hD1 hO1 hand hshr q0
    dsimp only
    go_wp2_with fail
    refine (textAt_any bd s.size c' 0 a' s.data.toList s w1 (by simp) HB.out.1 (by rw [List.drop_zero, List.take_of_length_le (by simp)]) hs (by omega)).mono ?_
    rintro e w2 ⟨rfl, hb2⟩
    have HB2 : Hid (BySl bd w2 a' s.data.toList ∧ DAt bd gd w2 D cp (p + s.size) ∧ Only bd w w2) := ⟨HB.out.1.only (.of_below hb2), HB.out.2.1.move hb2, HB.out.2.2.trans (.of_below hb2)⟩
    clear hb2 HB q2
    dsimp only
    go_wp2
    refine bodyPost_ret (v := .tuple #[.slice a' s.size c', .bool true]) (by simp [results, Try.results32, go_sem]) rfl ?_
    refine ⟨a', c', rfl, HB2.out.1, ?_, HB2.out.2.2⟩
    unfold tail2
    rw [if_neg (by rw [HM.out]; decide)]
    exact HB2.out.2.1
  · -- the text's own bytes
    cases a with
    | none =>
      have := HM.out
      unfold mk at this
      simp at this
    | some xa =>
    have hord : I = ordsOf s := by
      have := HM.out
      unfold mk at this
      rw [if_neg (by simp)] at this
      split at this
      · assumption
      · cases this
    have hIs : I.length = s.size := by rw [hord, ordsOf_len]
    have HORD : Hid (I = ordsOf s) := hord
    have hlb : ((I.length : Int) != (s.size : Int)) = false := by simp; omega
    have hilen : (I.length : Int) ≤ 1048576 := by omega
    clear hord
    have hand0 : bits .and .u64 (hd : Int) 3 = 1 := hand
    clear hand
    have hand := hand0
    clear hand0
    go_enter Try.func32, Try.ntmps32
    go_wp2_with fail
    refine (take_any bd gd cp p s.size D w H.out.1 hlen).mono ?_
    rintro e w1 ⟨a', c', rfl, hB, hD1, hO1⟩
    rw [HT.out.1] at hB
    have HB : Hid (BySl bd w1 a' s.data.toList ∧ DAt bd gd w1 D cp (p + s.size) ∧ Only bd w w1) := ⟨hB, hD1, hO1⟩
    have q2 : w1.cell? ⟨bd, 2, none⟩ = some (.bool false) := cell_atD hD1.box rfl
    clear hB hD1 hO1 hand hshr q0
    dsimp only
    go_wp2_with fail
    refine (textAt_any bd s.size c' 0 a' s.data.toList s w1 (by simp) HB.out.1 (by rw [List.drop_zero, List.take_of_length_le (by simp)]) hs (by omega)).mono ?_
    rintro e w2 ⟨rfl, hb2⟩
    have HB2 : Hid (BySl bd w2 a' s.data.toList ∧ DAt bd gd w2 D cp (p + s.size) ∧ Only bd w w2) := ⟨HB.out.1.only (.of_below hb2), HB.out.2.1.move hb2, HB.out.2.2.trans (.of_below hb2)⟩
    clear hb2 HB q2
    dsimp only
    have HIS : Hid (I.length = s.size) := hIs
    clear hIs
    go_wp2_with fail
    go_loopg [12] s.size (fun gk iv wr => ∃ i : Nat, gk = s.size - i ∧ i ≤ s.size ∧ iv = .int .i64 (i : Int) ∧ Hid (Below w2.heap.size w2 wr))
    case atStart => exact ⟨0, by omega, by omega, rfl, Below.refl _ _⟩
    case round =>
      obtain ⟨i, hgk, hi, rfl, HR⟩ := hrel
      by_cases hlt : i < s.size
      · have hIi : I[i]? = some (s[i].toNat : Int) := by rw [HORD.out]; exact ords_get hlt
        obtain ⟨_, _, g, o, hx, _, _, hc⟩ := (H.out.2.only HB2.out.2.2).cell i _ hIi
        cases hx
        have hc' := below_cell HR.out hc
        have hltb : decide ((i : Int) < (s.size : Int)) = true := by simp; omega
        have hlt' : (i : Int) < (s.size : Int) := by omega
        have hltI : (i : Int) < (I.length : Int) := by have := HIS.out; omega
        have hwr : wrap64 (s[i].toNat : Int) = (s[i].toNat : Int) := by have := s[i].toNat_lt; exact wrap64_id (by omega) (by omega)
        clear hc hIi
        go_wp2
        go_quiet (fail)
        go_wp2
        go_roundg (s.size - (i + 1))
        case measure => omega
        case rel => exact ⟨i + 1, rfl, by omega, by go_num, below_drewN HR.out _⟩
      · have hltb : decide ((i : Int) < (s.size : Int)) = false := by simp; omega
        go_wp2
        refine bodyPost_ret (v := .tuple #[.slice a' s.size c', .bool true]) (by simp [results, Try.results32, go_sem]) rfl ?_
        refine ⟨a', c', rfl, HB2.out.1.only (.of_below HR.out), ?_, HB2.out.2.2.trans (.of_below HR.out)⟩
        unfold tail2
        rw [if_neg (by rw [HM.out]; decide)]
        exact HB2.out.2.1.move HR.out
  · -- other bytes
    cases a with
    | none =>
      have := HM.out
      unfold mk at this
      simp at this
    | some xa =>
    have htl : tail2 s (some xa).isNone I = Lib.uvarint I.length ++ I.flatMap (fun x => Lib.uvarint (Lib.zigzag x)) := by
      unfold tail2
      rw [if_pos HM.out]
    have HTL : Hid (tail2 s (some xa).isNone I = Lib.uvarint I.length ++ I.flatMap (fun x => Lib.uvarint (Lib.zigzag x))) := htl
    clear htl
    have hilen : (I.length : Int) ≤ 1048576 := by omega
    have hand0 : bits .and .u64 (hd : Int) 3 = 2 := hand
    clear hand
    have hand := hand0
    clear hand0
    go_enter Try.func32, Try.ntmps32
    go_wp2_with fail
    refine (take_any bd gd cp p s.size D w H.out.1 hlen).mono ?_
    rintro e w1 ⟨a', c', rfl, hB, hD1, hO1⟩
    rw [HT.out.1] at hB
    have HB : Hid (BySl bd w1 a' s.data.toList ∧ DAt bd gd w1 D cp (p + s.size) ∧ Only bd w w1) := ⟨hB, hD1, hO1⟩
    have q2 : w1.cell? ⟨bd, 2, none⟩ = some (.bool false) := cell_atD hD1.box rfl
    clear hB hD1 hO1 hand hshr q0
    dsimp only
    go_wp2_with fail
    refine (textAt_any bd s.size c' 0 a' s.data.toList s w1 (by simp) HB.out.1 (by rw [List.drop_zero, List.take_of_length_le (by simp)]) hs (by omega)).mono ?_
    rintro e w2 ⟨rfl, hb2⟩
    have HB2 : Hid (BySl bd w2 a' s.data.toList ∧ DAt bd gd w2 D cp (p + s.size) ∧ Only bd w w2) := ⟨HB.out.1.only (.of_below hb2), HB.out.2.1.move hb2, HB.out.2.2.trans (.of_below hb2)⟩
    clear hb2 HB q2
    dsimp only
    have HDR : Hid (D.drop (p + s.size) = Lib.uvarint I.length ++ (I.flatMap (fun x => Lib.uvarint (Lib.zigzag x)) ++ R)) := by
      show D.drop (p + s.size) = _
      rw [HT.out.2, HTL.out, List.append_assoc]
    go_wp2_with fail
    refine (uvarint_any bd gd cp (p + s.size) I.length D _ w2 HB2.out.2.1 (by omega) HDR.out).mono ?_
    rintro e w3 ⟨rfl, hD3, hO3⟩
    have HB3 : Hid (BySl bd w3 a' s.data.toList ∧ DAt bd gd w3 D cp (p + s.size + (Lib.uvarint I.length).length) ∧ Only bd w w3) := ⟨HB2.out.1.only hO3, hD3, HB2.out.2.2.trans hO3⟩
    have q3 : w3.cell? ⟨bd, 2, none⟩ = some (.bool false) := cell_atD hD3.box rfl
    have hnI : ((I.length : Int) != (I.length : Int)) = false := by simp
    clear hD3 hO3 HB2
    dsimp only
    go_wp2_with fail
    go_loopg [14] I.length (fun gk iv wr => ∃ i : Nat, gk = I.length - i ∧ i ≤ I.length ∧ iv = .int .i64 (i : Int) ∧ Hid (BySl bd wr a' s.data.toList ∧ DAt bd gd wr D cp (p + s.size + (Lib.uvarint I.length).length + ((I.take i).flatMap (fun x => Lib.uvarint (Lib.zigzag x))).length) ∧ Only bd w wr))
    case atStart => exact ⟨0, by omega, by omega, rfl, HB3.out.1, by simpa using HB3.out.2.1, HB3.out.2.2⟩
    case round =>
      clear q3
      obtain ⟨i, hgk, hi, rfl, HR⟩ := hrel
      by_cases hlt : i < I.length
      · obtain ⟨z, hz⟩ : ∃ z, I[i]? = some z := ⟨_, List.getElem?_eq_getElem hlt⟩
        obtain ⟨hz1, hz2, g, o, hx, hgb, hgn, hc⟩ := H.out.2.cell i z hz
        cases hx
        have hltb : decide ((i : Int) < (I.length : Int)) = true := by simp; omega
        have hlt' : (i : Int) < (I.length : Int) := by omega
        have HZ : Hid (D.drop (p + s.size + (Lib.uvarint I.length).length + ((I.take i).flatMap (fun x => Lib.uvarint (Lib.zigzag x))).length) = Lib.uvarint (Lib.zigzag z) ++ ((I.drop (i + 1)).flatMap (fun x => Lib.uvarint (Lib.zigzag x)) ++ R)) := drop_at HDR.out hz
        have HTK : Hid (((I.take (i + 1)).flatMap (fun x => Lib.uvarint (Lib.zigzag x))).length = ((I.take i).flatMap (fun x => Lib.uvarint (Lib.zigzag x))).length + (Lib.uvarint (Lib.zigzag z)).length) := by
          show _ = _
          rw [List.take_add_one, hz]
          simp
        have HC : Hid (w.cell? ⟨g, o + i, none⟩ = some (.int .i64 z) ∧ g ≠ bd) := ⟨hc, hgn⟩
        clear hz hc
        go_wp2_with fail
        refine (varint_any bd gd cp _ z D _ wr HR.out.2.1 hz1 hz2 HZ.out).mono ?_
        rintro e w4 ⟨rfl, hD4, hO4⟩
        have HB4 : Hid (BySl bd w4 a' s.data.toList ∧ DAt bd gd w4 D cp (p + s.size + (Lib.uvarint I.length).length + ((I.take (i + 1)).flatMap (fun x => Lib.uvarint (Lib.zigzag x))).length) ∧ Only bd w w4) := ⟨HR.out.1.only hO4, by rw [HTK.out, ← Nat.add_assoc]; exact hD4, HR.out.2.2.trans hO4⟩
        have q4 : w4.cell? ⟨bd, 2, none⟩ = some (.bool false) := cell_atD hD4.box rfl
        have hc4 : w4.cell? ⟨g, o + i, none⟩ = some (.int .i64 z) := HB4.out.2.2.cell HC.out.2 HC.out.1
        have hzz : (z != z) = false := by simp
        clear hD4 hO4
        dsimp only
        go_wp2
        go_roundg (I.length - (i + 1))
        case measure => omega
        case rel => exact ⟨i + 1, rfl, by omega, by go_num, HB4⟩
      · have hltb : decide ((i : Int) < (I.length : Int)) = false := by simp; omega
        have HI0 : Hid (I.take i = I) := List.take_of_length_le (by omega)
        go_wp2
        refine bodyPost_ret (v := .tuple #[.slice a' s.size c', .bool true]) (by simp [results, Try.results32, go_sem]) rfl ?_
        refine ⟨a', c', rfl, HR.out.1, ?_, HR.out.2.2⟩
        have hh := HR.out.2.1
        rw [HI0.out] at hh
        rw [HTL.out, List.length_append, ← Nat.add_assoc]
        exact hh
end Go.Proofs.Qxb6618748a
