/-
  The packed form of a text with its bytes: bytesMark, appendText.
-/
import Derived.Test.Qxb6618748aAp
import Derived.Laws.Externs
namespace Go.Proofs.Qxb6618748a
open Go.RowKit

/-- A slice of ints in memory that stays, and what it holds. -/
structure IntsAt (bp base : Nat) (w : World) (a : Option Addr) (I : List Int) : Prop where
  nil : a = none → I = []
  le : I.length ≤ 1048576
  cell : ∀ (i : Nat) x, I[i]? = some x → -9223372036854775808 ≤ x ∧ x ≤ 9223372036854775807 ∧ ∃ g o, a = some ⟨g, o, none⟩ ∧ g < base ∧ g ≠ bp ∧ w.cell? ⟨g, o + i, none⟩ = some (.int .i64 x)
theorem IntsAt.ap {x : Bool} {bp base : Nat} {w w' : World} {a : Option Addr} {I : List Int} (h : IntsAt bp base w a I) (hb : Ap x bp base w w') : IntsAt bp base w' a I :=
  ⟨h.nil, h.le, fun i y hy => let ⟨h1, h2, g, o, h3, h4, h5, h6⟩ := h.cell i y hy; ⟨h1, h2, g, o, h3, h4, h5, hb.cell h4 h5 h6⟩⟩

/-- The bytes of a text as ints. -/
def ordsOf (s : ByteArray) : List Int := s.data.toList.map fun b => (b.toNat : Int)
theorem ordsOf_len (s : ByteArray) : (ordsOf s).length = s.size := by simp [ordsOf]
def mk (s : ByteArray) (bn : Bool) (I : List Int) : Nat := if bn then 0 else if I = ordsOf s then 1 else 2
theorem mk_lt (s : ByteArray) (bn : Bool) (I : List Int) : mk s bn I < 3 := by
  unfold mk
  split
  · omega
  · split <;> omega

theorem ords_get {s : ByteArray} {i : Nat} (h : i < s.size) : (ordsOf s)[i]? = some (s[i].toNat : Int) := by
  unfold ordsOf
  rw [List.getElem?_map, Array.getElem?_toList, Array.getElem?_eq_getElem h]
  rfl
theorem wrap64_id {n : Int} (h0 : 0 ≤ n) (h1 : n < 9223372036854775808) : wrap64 n = n := by
  unfold wrap64
  omega
set_option maxRecDepth 100000 in
theorem bytesMark_any (bp base : Nat) (s : ByteArray) (a : Option Addr) (I : List Int) (c : Nat) (w : World) (hs : s.size ≤ 1048576) (h : IntsAt bp base w a I) :
    Calls Try.prog 52 #[.string s, .slice a I.length c] w fun e w' => e = .returned (.int .u64 (mk s a.isNone I : Nat)) ∧ w' = w := by
  have hnl := Try.nil23
  have hle := h.le
  have H : Hid (IntsAt bp base w a I) := h
  clear h
  cases a with
  | none =>
    go_enter Try.func52, Try.ntmps52
    go_wp2
    go_ret
    exact ⟨rfl, rfl⟩
  | some x =>
  by_cases hl : I.length = s.size
  case neg =>
    have hlb : ((I.length : Int) != (s.size : Int)) = true := by simp; omega
    have hmk : mk s false I = 2 := by
      unfold mk
      rw [if_neg (by simp), if_neg (fun e => hl (by rw [e, ordsOf_len]))]
    go_enter Try.func52, Try.ntmps52
    go_wp2
    go_ret
    simp [hmk]
  have hlb : ((I.length : Int) != (s.size : Int)) = false := by simp; omega
  have HL : Hid (I.length = s.size) := hl
  clear hl
  go_enter Try.func52, Try.ntmps52
  go_wp2
  go_loopg [16] I.length (fun gk iv wr => ∃ i : Nat, gk = I.length - i ∧ i ≤ I.length ∧ iv = .int .i64 (i : Int) ∧ wr = w ∧ Hid (∀ j, j < i → I[j]? = (ordsOf s)[j]?))
  case atStart => exact ⟨0, by omega, by omega, rfl, rfl, fun j hj => absurd hj (by omega)⟩
  case round =>
    obtain ⟨i, hgk, hi, rfl, rfl, HE⟩ := hrel
    by_cases hlt : i < I.length
    · obtain ⟨z, hz⟩ : ∃ z, I[i]? = some z := ⟨_, List.getElem?_eq_getElem hlt⟩
      obtain ⟨hz1, hz2, g, o, hx, hgb, hgp, hc⟩ := H.out.cell i z hz
      cases hx
      have hltb : decide ((i : Int) < (I.length : Int)) = true := by simp; omega
      have hlt' : (i : Int) < (I.length : Int) := by omega
      have hlt2 : (i : Int) < (s.size : Int) := by have := HL.out; omega
      have HZ : Hid (I[i]? = some z) := hz
      have hsi : i < s.size := by omega
      have ho := ords_get hsi
      have hwr : wrap64 (s[i].toNat : Int) = (s[i].toNat : Int) := by have := s[i].toNat_lt; exact wrap64_id (by omega) (by omega)
      have HO : Hid ((ordsOf s)[i]? = some (s[i].toNat : Int)) := ho
      clear hz ho
      by_cases hq : z = (s[i].toNat : Int)
      · have hqb : (z != wrap64 (s[i].toNat : Int)) = false := by rw [hwr]; simp [hq]
        go_wp2
        go_roundg (I.length - (i + 1))
        case measure => omega
        case rel =>
          refine ⟨i + 1, rfl, by omega, by go_num, rfl, fun j hj => ?_⟩
          rcases Nat.lt_or_ge j i with h1 | h1
          · exact HE.out j h1
          · obtain rfl : j = i := by omega
            rw [HZ.out, HO.out, hq]
      · have hqb : (z != wrap64 (s[i].toNat : Int)) = true := by rw [hwr]; simp [hq]
        go_wp2
        go_ret
        refine ⟨?_, rfl⟩
        have hmk : mk s false I = 2 := by
          unfold mk
          rw [if_neg (by simp), if_neg]
          intro e
          have h1 := HZ.out
          rw [e, HO.out] at h1
          exact hq (by simpa using h1.symm)
        show _ = Ending.returned (.int .u64 ((mk s false I : Nat) : Int))
        rw [hmk]
        rfl
    · have hltb : decide ((i : Int) < (I.length : Int)) = false := by simp; omega
      go_wp2
      go_ret
      refine ⟨?_, rfl⟩
      have hmk : mk s false I = 1 := by
        unfold mk
        rw [if_neg (by simp), if_pos]
        apply List.ext_getElem?
        intro j
        rcases Nat.lt_or_ge j i with h1 | h1
        · exact HE.out j h1
        · rw [List.getElem?_eq_none (by omega), List.getElem?_eq_none (by rw [ordsOf_len]; have := HL.out; omega)]
      show _ = Ending.returned (.int .u64 ((mk s false I : Nat) : Int))
      rw [hmk]
      rfl

/-- A text with its bytes, packed. -/
def encText (s : ByteArray) (bn : Bool) (I : List Int) : List UInt8 := Lib.uvarint (s.size * 4 + mk s bn I) ++ s.data.toList ++ (if mk s bn I = 2 then Lib.uvarint I.length ++ I.flatMap (fun x => Lib.uvarint (Lib.zigzag x)) else [])
theorem or_mark {n m : Nat} (hn : n ≤ 1048576) (hm : m < 4) : bits .or .u64 ((n : Int) * 4) (m : Int) = ((n * 4 + m : Nat) : Int) := by
  have := u64_or_nat (n * 4) m (by omega) (by omega)
  rw [nat_join 2 _ _ (by omega) hm] at this
  rw [← this]
  congr 1
theorem strCells_eq (s : ByteArray) : Lib.strCells s = Lib.byteCells s.data.toList := rfl
theorem size_list (s : ByteArray) : s.data.toList.length = s.size := by simp

set_option maxRecDepth 100000 in
set_option maxHeartbeats 1000000 in
theorem appendText_any (bp base : Nat) (s : ByteArray) (a : Option Addr) (I : List Int) (c : Nat) (D : List UInt8) (v : Value) (w : World) (hs : s.size ≤ 1048576) (h : IntsAt bp base w a I) (hd : Dat base w v D) (hb : base ≤ w.heap.size) (hl : D.length + (encText s a.isNone I).length ≤ 1099511627776) :
    Calls Try.prog 45 #[v, .string s, .slice a I.length c] w (Apd bp base w (D ++ encText s a.isNone I)) := by
  obtain ⟨i0, hi, hz0, hz1, hz2⟩ := info_parts Try.info5
  have hle := h.le
  have H : Hid (IntsAt bp base w a I ∧ Dat base w v D) := ⟨h, hd⟩
  clear h hd
  have hm := mk_lt s a.isNone I
  obtain ⟨M, HM⟩ : ∃ M, Hid (mk s a.isNone I = M) := ⟨_, rfl⟩
  have hM3 : M < 3 := by rw [← HM.out]; exact hm
  clear hm
  have hE : (encText s a.isNone I).length = (Lib.uvarint (s.size * 4 + M)).length + s.size + (if M = 2 then Lib.uvarint I.length ++ I.flatMap (fun x => Lib.uvarint (Lib.zigzag x)) else []).length := by
    unfold encText; rw [HM.out, List.length_append, List.length_append, size_list]
  have HE : Hid ((encText s a.isNone I).length = (Lib.uvarint (s.size * 4 + M)).length + s.size + (if M = 2 then Lib.uvarint I.length ++ I.flatMap (fun x => Lib.uvarint (Lib.zigzag x)) else []).length ∧ D.length + (encText s a.isNone I).length ≤ 1099511627776) := ⟨hE, hl⟩
  have hl1 : D.length + (Lib.uvarint (s.size * 4 + M)).length + s.size ≤ 1099511627776 := by omega
  clear hE hl
  have hor := or_mark hs (m := M) (by omega)
  by_cases hM : M = 2
  case neg =>
    have hMb : ((M : Int) != 2) = true := by simp; omega
    go_enter Try.func45, Try.ntmps45
    go_wp2_with fail
    refine (bytesMark_any bp base s a I c w hs H.out.1).mono ?_
    rintro e w0 ⟨rfl, rfl⟩
    rw [HM.out]
    go_wp2_with fail
    rw [show (s.size : Int) * 4 + (M : Int) = ((s.size * 4 + M : Nat) : Int) by omega]
    refine (appendUvarint_any bp base _ D v _ (by omega) H.out.2 hb (by omega)).mono ?_
    rintro e w1 ⟨v1, rfl, hd1, ha1⟩
    have hown1 : w1.ownsRow base 5 1 v1 (D ++ Lib.uvarint (s.size * 4 + M)).length (Lib.byteCells (D ++ Lib.uvarint (s.size * 4 + M))) := hd1
    have hb1 : base ≤ w1.heap.size := Nat.le_trans hb ha1.size
    have HA1 : Hid (Ap false bp base w0 w1) := ha1
    have hdl : (D ++ Lib.uvarint (s.size * 4 + M)).length + s.size ≤ 1099511627776 := by rw [List.length_append]; omega
    clear hd1 ha1
    go_wp2_with (at_builtin; refine Lib.wpList_append_own_string _ rfl _ _ 39 9 rfl base 5 i0 Try.underlying39 Try.underlying9 hi hz0 hz1 hz2 _ _ _ rfl hown1 s rfl (by unfold maxLen; omega) (by omega) hb1 ?_; intro v2 w2 hown2 hgrow2 _)
    have HD2 : Hid (Dat base w2 v2 (D ++ Lib.uvarint (s.size * 4 + M) ++ s.data.toList) ∧ Ap false bp base w0 w2) := by
      refine ⟨?_, HA1.out.grown hown1 hgrow2⟩
      refine Dat.of (n := (D ++ Lib.uvarint (s.size * 4 + M)).length + s.size) ?_ (by rw [size_list])
      rw [← strCells_eq]
      exact hown2
    have hb2 : base ≤ w2.heap.size := Nat.le_trans hb HD2.out.2.size
    clear hown1 hown2 hgrow2 HA1
    go_wp2
    go_ret
    refine ⟨v2, rfl, ?_, HD2.out.2⟩
    unfold encText
    rw [HM.out, if_neg hM, List.append_nil, ← List.append_assoc]
    exact HD2.out.1
  have hMb : ((M : Int) != 2) = false := by simp; omega
  have HM2 : Hid (M = 2) := hM
  have hIl : D.length + (Lib.uvarint (s.size * 4 + M)).length + s.size + (Lib.uvarint I.length).length + (I.flatMap (fun x => Lib.uvarint (Lib.zigzag x))).length ≤ 1099511627776 := by
    have h1 := HE.out.1
    rw [if_pos hM, List.length_append] at h1
    have := HE.out.2
    omega
  clear hM
  go_enter Try.func45, Try.ntmps45
  go_wp2_with fail
  refine (bytesMark_any bp base s a I c w hs H.out.1).mono ?_
  rintro e w0 ⟨rfl, rfl⟩
  rw [HM.out]
  go_wp2_with fail
  rw [show (s.size : Int) * 4 + (M : Int) = ((s.size * 4 + M : Nat) : Int) by omega]
  refine (appendUvarint_any bp base _ D v _ (by omega) H.out.2 hb (by omega)).mono ?_
  rintro e w1 ⟨v1, rfl, hd1, ha1⟩
  have hown1 : w1.ownsRow base 5 1 v1 (D ++ Lib.uvarint (s.size * 4 + M)).length (Lib.byteCells (D ++ Lib.uvarint (s.size * 4 + M))) := hd1
  have hb1 : base ≤ w1.heap.size := Nat.le_trans hb ha1.size
  have HA1 : Hid (Ap false bp base w0 w1) := ha1
  have hdl : (D ++ Lib.uvarint (s.size * 4 + M)).length + s.size ≤ 1099511627776 := by rw [List.length_append]; omega
  clear hd1 ha1
  go_wp2_with (at_builtin; refine Lib.wpList_append_own_string _ rfl _ _ 39 9 rfl base 5 i0 Try.underlying39 Try.underlying9 hi hz0 hz1 hz2 _ _ _ rfl hown1 s rfl (by unfold maxLen; omega) (by omega) hb1 ?_; intro v2 w2 hown2 hgrow2 _)
  have HD2 : Hid (Dat base w2 v2 (D ++ Lib.uvarint (s.size * 4 + M) ++ s.data.toList) ∧ Ap false bp base w0 w2) := by
    refine ⟨?_, HA1.out.grown hown1 hgrow2⟩
    refine Dat.of (n := (D ++ Lib.uvarint (s.size * 4 + M)).length + s.size) ?_ (by rw [size_list])
    rw [← strCells_eq]
    exact hown2
  have hb2 : base ≤ w2.heap.size := Nat.le_trans hb HD2.out.2.size
  clear hown1 hown2 hgrow2 HA1
  go_wp2_with fail
  refine (appendUvarint_any bp base I.length _ v2 _ (by omega) HD2.out.1 hb2 (by rw [List.length_append, List.length_append, size_list]; omega)).mono ?_
  rintro e w3 ⟨v3, rfl, hd3, ha3⟩
  have HD3 : Hid (Dat base w3 v3 (D ++ Lib.uvarint (s.size * 4 + M) ++ s.data.toList ++ Lib.uvarint I.length) ∧ Ap false bp base w0 w3) := ⟨hd3, HD2.out.2.trans ha3⟩
  clear hd3 ha3 HD2 hb2
  go_wp2_with fail
  go_loopg [0, 34] I.length (fun gk vv iv wr => ∃ (i : Nat) (v4 : Value), gk = I.length - i ∧ i ≤ I.length ∧ vv = v4 ∧ iv = .int .i64 (i : Int) ∧ Hid (Dat base wr v4 (D ++ Lib.uvarint (s.size * 4 + M) ++ s.data.toList ++ Lib.uvarint I.length ++ (I.take i).flatMap (fun x => Lib.uvarint (Lib.zigzag x))) ∧ Ap false bp base w0 wr))
  case atStart => exact ⟨0, v3, by omega, by omega, rfl, rfl, by simpa using HD3.out.1, HD3.out.2⟩
  case round =>
    obtain ⟨i, v4, hgk, hi4, hv, rfl, HR⟩ := hrel
    replace hv := hv.symm
    subst hv
    by_cases hlt : i < I.length
    · obtain ⟨z, hz⟩ : ∃ z, I[i]? = some z := ⟨_, List.getElem?_eq_getElem hlt⟩
      obtain ⟨hz1', hz2', g, o, hx, hgb, hgp, hc⟩ := (H.out.1.ap HR.out.2).cell i z hz
      subst hx
      have hltb : decide ((i : Int) < (I.length : Int)) = true := by simp; omega
      have hlt' : (i : Int) < (I.length : Int) := by omega
      have htk : (I.take (i + 1)).flatMap (fun x => Lib.uvarint (Lib.zigzag x)) = (I.take i).flatMap (fun x => Lib.uvarint (Lib.zigzag x)) ++ Lib.uvarint (Lib.zigzag z) := by
        rw [List.take_add_one, hz]; simp
      have hfl : ((I.take i).flatMap (fun x => Lib.uvarint (Lib.zigzag x))).length ≤ (I.flatMap (fun x => Lib.uvarint (Lib.zigzag x))).length := by
        have e : I.flatMap (fun x => Lib.uvarint (Lib.zigzag x)) = (I.take i).flatMap (fun x => Lib.uvarint (Lib.zigzag x)) ++ (I.drop i).flatMap (fun x => Lib.uvarint (Lib.zigzag x)) := by rw [← List.flatMap_append, List.take_append_drop]
        rw [e, List.length_append]; omega
      have HT : Hid ((I.take (i + 1)).flatMap (fun x => Lib.uvarint (Lib.zigzag x)) = (I.take i).flatMap (fun x => Lib.uvarint (Lib.zigzag x)) ++ Lib.uvarint (Lib.zigzag z)) := htk
      clear hz htk
      go_wp2_with fail
      refine (appendVarint_any bp base z _ v4 _ hz1' hz2' HR.out.1 (Nat.le_trans hb HR.out.2.size) (by simp only [List.length_append, size_list]; omega)).mono ?_
      rintro e w5 ⟨v5, rfl, hd5, ha5⟩
      have HD5 : Hid (Dat base w5 v5 (D ++ Lib.uvarint (s.size * 4 + M) ++ s.data.toList ++ Lib.uvarint I.length ++ (I.take (i + 1)).flatMap (fun x => Lib.uvarint (Lib.zigzag x))) ∧ Ap false bp base w0 w5) := ⟨by rw [HT.out, ← List.append_assoc]; exact hd5, HR.out.2.trans ha5⟩
      clear hd5 ha5 hc hfl
      go_wp2
      go_roundg (I.length - (i + 1))
      case measure => omega
      case rel => exact ⟨i + 1, v5, rfl, by omega, rfl, by go_num, HD5⟩
    · have hltb : decide ((i : Int) < (I.length : Int)) = false := by simp; omega
      obtain rfl : i = I.length := by omega
      go_wp2
      go_ret
      refine ⟨v4, rfl, ?_, HR.out.2⟩
      have := HR.out.1
      rw [List.take_length] at this
      unfold encText
      rw [HM.out, if_pos HM2.out]
      simpa [List.append_assoc] using this
end Go.Proofs.Qxb6618748a
