/-
  packed.token.
-/
import Derived.Test.Qxb6618748aDs
import Derived.Test.Qxb6618748aEu
import Derived.Test.Qxb6618748aFb
import Derived.Deep.RegionHeld3
namespace Go.Proofs.Qxb6618748a
open Go.RowKit

theorem TxAt.only {bd base : Nat} {w w' : World} {g o : Nat} {x : Tx} {a : Option Addr} {c : Nat} (h : TxAt bd base w g o x a c) (hb : Only bd w w') : TxAt bd base w' g o x a c :=
  ⟨h.lt, h.ne, hb.cell h.ne h.c0, hb.cell h.ne h.c1, hb.cell h.ne h.c2, h.bn, h.ints.only hb, h.size, h.f64⟩
theorem CandsAt.only {bd base : Nat} {w w' : World} {ca : Option Addr} {C : List Tx} (h : CandsAt bd base w ca C) (hb : Only bd w w') : CandsAt bd base w' ca C :=
  ⟨h.nil, h.le, fun i x hx => let ⟨g, o, a, c, h1, h2⟩ := h.cell i x hx; ⟨g, o, a, c, h1, h2.only hb⟩⟩
theorem encText_eq (s : ByteArray) (bn : Bool) (I : List Int) : encText s bn I = Lib.uvarint (s.size * 4 + mk s bn I) ++ (s.data.toList ++ tail2 s bn I) := by
  unfold encText tail2
  rw [List.append_assoc]
theorem drop_next {D A R : List UInt8} {p : Nat} (h : D.drop p = A ++ R) : D.drop (p + A.length) = R := by
  rw [← List.drop_drop, h, List.drop_left]
theorem drop_le {D A R : List UInt8} {p : Nat} (h : D.drop p = A ++ R) (hp : p ≤ D.length) : p + A.length ≤ D.length := by
  have := congrArg List.length h
  rw [List.length_drop, List.length_append] at this
  omega
theorem drop_atT {D R A : List UInt8} {p : Nat} {t : Tx} {C : List Tx} {i : Nat} {x : Tx} (h : D.drop p = A ++ (C.flatMap (encCand t) ++ R)) (hz : C[i]? = some x) : D.drop (p + A.length + ((C.take i).flatMap (encCand t)).length) = encCand t x ++ ((C.drop (i + 1)).flatMap (encCand t) ++ R) := by
  have hlt := (List.getElem?_eq_some_iff.1 hz).1
  have e1 : C.flatMap (encCand t) = (C.take i).flatMap (encCand t) ++ (encCand t x ++ (C.drop (i + 1)).flatMap (encCand t)) := by
    have e2 : C = C.take i ++ (x :: C.drop (i + 1)) := by
      rw [← (List.getElem?_eq_some_iff.1 hz).2, ← List.drop_eq_getElem_cons hlt, List.take_append_drop]
    conv => lhs; rw [e2]
    rw [List.flatMap_append, List.flatMap_cons]
  rw [← List.drop_drop, ← List.drop_drop, h, List.drop_left, e1, List.append_assoc, List.drop_left, List.append_assoc]
theorem Only.keep {bd k : Nat} {w w' : World} {o : Obj} (h : Only bd w w') (hk : w.heap[k]? = some o) (hn : k ≠ bd) : w'.heap[k]? = some o := (h.block k (Array.getElem?_eq_some_iff.1 hk).1 hn).trans hk

set_option maxRecDepth 100000 in
set_option maxHeartbeats 1000000 in
theorem token_any (bd gd cp p base : Nat) (t : Tx) (C : List Tx) (a ca : Option Addr) (c cc : Nat) (D R : List UInt8) (w : World) (h : DAt bd gd w D cp p) (ha : a.isNone = t.bn) (hI : IntsAt bd base w a t.I) (hts : t.s.size ≤ 1048576) (ht64 : t.f < 18446744073709551616) (hC : CandsAt bd base w ca C) (hpl : p ≤ D.length) (hD : D.drop p = encTok t ca.isNone C ++ R) :
    Calls Try.prog 20 #[.pointer (some ⟨bd, 0, none⟩), .agg #[.string t.s, .float .f64 t.f, .slice a t.I.length c, .slice ca C.length cc]] w (TextOk bd gd D cp (p + (encTok t ca.isNone C).length) t.s w) := by
  have hnl := Try.nil24
  have hCl := hC.le
  have hmk := mk_lt t.s t.bn t.I
  have H : Hid (DAt bd gd w D cp p ∧ IntsAt bd base w a t.I ∧ CandsAt bd base w ca C ∧ a.isNone = t.bn ∧ D.drop p = encTok t ca.isNone C ++ R) := ⟨h, hI, hC, ha, hD⟩
  obtain ⟨hd, hhd⟩ : ∃ hd, hd = t.s.size * 4 + mk t.s t.bn t.I := ⟨_, rfl⟩
  obtain ⟨TLn, hTL⟩ : ∃ x, x = tail2 t.s t.bn t.I := ⟨_, rfl⟩
  obtain ⟨RC, hRC⟩ : ∃ x, x = (if ca.isNone then Lib.uvarint 0 else Lib.uvarint (C.length + 1) ++ C.flatMap (encCand t)) := ⟨_, rfl⟩
  have hD1 : D.drop p = Lib.uvarint hd ++ ((t.s.data.toList ++ TLn) ++ (le8 t.f ++ (RC ++ R))) := by
    rw [hD]; unfold encTok; rw [encText_eq, ← hhd, ← hTL, ← hRC]; simp only [List.append_assoc]
  have hD2 := drop_next hD1
  have hD3 := drop_next hD2
  have hD4 := drop_next hD3
  have hl1 := drop_le hD1 hpl
  have hl2 := drop_le hD2 hl1
  have hl3 := drop_le hD3 hl2
  have hlen : (encTok t ca.isNone C).length = (Lib.uvarint hd).length + (t.s.size + TLn.length) + 8 + RC.length := by
    unfold encTok; rw [encText_eq, ← hhd, ← hTL, ← hRC]; simp only [List.length_append, size_list, le8_len]
  rw [hlen]
  have HD : Hid (D.drop p = Lib.uvarint hd ++ ((t.s.data.toList ++ TLn) ++ (le8 t.f ++ (RC ++ R))) ∧ D.drop (p + (Lib.uvarint hd).length) = (t.s.data.toList ++ TLn) ++ (le8 t.f ++ (RC ++ R)) ∧ D.drop (p + (Lib.uvarint hd).length + (t.s.data.toList ++ TLn).length) = le8 t.f ++ (RC ++ R) ∧ D.drop (p + (Lib.uvarint hd).length + (t.s.data.toList ++ TLn).length + (le8 t.f).length) = RC ++ R) := ⟨hD1, hD2, hD3, hD4⟩
  have HX : Hid (hd = t.s.size * 4 + mk t.s t.bn t.I ∧ TLn = tail2 t.s t.bn t.I ∧ RC = (if ca.isNone then Lib.uvarint 0 else Lib.uvarint (C.length + 1) ++ C.flatMap (encCand t))) := ⟨hhd, hTL, hRC⟩
  have hhd64 : hd < 18446744073709551616 := by omega
  obtain ⟨P2, hP2⟩ : ∃ x, x = p + (Lib.uvarint hd).length + t.s.size + TLn.length := ⟨_, rfl⟩
  have HP : Hid (P2 = p + (Lib.uvarint hd).length + t.s.size + TLn.length ∧ D.drop P2 = le8 t.f ++ (RC ++ R) ∧ D.drop (P2 + 8) = RC ++ R ∧ P2 + 8 ≤ D.length) := by
    have e : P2 = p + (Lib.uvarint hd).length + (t.s.data.toList ++ TLn).length := by rw [hP2, List.length_append, size_list]; omega
    refine ⟨hP2, by rw [e]; exact hD3, by rw [e]; exact hD4, by rw [e]; exact hl3⟩
  rw [show p + ((Lib.uvarint hd).length + (t.s.size + TLn.length) + 8 + RC.length) = P2 + 8 + RC.length by omega]
  clear h hI hC ha hD hD1 hD2 hD3 hD4 hlen hhd hTL hRC hmk hl2 hl3 hP2
  go_enter Try.func20, Try.ntmps20
  go_upto_region 1 with fail
  have hbx : Below w.heap.size w (w.alloc (.cells #[.string t.s, .float .f64 t.f, .slice a t.I.length c, .slice ca C.length cc] 26)) := (Below.refl _ _).alloc (Nat.le_refl _) _
  have HW : Hid (DAt bd gd (w.alloc (.cells #[.string t.s, .float .f64 t.f, .slice a t.I.length c, .slice ca C.length cc] 26)) D cp p ∧ (w.alloc (.cells #[.string t.s, .float .f64 t.f, .slice a t.I.length c, .slice ca C.length cc] 26)).heap[w.heap.size]? = some (.cells #[.string t.s, .float .f64 t.f, .slice a t.I.length c, .slice ca C.length cc] 26) ∧ Only bd w (w.alloc (.cells #[.string t.s, .float .f64 t.f, .slice a t.I.length c, .slice ca C.length cc] 26))) := ⟨H.out.1.move hbx, Deep.blk_alloc_new _ _, .of_below hbx⟩
  have hb3 : w.heap.size ≠ bd := by have := (Array.getElem?_eq_some_iff.1 H.out.1.box).1; omega
  clear hbx
  generalize w.alloc (.cells #[.string t.s, .float .f64 t.f, .slice a t.I.length c, .slice ca C.length cc] 26) = W at HW ⊢
  generalize w.heap.size = b3 at HW hb3 ⊢
  have q0 : W.cell? ⟨b3, 0, none⟩ = some (.string t.s) := cell_atD HW.out.2.1 rfl
  have q2 : W.cell? ⟨b3, 2, none⟩ = some (.slice a t.I.length c) := cell_atD HW.out.2.1 rfl
  go_region_held3 (fun w' => w'.cell? ⟨b3, 0, none⟩ = some (.string t.s) ∧ w'.cell? ⟨b3, 2, none⟩ = some (.slice a t.I.length c)) (go_keep) (first | (go_at_call 17; refine (uvarint_any bd gd cp p hd D _ _ (HW.out.1.move (Below.refl _ _).drew) hhd64 HD.out.1).mono ?_; rintro e w1 ⟨rfl, hD1, hO1⟩; have hO1' : Only bd W w1 := (Only.of_below (Below.refl _ _).drew).trans hO1; have hk1 := hO1'.keep HW.out.2.1 hb3; have r0 : w1.cell? ⟨b3, 0, none⟩ = some (.string t.s) := cell_atD hk1 rfl; have r2 : w1.cell? ⟨b3, 2, none⟩ = some (.slice a t.I.length c) := cell_atD hk1 rfl; have HR1 : Hid (DAt bd gd w1 D cp (p + (Lib.uvarint hd).length) ∧ w1.heap[b3]? = some (.cells #[.string t.s, .float .f64 t.f, .slice a t.I.length c, .slice ca C.length cc] 26) ∧ Only bd w w1) := ⟨hD1, hk1, HW.out.2.2.trans hO1'⟩; clear hD1 hO1 hO1' hk1; dsimp only) | (go_at_call 32; refine (text_any bd gd cp (p + (Lib.uvarint hd).length) base t.s a t.I c hd D (le8 t.f ++ (RC ++ R)) w1 HR1.out.1 (H.out.2.1.only HR1.out.2.2) hts (by rw [H.out.2.2.2.1]; exact HX.out.1) hl1 (by rw [H.out.2.2.2.1, ← HX.out.2.1]; exact HD.out.2.1)).mono ?_; rintro e w2 ⟨a', c', rfl, hB2, hD2, hO2⟩; rw [H.out.2.2.2.1, ← HX.out.2.1] at hD2; have hk2 := hO2.keep HR1.out.2.1 hb3; have r0 : w2.cell? ⟨b3, 0, none⟩ = some (.string t.s) := cell_atD hk2 rfl; have r2 : w2.cell? ⟨b3, 2, none⟩ = some (.slice a t.I.length c) := cell_atD hk2 rfl; have HR2 : Hid (BySl bd w2 a' t.s.data.toList ∧ DAt bd gd w2 D cp P2 ∧ w2.heap[b3]? = some (.cells #[.string t.s, .float .f64 t.f, .slice a t.I.length c, .slice ca C.length cc] 26) ∧ Only bd w w2) := ⟨hB2, by rw [HP.out.1]; exact hD2, hk2, HR1.out.2.2.trans hO2⟩; clear hB2 hD2 hO2 hk2; dsimp only))
  clear q0 q2 r0 r2 HW
  go_upto_region 2 with fail
  have s1 : w2.cell? ⟨b3, 1, none⟩ = some (.float .f64 t.f) := cell_atD HR2.out.2.2.1 rfl
  have s2 : w2.cell? ⟨bd, 2, none⟩ = some (.bool false) := cell_atD HR2.out.2.1.box rfl
  go_region_held3 (fun w' => w'.cell? ⟨b3, 1, none⟩ = some (.float .f64 t.f) ∧ w'.cell? ⟨bd, 2, none⟩ = some (.bool false)) (go_keep) (first | (go_at_call 34; refine (u64_any bd gd cp P2 t.f D (RC ++ R) _ (HR2.out.2.1.move (Below.refl _ _).drew) ht64 HP.out.2.1).mono ?_; rintro e w3 ⟨rfl, hD3, hO3⟩; have hO3' : Only bd w2 w3 := (Only.of_below (Below.refl _ _).drew).trans hO3; have hk3 := hO3'.keep HR2.out.2.2.1 hb3; have r1 : w3.cell? ⟨b3, 1, none⟩ = some (.float .f64 t.f) := cell_atD hk3 rfl; have r2 : w3.cell? ⟨bd, 2, none⟩ = some (.bool false) := cell_atD hD3.box rfl; have HR3 : Hid (BySl bd w3 a' t.s.data.toList ∧ DAt bd gd w3 D cp (P2 + 8) ∧ w3.heap[b3]? = some (.cells #[.string t.s, .float .f64 t.f, .slice a t.I.length c, .slice ca C.length cc] 26) ∧ Only bd w w3) := ⟨HR2.out.1.only hO3', hD3, hk3, HR2.out.2.2.2.trans hO3'⟩; clear hD3 hO3 hO3' hk3; dsimp only) | (go_at_call 33; refine (floatMatches_any t.f ht64 _).mono ?_; rintro e w4 ⟨rfl, rfl⟩; dsimp only))
  go_upto_region 4 with fail
  clear s1 s2 r1 r2 HR2
  cases ca with
  | none =>
    have HRC : Hid (D.drop (P2 + 8) = Lib.uvarint 0 ++ R ∧ RC.length = (Lib.uvarint 0).length) := by
      have e : RC = Lib.uvarint 0 := by rw [HX.out.2.2]; rfl
      have := HP.out.2.2.1
      rw [e] at this
      exact ⟨this, by rw [e]⟩
    go_wp2_with fail
    refine (uvarint_any bd gd cp (P2 + 8) 0 D R w4 HR3.out.2.1 (by decide) HRC.out.1).mono ?_
    rintro e w5 ⟨rfl, hD5, hO5⟩
    have hk5 := hO5.keep HR3.out.2.2.1 hb3
    have r2 : w5.cell? ⟨bd, 2, none⟩ = some (.bool false) := cell_atD hD5.box rfl
    have r3 : w5.cell? ⟨b3, 3, none⟩ = some (.slice none C.length cc) := cell_atD hk5 rfl
    have HR5 : Hid (BySl bd w5 a' t.s.data.toList ∧ DAt bd gd w5 D cp (P2 + 8 + RC.length) ∧ Only bd w w5) := ⟨HR3.out.1.only hO5, by rw [HRC.out.2]; exact hD5, HR3.out.2.2.2.trans hO5⟩
    clear hD5 hO5 hk5
    dsimp only
    go_wp2
    go_quiet (fail)
    go_wp2
    refine bodyPost_ret (v := .tuple #[.slice a' t.s.size c', .bool true]) (by simp [results, Try.results20, go_sem]) rfl ?_
    exact ⟨a', c', rfl, HR5.out.1.only (.of_below (below_drewN (Below.refl _ _) _)), HR5.out.2.1.move (below_drewN (Below.refl _ _) _), HR5.out.2.2.trans (.of_below (below_drewN (Below.refl _ _) _))⟩
  | some xa =>
    obtain ⟨nC, hnC⟩ : ∃ nC, nC = C.length + 1 := ⟨_, rfl⟩
    have HRC : Hid (D.drop (P2 + 8) = Lib.uvarint nC ++ (C.flatMap (encCand t) ++ R) ∧ RC.length = (Lib.uvarint nC).length + (C.flatMap (encCand t)).length ∧ P2 + 8 ≤ D.length) := by
      have e : RC = Lib.uvarint nC ++ C.flatMap (encCand t) := by rw [HX.out.2.2, hnC]; rfl
      have := HP.out.2.2.1
      rw [e, List.append_assoc] at this
      exact ⟨this, by rw [e, List.length_append], HP.out.2.2.2⟩
    have hnC1 : (nC : Int) - 1 = (C.length : Int) := by omega
    have hnC0 : ((nC : Int) == 0) = false := by simp; omega
    have hnC64 : nC < 18446744073709551616 := by omega
    have hnCn : ((C.length : Int) != (C.length : Int)) = false := by simp
    clear hnC
    go_wp2_with fail
    refine (uvarint_any bd gd cp (P2 + 8) nC D _ w4 HR3.out.2.1 hnC64 HRC.out.1).mono ?_
    rintro e w5 ⟨rfl, hD5, hO5⟩
    have hk5 := hO5.keep HR3.out.2.2.1 hb3
    have r2 : w5.cell? ⟨bd, 2, none⟩ = some (.bool false) := cell_atD hD5.box rfl
    have r3 : w5.cell? ⟨b3, 3, none⟩ = some (.slice (some xa) C.length cc) := cell_atD hk5 rfl
    have HR5 : Hid (BySl bd w5 a' t.s.data.toList ∧ DAt bd gd w5 D cp (P2 + 8 + (Lib.uvarint nC).length) ∧ w5.heap[b3]? = some (.cells #[.string t.s, .float .f64 t.f, .slice a t.I.length c, .slice (some xa) C.length cc] 26) ∧ Only bd w w5) := ⟨HR3.out.1.only hO5, hD5, hk5, HR3.out.2.2.2.trans hO5⟩
    clear hD5 hO5 hk5
    dsimp only
    go_wp2_with fail
    go_loopg [9] C.length (fun gk iv wr => ∃ i : Nat, gk = C.length - i ∧ i ≤ C.length ∧ iv = .int .i64 (i : Int) ∧ Hid (BySl bd wr a' t.s.data.toList ∧ DAt bd gd wr D cp (P2 + 8 + (Lib.uvarint nC).length + ((C.take (i)).flatMap (encCand t)).length) ∧ wr.heap[b3]? = some (.cells #[.string t.s, .float .f64 t.f, .slice a t.I.length c, .slice (some xa) C.length cc] 26) ∧ Only bd w wr))
    case atStart => exact ⟨0, by omega, by omega, rfl, HR5.out.1, by simpa using HR5.out.2.1, HR5.out.2.2.1, HR5.out.2.2.2⟩
    case round =>
      clear r2 r3 HR5
      obtain ⟨i, hgk, hi, rfl, HR⟩ := hrel
      have r3 : wr.cell? ⟨b3, 3, none⟩ = some (.slice (some xa) C.length cc) := cell_atD HR.out.2.2.1 rfl
      by_cases hlt : i < C.length
      · obtain ⟨x, hx⟩ : ∃ x, C[i]? = some x := ⟨_, List.getElem?_eq_getElem hlt⟩
        obtain ⟨g, o, a2, c2, hxa, hT⟩ := (H.out.2.2.1.only HR.out.2.2.2).cell i x hx
        cases hxa
        have hltb : decide ((i : Int) < (C.length : Int)) = true := by simp; omega
        have hlt' : (i : Int) < (C.length : Int) := by omega
        have k0 := hT.c0
        have k1 := hT.c1
        have k2 := hT.c2
        have hgl : g < wr.heap.size := cell_lt k0
        have hxs := hT.size
        have hx64 := hT.f64
        have hbdl : bd < wr.heap.size := (Array.getElem?_eq_some_iff.1 HR.out.2.1.box).1
        have hmk := mk_lt x.s x.bn x.I
        have hDx : D.drop (P2 + 8 + (Lib.uvarint nC).length + ((C.take (i)).flatMap (encCand t)).length) = encCand t x ++ ((C.drop (i + 1)).flatMap (encCand t) ++ R) := drop_atT HRC.out.1 hx
        have hPl : P2 + 8 + (Lib.uvarint nC).length + ((C.take (i)).flatMap (encCand t)).length ≤ D.length := by
          have h1 := drop_le HRC.out.1 HRC.out.2.2
          have h2 := flat_take_le (encCand t) C i
          have h3 := drop_le (drop_next HRC.out.1) h1
          omega
        have hTK : P2 + 8 + (Lib.uvarint nC).length + ((C.take (i + 1)).flatMap (encCand t)).length = P2 + 8 + (Lib.uvarint nC).length + ((C.take (i)).flatMap (encCand t)).length + (encCand t x).length := by rw [flat_take_succ _ hx, List.length_append]; omega
        have HXX : Hid (TxAt bd base wr g (o + i * 3) x a2 c2 ∧ D.drop (P2 + 8 + (Lib.uvarint nC).length + ((C.take (i)).flatMap (encCand t)).length) = encCand t x ++ ((C.drop (i + 1)).flatMap (encCand t) ++ R) ∧ P2 + 8 + (Lib.uvarint nC).length + ((C.take (i + 1)).flatMap (encCand t)).length = P2 + 8 + (Lib.uvarint nC).length + ((C.take (i)).flatMap (encCand t)).length + (encCand t x).length ∧ P2 + 8 + (Lib.uvarint nC).length + ((C.take (i)).flatMap (encCand t)).length ≤ D.length) := ⟨hT, hDx, hTK, hPl⟩
        clear hT hx hDx hTK hPl
        go_wp2_with fail
        have HV : Hid (DAt bd gd (wr.alloc (.cells #[.string x.s, .float .f64 x.f, .slice a2 x.I.length c2] 62)) D cp (P2 + 8 + (Lib.uvarint nC).length + ((C.take (i)).flatMap (encCand t)).length) ∧ (wr.alloc (.cells #[.string x.s, .float .f64 x.f, .slice a2 x.I.length c2] 62)).heap[b3]? = some (.cells #[.string t.s, .float .f64 t.f, .slice a t.I.length c, .slice (some ⟨g, o, none⟩) C.length cc] 26) ∧ (wr.alloc (.cells #[.string x.s, .float .f64 x.f, .slice a2 x.I.length c2] 62)).heap[wr.heap.size]? = some (.cells #[.string x.s, .float .f64 x.f, .slice a2 x.I.length c2] 62) ∧ Only bd w (wr.alloc (.cells #[.string x.s, .float .f64 x.f, .slice a2 x.I.length c2] 62)) ∧ BySl bd (wr.alloc (.cells #[.string x.s, .float .f64 x.f, .slice a2 x.I.length c2] 62)) a' t.s.data.toList ∧ TxAt bd base (wr.alloc (.cells #[.string x.s, .float .f64 x.f, .slice a2 x.I.length c2] 62)) g (o + i * 3) x a2 c2) := by
          have hb8 : Below wr.heap.size wr (wr.alloc (.cells #[.string x.s, .float .f64 x.f, .slice a2 x.I.length c2] 62)) := (Below.refl _ _).alloc (Nat.le_refl _) _
          exact ⟨HR.out.2.1.move hb8, (hb8.block b3 (cell_lt r3)).trans HR.out.2.2.1, Deep.blk_alloc_new _ _, HR.out.2.2.2.trans (.of_below hb8), HR.out.1.only (.of_below hb8), HXX.out.1.only (.of_below hb8)⟩
        have hb10 : wr.heap.size ≠ bd := by omega
        clear k0 k1 k2 hgl r3 hbdl
        generalize wr.alloc (.cells #[.string x.s, .float .f64 x.f, .slice a2 x.I.length c2] 62) = W6 at HV ⊢
        generalize wr.heap.size = b10 at HV hb10 ⊢
        cases hsm : x.same t with
        | true =>
          have hxt : x = t := Tx.ext' (of_decide_eq_true hsm)
          have hec : encCand t x = Lib.uvarint 3 := by unfold encCand; rw [hsm]; rfl
          refine (uvarint_any bd gd cp _ 3 D _ W6 HV.out.1 (by decide) (by rw [HXX.out.2.1, hec])).mono ?_
          rintro e w7 ⟨rfl, hD7, hO7⟩
          have HW7 : Hid (DAt bd gd w7 D cp (P2 + 8 + (Lib.uvarint nC).length + ((C.take (i + 1)).flatMap (encCand t)).length) ∧ w7.heap[b3]? = some (.cells #[.string t.s, .float .f64 t.f, .slice a t.I.length c, .slice (some ⟨g, o, none⟩) C.length cc] 26) ∧ w7.heap[b10]? = some (.cells #[.string x.s, .float .f64 x.f, .slice a2 x.I.length c2] 62) ∧ Only bd w w7 ∧ BySl bd w7 a' t.s.data.toList) := ⟨by rw [HXX.out.2.2.1, hec]; exact hD7, hO7.keep HV.out.2.1 hb3, hO7.keep HV.out.2.2.1 hb10, HV.out.2.2.2.1.trans hO7, HV.out.2.2.2.2.1.only hO7⟩
          have HI7 : Hid (IntsAt bd base w7 a2 x.I ∧ IntsAt bd base w7 a t.I ∧ a2.isNone = a.isNone ∧ x = t) := ⟨HV.out.2.2.2.2.2.ints.only hO7, H.out.2.1.only (HV.out.2.2.2.1.trans hO7), by rw [HV.out.2.2.2.2.2.bn, H.out.2.2.2.1, hxt], hxt⟩
          have s2 : w7.cell? ⟨bd, 2, none⟩ = some (.bool false) := cell_atD hD7.box rfl
          have u0 : w7.cell? ⟨b10, 0, none⟩ = some (.string t.s) := by rw [← hxt]; exact cell_atD HW7.out.2.2.1 rfl
          have u1 : w7.cell? ⟨b10, 1, none⟩ = some (.float .f64 t.f) := by rw [← hxt]; exact cell_atD HW7.out.2.2.1 rfl
          have u2 : w7.cell? ⟨b10, 2, none⟩ = some (.slice a2 t.I.length c2) := by rw [← hxt]; exact cell_atD HW7.out.2.2.1 rfl
          have v0 : w7.cell? ⟨b3, 0, none⟩ = some (.string t.s) := cell_atD HW7.out.2.1 rfl
          have v1 : w7.cell? ⟨b3, 1, none⟩ = some (.float .f64 t.f) := cell_atD HW7.out.2.1 rfl
          have v2 : w7.cell? ⟨b3, 2, none⟩ = some (.slice a t.I.length c) := cell_atD HW7.out.2.1 rfl
          have hss : (t.s.toList == t.s.toList) = true := by simp
          clear hD7 hO7 hxt hec hsm
          dsimp only
          go_wp2_with fail
          refine (sameInts_eq bd base a2 a t.I c2 c w7 (by have := HI7.out.1; rw [HI7.out.2.2.2] at this; exact this) HI7.out.2.1 HI7.out.2.2.1).mono ?_
          rintro e w8 ⟨rfl, hb8⟩
          have x1 := below_cell hb8 u1
          have x2 := below_cell hb8 v1
          have HW8 : Hid (DAt bd gd w8 D cp (P2 + 8 + (Lib.uvarint nC).length + ((C.take (i + 1)).flatMap (encCand t)).length) ∧ w8.heap[b3]? = some (.cells #[.string t.s, .float .f64 t.f, .slice a t.I.length c, .slice (some ⟨g, o, none⟩) C.length cc] 26) ∧ Only bd w w8 ∧ BySl bd w8 a' t.s.data.toList) := ⟨HW7.out.1.move hb8, (hb8.block b3 (Array.getElem?_eq_some_iff.1 HW7.out.2.1).1).trans HW7.out.2.1, HW7.out.2.2.2.1.trans (.of_below hb8), HW7.out.2.2.2.2.only (.of_below hb8)⟩
          clear hb8 u0 u1 u2 v0 v1 v2 s2
          dsimp only
          go_wp2_with fail
          refine (sameFloat_self t.f w8).mono ?_
          rintro e w9 ⟨rfl, rfl⟩
          dsimp only
          go_wp2
          go_roundg (C.length - (i + 1))
          case measure => omega
          case rel => exact ⟨i + 1, rfl, by omega, by go_num, HW8.out.2.2.2, HW8.out.1, HW8.out.2.1, HW8.out.2.2.1⟩
        | false =>
          obtain ⟨hx, hhx⟩ : ∃ hx, hx = x.s.size * 4 + mk x.s x.bn x.I := ⟨_, rfl⟩
          obtain ⟨TX, hTX⟩ : ∃ z, z = tail2 x.s x.bn x.I := ⟨_, rfl⟩
          have hec : encCand t x = Lib.uvarint hx ++ ((x.s.data.toList ++ TX) ++ le8 x.f) := by
            unfold encCand; rw [hsm, if_neg (by simp), encText_eq, ← hhx, ← hTX, List.append_assoc]
          obtain ⟨Q0, hQ0⟩ : ∃ z, z = P2 + 8 + (Lib.uvarint nC).length + ((C.take (i)).flatMap (encCand t)).length := ⟨_, rfl⟩
          obtain ⟨RX, hRX⟩ : ∃ z, z = (C.drop (i + 1)).flatMap (encCand t) ++ R := ⟨_, rfl⟩
          have hE1 : D.drop Q0 = Lib.uvarint hx ++ ((x.s.data.toList ++ TX) ++ (le8 x.f ++ RX)) := by
            rw [hQ0, HXX.out.2.1, hec, ← hRX]; simp only [List.append_assoc]
          have hQl : Q0 ≤ D.length := by rw [hQ0]; exact HXX.out.2.2.2
          have hE2 := drop_next hE1
          have hE3 := drop_next hE2
          have hQ1 := drop_le hE1 hQl
          obtain ⟨Q2, hQ2⟩ : ∃ z, z = Q0 + (Lib.uvarint hx).length + x.s.size + TX.length := ⟨_, rfl⟩
          have HQ : Hid (D.drop Q0 = Lib.uvarint hx ++ ((x.s.data.toList ++ TX) ++ (le8 x.f ++ RX)) ∧ D.drop (Q0 + (Lib.uvarint hx).length) = (x.s.data.toList ++ TX) ++ (le8 x.f ++ RX) ∧ D.drop Q2 = le8 x.f ++ RX ∧ Q2 = Q0 + (Lib.uvarint hx).length + x.s.size + TX.length ∧ Q2 + 8 = P2 + 8 + (Lib.uvarint nC).length + ((C.take (i + 1)).flatMap (encCand t)).length ∧ hx = x.s.size * 4 + mk x.s x.bn x.I ∧ TX = tail2 x.s x.bn x.I) := by
            refine ⟨hE1, hE2, ?_, hQ2, ?_, hhx, hTX⟩
            · rw [hQ2, show Q0 + (Lib.uvarint hx).length + x.s.size + TX.length = Q0 + (Lib.uvarint hx).length + (x.s.data.toList ++ TX).length by rw [List.length_append, size_list]; omega]
              exact hE3
            · rw [HXX.out.2.2.1, ← hQ0, hec, hQ2]
              simp only [List.length_append, size_list, le8_len]
              omega
          have HV0 : Hid (DAt bd gd W6 D cp Q0) := by rw [hQ0]; exact HV.out.1
          have hh3 : ((hx : Int) == 3) = false := by simp; omega
          have hx264 : hx < 18446744073709551616 := by omega
          clear hE1 hE2 hE3 hQ0 hQ2 hhx hTX hec hRX hsm hQl
          refine (uvarint_any bd gd cp Q0 hx D _ W6 HV0.out hx264 HQ.out.1).mono ?_
          rintro e w7 ⟨rfl, hD7, hO7⟩
          have HW7 : Hid (DAt bd gd w7 D cp (Q0 + (Lib.uvarint hx).length) ∧ w7.heap[b3]? = some (.cells #[.string t.s, .float .f64 t.f, .slice a t.I.length c, .slice (some ⟨g, o, none⟩) C.length cc] 26) ∧ w7.heap[b10]? = some (.cells #[.string x.s, .float .f64 x.f, .slice a2 x.I.length c2] 62) ∧ Only bd w w7 ∧ BySl bd w7 a' t.s.data.toList ∧ TxAt bd base w7 g (o + i * 3) x a2 c2) := ⟨hD7, hO7.keep HV.out.2.1 hb3, hO7.keep HV.out.2.2.1 hb10, HV.out.2.2.2.1.trans hO7, HV.out.2.2.2.2.1.only hO7, HV.out.2.2.2.2.2.only hO7⟩
          have s2 : w7.cell? ⟨bd, 2, none⟩ = some (.bool false) := cell_atD hD7.box rfl
          have u0 : w7.cell? ⟨b10, 0, none⟩ = some (.string x.s) := cell_atD HW7.out.2.2.1 rfl
          have u2 : w7.cell? ⟨b10, 2, none⟩ = some (.slice a2 x.I.length c2) := cell_atD HW7.out.2.2.1 rfl
          clear hD7 hO7 HV HV0
          dsimp only
          go_wp2_with fail
          refine (text_any bd gd cp (Q0 + (Lib.uvarint hx).length) base x.s a2 x.I c2 hx D (le8 x.f ++ RX) w7 HW7.out.1 HW7.out.2.2.2.2.2.ints hxs (by rw [HW7.out.2.2.2.2.2.bn]; exact HQ.out.2.2.2.2.2.1) hQ1 (by rw [HW7.out.2.2.2.2.2.bn, ← HQ.out.2.2.2.2.2.2]; exact HQ.out.2.1)).mono ?_
          rintro e w8 ⟨a8, c8, rfl, _, hD8, hO8⟩
          rw [HW7.out.2.2.2.2.2.bn, ← HQ.out.2.2.2.2.2.2, ← HQ.out.2.2.2.1] at hD8
          have HW8 : Hid (DAt bd gd w8 D cp Q2 ∧ w8.heap[b3]? = some (.cells #[.string t.s, .float .f64 t.f, .slice a t.I.length c, .slice (some ⟨g, o, none⟩) C.length cc] 26) ∧ w8.heap[b10]? = some (.cells #[.string x.s, .float .f64 x.f, .slice a2 x.I.length c2] 62) ∧ Only bd w w8 ∧ BySl bd w8 a' t.s.data.toList) := ⟨hD8, hO8.keep HW7.out.2.1 hb3, hO8.keep HW7.out.2.2.1 hb10, HW7.out.2.2.2.1.trans hO8, HW7.out.2.2.2.2.1.only hO8⟩
          have s8 : w8.cell? ⟨bd, 2, none⟩ = some (.bool false) := cell_atD hD8.box rfl
          have u1 : w8.cell? ⟨b10, 1, none⟩ = some (.float .f64 x.f) := cell_atD HW8.out.2.2.1 rfl
          clear hD8 hO8 HW7 s2 u0 u2
          dsimp only
          go_upto_region 24 with fail
          go_region_held3 (fun w' => w'.cell? ⟨b10, 1, none⟩ = some (.float .f64 x.f) ∧ w'.cell? ⟨bd, 2, none⟩ = some (.bool false)) (go_keep) (first | (go_at_call 34; refine (u64_any bd gd cp Q2 x.f D RX _ (HW8.out.1.move (Below.refl _ _).drew) hx64 HQ.out.2.2.1).mono ?_; rintro e w9 ⟨rfl, hD9, hO9⟩; have hO9' : Only bd w8 w9 := (Only.of_below (Below.refl _ _).drew).trans hO9; have hk9 := hO9'.keep HW8.out.2.2.1 hb10; have y1 : w9.cell? ⟨b10, 1, none⟩ = some (.float .f64 x.f) := cell_atD hk9 rfl; have y2 : w9.cell? ⟨bd, 2, none⟩ = some (.bool false) := cell_atD hD9.box rfl; have HW9 : Hid (DAt bd gd w9 D cp (P2 + 8 + (Lib.uvarint nC).length + ((C.take (i + 1)).flatMap (encCand t)).length) ∧ w9.heap[b3]? = some (.cells #[.string t.s, .float .f64 t.f, .slice a t.I.length c, .slice (some ⟨g, o, none⟩) C.length cc] 26) ∧ Only bd w w9 ∧ BySl bd w9 a' t.s.data.toList) := ⟨by rw [← HQ.out.2.2.2.2.1]; exact hD9, hO9'.keep HW8.out.2.1 hb3, HW8.out.2.2.2.1.trans hO9', HW8.out.2.2.2.2.only hO9'⟩; clear hD9 hO9 hO9' hk9; dsimp only) | (go_at_call 33; refine (floatMatches_any x.f hx64 _).mono ?_; rintro e w10 ⟨rfl, rfl⟩; dsimp only))
          go_wp2
          go_roundg (C.length - (i + 1))
          case measure => omega
          case rel => exact ⟨i + 1, rfl, by omega, by go_num, HW9.out.2.2.2, HW9.out.1, HW9.out.2.1, HW9.out.2.2.1⟩
      · have hltb : decide ((i : Int) < (C.length : Int)) = false := by simp; omega
        have HC0 : Hid (C.take i = C) := List.take_of_length_le (by omega)
        go_wp2
        refine bodyPost_ret (v := .tuple #[.slice a' t.s.size c', .bool true]) (by simp [results, Try.results20, go_sem]) rfl ?_
        refine ⟨a', c', rfl, HR.out.1, ?_, HR.out.2.2.2⟩
        have hh := HR.out.2.1
        rw [HC0.out] at hh
        rw [HRC.out.2.1, ← Nat.add_assoc]
        exact hh
end Go.Proofs.Qxb6618748a
