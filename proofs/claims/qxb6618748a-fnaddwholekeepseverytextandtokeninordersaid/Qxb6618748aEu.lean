/-
  A token, packed: appendToken.
-/
import Derived.Test.Qxb6618748aEt
import Derived.Deep.CutBlock
import Derived.Deep.DeepCutAuto
namespace Go.Proofs.Qxb6618748a
open Go.RowKit

/-- A text, its log-probability, its bytes (given or not). -/
structure Tx where
  s : ByteArray
  f : Nat
  bn : Bool
  I : List Int
theorem Tx.ext' {a b : Tx} (h : a.s = b.s ∧ a.f = b.f ∧ a.bn = b.bn ∧ a.I = b.I) : a = b := by
  cases a; cases b; simp at h; obtain ⟨rfl, rfl, rfl, rfl⟩ := h; rfl
def Tx.same (c t : Tx) : Bool := decide (c.s = t.s ∧ c.f = t.f ∧ c.bn = t.bn ∧ c.I = t.I)
/-- Three cells of memory that stays hold a text, its log-probability and its bytes. -/
structure TxAt (bp base : Nat) (w : World) (g o : Nat) (x : Tx) (a : Option Addr) (c : Nat) : Prop where
  lt : g < base
  ne : g ≠ bp
  c0 : w.cell? ⟨g, o, none⟩ = some (.string x.s)
  c1 : w.cell? ⟨g, o + 1, none⟩ = some (.float .f64 x.f)
  c2 : w.cell? ⟨g, o + 2, none⟩ = some (.slice a x.I.length c)
  bn : a.isNone = x.bn
  ints : IntsAt bp base w a x.I
  size : x.s.size ≤ 1048576
  f64 : x.f < 18446744073709551616
theorem TxAt.ap {b : Bool} {bp base : Nat} {w w' : World} {g o : Nat} {x : Tx} {a : Option Addr} {c : Nat} (h : TxAt bp base w g o x a c) (hb : Ap b bp base w w') : TxAt bp base w' g o x a c :=
  ⟨h.lt, h.ne, hb.cell h.lt h.ne h.c0, hb.cell h.lt h.ne h.c1, hb.cell h.lt h.ne h.c2, h.bn, h.ints.ap hb, h.size, h.f64⟩
structure CandsAt (bp base : Nat) (w : World) (ca : Option Addr) (C : List Tx) : Prop where
  nil : ca = none → C = []
  le : C.length ≤ 1048576
  cell : ∀ (i : Nat) x, C[i]? = some x → ∃ g o a c, ca = some ⟨g, o, none⟩ ∧ TxAt bp base w g (o + i * 3) x a c
theorem CandsAt.ap {b : Bool} {bp base : Nat} {w w' : World} {ca : Option Addr} {C : List Tx} (h : CandsAt bp base w ca C) (hb : Ap b bp base w w') : CandsAt bp base w' ca C :=
  ⟨h.nil, h.le, fun i x hx => let ⟨g, o, a, c, h1, h2⟩ := h.cell i x hx; ⟨g, o, a, c, h1, h2.ap hb⟩⟩

def encCand (t c : Tx) : List UInt8 := if c.same t then Lib.uvarint 3 else encText c.s c.bn c.I ++ le8 c.f
def encTok (t : Tx) (cn : Bool) (C : List Tx) : List UInt8 := encText t.s t.bn t.I ++ le8 t.f ++ (if cn then Lib.uvarint 0 else Lib.uvarint (C.length + 1) ++ C.flatMap (encCand t))
theorem cell_atB {w : World} {k i : Nat} {c : Array Value} {t : TypeId} {v : Value} (h : w.heap[k]? = some (.cells c t (0, 0))) (hi : c[i]? = some v) : w.cell? ⟨k, i, none⟩ = some v := by
  simp [World.cell?, h, hi]
theorem Ap.keep {bp base k : Nat} {w w' : World} {c : Array Value} {T : TypeId} {fr : Nat × Nat} (h : Ap false bp base w w') (hk : w.heap[k]? = some (.cells c T fr)) (hT : T ≠ 5) : w'.heap[k]? = some (.cells c T fr) :=
  (h.block k (Array.getElem?_eq_some_iff.1 hk).1 (.inr ⟨fun e => by (cases e), fun c fr => by rw [hk]; intro e; cases e; exact hT rfl⟩)).trans hk
theorem le8_len (f : Nat) : (le8 f).length = 8 := rfl
theorem flat_take_le {α : Type} (f : α → List UInt8) (L : List α) (i : Nat) : ((L.take i).flatMap f).length ≤ (L.flatMap f).length := by
  have e : L.flatMap f = (L.take i).flatMap f ++ (L.drop i).flatMap f := by rw [← List.flatMap_append, List.take_append_drop]
  rw [e, List.length_append]; omega
theorem flat_take_succ {α : Type} (f : α → List UInt8) {L : List α} {i : Nat} {x : α} (h : L[i]? = some x) : (L.take (i + 1)).flatMap f = (L.take i).flatMap f ++ f x := by
  rw [List.take_add_one, h]; simp

set_option maxRecDepth 100000 in
set_option maxHeartbeats 1000000 in
theorem appendToken_any (bp base : Nat) (t : Tx) (C : List Tx) (a ca : Option Addr) (c cc : Nat) (D : List UInt8) (v : Value) (w : World) (ha : a.isNone = t.bn) (hI : IntsAt bp base w a t.I) (hts : t.s.size ≤ 1048576) (ht64 : t.f < 18446744073709551616) (hC : CandsAt bp base w ca C) (hd : Dat base w v D) (hb : base ≤ w.heap.size) (hl : D.length + (encTok t ca.isNone C).length ≤ 1099511627776) :
    Calls Try.prog 37 #[v, .agg #[.string t.s, .float .f64 t.f, .slice a t.I.length c, .slice ca C.length cc]] w (Apd bp base w (D ++ encTok t ca.isNone C)) := by
  have hnl := Try.nil29
  have hCl := hC.le
  have H : Hid (IntsAt bp base w a t.I ∧ CandsAt bp base w ca C ∧ Dat base w v D ∧ a.isNone = t.bn) := ⟨hI, hC, hd, ha⟩
  have HL : Hid (D.length + (encTok t ca.isNone C).length ≤ 1099511627776 ∧ (encTok t ca.isNone C).length = (encText t.s t.bn t.I).length + 8 + (if ca.isNone then Lib.uvarint 0 else Lib.uvarint (C.length + 1) ++ C.flatMap (encCand t)).length) := ⟨hl, by unfold encTok; rw [List.length_append, List.length_append, le8_len]⟩
  have hl1 : D.length + (encText t.s t.bn t.I).length + 8 ≤ 1099511627776 := by have h1 := HL.out.1; have h2 := HL.out.2; omega
  clear hI hC hd ha hl
  go_enter Try.func37, Try.ntmps37
  go_wp2_with fail
  have HW : Hid (Ap false bp base w (w.alloc (.cells #[.string t.s, .float .f64 t.f, .slice a t.I.length c, .slice ca C.length cc] 31)) ∧ (w.alloc (.cells #[.string t.s, .float .f64 t.f, .slice a t.I.length c, .slice ca C.length cc] 31)).heap[w.heap.size]? = some (.cells #[.string t.s, .float .f64 t.f, .slice a t.I.length c, .slice ca C.length cc] 31) ∧ Dat base (w.alloc (.cells #[.string t.s, .float .f64 t.f, .slice a t.I.length c, .slice ca C.length cc] 31)) v D) := ⟨(Ap.refl _ _ _ _).alloc _, Deep.blk_alloc_new _ _, H.out.2.2.1.below ((Below.refl _ _).alloc (Nat.le_refl _) _)⟩
  generalize w.alloc (.cells #[.string t.s, .float .f64 t.f, .slice a t.I.length c, .slice ca C.length cc] 31) = W at HW ⊢
  have hb0 := hb
  generalize w.heap.size = b3 at HW hb ⊢
  have hbW : base ≤ W.heap.size := by have := (Array.getElem?_eq_some_iff.1 HW.out.2.1).1; omega
  have hE : encText t.s a.isNone t.I = encText t.s t.bn t.I := by rw [H.out.2.2.2]
  have HE : Hid (encText t.s a.isNone t.I = encText t.s t.bn t.I) := hE
  clear hE
  refine (appendText_any bp base t.s a t.I c D v W hts (H.out.1.ap HW.out.1) HW.out.2.2 hbW (by rw [HE.out]; omega)).mono ?_
  rintro e w1 ⟨v1, rfl, hd1, ha1⟩
  rw [HE.out] at hd1
  have hk1 : w1.heap[b3]? = some (.cells #[.string t.s, .float .f64 t.f, .slice a t.I.length c, .slice ca C.length cc] 31) := ha1.keep HW.out.2.1 (by decide)
  have HW1 : Hid (Ap false bp base w w1 ∧ w1.heap[b3]? = some (.cells #[.string t.s, .float .f64 t.f, .slice a t.I.length c, .slice ca C.length cc] 31) ∧ Dat base w1 v1 (D ++ encText t.s t.bn t.I)) := ⟨HW.out.1.trans ha1, hk1, hd1⟩
  have p1 : w1.cell? ⟨b3, 1, none⟩ = some (.float .f64 t.f) := cell_atB hk1 rfl
  clear hd1 ha1 HW hbW hk1
  dsimp only
  go_upto_region 2 with fail
  have hbw1 : base ≤ w1.heap.size := Nat.le_trans hb0 HW1.out.1.size
  go_cut [0] from 13 to 18 (fun v0 wx => ∃ v2, v0 = v2 ∧ Hid (Ap false bp base w wx ∧ wx.heap[b3]? = some (.cells #[.string t.s, .float .f64 t.f, .slice a t.I.length c, .slice ca C.length cc] 31) ∧ Dat base wx v2 (D ++ encText t.s t.bn t.I ++ le8 t.f)))
  case first =>
    go_region_held3 (fun w' => w'.cell? ⟨b3, 1, none⟩ = some (.float .f64 t.f)) (go_keep)
      (first | (go_at_call 46; refine (appendUint64_any bp base t.f _ v1 _ ht64 (HW1.out.2.2.below (Below.refl _ _).drew) hbw1 (by rw [List.length_append]; omega)).mono ?_; rintro e w3 ⟨v3, rfl, hd3, ha3⟩; have ha4 := (Ap.of_below (x := false) (bp := bp) (base := base) (Below.refl _ w1).drew).trans ha3; have hk3 := ha4.keep HW1.out.2.1 (by decide); have q1 : w3.cell? ⟨b3, 1, none⟩ = some (.float .f64 t.f) := cell_atB hk3 rfl; have HR : Hid (Ap false bp base w w3 ∧ w3.heap[b3]? = some (.cells #[.string t.s, .float .f64 t.f, .slice a t.I.length c, .slice ca C.length cc] 31) ∧ Dat base w3 v3 (D ++ encText t.s t.bn t.I ++ le8 t.f)) := ⟨HW1.out.1.trans ha4, hk3, hd3⟩; clear hd3 ha3 ha4 hk3; dsimp only))
    go_wp2
    go_meet
    exact ⟨v3, rfl, HR⟩
  case rest =>
    obtain ⟨v2, hv2, HW2⟩ := hcut
    replace hv2 := hv2.symm
    subst hv2
    rename_i K hK
    refine hK _ _ ?_
    clear p1 hbw1
    have q1 : wc.cell? ⟨b3, 1, none⟩ = some (.float .f64 t.f) := cell_atB HW2.out.2.1 rfl
    have q3 : wc.cell? ⟨b3, 3, none⟩ = some (.slice ca C.length cc) := cell_atB HW2.out.2.1 rfl
    have hbc : base ≤ wc.heap.size := Nat.le_trans hb0 HW2.out.1.size
    cases ca with
    | none =>
      have hl2 : D.length + (encText t.s t.bn t.I).length + 8 ≤ 1099511627776 := hl1
      go_wp2_with fail
      refine (appendUvarint_any bp base 0 _ v2 wc (by decide) HW2.out.2.2 hbc (by rw [List.length_append, List.length_append, le8_len]; omega)).mono ?_
      rintro e w4 ⟨v4, rfl, hd4, ha4⟩
      dsimp only
      go_wp2
      go_ret
      refine ⟨v4, rfl, ?_, HW2.out.1.trans ha4⟩
      unfold encTok
      simpa [List.append_assoc] using hd4
    | some xa =>
      have hl2 : D.length + (encText t.s t.bn t.I).length + 8 + (Lib.uvarint (C.length + 1)).length + (C.flatMap (encCand t)).length ≤ 1099511627776 := by
        have h1 := HL.out.1
        have h2 := HL.out.2
        rw [if_neg (by simp), List.length_append] at h2
        omega
      go_wp2_with fail
      rw [show (C.length : Int) + 1 = ((C.length + 1 : Nat) : Int) by omega]
      refine (appendUvarint_any bp base (C.length + 1) _ v2 wc (by omega) HW2.out.2.2 hbc (by rw [List.length_append, List.length_append, le8_len]; omega)).mono ?_
      rintro e w4 ⟨v4, rfl, hd4, ha4⟩
      have hk4 : w4.heap[b3]? = some (.cells #[.string t.s, .float .f64 t.f, .slice a t.I.length c, .slice (some xa) C.length cc] 31) := ha4.keep HW2.out.2.1 (by decide)
      have q4 : w4.cell? ⟨b3, 3, none⟩ = some (.slice (some xa) C.length cc) := cell_atB hk4 rfl
      have HW4 : Hid (Ap false bp base w w4 ∧ w4.heap[b3]? = some (.cells #[.string t.s, .float .f64 t.f, .slice a t.I.length c, .slice (some xa) C.length cc] 31) ∧ Dat base w4 v4 (D ++ encText t.s t.bn t.I ++ le8 t.f ++ Lib.uvarint (C.length + 1))) := ⟨HW2.out.1.trans ha4, hk4, hd4⟩
      clear q1 q3 hbc HW2 hd4 ha4 hk4
      dsimp only
      go_wp2_with fail
      go_loopg [0, 34] C.length (fun gk vv iv wr => ∃ (i : Nat) (v5 : Value), gk = C.length - i ∧ i ≤ C.length ∧ vv = v5 ∧ iv = .int .i64 (i : Int) ∧ Hid (Ap false bp base w wr ∧ wr.heap[b3]? = some (.cells #[.string t.s, .float .f64 t.f, .slice a t.I.length c, .slice (some xa) C.length cc] 31) ∧ Dat base wr v5 (D ++ encText t.s t.bn t.I ++ le8 t.f ++ Lib.uvarint (C.length + 1) ++ (C.take i).flatMap (encCand t))))
      case atStart => exact ⟨0, v4, by omega, by omega, rfl, rfl, HW4.out.1, HW4.out.2.1, by simpa using HW4.out.2.2⟩
      case round =>
        clear q4
        obtain ⟨i, v5, hgk, hi5, hv, rfl, HR⟩ := hrel
        replace hv := hv.symm
        subst hv
        by_cases hlt : i < C.length
        · obtain ⟨x, hx⟩ : ∃ x, C[i]? = some x := ⟨_, List.getElem?_eq_getElem hlt⟩
          obtain ⟨g, o, a', c', hxa, hT⟩ := (H.out.2.1.ap HR.out.1).cell i x hx
          cases hxa
          have hltb : decide ((i : Int) < (C.length : Int)) = true := by simp; omega
          have hlt' : (i : Int) < (C.length : Int) := by omega
          have k0 := hT.c0
          have k1 := hT.c1
          have k2 := hT.c2
          have hgl : g < wr.heap.size := cell_lt k0
          have r0 : wr.cell? ⟨b3, 0, none⟩ = some (.string t.s) := cell_atB HR.out.2.1 rfl
          have r1 : wr.cell? ⟨b3, 1, none⟩ = some (.float .f64 t.f) := cell_atB HR.out.2.1 rfl
          have r2 : wr.cell? ⟨b3, 2, none⟩ = some (.slice a t.I.length c) := cell_atB HR.out.2.1 rfl
          have r3 : wr.cell? ⟨b3, 3, none⟩ = some (.slice (some ⟨g, o, none⟩) C.length cc) := cell_atB HR.out.2.1 rfl
          have hbl : b3 < wr.heap.size := cell_lt r0
          have HX : Hid (TxAt bp base wr g (o + i * 3) x a' c' ∧ C[i]? = some x) := ⟨hT, hx⟩
          have hfl := flat_take_le (encCand t) C (i + 1)
          rw [flat_take_succ _ hx, List.length_append] at hfl
          have htk := flat_take_succ (encCand t) hx
          have HTK : Hid ((C.take (i + 1)).flatMap (encCand t) = (C.take i).flatMap (encCand t) ++ encCand t x ∧ ((C.take i).flatMap (encCand t)).length + (encCand t x).length ≤ (C.flatMap (encCand t)).length) := ⟨htk, hfl⟩
          clear hT hx hfl htk
          go_wp2_with fail
          have HV : Hid (Ap false bp base w (wr.alloc (.cells #[.string x.s, .float .f64 x.f, .slice a' x.I.length c'] 68)) ∧ (wr.alloc (.cells #[.string x.s, .float .f64 x.f, .slice a' x.I.length c'] 68)).heap[b3]? = some (.cells #[.string t.s, .float .f64 t.f, .slice a t.I.length c, .slice (some ⟨g, o, none⟩) C.length cc] 31) ∧ Dat base (wr.alloc (.cells #[.string x.s, .float .f64 x.f, .slice a' x.I.length c'] 68)) v5 (D ++ encText t.s t.bn t.I ++ le8 t.f ++ Lib.uvarint (C.length + 1) ++ (C.take i).flatMap (encCand t)) ∧ (wr.alloc (.cells #[.string x.s, .float .f64 x.f, .slice a' x.I.length c'] 68)).heap[wr.heap.size]? = some (.cells #[.string x.s, .float .f64 x.f, .slice a' x.I.length c'] 68) ∧ TxAt bp base (wr.alloc (.cells #[.string x.s, .float .f64 x.f, .slice a' x.I.length c'] 68)) g (o + i * 3) x a' c') := by
            have hb7 : Below wr.heap.size wr (wr.alloc (.cells #[.string x.s, .float .f64 x.f, .slice a' x.I.length c'] 68)) := (Below.refl _ _).alloc (Nat.le_refl _) _
            exact ⟨HR.out.1.next hb7, (hb7.block b3 hbl).trans HR.out.2.1, HR.out.2.2.below hb7, Deep.blk_alloc_new _ _, HX.out.1.ap (b := false) (.of_below hb7)⟩
          clear k0 k1 k2 hgl r0 r1 r2 r3 hbl
          generalize wr.alloc (.cells #[.string x.s, .float .f64 x.f, .slice a' x.I.length c'] 68) = W6 at HV ⊢
          generalize wr.heap.size = b6 at HV ⊢
          refine (isItself_any bp base t.s x.s t.f x.f a a' _ t.I x.I c c' C.length cc W6 (H.out.1.ap HV.out.1) HV.out.2.2.2.2.ints).mono ?_
          rintro e w7 ⟨rfl, hb7⟩
          rw [show decide (x.s = t.s ∧ x.f = t.f ∧ a'.isNone = a.isNone ∧ x.I = t.I) = x.same t by unfold Tx.same; rw [HV.out.2.2.2.2.bn, H.out.2.2.2]]
          have HV7 : Hid (Ap false bp base w w7 ∧ w7.heap[b3]? = some (.cells #[.string t.s, .float .f64 t.f, .slice a t.I.length c, .slice (some ⟨g, o, none⟩) C.length cc] 31) ∧ Dat base w7 v5 (D ++ encText t.s t.bn t.I ++ le8 t.f ++ Lib.uvarint (C.length + 1) ++ (C.take i).flatMap (encCand t)) ∧ w7.heap[b6]? = some (.cells #[.string x.s, .float .f64 x.f, .slice a' x.I.length c'] 68) ∧ TxAt bp base w7 g (o + i * 3) x a' c') :=
            ⟨HV.out.1.next hb7, (hb7.block b3 (Array.getElem?_eq_some_iff.1 HV.out.2.1).1).trans HV.out.2.1, HV.out.2.2.1.below hb7, (hb7.block b6 (Array.getElem?_eq_some_iff.1 HV.out.2.2.2.1).1).trans HV.out.2.2.2.1, HV.out.2.2.2.2.ap (b := false) (.of_below hb7)⟩
          clear hb7 HV
          have hb7 : base ≤ w7.heap.size := Nat.le_trans hb0 HV7.out.1.size
          cases hsm : x.same t with
          | true =>
            have hec : encCand t x = Lib.uvarint 3 := by unfold encCand; rw [hsm]; rfl
            have HEC : Hid (encCand t x = Lib.uvarint 3) := hec
            clear hec
            dsimp only
            go_wp2_with fail
            refine (appendUvarint_any bp base 3 _ v5 w7 (by decide) HV7.out.2.2.1 hb7 (by have := HTK.out.2; simp only [List.length_append, le8_len]; omega)).mono ?_
            rintro e w8 ⟨v8, rfl, hd8, ha8⟩
            have HW8 : Hid (Ap false bp base w w8 ∧ w8.heap[b3]? = some (.cells #[.string t.s, .float .f64 t.f, .slice a t.I.length c, .slice (some ⟨g, o, none⟩) C.length cc] 31) ∧ Dat base w8 v8 (D ++ encText t.s t.bn t.I ++ le8 t.f ++ Lib.uvarint (C.length + 1) ++ (C.take (i + 1)).flatMap (encCand t))) := ⟨HV7.out.1.trans ha8, ha8.keep HV7.out.2.1 (by decide), by rw [HTK.out.1, HEC.out, ← List.append_assoc]; exact hd8⟩
            clear hd8 ha8 HV7
            dsimp only
            go_wp2
            go_roundg (C.length - (i + 1))
            case measure => omega
            case rel => exact ⟨i + 1, v8, rfl, by omega, rfl, by go_num, HW8⟩
          | false =>
            have hec : encCand t x = encText x.s x.bn x.I ++ le8 x.f := by unfold encCand; rw [hsm]; rfl
            have HEC : Hid (encCand t x = encText x.s x.bn x.I ++ le8 x.f) := hec
            have hlx : ((C.take i).flatMap (encCand t)).length + (encText x.s x.bn x.I).length + 8 ≤ (C.flatMap (encCand t)).length := by
              have := HTK.out.2
              rw [hec, List.length_append, le8_len] at this
              omega
            clear hec
            have s0 : w7.cell? ⟨b6, 0, none⟩ = some (.string x.s) := cell_atB HV7.out.2.2.2.1 rfl
            have s2 : w7.cell? ⟨b6, 2, none⟩ = some (.slice a' x.I.length c') := cell_atB HV7.out.2.2.2.1 rfl
            have hxs := HX.out.1.size
            have hx64 := HX.out.1.f64
            have HEX : Hid (encText x.s a'.isNone x.I = encText x.s x.bn x.I) := by
              show encText x.s a'.isNone x.I = encText x.s x.bn x.I
              rw [HX.out.1.bn]
            dsimp only
            go_wp2_with fail
            refine (appendText_any bp base x.s a' x.I c' _ v5 w7 hxs HV7.out.2.2.2.2.ints HV7.out.2.2.1 hb7 (by rw [HEX.out]; simp only [List.length_append, le8_len]; omega)).mono ?_
            rintro e w8 ⟨v8, rfl, hd8, ha8⟩
            rw [HEX.out] at hd8
            have hk8 := ha8.keep HV7.out.2.2.2.1 (by decide)
            have s1 : w8.cell? ⟨b6, 1, none⟩ = some (.float .f64 x.f) := cell_atB hk8 rfl
            have HW8 : Hid (Ap false bp base w w8 ∧ w8.heap[b3]? = some (.cells #[.string t.s, .float .f64 t.f, .slice a t.I.length c, .slice (some ⟨g, o, none⟩) C.length cc] 31) ∧ Dat base w8 v8 (D ++ encText t.s t.bn t.I ++ le8 t.f ++ Lib.uvarint (C.length + 1) ++ (C.take i).flatMap (encCand t) ++ encText x.s x.bn x.I) ∧ w8.heap[b6]? = some (.cells #[.string x.s, .float .f64 x.f, .slice a' x.I.length c'] 68)) := ⟨HV7.out.1.trans ha8, ha8.keep HV7.out.2.1 (by decide), hd8, hk8⟩
            have hb8 : base ≤ w8.heap.size := Nat.le_trans hb0 HW8.out.1.size
            clear hd8 ha8 hk8 s0 s2 HV7
            dsimp only
            go_upto_region 12 with fail
            go_region_held3 (fun w' => w'.cell? ⟨b6, 1, none⟩ = some (.float .f64 x.f)) (go_keep)
              (first | (go_at_call 46; refine (appendUint64_any bp base x.f _ v8 _ hx64 (HW8.out.2.2.1.below (Below.refl _ _).drew) hb8 (by simp only [List.length_append, le8_len]; omega)).mono ?_; rintro e w9 ⟨v9, rfl, hd9, ha9⟩; have ha4 := (Ap.of_below (x := false) (bp := bp) (base := base) (Below.refl _ w8).drew).trans ha9; have hk9 := ha4.keep HW8.out.2.2.2 (by decide); have s9 : w9.cell? ⟨b6, 1, none⟩ = some (.float .f64 x.f) := cell_atB hk9 rfl; have HR9 : Hid (Ap false bp base w w9 ∧ w9.heap[b3]? = some (.cells #[.string t.s, .float .f64 t.f, .slice a t.I.length c, .slice (some ⟨g, o, none⟩) C.length cc] 31) ∧ Dat base w9 v9 (D ++ encText t.s t.bn t.I ++ le8 t.f ++ Lib.uvarint (C.length + 1) ++ (C.take (i + 1)).flatMap (encCand t))) := ⟨HW8.out.1.trans ha4, ha4.keep HW8.out.2.1 (by decide), by rw [HTK.out.1, HEC.out]; simpa [List.append_assoc] using hd9⟩; clear hd9 ha9 ha4 hk9; dsimp only))
            go_wp2
            go_roundg (C.length - (i + 1))
            case measure => omega
            case rel => exact ⟨i + 1, v9, rfl, by omega, rfl, by go_num, HR9⟩
        · have hltb : decide ((i : Int) < (C.length : Int)) = false := by simp; omega
          obtain rfl : i = C.length := by omega
          go_wp2
          go_ret
          refine ⟨v5, rfl, ?_, HR.out.1⟩
          have := HR.out.2.2
          rw [List.take_length] at this
          unfold encTok
          rw [if_neg (by simp)]
          simpa [List.append_assoc] using this
end Go.Proofs.Qxb6618748a
