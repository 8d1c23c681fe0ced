/-
  Pieces.Add.
-/
import Derived.Test.Qxb6618748aSp
import Derived.Deep.RegionWith
namespace Go.Proofs.Qxb6618748a
open Go.RowKit

/-- A piece: its form, its texts, its tokens. -/
structure Pc where
  f : Nat
  r : List UInt8
  c : List UInt8
  T : List Tk
def Pc.enc (p : Pc) : List UInt8 := Lib.uvarint (p.T.length * 4 + p.f) ++ (if p.f = 2 then Lib.uvarint p.r.length ++ p.r ++ Lib.uvarint p.c.length ++ p.c else []) ++ p.T.flatMap Tk.enc
structure Pc.ok (p : Pc) : Prop where
  lt : p.f < 3
  f0 : p.f = 0 → p.r = [] ∧ p.c = cat p.T
  f1 : p.f = 1 → p.c = [] ∧ p.r = cat p.T
theorem dat_slice {base : Nat} {w : World} {v : Value} {D : List UInt8} (h : Dat base w v D) : ∃ a n c, v = .slice a n c := by
  rcases h.2 with ⟨h1, h2⟩ | ⟨g, cap, cur, h1, _⟩
  · exact ⟨none, 0, 0, h1⟩
  · exact ⟨_, _, _, h1⟩
theorem Dat.setp {base bp : Nat} {w : World} {v : Value} {D : List UInt8} (h : Dat base w v D) (hb : bp < base) (i : Nat) (u : Value) : Dat base (w.setCell ⟨bp, i, none⟩ u) v D := by
  refine ⟨h.1, ?_⟩
  rcases h.2 with h1 | ⟨g, cap, cur, hv, h1, h2, h3⟩
  · exact .inl h1
  · exact .inr ⟨g, cap, cur, hv, h1, by rw [Below.heap_setCell _ _ _ _ (by simp; omega)]; exact h2, h3⟩
/-- The box of the pieces. -/
structure PAt (bp base : Nat) (w : World) (v : Value) (N : Nat) (D : List UInt8) : Prop where
  box : w.heap[bp]? = some (.cells #[v, .int .i64 (N : Int)] 41)
  dat : Dat base w v D
theorem PAt.below {bp base : Nat} {w w' : World} {v : Value} {N : Nat} {D : List UInt8} (h : PAt bp base w v N D) (hb : Below w.heap.size w w') : PAt bp base w' v N D :=
  ⟨(hb.block bp (Array.getElem?_eq_some_iff.1 h.box).1).trans h.box, h.dat.below hb⟩
/-- A new row is stored. -/
theorem PAt.store {bp base : Nat} {w w' : World} {v v' : Value} {N : Nat} {D D' : List UInt8} (h : PAt bp base w v N D) (ha : Ap false bp base w w') (hd : Dat base w' v' D') (hb : bp < base) : PAt bp base (w'.setCell ⟨bp, 0, none⟩ v') v' N D' := by
  refine ⟨?_, hd.setp hb 0 v'⟩
  have := ha.keep h.box (by decide)
  simp [World.setCell, Array.getElem?_modify, this]
theorem bel_of {bp base : Nat} {w1 W w2 : World} (_ha : Ap false bp base W w2) (hB : Below w1.heap.size w1 W) : Below w1.heap.size w1 W := hB
theorem or_mark2 {n m : Nat} (hn : n ≤ 1048576) (hm : m < 4) : bits .or .u64 (IntKind.u64.wrap (IntKind.u64.wrap (n : Int) * 4)) (m : Int) = ((n * 4 + m : Nat) : Int) := by
  have e : IntKind.u64.wrap (IntKind.u64.wrap (n : Int) * 4) = (n : Int) * 4 := by rw [IntKind.wrap_u64, IntKind.wrap_u64]; omega
  rw [e, or_mark hn hm]
theorem frozen_atB {w : World} {k : Nat} {c : Array Value} {t : TypeId} (h : w.heap[k]? = some (.cells c t (0, 0))) (i : Nat) : w.frozen? ⟨k, i, none⟩ = false := by
  simp [World.frozen?, h]
/-- The texts of a piece, packed up to the i-th. -/
def part (r c : ByteArray) : Nat → List UInt8
  | 0 => []
  | 1 => Lib.uvarint r.size ++ r.data.toList
  | _ => Lib.uvarint r.size ++ r.data.toList ++ (Lib.uvarint c.size ++ c.data.toList)
def txt (r c : ByteArray) (i : Nat) : ByteArray := if i = 0 then r else c
theorem part_step (r c : ByteArray) {i : Nat} (h : i < 2) : part r c (i + 1) = part r c i ++ (Lib.uvarint (txt r c i).size ++ (txt r c i).data.toList) := by
  obtain rfl | rfl : i = 0 ∨ i = 1 := by omega
  · simp [part, txt]
  · simp [part, txt]
theorem part_le (r c : ByteArray) (hr : r.size ≤ 1048576) (hc : c.size ≤ 1048576) (i : Nat) : (part r c i).length ≤ r.size + c.size + 20 := by
  have h1 := Lib.uvarint_length64 (x := r.size) (by omega)
  have h2 := Lib.uvarint_length64 (x := c.size) (by omega)
  match i with
  | 0 => simp [part]
  | 1 => simp only [part, List.length_append, size_list]; omega
  | i + 2 => simp only [part, List.length_append, size_list]; omega
theorem txt_le (r c : ByteArray) (hr : r.size ≤ 1048576) (hc : c.size ≤ 1048576) (i : Nat) : (txt r c i).size ≤ 1048576 ∧ (txt r c i).size ≤ r.size + c.size := by
  unfold txt
  split <;> omega
theorem PAt.count {bp base : Nat} {w : World} {v : Value} {N : Nat} {D : List UInt8} (h : PAt bp base w v N D) (hb : bp < base) : PAt bp base (w.setCell ⟨bp, 1, none⟩ (.int .i64 ((N : Int) + 1))) v (N + 1) D := by
  refine ⟨?_, h.dat.setp hb 1 _⟩
  simp [World.setCell, Array.getElem?_modify, h.box]

/-- What Add does. -/
def AddOk (bp base N : Nat) (r c : ByteArray) (TS : List Tk) (D : List UInt8) (w : World) (e : Ending) (w' : World) : Prop := e = .returned (.tuple #[]) ∧ ∃ (f : Nat) (v' : Value), (Pc.mk f r.data.toList c.data.toList TS).ok ∧ PAt bp base w' v' (N + 1) (D ++ (Pc.mk f r.data.toList c.data.toList TS).enc) ∧ Ap true bp base w w'

set_option maxRecDepth 100000 in
set_option maxHeartbeats 1000000 in
theorem add_any (bp base N : Nat) (r c : ByteArray) (a : Option Addr) (n tc : Nat) (TS : List Tk) (D : List UInt8) (v : Value) (w : World) (hbp : bp < base) (hb : base ≤ w.heap.size) (hr : r.size ≤ 1048576) (hc : c.size ≤ 1048576) (hN : N ≤ 4194304) (hT : ToksAt bp base w a n tc TS) (hP : PAt bp base w v N D) (hl : D.length + r.size + c.size + (TS.flatMap Tk.enc).length + 40 ≤ 1099511627776) :
    Calls Try.prog 24 #[.pointer (some ⟨bp, 0, none⟩), .agg #[.string r, .string c, .slice a n tc]] w (AddOk bp base N r c TS D w) := by
  obtain ⟨i0, hi0, hz0, hz1, hz2⟩ := info_parts Try.info5
  have H : Hid (ToksAt bp base w a n tc TS ∧ PAt bp base w v N D) := ⟨hT, hP⟩
  have hle := hT.le
  clear hT hP
  go_enter Try.func24, Try.ntmps24
  go_wp2_with fail
  have hbx : Below w.heap.size w (w.alloc (.cells #[.string r, .string c, .slice a n tc] 46)) := (Below.refl _ _).alloc (Nat.le_refl _) _
  have HW : Hid (PAt bp base (w.alloc (.cells #[.string r, .string c, .slice a n tc] 46)) v N D ∧ (w.alloc (.cells #[.string r, .string c, .slice a n tc] 46)).heap[w.heap.size]? = some (.cells #[.string r, .string c, .slice a n tc] 46) ∧ Ap true bp base w (w.alloc (.cells #[.string r, .string c, .slice a n tc] 46)) ∧ ToksAt bp base (w.alloc (.cells #[.string r, .string c, .slice a n tc] 46)) a n tc TS) := ⟨H.out.2.below hbx, Deep.blk_alloc_new _ _, .of_below hbx, H.out.1.below hbx⟩
  clear hbx
  generalize w.alloc (.cells #[.string r, .string c, .slice a n tc] 46) = W at HW ⊢
  have hb0 := hb
  have hbp3 : bp < w.heap.size := (Array.getElem?_eq_some_iff.1 H.out.2.box).1
  generalize w.heap.size = b3 at HW hb hbp3 ⊢
  refine (form_any bp base r c a n tc TS W HW.out.2.2.2).mono ?_
  rintro e w1 ⟨f, rfl, hb1, hf3, hf0, hf1⟩
  have HF : Hid ((Pc.mk f r.data.toList c.data.toList TS).ok) := ⟨hf3, hf0, hf1⟩
  have HW1 : Hid (PAt bp base w1 v N (D) ∧ w1.heap[b3]? = some (.cells #[.string r, .string c, .slice a n tc] 46) ∧ Ap true bp base w w1) := ⟨HW.out.1.below hb1, (hb1.block b3 (Array.getElem?_eq_some_iff.1 HW.out.2.1).1).trans HW.out.2.1, HW.out.2.2.1.next hb1⟩
  obtain ⟨av, nv, cv, rfl⟩ := dat_slice HW1.out.1.dat
  have q0 : w1.cell? ⟨bp, 0, none⟩ = some (.slice av nv cv) := cell_atB HW1.out.1.box rfl
  have q2 : w1.cell? ⟨b3, 2, none⟩ = some (.slice a n tc) := cell_atB HW1.out.2.1 rfl
  have hbw : base ≤ w1.heap.size := Nat.le_trans hb0 HW1.out.2.2.size
  have HOR : Hid (bits .or .u64 (IntKind.u64.wrap (IntKind.u64.wrap (n : Int) * 4)) (f : Int) = ((n * 4 + f : Nat) : Int)) := or_mark2 (by omega) (by omega)
  have HDA : Hid (∀ W', Below w1.heap.size w1 W' → Dat base W' (.slice av nv cv) D ∧ base ≤ W'.heap.size ∧ PAt bp base W' (.slice av nv cv) N D ∧ W'.heap[b3]? = some (.cells #[.string r, .string c, .slice a n tc] 46) ∧ Ap true bp base w W') := fun W' hB => ⟨HW1.out.1.dat.below hB, Nat.le_trans hbw hB.size, HW1.out.1.below hB, (hB.block b3 (Array.getElem?_eq_some_iff.1 HW1.out.2.1).1).trans HW1.out.2.1, HW1.out.2.2.next hB⟩
  clear hb1 hf0 hf1 HW
  dsimp only
  go_upto_region 2 with fail
  go_cut [] from 11 to 25 (fun wx => ∃ (a2 : Option Addr) (n2 c2 : Nat), Hid (PAt bp base wx (.slice a2 n2 c2) N (D ++ Lib.uvarint (n * 4 + f)) ∧ wx.heap[b3]? = some (.cells #[.string r, .string c, .slice a n tc] 46) ∧ Ap true bp base w wx))
  case first =>
    go_region_with (first | (go_at_call 36; rw [HOR.out]; refine (appendUvarint_any bp base (n * 4 + f) D _ _ (by omega) ?_ ?_ (by omega)).mono ?_; exact (HDA.out _ (by first | with_reducible exact Below.refl _ _ | with_reducible exact (Below.refl _ _).drew | with_reducible exact (Below.refl _ _).drew.drew)).1; exact (HDA.out _ (by first | with_reducible exact Below.refl _ _ | with_reducible exact (Below.refl _ _).drew | with_reducible exact (Below.refl _ _).drew.drew)).2.1; rintro e w2 ⟨v2, rfl, hd2, ha2⟩; obtain ⟨a2, n2, c2, rfl⟩ := dat_slice hd2; have hB2 := bel_of (w1 := w1) ha2 (by first | with_reducible exact Below.refl _ _ | with_reducible exact (Below.refl _ _).drew | with_reducible exact (Below.refl _ _).drew.drew); have hD2 := HDA.out _ hB2; have hbx2 := ha2.keep hD2.2.2.1.box (by decide); have q0' := cell_atB (i := 0) (v := .slice av nv cv) hbx2 rfl; have fz := frozen_atB hbx2 0; have HR : Hid (PAt bp base (w2.setCell ⟨bp, 0, none⟩ (.slice a2 n2 c2)) (.slice a2 n2 c2) N (D ++ Lib.uvarint (n * 4 + f)) ∧ (w2.setCell ⟨bp, 0, none⟩ (.slice a2 n2 c2)).heap[b3]? = some (.cells #[.string r, .string c, .slice a n tc] 46) ∧ Ap true bp base w (w2.setCell ⟨bp, 0, none⟩ (.slice a2 n2 c2))) := ⟨hD2.2.2.1.store ha2 hd2 hbp, by rw [Below.heap_setCell _ _ _ _ (by simp; omega)]; exact ha2.keep hD2.2.2.2.1 (by decide), (hD2.2.2.2.2.trans ha2.weak).set 0 _⟩; clear hd2 ha2 hB2 hD2 hbx2; dsimp only))
    all_goals (go_wp2; go_meet; exact ⟨a2, n2, c2, HR⟩)
  case rest =>
    obtain ⟨a2, n2, c2, HW2⟩ := hcut
    rename_i K hK
    refine hK _ _ ?_
    clear q0 q2 HDA HW1
    have q6 : wc.cell? ⟨b3, 2, none⟩ = some (.slice a n tc) := cell_atB HW2.out.2.1 rfl
    have hul := Lib.uvarint_length64 (x := n * 4 + f) (by omega)
    by_cases hf2 : f = 2
    case neg =>
      have hfb : ((f : Int) == 2) = false := by simp; omega
      have HT0 : Hid (PAt bp base wc (.slice a2 n2 c2) N (D ++ Lib.uvarint (n * 4 + f)) ∧ wc.heap[b3]? = some (.cells #[.string r, .string c, .slice a n tc] 46) ∧ Ap true bp base w wc) := HW2.out
      have HDT : Hid (D ++ Lib.uvarint (n * 4 + f) = D ++ (Lib.uvarint (TS.length * 4 + f) ++ (if f = 2 then Lib.uvarint r.data.toList.length ++ r.data.toList ++ Lib.uvarint c.data.toList.length ++ c.data.toList else []))) := by
        show D ++ Lib.uvarint (n * 4 + f) = _
        rw [if_neg hf2, List.append_nil, H.out.1.len]
      have hdt : (D ++ Lib.uvarint (n * 4 + f)).length + (TS.flatMap Tk.enc).length ≤ 1099511627776 := by rw [List.length_append]; omega
      go_wp2_with fail
      go_loopg [62] n (fun gk iv wr => ∃ (i : Nat) (a5 : Option Addr) (n5 c5 : Nat), gk = n - i ∧ i ≤ n ∧ iv = .int .i64 (i : Int) ∧ Hid (PAt bp base wr (.slice a5 n5 c5) N (D ++ Lib.uvarint (n * 4 + f) ++ (TS.take i).flatMap Tk.enc) ∧ wr.heap[b3]? = some (.cells #[.string r, .string c, .slice a n tc] 46) ∧ Ap true bp base w wr))
      case atStart => exact ⟨0, a2, n2, c2, by omega, by omega, rfl, by rw [List.take_zero, List.flatMap_nil, List.append_nil]; exact HT0⟩
      case round =>
        clear q6
        obtain ⟨i, a5, n5, c5, hgk, hi5, rfl, HR⟩ := hrel
        by_cases hlt : i < n
        · obtain ⟨t, ht⟩ : ∃ t, TS[i]? = some t := ⟨_, List.getElem?_eq_getElem (by have := H.out.1.len; omega)⟩
          obtain ⟨g, o, a', c', ca, cc, hx, hT⟩ := (H.out.1.ap HR.out.2.2).cell i t ht
          subst hx
          have hltb : decide ((i : Int) < (n : Int)) = true := by simp; omega
          have hlt' : (i : Int) < (n : Int) := by omega
          have k0 := hT.tx.c0
          have k1 := hT.tx.c1
          have k2 := hT.tx.c2
          have k3 := hT.c3
          have hgl : g < wr.heap.size := cell_lt k0
          have hfl := flat_take_le Tk.enc TS (i + 1)
          rw [flat_take_succ _ ht, List.length_append] at hfl
          have HTK : Hid ((TS.take (i + 1)).flatMap Tk.enc = (TS.take i).flatMap Tk.enc ++ t.enc) := flat_take_succ Tk.enc ht
          have HX : Hid (TkAt bp base wr g (o + i * 4) t a' c' ca cc) := hT
          have hbr : bp < wr.heap.size := (Array.getElem?_eq_some_iff.1 HR.out.1.box).1
          clear hT ht
          go_upto_region 13 with fail
          have hb8 : Below wr.heap.size wr (wr.alloc (.cells #[.string t.x.s, .float .f64 t.x.f, .slice a' t.x.I.length c', .slice ca t.C.length cc] 31)) := (Below.refl _ _).alloc (Nat.le_refl _) _
          have HV : Hid ((PAt bp base (wr.alloc (.cells #[.string t.x.s, .float .f64 t.x.f, .slice a' t.x.I.length c', .slice ca t.C.length cc] 31)) (.slice a5 n5 c5) N (D ++ Lib.uvarint (n * 4 + f) ++ (TS.take i).flatMap Tk.enc) ∧ (wr.alloc (.cells #[.string t.x.s, .float .f64 t.x.f, .slice a' t.x.I.length c', .slice ca t.C.length cc] 31)).heap[b3]? = some (.cells #[.string r, .string c, .slice (some ⟨g, o, none⟩) n tc] 46) ∧ Ap true bp base w (wr.alloc (.cells #[.string t.x.s, .float .f64 t.x.f, .slice a' t.x.I.length c', .slice ca t.C.length cc] 31))) ∧ (wr.alloc (.cells #[.string t.x.s, .float .f64 t.x.f, .slice a' t.x.I.length c', .slice ca t.C.length cc] 31)).heap[wr.heap.size]? = some (.cells #[.string t.x.s, .float .f64 t.x.f, .slice a' t.x.I.length c', .slice ca t.C.length cc] 31) ∧ TkAt bp base (wr.alloc (.cells #[.string t.x.s, .float .f64 t.x.f, .slice a' t.x.I.length c', .slice ca t.C.length cc] 31)) g (o + i * 4) t a' c' ca cc) := ⟨⟨HR.out.1.below hb8, (hb8.block b3 (Array.getElem?_eq_some_iff.1 HR.out.2.1).1).trans HR.out.2.1, HR.out.2.2.next hb8⟩, Deep.blk_alloc_new _ _, HX.out.ap (b := false) (.of_below hb8)⟩
          clear hb8 k0 k1 k2 k3 hgl HX hbr
          generalize wr.alloc (.cells #[.string t.x.s, .float .f64 t.x.f, .slice a' t.x.I.length c', .slice ca t.C.length cc] 31) = W8 at HV ⊢
          generalize wr.heap.size = b8 at HV ⊢
          have s0 : W8.cell? ⟨bp, 0, none⟩ = some (.slice a5 n5 c5) := cell_atB HV.out.1.1.box rfl
          have t0 : W8.cell? ⟨b8, 0, none⟩ = some (.string t.x.s) := cell_atB HV.out.2.1 rfl
          have t1 : W8.cell? ⟨b8, 1, none⟩ = some (.float .f64 t.x.f) := cell_atB HV.out.2.1 rfl
          have t2 : W8.cell? ⟨b8, 2, none⟩ = some (.slice a' t.x.I.length c') := cell_atB HV.out.2.1 rfl
          have t3 : W8.cell? ⟨b8, 3, none⟩ = some (.slice ca t.C.length cc) := cell_atB HV.out.2.1 rfl
          have hb9 : base ≤ W8.heap.size := Nat.le_trans hb0 HV.out.1.2.2.size
          have HDB : Hid (∀ W', Below W8.heap.size W8 W' → Dat base W' (.slice a5 n5 c5) (D ++ Lib.uvarint (n * 4 + f) ++ (TS.take i).flatMap Tk.enc) ∧ base ≤ W'.heap.size ∧ PAt bp base W' (.slice a5 n5 c5) N (D ++ Lib.uvarint (n * 4 + f) ++ (TS.take i).flatMap Tk.enc) ∧ W'.heap[b3]? = some (.cells #[.string r, .string c, .slice (some ⟨g, o, none⟩) n tc] 46) ∧ Ap true bp base w W' ∧ TkAt bp base W' g (o + i * 4) t a' c' ca cc) := fun W' hB => ⟨HV.out.1.1.dat.below hB, Nat.le_trans hb9 hB.size, HV.out.1.1.below hB, (hB.block b3 (Array.getElem?_eq_some_iff.1 HV.out.1.2.1).1).trans HV.out.1.2.1, HV.out.1.2.2.next hB, HV.out.2.2.ap (b := false) (.of_below hB)⟩
          have HENC : Hid (encTok t.x ca.isNone t.C = t.enc) := by show encTok t.x ca.isNone t.C = encTok t.x t.cn t.C; rw [HV.out.2.2.cn]
          have hts := HV.out.2.2.tx.size
          have ht64 := HV.out.2.2.tx.f64
          go_region_with (first | (go_at_call 37; refine (appendToken_any bp base t.x t.C a' ca c' cc (D ++ Lib.uvarint (n * 4 + f) ++ (TS.take i).flatMap Tk.enc) (.slice a5 n5 c5) _ HV.out.2.2.tx.bn ?_ hts ht64 ?_ ?_ ?_ (by rw [HENC.out, List.length_append]; omega)).mono ?_; exact (HDB.out _ (by first | with_reducible exact Below.refl _ _ | with_reducible exact (Below.refl _ _).drew | with_reducible exact (Below.refl _ _).drew.drew)).2.2.2.2.2.tx.ints; exact (HDB.out _ (by first | with_reducible exact Below.refl _ _ | with_reducible exact (Below.refl _ _).drew | with_reducible exact (Below.refl _ _).drew.drew)).2.2.2.2.2.cands; exact (HDB.out _ (by first | with_reducible exact Below.refl _ _ | with_reducible exact (Below.refl _ _).drew | with_reducible exact (Below.refl _ _).drew.drew)).1; exact (HDB.out _ (by first | with_reducible exact Below.refl _ _ | with_reducible exact (Below.refl _ _).drew | with_reducible exact (Below.refl _ _).drew.drew)).2.1; rintro e w9 ⟨v9, rfl, hd9, ha9⟩; obtain ⟨a9, n9, c9, rfl⟩ := dat_slice hd9; have hB9 := bel_of (w1 := W8) ha9 (by first | with_reducible exact Below.refl _ _ | with_reducible exact (Below.refl _ _).drew | with_reducible exact (Below.refl _ _).drew.drew); have hD9 := HDB.out _ hB9; have hbx9 := ha9.keep hD9.2.2.1.box (by decide); have s9 := cell_atB (i := 0) (v := (.slice a5 n5 c5)) hbx9 rfl; have fz9 := frozen_atB hbx9 0; have HR9 : Hid (PAt bp base (w9.setCell ⟨bp, 0, none⟩ (.slice a9 n9 c9)) (.slice a9 n9 c9) N (D ++ Lib.uvarint (n * 4 + f) ++ (TS.take i).flatMap Tk.enc ++ encTok t.x ca.isNone t.C) ∧ (w9.setCell ⟨bp, 0, none⟩ (.slice a9 n9 c9)).heap[b3]? = some (.cells #[.string r, .string c, .slice (some ⟨g, o, none⟩) n tc] 46) ∧ Ap true bp base w (w9.setCell ⟨bp, 0, none⟩ (.slice a9 n9 c9))) := ⟨hD9.2.2.1.store ha9 hd9 hbp, by rw [Below.heap_setCell _ _ _ _ (by simp; omega)]; exact ha9.keep hD9.2.2.2.1 (by decide), (hD9.2.2.2.2.1.trans ha9.weak).set 0 _⟩; clear hd9 ha9 hB9 hD9 hbx9; dsimp only))
          all_goals
            go_wp2
            go_roundg (n - (i + 1))
            case measure => omega
            case rel =>
              refine ⟨i + 1, a9, n9, c9, rfl, by omega, by go_num, ?_⟩
              have h9 := HR9.out
              rw [HENC.out, List.append_assoc, ← HTK.out] at h9
              exact h9
        · have hltb : decide ((i : Int) < (n : Int)) = false := by simp; omega
          have hin : i = n := by omega
          have hn0 : TS.take i = TS := List.take_of_length_le (by have := H.out.1.len; omega)
          have HN0 : Hid (TS.take i = TS) := hn0
          have s0 : wr.cell? ⟨bp, 0, none⟩ = some (.slice a5 n5 c5) := cell_atB HR.out.1.box rfl
          have s1 : wr.cell? ⟨bp, 1, none⟩ = some (.int .i64 (N : Int)) := cell_atB HR.out.1.box rfl
          have fz := frozen_atB HR.out.1.box 1
          clear hn0
          go_wp2
          refine bodyPost_ret (v := .tuple #[]) (by simp [results, Try.results24, go_sem]) rfl ?_
          refine ⟨rfl, f, .slice a5 n5 c5, HF.out, ?_, HR.out.2.2.set 1 _⟩
          have h9 := HR.out.1.count hbp
          rw [HN0.out] at h9
          have e : D ++ Lib.uvarint (n * 4 + f) ++ TS.flatMap Tk.enc = D ++ (Pc.mk f r.data.toList c.data.toList TS).enc := by
            rw [HDT.out]
            unfold Pc.enc
            simp only [List.append_assoc]
          rw [e] at h9
          exact h9
    case pos =>
      have hfb : ((f : Int) == 2) = true := by simp; omega
      have HF2 : Hid (f = 2) := hf2
      clear hf2
      have q7 : wc.cell? ⟨b3, 0, none⟩ = some (.string r) := cell_atB HW2.out.2.1 rfl
      have q8 : wc.cell? ⟨b3, 1, none⟩ = some (.string c) := cell_atB HW2.out.2.1 rfl
      go_wp2_with fail
      have hb32 : Below wc.heap.size wc (wc.alloc (.cells #[.string r, .string c] 9)) := (Below.refl _ _).alloc (Nat.le_refl _) _
      have HW3 : Hid ((PAt bp base (wc.alloc (.cells #[.string r, .string c] 9)) (.slice a2 n2 c2) N (D ++ Lib.uvarint (n * 4 + f)) ∧ (wc.alloc (.cells #[.string r, .string c] 9)).heap[b3]? = some (.cells #[.string r, .string c, .slice a n tc] 46) ∧ Ap true bp base w (wc.alloc (.cells #[.string r, .string c] 9))) ∧ (wc.alloc (.cells #[.string r, .string c] 9)).heap[wc.heap.size]? = some (.cells #[.string r, .string c] 9)) := ⟨⟨HW2.out.1.below hb32, (hb32.block b3 (Array.getElem?_eq_some_iff.1 HW2.out.2.1).1).trans HW2.out.2.1, HW2.out.2.2.next hb32⟩, Deep.blk_alloc_new _ _⟩
      have hbpw : bp < wc.heap.size := (Array.getElem?_eq_some_iff.1 HW2.out.1.box).1
      clear hb32 q6 q7 q8 hfb
      generalize wc.alloc (.cells #[.string r, .string c] 9) = W3 at HW3 ⊢
      generalize wc.heap.size = b32 at HW3 hbpw ⊢
      go_loopg [34] 2 (fun gk iv wr => ∃ (i : Nat) (a3 : Option Addr) (n3 c3 : Nat), gk = 2 - i ∧ i ≤ 2 ∧ iv = .int .i64 (i : Int) ∧ Hid ((PAt bp base wr (.slice a3 n3 c3) N (D ++ Lib.uvarint (n * 4 + f) ++ part r c i) ∧ wr.heap[b3]? = some (.cells #[.string r, .string c, .slice a n tc] 46) ∧ Ap true bp base w wr) ∧ wr.heap[b32]? = some (.cells #[.string r, .string c] 9)))
      case atStart => exact ⟨0, a2, n2, c2, by omega, by omega, rfl, by show _ ∧ _; rw [show part r c 0 = [] from rfl, List.append_nil]; exact HW3.out⟩
      case round =>
        obtain ⟨i, a3, n3, c3, hgk, hi3, rfl, HR⟩ := hrel
        by_cases hlt : i < 2
        · have hltb : decide ((i : Int) < 2) = true := by simp; omega
          have hlt' : (i : Int) < 2 := by omega
          have k0 : wr.cell? ⟨b32, i, none⟩ = some (.string (txt r c i)) := by
            obtain rfl | rfl : i = 0 ∨ i = 1 := by omega
            · exact cell_atB HR.out.2 rfl
            · exact cell_atB HR.out.2 rfl
          have s0 : wr.cell? ⟨bp, 0, none⟩ = some (.slice a3 n3 c3) := cell_atB HR.out.1.1.box rfl
          have hbr : base ≤ wr.heap.size := Nat.le_trans hb0 HR.out.1.2.2.size
          have hx1 := txt_le r c hr hc i
          have hpl := part_le r c hr hc i
          have hux := Lib.uvarint_length64 (x := (txt r c i).size) (by omega)
          have HPS : Hid (part r c (i + 1) = part r c i ++ (Lib.uvarint (txt r c i).size ++ (txt r c i).data.toList)) := part_step r c hlt
          generalize htx : txt r c i = s at *
          have hpp := part_le r c hr hc (i + 1)
          have hsm : s.size ≤ 1048576 := hx1.1
          clear hx1
          have hp2 : (part r c i).length + (Lib.uvarint s.size).length + s.size ≤ r.size + c.size + 20 := by
            rw [HPS.out, List.length_append, List.length_append, size_list] at hpp
            omega
          clear htx hpp
          go_wp2_with fail
          refine (appendUvarint_any bp base s.size _ _ wr (by omega) HR.out.1.1.dat hbr (by simp only [List.length_append]; omega)).mono ?_
          rintro e w4 ⟨v4, rfl, hd4, ha4⟩
          obtain ⟨a4, n4, c4, rfl⟩ := dat_slice hd4
          have hbx4 := ha4.keep HR.out.1.1.box (by decide)
          have s4 := cell_atB (i := 0) (v := .slice a3 n3 c3) hbx4 rfl
          have fz4 := frozen_atB hbx4 0
          have HV4 : Hid ((PAt bp base (w4.setCell ⟨bp, 0, none⟩ (.slice a4 n4 c4)) (.slice a4 n4 c4) N (D ++ Lib.uvarint (n * 4 + f) ++ part r c i ++ Lib.uvarint s.size) ∧ (w4.setCell ⟨bp, 0, none⟩ (.slice a4 n4 c4)).heap[b3]? = some (.cells #[.string r, .string c, .slice a n tc] 46) ∧ Ap true bp base w (w4.setCell ⟨bp, 0, none⟩ (.slice a4 n4 c4))) ∧ (w4.setCell ⟨bp, 0, none⟩ (.slice a4 n4 c4)).heap[b32]? = some (.cells #[.string r, .string c] 9)) := ⟨⟨HR.out.1.1.store ha4 hd4 hbp, by rw [Below.heap_setCell _ _ _ _ (by simp; omega)]; exact ha4.keep HR.out.1.2.1 (by decide), (HR.out.1.2.2.trans ha4.weak).set 0 _⟩, by rw [Below.heap_setCell _ _ _ _ (by simp; omega)]; exact ha4.keep HR.out.2 (by decide)⟩
          clear hd4 ha4 hbx4 k0 s0
          dsimp only
          go_upto_region 8 with fail
          clear s4 fz4
          generalize w4.setCell ⟨bp, 0, none⟩ (.slice a4 n4 c4) = W5 at HV4 ⊢
          have s5 : W5.cell? ⟨bp, 0, none⟩ = some (.slice a4 n4 c4) := cell_atB HV4.out.1.1.box rfl
          have hown5 : W5.ownsRow base 5 1 (.slice a4 n4 c4) (D ++ Lib.uvarint (n * 4 + f) ++ part r c i ++ Lib.uvarint s.size).length (Lib.byteCells (D ++ Lib.uvarint (n * 4 + f) ++ part r c i ++ Lib.uvarint s.size)) := HV4.out.1.1.dat
          have hb5 : base ≤ W5.heap.size := Nat.le_trans hb0 HV4.out.1.2.2.size
          have hdl : (D ++ Lib.uvarint (n * 4 + f) ++ part r c i ++ Lib.uvarint s.size).length + s.size ≤ 1099511627776 := by simp only [List.length_append]; omega
          go_wp2_with (at_builtin; refine Lib.wpList_append_own_string _ rfl _ _ 39 9 rfl base 5 i0 Try.underlying39 Try.underlying9 hi0 hz0 hz1 hz2 _ _ _ rfl hown5 s rfl (by unfold maxLen; omega) (by omega) hb5 ?_; intro v6 w6 hown6 hgrow6 _; have ha6 := (Ap.refl false bp base W5).grown hown5 hgrow6; have hd6 : Dat base w6 v6 (D ++ Lib.uvarint (n * 4 + f) ++ part r c i ++ Lib.uvarint s.size ++ s.data.toList) := Dat.of (n := (D ++ Lib.uvarint (n * 4 + f) ++ part r c i ++ Lib.uvarint s.size).length + s.size) (by rw [← strCells_eq]; exact hown6) (by rw [size_list]); obtain ⟨a6, n6, c6, rfl⟩ := dat_slice hd6; have hbx6 := ha6.keep HV4.out.1.1.box (by decide); have s6 := cell_atB (i := 0) (v := .slice a4 n4 c4) hbx6 rfl; have fz6 := frozen_atB hbx6 0; have HV6 : Hid ((PAt bp base (w6.setCell ⟨bp, 0, none⟩ (.slice a6 n6 c6)) (.slice a6 n6 c6) N (D ++ Lib.uvarint (n * 4 + f) ++ part r c i ++ Lib.uvarint s.size ++ s.data.toList) ∧ (w6.setCell ⟨bp, 0, none⟩ (.slice a6 n6 c6)).heap[b3]? = some (.cells #[.string r, .string c, .slice a n tc] 46) ∧ Ap true bp base w (w6.setCell ⟨bp, 0, none⟩ (.slice a6 n6 c6))) ∧ (w6.setCell ⟨bp, 0, none⟩ (.slice a6 n6 c6)).heap[b32]? = some (.cells #[.string r, .string c] 9)) := ⟨⟨HV4.out.1.1.store ha6 hd6 hbp, by rw [Below.heap_setCell _ _ _ _ (by simp; omega)]; exact ha6.keep HV4.out.1.2.1 (by decide), (HV4.out.1.2.2.trans ha6.weak).set 0 _⟩, by rw [Below.heap_setCell _ _ _ _ (by simp; omega)]; exact ha6.keep HV4.out.2 (by decide)⟩; clear hown6 hgrow6 ha6 hd6 hbx6)
          go_roundg (2 - (i + 1))
          case measure => omega
          case rel =>
            refine ⟨i + 1, a6, n6, c6, rfl, by omega, by go_num, ?_⟩
            have h6 := HV6.out
            rw [List.append_assoc, List.append_assoc, ← HPS.out] at h6
            exact h6
        · have hltb : decide ((i : Int) < 2) = false := by simp; omega
          obtain rfl : i = 2 := by omega
          have q6 : wr.cell? ⟨b3, 2, none⟩ = some (.slice a n tc) := cell_atB HR.out.1.2.1 rfl
          have HT0 : Hid (PAt bp base wr (.slice a3 n3 c3) N (D ++ Lib.uvarint (n * 4 + f) ++ part r c 2) ∧ wr.heap[b3]? = some (.cells #[.string r, .string c, .slice a n tc] 46) ∧ Ap true bp base w wr) := HR.out.1
          have HDT : Hid (D ++ Lib.uvarint (n * 4 + f) ++ part r c 2 = D ++ (Lib.uvarint (TS.length * 4 + f) ++ (if f = 2 then Lib.uvarint r.data.toList.length ++ r.data.toList ++ Lib.uvarint c.data.toList.length ++ c.data.toList else []))) := by
            show D ++ Lib.uvarint (n * 4 + f) ++ part r c 2 = _
            rw [if_pos HF2.out, H.out.1.len]
            simp [part, List.append_assoc]
          have hdt : (D ++ Lib.uvarint (n * 4 + f) ++ part r c 2).length + (TS.flatMap Tk.enc).length ≤ 1099511627776 := by
            have := part_le r c hr hc 2
            rw [List.length_append, List.length_append]
            omega
          clear HR hgk hi3 hlt hltb
          go_wp2_with fail
          go_loopg [62] n (fun gk iv wr => ∃ (i : Nat) (a5 : Option Addr) (n5 c5 : Nat), gk = n - i ∧ i ≤ n ∧ iv = .int .i64 (i : Int) ∧ Hid (PAt bp base wr (.slice a5 n5 c5) N (D ++ Lib.uvarint (n * 4 + f) ++ part r c 2 ++ (TS.take i).flatMap Tk.enc) ∧ wr.heap[b3]? = some (.cells #[.string r, .string c, .slice a n tc] 46) ∧ Ap true bp base w wr))
          case atStart => exact ⟨0, a3, n3, c3, by omega, by omega, rfl, by rw [List.take_zero, List.flatMap_nil, List.append_nil]; exact HT0⟩
          case round =>
            clear q6
            obtain ⟨i, a5, n5, c5, hgk, hi5, rfl, HR⟩ := hrel
            by_cases hlt : i < n
            · obtain ⟨t, ht⟩ : ∃ t, TS[i]? = some t := ⟨_, List.getElem?_eq_getElem (by have := H.out.1.len; omega)⟩
              obtain ⟨g, o, a', c', ca, cc, hx, hT⟩ := (H.out.1.ap HR.out.2.2).cell i t ht
              subst hx
              have hltb : decide ((i : Int) < (n : Int)) = true := by simp; omega
              have hlt' : (i : Int) < (n : Int) := by omega
              have k0 := hT.tx.c0
              have k1 := hT.tx.c1
              have k2 := hT.tx.c2
              have k3 := hT.c3
              have hgl : g < wr.heap.size := cell_lt k0
              have hfl := flat_take_le Tk.enc TS (i + 1)
              rw [flat_take_succ _ ht, List.length_append] at hfl
              have HTK : Hid ((TS.take (i + 1)).flatMap Tk.enc = (TS.take i).flatMap Tk.enc ++ t.enc) := flat_take_succ Tk.enc ht
              have HX : Hid (TkAt bp base wr g (o + i * 4) t a' c' ca cc) := hT
              have hbr : bp < wr.heap.size := (Array.getElem?_eq_some_iff.1 HR.out.1.box).1
              clear hT ht
              go_upto_region 13 with fail
              have hb8 : Below wr.heap.size wr (wr.alloc (.cells #[.string t.x.s, .float .f64 t.x.f, .slice a' t.x.I.length c', .slice ca t.C.length cc] 31)) := (Below.refl _ _).alloc (Nat.le_refl _) _
              have HV : Hid ((PAt bp base (wr.alloc (.cells #[.string t.x.s, .float .f64 t.x.f, .slice a' t.x.I.length c', .slice ca t.C.length cc] 31)) (.slice a5 n5 c5) N (D ++ Lib.uvarint (n * 4 + f) ++ part r c 2 ++ (TS.take i).flatMap Tk.enc) ∧ (wr.alloc (.cells #[.string t.x.s, .float .f64 t.x.f, .slice a' t.x.I.length c', .slice ca t.C.length cc] 31)).heap[b3]? = some (.cells #[.string r, .string c, .slice (some ⟨g, o, none⟩) n tc] 46) ∧ Ap true bp base w (wr.alloc (.cells #[.string t.x.s, .float .f64 t.x.f, .slice a' t.x.I.length c', .slice ca t.C.length cc] 31))) ∧ (wr.alloc (.cells #[.string t.x.s, .float .f64 t.x.f, .slice a' t.x.I.length c', .slice ca t.C.length cc] 31)).heap[wr.heap.size]? = some (.cells #[.string t.x.s, .float .f64 t.x.f, .slice a' t.x.I.length c', .slice ca t.C.length cc] 31) ∧ TkAt bp base (wr.alloc (.cells #[.string t.x.s, .float .f64 t.x.f, .slice a' t.x.I.length c', .slice ca t.C.length cc] 31)) g (o + i * 4) t a' c' ca cc) := ⟨⟨HR.out.1.below hb8, (hb8.block b3 (Array.getElem?_eq_some_iff.1 HR.out.2.1).1).trans HR.out.2.1, HR.out.2.2.next hb8⟩, Deep.blk_alloc_new _ _, HX.out.ap (b := false) (.of_below hb8)⟩
              clear hb8 k0 k1 k2 k3 hgl HX hbr
              generalize wr.alloc (.cells #[.string t.x.s, .float .f64 t.x.f, .slice a' t.x.I.length c', .slice ca t.C.length cc] 31) = W8 at HV ⊢
              generalize wr.heap.size = b8 at HV ⊢
              have s0 : W8.cell? ⟨bp, 0, none⟩ = some (.slice a5 n5 c5) := cell_atB HV.out.1.1.box rfl
              have t0 : W8.cell? ⟨b8, 0, none⟩ = some (.string t.x.s) := cell_atB HV.out.2.1 rfl
              have t1 : W8.cell? ⟨b8, 1, none⟩ = some (.float .f64 t.x.f) := cell_atB HV.out.2.1 rfl
              have t2 : W8.cell? ⟨b8, 2, none⟩ = some (.slice a' t.x.I.length c') := cell_atB HV.out.2.1 rfl
              have t3 : W8.cell? ⟨b8, 3, none⟩ = some (.slice ca t.C.length cc) := cell_atB HV.out.2.1 rfl
              have hb9 : base ≤ W8.heap.size := Nat.le_trans hb0 HV.out.1.2.2.size
              have HDB : Hid (∀ W', Below W8.heap.size W8 W' → Dat base W' (.slice a5 n5 c5) (D ++ Lib.uvarint (n * 4 + f) ++ part r c 2 ++ (TS.take i).flatMap Tk.enc) ∧ base ≤ W'.heap.size ∧ PAt bp base W' (.slice a5 n5 c5) N (D ++ Lib.uvarint (n * 4 + f) ++ part r c 2 ++ (TS.take i).flatMap Tk.enc) ∧ W'.heap[b3]? = some (.cells #[.string r, .string c, .slice (some ⟨g, o, none⟩) n tc] 46) ∧ Ap true bp base w W' ∧ TkAt bp base W' g (o + i * 4) t a' c' ca cc) := fun W' hB => ⟨HV.out.1.1.dat.below hB, Nat.le_trans hb9 hB.size, HV.out.1.1.below hB, (hB.block b3 (Array.getElem?_eq_some_iff.1 HV.out.1.2.1).1).trans HV.out.1.2.1, HV.out.1.2.2.next hB, HV.out.2.2.ap (b := false) (.of_below hB)⟩
              have HENC : Hid (encTok t.x ca.isNone t.C = t.enc) := by show encTok t.x ca.isNone t.C = encTok t.x t.cn t.C; rw [HV.out.2.2.cn]
              have hts := HV.out.2.2.tx.size
              have ht64 := HV.out.2.2.tx.f64
              go_region_with (first | (go_at_call 37; refine (appendToken_any bp base t.x t.C a' ca c' cc (D ++ Lib.uvarint (n * 4 + f) ++ part r c 2 ++ (TS.take i).flatMap Tk.enc) (.slice a5 n5 c5) _ HV.out.2.2.tx.bn ?_ hts ht64 ?_ ?_ ?_ (by rw [HENC.out, List.length_append]; omega)).mono ?_; exact (HDB.out _ (by first | with_reducible exact Below.refl _ _ | with_reducible exact (Below.refl _ _).drew | with_reducible exact (Below.refl _ _).drew.drew)).2.2.2.2.2.tx.ints; exact (HDB.out _ (by first | with_reducible exact Below.refl _ _ | with_reducible exact (Below.refl _ _).drew | with_reducible exact (Below.refl _ _).drew.drew)).2.2.2.2.2.cands; exact (HDB.out _ (by first | with_reducible exact Below.refl _ _ | with_reducible exact (Below.refl _ _).drew | with_reducible exact (Below.refl _ _).drew.drew)).1; exact (HDB.out _ (by first | with_reducible exact Below.refl _ _ | with_reducible exact (Below.refl _ _).drew | with_reducible exact (Below.refl _ _).drew.drew)).2.1; rintro e w9 ⟨v9, rfl, hd9, ha9⟩; obtain ⟨a9, n9, c9, rfl⟩ := dat_slice hd9; have hB9 := bel_of (w1 := W8) ha9 (by first | with_reducible exact Below.refl _ _ | with_reducible exact (Below.refl _ _).drew | with_reducible exact (Below.refl _ _).drew.drew); have hD9 := HDB.out _ hB9; have hbx9 := ha9.keep hD9.2.2.1.box (by decide); have s9 := cell_atB (i := 0) (v := (.slice a5 n5 c5)) hbx9 rfl; have fz9 := frozen_atB hbx9 0; have HR9 : Hid (PAt bp base (w9.setCell ⟨bp, 0, none⟩ (.slice a9 n9 c9)) (.slice a9 n9 c9) N (D ++ Lib.uvarint (n * 4 + f) ++ part r c 2 ++ (TS.take i).flatMap Tk.enc ++ encTok t.x ca.isNone t.C) ∧ (w9.setCell ⟨bp, 0, none⟩ (.slice a9 n9 c9)).heap[b3]? = some (.cells #[.string r, .string c, .slice (some ⟨g, o, none⟩) n tc] 46) ∧ Ap true bp base w (w9.setCell ⟨bp, 0, none⟩ (.slice a9 n9 c9))) := ⟨hD9.2.2.1.store ha9 hd9 hbp, by rw [Below.heap_setCell _ _ _ _ (by simp; omega)]; exact ha9.keep hD9.2.2.2.1 (by decide), (hD9.2.2.2.2.1.trans ha9.weak).set 0 _⟩; clear hd9 ha9 hB9 hD9 hbx9; dsimp only))
              all_goals
                go_wp2
                go_roundg (n - (i + 1))
                case measure => omega
                case rel =>
                  refine ⟨i + 1, a9, n9, c9, rfl, by omega, by go_num, ?_⟩
                  have h9 := HR9.out
                  rw [HENC.out, List.append_assoc, ← HTK.out] at h9
                  exact h9
            · have hltb : decide ((i : Int) < (n : Int)) = false := by simp; omega
              have hin : i = n := by omega
              have hn0 : TS.take i = TS := List.take_of_length_le (by have := H.out.1.len; omega)
              have HN0 : Hid (TS.take i = TS) := hn0
              have s0 : wr.cell? ⟨bp, 0, none⟩ = some (.slice a5 n5 c5) := cell_atB HR.out.1.box rfl
              have s1 : wr.cell? ⟨bp, 1, none⟩ = some (.int .i64 (N : Int)) := cell_atB HR.out.1.box rfl
              have fz := frozen_atB HR.out.1.box 1
              clear hn0
              go_wp2
              refine bodyPost_ret (v := .tuple #[]) (by simp [results, Try.results24, go_sem]) rfl ?_
              refine ⟨rfl, f, .slice a5 n5 c5, HF.out, ?_, HR.out.2.2.set 1 _⟩
              have h9 := HR.out.1.count hbp
              rw [HN0.out] at h9
              have e : D ++ Lib.uvarint (n * 4 + f) ++ part r c 2 ++ TS.flatMap Tk.enc = D ++ (Pc.mk f r.data.toList c.data.toList TS).enc := by
                rw [HDT.out]
                unfold Pc.enc
                simp only [List.append_assoc]
              rw [e] at h9
              exact h9
end Go.Proofs.Qxb6618748a
