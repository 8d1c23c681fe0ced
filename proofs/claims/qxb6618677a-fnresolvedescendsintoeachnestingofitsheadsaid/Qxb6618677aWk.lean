/-
  (Fields).walk$1: the walk's iterator, by its contract: for every loop body that keeps what the iterator reads.
-/
import Derived.Test.Qxb6618677aNm
import Derived.RangeFuncNested
import Derived.RangeFuncBound
import Derived.RangeFuncCalls
import Derived.RangeFuncLeaves
import Derived.Shelf.Abstract
import Derived.Shelf.RegionOpen
import Derived.OwnWalkIn
import Derived.TacticsInMore
import Derived.LoopNIn
import Derived.LoopIn
import Derived.Sort.QuietIn
namespace Go.Proofs.Qxb6618677a
open Go.RowKit Go.Shelf
attribute [local go_sem] Oper.semAt_some

/-- The blocks of S lie as they lay; so do the rows of cells of the types of Y. -/
structure Keep (S Y : Nat → Prop) (W W' : World) : Prop where
  s : ∀ k, S k → W'.heap[k]? = W.heap[k]?
  y : ∀ (k : Nat) (c : Array Value) (t : TypeId) (fr : Nat × Nat), Y t → W.heap[k]? = some (.cells c t fr) → W'.heap[k]? = some (.cells c t fr)
theorem Keep.refl (S Y : Nat → Prop) (W : World) : Keep S Y W W := ⟨fun _ _ => rfl, fun _ _ _ _ _ h => h⟩
theorem Keep.trans {S Y : Nat → Prop} {A B C : World} (h : Keep S Y A B) (k : Keep S Y B C) : Keep S Y A C := ⟨fun i hi => (k.s i hi).trans (h.s i hi), fun i c t fr ht hc => k.y i c t fr ht (h.y i c t fr ht hc)⟩
theorem Keep.below {S Y : Nat → Prop} {A B : World} (h : Below A.heap.size A B) (hS : ∀ k, S k → k < A.heap.size) : Keep S Y A B :=
  ⟨fun i hi => h.block i (hS i hi), fun i _ _ _ _ hc => (h.block i (Array.getElem?_eq_some_iff.1 hc).1).trans hc⟩
theorem Keep.lt {S Y : Nat → Prop} {w W : World} (h : Keep S Y w W) (hS : ∀ k, S k → k < w.heap.size) : ∀ k, S k → k < W.heap.size :=
  fun k hk => (Array.getElem?_eq_some_iff.1 ((h.s k hk).trans (Array.getElem?_eq_getElem (hS k hk)))).1
theorem Keep.drewN {S Y : Nat → Prop} {w W : World} (h : Keep S Y w W) (n : Nat) : Keep S Y w (W.drewN n) := ⟨h.s, h.y⟩
theorem keepK_b {S Y : Nat → Prop} {w : World} (hS : ∀ k, S k → k < w.heap.size) (W : World) (l : Nat) (o o' : Obj) (hl : w.heap.size ≤ l) (ho : W.heap[l]? = some o) (hc : o.isCells = false) (_ : o.isWalk = false) : Keep S Y W (W.putObj l o') :=
  ⟨fun k hk => World.putObj_heap_other (by have := hS k hk; omega), fun k c t fr _ h => by
    rw [World.putObj_heap_other]
    · exact h
    · rintro rfl
      rw [ho] at h
      cases h
      simp [Obj.isCells] at hc⟩
theorem IsTree.keep {S Y : Nat → Prop} {w W : World} {bt : Nat} {T X : ByteArray} (h : IsTree w bt T X) (hk : Keep S Y w W) (hS : S bt) : IsTree W bt T X := ⟨(hk.s bt hS).trans h.blk⟩
theorem abides_below {β : Type} {B : Nat} {J : β → World → Prop} (h : AbidesFrom B J) {s : β} {W W' : World} (hj : J s W) (hb : Below W.heap.size W W') : J s W' :=
  h s W W' none hj ⟨hb.os, hb.tape, hb.output, hb.size, fun k hk _ => hb.block k hk⟩ (fun r e => by cases e)

def encF (bt : Nat) (p : Nat × Stif.Tok) : Array Value := #[.int .i64 p.1, .agg #[.pointer (some ⟨bt, 0, none⟩), .int .i64 p.2.tok, .int .i64 p.2.txt, .int .i64 0]]

set_option maxRecDepth 100000 in
set_option maxHeartbeats 2000000 in
theorem walk1_in (n : Nat) (hn : 1 ≤ n) (l bf bi bt gi : Nat) (lbi : Array Value) (T X : ByteArray) (into : Nat → Stif.Tok → Bool) (S Y : Nat → Prop) (hY78 : Y 78) (ts0 : List Stif.Tok) (i0 x0 k0 : Nat) (J Jx : List (Nat × Stif.Tok) → World → Prop) (w W : World)
    (hT : T.size ≤ 1048576) (hX : X.size ≤ 1048576) (hSw : ∀ k, S k → k < w.heap.size) (hSf : S bf) (hSi : S bi) (hSt : S bt) (hf : w.heap[bf]? = some (.cells #[.pointer (some ⟨bt, 0, none⟩), .int .i64 i0, .int .i64 x0, .int .i64 0] 35 (0, 0)))
    (hi : w.heap[bi]? = some (.cells #[.func (.func gi) #[] lbi] 80 (0, 0))) (htr : IsTree w bt T X) (hch : Stif.chain T X.size i0 x0 ts0 T.size X.size) (hbal : Stif.bal k0 ts0)
    (eg : ∀ args w, (callFunc gi args).run Try.prog w = .ok (.enter gi args) w)
    (hInto : ∀ (U : World) (d i x : Nat) (t : Stif.Tok), Keep S Y w U → Stif.tokAt T i x = some t → x + t.n ≤ X.size → t.kind = 2 → Calls Try.prog gi (#[.int .i64 d, .agg #[.pointer (some ⟨bt, 0, none⟩), .int .i64 i, .int .i64 x, .int .i64 0]] ++ lbi) U fun e U' => e = .returned (.bool (into d t)) ∧ Below U.heap.size U U')
    (hW : Keep S Y w W) (hJ : AbidesFrom W.heap.size J) (_hJx : AbidesFrom W.heap.size Jx)
    (hY : ∀ pre x W1, J pre W1 → pre.length < (Stif.flds into 0 0 ts0).length → YieldAt Fence.wide (n - 1) Try.prog l (encF bt x) W1 fun e W' =>
      (e = .returned (.bool true) ∧ J (pre ++ [x]) W' ∧ Keep S Y W1 W') ∨ (e = .returned (.bool false) ∧ Jx (pre ++ [x]) W'))
    (h0 : J [] W) :
    CallsIn Fence.wide n Try.prog 40 #[.func (.yield l) #[] #[], .pointer (some ⟨bf, 0, none⟩), .pointer (some ⟨bi, 0, none⟩)] W fun e W' => (∃ v, e = .returned v) ∧
      ((∃ ys, ys = Stif.flds into 0 0 ts0 ∧ J ys W') ∨ (∃ pre, pre <+: Stif.flds into 0 0 ts0 ∧ Jx pre W')) := by
  have hro : Fence.wide.round = none := rfl
  refine callsIn_of_wp Try.func40 rfl trivial ?_ hro
  simp only [Try.ntmps40, List.size_toArray, List.length_cons, List.length_nil, Nat.reduceAdd, Nat.reduceSub, Array.replicate_succ, Array.replicate_zero, List.push_toArray, List.append_toArray, List.nil_append, List.cons_append]
  have cf0 : W.cell? ⟨bf, 0, none⟩ = some (.pointer (some ⟨bt, 0, none⟩)) := cell_at ((hW.s bf hSf).trans hf) (by simp)
  have cf1 : W.cell? ⟨bf, 1, none⟩ = some (.int .i64 i0) := cell_at ((hW.s bf hSf).trans hf) (by simp)
  have cf2 : W.cell? ⟨bf, 2, none⟩ = some (.int .i64 x0) := cell_at ((hW.s bf hSf).trans hf) (by simp)
  have cf3 : W.cell? ⟨bf, 3, none⟩ = some (.int .i64 0) := cell_at ((hW.s bf hSf).trans hf) (by simp)
  gi_wp2
  gi_quiet (fail)
  gi_wp2
  have HI : Hid (∀ (U : World) (d i x : Nat) (t : Stif.Tok), Keep S Y w U → Stif.tokAt T i x = some t → x + t.n ≤ X.size → t.kind = 2 → Calls Try.prog gi (#[.int .i64 d, .agg #[.pointer (some ⟨bt, 0, none⟩), .int .i64 i, .int .i64 x, .int .i64 0]] ++ lbi) U fun e U' => e = .returned (.bool (into d t)) ∧ Below U.heap.size U U') := hInto
  have HY : Hid (∀ pre x W1, J pre W1 → pre.length < (Stif.flds into 0 0 ts0).length → YieldAt Fence.wide (n - 1) Try.prog l (encF bt x) W1 fun e W' =>
      (e = .returned (.bool true) ∧ J (pre ++ [x]) W' ∧ Keep S Y W1 W') ∨ (e = .returned (.bool false) ∧ Jx (pre ++ [x]) W')) := hY
  have HF : Hid (w.heap[bf]? = some (.cells #[.pointer (some ⟨bt, 0, none⟩), .int .i64 i0, .int .i64 x0, .int .i64 0] 35 (0, 0)) ∧ w.heap[bi]? = some (.cells #[.func (.func gi) #[] lbi] 80 (0, 0)) ∧ IsTree w bt T X) := ⟨hf, hi, htr⟩
  have HC : Hid (Stif.chain T X.size i0 x0 ts0 T.size X.size ∧ Stif.bal k0 ts0 ∧ Keep S Y w W ∧ J [] W) := ⟨hch, hbal, hW, h0⟩
  clear hInto hY hf hi htr hch hbal hW h0 cf0 cf1 cf2 cf3
  gi_loopw [4, 5, 6, 7] (fun dv iv xv sv wr => ∃ (pre : List (Nat × Stif.Tok)) (ts : List Stif.Tok) (d i x : Nat), dv = .int .i64 d ∧ iv = .int .i64 i ∧ xv = .int .i64 x ∧ sv = .int .i64 0 ∧ d ≤ i ∧ Hid (Stif.chain T X.size i x ts T.size X.size ∧ Stif.bal (k0 + d) ts ∧ Stif.flds into 0 0 ts0 = pre ++ Stif.flds into d 0 ts ∧ J pre wr ∧ Keep S Y w wr)) (fun _ iv _ _ _ => T.size - (intOf iv).toNat)
  case atStart => exact ⟨[], ts0, 0, i0, x0, rfl, rfl, rfl, rfl, Nat.zero_le _, HC.out.1, HC.out.2.1, rfl, abides_below hJ HC.out.2.2.2 (below_drewN (Below.refl _ _) _), HC.out.2.2.1.drewN _⟩
  case round =>
    obtain ⟨pre, ts, d, i, x, rfl, rfl, rfl, rfl, hdi, HR⟩ := hrel
    obtain ⟨rch, rbal, rfl', rJ, rK⟩ := HR.out
    have cf0 : wr.cell? ⟨bf, 0, none⟩ = some (.pointer (some ⟨bt, 0, none⟩)) := cell_at ((rK.s bf hSf).trans HF.out.1) (by simp)
    have ct0 := (HF.out.2.2.keep rK hSt).c0
    clear rbal rfl' rJ rK HC
    cases ts with
    | nil =>
      obtain ⟨rfl, rfl⟩ := rch
      gi_wp2
      go_end0
      refine ⟨⟨_, rfl⟩, .inl ⟨pre, ?_, HR.out.2.2.2.1⟩⟩
      rw [HR.out.2.2.1]
      simp [Stif.flds]
    | cons t r =>
      have rt := rch.1
      have rn := rch.2.1
      obtain ⟨hk3, ht1, ht2, hin, hnT, _⟩ := Stif.tokAt_some rt
      have HT : Hid (Stif.tokAt T i x = some t ∧ t.tok = i ∧ t.txt = x) := ⟨rt, ht1, ht2⟩
      clear rch rt ht1 ht2
      have hkc : t.kind = 0 ∨ t.kind = 1 ∨ t.kind = 2 ∨ t.kind = 3 := by omega
      rcases hkc with hkd | hkd | hkd | hkd
      · have hk3 : ((t.kind : Int) == 3) = false := by rw [beq_eq_false_iff_ne]; omega
        have hk0 : ((t.kind : Int) == 0) = true := by rw [beq_iff_eq]; omega
        have HK : Hid (t.kind = 0) := hkd
        clear hkd
        have hfl : Stif.flds into 0 0 ts0 = pre ++ (d, t) :: Stif.flds into d 0 r := by rw [HR.out.2.2.1, Stif.flds]; simp [HK.out]
        obtain ⟨fn, tmps, assign, body, hy, hR⟩ := HY.out pre (d, t) wr HR.out.2.2.2.1 (by rw [hfl]; simp)
        have HFL : Hid (Stif.flds into 0 0 ts0 = pre ++ (d, t) :: Stif.flds into d 0 r) := hfl
        dsimp only [encF] at hy
        rw [HT.out.2.1, HT.out.2.2] at hy
        clear hfl
        gi_wp2_with (first
          | (refine ⟨trivial, ?_⟩; gi_at_call 41; refine (callsIn_wide.2 (token_tok T i x t _ hT HT.out.1)).mono ?_; rintro e w' ⟨rfl, hw⟩; obtain rfl := hw.symm))
        refine hR.mono ?_
        rintro e W3 (⟨rfl, hJ3, hk3'⟩ | ⟨rfl, hJx3⟩)
        · gi_wp2
          go_roundw
          case rel => exact ⟨pre ++ [(d, t)], r, d, t.next, x + t.n, rfl, rfl, by go_num, rfl, by omega, HR.out.1.2.2, (by have := HR.out.2.1; rw [Stif.bal] at this; simpa [HK.out] using this), by rw [HFL.out]; simp, hJ3, HR.out.2.2.2.2.trans hk3'⟩
          case measure => simp [intOf]; omega
        · gi_wp2
          refine bodyPost_ret (results_none rfl _ _ _) rfl ?_
          exact ⟨⟨_, rfl⟩, .inr ⟨pre ++ [(d, t)], ⟨Stif.flds into d 0 r, by rw [HFL.out]; simp⟩, hJx3⟩⟩
      · have hk3 : ((t.kind : Int) == 3) = false := by rw [beq_eq_false_iff_ne]; omega
        have hk0 : ((t.kind : Int) == 0) = false := by rw [beq_eq_false_iff_ne]; omega
        have hk2 : ((t.kind : Int) == 2) = false := by rw [beq_eq_false_iff_ne]; omega
        have HK : Hid (t.kind = 1) := hkd
        clear hkd
        gi_wp2_with (first
          | (refine ⟨trivial, ?_⟩; gi_at_call 41; refine (callsIn_wide.2 (token_tok T i x t _ hT HT.out.1)).mono ?_; rintro e w' ⟨rfl, hw⟩; obtain rfl := hw.symm))
        go_roundw
        case rel => exact ⟨pre, r, d, t.next, x + t.n, rfl, rfl, by go_num, rfl, by omega, HR.out.1.2.2, (by have := HR.out.2.1; rw [Stif.bal] at this; simpa [HK.out] using this), (by rw [HR.out.2.2.1, Stif.flds]; simp [HK.out]), HR.out.2.2.2.1, HR.out.2.2.2.2⟩
        case measure => simp [intOf]; omega
      · have hk3 : ((t.kind : Int) == 3) = false := by rw [beq_eq_false_iff_ne]; omega
        have hk0 : ((t.kind : Int) == 0) = false := by rw [beq_eq_false_iff_ne]; omega
        have hk2 : ((t.kind : Int) == 2) = true := by rw [beq_iff_eq]; omega
        have HK : Hid (t.kind = 2) := hkd
        clear hkd
        have hfl : Stif.flds into 0 0 ts0 = pre ++ (d, t) :: (if into d t then Stif.flds into (d + 1) 0 r else Stif.flds into d 1 r) := by rw [HR.out.2.2.1, Stif.flds]; simp [HK.out]
        obtain ⟨fn, tmps, assign, body, hy, hR⟩ := HY.out pre (d, t) (wr.alloc (.cells #[.pointer (some ⟨bt, 0, none⟩), .int .i64 i, .int .i64 x, .int .i64 0] 78)) (abides_below hJ HR.out.2.2.2.1 ((Below.refl _ _).alloc (Nat.le_refl _) _)) (by rw [hfl]; simp)
        have HFL : Hid (Stif.flds into 0 0 ts0 = pre ++ (d, t) :: (if into d t then Stif.flds into (d + 1) 0 r else Stif.flds into d 1 r)) := hfl
        dsimp only [encF] at hy
        rw [HT.out.2.1, HT.out.2.2] at hy
        clear hfl
        gi_wp2_with (first
          | (refine ⟨trivial, ?_⟩; gi_at_call 41; refine (callsIn_wide.2 (token_tok T i x t _ hT HT.out.1)).mono ?_; rintro e w' ⟨rfl, hw⟩; obtain rfl := hw.symm))
        refine hR.mono ?_
        rintro e W3 (⟨rfl, hJ3, hk3'⟩ | ⟨rfl, hJx3⟩)
        · have HJ3 : Hid (J (pre ++ [(d, t)]) W3) := hJ3
          have K3 : Keep S Y w W3 := (HR.out.2.2.2.2.trans (Keep.below ((Below.refl _ _).alloc (Nat.le_refl _) _) (HR.out.2.2.2.2.lt hSw))).trans hk3'
          have HK3 : Hid (Keep S Y w W3) := K3
          have hB3 := hk3'.y wr.heap.size _ 78 _ hY78 (World.alloc_heap_new wr _)
          have e0 : W3.cell? ⟨wr.heap.size, 0, none⟩ = some (.pointer (some ⟨bt, 0, none⟩)) := cell_at hB3 (by simp)
          have e1 : W3.cell? ⟨wr.heap.size, 1, none⟩ = some (.int .i64 i) := cell_at hB3 (by simp)
          have e2 : W3.cell? ⟨wr.heap.size, 2, none⟩ = some (.int .i64 x) := cell_at hB3 (by simp)
          have e3 : W3.cell? ⟨wr.heap.size, 3, none⟩ = some (.int .i64 0) := cell_at hB3 (by simp)
          have ei : W3.cell? ⟨bi, 0, none⟩ = some (.func (.func gi) #[] lbi) := cell_at ((K3.s bi hSi).trans HF.out.2.1) (by simp)
          clear hJ3 hk3' K3 hB3 hR hy cf0 ct0
          gi_wp2_with fail
          refine ⟨trivial, (callsIn_wide.2 (HI.out W3 d i x t HK3.out HT.out.1 rn HK.out)).mono ?_⟩
          rintro e W4 ⟨rfl, hb4⟩
          have K4 : Keep S Y w W4 := HK3.out.trans (Keep.below hb4 (HK3.out.lt hSw))
          have HK4 : Hid (Keep S Y w W4 ∧ J (pre ++ [(d, t)]) W4 ∧ IsTree W4 bt T X) := ⟨K4, abides_below hJ HJ3.out hb4, HF.out.2.2.keep K4 hSt⟩
          have cf4 : W4.cell? ⟨bf, 0, none⟩ = some (.pointer (some ⟨bt, 0, none⟩)) := cell_at ((K4.s bf hSf).trans HF.out.1) (by simp)
          clear e0 e1 e2 e3 ei HK3 HJ3 hb4 K4
          cases hin : into d t with
          | true =>
            have HIN : Hid (into d t = true) := hin
            clear hin
            gi_wp2_with (first
              | (refine ⟨trivial, ?_⟩; gi_at_call 43; refine (callsIn_wide.2 (skipAt_no bt T X _ _ HK4.out.2.2)).mono ?_; rintro e w' ⟨rfl, hw⟩; obtain rfl := hw.symm))
            go_roundw
            case rel => exact ⟨pre ++ [(d, t)], r, d + 1, t.next, x + t.n, by go_num, rfl, by go_num, rfl, by omega, HR.out.1.2.2, (by have := HR.out.2.1; rw [Stif.bal] at this; rw [← Nat.add_assoc]; simpa [HK.out] using this), by rw [HFL.out, HIN.out]; simp, HK4.out.2.1, HK4.out.1⟩
            case measure => simp [intOf]; omega
          | false =>
            have HIN : Hid (into d t = false) := hin
            clear hin
            gi_wp2_with (first
              | (refine ⟨trivial, ?_⟩; gi_at_call 42; refine (callsIn_wide.2 (pass_any bt T X t r i x T.size X.size _ hT hX HK4.out.2.2 HK.out HR.out.1 ⟨k0 + d, (by have := HR.out.2.1; rw [Stif.bal] at this; simpa [HK.out] using this)⟩)).mono ?_; rintro e w' ⟨hw, j, y, rfl, hcj, hij⟩; obtain rfl := hw.symm; have HCJ : Hid (Stif.chain T X.size j y (Stif.skipTo 1 r) T.size X.size) := hcj; clear hcj))
            go_roundw
            case rel => exact ⟨pre ++ [(d, t)], Stif.skipTo 1 r, d, j, y, rfl, rfl, rfl, rfl, by omega, HCJ.out, (by
              obtain ⟨_, _, _, hbb, _⟩ := Stif.skip_bal (k := 1) (m := k0 + d) HR.out.1.2.2 (by have := HR.out.2.1; rw [Stif.bal] at this; simpa [HK.out] using this)
              exact hbb), by rw [HFL.out, HIN.out, Stif.flds_skip into d r 1]; simp, HK4.out.2.1, HK4.out.1⟩
            case measure => simp [intOf]; omega
        · gi_wp2
          refine bodyPost_ret (results_none rfl _ _ _) rfl ?_
          exact ⟨⟨_, rfl⟩, .inr ⟨pre ++ [(d, t)], ⟨if into d t then Stif.flds into (d + 1) 0 r else Stif.flds into d 1 r, by rw [HFL.out]; simp⟩, hJx3⟩⟩
      · have hk3 : ((t.kind : Int) == 3) = true := by rw [beq_iff_eq]; omega
        have HK : Hid (t.kind = 3) := hkd
        clear hkd
        by_cases hd0 : d = 0
        · subst hd0
          gi_wp2_with (first
            | (refine ⟨trivial, ?_⟩; gi_at_call 41; refine (callsIn_wide.2 (token_tok T i x t _ hT HT.out.1)).mono ?_; rintro e w' ⟨rfl, hw⟩; obtain rfl := hw.symm))
          refine bodyPost_ret (results_none rfl _ _ _) rfl ?_
          refine ⟨⟨_, rfl⟩, .inl ⟨pre, ?_, HR.out.2.2.2.1⟩⟩
          rw [HR.out.2.2.1, Stif.flds]
          simp [HK.out]
        · have hdb : ((d : Int) == 0) = false := by rw [beq_eq_false_iff_ne]; omega
          gi_wp2_with (first
            | (refine ⟨trivial, ?_⟩; gi_at_call 41; refine (callsIn_wide.2 (token_tok T i x t _ hT HT.out.1)).mono ?_; rintro e w' ⟨rfl, hw⟩; obtain rfl := hw.symm))
          go_roundw
          case rel => exact ⟨pre, r, d - 1, t.next, x + t.n, by go_num, rfl, by go_num, rfl, by omega, HR.out.1.2.2, (by have := HR.out.2.1; rw [Stif.bal] at this; simp [HK.out] at this; rw [show k0 + (d - 1) = k0 + d - 1 by omega]; exact this.2), (by rw [HR.out.2.2.1, Stif.flds]; simp [HK.out, hd0]), HR.out.2.2.2.1, HR.out.2.2.2.2⟩
          case measure => simp [intOf]; omega

/-- The iterator's contract, as a loop takes it. -/
theorem walk1_stops (n : Nat) (hn : 1 ≤ n) (bf bi bt gi : Nat) (lbi : Array Value) (T X : ByteArray) (into : Nat → Stif.Tok → Bool) (S Y : Nat → Prop) (hY78 : Y 78) (ts0 : List Stif.Tok) (i0 x0 k0 : Nat) (w : World)
    (hT : T.size ≤ 1048576) (hX : X.size ≤ 1048576) (hSw : ∀ k, S k → k < w.heap.size) (hSf : S bf) (hSi : S bi) (hSt : S bt) (hf : w.heap[bf]? = some (.cells #[.pointer (some ⟨bt, 0, none⟩), .int .i64 i0, .int .i64 x0, .int .i64 0] 35 (0, 0)))
    (hi : w.heap[bi]? = some (.cells #[.func (.func gi) #[] lbi] 80 (0, 0))) (htr : IsTree w bt T X) (hch : Stif.chain T X.size i0 x0 ts0 T.size X.size) (hbal : Stif.bal k0 ts0)
    (eg : ∀ args w, (callFunc gi args).run Try.prog w = .ok (.enter gi args) w)
    (hInto : ∀ (U : World) (d i x : Nat) (t : Stif.Tok), Keep S Y w U → Stif.tokAt T i x = some t → x + t.n ≤ X.size → t.kind = 2 → Calls Try.prog gi (#[.int .i64 d, .agg #[.pointer (some ⟨bt, 0, none⟩), .int .i64 i, .int .i64 x, .int .i64 0]] ++ lbi) U fun e U' => e = .returned (.bool (into d t)) ∧ Below U.heap.size U U') :
    SeqStopsK Fence.wide n Try.prog 40 #[.pointer (some ⟨bf, 0, none⟩), .pointer (some ⟨bi, 0, none⟩)] (encF bt) (Keep S Y) (fun ys => ys = Stif.flds into 0 0 ts0) (fun pre => pre <+: Stif.flds into 0 0 ts0) (Stif.flds into 0 0 ts0).length w := fun l J Jx W hW hJ hJx hY h0 =>
  walk1_in n hn l bf bi bt gi lbi T X into S Y hY78 ts0 i0 x0 k0 J Jx w W hT hX hSw hSf hSi hSt hf hi htr hch hbal eg hInto (Keep.below hW hSw) hJ hJx hY h0

set_option maxRecDepth 100000 in
set_option maxHeartbeats 400000 in
/-- (Fields).walk: both arguments are boxed; the function value captures the boxes. -/
theorem walk_any (fs iv : Value) (a b c d : Value) (hfs : fs = .agg #[a, b, c, d]) (gi : Nat) (lbi : Array Value) (hiv : iv = .func (.func gi) #[] lbi) (w : World) :
    Calls Try.prog 30 #[fs, iv] w fun e w' => e = .returned (.func (.func 40) #[] #[.pointer (some ⟨w.heap.size, 0, none⟩), .pointer (some ⟨w.heap.size + 1, 0, none⟩)]) ∧ w' = (w.alloc (.cells #[a, b, c, d] 35)).alloc (.cells #[.func (.func gi) #[] lbi] 80) := by
  subst hfs hiv
  go_enter Try.func30, Try.ntmps30
  go_wp2
  go_ret
  exact ⟨rfl, rfl⟩

end Go.Proofs.Qxb6618677a
