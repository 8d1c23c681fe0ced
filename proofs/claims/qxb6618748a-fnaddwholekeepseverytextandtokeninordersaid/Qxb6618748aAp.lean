/-
  Rows of bytes that grow: what stays beside them; AppendUvarint.
-/
import Derived.Test.Qxb6618748aCd
import Derived.Deep.OwnRows
import Derived.Lib.VarintMem
import Derived.Lib.AppendStr
import Derived.Laws.BitsAllLaws
import Derived.Maps.AppendAt
namespace Go.Proofs.Qxb6618748a
open Go.RowKit

/-- Blocks below base stay, but bp; blocks that are no rows of bytes stay (but bp, where x says so). -/
structure Ap (x : Bool) (bp base : Nat) (w w' : World) : Prop where
  os : w'.os = w.os
  tape : w'.tape = w.tape
  output : w'.output = w.output
  size : w.heap.size ≤ w'.heap.size
  block : ∀ k, k < w.heap.size → ((k < base ∧ k ≠ bp) ∨ ((x = true → k ≠ bp) ∧ ∀ c fr, w.heap[k]? ≠ some (.cells c 5 fr))) → w'.heap[k]? = w.heap[k]?
theorem Ap.refl (x : Bool) (bp base : Nat) (w : World) : Ap x bp base w w := ⟨rfl, rfl, rfl, Nat.le_refl _, fun _ _ _ => rfl⟩
theorem Ap.trans {x : Bool} {bp base : Nat} {a b c : World} (h : Ap x bp base a b) (k : Ap x bp base b c) : Ap x bp base a c := by
  refine ⟨k.os.trans h.os, k.tape.trans h.tape, k.output.trans h.output, Nat.le_trans h.size k.size, fun i hi hc => ?_⟩
  have e := h.block i hi hc
  have e2 := k.block i (Nat.lt_of_lt_of_le hi h.size) (by rw [e]; exact hc)
  exact e2.trans e
theorem Ap.weak {bp base : Nat} {a b : World} (h : Ap false bp base a b) : Ap true bp base a b :=
  ⟨h.os, h.tape, h.output, h.size, fun k hk hc => h.block k hk (hc.imp id fun ⟨_, h2⟩ => ⟨fun e => by (cases e), h2⟩)⟩
theorem Ap.of_below {x : Bool} {bp base : Nat} {a b : World} (h : Below a.heap.size a b) : Ap x bp base a b :=
  ⟨h.os, h.tape, h.output, h.size, fun k hk _ => h.block k hk⟩
theorem Ap.next {x : Bool} {bp base : Nat} {a b c : World} (h : Ap x bp base a b) (k : Below b.heap.size b c) : Ap x bp base a c := h.trans (.of_below k)
theorem Ap.alloc {x : Bool} {bp base : Nat} {a b : World} (h : Ap x bp base a b) (o : Obj) : Ap x bp base a (b.alloc o) := h.next ((Below.refl _ _).alloc (Nat.le_refl _) o)
theorem Ap.drewN {x : Bool} {bp base : Nat} {a b : World} (h : Ap x bp base a b) (n : Nat) : Ap x bp base a (b.drewN n) := h.next (below_drewN (Below.refl _ _) n)
theorem row_other {w : World} {base k n : Nat} {v : Value} {xs : List Value} (h : w.ownsRow base 5 1 v n xs) (hk : ∀ c fr, w.heap[k]? ≠ some (.cells c 5 fr)) : some k ≠ v.ownBlock := by
  rcases h.2 with ⟨h1, _⟩ | ⟨g, cap, cur, hv, _, hh, _⟩
  · rw [h1]; intro e; cases e
  · rw [hv]
    intro e
    cases e
    exact hk _ _ hh
theorem Ap.grown {x : Bool} {bp base n : Nat} {a b c : World} {v : Value} {xs : List Value} (h : Ap x bp base a b) (hown : b.ownsRow base 5 1 v n xs) (hg : b.grownBy c v.ownBlock) : Ap x bp base a c := by
  refine h.trans ⟨hg.os, hg.tape, hg.output, hg.size, fun k hk hc => hg.block k hk ?_⟩
  rcases hc with ⟨h1, _⟩ | ⟨_, h1⟩
  · intro e
    have := (hown.lt k e.symm).1
    omega
  · exact row_other hown h1
theorem Ap.set {bp base : Nat} {a b : World} (h : Ap true bp base a b) (i : Nat) (v : Value) : Ap true bp base a (b.setCell ⟨bp, i, none⟩ v) := by
  refine h.trans ⟨rfl, rfl, rfl, by simp, fun k hk hc => Below.heap_setCell _ _ _ _ ?_⟩
  rcases hc with ⟨_, h1⟩ | ⟨h1, _⟩
  · exact h1
  · exact h1 rfl
theorem Ap.setNew {x : Bool} {bp base k : Nat} {a b : World} (h : Ap x bp base a b) (hk : a.heap.size ≤ k) (i : Nat) (v : Value) : Ap x bp base a (b.setCell ⟨k, i, none⟩ v) := by
  refine ⟨h.os, h.tape, h.output, by simpa using h.size, fun j hj hc => ?_⟩
  rw [Below.heap_setCell _ _ _ _ (by simp; omega)]
  exact h.block j hj hc
theorem Ap.cell {x : Bool} {bp base : Nat} {a b : World} (h : Ap x bp base a b) {p : Addr} {v : Value} (h1 : p.block < base) (h2 : p.block ≠ bp) (hc : a.cell? p = some v) : b.cell? p = some v := by
  rw [World.cell?_of_block (h.block p.block (cell_lt hc) (.inl ⟨h1, h2⟩))]; exact hc

/-- v owns the bytes D. -/
def Dat (base : Nat) (w : World) (v : Value) (D : List UInt8) : Prop := w.ownsRow base 5 1 v D.length (Lib.byteCells D)
theorem ownsRow_below {w w' : World} {B base : Nat} {e : TypeId} {size : Nat} {v : Value} {n : Nat} {xs : List Value} (h : w.ownsRow base e size v n xs) (hb : Below B w w') (hB : w.heap.size ≤ B) : w'.ownsRow base e size v n xs := by
  refine ⟨h.1, ?_⟩
  rcases h.2 with h1 | ⟨g, cap, cur, hv, h1, h2, h3⟩
  · exact .inl h1
  · exact .inr ⟨g, cap, cur, hv, h1, (hb.block g (by have := (Array.getElem?_eq_some_iff.1 h2).1; omega)).trans h2, h3⟩
theorem Dat.below {base : Nat} {w w' : World} {v : Value} {D : List UInt8} (h : Dat base w v D) (hb : Below w.heap.size w w') : Dat base w' v D := ownsRow_below h hb (Nat.le_refl _)
theorem Dat.nil (base : Nat) (w : World) : Dat base w (.slice none 0 0) [] := World.ownsRow_nil _ _ _ _
theorem byteCells_append (A B : List UInt8) : Lib.byteCells (A ++ B) = Lib.byteCells A ++ Lib.byteCells B := by simp [Lib.byteCells]
theorem byteCells_len (A : List UInt8) : (Lib.byteCells A).length = A.length := by simp [Lib.byteCells]
theorem Dat.of {base n : Nat} {w : World} {v : Value} {D E : List UInt8} (h : w.ownsRow base 5 1 v n (Lib.byteCells D ++ Lib.byteCells E)) (hn : n = D.length + E.length) : Dat base w v (D ++ E) := by
  unfold Dat
  rw [byteCells_append, List.length_append, ← hn]
  exact h

theorem Try.info5 : (Try.prog.info? 5).map (fun i => (i.zero, i.size, i.bytes)) = some (some (.int .u8 0), 1, 1) := by kernel_rfl

/-- What an appender hands back. -/
def Apd (bp base : Nat) (w : World) (D : List UInt8) (e : Ending) (w' : World) : Prop := ∃ v', e = .returned v' ∧ Dat base w' v' D ∧ Ap false bp base w w'

set_option maxHeartbeats 2000000 in
set_option maxRecDepth 100000 in
theorem appendUvarint_any (bp base y : Nat) (D : List UInt8) (v : Value) (w : World) (hy : y < 18446744073709551616) (hd : Dat base w v D) (hb : base ≤ w.heap.size) (hl : D.length ≤ 1099511627776) :
    Calls Try.prog 36 #[v, .int .u64 (y : Int)] w (Apd bp base w (D ++ Lib.uvarint y)) := by
  obtain ⟨i0, hi, hz0, hz1, hz2⟩ := info_parts Try.info5
  have hlen := Lib.uvarint_length64 hy
  have H : Hid (Dat base w v D) := hd
  clear hd
  go_enter Try.func36, Try.ntmps36
  go_wp2
  go_loopg [0, 1] y (fun gk vb vx wr => ∃ (z : Nat) (pre : List UInt8) (v1 : Value), gk = z ∧ vb = v1 ∧ vx = .int .u64 (z : Int) ∧ z ≤ y ∧ Hid (Lib.uvarint y = pre ++ Lib.uvarint z ∧ Dat base wr v1 (D ++ pre) ∧ Ap false bp base w wr))
  case atStart => exact ⟨y, [], v, rfl, rfl, rfl, Nat.le_refl _, rfl, by rw [List.append_nil]; exact H.out, Ap.refl _ _ _ _⟩
  case round =>
    obtain ⟨z, pre, v1, hgk, hv, rfl, hz, HR⟩ := hrel
    replace hv := hv.symm
    subst hv
    have hpl : pre.length + (Lib.uvarint z).length ≤ 10 := by
      have h2 := congrArg List.length HR.out.1
      rw [List.length_append] at h2
      omega
    have hyp := Lib.uvarint_pos z
    have hbw : base ≤ wr.heap.size := Nat.le_trans hb HR.out.2.2.size
    have hown1 : wr.ownsRow base 5 1 v1 (D ++ pre).length (Lib.byteCells (D ++ pre)) := HR.out.2.1
    have hdl : (D ++ pre).length ≤ 1099511627786 := by rw [List.length_append]; omega
    by_cases h128 : 128 ≤ z
    · have hor : bits .or .u8 ((z : Int) % 256) 128 = ((z % 128 + 128 : Nat) : Int) := by
        rw [Lib.u8_or128_any _ (by omega) (by omega)]
        omega
      go_wp2_with (at_builtin; refine wpList_append_own _ rfl _ _ 39 rfl base 5 i0 (.int .u8 0) 1 1 Try.underlying39 hi hz0 hz1 hz2 rfl (by decide) _ _ _ rfl (hown1.alloc _) ⟨wr.heap.size, 0, none⟩ 1 1 [Value.int .u8 ((z % 128 + 128 : Nat) : Int)] rfl rfl ?c1 ?c2 ?c3 ?c4 ?c5 ?_)
      case c1 =>
        intro j u hj
        match j, hj with
        | 0, hj => simp at hj; subst hj; simp [Addr.add]
      case c2 => intro u hu; simp at hu; subst hu; rfl
      case c3 => unfold maxLen; omega
      case c4 => omega
      case c5 => simp; omega
      intro v' w1 hown' hgrow _
      have HX : Hid (Dat base w1 v' (D ++ (pre ++ [(z % 128 + 128).toUInt8])) ∧ Ap false bp base w w1) := by
        refine ⟨?_, (HR.out.2.2.alloc _).grown (hown1.alloc _) hgrow⟩
        rw [← List.append_assoc]
        refine Dat.of (n := D.length + pre.length + 1) ?_ (by simp)
        have ec : ((z % 128 + 128 : Nat) : Int) = (z : Int) % 128 + 128 := by omega
        rw [← byteCells_append, Lib.byteCells_snoc _ (by omega), ec]
        exact hown'
      clear hown' hgrow
      go_wp2
      go_roundg (z / 128)
      case measure => omega
      case rel => exact ⟨z / 128, pre ++ [(z % 128 + 128).toUInt8], _, rfl, rfl, by go_num, by omega, by rw [HR.out.1, Lib.uvarint_big h128]; simp, HX.out.1, HX.out.2⟩
    · have hsm : Lib.uvarint z = [z.toUInt8] := Lib.uvarint_small (by omega)
      go_wp2_with (at_builtin; refine wpList_append_own _ rfl _ _ 39 rfl base 5 i0 (.int .u8 0) 1 1 Try.underlying39 hi hz0 hz1 hz2 rfl (by decide) _ _ _ rfl (hown1.alloc _) ⟨wr.heap.size, 0, none⟩ 1 1 [Value.int .u8 (z : Int)] rfl rfl ?c1 ?c2 ?c3 ?c4 ?c5 ?_)
      case c1 =>
        intro j u hj
        match j, hj with
        | 0, hj => simp at hj; subst hj; simp [Addr.add]
      case c2 => intro u hu; simp at hu; subst hu; rfl
      case c3 => unfold maxLen; omega
      case c4 => omega
      case c5 => simp; omega
      intro v' w1 hown' hgrow _
      go_wp2
      go_ret
      refine ⟨v', rfl, ?_, (HR.out.2.2.alloc _).grown (hown1.alloc _) hgrow⟩
      rw [HR.out.1, hsm, ← List.append_assoc]
      refine Dat.of (n := D.length + pre.length + 1) ?_ (by simp)
      rw [← byteCells_append, Lib.byteCells_snoc _ (by omega)]
      exact hown'

theorem xor_max {a : Nat} (h : a < 2 ^ 64) : a ^^^ 18446744073709551615 = 18446744073709551615 - a := by
  have e : (18446744073709551615 : Nat) = 2 ^ 64 - 1 := by decide
  apply Nat.eq_of_testBit_eq
  intro i
  rw [e, Nat.testBit_xor, Nat.testBit_two_pow_sub_one]
  rw [show 2 ^ 64 - 1 - a = 2 ^ 64 - (a + 1) by omega, Nat.testBit_two_pow_sub_succ h]
  by_cases hi : i < 64
  · simp [hi]
  · have : a.testBit i = false := Nat.testBit_lt_two_pow (Nat.lt_of_lt_of_le h (Nat.pow_le_pow_right (by decide) (by omega)))
    simp [hi, this]
theorem zigzag_lt {x : Int} (h0 : -9223372036854775808 ≤ x) (h1 : x ≤ 9223372036854775807) : Lib.zigzag x < 18446744073709551616 := by
  unfold Lib.zigzag
  split <;> omega
set_option maxRecDepth 100000 in
theorem appendVarint_any (bp base : Nat) (x : Int) (D : List UInt8) (v : Value) (w : World) (h0 : -9223372036854775808 ≤ x) (h1 : x ≤ 9223372036854775807) (hd : Dat base w v D) (hb : base ≤ w.heap.size) (hl : D.length ≤ 1099511627776) :
    Calls Try.prog 53 #[v, .int .i64 x] w (Apd bp base w (D ++ Lib.uvarint (Lib.zigzag x))) := by
  have H : Hid (Dat base w v D) := hd
  clear hd
  have hzl := zigzag_lt h0 h1
  by_cases hx : x < 0
  · have hz : Lib.zigzag x = (-2 * x - 1).toNat := by unfold Lib.zigzag; rw [if_neg (by omega)]
    have HZ : Hid (Lib.zigzag x < 18446744073709551616 ∧ bits .xor .u64 IntKind.u64.max (IntKind.u64.wrap (IntKind.u64.wrap x * 2)) = ((Lib.zigzag x : Nat) : Int)) := by
      refine ⟨hzl, ?_⟩
      have e1 : IntKind.u64.wrap (IntKind.u64.wrap x * 2) = ((2 * x + 18446744073709551616).toNat : Int) := by
        rw [IntKind.wrap_u64, IntKind.wrap_u64]; omega
      have e2 : IntKind.u64.max = ((18446744073709551615 : Nat) : Int) := rfl
      rw [e1, e2, u64_xor_nat _ _ (by decide) (by omega), Nat.xor_comm]
      have e3 : (2 * x + 18446744073709551616).toNat ^^^ 18446744073709551615 = 18446744073709551615 - (2 * x + 18446744073709551616).toNat := by
        have hlt : (2 * x + 18446744073709551616).toNat < 2 ^ 64 := by omega
        exact xor_max hlt
      rw [e3, hz]
      omega
    clear hz hzl
    go_enter Try.func53, Try.ntmps53
    go_wp2_with fail
    rw [HZ.out.2]
    refine (appendUvarint_any bp base _ D v w HZ.out.1 H.out hb hl).mono ?_
    rintro e w' ⟨v', rfl, h1, h2⟩
    go_wp2
    go_ret
    exact ⟨v', rfl, h1, h2⟩
  · have hz : Lib.zigzag x = (2 * x).toNat := by unfold Lib.zigzag; rw [if_pos (by omega)]
    have HZ : Hid (Lib.zigzag x < 18446744073709551616 ∧ x * 2 = ((Lib.zigzag x : Nat) : Int)) := ⟨hzl, by omega⟩
    clear hz hzl
    go_enter Try.func53, Try.ntmps53
    go_wp2_with fail
    rw [HZ.out.2]
    refine (appendUvarint_any bp base _ D v w HZ.out.1 H.out hb hl).mono ?_
    rintro e w' ⟨v', rfl, h1, h2⟩
    go_wp2
    go_ret
    exact ⟨v', rfl, h1, h2⟩

/-- The eight bytes of a uint64, the least first. -/
def le8 (f : Nat) : List UInt8 := [f % 256, f / 256 % 256, f / 65536 % 256, f / 16777216 % 256, f / 4294967296 % 256, f / 1099511627776 % 256, f / 281474976710656 % 256, f / 72057594037927936 % 256].map Nat.toUInt8
theorem le8_cells {f : Nat} (hf : f < 18446744073709551616) : Lib.byteCells (le8 f) = [Value.int .u8 ((f : Int) % 256), Value.int .u8 ((f : Int) / 256 % 256), Value.int .u8 ((f : Int) / 65536 % 256), Value.int .u8 ((f : Int) / 16777216 % 256), Value.int .u8 ((f : Int) / 4294967296 % 256), Value.int .u8 ((f : Int) / 1099511627776 % 256), Value.int .u8 ((f : Int) / 281474976710656 % 256), Value.int .u8 ((f : Int) / 72057594037927936)] := by
  have e : ∀ a : Nat, a < 256 → (Value.int .u8 ((a.toUInt8.toNat : Nat) : Int)) = Value.int .u8 (a : Int) := fun a h => by rw [Lib.toUInt8_toNat h]
  simp only [le8, Lib.byteCells, List.map_cons, List.map_nil]
  rw [e _ (by omega), e _ (by omega), e _ (by omega), e _ (by omega), e _ (by omega), e _ (by omega), e _ (by omega), e _ (by omega)]
  simp only [List.cons.injEq, Value.int.injEq, true_and, and_true]
  omega
set_option maxRecDepth 100000 in
theorem appendUint64_any (bp base f : Nat) (D : List UInt8) (v : Value) (w : World) (hf : f < 18446744073709551616) (hd : Dat base w v D) (hb : base ≤ w.heap.size) (hl : D.length ≤ 1099511627776) :
    Calls Try.prog 46 #[.agg #[], v, .int .u64 (f : Int)] w (Apd bp base w (D ++ le8 f)) := by
  obtain ⟨i0, hi, hz0, hz1, hz2⟩ := info_parts Try.info5
  have hown1 : w.ownsRow base 5 1 v D.length (Lib.byteCells D) := hd
  clear hd
  go_enter Try.func46, Try.ntmps46
  go_wp2_with (at_builtin; refine wpList_append_own _ rfl _ _ 39 rfl base 5 i0 (.int .u8 0) 1 1 Try.underlying39 hi hz0 hz1 hz2 rfl (by decide) _ _ _ rfl ((hown1.alloc _).alloc _) ⟨w.heap.size + 1, 0, none⟩ 8 8 [Value.int .u8 ((f : Int) % 256), Value.int .u8 ((f : Int) / 256 % 256), Value.int .u8 ((f : Int) / 65536 % 256), Value.int .u8 ((f : Int) / 16777216 % 256), Value.int .u8 ((f : Int) / 4294967296 % 256), Value.int .u8 ((f : Int) / 1099511627776 % 256), Value.int .u8 ((f : Int) / 281474976710656 % 256), Value.int .u8 ((f : Int) / 72057594037927936)] rfl rfl ?c1 ?c2 ?c3 ?c4 ?c5 ?_)
  case c1 =>
    intro j u hj
    match j, hj with
    | 0, hj => simp at hj; subst hj; simp [Addr.add]
    | 1, hj => simp at hj; subst hj; simp [Addr.add]
    | 2, hj => simp at hj; subst hj; simp [Addr.add]
    | 3, hj => simp at hj; subst hj; simp [Addr.add]
    | 4, hj => simp at hj; subst hj; simp [Addr.add]
    | 5, hj => simp at hj; subst hj; simp [Addr.add]
    | 6, hj => simp at hj; subst hj; simp [Addr.add]
    | 7, hj => simp at hj; subst hj; simp [Addr.add]
    | n + 8, hj => simp at hj
  case c2 => intro u hu; simp at hu; rcases hu with rfl | rfl | rfl | rfl | rfl | rfl | rfl | rfl <;> rfl
  case c3 => unfold maxLen; omega
  case c4 => omega
  case c5 => simp; omega
  intro v' w1 hown' hgrow _
  go_wp2
  go_ret
  refine ⟨v', rfl, ?_, (((Ap.refl false bp base w).alloc _).alloc _).grown ((hown1.alloc _).alloc _) hgrow⟩
  refine Dat.of (n := D.length + 8) ?_ rfl
  rw [le8_cells hf]
  exact hown'
end Go.Proofs.Qxb6618748a
