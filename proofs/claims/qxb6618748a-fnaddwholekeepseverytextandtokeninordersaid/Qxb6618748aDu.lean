/-
  Reading what is packed: uvarint.
-/
import Derived.Test.Qxb6618748aAp
import Derived.Lib.VarintBits
namespace Go.Proofs.Qxb6618748a
open Go.RowKit

/-- Nothing of what was there has turned, but block b. -/
structure Only (b : Nat) (w w' : World) : Prop where
  os : w'.os = w.os
  tape : w'.tape = w.tape
  output : w'.output = w.output
  size : w.heap.size ≤ w'.heap.size
  block : ∀ k, k < w.heap.size → k ≠ b → w'.heap[k]? = w.heap[k]?
theorem Only.refl (b : Nat) (w : World) : Only b w w := ⟨rfl, rfl, rfl, Nat.le_refl _, fun _ _ _ => rfl⟩
theorem Only.trans {b : Nat} {x y z : World} (h : Only b x y) (k : Only b y z) : Only b x z :=
  ⟨k.os.trans h.os, k.tape.trans h.tape, k.output.trans h.output, Nat.le_trans h.size k.size, fun i hi hn => (k.block i (Nat.lt_of_lt_of_le hi h.size) hn).trans (h.block i hi hn)⟩
theorem Only.of_below {b : Nat} {x y : World} (h : Below x.heap.size x y) : Only b x y := ⟨h.os, h.tape, h.output, h.size, fun k hk _ => h.block k hk⟩
theorem Only.set {b : Nat} {x y : World} (h : Only b x y) (i : Nat) (v : Value) : Only b x (y.setCell ⟨b, i, none⟩ v) :=
  h.trans ⟨rfl, rfl, rfl, by simp, fun k _ hn => Below.heap_setCell _ _ _ _ hn⟩
theorem Only.cell {b : Nat} {x y : World} (h : Only b x y) {p : Addr} {v : Value} (hp : p.block ≠ b) (hc : x.cell? p = some v) : y.cell? p = some v := by
  rw [World.cell?_of_block (h.block p.block (cell_lt hc) hp)]; exact hc
/-- The reader d: its bytes D, its place. -/
structure DAt (bd gd : Nat) (w : World) (D : List UInt8) (cp p : Nat) : Prop where
  box : w.heap[bd]? = some (.cells #[.slice (some ⟨gd, 0, none⟩) D.length cp, .int .i64 (p : Int), .bool false] 50)
  row : ∀ (i : Nat) b, D[i]? = some b → w.cell? ⟨gd, i, none⟩ = some (.int .u8 (b.toNat : Int))
  ne : gd ≠ bd
  le : D.length ≤ 1099511627776
  cap : D.length ≤ cp
  cm : cp ≤ maxLen
theorem DAt.move {bd gd : Nat} {w w' : World} {D : List UInt8} {cp p : Nat} (h : DAt bd gd w D cp p) (hb : Below w.heap.size w w') : DAt bd gd w' D cp p :=
  ⟨(hb.block bd (Array.getElem?_eq_some_iff.1 h.box).1).trans h.box, fun i b hi => below_cell hb (h.row i b hi), h.ne, h.le, h.cap, h.cm⟩
theorem DAt.step {bd gd : Nat} {w : World} {D : List UInt8} {cp p : Nat} (h : DAt bd gd w D cp p) {q : Int} (p' : Nat) (hq : q = p') : DAt bd gd (w.setCell ⟨bd, 1, none⟩ (.int .i64 q)) D cp p' := by
  subst hq
  refine ⟨by simp [World.setCell, Array.getElem?_modify, h.box], fun i b hi => ?_, h.ne, h.le, h.cap, h.cm⟩
  rw [World.cell?_setCell_other _ _ _ _ (fun e => h.ne (by cases e; rfl))]
  exact h.row i b hi
theorem cell_atD {w : World} {k i : Nat} {c : Array Value} {t : TypeId} {v : Value} (h : w.heap[k]? = some (.cells c t (0, 0))) (hi : c[i]? = some v) : w.cell? ⟨k, i, none⟩ = some v := by
  simp [World.cell?, h, hi]
theorem frozen_atD {w : World} {k : Nat} {c : Array Value} {t : TypeId} (h : w.heap[k]? = some (.cells c t (0, 0))) (i : Nat) : w.frozen? ⟨k, i, none⟩ = false := by
  simp [World.frozen?, h]

theorem shl_of {y s P i : Nat} (hs : s = 7 * i) (hi : i ≤ 9) (hP : P = 2 ^ (7 * i)) (hy : y * P < 18446744073709551616) : Op.shift .shl .u64 (y : Int) .u64 (s : Int) = pure (.int .u64 ((y * P : Nat) : Int)) := by
  rw [shift_shl .u64 .u64 (y : Int) (s : Int) (by omega) (by show (s : Int) ≤ 64; omega)]
  have e : ((s : Int)).toNat = 7 * i := by omega
  rw [e, IntKind.wrap_u64]
  have e2 : (y : Int) * 2 ^ (7 * i) = ((y * P : Nat) : Int) := by rw [hP]; push_cast; rfl
  rw [e2]
  congr 2
  omega
theorem or_of {acc y P i x : Nat} (hP : P = 2 ^ (7 * i)) (h63 : P ≤ 9223372036854775808) (ha : acc < P) (hy : y * P < 18446744073709551616) (hx : y * P + acc = x) : bits .or .u64 (acc : Int) ((y * P : Nat) : Int) = (x : Int) := by
  by_cases h0 : acc < 18446744073709551616
  · rw [u64_or_nat _ _ h0 hy, Nat.or_comm, nat_join (7 * i) _ _ (by rw [← hP]; exact Nat.mul_mod_left _ _) (by rw [← hP]; exact ha), hx]
  · omega
/-- A number is read. -/
def ReadOk (bd gd : Nat) (D : List UInt8) (cp p : Nat) (v : Value) (w : World) (e : Ending) (w' : World) : Prop := e = .returned v ∧ DAt bd gd w' D cp p ∧ Only bd w w'

set_option maxRecDepth 100000 in
set_option maxHeartbeats 1000000 in
theorem uvarint_any (bd gd cp p x : Nat) (D R : List UInt8) (w : World) (h : DAt bd gd w D cp p) (hx : x < 18446744073709551616) (hD : D.drop p = Lib.uvarint x ++ R) :
    Calls Try.prog 17 #[.pointer (some ⟨bd, 0, none⟩)] w (ReadOk bd gd D cp (p + (Lib.uvarint x).length) (.int .u64 (x : Int)) w) := by
  have H : Hid (DAt bd gd w D cp p ∧ D.drop p = Lib.uvarint x ++ R) := ⟨h, hD⟩
  have hle := h.le
  have q2 : w.cell? ⟨bd, 2, none⟩ = some (.bool false) := cell_atD h.box rfl
  clear h hD
  go_enter Try.func17, Try.ntmps17
  go_wp2_with fail
  go_loopg [3, 4, 5] 10 (fun gk xv sv iv wr => ∃ (i y acc s P : Nat), gk = 10 - i ∧ i ≤ 9 ∧ xv = .int .u64 (acc : Int) ∧ sv = .int .u64 (s : Int) ∧ iv = .int .i64 (i : Int) ∧ Hid (DAt bd gd wr D cp (p + i) ∧ Only bd w wr ∧ y = x / P ∧ acc = x % P ∧ P = 2 ^ (7 * i) ∧ s = 7 * i ∧ D.drop (p + i) = Lib.uvarint y ++ R ∧ (Lib.uvarint x).length = i + (Lib.uvarint y).length))
  case atStart => exact ⟨0, x, 0, 0, 1, by omega, by omega, rfl, rfl, rfl, H.out.1, Only.refl _ _, by simp, by simp [Nat.mod_one], rfl, rfl, H.out.2, by simp⟩
  case round =>
    clear q2
    obtain ⟨i, y, acc, s, P, hgk, hi, rfl, rfl, rfl, HR⟩ := hrel
    obtain ⟨hDA, hO, hy, hacc, hP, hs, hdr, hln⟩ := HR.out
    have hPx : P ≤ 9223372036854775808 := by
      rw [hP]
      exact Nat.le_trans (Nat.pow_le_pow_right (by decide) (show 7 * i ≤ 63 by omega)) (by decide)
    have hPp : 0 < P := by rw [hP]; exact Nat.two_pow_pos _
    have hxy : y * P + acc = x := by rw [hy, hacc, Nat.mul_comm]; exact Nat.div_add_mod x P
    have haP : acc < P := by rw [hacc]; exact Nat.mod_lt _ hPp
    have hltb : decide ((i : Int) < 10) = true := by simp; omega
    have r0 : wr.cell? ⟨bd, 0, none⟩ = some (.slice (some ⟨gd, 0, none⟩) D.length cp) := cell_atD hDA.box rfl
    have r1 : wr.cell? ⟨bd, 1, none⟩ = some (.int .i64 ((p + i : Nat) : Int)) := cell_atD hDA.box rfl
    have fz := frozen_atD hDA.box 1
    have hx64 := hx
    by_cases hy128 : y < 128
    · have hu : Lib.uvarint y = [y.toUInt8] := Lib.uvarint_small hy128
      have hg : D[p + i]? = some y.toUInt8 := by
        have h0 := congrArg (fun l => l[0]?) hdr
        simpa [hu] using h0
      have hpl : p + i < D.length := (List.getElem?_eq_some_iff.1 hg).1
      have r3 : wr.cell? ⟨gd, p + i, none⟩ = some (.int .u8 (y : Int)) := by
        have := hDA.row _ _ hg
        rw [Lib.toUInt8_toNat (by omega)] at this
        exact this
      have hyP : y * P < 18446744073709551616 := by omega
      have hsh : Op.shift .shl .u64 (y : Int) .u64 (s : Int) = pure (.int .u64 ((y * P : Nat) : Int)) := shl_of hs (by omega) hP hyP
      have hor : bits .or .u64 (acc : Int) ((y * P : Nat) : Int) = (x : Int) := or_of hP hPx haP hyP hxy
      have hy9 : i = 9 → y ≤ 1 := fun h9 => by
        subst h9
        have e63 : P = 9223372036854775808 := hP.trans (by decide)
        rw [e63] at hxy
        omega
      have hge : decide ((D.length : Int) ≤ ((p + i : Nat) : Int)) = false := by simp; omega
      have hlt8 : decide ((y : Int) < 128) = true := by simp; omega
      have hidx : ((p + i : Nat) : Int) < (D.length : Int) := by omega
      have hidx0 : (0 : Int) ≤ ((p + i : Nat) : Int) := by omega
      have hp40 : ((p + i : Nat) : Int) ≤ 1099511627776 := by omega
      have HRX : Hid (DAt bd gd wr D cp (p + i) ∧ Only bd w wr ∧ (Lib.uvarint x).length = i + 1) := ⟨hDA, hO, by rw [hln, hu]; rfl⟩
      clear hDA hO hy hacc hP hs hdr hln hu hg HR hxy
      generalize hpi : p + i = pi at *
      have HPI : Hid (p + i = pi) := hpi
      clear hpi
      by_cases hi9 : i = 9
      · have hi9b : ((i : Int) == 9) = true := by simp; omega
        have hy1 : decide ((1 : Int) < (y : Int)) = false := by have := hy9 hi9; simp; omega
        clear hi9 hy9
        go_wp2
        go_quiet (fail)
        go_wp2
        go_quiet (fail)
        go_wp2
        go_ret
        refine ⟨?_, ?_, ?_⟩
        · have e1 : (y : Int) * (P : Int) = ((y * P : Nat) : Int) := by push_cast; rfl
          have e2 := hor
          rw [← e1] at e2
          exact congrArg (fun z => Ending.returned (.int .u64 z)) e2
        · refine (HRX.out.1.move (below_drewN (Below.refl _ _) _)).step _ ?_
          rw [HRX.out.2.2]
          have := HPI.out
          omega
        · exact (HRX.out.2.1.trans (.of_below (below_drewN (Below.refl _ _) _))).set 1 _
      · have hi9b : ((i : Int) == 9) = false := by simp; omega
        clear hi9 hy9
        go_wp2
        go_quiet (fail)
        go_wp2
        go_quiet (fail)
        go_wp2
        go_ret
        refine ⟨?_, ?_, ?_⟩
        · have e1 : (y : Int) * (P : Int) = ((y * P : Nat) : Int) := by push_cast; rfl
          have e2 := hor
          rw [← e1] at e2
          exact congrArg (fun z => Ending.returned (.int .u64 z)) e2
        · refine (HRX.out.1.move (below_drewN (Below.refl _ _) _)).step _ ?_
          rw [HRX.out.2.2]
          have := HPI.out
          omega
        · exact (HRX.out.2.1.trans (.of_below (below_drewN (Below.refl _ _) _))).set 1 _
    · have hu : Lib.uvarint y = (y % 128 + 128).toUInt8 :: Lib.uvarint (y / 128) := Lib.uvarint_big (by omega)
      have hg : D[p + i]? = some (y % 128 + 128).toUInt8 := by
        have h0 := congrArg (fun l => l[0]?) hdr
        simpa [hu] using h0
      have hdr2 : D.drop (p + (i + 1)) = Lib.uvarint (y / 128) ++ R := by
        have h0 := congrArg (List.drop 1) hdr
        rw [hu, List.drop_drop] at h0
        simpa [Nat.add_assoc] using h0
      have hpl : p + i < D.length := (List.getElem?_eq_some_iff.1 hg).1
      obtain ⟨c, hc⟩ : ∃ c, c = y % 128 + 128 := ⟨_, rfl⟩
      obtain ⟨q, hq⟩ : ∃ q, q = y % 128 := ⟨_, rfl⟩
      have r3 : wr.cell? ⟨gd, p + i, none⟩ = some (.int .u8 (c : Int)) := by
        have := hDA.row _ _ hg
        rw [Lib.toUInt8_toNat (by omega), ← hc] at this
        exact this
      have hi8 : i ≤ 8 := by
        rcases Nat.lt_or_ge i 9 with h9 | h9
        · omega
        · obtain rfl : i = 9 := by omega
          have e63 : P = 9223372036854775808 := hP.trans (by decide)
          rw [e63] at hxy
          omega
      have hqP : q * P < 18446744073709551616 := by
        have : q * P ≤ y * P := Nat.mul_le_mul_right _ (by rw [hq]; exact Nat.mod_le _ _)
        omega
      have hand : bits .and .u8 (c : Int) 127 = (q : Int) := by
        have e7 : bits .and .u8 (c : Int) 127 = (c : Int) % 128 := u8_and127 (c : Int) (by omega) (by omega)
        rw [e7]
        omega
      have hsh : Op.shift .shl .u64 (q : Int) .u64 (s : Int) = pure (.int .u64 ((q * P : Nat) : Int)) := shl_of hs (by omega) hP hqP
      have hor : bits .or .u64 (acc : Int) ((q * P : Nat) : Int) = ((q * P + acc : Nat) : Int) := or_of hP hPx haP hqP rfl
      have hge : decide ((D.length : Int) ≤ ((p + i : Nat) : Int)) = false := by simp; omega
      have hlt8 : decide ((c : Int) < 128) = false := by simp; omega
      have hidx : ((p + i : Nat) : Int) < (D.length : Int) := by omega
      have hidx0 : (0 : Int) ≤ ((p + i : Nat) : Int) := by omega
      have hp40 : ((p + i : Nat) : Int) ≤ 1099511627776 := by omega
      have hsl : s ≤ 63 := by omega
      have hcl : (c : Int) < 256 := by omega
      have hql : (q : Int) < 128 := by omega
      have HN : Hid (DAt bd gd wr D cp (p + i) ∧ Only bd w wr ∧ y / 128 = x / (P * 128) ∧ q * P + acc = x % (P * 128) ∧ P * 128 = 2 ^ (7 * (i + 1)) ∧ s + 7 = 7 * (i + 1) ∧ D.drop (p + (i + 1)) = Lib.uvarint (y / 128) ++ R ∧ (Lib.uvarint x).length = (i + 1) + (Lib.uvarint (y / 128)).length) := by
        refine ⟨hDA, hO, ?_, ?_, ?_, by omega, hdr2, ?_⟩
        · rw [hy, Nat.div_div_eq_div_mul]
        · rw [Nat.mod_mul, ← hy, ← hacc, ← hq, Nat.mul_comm P q, Nat.add_comm]
        · rw [hP, show 7 * (i + 1) = 7 * i + 7 by omega, Nat.pow_add]
        · rw [hln, hu, List.length_cons]; omega
      have horJ : bits .or .u64 (acc : Int) (IntKind.u64.wrap ((q : Int) * 2 ^ s)) = ((q * P + acc : Nat) : Int) := by
        have e1 : IntKind.u64.wrap ((q : Int) * 2 ^ s) = ((q * P : Nat) : Int) := by
          have e2 : (q : Int) * 2 ^ s = ((q * P : Nat) : Int) := by rw [hP, hs]; push_cast; rfl
          rw [e2, IntKind.wrap_u64]
          omega
        rw [e1]; exact hor
      have horI : bits .or .u64 (acc : Int) ((q : Int) * (P : Int)) = ((q * P + acc : Nat) : Int) := by
        have e1 : (q : Int) * (P : Int) = ((q * P : Nat) : Int) := by push_cast; rfl
        rw [e1]; exact hor
      clear hDA hO hy hacc hP hs hdr hdr2 hln hu hg HR hxy hc hq hor
      generalize hpi : p + i = pi at *
      have HPI : Hid (p + i = pi) := hpi
      clear hpi
      generalize q * P + acc = acc2 at HN horI horJ
      go_wp2
      go_quiet (fail)
      go_wp2
      go_quiet (fail)
      go_wp2
      go_roundg (10 - (i + 1))
      case measure => omega
      case rel =>
        obtain ⟨h1, h2, h3, h4, h5, h6, h7, h8⟩ := HN.out
        refine ⟨i + 1, y / 128, acc2, s + 7, P * 128, rfl, by omega, rfl, by go_num, by go_num, ?_, ?_, h3, h4, h5, h6, h7, h8⟩
        · refine (h1.move (below_drewN (Below.refl _ _) _)).step _ ?_
          have := HPI.out
          omega
        · exact (h2.trans (.of_below (below_drewN (Below.refl _ _) _))).set 1 _
end Go.Proofs.Qxb6618748a
