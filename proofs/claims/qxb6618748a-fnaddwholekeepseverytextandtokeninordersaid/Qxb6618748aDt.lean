/-
  Reading what is packed: take, varint, u64, textAt.
-/
import Derived.Test.Qxb6618748aDu
import Derived.Laws.DeepNot64
namespace Go.Proofs.Qxb6618748a
open Go.RowKit

/-- A slice of bytes that lies outside block bd. -/
def BySl (bd : Nat) (w : World) (a : Option Addr) (L : List UInt8) : Prop := ∀ (i : Nat) b, L[i]? = some b → ∃ g o, a = some ⟨g, o, none⟩ ∧ g ≠ bd ∧ w.cell? ⟨g, o + i, none⟩ = some (.int .u8 (b.toNat : Int))
theorem BySl.only {bd : Nat} {w w' : World} {a : Option Addr} {L : List UInt8} (h : BySl bd w a L) (hb : Only bd w w') : BySl bd w' a L := fun i b hi => let ⟨g, o, h1, h2, h3⟩ := h i b hi; ⟨g, o, h1, h2, hb.cell h2 h3⟩
theorem take_row {bd gd : Nat} {w : World} {D : List UInt8} {cp p p' k : Nat} (h : DAt bd gd w D cp p') : BySl bd w (some ⟨gd, p, none⟩) ((D.drop p).take k) := fun i b hi => by
  rw [List.getElem?_take] at hi
  split at hi
  · rw [List.getElem?_drop] at hi
    exact ⟨gd, p, rfl, h.ne, h.row _ _ hi⟩
  · cases hi

/-- Bytes are taken. -/
def TakeOk (bd gd : Nat) (D : List UInt8) (cp p k : Nat) (w : World) (e : Ending) (w' : World) : Prop := ∃ (a : Option Addr) (c : Nat), e = .returned (.slice a k c) ∧ BySl bd w' a ((D.drop p).take k) ∧ DAt bd gd w' D cp (p + k) ∧ Only bd w w'

set_option maxRecDepth 100000 in
set_option maxHeartbeats 1000000 in
theorem take_any (bd gd cp p k : Nat) (D : List UInt8) (w : World) (h : DAt bd gd w D cp p) (hk : p + k ≤ D.length) :
    Calls Try.prog 18 #[.pointer (some ⟨bd, 0, none⟩), .int .u64 (k : Int)] w (TakeOk bd gd D cp p k w) := by
  have H : Hid (DAt bd gd w D cp p) := h
  have hle := h.le
  have hcap := h.cap
  have hcm := h.cm
  have q0 : w.cell? ⟨bd, 0, none⟩ = some (.slice (some ⟨gd, 0, none⟩) D.length cp) := cell_atD h.box rfl
  have q1 : w.cell? ⟨bd, 1, none⟩ = some (.int .i64 (p : Int)) := cell_atD h.box rfl
  have q2 : w.cell? ⟨bd, 2, none⟩ = some (.bool false) := cell_atD h.box rfl
  have fz := frozen_atD h.box 1
  clear h
  have hp40 : (p : Int) ≤ 1099511627776 := by omega
  have hk40 : (k : Int) ≤ 1099511627776 := by omega
  have hd40 : (D.length : Int) ≤ 1099511627776 := by omega
  have hpd : (p : Int) ≤ (D.length : Int) := by omega
  have hpk : (p : Int) + (k : Int) ≤ (D.length : Int) := by omega
  have hpk2 : (p : Int) + (k : Int) ≤ (cp : Int) := by omega
  have hpk3 : (p : Int) ≤ (p : Int) + (k : Int) := by omega
  have hgt : decide ((D.length : Int) - (p : Int) < (k : Int)) = false := by simp; omega
  go_enter Try.func18, Try.ntmps18
  go_wp2
  go_quiet (fail)
  go_wp2
  go_quiet (fail)
  go_wp2
  · go_ret
    have hcp : cp = p := by assumption
    subst hcp
    have hk0 : k = 0 := by omega
    have hD := fun m => (H.out.move (below_drewN (Below.refl _ _) m)).step (q := (cp : Int) + (k : Int)) (cp + k) (by omega)
    exact ⟨_, _, rfl, fun i b hi => by rw [hk0, List.take_zero] at hi; simp at hi, hD _, ((Only.of_below (below_drewN (Below.refl _ _) _)).set 1 _)⟩
  · go_ret
    have hD := fun m => (H.out.move (below_drewN (Below.refl _ _) m)).step (q := (p : Int) + (k : Int)) (p + k) (by omega)
    exact ⟨_, _, rfl, take_row (hD _), hD _, ((Only.of_below (below_drewN (Below.refl _ _) _)).set 1 _)⟩
theorem not_i64 {x : Int} (h0 : -9223372036854775808 ≤ x) (h1 : x < 0) : bits .xor .i64 (-1) (-x - 1) = x := by
  have e := i64_not (-x - 1).toNat (by omega)
  rw [show (((-x - 1).toNat : Nat) : Int) = -x - 1 by omega] at e
  rw [e]
  omega

set_option maxRecDepth 100000 in
theorem varint_any (bd gd cp p : Nat) (x : Int) (D R : List UInt8) (w : World) (h : DAt bd gd w D cp p) (h0 : -9223372036854775808 ≤ x) (h1 : x ≤ 9223372036854775807) (hD : D.drop p = Lib.uvarint (Lib.zigzag x) ++ R) :
    Calls Try.prog 42 #[.pointer (some ⟨bd, 0, none⟩)] w (ReadOk bd gd D cp (p + (Lib.uvarint (Lib.zigzag x)).length) (.int .i64 x) w) := by
  have H : Hid (DAt bd gd w D cp p ∧ D.drop p = Lib.uvarint (Lib.zigzag x) ++ R) := ⟨h, hD⟩
  have hzl := zigzag_lt h0 h1
  clear h hD
  go_enter Try.func42, Try.ntmps42
  go_wp2_with fail
  refine (uvarint_any bd gd cp p _ D R w H.out.1 hzl H.out.2).mono ?_
  rintro e w1 ⟨rfl, hD1, hO1⟩
  have HO : Hid (DAt bd gd w1 D cp (p + (Lib.uvarint (Lib.zigzag x)).length) ∧ Only bd w w1) := ⟨hD1, hO1⟩
  clear hD1 hO1
  by_cases hx : x < 0
  · have hz : Lib.zigzag x = (-2 * x - 1).toNat := by unfold Lib.zigzag; rw [if_neg (by omega)]
    obtain ⟨z, hz2⟩ : ∃ z, Lib.zigzag x = z := ⟨_, rfl⟩
    rw [hz2]
    have hzx : (z : Int) = -2 * x - 1 := by omega
    have hand : bits .and .u64 (z : Int) 1 = 1 := by
      have e := u64_and_nat z 1 (by omega) (by decide)
      rw [nat_mask1] at e
      have e2 : z % 2 = 1 := by omega
      rw [e2] at e
      exact e
    have hz63 : (z : Int) / 2 ≤ 9223372036854775807 := by omega
    have hxor : bits .xor .i64 (-1) ((z : Int) / 2) = x := by
      rw [show (z : Int) / 2 = -x - 1 by omega]
      exact not_i64 (by omega) (by omega)
    have HX : Hid ((z : Int) = -2 * x - 1) := hzx
    clear hz hzx
    go_wp2
    go_ret
    refine ⟨rfl, ?_, HO.out.2⟩
    have := HO.out.1
    rw [hz2] at this
    exact this
  · have hz : Lib.zigzag x = (2 * x).toNat := by unfold Lib.zigzag; rw [if_pos (by omega)]
    obtain ⟨z, hz2⟩ : ∃ z, Lib.zigzag x = z := ⟨_, rfl⟩
    rw [hz2]
    have hzx : (z : Int) = 2 * x := by omega
    have hand : bits .and .u64 (z : Int) 1 = 0 := by
      have e := u64_and_nat z 1 (by omega) (by decide)
      rw [nat_mask1] at e
      have e2 : z % 2 = 0 := by omega
      rw [e2] at e
      exact e
    have hz63 : (z : Int) / 2 ≤ 9223372036854775807 := by omega
    have HX : Hid ((z : Int) / 2 = x) := by show (z : Int) / 2 = x; omega
    clear hz hzx
    go_wp2
    go_ret
    exact ⟨by rw [← HX.out]; rfl, HO.out.1, HO.out.2⟩

theorem le8_get {f i : Nat} (hi : i < 8) : (le8 f)[i]? = some (f / 256 ^ i % 256).toUInt8 := by
  obtain rfl | rfl | rfl | rfl | rfl | rfl | rfl | rfl : i = 0 ∨ i = 1 ∨ i = 2 ∨ i = 3 ∨ i = 4 ∨ i = 5 ∨ i = 6 ∨ i = 7 := by omega
  all_goals simp [le8]
theorem or_byte {x b : Nat} (hx : x < 72057594037927936) (hb : b < 256) : bits .or .u64 ((x : Int) * 256) (b : Int) = ((x * 256 + b : Nat) : Int) := by
  have := u64_or_nat (x * 256) b (by omega) (by omega)
  rw [nat_join 8 _ _ (by omega) hb] at this
  rw [← this]
  congr 1

set_option maxRecDepth 100000 in
set_option maxHeartbeats 1000000 in
theorem u64_any (bd gd cp p f : Nat) (D R : List UInt8) (w : World) (h : DAt bd gd w D cp p) (hf : f < 18446744073709551616) (hD : D.drop p = le8 f ++ R) :
    Calls Try.prog 34 #[.pointer (some ⟨bd, 0, none⟩)] w (ReadOk bd gd D cp (p + 8) (.int .u64 (f : Int)) w) := by
  have hlen : p + 8 ≤ D.length := by
    have := congrArg List.length hD
    rw [List.length_drop, List.length_append, show (le8 f).length = 8 from rfl] at this
    omega
  have htk : (D.drop p).take 8 = le8 f := by rw [hD]; exact List.take_left (l₁ := le8 f)
  have HTK : Hid ((D.drop p).take 8 = le8 f) := htk
  have H : Hid (DAt bd gd w D cp p) := h
  clear h hD htk
  go_enter Try.func34, Try.ntmps34
  go_wp2_with fail
  refine (take_any bd gd cp p 8 D w H.out hlen).mono ?_
  rintro e w1 ⟨a, c, rfl, hB, hD1, hO⟩
  rw [HTK.out] at hB
  have HB : Hid (BySl bd w1 a (le8 f) ∧ DAt bd gd w1 D cp (p + 8) ∧ Only bd w w1) := ⟨hB, hD1, hO⟩
  have q2 : w1.cell? ⟨bd, 2, none⟩ = some (.bool false) := cell_atD hD1.box rfl
  clear hB hD1 hO
  dsimp only
  go_wp2_with fail
  go_loopg [4, 5] 8 (fun gk xv iv wr => ∃ (j x P : Nat), gk = 8 - j ∧ j ≤ 8 ∧ xv = .int .u64 (x : Int) ∧ iv = .int .i64 (7 - (j : Int)) ∧ wr = w1 ∧ Hid (P = 256 ^ (8 - j) ∧ x = f / P))
  case atStart => exact ⟨0, 0, 18446744073709551616, by omega, by omega, rfl, by go_num, rfl, by decide, by omega⟩
  case round =>
    clear q2
    obtain ⟨j, x, P, hgk, hj, rfl, rfl, rfl, HR⟩ := hrel
    by_cases hlt : j < 8
    · have hb0 := le8_get (f := f) (i := 7 - j) (by omega)
      obtain ⟨g, o, rfl, hgb, hc⟩ := HB.out.1 _ _ hb0
      obtain ⟨b, hb⟩ : ∃ b, b = f / 256 ^ (7 - j) % 256 := ⟨_, rfl⟩
      have hb256 : b < 256 := by rw [hb]; exact Nat.mod_lt _ (by decide)
      rw [← hb, Lib.toUInt8_toNat hb256] at hc
      obtain ⟨m, hm⟩ : ∃ m, m = 7 - j := ⟨_, rfl⟩
      have hmj : (7 : Int) - (j : Int) = (m : Int) := by omega
      rw [← hm] at hc
      rw [hmj]
      have hm8 : (m : Int) < 8 := by omega
      have hP1 := HR.out.1
      have hPP : P = 256 ^ m * 256 := by rw [hP1, show 8 - j = m + 1 by omega, Nat.pow_succ]
      have hx : x < 72057594037927936 := by
        rw [HR.out.2, hPP]
        have h0 : 0 < 256 ^ m := Nat.pow_pos (by decide)
        rw [← Nat.div_div_eq_div_mul, Nat.div_lt_iff_lt_mul (by decide)]
        exact Nat.lt_of_le_of_lt (Nat.div_le_self _ _) hf
      have hxi : (x : Int) < 72057594037927936 := by omega
      have hbi : (b : Int) < 256 := by omega
      have hor := or_byte hx hb256
      have hge : decide ((0 : Int) ≤ (m : Int)) = true := by simp
      have HN : Hid (256 ^ m = 256 ^ (8 - (j + 1)) ∧ x * 256 + b = f / 256 ^ m) := by
        refine ⟨by rw [show 8 - (j + 1) = m by omega], ?_⟩
        rw [HR.out.2, hPP, ← Nat.div_div_eq_div_mul, hb, ← hm, Nat.mul_comm]
        exact Nat.div_add_mod _ 256
      generalize x * 256 + b = x2 at hor HN
      have HM : Hid (m = 7 - j) := hm
      clear hb hm hmj hP1 hPP hb0
      go_wp2
      go_roundg (8 - (j + 1))
      case measure => omega
      case rel => exact ⟨j + 1, x2, 256 ^ m, rfl, by omega, rfl, by have := HM.out; go_num, rfl, HN⟩
    · obtain rfl : j = 8 := by omega
      have hge : decide ((0 : Int) ≤ 7 - ((8 : Nat) : Int)) = false := by decide
      go_wp2
      go_ret
      refine ⟨?_, HB.out.2.1, HB.out.2.2⟩
      have := HR.out.2
      rw [HR.out.1] at this
      simp at this
      rw [this]
      rfl
end Go.Proofs.Qxb6618748a
