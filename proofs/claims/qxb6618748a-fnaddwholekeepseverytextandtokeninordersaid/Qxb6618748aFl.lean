/-
  Floats, plain: a float's rung, its value in units of the least place, and the operations whose results are floats.
-/
import Ieee.Arith
namespace Go.Proofs.Qxb6618748a
open Ieee

theorem dbl_binade : double.binade = 4503599627370496 := by decide
theorem dbl_sign : double.signWeight = 9223372036854775808 := by decide
theorem dbl_inf : double.infRung = 9218868437227405312 := by decide
theorem dbl_least : double.leastPlace = -1074 := by decide
theorem dbl_frac : double.fractionBits = 52 := rfl

/-- The significand of a rung, its place, and its value. -/
def mg (r : Nat) : Nat := if r < 4503599627370496 then r else 4503599627370496 + r % 4503599627370496
def pl (r : Nat) : Nat := if r < 4503599627370496 then 0 else r / 4503599627370496 - 1
def nv (r : Nat) : Nat := mg r * 2 ^ pl r

theorem mg_pl (r : Nat) : pl r * 4503599627370496 + mg r = r := by
  unfold mg pl
  split
  · omega
  · omega
theorem mg_lt (r : Nat) : mg r < 9007199254740992 := by
  unfold mg
  split <;> omega
theorem mg_pos {r : Nat} (h : 0 < r) : 0 < mg r := by
  unfold mg
  split <;> omega

theorem read_rung {r : Nat} (h : r < 9218868437227405312) : double.read r = .number false (mg r) (-1074 + (pl r : Int)) := by
  unfold Format.read mg pl
  rw [dbl_sign, dbl_binade, dbl_inf, dbl_least]
  have h1 : r / 9223372036854775808 = 0 := by omega
  have h2 : r % 9223372036854775808 = r := by omega
  simp only [h1, h2]
  by_cases h3 : r < 4503599627370496
  · rw [if_pos h3, if_pos h3, if_pos h3]; rfl
  · rw [if_neg h3, if_pos h, if_neg h3, if_neg h3]; rfl
theorem read_neg {r : Nat} (h : r < 9218868437227405312) : double.read (9223372036854775808 + r) = .number true (mg r) (-1074 + (pl r : Int)) := by
  unfold Format.read mg pl
  rw [dbl_sign, dbl_binade, dbl_inf, dbl_least]
  have h1 : (9223372036854775808 + r) / 9223372036854775808 = 1 := by omega
  have h2 : (9223372036854775808 + r) % 9223372036854775808 = r := by omega
  simp only [h1, h2]
  by_cases h3 : r < 4503599627370496
  · rw [if_pos h3, if_pos h3, if_pos h3]; rfl
  · rw [if_neg h3, if_pos h, if_neg h3, if_neg h3]; rfl

theorem log2_shift {m : Nat} (hm : m ≠ 0) (d : Nat) : (m * 2 ^ d).log2 = m.log2 + d := by
  have h1 := Nat.log2_self_le hm
  have h2 := @Nat.lt_log2_self m
  have hp : 0 < 2 ^ d := Nat.two_pow_pos d
  have h0 : m * 2 ^ d ≠ 0 := Nat.ne_of_gt (Nat.mul_pos (Nat.pos_of_ne_zero hm) hp)
  rw [Nat.log2_eq_iff h0]
  refine ⟨?_, ?_⟩
  · rw [Nat.pow_add]; exact Nat.mul_le_mul_right _ h1
  · rw [show m.log2 + d + 1 = (m.log2 + 1) + d by omega, Nat.pow_add]; exact Nat.mul_lt_mul_of_pos_right h2 hp

/-- A whole number of units is cut to that number. -/
theorem cut_exact (way : Toward) (neg : Bool) {m : Nat} (hm : m ≠ 0) (d : Nat) : way.cut neg (m * 2 ^ d) d = m := by
  unfold Toward.cut
  rw [log2_shift hm]
  have h1 : min d (m.log2 + d + 2) = d := by omega
  rw [h1, Nat.one_shiftLeft]
  have hp : 0 < 2 ^ d := Nat.two_pow_pos d
  have h2 : m * 2 ^ d / 2 ^ d = m := Nat.mul_div_cancel m hp
  have h3 : m * 2 ^ d % 2 ^ d = 0 := Nat.mul_mod_left _ _
  simp only [h2, h3]
  cases way <;> simp
theorem cut_zero (way : Toward) (neg : Bool) (m : Nat) : way.cut neg m 0 = m := by
  by_cases hm : m = 0
  · subst hm; cases way <;> simp [Toward.cut]
  · have := cut_exact way neg hm 0
    simpa using this

/-- A number that is a float is written as that float. -/
theorem nearest_exact {r mag a b : Nat} (neg : Bool) (hr : r < 9218868437227405312) (h0 : 0 < r) (h : mag * 2 ^ a = nv r * 2 ^ b) :
    double.nearest neg mag (-1074 + (a : Int) - b) = double.word neg r := by
  have hmg := mg_pos h0
  have hmp := mg_pl r
  have hml := mg_lt r
  have hm0 : mag ≠ 0 := by
    intro e
    rw [e, Nat.zero_mul] at h
    have : 0 < nv r * 2 ^ b := Nat.mul_pos (Nat.mul_pos hmg (Nat.two_pow_pos _)) (Nat.two_pow_pos _)
    omega
  have hlog : mag.log2 + a = (mg r).log2 + pl r + b := by
    have := congrArg Nat.log2 h
    unfold nv at this
    rw [log2_shift hm0, log2_shift (Nat.ne_of_gt (Nat.mul_pos hmg (Nat.two_pow_pos _))), log2_shift (Nat.ne_of_gt hmg)] at this
    exact this
  have hlast : max (-1074 + (a : Int) - b + mag.log2 - ((52 : Nat) : Int)) (-1074) = -1074 + (pl r : Int) := by
    by_cases h3 : r < 4503599627370496
    · have hp : pl r = 0 := by unfold pl; rw [if_pos h3]
      have hmr : mg r = r := by unfold mg; rw [if_pos h3]
      have : (mg r).log2 < 52 := (Nat.log2_lt (Nat.ne_of_gt hmg)).2 (by rw [hmr]; exact h3)
      omega
    · have : (mg r).log2 = 52 := by
        rw [Nat.log2_eq_iff (Nat.ne_of_gt hmg)]
        refine ⟨?_, by exact hml⟩
        unfold mg
        rw [if_neg h3]
        exact Nat.le_add_right _ _
      omega
  unfold Format.nearest
  rw [if_neg hm0, dbl_least, dbl_frac, dbl_binade, dbl_inf]
  dsimp only
  rw [hlast]
  have e1 : (-1074 + (a : Int) - b - (-1074 + (pl r : Int))).toNat = a - (b + pl r) := by omega
  have e2 : (-1074 + (pl r : Int) - (-1074 + (a : Int) - b)).toNat = (b + pl r) - a := by omega
  have e3 : (-1074 + (pl r : Int) - -1074).toNat = pl r := by omega
  rw [e1, e2, e3]
  have hk : Toward.even.cut neg (mag <<< (a - (b + pl r))) ((b + pl r) - a) = mg r := by
    rw [Nat.shiftLeft_eq]
    have h' : mag * 2 ^ a = mg r * 2 ^ (b + pl r) := by
      rw [h]; unfold nv; rw [Nat.mul_assoc, ← Nat.pow_add, Nat.add_comm]
    by_cases hab : b + pl r ≤ a
    · have e4 : (b + pl r) - a = 0 := by omega
      have e5 : mag * 2 ^ (a - (b + pl r)) = mg r := by
        have : mag * 2 ^ (a - (b + pl r)) * 2 ^ (b + pl r) = mg r * 2 ^ (b + pl r) := by
          rw [Nat.mul_assoc, ← Nat.pow_add, Nat.sub_add_cancel hab]; exact h'
        exact Nat.eq_of_mul_eq_mul_right (Nat.two_pow_pos _) this
      rw [e4, e5, cut_zero]
    · have e4 : a - (b + pl r) = 0 := by omega
      have e5 : mag = mg r * 2 ^ ((b + pl r) - a) := by
        have : mag * 2 ^ a = mg r * 2 ^ ((b + pl r) - a) * 2 ^ a := by
          rw [Nat.mul_assoc, ← Nat.pow_add, Nat.sub_add_cancel (by omega)]; exact h'
        exact Nat.eq_of_mul_eq_mul_right (Nat.two_pow_pos _) this
      rw [e4, Nat.pow_zero, Nat.mul_one, e5, cut_exact _ _ (Nat.ne_of_gt hmg)]
  rw [hk, hmp]
  congr 1
  omega

theorem nv_lt {r1 r2 : Nat} (h : r1 < r2) : nv r1 < nv r2 := by
  have h1 := mg_pl r1
  have h2 := mg_pl r2
  have hp : pl r1 ≤ pl r2 := by
    unfold pl
    split <;> split <;> omega
  rcases Nat.lt_or_ge (pl r1) (pl r2) with h3 | h3
  · have hm : 4503599627370496 ≤ mg r2 := by
      unfold pl at h3
      unfold mg
      split at h3
      · split at h3
        · omega
        · rename_i h4; rw [if_neg h4]; omega
      · split at h3
        · omega
        · rename_i h4; rw [if_neg h4]; omega
    have hl := mg_lt r1
    unfold nv
    calc mg r1 * 2 ^ pl r1 < 9007199254740992 * 2 ^ pl r1 := Nat.mul_lt_mul_of_pos_right hl (Nat.two_pow_pos _)
      _ = 4503599627370496 * 2 ^ (pl r1 + 1) := by rw [Nat.pow_succ]; omega
      _ ≤ 4503599627370496 * 2 ^ pl r2 := Nat.mul_le_mul_left _ (Nat.pow_le_pow_right (by decide) h3)
      _ ≤ mg r2 * 2 ^ pl r2 := Nat.mul_le_mul_right _ hm
  · have e : pl r1 = pl r2 := by omega
    have : mg r1 < mg r2 := by rw [e] at h1; omega
    unfold nv
    rw [e]
    exact Nat.mul_lt_mul_of_pos_right this (Nat.two_pow_pos _)

theorem order_nv {r1 r2 : Nat} (h1 : r1 < 9218868437227405312) (h2 : r2 < 9218868437227405312) : double.order r1 r2 = some (compare (nv r1 : Int) (nv r2 : Int)) := by
  unfold Format.order
  rw [read_rung h1, read_rung h2]
  unfold Datum.order signed
  simp only [Bool.false_eq_true, if_false, Option.some.injEq]
  have e1 : (-1074 + (pl r1 : Int) - min (-1074 + (pl r1 : Int)) (-1074 + (pl r2 : Int))).toNat = pl r1 - min (pl r1) (pl r2) := by omega
  have e2 : (-1074 + (pl r2 : Int) - min (-1074 + (pl r1 : Int)) (-1074 + (pl r2 : Int))).toNat = pl r2 - min (pl r1) (pl r2) := by omega
  rw [e1, e2, Nat.shiftLeft_eq, Nat.shiftLeft_eq]
  have f1 : nv r1 = mg r1 * 2 ^ (pl r1 - min (pl r1) (pl r2)) * 2 ^ min (pl r1) (pl r2) := by
    unfold nv; rw [Nat.mul_assoc, ← Nat.pow_add, Nat.sub_add_cancel (by omega)]
  have f2 : nv r2 = mg r2 * 2 ^ (pl r2 - min (pl r1) (pl r2)) * 2 ^ min (pl r1) (pl r2) := by
    unfold nv; rw [Nat.mul_assoc, ← Nat.pow_add, Nat.sub_add_cancel (by omega)]
  rw [f1, f2]
  generalize mg r1 * 2 ^ (pl r1 - min (pl r1) (pl r2)) = x
  generalize mg r2 * 2 ^ (pl r2 - min (pl r1) (pl r2)) = y
  have hc : 0 < 2 ^ min (pl r1) (pl r2) := Nat.two_pow_pos _
  generalize 2 ^ min (pl r1) (pl r2) = c at hc
  rcases Nat.lt_trichotomy x y with h | h | h
  · rw [Int.compare_eq_lt.2 (by omega), Int.compare_eq_lt.2 (Int.ofNat_lt.2 (Nat.mul_lt_mul_of_pos_right h hc))]
  · rw [h, Int.compare_eq_eq.2 rfl, Int.compare_eq_eq.2 rfl]
  · rw [Int.compare_eq_gt.2 (by omega), Int.compare_eq_gt.2 (Int.ofNat_lt.2 (Nat.mul_lt_mul_of_pos_right h hc))]
theorem ord_lt {r1 r2 : Nat} (h2 : r2 < 9218868437227405312) (h : r1 < r2) : double.order r1 r2 = some .lt := by
  rw [order_nv (by omega) h2, Int.compare_eq_lt.2 (Int.ofNat_lt.2 (nv_lt h))]
theorem ord_gt {r1 r2 : Nat} (h1 : r1 < 9218868437227405312) (h : r2 < r1) : double.order r1 r2 = some .gt := by
  rw [order_nv h1 (by omega), Int.compare_eq_gt.2 (Int.ofNat_lt.2 (nv_lt h))]
theorem ord_eq {r : Nat} (h1 : r < 9218868437227405312) : double.order r r = some .eq := by
  rw [order_nv h1 h1, Int.compare_eq_eq.2 rfl]

/-- Twice a float, as a rung. -/
def dbl (r : Nat) : Nat := if r < 4503599627370496 then 2 * r else r + 4503599627370496
theorem nv_dbl (r : Nat) : nv (dbl r) = 2 * nv r := by
  unfold dbl
  split
  · rename_i h
    by_cases h2 : 2 * r < 4503599627370496
    · unfold nv mg pl
      rw [if_pos h2, if_pos h2, if_pos h, if_pos h]; simp
    · unfold nv mg pl
      rw [if_neg h2, if_neg h2, if_pos h, if_pos h]
      have e : 2 * r / 4503599627370496 = 1 := by omega
      rw [e]; simp; omega
  · rename_i h
    have h2 : ¬ r + 4503599627370496 < 4503599627370496 := by omega
    unfold nv mg pl
    rw [if_neg h2, if_neg h2, if_neg h, if_neg h]
    have e : (r + 4503599627370496) / 4503599627370496 - 1 = (r / 4503599627370496 - 1) + 1 := by omega
    have e2 : (r + 4503599627370496) % 4503599627370496 = r % 4503599627370496 := by omega
    rw [e, e2, Nat.pow_succ]
    generalize 2 ^ (r / 4503599627370496 - 1) = x
    generalize 4503599627370496 + r % 4503599627370496 = y
    rw [← Nat.mul_assoc, Nat.mul_comm (y * x) 2]
theorem mg_two : mg 4611686018427387904 = 4503599627370496 := by decide
theorem pl_two : pl 4611686018427387904 = 1023 := by decide
theorem mg_one : mg 4607182418800017408 = 4503599627370496 := by decide
theorem pl_one : pl 4607182418800017408 = 1022 := by decide
theorem mg_big : mg 4841369599423283200 = 4503599627370496 := by decide
theorem pl_big : pl 4841369599423283200 = 1074 := by decide

theorem word_pos (r : Nat) : double.word false r = r := rfl
theorem mul_two {r : Nat} (h0 : 0 < r) (h : dbl r < 9218868437227405312) : double.mul r 4611686018427387904 = some (dbl r) := by
  have hr : r < 9218868437227405312 := by unfold dbl at h; split at h <;> omega
  unfold Format.mul
  rw [read_rung hr, read_rung (by decide), mg_two, pl_two]
  simp only [Datum.product, Option.map_some, Format.write, Bool.bne_false, Option.some.injEq]
  have := nearest_exact (r := dbl r) (mag := mg r * 4503599627370496) (a := pl r) (b := 51) false h (by unfold dbl; split <;> omega) (by
    rw [nv_dbl]; unfold nv
    rw [show (4503599627370496 : Nat) = 2 * 2 ^ 51 by decide]
    generalize 2 ^ 51 = x
    generalize 2 ^ pl r = y
    simp only [Nat.mul_assoc, Nat.mul_comm, Nat.mul_left_comm])
  rw [word_pos] at this
  rw [← this]
  congr 1
/-- A float times 2^52. -/
theorem mul_big {r t : Nat} (h0 : 0 < r) (hr : r < 9218868437227405312) (ht : t < 9218868437227405312) (h : nv t = nv r * 4503599627370496) : double.mul r 4841369599423283200 = some t := by
  have ht0 : 0 < t := by
    rcases Nat.eq_zero_or_pos t with e | e
    · subst e
      have h1 : nv 0 = 0 := by decide
      have h2 : 0 < nv r := Nat.mul_pos (mg_pos h0) (Nat.two_pow_pos _)
      omega
    · exact e
  unfold Format.mul
  rw [read_rung hr, read_rung (by decide), mg_big, pl_big]
  simp only [Datum.product, Option.map_some, Format.write, Bool.bne_false, Option.some.injEq]
  have := nearest_exact (r := t) (mag := mg r * 4503599627370496) (a := pl r) (b := 0) false ht ht0 (by
    rw [h]; unfold nv
    rw [Nat.pow_zero, Nat.mul_one]
    exact Nat.mul_right_comm _ _ _)
  rw [word_pos] at this
  rw [← this]
  congr 1
theorem mul_big_zero : double.mul 0 4841369599423283200 = some 0 := by decide
/-- Half of a float of two or more. -/
theorem div_two {r : Nat} (h1 : 9007199254740992 ≤ r) (hr : r < 9218868437227405312) : double.div r 4611686018427387904 = some (r - 4503599627370496) := by
  have hn : ¬ r < 4503599627370496 := by omega
  have hl : (mg r).log2 = 52 := by
    rw [Nat.log2_eq_iff (Nat.ne_of_gt (mg_pos (by omega)))]
    refine ⟨?_, mg_lt r⟩
    unfold mg; rw [if_neg hn]; exact Nat.le_add_right _ _
  have hl2 : (4503599627370496 : Nat).log2 = 52 := by decide
  unfold Format.div
  rw [read_rung hr, read_rung (by decide), mg_two, pl_two, dbl_frac]
  simp only [Datum.quotient, Bool.bne_false, hl, hl2]
  rw [if_neg (by decide)]
  simp only [Option.map_some, Format.write, Option.some.injEq]
  rw [show (52 + 2 + 52 - 52 : Nat) = 54 by decide, Nat.shiftLeft_eq]
  have e1 : mg r * 2 ^ 54 / 4503599627370496 = mg r * 4 := by
    rw [show (2 : Nat) ^ 54 = 4 * 4503599627370496 by decide, ← Nat.mul_assoc]
    exact Nat.mul_div_cancel _ (by decide)
  have e2 : mg r * 2 ^ 54 % 4503599627370496 = 0 := by
    rw [show (2 : Nat) ^ 54 = 4 * 4503599627370496 by decide, ← Nat.mul_assoc]
    exact Nat.mul_mod_left _ _
  rw [e1, e2]
  have hd : dbl (r - 4503599627370496) = r := by unfold dbl; rw [if_neg (by omega)]; omega
  have hnv := nv_dbl (r - 4503599627370496)
  rw [hd] at hnv
  have := nearest_exact (r := r - 4503599627370496) (mag := 2 * (mg r * 4) + ((0 : Nat) != 0).toNat) (a := pl r) (b := 4) false (by omega) (by omega) (by
    have e3 : 2 * (mg r * 4) + ((0 : Nat) != 0).toNat = 8 * mg r := by simp; omega
    rw [e3]
    have : mg r * 2 ^ pl r = 2 * nv (r - 4503599627370496) := hnv
    rw [Nat.mul_assoc, this]
    omega)
  rw [word_pos] at this
  rw [show (-1074 + (pl r : Int) - (-1074 + ((1023 : Nat) : Int)) - ((54 : Nat) : Int) - 1) = -1074 + (pl r : Int) - ((4 : Nat) : Int) by omega]
  exact this

theorem nv_of {p m : Nat} (hm1 : 4503599627370496 ≤ m) (hm2 : m < 9007199254740992) : mg (p * 4503599627370496 + m) = m ∧ pl (p * 4503599627370496 + m) = p := by
  unfold mg pl
  have h : ¬ p * 4503599627370496 + m < 4503599627370496 := by omega
  rw [if_neg h, if_neg h]
  refine ⟨?_, ?_⟩ <;> omega
/-- Every number of 53 binary digits at most, within range, is a float. -/
theorem repr_some {k j : Nat} (h0 : 0 < k) (hk : k < 9007199254740992) (hj : j ≤ 1074) : ∃ t, t < 9218868437227405312 ∧ nv t = k * 2 ^ j := by
  have hl1 := Nat.log2_self_le (Nat.ne_of_gt h0)
  have hl2 := @Nat.lt_log2_self k
  have hl : k.log2 < 53 := (Nat.log2_lt (Nat.ne_of_gt h0)).2 hk
  by_cases hc : k.log2 + j < 52
  · have hlt : k * 2 ^ j < 4503599627370496 := by
      have : (k * 2 ^ j).log2 < 52 := by rw [log2_shift (Nat.ne_of_gt h0)]; exact hc
      exact (Nat.log2_lt (Nat.ne_of_gt (Nat.mul_pos h0 (Nat.two_pow_pos _)))).1 this
    refine ⟨k * 2 ^ j, by omega, ?_⟩
    unfold nv mg pl
    rw [if_pos hlt, if_pos hlt, Nat.pow_zero, Nat.mul_one]
  · have hm1 : 4503599627370496 ≤ k * 2 ^ (52 - k.log2) := by
      calc 4503599627370496 = 2 ^ k.log2 * 2 ^ (52 - k.log2) := by rw [← Nat.pow_add, show k.log2 + (52 - k.log2) = 52 by omega]
        _ ≤ k * 2 ^ (52 - k.log2) := Nat.mul_le_mul_right _ hl1
    have hm2 : k * 2 ^ (52 - k.log2) < 9007199254740992 := by
      calc k * 2 ^ (52 - k.log2) < 2 ^ (k.log2 + 1) * 2 ^ (52 - k.log2) := Nat.mul_lt_mul_of_pos_right hl2 (Nat.two_pow_pos _)
        _ = 9007199254740992 := by rw [← Nat.pow_add, show k.log2 + 1 + (52 - k.log2) = 53 by omega]
    obtain ⟨e1, e2⟩ := nv_of (p := j + k.log2 - 52) hm1 hm2
    refine ⟨(j + k.log2 - 52) * 4503599627370496 + k * 2 ^ (52 - k.log2), by omega, ?_⟩
    unfold nv
    rw [e1, e2, Nat.mul_assoc, ← Nat.pow_add, show 52 - k.log2 + (j + k.log2 - 52) = j by omega]
/-- A whole number, read off its float. -/
theorem toInt_of {t k E : Nat} (hE : E = 1074) (ht : t < 9218868437227405312) (h : nv t = k * 2 ^ E) : (double.read t).toInt .zero = some (k : Int) := by
  rw [read_rung ht]
  unfold Datum.toInt Datum.integral signed
  simp only [Bool.false_eq_true, if_false, Option.some.injEq, Nat.shiftLeft_zero]
  unfold nv at h
  by_cases hm : mg t = 0
  · have hk : k = 0 := by
      rw [hm, Nat.zero_mul] at h
      rcases Nat.eq_zero_or_pos k with e | e
      · exact e
      · exact absurd h (Nat.ne_of_lt (Nat.mul_pos e (Nat.two_pow_pos _)))
    subst hk
    rw [hm, Nat.zero_shiftLeft]
    simp [Toward.cut]
  · by_cases hp : pl t ≤ E
    · have e1 : (-1074 + (pl t : Int)).toNat = 0 := by omega
      have e2 : (-(-1074 + (pl t : Int))).toNat = E - pl t := by omega
      have e3 : mg t = k * 2 ^ (E - pl t) := by
        have : mg t * 2 ^ pl t = k * 2 ^ (E - pl t) * 2 ^ pl t := by rw [Nat.mul_assoc, ← Nat.pow_add, Nat.sub_add_cancel hp]; exact h
        exact Nat.eq_of_mul_eq_mul_right (Nat.two_pow_pos _) this
      have hk : k ≠ 0 := by rintro rfl; rw [Nat.zero_mul] at e3; exact hm e3
      rw [e1, e2, Nat.shiftLeft_zero, e3, cut_exact _ _ hk]
    · have e1 : (-1074 + (pl t : Int)).toNat = pl t - E := by omega
      have e2 : (-(-1074 + (pl t : Int))).toNat = 0 := by omega
      rw [e1, e2, cut_zero, Nat.shiftLeft_eq]
      have : mg t * 2 ^ (pl t - E) * 2 ^ E = k * 2 ^ E := by rw [Nat.mul_assoc, ← Nat.pow_add, Nat.sub_add_cancel (by omega)]; exact h
      rw [Nat.eq_of_mul_eq_mul_right (Nat.two_pow_pos _) this]
/-- A float between one and two, less one. -/
theorem sub_one {q E : Nat} (hE : E = 1022) (hq : q < 4503599627370496) : ∃ t, t < 9218868437227405312 ∧ nv t = q * 2 ^ E ∧ double.sub (4607182418800017408 + q) 4607182418800017408 = some t := by
  have e : 4607182418800017408 + q = 1022 * 4503599627370496 + (4503599627370496 + q) := by omega
  obtain ⟨e1, e2⟩ := nv_of (p := 1022) (m := 4503599627370496 + q) (by omega) (by omega)
  have hs : double.sub (4607182418800017408 + q) 4607182418800017408 = some (double.nearest false q (-1074 + ((1022 : Nat) : Int))) := by
    unfold Format.sub
    rw [read_rung (by omega), read_rung (by decide), mg_one, pl_one, e, e1, e2]
    simp only [Datum.opposite, Datum.sum, Option.map_some, Format.write, signed, Bool.not_false, Bool.false_eq_true, if_false, if_true, Int.min_self, Int.sub_self, Int.toNat_zero, Nat.shiftLeft_zero, Option.some.injEq, Bool.false_and]
    have e3 : ((4503599627370496 + q : Nat) : Int) + -((4503599627370496 : Nat) : Int) = (q : Int) := by omega
    rw [e3]
    have e4 : (if (q : Int) = 0 then false else decide ((q : Int) < 0)) = false := by
      split
      · rfl
      · simp
    rw [e4]
    rfl
  rcases Nat.eq_zero_or_pos q with h0 | h0
  · subst h0
    exact ⟨0, by decide, by rw [Nat.zero_mul]; decide, hs⟩
  · obtain ⟨t, ht, hnt⟩ := repr_some (j := E) h0 (by omega) (by omega)
    refine ⟨t, ht, hnt, ?_⟩
    have ht0 : 0 < t := by
      rcases Nat.eq_zero_or_pos t with e | e
      · subst e
        have h1 : nv 0 = 0 := by decide
        rw [h1] at hnt
        exact absurd hnt (Nat.ne_of_lt (Nat.mul_pos h0 (Nat.two_pow_pos _)))
      · exact e
    have := nearest_exact (r := t) (mag := q) (a := E) (b := 0) false ht ht0 (by rw [hnt, Nat.pow_zero, Nat.mul_one])
    rw [word_pos] at this
    rw [hs, ← this, hE]
    rfl
end Go.Proofs.Qxb6618748a
