/-
  floatBits, floatMatches: the bits of a float, found by halving and doubling.
-/
import Derived.Test.Qxb6618748aFl
import Derived.Test.Qxb6618748aSf
import Derived.Deep.LoopGhost
import Derived.Deep.QuietTactic
import Derived.Laws.BitsAllLaws
namespace Go.Proofs.Qxb6618748a
open Go.RowKit

@[go_sem] theorem unary_neg_float (k : FloatKind) (b : Nat) : Op.unary .neg (.float k b) = pure (.float k (Op.negFloat k b)) := rfl
theorem f_ord (x y : Nat) : FloatKind.f64.format.order x y = Ieee.double.order x y := rfl
theorem f_lt {r1 r2 : Nat} (h2 : r2 < 9218868437227405312) (h : r1 < r2) : FloatKind.f64.format.order r1 r2 = some .lt := ord_lt h2 h
theorem f_gt {r1 r2 : Nat} (h1 : r1 < 9218868437227405312) (h : r2 < r1) : FloatKind.f64.format.order r1 r2 = some .gt := ord_gt h1 h
theorem f_ge {r1 r2 : Nat} (h1 : r1 < 9218868437227405312) (h : r2 ≤ r1) : (FloatKind.f64.format.order r1 r2 == some .gt || FloatKind.f64.format.order r1 r2 == some .eq) = true := by
  rcases Nat.lt_or_ge r2 r1 with h2 | h2
  · rw [f_gt h1 h2]; rfl
  · obtain rfl : r1 = r2 := by omega
    rw [f_ord, ord_eq h1]; rfl
theorem f_max {r : Nat} (h1 : r < 9218868437227405312) : (FloatKind.f64.format.order r 9218868437227405311 == some .gt) = false := by
  rcases Nat.lt_or_ge r 9218868437227405311 with h2 | h2
  · rw [f_lt (by decide) h2]; rfl
  · obtain rfl : r = 9218868437227405311 := by omega
    rw [f_ord, ord_eq h1]; rfl
theorem f_neg {r : Nat} (h1 : r < 9218868437227405312) (h0 : 0 < r) : FloatKind.f64.format.order (9223372036854775808 + r) 0 = some .lt := by
  rw [f_ord]
  unfold Ieee.Format.order
  rw [read_neg h1, read_rung (by decide)]
  have e1 : mg 0 = 0 := rfl
  have e2 : pl 0 = 0 := rfl
  rw [e1, e2]
  unfold Ieee.Datum.order Ieee.signed
  simp only [if_true, Bool.false_eq_true, if_false, Option.some.injEq, Nat.zero_shiftLeft]
  have e3 : (-1074 + (pl r : Int) - min (-1074 + (pl r : Int)) (-1074 + ((0 : Nat) : Int))).toNat = pl r := by omega
  rw [e3, Nat.shiftLeft_eq]
  have : 0 < mg r * 2 ^ pl r := Nat.mul_pos (mg_pos h0) (Nat.two_pow_pos _)
  exact Int.compare_eq_lt.2 (by omega)
theorem neg_word {r : Nat} (h : r < 9223372036854775808) : Op.negFloat .f64 (9223372036854775808 + r) = r := by
  show (9223372036854775808 + r) ^^^ 2 ^ 63 = r
  have e : 9223372036854775808 + r = 2 ^ 63 ||| r := by rw [nat_join 63 _ _ (by decide) h]
  rw [e]
  apply Nat.eq_of_testBit_eq
  intro i
  rw [Nat.testBit_xor, Nat.testBit_or, Nat.testBit_two_pow]
  by_cases hi : 63 = i
  · subst hi
    have : r.testBit 63 = false := Nat.testBit_lt_two_pow h
    simp [this]
  · simp [hi]
theorem or_sign {y : Nat} (h : y < 9223372036854775808) : bits .or .u64 9223372036854775808 (y : Int) = 9223372036854775808 + (y : Int) := by
  have := u64_or_nat 9223372036854775808 y (by decide) (by omega)
  rw [nat_join 63 _ _ (by decide) h] at this
  exact this
theorem or_zero {y : Nat} (h : y < 18446744073709551616) : bits .or .u64 0 (y : Int) = (y : Int) := by
  have := u64_or_nat 0 y (by decide) h
  rw [Nat.zero_or] at this
  exact this
theorem or_low {a q : Nat} (ha : a < 4096) (h : q < 4503599627370496) : bits .or .u64 ((a * 4503599627370496 : Nat) : Int) (q : Int) = ((a * 4503599627370496 + q : Nat) : Int) := by
  have := u64_or_nat (a * 4503599627370496) q (by omega) (by omega)
  rw [nat_join 52 _ _ (by omega) h] at this
  exact this

theorem f_nlt {r1 r2 : Nat} (h1 : r1 < 9218868437227405312) (h : r2 ≤ r1) : (FloatKind.f64.format.order r1 r2 == some .lt) = false := by
  rcases Nat.lt_or_ge r2 r1 with h2 | h2
  · rw [f_gt h1 h2]; rfl
  · obtain rfl : r1 = r2 := by omega
    rw [f_ord, ord_eq h1]; rfl
/-- (f - 1) * 2^52 of a float between one and two. -/
theorem frac_of {q : Nat} (hq : q < 4503599627370496) : ∃ t1 t2, (∀ w : World, (binOp .sub 22 (.float .f64 (4607182418800017408 + q)) (.float .f64 4607182418800017408)).run Try.prog w = .ok (.float .f64 t1) w) ∧
    (∀ w : World, (binOp .mul 22 (.float .f64 t1) (.float .f64 4841369599423283200)).run Try.prog w = .ok (.float .f64 t2) w) ∧ (∀ w : World, (convert 22 51 (.float .f64 t2)).run Try.prog w = .ok (.int .u64 (q : Int)) w) := by
  obtain ⟨E, hE⟩ : ∃ E : Nat, E = 1022 := ⟨_, rfl⟩
  obtain ⟨t1, ht1, hn1, hs⟩ := sub_one hE hq
  have key : ∃ t2, t2 < 9218868437227405312 ∧ nv t2 = q * 2 ^ (E + 52) ∧ Ieee.double.mul t1 4841369599423283200 = some t2 := by
    rcases Nat.eq_zero_or_pos q with h0 | h0
    · subst h0
      have : t1 = 0 := by
        rcases Nat.eq_zero_or_pos t1 with e | e
        · exact e
        · have := Nat.mul_pos (mg_pos e) (Nat.two_pow_pos (pl t1))
          rw [Nat.zero_mul] at hn1
          unfold nv at hn1
          omega
      subst this
      exact ⟨0, by decide, by rw [Nat.zero_mul]; rfl, mul_big_zero⟩
    · obtain ⟨t2, ht2, hn2⟩ := repr_some (j := E + 52) h0 (by omega) (by omega)
      refine ⟨t2, ht2, hn2, mul_big ?_ ht1 ht2 ?_⟩
      · rcases Nat.eq_zero_or_pos t1 with e | e
        · subst e
          have h1 : nv 0 = 0 := rfl
          rw [h1] at hn1
          exact absurd hn1 (Nat.ne_of_lt (Nat.mul_pos h0 (Nat.two_pow_pos _)))
        · exact e
      · rw [hn2, hn1, Nat.mul_assoc, show (4503599627370496 : Nat) = 2 ^ 52 from rfl, ← Nat.pow_add]
  obtain ⟨t2, ht2, hn2, hm⟩ := key
  refine ⟨t1, t2, fun w => run_float_arith w .sub 22 .f64 _ _ t1 hs, fun w => run_float_arith w .mul 22 .f64 _ _ t2 hm, fun w => run_convert_float_int w 22 51 .f64 .u64 t2 q (by rw [Try.underlying22]; rfl) Try.underlying51 ?_⟩
  have hi := toInt_of (E := E + 52) (by omega) ht2 hn2
  unfold floatToIntVal
  have hd : (FloatKind.f64.decode t2).toInt .zero = some (q : Int) := hi
  rw [hd]
  have h1 : IntKind.u64.min ≤ (q : Int) ∧ (q : Int) ≤ IntKind.u64.max := by
    have e1 : IntKind.u64.min = 0 := rfl
    have e2 : IntKind.u64.max = 18446744073709551615 := rfl
    rw [e1, e2]
    omega
  simp only [h1, and_self, if_true]

theorem or_fin {sg : Nat} (hs : sg = 0 ∨ sg = 9223372036854775808) {a : Int} {E q : Nat} (ha : a = E) (hE : E < 2047) (hq : q < 4503599627370496) : bits .or .u64 (bits .or .u64 (sg : Int) (a * 4503599627370496)) (q : Int) = ((sg + (E * 4503599627370496 + q) : Nat) : Int) := by
  subst ha
  have e1 : (E : Int) * 4503599627370496 = ((E * 4503599627370496 : Nat) : Int) := by omega
  have e2 : bits .or .u64 (sg : Int) ((E * 4503599627370496 : Nat) : Int) = ((sg + E * 4503599627370496 : Nat) : Int) := by
    have := u64_or_nat sg (E * 4503599627370496) (by omega) (by omega)
    rw [nat_join 63 _ _ (by omega) (by omega)] at this
    exact this
  have e3 := u64_or_nat (sg + E * 4503599627370496) q (by omega) (by omega)
  rw [nat_join 52 _ _ (by omega) hq] at e3
  rw [e1, e2, e3]
  omega
theorem or_sub {sg r : Nat} (hs : sg = 0 ∨ sg = 9223372036854775808) (hr : r < 9223372036854775808) : bits .or .u64 (sg : Int) (r : Int) = ((sg + r : Nat) : Int) := by
  have := u64_or_nat sg r (by omega) (by omega)
  rw [nat_join 63 _ _ (by omega) hr] at this
  exact this

set_option maxRecDepth 100000 in
set_option maxHeartbeats 1000000 in
theorem fb_ge2_0 (r : Nat) (w : World) (hr : r < 9218868437227405312) (h2 : 4611686018427387904 ≤ r) :
    Calls Try.prog 43 #[.float .f64 r] w fun e w' => e = .returned (.int .u64 ((0 + r : Nat) : Int)) ∧ w' = w := by
  have hz : FloatKind.f64.format.order r 0 = some .gt := f_gt hr (by omega)
  have hmx := f_max hr
  obtain ⟨K, q, HR, hK1, hK2, hq⟩ : ∃ K q, Hid (r = (K + 1023) * 4503599627370496 + q) ∧ 1 ≤ K ∧ K ≤ 1023 ∧ q < 4503599627370496 := ⟨r / 4503599627370496 - 1023, r % 4503599627370496, by show _ = _; omega, by omega, by omega, by omega⟩
  obtain ⟨t1, t2, hf1, hf2, hf3⟩ := frac_of hq
  go_enter Try.func43, Try.ntmps43
  go_wp2_with fail
  go_loopg [0, 4] K (fun gk fv ev wr => ∃ (j x : Nat), gk = K - j ∧ j ≤ K ∧ fv = .float .f64 x ∧ ev = .int .i64 (j : Int) ∧ wr = w ∧ Hid (x = (K - j + 1023) * 4503599627370496 + q))
  case atStart => exact ⟨0, _, by omega, by omega, rfl, by go_num, rfl, HR.out⟩
  case round =>
    obtain ⟨j, x, hgk, hj, rfl, rfl, rfl, HX⟩ := hrel
    by_cases hlt : j < K
    · have hge : (FloatKind.f64.format.order x 4611686018427387904 == some .gt || FloatKind.f64.format.order x 4611686018427387904 == some .eq) = true := f_ge (by have := HX.out; omega) (by have := HX.out; omega)
      have hdv : ∀ w : World, (binOp .quo 22 (.float .f64 x) (.float .f64 4611686018427387904)).run Try.prog w = .ok (.float .f64 (x - 4503599627370496)) w := fun w => run_float_arith w .quo 22 .f64 _ _ _ (div_two (by have := HX.out; omega) (by have := HX.out; omega))
      go_wp2
      go_roundg (K - (j + 1))
      case measure => omega
      case rel => exact ⟨j + 1, _, rfl, by omega, rfl, by go_num, rfl, by show _ = _; have := HX.out; omega⟩
    · obtain rfl : j = K := by omega
      have hxe : x = 4607182418800017408 + q := by have := HX.out; omega
      subst hxe
      have hlt2 : FloatKind.f64.format.order (4607182418800017408 + q) 4611686018427387904 = some .lt := f_lt (by decide) (by omega)
      have hlt1 := f_nlt (r1 := 4607182418800017408 + q) (r2 := 4607182418800017408) (by omega) (by omega)
      clear hmx hz hgk hj HX hlt 
      go_wp2_with fail
      go_loopg [0, 4] 0 (fun gk fv ev w1 => fv = .float .f64 (4607182418800017408 + q) ∧ ev = .int .i64 (j : Int) ∧ w1 = wr)
      case atStart => exact ⟨rfl, rfl, rfl⟩
      case round =>
        obtain ⟨rfl, rfl, rfl⟩ := hrel
        go_wp2
        go_ret
        refine ⟨?_, rfl⟩
        rw [HR.out]
        exact congrArg (fun z => Ending.returned (.int .u64 z)) (or_fin (.inl rfl) (by omega) (by omega) hq)

set_option maxRecDepth 100000 in
set_option maxHeartbeats 1000000 in
theorem fb_ge2_1 (r : Nat) (w : World) (hr : r < 9218868437227405312) (h2 : 4611686018427387904 ≤ r) :
    Calls Try.prog 43 #[.float .f64 (9223372036854775808 + r)] w fun e w' => e = .returned (.int .u64 ((9223372036854775808 + r : Nat) : Int)) ∧ w' = w := by
  have hx : FloatKind.f64.format.order (9223372036854775808 + r) 0 = some .lt := f_neg hr (by omega)
  have hng := neg_word (r := r) (by omega)
  have hz : FloatKind.f64.format.order r 0 = some .gt := f_gt hr (by omega)
  have hmx := f_max hr
  obtain ⟨K, q, HR, hK1, hK2, hq⟩ : ∃ K q, Hid (r = (K + 1023) * 4503599627370496 + q) ∧ 1 ≤ K ∧ K ≤ 1023 ∧ q < 4503599627370496 := ⟨r / 4503599627370496 - 1023, r % 4503599627370496, by show _ = _; omega, by omega, by omega, by omega⟩
  obtain ⟨t1, t2, hf1, hf2, hf3⟩ := frac_of hq
  go_enter Try.func43, Try.ntmps43
  go_wp2_with fail
  go_loopg [0, 4] K (fun gk fv ev wr => ∃ (j x : Nat), gk = K - j ∧ j ≤ K ∧ fv = .float .f64 x ∧ ev = .int .i64 (j : Int) ∧ wr = w ∧ Hid (x = (K - j + 1023) * 4503599627370496 + q))
  case atStart => exact ⟨0, _, by omega, by omega, rfl, by go_num, rfl, HR.out⟩
  case round =>
    obtain ⟨j, x, hgk, hj, rfl, rfl, rfl, HX⟩ := hrel
    by_cases hlt : j < K
    · have hge : (FloatKind.f64.format.order x 4611686018427387904 == some .gt || FloatKind.f64.format.order x 4611686018427387904 == some .eq) = true := f_ge (by have := HX.out; omega) (by have := HX.out; omega)
      have hdv : ∀ w : World, (binOp .quo 22 (.float .f64 x) (.float .f64 4611686018427387904)).run Try.prog w = .ok (.float .f64 (x - 4503599627370496)) w := fun w => run_float_arith w .quo 22 .f64 _ _ _ (div_two (by have := HX.out; omega) (by have := HX.out; omega))
      go_wp2
      go_roundg (K - (j + 1))
      case measure => omega
      case rel => exact ⟨j + 1, _, rfl, by omega, rfl, by go_num, rfl, by show _ = _; have := HX.out; omega⟩
    · obtain rfl : j = K := by omega
      have hxe : x = 4607182418800017408 + q := by have := HX.out; omega
      subst hxe
      have hlt2 : FloatKind.f64.format.order (4607182418800017408 + q) 4611686018427387904 = some .lt := f_lt (by decide) (by omega)
      have hlt1 := f_nlt (r1 := 4607182418800017408 + q) (r2 := 4607182418800017408) (by omega) (by omega)
      clear hmx hz hgk hj HX hlt hx hng 
      go_wp2_with fail
      go_loopg [0, 4] 0 (fun gk fv ev w1 => fv = .float .f64 (4607182418800017408 + q) ∧ ev = .int .i64 (j : Int) ∧ w1 = wr)
      case atStart => exact ⟨rfl, rfl, rfl⟩
      case round =>
        obtain ⟨rfl, rfl, rfl⟩ := hrel
        go_wp2
        go_ret
        refine ⟨?_, rfl⟩
        rw [HR.out]
        exact congrArg (fun z => Ending.returned (.int .u64 z)) (or_fin (.inr rfl) (by omega) (by omega) hq)

set_option maxRecDepth 100000 in
set_option maxHeartbeats 1000000 in
theorem fb_lt2_0 (r : Nat) (w : World) (hr : r < 9218868437227405312) (h2 : r < 4611686018427387904) (h1 : 4503599627370496 ≤ r) :
    Calls Try.prog 43 #[.float .f64 r] w fun e w' => e = .returned (.int .u64 ((0 + r : Nat) : Int)) ∧ w' = w := by
  have hz : FloatKind.f64.format.order r 0 = some .gt := f_gt hr (by omega)
  have hmx := f_max hr
  have h2' : FloatKind.f64.format.order r 4611686018427387904 = some .lt := f_lt (by decide) h2
  obtain ⟨E, q, HR, hE1, hE2, hq⟩ : ∃ E q, Hid (r = E * 4503599627370496 + q) ∧ 1 ≤ E ∧ E ≤ 1023 ∧ q < 4503599627370496 := ⟨r / 4503599627370496, r % 4503599627370496, by show _ = _; omega, by omega, by omega, by omega⟩
  obtain ⟨t1, t2, hf1, hf2, hf3⟩ := frac_of hq
  go_enter Try.func43, Try.ntmps43
  go_wp2_with fail
  go_loopg [0, 4] 0 (fun gk fv ev w1 => fv = .float .f64 r ∧ ev = .int .i64 0 ∧ w1 = w)
  case atStart => exact ⟨rfl, rfl, rfl⟩
  case round =>
    obtain ⟨rfl, rfl, rfl⟩ := hrel
    go_wp2_with fail
    go_loopg [0, 4] (1023 - E) (fun gk fv ev w1 => ∃ (j x : Nat), gk = 1023 - E - j ∧ j ≤ 1023 - E ∧ fv = .float .f64 x ∧ ev = .int .i64 (-(j : Int)) ∧ w1 = wr ∧ Hid (x = (E + j) * 4503599627370496 + q))
    case atStart => exact ⟨0, _, by omega, by omega, rfl, by go_num, rfl, HR.out⟩
    case round =>
      clear hmx hz h2' 
      obtain ⟨j, x, hgk, hj, rfl, rfl, rfl, HX⟩ := hrel
      by_cases hlt : j < 1023 - E
      · have hl1 : FloatKind.f64.format.order x 4607182418800017408 = some .lt := f_lt (by decide) (by have := HX.out; omega)
        have hml : ∀ w : World, (binOp .mul 22 (.float .f64 x) (.float .f64 4611686018427387904)).run Try.prog w = .ok (.float .f64 (x + 4503599627370496)) w := fun w => run_float_arith w .mul 22 .f64 _ _ _ (by
          have := HX.out
          have h3 := mul_two (r := x) (by omega) (by unfold dbl; rw [if_neg (by omega)]; omega)
          unfold dbl at h3
          rw [if_neg (by omega)] at h3
          exact h3)
        have hgt : decide ((-1022 : Int) < -(j : Int)) = true := by simp; omega
        go_wp2
        go_roundg (1023 - E - (j + 1))
        case measure => omega
        case rel => exact ⟨j + 1, _, rfl, by omega, rfl, by go_num, rfl, by show _ = _; have := HX.out; omega⟩
      · have hjE : j = 1023 - E := by omega
        have hxe : x = 4607182418800017408 + q := by have := HX.out; omega
        subst hxe
        have hlt1 := f_nlt (r1 := 4607182418800017408 + q) (r2 := 4607182418800017408) (by omega) (by omega)
        clear hgk hj HX hlt
        go_wp2
        go_ret
        refine ⟨?_, rfl⟩
        rw [HR.out]
        exact congrArg (fun z => Ending.returned (.int .u64 z)) (or_fin (.inl rfl) (by omega) (by omega) hq)

set_option maxRecDepth 100000 in
set_option maxHeartbeats 1000000 in
theorem fb_lt2_1 (r : Nat) (w : World) (hr : r < 9218868437227405312) (h2 : r < 4611686018427387904) (h1 : 4503599627370496 ≤ r) :
    Calls Try.prog 43 #[.float .f64 (9223372036854775808 + r)] w fun e w' => e = .returned (.int .u64 ((9223372036854775808 + r : Nat) : Int)) ∧ w' = w := by
  have hx : FloatKind.f64.format.order (9223372036854775808 + r) 0 = some .lt := f_neg hr (by omega)
  have hng := neg_word (r := r) (by omega)
  have hz : FloatKind.f64.format.order r 0 = some .gt := f_gt hr (by omega)
  have hmx := f_max hr
  have h2' : FloatKind.f64.format.order r 4611686018427387904 = some .lt := f_lt (by decide) h2
  obtain ⟨E, q, HR, hE1, hE2, hq⟩ : ∃ E q, Hid (r = E * 4503599627370496 + q) ∧ 1 ≤ E ∧ E ≤ 1023 ∧ q < 4503599627370496 := ⟨r / 4503599627370496, r % 4503599627370496, by show _ = _; omega, by omega, by omega, by omega⟩
  obtain ⟨t1, t2, hf1, hf2, hf3⟩ := frac_of hq
  go_enter Try.func43, Try.ntmps43
  go_wp2_with fail
  go_loopg [0, 4] 0 (fun gk fv ev w1 => fv = .float .f64 r ∧ ev = .int .i64 0 ∧ w1 = w)
  case atStart => exact ⟨rfl, rfl, rfl⟩
  case round =>
    obtain ⟨rfl, rfl, rfl⟩ := hrel
    go_wp2_with fail
    go_loopg [0, 4] (1023 - E) (fun gk fv ev w1 => ∃ (j x : Nat), gk = 1023 - E - j ∧ j ≤ 1023 - E ∧ fv = .float .f64 x ∧ ev = .int .i64 (-(j : Int)) ∧ w1 = wr ∧ Hid (x = (E + j) * 4503599627370496 + q))
    case atStart => exact ⟨0, _, by omega, by omega, rfl, by go_num, rfl, HR.out⟩
    case round =>
      clear hmx hz h2' hx hng 
      obtain ⟨j, x, hgk, hj, rfl, rfl, rfl, HX⟩ := hrel
      by_cases hlt : j < 1023 - E
      · have hl1 : FloatKind.f64.format.order x 4607182418800017408 = some .lt := f_lt (by decide) (by have := HX.out; omega)
        have hml : ∀ w : World, (binOp .mul 22 (.float .f64 x) (.float .f64 4611686018427387904)).run Try.prog w = .ok (.float .f64 (x + 4503599627370496)) w := fun w => run_float_arith w .mul 22 .f64 _ _ _ (by
          have := HX.out
          have h3 := mul_two (r := x) (by omega) (by unfold dbl; rw [if_neg (by omega)]; omega)
          unfold dbl at h3
          rw [if_neg (by omega)] at h3
          exact h3)
        have hgt : decide ((-1022 : Int) < -(j : Int)) = true := by simp; omega
        go_wp2
        go_roundg (1023 - E - (j + 1))
        case measure => omega
        case rel => exact ⟨j + 1, _, rfl, by omega, rfl, by go_num, rfl, by show _ = _; have := HX.out; omega⟩
      · have hjE : j = 1023 - E := by omega
        have hxe : x = 4607182418800017408 + q := by have := HX.out; omega
        subst hxe
        have hlt1 := f_nlt (r1 := 4607182418800017408 + q) (r2 := 4607182418800017408) (by omega) (by omega)
        clear hgk hj HX hlt
        go_wp2
        go_ret
        refine ⟨?_, rfl⟩
        rw [HR.out]
        exact congrArg (fun z => Ending.returned (.int .u64 z)) (or_fin (.inr rfl) (by omega) (by omega) hq)

theorem sub_lt_one {r x j : Nat} (hr : r < 4503599627370496) (hj : j ≤ 1022) (h : nv x = r * 2 ^ j) : x < 4607182418800017408 := by
  rcases Nat.lt_or_ge x 4607182418800017408 with h1 | h1
  · exact h1
  · have h2 : nv 4607182418800017408 ≤ nv x := by
      rcases Nat.lt_or_ge 4607182418800017408 x with h3 | h3
      · exact Nat.le_of_lt (nv_lt h3)
      · obtain rfl : x = 4607182418800017408 := by omega
        exact Nat.le_refl _
    have h4 : nv 4607182418800017408 = 4503599627370496 * 2 ^ pl 4607182418800017408 := by unfold nv; rw [mg_one]
    have h5 : j ≤ pl 4607182418800017408 := by rw [pl_one]; exact hj
    have h6 : r * 2 ^ j < 4503599627370496 * 2 ^ pl 4607182418800017408 :=
      Nat.lt_of_lt_of_le (Nat.mul_lt_mul_of_pos_right hr (Nat.two_pow_pos j)) (Nat.mul_le_mul_left _ (Nat.pow_le_pow_right (by decide) h5))
    rw [h, h4] at h2
    exact absurd h6 (Nat.not_lt.2 h2)
theorem sub_int {r x j : Nat} (hr : r < 4503599627370496) (h0 : 0 < r) (hj : j = 1022) (hx0 : 0 < x) (hx : x < 4607182418800017408) (h : nv x = r * 2 ^ j) : ∃ t2,
    (∀ w : World, (binOp .mul 22 (.float .f64 x) (.float .f64 4841369599423283200)).run Try.prog w = .ok (.float .f64 t2) w) ∧ (∀ w : World, (convert 22 51 (.float .f64 t2)).run Try.prog w = .ok (.int .u64 (r : Int)) w) := by
  obtain ⟨t2, ht2, hn2⟩ := repr_some (k := r) (j := j + 52) h0 (by omega) (by omega)
  have hm := mul_big (t := t2) hx0 (by omega) ht2 (by rw [hn2, h, Nat.mul_assoc, show (4503599627370496 : Nat) = 2 ^ 52 from rfl, ← Nat.pow_add])
  refine ⟨t2, fun w => run_float_arith w .mul 22 .f64 _ _ t2 hm, fun w => run_convert_float_int w 22 51 .f64 .u64 t2 r (by rw [Try.underlying22]; rfl) Try.underlying51 ?_⟩
  have hi := toInt_of (E := j + 52) (by omega) ht2 hn2
  unfold floatToIntVal
  have hd : (FloatKind.f64.decode t2).toInt .zero = some (r : Int) := hi
  rw [hd]
  have h1 : IntKind.u64.min ≤ (r : Int) ∧ (r : Int) ≤ IntKind.u64.max := by
    have e1 : IntKind.u64.min = 0 := rfl
    have e2 : IntKind.u64.max = 18446744073709551615 := rfl
    rw [e1, e2]
    omega
  simp only [h1, and_self, if_true]

set_option maxRecDepth 100000 in
set_option maxHeartbeats 1000000 in
theorem fb_sub_0 (r : Nat) (w : World) (hr1 : r < 4503599627370496) (h1 : 0 < r) :
    Calls Try.prog 43 #[.float .f64 r] w fun e w' => e = .returned (.int .u64 ((0 + r : Nat) : Int)) ∧ w' = w := by
  have hr : r < 9218868437227405312 := by omega
  have hz : FloatKind.f64.format.order r 0 = some .gt := f_gt hr (by omega)
  have hmx := f_max hr
  have h2' : FloatKind.f64.format.order r 4611686018427387904 = some .lt := f_lt (by decide) (by omega)
  go_enter Try.func43, Try.ntmps43
  go_wp2_with fail
  go_loopg [0, 4] 0 (fun gk fv ev w1 => fv = .float .f64 r ∧ ev = .int .i64 0 ∧ w1 = w)
  case atStart => exact ⟨rfl, rfl, rfl⟩
  case round =>
    obtain ⟨rfl, rfl, rfl⟩ := hrel
    go_wp2_with fail
    go_loopg [0, 4] 1022 (fun gk fv ev w1 => ∃ (j x : Nat), gk = 1022 - j ∧ j ≤ 1022 ∧ fv = .float .f64 x ∧ ev = .int .i64 (-(j : Int)) ∧ w1 = wr ∧ Hid (0 < x ∧ nv x = r * 2 ^ j))
    case atStart => exact ⟨0, _, by omega, by omega, rfl, by go_num, rfl, h1, by unfold nv mg pl; rw [if_pos hr1, if_pos hr1]⟩
    case round =>
      clear hmx hz h2' 
      obtain ⟨j, x, hgk, hj, rfl, rfl, rfl, HX⟩ := hrel
      have hx1 := sub_lt_one hr1 hj HX.out.2
      have hl1 : FloatKind.f64.format.order x 4607182418800017408 = some .lt := f_lt (by decide) hx1
      by_cases hlt : j < 1022
      · have hml : ∀ w : World, (binOp .mul 22 (.float .f64 x) (.float .f64 4611686018427387904)).run Try.prog w = .ok (.float .f64 (dbl x)) w := fun w => run_float_arith w .mul 22 .f64 _ _ _ (mul_two HX.out.1 (by unfold dbl; split <;> omega))
        have hgt : decide ((-1022 : Int) < -(j : Int)) = true := by simp; omega
        go_wp2
        go_roundg (1022 - (j + 1))
        case measure => omega
        case rel => exact ⟨j + 1, _, rfl, by omega, rfl, by go_num, rfl, by have := HX.out.1; unfold dbl; split <;> omega, by rw [nv_dbl, HX.out.2, Nat.pow_succ, Nat.mul_comm 2, Nat.mul_assoc]⟩
      · have hje : j = 1022 := by omega
        obtain ⟨t2, hf2, hf3⟩ := sub_int hr1 h1 hje HX.out.1 hx1 HX.out.2
        clear HX hgk hj hlt
        subst hje
        go_wp2
        go_ret
        exact ⟨congrArg (fun z => Ending.returned (.int .u64 z)) (or_sub (.inl rfl) (by omega)), rfl⟩

set_option maxRecDepth 100000 in
set_option maxHeartbeats 1000000 in
theorem fb_sub_1 (r : Nat) (w : World) (hr1 : r < 4503599627370496) (h1 : 0 < r) :
    Calls Try.prog 43 #[.float .f64 (9223372036854775808 + r)] w fun e w' => e = .returned (.int .u64 ((9223372036854775808 + r : Nat) : Int)) ∧ w' = w := by
  have hr : r < 9218868437227405312 := by omega
  have hx : FloatKind.f64.format.order (9223372036854775808 + r) 0 = some .lt := f_neg hr (by omega)
  have hng := neg_word (r := r) (by omega)
  have hz : FloatKind.f64.format.order r 0 = some .gt := f_gt hr (by omega)
  have hmx := f_max hr
  have h2' : FloatKind.f64.format.order r 4611686018427387904 = some .lt := f_lt (by decide) (by omega)
  go_enter Try.func43, Try.ntmps43
  go_wp2_with fail
  go_loopg [0, 4] 0 (fun gk fv ev w1 => fv = .float .f64 r ∧ ev = .int .i64 0 ∧ w1 = w)
  case atStart => exact ⟨rfl, rfl, rfl⟩
  case round =>
    obtain ⟨rfl, rfl, rfl⟩ := hrel
    go_wp2_with fail
    go_loopg [0, 4] 1022 (fun gk fv ev w1 => ∃ (j x : Nat), gk = 1022 - j ∧ j ≤ 1022 ∧ fv = .float .f64 x ∧ ev = .int .i64 (-(j : Int)) ∧ w1 = wr ∧ Hid (0 < x ∧ nv x = r * 2 ^ j))
    case atStart => exact ⟨0, _, by omega, by omega, rfl, by go_num, rfl, h1, by unfold nv mg pl; rw [if_pos hr1, if_pos hr1]⟩
    case round =>
      clear hmx hz h2' hx hng 
      obtain ⟨j, x, hgk, hj, rfl, rfl, rfl, HX⟩ := hrel
      have hx1 := sub_lt_one hr1 hj HX.out.2
      have hl1 : FloatKind.f64.format.order x 4607182418800017408 = some .lt := f_lt (by decide) hx1
      by_cases hlt : j < 1022
      · have hml : ∀ w : World, (binOp .mul 22 (.float .f64 x) (.float .f64 4611686018427387904)).run Try.prog w = .ok (.float .f64 (dbl x)) w := fun w => run_float_arith w .mul 22 .f64 _ _ _ (mul_two HX.out.1 (by unfold dbl; split <;> omega))
        have hgt : decide ((-1022 : Int) < -(j : Int)) = true := by simp; omega
        go_wp2
        go_roundg (1022 - (j + 1))
        case measure => omega
        case rel => exact ⟨j + 1, _, rfl, by omega, rfl, by go_num, rfl, by have := HX.out.1; unfold dbl; split <;> omega, by rw [nv_dbl, HX.out.2, Nat.pow_succ, Nat.mul_comm 2, Nat.mul_assoc]⟩
      · have hje : j = 1022 := by omega
        obtain ⟨t2, hf2, hf3⟩ := sub_int hr1 h1 hje HX.out.1 hx1 HX.out.2
        clear HX hgk hj hlt
        subst hje
        go_wp2
        go_ret
        exact ⟨congrArg (fun z => Ending.returned (.int .u64 z)) (or_sub (.inr rfl) (by omega)), rfl⟩

set_option maxRecDepth 100000 in
set_option maxHeartbeats 1000000 in
theorem fb_zero (w : World) : Calls Try.prog 43 #[.float .f64 0] w fun e w' => e = .returned (.int .u64 0) ∧ w' = w := by
  have h1 : FloatKind.f64.format.order 0 0 = some .eq := by decide
  have h2 : FloatKind.f64.format.order 9218868437227405312 0 = some .gt := by decide
  have hq : ∀ w : World, (binOp .quo 22 (.float .f64 4607182418800017408) (.float .f64 0)).run Try.prog w = .ok (.float .f64 9218868437227405312) w := fun w => run_float_arith w .quo 22 .f64 _ _ _ (by decide)
  go_enter Try.func43, Try.ntmps43
  go_wp2
  go_ret
  exact ⟨rfl, rfl⟩
set_option maxRecDepth 100000 in
set_option maxHeartbeats 1000000 in
theorem fb_nzero (w : World) : Calls Try.prog 43 #[.float .f64 9223372036854775808] w fun e w' => e = .returned (.int .u64 9223372036854775808) ∧ w' = w := by
  have h1 : FloatKind.f64.format.order 9223372036854775808 0 = some .eq := by decide
  have h3 : FloatKind.f64.format.order 0 0 = some .eq := by decide
  have h2 : FloatKind.f64.format.order 18442240474082181120 0 = some .lt := by decide
  have hn : Op.negFloat .f64 9223372036854775808 = 0 := by decide
  have hq : ∀ w : World, (binOp .quo 22 (.float .f64 4607182418800017408) (.float .f64 9223372036854775808)).run Try.prog w = .ok (.float .f64 18442240474082181120) w := fun w => run_float_arith w .quo 22 .f64 _ _ _ (by decide)
  go_enter Try.func43, Try.ntmps43
  go_wp2
  go_ret
  exact ⟨rfl, rfl⟩
set_option maxRecDepth 100000 in
set_option maxHeartbeats 1000000 in
theorem fb_inf (w : World) : Calls Try.prog 43 #[.float .f64 9218868437227405312] w fun e w' => e = .returned (.int .u64 9218868437227405312) ∧ w' = w := by
  have h1 : FloatKind.f64.format.order 9218868437227405312 0 = some .gt := by decide
  have h2 : FloatKind.f64.format.order 9218868437227405312 9218868437227405311 = some .gt := by decide
  have h3 : bits .or .u64 0 9218868437227405312 = 9218868437227405312 := by decide
  go_enter Try.func43, Try.ntmps43
  go_wp2
  go_ret
  exact ⟨rfl, rfl⟩
set_option maxRecDepth 100000 in
set_option maxHeartbeats 1000000 in
theorem fb_ninf (w : World) : Calls Try.prog 43 #[.float .f64 18442240474082181120] w fun e w' => e = .returned (.int .u64 18442240474082181120) ∧ w' = w := by
  have h1 : FloatKind.f64.format.order 18442240474082181120 0 = some .lt := by decide
  have h4 : FloatKind.f64.format.order 9218868437227405312 0 = some .gt := by decide
  have hn : Op.negFloat .f64 18442240474082181120 = 9218868437227405312 := by decide
  have h2 : FloatKind.f64.format.order 9218868437227405312 9218868437227405311 = some .gt := by decide
  have h3 : bits .or .u64 9223372036854775808 9218868437227405312 = 18442240474082181120 := by decide
  go_enter Try.func43, Try.ntmps43
  go_wp2
  go_ret
  exact ⟨rfl, rfl⟩

/-- floatBits of a float that is a number or an infinity: its bits. -/
theorem floatBits_any (x : Nat) (hx : x < 18446744073709551616) (h : x % 9223372036854775808 ≤ 9218868437227405312) (w : World) : Calls Try.prog 43 #[.float .f64 x] w fun e w' => e = .returned (.int .u64 (x : Int)) ∧ w' = w := by
  obtain ⟨r, hr, hxr⟩ : ∃ r, r ≤ 9218868437227405312 ∧ (x = r ∨ x = 9223372036854775808 + r) := ⟨x % 9223372036854775808, h, by omega⟩
  rcases Nat.eq_zero_or_pos r with h0 | h0
  · subst h0
    rcases hxr with rfl | rfl
    · exact fb_zero w
    · exact fb_nzero w
  by_cases h1 : r = 9218868437227405312
  · subst h1
    rcases hxr with rfl | rfl
    · exact fb_inf w
    · exact fb_ninf w
  have hr' : r < 9218868437227405312 := by omega
  by_cases h2 : 4611686018427387904 ≤ r
  · rcases hxr with rfl | rfl
    · have := fb_ge2_0 x w hr' h2; rw [Nat.zero_add] at this; exact this
    · exact fb_ge2_1 r w hr' h2
  by_cases h3 : 4503599627370496 ≤ r
  · rcases hxr with rfl | rfl
    · have := fb_lt2_0 x w hr' (by omega) h3; rw [Nat.zero_add] at this; exact this
    · exact fb_lt2_1 r w hr' (by omega) h3
  · rcases hxr with rfl | rfl
    · have := fb_sub_0 x w (by omega) h0; rw [Nat.zero_add] at this; exact this
    · exact fb_sub_1 r w (by omega) h0

theorem nan_iff {x : Nat} : FloatKind.f64.format.order x x = none ↔ 9218868437227405312 < x % 9223372036854775808 := by
  show (Ieee.double.read x).order (Ieee.double.read x) = none ↔ _
  unfold Ieee.Format.read
  rw [dbl_sign, dbl_binade, dbl_inf]
  by_cases h1 : x % 9223372036854775808 < 4503599627370496
  · simp only [h1, if_true]
    constructor
    · intro h; simp [Ieee.Datum.order] at h
    · intro h; omega
  · by_cases h2 : x % 9223372036854775808 < 9218868437227405312
    · simp only [h1, h2, if_true, if_false]
      constructor
      · intro h; simp [Ieee.Datum.order] at h
      · intro h; omega
    · by_cases h3 : x % 9223372036854775808 = 9218868437227405312
      · simp only [h3]
        constructor
        · intro h; simp [Ieee.Datum.order] at h
        · intro h; omega
      · simp only [h1, h2, h3, if_false]
        constructor
        · intro _; omega
        · intro _; rfl
theorem and_exp {x : Nat} (hx : x < 18446744073709551616) (h : 9218868437227405312 < x % 9223372036854775808) : bits .and .u64 (x : Int) 9218868437227405312 = 9218868437227405312 := by
  have h1 := u64_and_nat x 9218868437227405312 hx (by decide)
  have e1 : x = (x / 4503599627370496) * 2 ^ 52 + x % 4503599627370496 := by omega
  have e2 : x &&& 9218868437227405312 = 9218868437227405312 := by
    have e3 : (9218868437227405312 : Nat) = 2047 <<< 52 := by decide
    apply Nat.eq_of_testBit_eq
    intro i
    rw [e3, Nat.testBit_and, Nat.testBit_shiftLeft]
    by_cases hi : 52 ≤ i
    · have e4 : x.testBit i = (x / 2 ^ 52).testBit (i - 52) := by
        rw [Nat.testBit_div_two_pow, Nat.sub_add_cancel hi]
      have e5 : (x / 2 ^ 52) % 2048 = 2047 := by
        have : (2 : Nat) ^ 52 = 4503599627370496 := by decide
        omega
      by_cases h11 : i - 52 < 11
      · have e6 : (x / 2 ^ 52).testBit (i - 52) = ((x / 2 ^ 52) % 2 ^ 11).testBit (i - 52) := by
          rw [Nat.testBit_mod_two_pow]; simp [h11]
        rw [e4, e6, show (2 : Nat) ^ 11 = 2048 by decide, e5]
        simp
      · have e6 : (2047 : Nat).testBit (i - 52) = false := Nat.testBit_lt_two_pow (Nat.lt_of_lt_of_le (by decide : 2047 < 2 ^ 11) (Nat.pow_le_pow_right (by decide) (by omega)))
        rw [e6]
        simp
    · simp [hi]
  rw [e2] at h1
  exact h1
theorem and_frac {x : Nat} (hx : x < 18446744073709551616) (h : 9218868437227405312 < x % 9223372036854775808) : (bits .and .u64 (x : Int) 4503599627370495 != 0) = true := by
  have h1 := u64_and_nat x 4503599627370495 hx (by decide)
  have h2 : x &&& 4503599627370495 = x % 2 ^ 52 := Nat.and_two_pow_sub_one_eq_mod x 52
  rw [h2] at h1
  have h3 : bits .and .u64 (x : Int) 4503599627370495 = ((x % 2 ^ 52 : Nat) : Int) := h1
  rw [h3]
  have h4 : (2 : Nat) ^ 52 = 4503599627370496 := by decide
  rw [h4, bne_iff_ne]
  omega
set_option maxRecDepth 100000 in
/-- A float's own bits match it. -/
theorem floatMatches_any (x : Nat) (hx : x < 18446744073709551616) (w : World) : Calls Try.prog 33 #[.int .u64 (x : Int), .float .f64 x] w fun e w' => e = .returned (.bool true) ∧ w' = w := by
  rcases order_self (x := x) with h | h
  · have hm : x % 9223372036854775808 ≤ 9218868437227405312 := by
      rcases Nat.lt_or_ge 9218868437227405312 (x % 9223372036854775808) with h1 | h1
      · rw [nan_iff.2 h1] at h; cases h
      · exact h1
    have HF : Hid (x % 9223372036854775808 ≤ 9218868437227405312) := hm
    clear hm
    go_enter Try.func33, Try.ntmps33
    go_wp2_with fail
    refine (floatBits_any x hx HF.out _).mono ?_
    rintro e w' ⟨rfl, rfl⟩
    go_wp2
    go_ret
    exact ⟨rfl, rfl⟩
  · have h1 := and_exp hx (nan_iff.1 h)
    have h2 := and_frac hx (nan_iff.1 h)
    go_enter Try.func33, Try.ntmps33
    go_wp2
    go_ret
    exact ⟨rfl, rfl⟩
end Go.Proofs.Qxb6618748a
