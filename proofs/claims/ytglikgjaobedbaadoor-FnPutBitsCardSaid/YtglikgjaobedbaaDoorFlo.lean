/-
  PLAIN LAWS of the model's float64 by its bits: N = s * 2^63 + r.
-/
import Derived.Test.YtglikgjaobedbaaDoorBase
import Derived.Laws.FloatArith
import Derived.Laws.BitsAll
namespace Go.Proofs.YtglikgjaobedbaaDoor.Flo
open Go
set_option linter.unusedVariables false
set_option linter.unusedSimpArgs false
set_option exponentiation.threshold 3000
theorem sw : Ieee.double.signWeight = 9223372036854775808 := by decide
theorem bn : Ieee.double.binade = 4503599627370496 := by decide
theorem ir : Ieee.double.infRung = 9218868437227405312 := by decide
theorem lp : Ieee.double.leastPlace = -1074 := by decide
theorem fb : Ieee.double.fractionBits = 52 := rfl
/-- The sign. -/
def sg (N : Nat) : Bool := N / 9223372036854775808 % 2 == 1
theorem read_lo (N : Nat) (h : N % 9223372036854775808 < 4503599627370496) : Ieee.double.read N = .number (sg N) (N % 9223372036854775808) (-1074) := by
  unfold Ieee.Format.read
  simp only [sw, bn, ir, lp]
  rw [if_pos h]
  rfl
theorem read_mid (N : Nat) (h : 4503599627370496 ≤ N % 9223372036854775808) (h2 : N % 9223372036854775808 < 9218868437227405312) : Ieee.double.read N = .number (sg N) (4503599627370496 + N % 9223372036854775808 % 4503599627370496) (-1074 + (N % 9223372036854775808 / 4503599627370496 - 1 : Nat)) := by
  unfold Ieee.Format.read
  simp only [sw, bn, ir, lp]
  rw [if_neg (by omega), if_pos h2]
  rfl
theorem read_inf (N : Nat) (h : N % 9223372036854775808 = 9218868437227405312) : Ieee.double.read N = .infinity (sg N) := by
  unfold Ieee.Format.read
  simp only [sw, bn, ir, lp]
  rw [if_neg (by omega), if_neg (by omega), if_pos h]
  rfl
theorem read_nan (N : Nat) (h : 9218868437227405312 < N % 9223372036854775808) : ∃ t, Ieee.double.read N = .nan (sg N) t := by
  unfold Ieee.Format.read
  simp only [sw, bn, ir, lp]
  rw [if_neg (by omega), if_neg (by omega), if_neg (by omega)]
  exact ⟨_, rfl⟩
theorem cmp_self (x : Int) : compare x x = .eq := by simp
theorem cmpN_self (x : Nat) : compare x x = .eq := by simp
theorem order_self (N : Nat) (h : N % 9223372036854775808 ≤ 9218868437227405312) : FloatKind.f64.format.order N N = some .eq := by
  show Ieee.double.order N N = some .eq
  unfold Ieee.Format.order
  rcases Nat.lt_or_ge (N % 9223372036854775808) 4503599627370496 with h1 | h1
  · rw [read_lo N h1]; simp only [Ieee.Datum.order, cmp_self]
  · rcases Nat.lt_or_ge (N % 9223372036854775808) 9218868437227405312 with h2 | h2
    · rw [read_mid N h1 h2]; simp only [Ieee.Datum.order, cmp_self]
    · rw [read_inf N (by omega)]; simp only [Ieee.Datum.order, cmpN_self]
theorem order_nan (N M : Nat) (h : 9218868437227405312 < N % 9223372036854775808) : FloatKind.f64.format.order N M = none := by
  show Ieee.double.order N M = none
  unfold Ieee.Format.order
  obtain ⟨t, ht⟩ := read_nan N h
  rw [ht]
  rfl
theorem signed0 (s : Bool) (k : Nat) : Ieee.signed s 0 k = 0 := by cases s <;> simp [Ieee.signed]
theorem signed_pos (m k : Nat) : Ieee.signed false m k = ((m * 2 ^ k : Nat) : Int) := by simp [Ieee.signed, Nat.shiftLeft_eq]
theorem signed_neg (m k : Nat) : Ieee.signed true m k = -((m * 2 ^ k : Nat) : Int) := by simp [Ieee.signed, Nat.shiftLeft_eq]
theorem signed_ne (s : Bool) (m k : Nat) (h : 0 < m) : Ieee.signed s m k ≠ 0 := by
  have h2 : 0 < m * 2 ^ k := Nat.mul_pos h (Nat.two_pow_pos k)
  cases s
  · rw [signed_pos]; omega
  · rw [signed_neg]; omega
theorem cmp_ne (x : Int) (h : x ≠ 0) : compare x 0 ≠ .eq := fun e => h (by simpa using e)
/-- 'x == 0'. -/
theorem order_zero (N : Nat) (h : N % 9223372036854775808 = 0) : FloatKind.f64.format.order N 0 = some .eq := by
  show Ieee.double.order N 0 = some .eq
  unfold Ieee.Format.order
  rw [read_lo N (by omega), read_lo 0 (by omega), h]
  simp only [Ieee.Datum.order, Nat.zero_mod, signed0, cmp_self]
theorem order_nonzero (N : Nat) (h : 0 < N % 9223372036854775808) : FloatKind.f64.format.order N 0 ≠ some .eq := by
  show Ieee.double.order N 0 ≠ some .eq
  unfold Ieee.Format.order
  rw [read_lo 0 (by omega)]
  rcases Nat.lt_or_ge (N % 9223372036854775808) 4503599627370496 with h1 | h1
  · rw [read_lo N h1]
    simp only [Ieee.Datum.order, Nat.zero_mod, signed0]
    intro e
    exact cmp_ne _ (signed_ne _ _ _ h) (Option.some.inj e)
  · rcases Nat.lt_or_ge (N % 9223372036854775808) 9218868437227405312 with h2 | h2
    · rw [read_mid N h1 h2]
      simp only [Ieee.Datum.order, Nat.zero_mod, signed0]
      intro e
      exact cmp_ne _ (signed_ne _ _ _ (by omega)) (Option.some.inj e)
    · rcases Nat.eq_or_lt_of_le h2 with h3 | h3
      · rw [read_inf N h3.symm]
        simp only [Ieee.Datum.order]
        cases sg N <;> simp
      · obtain ⟨t, ht⟩ := read_nan N h3
        rw [ht]
        simp [Ieee.Datum.order]
theorem cmp_lt {x y : Int} (h : x < y) : compare x y = .lt := by rw [Int.compare_eq_lt]; exact h
theorem cmp_not_gt {x y : Int} (h : x ≤ y) : compare x y ≠ .gt := by rw [Ne, Int.compare_eq_gt]; omega
theorem cmp_not_lt {x y : Int} (h : y ≤ x) : compare x y ≠ .lt := by rw [Ne, Int.compare_eq_lt]; omega
theorem sg_lt (r : Nat) (h : r < 9223372036854775808) : sg r = false := by
  unfold sg
  rw [Nat.div_eq_of_lt h]
  rfl
/-- 'f > MaxFloat64', f not negative. -/
theorem gt_max (r : Nat) (h : r < 9218868437227405312) : (FloatKind.f64.format.order r 9218868437227405311 == some .gt) = false := by
  rw [beq_eq_false_iff_ne]
  show Ieee.double.order r 9218868437227405311 ≠ some .gt
  unfold Ieee.Format.order
  rw [read_mid 9218868437227405311 (by omega) (by omega), sg_lt _ (by omega)]
  rcases Nat.lt_or_ge r 4503599627370496 with h1 | h1
  · rw [read_lo r (by omega), sg_lt _ (by omega)]
    simp only [Ieee.Datum.order]
    intro e
    refine cmp_not_gt ?_ (Option.some.inj e)
    rw [signed_pos, signed_pos]
    have hb : min (-1074 : Int) (-1074 + ((9218868437227405311 % 9223372036854775808 / 4503599627370496 - 1 : Nat) : Int)) = -1074 := by omega
    rw [hb]
    have hz : ((-1074 : Int) - -1074).toNat = 0 := by omega
    rw [hz, Nat.pow_zero, Nat.mul_one]
    have : 0 < 2 ^ ((-1074 + ((9218868437227405311 % 9223372036854775808 / 4503599627370496 - 1 : Nat) : Int)) - -1074).toNat := Nat.two_pow_pos _
    generalize 2 ^ ((-1074 + ((9218868437227405311 % 9223372036854775808 / 4503599627370496 - 1 : Nat) : Int)) - -1074).toNat = q at this
    have h4 : (4503599627370496 + 9218868437227405311 % 9223372036854775808 % 4503599627370496) * 1 ≤ (4503599627370496 + 9218868437227405311 % 9223372036854775808 % 4503599627370496) * q := Nat.mul_le_mul_left _ this
    omega
  · rw [read_mid r (by omega) (by omega), sg_lt _ (by omega)]
    simp only [Ieee.Datum.order]
    intro e
    refine cmp_not_gt ?_ (Option.some.inj e)
    have e1 : r % 9223372036854775808 = r := Nat.mod_eq_of_lt (by omega)
    rw [signed_pos, signed_pos, e1]
    have h3 : r / 4503599627370496 - 1 ≤ 2045 := by omega
    generalize r / 4503599627370496 - 1 = k at h3 ⊢
    have hb : min (-1074 + (k : Int)) (-1074 + ((9218868437227405311 % 9223372036854775808 / 4503599627370496 - 1 : Nat) : Int)) = -1074 + (k : Int) := by omega
    rw [hb]
    have hz : ((-1074 + (k : Int)) - (-1074 + (k : Int))).toNat = 0 := by omega
    rw [hz, Nat.pow_zero, Nat.mul_one]
    have : 0 < 2 ^ ((-1074 + ((9218868437227405311 % 9223372036854775808 / 4503599627370496 - 1 : Nat) : Int)) - (-1074 + (k : Int))).toNat := Nat.two_pow_pos _
    generalize 2 ^ ((-1074 + ((9218868437227405311 % 9223372036854775808 / 4503599627370496 - 1 : Nat) : Int)) - (-1074 + (k : Int))).toNat = q at this
    have h4 : (4503599627370496 + 9218868437227405311 % 9223372036854775808 % 4503599627370496) * 1 ≤ (4503599627370496 + 9218868437227405311 % 9223372036854775808 % 4503599627370496) * q := Nat.mul_le_mul_left _ this
    omega
theorem gt_max_inf : (FloatKind.f64.format.order 9218868437227405312 9218868437227405311 == some .gt) = true := by
  have e1 : Ieee.double.read 9218868437227405312 = .infinity false := by rw [read_inf _ rfl, sg_lt _ (by omega)]
  show (Ieee.double.order 9218868437227405312 9218868437227405311 == some .gt) = true
  unfold Ieee.Format.order
  rw [e1, read_mid 9218868437227405311 (by omega) (by omega)]
  rfl
/-- '< 2^-1022'. -/
theorem lt_small (r : Nat) (h : r < 4503599627370496) : (FloatKind.f64.format.order r 4503599627370496 == some .lt) = true := by
  show (Ieee.double.order r 4503599627370496 == some .lt) = true
  unfold Ieee.Format.order
  rw [read_lo r (by omega), read_mid 4503599627370496 (by omega) (by omega), sg_lt _ (by omega), sg_lt _ (by omega)]
  simp only [Ieee.Datum.order]
  rw [signed_pos, signed_pos, cmp_lt (by simp; omega)]
  rfl
theorem not_lt_small (r : Nat) (h : 4503599627370496 ≤ r) (h2 : r < 9218868437227405312) : (FloatKind.f64.format.order r 4503599627370496 == some .lt) = false := by
  rw [beq_eq_false_iff_ne]
  show Ieee.double.order r 4503599627370496 ≠ some .lt
  unfold Ieee.Format.order
  rw [read_mid r (by omega) (by omega), read_mid 4503599627370496 (by omega) (by omega), sg_lt _ (by omega), sg_lt _ (by omega)]
  simp only [Ieee.Datum.order]
  intro e
  refine cmp_not_lt ?_ (Option.some.inj e)
  rw [signed_pos, signed_pos]
  generalize r % 9223372036854775808 / 4503599627370496 - 1 = k
  have hb : min (-1074 + (k : Int)) (-1074 + ((4503599627370496 % 9223372036854775808 / 4503599627370496 - 1 : Nat) : Int)) = -1074 := by omega
  rw [hb]
  have hz : ((-1074 + ((4503599627370496 % 9223372036854775808 / 4503599627370496 - 1 : Nat) : Int)) - -1074).toNat = 0 := by omega
  rw [hz, Nat.pow_zero, Nat.mul_one]
  have : 0 < 2 ^ ((-1074 + (k : Int)) - -1074).toNat := Nat.two_pow_pos _
  generalize 2 ^ ((-1074 + (k : Int)) - -1074).toNat = q at this
  have h4 : (4503599627370496 + r % 9223372036854775808 % 4503599627370496) * 1 ≤ (4503599627370496 + r % 9223372036854775808 % 4503599627370496) * q := Nat.mul_le_mul_left _ this
  omega
theorem log2_mul_pow (r k : Nat) (h : 0 < r) : (r * 2 ^ k).log2 = r.log2 + k := by
  have h0 : r * 2 ^ k ≠ 0 := Nat.ne_of_gt (Nat.mul_pos h (Nat.two_pow_pos k))
  rw [Nat.log2_eq_iff h0, Nat.pow_add, Nat.pow_succ, Nat.pow_add, Nat.mul_right_comm]
  have h1 := Nat.log2_self_le (n := r) (by omega)
  have h2 := Nat.lt_log2_self (n := r)
  rw [Nat.pow_succ] at h2
  exact ⟨Nat.mul_le_mul_right _ h1, Nat.mul_lt_mul_of_pos_right h2 (Nat.two_pow_pos k)⟩
/-- What 'x * 2^52' is, of a subnormal x: r has L + 1 binary digits. -/
def sub52 (r : Nat) : Nat := r.log2 * 4503599627370496 + r * 2 ^ (52 - r.log2)
theorem log2_sub (r : Nat) (h0 : 0 < r) (h : r < 4503599627370496) : r.log2 ≤ 51 := by
  have := (Nat.log2_lt (n := r) (k := 52) (by omega)).2 (by omega)
  omega
theorem sub_bounds (r : Nat) (h0 : 0 < r) (h : r < 4503599627370496) : 4503599627370496 ≤ r * 2 ^ (52 - r.log2) ∧ r * 2 ^ (52 - r.log2) < 9007199254740992 := by
  have hl := log2_sub r h0 h
  have h1 := Nat.log2_self_le (n := r) (by omega)
  have h2 := Nat.lt_log2_self (n := r)
  have e1 : 2 ^ r.log2 * 2 ^ (52 - r.log2) = 4503599627370496 := by rw [← Nat.pow_add, show r.log2 + (52 - r.log2) = 52 by omega]
  have e2 : 2 ^ (r.log2 + 1) * 2 ^ (52 - r.log2) = 9007199254740992 := by rw [← Nat.pow_add, show r.log2 + 1 + (52 - r.log2) = 53 by omega]
  rw [← e1, ← e2]
  exact ⟨Nat.mul_le_mul_right _ h1, Nat.mul_lt_mul_of_pos_right h2 (Nat.two_pow_pos _)⟩
theorem cut_exact (s : Bool) (q L : Nat) (hL : L ≤ (q * 2 ^ L).log2 + 2) : Ieee.Toward.even.cut s (q * 2 ^ L) L = q := by
  unfold Ieee.Toward.cut
  rw [Nat.min_eq_left hL, Nat.shiftLeft_eq, Nat.one_mul]
  have hp := Nat.two_pow_pos L
  simp only [Nat.mul_div_cancel _ hp, Nat.mul_mod_left, Nat.mul_zero]
  have h1 : (decide (2 ^ L < 0)) = false := by simp
  have h2 : (2 ^ L == 0) = false := by rw [beq_eq_false_iff_ne]; omega
  simp [h1, h2]
theorem cut_exact' (s : Bool) (r : Nat) (h0 : 0 < r) (hl : r.log2 ≤ 51) (e1 : r * 2 ^ 52 = r * 2 ^ (52 - r.log2) * 2 ^ r.log2) : Ieee.Toward.even.cut s (r * 2 ^ 52) r.log2 = r * 2 ^ (52 - r.log2) := by
  rw [e1]
  refine cut_exact s _ _ ?_
  rw [← e1, log2_mul_pow r 52 h0]
  omega
theorem mul_sub (N : Nat) (h0 : 0 < N % 9223372036854775808) (h : N % 9223372036854775808 < 4503599627370496) : floatBits .mul .f64 N 4841369599423283200 = some ((if sg N then 9223372036854775808 else 0) + sub52 (N % 9223372036854775808)) := by
  show Ieee.double.mul N 4841369599423283200 = _
  unfold Ieee.Format.mul
  rw [read_lo N h, read_mid 4841369599423283200 (by omega) (by omega), sg_lt 4841369599423283200 (by omega)]
  generalize N % 9223372036854775808 = r at h0 h
  have hl := log2_sub r h0 h
  have hub := sub_bounds r h0 h
  simp only [Ieee.Datum.product, Option.map_some, Ieee.Format.write, Bool.xor_false]
  rw [show (4503599627370496 + 4841369599423283200 % 9223372036854775808 % 4503599627370496) = 2 ^ 52 from rfl, show ((-1074 : Int) + (-1074 + ((4841369599423283200 % 9223372036854775808 / 4503599627370496 - 1 : Nat) : Int))) = -1074 from rfl]
  unfold Ieee.Format.nearest
  rw [if_neg (Nat.ne_of_gt (Nat.mul_pos h0 (Nat.two_pow_pos 52))), log2_mul_pow r 52 h0]
  simp only [fb, lp, bn, ir]
  rw [show max ((-1074 : Int) + ((r.log2 + 52 : Nat) : Int) - ((52 : Nat) : Int)) (-1074) = -1074 + (r.log2 : Int) by omega]
  rw [show ((-1074 : Int) - (-1074 + (r.log2 : Int))).toNat = 0 by omega, show ((-1074 : Int) + (r.log2 : Int) - -1074).toNat = r.log2 by omega, Nat.shiftLeft_zero]
  have e1 : r * 2 ^ 52 = r * 2 ^ (52 - r.log2) * 2 ^ r.log2 := by rw [Nat.mul_assoc, ← Nat.pow_add, show 52 - r.log2 + r.log2 = 52 by omega]
  rw [cut_exact' (sg N) r h0 hl e1]
  rw [Nat.min_eq_left (by omega)]
  unfold Ieee.Format.word sub52
  rw [sw]
  cases sg N <;> simp
theorem and_sign (N : Nat) (h : N < 18446744073709551616) : Go.bits .andNot .u64 (N : Int) 9223372036854775808 = ((N % 9223372036854775808 : Nat) : Int) := by
  rw [show (9223372036854775808 : Int) = ((9223372036854775808 : Nat) : Int) from rfl, u64_andNot_nat N 9223372036854775808 h (by omega)]
  exact congrArg _ (nat_mask63 N)
theorem and_exp (N : Nat) (h : N < 18446744073709551616) : Go.bits .and .u64 (N : Int) 2047 = ((N % 2048 : Nat) : Int) := by
  rw [show (2047 : Int) = ((2047 : Nat) : Int) from rfl, u64_and_nat N 2047 h (by omega), nat_mask11]
theorem clear_exp (N : Nat) (h : N < 18446744073709551616) : Go.bits .andNot .u64 (N : Int) 9218868437227405312 = ((N / 9223372036854775808 * 9223372036854775808 + N % 4503599627370496 : Nat) : Int) := by
  rw [show (9218868437227405312 : Int) = ((9218868437227405312 : Nat) : Int) from rfl, u64_andNot_nat N 9218868437227405312 h (by omega)]
  refine congrArg _ ?_
  rw [show 18446744073709551615 - 9218868437227405312 = 2 ^ 63 ||| 4503599627370495 from rfl, Nat.and_or_distrib_left, nat_bit, nat_mask52, nat_join 52 _ _ (by omega) (by omega)]
  omega
theorem or_exp (s lo : Nat) (hs : s < 2) (hlo : lo < 4503599627370496) : Go.bits .or .u64 ((s * 9223372036854775808 + lo : Nat) : Int) 4602678819172646912 = ((s * 9223372036854775808 + 4602678819172646912 + lo : Nat) : Int) := by
  rw [show (4602678819172646912 : Int) = ((4602678819172646912 : Nat) : Int) from rfl, u64_or_nat _ 4602678819172646912 (by omega) (by omega)]
  refine congrArg _ ?_
  rw [← nat_join 63 (s * 9223372036854775808) lo (by omega) (by omega), Nat.or_assoc, Nat.or_comm lo, nat_join 52 4602678819172646912 lo (by omega) (by omega), nat_join 63 _ _ (by omega) (by omega)]
  omega
theorem or_top (x : Nat) (h : x < 9223372036854775808) : Go.bits .or .u64 9223372036854775808 (x : Int) = ((9223372036854775808 + x : Nat) : Int) := by
  rw [show (9223372036854775808 : Int) = ((9223372036854775808 : Nat) : Int) from rfl, u64_or_nat 9223372036854775808 x (by omega) (by omega), nat_join 63 9223372036854775808 x (by omega) (by omega)]
end Go.Proofs.YtglikgjaobedbaaDoor.Flo
