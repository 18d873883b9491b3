/-
  MERGED BY PROGRAM (regroup.py): Flo, Frexp, Log2, ConvW, Utoa, NatSh.
-/
import Derived.Test.YtfnknldbjckgoaaGreatDoorZBase
import Derived.Laws.FloatArith
import Derived.Laws.BitsAll
import Derived.Test.YtfnknldbjckgoaaGreatDoorZGnat
import Derived.Laws.Externs
import Derived.WalkKit
import Derived.WalkLawsBesides
import Derived.Deep.LoopGhost
import Derived.Test.YtfnknldbjckgoaaGreatDoorZGdiv
import Derived.Test.YtfnknldbjckgoaaGreatDoorZBuf
import Derived.Test.YtfnknldbjckgoaaGreatDoorZGdec
import Derived.Defers
import Derived.Deep.DeepCutAuto
import Derived.Deep.CutBlock
import Derived.Test.YtfnknldbjckgoaaGreatDoorZGflt
/-! ## Flo -/
section
namespace Go.Proofs.YtfnknldbjckgoaaGreatDoor.Flo
open Go
set_option linter.unusedVariables false
set_option linter.unusedSimpArgs false
set_option exponentiation.threshold 3000
theorem sw : Ieee.double.signWeight = 9223372036854775808 := by decide
theorem bn : Ieee.double.binade = 4503599627370496 := by decide
theorem ir : Ieee.double.infRung = 9218868437227405312 := by decide
theorem lp : Ieee.double.leastPlace = -1074 := by decide
theorem fb : Ieee.double.fractionBits = 52 := rfl
/-- The sign. -/
def sg (N : Nat) : Bool := N / 9223372036854775808 % 2 == 1
theorem read_lo (N : Nat) (h : N % 9223372036854775808 < 4503599627370496) : Ieee.double.read N = .number (sg N) (N % 9223372036854775808) (-1074) := by
  unfold Ieee.Format.read
  simp only [sw, bn, ir, lp]
  rw [if_pos h]
  rfl
theorem read_mid (N : Nat) (h : 4503599627370496 ≤ N % 9223372036854775808) (h2 : N % 9223372036854775808 < 9218868437227405312) : Ieee.double.read N = .number (sg N) (4503599627370496 + N % 9223372036854775808 % 4503599627370496) (-1074 + (N % 9223372036854775808 / 4503599627370496 - 1 : Nat)) := by
  unfold Ieee.Format.read
  simp only [sw, bn, ir, lp]
  rw [if_neg (by omega), if_pos h2]
  rfl
theorem read_inf (N : Nat) (h : N % 9223372036854775808 = 9218868437227405312) : Ieee.double.read N = .infinity (sg N) := by
  unfold Ieee.Format.read
  simp only [sw, bn, ir, lp]
  rw [if_neg (by omega), if_neg (by omega), if_pos h]
  rfl
theorem read_nan (N : Nat) (h : 9218868437227405312 < N % 9223372036854775808) : ∃ t, Ieee.double.read N = .nan (sg N) t := by
  unfold Ieee.Format.read
  simp only [sw, bn, ir, lp]
  rw [if_neg (by omega), if_neg (by omega), if_neg (by omega)]
  exact ⟨_, rfl⟩
theorem cmp_self (x : Int) : compare x x = .eq := by simp
theorem cmpN_self (x : Nat) : compare x x = .eq := by simp
theorem order_self (N : Nat) (h : N % 9223372036854775808 ≤ 9218868437227405312) : FloatKind.f64.format.order N N = some .eq := by
  show Ieee.double.order N N = some .eq
  unfold Ieee.Format.order
  rcases Nat.lt_or_ge (N % 9223372036854775808) 4503599627370496 with h1 | h1
  · rw [read_lo N h1]; simp only [Ieee.Datum.order, cmp_self]
  · rcases Nat.lt_or_ge (N % 9223372036854775808) 9218868437227405312 with h2 | h2
    · rw [read_mid N h1 h2]; simp only [Ieee.Datum.order, cmp_self]
    · rw [read_inf N (by omega)]; simp only [Ieee.Datum.order, cmpN_self]
theorem signed0 (s : Bool) (k : Nat) : Ieee.signed s 0 k = 0 := by cases s <;> simp [Ieee.signed]
theorem signed_pos (m k : Nat) : Ieee.signed false m k = ((m * 2 ^ k : Nat) : Int) := by simp [Ieee.signed, Nat.shiftLeft_eq]
theorem signed_neg (m k : Nat) : Ieee.signed true m k = -((m * 2 ^ k : Nat) : Int) := by simp [Ieee.signed, Nat.shiftLeft_eq]
theorem signed_ne (s : Bool) (m k : Nat) (h : 0 < m) : Ieee.signed s m k ≠ 0 := by
  have h2 : 0 < m * 2 ^ k := Nat.mul_pos h (Nat.two_pow_pos k)
  cases s
  · rw [signed_pos]; omega
  · rw [signed_neg]; omega
theorem cmp_ne (x : Int) (h : x ≠ 0) : compare x 0 ≠ .eq := fun e => h (by simpa using e)
theorem order_nonzero (N : Nat) (h : 0 < N % 9223372036854775808) : FloatKind.f64.format.order N 0 ≠ some .eq := by
  show Ieee.double.order N 0 ≠ some .eq
  unfold Ieee.Format.order
  rw [read_lo 0 (by omega)]
  rcases Nat.lt_or_ge (N % 9223372036854775808) 4503599627370496 with h1 | h1
  · rw [read_lo N h1]
    simp only [Ieee.Datum.order, Nat.zero_mod, signed0]
    intro e
    exact cmp_ne _ (signed_ne _ _ _ h) (Option.some.inj e)
  · rcases Nat.lt_or_ge (N % 9223372036854775808) 9218868437227405312 with h2 | h2
    · rw [read_mid N h1 h2]
      simp only [Ieee.Datum.order, Nat.zero_mod, signed0]
      intro e
      exact cmp_ne _ (signed_ne _ _ _ (by omega)) (Option.some.inj e)
    · rcases Nat.eq_or_lt_of_le h2 with h3 | h3
      · rw [read_inf N h3.symm]
        simp only [Ieee.Datum.order]
        cases sg N <;> simp
      · obtain ⟨t, ht⟩ := read_nan N h3
        rw [ht]
        simp [Ieee.Datum.order]
theorem cmp_lt {x y : Int} (h : x < y) : compare x y = .lt := by rw [Int.compare_eq_lt]; exact h
theorem cmp_not_gt {x y : Int} (h : x ≤ y) : compare x y ≠ .gt := by rw [Ne, Int.compare_eq_gt]; omega
theorem cmp_not_lt {x y : Int} (h : y ≤ x) : compare x y ≠ .lt := by rw [Ne, Int.compare_eq_lt]; omega
theorem sg_lt (r : Nat) (h : r < 9223372036854775808) : sg r = false := by
  unfold sg
  rw [Nat.div_eq_of_lt h]
  rfl
/-- 'f > MaxFloat64', f not negative. -/
theorem gt_max (r : Nat) (h : r < 9218868437227405312) : (FloatKind.f64.format.order r 9218868437227405311 == some .gt) = false := by
  rw [beq_eq_false_iff_ne]
  show Ieee.double.order r 9218868437227405311 ≠ some .gt
  unfold Ieee.Format.order
  rw [read_mid 9218868437227405311 (by omega) (by omega), sg_lt _ (by omega)]
  rcases Nat.lt_or_ge r 4503599627370496 with h1 | h1
  · rw [read_lo r (by omega), sg_lt _ (by omega)]
    simp only [Ieee.Datum.order]
    intro e
    refine cmp_not_gt ?_ (Option.some.inj e)
    rw [signed_pos, signed_pos]
    have hb : min (-1074 : Int) (-1074 + ((9218868437227405311 % 9223372036854775808 / 4503599627370496 - 1 : Nat) : Int)) = -1074 := by omega
    rw [hb]
    have hz : ((-1074 : Int) - -1074).toNat = 0 := by omega
    rw [hz, Nat.pow_zero, Nat.mul_one]
    have : 0 < 2 ^ ((-1074 + ((9218868437227405311 % 9223372036854775808 / 4503599627370496 - 1 : Nat) : Int)) - -1074).toNat := Nat.two_pow_pos _
    generalize 2 ^ ((-1074 + ((9218868437227405311 % 9223372036854775808 / 4503599627370496 - 1 : Nat) : Int)) - -1074).toNat = q at this
    have h4 : (4503599627370496 + 9218868437227405311 % 9223372036854775808 % 4503599627370496) * 1 ≤ (4503599627370496 + 9218868437227405311 % 9223372036854775808 % 4503599627370496) * q := Nat.mul_le_mul_left _ this
    omega
  · rw [read_mid r (by omega) (by omega), sg_lt _ (by omega)]
    simp only [Ieee.Datum.order]
    intro e
    refine cmp_not_gt ?_ (Option.some.inj e)
    have e1 : r % 9223372036854775808 = r := Nat.mod_eq_of_lt (by omega)
    rw [signed_pos, signed_pos, e1]
    have h3 : r / 4503599627370496 - 1 ≤ 2045 := by omega
    generalize r / 4503599627370496 - 1 = k at h3 ⊢
    have hb : min (-1074 + (k : Int)) (-1074 + ((9218868437227405311 % 9223372036854775808 / 4503599627370496 - 1 : Nat) : Int)) = -1074 + (k : Int) := by omega
    rw [hb]
    have hz : ((-1074 + (k : Int)) - (-1074 + (k : Int))).toNat = 0 := by omega
    rw [hz, Nat.pow_zero, Nat.mul_one]
    have : 0 < 2 ^ ((-1074 + ((9218868437227405311 % 9223372036854775808 / 4503599627370496 - 1 : Nat) : Int)) - (-1074 + (k : Int))).toNat := Nat.two_pow_pos _
    generalize 2 ^ ((-1074 + ((9218868437227405311 % 9223372036854775808 / 4503599627370496 - 1 : Nat) : Int)) - (-1074 + (k : Int))).toNat = q at this
    have h4 : (4503599627370496 + 9218868437227405311 % 9223372036854775808 % 4503599627370496) * 1 ≤ (4503599627370496 + 9218868437227405311 % 9223372036854775808 % 4503599627370496) * q := Nat.mul_le_mul_left _ this
    omega
/-- '< 2^-1022'. -/
theorem lt_small (r : Nat) (h : r < 4503599627370496) : (FloatKind.f64.format.order r 4503599627370496 == some .lt) = true := by
  show (Ieee.double.order r 4503599627370496 == some .lt) = true
  unfold Ieee.Format.order
  rw [read_lo r (by omega), read_mid 4503599627370496 (by omega) (by omega), sg_lt _ (by omega), sg_lt _ (by omega)]
  simp only [Ieee.Datum.order]
  rw [signed_pos, signed_pos, cmp_lt (by simp; omega)]
  rfl
theorem not_lt_small (r : Nat) (h : 4503599627370496 ≤ r) (h2 : r < 9218868437227405312) : (FloatKind.f64.format.order r 4503599627370496 == some .lt) = false := by
  rw [beq_eq_false_iff_ne]
  show Ieee.double.order r 4503599627370496 ≠ some .lt
  unfold Ieee.Format.order
  rw [read_mid r (by omega) (by omega), read_mid 4503599627370496 (by omega) (by omega), sg_lt _ (by omega), sg_lt _ (by omega)]
  simp only [Ieee.Datum.order]
  intro e
  refine cmp_not_lt ?_ (Option.some.inj e)
  rw [signed_pos, signed_pos]
  generalize r % 9223372036854775808 / 4503599627370496 - 1 = k
  have hb : min (-1074 + (k : Int)) (-1074 + ((4503599627370496 % 9223372036854775808 / 4503599627370496 - 1 : Nat) : Int)) = -1074 := by omega
  rw [hb]
  have hz : ((-1074 + ((4503599627370496 % 9223372036854775808 / 4503599627370496 - 1 : Nat) : Int)) - -1074).toNat = 0 := by omega
  rw [hz, Nat.pow_zero, Nat.mul_one]
  have : 0 < 2 ^ ((-1074 + (k : Int)) - -1074).toNat := Nat.two_pow_pos _
  generalize 2 ^ ((-1074 + (k : Int)) - -1074).toNat = q at this
  have h4 : (4503599627370496 + r % 9223372036854775808 % 4503599627370496) * 1 ≤ (4503599627370496 + r % 9223372036854775808 % 4503599627370496) * q := Nat.mul_le_mul_left _ this
  omega
theorem log2_mul_pow (r k : Nat) (h : 0 < r) : (r * 2 ^ k).log2 = r.log2 + k := by
  have h0 : r * 2 ^ k ≠ 0 := Nat.ne_of_gt (Nat.mul_pos h (Nat.two_pow_pos k))
  rw [Nat.log2_eq_iff h0, Nat.pow_add, Nat.pow_succ, Nat.pow_add, Nat.mul_right_comm]
  have h1 := Nat.log2_self_le (n := r) (by omega)
  have h2 := Nat.lt_log2_self (n := r)
  rw [Nat.pow_succ] at h2
  exact ⟨Nat.mul_le_mul_right _ h1, Nat.mul_lt_mul_of_pos_right h2 (Nat.two_pow_pos k)⟩
/-- What 'x * 2^52' is, of a subnormal x: r has L + 1 binary digits. -/
def sub52 (r : Nat) : Nat := r.log2 * 4503599627370496 + r * 2 ^ (52 - r.log2)
theorem log2_sub (r : Nat) (h0 : 0 < r) (h : r < 4503599627370496) : r.log2 ≤ 51 := by
  have := (Nat.log2_lt (n := r) (k := 52) (by omega)).2 (by omega)
  omega
theorem sub_bounds (r : Nat) (h0 : 0 < r) (h : r < 4503599627370496) : 4503599627370496 ≤ r * 2 ^ (52 - r.log2) ∧ r * 2 ^ (52 - r.log2) < 9007199254740992 := by
  have hl := log2_sub r h0 h
  have h1 := Nat.log2_self_le (n := r) (by omega)
  have h2 := Nat.lt_log2_self (n := r)
  have e1 : 2 ^ r.log2 * 2 ^ (52 - r.log2) = 4503599627370496 := by rw [← Nat.pow_add, show r.log2 + (52 - r.log2) = 52 by omega]
  have e2 : 2 ^ (r.log2 + 1) * 2 ^ (52 - r.log2) = 9007199254740992 := by rw [← Nat.pow_add, show r.log2 + 1 + (52 - r.log2) = 53 by omega]
  rw [← e1, ← e2]
  exact ⟨Nat.mul_le_mul_right _ h1, Nat.mul_lt_mul_of_pos_right h2 (Nat.two_pow_pos _)⟩
theorem cut_exact (s : Bool) (q L : Nat) (hL : L ≤ (q * 2 ^ L).log2 + 2) : Ieee.Toward.even.cut s (q * 2 ^ L) L = q := by
  unfold Ieee.Toward.cut
  rw [Nat.min_eq_left hL, Nat.shiftLeft_eq, Nat.one_mul]
  have hp := Nat.two_pow_pos L
  simp only [Nat.mul_div_cancel _ hp, Nat.mul_mod_left, Nat.mul_zero]
  have h1 : (decide (2 ^ L < 0)) = false := by simp
  have h2 : (2 ^ L == 0) = false := by rw [beq_eq_false_iff_ne]; omega
  simp [h1, h2]
theorem cut_exact' (s : Bool) (r : Nat) (h0 : 0 < r) (hl : r.log2 ≤ 51) (e1 : r * 2 ^ 52 = r * 2 ^ (52 - r.log2) * 2 ^ r.log2) : Ieee.Toward.even.cut s (r * 2 ^ 52) r.log2 = r * 2 ^ (52 - r.log2) := by
  rw [e1]
  refine cut_exact s _ _ ?_
  rw [← e1, log2_mul_pow r 52 h0]
  omega
theorem mul_sub (N : Nat) (h0 : 0 < N % 9223372036854775808) (h : N % 9223372036854775808 < 4503599627370496) : floatBits .mul .f64 N 4841369599423283200 = some ((if sg N then 9223372036854775808 else 0) + sub52 (N % 9223372036854775808)) := by
  show Ieee.double.mul N 4841369599423283200 = _
  unfold Ieee.Format.mul
  rw [read_lo N h, read_mid 4841369599423283200 (by omega) (by omega), sg_lt 4841369599423283200 (by omega)]
  generalize N % 9223372036854775808 = r at h0 h
  have hl := log2_sub r h0 h
  have hub := sub_bounds r h0 h
  simp only [Ieee.Datum.product, Option.map_some, Ieee.Format.write, Bool.xor_false]
  rw [show (4503599627370496 + 4841369599423283200 % 9223372036854775808 % 4503599627370496) = 2 ^ 52 from rfl, show ((-1074 : Int) + (-1074 + ((4841369599423283200 % 9223372036854775808 / 4503599627370496 - 1 : Nat) : Int))) = -1074 from rfl]
  unfold Ieee.Format.nearest
  rw [if_neg (Nat.ne_of_gt (Nat.mul_pos h0 (Nat.two_pow_pos 52))), log2_mul_pow r 52 h0]
  simp only [fb, lp, bn, ir]
  rw [show max ((-1074 : Int) + ((r.log2 + 52 : Nat) : Int) - ((52 : Nat) : Int)) (-1074) = -1074 + (r.log2 : Int) by omega]
  rw [show ((-1074 : Int) - (-1074 + (r.log2 : Int))).toNat = 0 by omega, show ((-1074 : Int) + (r.log2 : Int) - -1074).toNat = r.log2 by omega, Nat.shiftLeft_zero]
  have e1 : r * 2 ^ 52 = r * 2 ^ (52 - r.log2) * 2 ^ r.log2 := by rw [Nat.mul_assoc, ← Nat.pow_add, show 52 - r.log2 + r.log2 = 52 by omega]
  rw [cut_exact' (sg N) r h0 hl e1]
  rw [Nat.min_eq_left (by omega)]
  unfold Ieee.Format.word sub52
  rw [sw]
  cases sg N <;> simp
theorem and_sign (N : Nat) (h : N < 18446744073709551616) : Go.bits .andNot .u64 (N : Int) 9223372036854775808 = ((N % 9223372036854775808 : Nat) : Int) := by
  rw [show (9223372036854775808 : Int) = ((9223372036854775808 : Nat) : Int) from rfl, u64_andNot_nat N 9223372036854775808 h (by omega)]
  exact congrArg _ (nat_mask63 N)
theorem and_exp (N : Nat) (h : N < 18446744073709551616) : Go.bits .and .u64 (N : Int) 2047 = ((N % 2048 : Nat) : Int) := by
  rw [show (2047 : Int) = ((2047 : Nat) : Int) from rfl, u64_and_nat N 2047 h (by omega), nat_mask11]
theorem clear_exp (N : Nat) (h : N < 18446744073709551616) : Go.bits .andNot .u64 (N : Int) 9218868437227405312 = ((N / 9223372036854775808 * 9223372036854775808 + N % 4503599627370496 : Nat) : Int) := by
  rw [show (9218868437227405312 : Int) = ((9218868437227405312 : Nat) : Int) from rfl, u64_andNot_nat N 9218868437227405312 h (by omega)]
  refine congrArg _ ?_
  rw [show 18446744073709551615 - 9218868437227405312 = 2 ^ 63 ||| 4503599627370495 from rfl, Nat.and_or_distrib_left, nat_bit, nat_mask52, nat_join 52 _ _ (by omega) (by omega)]
  omega
theorem or_exp (s lo : Nat) (hs : s < 2) (hlo : lo < 4503599627370496) : Go.bits .or .u64 ((s * 9223372036854775808 + lo : Nat) : Int) 4602678819172646912 = ((s * 9223372036854775808 + 4602678819172646912 + lo : Nat) : Int) := by
  rw [show (4602678819172646912 : Int) = ((4602678819172646912 : Nat) : Int) from rfl, u64_or_nat _ 4602678819172646912 (by omega) (by omega)]
  refine congrArg _ ?_
  rw [← nat_join 63 (s * 9223372036854775808) lo (by omega) (by omega), Nat.or_assoc, Nat.or_comm lo, nat_join 52 4602678819172646912 lo (by omega) (by omega), nat_join 63 _ _ (by omega) (by omega)]
  omega
end Go.Proofs.YtfnknldbjckgoaaGreatDoor.Flo
end

/-! ## Frexp -/
section
namespace Go.Proofs.YtfnknldbjckgoaaGreatDoor.Sp
open Go.RowKit Go.Proofs.YtfnknldbjckgoaaGreatDoorW.PrintWords Go.Proofs.YtfnknldbjckgoaaGreatDoorW.PrintLast Go.Proofs.YtfnknldbjckgoaaGreatDoorW.PrintMore Go.Proofs.YtfnknldbjckgoaaGreatDoor.Dig Go.Proofs.YtfnknldbjckgoaaGreatDoor.Flo
set_option linter.unusedVariables false
set_option linter.unusedSimpArgs false
theorem f64bits (N : Nat) (w : World) : (callFunc 198 #[.float .f64 N]).run Tryz.prog w = .ok (.value (.int .u64 N)) w := by
  rw [run_callFunc_extern (e := Go.Extern.MathFloatBits.float64bits) Tryz.func198 (by kernel_rfl) (by kernel_rfl) (by kernel_rfl) (by kernel_rfl)]
  rfl
theorem f64from (N : Nat) (w : World) : (callFunc 199 #[.int .u64 N]).run Tryz.prog w = .ok (.value (.float .f64 N)) w := by
  rw [run_callFunc_extern (e := Go.Extern.MathFloatBits.float64frombits) Tryz.func199 (by kernel_rfl) (by kernel_rfl) (by kernel_rfl) (by kernel_rfl)]
  rfl
theorem isNaN_no (N : Nat) (w : World) (h : N % 9223372036854775808 ≤ 9218868437227405312) : Calls Tryz.prog 196 #[.float .f64 N] w fun e w' => e = .returned (.bool false) ∧ w = w' := by
  have h1 := order_self N h
  go_enter Tryz.func196, Tryz.ntmps196
  go_wp2_with (fail)
  go_ret
  exact ⟨by simp [h1], rfl⟩
set_option maxRecDepth 100000 in
theorem abs_c (N : Nat) (w : World) (h : N < 18446744073709551616) : Calls Tryz.prog 218 #[.float .f64 N] w fun e w' => e = .returned (.float .f64 (N % 9223372036854775808)) ∧ w = w' := by
  have h1 := f64bits N
  obtain ⟨r, hr⟩ : ∃ r, r = N % 9223372036854775808 := ⟨_, rfl⟩
  have h2 := f64from r
  have h3 := and_sign N h
  rw [← hr] at h3 ⊢
  clear hr
  go_enter Tryz.func218, Tryz.ntmps218
  go_wp2_with (fail)
  go_ret
  exact ⟨rfl, rfl⟩
theorem isInf_no (N : Nat) (w : World) (h : N < 18446744073709551616) (h2 : N % 9223372036854775808 < 9218868437227405312) : Calls Tryz.prog 195 #[.float .f64 N, .int .i64 0] w fun e w' => e = .returned (.bool false) ∧ w = w' := by
  have h1 := abs_c N w h
  obtain ⟨r, hr⟩ : ∃ r, r = N % 9223372036854775808 := ⟨_, rfl⟩
  rw [← hr] at h1 h2
  have h3 := gt_max r h2
  clear hr
  go_enter Tryz.func195, Tryz.ntmps195
  go_wp2_with (fail)
  refine h1.mono ?_
  rintro e w' ⟨rfl, rfl⟩
  go_wp2_with (fail)
  go_ret
  exact ⟨by simp [h3], rfl⟩
/-- What 'normalize' gives. -/
def nz (N : Nat) : Nat := if N % 9223372036854775808 < 4503599627370496 then N / 9223372036854775808 * 9223372036854775808 + sub52 (N % 9223372036854775808) else N
def nze (N : Nat) : Int := if N % 9223372036854775808 < 4503599627370496 then -52 else 0
set_option maxRecDepth 100000 in
theorem norm64_c (N : Nat) (w : World) (h : N < 18446744073709551616) (h0 : 0 < N % 9223372036854775808) (h2 : N % 9223372036854775808 < 9218868437227405312) : Calls Tryz.prog 197 #[.float .f64 N] w fun e w' => e = .returned (.tuple #[.float .f64 (nz N), .int .i64 (nze N)]) ∧ w = w' := by
  have h1 := abs_c N w h
  unfold nz nze
  by_cases hs : N % 9223372036854775808 < 4503599627370496
  · rw [if_pos hs, if_pos hs]
    have h3 := mul_sub N h0 hs
    have h4 := lt_small _ hs
    have e1 : (if sg N then 9223372036854775808 else 0) + sub52 (N % 9223372036854775808) = N / 9223372036854775808 * 9223372036854775808 + sub52 (N % 9223372036854775808) := by
      unfold sg
      have : N / 9223372036854775808 < 2 := by omega
      rcases (by omega : N / 9223372036854775808 = 0 ∨ N / 9223372036854775808 = 1) with e | e <;> rw [e] <;> simp
    rw [e1] at h3
    have h5 := fun (W : World) => run_float_arith (P := Tryz.prog) W .mul 146 .f64 N 4841369599423283200 _ h3
    obtain ⟨F, hF⟩ : ∃ F, F = N / 9223372036854775808 * 9223372036854775808 + sub52 (N % 9223372036854775808) := ⟨_, rfl⟩
    obtain ⟨r, hr⟩ : ∃ r, r = N % 9223372036854775808 := ⟨_, rfl⟩
    rw [← hF] at h5 ⊢
    rw [← hr] at h1 h4
    clear h3 e1 hF hr hs h0 h2
    go_enter Tryz.func197, Tryz.ntmps197
    go_wp2_with (fail)
    refine h1.mono ?_
    rintro e w' ⟨rfl, rfl⟩
    go_wp2_with (fail)
    go_ret2
    exact ⟨rfl, rfl⟩
  · rw [if_neg hs, if_neg hs]
    have h4 := not_lt_small _ (by omega) h2
    obtain ⟨r, hr⟩ : ∃ r, r = N % 9223372036854775808 := ⟨_, rfl⟩
    rw [← hr] at h1 h4
    clear hr hs h0 h2
    go_enter Tryz.func197, Tryz.ntmps197
    go_wp2_with (fail)
    refine h1.mono ?_
    rintro e w' ⟨rfl, rfl⟩
    go_wp2_with (fail)
    go_ret2
    exact ⟨rfl, rfl⟩
/-- What 'Frexp' gives: the fraction's bits, the exponent. -/
def frf (N : Nat) : Nat := nz N / 9223372036854775808 * 9223372036854775808 + 4602678819172646912 + nz N % 4503599627370496
def fre (N : Nat) : Int := nze N + ((nz N / 4503599627370496 % 2048 : Nat) - 1023 + 1)
theorem nz_lt (N : Nat) (h : N < 18446744073709551616) (h0 : 0 < N % 9223372036854775808) : nz N < 18446744073709551616 := by
  unfold nz
  split
  · rename_i hs
    have h1 := sub_bounds _ h0 hs
    have h2 := log2_sub _ h0 hs
    unfold sub52
    omega
  · exact h
set_option maxRecDepth 100000 in
theorem frexp_c (N : Nat) (w : World) (h : N < 18446744073709551616) (h0 : 0 < N % 9223372036854775808) (h2 : N % 9223372036854775808 < 9218868437227405312) : Calls Tryz.prog 172 #[.float .f64 N] w fun e w' => e = .returned (.tuple #[.float .f64 (frf N), .int .i64 (fre N)]) ∧ w = w' := by
  have hz : (FloatKind.f64.format.order N 0 == some .eq) = false := by rw [beq_eq_false_iff_ne]; exact order_nonzero N h0
  have hlt := nz_lt N h h0
  have hnz : nze N = -52 ∨ nze N = 0 := by unfold nze; split <;> simp
  have HN := Aside0.mk (isInf_no N w h h2)
  have HA := Aside0.mk (isNaN_no N w (by omega))
  have HM := Aside0.mk (norm64_c N w h h0 h2)
  unfold frf fre
  obtain ⟨M, hM⟩ : ∃ M, M = nz N := ⟨_, rfl⟩
  obtain ⟨E, hE⟩ : ∃ E, E = nze N := ⟨_, rfl⟩
  rw [← hM, ← hE] at HM
  rw [← hM] at hlt
  rw [← hE] at hnz
  rw [← hM, ← hE]
  have hb := f64bits M
  obtain ⟨F, hF⟩ : ∃ F, F = M / 9223372036854775808 * 9223372036854775808 + 4602678819172646912 + M % 4503599627370496 := ⟨_, rfl⟩
  have hf := f64from F
  obtain ⟨x, hx⟩ : ∃ x, x = M / 4503599627370496 % 2048 := ⟨_, rfl⟩
  have hx1 : x < 2048 := by omega
  have hae : Go.bits .and .u64 ((M : Int) / 4503599627370496) 2047 = (x : Int) := by
    rw [hx]
    exact (congrArg (fun z => Go.bits .and .u64 z 2047) (by omega)).trans (and_exp (M / 4503599627370496) (by omega))
  have hce := clear_exp M hlt
  have hoe : Go.bits .or .u64 ((M : Int) / 9223372036854775808 * 9223372036854775808 + (M : Int) % 4503599627370496) 4602678819172646912 = (F : Int) := by
    rw [hF]
    exact (congrArg (fun z => Go.bits .or .u64 z 4602678819172646912) (by omega)).trans (or_exp (M / 9223372036854775808) (M % 4503599627370496) (by omega) (by omega))
  have hbx : IntKind.u64.wrap (x : Int) = x := wrap_u64 (by omega) (by omega)
  rw [← hF, ← hx]
  clear hM hE hF hx
  go_enter Tryz.func172, Tryz.ntmps172
  go_wp2_with (first | (go_at_call 195; refine (HN.out).mono ?_; rintro e w' ⟨rfl, rfl⟩) | (go_at_call 196; refine (HA.out).mono ?_; rintro e w' ⟨rfl, rfl⟩) | (go_at_call 197; refine (HM.out).mono ?_; rintro e w' ⟨rfl, rfl⟩))
  go_ret2
  exact ⟨rfl, rfl⟩
theorem frexp2_c (N : Nat) (w : World) (h : N < 18446744073709551616) (h0 : 0 < N % 9223372036854775808) (h2 : N % 9223372036854775808 < 9218868437227405312) : Calls Tryz.prog 156 #[.float .f64 N] w fun e w' => e = .returned (.tuple #[.float .f64 (frf N), .int .i64 (fre N)]) ∧ w = w' := by
  have HF := Aside0.mk (frexp_c N w h h0 h2)
  go_enter Tryz.func156, Tryz.ntmps156
  go_wp2_with (fail)
  refine (HF.out).mono ?_
  rintro e w' ⟨rfl, rfl⟩
  go_wp2_with (fail)
  go_ret2
  exact ⟨rfl, rfl⟩
end Go.Proofs.YtfnknldbjckgoaaGreatDoor.Sp
end

/-! ## Log2 -/
section
namespace Go.Proofs.YtfnknldbjckgoaaGreatDoor.Sp
open Go.RowKit Go.Proofs.YtfnknldbjckgoaaGreatDoorW.PrintWords Go.Proofs.YtfnknldbjckgoaaGreatDoorW.PrintLast Go.Proofs.YtfnknldbjckgoaaGreatDoorW.PrintMore Go.Proofs.YtfnknldbjckgoaaGreatDoor.Dig Go.Proofs.YtfnknldbjckgoaaGreatDoor.Flo
set_option linter.unusedVariables false
set_option linter.unusedSimpArgs false
/-- The bits of 10, of its mantissa, of the logarithms. -/
theorem fr10 : frf 4621819117588971520 = 4603804719079489536 ∧ fre 4621819117588971520 = 4 := by decide +kernel
theorem fr16 : frf 4625196817309499392 = 4602678819172646912 ∧ fre 4625196817309499392 = 5 := by decide +kernel
theorem archLog_val : Go.Extern.MathLog.archLog #[.float .f64 4603804719079489536] = .pure (.float .f64 13825510489450817230) := by kernel_rfl
theorem archLog10 (w : World) : (callFunc 173 #[.float .f64 4603804719079489536]).run Tryz.prog w = .ok (.value (.float .f64 13825510489450817230)) w := by
  rw [run_callFunc_extern (e := Go.Extern.MathLog.archLog) Tryz.func173 (by kernel_rfl) (by kernel_rfl) (by kernel_rfl) (by kernel_rfl), archLog_val]
  rfl
theorem mul10 : floatBits .mul .f64 13825510489450817230 4609176140021203710 = some 13827654785158443579 := by decide +kernel
theorem add10 : floatBits .add .f64 13827654785158443579 4616189618054758400 = some 4614662735865160561 := by decide +kernel
theorem of4 : floatOfInt .f64 4 = 4616189618054758400 := by decide +kernel
/-- How many figures there is room for, of B bits. -/
def roomB (L b B : Nat) : Bool :=
  match floatBits .quo .f64 (floatOfInt .f64 (B : Int)) L with
  | some r => match floatToIntVal .f64 r .i64 with
    | some n => decide (0 ≤ n ∧ n ≤ 1000 ∧ 2 ^ B ≤ b ^ (n.toNat + 1))
    | none => false
  | none => false
theorem room10 : (List.range 513).all (roomB 4614662735865160561 10) = true := by decide +kernel
theorem room16 : (List.range 513).all (roomB 4616189618054758400 16) = true := by decide +kernel
theorem roomB_of {L b B : Nat} (h : (List.range 513).all (roomB L b) = true) (hB : B ≤ 512) : ∃ r n, floatBits .quo .f64 (floatOfInt .f64 (B : Int)) L = some r ∧ floatToIntVal .f64 r .i64 = some ((n : Nat) : Int) ∧ n ≤ 1000 ∧ 2 ^ B ≤ b ^ (n + 1) := by
  have h1 := List.all_eq_true.1 h B (List.mem_range.2 (by omega))
  unfold roomB at h1
  split at h1
  · rename_i r hr
    split at h1
    · rename_i n hn
      have h2 := of_decide_eq_true h1
      obtain ⟨m, rfl⟩ := Int.eq_ofNat_of_zero_le h2.1
      exact ⟨r, m, hr, hn, by omega, by simpa using h2.2.2⟩
    · cases h1
  · cases h1
set_option maxRecDepth 100000 in
theorem log_10 (w : World) : Calls Tryz.prog 157 #[.float .f64 4603804719079489536] w fun e w' => e = .returned (.float .f64 13825510489450817230) ∧ w = w' := by
  have h1 := archLog10
  go_enter Tryz.func157, Tryz.ntmps157
  go_wp2_with (fail)
  go_ret
  exact ⟨rfl, rfl⟩
set_option maxRecDepth 100000 in
theorem log2_10' (w : World) : Calls Tryz.prog 138 #[.float .f64 4621819117588971520] w fun e w' => e = .returned (.float .f64 4614662735865160561) ∧ w = w' := by
  have h1 := frexp2_c 4621819117588971520 w (by decide) (by decide) (by decide)
  rw [fr10.1, fr10.2] at h1
  have h2 := run_float_arith (P := Tryz.prog) w .mul 146 .f64 _ _ _ mul10
  have h3 := run_float_arith (P := Tryz.prog) w .add 146 .f64 _ _ _ add10
  have h4 := of4
  have h5 : (FloatKind.f64.format.order 4603804719079489536 4602678819172646912 == some Ordering.eq) = false := by decide +kernel
  go_enter Tryz.func138, Tryz.ntmps138
  go_wp2_with (first | (go_at_call 156; refine h1.mono ?_; rintro e w1 ⟨rfl, rfl⟩) | (go_at_call 157; refine (log_10 _).mono ?_; rintro e w1 ⟨rfl, rfl⟩) | fail)
  go_ret
  exact ⟨rfl, rfl⟩
set_option maxRecDepth 100000 in
theorem log2_10 (w : World) : Calls Tryz.prog 118 #[.float .f64 4621819117588971520] w fun e w' => e = .returned (.float .f64 4614662735865160561) ∧ w = w' := by
  go_enter Tryz.func118, Tryz.ntmps118
  go_wp2_with (go_at_call 138; refine (log2_10' _).mono ?_; rintro e w1 ⟨rfl, rfl⟩)
  go_ret
  exact ⟨rfl, rfl⟩
set_option maxRecDepth 100000 in
theorem log2_16' (w : World) : Calls Tryz.prog 138 #[.float .f64 4625196817309499392] w fun e w' => e = .returned (.float .f64 4616189618054758400) ∧ w = w' := by
  have h1 := frexp2_c 4625196817309499392 w (by decide) (by decide) (by decide)
  rw [fr16.1, fr16.2] at h1
  have h4 := of4
  have h5 : (FloatKind.f64.format.order 4602678819172646912 4602678819172646912 == some Ordering.eq) = true := by decide +kernel
  go_enter Tryz.func138, Tryz.ntmps138
  go_wp2_with (go_at_call 156; refine h1.mono ?_; rintro e w1 ⟨rfl, rfl⟩)
  go_ret
  exact ⟨rfl, rfl⟩
set_option maxRecDepth 100000 in
theorem log2_16 (w : World) : Calls Tryz.prog 118 #[.float .f64 4625196817309499392] w fun e w' => e = .returned (.float .f64 4616189618054758400) ∧ w = w' := by
  go_enter Tryz.func118, Tryz.ntmps118
  go_wp2_with (go_at_call 138; refine (log2_16' _).mono ?_; rintro e w1 ⟨rfl, rfl⟩)
  go_ret
  exact ⟨rfl, rfl⟩
/-! ### maxPow -/
set_option maxRecDepth 100000 in
theorem maxPow_c (w : World) : Calls Tryz.prog 121 #[.int .u64 10] w fun e w' => e = .returned (.tuple #[.int .u64 10000000000000000000, .int .i64 19]) ∧ w = w' := by
  go_enter Tryz.func121, Tryz.ntmps121
  go_wp2_with (fail)
  go_loopg [2, 3] 18 (fun k v2 v3 wr => ∃ n : Nat, k = 19 - n ∧ 1 ≤ n ∧ n ≤ 19 ∧ v2 = .int .u64 ((10 ^ n : Nat) : Int) ∧ v3 = .int .i64 (n : Int) ∧ w = wr)
  case atStart => exact ⟨1, rfl, by omega, by omega, rfl, rfl, rfl⟩
  case round =>
    obtain ⟨n, rfl, hn1, hn2, rfl, rfl, rfl⟩ := hrel
    by_cases hn : n = 19
    · subst hn
      rw [show ((10 ^ 19 : Nat) : Int) = 10000000000000000000 from rfl]
      go_wp2_with (fail)
      go_ret2
      exact ⟨rfl, rfl⟩
    · have h1 : 10 ^ n ≤ 10 ^ 18 := Nat.pow_le_pow_right (by omega) (by omega)
      obtain ⟨p, hp⟩ : ∃ p, p = 10 ^ n := ⟨_, rfl⟩
      rw [← hp] at h1 ⊢
      have hp2 : ((p : Int) * 10) = ((10 ^ (n + 1) : Nat) : Int) := by rw [Nat.pow_succ, ← hp]; omega
      have HP := Aside0.mk hp2
      have h2 : p ≤ 1000000000000000000 := h1
      have hw : IntKind.u64.wrap ((p : Int) * 10) = (p : Int) * 10 := by rw [IntKind.wrap_u64]; omega
      have hwn : IntKind.i64.wrap ((n : Int) + 1) = ((n + 1 : Nat) : Int) := by rw [IntWalk.i64_in _ (by omega)]; omega
      clear hp hp2 h1
      go_wp2_with (fail)
      go_roundg (19 - (n + 1))
      case measure => omega
      case rel => exact ⟨n + 1, rfl, by omega, by omega, by rw [← HP.out], by simp, rfl⟩
end Go.Proofs.YtfnknldbjckgoaaGreatDoor.Sp
end

/-! ## ConvW -/
section
namespace Go.Proofs.YtfnknldbjckgoaaGreatDoor.Sp
open Go.RowKit Go.Proofs.YtfnknldbjckgoaaGreatDoorW.PrintWords Go.Proofs.YtfnknldbjckgoaaGreatDoorW.PrintLast Go.Proofs.YtfnknldbjckgoaaGreatDoorW.PrintMore Go.Proofs.YtfnknldbjckgoaaGreatDoor.Dig
set_option linter.unusedVariables false
set_option linter.unusedSimpArgs false
theorem row_cellW {w : World} {g : Nat} {l : List Int} {R : List Value} {t : TypeId} (h : hp w g = some (.cells (nums .u8 l ++ R).toArray t (0, 0))) (j : Nat) (hj : j < l.length) : w.cell? ⟨g, j, none⟩ = some (.int .u8 (l.getD j 0)) := by
  rw [blk_cell h j]
  simp [nums, List.getElem?_append_left (show j < (l.map (Value.int .u8)).length by simpa using hj), List.getElem?_eq_getElem hj]
theorem lows_top (b k n : Nat) : lows b (k + 1) n = fig (n / b ^ k % b) :: lows b k n := by
  rw [Nat.add_comm, lows_split]
  rfl
/-- A row of bytes in block g. -/
def Br (w : World) (g : Nat) (l : List Int) : Prop := hp w g = some (.cells (nums .u8 l).toArray 5 (0, 0))
theorem Br.cell {w : World} {g : Nat} {l : List Int} (h : Br w g l) (j : Nat) (hj : j < l.length) : w.cell? ⟨g, j, none⟩ = some (.int .u8 (l.getD j 0)) := by
  have h2 : hp w g = some (.cells (nums .u8 l ++ []).toArray 5 (0, 0)) := by rw [List.append_nil]; exact h
  exact row_cellW h2 j hj
theorem Br.set {w : World} {g : Nat} {l : List Int} (h : Br w g l) (i : Nat) (x : Int) : Br (w.setCell ⟨g, i, none⟩ (.int .u8 x)) g (l.set i x) := by
  unfold Br at h ⊢
  rw [hp_here _ _ _ _ _ rfl, h]
  simp only [Option.map_some, setObj_cells]
  congr 2
  apply Array.toList_inj.1
  simp [nums, List.map_set]
theorem Br.kept {w w' : World} {g : Nat} {l : List Int} {S : Nat → Prop} (h : Br w g l) (hk : Kept S w w') (hS : ¬ S g) : Br w' g l := hp_kept h hk hS
/-- What is written so far: M figures of x at the end. -/
def Wr (w : World) (g N M x : Nat) : Prop := ∃ Y, Y.length = N - M ∧ Br w g (Y ++ lows 10 (N - (N - M)) x)
theorem Wr.kept {w w' : World} {g N M x : Nat} {S : Nat → Prop} (h : Wr w g N M x) (hk : Kept S w w') (hS : ¬ S g) : Wr w' g N M x := by
  obtain ⟨Y, h1, h2⟩ := h
  exact ⟨Y, h1, h2.kept hk hS⟩
theorem Wr.cell {w : World} {g N M x : Nat} (h : Wr w g N M x) (j : Nat) (hj : j < N) : ∃ y, w.cell? ⟨g, j, none⟩ = some (.int .u8 y) ∧ w.frozen? ⟨g, j, none⟩ = false ∧ g < w.heap.size := by
  obtain ⟨Y, h1, h2⟩ := h
  exact ⟨_, h2.cell j (by rw [List.length_append, lows_len]; omega), blk_frozen (show hp w g = _ from h2) j, hp_lt (show hp w g = _ from h2)⟩
/-- One figure more. -/
theorem Wr.next {w : World} {g N M x : Nat} (h : Wr w g N M x) (hM : M < N) (c : Int) (hc : c = fig (x / 10 ^ M % 10)) : Wr (w.setCell ⟨g, N - M - 1, none⟩ (.int .u8 c)) g N (M + 1) x := by
  obtain ⟨Y, h1, h2⟩ := h
  refine ⟨Y.take (N - M - 1), by rw [List.length_take]; omega, ?_⟩
  have h3 := h2.set (N - M - 1) c
  have e1 : N - (N - M) = M := by omega
  have e2 : N - (N - (M + 1)) = M + 1 := by omega
  rw [e1] at h3
  rw [e2, lows_top, ← hc]
  have e3 : (Y ++ lows 10 M x).set (N - M - 1) c = Y.take (N - M - 1) ++ c :: lows 10 M x := by
    rw [List.set_append_left _ _ (by omega)]
    have : Y.set (N - M - 1) c = Y.take (N - M - 1) ++ [c] := by
      rw [List.set_eq_take_append_cons_drop, if_pos (by omega), List.drop_eq_nil_of_le (by omega)]
    rw [this, List.append_assoc]
    rfl
  rw [← e3]
  exact h3
theorem Wr.all {w : World} {g N M x : Nat} (h : Wr w g N M x) (hM : N ≤ M) : Br w g (lows 10 N x) := by
  obtain ⟨Y, h1, h2⟩ := h
  have : Y = [] := List.eq_nil_of_length_eq_zero (by omega)
  subst this
  rw [show N - (N - M) = N by omega] at h2
  exact h2
theorem Wr.more {w : World} {g N M M' x : Nat} (h : Wr w g N M x) (hM : N ≤ M) (hM' : N ≤ M') : Wr w g N M' x := by
  obtain ⟨Y, h1, h2⟩ := h
  exact ⟨Y, by omega, by rw [show N - (N - M') = N - (N - M) by omega]; exact h2⟩
theorem NR.zero {w : World} {P : Nat → Prop} {z : Value} (h : NR w P z 0) : ∃ A c, z = .slice A 0 c := by
  rcases h with ⟨h, _⟩ | ⟨mb, L, R, h1, h2, h3, h4, h5, h6, h7⟩
  · exact ⟨_, _, h⟩
  · have := Cn_zero h4 BW_pos h5
    subst this
    exact ⟨_, _, h1⟩
theorem NR.rd' {w : World} {P : Nat → Prop} {z : Value} {v : Int} (h : NR w P z v) (h0 : 0 < v) : ∃ A L c, z = .slice A L.length c ∧ Rd w P z z L ∧ ev BW L = v ∧ 0 < L.length ∧ L.length ≤ 1000000 := by
  obtain ⟨L, h1, h2, h3, h4, h5⟩ := h.rd (S := P) h0 (.inr rfl)
  obtain ⟨mx, ox, c, h6, _⟩ := id h1
  exact ⟨_, L, c, h6, h1, h3, h4, h5⟩
theorem ten19 (x m j : Nat) (hj : j < 19) : (x / 10 ^ m % 10 ^ (19 - j)) / 10 = x / 10 ^ (m + 1) % 10 ^ (19 - (j + 1)) ∧ (x / 10 ^ m % 10 ^ (19 - j)) % 10 = x / 10 ^ m % 10 := by
  have e : 19 - j = (19 - (j + 1)) + 1 := by omega
  rw [e, Nat.pow_succ 10 (19 - (j + 1)), Nat.mul_comm (10 ^ (19 - (j + 1))) 10]
  constructor
  · rw [Nat.mod_mul_right_div_self, Nat.div_div_eq_div_mul, ← Nat.pow_succ]
  · rw [Nat.mod_mul_right_mod]
theorem ten19_lt (x m j : Nat) : x / 10 ^ m % 10 ^ (19 - j) < 10000000000000000000 := by
  have h1 := Nat.mod_lt (x / 10 ^ m) (Nat.pow_pos (n := 19 - j) (show 0 < 10 by omega))
  have h2 : 10 ^ (19 - j) ≤ 10 ^ 19 := Nat.pow_le_pow_right (by omega) (by omega)
  omega
set_option maxHeartbeats 6400000 in
set_option maxRecDepth 100000 in
theorem convW_c (gs mb N x : Nat) (q k1 : Value) (w : World) (hq : NR w (fun k => mb ≤ k) q (x : Int)) (hs : Wr w gs N 0 x) (hN : N ≤ 100000) (hx : x < 10 ^ N) (hgm : gs < mb) (hmb : mb ≤ w.heap.size) :
    Calls Tryz.prog 123 #[q, k1, .slice (some ⟨gs, 0, none⟩) N N, .int .u64 10, .int .i64 19, .int .u64 10000000000000000000, .slice none 0 0] w fun e w' => e = .returned (.tuple #[]) ∧ Br w' gs (lows 10 N x) ∧ Kept (fun k => k = gs ∨ mb ≤ k) w w' := by
  have HQ := Aside0.mk hq
  have HS := Aside0.mk hs
  have HX := Aside0.mk hx
  obtain ⟨A0, n0, c0, rfl⟩ := hq.slice
  clear hq hs hx
  go_enter Tryz.func123, Tryz.ntmps123
  go_wp2_with (fail)
  go_loopg [0, 19] x (fun k v0 v19 wr => ∃ (t : Nat), k = x / 10 ^ (19 * t) ∧ v19 = .int .i64 ((N - 19 * t : Nat) : Int) ∧ Aside0 (NR wr (fun k => mb ≤ k) v0 ((x / 10 ^ (19 * t) : Nat) : Int)) ∧ Aside0 (Wr wr gs N (19 * t) x) ∧ Aside0 (Kept (fun k => k = gs ∨ mb ≤ k) w wr))
  case atStart => exact ⟨0, by simp, by simp, ⟨by simpa using HQ.out⟩, HS, ⟨Kept.refl _ _⟩⟩
  case round =>
    obtain ⟨t, rfl, rfl, HN, HW, HK⟩ := hrel
    obtain ⟨y, hy⟩ : ∃ y, y = x / 10 ^ (19 * t) := ⟨_, rfl⟩
    rw [← hy] at HN
    have HY := Aside0.mk hy
    by_cases hy0 : y = 0
    · subst hy0
      have hx2 : x < 10 ^ (19 * t) := by
        rcases (Nat.div_eq_zero_iff).1 hy.symm with h | h
        · have := Nat.pow_pos (n := 19 * t) (show 0 < 10 by omega); omega
        · exact h
      have HX2 := Aside0.mk hx2
      obtain ⟨A, c, rfl⟩ := HN.out.zero
      clear hy hx2
      go_wp2_with (fail)
      go_loopg [19] (N - 19 * t) (fun k v19 wr => ∃ M : Nat, k = N - M ∧ v19 = .int .i64 ((N - M : Nat) : Int) ∧ Aside0 (19 * t ≤ M) ∧ Aside0 (Wr wr gs N M x) ∧ Aside0 (Kept (fun k => k = gs ∨ mb ≤ k) w wr))
      case atStart => exact ⟨19 * t, rfl, rfl, ⟨Nat.le_refl _⟩, HW, HK⟩
      case round =>
        obtain ⟨M, rfl, rfl, HM, HW, HK⟩ := hrel
        by_cases hi : N - M = 0
        · have HB := Aside0.mk (HW.out.all (by omega))
          rw [hi]
          go_wp2_with (fail)
          go_end0
          exact ⟨rfl, HB.out, HK.out⟩
        · obtain ⟨i, hii⟩ : ∃ i, N - M = i + 1 := ⟨N - M - 1, by omega⟩
          obtain ⟨z, hc, hf, hlt⟩ := HW.out.cell i (by omega)
          have HW2 := Aside0.mk (HW.out.next (by omega) 48 (by
            have h1 : x < 10 ^ M := Nat.lt_of_lt_of_le HX2.out (Nat.pow_le_pow_right (by omega) HM.out)
            rw [Nat.div_eq_of_lt h1, Nat.zero_mod]; rfl))
          rw [show N - M - 1 = i by omega] at HW2
          have HK2 := Aside0.mk (HK.out.setCell (p := ⟨gs, i, none⟩) (.inl (.inl rfl)) (.int .u8 48))
          have hwi : IntKind.i64.wrap (((i + 1 : Nat) : Int) - 1) = (i : Int) := by rw [IntWalk.i64_in _ (by omega)]; omega
          have hlN : i < N := by omega
          have hiN : N - (M + 1) = i := by omega
          have HM2 : Aside0 (19 * t ≤ M + 1) := ⟨by have := HM.out; omega⟩
          rw [hii]
          clear hi
          go_wp2_with (fail)
          go_roundg i
          case measure => omega
          case rel => exact ⟨M + 1, hiN.symm, by rw [hiN], HM2, HW2, HK2⟩
    · obtain ⟨A, L, c, hz, hrd, hev, hl0, hlb⟩ := HN.out.rd' (by omega)
      subst hz
      have hr0 : ev BW L % 10000000000000000000 = ((y % 10000000000000000000 : Nat) : Int) := by rw [hev]; simp
      have hq0 : ev BW L / 10000000000000000000 = ((x / 10 ^ (19 * (t + 1)) : Nat) : Int) := by
        rw [hev, show 19 * (t + 1) = 19 * t + 19 by omega, Nat.pow_add, ← Nat.div_div_eq_div_mul, ← hy, show (10 : Nat) ^ 19 = 10000000000000000000 from rfl]
        omega
      have hlb9 : L.length ≤ 900000 := by
        obtain ⟨L2, g1, g2, g3, g4, g5⟩ := HN.out.rd (S := fun k => mb ≤ k) (z := .slice A L.length c) (by omega) (.inr rfl)
        obtain ⟨mx, ox, c2, g6, _⟩ := g1
        injection g6 with g7 g8 g9
        rw [g8]
        have h1 : y ≤ x := by rw [hy]; exact Nat.div_le_self _ _
        have h2 : (10 : Nat) ^ N ≤ 18446744073709551616 ^ N := Nat.pow_le_pow_left (by omega) N
        have h3 := HX.out
        have h4 : ev BW L2 < BW ^ N := by
          rw [g3, BW_def, show (18446744073709551616 : Int) = ((18446744073709551616 : Nat) : Int) from rfl, ← Int.natCast_pow]
          omega
        have := Cn_len_le g2 (by rw [BW_def]; omega) N h4
        omega
      have hd := natDivW_c (.slice A L.length c) (.slice A L.length c) (fun k => mb ≤ k) L 10000000000000000000 wr HN.out.dst hrd hl0 hlb9 (by rw [BW_def]; omega)
      rw [hr0, hq0] at hd
      have HD := Aside0.mk hd
      obtain ⟨r0, hr00⟩ : ∃ r0, r0 = y % 10000000000000000000 := ⟨_, rfl⟩
      rw [← hr00] at HD
      have HR0 := Aside0.mk hr00
      have hgs : gs < wr.heap.size := by
        obtain ⟨Y, h1, h2⟩ := HW.out
        exact hp_lt (show hp wr gs = _ from h2)
      clear hd hr0 hq0 hr00 hrd hev hy hlb
      go_wp2_with (go_at_call 145; refine HD.out.mono ?_; rintro e w2 ⟨q2, rfl, hn2, hk2⟩; have HN2 := Aside0.mk (hn2.mono (Q := fun k => mb ≤ k) (fun i hi => by have := HK.out.size; omega)); have HW2 := Aside0.mk (HW.out.kept hk2 (by omega)); have HK2 := Aside0.mk (HK.out.trans hk2 (fun i _ hi => .inr hi)); clear hn2 hk2)
      go_loopg [19, 20, 21] 19 (fun k v19 v20 v21 wr => ∃ (j : Nat), k = 19 - j ∧ j ≤ 19 ∧ v21 = .int .i64 (j : Int) ∧ v19 = .int .i64 ((N - (19 * t + j) : Nat) : Int) ∧ v20 = .int .u64 ((x / 10 ^ (19 * t + j) % 10 ^ (19 - j) : Nat) : Int) ∧ Aside0 (NR wr (fun k => mb ≤ k) q2 ((x / 10 ^ (19 * (t + 1)) : Nat) : Int)) ∧ Aside0 (Wr wr gs N (19 * t + j) x) ∧ Aside0 (Kept (fun k => k = gs ∨ mb ≤ k) w wr))
      case atStart => exact ⟨0, by omega, by omega, rfl, rfl, congrArg (Value.int .u64) (by rw [HR0.out, HY.out]; rfl), HN2, HW2, HK2⟩
      case round =>
        clear HN2 HW2 HK2 HN HW HK HD
        obtain ⟨j, rfl, hj, rfl, rfl, rfl, HN, HW, HK⟩ := hrel
        have hms : x / 10 ^ (19 * (t + 1)) < x / 10 ^ (19 * t) := by
          rw [show 19 * (t + 1) = 19 * t + 19 by omega, Nat.pow_add, ← Nat.div_div_eq_div_mul, ← HY.out]
          exact Nat.div_lt_self (by omega) (by decide)
        have HMS := Aside0.mk hms
        clear hms
        by_cases hj19 : j = 19
        · subst hj19
          go_wp2_with (fail)
          go_roundg (x / 10 ^ (19 * (t + 1)))
          case measure => exact HMS.out
          case rel => exact ⟨t + 1, rfl, by rw [show 19 * (t + 1) = 19 * t + 19 by omega], HN, ⟨by rw [show 19 * (t + 1) = 19 * t + 19 by omega]; exact HW.out⟩, HK⟩
        · have hjl : j < 19 := by omega
          by_cases hi : N - (19 * t + j) = 0
          · rw [hi]
            go_wp2_with (fail)
            go_roundg (x / 10 ^ (19 * (t + 1)))
            case measure => exact HMS.out
            case rel => exact ⟨t + 1, rfl, by rw [show N - 19 * (t + 1) = 0 by omega]; rfl, HN, ⟨HW.out.more (by omega) (by omega)⟩, HK⟩
          · obtain ⟨i, hii⟩ : ∃ i, N - (19 * t + j) = i + 1 := ⟨N - (19 * t + j) - 1, by omega⟩
            obtain ⟨z, hc, hf, hlt⟩ := HW.out.cell i (by omega)
            obtain ⟨h10a, h10b⟩ := ten19 x (19 * t + j) j hjl
            have hrl := ten19_lt x (19 * t + j) j
            obtain ⟨rr, hrr⟩ : ∃ rr, rr = x / 10 ^ (19 * t + j) % 10 ^ (19 - j) := ⟨_, rfl⟩
            rw [← hrr] at h10a h10b hrl ⊢
            obtain ⟨rq, hrq⟩ : ∃ rq, rq = rr / 10 := ⟨_, rfl⟩
            obtain ⟨d, hd⟩ : ∃ d, d = rr % 10 := ⟨_, rfl⟩
            have hd9 : d ≤ 9 := by omega
            have hq10 : (rr : Int) / 10 = (rq : Int) := by omega
            have hmul : IntKind.u64.wrap ((rq : Int) * 10) = (rq : Int) * 10 := by rw [IntKind.wrap_u64]; omega
            have hsub1 : IntKind.u64.wrap ((rr : Int) - (rq : Int) * 10) = (d : Int) := by rw [IntKind.wrap_u64]; omega
            have hsub2 : (rr : Int) - (rq : Int) * 10 = (d : Int) := by omega
            have hcv : IntKind.u8.wrap (d : Int) = (d : Int) := by rw [IntKind.wrap_u8']; omega
            have hadd : IntKind.u8.wrap (48 + (d : Int)) = 48 + (d : Int) := by rw [IntKind.wrap_u8']; omega
            have HW2 := Aside0.mk (HW.out.next (by omega) (48 + (d : Int)) (by rw [← h10b, ← hd, fig_dec d (by omega)]))
            rw [show N - (19 * t + j) - 1 = i by omega] at HW2
            have HK2 := Aside0.mk (HK.out.setCell (p := ⟨gs, i, none⟩) (.inl (.inl rfl)) (.int .u8 (48 + (d : Int))))
            have hwi : IntKind.i64.wrap (((i + 1 : Nat) : Int) - 1) = (i : Int) := by rw [IntWalk.i64_in _ (by omega)]; omega
            have hwj : IntKind.i64.wrap ((j : Int) + 1) = ((j + 1 : Nat) : Int) := by rw [IntWalk.i64_in _ (by omega)]; omega
            have hlN : i < N := by omega
            have hiN : N - (19 * t + (j + 1)) = i := by omega
            have HRQ : Aside0 (rq = x / 10 ^ (19 * t + (j + 1)) % 10 ^ (19 - (j + 1))) := ⟨by rw [hrq, h10a]; rfl⟩
            have HNS : Aside0 (NR (wr.setCell ⟨gs, i, none⟩ (.int .u8 (48 + (d : Int)))) (fun k => mb ≤ k) q2 ((x / 10 ^ (19 * (t + 1)) : Nat) : Int)) := ⟨HN.out.set (p := ⟨gs, i, none⟩) (by show ¬ mb ≤ gs; omega) _⟩
            rw [hii]
            clear hi h10a h10b hrr hrq hd
            go_wp2_with (fail)
            go_roundg (19 - (j + 1))
            case measure => omega
            case rel => exact ⟨j + 1, rfl, by omega, by simp, by rw [hiN], by rw [← HRQ.out], HNS, HW2, HK2⟩
end Go.Proofs.YtfnknldbjckgoaaGreatDoor.Sp
end

/-! ## Utoa -/
section
namespace Go.Proofs.YtfnknldbjckgoaaGreatDoor.Sp
open Go.RowKit Go.Proofs.YtfnknldbjckgoaaGreatDoorW.PrintWords Go.Proofs.YtfnknldbjckgoaaGreatDoorW.PrintLast Go.Proofs.YtfnknldbjckgoaaGreatDoorW.PrintMore Go.Proofs.YtfnknldbjckgoaaGreatDoor.Dig
set_option linter.unusedVariables false
set_option linter.unusedSimpArgs false
/-- The variable leafSize as laid. -/
def Leaf (w : World) : Prop := w.cell? ⟨1, 0, none⟩ = some (.int .i64 8) ∧ 1 < w.heap.size
theorem Leaf.below {w w' : World} (h : Leaf w) (hb : Below w.heap.size w w') : Leaf w' := ⟨(hb.cell (p := ⟨_, 0, none⟩) h.2).trans h.1, Nat.lt_of_lt_of_le h.2 hb.size⟩
theorem Leaf.kept {w w' : World} {S : Nat → Prop} (h : Leaf w) (hb : Kept S w w') (hS : ¬ S 1) : Leaf w' := ⟨hb.cell h.1 hS, Nat.lt_of_lt_of_le h.2 hb.size⟩
theorem divisors_c (V : Value) (m : Int) (w : World) (h : Leaf w) (hm : m ≤ 8) : Calls Tryz.prog 122 #[V, .int .i64 m, .int .u64 10, .int .i64 19, .int .u64 10000000000000000000] w fun e w' => e = .returned (.slice none 0 0) ∧ w = w' := by
  have h1 := h.1
  have h2 := h.2
  clear h
  go_enter Tryz.func122, Tryz.ntmps122
  go_wp2_with (fail)
  go_ret
  exact ⟨rfl, rfl⟩
theorem free_d (g : Nat) (u : FrameMode) (w : World) (h : hp w g = some (.cells #[.pointer none] 165 (0, 0))) (hu : u ≠ .run) : CallsD Tryz.prog 120 #[.pointer (some ⟨g, 0, none⟩)] u w fun e u' w' => u' = u ∧ e = .returned (.tuple #[]) ∧ w' = w := by
  obtain ⟨c0, f0⟩ := blk1 h
  have lg := hp_lt h
  clear h
  go_enter_d Tryz.func120, Tryz.ntmps120
  go_wp2_with (fail)
  go_end0
  exact ⟨rfl, rfl⟩
/-- A text of bytes in a block of the call's own. -/
def UP (w : World) (l : List Int) (e : Ending) (w' : World) : Prop :=
  ∃ g o Z c, e = .returned (.slice (some ⟨g, o, none⟩) l.length c) ∧ Br w' g Z ∧ Z.drop o = l ∧ o ≤ Z.length ∧ l.length ≤ c ∧ w.heap.size ≤ g ∧ Below w.heap.size w w'
theorem lz_drop (l : List Int) (i : Nat) (hi : i ≤ l.length) (h : ∀ j, j < i → l.getD j 0 = 48) (h2 : i = l.length ∨ l.getD i 0 ≠ 48) : l.drop i = lz l := by
  induction l generalizing i with
  | nil => simp [lz]
  | cons c t ih =>
    cases i with
    | zero =>
      rw [List.drop_zero, lz, if_neg]
      rcases h2 with h2 | h2
      · simp at h2
      · simpa using h2
    | succ i =>
      have h3 := h 0 (by omega)
      rw [List.getD_cons_zero] at h3
      rw [List.drop_succ_cons, lz, if_pos h3]
      refine ih i (by simpa using hi) (fun j hj => ?_) ?_
      · have := h (j + 1) (by omega)
        simpa using this
      · rcases h2 with h2 | h2
        · left; simpa using h2
        · right; simpa using h2
theorem of10 : floatOfInt .f64 10 = 4621819117588971520 := by decide +kernel
theorem and10 : Go.bits .and .u64 10 18446744073709551606 = 2 := by decide +kernel
/-- At most 512 bits. -/
def Fit (v : Nat) : Prop := v < 13407807929942597099574024998205846127479365820592393377723561443721764030073546976801874298166903427690031858186486050853753882811946569946433649006084096
theorem BW8 : BW ^ 8 = ((13407807929942597099574024998205846127479365820592393377723561443721764030073546976801874298166903427690031858186486050853753882811946569946433649006084096 : Nat) : Int) := (congrArg (· ^ 8) BW_def).trans (by kernel_rfl)
theorem Fit.bw {v : Nat} (h : Fit v) : (v : Int) < BW ^ 8 := by rw [BW8]; exact Int.ofNat_lt.2 h
theorem Fit.bits {v B : Nat} (h : Fit v) (hb : Bits (v : Int) B) : B ≤ 512 ∧ v < 2 ^ B := by
  refine ⟨hb.le (m := 64 * 8) (by rw [Int.pow_mul, show (2 : Int) ^ 64 = BW from BW_def.symm]; exact h.bw), ?_⟩
  have h2 := hb.2.1
  exact Int.ofNat_lt.1 (by rw [Int.natCast_pow]; exact h2)
set_option maxHeartbeats 6400000 in
set_option maxRecDepth 100000 in
theorem itoa_c (V : Value) (v : Nat) (w : World) (h : Wd w V (v : Int)) (h0 : 0 < v) (hb : Fit v) (hL : Leaf w) :
    Calls Tryz.prog 98 #[V, .bool false, .int .i64 10] w (UP w (figs 10 v)) := by
  obtain ⟨A, c, l, rfl, hlc, hC, hcn, hev⟩ := h
  have hln : l ≠ [] := by rintro rfl; rw [ev_nil] at hev; omega
  have hl0 : 0 < l.length := List.length_pos_iff.2 hln
  have hl8 : l.length ≤ 8 := Cn_len_le hcn (by rw [BW_def]; omega) 8 (by rw [hev]; exact hb.bw)
  obtain ⟨ad, rfl⟩ : ∃ ad, A = some ad := by
    obtain ⟨a, e, _⟩ := hC.2.2 hl0
    exact ⟨a, e⟩
  have had : ad.block < w.heap.size := by
    have h1 := World.block_lt_of_cell? w _ (C_at hC 0 hl0)
    rwa [show (ad.add 0).block = ad.block from by unfold Addr.add; split <;> rfl] at h1
  obtain ⟨B, hB⟩ := Bits.exists (v : Int) (by omega)
  obtain ⟨hB512, hvB⟩ := hb.bits hB
  obtain ⟨r, n, hr, hn, hn1000, hroom⟩ := roomB_of room10 hB512
  have hvN : v < 10 ^ (n + 1) := Nat.lt_of_lt_of_le hvB hroom
  obtain ⟨fb, hfb⟩ : ∃ fb, floatOfInt .f64 (B : Int) = fb := ⟨_, rfl⟩
  rw [hfb] at hr
  have hquo := run_float_arith (P := Tryz.prog) w .quo 146 .f64 _ _ _ hr
  have hcvi := run_convert_float_int (P := Tryz.prog) w 146 3 .f64 .i64 r (n : Int) (by kernel_rfl) Tryz.underlying3 hn
  have hof := of10
  have hand := and10
  have hmk := make_ints 43 5 .u8 1 Tryz.underlying43 infoU8 (by omega) ((n + 1 : Nat) : Int) ((n + 1 : Nat) : Int) (by omega) (by omega) (by omega) w
  have hn1w : IntKind.i64.wrap ((n : Int) + 1) = ((n + 1 : Nat) : Int) := by rw [IntWalk.i64_in _ (by omega)]; omega
  have hn1e : (n : Int) + 1 = ((n + 1 : Nat) : Int) := by omega
  have hl0b : ((l.length : Int) == 0) = false := by rw [beq_eq_false_iff_ne]; omega
  have HBL := Aside0.mk (bitLen_c (some ad) c l B w hC hlc (by omega) hcn (by rw [hev]; exact hB))
  have HC := Aside0.mk hC
  have HCN := Aside0.mk hcn
  have HEV := Aside0.mk hev
  have HLF := Aside0.mk hL
  have HVN := Aside0.mk hvN
  have HV0 := Aside0.mk h0
  clear hC hcn hev hL hvN hB hr hn hroom hvB hb h0 hln
  rw [Int.toNat_natCast] at hmk
  obtain ⟨N, hN⟩ : ∃ N, N = n + 1 := ⟨_, rfl⟩
  rw [← hN] at hmk hn1w hn1e HVN
  have hN1 : 1 ≤ N ∧ N ≤ 1001 := by omega
  clear hN
  have hneg : IntKind.u64.wrap (-10) = 18446744073709551606 := by decide +kernel
  have hbn : ((10 : Int) == Go.bits .and .u64 10 (IntKind.u64.wrap (-10))) = false := by decide +kernel
  have HB1 := Aside0.mk (below_alloc (Below.refl w.heap.size w) (.cells (Array.replicate N (.int .u8 0)) 5))
  have HW1 : Aside0 (Wr (w.alloc (.cells (Array.replicate N (.int .u8 0)) 5)) w.heap.size N 0 v) := ⟨List.replicate N 0, by simp, by
    unfold Br
    rw [hp_new _ _ _ rfl]
    congr 2
    apply Array.toList_inj.1
    simp [nums, lows]⟩
  have hfg : figs 10 v = lz (lows 10 N v) := (lz_lows 10 N v (by omega) HVN.out).symm
  have HFG := Aside0.mk hfg
  clear hfg
  go_enter_defers Tryz.func98, Tryz.ntmps98
  go_upto_region 35 with (first | (go_at_call 52; refine HBL.out.mono ?_; rintro e w1 ⟨rfl, rfl⟩) | (go_at_call 118; refine (log2_10 _).mono ?_; rintro e w1 ⟨rfl, rfl⟩) | fail)
  obtain ⟨w1, hw1⟩ : ∃ w1, w1 = w.alloc (.cells (Array.replicate N (.int .u8 0)) 5) := ⟨_, rfl⟩
  have hs1 : w1.heap.size = w.heap.size + 1 := by rw [hw1]; simp
  rw [← hw1] at HB1 HW1 ⊢
  obtain ⟨gs, hgs⟩ : ∃ gs, gs = w.heap.size := ⟨_, rfl⟩
  rw [← hgs] at HW1 ⊢
  have HGS := Aside0.mk (show gs = w.heap.size ∧ w1.heap.size = w.heap.size + 1 from ⟨hgs, hs1⟩)
  have HB2 := Aside0.mk (below_alloc HB1.out (.cells #[.pointer none] 165))
  have HK2 : Aside0 (hp (w1.alloc (.cells #[.pointer none] 165)) w1.heap.size = some (.cells #[.pointer none] 165 (0, 0))) := ⟨hp_new _ _ _ rfl⟩
  have HC2 := Aside0.mk (C_kept (Kept.of_below (S := fun _ => False) HB2.out) HC.out (fun _ h => h))
  have HL2 := Aside0.mk (HLF.out.below HB2.out)
  have HW2 := Aside0.mk (HW1.out.kept (Kept.of_below (S := fun _ => False) (below_alloc (Below.refl w1.heap.size w1) (.cells #[.pointer none] 165))) (fun h => h))
  have hl8i : (l.length : Int) ≤ 8 := by omega
  have HDV : Aside0 (∀ W V, Leaf W → Calls Tryz.prog 122 #[V, .int .i64 (l.length : Int), .int .u64 10, .int .i64 19, .int .u64 10000000000000000000] W fun e w' => e = .returned (.slice none 0 0) ∧ W = w') := ⟨fun W V h => divisors_c V _ W h hl8i⟩
  have HST : Aside0 (∀ W, Kd.C (Kd.int .u64) W (some ad) l.length l → ad.block < W.heap.size → Calls Tryz.prog 78 #[.slice none 0 0, .slice (some ad) l.length c] W (SetPostW W (fun _ => False) l)) := ⟨fun W h1 h2 => set_c (.slice none 0 0) (fun _ => False) ad c l W (.inl rfl) h1 HCN.out.ok hl0 (by omega) (fun h => h) h2⟩
  clear hw1 hgs hs1 hbn hneg hand hof hfb hquo hcvi hmk hn1w hn1e
  go_wp2_with (first | (go_at_call 119; go_in) | (go_at_call 121; refine (maxPow_c _).mono ?_; rintro e w3 ⟨rfl, rfl⟩) | (go_at_call 122; refine (HDV.out _ _ HL2.out).mono ?_; rintro e w3 ⟨rfl, rfl⟩) | fail)
  refine (HST.out _ HC2.out (by have := HB2.out.size; simp at this ⊢; omega)).mono ?_
  rintro e w3 ⟨mb, R, c3, rfl, hc3, hc3m, hmb, hm, hokR, hk3⟩
  have hmb2 : mb = (w1.alloc (.cells #[.pointer none] 165)).heap.size := by rcases hmb with h | h; exact h.elim; exact h
  have HNR : Aside0 (NR w3 (fun k => gs + 2 ≤ k) (.slice (some ⟨mb, 0, none⟩) l.length c3) (v : Int)) := ⟨.inr ⟨mb, l, R, by rw [hc3], hm, hokR, HCN.out, HEV.out, by show gs + 2 ≤ mb; rw [hmb2]; have := HGS.out; simp; omega, by omega⟩⟩
  have HB3 := Aside0.mk (below_step HB2.out (hk3.below (B := (w1.alloc (.cells #[.pointer none] 165)).heap.size) (fun i h => h.elim) (Nat.le_refl _)))
  have HW3 := Aside0.mk (HW2.out.kept hk3 (fun h => h))
  have HK3 := Aside0.mk (hp_kept HK2.out hk3 (fun h => h))
  have HCW := Aside0.mk (fun k1 => convW_c gs (gs + 2) N v (.slice (some ⟨mb, 0, none⟩) l.length c3) k1 w3 HNR.out HW3.out (by omega) HVN.out (by omega) (by have h1 := HGS.out; have h2 := hk3.size; simp at h2; omega))
  clear hmb hm hokR hk3 hmb2 hc3
  go_wp2_with (fail)
  refine (HCW.out _).mono ?_
  rintro e w4 ⟨rfl, hbr, hk4⟩
  have HBR := Aside0.mk hbr
  have HST4 : Aside0 (hp w4 (gs + 1) = some (.cells #[.pointer none] 165 (0, 0))) := ⟨by
    have h1 := HK3.out
    rw [show w1.heap.size = gs + 1 by have := HGS.out; omega] at h1
    exact hp_kept h1 hk4 (by omega)⟩
  have HB4 : Aside0 (Below w.heap.size w w4) := ⟨HB3.out.trans (hk4.below (fun i hi => by have := HGS.out; omega) (by have := HB3.out.size; omega))⟩
  clear hbr hk4 HCW
  have hsz : w1.heap.size = gs + 1 := by have := HGS.out; omega
  have lgs := hp_lt (show hp w4 gs = _ from HBR.out)
  have HLZ : Aside0 (lz (lows 10 N v) ≠ []) := ⟨by rw [← HFG.out]; exact figs_ne 10 v (by omega) (by omega) HV0.out⟩
  go_wp2_with (fail)
  go_loopg [7] N (fun k v7 wr => ∃ i : Nat, k = N - i ∧ v7 = .int .i64 (i : Int) ∧ i < N ∧ Aside0 (∀ j : Nat, j < i → (lows 10 N v).getD j 0 = (48 : Int)) ∧ w4 = wr)
  case atStart => exact ⟨0, rfl, rfl, by omega, ⟨fun j hj => by omega⟩, rfl⟩
  case round =>
    obtain ⟨i, rfl, rfl, hi, HZ, rfl⟩ := hrel
    have hc := HBR.out.cell i (by rw [lows_len]; exact hi)
    obtain ⟨x, hx⟩ : ∃ x, x = (lows 10 N v).getD i 0 := ⟨_, rfl⟩
    rw [← hx] at hc
    have HX := Aside0.mk hx
    clear hx
    by_cases h48 : x = 48
    · subst h48
      have hi1 : i + 1 < N := by
        refine Nat.lt_of_not_le fun hge => HLZ.out ?_
        have := lz_drop (lows 10 N v) N (by rw [lows_len]; omega) (fun j hj => by
          by_cases hj2 : j = i
          · subst hj2; exact HX.out.symm
          · exact HZ.out j (by omega)) (.inl (by rw [lows_len]))
        rw [← this, List.drop_eq_nil_of_le (by rw [lows_len]; omega)]
      have HZ2 : Aside0 (∀ j : Nat, j < i + 1 → (lows 10 N v).getD j 0 = (48 : Int)) := ⟨fun j hj => by
        by_cases hj2 : j = i
        · subst hj2; exact HX.out.symm
        · exact HZ.out j (by omega)⟩
      have hwi : IntKind.i64.wrap ((i : Int) + 1) = ((i + 1 : Nat) : Int) := by rw [IntWalk.i64_in _ (by omega)]; omega
      go_wp2_with (fail)
      go_roundg (N - (i + 1))
      case measure => omega
      case rel => exact ⟨i + 1, rfl, by simp, hi1, HZ2, rfl⟩
    · have HD := Aside0.mk (lz_drop (lows 10 N v) i (by rw [lows_len]; omega) HZ.out (.inr (by rw [← HX.out]; exact h48)))
      have hxb : (x == 48) = false := by rw [beq_eq_false_iff_ne]; exact h48
      have hfl : (figs 10 v).length = N - i := by rw [HFG.out, ← HD.out, List.length_drop, lows_len]
      have HUP : Aside0 (UP w (figs 10 v) (.returned (.slice (some ⟨gs, i, none⟩) (N - i) (N - i))) w4) := ⟨gs, i, lows 10 N v, N - i, by rw [hfl], HBR.out, by rw [HFG.out]; exact HD.out, by rw [lows_len]; omega, by omega, by have := HGS.out; omega, HB4.out⟩
      clear hfl
      go_wp2_with (fail)
      refine leaves_cons (f := 120) (args := #[.pointer (some ⟨gs + 1, 0, none⟩)]) (by simp) (by simp [go_sem]) ?_
      refine (free_d (gs + 1) .returning w4 HST4.out (by simp)).mono ?_
      rintro e u' w'' ⟨rfl, rfl, rfl⟩
      refine ⟨_, results_tmp rfl _ _ _, ?_⟩
      exact HUP.out
set_option maxRecDepth 100000 in
theorem utoa_c (V : Value) (v : Nat) (w : World) (h : Wd w V (v : Int)) (h0 : 0 < v) (hb : Fit v) (hL : Leaf w) :
    Calls Tryz.prog 69 #[V, .int .i64 10] w (UP w (figs 10 v)) := by
  have HI := Aside0.mk (itoa_c V v w h h0 hb hL)
  obtain ⟨A, c, l, rfl, _⟩ := h
  go_enter Tryz.func69, Tryz.ntmps69
  go_wp2_with (go_at_call 98; refine HI.out.mono ?_; rintro e w1 ⟨g, o, Z, c2, rfl, h1⟩; have H1 := Aside0.mk h1; clear h1)
  go_ret
  exact ⟨g, o, Z, c2, rfl, H1.out⟩
end Go.Proofs.YtfnknldbjckgoaaGreatDoor.Sp
end

/-! ## NatSh -/
section
namespace Go.Proofs.YtfnknldbjckgoaaGreatDoor.Sp
open Go.RowKit Go.Proofs.YtfnknldbjckgoaaGreatDoorW.PrintWords Go.Proofs.YtfnknldbjckgoaaGreatDoorW.PrintLast Go.Proofs.YtfnknldbjckgoaaGreatDoorW.PrintMore Go.Proofs.YtfnknldbjckgoaaGreatDoor.Dig
set_option linter.unusedVariables false
set_option linter.unusedSimpArgs false
/-- Where the row that is read lies: in another block, or not behind the place that is written. -/
def LiesL (w : World) (mz oz mx ox : Nat) (L : List Int) : Prop := (∀ j, j < L.length → w.cell? ⟨mx, ox + j, none⟩ = some (.int .u64 (L.getD j 0))) ∧ (mx ≠ mz ∨ (mx = mz ∧ ox ≤ oz))
theorem liesL_down {w W : World} {mz oz mx ox : Nat} {L Z : List Int} {T : Int} {t : TypeId} (h : LiesL w mz oz mx ox L) (hz : hp w mz = some (.cells (u64s Z) t (0, 0))) (hlen : oz + L.length ≤ Z.length) (hk : Kept (On mz) w W) {i : Nat} (hi : i < L.length) (hW : hp W mz = some (.cells (u64s (upd Z oz (i + 1) L.length T)) t (0, 0))) (j : Nat) (hj : j ≤ i) : W.cell? ⟨mx, ox + j, none⟩ = some (.int .u64 (L.getD j 0)) := by
  obtain ⟨h1, h2⟩ := h
  have h3 := h1 j (by omega)
  rcases h2 with h2 | ⟨rfl, hox⟩
  · exact hk.cell h3 h2
  · rw [(blk_cell hW (ox + j)).trans (u64s_get _ (ox + j) (by rw [upd_len]; omega)), upd_get _ _ _ _ _ _ (by omega), if_neg (by omega)]
    have h4 := (blk_cell hz (ox + j)).trans (u64s_get _ (ox + j) (by omega))
    rw [h3] at h4
    rw [← Option.some.inj h4]
set_option maxHeartbeats 3200000 in
set_option maxRecDepth 100000 in
theorem lshVUL_g_c (mz oz cz mx ox cx : Nat) (Z L : List Int) (s : Nat) (t : TypeId) (w : World) (hs : 0 < s ∧ s < 64) (hz : hp w mz = some (.cells (u64s Z) t (0, 0))) (hlen : oz + L.length ≤ Z.length) (hx : LiesL w mz oz mx ox L) (h0 : 0 < L.length) (hbig : L.length ≤ 100000000) (hok : okd BW L) :
    Calls Tryz.prog 116 #[.slice (some ⟨mz, oz, none⟩) L.length cz, .slice (some ⟨mx, ox, none⟩) L.length cx, .int .u64 (s : Int)] w (ShiftPost w mz oz Z L.length (ev BW L * 2 ^ s) (L.getD (L.length - 1) 0 / 2 ^ (64 - s)) t) := by
  have e1 := and63 s hs.2
  have e2 := and63 (64 - s) (by omega)
  have e0 : ((s : Int) == 0) = false := by rw [beq_eq_false_iff_ne]; omega
  have HX := Aside0.mk hx
  have HZ := Aside0.mk hz
  have hl := hx.1 (L.length - 1) (by omega)
  have HOK := Aside0.mk hok
  obtain ⟨n, hn⟩ : ∃ n, n = L.length := ⟨_, rfl⟩
  have HN := Aside0.mk hn
  obtain ⟨k, hk⟩ : ∃ k, n = k + 1 := ⟨n - 1, by omega⟩
  rw [← hn] at hl hlen h0 hbig ⊢
  clear hx hz hok hn
  subst hk
  rw [Nat.add_sub_cancel] at hl ⊢
  have e3 : (64 - (s : Int)) = ((64 - s : Nat) : Int) := by omega
  go_enter Tryz.func116, Tryz.ntmps116
  go_wp2_with (fail)
  go_loopw [8] (fun v8 wr => ∃ i : Nat, i ≤ k ∧ v8 = .int .i64 (i : Int) ∧ Aside0 (hp wr mz = some (.cells (u64s (upd Z oz (i + 1) (k + 1) (ev BW L * 2 ^ s))) t (0, 0))) ∧ Aside0 (Kept (On mz) w wr)) (fun v _ => (intOf v).toNat)
  case atStart => exact ⟨k, by omega, rfl, ⟨by rw [upd_none _ _ _ _ _ (Nat.le_refl _)]; exact HZ.out⟩, ⟨Kept.refl _ _⟩⟩
  case round =>
    obtain ⟨i, hi, rfl, HO, HK⟩ := hrel
    have hw := fun j hj => liesL_down (T := ev BW L * 2 ^ s) HX.out HZ.out (by rw [← HN.out]; exact hlen) HK.out (i := i) (by rw [← HN.out]; omega) (by rw [← HN.out]; exact HO.out) j hj
    by_cases hi0 : i = 0
    · subst hi0
      have hx0 := hw 0 (Nat.le_refl _)
      have hc := (blk_cell HO.out (oz + 0)).trans (u64s_get _ (oz + 0) (by rw [upd_len]; omega))
      have hf := blk_frozen HO.out (oz + 0)
      rw [Nat.add_zero] at hx0 hc hf
      obtain ⟨a, ha⟩ : ∃ a, a = L.getD 0 0 := ⟨_, rfl⟩
      rw [← ha] at hx0
      have HD : Aside0 (IntKind.u64.wrap (a * 2 ^ s) = dg (ev BW L * 2 ^ s) 0) := ⟨by rw [dg_shl0, ev_dg HOK.out, ← ha, IntKind.wrap_u64, BW_def]⟩
      clear hw ha
      go_wp2_with (fail)
      go_ret
      refine ⟨rfl, ?_, HK.out.setCell (p := ⟨mz, oz, none⟩) (.inl rfl) _⟩
      rw [hp_here _ _ _ _ _ rfl, HO.out]
      simp only [Option.map_some, setObj_cells, u64s_set]
      have hu : (upd Z oz (0 + 1) (k + 1) (ev BW L * 2 ^ s)).set oz (dg (ev BW L * 2 ^ s) 0) = upd Z oz 0 (k + 1) (ev BW L * 2 ^ s) := upd_down Z oz 0 (k + 1) (ev BW L * 2 ^ s) (by omega) (by omega)
      rw [HD.out, hu]
    · obtain ⟨q, rfl⟩ : ∃ q, i = q + 1 := ⟨i - 1, by omega⟩
      have hx1 := hw (q + 1) (by omega)
      have hx0 := hw q (by omega)
      have hc := (blk_cell HO.out (oz + (q + 1))).trans (u64s_get _ (oz + (q + 1)) (by rw [upd_len]; omega))
      have hf := blk_frozen HO.out (oz + (q + 1))
      obtain ⟨a, ha⟩ : ∃ a, a = L.getD (q + 1) 0 := ⟨_, rfl⟩
      obtain ⟨b, hb⟩ : ∃ b, b = L.getD q 0 := ⟨_, rfl⟩
      rw [← ha] at hx1
      rw [← hb] at hx0
      obtain ⟨d, hd⟩ : ∃ d, d = dg (ev BW L * 2 ^ s) (q + 1) := ⟨_, rfl⟩
      have he : Go.bits .or .u64 (IntKind.u64.wrap (a * 2 ^ s)) (b / 2 ^ (64 - s)) = d := by
        rw [or_shl a b s hs (by rw [ha]; exact okd_get HOK.out BW_pos _) (by rw [hb]; exact okd_get HOK.out BW_pos _), hd, dg_shl _ _ hs.2, ev_dg HOK.out, ev_dg HOK.out, ← ha, ← hb]
      have HD := Aside0.mk hd
      clear hw ha hb hd
      go_wp2_with (fail)
      go_region
      all_goals
        go_wp2_with (fail)
        go_roundw
        case measure => simp [intOf]
        case rel =>
          refine ⟨q, by omega, rfl, ⟨?_⟩, ⟨?_⟩⟩
          · rw [hp_drew, hp_here _ _ _ _ _ rfl, HO.out]
            simp only [Option.map_some, setObj_cells, u64s_set]
            rw [HD.out, upd_down _ _ _ _ _ (by omega) (by omega)]
          · exact (HK.out.setCell (p := ⟨mz, oz + (q + 1), none⟩) (.inl rfl) _).drew
theorem lshVUL_c (mz oz cz mx ox cx : Nat) (Z L : List Int) (s : Nat) (t : TypeId) (w : World) (hs : 0 < s ∧ s < 64) (hz : hp w mz = some (.cells (u64s Z) t (0, 0))) (hlen : oz + L.length ≤ Z.length) (hx : LiesL w mz oz mx ox L) (h0 : 0 < L.length) (hbig : L.length ≤ 100000000) (hok : okd BW L) :
    Calls Tryz.prog 95 #[.slice (some ⟨mz, oz, none⟩) L.length cz, .slice (some ⟨mx, ox, none⟩) L.length cx, .int .u64 (s : Int)] w (ShiftPost w mz oz Z L.length (ev BW L * 2 ^ s) (L.getD (L.length - 1) 0 / 2 ^ (64 - s)) t) := by
  have H := Aside0.mk (lshVUL_g_c mz oz cz mx ox cx Z L s t w hs hz hlen hx h0 hbig hok)
  obtain ⟨T, hT⟩ : ∃ T, T = ev BW L * 2 ^ s := ⟨_, rfl⟩
  obtain ⟨c, hc⟩ : ∃ c, c = L.getD (L.length - 1) 0 / 2 ^ (64 - s) := ⟨_, rfl⟩
  rw [← hT, ← hc] at H ⊢
  clear hT hc hz hx hok
  go_enter Tryz.func95, Tryz.ntmps95
  go_wp2_with (go_at_call 116; refine (H.out).mono ?_; rintro e w' ⟨rfl, h1, h2⟩; have H1 := Aside0.mk h1; have H2 := Aside0.mk h2; clear h1 h2)
  go_ret
  exact ⟨rfl, H1.out, H2.out⟩
/-! ### clear -/
theorem clear_world {P : Program} (w : World) (T ty elem : TypeId) (hu : P.underlying T = some (.slice elem)) (i : TypeInfo) (hi : P.info? elem = some i) (hz : i.zero = some (.int .u64 0)) (g off n c : Nat) (cur : List Value) (t : TypeId) (hg : w.heap[g]? = some (.cells cur.toArray t (0, 0))) (hfit : off + n ≤ cur.length) :
    ∃ w', (Builtin.clear_ #[T] ty #[.slice (some ⟨g, off, none⟩) n c]).run P w = .ok (.tuple #[]) w' ∧ w'.heap[g]? = some (.cells (laid cur off (List.replicate n (.int .u64 0))).toArray t (0, 0)) ∧ Kept (On g) w w' := by
  cases n with
  | zero => exact ⟨w, by simp [Builtin.clear_, run_underlying hu], by simpa [laid] using hg, Kept.refl _ _⟩
  | succ n =>
    have hst := run_storeCells_at P g off t (List.replicate (n + 1) (.int .u64 0)) 0 cur.toArray w hg (by simpa using hfit) (fun v hv => by rw [List.eq_of_mem_replicate hv]; rfl)
    refine ⟨_, ?_, by simpa [laid] using setRow_heap w g _ _ t _ hg, (Kept.refl (On g) w).setRow (.inl rfl) _⟩
    have hcz : (Value.int .u64 0).cells = #[Value.int .u64 0] := rfl
    have hz2 : (List.map (fun i => (Value.int IntKind.u64 0).cells[i % (Value.int IntKind.u64 0).cells.size]!) (List.range ((n + 1) * (Value.int IntKind.u64 0).cells.size))) = List.replicate (n + 1) (Value.int .u64 0) := by
      rw [List.eq_replicate_iff, hcz]
      refine ⟨by simp, fun b hb => ?_⟩
      obtain ⟨i, _, rfl⟩ := List.mem_map.1 hb
      simp [Nat.mod_one]
    simp only [Nat.add_zero, List.length_replicate, List.append_assoc] at hst
    simp [Builtin.clear_, run_underlying hu, zeroValue, typeInfo, hi, hz, Builtin.zeroCells]
    rw [hz2, hst]
    rfl
theorem wpList_clear {P : Program} {w : World} {ops : Array Oper} {rest : List Oper} {o : Oper} {a : Act} {Q : Exit → Act → World → Prop} (hgd : o.guard = none) (x : Operand) (T : TypeId)
    (ho : o.op = .call { callee := .builtin .clear, args := #[x], argTypes := #[T] }) (elem : TypeId) (hu : P.underlying T = some (.slice elem)) (i : TypeInfo) (hi : P.info? elem = some i) (hz : i.zero = some (.int .u64 0))
    (g off n c : Nat) (hx : a.eval x = .slice (some ⟨g, off, none⟩) n c) (cur : List Int) (t : TypeId) (hg : hp w g = some (.cells (u64s cur) t (0, 0))) (hfit : off + n ≤ cur.length)
    (h : ∀ w', Aside0 (hp w' g = some (.cells (u64s (laid cur off (List.replicate n 0))) t (0, 0))) → Aside0 (Kept (On g) w w') → wpList P ops Q rest (a.put o.dst (.tuple #[])) w') :
    wpList P ops Q (o :: rest) a w := by
  obtain ⟨w', hrun, h2, h3⟩ := clear_world (P := P) w T o.type elem hu i hi hz g off n c (cur.map (Value.int .u64)) t hg (by simpa using hfit)
  refine wpList_plain hgd fun K hK => ?_
  unfold Oper.wp
  simp [execOp, ho, resolve, invoke, builtin, hx, hrun, Result.andThen]
  refine hK _ _ (h w' ⟨?_⟩ ⟨h3⟩)
  have e1 : List.replicate n (Value.int .u64 0) = (List.replicate n (0 : Int)).map (Value.int .u64) := by simp
  rw [e1, laid_u64] at h2
  exact h2
/-! ### lsh -/
/-- The words of a row that was shifted: k noughts, then Y. -/
theorem lsh_value (k m s : Nat) (Y : List Int) (v : Int) (hY : ev BW Y = v * 2 ^ s) : ev BW (List.replicate k 0 ++ Y) = v * 2 ^ (64 * k + s) := by
  rw [ev_append, ev_replicate, Int.zero_add, List.length_replicate, hY, Int.pow_add, Int.pow_mul, show (2 : Int) ^ 64 = BW from BW_def.symm, Int.mul_left_comm]
theorem shl_top (L : List Int) (s : Nat) (hok : okd BW L) (h0 : 0 < L.length) (hs : s < 64) : ev BW (wn L.length (ev BW L * 2 ^ s) ++ [L.getD (L.length - 1) 0 / 2 ^ (64 - s)]) = ev BW L * 2 ^ s := by
  obtain ⟨m, hm⟩ : ∃ m, L.length = m + 1 := ⟨L.length - 1, by omega⟩
  have h1 := ev_nonneg hok BW_pos
  have h2 := ev_lt hok BW_pos
  have e1 : L.getD (L.length - 1) 0 / 2 ^ (64 - s) = dg (ev BW L * 2 ^ s) (m + 1) := by
    rw [dg_shl _ _ hs, hm, Nat.add_sub_cancel, ev_dg hok, ev_dg hok]
    have : L.getD (m + 1) 0 = 0 := by rw [List.getD_eq_getElem?_getD, List.getElem?_eq_none (by omega)]; rfl
    rw [this, Int.zero_mul, Int.zero_emod, Int.zero_add]
  rw [e1, hm, ← wn_succ, ev_wn_lt]
  · exact Int.mul_nonneg h1 (Int.le_of_lt (tp s))
  · rw [hm] at h2
    have h3 : (2 : Int) ^ s ≤ BW := by
      have := Int.mul_le_mul_of_nonneg_left (show (1 : Int) ≤ 2 ^ (64 - s) from tp _) (Int.le_of_lt (tp s))
      rw [two64 s (by omega)] at this
      omega
    have h4 : ev BW L * 2 ^ s < BW ^ (m + 1) * 2 ^ s := Int.mul_lt_mul_of_pos_right h2 (tp s)
    have h5 : BW ^ (m + 1) * 2 ^ s ≤ BW ^ (m + 1) * BW := Int.mul_le_mul_of_nonneg_left h3 (Int.le_of_lt (pow_pos BW_pos _))
    rw [Int.pow_succ BW (m + 1)]
    omega
/-- The row at the end of a shift. -/
def shRow (k : Nat) (Y : List Int) (c : Int) (R : List Int) : List Int := List.replicate k 0 ++ (Y ++ c :: R)
theorem lsh_fin {w : World} {P : Nat → Prop} {mb k m n1 cz : Nat} {Y R : List Int} {c v : Int} (h : hp w mb = some (.cells (u64s (shRow k Y c R)) 108 (0, 0))) (hY : Y.length = m) (hn : n1 = k + m + 1) (hoY : okd BW Y) (hc : 0 ≤ c ∧ c < BW) (hoR : okd BW R) (hv : ev BW (List.replicate k 0 ++ (Y ++ [c])) = v) (hP : P mb) (hl : (shRow k Y c R).length = cz) (hcz : cz ≤ 1000000) :
    Kd.C (Kd.int .u64) w (some ⟨mb, 0, none⟩) ((shRow k Y c R).take n1).length ((shRow k Y c R).take n1) ∧ ((shRow k Y c R).take n1).length = n1 ∧ n1 ≤ cz ∧ NR w P (.slice (some ⟨mb, 0, none⟩) (strip ((shRow k Y c R).take n1)).length cz) v := by
  have hl2 : (shRow k Y c R).length = k + (m + (1 + R.length)) := by unfold shRow; simp; omega
  have ht : (shRow k Y c R).take n1 = List.replicate k 0 ++ (Y ++ [c]) := by
    unfold shRow
    have e : List.replicate k 0 ++ (Y ++ c :: R) = (List.replicate k 0 ++ (Y ++ [c])) ++ R := by simp
    rw [e, List.take_append_of_le_length (by simp; omega), List.take_of_length_le (by simp; omega)]
  have hok : okd BW (shRow k Y c R) := okd_append.2 ⟨okd_replicate _ BW_pos, okd_append.2 ⟨hoY, okd_cons.2 ⟨hc, hoR⟩⟩⟩
  refine ⟨take_C h (by omega) (by omega), by rw [List.length_take]; omega, by omega, ?_⟩
  exact NR.of_strip h hok (by omega) (by rw [ht, hv]) hP hl.symm (by omega)
theorem laid_zero (k : Nat) (A B : List Int) (hA : A.length = k) : laid (A ++ B) 0 (List.replicate k 0) = List.replicate k 0 ++ B := by
  unfold laid
  rw [List.take_zero, List.nil_append, List.length_replicate, Nat.zero_add, List.drop_left' hA]
theorem set_mid (A Y : List Int) (B : List Int) (i : Nat) (c : Int) (h : i = A.length + Y.length) (hB : 0 < B.length) : (A ++ (Y ++ B)).set i c = A ++ (Y ++ c :: B.drop 1) := by
  subst h
  cases B with
  | nil => simp at hB
  | cons b t =>
    rw [List.set_append_right _ _ (by omega), Nat.add_sub_cancel_left, List.set_append_right _ _ (by omega), Nat.sub_self]
    rfl
set_option maxHeartbeats 6400000 in
set_option maxRecDepth 100000 in
theorem lsh_c (z x : Value) (S : Nat → Prop) (L : List Int) (t : Nat) (w : World) (h : Dst w z S) (hr : Rd w S z x L) (h0 : 0 < L.length) (hbig : L.length ≤ 100000) (ht : 0 < t) (htb : t ≤ 100000) :
    Calls Tryz.prog 67 #[z, x, .int .u64 (t : Int)] w fun e w' => ∃ q, e = .returned q ∧ NR w' (fun k => S k ∨ w.heap.size ≤ k) q (ev BW L * 2 ^ t) ∧ Kept S w w' := by
  obtain ⟨k, hk⟩ : ∃ k : Nat, k = t / 64 := ⟨_, rfl⟩
  obtain ⟨s, hs⟩ : ∃ s : Nat, s = t % 64 := ⟨_, rfl⟩
  have ht2 : t = 64 * k + s := by omega
  have hs64 : s < 64 := by omega
  obtain ⟨m, hm⟩ : ∃ m, m = L.length := ⟨_, rfl⟩
  have HD := Aside0.mk h
  have HR := Aside0.mk hr
  obtain ⟨mx, ox, c, rfl, hlc, _, hok, _, _⟩ := hr
  have HOK := Aside0.mk hok
  have htI : ((t : Int) == 0) = false := by rw [beq_eq_false_iff_ne]; omega
  have hl0 : ((L.length : Int) == 0) = false := by rw [beq_eq_false_iff_ne]; omega
  have hl0m : ((m : Int) == 0) = false := by rw [beq_eq_false_iff_ne]; omega
  have hq : (t : Int) / 64 = (k : Int) := by omega
  have hmd : (t : Int) % 64 = (s : Int) := by omega
  have hkw : IntKind.i64.wrap (k : Int) = (k : Int) := IntWalk.i64_in _ (by omega)
  obtain ⟨n, hn⟩ : ∃ n, n = m + k := ⟨_, rfl⟩
  obtain ⟨n1, hn1⟩ : ∃ n1, n1 = n + 1 := ⟨_, rfl⟩
  have hw1' : (m : Int) + (k : Int) = (n : Int) := by omega
  have hw2' : (n : Int) + 1 = (n1 : Int) := by omega
  have hw3' : (n : Int) - (m : Int) = (k : Int) := by omega
  have HM := Aside0.mk (make2_c z S n1 w h (by omega) (by omega))
  have hnb : n ≤ 200000 ∧ n1 ≤ 200001 ∧ n < n1 ∧ k ≤ n ∧ m ≤ n := by omega
  have HN := Aside0.mk (show n = m + k ∧ n1 = n + 1 from ⟨hn, hn1⟩)
  obtain ⟨A, nz, cz, rfl⟩ : ∃ A nz cz, z = .slice A nz cz := by
    rcases h with h | ⟨mz, nz, Z, h, _⟩
    · exact ⟨_, _, _, h⟩
    · exact ⟨_, _, _, h⟩
  have HMM := Aside0.mk hm
  have HT2 := Aside0.mk ht2
  clear h hok hk hs ht2 hn hn1
  rw [← hm] at hl0 hlc h0 hbig ⊢
  clear hm
  go_enter Tryz.func67, Tryz.ntmps67
  go_wp2_with (fail)
  refine (HM.out).mono ?_
  rintro e w1 hmk
  obtain ⟨mb, Z, rfl, hnZ, hmax, hS, hz, hokZ, hb1, hmb⟩ := make_dst HD.out hmk
  obtain ⟨mx', ox', c', e1, _, hlies, hmx⟩ := rd_lies HR.out hb1 hS hmb
  injection e1 with e1 e2 e3
  injection e1 with e1
  injection e1 with e1 e4
  subst e1 e4
  have HLI : Aside0 (LiesL w1 mb k mx ox L) := ⟨⟨hlies.1, by rcases hlies.2 with h | ⟨h1, h2⟩; exact .inl h; exact .inr ⟨h1, by omega⟩⟩⟩
  have hmkl : k + m < Z.length := by have := HN.out; omega
  have HZ := Aside0.mk hz
  have HOZ := Aside0.mk hokZ
  have HB1 := Aside0.mk hb1
  have HS := Aside0.mk hS
  have HMB := Aside0.mk hmb
  have hmbl := hp_lt hz
  have HK1 : Aside0 (∀ W, Kept (On mb) w1 W → Kept S w W) := ⟨fun W hk => (Kept.of_below HB1.out).trans hk (fun i hi h => by
    obtain rfl : i = mb := h
    rcases HS.out with h | h
    · exact h
    · omega)⟩
  have HPP : Aside0 (S mb ∨ w.heap.size ≤ mb) := ⟨by rcases HS.out with h | h; exact .inl h; exact .inr (by omega)⟩
  have hZ1 : Z = Z.take k ++ ((Z.drop k).take m ++ Z.drop (k + m)) := by
    rw [← List.drop_drop, List.take_append_drop m (List.drop k Z), List.take_append_drop k Z]
  have HZ1 := Aside0.mk hZ1
  have htk : (Z.take k).length = k := by rw [List.length_take]; omega
  have hdk : ((Z.drop k).take m).length = m := by rw [List.length_take, List.length_drop]; omega
  have hdn : (Z.drop (k + m)).length = Z.length - (k + m) := List.length_drop
  have HLN := Aside0.mk (show (Z.take k).length = k ∧ ((Z.drop k).take m).length = m ∧ (Z.drop (k + m)).length = Z.length - (k + m) from ⟨htk, hdk, hdn⟩)
  obtain ⟨iw, hiw, hzw, hszw, hbyw⟩ := info_parts infoWord
  have hnk : n - k = m := by have := HN.out; omega
  have hnmk : n - m = k := by have := HN.out; omega
  have hnZl : n < Z.length := by omega
  obtain ⟨RR, hRR⟩ : ∃ RR, RR = (Z.drop (k + m)).drop 1 := ⟨_, rfl⟩
  have HRR := Aside0.mk hRR
  have HRO : Aside0 (okd BW RR) := ⟨by rw [hRR]; exact okd_drop (okd_drop hokZ _) _⟩
  have HRL : Aside0 (RR.length = Z.length - (k + m) - 1) := ⟨by rw [hRR, List.length_drop, hdn]⟩
  clear hz hokZ hb1 hS hmb hlies hmk e2 e3 HM HR hZ1 htk hdk hdn hmx hRR
  by_cases hs0 : s = 0
  · subst hs0
    have hk1 : (L.map (Value.int .u64)).length = Nat.min m m := by rw [List.length_map, ← HMM.out]; exact (Nat.min_self m).symm
    have hk3 : k + (L.map (Value.int .u64)).length ≤ (Z.map (Value.int .u64)).length := by simp only [List.length_map]; rw [← HMM.out]; omega
    have hk2 : ∀ (j : Nat) (a : Int), L[j]? = some a → w1.cell? ⟨mx, ox + j, none⟩ = some (.int .u64 a) := fun j a hj => by
      have hjl := (List.getElem?_eq_some_iff.1 hj).1
      rw [HLI.out.1 j hjl, List.getD_eq_getElem?_getD, hj]
      rfl
    have HN1 := Aside0.mk hk1
    have HN2 := Aside0.mk hk2
    have HN3 := Aside0.mk hk3
    clear hk1 hk2 hk3
    go_wp2_with (with_reducible refine wpList_copy_kept rfl _ _ 81 81 rfl 108 Tryz.underlying81 ?k1 (some ⟨mb, k, none⟩) (some ⟨mx, ox, none⟩) m (Z.length - k) m c rfl rfl mb k (Z.map (Value.int .u64)) 108 ?k2 (L.map (Value.int .u64)) ?k3 ?k4 ?k5 ?k6 ?k7)
    case k1 => kernel_rfl
    case k2 => exact HZ.out
    case k3 => exact HN1.out
    case k4 => first | exact HN2.out | exact fun _ => HN2.out | fail
    case k5 => exact HN3.out
    case k6 => exact fun v hv => copy_one v hv
    case k7 =>
      intro w2 hw2 hk2
      have HW2 : Aside0 (hp w2 mb = some (.cells (u64s (Z.take k ++ (L ++ Z.drop (k + m)))) 108 (0, 0))) := ⟨by
        refine (show hp w2 mb = _ from hw2.out).trans ?_
        rw [laid_u64]
        unfold laid
        rw [← HMM.out]⟩
      have HW3 : Aside0 (hp (w2.setCell ⟨mb, n, none⟩ (.int .u64 0)) mb = some (.cells (u64s (Z.take k ++ (L ++ 0 :: RR))) 108 (0, 0))) := ⟨by
        rw [hp_here _ _ _ _ _ rfl, HW2.out]
        simp only [Option.map_some, setObj_cells, u64s_set]
        rw [set_mid _ _ _ n 0 (by have := HN.out; have := HLN.out; have := HMM.out; omega) (by have := HLN.out; omega), ← HRR.out]⟩
      have HK3 : Aside0 (Kept (On mb) w1 (w2.setCell ⟨mb, n, none⟩ (.int .u64 0))) := ⟨hk2.out.setCell (p := ⟨mb, n, none⟩) (.inl rfl) _⟩
      have HWL : Aside0 ((Z.take k ++ (L ++ 0 :: RR)).length = Z.length) := ⟨by
        have := HLN.out; have := HMM.out; have := HRL.out
        simp only [List.length_append, List.length_cons]
        omega⟩
      obtain ⟨y0, hcn, hfn⟩ : ∃ y0, w2.cell? ⟨mb, n, none⟩ = some (.int .u64 y0) ∧ w2.frozen? ⟨mb, n, none⟩ = false := ⟨_, (blk_cell HW2.out n).trans (u64s_get _ n (by have := HLN.out; have := HMM.out; have := HN.out; simp only [List.length_append] at *; omega)), blk_frozen HW2.out n⟩
      have lg2 := hp_lt HW2.out
      clear hw2 hk2
      go_wp2_with (with_reducible refine wpList_clear rfl _ 81 rfl 108 Tryz.underlying81 iw hiw hzw mb 0 k Z.length rfl (Z.take k ++ (L ++ 0 :: RR)) 108 ?c1 ?c2 ?c3)
      case c1 => exact HW3.out
      case c2 => rw [HWL.out]; omega
      case c3 =>
        intro w4 HC4 HK4
        have hC4 := HC4.out
        rw [laid_zero k _ _ HLN.out.1] at hC4
        have hfin := lsh_fin (P := fun i => S i ∨ w.heap.size ≤ i) (m := m) (n1 := n1) (cz := Z.length) hC4 HMM.out.symm (by have := HN.out; omega) HOK.out ⟨Int.le_refl 0, BW_pos⟩ HRO.out (lsh_value k m 0 _ _ (show ev BW (L ++ [0]) = ev BW L * 2 ^ 0 by rw [ev_snoc, Int.mul_zero, Int.add_zero, Int.pow_zero, Int.mul_one])) HPP.out (by have := HMM.out; have := HRL.out; unfold shRow; simp only [List.length_append, List.length_replicate, List.length_cons]; omega) hmax
        obtain ⟨f1, f2, f3, f4⟩ := hfin
        have HNO := Aside0.mk (norm_w (some ⟨mb, 0, none⟩) Z.length _ n1 w4 f1 f2 f3 (by omega))
        have HNR : Aside0 (NR w4 (fun i => S i ∨ w.heap.size ≤ i) (.slice (some ⟨mb, 0, none⟩) (strip ((shRow k L 0 RR).take n1)).length Z.length) (ev BW L * 2 ^ t)) := ⟨by rw [HT2.out]; exact f4⟩
        have HKS := Aside0.mk (HK1.out w4 (HK3.out.then HK4.out))
        clear hC4 f1 f2 f3 f4 HC4
        go_wp2_with (fail)
        refine HNO.out.mono ?_
        rintro e w5 ⟨rfl, rfl⟩
        go_wp2_with (fail)
        go_ret
        exact ⟨_, rfl, HNR.out, HKS.out⟩
  · have hs1 : 0 < s := by omega
    have hsI : ((s : Int) == 0) = false := by rw [beq_eq_false_iff_ne]; omega
    have hsh := lshVUL_c mb k (Z.length - k) mx ox c Z L s 108 w1 ⟨hs1, hs64⟩ HZ.out (by rw [← HMM.out]; omega) HLI.out (by rw [← HMM.out]; exact h0) (by rw [← HMM.out]; omega) HOK.out
    rw [← HMM.out] at hsh
    obtain ⟨ct, hct⟩ : ∃ ct, ct = L.getD (m - 1) 0 / 2 ^ (64 - s) := ⟨_, rfl⟩
    rw [← hct] at hsh
    have HCT := Aside0.mk hct
    have HSH := Aside0.mk hsh
    have hctb : 0 ≤ ct ∧ ct < BW := by
      have h1 := okd_get HOK.out BW_pos (m - 1)
      rw [hct]
      exact ⟨Int.ediv_nonneg h1.1 (Int.le_of_lt (tp _)), Int.lt_of_le_of_lt (Int.ediv_le_self _ h1.1) h1.2⟩
    have HCB := Aside0.mk hctb
    have HYE : Aside0 (ev BW (wn m (ev BW L * 2 ^ s) ++ [ct]) = ev BW L * 2 ^ s) := ⟨by
      have h1 := shl_top L s HOK.out (by rw [← HMM.out]; exact h0) hs64
      rw [← HMM.out, ← hct] at h1
      exact h1⟩
    clear hsh hct hctb hs0
    go_upto_region 16 with (go_at_call 95; refine (HSH.out).mono ?_; rintro e w2 ⟨rfl, h1, h2⟩; have H1 := Aside0.mk h1; have H2 := Aside0.mk h2; have hcn := (blk_cell h1 n).trans (u64s_get _ n (by rw [upd_len]; exact hnZl)); have hfn := blk_frozen h1 n; have lg2 := hp_lt h1; clear h1 h2)
    have HW2 : Aside0 (hp w2 mb = some (.cells (u64s (Z.take k ++ (wn m (ev BW L * 2 ^ s) ++ Z.drop (k + m)))) 108 (0, 0))) := ⟨by
      have h1 := H1.out
      have h2 := upd_all (Z.take k) ((Z.drop k).take m) (Z.drop (k + m)) (ev BW L * 2 ^ s)
      rw [HLN.out.1, HLN.out.2.1, ← HZ1.out] at h2
      rw [h2] at h1
      exact h1⟩
    have HW3 : Aside0 (hp (w2.setCell ⟨mb, n, none⟩ (.int .u64 ct)) mb = some (.cells (u64s (Z.take k ++ (wn m (ev BW L * 2 ^ s) ++ ct :: RR))) 108 (0, 0))) := ⟨by
      rw [hp_here _ _ _ _ _ rfl, HW2.out]
      simp only [Option.map_some, setObj_cells, u64s_set]
      rw [set_mid _ _ _ n ct (by rw [wn_len]; have := HN.out; have := HLN.out; omega) (by have := HLN.out; omega), ← HRR.out]⟩
    have HK3 : Aside0 (Kept (On mb) w1 (w2.setCell ⟨mb, n, none⟩ (.int .u64 ct))) := ⟨H2.out.setCell (p := ⟨mb, n, none⟩) (.inl rfl) _⟩
    have HWL : Aside0 ((Z.take k ++ (wn m (ev BW L * 2 ^ s) ++ ct :: RR)).length = Z.length) := ⟨by
      have := HLN.out; have := HRL.out
      simp only [List.length_append, List.length_cons, wn_len]
      omega⟩
    clear hcn hfn H1
    go_wp2_with (with_reducible refine wpList_clear rfl _ 81 rfl 108 Tryz.underlying81 iw hiw hzw mb 0 k Z.length rfl (Z.take k ++ (wn m (ev BW L * 2 ^ s) ++ ct :: RR)) 108 ?c1 ?c2 ?c3)
    case c1 => exact HW3.out
    case c2 => rw [HWL.out]; omega
    case c3 =>
      intro w4 HC4 HK4
      have hC4 := HC4.out
      rw [laid_zero k _ _ HLN.out.1] at hC4
      have hfin := lsh_fin (P := fun i => S i ∨ w.heap.size ≤ i) (m := m) (n1 := n1) (cz := Z.length) hC4 (wn_len m _) (by have := HN.out; omega) (wn_ok _ _) HCB.out HRO.out (lsh_value k m s _ _ HYE.out) HPP.out (by have := HRL.out; unfold shRow; simp only [List.length_append, List.length_replicate, List.length_cons, wn_len]; omega) hmax
      obtain ⟨f1, f2, f3, f4⟩ := hfin
      have HNO := Aside0.mk (norm_w (some ⟨mb, 0, none⟩) Z.length _ n1 w4 f1 f2 f3 (by omega))
      have HNR : Aside0 (NR w4 (fun i => S i ∨ w.heap.size ≤ i) (.slice (some ⟨mb, 0, none⟩) (strip ((shRow k (wn m (ev BW L * 2 ^ s)) ct RR).take n1)).length Z.length) (ev BW L * 2 ^ t)) := ⟨by rw [HT2.out]; exact f4⟩
      have HKS := Aside0.mk (HK1.out w4 (HK3.out.then HK4.out))
      clear hC4 f1 f2 f3 f4 HC4
      go_wp2_with (fail)
      refine HNO.out.mono ?_
      rintro e w5 ⟨rfl, rfl⟩
      go_wp2_with (fail)
      go_ret
      exact ⟨_, rfl, HNR.out, HKS.out⟩
end Go.Proofs.YtfnknldbjckgoaaGreatDoor.Sp
end
