/-
  MERGED BY PROGRAM (regroup.py): Flo, Frexp, Log2, ConvW, Utoa, NatSh.
-/
import Derived.Test.YtnbnfjpecgbnpaaGreatDoorBase
import Derived.Laws.FloatArith
import Derived.Laws.BitsAll
import Derived.Test.YtnbnfjpecgbnpaaGreatDoorGnat
import Derived.Laws.Externs
import Derived.WalkKit
import Derived.WalkLawsBesides
import Derived.Deep.LoopGhost
import Derived.Test.YtnbnfjpecgbnpaaGreatDoorGdiv
import Derived.Test.YtnbnfjpecgbnpaaGreatDoorBuf
import Derived.Test.YtnbnfjpecgbnpaaGreatDoorGdec
import Derived.Defers
import Derived.Deep.DeepCutAuto
import Derived.Deep.CutBlock
import Derived.Test.YtnbnfjpecgbnpaaGreatDoorGflt
/-! ## Flo -/
section
namespace Go.Proofs.YtnbnfjpecgbnpaaGreatDoor.Flo
open Go
set_option linter.unusedVariables false
set_option linter.unusedSimpArgs false
set_option exponentiation.threshold 3000
theorem sw : Ieee.double.signWeight = 9223372036854775808 := by decide
theorem bn : Ieee.double.binade = 4503599627370496 := by decide
theorem ir : Ieee.double.infRung = 9218868437227405312 := by decide
theorem lp : Ieee.double.leastPlace = -1074 := by decide
theorem fb : Ieee.double.fractionBits = 52 := rfl
/-- The sign. -/
def sg (N : Nat) : Bool := N / 9223372036854775808 % 2 == 1
theorem read_lo (N : Nat) (h : N % 9223372036854775808 < 4503599627370496) : Ieee.double.read N = .number (sg N) (N % 9223372036854775808) (-1074) := by
  unfold Ieee.Format.read
  simp only [sw, bn, ir, lp]
  rw [if_pos h]
  rfl
theorem read_mid (N : Nat) (h : 4503599627370496 ≤ N % 9223372036854775808) (h2 : N % 9223372036854775808 < 9218868437227405312) : Ieee.double.read N = .number (sg N) (4503599627370496 + N % 9223372036854775808 % 4503599627370496) (-1074 + (N % 9223372036854775808 / 4503599627370496 - 1 : Nat)) := by
  unfold Ieee.Format.read
  simp only [sw, bn, ir, lp]
  rw [if_neg (by omega), if_pos h2]
  rfl
theorem read_inf (N : Nat) (h : N % 9223372036854775808 = 9218868437227405312) : Ieee.double.read N = .infinity (sg N) := by
  unfold Ieee.Format.read
  simp only [sw, bn, ir, lp]
  rw [if_neg (by omega), if_neg (by omega), if_pos h]
  rfl
theorem read_nan (N : Nat) (h : 9218868437227405312 < N % 9223372036854775808) : ∃ t, Ieee.double.read N = .nan (sg N) t := by
  unfold Ieee.Format.read
  simp only [sw, bn, ir, lp]
  rw [if_neg (by omega), if_neg (by omega), if_neg (by omega)]
  exact ⟨_, rfl⟩
theorem cmp_self (x : Int) : compare x x = .eq := by simp
theorem cmpN_self (x : Nat) : compare x x = .eq := by simp
theorem order_self (N : Nat) (h : N % 9223372036854775808 ≤ 9218868437227405312) : FloatKind.f64.format.order N N = some .eq := by
  show Ieee.double.order N N = some .eq
  unfold Ieee.Format.order
  rcases Nat.lt_or_ge (N % 9223372036854775808) 4503599627370496 with h1 | h1
  · rw [read_lo N h1]; simp only [Ieee.Datum.order, cmp_self]
  · rcases Nat.lt_or_ge (N % 9223372036854775808) 9218868437227405312 with h2 | h2
    · rw [read_mid N h1 h2]; simp only [Ieee.Datum.order, cmp_self]
    · rw [read_inf N (by omega)]; simp only [Ieee.Datum.order, cmpN_self]
theorem signed0 (s : Bool) (k : Nat) : Ieee.signed s 0 k = 0 := by cases s <;> simp [Ieee.signed]
theorem signed_pos (m k : Nat) : Ieee.signed false m k = ((m * 2 ^ k : Nat) : Int) := by simp [Ieee.signed, Nat.shiftLeft_eq]
theorem signed_neg (m k : Nat) : Ieee.signed true m k = -((m * 2 ^ k : Nat) : Int) := by simp [Ieee.signed, Nat.shiftLeft_eq]
theorem signed_ne (s : Bool) (m k : Nat) (h : 0 < m) : Ieee.signed s m k ≠ 0 := by
  have h2 : 0 < m * 2 ^ k := Nat.mul_pos h (Nat.two_pow_pos k)
  cases s
  · rw [signed_pos]; omega
  · rw [signed_neg]; omega
theorem cmp_ne (x : Int) (h : x ≠ 0) : compare x 0 ≠ .eq := fun e => h (by simpa using e)
theorem order_nonzero (N : Nat) (h : 0 < N % 9223372036854775808) : FloatKind.f64.format.order N 0 ≠ some .eq := by
  show Ieee.double.order N 0 ≠ some .eq
  unfold Ieee.Format.order
  rw [read_lo 0 (by omega)]
  rcases Nat.lt_or_ge (N % 9223372036854775808) 4503599627370496 with h1 | h1
  · rw [read_lo N h1]
    simp only [Ieee.Datum.order, Nat.zero_mod, signed0]
    intro e
    exact cmp_ne _ (signed_ne _ _ _ h) (Option.some.inj e)
  · rcases Nat.lt_or_ge (N % 9223372036854775808) 9218868437227405312 with h2 | h2
    · rw [read_mid N h1 h2]
      simp only [Ieee.Datum.order, Nat.zero_mod, signed0]
      intro e
      exact cmp_ne _ (signed_ne _ _ _ (by omega)) (Option.some.inj e)
    · rcases Nat.eq_or_lt_of_le h2 with h3 | h3
      · rw [read_inf N h3.symm]
        simp only [Ieee.Datum.order]
        cases sg N <;> simp
      · obtain ⟨t, ht⟩ := read_nan N h3
        rw [ht]
        simp [Ieee.Datum.order]
theorem cmp_lt {x y : Int} (h : x < y) : compare x y = .lt := by rw [Int.compare_eq_lt]; exact h
theorem cmp_not_gt {x y : Int} (h : x ≤ y) : compare x y ≠ .gt := by rw [Ne, Int.compare_eq_gt]; omega
theorem cmp_not_lt {x y : Int} (h : y ≤ x) : compare x y ≠ .lt := by rw [Ne, Int.compare_eq_lt]; omega
theorem sg_lt (r : Nat) (h : r < 9223372036854775808) : sg r = false := by
  unfold sg
  rw [Nat.div_eq_of_lt h]
  rfl
/-- 'f > MaxFloat64', f not negative. -/
theorem gt_max (r : Nat) (h : r < 9218868437227405312) : (FloatKind.f64.format.order r 9218868437227405311 == some .gt) = false := by
  rw [beq_eq_false_iff_ne]
  show Ieee.double.order r 9218868437227405311 ≠ some .gt
  unfold Ieee.Format.order
  rw [read_mid 9218868437227405311 (by omega) (by omega), sg_lt _ (by omega)]
  rcases Nat.lt_or_ge r 4503599627370496 with h1 | h1
  · rw [read_lo r (by omega), sg_lt _ (by omega)]
    simp only [Ieee.Datum.order]
    intro e
    refine cmp_not_gt ?_ (Option.some.inj e)
    rw [signed_pos, signed_pos]
    have hb : min (-1074 : Int) (-1074 + ((9218868437227405311 % 9223372036854775808 / 4503599627370496 - 1 : Nat) : Int)) = -1074 := by omega
    rw [hb]
    have hz : ((-1074 : Int) - -1074).toNat = 0 := by omega
    rw [hz, Nat.pow_zero, Nat.mul_one]
    have : 0 < 2 ^ ((-1074 + ((9218868437227405311 % 9223372036854775808 / 4503599627370496 - 1 : Nat) : Int)) - -1074).toNat := Nat.two_pow_pos _
    generalize 2 ^ ((-1074 + ((9218868437227405311 % 9223372036854775808 / 4503599627370496 - 1 : Nat) : Int)) - -1074).toNat = q at this
    have h4 : (4503599627370496 + 9218868437227405311 % 9223372036854775808 % 4503599627370496) * 1 ≤ (4503599627370496 + 9218868437227405311 % 9223372036854775808 % 4503599627370496) * q := Nat.mul_le_mul_left _ this
    omega
  · rw [read_mid r (by omega) (by omega), sg_lt _ (by omega)]
    simp only [Ieee.Datum.order]
    intro e
    refine cmp_not_gt ?_ (Option.some.inj e)
    have e1 : r % 9223372036854775808 = r := Nat.mod_eq_of_lt (by omega)
    rw [signed_pos, signed_pos, e1]
    have h3 : r / 4503599627370496 - 1 ≤ 2045 := by omega
    generalize r / 4503599627370496 - 1 = k at h3 ⊢
    have hb : min (-1074 + (k : Int)) (-1074 + ((9218868437227405311 % 9223372036854775808 / 4503599627370496 - 1 : Nat) : Int)) = -1074 + (k : Int) := by omega
    rw [hb]
    have hz : ((-1074 + (k : Int)) - (-1074 + (k : Int))).toNat = 0 := by omega
    rw [hz, Nat.pow_zero, Nat.mul_one]
    have : 0 < 2 ^ ((-1074 + ((9218868437227405311 % 9223372036854775808 / 4503599627370496 - 1 : Nat) : Int)) - (-1074 + (k : Int))).toNat := Nat.two_pow_pos _
    generalize 2 ^ ((-1074 + ((9218868437227405311 % 9223372036854775808 / 4503599627370496 - 1 : Nat) : Int)) - (-1074 + (k : Int))).toNat = q at this
    have h4 : (4503599627370496 + 9218868437227405311 % 9223372036854775808 % 4503599627370496) * 1 ≤ (4503599627370496 + 9218868437227405311 % 9223372036854775808 % 4503599627370496) * q := Nat.mul_le_mul_left _ this
    omega
/-- '< 2^-1022'. -/
theorem lt_small (r : Nat) (h : r < 4503599627370496) : (FloatKind.f64.format.order r 4503599627370496 == some .lt) = true := by
  show (Ieee.double.order r 4503599627370496 == some .lt) = true
  unfold Ieee.Format.order
  rw [read_lo r (by omega), read_mid 4503599627370496 (by omega) (by omega), sg_lt _ (by omega), sg_lt _ (by omega)]
  simp only [Ieee.Datum.order]
  rw [signed_pos, signed_pos, cmp_lt (by simp; omega)]
  rfl
theorem not_lt_small (r : Nat) (h : 4503599627370496 ≤ r) (h2 : r < 9218868437227405312) : (FloatKind.f64.format.order r 4503599627370496 == some .lt) = false := by
  rw [beq_eq_false_iff_ne]
  show Ieee.double.order r 4503599627370496 ≠ some .lt
  unfold Ieee.Format.order
  rw [read_mid r (by omega) (by omega), read_mid 4503599627370496 (by omega) (by omega), sg_lt _ (by omega), sg_lt _ (by omega)]
  simp only [Ieee.Datum.order]
  intro e
  refine cmp_not_lt ?_ (Option.some.inj e)
  rw [signed_pos, signed_pos]
  generalize r % 9223372036854775808 / 4503599627370496 - 1 = k
  have hb : min (-1074 + (k : Int)) (-1074 + ((4503599627370496 % 9223372036854775808 / 4503599627370496 - 1 : Nat) : Int)) = -1074 := by omega
  rw [hb]
  have hz : ((-1074 + ((4503599627370496 % 9223372036854775808 / 4503599627370496 - 1 : Nat) : Int)) - -1074).toNat = 0 := by omega
  rw [hz, Nat.pow_zero, Nat.mul_one]
  have : 0 < 2 ^ ((-1074 + (k : Int)) - -1074).toNat := Nat.two_pow_pos _
  generalize 2 ^ ((-1074 + (k : Int)) - -1074).toNat = q at this
  have h4 : (4503599627370496 + r % 9223372036854775808 % 4503599627370496) * 1 ≤ (4503599627370496 + r % 9223372036854775808 % 4503599627370496) * q := Nat.mul_le_mul_left _ this
  omega
theorem log2_mul_pow (r k : Nat) (h : 0 < r) : (r * 2 ^ k).log2 = r.log2 + k := by
  have h0 : r * 2 ^ k ≠ 0 := Nat.ne_of_gt (Nat.mul_pos h (Nat.two_pow_pos k))
  rw [Nat.log2_eq_iff h0, Nat.pow_add, Nat.pow_succ, Nat.pow_add, Nat.mul_right_comm]
  have h1 := Nat.log2_self_le (n := r) (by omega)
  have h2 := Nat.lt_log2_self (n := r)
  rw [Nat.pow_succ] at h2
  exact ⟨Nat.mul_le_mul_right _ h1, Nat.mul_lt_mul_of_pos_right h2 (Nat.two_pow_pos k)⟩
/-- What 'x * 2^52' is, of a subnormal x: r has L + 1 binary digits. -/
def sub52 (r : Nat) : Nat := r.log2 * 4503599627370496 + r * 2 ^ (52 - r.log2)
theorem log2_sub (r : Nat) (h0 : 0 < r) (h : r < 4503599627370496) : r.log2 ≤ 51 := by
  have := (Nat.log2_lt (n := r) (k := 52) (by omega)).2 (by omega)
  omega
theorem sub_bounds (r : Nat) (h0 : 0 < r) (h : r < 4503599627370496) : 4503599627370496 ≤ r * 2 ^ (52 - r.log2) ∧ r * 2 ^ (52 - r.log2) < 9007199254740992 := by
  have hl := log2_sub r h0 h
  have h1 := Nat.log2_self_le (n := r) (by omega)
  have h2 := Nat.lt_log2_self (n := r)
  have e1 : 2 ^ r.log2 * 2 ^ (52 - r.log2) = 4503599627370496 := by rw [← Nat.pow_add, show r.log2 + (52 - r.log2) = 52 by omega]
  have e2 : 2 ^ (r.log2 + 1) * 2 ^ (52 - r.log2) = 9007199254740992 := by rw [← Nat.pow_add, show r.log2 + 1 + (52 - r.log2) = 53 by omega]
  rw [← e1, ← e2]
  exact ⟨Nat.mul_le_mul_right _ h1, Nat.mul_lt_mul_of_pos_right h2 (Nat.two_pow_pos _)⟩
theorem cut_exact (s : Bool) (q L : Nat) (hL : L ≤ (q * 2 ^ L).log2 + 2) : Ieee.Toward.even.cut s (q * 2 ^ L) L = q := by
  unfold Ieee.Toward.cut
  rw [Nat.min_eq_left hL, Nat.shiftLeft_eq, Nat.one_mul]
  have hp := Nat.two_pow_pos L
  simp only [Nat.mul_div_cancel _ hp, Nat.mul_mod_left, Nat.mul_zero]
  have h1 : (decide (2 ^ L < 0)) = false := by simp
  have h2 : (2 ^ L == 0) = false := by rw [beq_eq_false_iff_ne]; omega
  simp [h1, h2]
theorem cut_exact' (s : Bool) (r : Nat) (h0 : 0 < r) (hl : r.log2 ≤ 51) (e1 : r * 2 ^ 52 = r * 2 ^ (52 - r.log2) * 2 ^ r.log2) : Ieee.Toward.even.cut s (r * 2 ^ 52) r.log2 = r * 2 ^ (52 - r.log2) := by
  rw [e1]
  refine cut_exact s _ _ ?_
  rw [← e1, log2_mul_pow r 52 h0]
  omega
theorem mul_sub (N : Nat) (h0 : 0 < N % 9223372036854775808) (h : N % 9223372036854775808 < 4503599627370496) : floatBits .mul .f64 N 4841369599423283200 = some ((if sg N then 9223372036854775808 else 0) + sub52 (N % 9223372036854775808)) := by
  show Ieee.double.mul N 4841369599423283200 = _
  unfold Ieee.Format.mul
  rw [read_lo N h, read_mid 4841369599423283200 (by omega) (by omega), sg_lt 4841369599423283200 (by omega)]
  generalize N % 9223372036854775808 = r at h0 h
  have hl := log2_sub r h0 h
  have hub := sub_bounds r h0 h
  simp only [Ieee.Datum.product, Option.map_some, Ieee.Format.write, Bool.xor_false]
  rw [show (4503599627370496 + 4841369599423283200 % 9223372036854775808 % 4503599627370496) = 2 ^ 52 from rfl, show ((-1074 : Int) + (-1074 + ((4841369599423283200 % 9223372036854775808 / 4503599627370496 - 1 : Nat) : Int))) = -1074 from rfl]
  unfold Ieee.Format.nearest
  rw [if_neg (Nat.ne_of_gt (Nat.mul_pos h0 (Nat.two_pow_pos 52))), log2_mul_pow r 52 h0]
  simp only [fb, lp, bn, ir]
  rw [show max ((-1074 : Int) + ((r.log2 + 52 : Nat) : Int) - ((52 : Nat) : Int)) (-1074) = -1074 + (r.log2 : Int) by omega]
  rw [show ((-1074 : Int) - (-1074 + (r.log2 : Int))).toNat = 0 by omega, show ((-1074 : Int) + (r.log2 : Int) - -1074).toNat = r.log2 by omega, Nat.shiftLeft_zero]
  have e1 : r * 2 ^ 52 = r * 2 ^ (52 - r.log2) * 2 ^ r.log2 := by rw [Nat.mul_assoc, ← Nat.pow_add, show 52 - r.log2 + r.log2 = 52 by omega]
  rw [cut_exact' (sg N) r h0 hl e1]
  rw [Nat.min_eq_left (by omega)]
  unfold Ieee.Format.word sub52
  rw [sw]
  cases sg N <;> simp
theorem and_sign (N : Nat) (h : N < 18446744073709551616) : Go.bits .andNot .u64 (N : Int) 9223372036854775808 = ((N % 9223372036854775808 : Nat) : Int) := by
  rw [show (9223372036854775808 : Int) = ((9223372036854775808 : Nat) : Int) from rfl, u64_andNot_nat N 9223372036854775808 h (by omega)]
  exact congrArg _ (nat_mask63 N)
theorem and_exp (N : Nat) (h : N < 18446744073709551616) : Go.bits .and .u64 (N : Int) 2047 = ((N % 2048 : Nat) : Int) := by
  rw [show (2047 : Int) = ((2047 : Nat) : Int) from rfl, u64_and_nat N 2047 h (by omega), nat_mask11]
theorem clear_exp (N : Nat) (h : N < 18446744073709551616) : Go.bits .andNot .u64 (N : Int) 9218868437227405312 = ((N / 9223372036854775808 * 9223372036854775808 + N % 4503599627370496 : Nat) : Int) := by
  rw [show (9218868437227405312 : Int) = ((9218868437227405312 : Nat) : Int) from rfl, u64_andNot_nat N 9218868437227405312 h (by omega)]
  refine congrArg _ ?_
  rw [show 18446744073709551615 - 9218868437227405312 = 2 ^ 63 ||| 4503599627370495 from rfl, Nat.and_or_distrib_left, nat_bit, nat_mask52, nat_join 52 _ _ (by omega) (by omega)]
  omega
theorem or_exp (s lo : Nat) (hs : s < 2) (hlo : lo < 4503599627370496) : Go.bits .or .u64 ((s * 9223372036854775808 + lo : Nat) : Int) 4602678819172646912 = ((s * 9223372036854775808 + 4602678819172646912 + lo : Nat) : Int) := by
  rw [show (4602678819172646912 : Int) = ((4602678819172646912 : Nat) : Int) from rfl, u64_or_nat _ 4602678819172646912 (by omega) (by omega)]
  refine congrArg _ ?_
  rw [← nat_join 63 (s * 9223372036854775808) lo (by omega) (by omega), Nat.or_assoc, Nat.or_comm lo, nat_join 52 4602678819172646912 lo (by omega) (by omega), nat_join 63 _ _ (by omega) (by omega)]
  omega
end Go.Proofs.YtnbnfjpecgbnpaaGreatDoor.Flo
end

/-! ## Frexp -/
section
namespace Go.Proofs.YtnbnfjpecgbnpaaGreatDoor.Sp
open Go.RowKit Go.Proofs.YtnbnfjpecgbnpaaGreatDoorW.PrintWords Go.Proofs.YtnbnfjpecgbnpaaGreatDoorW.PrintLast Go.Proofs.YtnbnfjpecgbnpaaGreatDoorW.PrintMore Go.Proofs.YtnbnfjpecgbnpaaGreatDoor.Dig Go.Proofs.YtnbnfjpecgbnpaaGreatDoor.Flo
set_option linter.unusedVariables false
set_option linter.unusedSimpArgs false
theorem f64bits (N : Nat) (w : World) : (callFunc 192 #[.float .f64 N]).run Tryz.prog w = .ok (.value (.int .u64 N)) w := by
  rw [run_callFunc_extern (e := Go.Extern.MathFloatBits.float64bits) Tryz.func192 (by kernel_rfl) (by kernel_rfl) (by kernel_rfl) (by kernel_rfl)]
  rfl
theorem f64from (N : Nat) (w : World) : (callFunc 193 #[.int .u64 N]).run Tryz.prog w = .ok (.value (.float .f64 N)) w := by
  rw [run_callFunc_extern (e := Go.Extern.MathFloatBits.float64frombits) Tryz.func193 (by kernel_rfl) (by kernel_rfl) (by kernel_rfl) (by kernel_rfl)]
  rfl
theorem isNaN_no (N : Nat) (w : World) (h : N % 9223372036854775808 ≤ 9218868437227405312) : Calls Tryz.prog 190 #[.float .f64 N] w fun e w' => e = .returned (.bool false) ∧ w = w' := by
  have h1 := order_self N h
  go_enter Tryz.func190, Tryz.ntmps190
  go_wp2_with (fail)
  go_ret
  exact ⟨by simp [h1], rfl⟩
set_option maxRecDepth 100000 in
theorem abs_c (N : Nat) (w : World) (h : N < 18446744073709551616) : Calls Tryz.prog 212 #[.float .f64 N] w fun e w' => e = .returned (.float .f64 (N % 9223372036854775808)) ∧ w = w' := by
  have h1 := f64bits N
  obtain ⟨r, hr⟩ : ∃ r, r = N % 9223372036854775808 := ⟨_, rfl⟩
  have h2 := f64from r
  have h3 := and_sign N h
  rw [← hr] at h3 ⊢
  clear hr
  go_enter Tryz.func212, Tryz.ntmps212
  go_wp2_with (fail)
  go_ret
  exact ⟨rfl, rfl⟩
theorem isInf_no (N : Nat) (w : World) (h : N < 18446744073709551616) (h2 : N % 9223372036854775808 < 9218868437227405312) : Calls Tryz.prog 189 #[.float .f64 N, .int .i64 0] w fun e w' => e = .returned (.bool false) ∧ w = w' := by
  have h1 := abs_c N w h
  obtain ⟨r, hr⟩ : ∃ r, r = N % 9223372036854775808 := ⟨_, rfl⟩
  rw [← hr] at h1 h2
  have h3 := gt_max r h2
  clear hr
  go_enter Tryz.func189, Tryz.ntmps189
  go_wp2_with (fail)
  refine h1.mono ?_
  rintro e w' ⟨rfl, rfl⟩
  go_wp2_with (fail)
  go_ret
  exact ⟨by simp [h3], rfl⟩
/-- What 'normalize' gives. -/
def nz (N : Nat) : Nat := if N % 9223372036854775808 < 4503599627370496 then N / 9223372036854775808 * 9223372036854775808 + sub52 (N % 9223372036854775808) else N
def nze (N : Nat) : Int := if N % 9223372036854775808 < 4503599627370496 then -52 else 0
set_option maxRecDepth 100000 in
theorem norm64_c (N : Nat) (w : World) (h : N < 18446744073709551616) (h0 : 0 < N % 9223372036854775808) (h2 : N % 9223372036854775808 < 9218868437227405312) : Calls Tryz.prog 191 #[.float .f64 N] w fun e w' => e = .returned (.tuple #[.float .f64 (nz N), .int .i64 (nze N)]) ∧ w = w' := by
  have h1 := abs_c N w h
  unfold nz nze
  by_cases hs : N % 9223372036854775808 < 4503599627370496
  · rw [if_pos hs, if_pos hs]
    have h3 := mul_sub N h0 hs
    have h4 := lt_small _ hs
    have e1 : (if sg N then 9223372036854775808 else 0) + sub52 (N % 9223372036854775808) = N / 9223372036854775808 * 9223372036854775808 + sub52 (N % 9223372036854775808) := by
      unfold sg
      have : N / 9223372036854775808 < 2 := by omega
      rcases (by omega : N / 9223372036854775808 = 0 ∨ N / 9223372036854775808 = 1) with e | e <;> rw [e] <;> simp
    rw [e1] at h3
    have h5 := fun (W : World) => run_float_arith (P := Tryz.prog) W .mul 137 .f64 N 4841369599423283200 _ h3
    obtain ⟨F, hF⟩ : ∃ F, F = N / 9223372036854775808 * 9223372036854775808 + sub52 (N % 9223372036854775808) := ⟨_, rfl⟩
    obtain ⟨r, hr⟩ : ∃ r, r = N % 9223372036854775808 := ⟨_, rfl⟩
    rw [← hF] at h5 ⊢
    rw [← hr] at h1 h4
    clear h3 e1 hF hr hs h0 h2
    go_enter Tryz.func191, Tryz.ntmps191
    go_wp2_with (fail)
    refine h1.mono ?_
    rintro e w' ⟨rfl, rfl⟩
    go_wp2_with (fail)
    go_ret2
    exact ⟨rfl, rfl⟩
  · rw [if_neg hs, if_neg hs]
    have h4 := not_lt_small _ (by omega) h2
    obtain ⟨r, hr⟩ : ∃ r, r = N % 9223372036854775808 := ⟨_, rfl⟩
    rw [← hr] at h1 h4
    clear hr hs h0 h2
    go_enter Tryz.func191, Tryz.ntmps191
    go_wp2_with (fail)
    refine h1.mono ?_
    rintro e w' ⟨rfl, rfl⟩
    go_wp2_with (fail)
    go_ret2
    exact ⟨rfl, rfl⟩
/-- What 'Frexp' gives: the fraction's bits, the exponent. -/
def frf (N : Nat) : Nat := nz N / 9223372036854775808 * 9223372036854775808 + 4602678819172646912 + nz N % 4503599627370496
def fre (N : Nat) : Int := nze N + ((nz N / 4503599627370496 % 2048 : Nat) - 1023 + 1)
theorem nz_lt (N : Nat) (h : N < 18446744073709551616) (h0 : 0 < N % 9223372036854775808) : nz N < 18446744073709551616 := by
  unfold nz
  split
  · rename_i hs
    have h1 := sub_bounds _ h0 hs
    have h2 := log2_sub _ h0 hs
    unfold sub52
    omega
  · exact h
set_option maxRecDepth 100000 in
theorem frexp_c (N : Nat) (w : World) (h : N < 18446744073709551616) (h0 : 0 < N % 9223372036854775808) (h2 : N % 9223372036854775808 < 9218868437227405312) : Calls Tryz.prog 166 #[.float .f64 N] w fun e w' => e = .returned (.tuple #[.float .f64 (frf N), .int .i64 (fre N)]) ∧ w = w' := by
  have hz : (FloatKind.f64.format.order N 0 == some .eq) = false := by rw [beq_eq_false_iff_ne]; exact order_nonzero N h0
  have hlt := nz_lt N h h0
  have hnz : nze N = -52 ∨ nze N = 0 := by unfold nze; split <;> simp
  have HN := Aside0.mk (isInf_no N w h h2)
  have HA := Aside0.mk (isNaN_no N w (by omega))
  have HM := Aside0.mk (norm64_c N w h h0 h2)
  unfold frf fre
  obtain ⟨M, hM⟩ : ∃ M, M = nz N := ⟨_, rfl⟩
  obtain ⟨E, hE⟩ : ∃ E, E = nze N := ⟨_, rfl⟩
  rw [← hM, ← hE] at HM
  rw [← hM] at hlt
  rw [← hE] at hnz
  rw [← hM, ← hE]
  have hb := f64bits M
  obtain ⟨F, hF⟩ : ∃ F, F = M / 9223372036854775808 * 9223372036854775808 + 4602678819172646912 + M % 4503599627370496 := ⟨_, rfl⟩
  have hf := f64from F
  obtain ⟨x, hx⟩ : ∃ x, x = M / 4503599627370496 % 2048 := ⟨_, rfl⟩
  have hx1 : x < 2048 := by omega
  have hae : Go.bits .and .u64 ((M : Int) / 4503599627370496) 2047 = (x : Int) := by
    rw [hx]
    exact (congrArg (fun z => Go.bits .and .u64 z 2047) (by omega)).trans (and_exp (M / 4503599627370496) (by omega))
  have hce := clear_exp M hlt
  have hoe : Go.bits .or .u64 ((M : Int) / 9223372036854775808 * 9223372036854775808 + (M : Int) % 4503599627370496) 4602678819172646912 = (F : Int) := by
    rw [hF]
    exact (congrArg (fun z => Go.bits .or .u64 z 4602678819172646912) (by omega)).trans (or_exp (M / 9223372036854775808) (M % 4503599627370496) (by omega) (by omega))
  have hbx : IntKind.u64.wrap (x : Int) = x := wrap_u64 (by omega) (by omega)
  rw [← hF, ← hx]
  clear hM hE hF hx
  go_enter Tryz.func166, Tryz.ntmps166
  go_wp2_with (first | (go_at_call 189; refine (HN.out).mono ?_; rintro e w' ⟨rfl, rfl⟩) | (go_at_call 190; refine (HA.out).mono ?_; rintro e w' ⟨rfl, rfl⟩) | (go_at_call 191; refine (HM.out).mono ?_; rintro e w' ⟨rfl, rfl⟩))
  go_ret2
  exact ⟨rfl, rfl⟩
theorem frexp2_c (N : Nat) (w : World) (h : N < 18446744073709551616) (h0 : 0 < N % 9223372036854775808) (h2 : N % 9223372036854775808 < 9218868437227405312) : Calls Tryz.prog 150 #[.float .f64 N] w fun e w' => e = .returned (.tuple #[.float .f64 (frf N), .int .i64 (fre N)]) ∧ w = w' := by
  have HF := Aside0.mk (frexp_c N w h h0 h2)
  go_enter Tryz.func150, Tryz.ntmps150
  go_wp2_with (fail)
  refine (HF.out).mono ?_
  rintro e w' ⟨rfl, rfl⟩
  go_wp2_with (fail)
  go_ret2
  exact ⟨rfl, rfl⟩
end Go.Proofs.YtnbnfjpecgbnpaaGreatDoor.Sp
end

/-! ## Log2 -/
section
namespace Go.Proofs.YtnbnfjpecgbnpaaGreatDoor.Sp
open Go.RowKit Go.Proofs.YtnbnfjpecgbnpaaGreatDoorW.PrintWords Go.Proofs.YtnbnfjpecgbnpaaGreatDoorW.PrintLast Go.Proofs.YtnbnfjpecgbnpaaGreatDoorW.PrintMore Go.Proofs.YtnbnfjpecgbnpaaGreatDoor.Dig Go.Proofs.YtnbnfjpecgbnpaaGreatDoor.Flo
set_option linter.unusedVariables false
set_option linter.unusedSimpArgs false
theorem fr16 : frf 4625196817309499392 = 4602678819172646912 ∧ fre 4625196817309499392 = 5 := by decide +kernel
theorem of4 : floatOfInt .f64 4 = 4616189618054758400 := by decide +kernel
/-- How many figures there is room for, of B bits. -/
def roomB (L b B : Nat) : Bool :=
  match floatBits .quo .f64 (floatOfInt .f64 (B : Int)) L with
  | some r => match floatToIntVal .f64 r .i64 with
    | some n => decide (0 ≤ n ∧ n ≤ 1000 ∧ 2 ^ B ≤ b ^ (n.toNat + 1))
    | none => false
  | none => false
theorem room16 : (List.range 513).all (roomB 4616189618054758400 16) = true := by decide +kernel
theorem roomB_of {L b B : Nat} (h : (List.range 513).all (roomB L b) = true) (hB : B ≤ 512) : ∃ r n, floatBits .quo .f64 (floatOfInt .f64 (B : Int)) L = some r ∧ floatToIntVal .f64 r .i64 = some ((n : Nat) : Int) ∧ n ≤ 1000 ∧ 2 ^ B ≤ b ^ (n + 1) := by
  have h1 := List.all_eq_true.1 h B (List.mem_range.2 (by omega))
  unfold roomB at h1
  split at h1
  · rename_i r hr
    split at h1
    · rename_i n hn
      have h2 := of_decide_eq_true h1
      obtain ⟨m, rfl⟩ := Int.eq_ofNat_of_zero_le h2.1
      exact ⟨r, m, hr, hn, by omega, by simpa using h2.2.2⟩
    · cases h1
  · cases h1
set_option maxRecDepth 100000 in
theorem log2_16' (w : World) : Calls Tryz.prog 132 #[.float .f64 4625196817309499392] w fun e w' => e = .returned (.float .f64 4616189618054758400) ∧ w = w' := by
  have h1 := frexp2_c 4625196817309499392 w (by decide) (by decide) (by decide)
  rw [fr16.1, fr16.2] at h1
  have h4 := of4
  have h5 : (FloatKind.f64.format.order 4602678819172646912 4602678819172646912 == some Ordering.eq) = true := by decide +kernel
  go_enter Tryz.func132, Tryz.ntmps132
  go_wp2_with (go_at_call 150; refine h1.mono ?_; rintro e w1 ⟨rfl, rfl⟩)
  go_ret
  exact ⟨rfl, rfl⟩
set_option maxRecDepth 100000 in
theorem log2_16 (w : World) : Calls Tryz.prog 115 #[.float .f64 4625196817309499392] w fun e w' => e = .returned (.float .f64 4616189618054758400) ∧ w = w' := by
  go_enter Tryz.func115, Tryz.ntmps115
  go_wp2_with (go_at_call 132; refine (log2_16' _).mono ?_; rintro e w1 ⟨rfl, rfl⟩)
  go_ret
  exact ⟨rfl, rfl⟩
/-! ### maxPow -/
end Go.Proofs.YtnbnfjpecgbnpaaGreatDoor.Sp
end

/-! ## ConvW -/
section
namespace Go.Proofs.YtnbnfjpecgbnpaaGreatDoor.Sp
open Go.RowKit Go.Proofs.YtnbnfjpecgbnpaaGreatDoorW.PrintWords Go.Proofs.YtnbnfjpecgbnpaaGreatDoorW.PrintLast Go.Proofs.YtnbnfjpecgbnpaaGreatDoorW.PrintMore Go.Proofs.YtnbnfjpecgbnpaaGreatDoor.Dig
set_option linter.unusedVariables false
set_option linter.unusedSimpArgs false
theorem row_cellW {w : World} {g : Nat} {l : List Int} {R : List Value} {t : TypeId} (h : hp w g = some (.cells (nums .u8 l ++ R).toArray t (0, 0))) (j : Nat) (hj : j < l.length) : w.cell? ⟨g, j, none⟩ = some (.int .u8 (l.getD j 0)) := by
  rw [blk_cell h j]
  simp [nums, List.getElem?_append_left (show j < (l.map (Value.int .u8)).length by simpa using hj), List.getElem?_eq_getElem hj]
theorem lows_top (b k n : Nat) : lows b (k + 1) n = fig (n / b ^ k % b) :: lows b k n := by
  rw [Nat.add_comm, lows_split]
  rfl
/-- A row of bytes in block g. -/
def Br (w : World) (g : Nat) (l : List Int) : Prop := hp w g = some (.cells (nums .u8 l).toArray 5 (0, 0))
theorem Br.cell {w : World} {g : Nat} {l : List Int} (h : Br w g l) (j : Nat) (hj : j < l.length) : w.cell? ⟨g, j, none⟩ = some (.int .u8 (l.getD j 0)) := by
  have h2 : hp w g = some (.cells (nums .u8 l ++ []).toArray 5 (0, 0)) := by rw [List.append_nil]; exact h
  exact row_cellW h2 j hj
theorem Br.set {w : World} {g : Nat} {l : List Int} (h : Br w g l) (i : Nat) (x : Int) : Br (w.setCell ⟨g, i, none⟩ (.int .u8 x)) g (l.set i x) := by
  unfold Br at h ⊢
  rw [hp_here _ _ _ _ _ rfl, h]
  simp only [Option.map_some, setObj_cells]
  congr 2
  apply Array.toList_inj.1
  simp [nums, List.map_set]
theorem Br.kept {w w' : World} {g : Nat} {l : List Int} {S : Nat → Prop} (h : Br w g l) (hk : Kept S w w') (hS : ¬ S g) : Br w' g l := hp_kept h hk hS
/-- What is written so far: M figures of x at the end. -/
def Wr (w : World) (g N M x : Nat) : Prop := ∃ Y, Y.length = N - M ∧ Br w g (Y ++ lows 10 (N - (N - M)) x)
theorem Wr.kept {w w' : World} {g N M x : Nat} {S : Nat → Prop} (h : Wr w g N M x) (hk : Kept S w w') (hS : ¬ S g) : Wr w' g N M x := by
  obtain ⟨Y, h1, h2⟩ := h
  exact ⟨Y, h1, h2.kept hk hS⟩
theorem Wr.cell {w : World} {g N M x : Nat} (h : Wr w g N M x) (j : Nat) (hj : j < N) : ∃ y, w.cell? ⟨g, j, none⟩ = some (.int .u8 y) ∧ w.frozen? ⟨g, j, none⟩ = false ∧ g < w.heap.size := by
  obtain ⟨Y, h1, h2⟩ := h
  exact ⟨_, h2.cell j (by rw [List.length_append, lows_len]; omega), blk_frozen (show hp w g = _ from h2) j, hp_lt (show hp w g = _ from h2)⟩
/-- One figure more. -/
theorem Wr.next {w : World} {g N M x : Nat} (h : Wr w g N M x) (hM : M < N) (c : Int) (hc : c = fig (x / 10 ^ M % 10)) : Wr (w.setCell ⟨g, N - M - 1, none⟩ (.int .u8 c)) g N (M + 1) x := by
  obtain ⟨Y, h1, h2⟩ := h
  refine ⟨Y.take (N - M - 1), by rw [List.length_take]; omega, ?_⟩
  have h3 := h2.set (N - M - 1) c
  have e1 : N - (N - M) = M := by omega
  have e2 : N - (N - (M + 1)) = M + 1 := by omega
  rw [e1] at h3
  rw [e2, lows_top, ← hc]
  have e3 : (Y ++ lows 10 M x).set (N - M - 1) c = Y.take (N - M - 1) ++ c :: lows 10 M x := by
    rw [List.set_append_left _ _ (by omega)]
    have : Y.set (N - M - 1) c = Y.take (N - M - 1) ++ [c] := by
      rw [List.set_eq_take_append_cons_drop, if_pos (by omega), List.drop_eq_nil_of_le (by omega)]
    rw [this, List.append_assoc]
    rfl
  rw [← e3]
  exact h3
theorem Wr.all {w : World} {g N M x : Nat} (h : Wr w g N M x) (hM : N ≤ M) : Br w g (lows 10 N x) := by
  obtain ⟨Y, h1, h2⟩ := h
  have : Y = [] := List.eq_nil_of_length_eq_zero (by omega)
  subst this
  rw [show N - (N - M) = N by omega] at h2
  exact h2
theorem Wr.more {w : World} {g N M M' x : Nat} (h : Wr w g N M x) (hM : N ≤ M) (hM' : N ≤ M') : Wr w g N M' x := by
  obtain ⟨Y, h1, h2⟩ := h
  exact ⟨Y, by omega, by rw [show N - (N - M') = N - (N - M) by omega]; exact h2⟩
theorem NR.zero {w : World} {P : Nat → Prop} {z : Value} (h : NR w P z 0) : ∃ A c, z = .slice A 0 c := by
  rcases h with ⟨h, _⟩ | ⟨mb, L, R, h1, h2, h3, h4, h5, h6, h7⟩
  · exact ⟨_, _, h⟩
  · have := Cn_zero h4 BW_pos h5
    subst this
    exact ⟨_, _, h1⟩
end Go.Proofs.YtnbnfjpecgbnpaaGreatDoor.Sp
end

/-! ## Utoa -/
section
namespace Go.Proofs.YtnbnfjpecgbnpaaGreatDoor.Sp
open Go.RowKit Go.Proofs.YtnbnfjpecgbnpaaGreatDoorW.PrintWords Go.Proofs.YtnbnfjpecgbnpaaGreatDoorW.PrintLast Go.Proofs.YtnbnfjpecgbnpaaGreatDoorW.PrintMore Go.Proofs.YtnbnfjpecgbnpaaGreatDoor.Dig
set_option linter.unusedVariables false
set_option linter.unusedSimpArgs false
/-- The variable leafSize as laid. -/
def Leaf (w : World) : Prop := w.cell? ⟨1, 0, none⟩ = some (.int .i64 8) ∧ 1 < w.heap.size
theorem Leaf.below {w w' : World} (h : Leaf w) (hb : Below w.heap.size w w') : Leaf w' := ⟨(hb.cell (p := ⟨_, 0, none⟩) h.2).trans h.1, Nat.lt_of_lt_of_le h.2 hb.size⟩
theorem Leaf.kept {w w' : World} {S : Nat → Prop} (h : Leaf w) (hb : Kept S w w') (hS : ¬ S 1) : Leaf w' := ⟨hb.cell h.1 hS, Nat.lt_of_lt_of_le h.2 hb.size⟩
/-- A text of bytes in a block of the call's own. -/
def UP (w : World) (l : List Int) (e : Ending) (w' : World) : Prop :=
  ∃ g o Z c, e = .returned (.slice (some ⟨g, o, none⟩) l.length c) ∧ Br w' g Z ∧ Z.drop o = l ∧ o ≤ Z.length ∧ l.length ≤ c ∧ w.heap.size ≤ g ∧ Below w.heap.size w w'
/-- At most 512 bits. -/
def Fit (v : Nat) : Prop := v < 13407807929942597099574024998205846127479365820592393377723561443721764030073546976801874298166903427690031858186486050853753882811946569946433649006084096
theorem BW8 : BW ^ 8 = ((13407807929942597099574024998205846127479365820592393377723561443721764030073546976801874298166903427690031858186486050853753882811946569946433649006084096 : Nat) : Int) := (congrArg (· ^ 8) BW_def).trans (by kernel_rfl)
theorem Fit.bw {v : Nat} (h : Fit v) : (v : Int) < BW ^ 8 := by rw [BW8]; exact Int.ofNat_lt.2 h
theorem Fit.bits {v B : Nat} (h : Fit v) (hb : Bits (v : Int) B) : B ≤ 512 ∧ v < 2 ^ B := by
  refine ⟨hb.le (m := 64 * 8) (by rw [Int.pow_mul, show (2 : Int) ^ 64 = BW from BW_def.symm]; exact h.bw), ?_⟩
  have h2 := hb.2.1
  exact Int.ofNat_lt.1 (by rw [Int.natCast_pow]; exact h2)
end Go.Proofs.YtnbnfjpecgbnpaaGreatDoor.Sp
end

/-! ## NatSh -/
section
namespace Go.Proofs.YtnbnfjpecgbnpaaGreatDoor.Sp
open Go.RowKit Go.Proofs.YtnbnfjpecgbnpaaGreatDoorW.PrintWords Go.Proofs.YtnbnfjpecgbnpaaGreatDoorW.PrintLast Go.Proofs.YtnbnfjpecgbnpaaGreatDoorW.PrintMore Go.Proofs.YtnbnfjpecgbnpaaGreatDoor.Dig
set_option linter.unusedVariables false
set_option linter.unusedSimpArgs false
/-! ### clear -/
/-! ### lsh -/
end Go.Proofs.YtnbnfjpecgbnpaaGreatDoor.Sp
end
