/-
  CONTRACTS of the library's Float64bits, IsNaN, Signbit, Abs, IsInf, Frexp at a float64 by its bits.
-/
import Derived.Test.YtglikgjaobedbaaDoorFlo
import Derived.Test.YtglikgjaobedbaaDoorGnat
import Derived.Laws.Externs
import Derived.WalkKit
import Derived.WalkLawsBesides
namespace Go.Proofs.YtglikgjaobedbaaDoor.Sp
open Go.RowKit Go.Proofs.YtglikgjaobedbaaDoorW.PrintWords Go.Proofs.YtglikgjaobedbaaDoorW.PrintLast Go.Proofs.YtglikgjaobedbaaDoorW.PrintMore Go.Proofs.YtglikgjaobedbaaDoor.Dig Go.Proofs.YtglikgjaobedbaaDoor.Flo
set_option linter.unusedVariables false
set_option linter.unusedSimpArgs false
theorem f64bits (N : Nat) (w : World) : (callFunc 74 #[.float .f64 N]).run Tryd.prog w = .ok (.value (.int .u64 N)) w := by
  rw [run_callFunc_extern (e := Go.Extern.MathFloatBits.float64bits) Tryd.func74 (by kernel_rfl) (by kernel_rfl) (by kernel_rfl) (by kernel_rfl)]
  rfl
theorem f64from (N : Nat) (w : World) : (callFunc 39 #[.int .u64 N]).run Tryd.prog w = .ok (.value (.float .f64 N)) w := by
  rw [run_callFunc_extern (e := Go.Extern.MathFloatBits.float64frombits) Tryd.func39 (by kernel_rfl) (by kernel_rfl) (by kernel_rfl) (by kernel_rfl)]
  rfl
theorem isNaN_no (N : Nat) (w : World) (h : N % 9223372036854775808 ≤ 9218868437227405312) : Calls Tryd.prog 66 #[.float .f64 N] w fun e w' => e = .returned (.bool false) ∧ w = w' := by
  have h1 := order_self N h
  go_enter Tryd.func66, Tryd.ntmps66
  go_wp2_with (fail)
  go_ret
  exact ⟨by simp [h1], rfl⟩
theorem isNaN_yes (N : Nat) (w : World) (h : 9218868437227405312 < N % 9223372036854775808) : Calls Tryd.prog 66 #[.float .f64 N] w fun e w' => e = .returned (.bool true) ∧ w = w' := by
  have h1 := order_nan N N h
  go_enter Tryd.func66, Tryd.ntmps66
  go_wp2_with (fail)
  go_ret
  exact ⟨by simp [h1], rfl⟩
theorem sg_wrap (N : Nat) (h : N < 18446744073709551616) : decide (wrap64 (N : Int) < 0) = sg N := by
  unfold sg
  rcases Nat.lt_or_ge N 9223372036854775808 with h1 | h1
  · rw [w64 (by omega) (by omega), Nat.div_eq_of_lt h1]
    simp
  · have e1 : wrap64 (N : Int) = N - 18446744073709551616 := by unfold wrap64; omega
    rw [e1, show N / 9223372036854775808 = 1 by omega]
    simp
    omega
theorem signbit_c (N : Nat) (w : World) (h : N < 18446744073709551616) : Calls Tryd.prog 70 #[.float .f64 N] w fun e w' => e = .returned (.bool (sg N)) ∧ w = w' := by
  have h1 := f64bits N
  go_enter Tryd.func70, Tryd.ntmps70
  go_wp2_with (fail)
  go_ret
  exact ⟨congrArg _ (congrArg _ (sg_wrap N h)), rfl⟩
set_option maxRecDepth 100000 in
theorem abs_c (N : Nat) (w : World) (h : N < 18446744073709551616) : Calls Tryd.prog 94 #[.float .f64 N] w fun e w' => e = .returned (.float .f64 (N % 9223372036854775808)) ∧ w = w' := by
  have h1 := f64bits N
  obtain ⟨r, hr⟩ : ∃ r, r = N % 9223372036854775808 := ⟨_, rfl⟩
  have h2 := f64from r
  have h3 := and_sign N h
  rw [← hr] at h3 ⊢
  clear hr
  go_enter Tryd.func94, Tryd.ntmps94
  go_wp2_with (fail)
  go_ret
  exact ⟨rfl, rfl⟩
theorem isInf_no (N : Nat) (w : World) (h : N < 18446744073709551616) (h2 : N % 9223372036854775808 < 9218868437227405312) : Calls Tryd.prog 71 #[.float .f64 N, .int .i64 0] w fun e w' => e = .returned (.bool false) ∧ w = w' := by
  have h1 := abs_c N w h
  obtain ⟨r, hr⟩ : ∃ r, r = N % 9223372036854775808 := ⟨_, rfl⟩
  rw [← hr] at h1 h2
  have h3 := gt_max r h2
  clear hr
  go_enter Tryd.func71, Tryd.ntmps71
  go_wp2_with (fail)
  refine h1.mono ?_
  rintro e w' ⟨rfl, rfl⟩
  go_wp2_with (fail)
  go_ret
  exact ⟨by simp [h3], rfl⟩
theorem isInf_yes (N : Nat) (w : World) (h : N < 18446744073709551616) (h2 : N % 9223372036854775808 = 9218868437227405312) : Calls Tryd.prog 71 #[.float .f64 N, .int .i64 0] w fun e w' => e = .returned (.bool true) ∧ w = w' := by
  have h1 := abs_c N w h
  rw [h2] at h1
  have h3 := gt_max_inf
  go_enter Tryd.func71, Tryd.ntmps71
  go_wp2_with (fail)
  refine h1.mono ?_
  rintro e w' ⟨rfl, rfl⟩
  go_wp2_with (fail)
  go_ret
  exact ⟨by simp [h3], rfl⟩
/-- What 'normalize' gives. -/
def nz (N : Nat) : Nat := if N % 9223372036854775808 < 4503599627370496 then N / 9223372036854775808 * 9223372036854775808 + sub52 (N % 9223372036854775808) else N
def nze (N : Nat) : Int := if N % 9223372036854775808 < 4503599627370496 then -52 else 0
set_option maxRecDepth 100000 in
theorem norm64_c (N : Nat) (w : World) (h : N < 18446744073709551616) (h0 : 0 < N % 9223372036854775808) (h2 : N % 9223372036854775808 < 9218868437227405312) : Calls Tryd.prog 117 #[.float .f64 N] w fun e w' => e = .returned (.tuple #[.float .f64 (nz N), .int .i64 (nze N)]) ∧ w = w' := by
  have h1 := abs_c N w h
  unfold nz nze
  by_cases hs : N % 9223372036854775808 < 4503599627370496
  · rw [if_pos hs, if_pos hs]
    have h3 := mul_sub N h0 hs
    have h4 := lt_small _ hs
    have e1 : (if sg N then 9223372036854775808 else 0) + sub52 (N % 9223372036854775808) = N / 9223372036854775808 * 9223372036854775808 + sub52 (N % 9223372036854775808) := by
      unfold sg
      have : N / 9223372036854775808 < 2 := by omega
      rcases (by omega : N / 9223372036854775808 = 0 ∨ N / 9223372036854775808 = 1) with e | e <;> rw [e] <;> simp
    rw [e1] at h3
    have h5 := fun (W : World) => run_float_arith (P := Tryd.prog) W .mul 72 .f64 N 4841369599423283200 _ h3
    obtain ⟨F, hF⟩ : ∃ F, F = N / 9223372036854775808 * 9223372036854775808 + sub52 (N % 9223372036854775808) := ⟨_, rfl⟩
    obtain ⟨r, hr⟩ : ∃ r, r = N % 9223372036854775808 := ⟨_, rfl⟩
    rw [← hF] at h5 ⊢
    rw [← hr] at h1 h4
    clear h3 e1 hF hr hs h0 h2
    go_enter Tryd.func117, Tryd.ntmps117
    go_wp2_with (fail)
    refine h1.mono ?_
    rintro e w' ⟨rfl, rfl⟩
    go_wp2_with (fail)
    go_ret2
    exact ⟨rfl, rfl⟩
  · rw [if_neg hs, if_neg hs]
    have h4 := not_lt_small _ (by omega) h2
    obtain ⟨r, hr⟩ : ∃ r, r = N % 9223372036854775808 := ⟨_, rfl⟩
    rw [← hr] at h1 h4
    clear hr hs h0 h2
    go_enter Tryd.func117, Tryd.ntmps117
    go_wp2_with (fail)
    refine h1.mono ?_
    rintro e w' ⟨rfl, rfl⟩
    go_wp2_with (fail)
    go_ret2
    exact ⟨rfl, rfl⟩
/-- What 'Frexp' gives: the fraction's bits, the exponent. -/
def frf (N : Nat) : Nat := nz N / 9223372036854775808 * 9223372036854775808 + 4602678819172646912 + nz N % 4503599627370496
def fre (N : Nat) : Int := nze N + ((nz N / 4503599627370496 % 2048 : Nat) - 1023 + 1)
theorem nz_lt (N : Nat) (h : N < 18446744073709551616) (h0 : 0 < N % 9223372036854775808) : nz N < 18446744073709551616 := by
  unfold nz
  split
  · rename_i hs
    have h1 := sub_bounds _ h0 hs
    have h2 := log2_sub _ h0 hs
    unfold sub52
    omega
  · exact h
set_option maxRecDepth 100000 in
theorem frexp_c (N : Nat) (w : World) (h : N < 18446744073709551616) (h0 : 0 < N % 9223372036854775808) (h2 : N % 9223372036854775808 < 9218868437227405312) : Calls Tryd.prog 96 #[.float .f64 N] w fun e w' => e = .returned (.tuple #[.float .f64 (frf N), .int .i64 (fre N)]) ∧ w = w' := by
  have hz : (FloatKind.f64.format.order N 0 == some .eq) = false := by rw [beq_eq_false_iff_ne]; exact order_nonzero N h0
  have hlt := nz_lt N h h0
  have hnz : nze N = -52 ∨ nze N = 0 := by unfold nze; split <;> simp
  have HN := Aside0.mk (isInf_no N w h h2)
  have HA := Aside0.mk (isNaN_no N w (by omega))
  have HM := Aside0.mk (norm64_c N w h h0 h2)
  unfold frf fre
  obtain ⟨M, hM⟩ : ∃ M, M = nz N := ⟨_, rfl⟩
  obtain ⟨E, hE⟩ : ∃ E, E = nze N := ⟨_, rfl⟩
  rw [← hM, ← hE] at HM
  rw [← hM] at hlt
  rw [← hE] at hnz
  rw [← hM, ← hE]
  have hb := f64bits M
  obtain ⟨F, hF⟩ : ∃ F, F = M / 9223372036854775808 * 9223372036854775808 + 4602678819172646912 + M % 4503599627370496 := ⟨_, rfl⟩
  have hf := f64from F
  obtain ⟨x, hx⟩ : ∃ x, x = M / 4503599627370496 % 2048 := ⟨_, rfl⟩
  have hx1 : x < 2048 := by omega
  have hae : Go.bits .and .u64 ((M : Int) / 4503599627370496) 2047 = (x : Int) := by
    rw [hx]
    exact (congrArg (fun z => Go.bits .and .u64 z 2047) (by omega)).trans (and_exp (M / 4503599627370496) (by omega))
  have hce := clear_exp M hlt
  have hoe : Go.bits .or .u64 ((M : Int) / 9223372036854775808 * 9223372036854775808 + (M : Int) % 4503599627370496) 4602678819172646912 = (F : Int) := by
    rw [hF]
    exact (congrArg (fun z => Go.bits .or .u64 z 4602678819172646912) (by omega)).trans (or_exp (M / 9223372036854775808) (M % 4503599627370496) (by omega) (by omega))
  have hbx : IntKind.u64.wrap (x : Int) = x := wrap_u64 (by omega) (by omega)
  rw [← hF, ← hx]
  clear hM hE hF hx
  go_enter Tryd.func96, Tryd.ntmps96
  go_wp2_with (first | (go_at_call 71; refine (HN.out).mono ?_; rintro e w' ⟨rfl, rfl⟩) | (go_at_call 66; refine (HA.out).mono ?_; rintro e w' ⟨rfl, rfl⟩) | (go_at_call 117; refine (HM.out).mono ?_; rintro e w' ⟨rfl, rfl⟩))
  go_ret2
  exact ⟨rfl, rfl⟩
theorem frexp2_c (N : Nat) (w : World) (h : N < 18446744073709551616) (h0 : 0 < N % 9223372036854775808) (h2 : N % 9223372036854775808 < 9218868437227405312) : Calls Tryd.prog 72 #[.float .f64 N] w fun e w' => e = .returned (.tuple #[.float .f64 (frf N), .int .i64 (fre N)]) ∧ w = w' := by
  have HF := Aside0.mk (frexp_c N w h h0 h2)
  go_enter Tryd.func72, Tryd.ntmps72
  go_wp2_with (fail)
  refine (HF.out).mono ?_
  rintro e w' ⟨rfl, rfl⟩
  go_wp2_with (fail)
  go_ret2
  exact ⟨rfl, rfl⟩
end Go.Proofs.YtglikgjaobedbaaDoor.Sp
