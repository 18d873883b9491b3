/-
  CONTRACTS of the reference's OfBits; IsReal at a nought.
-/
import Derived.Test.YtglikgjaobedbaaDoorSetF2
import Derived.Test.YtglikgjaobedbaaDoorGlaw
import Derived.Test.YtglikgjaobedbaaDoorSpSOfBits
namespace Go.Proofs.YtglikgjaobedbaaDoor.Sp
open Go.RowKit Go.Proofs.YtglikgjaobedbaaDoorW.PrintWords Go.Proofs.YtglikgjaobedbaaDoorW.PrintLast Go.Proofs.YtglikgjaobedbaaDoorW.PrintMore Go.Proofs.YtglikgjaobedbaaDoor.Dig Go.Proofs.YtglikgjaobedbaaDoor.Flo
set_option linter.unusedVariables false
set_option linter.unusedSimpArgs false
theorem small2_l (d : Nat) : ∀ (n : Int) (acc : List Int), 0 ≤ n → n ≤ 9223372036854775807 → n < 65536 ^ d → acc.length + d < 1000 → ∀ k, d < k → ∃ r, spec_Small.l0 k n acc = some (acc ++ r) ∧ Cn BH r ∧ ev BH r = n := by
  induction d with
  | zero =>
    intro n acc h0 h1 hd ha k hk
    obtain ⟨k, rfl⟩ : ∃ m, k = m + 1 := ⟨k - 1, by omega⟩
    rw [Int.pow_zero] at hd
    simp only [spec_Small.l0]
    rw [if_neg (by omega)]
    exact ⟨[], by simp, Cn_nil _, by simp [ev]; omega⟩
  | succ d ih =>
    intro n acc h0 h1 hd ha k hk
    obtain ⟨k, rfl⟩ : ∃ m, k = m + 1 := ⟨k - 1, by omega⟩
    rw [Int.pow_succ] at hd
    simp only [spec_Small.l0]
    by_cases hn : n > 0
    · have e1 : Int.tdiv n 65536 = n / 65536 := Int.tdiv_eq_ediv_of_nonneg h0
      have e2 : Int.tmod n 65536 = n % 65536 := Int.tmod_eq_emod_of_nonneg h0
      rw [if_pos hn, if_pos (by omega), e1, e2, w64 (by omega) (by omega)]
      obtain ⟨r, hr, hc, he⟩ := ih (n / 65536) (acc ++ [n % 65536]) (by omega) (by omega) (by generalize (65536 : Int) ^ d = z at hd ⊢; omega) (by simp; omega) k (by omega)
      refine ⟨n % 65536 :: r, by rw [hr]; simp, ⟨okd_cons.2 ⟨by rw [BH_def]; omega, hc.ok⟩, fun x hx => ?_⟩, by rw [ev_cons, he, BH_def]; omega⟩
      cases r with
      | nil => simp [ev] at he hx; omega
      | cons y r => exact hc.top x (by simpa [List.getLast?_cons_cons] using hx)
    · rw [if_neg hn]
      exact ⟨[], by simp, Cn_nil _, by simp [ev]; omega⟩
theorem small2_ev (n : Int) (h0 : 0 ≤ n) (h1 : n < 18446744073709551616) (h2 : n ≤ 9223372036854775807) : ∃ r, Ev (fun k => spec_Small.f k n) r ∧ Cn BH r ∧ ev BH r = n := by
  obtain ⟨r, hr, hc, he⟩ := small2_l 4 n [] h0 h2 (by rw [show (65536 : Int) ^ 4 = 18446744073709551616 by decide]; exact h1) (by simp) 5 (by omega)
  exact ⟨r, Ev.of (spec_Small.mono n) (k := 5) (by rw [List.nil_append] at hr; exact hr), hc, he⟩
theorem and_frac (N : Nat) (h : N < 18446744073709551616) : Go.bits .and .u64 (N : Int) 4503599627370495 = ((N % 4503599627370496 : Nat) : Int) := by
  rw [show (4503599627370495 : Int) = ((4503599627370495 : Nat) : Int) from rfl, u64_and_nat N 4503599627370495 h (by omega), nat_mask52]
theorem and_exp2 (N : Nat) (h : N < 18446744073709551616) : Go.bits .and .u64 ((N : Int) / 4503599627370496) 2047 = ((N / 4503599627370496 % 2048 : Nat) : Int) :=
  (congrArg (fun z => Go.bits .and .u64 z 2047) (by omega)).trans (and_exp (N / 4503599627370496) (by omega))
theorem sg_int (N : Nat) (h : N < 18446744073709551616) : (((N : Int) / 9223372036854775808) == 1) = sg N := by
  unfold sg
  rcases (by omega : N / 9223372036854775808 = 0 ∨ N / 9223372036854775808 = 1) with e | e
  · rw [show (N : Int) / 9223372036854775808 = 0 by omega, e]; rfl
  · rw [show (N : Int) / 9223372036854775808 = 1 by omega, e]; rfl
theorem ofBits_ev (N : Nat) (h : N < 18446744073709551616) (h2 : N % 9223372036854775808 < 9218868437227405312) : ∃ r, Ev (fun k => spec_OfBits.f k (N : Int)) (sg N, r, ex N) ∧ Cn BH r ∧ ev BH r = mg N := by
  unfold mg ex
  by_cases hs : N % 9223372036854775808 < 4503599627370496
  · rw [if_pos hs, if_pos hs]
    have e3 : N % 9223372036854775808 = N % 4503599627370496 := by omega
    rw [e3]
    have e1 : N / 4503599627370496 % 2048 = 0 := by omega
    have a1 := and_exp2 N h
    have a2 := and_frac N h
    have a3 := sg_int N h
    have hF : N % 4503599627370496 < 4503599627370496 := by omega
    rw [e1] at a1
    generalize N % 4503599627370496 = F at a2 hF ⊢
    obtain ⟨r, ⟨K, hK⟩, hc, he⟩ := small2_ev (F : Int) (by omega) (by omega) (by omega)
    refine ⟨r, ⟨K, fun k hk => ?_⟩, hc, he⟩
    have w0 : wrap64 ((0 : Nat) : Int) = 0 := w64 (by omega) (by omega)
    have w1 : wrap64 ((0 : Int) - 1074) = -1074 := w64 (by omega) (by omega)
    have w2 : wrap64 (F : Int) = F := w64 (by omega) (by omega)
    have hk2 : spec_Small.f k (F : Int) = some r := hK k hk
    simp only [spec_OfBits.f]
    rw [a1, a2, a3, w0, if_neg (by omega), w1, w2, hk2]
    rfl
  · rw [if_neg hs, if_neg hs]
    have e3 : N % 9223372036854775808 % 4503599627370496 = N % 4503599627370496 := by omega
    rw [e3]
    have e1 : N / 4503599627370496 % 2048 = N % 9223372036854775808 / 4503599627370496 := by omega
    have e2 : 1 ≤ N % 9223372036854775808 / 4503599627370496 ∧ N % 9223372036854775808 / 4503599627370496 < 2047 := by omega
    have a1 := and_exp2 N h
    have a2 := and_frac N h
    have a3 := sg_int N h
    have hF : N % 4503599627370496 < 4503599627370496 := by omega
    rw [e1] at a1
    generalize N % 9223372036854775808 / 4503599627370496 = q at a1 e2 ⊢
    generalize N % 4503599627370496 = F at a2 hF ⊢
    obtain ⟨r, ⟨K, hK⟩, hc, he⟩ := small2_ev ((F : Int) + 4503599627370496) (by omega) (by omega) (by omega)
    refine ⟨r, ⟨K, fun k hk => ?_⟩, hc, by rw [he]; omega⟩
    have hq0 : (q : Int) > 0 := by omega
    have W1 : Aside0 (wrap64 (q : Int) = q) := ⟨w64 (by omega) (by omega)⟩
    have W2 : Aside0 (wrap64 ((q : Int) - 1) = q - 1) := ⟨w64 (by omega) (by omega)⟩
    have W3 : Aside0 (wrap64 ((q : Int) - 1 - 1074) = q - 1 - 1074) := ⟨w64 (by omega) (by omega)⟩
    have W4 : Aside0 (wrap64 (F : Int) = F) := ⟨w64 (by omega) (by omega)⟩
    have W5 : Aside0 (wrap64 ((F : Int) + 4503599627370496) = (F : Int) + 4503599627370496) := ⟨w64 (by omega) (by omega)⟩
    have hk2 : spec_Small.f k ((F : Int) + 4503599627370496) = some r := hK k hk
    have e5 : ((q - 1 : Nat) : Int) - 1074 = q - 1 - 1074 := by omega
    simp only [spec_OfBits.f]
    rw [a1, a2, a3, W1.out, if_pos hq0, W2.out, W3.out, W4.out, W5.out, hk2, e5]
    rfl
theorem ofBits_c (N : Nat) (h : N < 18446744073709551616) (h2 : N % 9223372036854775808 < 9218868437227405312) (w : World) : Calls Tryd.prog 17 #[.int .u64 (N : Int)] w fun e w' => ∃ A m c, e = .returned (.agg #[.bool (sg N), .slice A m c, .int .i64 (ex N)]) ∧ Dg w' (.slice A m c) (mg N) ∧ Below w.heap.size w w' := by
  obtain ⟨r, ⟨K, hK⟩, hc, he⟩ := ofBits_ev N h h2
  refine (spec_OfBits.calls K N (sg N) r (ex N) w (hK K (Nat.le_refl _))).mono ?_
  rintro e w' ⟨v, rfl, hv, hb⟩
  have hd := Dg.of_R hv hc he
  obtain ⟨A, m, c, rfl⟩ := hd.slice
  exact ⟨A, m, c, rfl, hd, hb⟩
/-- IsReal at a nought. -/
theorem isReal0_c (p m vx : Int) (neg neg' : Bool) (A A' : Option Addr) (cc mm' cc' : Nat) (w : World) (h : Wd w (.slice A 0 cc) 0) (h' : Dg w (.slice A' mm' cc') 0) :
    Calls Tryd.prog 16 #[.agg #[.int .u64 p, .int .i64 m, .int .i64 0, .bool neg, .slice A 0 cc, .int .i64 0], .int .u64 p, .int .i64 m, .agg #[.bool neg', .slice A' mm' cc', .int .i64 vx]] w fun e w' => e = .returned (.bool true) ∧ Below w.heap.size w w' := by
  obtain ⟨_, _, X, e1, h2, h3, h4, h5⟩ := h
  injection e1 with e1 e2 e3
  subst e1 e3
  obtain rfl : X = [] := List.eq_nil_of_length_eq_zero e2.symm
  obtain ⟨_, _, l, e1, k2, k3, k4, k5⟩ := h'
  injection e1 with e1 e2 e3
  subst e1 e2 e3
  obtain rfl : l = [] := Cn_zero k4 BH_pos k5
  exact spec_IsReal.calls 1 p m 0 neg _ _ [] 0 p m neg' _ _ [] vx true w h3 h2 k3 k2 (by simp [spec_IsReal.f, spec_IsReal.j0])
end Go.Proofs.YtglikgjaobedbaaDoor.Sp
