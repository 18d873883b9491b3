/-
  MERGED BY PROGRAM (regroup.py): Vv, DivP, VvC, Nat2, DivC, DivD, DivE, NatAr.
-/
import Derived.Test.YtfnknldbjckgoaaGreatDoorZGdig
import Derived.Test.YtfnknldbjckgoaaGreatDoorZGnat
import Derived.BigQuiet
import Derived.Deep.QuietTactic
import Derived.Deep.DeepCutAuto
import Derived.Deep.CutBlock
/-! ## Vv -/
section
namespace Go.Proofs.YtfnknldbjckgoaaGreatDoor.Dig

/-- Word for word: a + k * b. -/
def lin (k : Int) (l m : List Int) : List Int := List.zipWith (fun a b => a + k * b) l m
theorem lin_len {k : Int} {l m : List Int} (h : l.length = m.length) : (lin k l m).length = l.length := by
  simp [lin, h]
theorem lin_ev {k : Int} {l m : List Int} (h : l.length = m.length) : ev BW (lin k l m) = ev BW l + k * ev BW m := by
  induction l generalizing m with
  | nil =>
    cases m with
    | nil => simp [lin, ev_nil]
    | cons b m => simp at h
  | cons a l ih =>
    cases m with
    | nil => simp at h
    | cons b m =>
      have h' : l.length = m.length := by simpa using h
      show ev BW ((a + k * b) :: lin k l m) = _
      rw [ev_cons, ev_cons, ev_cons, ih h', Int.mul_add, Int.mul_add, Int.mul_left_comm BW k]
      omega
theorem lin_get {k : Int} {l m : List Int} {i : Nat} (h : i < l.length) (h' : i < m.length) : (lin k l m).getD i 0 = l.getD i 0 + k * m.getD i 0 := by
  simp [lin, List.getD, List.getElem?_zipWith, List.getElem?_eq_getElem h, List.getElem?_eq_getElem h']
/-- The carry, for whatever coefficients. -/
theorem gy_div (t : List Int) (y : Int) (i : Nat) : (ev BW t + y) / BW ^ i = ev BW (t.drop i) + cy t y i := by
  induction i with
  | zero => simp [cy]
  | succ i ih =>
    have e3 : (ev BW t + y) / BW ^ (i + 1) = (ev BW t + y) / BW ^ i / BW := by rw [Int.pow_succ, edd (Int.le_of_lt (BWp i))]
    rw [e3, ih]
    show _ = _ + (t.getD i 0 + cy t y i) / BW
    by_cases hi : i < t.length
    · have e : t.drop i = t.getD i 0 :: t.drop (i + 1) := by
        rw [List.drop_eq_getElem_cons hi]
        simp [List.getD, List.getElem?_eq_getElem hi]
      rw [e, ev_cons, show t.getD i 0 + BW * ev BW (t.drop (i + 1)) + cy t y i = (t.getD i 0 + cy t y i) + BW * ev BW (t.drop (i + 1)) by omega, Int.add_mul_ediv_left _ _ (Int.ne_of_gt BW_pos)]
      omega
    · rw [List.drop_eq_nil_of_le (by omega), List.drop_eq_nil_of_le (by omega), ev_nil]
      simp [List.getD, List.getElem?_eq_none (show t.length ≤ i by omega)]
theorem gy_dg (t : List Int) (y : Int) (i : Nat) : dg (ev BW t + y) i = (t.getD i 0 + cy t y i) % BW := by
  unfold dg
  rw [gy_div]
  by_cases hi : i < t.length
  · have e : t.drop i = t.getD i 0 :: t.drop (i + 1) := by
      rw [List.drop_eq_getElem_cons hi]
      simp [List.getD, List.getElem?_eq_getElem hi]
    rw [e, ev_cons, show t.getD i 0 + BW * ev BW (t.drop (i + 1)) + cy t y i = (t.getD i 0 + cy t y i) + BW * ev BW (t.drop (i + 1)) by omega, Int.add_mul_emod_self_left]
  · rw [List.drop_eq_nil_of_le (by omega), ev_nil]
    simp [List.getD, List.getElem?_eq_none (show t.length ≤ i by omega)]
theorem gy_end (t : List Int) (y : Int) : (ev BW t + y) / BW ^ t.length = cy t y t.length := by
  rw [gy_div, List.drop_length, ev_nil, Int.zero_add]
theorem cy_s (t : List Int) (y : Int) (i : Nat) : cy t y (i + 1) = (t.getD i 0 + cy t y i) / BW := rfl
/-- Sums: the carry is 0 or 1. -/
theorem gy_add {l m : List Int} (hl : okd BW l) (hm : okd BW m) (h : l.length = m.length) (i : Nat) : 0 ≤ cy (lin 1 l m) 0 i ∧ cy (lin 1 l m) 0 i ≤ 1 := by
  induction i with
  | zero => simp [cy]
  | succ i ih =>
    rw [cy_s]
    have h1 := okd_get hl BW_pos i
    have h2 := okd_get hm BW_pos i
    have e : (lin 1 l m).getD i 0 = l.getD i 0 + m.getD i 0 := by
      by_cases hi : i < l.length
      · rw [lin_get hi (by omega), Int.one_mul]
      · simp [List.getD, List.getElem?_eq_none (show l.length ≤ i by omega), List.getElem?_eq_none (show m.length ≤ i by omega), List.getElem?_eq_none (show (lin 1 l m).length ≤ i by rw [lin_len h]; omega)]
    rw [e]
    have h3 : 0 ≤ (l.getD i 0 + m.getD i 0 + cy (lin 1 l m) 0 i) / BW := Int.ediv_nonneg (by omega) (Int.le_of_lt BW_pos)
    have h4 : (l.getD i 0 + m.getD i 0 + cy (lin 1 l m) 0 i) / BW < 2 := Int.ediv_lt_of_lt_mul BW_pos (by omega)
    omega
/-- Differences: the carry is 0 or -1. -/
theorem gy_sub {l m : List Int} (hl : okd BW l) (hm : okd BW m) (h : l.length = m.length) (i : Nat) : -1 ≤ cy (lin (-1) l m) 0 i ∧ cy (lin (-1) l m) 0 i ≤ 0 := by
  induction i with
  | zero => simp [cy]
  | succ i ih =>
    rw [cy_s]
    have h1 := okd_get hl BW_pos i
    have h2 := okd_get hm BW_pos i
    have e : (lin (-1) l m).getD i 0 = l.getD i 0 - m.getD i 0 := by
      by_cases hi : i < l.length
      · rw [lin_get hi (by omega)]; omega
      · simp [List.getD, List.getElem?_eq_none (show l.length ≤ i by omega), List.getElem?_eq_none (show m.length ≤ i by omega), List.getElem?_eq_none (show (lin (-1) l m).length ≤ i by rw [lin_len h]; omega)]
    rw [e]
    have h3 : -1 ≤ (l.getD i 0 - m.getD i 0 + cy (lin (-1) l m) 0 i) / BW := by
      apply Int.le_ediv_of_mul_le BW_pos
      omega
    have h4 : (l.getD i 0 - m.getD i 0 + cy (lin (-1) l m) 0 i) / BW < 1 := Int.ediv_lt_of_lt_mul BW_pos (by omega)
    omega
end Go.Proofs.YtfnknldbjckgoaaGreatDoor.Dig
end

/-! ## DivP -/
section
namespace Go.Proofs.YtfnknldbjckgoaaGreatDoor.Dig
set_option linter.unusedVariables false
/-- A guess of a quotient by the divisor's upper half. -/
structure Est (B u y1 y0 u1 q r : Int) : Prop where
  sum : q * y1 + r = u
  r0 : 0 ≤ r
  ge : (u * B + u1) / (y1 * B + y0) ≤ q
  le : q ≤ B + 1
structure EstH (B u y1 y0 u1 : Int) : Prop where
  B0 : 0 < B
  y1h : B ≤ 2 * y1
  y1l : y1 < B
  y00 : 0 ≤ y0
  y0l : y0 < B
  u10 : 0 ≤ u1
  u1l : u1 < B
  u0 : 0 ≤ u
  ul : u < y1 * B + y0
theorem EstH.y {B u y1 y0 u1 : Int} (h : EstH B u y1 y0 u1) : 0 < y1 * B + y0 := by
  have := h.u0; have := h.ul; omega
theorem EstH.q {B u y1 y0 u1 : Int} (h : EstH B u y1 y0 u1) : 0 ≤ (u * B + u1) / (y1 * B + y0) ∧ (u * B + u1) / (y1 * B + y0) < B := by
  have hy := h.y
  have h1 := Int.mul_nonneg h.u0 (Int.le_of_lt h.B0)
  refine ⟨Int.ediv_nonneg (by have := h.u10; omega) (Int.le_of_lt hy), Int.ediv_lt_of_lt_mul hy ?_⟩
  have h2 := Int.mul_le_mul_of_nonneg_right (show u + 1 ≤ y1 * B + y0 by have := h.ul; omega) (Int.le_of_lt h.B0)
  rw [Int.add_mul, Int.one_mul] at h2
  rw [Int.mul_comm B]
  have := h.u1l
  omega
/-- The true quotient times the divisor. -/
theorem EstH.t {B u y1 y0 u1 : Int} (h : EstH B u y1 y0 u1) : (u * B + u1) / (y1 * B + y0) * (y1 * B + y0) ≤ u * B + u1 := Int.ediv_mul_le _ (Int.ne_of_gt h.y)
theorem Est.start {B u y1 y0 u1 : Int} (h : EstH B u y1 y0 u1) : Est B u y1 y0 u1 (u / y1) (u - u / y1 * y1) := by
  have hB := h.B0
  have hy1 : 0 < y1 := by have := h.y1h; omega
  have hm := Int.emod_add_mul_ediv u y1
  have hr0 := Int.emod_nonneg u (Int.ne_of_gt hy1)
  have hr1 := Int.emod_lt_of_pos u hy1
  have e1 : u / y1 * y1 = y1 * (u / y1) := Int.mul_comm ..
  refine ⟨by omega, by omega, ?_, ?_⟩
  · obtain ⟨T, hT⟩ : ∃ T, T = (u * B + u1) / (y1 * B + y0) := ⟨_, rfl⟩
    have ht := h.t
    have hq := h.q
    rw [← hT] at ht hq ⊢
    apply Int.le_ediv_of_mul_le hy1
    have h3 := Int.mul_nonneg hq.1 h.y00
    rw [Int.mul_add, ← Int.mul_assoc] at ht
    have h4 : T * y1 * B < (u + 1) * B := by rw [Int.add_mul, Int.one_mul]; have := h.u1l; omega
    have := Int.lt_of_mul_lt_mul_right h4 (Int.le_of_lt hB)
    omega
  · have h5 : u / y1 < B + 2 := by
      apply Int.ediv_lt_of_lt_mul hy1
      have h6 := h.ul
      have h7 := h.y0l
      have h8 := h.y1h
      rw [Int.add_mul, Int.mul_comm B y1]
      omega
    omega
theorem Est.stop {B u y1 y0 u1 q r : Int} (h : EstH B u y1 y0 u1) (e : Est B u y1 y0 u1 q r) (hc : q * y0 ≤ B * r + u1) : q = (u * B + u1) / (y1 * B + y0) := by
  have hy := h.y
  refine Int.le_antisymm ?_ e.ge
  apply Int.le_ediv_of_mul_le hy
  have h1 : q * y1 * B + r * B = u * B := by rw [← Int.add_mul, e.sum]
  rw [Int.mul_add, ← Int.mul_assoc]
  rw [Int.mul_comm B r] at hc
  omega
theorem Est.gt {B u y1 y0 u1 q r : Int} (h : EstH B u y1 y0 u1) (e : Est B u y1 y0 u1 q r) (hc : B ≤ q ∨ B * r + u1 < q * y0) : (u * B + u1) / (y1 * B + y0) ≤ q - 1 := by
  have hq := h.q
  rcases hc with hc | hc
  · omega
  · have hy := h.y
    have h2 : (u * B + u1) / (y1 * B + y0) < q := by
      apply Int.ediv_lt_of_lt_mul hy
      have h1 : q * y1 * B + r * B = u * B := by rw [← Int.add_mul, e.sum]
      rw [Int.mul_add, ← Int.mul_assoc]
      rw [Int.mul_comm B r] at hc
      omega
    omega
theorem Est.next {B u y1 y0 u1 q r : Int} (h : EstH B u y1 y0 u1) (e : Est B u y1 y0 u1 q r) (hc : B ≤ q ∨ B * r + u1 < q * y0) : Est B u y1 y0 u1 (q - 1) (r + y1) := by
  have hy1 : 0 < y1 := by have := h.y1h; have := h.B0; omega
  have h1 := e.sum
  refine ⟨by rw [Int.sub_mul, Int.one_mul]; omega, by have := e.r0; omega, e.gt h hc, by have := e.le; omega⟩
theorem Est.brk {B u y1 y0 u1 q r : Int} (h : EstH B u y1 y0 u1) (e : Est B u y1 y0 u1 q r) (hq : q ≤ B) (hr : B ≤ r) : q = (u * B + u1) / (y1 * B + y0) := by
  refine e.stop h ?_
  have h1 := Int.mul_le_mul_of_nonneg_right hq h.y00
  have h2 := Int.mul_le_mul_of_nonneg_left hr (Int.le_of_lt h.B0)
  have h3 := Int.mul_le_mul_of_nonneg_left (Int.le_of_lt h.y0l) (Int.le_of_lt h.B0)
  have := h.u10
  omega
theorem Est.small {B u y1 y0 u1 q r : Int} (h : EstH B u y1 y0 u1) (e : Est B u y1 y0 u1 q r) (hr : r < B) : 0 ≤ q ∧ 0 ≤ q * y0 ∧ q * y0 < B * B ∧ 0 ≤ B * r + u1 ∧ B * r + u1 < B * B := by
  have hq := h.q
  have hq0 : 0 ≤ q := by have := e.ge; omega
  have h1 := Int.mul_le_mul_of_nonneg_right e.le h.y00
  have h2 := Int.mul_le_mul_of_nonneg_left (show y0 ≤ B - 1 by have := h.y0l; omega) (show 0 ≤ B + 1 by have := h.B0; omega)
  have h3 : (B + 1) * (B - 1) = B * B - 1 := by rw [Int.mul_sub, Int.add_mul, Int.one_mul, Int.mul_one]; omega
  have h4 := Int.mul_le_mul_of_nonneg_left (show r ≤ B - 1 by omega) (Int.le_of_lt h.B0)
  rw [Int.mul_sub, Int.mul_one] at h4
  have h5 := Int.mul_nonneg (Int.le_of_lt h.B0) e.r0
  have := h.u10
  have := h.u1l
  exact ⟨hq0, Int.mul_nonneg hq0 h.y00, by omega, by omega, by omega⟩
/-- Two halves of a quotient make the whole. -/
theorem two_steps {B u y u1 u0 q1 q0 r1 : Int} (hB : 0 < B) (hy : 0 < y) (h0 : 0 ≤ u0 ∧ u0 < B) (hq1 : q1 = (u * B + u1) / y) (hr1 : r1 = (u * B + u1) - q1 * y) (hq0 : q0 = (r1 * B + u0) / y) : (u * B * B + u1 * B + u0) / y = q1 * B + q0 ∧ (u * B * B + u1 * B + u0) % y = r1 * B + u0 - q0 * y := by
  have e : u * B * B + u1 * B + u0 = (r1 * B + u0) + y * (q1 * B) := by
    have : (r1 + q1 * y) * B = (u * B + u1) * B := by rw [hr1]; congr 1; omega
    rw [Int.add_mul, Int.add_mul] at this
    rw [← Int.mul_assoc, Int.mul_comm y q1]
    omega
  have h1 := Int.emod_add_mul_ediv (r1 * B + u0) y
  rw [← hq0, Int.mul_comm y q0] at h1
  rw [e, Int.add_mul_ediv_left _ _ (Int.ne_of_gt hy), Int.add_mul_emod_self_left, ← hq0]
  omega
/-! ### by a reciprocal -/
theorem rec_lo {B d K : Int} (hd : 0 < d) (hK : K = (B * B - 1) / d) : 1 ≤ B * B - d * K ∧ B * B - d * K ≤ d := by
  have h1 := Int.emod_add_mul_ediv (B * B - 1) d
  have h2 := Int.emod_nonneg (B * B - 1) (Int.ne_of_gt hd)
  have h3 := Int.emod_lt_of_pos (B * B - 1) hd
  rw [← hK] at h1
  omega
/-- The guess by the reciprocal: what is left is at least 0 and below B + d. -/
theorem rec_guess {B d K x1 x0 q : Int} (hB : 0 < B) (hd : 0 < d) (hdB : d < B) (hK : K = (B * B - 1) / d) (hx1 : 0 ≤ x1 ∧ x1 < d) (hx0 : 0 ≤ x0 ∧ x0 < B) (hq : q = (K * x1 + x0) / B) : 0 ≤ x1 * B + x0 - d * q ∧ x1 * B + x0 - d * q < B + d ∧ 0 ≤ q ∧ q < B := by
  have hl := rec_lo hd hK
  have hK0 : 0 ≤ K := by
    rw [hK]
    have := Int.mul_le_mul_of_nonneg_left (show 1 ≤ B by omega) (Int.le_of_lt hB)
    exact Int.ediv_nonneg (by omega) (Int.le_of_lt hd)
  have h1 := Int.emod_add_mul_ediv (K * x1 + x0) B
  have h2 := Int.emod_nonneg (K * x1 + x0) (Int.ne_of_gt hB)
  have h3 := Int.emod_lt_of_pos (K * x1 + x0) hB
  rw [← hq] at h1
  obtain ⟨ρ, hρ⟩ : ∃ ρ, ρ = (K * x1 + x0) % B := ⟨_, rfl⟩
  rw [← hρ] at h1 h2 h3
  obtain ⟨δ, hδ⟩ : ∃ δ, δ = B * B - d * K := ⟨_, rfl⟩
  rw [← hδ] at hl
  have hmain : (x1 * B + x0 - d * q) * B = δ * x1 + x0 * (B - d) + d * ρ := by
    have e1 : B * q = K * x1 + x0 - ρ := by omega
    have e2 : d * q * B = d * (K * x1) + d * x0 - d * ρ := by rw [Int.mul_assoc, Int.mul_comm q B, e1, Int.mul_sub, Int.mul_add]
    have e3 : δ * x1 = B * B * x1 - d * (K * x1) := by rw [hδ, Int.sub_mul, Int.mul_assoc d]
    have e4 : x1 * B * B = B * B * x1 := by rw [Int.mul_assoc, Int.mul_comm]
    have e5 : x0 * (B - d) = x0 * B - d * x0 := by rw [Int.mul_sub, Int.mul_comm x0 d]
    rw [Int.sub_mul, Int.add_mul, e2, e3, e4, e5]
    omega
  have a1 := Int.mul_nonneg (show 0 ≤ δ by omega) hx1.1
  have a2 := Int.mul_nonneg hx0.1 (show 0 ≤ B - d by omega)
  have a3 := Int.mul_nonneg (Int.le_of_lt hd) h2
  have b1 := Int.mul_le_mul_of_nonneg_right hl.2 hx1.1
  have b1' := Int.mul_le_mul_of_nonneg_left (show x1 ≤ d - 1 by omega) (Int.le_of_lt hd)
  have b2 := Int.mul_le_mul_of_nonneg_right (show x0 ≤ B - 1 by omega) (show 0 ≤ B - d by omega)
  have b3 := Int.mul_le_mul_of_nonneg_left (show ρ ≤ B - 1 by omega) (Int.le_of_lt hd)
  have c1 : d * (d - 1) = d * d - d := by rw [Int.mul_sub, Int.mul_one]
  have c2 : (B - 1) * (B - d) = B * B - d * B - B + d := by rw [Int.sub_mul, Int.mul_sub, Int.one_mul, Int.mul_comm B d]; omega
  have c3 : d * (B - 1) = d * B - d := by rw [Int.mul_sub, Int.mul_one]
  have c4 : d * d ≤ d * B := Int.mul_le_mul_of_nonneg_left (Int.le_of_lt hdB) (Int.le_of_lt hd)
  have hlo : 0 ≤ x1 * B + x0 - d * q := by
    have : 0 * B ≤ (x1 * B + x0 - d * q) * B := by rw [Int.zero_mul, hmain]; omega
    exact Int.le_of_mul_le_mul_right this hB
  have hhi : x1 * B + x0 - d * q < B + d := by
    have : (x1 * B + x0 - d * q) * B < (B + d) * B := by rw [hmain, Int.add_mul]; omega
    exact Int.lt_of_mul_lt_mul_right this (Int.le_of_lt hB)
  have hq0 : 0 ≤ q := by rw [hq]; exact Int.ediv_nonneg (by have := Int.mul_nonneg hK0 hx1.1; omega) (Int.le_of_lt hB)
  refine ⟨hlo, hhi, hq0, ?_⟩
  have h6 : d * q < d * B := by
    have := Int.mul_le_mul_of_nonneg_right (show x1 + 1 ≤ d by omega) (Int.le_of_lt hB)
    rw [Int.add_mul, Int.one_mul] at this
    omega
  exact Int.lt_of_mul_lt_mul_left h6 (Int.le_of_lt hd)
theorem div_of {a b q r : Int} (hb : 0 < b) (h : a = b * q + r) (h0 : 0 ≤ r) (h1 : r < b) : a / b = q ∧ a % b = r := by
  rw [h, Int.add_comm, Int.add_mul_ediv_left _ _ (Int.ne_of_gt hb), Int.add_mul_emod_self_left, Int.ediv_eq_zero_of_lt h0 h1, Int.emod_eq_of_lt h0 h1]
  omega
end Go.Proofs.YtfnknldbjckgoaaGreatDoor.Dig
end

/-! ## VvC -/
section
namespace Go.Proofs.YtfnknldbjckgoaaGreatDoor.Sp
open Go.RowKit Go.Proofs.YtfnknldbjckgoaaGreatDoorW.PrintWords Go.Proofs.YtfnknldbjckgoaaGreatDoorW.PrintLast Go.Proofs.YtfnknldbjckgoaaGreatDoorW.PrintMore Go.Proofs.YtfnknldbjckgoaaGreatDoor.Dig
set_option linter.unusedVariables false
set_option linter.unusedSimpArgs false
theorem add64c (x y c : Int) (hx : 0 ≤ x) (hy : 0 ≤ y) (hc : 0 ≤ c ∧ c ≤ 1) (w : World) : (callFunc 155 #[.int .u64 x, .int .u64 y, .int .u64 c]).run Tryz.prog w =
    .ok (.value (.tuple #[.int .u64 ((x + y + c) % 18446744073709551616), .int .u64 ((x + y + c) / 18446744073709551616)])) w := by
  obtain ⟨x, rfl⟩ := Int.eq_ofNat_of_zero_le hx
  obtain ⟨y, rfl⟩ := Int.eq_ofNat_of_zero_le hy
  obtain ⟨c, rfl⟩ := Int.eq_ofNat_of_zero_le hc.1
  refine (Sh.bits_Add64 x y c (by omega) w).trans ?_
  congr 5 <;> omega
set_option maxHeartbeats 3200000 in
set_option maxRecDepth 100000 in
theorem bitsAddc_c (x y c d k : Int) (w : World) (hx : 0 ≤ x) (hy : 0 ≤ y) (hc : 0 ≤ c ∧ c ≤ 1) (hd : d = (x + y + c) % BW) (hk : k = (x + y + c) / BW) : Calls Tryz.prog 135 #[.int .u64 x, .int .u64 y, .int .u64 c] w fun e w' => e = .returned (.tuple #[.int .u64 d, .int .u64 k]) ∧ w' = w := by
  have h := add64c x y c hx hy hc w
  rw [← BW_def, ← hd, ← hk] at h
  clear hd hk
  go_enter Tryz.func135, Tryz.ntmps135
  go_wp2
  go_ret2
  exact ⟨rfl, rfl⟩
theorem sub64c (x y c : Int) (hx : 0 ≤ x ∧ x < BW) (hy : 0 ≤ y ∧ y < BW) (hc : 0 ≤ c ∧ c ≤ 1) (w : World) : (callFunc 153 #[.int .u64 x, .int .u64 y, .int .u64 c]).run Tryz.prog w =
    .ok (.value (.tuple #[.int .u64 ((x - y - c) % 18446744073709551616), .int .u64 (-((x - y - c) / 18446744073709551616))])) w := by
  obtain ⟨x, rfl⟩ := Int.eq_ofNat_of_zero_le hx.1
  obtain ⟨y, rfl⟩ := Int.eq_ofNat_of_zero_le hy.1
  obtain ⟨c, rfl⟩ := Int.eq_ofNat_of_zero_le hc.1
  have hb := BW_def
  have h1 : y + c ≤ x + 18446744073709551616 := by omega
  refine (Sh.bits_Sub64 x y c (by omega) w).trans ?_
  have e1 : (((x + 18446744073709551616 - y - c) % 18446744073709551616 : Nat) : Int) = ((x : Int) - y - c) % 18446744073709551616 := by omega
  have e2 : ((if x < y + c then 1 else 0 : Nat) : Int) = -(((x : Int) - y - c) / 18446744073709551616) := by split <;> omega
  rw [e1, e2]
set_option maxHeartbeats 3200000 in
set_option maxRecDepth 100000 in
theorem bitsSub_c (x y c d k : Int) (w : World) (hx : 0 ≤ x ∧ x < BW) (hy : 0 ≤ y ∧ y < BW) (hc : 0 ≤ c ∧ c ≤ 1) (hd : d = (x - y - c) % BW) (hk : k = -((x - y - c) / BW)) : Calls Tryz.prog 133 #[.int .u64 x, .int .u64 y, .int .u64 c] w fun e w' => e = .returned (.tuple #[.int .u64 d, .int .u64 k]) ∧ w' = w := by
  have h := sub64c x y c hx hy hc w
  rw [← BW_def, ← hd, ← hk] at h
  clear hd hk
  go_enter Tryz.func133, Tryz.ntmps133
  go_wp2
  go_ret2
  exact ⟨rfl, rfl⟩
set_option maxHeartbeats 3200000 in
set_option maxRecDepth 100000 in
theorem bitsMul_c (x y d k : Int) (w : World) (hx : 0 ≤ x ∧ x < BW) (hy : 0 ≤ y ∧ y < BW) (hd : d = x * y % BW) (hk : k = x * y / BW) : Calls Tryz.prog 181 #[.int .u64 x, .int .u64 y] w fun e w' => e = .returned (.tuple #[.int .u64 k, .int .u64 d]) ∧ w' = w := by
  obtain ⟨x, rfl⟩ := Int.eq_ofNat_of_zero_le hx.1
  obtain ⟨y, rfl⟩ := Int.eq_ofNat_of_zero_le hy.1
  have hb := BW_def
  have h := Sh.bits_Mul x y (by omega) (by omega) w
  rw [hd, hk, hb, ← Int.natCast_mul]
  simpa using h
theorem mul_word {x y c : Int} (hx : 0 ≤ x ∧ x < BW) (hy : 0 ≤ y ∧ y < BW) (hc : 0 ≤ c ∧ c < BW) : 0 ≤ x * y ∧ x * y + c < BW * BW ∧ 0 ≤ (x * y + c) / BW ∧ (x * y + c) / BW < BW := by
  have h0 := Int.mul_nonneg hx.1 hy.1
  have a := Int.mul_le_mul_of_nonneg_right (show x ≤ BW - 1 by omega) hy.1
  have b := Int.mul_le_mul_of_nonneg_left (show y ≤ BW - 1 by omega) (show 0 ≤ BW - 1 by have := BW_gt; omega)
  have h6 : (BW - 1) * (BW - 1) = BW * BW - BW - BW + 1 := by rw [Int.sub_mul, Int.mul_sub, Int.mul_one, Int.one_mul]; omega
  have h7 : x * y + c < BW * BW := by omega
  exact ⟨h0, h7, Int.ediv_nonneg (by omega) (Int.le_of_lt BW_pos), Int.ediv_lt_of_lt_mul BW_pos h7⟩
theorem c_parts (P c : Int) : (P % BW + c) % BW = (P + c) % BW ∧ P / BW + (P % BW + c) / BW = (P + c) / BW := by
  have h1 := Int.emod_add_mul_ediv P BW
  obtain ⟨q, hq⟩ : ∃ q, q = P / BW := ⟨_, rfl⟩
  obtain ⟨r, hr⟩ : ∃ r, r = P % BW := ⟨_, rfl⟩
  rw [← hq, ← hr] at h1
  rw [← hq, ← hr, ← h1, show r + BW * q + c = (r + c) + BW * q by omega, Int.add_mul_emod_self_left, Int.add_mul_ediv_left _ _ (Int.ne_of_gt BW_pos)]
  exact ⟨rfl, by omega⟩
theorem Kept.drewN {S : Nat → Prop} {a w : World} (h : Kept S a w) (n : Nat) : Kept S a (w.drewN n) := ⟨h.os, h.tape, h.output, h.size, h.block⟩
/-- What is left of a row that is read where the words below i of the row at its place were written. -/
theorem lies_at {w W : World} {mz oz mx ox : Nat} {L Z : List Int} {T : Int} {t : TypeId} (h : Lies w mz oz mx ox L) (hz : hp w mz = some (.cells (u64s Z) t (0, 0))) {n : Nat} (hn : L.length = n) (hlen : oz + n ≤ Z.length) (hk : Kept (On mz) w W) {i : Nat} (hW : hp W mz = some (.cells (u64s (upd Z oz 0 i T)) t (0, 0))) (hi : i < n) : W.cell? ⟨mx, ox + i, none⟩ = some (.int .u64 (L.getD i 0)) := by
  subst hn
  exact lies_up h hz hlen hk hW i (Nat.le_refl _) hi
set_option maxHeartbeats 3200000 in
set_option maxRecDepth 100000 in
theorem addVV_g_c (mz oz cz mx ox cx my oy cy' : Nat) (Z L M : List Int) (t : TypeId) (w : World) (hz : hp w mz = some (.cells (u64s Z) t (0, 0))) (hlen : oz + L.length ≤ Z.length) (hML : M.length = L.length) (hx : Lies w mz oz mx ox L) (hy : Lies w mz oz my oy M) (hbig : L.length ≤ 100000000) (hL : okd BW L) (hM : okd BW M) :
    Calls Tryz.prog 134 #[.slice (some ⟨mz, oz, none⟩) L.length cz, .slice (some ⟨mx, ox, none⟩) L.length cx, .slice (some ⟨my, oy, none⟩) L.length cy'] w (ShiftPost w mz oz Z L.length (ev BW L + ev BW M) ((ev BW L + ev BW M) / BW ^ L.length) t) := by
  have HT : Aside0 (ev BW L + ev BW M = ev BW (lin 1 L M) + 0) := ⟨by rw [lin_ev hML.symm]; omega⟩
  have HD : Aside0 (∀ i, i < L.length → dg (ev BW L + ev BW M) i = (L.getD i 0 + M.getD i 0 + cy (lin 1 L M) 0 i) % BW ∧ cy (lin 1 L M) 0 (i + 1) = ((L.getD i 0 + M.getD i 0 + cy (lin 1 L M) 0 i) / BW)) := ⟨fun i hi => by
    rw [HT.out, gy_dg, cy_s, lin_get hi (by omega)]
    constructor <;> (congr 1; try omega) <;> (try (congr 1; omega))⟩
  have HR := Aside0.mk (fun i => gy_add hL hM hML.symm i)
  have HE : Aside0 (cy (lin 1 L M) 0 (L.length) = (ev BW L + ev BW M) / BW ^ L.length) := ⟨by rw [HT.out]; have := gy_end (lin 1 L M) 0; rw [lin_len hML.symm] at this; rw [this]⟩
  have HX := Aside0.mk hx
  have HY := Aside0.mk hy
  have HZ := Aside0.mk hz
  have HLO := Aside0.mk hL
  have HMO := Aside0.mk hM
  have HML := Aside0.mk hML
  rw [← HE.out]
  obtain ⟨T, hT⟩ : ∃ T, T = ev BW L + ev BW M := ⟨_, rfl⟩
  rw [← hT] at HD ⊢
  obtain ⟨n, hn⟩ : ∃ n, n = L.length := ⟨_, rfl⟩
  have HN := Aside0.mk hn
  rw [← hn] at hlen hbig HD ⊢
  clear HT HE hx hy hz hL hM hML hT hn
  go_enter Tryz.func134, Tryz.ntmps134
  go_wp2_with (fail)
  go_loopw [6, 25] (fun v6 v25 wr => ∃ (i : Nat) (c : Int), i ≤ n ∧ v25 = .int .i64 (i : Int) ∧ v6 = .int .u64 c ∧ Aside0 (c = cy (lin 1 L M) 0 i) ∧ Aside0 (hp wr mz = some (.cells (u64s (upd Z oz 0 i T)) t (0, 0))) ∧ Aside0 (Kept (On mz) w wr)) (fun _ v _ => n - (intOf v).toNat)
  case atStart => exact ⟨0, 0, by omega, rfl, rfl, ⟨by simp [cy]⟩, ⟨by rw [upd_none _ _ _ _ _ (Nat.le_refl _)]; exact HZ.out⟩, ⟨Kept.refl _ _⟩⟩
  case round =>
    obtain ⟨i, c, hi, rfl, rfl, HC, HO, HK⟩ := hrel
    by_cases hik : i < n
    · have hx1 := lies_at HX.out HZ.out HN.out.symm hlen HK.out HO.out hik
      have hy1 := lies_at HY.out HZ.out (HML.out.trans HN.out.symm) hlen HK.out HO.out hik
      have hc1 := (blk_cell HO.out (oz + i)).trans (u64s_get _ (oz + i) (by rw [upd_len]; omega))
      have hf1 := blk_frozen HO.out (oz + i)
      have hd := HD.out i hik
      rw [← HC.out] at hd
      have hcr := HR.out i
      have hga := okd_get HLO.out BW_pos i
      have hgb := okd_get HMO.out BW_pos i
      obtain ⟨a, ha⟩ : ∃ a, a = L.getD i 0 := ⟨_, rfl⟩
      obtain ⟨b, hb⟩ : ∃ b, b = M.getD i 0 := ⟨_, rfl⟩
      obtain ⟨d, hdd⟩ : ∃ d, d = dg T i := ⟨_, rfl⟩
      obtain ⟨c2, hc2⟩ : ∃ c2, c2 = cy (lin 1 L M) 0 (i + 1) := ⟨_, rfl⟩
      rw [← ha] at hx1 hd hga
      rw [← hb] at hy1 hd hgb
      rw [← hdd, ← hc2] at hd
      have hA := Aside0.mk (fun w => bitsAddc_c a b c d c2 w hga.1 hgb.1 (by have := HC.out; omega) hd.1 hd.2)
      have HDD := Aside0.mk hdd
      have HC2 := Aside0.mk hc2
      have hnx : IntKind.i64.wrap ((i : Int) + 1) = (i : Int) + 1 := IntWalk.i64_in _ (by omega)
      clear hd hga hgb ha hb hdd hc2 hcr HC
      go_upto_region 6 with (fail)
      go_quiet ((go_at_call 135; exact Calls.quiet_of_same (hA.out _)))
      go_wp2_with (fail)
      go_roundw
      case measure => simp [intOf]; omega
      case rel =>
        refine ⟨i + 1, c2, by omega, by simp, rfl, HC2, ⟨?_⟩, ⟨?_⟩⟩
        · rw [hp_here _ _ _ _ _ rfl, hp_drewN, HO.out]
          simp only [Option.map_some, setObj_cells, u64s_set]
          rw [HDD.out, upd_up _ _ _ _ _ (by omega) (by omega)]
        · exact (Kept.drewN HK.out _).setCell (p := ⟨mz, oz + i, none⟩) (.inl rfl) _
    · obtain rfl : i = n := by omega
      clear hik
      go_wp2_with (fail)
      go_ret
      exact ⟨by rw [HC.out, HN.out]; rfl, HO.out, HK.out⟩
set_option maxHeartbeats 3200000 in
set_option maxRecDepth 100000 in
theorem subVV_g_c (mz oz cz mx ox cx my oy cy' : Nat) (Z L M : List Int) (t : TypeId) (w : World) (hz : hp w mz = some (.cells (u64s Z) t (0, 0))) (hlen : oz + L.length ≤ Z.length) (hML : M.length = L.length) (hx : Lies w mz oz mx ox L) (hy : Lies w mz oz my oy M) (hbig : L.length ≤ 100000000) (hL : okd BW L) (hM : okd BW M) :
    Calls Tryz.prog 132 #[.slice (some ⟨mz, oz, none⟩) L.length cz, .slice (some ⟨mx, ox, none⟩) L.length cx, .slice (some ⟨my, oy, none⟩) L.length cy'] w (ShiftPost w mz oz Z L.length (ev BW L - ev BW M) (-((ev BW L - ev BW M) / BW ^ L.length)) t) := by
  have HT : Aside0 (ev BW L - ev BW M = ev BW (lin (-1) L M) + 0) := ⟨by rw [lin_ev hML.symm]; omega⟩
  have HD : Aside0 (∀ i, i < L.length → dg (ev BW L - ev BW M) i = (L.getD i 0 - M.getD i 0 - -cy (lin (-1) L M) 0 i) % BW ∧ -cy (lin (-1) L M) 0 (i + 1) = -(((L.getD i 0 - M.getD i 0 - -cy (lin (-1) L M) 0 i) / BW))) := ⟨fun i hi => by
    rw [HT.out, gy_dg, cy_s, lin_get hi (by omega)]
    constructor <;> (congr 1; try omega) <;> (try (congr 1; omega))⟩
  have HR := Aside0.mk (fun i => gy_sub hL hM hML.symm i)
  have HE : Aside0 (-cy (lin (-1) L M) 0 (L.length) = -((ev BW L - ev BW M) / BW ^ L.length)) := ⟨by rw [HT.out]; have := gy_end (lin (-1) L M) 0; rw [lin_len hML.symm] at this; rw [this]⟩
  have HX := Aside0.mk hx
  have HY := Aside0.mk hy
  have HZ := Aside0.mk hz
  have HLO := Aside0.mk hL
  have HMO := Aside0.mk hM
  have HML := Aside0.mk hML
  rw [← HE.out]
  obtain ⟨T, hT⟩ : ∃ T, T = ev BW L - ev BW M := ⟨_, rfl⟩
  rw [← hT] at HD ⊢
  obtain ⟨n, hn⟩ : ∃ n, n = L.length := ⟨_, rfl⟩
  have HN := Aside0.mk hn
  rw [← hn] at hlen hbig HD ⊢
  clear HT HE hx hy hz hL hM hML hT hn
  go_enter Tryz.func132, Tryz.ntmps132
  go_wp2_with (fail)
  go_loopw [6, 25] (fun v6 v25 wr => ∃ (i : Nat) (c : Int), i ≤ n ∧ v25 = .int .i64 (i : Int) ∧ v6 = .int .u64 c ∧ Aside0 (c = -cy (lin (-1) L M) 0 i) ∧ Aside0 (hp wr mz = some (.cells (u64s (upd Z oz 0 i T)) t (0, 0))) ∧ Aside0 (Kept (On mz) w wr)) (fun _ v _ => n - (intOf v).toNat)
  case atStart => exact ⟨0, 0, by omega, rfl, rfl, ⟨by simp [cy]⟩, ⟨by rw [upd_none _ _ _ _ _ (Nat.le_refl _)]; exact HZ.out⟩, ⟨Kept.refl _ _⟩⟩
  case round =>
    obtain ⟨i, c, hi, rfl, rfl, HC, HO, HK⟩ := hrel
    by_cases hik : i < n
    · have hx1 := lies_at HX.out HZ.out HN.out.symm hlen HK.out HO.out hik
      have hy1 := lies_at HY.out HZ.out (HML.out.trans HN.out.symm) hlen HK.out HO.out hik
      have hc1 := (blk_cell HO.out (oz + i)).trans (u64s_get _ (oz + i) (by rw [upd_len]; omega))
      have hf1 := blk_frozen HO.out (oz + i)
      have hd := HD.out i hik
      rw [← HC.out] at hd
      have hcr := HR.out i
      have hga := okd_get HLO.out BW_pos i
      have hgb := okd_get HMO.out BW_pos i
      obtain ⟨a, ha⟩ : ∃ a, a = L.getD i 0 := ⟨_, rfl⟩
      obtain ⟨b, hb⟩ : ∃ b, b = M.getD i 0 := ⟨_, rfl⟩
      obtain ⟨d, hdd⟩ : ∃ d, d = dg T i := ⟨_, rfl⟩
      obtain ⟨c2, hc2⟩ : ∃ c2, c2 = -cy (lin (-1) L M) 0 (i + 1) := ⟨_, rfl⟩
      rw [← ha] at hx1 hd hga
      rw [← hb] at hy1 hd hgb
      rw [← hdd, ← hc2] at hd
      have hA := Aside0.mk (fun w => bitsSub_c a b c d c2 w hga hgb (by have := HC.out; omega) hd.1 hd.2)
      have HDD := Aside0.mk hdd
      have HC2 := Aside0.mk hc2
      have hnx : IntKind.i64.wrap ((i : Int) + 1) = (i : Int) + 1 := IntWalk.i64_in _ (by omega)
      clear hd hga hgb ha hb hdd hc2 hcr HC
      go_upto_region 6 with (fail)
      go_quiet ((go_at_call 133; exact Calls.quiet_of_same (hA.out _)))
      go_wp2_with (fail)
      go_roundw
      case measure => simp [intOf]; omega
      case rel =>
        refine ⟨i + 1, c2, by omega, by simp, rfl, HC2, ⟨?_⟩, ⟨?_⟩⟩
        · rw [hp_here _ _ _ _ _ rfl, hp_drewN, HO.out]
          simp only [Option.map_some, setObj_cells, u64s_set]
          rw [HDD.out, upd_up _ _ _ _ _ (by omega) (by omega)]
        · exact (Kept.drewN HK.out _).setCell (p := ⟨mz, oz + i, none⟩) (.inl rfl) _
    · obtain rfl : i = n := by omega
      clear hik
      go_wp2_with (fail)
      go_ret
      exact ⟨by rw [HC.out, HN.out]; rfl, HO.out, HK.out⟩
theorem addVV_c (mz oz cz mx ox cx my oy cy' : Nat) (Z L M : List Int) (t : TypeId) (w : World) (hz : hp w mz = some (.cells (u64s Z) t (0, 0))) (hlen : oz + L.length ≤ Z.length) (hML : M.length = L.length) (hx : Lies w mz oz mx ox L) (hy : Lies w mz oz my oy M) (hbig : L.length ≤ 100000000) (hL : okd BW L) (hM : okd BW M) :
    Calls Tryz.prog 112 #[.slice (some ⟨mz, oz, none⟩) L.length cz, .slice (some ⟨mx, ox, none⟩) L.length cx, .slice (some ⟨my, oy, none⟩) L.length cy'] w (ShiftPost w mz oz Z L.length (ev BW L + ev BW M) ((ev BW L + ev BW M) / BW ^ L.length) t) := by
  have H := Aside0.mk (addVV_g_c mz oz cz mx ox cx my oy cy' Z L M t w hz hlen hML hx hy hbig hL hM)
  obtain ⟨T, hT⟩ : ∃ T, T = ev BW L + ev BW M := ⟨_, rfl⟩
  obtain ⟨C, hC⟩ : ∃ C, C = (ev BW L + ev BW M) / BW ^ L.length := ⟨_, rfl⟩
  rw [← hC, ← hT] at H ⊢
  clear hT hC hz hx
  go_enter Tryz.func112, Tryz.ntmps112
  go_wp2_with (go_at_call 134; refine (H.out).mono ?_; rintro e w' ⟨rfl, h1, h2⟩; have H1 := Aside0.mk h1; have H2 := Aside0.mk h2; clear h1 h2)
  go_ret
  exact ⟨rfl, H1.out, H2.out⟩
theorem subVV_c (mz oz cz mx ox cx my oy cy' : Nat) (Z L M : List Int) (t : TypeId) (w : World) (hz : hp w mz = some (.cells (u64s Z) t (0, 0))) (hlen : oz + L.length ≤ Z.length) (hML : M.length = L.length) (hx : Lies w mz oz mx ox L) (hy : Lies w mz oz my oy M) (hbig : L.length ≤ 100000000) (hL : okd BW L) (hM : okd BW M) :
    Calls Tryz.prog 110 #[.slice (some ⟨mz, oz, none⟩) L.length cz, .slice (some ⟨mx, ox, none⟩) L.length cx, .slice (some ⟨my, oy, none⟩) L.length cy'] w (ShiftPost w mz oz Z L.length (ev BW L - ev BW M) (-((ev BW L - ev BW M) / BW ^ L.length)) t) := by
  have H := Aside0.mk (subVV_g_c mz oz cz mx ox cx my oy cy' Z L M t w hz hlen hML hx hy hbig hL hM)
  obtain ⟨T, hT⟩ : ∃ T, T = ev BW L - ev BW M := ⟨_, rfl⟩
  obtain ⟨C, hC⟩ : ∃ C, C = -((ev BW L - ev BW M) / BW ^ L.length) := ⟨_, rfl⟩
  rw [← hC, ← hT] at H ⊢
  clear hT hC hz hx
  go_enter Tryz.func110, Tryz.ntmps110
  go_wp2_with (go_at_call 132; refine (H.out).mono ?_; rintro e w' ⟨rfl, h1, h2⟩; have H1 := Aside0.mk h1; have H2 := Aside0.mk h2; clear h1 h2)
  go_ret
  exact ⟨rfl, H1.out, H2.out⟩
end Go.Proofs.YtfnknldbjckgoaaGreatDoor.Sp
end

/-! ## Nat2 -/
section
namespace Go.Proofs.YtfnknldbjckgoaaGreatDoor.Sp
open Go.RowKit Go.Proofs.YtfnknldbjckgoaaGreatDoorW.PrintWords Go.Proofs.YtfnknldbjckgoaaGreatDoorW.PrintLast Go.Proofs.YtfnknldbjckgoaaGreatDoorW.PrintMore Go.Proofs.YtfnknldbjckgoaaGreatDoor.Dig
set_option linter.unusedVariables false
set_option linter.unusedSimpArgs false

/-- A natural number at the head of a block of P, or nil. -/
def NR (w : World) (P : Nat → Prop) (z : Value) (v : Int) : Prop :=
  (z = .slice none 0 0 ∧ v = 0) ∨ ∃ mb L R, z = .slice (some ⟨mb, 0, none⟩) L.length (L ++ R).length ∧ hp w mb = some (.cells (u64s (L ++ R)) 108 (0, 0)) ∧ okd BW (L ++ R) ∧ Cn BW L ∧ ev BW L = v ∧ P mb ∧ (L ++ R).length ≤ 1000000
theorem NR.nil (w : World) (P : Nat → Prop) : NR w P (.slice none 0 0) 0 := .inl ⟨rfl, rfl⟩
theorem NR.kept {w w' : World} {P S : Nat → Prop} {z : Value} {v : Int} (h : NR w P z v) (hk : Kept S w w') (hT : ∀ i, P i → ¬ S i) : NR w' P z v := by
  rcases h with h | ⟨mb, L, R, h1, h2, h3, h4, h5, h6, h7⟩
  · exact .inl h
  · exact .inr ⟨mb, L, R, h1, hp_kept h2 hk (hT mb h6), h3, h4, h5, h6, h7⟩
theorem NR.below {w w' : World} {P : Nat → Prop} {z : Value} {v : Int} (h : NR w P z v) (hb : Below w.heap.size w w') : NR w' P z v := h.kept (Kept.of_below (S := fun _ => False) hb) (fun _ _ h => h)
theorem NR.mono {w : World} {P Q : Nat → Prop} {z : Value} {v : Int} (h : NR w P z v) (hQ : ∀ i, P i → Q i) : NR w Q z v := by
  rcases h with h | ⟨mb, L, R, h1, h2, h3, h4, h5, h6, h7⟩
  · exact .inl h
  · exact .inr ⟨mb, L, R, h1, h2, h3, h4, h5, hQ mb h6, h7⟩
theorem NR.set {w : World} {P : Nat → Prop} {z : Value} {v : Int} (h : NR w P z v) {p : Addr} (hp : ¬ P p.block) (u : Value) : NR (w.setCell p u) P z v := by
  rcases h with h | ⟨mb, L, R, h1, h2, h3, h4, h5, h6, h7⟩
  · exact .inl h
  · exact .inr ⟨mb, L, R, h1, by rw [hp_other _ _ _ _ (fun e => hp (by rw [e]; exact h6))]; exact h2, h3, h4, h5, h6, h7⟩
theorem NR.dst {w : World} {P : Nat → Prop} {z : Value} {v : Int} (h : NR w P z v) : Dst w z P := by
  rcases h with ⟨rfl, _⟩ | ⟨mb, L, R, h1, h2, h3, h4, h5, h6, h7⟩
  · exact .inl rfl
  · exact .inr ⟨mb, L.length, L ++ R, h1, h2, h3, h6, h7, by simp⟩
theorem row_C {w : World} {mb : Nat} {L R : List Int} {t : TypeId} (h : hp w mb = some (.cells (u64s (L ++ R)) t (0, 0))) (hl : (L ++ R).length ≤ 1000000) : Kd.C (Kd.int .u64) w (some ⟨mb, 0, none⟩) L.length L := by
  rw [List.length_append] at hl
  refine blk_C _ h 0 (by omega) (fun i hi => ?_)
  rw [Nat.zero_add, u64s_get _ i (by rw [List.length_append]; omega)]
  simp only [List.getD_eq_getElem?_getD, List.getElem?_append_left hi]
theorem NR.wd {w : World} {P : Nat → Prop} {z : Value} {v : Int} (h : NR w P z v) : Wd w z v := by
  rcases h with ⟨rfl, rfl⟩ | ⟨mb, L, R, h1, h2, h3, h4, h5, h6, h7⟩
  · exact ⟨none, 0, [], rfl, Nat.le_refl _, Kd.C_nil _ _, Cn_nil _, ev_nil _⟩
  · exact ⟨_, _, L, h1, by simp, row_C h2 h7, h4, h5⟩
theorem NR.slice {w : World} {P : Nat → Prop} {z : Value} {v : Int} (h : NR w P z v) : ∃ A n c, z = .slice A n c := by
  rcases h with ⟨rfl, _⟩ | ⟨mb, L, R, h1, _⟩
  · exact ⟨_, _, _, rfl⟩
  · exact ⟨_, _, _, h1⟩
/-- What 'make' leaves: the destination's own block as it is, or a new one. -/
def Make2 (w : World) (z : Value) (n : Nat) (e : Ending) (w' : World) : Prop :=
  (∃ mz nz c, z = .slice (some ⟨mz, 0, none⟩) nz c ∧ n ≤ c ∧ e = .returned (.slice (some ⟨mz, 0, none⟩) n c) ∧ w = w') ∨
  (∃ c, e = .returned (.slice (some ⟨w.heap.size, 0, none⟩) n c) ∧ n ≤ c ∧ c ≤ 1000000 ∧ hp w' w.heap.size = some (.cells (u64s (List.replicate c 0)) 108 (0, 0)) ∧ Below w.heap.size w w')
set_option maxHeartbeats 1600000 in
set_option maxRecDepth 100000 in
theorem make2_c (z : Value) (S : Nat → Prop) (n : Nat) (w : World) (h : Dst w z S) (h1 : 1 ≤ n) (h2 : n ≤ 900000) :
    Calls Tryz.prog 94 #[z, .int .i64 (n : Int)] w (Make2 w z n) := by
  rcases h with rfl | ⟨mz, nz, Z, rfl, hz, hok, hS, hmax, hnz⟩
  · refine (make_nil (n : Int) (by omega) (by omega) w).mono ?_
    rintro e w' ⟨c, hc1, hc2, rfl, rfl⟩
    rw [Int.toNat_natCast] at *
    exact .inr ⟨c, rfl, by omega, by omega, hp_new _ _ _ rfl, below_alloc (Below.refl _ _) _⟩
  · by_cases hle : n ≤ Z.length
    · have hle2 : decide (n ≤ Z.length) = true := decide_eq_true hle
      clear hz hok hS
      go_enter Tryz.func94, Tryz.ntmps94
      go_wp2_with (fail)
      go_ret
      exact .inl ⟨mz, nz, Z.length, rfl, hle, rfl, rfl⟩
    · have hle2 : decide (n ≤ Z.length) = false := decide_eq_false hle
      by_cases hn : n = 1
      · subst hn
        have hmk := make_ints 81 108 .u64 8 Tryz.underlying81 infoWord (by omega) 1 1 (by omega) (by omega) (by omega)
        clear hz hok hS
        go_enter Tryz.func94, Tryz.ntmps94
        go_wp2
        go_ret
        exact .inr ⟨1, rfl, Nat.le_refl _, by omega, hp_new _ _ _ rfl, below_alloc (Below.refl _ _) _⟩
      · have hb : ((n : Int) == 1) = false := by rw [beq_eq_false_iff_ne]; omega
        have hmk := make_ints 81 108 .u64 8 Tryz.underlying81 infoWord (by omega) (n : Int) ((n : Int) + 4) (by omega) (by omega) (by omega)
        clear hz hok hS
        go_enter Tryz.func94, Tryz.ntmps94
        go_wp2
        go_ret
        have e1 : ((n : Int) + 4).toNat = n + 4 := by omega
        refine .inr ⟨n + 4, ?_, by omega, by omega, by rw [hp_new _ _ _ rfl, ← u64s_rep], below_alloc (Below.refl _ _) _⟩
        simp [e1]
/-- A row of words that is read: not in S, or at the head of z's own block. -/
def Rd (w : World) (S : Nat → Prop) (z x : Value) (L : List Int) : Prop :=
  ∃ mx ox c, x = .slice (some ⟨mx, ox, none⟩) L.length c ∧ L.length ≤ c ∧ (∀ j, j < L.length → w.cell? ⟨mx, ox + j, none⟩ = some (.int .u64 (L.getD j 0))) ∧ okd BW L ∧ mx < w.heap.size ∧ (¬ S mx ∨ (ox = 0 ∧ ∃ n k, z = .slice (some ⟨mx, 0, none⟩) n k))
theorem row_at {w : World} {mb : Nat} {L R : List Int} {t : TypeId} (h : hp w mb = some (.cells (u64s (L ++ R)) t (0, 0))) (j : Nat) (hj : j < L.length) : w.cell? ⟨mb, j, none⟩ = some (.int .u64 (L.getD j 0)) := by
  rw [blk_cell h j, u64s_get _ j (by rw [List.length_append]; omega)]
  simp only [List.getD_eq_getElem?_getD, List.getElem?_append_left hj]
/-- A natural number that is read. -/
theorem NR.rd {w : World} {P S : Nat → Prop} {z x : Value} {v : Int} (h : NR w P x v) (h0 : 0 < v) (hS : (∀ i, P i → ¬ S i) ∨ z = x) : ∃ L, Rd w S z x L ∧ Cn BW L ∧ ev BW L = v ∧ 0 < L.length ∧ L.length ≤ 1000000 := by
  rcases h with ⟨_, h⟩ | ⟨mb, L, R, h1, h2, h3, h4, h5, h6, h7⟩
  · omega
  · have hl : 0 < L.length := by
      rcases Nat.eq_zero_or_pos L.length with h | h
      · rw [List.eq_nil_of_length_eq_zero h, ev_nil] at h5; omega
      · exact h
    refine ⟨L, ⟨mb, 0, _, h1, by simp, fun j hj => by rw [Nat.zero_add]; exact row_at h2 j hj, (okd_append.1 h3).1, hp_lt h2, ?_⟩, h4, h5, hl, by rw [List.length_append] at h7; omega⟩
    rcases hS with h | h
    · exact .inl (h mb h6)
    · exact .inr ⟨rfl, _, _, h.trans h1⟩
/-- What 'make' leaves, next to a row that is read. -/
theorem make_dst {w w1 : World} {z : Value} {S : Nat → Prop} {n : Nat} {e : Ending} (h : Dst w z S) (hm : Make2 w z n e w1) : ∃ mb Z, e = .returned (.slice (some ⟨mb, 0, none⟩) n Z.length) ∧ n ≤ Z.length ∧ Z.length ≤ 1000000 ∧ (S mb ∨ mb = w.heap.size) ∧ hp w1 mb = some (.cells (u64s Z) 108 (0, 0)) ∧ okd BW Z ∧ Below w.heap.size w w1 ∧ (mb = w.heap.size ∨ (w1 = w ∧ mb < w.heap.size ∧ ∃ nz k, z = .slice (some ⟨mb, 0, none⟩) nz k)) := by
  rcases hm with ⟨mz, nz, c, h1, h2, h3, rfl⟩ | ⟨c, h1, h2, h3, h4, h5⟩
  · rcases h with h | ⟨mz', nz', Z, h4, h5, h6, h7, h8, h9⟩
    · rw [h] at h1; injection h1 with e1; cases e1
    · rw [h4] at h1
      injection h1 with e1 e2 e3
      injection e1 with e1
      injection e1 with e1
      subst e1 e3
      exact ⟨mz', Z, h3, h2, h8, .inl h7, h5, h6, Below.refl _ _, .inr ⟨rfl, hp_lt h5, nz', _, h4⟩⟩
  · refine ⟨w.heap.size, List.replicate c 0, by rw [List.length_replicate]; exact h1, by simpa using h2, by simpa using h3, .inr rfl, h4, okd_replicate _ BW_pos, h5, .inl rfl⟩
theorem rd_lies {w w1 : World} {z x : Value} {S : Nat → Prop} {mb : Nat} {L : List Int} (hr : Rd w S z x L) (hb : Below w.heap.size w w1) (hS : S mb ∨ mb = w.heap.size) (hm : mb = w.heap.size ∨ (w1 = w ∧ mb < w.heap.size ∧ ∃ nz k, z = .slice (some ⟨mb, 0, none⟩) nz k)) : ∃ mx ox c, x = .slice (some ⟨mx, ox, none⟩) L.length c ∧ L.length ≤ c ∧ Lies w1 mb 0 mx ox L ∧ mx < w.heap.size := by
  obtain ⟨mx, ox, c, h1, h2, h3, h4, h5, h6⟩ := hr
  refine ⟨mx, ox, c, h1, h2, ⟨fun j hj => by rw [hb.cell (p := ⟨mx, ox + j, none⟩) h5]; exact h3 j hj, ?_⟩, h5⟩
  rcases hm with rfl | ⟨rfl, h7, nz, k, h8⟩
  · exact .inl (by omega)
  · rcases h6 with h6 | ⟨h6, n', k', h9⟩
    · left
      rintro rfl
      rcases hS with h | h
      · exact h6 h
      · omega
    · right
      rw [h8] at h9
      injection h9 with e1
      injection e1 with e1
      injection e1 with e1
      exact ⟨e1.symm, h6⟩
/-- The head of a block that was written, without the noughts at its end. -/
theorem NR.of_strip {w : World} {P : Nat → Prop} {mb n c : Nat} {X : List Int} {v : Int} (h : hp w mb = some (.cells (u64s X) 108 (0, 0))) (hok : okd BW X) (hn : n ≤ X.length) (hv : ev BW (X.take n) = v) (hP : P mb) (hc : c = X.length) (hl : X.length ≤ 1000000) : NR w P (.slice (some ⟨mb, 0, none⟩) (strip (X.take n)).length c) v := by
  obtain ⟨h1, h2, k, h3, h4⟩ := strip_cn (X.take n) (okd_take hok n)
  rw [List.length_take] at h3
  have hk : strip (X.take n) = X.take k := by rw [h4, List.take_take, Nat.min_eq_left (by omega)]
  refine .inr ⟨mb, strip (X.take n), X.drop (strip (X.take n)).length, ?_⟩
  have hkl : (X.take k).length = k := by rw [List.length_take]; omega
  have hX : strip (X.take n) ++ X.drop (strip (X.take n)).length = X := by rw [hk, hkl, List.take_append_drop]
  rw [hX]
  exact ⟨by rw [hc], h, hok, h1, by rw [h2, hv], hP, hl⟩
end Go.Proofs.YtfnknldbjckgoaaGreatDoor.Sp
end

/-! ## DivC -/
section
namespace Go.Proofs.YtfnknldbjckgoaaGreatDoor.Sp
open Go.RowKit Go.Proofs.YtfnknldbjckgoaaGreatDoorW.PrintWords Go.Proofs.YtfnknldbjckgoaaGreatDoorW.PrintLast Go.Proofs.YtfnknldbjckgoaaGreatDoorW.PrintMore Go.Proofs.YtfnknldbjckgoaaGreatDoor.Dig
set_option linter.unusedVariables false
set_option linter.unusedSimpArgs false
theorem lz64_c (x : Int) (t : Nat) (w : World) (hx : 0 ≤ x ∧ x < BW) (ht : Bits x t) : Calls Tryz.prog 222 #[.int .u64 x] w fun e w' => e = .returned (.int .i64 ((64 - t : Nat) : Int)) ∧ w' = w := by
  have h1 := Sh.bits_LeadingZeros64 x w hx.1 (by have := BW_def; omega)
  have ht2 : Lib.bitLen x.toNat = t := (bitLen_int hx.1 hx.2).uniq ht
  have hle : t ≤ 64 := ht.le (by rw [← BW_two]; exact hx.2)
  rw [ht2, show (64 - (t : Int)) = ((64 - t : Nat) : Int) by omega] at h1
  exact h1
/-- What a word is joined of, where the shift may be none. -/
theorem or_shl' (a b : Int) (s : Nat) (hs : s < 64) (ha : 0 ≤ a ∧ a < BW) (hb : 0 ≤ b ∧ b < BW) (hab : a * 2 ^ s < BW) : Go.bits .or .u64 (IntKind.u64.wrap (a * 2 ^ s)) (b / 2 ^ (64 - s)) = a * 2 ^ s + b / 2 ^ (64 - s) := by
  by_cases h0 : s = 0
  · subst h0
    have e1 : b / 2 ^ (64 - 0) = 0 := by rw [Nat.sub_zero, ← BW_two]; exact Int.ediv_eq_zero_of_lt hb.1 hb.2
    rw [e1, Int.pow_zero, Int.mul_one, wrap_u64 ha.1 (by rw [← BW_def]; exact ha.2), Int.add_zero]
    have := or64_join 0 a 0 ha.1 (by simp [Int.emod_one]) (by rw [← BW_def]; exact ha.2) (Int.le_refl _) (by decide) (by decide)
    rw [or64_comm _ _ (Int.le_refl _) (by decide) ha.1 (by rw [← BW_def]; exact ha.2)] at this
    rw [this, Int.zero_add]
  · rw [or_shl a b s (by omega) ha hb, Int.emod_eq_of_lt (Int.mul_nonneg ha.1 (Int.le_of_lt (tp s))) hab]
theorem mask32 (x : Int) (h0 : 0 ≤ x) (h1 : x < BW) : Go.bits .and .u64 x 4294967295 = x % 4294967296 := by
  have := BW_def
  rw [u64_and _ _ (by omega) (by omega) (by omega) (by omega)]
  show ((x.toNat &&& 4294967295 : Nat) : Int) = _
  rw [nat_mask32]
  omega
theorem div64_scale {hi lo u l : Int} {s : Nat} (hs : s ≤ 64) (hu : u = hi * 2 ^ s + lo / 2 ^ (64 - s)) (hlw : l = lo * 2 ^ s % BW) : (hi * BW + lo) * 2 ^ s = u * BW + l := by
  have h1 := Int.emod_add_mul_ediv (lo * 2 ^ s) BW
  have h2 : lo * 2 ^ s / BW = lo / 2 ^ (64 - s) := by
    rw [← two64 s hs, Int.mul_comm (2 ^ s) (2 ^ (64 - s)), Int.mul_ediv_mul_of_pos_left _ _ (tp s)]
  rw [h2, ← hlw] at h1
  rw [Int.add_mul, ← h1, hu, Int.add_mul, Int.mul_right_comm, Int.mul_comm BW]
  omega
theorem div64_fin {hi lo y u l Y T1 T2 r1 : Int} {s : Nat} (hs : s ≤ 64) (hy : 0 < y) (hY : Y = y * 2 ^ s) (hu : u = hi * 2 ^ s + lo / 2 ^ (64 - s)) (hlw : l = lo * 2 ^ s % BW) (hl0 : 0 ≤ l)
    (hT1 : T1 = (u * 4294967296 + l / 4294967296) / Y) (hr1 : r1 = u * 4294967296 + l / 4294967296 - T1 * Y) (hT2 : T2 = (r1 * 4294967296 + l % 4294967296) / Y) :
    T1 * 4294967296 + T2 = (hi * BW + lo) / y ∧ r1 * 4294967296 + l % 4294967296 - T2 * Y = (hi * BW + lo) % y * 2 ^ s := by
  have hY0 : 0 < Y := by rw [hY]; exact Int.mul_pos hy (tp s)
  have h := two_steps (B := 4294967296) (u := u) (y := Y) (u1 := l / 4294967296) (u0 := l % 4294967296) (q1 := T1) (q0 := T2) (r1 := r1) (by omega) hY0 (by omega) hT1 hr1 hT2
  have e : u * 4294967296 * 4294967296 + l / 4294967296 * 4294967296 + l % 4294967296 = (hi * BW + lo) * 2 ^ s := by
    rw [div64_scale hs hu hlw, BW_def]
    omega
  rw [e, hY, Int.mul_ediv_mul_of_pos_left _ _ (tp s)] at h
  obtain ⟨z, hz⟩ : ∃ z, z = hi * BW + lo := ⟨_, rfl⟩
  rw [← hz] at h ⊢
  have e2 : z * 2 ^ s % (y * 2 ^ s) = z % y * 2 ^ s := by rw [Int.mul_comm z, Int.mul_comm y, Int.mul_emod_mul_of_pos _ _ (tp s), Int.mul_comm]
  rw [e2] at h
  rw [hY]
  exact ⟨h.1.symm, h.2.symm⟩
theorem est_w {u y1 y0 u1 : Int} (h : EstH 4294967296 u y1 y0 u1) : IntKind.u64.wrap (u - IntKind.u64.wrap (u / y1 * y1)) = u - u / y1 * y1 ∧ u - u / y1 * y1 < 4294967296 := by
  have hy1 : 0 < y1 := by have := h.y1h; omega
  have hm := Int.emod_add_mul_ediv u y1
  have hr0 := Int.emod_nonneg u (Int.ne_of_gt hy1)
  have hr1 := Int.emod_lt_of_pos u hy1
  have e1 : u / y1 * y1 = y1 * (u / y1) := Int.mul_comm ..
  have h1 := h.u0
  have h2 := h.ul
  have h3 := h.y1l
  have h4 := h.y0l
  have h5 : 0 ≤ u / y1 * y1 := Int.mul_nonneg (Int.ediv_nonneg h1 (Int.le_of_lt hy1)) (Int.le_of_lt hy1)
  have h6 : IntKind.u64.wrap (u / y1 * y1) = u / y1 * y1 := wrap_u64 h5 (by omega)
  rw [h6, wrap_u64 (by omega) (by omega)]
  exact ⟨rfl, by omega⟩
set_option maxHeartbeats 3200000 in
set_option maxRecDepth 100000 in
theorem bitsDiv64_c (hi lo y : Int) (w : World) (hh : 0 < hi ∧ hi < y) (hl : 0 ≤ lo ∧ lo < BW) (hy : y < BW) :
    Calls Tryz.prog 217 #[.int .u64 hi, .int .u64 lo, .int .u64 y] w fun e w' => e = .returned (.tuple #[.int .u64 ((hi * BW + lo) / y), .int .u64 ((hi * BW + lo) % y)]) ∧ w' = w := by
  obtain ⟨t, ht⟩ := Bits.exists y (by omega)
  have htp := ht.pos (by omega)
  have hle : t ≤ 64 := ht.le (by rw [← BW_two]; exact hy)
  obtain ⟨s, hs⟩ : ∃ s, s = 64 - t := ⟨_, rfl⟩
  have HLZ := Aside0.mk (fun w => lz64_c y t w ⟨by omega, hy⟩ ht)
  rw [← hs] at HLZ
  have hs64 : s < 64 := by omega
  obtain ⟨Y, hY⟩ : ∃ Y, Y = y * 2 ^ s := ⟨_, rfl⟩
  have hYl : Y < 18446744073709551616 := by
    have := Int.mul_lt_mul_of_pos_right ht.2.1 (tp s)
    rw [← Int.pow_add, show t + s = 64 by omega, ← BW_two, BW_def, ← hY] at this
    exact this
  have hYh : 9223372036854775808 ≤ Y := by
    rcases ht.2.2 with h | h
    · omega
    · have := Int.mul_le_mul_of_nonneg_right h (Int.le_of_lt (tp s))
      rw [← Int.pow_add, show t - 1 + s = 63 by omega, ← hY] at this
      exact this
  have hhy := Int.mul_le_mul_of_nonneg_right (show hi + 1 ≤ y by omega) (Int.le_of_lt (tp s))
  rw [Int.add_mul, Int.one_mul, ← hY] at hhy
  have hlo : lo / 2 ^ (64 - s) < 2 ^ s := by
    apply Int.ediv_lt_of_lt_mul (tp _)
    rw [two64 s (by omega)]; exact hl.2
  have hlo0 : 0 ≤ lo / 2 ^ (64 - s) := Int.ediv_nonneg hl.1 (Int.le_of_lt (tp _))
  have hB := BW_def
  have hor := or_shl' hi lo s hs64 ⟨by omega, by omega⟩ hl (by omega)
  obtain ⟨u, hu⟩ : ∃ u, u = hi * 2 ^ s + lo / 2 ^ (64 - s) := ⟨_, rfl⟩
  obtain ⟨l, hlw⟩ : ∃ l, l = lo * 2 ^ s % BW := ⟨_, rfl⟩
  have hwl : IntKind.u64.wrap (lo * 2 ^ s) = l := by rw [IntKind.wrap_u64, hlw, hB]
  have hwy : IntKind.u64.wrap (y * 2 ^ s) = Y := by rw [← hY]; exact wrap_u64 (by omega) hYl
  have hl0 : 0 ≤ l := by rw [hlw]; exact Int.emod_nonneg _ (by omega)
  have hl1 : l < BW := by rw [hlw]; exact Int.emod_lt_of_pos _ (by omega)
  have hu0 : 0 ≤ u := by rw [hu]; have := Int.mul_nonneg (show 0 ≤ hi by omega) (Int.le_of_lt (tp s)); omega
  have huY : u < Y := by rw [hu]; omega
  rw [← hu] at hor
  have hm1 := mask32 Y (by omega) (by omega)
  have hm2 := mask32 l hl0 hl1
  obtain ⟨y1, hy1⟩ : ∃ y1, y1 = Y / 4294967296 := ⟨_, rfl⟩
  obtain ⟨y0, hy0⟩ : ∃ y0, y0 = Y % 4294967296 := ⟨_, rfl⟩
  obtain ⟨l1, hl1'⟩ : ∃ l1, l1 = l / 4294967296 := ⟨_, rfl⟩
  obtain ⟨l0, hl0'⟩ : ∃ l0, l0 = l % 4294967296 := ⟨_, rfl⟩
  have hh0 : (hi == 0) = false := by rw [beq_eq_false_iff_ne]; omega
  have hyz : (y == 0) = false := by rw [beq_eq_false_iff_ne]; omega
  have HWL := Aside0.mk hlw
  have HU := Aside0.mk hu
  have HY := Aside0.mk hY
  clear hs ht htp hle hhy hlo hlo0 hlw hu hY hB
  have hd64 : (64 - (s : Int)) = ((64 - s : Nat) : Int) := by omega
  go_enter Tryz.func217, Tryz.ntmps217
  go_upto_block 0 with (go_at_call 222; refine (HLZ.out _).mono ?_; rintro e w' ⟨rfl, rfl⟩)
  have HH : Aside0 (EstH 4294967296 u (Y / 4294967296) (Y % 4294967296) (l / 4294967296)) := ⟨by have := BW_def; constructor <;> omega⟩
  have HS1 := Aside0.mk (Est.start HH.out)
  obtain ⟨T1, hT1⟩ : ∃ T1, T1 = (u * 4294967296 + l / 4294967296) / (Y / 4294967296 * 4294967296 + Y % 4294967296) := ⟨_, rfl⟩
  have HT1 := Aside0.mk hT1
  go_cut [15] (fun v15 wx => v15 = .int .u64 T1 ∧ w' = wx)
  case first =>
    go_wp2_with (fail)
    go_loop [15, 16] (fun v15 v16 => ∃ q r : Int, v15 = .int .u64 q ∧ v16 = .int .u64 r ∧ Aside0 (Est 4294967296 u (Y / 4294967296) (Y % 4294967296) (l / 4294967296) q r) ∧ r < 4294967296) (fun _ v => (4294967296 - intOf v).toNat)
    case atStart => exact ⟨_, _, rfl, rfl, ⟨by rw [(est_w HH.out).1]; exact HS1.out⟩, by rw [(est_w HH.out).1]; exact (est_w HH.out).2⟩
    case round =>
      obtain ⟨q, r, rfl, rfl, HE, hr⟩ := hrel
      have hsm := HE.out.small HH.out hr
      have hr0 := HE.out.r0
      have hqB := HE.out.le
      have hC1 : IntKind.u64.wrap (4294967296 * r) = 4294967296 * r := wrap_u64 (by omega) (by omega)
      have hC2 : IntKind.u64.wrap (4294967296 * r + (l / 4294967296)) = 4294967296 * r + (l / 4294967296) := wrap_u64 (by omega) (by omega)
      obtain ⟨a, ha⟩ : ∃ a, a = q * (Y % 4294967296) := ⟨_, rfl⟩
      rw [← ha] at hsm
      have hA1 : IntKind.u64.wrap (q * (Y % 4294967296)) = a := by rw [← ha]; exact wrap_u64 hsm.2.1 (by omega)
      have HA := Aside0.mk ha
      have hr3 : IntKind.u64.wrap (r + Y / 4294967296) = r + Y / 4294967296 := wrap_u64 (by omega) (by omega)
      by_cases hc : 4294967296 ≤ q ∨ 4294967296 * r + (l / 4294967296) < a
      · have HN := Aside0.mk (HE.out.next HH.out (by rcases hc with h | h; exact .inl h; exact .inr (by rw [← HA.out]; exact h)))
        have hq1 : IntKind.u64.wrap (q - 1) = q - 1 := wrap_u64 (by have := HN.out.ge; have := HH.out.q; omega) (by omega)
        clear hsm ha
        by_cases hb : 4294967296 ≤ r + Y / 4294967296
        · have HT := Aside0.mk (HN.out.brk HH.out (by omega) hb)
          rcases Int.lt_or_le q 4294967296 with hq | hq
          all_goals
            go_wp2_with (fail)
            all_goals first | (exfalso; omega) | skip
            go_meet
            case rel => exact ⟨by rw [HT.out, HT1.out], rfl⟩
        · rcases Int.lt_or_le q 4294967296 with hq | hq
          all_goals
            go_wp2_with (fail)
            all_goals first | (exfalso; omega) | skip
            go_round
            case rel => exact ⟨q - 1, r + Y / 4294967296, rfl, rfl, HN, by omega⟩
            case measure => simp [intOf]; omega
      · have HT := Aside0.mk (HE.out.stop HH.out (by rw [← HA.out]; omega))
        have hq : q < 4294967296 := by omega
        clear hsm ha
        go_wp2_with (fail)
        all_goals first | (exfalso; omega) | skip
        go_meet
        case rel => exact ⟨by rw [HT.out, HT1.out], rfl⟩
  case rest =>
    obtain ⟨rfl, rfl⟩ := hcut
    have hTq := HH.out.q
    have hTt := HH.out.t
    rw [← hT1] at hTq hTt
    have hYY : Y / 4294967296 * 4294967296 + Y % 4294967296 = Y := by omega
    rw [hYY] at hT1 hTt
    have hdm := Int.emod_add_mul_ediv (u * 4294967296 + l / 4294967296) Y
    have hdr := Int.emod_lt_of_pos (u * 4294967296 + l / 4294967296) (show 0 < Y by omega)
    rw [← hT1, Int.mul_comm Y T1] at hdm
    obtain ⟨r1, hr1⟩ : ∃ r1, r1 = u * 4294967296 + l / 4294967296 - T1 * Y := ⟨_, rfl⟩
    obtain ⟨a, ha⟩ : ∃ a, a = T1 * Y := ⟨_, rfl⟩
    rw [← ha] at hdm hr1 hTt
    have hr10 : 0 ≤ r1 ∧ r1 < Y := by omega
    have hw1 : IntKind.u64.wrap (IntKind.u64.wrap (IntKind.u64.wrap (u * 4294967296) + l / 4294967296) - IntKind.u64.wrap (T1 * Y)) = r1 := by
      rw [← ha]
      simp only [IntKind.wrap_u64]
      omega
    have HR1 := Aside0.mk hr1
    have HAA := Aside0.mk ha
    clear hdm hdr hTt hTq hT1 hr1 ha hYY HS1
    have HH2 : Aside0 (EstH 4294967296 r1 (Y / 4294967296) (Y % 4294967296) (l % 4294967296)) := ⟨by have := BW_def; constructor <;> omega⟩
    have HS2 := Aside0.mk (Est.start HH2.out)
    go_upto_block 2 with (fail)
    obtain ⟨T2, hT2⟩ : ∃ T2, T2 = (r1 * 4294967296 + l % 4294967296) / (Y / 4294967296 * 4294967296 + Y % 4294967296) := ⟨_, rfl⟩
    have HT2 := Aside0.mk hT2
    clear hT2
    go_cut [18] (fun v18 wx => v18 = .int .u64 T2 ∧ w' = wx)
    case first =>
      go_wp2_with (fail)
      go_loop [18, 16] (fun v18 v16 => ∃ q r : Int, v18 = .int .u64 q ∧ v16 = .int .u64 r ∧ Aside0 (Est 4294967296 r1 (Y / 4294967296) (Y % 4294967296) (l % 4294967296) q r) ∧ r < 4294967296) (fun _ v => (4294967296 - intOf v).toNat)
      case atStart => exact ⟨_, _, rfl, rfl, ⟨by rw [(est_w HH2.out).1]; exact HS2.out⟩, by rw [(est_w HH2.out).1]; exact (est_w HH2.out).2⟩
      case round =>
        obtain ⟨q, r, rfl, rfl, HE, hr⟩ := hrel
        have hsm := HE.out.small HH2.out hr
        have hr0 := HE.out.r0
        have hqB := HE.out.le
        have hC1 : IntKind.u64.wrap (4294967296 * r) = 4294967296 * r := wrap_u64 (by omega) (by omega)
        have hC2 : IntKind.u64.wrap (4294967296 * r + (l % 4294967296)) = 4294967296 * r + (l % 4294967296) := wrap_u64 (by omega) (by omega)
        obtain ⟨a, ha⟩ : ∃ a, a = q * (Y % 4294967296) := ⟨_, rfl⟩
        rw [← ha] at hsm
        have hA1 : IntKind.u64.wrap (q * (Y % 4294967296)) = a := by rw [← ha]; exact wrap_u64 hsm.2.1 (by omega)
        have HA := Aside0.mk ha
        have hr3 : IntKind.u64.wrap (r + Y / 4294967296) = r + Y / 4294967296 := wrap_u64 (by omega) (by omega)
        by_cases hc : 4294967296 ≤ q ∨ 4294967296 * r + (l % 4294967296) < a
        · have HN := Aside0.mk (HE.out.next HH2.out (by rcases hc with h | h; exact .inl h; exact .inr (by rw [← HA.out]; exact h)))
          have hq1 : IntKind.u64.wrap (q - 1) = q - 1 := wrap_u64 (by have := HN.out.ge; have := HH2.out.q; omega) (by omega)
          clear hsm ha
          by_cases hb : 4294967296 ≤ r + Y / 4294967296
          · have HT := Aside0.mk (HN.out.brk HH2.out (by omega) hb)
            rcases Int.lt_or_le q 4294967296 with hq | hq
            all_goals
              go_wp2_with (fail)
              all_goals first | (exfalso; omega) | skip
              go_meet
              case rel => exact ⟨by rw [HT.out, HT2.out], rfl⟩
          · rcases Int.lt_or_le q 4294967296 with hq | hq
            all_goals
              go_wp2_with (fail)
              all_goals first | (exfalso; omega) | skip
              go_round
              case rel => exact ⟨q - 1, r + Y / 4294967296, rfl, rfl, HN, by omega⟩
              case measure => simp [intOf]; omega
        · have HT := Aside0.mk (HE.out.stop HH2.out (by rw [← HA.out]; omega))
          have hq : q < 4294967296 := by omega
          clear hsm ha
          go_wp2_with (fail)
          all_goals first | (exfalso; omega) | skip
          go_meet
          case rel => exact ⟨by rw [HT.out, HT2.out], rfl⟩
    case rest =>
      obtain ⟨rfl, rfl⟩ := hcut
      go_wp2_with (fail)
      go_ret2
      have hyy : Y / 4294967296 * 4294967296 + Y % 4294967296 = Y := by omega
      have hT2q := HH2.out.q
      have hT2t := HH2.out.t
      have hT1q := HH.out.q
      have h1 := HT1.out
      have h2 := HT2.out
      rw [← h2] at hT2q hT2t
      rw [← h1] at hT1q
      rw [hyy] at h1 h2 hT2t
      have hf := div64_fin (hi := hi) (lo := lo) (y := y) (s := s) (by omega) (by omega) HY.out HU.out HWL.out hl0 h1 (by rw [← HAA.out]; exact HR1.out) h2
      have hrl : 0 ≤ (hi * BW + lo) % y * 2 ^ s := Int.mul_nonneg (Int.emod_nonneg _ (by omega)) (Int.le_of_lt (tp s))
      obtain ⟨b, hb⟩ : ∃ b, b = T2 * Y := ⟨_, rfl⟩
      rw [← hb] at hf hT2t
      have hr2 : r1 * 4294967296 + l % 4294967296 - b < Y := by
        have := Int.emod_lt_of_pos (r1 * 4294967296 + l % 4294967296) (show 0 < Y by omega)
        have e2 := Int.emod_add_mul_ediv (r1 * 4294967296 + l % 4294967296) Y
        rw [← h2, Int.mul_comm Y T2, ← hb] at e2
        omega
      have w1 : IntKind.u64.wrap (IntKind.u64.wrap (T1 * 4294967296) + T2) = T1 * 4294967296 + T2 := by
        simp only [IntKind.wrap_u64]
        omega
      have w2 : IntKind.u64.wrap (IntKind.u64.wrap (IntKind.u64.wrap (r1 * 4294967296) + l % 4294967296) - IntKind.u64.wrap (T2 * Y)) = r1 * 4294967296 + l % 4294967296 - b := by
        rw [← hb]
        simp only [IntKind.wrap_u64]
        omega
      refine ⟨?_, rfl⟩
      rw [← hf.1, ← w1, show (hi * BW + lo) % y = (r1 * 4294967296 + l % 4294967296 - b) / 2 ^ s by rw [hf.2, Int.mul_ediv_cancel _ (Int.ne_of_gt (tp s))], ← w2]
      rfl
/-! ### printed by gendivc.py -/
set_option maxHeartbeats 3200000 in
set_option maxRecDepth 100000 in
theorem bitsDiv64_0 (lo y : Int) (w : World) (hl : 0 ≤ lo ∧ lo < BW) (hy0 : 0 < y) (hy : y < BW) :
    Calls Tryz.prog 217 #[.int .u64 0, .int .u64 lo, .int .u64 y] w fun e w' => e = .returned (.tuple #[.int .u64 (lo / y), .int .u64 (lo % y)]) ∧ ∃ n, w' = w.drewN n := by
  have hyz : (y == 0) = false := by rw [beq_eq_false_iff_ne]; omega
  have hyl : decide (y ≤ 0) = false := decide_eq_false (by omega)
  have hl0 := hl.1
  have hqw : IntKind.u64.wrap (lo.tdiv y) = lo / y := by
    rw [Int.tdiv_eq_ediv_of_nonneg hl0]
    exact wrap_u64 (Int.ediv_nonneg hl0 (by omega)) (by have := Int.ediv_le_self y hl0; have := BW_def; omega)
  clear hl hy
  go_enter Tryz.func217, Tryz.ntmps217
  go_wp2_with (fail)
  go_quiet (fail)
  go_wp2_with (fail)
  go_ret2
  exact ⟨rfl, _, rfl⟩
set_option maxHeartbeats 3200000 in
set_option maxRecDepth 100000 in
theorem bitsDiv_c (hi lo y : Int) (w : World) (hh : 0 ≤ hi ∧ hi < y) (hl : 0 ≤ lo ∧ lo < BW) (hy : y < BW) :
    Calls Tryz.prog 192 #[.int .u64 hi, .int .u64 lo, .int .u64 y] w fun e w' => e = .returned (.tuple #[.int .u64 ((hi * BW + lo) / y), .int .u64 ((hi * BW + lo) % y)]) ∧ ∃ n, w' = w.drewN n := by
  have hB : Aside0 (∀ w, Calls Tryz.prog 217 #[.int .u64 hi, .int .u64 lo, .int .u64 y] w fun e w' => e = .returned (.tuple #[.int .u64 ((hi * BW + lo) / y), .int .u64 ((hi * BW + lo) % y)]) ∧ ∃ n, w' = w.drewN n) := ⟨fun w => by
    by_cases h0 : hi = 0
    · subst h0
      have := bitsDiv64_0 lo y w hl hh.2 hy
      rwa [Int.zero_mul, Int.zero_add]
    · refine (bitsDiv64_c hi lo y w ⟨by omega, hh.2⟩ hl hy).mono ?_
      rintro e w' ⟨he, rfl⟩
      exact ⟨he, 0, rfl⟩⟩
  obtain ⟨q, hq⟩ : ∃ q, q = (hi * BW + lo) / y := ⟨_, rfl⟩
  obtain ⟨r, hr⟩ : ∃ r, r = (hi * BW + lo) % y := ⟨_, rfl⟩
  rw [← hq, ← hr] at hB ⊢
  clear hq hr hh hl hy
  go_enter Tryz.func192, Tryz.ntmps192
  go_wp2_with (fail)
  refine (hB.out _).mono ?_
  rintro e w' ⟨rfl, n, rfl⟩
  go_wp2_with (fail)
  go_ret2
  exact ⟨rfl, n, rfl⟩
/-- The reciprocal of a word. -/
def recip (d : Int) : Int := (BW * BW - 1) / d - BW
theorem recip_b {d : Int} (h : BW ≤ 2 * d) (hd : d < BW) : 0 ≤ recip d ∧ recip d < BW := by
  have hB := BW_pos
  have hd0 : 0 < d := by omega
  have h1 : BW ≤ (BW * BW - 1) / d := by
    apply Int.le_ediv_of_mul_le hd0
    have := Int.mul_le_mul_of_nonneg_left (show d + 1 ≤ BW by omega) (Int.le_of_lt hB)
    rw [Int.mul_add, Int.mul_one] at this
    omega
  have h2 : (BW * BW - 1) / d < 2 * BW := by
    apply Int.ediv_lt_of_lt_mul hd0
    have := Int.mul_le_mul_of_nonneg_left h (Int.le_of_lt hB)
    rw [← Int.mul_assoc, Int.mul_comm BW 2] at this
    omega
  unfold recip
  omega
theorem norm_word {y : Int} {t : Nat} (hy0 : 0 < y) (hy : y < BW) (ht : Bits y t) : t ≤ 64 ∧ 1 ≤ t ∧ BW ≤ 2 * (y * 2 ^ (64 - t)) ∧ y * 2 ^ (64 - t) < BW := by
  have htp := ht.pos hy0
  have hle : t ≤ 64 := ht.le (by rw [← BW_two]; exact hy)
  have h1 := Int.mul_lt_mul_of_pos_right ht.2.1 (tp (64 - t))
  rw [← Int.pow_add, show t + (64 - t) = 64 by omega, ← BW_two] at h1
  have h2 : 2 ^ (t - 1) * 2 ^ (64 - t) ≤ y * 2 ^ (64 - t) := by
    rcases ht.2.2 with h | h
    · omega
    · exact Int.mul_le_mul_of_nonneg_right h (Int.le_of_lt (tp (64 - t)))
  rw [← Int.pow_add, show t - 1 + (64 - t) = 63 by omega] at h2
  have h3 : BW = 2 * 2 ^ 63 := by rw [BW_def]; decide
  exact ⟨hle, htp, by omega, h1⟩
theorem nat_not (n : Nat) (h : n < 18446744073709551616) : 18446744073709551615 ^^^ n = 18446744073709551615 - n := by
  have h1 : BitVec.allOnes 64 ^^^ BitVec.ofNat 64 n = ~~~ BitVec.ofNat 64 n := by
    apply BitVec.eq_of_getLsbD_eq
    intro i hi
    simp only [BitVec.getLsbD_xor, BitVec.getLsbD_allOnes, BitVec.getLsbD_not, hi, decide_true, Bool.true_xor, Bool.true_and]
  have h2 := congrArg BitVec.toNat h1
  rw [BitVec.toNat_xor, BitVec.toNat_not, BitVec.toNat_allOnes, BitVec.toNat_ofNat, Nat.mod_eq_of_lt h] at h2
  exact h2
theorem not_u64 (d : Int) (h0 : 0 ≤ d) (h1 : d < 18446744073709551616) : Go.bits .xor .u64 (if IntKind.u64.signed = true then -1 else IntKind.u64.max) d = 18446744073709551615 - d := by
  obtain ⟨n, rfl⟩ := Int.eq_ofNat_of_zero_le h0
  have h2 := u64_xor_nat 18446744073709551615 n (by omega) (by omega)
  rw [nat_not n (by omega)] at h2
  refine Eq.trans ?_ (h2.trans (by omega))
  rfl
set_option maxHeartbeats 3200000 in
set_option maxRecDepth 100000 in
theorem recip_c (y : Int) (t : Nat) (w : World) (hy0 : 0 < y) (hy : y < BW) (ht : Bits y t) :
    Calls Tryz.prog 193 #[.int .u64 y] w fun e w' => e = .returned (.int .u64 (recip (y * 2 ^ (64 - t)))) ∧ ∃ n, w' = w.drewN n := by
  obtain ⟨hle, htp, hdh, hdl⟩ := norm_word hy0 hy ht
  have HN := Aside0.mk (fun w => nlz_c y t w ⟨by omega, hy⟩ ht)
  obtain ⟨s, hs⟩ : ∃ s, s = 64 - t := ⟨_, rfl⟩
  rw [← hs] at HN hdh hdl ⊢
  have hs64 : s < 64 := by omega
  obtain ⟨d, hd⟩ : ∃ d, d = y * 2 ^ s := ⟨_, rfl⟩
  have hw : IntKind.u64.wrap (y * 2 ^ s) = d := by rw [hd]; exact wrap_u64 (Int.mul_nonneg (by omega) (Int.le_of_lt (tp s))) (by rw [← BW_def]; exact hdl)
  rw [← hd] at hdh hdl ⊢
  have hB := BW_def
  have HD := Aside0.mk (fun w => bitsDiv_c (18446744073709551615 - d) 18446744073709551615 d w (by omega) (by omega) hdl)
  have hr : ((18446744073709551615 - d) * BW + 18446744073709551615) / d = recip d := by
    unfold recip
    have e : (18446744073709551615 - d) * BW + 18446744073709551615 = (BW * BW - 1) + d * (-BW) := by
      rw [Int.sub_mul, Int.mul_neg, show (18446744073709551615 : Int) = BW - 1 by rw [BW_def]; rfl, Int.sub_mul, Int.one_mul]; omega
    rw [e, Int.add_mul_ediv_left _ _ (show d ≠ 0 by omega)]
    omega
  rw [hr] at HD
  obtain ⟨rc, hrc⟩ : ∃ rc, rc = recip d := ⟨_, rfl⟩
  obtain ⟨x, hx⟩ : ∃ x, x = ((18446744073709551615 - d) * BW + 18446744073709551615) % d := ⟨_, rfl⟩
  rw [← hrc, ← hx] at HD
  rw [← hrc]
  clear hs ht htp hle hd hr hx hrc
  have hd0 : 0 ≤ d := by omega
  have hd1 : d < 18446744073709551616 := by omega
  have hnx := not_u64 d hd0 hd1
  obtain ⟨nd, hnd⟩ : ∃ nd, nd = 18446744073709551615 - d := ⟨_, rfl⟩
  rw [← hnd] at HD hnx
  clear hdh hdl hB hnd
  go_enter Tryz.func193, Tryz.ntmps193
  go_wp2_with (go_at_call 114; refine (HN.out _).mono ?_; rintro e w' ⟨rfl, rfl⟩)
  refine (HD.out _).mono ?_
  rintro e w' ⟨rfl, n, rfl⟩
  go_wp2_with (fail)
  go_ret
  exact ⟨rfl, n, rfl⟩
end Go.Proofs.YtfnknldbjckgoaaGreatDoor.Sp
end

/-! ## DivD -/
section
namespace Go.Proofs.YtfnknldbjckgoaaGreatDoor.Sp
open Go.RowKit Go.Proofs.YtfnknldbjckgoaaGreatDoorW.PrintWords Go.Proofs.YtfnknldbjckgoaaGreatDoorW.PrintLast Go.Proofs.YtfnknldbjckgoaaGreatDoorW.PrintMore Go.Proofs.YtfnknldbjckgoaaGreatDoor.Dig
set_option linter.unusedVariables false
set_option linter.unusedSimpArgs false
/-- The digits that divWW reckons. -/
structure DivW (x1 x0 d m q r0 r1 b c t1 t0 e1 e0 : Int) : Prop where
  t1e : t1 = m * x1 / BW
  t0e : t0 = m * x1 % BW
  ce : c = (t0 + x0) / BW
  qe : q = (t1 + x1 + c) % BW
  e1e : e1 = d * q / BW
  e0e : e0 = d * q % BW
  r0e : r0 = (x0 - e0 - 0) % BW
  be : b = -((x0 - e0 - 0) / BW)
  r1e : r1 = (x1 - e1 - b) % BW
theorem divW_math {x1 x0 d m q r0 r1 b c t1 t0 e1 e0 : Int} (hd : BW ≤ 2 * d) (hdB : d < BW) (hm : m = recip d) (hx1 : 0 ≤ x1 ∧ x1 < d) (hx0 : 0 ≤ x0 ∧ x0 < BW) (h : DivW x1 x0 d m q r0 r1 b c t1 t0 e1 e0) :
    0 ≤ q ∧ q < BW ∧ 0 ≤ x1 * BW + x0 - d * q ∧ x1 * BW + x0 - d * q < BW + d ∧ r0 = (x1 * BW + x0 - d * q) % BW ∧ r1 = (x1 * BW + x0 - d * q) / BW ∧ 0 ≤ c ∧ c ≤ 1 ∧ 0 ≤ b ∧ b ≤ 1 := by
  have hB := BW_pos
  have hd0 : 0 < d := by omega
  have hg := rec_guess (K := (BW * BW - 1) / d) (q := ((BW * BW - 1) / d * x1 + x0) / BW) hB hd0 hdB rfl hx1 hx0 rfl
  have hK : (BW * BW - 1) / d = m + BW := by rw [hm]; unfold recip; omega
  rw [hK] at hg
  have hc := c_parts (m * x1) x0
  have hq1 : ((m + BW) * x1 + x0) / BW = t1 + x1 + c := by
    rw [Int.add_mul, show m * x1 + BW * x1 + x0 = (m * x1 + x0) + BW * x1 by omega, Int.add_mul_ediv_left _ _ (Int.ne_of_gt hB), ← hc.2, ← h.t1e, ← h.t0e, ← h.ce]
    omega
  rw [hq1] at hg
  have hq2 : q = t1 + x1 + c := by rw [h.qe, Int.emod_eq_of_lt hg.2.2.1 hg.2.2.2]
  rw [← hq2] at hg
  have ht0 := Int.emod_nonneg (m * x1) (Int.ne_of_gt hB)
  have ht1 := Int.emod_lt_of_pos (m * x1) hB
  rw [← h.t0e] at ht0 ht1
  have hc0 : 0 ≤ c := by rw [h.ce]; exact Int.ediv_nonneg (by omega) (Int.le_of_lt hB)
  have hc1 : c < 2 := by rw [h.ce]; exact Int.ediv_lt_of_lt_mul hB (by omega)
  have he := Int.emod_add_mul_ediv (d * q) BW
  rw [← h.e0e, ← h.e1e] at he
  have he0 := Int.emod_nonneg (d * q) (Int.ne_of_gt hB)
  have he1 := Int.emod_lt_of_pos (d * q) hB
  rw [← h.e0e] at he0 he1
  have hR : x1 * BW + x0 - d * q = (x0 - e0 - 0) + BW * (x1 - e1) := by rw [← he, Int.mul_sub, Int.mul_comm x1]; omega
  have hb0 : -1 ≤ (x0 - e0 - 0) / BW := Int.le_ediv_of_mul_le hB (by omega)
  have hb1 : (x0 - e0 - 0) / BW < 1 := Int.ediv_lt_of_lt_mul hB (by omega)
  have hbe := h.be
  have hr0 : r0 = (x1 * BW + x0 - d * q) % BW := by rw [h.r0e, hR, Int.add_mul_emod_self_left]
  have hr1 : (x1 * BW + x0 - d * q) / BW = x1 - e1 - b := by rw [hR, Int.add_mul_ediv_left _ _ (Int.ne_of_gt hB)]; omega
  have hr2 : 0 ≤ (x1 * BW + x0 - d * q) / BW := Int.ediv_nonneg hg.1 (Int.le_of_lt hB)
  have hr3 : (x1 * BW + x0 - d * q) / BW < 2 := Int.ediv_lt_of_lt_mul hB (by omega)
  refine ⟨hg.2.2.1, hg.2.2.2, hg.1, hg.2.1, hr0, ?_, hc0, by omega, by omega, by omega⟩
  rw [h.r1e, ← hr1, Int.emod_eq_of_lt hr2 (by have := BW_gt; omega)]
/-- What divWW ends with. -/
theorem divW_end {x1 x0 d q : Int} (hd : BW ≤ 2 * d) (hdB : d < BW) (hx1 : 0 ≤ x1 ∧ x1 < d) (hx0 : 0 ≤ x0 ∧ x0 < BW) (hq : 0 ≤ q ∧ q < BW) (h0 : 0 ≤ x1 * BW + x0 - d * q) (h1 : x1 * BW + x0 - d * q < BW + d) :
    (x1 * BW + x0) / d < BW ∧
    (BW ≤ x1 * BW + x0 - d * q → (x1 * BW + x0 - d * q - d < d → (x1 * BW + x0) / d = q + 1 ∧ (x1 * BW + x0) % d = x1 * BW + x0 - d * q - d) ∧ (d ≤ x1 * BW + x0 - d * q - d → (x1 * BW + x0) / d = q + 2 ∧ (x1 * BW + x0) % d = x1 * BW + x0 - d * q - d - d)) ∧
    (x1 * BW + x0 - d * q < BW → (x1 * BW + x0 - d * q < d → (x1 * BW + x0) / d = q ∧ (x1 * BW + x0) % d = x1 * BW + x0 - d * q) ∧ (d ≤ x1 * BW + x0 - d * q → (x1 * BW + x0) / d = q + 1 ∧ (x1 * BW + x0) % d = x1 * BW + x0 - d * q - d)) := by
  have hB := BW_pos
  have hd0 : 0 < d := by omega
  obtain ⟨x, hx⟩ : ∃ x, x = x1 * BW + x0 := ⟨_, rfl⟩
  obtain ⟨a, ha⟩ : ∃ a, a = d * q := ⟨_, rfl⟩
  rw [← hx, ← ha] at h0 h1
  rw [← hx, ← ha]
  have e1 : d * (q + 1) = a + d := by rw [Int.mul_add, Int.mul_one, ha]
  have e2 : d * (q + 2) = a + d + d := by rw [Int.mul_add, ha, Int.mul_comm d 2]; omega
  refine ⟨?_, fun h => ⟨fun g => ?_, fun g => ?_⟩, fun h => ⟨fun g => ?_, fun g => ?_⟩⟩
  · apply Int.ediv_lt_of_lt_mul hd0
    have := Int.mul_le_mul_of_nonneg_right (show x1 + 1 ≤ d by omega) (Int.le_of_lt hB)
    rw [Int.add_mul, Int.one_mul, Int.mul_comm d] at this
    omega
  · exact div_of hd0 (by omega) (by omega) (by omega)
  · exact div_of hd0 (by omega) (by omega) (by omega)
  · exact div_of hd0 (by omega) (by omega) (by omega)
  · exact div_of hd0 (by omega) (by omega) (by omega)
set_option maxHeartbeats 6400000 in
set_option maxRecDepth 100000 in
theorem divWW_c (x1 x0 y : Int) (t : Nat) (w : World) (hx1 : 0 ≤ x1 ∧ x1 < y) (hx0 : 0 ≤ x0 ∧ x0 < BW) (hy : y < BW) (ht : Bits y t) :
    Calls Tryz.prog 194 #[.int .u64 x1, .int .u64 x0, .int .u64 y, .int .u64 (recip (y * 2 ^ (64 - t)))] w fun e w' => e = .returned (.tuple #[.int .u64 ((x1 * BW + x0) / y), .int .u64 ((x1 * BW + x0) % y)]) ∧ w' = w := by
  have hy0 : 0 < y := by omega
  obtain ⟨hle, htp, hdh, hdl⟩ := norm_word hy0 hy ht
  have HN := Aside0.mk (fun w => nlz_c y t w ⟨by omega, hy⟩ ht)
  obtain ⟨s, hs⟩ : ∃ s, s = 64 - t := ⟨_, rfl⟩
  rw [← hs] at HN hdh hdl ⊢
  have hs64 : s < 64 := by omega
  clear hs ht hle htp
  by_cases hs0 : s = 0
  · subst hs0
    rw [Int.pow_zero, Int.mul_one] at hdh hdl ⊢
    have hX1 := hx1
    have hX0 := hx0
    obtain ⟨s, hs⟩ : ∃ s, s = 0 := ⟨_, rfl⟩
    have hE : (x1 * BW + x0) / y = (x1 * BW + x0) / y ∧ (x1 * BW + x0) % y = (x1 * BW + x0) % y * 2 ^ s := by
      rw [hs, Int.pow_zero, Int.mul_one]; exact ⟨rfl, rfl⟩
    obtain ⟨m, hm⟩ : ∃ m, m = recip y := ⟨_, rfl⟩
    have hmb := recip_b hdh hdl
    rw [← hm] at hmb ⊢
    obtain ⟨t1, ht1⟩ : ∃ t1, t1 = m * x1 / BW := ⟨_, rfl⟩
    obtain ⟨t0, ht0⟩ : ∃ t0, t0 = m * x1 % BW := ⟨_, rfl⟩
    obtain ⟨c, hc⟩ : ∃ c, c = (t0 + x0) / BW := ⟨_, rfl⟩
    obtain ⟨q, hq⟩ : ∃ q, q = (t1 + x1 + c) % BW := ⟨_, rfl⟩
    obtain ⟨e1, he1⟩ : ∃ e1, e1 = y * q / BW := ⟨_, rfl⟩
    obtain ⟨e0, he0⟩ : ∃ e0, e0 = y * q % BW := ⟨_, rfl⟩
    obtain ⟨r0, hr0⟩ : ∃ r0, r0 = (x0 - e0 - 0) % BW := ⟨_, rfl⟩
    obtain ⟨b, hb⟩ : ∃ b, b = -((x0 - e0 - 0) / BW) := ⟨_, rfl⟩
    obtain ⟨r1, hr1⟩ : ∃ r1, r1 = (x1 - e1 - b) % BW := ⟨_, rfl⟩
    have hD : DivW x1 x0 y m q r0 r1 b c t1 t0 e1 e0 := ⟨ht1, ht0, hc, hq, he1, he0, hr0, hb, hr1⟩
    have hmt := divW_math hdh hdl hm hX1 hX0 hD
    have hen := divW_end hdh hdl hX1 hX0 ⟨hmt.1, hmt.2.1⟩ hmt.2.2.1 hmt.2.2.2.1
    obtain ⟨R, hR⟩ : ∃ R, R = x1 * BW + x0 - y * q := ⟨_, rfl⟩
    rw [← hR] at hmt hen
    have hBp := BW_pos
    have hXB : 0 ≤ x1 ∧ x1 < BW := by omega
    have hdB2 : 0 ≤ y ∧ y < BW := by omega
    have hM1 := Aside0.mk (fun w => bitsMul_c m x1 t0 t1 w hmb hXB ht0 ht1)
    have ht0b : 0 ≤ t0 := by rw [ht0]; exact Int.emod_nonneg _ (Int.ne_of_gt hBp)
    have ht1b : 0 ≤ t1 := by rw [ht1]; exact (mul_word hmb hXB (c := 0) ⟨Int.le_refl _, hBp⟩).2.2.1 |> fun h => by rwa [Int.add_zero] at h
    have hA1' := fun w => bitsAdd_c t0 x0 w ht0b hX0.1
    obtain ⟨a0, ha0⟩ : ∃ a0, a0 = (t0 + x0) % BW := ⟨_, rfl⟩
    rw [← ha0, ← hc] at hA1'
    have hA1 := Aside0.mk hA1'
    have hA2 := Aside0.mk (fun w => bitsAddc_c t1 x1 c q _ w ht1b hX1.1 ⟨hmt.2.2.2.2.2.2.1, hmt.2.2.2.2.2.2.2.1⟩ hq rfl)
    have hM2 := Aside0.mk (fun w => bitsMul_c y q e0 e1 w hdB2 ⟨hmt.1, hmt.2.1⟩ he0 he1)
    have he0b : 0 ≤ e0 ∧ e0 < BW := by rw [he0]; exact ⟨Int.emod_nonneg _ (Int.ne_of_gt hBp), Int.emod_lt_of_pos _ hBp⟩
    have he1b : 0 ≤ e1 ∧ e1 < BW := by have := mul_word hdB2 ⟨hmt.1, hmt.2.1⟩ (c := 0) ⟨Int.le_refl _, hBp⟩; rw [Int.add_zero, ← he1] at this; exact this.2.2
    have hS1 := Aside0.mk (fun w => bitsSub_c x0 e0 0 r0 b w hX0 he0b (by omega) hr0 hb)
    have hS2 := Aside0.mk (fun w => bitsSub_c x1 e1 b r1 _ w hXB he1b ⟨hmt.2.2.2.2.2.2.2.2.1, hmt.2.2.2.2.2.2.2.2.2⟩ hr1 rfl)
    obtain ⟨k2, hk2⟩ : ∃ k2, k2 = (t1 + x1 + c) / BW := ⟨_, rfl⟩
    obtain ⟨b2, hb2⟩ : ∃ b2, b2 = -((x1 - e1 - b) / BW) := ⟨_, rfl⟩
    rw [← hk2] at hA2
    rw [← hb2] at hS2
    have hB := BW_def
    have hq0 := hmt.1
    have hR0 := hmt.2.2.1
    have hR1 := hmt.2.2.2.1
    have hr0e := hmt.2.2.2.2.1
    have hr1e := hmt.2.2.2.2.2.1
    rw [hB] at hr0e hr1e
    obtain ⟨Q, hQ⟩ : ∃ Q, Q = (x1 * BW + x0) / y := ⟨_, rfl⟩
    obtain ⟨V, hV⟩ : ∃ V, V = (x1 * BW + x0) % y := ⟨_, rfl⟩
    rw [← hQ] at hen ⊢
    rw [← hV] at hE hen ⊢
    have hE2 := hE.2
    rw [hE2] at hen
    have hVs : 0 ≤ V * 2 ^ s := Int.mul_nonneg (by rw [hV]; exact Int.emod_nonneg _ (by omega)) (Int.le_of_lt (tp s))
    have HVd := Aside0.mk (show V * 2 ^ s / 2 ^ s = V from Int.mul_ediv_cancel _ (Int.ne_of_gt (tp s)))
    obtain ⟨VS, hVS⟩ : ∃ VS, VS = V * 2 ^ s := ⟨_, rfl⟩
    rw [← hVS] at hen hVs HVd
    clear hm ht1 ht0 hc hq he1 he0 hr0 hb hr1 hD hmt hR ha0 hA1' hk2 hb2 hQ hV hE hE2 hVS hmb he0b he1b ht0b ht1b
    by_cases hc1 : BW ≤ R
    · obtain rfl : r1 = 1 := by omega
      by_cases hc2 : R - y < y
      · have ⟨hf1, hf2⟩ := (hen.2.1 hc1).1 hc2
        have hq1 : IntKind.u64.wrap (q + 1) = Q := by rw [hf1]; exact wrap_u64 (by omega) (by have := hen.1; omega)
        have hw1 : IntKind.u64.wrap (r0 - y) = VS := by rw [IntKind.wrap_u64]; omega
        have hlt : VS < y := by omega
        clear hf1 hf2 hen hr0e hr1e hB
        go_enter Tryz.func194, Tryz.ntmps194
        go_wp2_with (fail)
        refine (HN.out _).mono ?_; rintro e w' ⟨rfl, rfl⟩
        go_wp2_with (fail)
        refine (hM1.out _).mono ?_; rintro e w' ⟨rfl, rfl⟩
        go_wp2_with (fail)
        refine (hA1.out _).mono ?_; rintro e w' ⟨rfl, rfl⟩
        go_wp2_with (fail)
        refine (hA2.out _).mono ?_; rintro e w' ⟨rfl, rfl⟩
        go_wp2_with (fail)
        refine (hM2.out _).mono ?_; rintro e w' ⟨rfl, rfl⟩
        go_wp2_with (fail)
        refine (hS1.out _).mono ?_; rintro e w' ⟨rfl, rfl⟩
        go_wp2_with (fail)
        refine (hS2.out _).mono ?_; rintro e w' ⟨rfl, rfl⟩
        go_wp2_with (fail)
        go_ret2
        exact ⟨by rw [← HVd.out]; (simp [hs]), rfl⟩
      · replace hc2 : y ≤ R - y := by omega
        have ⟨hf1, hf2⟩ := (hen.2.1 hc1).2 hc2
        obtain ⟨z, hz⟩ : ∃ z, z = q + 1 := ⟨_, rfl⟩
        obtain ⟨v, hv⟩ : ∃ v, v = R - y := ⟨_, rfl⟩
        have hq1 : IntKind.u64.wrap (q + 1) = z := by rw [hz]; exact wrap_u64 (by omega) (by have := hen.1; omega)
        have hq2 : IntKind.u64.wrap (z + 1) = Q := by rw [show z + 1 = Q by omega]; exact wrap_u64 (by omega) (by have := hen.1; omega)
        have hw1 : IntKind.u64.wrap (r0 - y) = v := by rw [IntKind.wrap_u64]; omega
        have hw2 : IntKind.u64.wrap (v - y) = VS := by rw [IntKind.wrap_u64]; omega
        have hlt : y ≤ v := by omega
        clear hf1 hf2 hen hr0e hr1e hB hz hv
        go_enter Tryz.func194, Tryz.ntmps194
        go_wp2_with (fail)
        refine (HN.out _).mono ?_; rintro e w' ⟨rfl, rfl⟩
        go_wp2_with (fail)
        refine (hM1.out _).mono ?_; rintro e w' ⟨rfl, rfl⟩
        go_wp2_with (fail)
        refine (hA1.out _).mono ?_; rintro e w' ⟨rfl, rfl⟩
        go_wp2_with (fail)
        refine (hA2.out _).mono ?_; rintro e w' ⟨rfl, rfl⟩
        go_wp2_with (fail)
        refine (hM2.out _).mono ?_; rintro e w' ⟨rfl, rfl⟩
        go_wp2_with (fail)
        refine (hS1.out _).mono ?_; rintro e w' ⟨rfl, rfl⟩
        go_wp2_with (fail)
        refine (hS2.out _).mono ?_; rintro e w' ⟨rfl, rfl⟩
        go_wp2_with (fail)
        go_ret2
        exact ⟨by rw [← HVd.out]; (simp [hs]), rfl⟩
    · replace hc1 : R < BW := by omega
      obtain rfl : r1 = 0 := by omega
      by_cases hc2 : R < y
      · have ⟨hf1, hf2⟩ := (hen.2.2 hc1).1 hc2
        obtain rfl : r0 = VS := by omega
        obtain rfl : q = Q := by omega
        have hlt : r0 < y := by omega
        clear hf1 hf2 hen hr0e hr1e hB
        go_enter Tryz.func194, Tryz.ntmps194
        go_wp2_with (fail)
        refine (HN.out _).mono ?_; rintro e w' ⟨rfl, rfl⟩
        go_wp2_with (fail)
        refine (hM1.out _).mono ?_; rintro e w' ⟨rfl, rfl⟩
        go_wp2_with (fail)
        refine (hA1.out _).mono ?_; rintro e w' ⟨rfl, rfl⟩
        go_wp2_with (fail)
        refine (hA2.out _).mono ?_; rintro e w' ⟨rfl, rfl⟩
        go_wp2_with (fail)
        refine (hM2.out _).mono ?_; rintro e w' ⟨rfl, rfl⟩
        go_wp2_with (fail)
        refine (hS1.out _).mono ?_; rintro e w' ⟨rfl, rfl⟩
        go_wp2_with (fail)
        refine (hS2.out _).mono ?_; rintro e w' ⟨rfl, rfl⟩
        go_wp2_with (fail)
        go_ret2
        exact ⟨by rw [← HVd.out]; (simp [hs]), rfl⟩
      · replace hc2 : y ≤ R := by omega
        have ⟨hf1, hf2⟩ := (hen.2.2 hc1).2 hc2
        have hq1 : IntKind.u64.wrap (q + 1) = Q := by rw [hf1]; exact wrap_u64 (by omega) (by have := hen.1; omega)
        have hw1 : IntKind.u64.wrap (r0 - y) = VS := by rw [IntKind.wrap_u64]; omega
        have hlt : y ≤ r0 := by omega
        clear hf1 hf2 hen hr0e hr1e hB
        go_enter Tryz.func194, Tryz.ntmps194
        go_wp2_with (fail)
        refine (HN.out _).mono ?_; rintro e w' ⟨rfl, rfl⟩
        go_wp2_with (fail)
        refine (hM1.out _).mono ?_; rintro e w' ⟨rfl, rfl⟩
        go_wp2_with (fail)
        refine (hA1.out _).mono ?_; rintro e w' ⟨rfl, rfl⟩
        go_wp2_with (fail)
        refine (hA2.out _).mono ?_; rintro e w' ⟨rfl, rfl⟩
        go_wp2_with (fail)
        refine (hM2.out _).mono ?_; rintro e w' ⟨rfl, rfl⟩
        go_wp2_with (fail)
        refine (hS1.out _).mono ?_; rintro e w' ⟨rfl, rfl⟩
        go_wp2_with (fail)
        refine (hS2.out _).mono ?_; rintro e w' ⟨rfl, rfl⟩
        go_wp2_with (fail)
        go_ret2
        exact ⟨by rw [← HVd.out]; (simp [hs]), rfl⟩
  · obtain ⟨d, hd⟩ : ∃ d, d = y * 2 ^ s := ⟨_, rfl⟩
    rw [← hd] at hdh hdl ⊢
    obtain ⟨X1, hX1e⟩ : ∃ X1, X1 = x1 * 2 ^ s + x0 / 2 ^ (64 - s) := ⟨_, rfl⟩
    obtain ⟨X0, hX0e⟩ : ∃ X0, X0 = x0 * 2 ^ s % BW := ⟨_, rfl⟩
    have hlo : x0 / 2 ^ (64 - s) < 2 ^ s := by
      apply Int.ediv_lt_of_lt_mul (tp _)
      rw [two64 s (by omega)]; exact hx0.2
    have hlo0 : 0 ≤ x0 / 2 ^ (64 - s) := Int.ediv_nonneg hx0.1 (Int.le_of_lt (tp _))
    have hhy := Int.mul_le_mul_of_nonneg_right (show x1 + 1 ≤ y by omega) (Int.le_of_lt (tp s))
    rw [Int.add_mul, Int.one_mul, ← hd] at hhy
    have hx1s := Int.mul_nonneg hx1.1 (Int.le_of_lt (tp s))
    have hor := or_shl' x1 x0 s hs64 ⟨by omega, by omega⟩ hx0 (by omega)
    rw [← hX1e] at hor
    have hX1 : 0 ≤ X1 ∧ X1 < d := by omega
    have hX0 : 0 ≤ X0 ∧ X0 < BW := by rw [hX0e]; exact ⟨Int.emod_nonneg _ (Int.ne_of_gt BW_pos), Int.emod_lt_of_pos _ BW_pos⟩
    have hsc := div64_scale (by omega) hX1e hX0e
    have hE : (X1 * BW + X0) / d = (x1 * BW + x0) / y ∧ (X1 * BW + X0) % d = (x1 * BW + x0) % y * 2 ^ s := by
      rw [← hsc, hd]
      obtain ⟨z, hz⟩ : ∃ z, z = x1 * BW + x0 := ⟨_, rfl⟩
      rw [← hz]
      exact ⟨Int.mul_ediv_mul_of_pos_left _ _ (tp s), by rw [Int.mul_comm z, Int.mul_comm y, Int.mul_emod_mul_of_pos _ _ (tp s), Int.mul_comm]⟩
    have hwy : IntKind.u64.wrap (y * 2 ^ s) = d := by rw [← hd]; exact wrap_u64 (by have := BW_pos; omega) (by rw [← BW_def]; exact hdl)
    have hwx : IntKind.u64.wrap (x0 * 2 ^ s) = X0 := by rw [hX0e, IntKind.wrap_u64, BW_def]
    have hsb : ((s : Int) != 0) = true := by rw [bne_iff_ne]; omega
    have hsb2 : ((s : Int) == 0) = false := by rw [beq_eq_false_iff_ne]; omega
    have hd64 : (64 - (s : Int)) = ((64 - s : Nat) : Int) := by omega
    clear hd hX1e hX0e hlo hlo0 hhy hsc hs0 hx1s
    obtain ⟨m, hm⟩ : ∃ m, m = recip d := ⟨_, rfl⟩
    have hmb := recip_b hdh hdl
    rw [← hm] at hmb ⊢
    obtain ⟨t1, ht1⟩ : ∃ t1, t1 = m * X1 / BW := ⟨_, rfl⟩
    obtain ⟨t0, ht0⟩ : ∃ t0, t0 = m * X1 % BW := ⟨_, rfl⟩
    obtain ⟨c, hc⟩ : ∃ c, c = (t0 + X0) / BW := ⟨_, rfl⟩
    obtain ⟨q, hq⟩ : ∃ q, q = (t1 + X1 + c) % BW := ⟨_, rfl⟩
    obtain ⟨e1, he1⟩ : ∃ e1, e1 = d * q / BW := ⟨_, rfl⟩
    obtain ⟨e0, he0⟩ : ∃ e0, e0 = d * q % BW := ⟨_, rfl⟩
    obtain ⟨r0, hr0⟩ : ∃ r0, r0 = (X0 - e0 - 0) % BW := ⟨_, rfl⟩
    obtain ⟨b, hb⟩ : ∃ b, b = -((X0 - e0 - 0) / BW) := ⟨_, rfl⟩
    obtain ⟨r1, hr1⟩ : ∃ r1, r1 = (X1 - e1 - b) % BW := ⟨_, rfl⟩
    have hD : DivW X1 X0 d m q r0 r1 b c t1 t0 e1 e0 := ⟨ht1, ht0, hc, hq, he1, he0, hr0, hb, hr1⟩
    have hmt := divW_math hdh hdl hm hX1 hX0 hD
    have hen := divW_end hdh hdl hX1 hX0 ⟨hmt.1, hmt.2.1⟩ hmt.2.2.1 hmt.2.2.2.1
    obtain ⟨R, hR⟩ : ∃ R, R = X1 * BW + X0 - d * q := ⟨_, rfl⟩
    rw [← hR] at hmt hen
    rw [hE.1] at hen
    have hBp := BW_pos
    have hXB : 0 ≤ X1 ∧ X1 < BW := by omega
    have hdB2 : 0 ≤ d ∧ d < BW := by omega
    have hM1 := Aside0.mk (fun w => bitsMul_c m X1 t0 t1 w hmb hXB ht0 ht1)
    have ht0b : 0 ≤ t0 := by rw [ht0]; exact Int.emod_nonneg _ (Int.ne_of_gt hBp)
    have ht1b : 0 ≤ t1 := by rw [ht1]; exact (mul_word hmb hXB (c := 0) ⟨Int.le_refl _, hBp⟩).2.2.1 |> fun h => by rwa [Int.add_zero] at h
    have hA1' := fun w => bitsAdd_c t0 X0 w ht0b hX0.1
    obtain ⟨a0, ha0⟩ : ∃ a0, a0 = (t0 + X0) % BW := ⟨_, rfl⟩
    rw [← ha0, ← hc] at hA1'
    have hA1 := Aside0.mk hA1'
    have hA2 := Aside0.mk (fun w => bitsAddc_c t1 X1 c q _ w ht1b hX1.1 ⟨hmt.2.2.2.2.2.2.1, hmt.2.2.2.2.2.2.2.1⟩ hq rfl)
    have hM2 := Aside0.mk (fun w => bitsMul_c d q e0 e1 w hdB2 ⟨hmt.1, hmt.2.1⟩ he0 he1)
    have he0b : 0 ≤ e0 ∧ e0 < BW := by rw [he0]; exact ⟨Int.emod_nonneg _ (Int.ne_of_gt hBp), Int.emod_lt_of_pos _ hBp⟩
    have he1b : 0 ≤ e1 ∧ e1 < BW := by have := mul_word hdB2 ⟨hmt.1, hmt.2.1⟩ (c := 0) ⟨Int.le_refl _, hBp⟩; rw [Int.add_zero, ← he1] at this; exact this.2.2
    have hS1 := Aside0.mk (fun w => bitsSub_c X0 e0 0 r0 b w hX0 he0b (by omega) hr0 hb)
    have hS2 := Aside0.mk (fun w => bitsSub_c X1 e1 b r1 _ w hXB he1b ⟨hmt.2.2.2.2.2.2.2.2.1, hmt.2.2.2.2.2.2.2.2.2⟩ hr1 rfl)
    obtain ⟨k2, hk2⟩ : ∃ k2, k2 = (t1 + X1 + c) / BW := ⟨_, rfl⟩
    obtain ⟨b2, hb2⟩ : ∃ b2, b2 = -((X1 - e1 - b) / BW) := ⟨_, rfl⟩
    rw [← hk2] at hA2
    rw [← hb2] at hS2
    have hB := BW_def
    have hq0 := hmt.1
    have hR0 := hmt.2.2.1
    have hR1 := hmt.2.2.2.1
    have hr0e := hmt.2.2.2.2.1
    have hr1e := hmt.2.2.2.2.2.1
    rw [hB] at hr0e hr1e
    obtain ⟨Q, hQ⟩ : ∃ Q, Q = (x1 * BW + x0) / y := ⟨_, rfl⟩
    obtain ⟨V, hV⟩ : ∃ V, V = (x1 * BW + x0) % y := ⟨_, rfl⟩
    rw [← hQ] at hen ⊢
    rw [← hV] at hE ⊢
    have hE2 := hE.2
    rw [hE2] at hen
    have hVs : 0 ≤ V * 2 ^ s := Int.mul_nonneg (by rw [hV]; exact Int.emod_nonneg _ (by omega)) (Int.le_of_lt (tp s))
    have HVd := Aside0.mk (show V * 2 ^ s / 2 ^ s = V from Int.mul_ediv_cancel _ (Int.ne_of_gt (tp s)))
    obtain ⟨VS, hVS⟩ : ∃ VS, VS = V * 2 ^ s := ⟨_, rfl⟩
    rw [← hVS] at hen hVs HVd
    clear hm ht1 ht0 hc hq he1 he0 hr0 hb hr1 hD hmt hR ha0 hA1' hk2 hb2 hQ hV hE hE2 hVS hmb he0b he1b ht0b ht1b
    by_cases hc1 : BW ≤ R
    · obtain rfl : r1 = 1 := by omega
      by_cases hc2 : R - d < d
      · have ⟨hf1, hf2⟩ := (hen.2.1 hc1).1 hc2
        have hq1 : IntKind.u64.wrap (q + 1) = Q := by rw [hf1]; exact wrap_u64 (by omega) (by have := hen.1; omega)
        have hw1 : IntKind.u64.wrap (r0 - d) = VS := by rw [IntKind.wrap_u64]; omega
        have hlt : VS < d := by omega
        clear hf1 hf2 hen hr0e hr1e hB
        go_enter Tryz.func194, Tryz.ntmps194
        go_wp2_with (fail)
        refine (HN.out _).mono ?_; rintro e w' ⟨rfl, rfl⟩
        go_wp2_with (fail)
        refine (hM1.out _).mono ?_; rintro e w' ⟨rfl, rfl⟩
        go_wp2_with (fail)
        refine (hA1.out _).mono ?_; rintro e w' ⟨rfl, rfl⟩
        go_wp2_with (fail)
        refine (hA2.out _).mono ?_; rintro e w' ⟨rfl, rfl⟩
        go_wp2_with (fail)
        refine (hM2.out _).mono ?_; rintro e w' ⟨rfl, rfl⟩
        go_wp2_with (fail)
        refine (hS1.out _).mono ?_; rintro e w' ⟨rfl, rfl⟩
        go_wp2_with (fail)
        refine (hS2.out _).mono ?_; rintro e w' ⟨rfl, rfl⟩
        go_wp2_with (fail)
        go_ret2
        exact ⟨by rw [← HVd.out]; rfl, rfl⟩
      · replace hc2 : d ≤ R - d := by omega
        have ⟨hf1, hf2⟩ := (hen.2.1 hc1).2 hc2
        obtain ⟨z, hz⟩ : ∃ z, z = q + 1 := ⟨_, rfl⟩
        obtain ⟨v, hv⟩ : ∃ v, v = R - d := ⟨_, rfl⟩
        have hq1 : IntKind.u64.wrap (q + 1) = z := by rw [hz]; exact wrap_u64 (by omega) (by have := hen.1; omega)
        have hq2 : IntKind.u64.wrap (z + 1) = Q := by rw [show z + 1 = Q by omega]; exact wrap_u64 (by omega) (by have := hen.1; omega)
        have hw1 : IntKind.u64.wrap (r0 - d) = v := by rw [IntKind.wrap_u64]; omega
        have hw2 : IntKind.u64.wrap (v - d) = VS := by rw [IntKind.wrap_u64]; omega
        have hlt : d ≤ v := by omega
        clear hf1 hf2 hen hr0e hr1e hB hz hv
        go_enter Tryz.func194, Tryz.ntmps194
        go_wp2_with (fail)
        refine (HN.out _).mono ?_; rintro e w' ⟨rfl, rfl⟩
        go_wp2_with (fail)
        refine (hM1.out _).mono ?_; rintro e w' ⟨rfl, rfl⟩
        go_wp2_with (fail)
        refine (hA1.out _).mono ?_; rintro e w' ⟨rfl, rfl⟩
        go_wp2_with (fail)
        refine (hA2.out _).mono ?_; rintro e w' ⟨rfl, rfl⟩
        go_wp2_with (fail)
        refine (hM2.out _).mono ?_; rintro e w' ⟨rfl, rfl⟩
        go_wp2_with (fail)
        refine (hS1.out _).mono ?_; rintro e w' ⟨rfl, rfl⟩
        go_wp2_with (fail)
        refine (hS2.out _).mono ?_; rintro e w' ⟨rfl, rfl⟩
        go_wp2_with (fail)
        go_ret2
        exact ⟨by rw [← HVd.out]; rfl, rfl⟩
    · replace hc1 : R < BW := by omega
      obtain rfl : r1 = 0 := by omega
      by_cases hc2 : R < d
      · have ⟨hf1, hf2⟩ := (hen.2.2 hc1).1 hc2
        obtain rfl : r0 = VS := by omega
        obtain rfl : q = Q := by omega
        have hlt : r0 < d := by omega
        clear hf1 hf2 hen hr0e hr1e hB
        go_enter Tryz.func194, Tryz.ntmps194
        go_wp2_with (fail)
        refine (HN.out _).mono ?_; rintro e w' ⟨rfl, rfl⟩
        go_wp2_with (fail)
        refine (hM1.out _).mono ?_; rintro e w' ⟨rfl, rfl⟩
        go_wp2_with (fail)
        refine (hA1.out _).mono ?_; rintro e w' ⟨rfl, rfl⟩
        go_wp2_with (fail)
        refine (hA2.out _).mono ?_; rintro e w' ⟨rfl, rfl⟩
        go_wp2_with (fail)
        refine (hM2.out _).mono ?_; rintro e w' ⟨rfl, rfl⟩
        go_wp2_with (fail)
        refine (hS1.out _).mono ?_; rintro e w' ⟨rfl, rfl⟩
        go_wp2_with (fail)
        refine (hS2.out _).mono ?_; rintro e w' ⟨rfl, rfl⟩
        go_wp2_with (fail)
        go_ret2
        exact ⟨by rw [← HVd.out]; rfl, rfl⟩
      · replace hc2 : d ≤ R := by omega
        have ⟨hf1, hf2⟩ := (hen.2.2 hc1).2 hc2
        have hq1 : IntKind.u64.wrap (q + 1) = Q := by rw [hf1]; exact wrap_u64 (by omega) (by have := hen.1; omega)
        have hw1 : IntKind.u64.wrap (r0 - d) = VS := by rw [IntKind.wrap_u64]; omega
        have hlt : d ≤ r0 := by omega
        clear hf1 hf2 hen hr0e hr1e hB
        go_enter Tryz.func194, Tryz.ntmps194
        go_wp2_with (fail)
        refine (HN.out _).mono ?_; rintro e w' ⟨rfl, rfl⟩
        go_wp2_with (fail)
        refine (hM1.out _).mono ?_; rintro e w' ⟨rfl, rfl⟩
        go_wp2_with (fail)
        refine (hA1.out _).mono ?_; rintro e w' ⟨rfl, rfl⟩
        go_wp2_with (fail)
        refine (hA2.out _).mono ?_; rintro e w' ⟨rfl, rfl⟩
        go_wp2_with (fail)
        refine (hM2.out _).mono ?_; rintro e w' ⟨rfl, rfl⟩
        go_wp2_with (fail)
        refine (hS1.out _).mono ?_; rintro e w' ⟨rfl, rfl⟩
        go_wp2_with (fail)
        refine (hS2.out _).mono ?_; rintro e w' ⟨rfl, rfl⟩
        go_wp2_with (fail)
        go_ret2
        exact ⟨by rw [← HVd.out]; rfl, rfl⟩
end Go.Proofs.YtfnknldbjckgoaaGreatDoor.Sp
end

/-! ## DivE -/
section
namespace Go.Proofs.YtfnknldbjckgoaaGreatDoor.Sp
open Go.RowKit Go.Proofs.YtfnknldbjckgoaaGreatDoorW.PrintWords Go.Proofs.YtfnknldbjckgoaaGreatDoorW.PrintLast Go.Proofs.YtfnknldbjckgoaaGreatDoorW.PrintMore Go.Proofs.YtfnknldbjckgoaaGreatDoor.Dig
set_option linter.unusedVariables false
set_option linter.unusedSimpArgs false
/-- One digit of a quotient by a word. -/
theorem short_step {L : List Int} (hok : okd BW L) {y : Int} (hy0 : 0 < y) (hy : y < BW) {i : Nat} (hi : i < L.length) : (ev BW (L.drop (i + 1)) % y * BW + L.getD i 0) / y = dg (ev BW L / y) i ∧ (ev BW (L.drop (i + 1)) % y * BW + L.getD i 0) % y = ev BW (L.drop i) % y := by
  have hB := BW_pos
  have hd : L.drop i = L.getD i 0 :: L.drop (i + 1) := by
    rw [List.drop_eq_getElem_cons hi]
    simp [List.getD, List.getElem?_eq_getElem hi]
  have he : ev BW (L.drop i) = L.getD i 0 + BW * ev BW (L.drop (i + 1)) := by rw [hd, ev_cons]
  have hg := okd_get hok hB i
  have hdm := Int.emod_add_mul_ediv (ev BW (L.drop (i + 1))) y
  have hr0 := Int.emod_nonneg (ev BW (L.drop (i + 1))) (Int.ne_of_gt hy0)
  have hr1 := Int.emod_lt_of_pos (ev BW (L.drop (i + 1))) hy0
  obtain ⟨r, hr⟩ : ∃ r, r = ev BW (L.drop (i + 1)) % y := ⟨_, rfl⟩
  obtain ⟨q, hq⟩ : ∃ q, q = ev BW (L.drop (i + 1)) / y := ⟨_, rfl⟩
  rw [← hr] at hr0 hr1
  rw [← hr, ← hq] at hdm
  have he2 : ev BW (L.drop i) = (r * BW + L.getD i 0) + y * (BW * q) := by
    rw [he, ← hdm, Int.mul_add, Int.mul_comm BW r, Int.mul_left_comm BW y]
    omega
  have hb : (r * BW + L.getD i 0) / y < BW := by
    apply Int.ediv_lt_of_lt_mul hy0
    have := Int.mul_le_mul_of_nonneg_right (show r + 1 ≤ y by omega) (Int.le_of_lt hB)
    rw [Int.add_mul, Int.one_mul] at this
    rw [Int.mul_comm BW]
    omega
  have hb0 : 0 ≤ (r * BW + L.getD i 0) / y := Int.ediv_nonneg (by have := Int.mul_nonneg hr0 (Int.le_of_lt hB); omega) (Int.le_of_lt hy0)
  rw [← hr]
  constructor
  · unfold dg
    have e1 : ev BW L / y / BW ^ i = ev BW (L.drop i) / y := by
      rw [ev_div hok hB i (by omega), edd (Int.le_of_lt hy0), edd (Int.le_of_lt (BWp i)), Int.mul_comm]
    rw [e1, he2, Int.add_mul_ediv_left _ _ (Int.ne_of_gt hy0), Int.add_mul_emod_self_left, Int.emod_eq_of_lt hb0 hb]
  · rw [he2, Int.add_mul_emod_self_left]
set_option maxHeartbeats 3200000 in
set_option maxRecDepth 100000 in
theorem divWVW_c (mz oz cz mx ox cx : Nat) (Z L : List Int) (y : Int) (t : TypeId) (w : World) (hz : hp w mz = some (.cells (u64s Z) t (0, 0))) (hlen : oz + L.length ≤ Z.length) (hx : Lies w mz oz mx ox L) (h0 : 0 < L.length) (hbig : L.length ≤ 100000000) (hok : okd BW L) (hy0 : 0 < y) (hy : y < BW) :
    Calls Tryz.prog 166 #[.slice (some ⟨mz, oz, none⟩) L.length cz, .int .u64 0, .slice (some ⟨mx, ox, none⟩) L.length cx, .int .u64 y] w (ShiftPost w mz oz Z L.length (ev BW L / y) (ev BW L % y) t) := by
  have HX := Aside0.mk hx
  have HZ := Aside0.mk hz
  have HOK := Aside0.mk hok
  obtain ⟨b, hb⟩ := Bits.exists y (by omega)
  have HST := Aside0.mk (fun i hi => short_step hok hy0 hy (i := i) hi)
  obtain ⟨n, hn⟩ : ∃ n, n = L.length := ⟨_, rfl⟩
  have HN := Aside0.mk hn
  obtain ⟨T, hT⟩ : ∃ T, T = ev BW L / y := ⟨_, rfl⟩
  rw [← hT] at HST ⊢
  by_cases h1 : n = 1
  · have hx0 := hx.1 0 (by omega)
    rw [Nat.add_zero] at hx0
    have hc := (blk_cell hz oz).trans (u64s_get _ oz (by omega))
    have hf := blk_frozen hz oz
    have hg := okd_get hok BW_pos 0
    obtain ⟨a, ha⟩ : ∃ a, a = L.getD 0 0 := ⟨_, rfl⟩
    rw [← ha] at hx0 hg
    have hs := HST.out 0 (by omega)
    have hd1 : ev BW (L.drop (0 + 1)) = 0 := by rw [List.drop_eq_nil_of_le (by omega), ev_nil]
    rw [hd1, Int.zero_emod, Int.zero_mul, Int.zero_add, List.drop_zero, ← ha] at hs
    have HD := Aside0.mk (fun w => bitsDiv_c 0 a y w ⟨by omega, hy0⟩ hg hy)
    rw [Int.zero_mul, Int.zero_add] at HD
    obtain ⟨q, hq⟩ : ∃ q, q = a / y := ⟨_, rfl⟩
    obtain ⟨r, hr⟩ : ∃ r, r = a % y := ⟨_, rfl⟩
    rw [← hq, ← hr] at HD
    rw [← hq, ← hr] at hs
    have HS := Aside0.mk hs
    have HL := Aside0.mk (show oz + 0 < Z.length by omega)
    have hL1 : L.length = 1 := by omega
    rw [hL1]
    clear hx hz hok ha hg hs hd1 hn hT hb HST HX HN hq hr h1 hL1 hlen h0 hbig
    go_enter Tryz.func166, Tryz.ntmps166
    go_wp2_with (fail)
    refine (HD.out _).mono ?_
    rintro e w' ⟨rfl, k, rfl⟩
    go_wp2_with (fail)
    go_ret
    refine ⟨by rw [← HS.out.2]; rfl, ?_, ((Kept.refl (On mz) w).drewN k).setCell (p := ⟨mz, oz, none⟩) (.inl rfl) _⟩
    rw [hp_here _ _ _ _ _ rfl, hp_drewN, HZ.out]
    simp only [Option.map_some, setObj_cells, u64s_set]
    have hu := upd_up Z oz 0 0 T (Nat.le_refl _) HL.out
    rw [upd_none _ _ _ _ _ (Nat.le_refl _), Nat.add_zero, ← HS.out.1] at hu
    rw [hu]
  · have h1b : ((n : Int) == 1) = false := by rw [beq_eq_false_iff_ne]; omega
    have HRC := Aside0.mk (fun w => recip_c y b w hy0 hy hb)
    have HDW := Aside0.mk (fun (r a : Int) (w : World) (hr : 0 ≤ r ∧ r < y) (ha : 0 ≤ a ∧ a < BW) => divWW_c r a y b w hr ha hy hb)
    obtain ⟨rc, hrc⟩ : ∃ rc, rc = recip (y * 2 ^ (64 - b)) := ⟨_, rfl⟩
    rw [← hrc] at HRC HDW
    obtain ⟨k, rfl⟩ : ∃ k, n = k + 1 := ⟨n - 1, by omega⟩
    rw [← hn] at h0 hbig hlen ⊢
    clear hx hz hok hn hT hb hrc h1
    go_enter Tryz.func166, Tryz.ntmps166
    go_wp2_with (fail)
    refine (HRC.out _).mono ?_
    rintro e w' ⟨rfl, nd, rfl⟩
    go_wp2_with (fail)
    go_loopw [8, 12] (fun v8 v12 wr => ∃ (i : Nat) (r : Int), i ≤ k + 1 ∧ v12 = .int .i64 ((i : Int) - 1) ∧ v8 = .int .u64 r ∧ (0 ≤ r ∧ r < y) ∧ Aside0 (r = ev BW (L.drop i) % y) ∧ Aside0 (hp wr mz = some (.cells (u64s (upd Z oz i (k + 1) T)) t (0, 0))) ∧ Aside0 (Kept (On mz) w wr)) (fun _ v _ => ((intOf v) + 1).toNat)
    case atStart => exact ⟨k + 1, 0, by omega, by simp, rfl, ⟨by omega, hy0⟩, ⟨by rw [List.drop_eq_nil_of_le (by rw [← HN.out]; omega), ev_nil, Int.zero_emod]⟩, ⟨by rw [upd_none _ _ _ _ _ (Nat.le_refl _)]; exact HZ.out⟩, ⟨(Kept.refl _ _).drewN nd⟩⟩
    case round =>
      obtain ⟨i, r, hi, rfl, rfl, hr, HR, HO, HK⟩ := hrel
      by_cases hi0 : i = 0
      · subst hi0
        go_wp2_with (fail)
        go_ret
        exact ⟨by rw [HR.out]; rfl, HO.out, HK.out⟩
      · obtain ⟨q, rfl⟩ : ∃ q, i = q + 1 := ⟨i - 1, by omega⟩
        have hx0 := lies_down (T := T) HX.out HZ.out (by rw [← HN.out]; exact hlen) HK.out (i := q) (by rw [← HN.out]; omega) (by rw [← HN.out]; exact HO.out) q (Nat.le_refl _)
        have hc := (blk_cell HO.out (oz + q)).trans (u64s_get _ (oz + q) (by rw [upd_len]; omega))
        have hf := blk_frozen HO.out (oz + q)
        have hg := okd_get HOK.out BW_pos q
        have hs := HST.out q (by rw [← HN.out]; omega)
        rw [← HR.out] at hs
        obtain ⟨a, ha⟩ : ∃ a, a = L.getD q 0 := ⟨_, rfl⟩
        rw [← ha] at hx0 hs hg
        have hD := HDW.out r a
        obtain ⟨q1, hq1⟩ : ∃ q1, q1 = (r * BW + a) / y := ⟨_, rfl⟩
        obtain ⟨r1, hr1⟩ : ∃ r1, r1 = (r * BW + a) % y := ⟨_, rfl⟩
        rw [← hq1, ← hr1] at hs
        have HD : Aside0 (∀ w, Calls Tryz.prog 194 #[.int .u64 r, .int .u64 a, .int .u64 y, .int .u64 rc] w fun e w' => e = .returned (.tuple #[.int .u64 q1, .int .u64 r1]) ∧ w' = w) := ⟨fun w => by rw [hq1, hr1]; exact hD w hr hg⟩
        have hr1b : 0 ≤ r1 ∧ r1 < y := by rw [hr1]; exact ⟨Int.emod_nonneg _ (by omega), Int.emod_lt_of_pos _ (by omega)⟩
        have HS := Aside0.mk hs
        have hiq : ((q + 1 : Nat) : Int) - 1 = (q : Int) := by omega
        rw [hiq]
        clear hs hg ha hq1 hr1 hD hiq hr HR hi0
        go_wp2_with (go_at_call 194; refine (HD.out _).mono ?_; rintro e w' ⟨rfl, rfl⟩)
        go_roundw
        case measure => simp [intOf]
        case rel =>
          refine ⟨q, r1, by omega, rfl, rfl, hr1b, ⟨HS.out.2⟩, ⟨?_⟩, ⟨HK.out.setCell (p := ⟨mz, oz + q, none⟩) (.inl rfl) _⟩⟩
          rw [hp_here _ _ _ _ _ rfl, HO.out]
          simp only [Option.map_some, setObj_cells, u64s_set]
          rw [HS.out.1, upd_down _ _ _ _ _ (by omega) (by omega)]
end Go.Proofs.YtfnknldbjckgoaaGreatDoor.Sp
end

/-! ## NatAr -/
section
namespace Go.Proofs.YtfnknldbjckgoaaGreatDoor.Sp
open Go.RowKit Go.Proofs.YtfnknldbjckgoaaGreatDoorW.PrintWords Go.Proofs.YtfnknldbjckgoaaGreatDoorW.PrintLast Go.Proofs.YtfnknldbjckgoaaGreatDoorW.PrintMore Go.Proofs.YtfnknldbjckgoaaGreatDoor.Dig
set_option linter.unusedVariables false
set_option linter.unusedSimpArgs false
/-- The words below n of a row, read from its block. -/
theorem take_C {w : World} {mb n : Nat} {X : List Int} {t : TypeId} (h : hp w mb = some (.cells (u64s X) t (0, 0))) (hn : n ≤ X.length) (hl : X.length ≤ 1000000) : Kd.C (Kd.int .u64) w (some ⟨mb, 0, none⟩) (X.take n).length (X.take n) := by
  refine blk_C _ h 0 (by rw [List.length_take]; omega) (fun i hi => ?_)
  rw [List.length_take] at hi
  rw [Nat.zero_add, u64s_get _ i (by omega)]
  simp [List.getD, List.getElem?_take_of_lt (show i < n by omega)]
theorem upd_take (Z : List Int) (n : Nat) (T : Int) (hn : n ≤ Z.length) : (upd Z 0 0 n T).take n = wn n T := by
  apply List.ext_getElem
  · simp [upd, wn]; omega
  · intro i h1 h2
    have hi : i < n := by simpa [wn] using h2
    simp only [List.getElem_take, upd, wn, List.getElem_map, List.getElem_range]
    rw [if_pos (by omega), Nat.sub_zero]
set_option maxHeartbeats 3200000 in
set_option maxRecDepth 100000 in
theorem natDivW_c (z x : Value) (S : Nat → Prop) (L : List Int) (y : Int) (w : World) (h : Dst w z S) (hr : Rd w S z x L) (h0 : 0 < L.length) (hbig : L.length ≤ 900000) (hy : 2 ≤ y ∧ y < BW) :
    Calls Tryz.prog 145 #[z, x, .int .u64 y] w fun e w' => ∃ q, e = .returned (.tuple #[q, .int .u64 (ev BW L % y)]) ∧ NR w' (fun k => S k ∨ w.heap.size ≤ k) q (ev BW L / y) ∧ Kept S w w' := by
  have HM := Aside0.mk (make2_c z S L.length w h h0 hbig)
  have HD := Aside0.mk h
  have HR := Aside0.mk hr
  obtain ⟨mx, ox, c, rfl, hlc, _, hok, _, _⟩ := hr
  have HOK := Aside0.mk hok
  have hy0 : (y == 0) = false := by rw [beq_eq_false_iff_ne]; omega
  have hy1 : (y == 1) = false := by rw [beq_eq_false_iff_ne]; omega
  have hl0 : ((L.length : Int) == 0) = false := by rw [beq_eq_false_iff_ne]; omega
  obtain ⟨A, nz, cz, rfl⟩ : ∃ A nz cz, z = .slice A nz cz := by
    rcases h with h | ⟨mz, nz, Z, h, _⟩
    · exact ⟨_, _, _, h⟩
    · exact ⟨_, _, _, h⟩
  clear h hok
  go_enter Tryz.func145, Tryz.ntmps145
  go_wp2_with (fail)
  refine (HM.out).mono ?_
  rintro e w1 hm
  obtain ⟨mb, Z, rfl, hn, hmax, hS, hz, hokZ, hb1, hmb⟩ := make_dst HD.out hm
  obtain ⟨mx', ox', c', e1, _, hlies, hmx⟩ := rd_lies HR.out hb1 hS hmb
  injection e1 with e1 e2 e3
  injection e1 with e1
  injection e1 with e1 e4
  subst e1 e4
  have HV := Aside0.mk (divWVW_c mb 0 Z.length mx ox c Z L y 108 w1 hz (by omega) hlies h0 (by omega) HOK.out (by omega) hy.2)
  have HB1 := Aside0.mk hb1
  have HS := Aside0.mk hS
  have HOZ := Aside0.mk hokZ
  have HMB := Aside0.mk hmb
  clear hm hS hz hokZ hb1 hmb hlies HM HR e2 e3
  go_wp2_with (fail)
  refine (HV.out).mono ?_
  rintro e w2 ⟨rfl, hz2, hk2⟩
  obtain ⟨T, hT⟩ : ∃ T, T = ev BW L / y := ⟨_, rfl⟩
  rw [← hT] at hz2
  have HT := Aside0.mk hT
  have hul : (upd Z 0 0 L.length T).length = Z.length := upd_len ..
  have HN := Aside0.mk (norm_w (some ⟨mb, 0, none⟩) Z.length ((upd Z 0 0 L.length T).take L.length) L.length w2 (take_C hz2 (by omega) (by omega)) (by rw [List.length_take]; omega) hn (by omega))
  have hTb : 0 ≤ T ∧ T < BW ^ L.length := by
    have h1 := ev_nonneg HOK.out BW_pos
    have h2 := ev_lt HOK.out BW_pos
    rw [hT]
    exact ⟨Int.ediv_nonneg h1 (by omega), Int.lt_of_le_of_lt (Int.ediv_le_self _ h1) h2⟩
  have HNR : Aside0 (NR w2 (fun k => S k ∨ w.heap.size ≤ k) (.slice (some ⟨mb, 0, none⟩) (strip ((upd Z 0 0 L.length T).take L.length)).length Z.length) T) := ⟨NR.of_strip hz2 (upd_ok HOZ.out _ _ _ _) (by omega) (by rw [upd_take _ _ _ hn, ev_wn_lt _ _ hTb.1 hTb.2]) (by rcases HS.out with h | h; exact .inl h; exact .inr (by omega)) hul.symm (by omega)⟩
  have HKK : Aside0 (Kept S w w2) := ⟨(Kept.of_below HB1.out).trans hk2 (fun i hi h => by
    obtain rfl : i = mb := h
    rcases HS.out with h | h
    · exact h
    · omega)⟩
  clear hz2 hk2 hT hTb HV hul
  go_wp2_with (fail)
  refine (HN.out).mono ?_
  rintro e w3 ⟨rfl, rfl⟩
  go_wp2_with (fail)
  go_ret2
  exact ⟨_, rfl, by rw [← HT.out]; exact HNR.out, HKK.out⟩
end Go.Proofs.YtfnknldbjckgoaaGreatDoor.Sp
end
