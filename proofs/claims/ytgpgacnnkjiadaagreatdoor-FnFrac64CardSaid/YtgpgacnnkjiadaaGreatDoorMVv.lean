/-
  Several texts in one (merged by program).
-/
import Derived.Test.YtgpgacnnkjiadaaGreatDoorFlm
/-! ## Vv -/
section
namespace Go.Proofs.YtgpgacnnkjiadaaGreatDoor.Dig

/-- Word for word: a + k * b. -/
def lin (k : Int) (l m : List Int) : List Int := List.zipWith (fun a b => a + k * b) l m
theorem lin_len {k : Int} {l m : List Int} (h : l.length = m.length) : (lin k l m).length = l.length := by
  simp [lin, h]
theorem lin_ev {k : Int} {l m : List Int} (h : l.length = m.length) : ev BW (lin k l m) = ev BW l + k * ev BW m := by
  induction l generalizing m with
  | nil =>
    cases m with
    | nil => simp [lin, ev_nil]
    | cons b m => simp at h
  | cons a l ih =>
    cases m with
    | nil => simp at h
    | cons b m =>
      have h' : l.length = m.length := by simpa using h
      show ev BW ((a + k * b) :: lin k l m) = _
      rw [ev_cons, ev_cons, ev_cons, ih h', Int.mul_add, Int.mul_add, Int.mul_left_comm BW k]
      omega
theorem lin_get {k : Int} {l m : List Int} {i : Nat} (h : i < l.length) (h' : i < m.length) : (lin k l m).getD i 0 = l.getD i 0 + k * m.getD i 0 := by
  simp [lin, List.getD, List.getElem?_zipWith, List.getElem?_eq_getElem h, List.getElem?_eq_getElem h']
/-- The carry, for whatever coefficients. -/
theorem gy_div (t : List Int) (y : Int) (i : Nat) : (ev BW t + y) / BW ^ i = ev BW (t.drop i) + cy t y i := by
  induction i with
  | zero => simp [cy]
  | succ i ih =>
    have e3 : (ev BW t + y) / BW ^ (i + 1) = (ev BW t + y) / BW ^ i / BW := by rw [Int.pow_succ, edd (Int.le_of_lt (BWp i))]
    rw [e3, ih]
    show _ = _ + (t.getD i 0 + cy t y i) / BW
    by_cases hi : i < t.length
    · have e : t.drop i = t.getD i 0 :: t.drop (i + 1) := by
        rw [List.drop_eq_getElem_cons hi]
        simp [List.getD, List.getElem?_eq_getElem hi]
      rw [e, ev_cons, show t.getD i 0 + BW * ev BW (t.drop (i + 1)) + cy t y i = (t.getD i 0 + cy t y i) + BW * ev BW (t.drop (i + 1)) by omega, Int.add_mul_ediv_left _ _ (Int.ne_of_gt BW_pos)]
      omega
    · rw [List.drop_eq_nil_of_le (by omega), List.drop_eq_nil_of_le (by omega), ev_nil]
      simp [List.getD, List.getElem?_eq_none (show t.length ≤ i by omega)]
theorem gy_dg (t : List Int) (y : Int) (i : Nat) : dg (ev BW t + y) i = (t.getD i 0 + cy t y i) % BW := by
  unfold dg
  rw [gy_div]
  by_cases hi : i < t.length
  · have e : t.drop i = t.getD i 0 :: t.drop (i + 1) := by
      rw [List.drop_eq_getElem_cons hi]
      simp [List.getD, List.getElem?_eq_getElem hi]
    rw [e, ev_cons, show t.getD i 0 + BW * ev BW (t.drop (i + 1)) + cy t y i = (t.getD i 0 + cy t y i) + BW * ev BW (t.drop (i + 1)) by omega, Int.add_mul_emod_self_left]
  · rw [List.drop_eq_nil_of_le (by omega), ev_nil]
    simp [List.getD, List.getElem?_eq_none (show t.length ≤ i by omega)]
theorem gy_end (t : List Int) (y : Int) : (ev BW t + y) / BW ^ t.length = cy t y t.length := by
  rw [gy_div, List.drop_length, ev_nil, Int.zero_add]
theorem cy_s (t : List Int) (y : Int) (i : Nat) : cy t y (i + 1) = (t.getD i 0 + cy t y i) / BW := rfl
/-- Sums: the carry is 0 or 1. -/
theorem gy_add {l m : List Int} (hl : okd BW l) (hm : okd BW m) (h : l.length = m.length) (i : Nat) : 0 ≤ cy (lin 1 l m) 0 i ∧ cy (lin 1 l m) 0 i ≤ 1 := by
  induction i with
  | zero => simp [cy]
  | succ i ih =>
    rw [cy_s]
    have h1 := okd_get hl BW_pos i
    have h2 := okd_get hm BW_pos i
    have e : (lin 1 l m).getD i 0 = l.getD i 0 + m.getD i 0 := by
      by_cases hi : i < l.length
      · rw [lin_get hi (by omega), Int.one_mul]
      · simp [List.getD, List.getElem?_eq_none (show l.length ≤ i by omega), List.getElem?_eq_none (show m.length ≤ i by omega), List.getElem?_eq_none (show (lin 1 l m).length ≤ i by rw [lin_len h]; omega)]
    rw [e]
    have h3 : 0 ≤ (l.getD i 0 + m.getD i 0 + cy (lin 1 l m) 0 i) / BW := Int.ediv_nonneg (by omega) (Int.le_of_lt BW_pos)
    have h4 : (l.getD i 0 + m.getD i 0 + cy (lin 1 l m) 0 i) / BW < 2 := Int.ediv_lt_of_lt_mul BW_pos (by omega)
    omega
/-- Differences: the carry is 0 or -1. -/
theorem gy_sub {l m : List Int} (hl : okd BW l) (hm : okd BW m) (h : l.length = m.length) (i : Nat) : -1 ≤ cy (lin (-1) l m) 0 i ∧ cy (lin (-1) l m) 0 i ≤ 0 := by
  induction i with
  | zero => simp [cy]
  | succ i ih =>
    rw [cy_s]
    have h1 := okd_get hl BW_pos i
    have h2 := okd_get hm BW_pos i
    have e : (lin (-1) l m).getD i 0 = l.getD i 0 - m.getD i 0 := by
      by_cases hi : i < l.length
      · rw [lin_get hi (by omega)]; omega
      · simp [List.getD, List.getElem?_eq_none (show l.length ≤ i by omega), List.getElem?_eq_none (show m.length ≤ i by omega), List.getElem?_eq_none (show (lin (-1) l m).length ≤ i by rw [lin_len h]; omega)]
    rw [e]
    have h3 : -1 ≤ (l.getD i 0 - m.getD i 0 + cy (lin (-1) l m) 0 i) / BW := by
      apply Int.le_ediv_of_mul_le BW_pos
      omega
    have h4 : (l.getD i 0 - m.getD i 0 + cy (lin (-1) l m) 0 i) / BW < 1 := Int.ediv_lt_of_lt_mul BW_pos (by omega)
    omega
/-- Products: the carry is a word. -/
theorem gy_mul {l m : List Int} {k y : Int} (hl : okd BW l) (hm : okd BW m) (h : l.length = m.length) (hk : 0 ≤ k ∧ k < BW) (hy : 0 ≤ y ∧ y < BW) (i : Nat) : 0 ≤ cy (lin k l m) y i ∧ cy (lin k l m) y i < BW := by
  induction i with
  | zero => exact hy
  | succ i ih =>
    rw [cy_s]
    have h1 := okd_get hl BW_pos i
    have h2 := okd_get hm BW_pos i
    have e : (lin k l m).getD i 0 = l.getD i 0 + k * m.getD i 0 := by
      by_cases hi : i < l.length
      · exact lin_get hi (by omega)
      · simp [List.getD, List.getElem?_eq_none (show l.length ≤ i by omega), List.getElem?_eq_none (show m.length ≤ i by omega), List.getElem?_eq_none (show (lin k l m).length ≤ i by rw [lin_len h]; omega)]
    rw [e]
    have h0 := Int.mul_nonneg hk.1 h2.1
    have h5 : k * m.getD i 0 ≤ (BW - 1) * (BW - 1) := by
      have a := Int.mul_le_mul_of_nonneg_right (show k ≤ BW - 1 by omega) h2.1
      have b := Int.mul_le_mul_of_nonneg_left (show m.getD i 0 ≤ BW - 1 by omega) (show 0 ≤ BW - 1 by have := BW_gt; omega)
      omega
    have h6 : (BW - 1) * (BW - 1) = BW * BW - BW - BW + 1 := by rw [Int.sub_mul, Int.mul_sub, Int.mul_one, Int.one_mul]; omega
    exact ⟨Int.ediv_nonneg (by omega) (Int.le_of_lt BW_pos), Int.ediv_lt_of_lt_mul BW_pos (by omega)⟩
theorem lin_zero {m : List Int} (k : Int) : lin k (List.replicate m.length 0) m = m.map (fun b => k * b) := by
  induction m with
  | nil => rfl
  | cons b m ih =>
    show (0 + k * b) :: lin k (List.replicate m.length 0) m = _
    rw [ih, Int.zero_add]; rfl
theorem rep_ev (n : Nat) : ev BW (List.replicate n 0) = 0 := ev_replicate BW n
end Go.Proofs.YtgpgacnnkjiadaaGreatDoor.Dig
end

/-! ## DivP -/
section
namespace Go.Proofs.YtgpgacnnkjiadaaGreatDoor.Dig
set_option linter.unusedVariables false
/-- A guess of a quotient by the divisor's upper half. -/
structure Est (B u y1 y0 u1 q r : Int) : Prop where
  sum : q * y1 + r = u
  r0 : 0 ≤ r
  ge : (u * B + u1) / (y1 * B + y0) ≤ q
  le : q ≤ B + 1
structure EstH (B u y1 y0 u1 : Int) : Prop where
  B0 : 0 < B
  y1h : B ≤ 2 * y1
  y1l : y1 < B
  y00 : 0 ≤ y0
  y0l : y0 < B
  u10 : 0 ≤ u1
  u1l : u1 < B
  u0 : 0 ≤ u
  ul : u < y1 * B + y0
theorem EstH.y {B u y1 y0 u1 : Int} (h : EstH B u y1 y0 u1) : 0 < y1 * B + y0 := by
  have := h.u0; have := h.ul; omega
theorem EstH.q {B u y1 y0 u1 : Int} (h : EstH B u y1 y0 u1) : 0 ≤ (u * B + u1) / (y1 * B + y0) ∧ (u * B + u1) / (y1 * B + y0) < B := by
  have hy := h.y
  have h1 := Int.mul_nonneg h.u0 (Int.le_of_lt h.B0)
  refine ⟨Int.ediv_nonneg (by have := h.u10; omega) (Int.le_of_lt hy), Int.ediv_lt_of_lt_mul hy ?_⟩
  have h2 := Int.mul_le_mul_of_nonneg_right (show u + 1 ≤ y1 * B + y0 by have := h.ul; omega) (Int.le_of_lt h.B0)
  rw [Int.add_mul, Int.one_mul] at h2
  rw [Int.mul_comm B]
  have := h.u1l
  omega
/-- The true quotient times the divisor. -/
theorem EstH.t {B u y1 y0 u1 : Int} (h : EstH B u y1 y0 u1) : (u * B + u1) / (y1 * B + y0) * (y1 * B + y0) ≤ u * B + u1 := Int.ediv_mul_le _ (Int.ne_of_gt h.y)
theorem Est.start {B u y1 y0 u1 : Int} (h : EstH B u y1 y0 u1) : Est B u y1 y0 u1 (u / y1) (u - u / y1 * y1) := by
  have hB := h.B0
  have hy1 : 0 < y1 := by have := h.y1h; omega
  have hm := Int.emod_add_mul_ediv u y1
  have hr0 := Int.emod_nonneg u (Int.ne_of_gt hy1)
  have hr1 := Int.emod_lt_of_pos u hy1
  have e1 : u / y1 * y1 = y1 * (u / y1) := Int.mul_comm ..
  refine ⟨by omega, by omega, ?_, ?_⟩
  · obtain ⟨T, hT⟩ : ∃ T, T = (u * B + u1) / (y1 * B + y0) := ⟨_, rfl⟩
    have ht := h.t
    have hq := h.q
    rw [← hT] at ht hq ⊢
    apply Int.le_ediv_of_mul_le hy1
    have h3 := Int.mul_nonneg hq.1 h.y00
    rw [Int.mul_add, ← Int.mul_assoc] at ht
    have h4 : T * y1 * B < (u + 1) * B := by rw [Int.add_mul, Int.one_mul]; have := h.u1l; omega
    have := Int.lt_of_mul_lt_mul_right h4 (Int.le_of_lt hB)
    omega
  · have h5 : u / y1 < B + 2 := by
      apply Int.ediv_lt_of_lt_mul hy1
      have h6 := h.ul
      have h7 := h.y0l
      have h8 := h.y1h
      rw [Int.add_mul, Int.mul_comm B y1]
      omega
    omega
theorem Est.stop {B u y1 y0 u1 q r : Int} (h : EstH B u y1 y0 u1) (e : Est B u y1 y0 u1 q r) (hc : q * y0 ≤ B * r + u1) : q = (u * B + u1) / (y1 * B + y0) := by
  have hy := h.y
  refine Int.le_antisymm ?_ e.ge
  apply Int.le_ediv_of_mul_le hy
  have h1 : q * y1 * B + r * B = u * B := by rw [← Int.add_mul, e.sum]
  rw [Int.mul_add, ← Int.mul_assoc]
  rw [Int.mul_comm B r] at hc
  omega
theorem Est.gt {B u y1 y0 u1 q r : Int} (h : EstH B u y1 y0 u1) (e : Est B u y1 y0 u1 q r) (hc : B ≤ q ∨ B * r + u1 < q * y0) : (u * B + u1) / (y1 * B + y0) ≤ q - 1 := by
  have hq := h.q
  rcases hc with hc | hc
  · omega
  · have hy := h.y
    have h2 : (u * B + u1) / (y1 * B + y0) < q := by
      apply Int.ediv_lt_of_lt_mul hy
      have h1 : q * y1 * B + r * B = u * B := by rw [← Int.add_mul, e.sum]
      rw [Int.mul_add, ← Int.mul_assoc]
      rw [Int.mul_comm B r] at hc
      omega
    omega
theorem Est.next {B u y1 y0 u1 q r : Int} (h : EstH B u y1 y0 u1) (e : Est B u y1 y0 u1 q r) (hc : B ≤ q ∨ B * r + u1 < q * y0) : Est B u y1 y0 u1 (q - 1) (r + y1) := by
  have hy1 : 0 < y1 := by have := h.y1h; have := h.B0; omega
  have h1 := e.sum
  refine ⟨by rw [Int.sub_mul, Int.one_mul]; omega, by have := e.r0; omega, e.gt h hc, by have := e.le; omega⟩
theorem Est.brk {B u y1 y0 u1 q r : Int} (h : EstH B u y1 y0 u1) (e : Est B u y1 y0 u1 q r) (hq : q ≤ B) (hr : B ≤ r) : q = (u * B + u1) / (y1 * B + y0) := by
  refine e.stop h ?_
  have h1 := Int.mul_le_mul_of_nonneg_right hq h.y00
  have h2 := Int.mul_le_mul_of_nonneg_left hr (Int.le_of_lt h.B0)
  have h3 := Int.mul_le_mul_of_nonneg_left (Int.le_of_lt h.y0l) (Int.le_of_lt h.B0)
  have := h.u10
  omega
theorem Est.small {B u y1 y0 u1 q r : Int} (h : EstH B u y1 y0 u1) (e : Est B u y1 y0 u1 q r) (hr : r < B) : 0 ≤ q ∧ 0 ≤ q * y0 ∧ q * y0 < B * B ∧ 0 ≤ B * r + u1 ∧ B * r + u1 < B * B := by
  have hq := h.q
  have hq0 : 0 ≤ q := by have := e.ge; omega
  have h1 := Int.mul_le_mul_of_nonneg_right e.le h.y00
  have h2 := Int.mul_le_mul_of_nonneg_left (show y0 ≤ B - 1 by have := h.y0l; omega) (show 0 ≤ B + 1 by have := h.B0; omega)
  have h3 : (B + 1) * (B - 1) = B * B - 1 := by rw [Int.mul_sub, Int.add_mul, Int.one_mul, Int.mul_one]; omega
  have h4 := Int.mul_le_mul_of_nonneg_left (show r ≤ B - 1 by omega) (Int.le_of_lt h.B0)
  rw [Int.mul_sub, Int.mul_one] at h4
  have h5 := Int.mul_nonneg (Int.le_of_lt h.B0) e.r0
  have := h.u10
  have := h.u1l
  exact ⟨hq0, Int.mul_nonneg hq0 h.y00, by omega, by omega, by omega⟩
/-- Two halves of a quotient make the whole. -/
theorem two_steps {B u y u1 u0 q1 q0 r1 : Int} (hB : 0 < B) (hy : 0 < y) (h0 : 0 ≤ u0 ∧ u0 < B) (hq1 : q1 = (u * B + u1) / y) (hr1 : r1 = (u * B + u1) - q1 * y) (hq0 : q0 = (r1 * B + u0) / y) : (u * B * B + u1 * B + u0) / y = q1 * B + q0 ∧ (u * B * B + u1 * B + u0) % y = r1 * B + u0 - q0 * y := by
  have e : u * B * B + u1 * B + u0 = (r1 * B + u0) + y * (q1 * B) := by
    have : (r1 + q1 * y) * B = (u * B + u1) * B := by rw [hr1]; congr 1; omega
    rw [Int.add_mul, Int.add_mul] at this
    rw [← Int.mul_assoc, Int.mul_comm y q1]
    omega
  have h1 := Int.emod_add_mul_ediv (r1 * B + u0) y
  rw [← hq0, Int.mul_comm y q0] at h1
  rw [e, Int.add_mul_ediv_left _ _ (Int.ne_of_gt hy), Int.add_mul_emod_self_left, ← hq0]
  omega
/-! ### by a reciprocal -/
theorem rec_lo {B d K : Int} (hd : 0 < d) (hK : K = (B * B - 1) / d) : 1 ≤ B * B - d * K ∧ B * B - d * K ≤ d := by
  have h1 := Int.emod_add_mul_ediv (B * B - 1) d
  have h2 := Int.emod_nonneg (B * B - 1) (Int.ne_of_gt hd)
  have h3 := Int.emod_lt_of_pos (B * B - 1) hd
  rw [← hK] at h1
  omega
/-- The guess by the reciprocal: what is left is at least 0 and below B + d. -/
theorem rec_guess {B d K x1 x0 q : Int} (hB : 0 < B) (hd : 0 < d) (hdB : d < B) (hK : K = (B * B - 1) / d) (hx1 : 0 ≤ x1 ∧ x1 < d) (hx0 : 0 ≤ x0 ∧ x0 < B) (hq : q = (K * x1 + x0) / B) : 0 ≤ x1 * B + x0 - d * q ∧ x1 * B + x0 - d * q < B + d ∧ 0 ≤ q ∧ q < B := by
  have hl := rec_lo hd hK
  have hK0 : 0 ≤ K := by
    rw [hK]
    have := Int.mul_le_mul_of_nonneg_left (show 1 ≤ B by omega) (Int.le_of_lt hB)
    exact Int.ediv_nonneg (by omega) (Int.le_of_lt hd)
  have h1 := Int.emod_add_mul_ediv (K * x1 + x0) B
  have h2 := Int.emod_nonneg (K * x1 + x0) (Int.ne_of_gt hB)
  have h3 := Int.emod_lt_of_pos (K * x1 + x0) hB
  rw [← hq] at h1
  obtain ⟨ρ, hρ⟩ : ∃ ρ, ρ = (K * x1 + x0) % B := ⟨_, rfl⟩
  rw [← hρ] at h1 h2 h3
  obtain ⟨δ, hδ⟩ : ∃ δ, δ = B * B - d * K := ⟨_, rfl⟩
  rw [← hδ] at hl
  have hmain : (x1 * B + x0 - d * q) * B = δ * x1 + x0 * (B - d) + d * ρ := by
    have e1 : B * q = K * x1 + x0 - ρ := by omega
    have e2 : d * q * B = d * (K * x1) + d * x0 - d * ρ := by rw [Int.mul_assoc, Int.mul_comm q B, e1, Int.mul_sub, Int.mul_add]
    have e3 : δ * x1 = B * B * x1 - d * (K * x1) := by rw [hδ, Int.sub_mul, Int.mul_assoc d]
    have e4 : x1 * B * B = B * B * x1 := by rw [Int.mul_assoc, Int.mul_comm]
    have e5 : x0 * (B - d) = x0 * B - d * x0 := by rw [Int.mul_sub, Int.mul_comm x0 d]
    rw [Int.sub_mul, Int.add_mul, e2, e3, e4, e5]
    omega
  have a1 := Int.mul_nonneg (show 0 ≤ δ by omega) hx1.1
  have a2 := Int.mul_nonneg hx0.1 (show 0 ≤ B - d by omega)
  have a3 := Int.mul_nonneg (Int.le_of_lt hd) h2
  have b1 := Int.mul_le_mul_of_nonneg_right hl.2 hx1.1
  have b1' := Int.mul_le_mul_of_nonneg_left (show x1 ≤ d - 1 by omega) (Int.le_of_lt hd)
  have b2 := Int.mul_le_mul_of_nonneg_right (show x0 ≤ B - 1 by omega) (show 0 ≤ B - d by omega)
  have b3 := Int.mul_le_mul_of_nonneg_left (show ρ ≤ B - 1 by omega) (Int.le_of_lt hd)
  have c1 : d * (d - 1) = d * d - d := by rw [Int.mul_sub, Int.mul_one]
  have c2 : (B - 1) * (B - d) = B * B - d * B - B + d := by rw [Int.sub_mul, Int.mul_sub, Int.one_mul, Int.mul_comm B d]; omega
  have c3 : d * (B - 1) = d * B - d := by rw [Int.mul_sub, Int.mul_one]
  have c4 : d * d ≤ d * B := Int.mul_le_mul_of_nonneg_left (Int.le_of_lt hdB) (Int.le_of_lt hd)
  have hlo : 0 ≤ x1 * B + x0 - d * q := by
    have : 0 * B ≤ (x1 * B + x0 - d * q) * B := by rw [Int.zero_mul, hmain]; omega
    exact Int.le_of_mul_le_mul_right this hB
  have hhi : x1 * B + x0 - d * q < B + d := by
    have : (x1 * B + x0 - d * q) * B < (B + d) * B := by rw [hmain, Int.add_mul]; omega
    exact Int.lt_of_mul_lt_mul_right this (Int.le_of_lt hB)
  have hq0 : 0 ≤ q := by rw [hq]; exact Int.ediv_nonneg (by have := Int.mul_nonneg hK0 hx1.1; omega) (Int.le_of_lt hB)
  refine ⟨hlo, hhi, hq0, ?_⟩
  have h6 : d * q < d * B := by
    have := Int.mul_le_mul_of_nonneg_right (show x1 + 1 ≤ d by omega) (Int.le_of_lt hB)
    rw [Int.add_mul, Int.one_mul] at this
    omega
  exact Int.lt_of_mul_lt_mul_left h6 (Int.le_of_lt hd)
theorem div_of {a b q r : Int} (hb : 0 < b) (h : a = b * q + r) (h0 : 0 ≤ r) (h1 : r < b) : a / b = q ∧ a % b = r := by
  rw [h, Int.add_comm, Int.add_mul_ediv_left _ _ (Int.ne_of_gt hb), Int.add_mul_emod_self_left, Int.ediv_eq_zero_of_lt h0 h1, Int.emod_eq_of_lt h0 h1]
  omega
end Go.Proofs.YtgpgacnnkjiadaaGreatDoor.Dig
end
