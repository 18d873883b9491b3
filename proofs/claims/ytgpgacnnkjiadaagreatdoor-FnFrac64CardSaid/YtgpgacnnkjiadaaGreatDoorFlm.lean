/-
  PLAIN LEAN, no program in sight: words of a number ('dg', 'wn'), shifts and sums in words, rounding.
-/
import Derived.Test.YtgpgacnnkjiadaaGreatDoorDig
namespace Go.Proofs.YtgpgacnnkjiadaaGreatDoor.Dig

/-- Word i of n. -/
def dg (n : Int) (i : Nat) : Int := n / BW ^ i % BW
/-- The lowest m words of n. -/
def wn (m : Nat) (n : Int) : List Int := (List.range m).map (dg n)
theorem dg_ok (n : Int) (i : Nat) : 0 ≤ dg n i ∧ dg n i < BW := ⟨Int.emod_nonneg _ (Int.ne_of_gt BW_pos), Int.emod_lt_of_pos _ BW_pos⟩
theorem wn_len (m : Nat) (n : Int) : (wn m n).length = m := by simp [wn]
theorem wn_ok (m : Nat) (n : Int) : okd BW (wn m n) := by
  intro d hd
  simp [wn] at hd
  obtain ⟨i, _, rfl⟩ := hd
  exact dg_ok n i
theorem wn_get {m : Nat} {n : Int} {i : Nat} (h : i < m) : (wn m n).getD i 0 = dg n i := by
  simp [wn, List.getD, h]
theorem wn_succ (m : Nat) (n : Int) : wn (m + 1) n = wn m n ++ [dg n m] := by simp [wn, List.range_succ]
theorem wn_take (m k : Nat) (n : Int) (h : k ≤ m) : (wn m n).take k = wn k n := by
  apply List.ext_getElem
  · simp [wn]; omega
  · intro i h1 h2
    simp [wn]
theorem edd {a b c : Int} (h : 0 ≤ b) : a / b / c = a / (b * c) := Int.ediv_ediv_of_nonneg h
theorem emm (a b n : Int) : a % n * b % n = a * b % n := by rw [Int.mul_emod, Int.emod_emod_of_dvd _ (Int.dvd_refl n), ← Int.mul_emod]
theorem BWp (i : Nat) : (0 : Int) < BW ^ i := Int.pow_pos BW_pos
theorem mod_succ (n : Int) (m : Nat) : n % BW ^ m + BW ^ m * (n / BW ^ m % BW) = n % BW ^ (m + 1) := by
  have h1 := Int.emod_add_mul_ediv n (BW ^ m)
  have h2 := Int.emod_add_mul_ediv (n / BW ^ m) BW
  have h3 : n / BW ^ m / BW = n / BW ^ (m + 1) := by rw [Int.pow_succ, edd (Int.le_of_lt (BWp m))]
  have h4 := Int.emod_add_mul_ediv n (BW ^ (m + 1))
  rw [h3] at h2
  have h5 : BW ^ m * (n / BW ^ m) = BW ^ m * (n / BW ^ m % BW) + BW ^ (m + 1) * (n / BW ^ (m + 1)) := by
    conv => lhs; rw [← h2]
    rw [Int.mul_add, Int.pow_succ, Int.mul_assoc]
  omega
theorem ev_wn (m : Nat) (n : Int) : ev BW (wn m n) = n % BW ^ m := by
  induction m with
  | zero => simp [wn, ev_nil, Int.emod_one]
  | succ m ih => rw [wn_succ, ev_snoc, ih, wn_len]; exact mod_succ n m
theorem ev_wn_lt (m : Nat) (n : Int) (h0 : 0 ≤ n) (h1 : n < BW ^ m) : ev BW (wn m n) = n := by rw [ev_wn, Int.emod_eq_of_lt h0 h1]
theorem ev_dg {l : List Int} (h : okd BW l) (i : Nat) : dg (ev BW l) i = l.getD i 0 := by
  unfold dg
  by_cases hi : i < l.length
  · rw [← ev_div h BW_pos i (by omega)]
    have e : l.drop i = l.getD i 0 :: l.drop (i + 1) := by
      rw [List.drop_eq_getElem_cons hi]
      simp [List.getD, List.getElem?_eq_getElem hi]
    have hg := okd_get h BW_pos i
    rw [e, ev_cons, Int.add_mul_emod_self_left, Int.emod_eq_of_lt hg.1 hg.2]
  · have h1 := ev_lt h BW_pos
    have h2 := ev_nonneg h BW_pos
    have h3 : BW ^ l.length ≤ BW ^ i := pow_mono BW_pos (by omega)
    rw [Int.ediv_eq_zero_of_lt h2 (by omega)]
    simp [List.getD, List.getElem?_eq_none (show l.length ≤ i by omega)]
theorem wn_ev {l : List Int} (h : okd BW l) : wn l.length (ev BW l) = l := by
  apply List.ext_getElem
  · simp [wn]
  · intro i h1 h2
    simp only [wn, List.getElem_map, List.getElem_range]
    rw [ev_dg h]
    simp [List.getD, List.getElem?_eq_getElem h2]
theorem ev_inj {l m : List Int} (h : okd BW l) (k : okd BW m) (hl : l.length = m.length) (he : ev BW l = ev BW m) : l = m := by
  rw [← wn_ev h, ← wn_ev k, hl, he]

theorem two64 (s : Nat) (hs : s ≤ 64) : (2 : Int) ^ s * 2 ^ (64 - s) = BW := by rw [← Int.pow_add, BW_two, show s + (64 - s) = 64 by omega]
theorem tp (s : Nat) : (0 : Int) < 2 ^ s := Int.pow_pos (by omega)
theorem dg_shl0 (n : Int) (s : Nat) : dg (n * 2 ^ s) 0 = dg n 0 * 2 ^ s % BW := by
  unfold dg
  rw [Int.pow_zero, Int.ediv_one, Int.ediv_one, emm]
theorem dg_shl (n : Int) (s : Nat) (hs : s < 64) (i : Nat) : dg (n * 2 ^ s) (i + 1) = dg n (i + 1) * 2 ^ s % BW + dg n i / 2 ^ (64 - s) := by
  have e1 : n * 2 ^ s / BW ^ (i + 1) = n / BW ^ i / 2 ^ (64 - s) := by
    rw [edd (Int.le_of_lt (BWp i)), Int.pow_succ, Int.mul_comm n, ← Int.mul_ediv_mul_of_pos n (BW ^ i * 2 ^ (64 - s)) (tp s)]
    congr 1
    have := two64 s (by omega)
    rw [Int.mul_comm (2 ^ s) (BW ^ i * _), Int.mul_assoc, Int.mul_comm _ (2 ^ s), this]
  have e2 := Int.emod_add_mul_ediv (n / BW ^ i) BW
  have e3 : n / BW ^ i / BW = n / BW ^ (i + 1) := by rw [Int.pow_succ, edd (Int.le_of_lt (BWp i))]
  rw [e3] at e2
  obtain ⟨a, ha⟩ : ∃ a, a = dg n i := ⟨_, rfl⟩
  obtain ⟨q, hq⟩ : ∃ q, q = n / BW ^ (i + 1) := ⟨_, rfl⟩
  have hd : dg n (i + 1) = q % BW := by rw [hq]; rfl
  have ha' : n / BW ^ i = a + BW * q := by rw [ha, hq]; unfold dg; omega
  rw [hd, ← ha]
  show n * 2 ^ s / BW ^ (i + 1) % BW = _
  have hab := dg_ok n i
  rw [← ha] at hab
  have h64 := two64 s (by omega)
  rw [e1, ha', ← h64, Int.mul_comm (2 ^ s) (2 ^ (64 - s)), Int.mul_assoc, Int.add_mul_ediv_left _ _ (Int.ne_of_gt (tp (64 - s)))]
  rw [Int.mul_comm (2 ^ (64 - s)), h64, emm, Int.mul_comm q]
  have h1 : a / 2 ^ (64 - s) < 2 ^ s := by
    apply Int.ediv_lt_of_lt_mul (tp _)
    rw [h64]; exact hab.2
  have h0 : 0 ≤ a / 2 ^ (64 - s) := Int.ediv_nonneg hab.1 (Int.le_of_lt (tp _))
  have e4 : 2 ^ s * q % BW = 2 ^ s * (q % 2 ^ (64 - s)) := by rw [← h64, Int.mul_emod_mul_of_pos _ _ (tp s)]
  have h2 : q % 2 ^ (64 - s) + 1 ≤ 2 ^ (64 - s) := Int.emod_lt_of_pos _ (tp _)
  have h3 := Int.emod_nonneg q (Int.ne_of_gt (tp (64 - s)))
  have h4 := Int.mul_le_mul_of_nonneg_left h2 (Int.le_of_lt (tp s))
  rw [h64, Int.mul_add, Int.mul_one] at h4
  have h5 := Int.mul_nonneg (Int.le_of_lt (tp s)) h3
  rw [Int.add_emod, e4, Int.emod_eq_of_lt h0 (by omega), Int.emod_eq_of_lt (by omega) (by omega)]
  omega
theorem dg_shr (n : Int) (s : Nat) (hs : s ≤ 64) (i : Nat) : dg (n / 2 ^ s) i = dg n i / 2 ^ s + dg n (i + 1) * 2 ^ (64 - s) % BW := by
  have e1 : n / 2 ^ s / BW ^ i = n / BW ^ i / 2 ^ s := by rw [edd (Int.le_of_lt (tp s)), Int.mul_comm, ← edd (Int.le_of_lt (BWp i))]
  have e2 := Int.emod_add_mul_ediv (n / BW ^ i) BW
  have e3 : n / BW ^ i / BW = n / BW ^ (i + 1) := by rw [Int.pow_succ, edd (Int.le_of_lt (BWp i))]
  rw [e3] at e2
  obtain ⟨a, ha⟩ : ∃ a, a = dg n i := ⟨_, rfl⟩
  obtain ⟨q, hq⟩ : ∃ q, q = n / BW ^ (i + 1) := ⟨_, rfl⟩
  have hd : dg n (i + 1) = q % BW := by rw [hq]; rfl
  have ha' : n / BW ^ i = a + BW * q := by rw [ha, hq]; unfold dg; omega
  rw [hd, ← ha]
  show n / 2 ^ s / BW ^ i % BW = _
  have hab := dg_ok n i
  rw [← ha] at hab
  have h64 := two64 s hs
  rw [e1, ha', emm]
  have e5 : (a + BW * q) / 2 ^ s = a / 2 ^ s + 2 ^ (64 - s) * q := by
    rw [← h64, Int.mul_assoc, Int.add_mul_ediv_left _ _ (Int.ne_of_gt (tp s))]
  rw [e5]
  have h1 : a / 2 ^ s < 2 ^ (64 - s) := by
    apply Int.ediv_lt_of_lt_mul (tp _)
    rw [Int.mul_comm, h64]; exact hab.2
  have h0 : 0 ≤ a / 2 ^ s := Int.ediv_nonneg hab.1 (Int.le_of_lt (tp _))
  have e4 : 2 ^ (64 - s) * q % BW = 2 ^ (64 - s) * (q % 2 ^ s) := by rw [← h64, Int.mul_comm (2 ^ s), Int.mul_emod_mul_of_pos _ _ (tp (64 - s))]
  have h2 : q % 2 ^ s + 1 ≤ 2 ^ s := Int.emod_lt_of_pos _ (tp _)
  have h3 := Int.emod_nonneg q (Int.ne_of_gt (tp s))
  have h4 := Int.mul_le_mul_of_nonneg_left h2 (Int.le_of_lt (tp (64 - s)))
  rw [Int.mul_comm (2 ^ (64 - s)) (2 ^ s), h64, Int.mul_add, Int.mul_one] at h4
  have h5 := Int.mul_nonneg (Int.le_of_lt (tp (64 - s))) h3
  rw [Int.mul_comm q, Int.add_emod, e4, Int.emod_eq_of_lt h0 (by
    have : (2 : Int) ^ (64 - s) ≤ 2 ^ (64 - s) * 2 ^ s := by
      have := Int.mul_le_mul_of_nonneg_left (show (1 : Int) ≤ 2 ^ s from tp s) (Int.le_of_lt (tp (64 - s)))
      omega
    rw [Int.mul_comm, h64] at this
    omega), Int.emod_eq_of_lt (by omega) (by omega)]
theorem dg_drop (n : Int) (k i : Nat) : dg (n / BW ^ k) i = dg n (i + k) := by
  unfold dg
  rw [edd (Int.le_of_lt (BWp k)), ← Int.pow_add, Nat.add_comm]
theorem dg_up (n : Int) (k i : Nat) : dg (n * BW ^ k) (i + k) = dg n i := by
  unfold dg
  rw [Int.pow_add, Int.mul_ediv_mul_of_pos_left _ _ (BWp k)]
theorem dg_up0 (n : Int) (k i : Nat) (h : i < k) : dg (n * BW ^ k) i = 0 := by
  unfold dg
  obtain ⟨j, rfl⟩ : ∃ j, k = i + (j + 1) := ⟨k - i - 1, by omega⟩
  rw [Int.pow_add, Int.mul_comm, Int.mul_assoc, Int.mul_ediv_cancel_left _ (Int.ne_of_gt (BWp i)), Int.pow_succ, Int.mul_comm (BW ^ j), Int.mul_assoc, Int.mul_emod_right]
theorem wn_drop (m k : Nat) (n : Int) : (wn (m + k) n).drop k = wn m (n / BW ^ k) := by
  apply List.ext_getElem
  · simp [wn]
  · intro i h1 h2
    simp only [wn, List.getElem_drop, List.getElem_map, List.getElem_range]
    rw [dg_drop, Nat.add_comm]

/-! ### a word is added -/
/-- The carry into word i, where y is added. -/
def cy (l : List Int) (y : Int) : Nat → Int
  | 0 => y
  | i + 1 => (l.getD i 0 + cy l y i) / BW
theorem cy_div {l : List Int} (h : okd BW l) (y : Int) (i : Nat) : (ev BW l + y) / BW ^ i = ev BW l / BW ^ i + cy l y i := by
  induction i with
  | zero => simp [cy]
  | succ i ih =>
    have e3 : ∀ n : Int, n / BW ^ (i + 1) = n / BW ^ i / BW := fun n => by rw [Int.pow_succ, edd (Int.le_of_lt (BWp i))]
    have h1 := ev_dg h i
    unfold dg at h1
    have h2 := Int.emod_add_mul_ediv (ev BW l / BW ^ i) BW
    rw [e3, e3, ih]
    show _ = _ + (l.getD i 0 + cy l y i) / BW
    rw [← h1]
    conv => lhs; rw [← h2]
    rw [show ev BW l / BW ^ i % BW + BW * (ev BW l / BW ^ i / BW) + cy l y i = (ev BW l / BW ^ i % BW + cy l y i) + BW * (ev BW l / BW ^ i / BW) by omega, Int.add_mul_ediv_left _ _ (Int.ne_of_gt BW_pos)]
    omega
theorem cy_dg {l : List Int} (h : okd BW l) (y : Int) (i : Nat) : dg (ev BW l + y) i = (l.getD i 0 + cy l y i) % BW := by
  have h1 := ev_dg h i
  unfold dg at h1 ⊢
  rw [cy_div h, ← h1, Int.emod_add_emod]
theorem cy_ok {l : List Int} (h : okd BW l) {y : Int} (h0 : 0 ≤ y) (h1 : y < BW) (i : Nat) : 0 ≤ cy l y i ∧ cy l y i < BW ∧ (0 < i → cy l y i ≤ 1) := by
  induction i with
  | zero => exact ⟨h0, h1, fun h => absurd h (by omega)⟩
  | succ i ih =>
    obtain ⟨a, b, _⟩ := ih
    have hg := okd_get h BW_pos i
    have h2 : 0 ≤ cy l y (i + 1) := Int.ediv_nonneg (by omega) (Int.le_of_lt BW_pos)
    have h3 : cy l y (i + 1) < 2 := Int.ediv_lt_of_lt_mul BW_pos (by omega)
    have := BW_def
    exact ⟨h2, by omega, fun _ => by omega⟩

/-! ### rounding -/
/-- What is left behind the unit 2^d: 0 nothing, 1 less than a half, 2 a half, 3 more; sb: there is something behind all. -/
def left (V : Int) (d : Nat) (sb : Bool) : Int := if d = 0 then (if sb then 1 else 0) else 2 * (V / 2 ^ (d - 1) % 2) + (if V % 2 ^ (d - 1) ≠ 0 ∨ sb = true then 1 else 0)
/-- Is a magnitude rounded up? -/
def up (neg odd : Bool) (left mode : Int) : Bool :=
  if mode = 0 then decide (left = 3) || (decide (left = 2) && odd)
  else if mode = 1 then decide (2 ≤ left)
  else if mode = 3 then decide (0 < left)
  else if mode = 4 then decide (0 < left) && neg
  else if mode = 5 then decide (0 < left) && !neg
  else false
/-- The magnitude V by 2^d, rounded. -/
def rq (neg : Bool) (mode V : Int) (d : Nat) (sb : Bool) : Int := V / 2 ^ d + if up neg (decide (V / 2 ^ d % 2 = 1)) (left V d sb) mode then 1 else 0
/-- The side of the exact value on which the result is. -/
def rside (neg : Bool) (mode V : Int) (d : Nat) (sb : Bool) : Int :=
  if left V d sb = 0 then 0 else if up neg (decide (V / 2 ^ d % 2 = 1)) (left V d sb) mode != neg then 1 else -1
theorem left_range (V : Int) (d : Nat) (sb : Bool) : 0 ≤ left V d sb ∧ left V d sb ≤ 3 := by
  unfold left
  split
  · split <;> omega
  · split <;> omega
theorem up_zero (neg odd : Bool) (mode : Int) : up neg odd 0 mode = false := by
  unfold up
  repeat' split
  all_goals simp
theorem left_scale (V : Int) (d k : Nat) : left (V * 2 ^ k) (d + k) false = left V d false := by
  unfold left
  by_cases hd : d = 0
  · subst hd
    by_cases hk : k = 0
    · subst hk; simp
    · obtain ⟨j, rfl⟩ : ∃ j, k = j + 1 := ⟨k - 1, by omega⟩
      have e : V * 2 ^ (j + 1) = 2 ^ j * (V * 2) := by rw [Int.pow_succ, Int.mul_comm (2 ^ j) 2, ← Int.mul_assoc, Int.mul_comm]
      rw [if_neg (by omega), if_pos rfl, show 0 + (j + 1) - 1 = j by omega, e, Int.mul_ediv_cancel_left _ (Int.ne_of_gt (tp j)), Int.mul_emod_right]
      simp
  · obtain ⟨j, rfl⟩ : ∃ j, d = j + 1 := ⟨d - 1, by omega⟩
    rw [if_neg (show ¬ j + 1 + k = 0 by omega), if_neg (show ¬ j + 1 = 0 by omega), show j + 1 + k - 1 = j + k by omega, show j + 1 - 1 = j by omega, Int.pow_add, Int.mul_ediv_mul_of_pos_left _ _ (tp k)]
    have e : V * 2 ^ k % (2 ^ j * 2 ^ k) = V % 2 ^ j * 2 ^ k := by rw [Int.mul_comm V, Int.mul_comm (2 ^ j), Int.mul_emod_mul_of_pos _ _ (tp k), Int.mul_comm]
    rw [e]
    have h : (V % 2 ^ j * 2 ^ k ≠ 0 ∨ false = true) ↔ (V % 2 ^ j ≠ 0 ∨ false = true) := by
      have := tp k
      simp [Int.mul_eq_zero]
      omega
    simp only [h]
theorem left_exact (V : Int) (d : Nat) (h : V % 2 ^ d = 0) : left V d false = 0 := by
  unfold left
  by_cases hd : d = 0
  · simp [hd]
  · obtain ⟨j, rfl⟩ : ∃ j, d = j + 1 := ⟨d - 1, by omega⟩
    obtain ⟨q, hq⟩ := Int.dvd_of_emod_eq_zero h
    rw [if_neg hd, Nat.add_sub_cancel, hq, Int.pow_succ, Int.mul_assoc, Int.mul_ediv_cancel_left _ (Int.ne_of_gt (tp j)), Int.mul_emod_right, Int.mul_emod_right]
    simp
theorem rq_exact (neg : Bool) (mode V : Int) (d : Nat) (h : V % 2 ^ d = 0) : rq neg mode V d false = V / 2 ^ d ∧ rside neg mode V d false = 0 := by
  unfold rq rside
  rw [left_exact V d h, up_zero]
  simp
theorem rq_scale (neg : Bool) (mode V : Int) (d k : Nat) : rq neg mode (V * 2 ^ k) (d + k) false = rq neg mode V d false ∧ rside neg mode (V * 2 ^ k) (d + k) false = rside neg mode V d false := by
  unfold rq rside
  rw [left_scale, Int.pow_add, Int.mul_ediv_mul_of_pos_left _ _ (tp k)]
  exact ⟨rfl, rfl⟩

/-! ### bits of a number in words -/
theorem mod_mul (n a b : Int) (ha : 0 < a) : n % (a * b) = n % a + a * (n / a % b) := by
  have h1 := Int.emod_add_mul_ediv n (a * b)
  have h2 := Int.emod_add_mul_ediv n a
  have h3 := Int.emod_add_mul_ediv (n / a) b
  rw [edd (Int.le_of_lt ha)] at h3
  have h4 : a * (n / a) = a * (n / a % b) + a * b * (n / (a * b)) := by
    conv => lhs; rw [← h3]
    rw [Int.mul_add, Int.mul_assoc]
  omega
theorem two_words (j t : Nat) : (2 : Int) ^ (64 * j + t) = BW ^ j * 2 ^ t := by rw [Int.pow_add, Int.pow_mul, ← BW_two]
theorem mod_word (n : Int) (t : Nat) (ht : t ≤ 64) : n % BW % 2 ^ t = n % 2 ^ t := by
  apply Int.emod_emod_of_dvd
  exact ⟨2 ^ (64 - t), (two64 t ht).symm⟩
theorem mod_bits (V : Int) (j t : Nat) (ht : t ≤ 64) : V % 2 ^ (64 * j + t) = V % BW ^ j + BW ^ j * (dg V j % 2 ^ t) := by
  rw [two_words, mod_mul _ _ _ (BWp j)]
  unfold dg
  rw [mod_word _ _ ht]
theorem bit_word (V : Int) (j t : Nat) (ht : t < 64) : dg V j / 2 ^ t % 2 = V / 2 ^ (64 * j + t) % 2 := by
  rw [two_words, ← edd (Int.le_of_lt (BWp j))]
  unfold dg
  obtain ⟨x, hx⟩ : ∃ x, x = V / BW ^ j := ⟨_, rfl⟩
  rw [← hx]
  have h1 := Int.emod_add_mul_ediv x BW
  have e : BW * (x / BW) = 2 ^ t * (2 * (2 ^ (63 - t) * (x / BW))) := by
    rw [← two64 t (by omega), show 64 - t = (63 - t) + 1 by omega, Int.pow_succ, Int.mul_assoc, Int.mul_assoc, Int.mul_left_comm _ 2]
  have h2 : x / 2 ^ t = x % BW / 2 ^ t + 2 * (2 ^ (63 - t) * (x / BW)) := by
    conv => lhs; rw [← h1, e]
    rw [Int.add_mul_ediv_left _ _ (Int.ne_of_gt (tp t))]
  rw [h2]
  omega
/-- Some bit among the lowest 64 j + t is set. -/
theorem sticky_iff {l : List Int} (h : okd BW l) (j t : Nat) (ht : t ≤ 64) (hj : j ≤ l.length) : ev BW l % 2 ^ (64 * j + t) ≠ 0 ↔ (∃ i, i < j ∧ l.getD i 0 ≠ 0) ∨ l.getD j 0 % 2 ^ t ≠ 0 := by
  rw [mod_bits _ _ _ ht, ev_dg h, ← ev_mod h BW_pos j hj]
  have h1 := ev_nonneg (okd_take h j) BW_pos
  have hg := okd_get h BW_pos j
  have h2 := Int.emod_nonneg (l.getD j 0) (Int.ne_of_gt (tp t))
  have h3 := Int.mul_nonneg (Int.le_of_lt (BWp j)) h2
  have h4 : ev BW (l.take j) = 0 ↔ ∀ i, i < j → l.getD i 0 = 0 := by
    constructor
    · intro he i hi
      have := ev_dg (okd_take h j) i
      rw [he] at this
      have e0 : dg 0 i = 0 := by simp [dg]
      rw [e0] at this
      have e1 : (l.take j).getD i 0 = l.getD i 0 := by simp only [List.getD_eq_getElem?_getD, List.getElem?_take, if_pos hi]
      omega
    · intro ha
      have : l.take j = List.replicate j 0 := by
        apply List.ext_getElem
        · simp; omega
        · intro i h5 h6
          have h7 := ha i (by simp at h5; omega)
          simp at h5
          simp only [List.getElem_take, List.getElem_replicate]
          simpa [List.getD, List.getElem?_eq_getElem (show i < l.length by omega)] using h7
      rw [this, ev_replicate]
  have h5 : BW ^ j * (l.getD j 0 % 2 ^ t) = 0 ↔ l.getD j 0 % 2 ^ t = 0 := by
    have := BWp j
    rw [Int.mul_eq_zero]
    omega
  constructor
  · intro hn
    by_cases h6 : ev BW (l.take j) = 0
    · right
      intro h7
      have := h5.2 h7
      omega
    · left
      refine Classical.byContradiction fun h7 => h6 (h4.2 fun i hi => Classical.byContradiction fun h8 => h7 ⟨i, hi, h8⟩)
  · rintro (⟨i, hi, hne⟩ | hne)
    · have : ev BW (l.take j) ≠ 0 := fun h6 => hne (h4.1 h6 i hi)
      omega
    · have : BW ^ j * (l.getD j 0 % 2 ^ t) ≠ 0 := fun h6 => hne (h5.1 h6)
      omega
/-- The lowest t bits are cut off in word 0. -/
theorem mask_ev {l : List Int} (h : okd BW l) (h0 : 0 < l.length) (t : Nat) (ht : t ≤ 64) : ev BW (l.set 0 (l.getD 0 0 - l.getD 0 0 % 2 ^ t)) = ev BW l - ev BW l % 2 ^ t := by
  have h1 := mod_bits (ev BW l) 0 t ht
  rw [ev_dg h] at h1
  simp only [Nat.mul_zero, Nat.zero_add, Int.pow_zero, Int.emod_one, Int.one_mul, Int.zero_add] at h1
  rw [ev_set _ _ _ _ h0, h1, Int.pow_zero]
  omega
theorem mask_ok {l : List Int} (h : okd BW l) (t : Nat) : okd BW (l.set 0 (l.getD 0 0 - l.getD 0 0 % 2 ^ t)) := by
  have hg := okd_get h BW_pos 0
  have h2 := Int.emod_nonneg (l.getD 0 0) (Int.ne_of_gt (tp t))
  have h3 : l.getD 0 0 % 2 ^ t ≤ l.getD 0 0 := by
    have := Int.emod_add_mul_ediv (l.getD 0 0) (2 ^ t)
    have h4 := Int.mul_nonneg (Int.le_of_lt (tp t)) (Int.ediv_nonneg hg.1 (Int.le_of_lt (tp t)))
    omega
  exact okd_set h 0 (by omega) (by omega)
/-- The top bit of the last word is set. -/
def Top (l : List Int) : Prop := 9223372036854775808 ≤ l.getD (l.length - 1) 0
theorem top_range {l : List Int} (h : okd BW l) (h0 : 0 < l.length) (ht : Top l) : 2 ^ (64 * l.length - 1) ≤ ev BW l ∧ ev BW l < 2 ^ (64 * l.length) := by
  have h1 := ev_lt h BW_pos
  have e : (2 : Int) ^ (64 * l.length) = BW ^ l.length := by rw [Int.pow_mul, ← BW_two]
  refine ⟨?_, by rw [e]; exact h1⟩
  have h2 := ev_dg h (l.length - 1)
  unfold Top at ht
  rw [← h2] at ht
  unfold dg at ht
  have h3 : ev BW l / BW ^ (l.length - 1) < BW := by
    apply Int.ediv_lt_of_lt_mul (BWp _)
    rw [Int.mul_comm, ← Int.pow_succ, show (l.length - 1).succ = l.length by omega]
    exact h1
  have h4 : 0 ≤ ev BW l / BW ^ (l.length - 1) := Int.ediv_nonneg (ev_nonneg h BW_pos) (Int.le_of_lt (BWp _))
  rw [Int.emod_eq_of_lt h4 h3] at ht
  have h5 := Int.emod_add_mul_ediv (ev BW l) (BW ^ (l.length - 1))
  have h6 := Int.emod_nonneg (ev BW l) (Int.ne_of_gt (BWp (l.length - 1)))
  have h7 := Int.mul_le_mul_of_nonneg_left ht (Int.le_of_lt (BWp (l.length - 1)))
  have e2 : (2 : Int) ^ (64 * l.length - 1) = BW ^ (l.length - 1) * 9223372036854775808 := by
    rw [show 64 * l.length - 1 = 64 * (l.length - 1) + 63 by omega, two_words]
    rfl
  omega
theorem top_of {l : List Int} (h : okd BW l) (h0 : 0 < l.length) (hV : 2 ^ (64 * l.length - 1) ≤ ev BW l) : Top l := by
  have h2 := ev_dg h (l.length - 1)
  unfold Top
  rw [← h2]
  unfold dg
  have h1 := ev_lt h BW_pos
  have h3 : ev BW l / BW ^ (l.length - 1) < BW := by
    apply Int.ediv_lt_of_lt_mul (BWp _)
    rw [Int.mul_comm, ← Int.pow_succ, show (l.length - 1).succ = l.length by omega]
    exact h1
  have h4 : 0 ≤ ev BW l / BW ^ (l.length - 1) := Int.ediv_nonneg (ev_nonneg h BW_pos) (Int.le_of_lt (BWp _))
  rw [Int.emod_eq_of_lt h4 h3]
  apply Int.le_ediv_of_mul_le (BWp _)
  rw [Int.mul_comm]
  have e2 : (2 : Int) ^ (64 * l.length - 1) = BW ^ (l.length - 1) * 9223372036854775808 := by
    rw [show 64 * l.length - 1 = 64 * (l.length - 1) + 63 by omega, two_words]
    rfl
  omega

/-! ### a row whose places from o + lo on below o + hi are the words of T, the others as they were -/
def upd (Z : List Int) (o lo hi : Nat) (T : Int) : List Int := (List.range Z.length).map fun j => if o + lo ≤ j ∧ j < o + hi then dg T (j - o) else Z.getD j 0
theorem upd_len (Z : List Int) (o lo hi : Nat) (T : Int) : (upd Z o lo hi T).length = Z.length := by simp [upd]
theorem upd_get (Z : List Int) (o lo hi : Nat) (T : Int) (j : Nat) (hj : j < Z.length) : (upd Z o lo hi T).getD j 0 = if o + lo ≤ j ∧ j < o + hi then dg T (j - o) else Z.getD j 0 := by
  simp [upd, List.getD, hj]
theorem upd_none (Z : List Int) (o lo hi : Nat) (T : Int) (h : hi ≤ lo) : upd Z o lo hi T = Z := by
  apply List.ext_getElem
  · simp [upd]
  · intro i h1 h2
    simp only [upd, List.getElem_map, List.getElem_range]
    rw [if_neg (by omega)]
    simp [List.getD, List.getElem?_eq_getElem h2]
theorem upd_set (Z : List Int) (o lo hi : Nat) (T : Int) (j : Nat) (h : lo ≤ hi) (hj : (j + 1 = lo ∧ o + j < Z.length) ∨ (j = hi ∧ o + j < Z.length)) : (upd Z o lo hi T).set (o + j) (dg T j) = if j + 1 = lo then upd Z o j hi T else upd Z o lo (hi + 1) T := by
  apply List.ext_getElem
  · split <;> simp [upd]
  · intro i h1 h2
    split
    · simp only [upd, List.getElem_set, List.getElem_map, List.getElem_range]
      by_cases e : o + j = i
      · subst e
        rw [if_pos rfl, if_pos (by omega), Nat.add_sub_cancel_left]
      · rw [if_neg e]
        by_cases e2 : o + lo ≤ i ∧ i < o + hi
        · rw [if_pos e2, if_pos (by omega)]
        · rw [if_neg e2, if_neg (by omega)]
    · simp only [upd, List.getElem_set, List.getElem_map, List.getElem_range]
      by_cases e : o + j = i
      · subst e
        rw [if_pos rfl, if_pos (by omega), Nat.add_sub_cancel_left]
      · rw [if_neg e]
        by_cases e2 : o + lo ≤ i ∧ i < o + hi
        · rw [if_pos e2, if_pos (by omega)]
        · rw [if_neg e2, if_neg (by omega)]
theorem upd_down (Z : List Int) (o lo hi : Nat) (T : Int) (h : lo < hi) (hj : o + lo < Z.length) : (upd Z o (lo + 1) hi T).set (o + lo) (dg T lo) = upd Z o lo hi T := by
  rw [upd_set _ _ _ _ _ _ (by omega) (.inl ⟨rfl, hj⟩), if_pos rfl]
theorem upd_up (Z : List Int) (o lo hi : Nat) (T : Int) (h : lo ≤ hi) (hj : o + hi < Z.length) : (upd Z o lo hi T).set (o + hi) (dg T hi) = upd Z o lo (hi + 1) T := by
  rw [upd_set _ _ _ _ _ _ h (.inr ⟨rfl, hj⟩), if_neg (by omega)]
theorem upd_ok {Z : List Int} (h : okd BW Z) (o lo hi : Nat) (T : Int) : okd BW (upd Z o lo hi T) := by
  intro d hd
  simp only [upd, List.mem_map, List.mem_range] at hd
  obtain ⟨j, hj, rfl⟩ := hd
  split
  · exact dg_ok _ _
  · exact okd_get h BW_pos j
/-- Filled whole: what was ahead, the words, what was behind. -/
theorem upd_all (A B R : List Int) (T : Int) : upd (A ++ (B ++ R)) A.length 0 B.length T = A ++ (wn B.length T ++ R) := by
  apply List.ext_getElem
  · simp [upd, wn]
  · intro i h1 h2
    simp only [upd, List.getElem_map, List.getElem_range]
    by_cases e : i < A.length
    · rw [if_neg (by omega), List.getElem_append_left e]
      simp [List.getD, List.getElem?_append_left e, e]
    · rw [List.getElem_append_right (by omega)]
      by_cases e2 : i - A.length < B.length
      · rw [if_pos (by omega), List.getElem_append_left (by rw [wn_len]; exact e2)]
        simp [wn]
      · rw [if_neg (by omega), List.getElem_append_right (by rw [wn_len]; omega)]
        simp only [List.getD_eq_getElem?_getD, wn_len]
        rw [List.getElem?_append_right (by omega), List.getElem?_append_right (by omega), List.getElem?_eq_getElem]
        rfl

/-! ### the words of a rounded mantissa -/
theorem shift_all (V : Int) (k t : Nat) : V / BW ^ k / 2 ^ t = V / 2 ^ (64 * k + t) := by rw [two_words, edd (Int.le_of_lt (BWp k))]
theorem cut_mul (V : Int) (t : Nat) : V - V % 2 ^ t = V / 2 ^ t * 2 ^ t := by
  have := Int.emod_add_mul_ediv V (2 ^ t)
  rw [Int.mul_comm]
  omega
/-- The last n words, the lowest t bits cut off. -/
theorem rnd_cut {l : List Int} (h : okd BW l) (k n t : Nat) (hn : 0 < n) (hl : l.length = k + n) (ht : t ≤ 64) : ev BW ((l.drop k).set 0 ((l.drop k).getD 0 0 - (l.drop k).getD 0 0 % 2 ^ t)) = ev BW l / 2 ^ (64 * k + t) * 2 ^ t := by
  rw [mask_ev (okd_drop h k) (by simp; omega) t ht, cut_mul, ev_div h BW_pos k (by omega), shift_all]
/-- The last n words, 2^t added, then the lowest t bits cut off. -/
theorem rnd_up {l : List Int} (h : okd BW l) (k n t : Nat) (hn : 0 < n) (hl : l.length = k + n) (ht : t ≤ 64) (hW : ev BW (l.drop k) + 2 ^ t < BW ^ n) : ev BW ((wn n (ev BW (l.drop k) + 2 ^ t)).set 0 ((wn n (ev BW (l.drop k) + 2 ^ t)).getD 0 0 - (wn n (ev BW (l.drop k) + 2 ^ t)).getD 0 0 % 2 ^ t)) = (ev BW l / 2 ^ (64 * k + t) + 1) * 2 ^ t := by
  have h0 := ev_nonneg (okd_drop h k) BW_pos
  have := tp t
  rw [mask_ev (wn_ok _ _) (by rw [wn_len]; exact hn) t ht, cut_mul, ev_wn_lt _ _ (by omega) hW]
  have e : (ev BW (l.drop k) + 2 ^ t) / 2 ^ t = ev BW (l.drop k) / 2 ^ t + 1 := by
    have := Int.add_mul_ediv_left (ev BW (l.drop k)) 1 (Int.ne_of_gt (tp t))
    rwa [Int.mul_one] at this
  rw [e, ev_div h BW_pos k (by omega), shift_all]
/-- There is a carry just where all the bits that stay are set. -/
theorem rnd_carry {l : List Int} (h : okd BW l) (k n t : Nat) (hn : 0 < n) (hl : l.length = k + n) (ht : t < 64) (hW : BW ^ n ≤ ev BW (l.drop k) + 2 ^ t) : ev BW l / 2 ^ (64 * k + t) + 1 = 2 ^ (64 * n - t) := by
  have h1 := ev_lt (okd_drop h k) BW_pos
  rw [List.length_drop, hl, Nat.add_sub_cancel_left] at h1
  rw [← shift_all, ← ev_div h BW_pos k (by omega)]
  have e : BW ^ n = 2 ^ t * 2 ^ (64 * n - t) := by rw [BW_two, ← Int.pow_mul, ← Int.pow_add]; congr 1; omega
  have h2 : ev BW (l.drop k) / 2 ^ t < 2 ^ (64 * n - t) := by
    apply Int.ediv_lt_of_lt_mul (tp t)
    rw [Int.mul_comm, ← e]
    exact h1
  have h3 : 2 ^ (64 * n - t) - 1 ≤ ev BW (l.drop k) / 2 ^ t := by
    apply Int.le_ediv_of_mul_le (tp t)
    rw [Int.sub_mul, Int.mul_comm, ← e]
    omega
  omega
theorem rnd_nocarry {l : List Int} (h : okd BW l) (k n t : Nat) (hn : 0 < n) (hl : l.length = k + n) (ht : t < 64) (hW : ev BW (l.drop k) + 2 ^ t < BW ^ n) : ev BW l / 2 ^ (64 * k + t) + 1 < 2 ^ (64 * n - t) := by
  rw [← shift_all, ← ev_div h BW_pos k (by omega)]
  have e : BW ^ n = 2 ^ t * 2 ^ (64 * n - t) := by rw [BW_two, ← Int.pow_mul, ← Int.pow_add]; congr 1; omega
  have h3 : (ev BW (l.drop k) + 2 ^ t) / 2 ^ t < 2 ^ (64 * n - t) := by
    apply Int.ediv_lt_of_lt_mul (tp t)
    rw [Int.mul_comm, ← e]
    exact hW
  have := Int.add_mul_ediv_left (ev BW (l.drop k)) 1 (Int.ne_of_gt (tp t))
  rw [Int.mul_one] at this
  omega
/-- Behind a carry: a half, the top bit set, the lowest t bits cut off. -/
theorem rnd_half {n t : Nat} {W : Int} (hn : 0 < n) (ht : t < 64) (h0 : BW ^ n ≤ W) (h1 : W < BW ^ n + 2 ^ t) (X : List Int) (hX : X = (wn n ((W - BW ^ n) / 2)).set (n - 1) ((wn n ((W - BW ^ n) / 2)).getD (n - 1) 0 + 9223372036854775808)) :
    (wn n ((W - BW ^ n) / 2)).getD (n - 1) 0 < 9223372036854775808 ∧ okd BW X ∧ ev BW (X.set 0 (X.getD 0 0 - X.getD 0 0 % 2 ^ t)) = 2 ^ (64 * n - 1 - t) * 2 ^ t := by
  have e2 : (2 : Int) ^ (64 * n - 1) = BW ^ (n - 1) * 9223372036854775808 := by
    rw [show 64 * n - 1 = 64 * (n - 1) + 63 by omega, two_words]
    rfl
  have hb : BW ^ n = BW ^ (n - 1) * BW := by rw [← Int.pow_succ]; congr 1; omega
  have e3 : BW ^ n = 2 * 2 ^ (64 * n - 1) := by rw [e2, hb, BW_def]; omega
  have h2 : (W - BW ^ n) / 2 < 2 ^ t := by have := tp t; omega
  have h2' : 0 ≤ (W - BW ^ n) / 2 := by omega
  have h3 : (2 : Int) ^ t ≤ 2 ^ (64 * n - 1) := pow_mono (by omega) (by omega)
  have hv : ev BW (wn n ((W - BW ^ n) / 2)) = (W - BW ^ n) / 2 := ev_wn_lt _ _ h2' (by omega)
  have hg : (wn n ((W - BW ^ n) / 2)).getD (n - 1) 0 < 9223372036854775808 := by
    rw [wn_get (by omega)]
    unfold dg
    have h4 : (W - BW ^ n) / 2 / BW ^ (n - 1) < 9223372036854775808 := by
      apply Int.ediv_lt_of_lt_mul (BWp _)
      rw [Int.mul_comm, ← e2]
      omega
    have h5 : 0 ≤ (W - BW ^ n) / 2 / BW ^ (n - 1) := Int.ediv_nonneg h2' (Int.le_of_lt (BWp _))
    rw [Int.emod_eq_of_lt h5 (by have := BW_def; omega)]
    exact h4
  have hg0 := okd_get (wn_ok n ((W - BW ^ n) / 2)) BW_pos (n - 1)
  have hok : okd BW X := by rw [hX]; exact okd_set (wn_ok _ _) _ (by omega) (by have := BW_def; omega)
  have hXv : ev BW X = (W - BW ^ n) / 2 + 2 ^ (64 * n - 1) := by
    rw [hX, ev_set _ _ _ _ (by rw [wn_len]; omega), hv, e2]
    congr 2
    omega
  refine ⟨hg, hok, ?_⟩
  rw [mask_ev hok (by rw [hX, List.length_set, wn_len]; exact hn) t (by omega), cut_mul, hXv]
  have e4 : (2 : Int) ^ (64 * n - 1) = 2 ^ t * 2 ^ (64 * n - 1 - t) := by rw [← Int.pow_add]; congr 1; omega
  rw [e4, Int.add_mul_ediv_left _ _ (Int.ne_of_gt (tp t)), Int.ediv_eq_zero_of_lt h2' h2, Int.zero_add]
end Go.Proofs.YtgpgacnnkjiadaaGreatDoor.Dig
