/-
  MERGED BY PROGRAM (regroup.py): DecP, DecQ.
-/
import Derived.RowKit
/-! ## DecP -/
section
namespace Go.Proofs.YtfnknldbjckgoaaGreatDoor.Dig
set_option linter.unusedVariables false

/-! ### figures -/
/-- The sign of a figure (bases up to 16). -/
def fig (d : Nat) : Int := if d < 10 then 48 + (d : Int) else 87 + (d : Int)
/-- The lowest k figures of n to the base b, the highest first. -/
def lows (b : Nat) : Nat → Nat → List Int
  | 0, _ => []
  | k + 1, n => lows b k (n / b) ++ [fig (n % b)]
/-- Without the noughts ahead. -/
def lz : List Int → List Int
  | [] => []
  | c :: l => if c = 48 then lz l else c :: l
/-- The figures of n (none of 0). -/
def figs (b n : Nat) : List Int := lz (lows b (n.log2 + 1) n)
theorem lows_len (b k n : Nat) : (lows b k n).length = k := by
  induction k generalizing n with
  | zero => rfl
  | succ k ih => simp [lows, ih]
theorem lows_split (b j k n : Nat) : lows b (j + k) n = lows b j (n / b ^ k) ++ lows b k n := by
  induction k generalizing n with
  | zero => simp [lows]
  | succ k ih =>
    rw [← Nat.add_assoc, lows, ih, lows, ← List.append_assoc, Nat.div_div_eq_div_mul, Nat.pow_succ, Nat.mul_comm]
theorem lows_zero (b k : Nat) : lows b k 0 = List.replicate k 48 := by
  induction k with
  | zero => rfl
  | succ k ih => rw [lows, Nat.zero_div, ih, Nat.zero_mod, List.replicate_succ']; rfl
theorem lz_rep (k : Nat) (l : List Int) : lz (List.replicate k 48 ++ l) = lz l := by
  induction k with
  | zero => rfl
  | succ k ih => rw [List.replicate_succ, List.cons_append, lz, if_pos rfl, ih]
theorem lz_pad (b j k n : Nat) (h : n < b ^ k) : lz (lows b (j + k) n) = lz (lows b k n) := by
  rw [lows_split, Nat.div_eq_of_lt h, lows_zero, lz_rep]
theorem lt_pow_log (b n : Nat) (hb : 2 ≤ b) : n < b ^ (n.log2 + 1) := by
  have h1 : n < 2 ^ (n.log2 + 1) := Nat.lt_log2_self
  exact Nat.lt_of_lt_of_le h1 (Nat.pow_le_pow_left hb _)
theorem lz_lows (b k n : Nat) (hb : 2 ≤ b) (h : n < b ^ k) : lz (lows b k n) = figs b n := by
  have h2 := lt_pow_log b n hb
  unfold figs
  rcases Nat.le_total k (n.log2 + 1) with hk | hk
  · rw [show n.log2 + 1 = (n.log2 + 1 - k) + k by omega, lz_pad b _ k n h]
  · rw [show k = (k - (n.log2 + 1)) + (n.log2 + 1) by omega, lz_pad b _ _ n h2]
theorem figs_zero (b : Nat) : figs b 0 = [] := by
  unfold figs
  rw [lows_zero]
  have := lz_rep (Nat.log2 0 + 1) []
  rw [List.append_nil] at this
  exact this
theorem lz_append (l m : List Int) (h : lz l ≠ []) : lz (l ++ m) = lz l ++ m := by
  induction l with
  | nil => exact absurd rfl h
  | cons c l ih =>
    rw [List.cons_append, lz, lz]
    by_cases hc : c = 48
    · rw [if_pos hc, if_pos hc]
      rw [lz, if_pos hc] at h
      exact ih h
    · rw [if_neg hc, if_neg hc, List.cons_append]
theorem fig_ne (d : Nat) (h : 0 < d) (h2 : d < 16) : fig d ≠ 48 := by
  unfold fig
  split <;> omega
theorem fig_dec (d : Nat) (h : d < 10) : fig d = 48 + (d : Int) := if_pos h
theorem figs_one (b d : Nat) (hb : 2 ≤ b) (h16 : b ≤ 16) (h0 : 0 < d) (h1 : d < b) : figs b d = [fig d] := by
  rw [← lz_lows b 1 d hb (by rw [Nat.pow_one]; exact h1)]
  show lz (lows b 0 (d / b) ++ [fig (d % b)]) = _
  rw [Nat.mod_eq_of_lt h1]
  show lz ([] ++ [fig d]) = _
  rw [List.nil_append, lz, if_neg (fig_ne d h0 (by omega))]
theorem figs_succ (b n : Nat) (hb : 2 ≤ b) (h16 : b ≤ 16) (h0 : 0 < n) : figs b n = figs b (n / b) ++ [fig (n % b)] ∧ figs b n ≠ [] := by
  induction n using Nat.strongRecOn with
  | _ n ih =>
    by_cases hlt : n < b
    · rw [figs_one b n hb h16 h0 hlt, Nat.div_eq_of_lt hlt, figs_zero, Nat.mod_eq_of_lt hlt]
      exact ⟨rfl, by simp⟩
    · have h1 : 0 < n / b := Nat.div_pos (by omega) (by omega)
      have h2 : n / b < n := Nat.div_lt_self h0 (by omega)
      have h3 := (ih (n / b) h2 h1).2
      have h4 : n < b ^ (n.log2 + 1) := lt_pow_log b n hb
      have h5 : n / b < b ^ n.log2 := by
        rw [Nat.div_lt_iff_lt_mul (by omega), ← Nat.pow_succ]
        exact h4
      have h6 : figs b n = lz (lows b n.log2 (n / b) ++ [fig (n % b)]) := rfl
      have h7 := lz_lows b n.log2 (n / b) hb h5
      rw [h6, lz_append _ _ (by rw [h7]; exact h3), h7]
      exact ⟨rfl, by simp⟩
theorem figs_ne (b n : Nat) (hb : 2 ≤ b) (h16 : b ≤ 16) (h0 : 0 < n) : figs b n ≠ [] := (figs_succ b n hb h16 h0).2
theorem lz_len (l : List Int) : (lz l).length ≤ l.length := by
  induction l with
  | nil => exact Nat.le_refl _
  | cons d l ih =>
    rw [lz]
    split
    · simp; omega
    · exact Nat.le_refl _
theorem figs_len (b k n : Nat) (hb : 2 ≤ b) (h : n < b ^ k) : (figs b n).length ≤ k := by
  rw [← lz_lows b k n hb h]
  have := lz_len (lows b k n)
  rw [lows_len] at this
  exact this

/-! ### noughts at the end -/
/-- Figures of a decimal that is not 0: the first and the last one are no noughts. -/
structure Dc (l : List Int) : Prop where
  dig : ∀ c ∈ l, 48 ≤ c ∧ c ≤ 57
  head : ∃ c t, l = c :: t ∧ c ≠ 48
  last : l.getLast? ≠ some 48
theorem Dc.pos {l : List Int} (h : Dc l) : 0 < l.length := by
  obtain ⟨c, t, rfl, _⟩ := h.head
  simp
theorem Dc.ne {l : List Int} (h : Dc l) : l ≠ [] := by
  obtain ⟨c, t, rfl, _⟩ := h.head
  simp
/-! ### a decimal is halved s times -/
theorem two_dvd_step {s j n : Nat} (h : 2 ^ j ∣ n) (hj : j ≤ s) : 2 ^ (j + 1) ∣ n % 2 ^ s * 10 := by
  have h1 : 2 ^ j ∣ n % 2 ^ s := (Nat.dvd_mod_iff (Nat.pow_dvd_pow 2 hj)).2 h
  rw [Nat.pow_succ, show (10 : Nat) = 2 * 5 from rfl, ← Nat.mul_assoc]
  exact Nat.dvd_mul_right_of_dvd (Nat.mul_dvd_mul_right h1 2) 5
/-! ### a natural number times a power of 2 -/
/-! ### decimals are rounded -/
theorem Dc.take {l : List Int} (h : Dc l) (n : Nat) (hn : 0 < n) : ∃ c t, l.take n = c :: t ∧ c ≠ 48 := by
  obtain ⟨c, t, rfl, hc⟩ := h.head
  obtain ⟨m, rfl⟩ : ∃ m, n = m + 1 := ⟨n - 1, by omega⟩
  exact ⟨c, _, rfl, hc⟩
/-! ### the shortest decimal -/
/-! ### texts of decimals -/
/-- A natural number as a text. -/
def itoaT (n : Nat) : List Int := if n = 0 then [48] else figs 10 n
/-- A whole number as a text. -/
def itoaI (x : Int) : List Int := if x < 0 then 45 :: itoaT x.natAbs else itoaT x.natAbs
/-- An exponent: its sign, at least two figures. -/
def expT (x : Int) : List Int := [if x < 0 then 45 else 43] ++ (if x.natAbs < 10 then [48] else []) ++ itoaT x.natAbs
end Go.Proofs.YtfnknldbjckgoaaGreatDoor.Dig
end

/-! ## DecQ -/
section
namespace Go.Proofs.YtfnknldbjckgoaaGreatDoor.Dig
set_option linter.unusedVariables false
end Go.Proofs.YtfnknldbjckgoaaGreatDoor.Dig
end
