/-
  PLAIN LEAN, no program in sight: figures to the base 16.
-/
import Derived.Test.YtnbnfjpecgbnpaaGreatDoorGdec
namespace Go.Proofs.YtnbnfjpecgbnpaaGreatDoor.Dig
set_option linter.unusedVariables false
theorem figs_shift (b n j : Nat) (hb : 2 ≤ b) (h16 : b ≤ 16) (h0 : 0 < n) : figs b (n * b ^ j) = figs b n ++ List.replicate j 48 := by
  induction j with
  | zero => simp
  | succ j ih =>
    have hp : 0 < n * b ^ (j + 1) := Nat.mul_pos h0 (Nat.pow_pos (by omega))
    rw [(figs_succ b _ hb h16 hp).1, Nat.pow_succ, ← Nat.mul_assoc, Nat.mul_div_cancel _ (by omega), Nat.mul_mod_left, ih, List.replicate_succ', List.append_assoc]
    rfl
theorem rz_app_rep1 (l : List Int) (k : Nat) : rz (l ++ List.replicate k 48) = rz l := by
  induction k with
  | zero => simp
  | succ k ih => rw [List.replicate_succ', ← List.append_assoc, rz_snoc, if_pos rfl, ih]
theorem rz_figs_shift (b n j : Nat) (hb : 2 ≤ b) (h16 : b ≤ 16) (h0 : 0 < n) : rz (figs b (n * b ^ j)) = rz (figs b n) := by
  rw [figs_shift b n j hb h16 h0, rz_app_rep1]
theorem figs_low (b J v : Nat) (hb : 2 ≤ b) (h16 : b ≤ 16) (h1 : b ^ (J - 1) ≤ v) (h2 : v < b ^ J) (hJ : 0 < J) : figs b v = lows b J v := by
  obtain ⟨K, rfl⟩ : ∃ K, J = K + 1 := ⟨J - 1, by omega⟩
  rw [Nat.add_sub_cancel] at h1
  have hd0 : 0 < v / b ^ K := Nat.div_pos h1 (Nat.pow_pos (by omega))
  have hd1 : v / b ^ K < b := Nat.div_lt_of_lt_mul (by rw [← Nat.pow_succ]; exact h2)
  have e : lows b (K + 1) v = fig (v / b ^ K) :: lows b K v := by
    rw [Nat.add_comm, lows_split]
    show [fig (v / b ^ K % b)] ++ lows b K v = _
    rw [Nat.mod_eq_of_lt hd1]
    rfl
  rw [← lz_lows b (K + 1) v hb h2, e, lz, if_neg (fig_ne _ hd0 (by omega))]
/-- One figure of what is left: the word wd with c + 1 figures in it, H above. -/
theorem hex_step {R wd H c : Nat} (h : R = wd + 16 ^ (c + 1) * H) (hw : wd < 16 ^ (c + 1)) : R % 16 = wd % 16 ∧ R / 16 = wd / 16 + 16 ^ c * H ∧ wd / 16 < 16 ^ c := by
  rw [Nat.pow_succ] at h hw
  obtain ⟨P, hP⟩ : ∃ P, P = 16 ^ c := ⟨_, rfl⟩
  rw [← hP] at h hw ⊢
  have e : P * 16 * H = 16 * (P * H) := by rw [Nat.mul_comm P 16, Nat.mul_assoc]
  rw [e] at h
  obtain ⟨Q, hQ⟩ : ∃ Q, Q = P * H := ⟨_, rfl⟩
  rw [← hQ] at h ⊢
  omega
/-- What p writes: v times 2 to the x, v of b bits. -/
def fmtPT (v b : Nat) (x : Int) : List Int := [48, 120, 46] ++ rz (figs 16 (v * 2 ^ ((4 - b % 4) % 4))) ++ [112] ++ (if 0 ≤ (b : Int) + x then [43] else []) ++ itoaI ((b : Int) + x)
/-- The figures hang on the value alone. -/
theorem rz_words (v b n i : Nat) (V : Nat) (hv : 0 < v) (hb : b ≤ 64 * n) (hV : V * 2 ^ (64 * i) = v * 2 ^ (64 * n - b)) : rz (figs 16 V) = rz (figs 16 (v * 2 ^ ((4 - b % 4) % 4))) := by
  have hV0 : 0 < V := by
    rcases Nat.eq_zero_or_pos V with h | h
    · rw [h, Nat.zero_mul] at hV
      have := Nat.mul_pos hv (Nat.two_pow_pos (64 * n - b))
      omega
    · exact h
  have hm : 0 < v * 2 ^ ((4 - b % 4) % 4) := Nat.mul_pos hv (Nat.two_pow_pos _)
  have h1 := rz_figs_shift 16 V (16 * i) (by omega) (by omega) hV0
  have h2 := rz_figs_shift 16 (v * 2 ^ ((4 - b % 4) % 4)) ((64 * n - b - (4 - b % 4) % 4) / 4) (by omega) (by omega) hm
  have e1 : V * 16 ^ (16 * i) = V * 2 ^ (64 * i) := by rw [show (16 : Nat) = 2 ^ 4 from rfl, ← Nat.pow_mul]; congr 2; omega
  have e2 : v * 2 ^ ((4 - b % 4) % 4) * 16 ^ ((64 * n - b - (4 - b % 4) % 4) / 4) = v * 2 ^ (64 * n - b) := by
    rw [show (16 : Nat) = 2 ^ 4 from rfl, ← Nat.pow_mul, Nat.mul_assoc, ← Nat.pow_add]
    congr 2
    omega
  rw [← h1, ← h2, e1, e2, hV]
end Go.Proofs.YtnbnfjpecgbnpaaGreatDoor.Dig
