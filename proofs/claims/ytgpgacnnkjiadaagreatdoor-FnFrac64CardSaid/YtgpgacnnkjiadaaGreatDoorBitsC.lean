/-
  CONTRACTS: bits of words and of numbers in words: nlz, bitLen, trailingZeroBits, bit, sticky; math/bits.Add.
-/
import Derived.Test.YtgpgacnnkjiadaaGreatDoorKept
import Derived.Test.YtgpgacnnkjiadaaGreatDoorShelf
import Derived.Lib.BitFns
namespace Go.Proofs.YtgpgacnnkjiadaaGreatDoor.Sp
open Go.RowKit Go.Proofs.YtgpgacnnkjiadaaGreatDoorW.PrintWords Go.Proofs.YtgpgacnnkjiadaaGreatDoorW.PrintLast Go.Proofs.YtgpgacnnkjiadaaGreatDoorW.PrintMore Go.Proofs.YtgpgacnnkjiadaaGreatDoor.Dig
set_option linter.unusedVariables false
set_option linter.unusedSimpArgs false

theorem ret_i {k : IntKind} {a b : Int} (h : a = b) : Ending.returned (.int k a) = .returned (.int k b) := by rw [h]
/-! ### the plain side -/
theorem bitLen_bits : ∀ (n x : Nat), x < 2 ^ n → n ≤ 64 → Bits (x : Int) (Lib.bitLen x)
  | 0, x, h, _ => by
    have : x = 0 := by simpa using h
    subst this
    exact Bits.zero
  | n + 1, x, h, hn => by
    by_cases h0 : x = 0
    · subst h0; exact Bits.zero
    · have hx : x < 2 ^ 64 := Nat.lt_of_lt_of_le h (Nat.pow_le_pow_right (by decide) hn)
      have ih := bitLen_bits n (x / 2) (by rw [Nat.pow_succ] at h; omega) (by omega)
      rw [Lib.bitLen_half x h0 hx]
      obtain ⟨a, b, c⟩ := ih
      refine ⟨by omega, ?_, .inr ?_⟩
      · rw [Nat.add_comm, Int.pow_succ]; omega
      · rw [Nat.add_sub_cancel_left]
        rcases c with c | c
        · rw [c]; simp; omega
        · obtain ⟨k, hk⟩ : ∃ k, k = Lib.bitLen (x / 2) := ⟨_, rfl⟩
          rw [← hk] at c ⊢
          cases k with
          | zero => simp; omega
          | succ k => rw [Int.pow_succ]; simp only [Nat.add_sub_cancel] at c; omega
theorem bitLen_int {x : Int} (h0 : 0 ≤ x) (h1 : x < BW) : Bits x (Lib.bitLen x.toNat) := by
  have h := bitLen_bits 64 x.toNat (by have := BW_def; omega) (by omega)
  rwa [Int.toNat_of_nonneg h0] at h
theorem len_topW (l : List Int) (hl : Cn BW l) (t : Nat) (h0 : l ≠ []) (ht : Bits (l.getD (l.length - 1) 0) t) : Bits (ev BW l) (64 * (l.length - 1) + t) := by
  have hn : 0 < l.length := List.length_pos_iff.2 h0
  have h1 := ev_mid BW l (l.length - 1) (by omega)
  have h2 := ev_take_lt hl.ok BW_pos (l.length - 1) (by omega)
  rw [show l.length - 1 + 1 = l.length by omega, List.drop_length, ev_nil, Int.mul_zero, Int.add_zero] at h1
  have hg : 0 < l.getD (l.length - 1) 0 := by
    have h3 := okd_get hl.ok BW_pos (l.length - 1)
    have h4 := hl.top (l.getD (l.length - 1) 0) (by rw [List.getLast?_eq_getElem?, List.getD_eq_getElem?_getD, List.getElem?_eq_getElem (by omega)]; rfl)
    omega
  have ht0 := ht.pos hg
  have e : BW ^ (l.length - 1) = 2 ^ (64 * (l.length - 1)) := by rw [Int.pow_mul, BW_two]
  rw [e] at h1 h2
  have hp : (0 : Int) < 2 ^ (64 * (l.length - 1)) := Int.pow_pos (by omega)
  refine ⟨ev_nonneg hl.ok BW_pos, ?_, .inr ?_⟩
  · rw [Int.pow_add]
    have h5 : (2 : Int) ^ (64 * (l.length - 1)) * (l.getD (l.length - 1) 0 + 1) ≤ 2 ^ (64 * (l.length - 1)) * 2 ^ t := Int.mul_le_mul_of_nonneg_left (by have := ht.2.1; omega) (Int.le_of_lt hp)
    rw [Int.mul_add, Int.mul_one] at h5
    omega
  · rw [show 64 * (l.length - 1) + t - 1 = 64 * (l.length - 1) + (t - 1) by omega, Int.pow_add]
    have ht2 : (2 : Int) ^ (t - 1) ≤ l.getD (l.length - 1) 0 := by
      rcases ht.2.2 with h | h
      · omega
      · exact h
    have h5 : (2 : Int) ^ (64 * (l.length - 1)) * 2 ^ (t - 1) ≤ 2 ^ (64 * (l.length - 1)) * l.getD (l.length - 1) 0 := Int.mul_le_mul_of_nonneg_left ht2 (Int.le_of_lt hp)
    omega
/-- The lower bits are filled: the number of bits stays. -/
theorem smear {x : Int} {n : Nat} (h : Bits x n) (hx : x < BW) (k : Nat) : Bits (Go.bits .or .u64 x (x / 2 ^ k)) n ∧ Go.bits .or .u64 x (x / 2 ^ k) < BW := by
  obtain ⟨m, rfl⟩ := Int.eq_ofNat_of_zero_le h.1
  have e := BW_def
  have e2 : (m : Int) / 2 ^ k = ((m / 2 ^ k : Nat) : Int) := by push_cast; rfl
  have hm : m < 18446744073709551616 := by omega
  have hmk : m / 2 ^ k ≤ m := Nat.div_le_self _ _
  rw [e2, u64_or_nat _ _ hm (by omega)]
  have hn : m < 2 ^ n := by exact_mod_cast h.2.1
  have h1 : m ||| m / 2 ^ k < 2 ^ n := Nat.or_lt_two_pow hn (by omega)
  have h2 : m ≤ m ||| m / 2 ^ k := Nat.left_le_or
  have h3 : m ||| m / 2 ^ k < 2 ^ 64 := Nat.or_lt_two_pow (by omega) (by omega)
  refine ⟨⟨by omega, by exact_mod_cast h1, ?_⟩, by omega⟩
  rcases h.2.2 with h4 | h4
  · exact .inl h4
  · exact .inr (Int.le_trans h4 (by exact_mod_cast h2))

/-! ### nlz, bitLen -/
set_option maxHeartbeats 800000 in
theorem nlz_c (x : Int) (t : Nat) (w : World) (hx : 0 ≤ x ∧ x < BW) (ht : Bits x t) : Calls Tryz.prog 66 #[.int .u64 x] w fun e w' => e = .returned (.int .u64 ((64 - t : Nat) : Int)) ∧ w = w' := by
  have h1 := Sh.bits_LeadingZeros x w hx.1 (by have := BW_def; omega)
  have ht2 : Lib.bitLen x.toNat = t := (bitLen_int hx.1 hx.2).uniq ht
  have hle : t ≤ 64 := ht.le (by rw [← BW_two]; exact hx.2)
  rw [ht2, show (64 - (t : Int)) = ((64 - t : Nat) : Int) by omega] at h1
  have hw : IntKind.u64.wrap ((64 - t : Nat) : Int) = ((64 - t : Nat) : Int) := by rw [IntKind.wrap_u64]; omega
  have H1 := Aside0.mk h1
  clear h1 ht2 ht
  go_enter Tryz.func66, Tryz.ntmps66
  go_wp2_with (go_at_call 82; refine (H1.out).mono ?_; rintro e w' ⟨rfl, rfl⟩)
  go_ret
  exact ⟨by first | rfl | (simp [hw]; done), rfl⟩

end Go.Proofs.YtgpgacnnkjiadaaGreatDoor.Sp
