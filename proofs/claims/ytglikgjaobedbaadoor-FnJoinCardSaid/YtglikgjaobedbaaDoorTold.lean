/-
  A Real that was told is a valid one again.
-/
import Derived.Test.YtglikgjaobedbaaDoorPartsW
namespace Go.Proofs.YtglikgjaobedbaaDoor.Sp
open Go.RowKit Go.Proofs.YtglikgjaobedbaaDoorW.PrintWords Go.Proofs.YtglikgjaobedbaaDoorW.PrintLast Go.Proofs.YtglikgjaobedbaaDoorW.PrintMore Go.Proofs.YtglikgjaobedbaaDoor.Dig
set_option linter.unusedVariables false
set_option linter.unusedSimpArgs false
theorem Bits.shift {v : Int} {b n : Nat} (h : Bits v b) (hn : n < b) (h0 : 0 < v) : Bits (v / 2 ^ n) (b - n) := by
  have hp : (0 : Int) < 2 ^ n := Int.pow_pos (by omega)
  refine ⟨Int.ediv_nonneg h.1 (Int.le_of_lt hp), ?_, .inr ?_⟩
  · apply Int.ediv_lt_of_lt_mul hp
    rw [← Int.pow_add, show b - n + n = b by omega]
    exact h.2.1
  · apply Int.le_ediv_of_mul_le hp
    rw [← Int.pow_add, show b - n - 1 + n = b - 1 by omega]
    rcases h.2.2 with h | h
    · omega
    · exact h
theorem Tz.cut {v : Int} {n : Nat} (h : Tz v n) : Tz (v / 2 ^ n) 0 := by
  obtain ⟨m, rfl⟩ := h
  refine ⟨m, ?_⟩
  rw [Int.mul_ediv_cancel_left _ (Int.ne_of_gt (Int.pow_pos (by omega)))]
  simp
theorem tv_tv (f v : Int) (n : Nat) : tv f (tv f v n) 0 = tv f v n := by
  unfold tv
  split <;> simp
theorem tx_back (f x : Int) (b n : Nat) : tx f (tx f (-(b : Int)) n + me f b x) 0 = tx f x n := by
  unfold tx me
  split <;> simp
  omega
theorem told_rok {w1 w : World} {p : Nat} {m f : Int} {A A1 : Option Addr} {mm cc n1 k1 : Nat} {x v : Int} {b n : Nat} {X : List Int} (hr : ROk w1 p m f A mm cc x v b n X) (h : Wd w (.slice A1 n1 k1) (tv f v n)) : ∃ X', ROk w p m f A1 n1 k1 (tx f (-(b : Int)) n) (tv f v n) (b - n) 0 X' := by
  have hbb := hr.bb
  obtain ⟨h1, h2, h3 | ⟨rfl, h3, h4, h5, h6, h7, h8, h9, h10⟩⟩ := hr
  · exact ⟨[], h1, h2, .inl h3⟩
  · have hn := tz_lt h8 h7 h6
    have e1 : tv 1 v n = v / 2 ^ n := if_pos rfl
    have e2 : tx 1 (-(b : Int)) n = -(b : Int) + n := if_pos rfl
    rw [e1] at h ⊢
    rw [e2]
    obtain ⟨_, _, X', e, k2, k3, k4, k5⟩ := h
    injection e with a1 a2 a3
    subst a1 a2 a3
    have hb2 := hbb rfl
    refine ⟨X', h1, h2, .inr ⟨rfl, ⟨_, _, rfl, k2, k3, k4.ok⟩, ?_, k5, ?_, h7.shift hn h6, h8.cut, by omega, by omega, by omega⟩⟩
    · refine Cn_len_le k4 BW_gt 10000 ?_
      have q1 := Int.ediv_le_self (2 ^ n) (Int.le_of_lt h6)
      have q2 := h7.2.1
      have q3 : (2 : Int) ^ b ≤ 2 ^ (64 * 10000) := pow_mono (by omega) (by omega)
      rw [k5, BW_two, ← Int.pow_mul]
      omega
    · obtain ⟨t, rfl⟩ := h8
      rw [Int.mul_ediv_cancel_left _ (Int.ne_of_gt (Int.pow_pos (by omega)))]
      exact pos_mul_right h6 (Int.pow_pos (by omega))
end Go.Proofs.YtglikgjaobedbaaDoor.Sp
