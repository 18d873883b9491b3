/-
  spec_Len: its plain function and its contract, as printed (print.sh) for this seat.
-/
import Derived.Test.YtnbnfjpecgbnpaaGreatDoorSp0
namespace Go.Proofs.YtnbnfjpecgbnpaaGreatDoor.Sp
open Go.RowKit Go.Proofs.YtnbnfjpecgbnpaaGreatDoorW.PrintWords Go.Proofs.YtnbnfjpecgbnpaaGreatDoorW.PrintLast Go.Proofs.YtnbnfjpecgbnpaaGreatDoorW.PrintMore
attribute [local go_sem] max2_int min2_int max_two min_two max_three min_three max_four min_four
set_option linter.unusedVariables false
set_option linter.unusedSimpArgs false

/-! ### spec_Len: function 14 -/
def spec_Len.l0 : Nat → Int → Int → Option (Int)
  | 0, _, _ => none
  | k + 1, x3, x4 => if x4 > 0 then (spec_Len.l0 k (wrap64 (x3 + 1)) (wrap64 (Int.tdiv x4 2))) else (some x3)
def spec_Len.f (k : Nat) (l0 : List Int) : Option (Int) := if (l0.length : Int) = 0 then (some 0) else (if 0 ≤ (wrap64 ((l0.length : Int) - 1)) then (if (wrap64 ((l0.length : Int) - 1)) < (l0.length : Int) then (spec_Len.l0 k (wrap64 (16 * (wrap64 ((l0.length : Int) - 1)))) (rd l0 (wrap64 ((l0.length : Int) - 1)))) else (none)) else (none))
theorem spec_Len.mono_l : ∀ k, (∀ y0 y1, LeO (spec_Len.l0 k y0 y1) (spec_Len.l0 (k + 1) y0 y1))
  | 0 => fun _ _ r h => by simp [spec_Len.l0] at h
  | k + 1 => by
    have ih0 := spec_Len.mono_l k
    · intro y0 y1
      unfold spec_Len.l0
      repeat' first
      | (with_reducible exact ih0 _ _)
      | (with_reducible exact LeO.refl _)
      | (with_reducible exact LeO.none _)
      | (with_reducible refine LeO.ite ?_ ?_)
      | (with_reducible refine LeO.bind ?_ (fun _ => ?_))
      | exact ih0 _ _
      | exact LeO.none _
      | refine LeO.ite ?_ ?_
      | refine LeO.bind ?_ (fun _ => ?_)
theorem spec_Len.mono : ∀ a0 k, LeO (spec_Len.f k a0) (spec_Len.f (k + 1) a0) := by
  intro a0 k
  have ih0 := spec_Len.mono_l k
  unfold spec_Len.f
  repeat' first
      | (with_reducible exact ih0 _ _)
      | (with_reducible exact LeO.refl _)
      | (with_reducible exact LeO.none _)
      | (with_reducible refine LeO.ite ?_ ?_)
      | (with_reducible refine LeO.bind ?_ (fun _ => ?_))
      | exact ih0 _ _
      | exact LeO.none _
      | refine LeO.ite ?_ ?_
      | refine LeO.bind ?_ (fun _ => ?_)
set_option maxHeartbeats 8000000 in
set_option maxRecDepth 100000 in
theorem spec_Len.calls (k : Nat) (A0 : Option Addr) (c0 : Nat) (l0 : List Int) (r : Int) (w : World) (hr0 : Kd.C (Kd.int .i64) w A0 l0.length l0) (hc0 : l0.length ≤ c0) (h : spec_Len.f k l0 = some r) :
    Calls Tryz.prog 14 #[.slice A0 l0.length c0] w fun e w' => e = .returned (.int .i64 r) ∧ Drawn0 w w' := by
  have HR0 := Aside0.mk hr0
  have HC0 := Aside0.mk hc0
  clear hr0 hc0
  have H : (if (l0.length : Int) = 0 then (some 0) else (if 0 ≤ (wrap64 ((l0.length : Int) - 1)) then (if (wrap64 ((l0.length : Int) - 1)) < (l0.length : Int) then (spec_Len.l0 k (wrap64 (16 * (wrap64 ((l0.length : Int) - 1)))) (rd l0 (wrap64 ((l0.length : Int) - 1)))) else (none)) else (none))) = some r := h
  clear h
  by_cases c2 : (l0.length : Int) = 0
  · rw [if_pos c2] at H
    have c2b0 : ((l0.length : Int) == 0) = true := beq_iff_eq.mpr c2
    have c2b1 : ((l0.length : Int) != 0) = false := bne_eq_false_iff_eq.mpr c2
    clear c2
    obtain rfl := Option.some.inj H
    go_enter Tryz.func14, Tryz.ntmps14
    go_wp2
    go_ret
    exact ⟨by first | rfl | (simp; done) | (simp [*]; done), by repeat (first | exact Drawn0.refl _ | apply Drawn0.step)⟩
  · rw [if_neg c2] at H
    have c2b0 : ((l0.length : Int) == 0) = false := beq_eq_false_iff_ne.mpr c2
    have c2b1 : ((l0.length : Int) != 0) = true := bne_iff_ne.mpr c2
    have c2b2 : ¬ (l0 = []) := fun h_ => c2 (by rw [h_]; rfl)
    obtain ⟨ji3, hji3⟩ : ∃ j_ : Int, (wrap64 ((l0.length : Int) - 1)) = j_ := ⟨_, rfl⟩
    replace H : (if 0 ≤ (ji3) then (if (ji3) < (l0.length : Int) then (spec_Len.l0 k (wrap64 (16 * (ji3))) (rd l0 (ji3))) else (none)) else (none)) = some r := by first | (rw [hji3] at H; exact H) | (simp only [hji3] at H ⊢; exact H)
    have hji3w : (IntKind.i64.wrap ((l0.length : Int) - 1)) = ji3 := (i64_w _).trans hji3
    by_cases c4 : 0 ≤ (ji3)
    · rw [if_pos c4] at H
      have c4b0 : decide (0 ≤ (ji3)) = true := decide_eq_true c4
      clear c4
      by_cases c5 : (ji3) < (l0.length : Int)
      · rw [if_pos c5] at H
        have c5b0 : decide ((ji3) < (l0.length : Int)) = true := decide_eq_true c5
        clear c5
        have H' := Aside0.mk H
        clear H
        have p102 : 0 ≤ ((ji3) : Int) := of_decide_eq_true (by first | (with_reducible assumption) | assumption)
        have q102 : (ji3) < (l0.length : Int) := of_decide_eq_true (by first | (with_reducible assumption) | assumption)
        obtain ⟨ad102, e102, hx102_0⟩ := Kd.at_int HR0.out (ji3) p102 q102
        cases e102
        replace p102 := eq_true p102
        replace q102 := eq_true q102
        go_enter Tryz.func14, Tryz.ntmps14
        go_wp2
        go_loopg [3, 4] k (fun kq v3 v4 w' => ∃ (x3_1 : Int) (x4_1 : Int), v3 = .int .i64 x3_1 ∧ v4 = .int .i64 x4_1 ∧ Aside0 (spec_Len.l0 kq x3_1 x4_1 = some r) ∧ Aside0 (kq ≤ k) ∧ Drawn0 w w')
        case atStart => exact ⟨(wrap64 (16 * (ji3))), (rd l0 (ji3)), (by first | rfl | (simp; done) | (simp only [← hji3] <;> (first | rfl | simp)) | (simp [*]; done)), (by first | rfl | (simp; done) | (simp only [← hji3] <;> (first | rfl | simp)) | (simp [*]; done)), H', ⟨Nat.le_refl _⟩, by repeat (first | exact Drawn0.refl _ | apply Drawn0.step)⟩
        case round =>
          clear H'
          try clear c1
          try clear p1
          try clear q1
          try clear hx1
          try clear c2
          try clear c2b0
          try clear c2b1
          try clear c2b2
          try clear p2
          try clear c4
          try clear c4b0
          try clear c5
          try clear c5b0
          try clear hx102_0
          try clear p102
          try clear q102
          obtain ⟨x3_1, x4_1, rfl, rfl, HA, HK1, ⟨m1, rfl⟩⟩ := hrel
          cases gk with
          | zero => exact absurd HA.out (by simp [spec_Len.l0])
          | succ k1 =>
            have H := HA.out
            clear HA
            simp only [spec_Len.l0] at H
            by_cases c6 : x4_1 > 0
            · rw [if_pos c6] at H
              have c6b0 : decide (0 < x4_1) = true := decide_eq_true c6
              clear c6
              have H' := Aside0.mk H
              clear H
              go_wp2
              go_roundg k1
              case measure => have := HK1.out; omega
              case rel => exact ⟨(wrap64 (x3_1 + 1)), (wrap64 (Int.tdiv x4_1 2)), (by first | rfl | (simp; done) | (simp [*]; done)), (by first | rfl | (simp; done) | (simp [*]; done)), H', ⟨by have := HK1.out; omega⟩, by repeat (first | exact Drawn0.refl _ | apply Drawn0.step)⟩
            · rw [if_neg c6] at H
              have c6b0 : decide (0 < x4_1) = false := decide_eq_false c6
              clear c6
              obtain rfl := Option.some.inj H
              go_wp2
              go_ret
              exact ⟨by first | rfl | (simp; done) | (simp only [← hji3] <;> (first | rfl | simp)) | (simp [*]; done), by repeat (first | exact Drawn0.refl _ | apply Drawn0.step)⟩
      · rw [if_neg c5] at H
        exact absurd H (by simp)
    · rw [if_neg c4] at H
      exact absurd H (by simp)

end Go.Proofs.YtnbnfjpecgbnpaaGreatDoor.Sp
