/-
  spec_away: its plain function and its contract, as printed (print.sh) for this seat.
-/
import Derived.Test.YtglikgjaobedbaaDoorSp0
namespace Go.Proofs.YtglikgjaobedbaaDoor.Sp
open Go.RowKit Go.Proofs.YtglikgjaobedbaaDoorW.PrintWords Go.Proofs.YtglikgjaobedbaaDoorW.PrintLast Go.Proofs.YtglikgjaobedbaaDoorW.PrintMore
attribute [local go_sem] max2_int min2_int max_two min_two max_three min_three max_four min_four
set_option linter.unusedVariables false
set_option linter.unusedSimpArgs false

/-! ### spec_away: function 105 -/
def spec_away.f (a0 : Bool) (a1 : Bool) (a2 : Int) (a3 : Int) : Option (Bool) := if a3 = 0 then (if a2 = 3 then (some true) else (if a2 = 2 then (some a1) else (some false))) else (if a3 = 1 then (some (decide (a2 ≥ 2))) else (if a3 = 3 then (some (decide (a2 > 0))) else (if a3 = 4 then (if a2 > 0 then (some a0) else (some false)) else (if a3 = 5 then (if a2 > 0 then (some (!a0)) else (some false)) else (some false)))))
set_option maxHeartbeats 8000000 in
set_option maxRecDepth 100000 in
theorem spec_away.calls (a0 : Bool) (a1 : Bool) (a2 : Int) (a3 : Int) (r : Bool) (w : World) (h : spec_away.f a0 a1 a2 a3 = some r) :
    Calls Tryd.prog 105 #[.bool a0, .bool a1, .int .i64 a2, .int .i64 a3] w fun e w' => e = .returned (.bool r) ∧ Drawn0 w w' := by
  have H : (if a3 = 0 then (if a2 = 3 then (some true) else (if a2 = 2 then (some a1) else (some false))) else (if a3 = 1 then (some (decide (a2 ≥ 2))) else (if a3 = 3 then (some (decide (a2 > 0))) else (if a3 = 4 then (if a2 > 0 then (some a0) else (some false)) else (if a3 = 5 then (if a2 > 0 then (some (!a0)) else (some false)) else (some false)))))) = some r := h
  clear h
  by_cases c5 : a3 = 0
  · rw [if_pos c5] at H
    have c5b0 : (a3 == 0) = true := beq_iff_eq.mpr c5
    have c5b1 : (a3 != 0) = false := bne_eq_false_iff_eq.mpr c5
    clear c5
    by_cases c6 : a2 = 3
    · rw [if_pos c6] at H
      have c6b0 : (a2 == 3) = true := beq_iff_eq.mpr c6
      have c6b1 : (a2 != 3) = false := bne_eq_false_iff_eq.mpr c6
      clear c6
      obtain rfl := Option.some.inj H
      go_enter Tryd.func105, Tryd.ntmps105
      go_wp2
      go_ret
      exact ⟨by first | rfl | (simp; done) | (simp [*]; done), by repeat (first | exact Drawn0.refl _ | apply Drawn0.step)⟩
    · rw [if_neg c6] at H
      have c6b0 : (a2 == 3) = false := beq_eq_false_iff_ne.mpr c6
      have c6b1 : (a2 != 3) = true := bne_iff_ne.mpr c6
      by_cases c7 : a2 = 2
      · rw [if_pos c7] at H
        have c7b0 : (a2 == 2) = true := beq_iff_eq.mpr c7
        have c7b1 : (a2 != 2) = false := bne_eq_false_iff_eq.mpr c7
        clear c7
        obtain rfl := Option.some.inj H
        go_enter Tryd.func105, Tryd.ntmps105
        go_wp2
        go_ret
        exact ⟨by first | rfl | (simp; done) | (simp [*]; done), by repeat (first | exact Drawn0.refl _ | apply Drawn0.step)⟩
      · rw [if_neg c7] at H
        have c7b0 : (a2 == 2) = false := beq_eq_false_iff_ne.mpr c7
        have c7b1 : (a2 != 2) = true := bne_iff_ne.mpr c7
        obtain rfl := Option.some.inj H
        go_enter Tryd.func105, Tryd.ntmps105
        go_wp2
        go_ret
        exact ⟨by first | rfl | (simp; done) | (simp [*]; done), by repeat (first | exact Drawn0.refl _ | apply Drawn0.step)⟩
  · rw [if_neg c5] at H
    have c5b0 : (a3 == 0) = false := beq_eq_false_iff_ne.mpr c5
    have c5b1 : (a3 != 0) = true := bne_iff_ne.mpr c5
    by_cases c8 : a3 = 1
    · rw [if_pos c8] at H
      have c8b0 : (a3 == 1) = true := beq_iff_eq.mpr c8
      have c8b1 : (a3 != 1) = false := bne_eq_false_iff_eq.mpr c8
      clear c8
      obtain rfl := Option.some.inj H
      go_enter Tryd.func105, Tryd.ntmps105
      go_wp2
      go_ret
      exact ⟨by first | rfl | (simp; done) | (simp [*]; done), by repeat (first | exact Drawn0.refl _ | apply Drawn0.step)⟩
    · rw [if_neg c8] at H
      have c8b0 : (a3 == 1) = false := beq_eq_false_iff_ne.mpr c8
      have c8b1 : (a3 != 1) = true := bne_iff_ne.mpr c8
      by_cases c9 : a3 = 3
      · rw [if_pos c9] at H
        have c9b0 : (a3 == 3) = true := beq_iff_eq.mpr c9
        have c9b1 : (a3 != 3) = false := bne_eq_false_iff_eq.mpr c9
        clear c9
        obtain rfl := Option.some.inj H
        go_enter Tryd.func105, Tryd.ntmps105
        go_wp2
        go_ret
        exact ⟨by first | rfl | (simp; done) | (simp [*]; done), by repeat (first | exact Drawn0.refl _ | apply Drawn0.step)⟩
      · rw [if_neg c9] at H
        have c9b0 : (a3 == 3) = false := beq_eq_false_iff_ne.mpr c9
        have c9b1 : (a3 != 3) = true := bne_iff_ne.mpr c9
        by_cases c10 : a3 = 4
        · rw [if_pos c10] at H
          have c10b0 : (a3 == 4) = true := beq_iff_eq.mpr c10
          have c10b1 : (a3 != 4) = false := bne_eq_false_iff_eq.mpr c10
          clear c10
          by_cases c11 : a2 > 0
          · rw [if_pos c11] at H
            have c11b0 : decide (0 < a2) = true := decide_eq_true c11
            clear c11
            obtain rfl := Option.some.inj H
            go_enter Tryd.func105, Tryd.ntmps105
            go_wp2
            go_ret
            exact ⟨by first | rfl | (simp; done) | (simp [*]; done), by repeat (first | exact Drawn0.refl _ | apply Drawn0.step)⟩
          · rw [if_neg c11] at H
            have c11b0 : decide (0 < a2) = false := decide_eq_false c11
            clear c11
            obtain rfl := Option.some.inj H
            go_enter Tryd.func105, Tryd.ntmps105
            go_wp2
            go_ret
            exact ⟨by first | rfl | (simp; done) | (simp [*]; done), by repeat (first | exact Drawn0.refl _ | apply Drawn0.step)⟩
        · rw [if_neg c10] at H
          have c10b0 : (a3 == 4) = false := beq_eq_false_iff_ne.mpr c10
          have c10b1 : (a3 != 4) = true := bne_iff_ne.mpr c10
          by_cases c12 : a3 = 5
          · rw [if_pos c12] at H
            have c12b0 : (a3 == 5) = true := beq_iff_eq.mpr c12
            have c12b1 : (a3 != 5) = false := bne_eq_false_iff_eq.mpr c12
            clear c12
            by_cases c13 : a2 > 0
            · rw [if_pos c13] at H
              have c13b0 : decide (0 < a2) = true := decide_eq_true c13
              clear c13
              obtain rfl := Option.some.inj H
              go_enter Tryd.func105, Tryd.ntmps105
              go_wp2
              go_ret
              exact ⟨by first | rfl | (simp; done) | (simp [*]; done), by repeat (first | exact Drawn0.refl _ | apply Drawn0.step)⟩
            · rw [if_neg c13] at H
              have c13b0 : decide (0 < a2) = false := decide_eq_false c13
              clear c13
              obtain rfl := Option.some.inj H
              go_enter Tryd.func105, Tryd.ntmps105
              go_wp2
              go_ret
              exact ⟨by first | rfl | (simp; done) | (simp [*]; done), by repeat (first | exact Drawn0.refl _ | apply Drawn0.step)⟩
          · rw [if_neg c12] at H
            have c12b0 : (a3 == 5) = false := beq_eq_false_iff_ne.mpr c12
            have c12b1 : (a3 != 5) = true := bne_iff_ne.mpr c12
            obtain rfl := Option.some.inj H
            go_enter Tryd.func105, Tryd.ntmps105
            go_wp2
            go_ret
            exact ⟨by first | rfl | (simp; done) | (simp [*]; done), by repeat (first | exact Drawn0.refl _ | apply Drawn0.step)⟩

-- NOT PRINTED: function 76 (spec_Cut)

-- NOT PRINTED: function 46 (spec_Round)

-- NOT PRINTED: function 19 (laws_rounds)

-- NOT PRINTED: function 5 (laws_FnPutBits)

end Go.Proofs.YtglikgjaobedbaaDoor.Sp
