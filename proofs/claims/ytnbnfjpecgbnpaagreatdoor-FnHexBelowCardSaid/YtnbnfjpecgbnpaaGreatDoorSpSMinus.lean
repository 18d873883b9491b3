/-
  spec_minus: its plain function and its contract, as printed (print.sh) for this seat.
-/
import Derived.Test.YtnbnfjpecgbnpaaGreatDoorSp0
namespace Go.Proofs.YtnbnfjpecgbnpaaGreatDoor.Sp
open Go.RowKit Go.Proofs.YtnbnfjpecgbnpaaGreatDoorW.PrintWords Go.Proofs.YtnbnfjpecgbnpaaGreatDoorW.PrintLast Go.Proofs.YtnbnfjpecgbnpaaGreatDoorW.PrintMore
attribute [local go_sem] max2_int min2_int max_two min_two max_three min_three max_four min_four
set_option linter.unusedVariables false
set_option linter.unusedSimpArgs false

/-! ### spec_minus: function 23 -/
def spec_minus.f (a0 : Bool) : Option (ByteArray) := if a0 = true then (some (⟨#[45]⟩ : ByteArray)) else (some (⟨#[]⟩ : ByteArray))
set_option maxHeartbeats 8000000 in
set_option maxRecDepth 100000 in
theorem spec_minus.calls (a0 : Bool) (r : ByteArray) (w : World) (h : spec_minus.f a0 = some r) :
    Calls Tryz.prog 23 #[.bool a0] w fun e w' => e = .returned (.string r) ∧ Drawn0 w w' := by
  have H : (if a0 = true then (some (⟨#[45]⟩ : ByteArray)) else (some (⟨#[]⟩ : ByteArray))) = some r := h
  clear h
  by_cases c2 : a0 = true
  · subst c2
    have H1 : (some (⟨#[45]⟩ : ByteArray)) = some r := by rw [if_pos rfl] at H; exact H
    clear H
    have H := H1
    clear H1
    obtain rfl := Option.some.inj H
    go_enter Tryz.func23, Tryz.ntmps23
    go_wp2
    go_ret
    exact ⟨by first | rfl | (simp; done) | (simp [*]; done), by repeat (first | exact Drawn0.refl _ | apply Drawn0.step)⟩
  · replace c2 := Bool.eq_false_iff.mpr c2
    subst c2
    have H1 : (some (⟨#[]⟩ : ByteArray)) = some r := by rw [if_neg (show ¬ (false = true) by decide)] at H; exact H
    clear H
    have H := H1
    clear H1
    obtain rfl := Option.some.inj H
    go_enter Tryz.func23, Tryz.ntmps23
    go_wp2
    go_ret
    exact ⟨by first | rfl | (simp; done) | (simp [*]; done), by repeat (first | exact Drawn0.refl _ | apply Drawn0.step)⟩

end Go.Proofs.YtnbnfjpecgbnpaaGreatDoor.Sp
