/-
  laws_target: its plain function and its contract, as printed (print.sh) for this seat.
-/
import Derived.Test.YtglikgjaobedbaaDoorSp0
namespace Go.Proofs.YtglikgjaobedbaaDoor.Sp
open Go.RowKit Go.Proofs.YtglikgjaobedbaaDoorW.PrintWords Go.Proofs.YtglikgjaobedbaaDoorW.PrintLast Go.Proofs.YtglikgjaobedbaaDoorW.PrintMore
attribute [local go_sem] max2_int min2_int max_two min_two max_three min_three max_four min_four
set_option linter.unusedVariables false
set_option linter.unusedSimpArgs false

/-! ### laws_target: function 12 -/
def laws_target.f (a0 : Int) (a1 : Int) : Option (Int × Int) := some (IntKind.u64.wrap (Int.tmod a0 301), wrap64 (Int.tmod a1 6))
set_option maxHeartbeats 8000000 in
set_option maxRecDepth 100000 in
theorem laws_target.calls (a0 : Int) (a1 : Int) (r1 : Int) (r2 : Int) (w : World) (h : laws_target.f a0 a1 = some (r1, r2)) :
    Calls Tryd.prog 12 #[.int .u16 a0, .int .u8 a1] w fun e w' => e = .returned (.tuple #[.int .u64 r1, .int .i64 r2]) ∧ Drawn0 w w' := by
  have H : (some (IntKind.u64.wrap (Int.tmod a0 301), wrap64 (Int.tmod a1 6))) = some (r1, r2) := h
  clear h
  simp only [Option.some.injEq, Prod.mk.injEq] at H
  obtain ⟨rfl, rfl⟩ := H
  go_enter Tryd.func12, Tryd.ntmps12
  go_wp2
  go_ret2
  exact ⟨by first | rfl | (simp; done) | (simp [*]; done), by repeat (first | exact Drawn0.refl _ | apply Drawn0.step)⟩

end Go.Proofs.YtglikgjaobedbaaDoor.Sp
