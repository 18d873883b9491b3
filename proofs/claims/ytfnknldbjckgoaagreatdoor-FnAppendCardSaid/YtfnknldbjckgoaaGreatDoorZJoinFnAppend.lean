/-
  What the row of FnAppend tells of the program (no walk).
-/
import Derived.Test.YtfnknldbjckgoaaGreatDoorZRow
import Derived.Test.YtfnknldbjckgoaaGreatDoorCards
import Derived.Test.YtfnknldbjckgoaaGreatDoorTie
import Derived.LaidMore
import Derived.Lay
import Derived.SevenTiedAt
import Derived.Stop.Joined
import Derived.OpenVars
import Derived.ChangeVars
import Derived.WalkKit
namespace Go.Proofs.YtfnknldbjckgoaaGreatDoor.fnAppend
open Go.ChangeShapes Go.WideShapes Go.ChangeAt Go.RowKit Go.Proofs.YtfnknldbjckgoaaGreatDoorW.PrintWords Go.Joins Go.Deep
open Go.ChangeMaps (open_string shut_string)
set_option linter.unusedVariables false
set_option linter.unusedSimpArgs false
theorem and_t {a b : Bool} (h : a = true) (k : b = true) : (a && b) = true := by rw [h, k]; rfl
set_option maxHeartbeats 6400000 in
set_option maxRecDepth 100000 in
theorem closed : joinedFacts Tryz.prog 9 Tryz.f9 Rows.fnAppendSpec Rows.fnAppendRow = true := by
  unfold joinedFacts
  repeat' (with_reducible apply and_t)
  all_goals (as_aux_lemma => kernel_rfl)
theorem named_f : Tryz.prog.funcNamed Rows.fnAppendRow.func = some 9 := by kernel_rfl
theorem inst_f : Tryz.f9.isInstance Tryz.prog Rows.fnAppendRow.origin Rows.fnAppendRow.targs := of_decide_eq_true (by kernel_rfl)
theorem wrap_f : Tryz.f9.isWrapper Tryz.prog Rows.fnAppendRow.wrapper Rows.fnAppendRow.mainSum := by unfold Func.isWrapper; first | (rw [if_pos (by decide +kernel)]; kernel_rfl) | (rw [if_neg (by decide +kernel)]; exact ⟨rfl, rfl⟩)
end Go.Proofs.YtfnknldbjckgoaaGreatDoor.fnAppend
