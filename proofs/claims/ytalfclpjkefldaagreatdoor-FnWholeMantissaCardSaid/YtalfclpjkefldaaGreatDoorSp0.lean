/-
  The common head of single functions of the print (print.sh) of this seat.
-/
import Derived.Test.YtalfclpjkefldaaGreatDoorProg
import Derived.Below
import Derived.Deep.Draws
import Derived.Deep.AppendLies
import Derived.Maps.AppendAt
import Derived.OwnWalk
import Derived.Laws.BytesArg
import Derived.Laws.MakeOwn
import Derived.Laws.OwnMore
import Derived.Deep.OwnRows
import Derived.Tactics
import Derived.Lib.ConvBytes
import Derived.Laws.Slices
import Derived.WalkKit
import Derived.KernelRfl
import Derived.RowKit3
import Derived.Deep.LoopGhost
import Derived.Deep.QuietTactic
import Derived.BigQuiet
import Derived.WideLaws
import Derived.Deep.DeepCutAuto
import Derived.Deep.CutBlock
import Derived.Deep.RegionHeld3
import Derived.Laws.Rows
import Derived.Lib.AppendStr
import Derived.ArgAppend
import Derived.Laws.IdiomCopy
import Derived.OrdersHeld
import Derived.Laws.BitsLemmas
import Derived.RowKit
import Derived.Test.YtalfclpjkefldaaGreatDoorWWords
import Derived.Test.YtalfclpjkefldaaGreatDoorWLast
import Derived.Test.YtalfclpjkefldaaGreatDoorWTab
import Derived.Test.YtalfclpjkefldaaGreatDoorWQPut
import Derived.Test.YtalfclpjkefldaaGreatDoorWApart
import Derived.Test.YtalfclpjkefldaaGreatDoorWArr
import Derived.Test.YtalfclpjkefldaaGreatDoorWZeros
import Derived.Test.YtalfclpjkefldaaGreatDoorWFoot
import Derived.Test.YtalfclpjkefldaaGreatDoorWKept
import Derived.Test.YtalfclpjkefldaaGreatDoorWShare
import Derived.Test.YtalfclpjkefldaaGreatDoorWN
import Derived.Test.YtalfclpjkefldaaGreatDoorWGuard
import Derived.Test.YtalfclpjkefldaaGreatDoorWNEv
import Derived.Test.YtalfclpjkefldaaGreatDoorWMore
namespace Go.Proofs.YtalfclpjkefldaaGreatDoor.Sp
open Go.RowKit Go.Proofs.YtalfclpjkefldaaGreatDoorW.PrintWords Go.Proofs.YtalfclpjkefldaaGreatDoorW.PrintLast Go.Proofs.YtalfclpjkefldaaGreatDoorW.PrintMore
set_option linter.unusedVariables false
set_option linter.unusedSimpArgs false
def errW : Option Int → Value
  | none => .nilIface
  | some c => .iface 0 (.int .i64 c)
theorem errW_none : errW none = .nilIface := rfl
theorem errW_some (c : Int) : errW (some c) = .iface 0 (.int .i64 c) := rfl
theorem info3 : (Tryz.prog.info? 3).map (fun i => (i.zero, i.size, i.bytes)) = some (some (.int .i64 0), 1, 8) := by kernel_rfl
theorem info5 : (Tryz.prog.info? 5).map (fun i => (i.zero, i.size, i.bytes)) = some (some (.int .u8 0), 1, 1) := by kernel_rfl
theorem info22 : (Tryz.prog.info? 22).map (fun i => (i.zero, i.size, i.bytes)) = some (some (.int .u64 0), 1, 8) := by kernel_rfl
theorem info113 : (Tryz.prog.info? 113).map (fun i => (i.zero, i.size, i.bytes)) = some (some (.int .u64 0), 1, 8) := by kernel_rfl
-- the values' own types
end Go.Proofs.YtalfclpjkefldaaGreatDoor.Sp
