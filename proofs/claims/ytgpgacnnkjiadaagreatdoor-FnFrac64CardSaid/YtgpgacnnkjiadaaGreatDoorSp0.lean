/-
  The common head of single functions of the print (print.sh) of this seat.
-/
import Derived.Test.YtgpgacnnkjiadaaGreatDoorProg
import Derived.Below
import Derived.Deep.Draws
import Derived.Deep.AppendLies
import Derived.Maps.AppendAt
import Derived.OwnWalk
import Derived.Laws.BytesArg
import Derived.Laws.MakeOwn
import Derived.Laws.OwnMore
import Derived.Deep.OwnRows
import Derived.Tactics
import Derived.Lib.ConvBytes
import Derived.Laws.Slices
import Derived.WalkKit
import Derived.KernelRfl
import Derived.RowKit3
import Derived.Deep.LoopGhost
import Derived.Deep.QuietTactic
import Derived.BigQuiet
import Derived.WideLaws
import Derived.Deep.DeepCutAuto
import Derived.Deep.CutBlock
import Derived.Deep.RegionHeld3
import Derived.Laws.Rows
import Derived.Lib.AppendStr
import Derived.ArgAppend
import Derived.Laws.IdiomCopy
import Derived.OrdersHeld
import Derived.Laws.BitsLemmas
import Derived.RowKit
import Derived.Test.YtgpgacnnkjiadaaGreatDoorWWords
import Derived.Test.YtgpgacnnkjiadaaGreatDoorWLast
import Derived.Test.YtgpgacnnkjiadaaGreatDoorWTab
import Derived.Test.YtgpgacnnkjiadaaGreatDoorWQPut
import Derived.Test.YtgpgacnnkjiadaaGreatDoorWApart
import Derived.Test.YtgpgacnnkjiadaaGreatDoorWArr
import Derived.Test.YtgpgacnnkjiadaaGreatDoorWZeros
import Derived.Test.YtgpgacnnkjiadaaGreatDoorWFoot
import Derived.Test.YtgpgacnnkjiadaaGreatDoorWKept
import Derived.Test.YtgpgacnnkjiadaaGreatDoorWShare
import Derived.Test.YtgpgacnnkjiadaaGreatDoorWN
import Derived.Test.YtgpgacnnkjiadaaGreatDoorWRepsOne
import Derived.Test.YtgpgacnnkjiadaaGreatDoorWGuard
import Derived.Test.YtgpgacnnkjiadaaGreatDoorWNEv
import Derived.Test.YtgpgacnnkjiadaaGreatDoorWMore
namespace Go.Proofs.YtgpgacnnkjiadaaGreatDoor.Sp
open Go.RowKit Go.Proofs.YtgpgacnnkjiadaaGreatDoorW.PrintWords Go.Proofs.YtgpgacnnkjiadaaGreatDoorW.PrintLast Go.Proofs.YtgpgacnnkjiadaaGreatDoorW.PrintMore
set_option linter.unusedVariables false
set_option linter.unusedSimpArgs false
def errW : Option Int → Value
  | none => .nilIface
  | some c => .iface 0 (.int .i64 c)
theorem errW_none : errW none = .nilIface := rfl
theorem errW_some (c : Int) : errW (some c) = .iface 0 (.int .i64 c) := rfl
theorem info3 : (Tryz.prog.info? 3).map (fun i => (i.zero, i.size, i.bytes)) = some (some (.int .i64 0), 1, 8) := by kernel_rfl
theorem info45 : (Tryz.prog.info? 45).map (fun i => (i.zero, i.size, i.bytes)) = some (some (.int .u64 0), 1, 8) := by kernel_rfl
-- the values' own types
end Go.Proofs.YtgpgacnnkjiadaaGreatDoor.Sp
