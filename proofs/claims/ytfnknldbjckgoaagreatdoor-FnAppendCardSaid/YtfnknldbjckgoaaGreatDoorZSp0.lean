/-
  The common head of single functions of the print (print.sh) of this seat.
-/
import Derived.Test.YtfnknldbjckgoaaGreatDoorProg
import Derived.Below
import Derived.Deep.Draws
import Derived.Deep.AppendLies
import Derived.Maps.AppendAt
import Derived.OwnWalk
import Derived.Laws.BytesArg
import Derived.Laws.MakeOwn
import Derived.Laws.OwnMore
import Derived.Deep.OwnRows
import Derived.Tactics
import Derived.Lib.ConvBytes
import Derived.Laws.Slices
import Derived.WalkKit
import Derived.KernelRfl
import Derived.RowKit3
import Derived.Deep.LoopGhost
import Derived.Deep.QuietTactic
import Derived.BigQuiet
import Derived.WideLaws
import Derived.Deep.DeepCutAuto
import Derived.Deep.CutBlock
import Derived.Deep.RegionHeld3
import Derived.Laws.Rows
import Derived.Lib.AppendStr
import Derived.ArgAppend
import Derived.Laws.IdiomCopy
import Derived.OrdersHeld
import Derived.Laws.BitsLemmas
import Derived.RowKit
import Derived.Test.YtfnknldbjckgoaaGreatDoorZWWords
import Derived.Test.YtfnknldbjckgoaaGreatDoorZWLast
import Derived.Test.YtfnknldbjckgoaaGreatDoorZWTab
import Derived.Test.YtfnknldbjckgoaaGreatDoorZWQPut
import Derived.Test.YtfnknldbjckgoaaGreatDoorZWApart
import Derived.Test.YtfnknldbjckgoaaGreatDoorZWArr
import Derived.Test.YtfnknldbjckgoaaGreatDoorZWZeros
import Derived.Test.YtfnknldbjckgoaaGreatDoorZWFoot
import Derived.Test.YtfnknldbjckgoaaGreatDoorZWKept
import Derived.Test.YtfnknldbjckgoaaGreatDoorZWShare
import Derived.Test.YtfnknldbjckgoaaGreatDoorZWN
import Derived.Test.YtfnknldbjckgoaaGreatDoorZWRepsOne
import Derived.Test.YtfnknldbjckgoaaGreatDoorZWGuard
import Derived.Test.YtfnknldbjckgoaaGreatDoorZWNEv
import Derived.Test.YtfnknldbjckgoaaGreatDoorZWMore
namespace Go.Proofs.YtfnknldbjckgoaaGreatDoor.Sp
open Go.RowKit Go.Proofs.YtfnknldbjckgoaaGreatDoorW.PrintWords Go.Proofs.YtfnknldbjckgoaaGreatDoorW.PrintLast Go.Proofs.YtfnknldbjckgoaaGreatDoorW.PrintMore
set_option linter.unusedVariables false
set_option linter.unusedSimpArgs false
def errW : Option Int → Value
  | none => .nilIface
  | some c => .iface 0 (.int .i64 c)
theorem errW_none : errW none = .nilIface := rfl
theorem errW_some (c : Int) : errW (some c) = .iface 0 (.int .i64 c) := rfl
theorem info3 : (Tryz.prog.info? 3).map (fun i => (i.zero, i.size, i.bytes)) = some (some (.int .i64 0), 1, 8) := by kernel_rfl
-- the values' own types
end Go.Proofs.YtfnknldbjckgoaaGreatDoor.Sp
