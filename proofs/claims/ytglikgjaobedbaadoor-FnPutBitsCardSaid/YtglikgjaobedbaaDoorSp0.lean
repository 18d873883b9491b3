/-
  The common head of single functions of the print (print.sh) of this seat.
-/
import Derived.Test.YtglikgjaobedbaaDoorProg
import Derived.Below
import Derived.Deep.Draws
import Derived.Deep.AppendLies
import Derived.Maps.AppendAt
import Derived.OwnWalk
import Derived.Laws.BytesArg
import Derived.Laws.MakeOwn
import Derived.Laws.OwnMore
import Derived.Deep.OwnRows
import Derived.Tactics
import Derived.Lib.ConvBytes
import Derived.Laws.Slices
import Derived.WalkKit
import Derived.KernelRfl
import Derived.RowKit3
import Derived.Deep.LoopGhost
import Derived.Deep.QuietTactic
import Derived.BigQuiet
import Derived.WideLaws
import Derived.Deep.DeepCutAuto
import Derived.Deep.CutBlock
import Derived.Deep.RegionHeld3
import Derived.Laws.Rows
import Derived.Lib.AppendStr
import Derived.ArgAppend
import Derived.Laws.IdiomCopy
import Derived.OrdersHeld
import Derived.Laws.BitsLemmas
import Derived.RowKit
import Derived.Test.YtglikgjaobedbaaDoorWWords
import Derived.Test.YtglikgjaobedbaaDoorWLast
import Derived.Test.YtglikgjaobedbaaDoorWTab
import Derived.Test.YtglikgjaobedbaaDoorWQPut
import Derived.Test.YtglikgjaobedbaaDoorWApart
import Derived.Test.YtglikgjaobedbaaDoorWArr
import Derived.Test.YtglikgjaobedbaaDoorWZeros
import Derived.Test.YtglikgjaobedbaaDoorWFoot
import Derived.Test.YtglikgjaobedbaaDoorWKept
import Derived.Test.YtglikgjaobedbaaDoorWShare
import Derived.Test.YtglikgjaobedbaaDoorWN
import Derived.Test.YtglikgjaobedbaaDoorWGuard
import Derived.Test.YtglikgjaobedbaaDoorWNEv
import Derived.Test.YtglikgjaobedbaaDoorWMore
namespace Go.Proofs.YtglikgjaobedbaaDoor.Sp
open Go.RowKit Go.Proofs.YtglikgjaobedbaaDoorW.PrintWords Go.Proofs.YtglikgjaobedbaaDoorW.PrintLast Go.Proofs.YtglikgjaobedbaaDoorW.PrintMore
set_option linter.unusedVariables false
set_option linter.unusedSimpArgs false
def errW : Option Int → Value
  | none => .nilIface
  | some c => .iface 0 (.int .i64 c)
theorem errW_none : errW none = .nilIface := rfl
theorem errW_some (c : Int) : errW (some c) = .iface 0 (.int .i64 c) := rfl
theorem info3 : (Tryd.prog.info? 3).map (fun i => (i.zero, i.size, i.bytes)) = some (some (.int .i64 0), 1, 8) := by kernel_rfl
theorem info23 : (Tryd.prog.info? 23).map (fun i => (i.zero, i.size, i.bytes)) = some (some (.int .u64 0), 1, 8) := by kernel_rfl
theorem info139 : (Tryd.prog.info? 139).map (fun i => (i.zero, i.size, i.bytes)) = some (some (.int .u64 0), 1, 8) := by kernel_rfl
-- the values' own types
end Go.Proofs.YtglikgjaobedbaaDoor.Sp
