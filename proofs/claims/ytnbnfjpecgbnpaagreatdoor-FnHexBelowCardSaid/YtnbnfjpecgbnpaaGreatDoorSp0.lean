/-
  The common head of single functions of the print (print.sh) of this seat.
-/
import Derived.Test.YtnbnfjpecgbnpaaGreatDoorProg
import Derived.Below
import Derived.Deep.Draws
import Derived.Deep.AppendLies
import Derived.Maps.AppendAt
import Derived.OwnWalk
import Derived.Laws.BytesArg
import Derived.Laws.MakeOwn
import Derived.Laws.OwnMore
import Derived.Deep.OwnRows
import Derived.Tactics
import Derived.Lib.ConvBytes
import Derived.Laws.Slices
import Derived.WalkKit
import Derived.KernelRfl
import Derived.RowKit3
import Derived.Deep.LoopGhost
import Derived.Deep.QuietTactic
import Derived.BigQuiet
import Derived.WideLaws
import Derived.Deep.DeepCutAuto
import Derived.Deep.CutBlock
import Derived.Deep.RegionHeld3
import Derived.Laws.Rows
import Derived.Lib.AppendStr
import Derived.ArgAppend
import Derived.Laws.IdiomCopy
import Derived.OrdersHeld
import Derived.Laws.BitsLemmas
import Derived.RowKit
import Derived.Test.YtnbnfjpecgbnpaaGreatDoorWWords
import Derived.Test.YtnbnfjpecgbnpaaGreatDoorWLast
import Derived.Test.YtnbnfjpecgbnpaaGreatDoorWTab
import Derived.Test.YtnbnfjpecgbnpaaGreatDoorWQPut
import Derived.Test.YtnbnfjpecgbnpaaGreatDoorWApart
import Derived.Test.YtnbnfjpecgbnpaaGreatDoorWArr
import Derived.Test.YtnbnfjpecgbnpaaGreatDoorWZeros
import Derived.Test.YtnbnfjpecgbnpaaGreatDoorWFoot
import Derived.Test.YtnbnfjpecgbnpaaGreatDoorWKept
import Derived.Test.YtnbnfjpecgbnpaaGreatDoorWShare
import Derived.Test.YtnbnfjpecgbnpaaGreatDoorWN
import Derived.Test.YtnbnfjpecgbnpaaGreatDoorWRepsOne
import Derived.Test.YtnbnfjpecgbnpaaGreatDoorWGuard
import Derived.Test.YtnbnfjpecgbnpaaGreatDoorWNEv
import Derived.Test.YtnbnfjpecgbnpaaGreatDoorWMore
namespace Go.Proofs.YtnbnfjpecgbnpaaGreatDoor.Sp
open Go.RowKit Go.Proofs.YtnbnfjpecgbnpaaGreatDoorW.PrintWords Go.Proofs.YtnbnfjpecgbnpaaGreatDoorW.PrintLast Go.Proofs.YtnbnfjpecgbnpaaGreatDoorW.PrintMore
set_option linter.unusedVariables false
set_option linter.unusedSimpArgs false
def errW : Option Int → Value
  | none => .nilIface
  | some c => .iface 0 (.int .i64 c)
theorem errW_none : errW none = .nilIface := rfl
theorem errW_some (c : Int) : errW (some c) = .iface 0 (.int .i64 c) := rfl
theorem info3 : (Tryz.prog.info? 3).map (fun i => (i.zero, i.size, i.bytes)) = some (some (.int .i64 0), 1, 8) := by kernel_rfl
-- the values' own types
end Go.Proofs.YtnbnfjpecgbnpaaGreatDoor.Sp
