/-
  CONTRACT of fmtE at nought.
-/
import Derived.Test.YtnbnfjpecgbnpaaGreatDoorGtxb
namespace Go.Proofs.YtnbnfjpecgbnpaaGreatDoor.Sp
open Go.RowKit Go.Proofs.YtnbnfjpecgbnpaaGreatDoorW.PrintWords Go.Proofs.YtnbnfjpecgbnpaaGreatDoorW.PrintLast Go.Proofs.YtnbnfjpecgbnpaaGreatDoorW.PrintMore Go.Proofs.YtnbnfjpecgbnpaaGreatDoor.Dig
set_option linter.unusedVariables false
set_option linter.unusedSimpArgs false
end Go.Proofs.YtnbnfjpecgbnpaaGreatDoor.Sp
