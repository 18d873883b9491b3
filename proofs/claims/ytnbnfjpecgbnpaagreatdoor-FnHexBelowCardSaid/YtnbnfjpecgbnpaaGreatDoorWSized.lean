import Derived.SizedLaws
import Derived.ChangeSlices
namespace Go.Proofs.YtnbnfjpecgbnpaaGreatDoorW.PrintWords
open Go.ChangeShapes Go.WideShapes
end Go.Proofs.YtnbnfjpecgbnpaaGreatDoorW.PrintWords
