import Derived.SizedLaws
import Derived.ChangeSlices
namespace Go.Proofs.YtfnknldbjckgoaaGreatDoorW.PrintWords
open Go.ChangeShapes Go.WideShapes
end Go.Proofs.YtfnknldbjckgoaaGreatDoorW.PrintWords
