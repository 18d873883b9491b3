import Derived.Test.YtfnknldbjckgoaaGreatDoorZWLast
import Derived.Test.YtfnknldbjckgoaaGreatDoorZWWords
/-! ### 50. A region's order in a table, made once a region: each step asks the table (numbers alone), not the operations -/
namespace Go.Proofs.YtfnknldbjckgoaaGreatDoorW.PrintLast
open Go.Proofs.YtfnknldbjckgoaaGreatDoorW.PrintWords (Aside0)
section
variable {md : Region.Mode} {ops : Array Oper} {T : Bool × List (List Nat × List Nat)} {l l' li lj lk : Array Bool} {ds : List Nat} {i j k : Nat}
end
end Go.Proofs.YtfnknldbjckgoaaGreatDoorW.PrintLast
