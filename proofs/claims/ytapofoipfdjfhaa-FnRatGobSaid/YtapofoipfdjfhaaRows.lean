/-
  No cell of these rows narrows 'for every input' (looked for: loops, veiled, ifaces, maps, wideKeys, modest, calm, conditions, laid).
  DERIVED. THE GIVEN ROWS OF THIS SEAT. 3 by the template 'for every input the law returns true; each argument reads behind the call as it read before'; 0 by the template 'total and deterministic' (their statements: YtapofoipfdjfhaaTotals.lean).
  GIVEN WITH THE SEED: the statements are not yours to turn. If you find one false, say at which input.
  Laid BY PROGRAM, IN A SANDBOX (cutbox-rows.mjs): the forced cells as the released guide's own fill.sh prints them over the translation a7bc5a1d08685bcf… (all of the seat's roots in one cut). By AI agents, Wed Nov 11 2026. No macro, syntax, notation, axiom, sorry.
-/
import Derived.Test.YtapofoipfdjfhaaChecked
import GoSem.Claim
import GoSem.ClaimJoined
import GoSem.ClaimMapViews
import Derived.JoinedTies
import Derived.KernelRfl
namespace Go.Proofs.Ytapofoipfdjfhaa
/- THE CELL 'sum', in the pinned program and in every row, IS THE sha256 OF THE DUMP (.gsa) THAT YtapofoipfdjfhaaProg.lean LOADS. Nothing in Lean hashes anything: it is a label: what it is worth is what the hold of that sum in a sandbox is worth. -/
noncomputable def Try.pinned : Pinned := { name := "ytapofoipfdjfhaa", sum := "a7bc5a1d08685bcf3ae77c0abe3771d2813f4d88651db71561bfb590bb756eb5", checked := Try.checked }
namespace Rows
def none {H : Type} : Left H := { results := [], args := [] }

/-- 'laws.FnRatZero': WHATEVER THE INPUT: true; the input reads as it did. -/
def fnRatZeroSpec : ChangeSpec := { name := "fnRatZero", fn := fun _ => fun
  | [d] => { results := [.lit (.bool true)], args := [d] }
  | _ => none }
def fnRatZeroRow : OpenClaim := { program := "ytapofoipfdjfhaa", sum := "a7bc5a1d08685bcf3ae77c0abe3771d2813f4d88651db71561bfb590bb756eb5", func := "loop.example/pub-g03249/laws.FnRatZero", spec := "fnRatZero", apart := false }
def FnRatZeroSaid : Prop := fnRatZeroRow.holds Try.pinned (OpenSpec.ofChange fnRatZeroSpec)

/-- ITS FALSE NEIGHBOUR: 'it returns false'. Refute it at one input. -/
def fnRatZeroWrong : ChangeSpec := { name := "fnRatZero", fn := fun _ => fun
  | [d] => { results := [.lit (.bool false)], args := [d] }
  | _ => none }
def FnRatZeroWrongFalsely : Prop := fnRatZeroRow.holds Try.pinned (OpenSpec.ofChange fnRatZeroWrong)

/-- 'laws.FnRatInts': WHATEVER THE INPUT: true; the input reads as it did. -/
def fnRatIntsSpec : ChangeSpec := { name := "fnRatInts", fn := fun _ => fun
  | [d1, d2, d3] => { results := [.lit (.bool true)], args := [d1, d2, d3] }
  | _ => none }
def fnRatIntsRow : OpenClaim := { program := "ytapofoipfdjfhaa", sum := "a7bc5a1d08685bcf3ae77c0abe3771d2813f4d88651db71561bfb590bb756eb5", func := "loop.example/pub-g03249/laws.FnRatInts", spec := "fnRatInts", apart := false }
def FnRatIntsSaid : Prop := fnRatIntsRow.holds Try.pinned (OpenSpec.ofChange fnRatIntsSpec)

/-- ITS FALSE NEIGHBOUR: 'it returns false'. Refute it at one input. -/
def fnRatIntsWrong : ChangeSpec := { name := "fnRatInts", fn := fun _ => fun
  | [d1, d2, d3] => { results := [.lit (.bool false)], args := [d1, d2, d3] }
  | _ => none }
def FnRatIntsWrongFalsely : Prop := fnRatIntsRow.holds Try.pinned (OpenSpec.ofChange fnRatIntsWrong)

/-- 'laws.FnRatGob': WHATEVER THE INPUT: true; the input reads as it did. -/
def fnRatGobSpec : ChangeSpec := { name := "fnRatGob", fn := fun _ => fun
  | [d1, d2] => { results := [.lit (.bool true)], args := [d1, d2] }
  | _ => none }
def fnRatGobRow : OpenClaim := { program := "ytapofoipfdjfhaa", sum := "a7bc5a1d08685bcf3ae77c0abe3771d2813f4d88651db71561bfb590bb756eb5", func := "loop.example/pub-g03249/laws.FnRatGob", spec := "fnRatGob", apart := false }
def FnRatGobSaid : Prop := fnRatGobRow.holds Try.pinned (OpenSpec.ofChange fnRatGobSpec)

/-- ITS FALSE NEIGHBOUR: 'it returns false'. Refute it at one input. -/
def fnRatGobWrong : ChangeSpec := { name := "fnRatGob", fn := fun _ => fun
  | [d1, d2] => { results := [.lit (.bool false)], args := [d1, d2] }
  | _ => none }
def FnRatGobWrongFalsely : Prop := fnRatGobRow.holds Try.pinned (OpenSpec.ofChange fnRatGobWrong)

/- THE SECOND FORM. 'bulk': how many values and letters a reading holds, each counted each time it is reached (what is shared counts as often as it is met; a slice's spare places count too). A statement '..UptoSaid' is the law's where the arguments, and the package variables that the reading takes, are together of bulk at most 1048576: NARROWER than '..Said'. Prove '..Said' where nothing that the law and all that it calls make is longer than what came in: it says more and counts as full. Else prove '..UptoSaid'. A law counts once. -/
mutual
def uptoBulk {H : Type} : DataW H → Nat
  | .lit (.string bytes) => bytes.length + 1
  | .lit _ => 1
  | .nil => 1
  | .ptr d => uptoBulk d + 1
  | .slice elems spare => uptoBulkAll elems + uptoBulkAll spare + 1
  | .agg parts => uptoBulkAll parts + 1
  | .iface _ d => uptoBulk d + 1
  | .map entries => uptoBulkEntries entries + 1
  | .held _ => 1
def uptoBulkAll {H : Type} : List (DataW H) → Nat
  | [] => 0
  | d :: r => uptoBulk d + uptoBulkAll r
def uptoBulkEntries {H : Type} : List (Lit × DataW H) → Nat
  | [] => 0
  | x :: r => uptoBulkEntry x + uptoBulkEntries r
def uptoBulkEntry {H : Type} : Lit × DataW H → Nat
  | (.string bytes, d) => bytes.length + uptoBulk d + 1
  | (_, d) => uptoBulk d + 1
 end
def uptoSmall : (H : Type) → List (DataW H) → Bool := fun _ ds => decide (uptoBulkAll ds ≤ 1048576)
def OpenSpec.upto (s : _root_.Go.ChangeSpec) : _root_.Go.OpenSpec := { _root_.Go.OpenSpec.ofChange s with cond := some uptoSmall }

/-- 'laws.FnRatZero', WHERE WHAT IT READS IS OF BULK AT MOST 1048576: true; the input reads as it did. -/
def fnRatZeroUptoRow : OpenClaim := { program := "ytapofoipfdjfhaa", sum := "a7bc5a1d08685bcf3ae77c0abe3771d2813f4d88651db71561bfb590bb756eb5", func := "loop.example/pub-g03249/laws.FnRatZero", spec := "fnRatZero", apart := false, narrowed := true }
def FnRatZeroUptoSaid : Prop := fnRatZeroUptoRow.holds Try.pinned (OpenSpec.upto fnRatZeroSpec)

/-- 'laws.FnRatInts', WHERE WHAT IT READS IS OF BULK AT MOST 1048576: true; the input reads as it did. -/
def fnRatIntsUptoRow : OpenClaim := { program := "ytapofoipfdjfhaa", sum := "a7bc5a1d08685bcf3ae77c0abe3771d2813f4d88651db71561bfb590bb756eb5", func := "loop.example/pub-g03249/laws.FnRatInts", spec := "fnRatInts", apart := false, narrowed := true }
def FnRatIntsUptoSaid : Prop := fnRatIntsUptoRow.holds Try.pinned (OpenSpec.upto fnRatIntsSpec)

/-- 'laws.FnRatGob', WHERE WHAT IT READS IS OF BULK AT MOST 1048576: true; the input reads as it did. -/
def fnRatGobUptoRow : OpenClaim := { program := "ytapofoipfdjfhaa", sum := "a7bc5a1d08685bcf3ae77c0abe3771d2813f4d88651db71561bfb590bb756eb5", func := "loop.example/pub-g03249/laws.FnRatGob", spec := "fnRatGob", apart := false, narrowed := true }
def FnRatGobUptoSaid : Prop := fnRatGobUptoRow.holds Try.pinned (OpenSpec.upto fnRatGobSpec)

end Rows
end Go.Proofs.Ytapofoipfdjfhaa
