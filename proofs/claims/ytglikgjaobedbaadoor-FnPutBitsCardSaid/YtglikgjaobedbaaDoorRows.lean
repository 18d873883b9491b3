/-
  NARROWER THAN 'FOR EVERY INPUT', by the rows' own cells (each row's printed sentence says how): FnPutInf: laid · FnBits: laid · FnPutBits: laid · FnModed: laid · FnParts: laid · FnJoin: laid · FnCopied: laid · FnGobCut: laid · FnGobInf: laid.
  DERIVED. THE GIVEN ROWS OF THIS SEAT. 9 by the template 'for every input the law returns true; each argument reads behind the call as it read before'; 0 by the template 'total and deterministic' (their statements: YtglikgjaobedbaaDoorTotals.lean).
  GIVEN WITH THE SEED: the statements are not yours to turn. If you find one false, say at which input.
  Laid BY PROGRAM, IN A SANDBOX (cutbox-rows.mjs): the forced cells as the released guide's own fill.sh prints them over the translation 33017187edbd97b7… (all of the seat's roots in one cut). By AI agents, Wed Nov 11 2026. No macro, syntax, notation, axiom, sorry.
-/
import Derived.Test.YtglikgjaobedbaaDoorChecked
import GoSem.Claim
import GoSem.ClaimJoined
import GoSem.ClaimMapViews
import Derived.JoinedTies
import Derived.KernelRfl
namespace Go.Proofs.YtglikgjaobedbaaDoor
/- THE CELL 'sum', in the pinned program and in every row, IS THE sha256 OF THE DUMP (.gsa) THAT YtglikgjaobedbaaDoorProg.lean LOADS. Nothing in Lean hashes anything: it is a label: what it is worth is what the hold of that sum in a sandbox is worth. -/
noncomputable def Tryd.pinned : Pinned := { name := "ytglikgjaobedbaadoor", sum := "33017187edbd97b74c85af825f38a7e970a68dc8ce22bc02f93111c8dd978855", checked := Tryd.checked }
namespace Rows
def none {H : Type} : Left H := { results := [], args := [] }

/- WHAT THE LISTED PACKAGE-LEVEL VARIABLES READ AS WHEN THE CALL BEGINS. Each datum BY PROGRAM (the guide's laid-datum.mjs) off the statement by which the dump's own 'gosem.cut.vars' lays the variable. In a bare row this is a premise. The card (YtglikgjaobedbaaDoorCards.lean) ties it to the program's text. -/
def laid_math_bits_deBruijn32tab {H : Type} : DataW H := .agg [.lit (.int .u8 0), .lit (.int .u8 1), .lit (.int .u8 28), .lit (.int .u8 2), .lit (.int .u8 29), .lit (.int .u8 14), .lit (.int .u8 24), .lit (.int .u8 3), .lit (.int .u8 30), .lit (.int .u8 22), .lit (.int .u8 20), .lit (.int .u8 15), .lit (.int .u8 25), .lit (.int .u8 17), .lit (.int .u8 4), .lit (.int .u8 8), .lit (.int .u8 31), .lit (.int .u8 27), .lit (.int .u8 13), .lit (.int .u8 23), .lit (.int .u8 21), .lit (.int .u8 19), .lit (.int .u8 16), .lit (.int .u8 7), .lit (.int .u8 26), .lit (.int .u8 12), .lit (.int .u8 18), .lit (.int .u8 6), .lit (.int .u8 11), .lit (.int .u8 5), .lit (.int .u8 10), .lit (.int .u8 9)]
def laid_math_bits_deBruijn64tab {H : Type} : DataW H := .agg [.lit (.int .u8 0), .lit (.int .u8 1), .lit (.int .u8 56), .lit (.int .u8 2), .lit (.int .u8 57), .lit (.int .u8 49), .lit (.int .u8 28), .lit (.int .u8 3), .lit (.int .u8 61), .lit (.int .u8 58), .lit (.int .u8 42), .lit (.int .u8 50), .lit (.int .u8 38), .lit (.int .u8 29), .lit (.int .u8 17), .lit (.int .u8 4), .lit (.int .u8 62), .lit (.int .u8 47), .lit (.int .u8 59), .lit (.int .u8 36), .lit (.int .u8 45), .lit (.int .u8 43), .lit (.int .u8 51), .lit (.int .u8 22), .lit (.int .u8 53), .lit (.int .u8 39), .lit (.int .u8 33), .lit (.int .u8 30), .lit (.int .u8 24), .lit (.int .u8 18), .lit (.int .u8 12), .lit (.int .u8 5), .lit (.int .u8 63), .lit (.int .u8 55), .lit (.int .u8 48), .lit (.int .u8 27), .lit (.int .u8 60), .lit (.int .u8 41), .lit (.int .u8 37), .lit (.int .u8 16), .lit (.int .u8 46), .lit (.int .u8 35), .lit (.int .u8 44), .lit (.int .u8 21), .lit (.int .u8 52), .lit (.int .u8 32), .lit (.int .u8 23), .lit (.int .u8 11), .lit (.int .u8 54), .lit (.int .u8 26), .lit (.int .u8 40), .lit (.int .u8 15), .lit (.int .u8 34), .lit (.int .u8 20), .lit (.int .u8 31), .lit (.int .u8 10), .lit (.int .u8 25), .lit (.int .u8 14), .lit (.int .u8 19), .lit (.int .u8 9), .lit (.int .u8 13), .lit (.int .u8 8), .lit (.int .u8 7), .lit (.int .u8 6)]

/-- 'laws.FnPutInf': WHATEVER THE INPUT: true; the input reads as it did. -/
def fnPutInfSpec : ChangeSpec := { name := "fnPutInf", fn := fun _ => fun
  | [d1, d2, d3] => { results := [.lit (.bool true)], args := [d1, d2, d3] }
  | _ => none }
def fnPutInfRow : OpenClaim := { program := "ytglikgjaobedbaadoor", sum := "33017187edbd97b74c85af825f38a7e970a68dc8ce22bc02f93111c8dd978855", func := "loop.example/pub-g03249/laws.FnPutInf", spec := "fnPutInf", inPlace := ["math/bits.Add64"], named := ["math/bits.deBruijn32tab", "math/bits.deBruijn64tab"], apart := false, laid := [("math/bits.deBruijn32tab", laid_math_bits_deBruijn32tab), ("math/bits.deBruijn64tab", laid_math_bits_deBruijn64tab)] }
def FnPutInfSaid : Prop := fnPutInfRow.holds Tryd.pinned (OpenSpec.ofChange fnPutInfSpec)

/-- ITS FALSE NEIGHBOUR: 'it returns false'. Refute it at one input. -/
def fnPutInfWrong : ChangeSpec := { name := "fnPutInf", fn := fun _ => fun
  | [d1, d2, d3] => { results := [.lit (.bool false)], args := [d1, d2, d3] }
  | _ => none }
def FnPutInfWrongFalsely : Prop := fnPutInfRow.holds Tryd.pinned (OpenSpec.ofChange fnPutInfWrong)

/-- 'laws.FnBits': WHATEVER THE INPUT: true; the input reads as it did. -/
def fnBitsSpec : ChangeSpec := { name := "fnBits", fn := fun _ => fun
  | [d] => { results := [.lit (.bool true)], args := [d] }
  | _ => none }
def fnBitsRow : OpenClaim := { program := "ytglikgjaobedbaadoor", sum := "33017187edbd97b74c85af825f38a7e970a68dc8ce22bc02f93111c8dd978855", func := "loop.example/pub-g03249/laws.FnBits", spec := "fnBits", inPlace := ["math.Float64frombits", "math.Float64bits", "math/bits.Add64"], unfollowed := true, recurses := true, named := ["math/bits.deBruijn32tab", "math/bits.deBruijn64tab"], apart := false, laid := [("math/bits.deBruijn32tab", laid_math_bits_deBruijn32tab), ("math/bits.deBruijn64tab", laid_math_bits_deBruijn64tab)] }
def FnBitsSaid : Prop := fnBitsRow.holds Tryd.pinned (OpenSpec.ofChange fnBitsSpec)

/-- ITS FALSE NEIGHBOUR: 'it returns false'. Refute it at one input. -/
def fnBitsWrong : ChangeSpec := { name := "fnBits", fn := fun _ => fun
  | [d] => { results := [.lit (.bool false)], args := [d] }
  | _ => none }
def FnBitsWrongFalsely : Prop := fnBitsRow.holds Tryd.pinned (OpenSpec.ofChange fnBitsWrong)

/-- 'laws.FnPutBits': WHATEVER THE INPUT: true; the input reads as it did. -/
def fnPutBitsSpec : ChangeSpec := { name := "fnPutBits", fn := fun _ => fun
  | [d1, d2, d3] => { results := [.lit (.bool true)], args := [d1, d2, d3] }
  | _ => none }
def fnPutBitsRow : OpenClaim := { program := "ytglikgjaobedbaadoor", sum := "33017187edbd97b74c85af825f38a7e970a68dc8ce22bc02f93111c8dd978855", func := "loop.example/pub-g03249/laws.FnPutBits", spec := "fnPutBits", inPlace := ["math/bits.Add64", "math.Float64frombits", "math.Float64bits"], unfollowed := true, recurses := true, named := ["math/bits.deBruijn32tab", "math/bits.deBruijn64tab"], apart := false, laid := [("math/bits.deBruijn32tab", laid_math_bits_deBruijn32tab), ("math/bits.deBruijn64tab", laid_math_bits_deBruijn64tab)] }
def FnPutBitsSaid : Prop := fnPutBitsRow.holds Tryd.pinned (OpenSpec.ofChange fnPutBitsSpec)

/-- ITS FALSE NEIGHBOUR: 'it returns false'. Refute it at one input. -/
def fnPutBitsWrong : ChangeSpec := { name := "fnPutBits", fn := fun _ => fun
  | [d1, d2, d3] => { results := [.lit (.bool false)], args := [d1, d2, d3] }
  | _ => none }
def FnPutBitsWrongFalsely : Prop := fnPutBitsRow.holds Tryd.pinned (OpenSpec.ofChange fnPutBitsWrong)

/-- 'laws.FnModed': WHATEVER THE INPUT: true; the input reads as it did. -/
def fnModedSpec : ChangeSpec := { name := "fnModed", fn := fun _ => fun
  | [d1, d2] => { results := [.lit (.bool true)], args := [d1, d2] }
  | _ => none }
def fnModedRow : OpenClaim := { program := "ytglikgjaobedbaadoor", sum := "33017187edbd97b74c85af825f38a7e970a68dc8ce22bc02f93111c8dd978855", func := "loop.example/pub-g03249/laws.FnModed", spec := "fnModed", inPlace := ["math/bits.Add64"], named := ["math/bits.deBruijn32tab", "math/bits.deBruijn64tab"], apart := false, laid := [("math/bits.deBruijn32tab", laid_math_bits_deBruijn32tab), ("math/bits.deBruijn64tab", laid_math_bits_deBruijn64tab)] }
def FnModedSaid : Prop := fnModedRow.holds Tryd.pinned (OpenSpec.ofChange fnModedSpec)

/-- ITS FALSE NEIGHBOUR: 'it returns false'. Refute it at one input. -/
def fnModedWrong : ChangeSpec := { name := "fnModed", fn := fun _ => fun
  | [d1, d2] => { results := [.lit (.bool false)], args := [d1, d2] }
  | _ => none }
def FnModedWrongFalsely : Prop := fnModedRow.holds Tryd.pinned (OpenSpec.ofChange fnModedWrong)

/-- 'laws.FnParts': WHATEVER THE INPUT: true; the input reads as it did. -/
def fnPartsSpec : ChangeSpec := { name := "fnParts", fn := fun _ => fun
  | [d] => { results := [.lit (.bool true)], args := [d] }
  | _ => none }
def fnPartsRow : OpenClaim := { program := "ytglikgjaobedbaadoor", sum := "33017187edbd97b74c85af825f38a7e970a68dc8ce22bc02f93111c8dd978855", func := "loop.example/pub-g03249/laws.FnParts", spec := "fnParts", inPlace := ["math/bits.Add64"], named := ["math/bits.deBruijn32tab", "math/bits.deBruijn64tab"], apart := false, laid := [("math/bits.deBruijn32tab", laid_math_bits_deBruijn32tab), ("math/bits.deBruijn64tab", laid_math_bits_deBruijn64tab)] }
def FnPartsSaid : Prop := fnPartsRow.holds Tryd.pinned (OpenSpec.ofChange fnPartsSpec)

/-- ITS FALSE NEIGHBOUR: 'it returns false'. Refute it at one input. -/
def fnPartsWrong : ChangeSpec := { name := "fnParts", fn := fun _ => fun
  | [d] => { results := [.lit (.bool false)], args := [d] }
  | _ => none }
def FnPartsWrongFalsely : Prop := fnPartsRow.holds Tryd.pinned (OpenSpec.ofChange fnPartsWrong)

/-- 'laws.FnJoin': WHATEVER THE INPUT: true; the input reads as it did. -/
def fnJoinSpec : ChangeSpec := { name := "fnJoin", fn := fun _ => fun
  | [d] => { results := [.lit (.bool true)], args := [d] }
  | _ => none }
def fnJoinRow : OpenClaim := { program := "ytglikgjaobedbaadoor", sum := "33017187edbd97b74c85af825f38a7e970a68dc8ce22bc02f93111c8dd978855", func := "loop.example/pub-g03249/laws.FnJoin", spec := "fnJoin", inPlace := ["math/bits.Add64"], named := ["math/bits.deBruijn32tab", "math/bits.deBruijn64tab"], apart := false, laid := [("math/bits.deBruijn32tab", laid_math_bits_deBruijn32tab), ("math/bits.deBruijn64tab", laid_math_bits_deBruijn64tab)] }
def FnJoinSaid : Prop := fnJoinRow.holds Tryd.pinned (OpenSpec.ofChange fnJoinSpec)

/-- ITS FALSE NEIGHBOUR: 'it returns false'. Refute it at one input. -/
def fnJoinWrong : ChangeSpec := { name := "fnJoin", fn := fun _ => fun
  | [d] => { results := [.lit (.bool false)], args := [d] }
  | _ => none }
def FnJoinWrongFalsely : Prop := fnJoinRow.holds Tryd.pinned (OpenSpec.ofChange fnJoinWrong)

/-- 'laws.FnCopied': WHATEVER THE INPUT: true; the input reads as it did. -/
def fnCopiedSpec : ChangeSpec := { name := "fnCopied", fn := fun _ => fun
  | [d1, d2, d3] => { results := [.lit (.bool true)], args := [d1, d2, d3] }
  | _ => none }
def fnCopiedRow : OpenClaim := { program := "ytglikgjaobedbaadoor", sum := "33017187edbd97b74c85af825f38a7e970a68dc8ce22bc02f93111c8dd978855", func := "loop.example/pub-g03249/laws.FnCopied", spec := "fnCopied", inPlace := ["math/bits.Add64"], named := ["math/bits.deBruijn32tab", "math/bits.deBruijn64tab"], apart := false, laid := [("math/bits.deBruijn32tab", laid_math_bits_deBruijn32tab), ("math/bits.deBruijn64tab", laid_math_bits_deBruijn64tab)] }
def FnCopiedSaid : Prop := fnCopiedRow.holds Tryd.pinned (OpenSpec.ofChange fnCopiedSpec)

/-- ITS FALSE NEIGHBOUR: 'it returns false'. Refute it at one input. -/
def fnCopiedWrong : ChangeSpec := { name := "fnCopied", fn := fun _ => fun
  | [d1, d2, d3] => { results := [.lit (.bool false)], args := [d1, d2, d3] }
  | _ => none }
def FnCopiedWrongFalsely : Prop := fnCopiedRow.holds Tryd.pinned (OpenSpec.ofChange fnCopiedWrong)

/-- 'laws.FnGobCut': WHATEVER THE INPUT: true; the input reads as it did. -/
def fnGobCutSpec : ChangeSpec := { name := "fnGobCut", fn := fun _ => fun
  | [d1, d2] => { results := [.lit (.bool true)], args := [d1, d2] }
  | _ => none }
def fnGobCutRow : OpenClaim := { program := "ytglikgjaobedbaadoor", sum := "33017187edbd97b74c85af825f38a7e970a68dc8ce22bc02f93111c8dd978855", func := "loop.example/pub-g03249/laws.FnGobCut", spec := "fnGobCut", inPlace := ["math/bits.Add64"], named := ["math/bits.deBruijn32tab", "math/bits.deBruijn64tab"], apart := false, laid := [("math/bits.deBruijn32tab", laid_math_bits_deBruijn32tab), ("math/bits.deBruijn64tab", laid_math_bits_deBruijn64tab)] }
def FnGobCutSaid : Prop := fnGobCutRow.holds Tryd.pinned (OpenSpec.ofChange fnGobCutSpec)

/-- ITS FALSE NEIGHBOUR: 'it returns false'. Refute it at one input. -/
def fnGobCutWrong : ChangeSpec := { name := "fnGobCut", fn := fun _ => fun
  | [d1, d2] => { results := [.lit (.bool false)], args := [d1, d2] }
  | _ => none }
def FnGobCutWrongFalsely : Prop := fnGobCutRow.holds Tryd.pinned (OpenSpec.ofChange fnGobCutWrong)

/-- 'laws.FnGobInf': WHATEVER THE INPUT: true; the input reads as it did. -/
def fnGobInfSpec : ChangeSpec := { name := "fnGobInf", fn := fun _ => fun
  | [d1, d2, d3, d4] => { results := [.lit (.bool true)], args := [d1, d2, d3, d4] }
  | _ => none }
def fnGobInfRow : OpenClaim := { program := "ytglikgjaobedbaadoor", sum := "33017187edbd97b74c85af825f38a7e970a68dc8ce22bc02f93111c8dd978855", func := "loop.example/pub-g03249/laws.FnGobInf", spec := "fnGobInf", inPlace := ["math/bits.Add64"], named := ["math/bits.deBruijn32tab", "math/bits.deBruijn64tab"], apart := false, laid := [("math/bits.deBruijn32tab", laid_math_bits_deBruijn32tab), ("math/bits.deBruijn64tab", laid_math_bits_deBruijn64tab)] }
def FnGobInfSaid : Prop := fnGobInfRow.holds Tryd.pinned (OpenSpec.ofChange fnGobInfSpec)

/-- ITS FALSE NEIGHBOUR: 'it returns false'. Refute it at one input. -/
def fnGobInfWrong : ChangeSpec := { name := "fnGobInf", fn := fun _ => fun
  | [d1, d2, d3, d4] => { results := [.lit (.bool false)], args := [d1, d2, d3, d4] }
  | _ => none }
def FnGobInfWrongFalsely : Prop := fnGobInfRow.holds Tryd.pinned (OpenSpec.ofChange fnGobInfWrong)

/- THE SECOND FORM. 'bulk': how many values and letters a reading holds, each counted each time it is reached (what is shared counts as often as it is met; a slice's spare places count too). A statement '..UptoSaid' is the law's where the arguments, and the package variables that the reading takes, are together of bulk at most 1048576: NARROWER than '..Said'. Prove '..Said' where nothing that the law and all that it calls make is longer than what came in: it says more and counts as full. Else prove '..UptoSaid'. A law counts once. -/
mutual
def uptoBulk {H : Type} : DataW H → Nat
  | .lit (.string bytes) => bytes.length + 1
  | .lit _ => 1
  | .nil => 1
  | .ptr d => uptoBulk d + 1
  | .slice elems spare => uptoBulkAll elems + uptoBulkAll spare + 1
  | .agg parts => uptoBulkAll parts + 1
  | .iface _ d => uptoBulk d + 1
  | .map entries => uptoBulkEntries entries + 1
  | .held _ => 1
def uptoBulkAll {H : Type} : List (DataW H) → Nat
  | [] => 0
  | d :: r => uptoBulk d + uptoBulkAll r
def uptoBulkEntries {H : Type} : List (Lit × DataW H) → Nat
  | [] => 0
  | x :: r => uptoBulkEntry x + uptoBulkEntries r
def uptoBulkEntry {H : Type} : Lit × DataW H → Nat
  | (.string bytes, d) => bytes.length + uptoBulk d + 1
  | (_, d) => uptoBulk d + 1
 end
def uptoSmall : (H : Type) → List (DataW H) → Bool := fun _ ds => decide (uptoBulkAll ds ≤ 1048576)
def OpenSpec.upto (s : _root_.Go.ChangeSpec) : _root_.Go.OpenSpec := { _root_.Go.OpenSpec.ofChange s with cond := some uptoSmall }

/-- 'laws.FnPutInf', WHERE WHAT IT READS IS OF BULK AT MOST 1048576: true; the input reads as it did. -/
def fnPutInfUptoRow : OpenClaim := { program := "ytglikgjaobedbaadoor", sum := "33017187edbd97b74c85af825f38a7e970a68dc8ce22bc02f93111c8dd978855", func := "loop.example/pub-g03249/laws.FnPutInf", spec := "fnPutInf", inPlace := ["math/bits.Add64"], named := ["math/bits.deBruijn32tab", "math/bits.deBruijn64tab"], apart := false, laid := [("math/bits.deBruijn32tab", laid_math_bits_deBruijn32tab), ("math/bits.deBruijn64tab", laid_math_bits_deBruijn64tab)], narrowed := true }
def FnPutInfUptoSaid : Prop := fnPutInfUptoRow.holds Tryd.pinned (OpenSpec.upto fnPutInfSpec)

/-- 'laws.FnBits', WHERE WHAT IT READS IS OF BULK AT MOST 1048576: true; the input reads as it did. -/
def fnBitsUptoRow : OpenClaim := { program := "ytglikgjaobedbaadoor", sum := "33017187edbd97b74c85af825f38a7e970a68dc8ce22bc02f93111c8dd978855", func := "loop.example/pub-g03249/laws.FnBits", spec := "fnBits", inPlace := ["math.Float64frombits", "math.Float64bits", "math/bits.Add64"], unfollowed := true, recurses := true, named := ["math/bits.deBruijn32tab", "math/bits.deBruijn64tab"], apart := false, laid := [("math/bits.deBruijn32tab", laid_math_bits_deBruijn32tab), ("math/bits.deBruijn64tab", laid_math_bits_deBruijn64tab)], narrowed := true }
def FnBitsUptoSaid : Prop := fnBitsUptoRow.holds Tryd.pinned (OpenSpec.upto fnBitsSpec)

/-- 'laws.FnPutBits', WHERE WHAT IT READS IS OF BULK AT MOST 1048576: true; the input reads as it did. -/
def fnPutBitsUptoRow : OpenClaim := { program := "ytglikgjaobedbaadoor", sum := "33017187edbd97b74c85af825f38a7e970a68dc8ce22bc02f93111c8dd978855", func := "loop.example/pub-g03249/laws.FnPutBits", spec := "fnPutBits", inPlace := ["math/bits.Add64", "math.Float64frombits", "math.Float64bits"], unfollowed := true, recurses := true, named := ["math/bits.deBruijn32tab", "math/bits.deBruijn64tab"], apart := false, laid := [("math/bits.deBruijn32tab", laid_math_bits_deBruijn32tab), ("math/bits.deBruijn64tab", laid_math_bits_deBruijn64tab)], narrowed := true }
def FnPutBitsUptoSaid : Prop := fnPutBitsUptoRow.holds Tryd.pinned (OpenSpec.upto fnPutBitsSpec)

/-- 'laws.FnModed', WHERE WHAT IT READS IS OF BULK AT MOST 1048576: true; the input reads as it did. -/
def fnModedUptoRow : OpenClaim := { program := "ytglikgjaobedbaadoor", sum := "33017187edbd97b74c85af825f38a7e970a68dc8ce22bc02f93111c8dd978855", func := "loop.example/pub-g03249/laws.FnModed", spec := "fnModed", inPlace := ["math/bits.Add64"], named := ["math/bits.deBruijn32tab", "math/bits.deBruijn64tab"], apart := false, laid := [("math/bits.deBruijn32tab", laid_math_bits_deBruijn32tab), ("math/bits.deBruijn64tab", laid_math_bits_deBruijn64tab)], narrowed := true }
def FnModedUptoSaid : Prop := fnModedUptoRow.holds Tryd.pinned (OpenSpec.upto fnModedSpec)

/-- 'laws.FnParts', WHERE WHAT IT READS IS OF BULK AT MOST 1048576: true; the input reads as it did. -/
def fnPartsUptoRow : OpenClaim := { program := "ytglikgjaobedbaadoor", sum := "33017187edbd97b74c85af825f38a7e970a68dc8ce22bc02f93111c8dd978855", func := "loop.example/pub-g03249/laws.FnParts", spec := "fnParts", inPlace := ["math/bits.Add64"], named := ["math/bits.deBruijn32tab", "math/bits.deBruijn64tab"], apart := false, laid := [("math/bits.deBruijn32tab", laid_math_bits_deBruijn32tab), ("math/bits.deBruijn64tab", laid_math_bits_deBruijn64tab)], narrowed := true }
def FnPartsUptoSaid : Prop := fnPartsUptoRow.holds Tryd.pinned (OpenSpec.upto fnPartsSpec)

/-- 'laws.FnJoin', WHERE WHAT IT READS IS OF BULK AT MOST 1048576: true; the input reads as it did. -/
def fnJoinUptoRow : OpenClaim := { program := "ytglikgjaobedbaadoor", sum := "33017187edbd97b74c85af825f38a7e970a68dc8ce22bc02f93111c8dd978855", func := "loop.example/pub-g03249/laws.FnJoin", spec := "fnJoin", inPlace := ["math/bits.Add64"], named := ["math/bits.deBruijn32tab", "math/bits.deBruijn64tab"], apart := false, laid := [("math/bits.deBruijn32tab", laid_math_bits_deBruijn32tab), ("math/bits.deBruijn64tab", laid_math_bits_deBruijn64tab)], narrowed := true }
def FnJoinUptoSaid : Prop := fnJoinUptoRow.holds Tryd.pinned (OpenSpec.upto fnJoinSpec)

/-- 'laws.FnCopied', WHERE WHAT IT READS IS OF BULK AT MOST 1048576: true; the input reads as it did. -/
def fnCopiedUptoRow : OpenClaim := { program := "ytglikgjaobedbaadoor", sum := "33017187edbd97b74c85af825f38a7e970a68dc8ce22bc02f93111c8dd978855", func := "loop.example/pub-g03249/laws.FnCopied", spec := "fnCopied", inPlace := ["math/bits.Add64"], named := ["math/bits.deBruijn32tab", "math/bits.deBruijn64tab"], apart := false, laid := [("math/bits.deBruijn32tab", laid_math_bits_deBruijn32tab), ("math/bits.deBruijn64tab", laid_math_bits_deBruijn64tab)], narrowed := true }
def FnCopiedUptoSaid : Prop := fnCopiedUptoRow.holds Tryd.pinned (OpenSpec.upto fnCopiedSpec)

/-- 'laws.FnGobCut', WHERE WHAT IT READS IS OF BULK AT MOST 1048576: true; the input reads as it did. -/
def fnGobCutUptoRow : OpenClaim := { program := "ytglikgjaobedbaadoor", sum := "33017187edbd97b74c85af825f38a7e970a68dc8ce22bc02f93111c8dd978855", func := "loop.example/pub-g03249/laws.FnGobCut", spec := "fnGobCut", inPlace := ["math/bits.Add64"], named := ["math/bits.deBruijn32tab", "math/bits.deBruijn64tab"], apart := false, laid := [("math/bits.deBruijn32tab", laid_math_bits_deBruijn32tab), ("math/bits.deBruijn64tab", laid_math_bits_deBruijn64tab)], narrowed := true }
def FnGobCutUptoSaid : Prop := fnGobCutUptoRow.holds Tryd.pinned (OpenSpec.upto fnGobCutSpec)

/-- 'laws.FnGobInf', WHERE WHAT IT READS IS OF BULK AT MOST 1048576: true; the input reads as it did. -/
def fnGobInfUptoRow : OpenClaim := { program := "ytglikgjaobedbaadoor", sum := "33017187edbd97b74c85af825f38a7e970a68dc8ce22bc02f93111c8dd978855", func := "loop.example/pub-g03249/laws.FnGobInf", spec := "fnGobInf", inPlace := ["math/bits.Add64"], named := ["math/bits.deBruijn32tab", "math/bits.deBruijn64tab"], apart := false, laid := [("math/bits.deBruijn32tab", laid_math_bits_deBruijn32tab), ("math/bits.deBruijn64tab", laid_math_bits_deBruijn64tab)], narrowed := true }
def FnGobInfUptoSaid : Prop := fnGobInfUptoRow.holds Tryd.pinned (OpenSpec.upto fnGobInfSpec)

end Rows
end Go.Proofs.YtglikgjaobedbaaDoor
