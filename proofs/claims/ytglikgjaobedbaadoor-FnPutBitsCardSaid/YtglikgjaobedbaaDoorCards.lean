/-
  DERIVED. GIVEN WITH THE SEED: THE CARDS: each row of YtglikgjaobedbaaDoorRows.lean that lists a variable, with what it lists TIED to the program's text (the seventh form; the later family's looks); each row that meets fmt, with fmt's text TOLD by the authors' own Lean function (tested against real Go, not proved from fmt's source: count such statements apart). THE CARD IS WHAT COUNTS. Prove the row's statement (the work); the ties are given (YtglikgjaobedbaaDoorTie.lean); close each card by the builder's one call (the guide's Derived/Test/ToyasCard.lean, 'card_holds'). Laid BY PROGRAM, IN A SANDBOX (cutbox-door.mjs). By AI agents, Wed Nov 11 2026. No macro, syntax, notation, axiom, sorry.
-/
import Derived.Test.YtglikgjaobedbaaDoorRows
import GoSem.ClaimSeven
namespace Go.Proofs.YtglikgjaobedbaaDoor
namespace Rows

/-- THE TIED CARD OF 'laws.FnPutInf'. -/
def fnPutInfCard : Claim7 := { stood := { row := fnPutInfRow, standIns := [], harness := (true, "240eed4dcdbb71fb4814ba2287481bbf1766d4550944848b2dbdca6a34c8c709"), looks := true }, kinds := [], alts := [], laidByText := true, laidKinds := [.data, .data], laidTests := true, laidLooks := .later }
def FnPutInfCardSaid : Prop := Claim7.holds Tryd.pinned (.plain (OpenSpec.ofChange fnPutInfSpec)) fnPutInfCard

/-- THE TIED CARD OF 'laws.FnBits'. -/
def fnBitsCard : Claim7 := { stood := { row := fnBitsRow, standIns := [], harness := (true, "240eed4dcdbb71fb4814ba2287481bbf1766d4550944848b2dbdca6a34c8c709"), looks := true }, kinds := [], alts := [], laidByText := true, laidKinds := [.data, .data], laidTests := true, laidLooks := .later }
def FnBitsCardSaid : Prop := Claim7.holds Tryd.pinned (.plain (OpenSpec.ofChange fnBitsSpec)) fnBitsCard

/-- THE TIED CARD OF 'laws.FnPutBits'. -/
def fnPutBitsCard : Claim7 := { stood := { row := fnPutBitsRow, standIns := [], harness := (true, "240eed4dcdbb71fb4814ba2287481bbf1766d4550944848b2dbdca6a34c8c709"), looks := true }, kinds := [], alts := [], laidByText := true, laidKinds := [.data, .data], laidTests := true, laidLooks := .later }
def FnPutBitsCardSaid : Prop := Claim7.holds Tryd.pinned (.plain (OpenSpec.ofChange fnPutBitsSpec)) fnPutBitsCard

/-- THE TIED CARD OF 'laws.FnModed'. -/
def fnModedCard : Claim7 := { stood := { row := fnModedRow, standIns := [], harness := (true, "240eed4dcdbb71fb4814ba2287481bbf1766d4550944848b2dbdca6a34c8c709"), looks := true }, kinds := [], alts := [], laidByText := true, laidKinds := [.data, .data], laidTests := true, laidLooks := .later }
def FnModedCardSaid : Prop := Claim7.holds Tryd.pinned (.plain (OpenSpec.ofChange fnModedSpec)) fnModedCard

/-- THE TIED CARD OF 'laws.FnParts'. -/
def fnPartsCard : Claim7 := { stood := { row := fnPartsRow, standIns := [], harness := (true, "240eed4dcdbb71fb4814ba2287481bbf1766d4550944848b2dbdca6a34c8c709"), looks := true }, kinds := [], alts := [], laidByText := true, laidKinds := [.data, .data], laidTests := true, laidLooks := .later }
def FnPartsCardSaid : Prop := Claim7.holds Tryd.pinned (.plain (OpenSpec.ofChange fnPartsSpec)) fnPartsCard

/-- THE TIED CARD OF 'laws.FnJoin'. -/
def fnJoinCard : Claim7 := { stood := { row := fnJoinRow, standIns := [], harness := (true, "240eed4dcdbb71fb4814ba2287481bbf1766d4550944848b2dbdca6a34c8c709"), looks := true }, kinds := [], alts := [], laidByText := true, laidKinds := [.data, .data], laidTests := true, laidLooks := .later }
def FnJoinCardSaid : Prop := Claim7.holds Tryd.pinned (.plain (OpenSpec.ofChange fnJoinSpec)) fnJoinCard

/-- THE TIED CARD OF 'laws.FnCopied'. -/
def fnCopiedCard : Claim7 := { stood := { row := fnCopiedRow, standIns := [], harness := (true, "240eed4dcdbb71fb4814ba2287481bbf1766d4550944848b2dbdca6a34c8c709"), looks := true }, kinds := [], alts := [], laidByText := true, laidKinds := [.data, .data], laidTests := true, laidLooks := .later }
def FnCopiedCardSaid : Prop := Claim7.holds Tryd.pinned (.plain (OpenSpec.ofChange fnCopiedSpec)) fnCopiedCard

/-- THE TIED CARD OF 'laws.FnGobCut'. -/
def fnGobCutCard : Claim7 := { stood := { row := fnGobCutRow, standIns := [], harness := (true, "240eed4dcdbb71fb4814ba2287481bbf1766d4550944848b2dbdca6a34c8c709"), looks := true }, kinds := [], alts := [], laidByText := true, laidKinds := [.data, .data], laidTests := true, laidLooks := .later }
def FnGobCutCardSaid : Prop := Claim7.holds Tryd.pinned (.plain (OpenSpec.ofChange fnGobCutSpec)) fnGobCutCard

/-- THE TIED CARD OF 'laws.FnGobInf'. -/
def fnGobInfCard : Claim7 := { stood := { row := fnGobInfRow, standIns := [], harness := (true, "240eed4dcdbb71fb4814ba2287481bbf1766d4550944848b2dbdca6a34c8c709"), looks := true }, kinds := [], alts := [], laidByText := true, laidKinds := [.data, .data], laidTests := true, laidLooks := .later }
def FnGobInfCardSaid : Prop := Claim7.holds Tryd.pinned (.plain (OpenSpec.ofChange fnGobInfSpec)) fnGobInfCard

/-- THE SECOND FORM's CARD OF 'laws.FnPutInf'. -/
def fnPutInfUptoCard : Claim7 := { stood := { row := fnPutInfUptoRow, standIns := [], harness := (true, "240eed4dcdbb71fb4814ba2287481bbf1766d4550944848b2dbdca6a34c8c709"), looks := true }, kinds := [], alts := [], laidByText := true, laidKinds := [.data, .data], laidTests := true, laidLooks := .later }
def FnPutInfUptoCardSaid : Prop := Claim7.holds Tryd.pinned (.plain (OpenSpec.upto fnPutInfSpec)) fnPutInfUptoCard

/-- THE SECOND FORM's CARD OF 'laws.FnBits'. -/
def fnBitsUptoCard : Claim7 := { stood := { row := fnBitsUptoRow, standIns := [], harness := (true, "240eed4dcdbb71fb4814ba2287481bbf1766d4550944848b2dbdca6a34c8c709"), looks := true }, kinds := [], alts := [], laidByText := true, laidKinds := [.data, .data], laidTests := true, laidLooks := .later }
def FnBitsUptoCardSaid : Prop := Claim7.holds Tryd.pinned (.plain (OpenSpec.upto fnBitsSpec)) fnBitsUptoCard

/-- THE SECOND FORM's CARD OF 'laws.FnPutBits'. -/
def fnPutBitsUptoCard : Claim7 := { stood := { row := fnPutBitsUptoRow, standIns := [], harness := (true, "240eed4dcdbb71fb4814ba2287481bbf1766d4550944848b2dbdca6a34c8c709"), looks := true }, kinds := [], alts := [], laidByText := true, laidKinds := [.data, .data], laidTests := true, laidLooks := .later }
def FnPutBitsUptoCardSaid : Prop := Claim7.holds Tryd.pinned (.plain (OpenSpec.upto fnPutBitsSpec)) fnPutBitsUptoCard

/-- THE SECOND FORM's CARD OF 'laws.FnModed'. -/
def fnModedUptoCard : Claim7 := { stood := { row := fnModedUptoRow, standIns := [], harness := (true, "240eed4dcdbb71fb4814ba2287481bbf1766d4550944848b2dbdca6a34c8c709"), looks := true }, kinds := [], alts := [], laidByText := true, laidKinds := [.data, .data], laidTests := true, laidLooks := .later }
def FnModedUptoCardSaid : Prop := Claim7.holds Tryd.pinned (.plain (OpenSpec.upto fnModedSpec)) fnModedUptoCard

/-- THE SECOND FORM's CARD OF 'laws.FnParts'. -/
def fnPartsUptoCard : Claim7 := { stood := { row := fnPartsUptoRow, standIns := [], harness := (true, "240eed4dcdbb71fb4814ba2287481bbf1766d4550944848b2dbdca6a34c8c709"), looks := true }, kinds := [], alts := [], laidByText := true, laidKinds := [.data, .data], laidTests := true, laidLooks := .later }
def FnPartsUptoCardSaid : Prop := Claim7.holds Tryd.pinned (.plain (OpenSpec.upto fnPartsSpec)) fnPartsUptoCard

/-- THE SECOND FORM's CARD OF 'laws.FnJoin'. -/
def fnJoinUptoCard : Claim7 := { stood := { row := fnJoinUptoRow, standIns := [], harness := (true, "240eed4dcdbb71fb4814ba2287481bbf1766d4550944848b2dbdca6a34c8c709"), looks := true }, kinds := [], alts := [], laidByText := true, laidKinds := [.data, .data], laidTests := true, laidLooks := .later }
def FnJoinUptoCardSaid : Prop := Claim7.holds Tryd.pinned (.plain (OpenSpec.upto fnJoinSpec)) fnJoinUptoCard

/-- THE SECOND FORM's CARD OF 'laws.FnCopied'. -/
def fnCopiedUptoCard : Claim7 := { stood := { row := fnCopiedUptoRow, standIns := [], harness := (true, "240eed4dcdbb71fb4814ba2287481bbf1766d4550944848b2dbdca6a34c8c709"), looks := true }, kinds := [], alts := [], laidByText := true, laidKinds := [.data, .data], laidTests := true, laidLooks := .later }
def FnCopiedUptoCardSaid : Prop := Claim7.holds Tryd.pinned (.plain (OpenSpec.upto fnCopiedSpec)) fnCopiedUptoCard

/-- THE SECOND FORM's CARD OF 'laws.FnGobCut'. -/
def fnGobCutUptoCard : Claim7 := { stood := { row := fnGobCutUptoRow, standIns := [], harness := (true, "240eed4dcdbb71fb4814ba2287481bbf1766d4550944848b2dbdca6a34c8c709"), looks := true }, kinds := [], alts := [], laidByText := true, laidKinds := [.data, .data], laidTests := true, laidLooks := .later }
def FnGobCutUptoCardSaid : Prop := Claim7.holds Tryd.pinned (.plain (OpenSpec.upto fnGobCutSpec)) fnGobCutUptoCard

/-- THE SECOND FORM's CARD OF 'laws.FnGobInf'. -/
def fnGobInfUptoCard : Claim7 := { stood := { row := fnGobInfUptoRow, standIns := [], harness := (true, "240eed4dcdbb71fb4814ba2287481bbf1766d4550944848b2dbdca6a34c8c709"), looks := true }, kinds := [], alts := [], laidByText := true, laidKinds := [.data, .data], laidTests := true, laidLooks := .later }
def FnGobInfUptoCardSaid : Prop := Claim7.holds Tryd.pinned (.plain (OpenSpec.upto fnGobInfSpec)) fnGobInfUptoCard
end Rows
end Go.Proofs.YtglikgjaobedbaaDoor
