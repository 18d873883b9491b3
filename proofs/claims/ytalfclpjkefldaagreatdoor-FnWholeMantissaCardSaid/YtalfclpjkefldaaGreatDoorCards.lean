/-
  DERIVED. GIVEN WITH THE SEED: THE CARDS: each row of YtalfclpjkefldaaGreatDoorRows.lean that lists a variable, with what it lists TIED to the program's text (the seventh form; the later family's looks); each row that meets fmt, with fmt's text TOLD by the authors' own Lean function (tested against real Go, not proved from fmt's source: count such statements apart). THE CARD IS WHAT COUNTS. Prove the row's statement (the work); the ties are given (YtalfclpjkefldaaGreatDoorTie.lean); close each card by the builder's one call (the guide's Derived/Test/ToyasCard.lean, 'card_holds'). Laid BY PROGRAM, IN A SANDBOX (cutbox-door.mjs). By AI agents, Wed Nov 11 2026. No macro, syntax, notation, axiom, sorry.
-/
import Derived.Test.YtalfclpjkefldaaGreatDoorRows
import GoSem.ClaimSeven
namespace Go.Proofs.YtalfclpjkefldaaGreatDoor
namespace Rows

/-- THE TIED CARD OF 'laws.FnInfText'. -/
def fnInfTextCard : Claim7 := { stood := { row := fnInfTextRow, standIns := [], harness := (true, "191494ccfeafb00870a7232d5cd57be67fa3867406aaea3b07991fe03c6cdce1"), looks := false }, kinds := [], alts := [], laidByText := true, laidKinds := [.data, .data, .data, .data, .data, .data, .data, .data, .data, .pinned], laidTests := true, laidLooks := .later }
def FnInfTextCardSaid : Prop := Claim7.holds Tryz.pinned (.plain (OpenSpec.ofChange fnInfTextSpec)) fnInfTextCard

/-- THE TIED CARD OF 'laws.FnZeroText'. -/
def fnZeroTextCard : Claim7 := { stood := { row := fnZeroTextRow, standIns := [], harness := (true, "191494ccfeafb00870a7232d5cd57be67fa3867406aaea3b07991fe03c6cdce1"), looks := false }, kinds := [], alts := [], laidByText := true, laidKinds := [.data, .data, .data, .data, .data, .data, .data, .data, .data, .pinned], laidTests := true, laidLooks := .later }
def FnZeroTextCardSaid : Prop := Claim7.holds Tryz.pinned (.plain (OpenSpec.ofChange fnZeroTextSpec)) fnZeroTextCard

/-- THE TIED CARD OF 'laws.FnHexBelow'. -/
def fnHexBelowCard : Claim7 := { stood := { row := fnHexBelowRow, standIns := [], harness := (true, "191494ccfeafb00870a7232d5cd57be67fa3867406aaea3b07991fe03c6cdce1"), looks := false }, kinds := [], alts := [], laidByText := true, laidKinds := [.data, .data, .data, .data, .data, .data, .data, .data, .data, .pinned], laidTests := true, laidLooks := .later }
def FnHexBelowCardSaid : Prop := Claim7.holds Tryz.pinned (.plain (OpenSpec.ofChange fnHexBelowSpec)) fnHexBelowCard

/-- THE TIED CARD OF 'laws.FnWholeMantissa'. -/
def fnWholeMantissaCard : Claim7 := { stood := { row := fnWholeMantissaRow, standIns := [], harness := (true, "191494ccfeafb00870a7232d5cd57be67fa3867406aaea3b07991fe03c6cdce1"), looks := false }, kinds := [], alts := [], laidByText := true, laidKinds := [.data, .data, .data, .data, .data, .data, .data, .data, .data, .pinned], laidTests := true, laidLooks := .later }
def FnWholeMantissaCardSaid : Prop := Claim7.holds Tryz.pinned (.plain (OpenSpec.ofChange fnWholeMantissaSpec)) fnWholeMantissaCard

/-- THE TIED CARD OF 'laws.FnHex'. -/
def fnHexCard : Claim7 := { stood := { row := fnHexRow, standIns := [], harness := (true, "191494ccfeafb00870a7232d5cd57be67fa3867406aaea3b07991fe03c6cdce1"), looks := false }, kinds := [], alts := [], laidByText := true, laidKinds := [.data, .data, .data, .data, .data, .data, .data, .data, .data, .pinned], laidTests := true, laidLooks := .later }
def FnHexCardSaid : Prop := Claim7.holds Tryz.pinned (.plain (OpenSpec.ofChange fnHexSpec)) fnHexCard

/-- THE TIED CARD OF 'laws.FnHexRounded'. -/
def fnHexRoundedCard : Claim7 := { stood := { row := fnHexRoundedRow, standIns := [], harness := (true, "191494ccfeafb00870a7232d5cd57be67fa3867406aaea3b07991fe03c6cdce1"), looks := false }, kinds := [], alts := [], laidByText := true, laidKinds := [.data, .data, .data, .data, .data, .data, .data, .data, .data, .pinned], laidTests := true, laidLooks := .later }
def FnHexRoundedCardSaid : Prop := Claim7.holds Tryz.pinned (.plain (OpenSpec.ofChange fnHexRoundedSpec)) fnHexRoundedCard

/-- THE TIED CARD OF 'laws.FnCapitals'. -/
def fnCapitalsCard : Claim7 := { stood := { row := fnCapitalsRow, standIns := [], harness := (true, "191494ccfeafb00870a7232d5cd57be67fa3867406aaea3b07991fe03c6cdce1"), looks := false }, kinds := [], alts := [], laidByText := true, laidKinds := [.data, .data, .data, .data, .data, .data, .data, .data, .data, .pinned], laidTests := true, laidLooks := .later }
def FnCapitalsCardSaid : Prop := Claim7.holds Tryz.pinned (.plain (OpenSpec.ofChange fnCapitalsSpec)) fnCapitalsCard

/-- THE TIED CARD OF 'laws.FnGeneral'. -/
def fnGeneralCard : Claim7 := { stood := { row := fnGeneralRow, standIns := [], harness := (true, "191494ccfeafb00870a7232d5cd57be67fa3867406aaea3b07991fe03c6cdce1"), looks := false }, kinds := [], alts := [], laidByText := true, laidKinds := [.data, .data, .data, .data, .data, .data, .data, .data, .data, .pinned], laidTests := true, laidLooks := .later }
def FnGeneralCardSaid : Prop := Claim7.holds Tryz.pinned (.plain (OpenSpec.ofChange fnGeneralSpec)) fnGeneralCard

/-- THE TIED CARD OF 'laws.FnGeneralShort'. -/
def fnGeneralShortCard : Claim7 := { stood := { row := fnGeneralShortRow, standIns := [], harness := (true, "191494ccfeafb00870a7232d5cd57be67fa3867406aaea3b07991fe03c6cdce1"), looks := false }, kinds := [], alts := [], laidByText := true, laidKinds := [.data, .data, .data, .data, .data, .data, .data, .data, .data, .pinned], laidTests := true, laidLooks := .later }
def FnGeneralShortCardSaid : Prop := Claim7.holds Tryz.pinned (.plain (OpenSpec.ofChange fnGeneralShortSpec)) fnGeneralShortCard

/-- THE TIED CARD OF 'laws.FnAppend'. -/
def fnAppendCard : Claim7 := { stood := { row := fnAppendRow, standIns := [], harness := (true, "191494ccfeafb00870a7232d5cd57be67fa3867406aaea3b07991fe03c6cdce1"), looks := false }, kinds := [], alts := [], laidByText := true, laidKinds := [.data, .data, .data, .data, .data, .data, .data, .data, .data, .pinned], laidTests := true, laidLooks := .later }
def FnAppendCardSaid : Prop := Claim7.holds Tryz.pinned (.plain (OpenSpec.ofChange fnAppendSpec)) fnAppendCard

/-- THE TIED CARD OF 'laws.FnString'. -/
def fnStringCard : Claim7 := { stood := { row := fnStringRow, standIns := [], harness := (true, "191494ccfeafb00870a7232d5cd57be67fa3867406aaea3b07991fe03c6cdce1"), looks := false }, kinds := [], alts := [], laidByText := true, laidKinds := [.data, .data, .data, .data, .data, .data, .data, .data, .data, .pinned], laidTests := true, laidLooks := .later }
def FnStringCardSaid : Prop := Claim7.holds Tryz.pinned (.plain (OpenSpec.ofChange fnStringSpec)) fnStringCard

/-- THE TIED CARD OF 'laws.FnMarshal'. -/
def fnMarshalCard : Claim7 := { stood := { row := fnMarshalRow, standIns := [], harness := (true, "191494ccfeafb00870a7232d5cd57be67fa3867406aaea3b07991fe03c6cdce1"), looks := false }, kinds := [], alts := [], laidByText := true, laidKinds := [.data, .data, .data, .data, .data, .data, .data, .data, .data, .pinned], laidTests := true, laidLooks := .later }
def FnMarshalCardSaid : Prop := Claim7.holds Tryz.pinned (.plain (OpenSpec.ofChange fnMarshalSpec)) fnMarshalCard

/-- THE SECOND FORM's CARD OF 'laws.FnInfText'. -/
def fnInfTextUptoCard : Claim7 := { stood := { row := fnInfTextUptoRow, standIns := [], harness := (true, "191494ccfeafb00870a7232d5cd57be67fa3867406aaea3b07991fe03c6cdce1"), looks := false }, kinds := [], alts := [], laidByText := true, laidKinds := [.data, .data, .data, .data, .data, .data, .data, .data, .data, .pinned], laidTests := true, laidLooks := .later }
def FnInfTextUptoCardSaid : Prop := Claim7.holds Tryz.pinned (.plain (OpenSpec.upto fnInfTextSpec)) fnInfTextUptoCard

/-- THE SECOND FORM's CARD OF 'laws.FnZeroText'. -/
def fnZeroTextUptoCard : Claim7 := { stood := { row := fnZeroTextUptoRow, standIns := [], harness := (true, "191494ccfeafb00870a7232d5cd57be67fa3867406aaea3b07991fe03c6cdce1"), looks := false }, kinds := [], alts := [], laidByText := true, laidKinds := [.data, .data, .data, .data, .data, .data, .data, .data, .data, .pinned], laidTests := true, laidLooks := .later }
def FnZeroTextUptoCardSaid : Prop := Claim7.holds Tryz.pinned (.plain (OpenSpec.upto fnZeroTextSpec)) fnZeroTextUptoCard

/-- THE SECOND FORM's CARD OF 'laws.FnHexBelow'. -/
def fnHexBelowUptoCard : Claim7 := { stood := { row := fnHexBelowUptoRow, standIns := [], harness := (true, "191494ccfeafb00870a7232d5cd57be67fa3867406aaea3b07991fe03c6cdce1"), looks := false }, kinds := [], alts := [], laidByText := true, laidKinds := [.data, .data, .data, .data, .data, .data, .data, .data, .data, .pinned], laidTests := true, laidLooks := .later }
def FnHexBelowUptoCardSaid : Prop := Claim7.holds Tryz.pinned (.plain (OpenSpec.upto fnHexBelowSpec)) fnHexBelowUptoCard

/-- THE SECOND FORM's CARD OF 'laws.FnWholeMantissa'. -/
def fnWholeMantissaUptoCard : Claim7 := { stood := { row := fnWholeMantissaUptoRow, standIns := [], harness := (true, "191494ccfeafb00870a7232d5cd57be67fa3867406aaea3b07991fe03c6cdce1"), looks := false }, kinds := [], alts := [], laidByText := true, laidKinds := [.data, .data, .data, .data, .data, .data, .data, .data, .data, .pinned], laidTests := true, laidLooks := .later }
def FnWholeMantissaUptoCardSaid : Prop := Claim7.holds Tryz.pinned (.plain (OpenSpec.upto fnWholeMantissaSpec)) fnWholeMantissaUptoCard

/-- THE SECOND FORM's CARD OF 'laws.FnHex'. -/
def fnHexUptoCard : Claim7 := { stood := { row := fnHexUptoRow, standIns := [], harness := (true, "191494ccfeafb00870a7232d5cd57be67fa3867406aaea3b07991fe03c6cdce1"), looks := false }, kinds := [], alts := [], laidByText := true, laidKinds := [.data, .data, .data, .data, .data, .data, .data, .data, .data, .pinned], laidTests := true, laidLooks := .later }
def FnHexUptoCardSaid : Prop := Claim7.holds Tryz.pinned (.plain (OpenSpec.upto fnHexSpec)) fnHexUptoCard

/-- THE SECOND FORM's CARD OF 'laws.FnHexRounded'. -/
def fnHexRoundedUptoCard : Claim7 := { stood := { row := fnHexRoundedUptoRow, standIns := [], harness := (true, "191494ccfeafb00870a7232d5cd57be67fa3867406aaea3b07991fe03c6cdce1"), looks := false }, kinds := [], alts := [], laidByText := true, laidKinds := [.data, .data, .data, .data, .data, .data, .data, .data, .data, .pinned], laidTests := true, laidLooks := .later }
def FnHexRoundedUptoCardSaid : Prop := Claim7.holds Tryz.pinned (.plain (OpenSpec.upto fnHexRoundedSpec)) fnHexRoundedUptoCard

/-- THE SECOND FORM's CARD OF 'laws.FnCapitals'. -/
def fnCapitalsUptoCard : Claim7 := { stood := { row := fnCapitalsUptoRow, standIns := [], harness := (true, "191494ccfeafb00870a7232d5cd57be67fa3867406aaea3b07991fe03c6cdce1"), looks := false }, kinds := [], alts := [], laidByText := true, laidKinds := [.data, .data, .data, .data, .data, .data, .data, .data, .data, .pinned], laidTests := true, laidLooks := .later }
def FnCapitalsUptoCardSaid : Prop := Claim7.holds Tryz.pinned (.plain (OpenSpec.upto fnCapitalsSpec)) fnCapitalsUptoCard

/-- THE SECOND FORM's CARD OF 'laws.FnGeneral'. -/
def fnGeneralUptoCard : Claim7 := { stood := { row := fnGeneralUptoRow, standIns := [], harness := (true, "191494ccfeafb00870a7232d5cd57be67fa3867406aaea3b07991fe03c6cdce1"), looks := false }, kinds := [], alts := [], laidByText := true, laidKinds := [.data, .data, .data, .data, .data, .data, .data, .data, .data, .pinned], laidTests := true, laidLooks := .later }
def FnGeneralUptoCardSaid : Prop := Claim7.holds Tryz.pinned (.plain (OpenSpec.upto fnGeneralSpec)) fnGeneralUptoCard

/-- THE SECOND FORM's CARD OF 'laws.FnGeneralShort'. -/
def fnGeneralShortUptoCard : Claim7 := { stood := { row := fnGeneralShortUptoRow, standIns := [], harness := (true, "191494ccfeafb00870a7232d5cd57be67fa3867406aaea3b07991fe03c6cdce1"), looks := false }, kinds := [], alts := [], laidByText := true, laidKinds := [.data, .data, .data, .data, .data, .data, .data, .data, .data, .pinned], laidTests := true, laidLooks := .later }
def FnGeneralShortUptoCardSaid : Prop := Claim7.holds Tryz.pinned (.plain (OpenSpec.upto fnGeneralShortSpec)) fnGeneralShortUptoCard

/-- THE SECOND FORM's CARD OF 'laws.FnAppend'. -/
def fnAppendUptoCard : Claim7 := { stood := { row := fnAppendUptoRow, standIns := [], harness := (true, "191494ccfeafb00870a7232d5cd57be67fa3867406aaea3b07991fe03c6cdce1"), looks := false }, kinds := [], alts := [], laidByText := true, laidKinds := [.data, .data, .data, .data, .data, .data, .data, .data, .data, .pinned], laidTests := true, laidLooks := .later }
def FnAppendUptoCardSaid : Prop := Claim7.holds Tryz.pinned (.plain (OpenSpec.upto fnAppendSpec)) fnAppendUptoCard

/-- THE SECOND FORM's CARD OF 'laws.FnString'. -/
def fnStringUptoCard : Claim7 := { stood := { row := fnStringUptoRow, standIns := [], harness := (true, "191494ccfeafb00870a7232d5cd57be67fa3867406aaea3b07991fe03c6cdce1"), looks := false }, kinds := [], alts := [], laidByText := true, laidKinds := [.data, .data, .data, .data, .data, .data, .data, .data, .data, .pinned], laidTests := true, laidLooks := .later }
def FnStringUptoCardSaid : Prop := Claim7.holds Tryz.pinned (.plain (OpenSpec.upto fnStringSpec)) fnStringUptoCard

/-- THE SECOND FORM's CARD OF 'laws.FnMarshal'. -/
def fnMarshalUptoCard : Claim7 := { stood := { row := fnMarshalUptoRow, standIns := [], harness := (true, "191494ccfeafb00870a7232d5cd57be67fa3867406aaea3b07991fe03c6cdce1"), looks := false }, kinds := [], alts := [], laidByText := true, laidKinds := [.data, .data, .data, .data, .data, .data, .data, .data, .data, .pinned], laidTests := true, laidLooks := .later }
def FnMarshalUptoCardSaid : Prop := Claim7.holds Tryz.pinned (.plain (OpenSpec.upto fnMarshalSpec)) fnMarshalUptoCard
end Rows
end Go.Proofs.YtalfclpjkefldaaGreatDoor
