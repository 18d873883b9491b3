/-
  DERIVED. GIVEN WITH THE SEED: THE CARDS: each row of YtfnknldbjckgoaaGreatDoorRows.lean that lists a variable, with what it lists TIED to the program's text (the seventh form; the later family's looks); each row that meets fmt, with fmt's text TOLD by the authors' own Lean function (tested against real Go, not proved from fmt's source: count such statements apart). THE CARD IS WHAT COUNTS. Prove the row's statement (the work); the ties are given (YtfnknldbjckgoaaGreatDoorTie.lean); close each card by the builder's one call (the guide's Derived/Test/ToyasCard.lean, 'card_holds'). Laid BY PROGRAM, IN A SANDBOX (cutbox-door.mjs). By AI agents, Wed Nov 11 2026. No macro, syntax, notation, axiom, sorry.
-/
import Derived.Test.YtfnknldbjckgoaaGreatDoorRows
import GoSem.ClaimSeven
namespace Go.Proofs.YtfnknldbjckgoaaGreatDoor
namespace Rows

/-- THE TIED CARD OF 'laws.FnHex'. -/
def fnHexCard : Claim7 := { stood := { row := fnHexRow, standIns := [], harness := (true, "ba559489b85515bdad3892c2a8a9d0ed34bdf2f132b7d0e27180ec634c7f6e56"), looks := false }, kinds := [], alts := [], laidByText := true, laidKinds := [.data, .data, .data, .data, .data, .data, .data, .data, .data, .pinned], laidTests := true, laidLooks := .later }
def FnHexCardSaid : Prop := Claim7.holds Tryz.pinned (.plain (OpenSpec.ofChange fnHexSpec)) fnHexCard

/-- THE TIED CARD OF 'laws.FnHexRounded'. -/
def fnHexRoundedCard : Claim7 := { stood := { row := fnHexRoundedRow, standIns := [], harness := (true, "ba559489b85515bdad3892c2a8a9d0ed34bdf2f132b7d0e27180ec634c7f6e56"), looks := false }, kinds := [], alts := [], laidByText := true, laidKinds := [.data, .data, .data, .data, .data, .data, .data, .data, .data, .pinned], laidTests := true, laidLooks := .later }
def FnHexRoundedCardSaid : Prop := Claim7.holds Tryz.pinned (.plain (OpenSpec.ofChange fnHexRoundedSpec)) fnHexRoundedCard

/-- THE TIED CARD OF 'laws.FnGeneral'. -/
def fnGeneralCard : Claim7 := { stood := { row := fnGeneralRow, standIns := [], harness := (true, "ba559489b85515bdad3892c2a8a9d0ed34bdf2f132b7d0e27180ec634c7f6e56"), looks := false }, kinds := [], alts := [], laidByText := true, laidKinds := [.data, .data, .data, .data, .data, .data, .data, .data, .data, .pinned], laidTests := true, laidLooks := .later }
def FnGeneralCardSaid : Prop := Claim7.holds Tryz.pinned (.plain (OpenSpec.ofChange fnGeneralSpec)) fnGeneralCard

/-- THE TIED CARD OF 'laws.FnGeneralShort'. -/
def fnGeneralShortCard : Claim7 := { stood := { row := fnGeneralShortRow, standIns := [], harness := (true, "ba559489b85515bdad3892c2a8a9d0ed34bdf2f132b7d0e27180ec634c7f6e56"), looks := false }, kinds := [], alts := [], laidByText := true, laidKinds := [.data, .data, .data, .data, .data, .data, .data, .data, .data, .pinned], laidTests := true, laidLooks := .later }
def FnGeneralShortCardSaid : Prop := Claim7.holds Tryz.pinned (.plain (OpenSpec.ofChange fnGeneralShortSpec)) fnGeneralShortCard

/-- THE TIED CARD OF 'laws.FnCapitals'. -/
def fnCapitalsCard : Claim7 := { stood := { row := fnCapitalsRow, standIns := [], harness := (true, "ba559489b85515bdad3892c2a8a9d0ed34bdf2f132b7d0e27180ec634c7f6e56"), looks := false }, kinds := [], alts := [], laidByText := true, laidKinds := [.data, .data, .data, .data, .data, .data, .data, .data, .data, .pinned], laidTests := true, laidLooks := .later }
def FnCapitalsCardSaid : Prop := Claim7.holds Tryz.pinned (.plain (OpenSpec.ofChange fnCapitalsSpec)) fnCapitalsCard

/-- THE TIED CARD OF 'laws.FnMarshal'. -/
def fnMarshalCard : Claim7 := { stood := { row := fnMarshalRow, standIns := [], harness := (true, "ba559489b85515bdad3892c2a8a9d0ed34bdf2f132b7d0e27180ec634c7f6e56"), looks := false }, kinds := [], alts := [], laidByText := true, laidKinds := [.data, .data, .data, .data, .data, .data, .data, .data, .data, .pinned], laidTests := true, laidLooks := .later }
def FnMarshalCardSaid : Prop := Claim7.holds Tryz.pinned (.plain (OpenSpec.ofChange fnMarshalSpec)) fnMarshalCard

/-- THE TIED CARD OF 'laws.FnAppend'. -/
def fnAppendCard : Claim7 := { stood := { row := fnAppendRow, standIns := [], harness := (true, "ba559489b85515bdad3892c2a8a9d0ed34bdf2f132b7d0e27180ec634c7f6e56"), looks := false }, kinds := [], alts := [], laidByText := true, laidKinds := [.data, .data, .data, .data, .data, .data, .data, .data, .data, .pinned], laidTests := true, laidLooks := .later }
def FnAppendCardSaid : Prop := Claim7.holds Tryz.pinned (.plain (OpenSpec.ofChange fnAppendSpec)) fnAppendCard

/-- THE SECOND FORM's CARD OF 'laws.FnHex'. -/
def fnHexUptoCard : Claim7 := { stood := { row := fnHexUptoRow, standIns := [], harness := (true, "ba559489b85515bdad3892c2a8a9d0ed34bdf2f132b7d0e27180ec634c7f6e56"), looks := false }, kinds := [], alts := [], laidByText := true, laidKinds := [.data, .data, .data, .data, .data, .data, .data, .data, .data, .pinned], laidTests := true, laidLooks := .later }
def FnHexUptoCardSaid : Prop := Claim7.holds Tryz.pinned (.plain (OpenSpec.upto fnHexSpec)) fnHexUptoCard

/-- THE SECOND FORM's CARD OF 'laws.FnHexRounded'. -/
def fnHexRoundedUptoCard : Claim7 := { stood := { row := fnHexRoundedUptoRow, standIns := [], harness := (true, "ba559489b85515bdad3892c2a8a9d0ed34bdf2f132b7d0e27180ec634c7f6e56"), looks := false }, kinds := [], alts := [], laidByText := true, laidKinds := [.data, .data, .data, .data, .data, .data, .data, .data, .data, .pinned], laidTests := true, laidLooks := .later }
def FnHexRoundedUptoCardSaid : Prop := Claim7.holds Tryz.pinned (.plain (OpenSpec.upto fnHexRoundedSpec)) fnHexRoundedUptoCard

/-- THE SECOND FORM's CARD OF 'laws.FnGeneral'. -/
def fnGeneralUptoCard : Claim7 := { stood := { row := fnGeneralUptoRow, standIns := [], harness := (true, "ba559489b85515bdad3892c2a8a9d0ed34bdf2f132b7d0e27180ec634c7f6e56"), looks := false }, kinds := [], alts := [], laidByText := true, laidKinds := [.data, .data, .data, .data, .data, .data, .data, .data, .data, .pinned], laidTests := true, laidLooks := .later }
def FnGeneralUptoCardSaid : Prop := Claim7.holds Tryz.pinned (.plain (OpenSpec.upto fnGeneralSpec)) fnGeneralUptoCard

/-- THE SECOND FORM's CARD OF 'laws.FnGeneralShort'. -/
def fnGeneralShortUptoCard : Claim7 := { stood := { row := fnGeneralShortUptoRow, standIns := [], harness := (true, "ba559489b85515bdad3892c2a8a9d0ed34bdf2f132b7d0e27180ec634c7f6e56"), looks := false }, kinds := [], alts := [], laidByText := true, laidKinds := [.data, .data, .data, .data, .data, .data, .data, .data, .data, .pinned], laidTests := true, laidLooks := .later }
def FnGeneralShortUptoCardSaid : Prop := Claim7.holds Tryz.pinned (.plain (OpenSpec.upto fnGeneralShortSpec)) fnGeneralShortUptoCard

/-- THE SECOND FORM's CARD OF 'laws.FnCapitals'. -/
def fnCapitalsUptoCard : Claim7 := { stood := { row := fnCapitalsUptoRow, standIns := [], harness := (true, "ba559489b85515bdad3892c2a8a9d0ed34bdf2f132b7d0e27180ec634c7f6e56"), looks := false }, kinds := [], alts := [], laidByText := true, laidKinds := [.data, .data, .data, .data, .data, .data, .data, .data, .data, .pinned], laidTests := true, laidLooks := .later }
def FnCapitalsUptoCardSaid : Prop := Claim7.holds Tryz.pinned (.plain (OpenSpec.upto fnCapitalsSpec)) fnCapitalsUptoCard

/-- THE SECOND FORM's CARD OF 'laws.FnMarshal'. -/
def fnMarshalUptoCard : Claim7 := { stood := { row := fnMarshalUptoRow, standIns := [], harness := (true, "ba559489b85515bdad3892c2a8a9d0ed34bdf2f132b7d0e27180ec634c7f6e56"), looks := false }, kinds := [], alts := [], laidByText := true, laidKinds := [.data, .data, .data, .data, .data, .data, .data, .data, .data, .pinned], laidTests := true, laidLooks := .later }
def FnMarshalUptoCardSaid : Prop := Claim7.holds Tryz.pinned (.plain (OpenSpec.upto fnMarshalSpec)) fnMarshalUptoCard

/-- THE SECOND FORM's CARD OF 'laws.FnAppend'. -/
def fnAppendUptoCard : Claim7 := { stood := { row := fnAppendUptoRow, standIns := [], harness := (true, "ba559489b85515bdad3892c2a8a9d0ed34bdf2f132b7d0e27180ec634c7f6e56"), looks := false }, kinds := [], alts := [], laidByText := true, laidKinds := [.data, .data, .data, .data, .data, .data, .data, .data, .data, .pinned], laidTests := true, laidLooks := .later }
def FnAppendUptoCardSaid : Prop := Claim7.holds Tryz.pinned (.plain (OpenSpec.upto fnAppendSpec)) fnAppendUptoCard
end Rows
end Go.Proofs.YtfnknldbjckgoaaGreatDoor
