/-
  DERIVED. GIVEN WITH THE SEED: THE CARDS: each row of YtnbnfjpecgbnpaaGreatDoorRows.lean that lists a variable, with what it lists TIED to the program's text (the seventh form; the later family's looks); each row that meets fmt, with fmt's text TOLD by the authors' own Lean function (tested against real Go, not proved from fmt's source: count such statements apart). THE CARD IS WHAT COUNTS. Prove the row's statement (the work); the ties are given (YtnbnfjpecgbnpaaGreatDoorTie.lean); close each card by the builder's one call (the guide's Derived/Test/ToyasCard.lean, 'card_holds'). Laid BY PROGRAM, IN A SANDBOX (cutbox-door.mjs). By AI agents, Wed Nov 11 2026. No macro, syntax, notation, axiom, sorry.
-/
import Derived.Test.YtnbnfjpecgbnpaaGreatDoorRows
import GoSem.ClaimSeven
namespace Go.Proofs.YtnbnfjpecgbnpaaGreatDoor
namespace Rows

/-- THE TIED CARD OF 'laws.FnHexBelow'. -/
def fnHexBelowCard : Claim7 := { stood := { row := fnHexBelowRow, standIns := [], harness := (true, "a41f15581f84bc3a43db128cf5457c04d3874f884ab2cbe4035e22518ca32b81"), looks := false }, kinds := [], alts := [], laidByText := true, laidKinds := [.data, .data, .data, .data, .data, .data, .data, .data, .data, .pinned], laidTests := true, laidLooks := .later }
def FnHexBelowCardSaid : Prop := Claim7.holds Tryz.pinned (.plain (OpenSpec.ofChange fnHexBelowSpec)) fnHexBelowCard

/-- THE TIED CARD OF 'laws.FnHex'. -/
def fnHexCard : Claim7 := { stood := { row := fnHexRow, standIns := [], harness := (true, "a41f15581f84bc3a43db128cf5457c04d3874f884ab2cbe4035e22518ca32b81"), looks := false }, kinds := [], alts := [], laidByText := true, laidKinds := [.data, .data, .data, .data, .data, .data, .data, .data, .data, .pinned], laidTests := true, laidLooks := .later }
def FnHexCardSaid : Prop := Claim7.holds Tryz.pinned (.plain (OpenSpec.ofChange fnHexSpec)) fnHexCard

/-- THE TIED CARD OF 'laws.FnHexRounded'. -/
def fnHexRoundedCard : Claim7 := { stood := { row := fnHexRoundedRow, standIns := [], harness := (true, "a41f15581f84bc3a43db128cf5457c04d3874f884ab2cbe4035e22518ca32b81"), looks := false }, kinds := [], alts := [], laidByText := true, laidKinds := [.data, .data, .data, .data, .data, .data, .data, .data, .data, .pinned], laidTests := true, laidLooks := .later }
def FnHexRoundedCardSaid : Prop := Claim7.holds Tryz.pinned (.plain (OpenSpec.ofChange fnHexRoundedSpec)) fnHexRoundedCard

/-- THE TIED CARD OF 'laws.FnString'. -/
def fnStringCard : Claim7 := { stood := { row := fnStringRow, standIns := [], harness := (true, "a41f15581f84bc3a43db128cf5457c04d3874f884ab2cbe4035e22518ca32b81"), looks := false }, kinds := [], alts := [], laidByText := true, laidKinds := [.data, .data, .data, .data, .data, .data, .data, .data, .data, .pinned], laidTests := true, laidLooks := .later }
def FnStringCardSaid : Prop := Claim7.holds Tryz.pinned (.plain (OpenSpec.ofChange fnStringSpec)) fnStringCard

/-- THE SECOND FORM's CARD OF 'laws.FnHexBelow'. -/
def fnHexBelowUptoCard : Claim7 := { stood := { row := fnHexBelowUptoRow, standIns := [], harness := (true, "a41f15581f84bc3a43db128cf5457c04d3874f884ab2cbe4035e22518ca32b81"), looks := false }, kinds := [], alts := [], laidByText := true, laidKinds := [.data, .data, .data, .data, .data, .data, .data, .data, .data, .pinned], laidTests := true, laidLooks := .later }
def FnHexBelowUptoCardSaid : Prop := Claim7.holds Tryz.pinned (.plain (OpenSpec.upto fnHexBelowSpec)) fnHexBelowUptoCard

/-- THE SECOND FORM's CARD OF 'laws.FnHex'. -/
def fnHexUptoCard : Claim7 := { stood := { row := fnHexUptoRow, standIns := [], harness := (true, "a41f15581f84bc3a43db128cf5457c04d3874f884ab2cbe4035e22518ca32b81"), looks := false }, kinds := [], alts := [], laidByText := true, laidKinds := [.data, .data, .data, .data, .data, .data, .data, .data, .data, .pinned], laidTests := true, laidLooks := .later }
def FnHexUptoCardSaid : Prop := Claim7.holds Tryz.pinned (.plain (OpenSpec.upto fnHexSpec)) fnHexUptoCard

/-- THE SECOND FORM's CARD OF 'laws.FnHexRounded'. -/
def fnHexRoundedUptoCard : Claim7 := { stood := { row := fnHexRoundedUptoRow, standIns := [], harness := (true, "a41f15581f84bc3a43db128cf5457c04d3874f884ab2cbe4035e22518ca32b81"), looks := false }, kinds := [], alts := [], laidByText := true, laidKinds := [.data, .data, .data, .data, .data, .data, .data, .data, .data, .pinned], laidTests := true, laidLooks := .later }
def FnHexRoundedUptoCardSaid : Prop := Claim7.holds Tryz.pinned (.plain (OpenSpec.upto fnHexRoundedSpec)) fnHexRoundedUptoCard

/-- THE SECOND FORM's CARD OF 'laws.FnString'. -/
def fnStringUptoCard : Claim7 := { stood := { row := fnStringUptoRow, standIns := [], harness := (true, "a41f15581f84bc3a43db128cf5457c04d3874f884ab2cbe4035e22518ca32b81"), looks := false }, kinds := [], alts := [], laidByText := true, laidKinds := [.data, .data, .data, .data, .data, .data, .data, .data, .data, .pinned], laidTests := true, laidLooks := .later }
def FnStringUptoCardSaid : Prop := Claim7.holds Tryz.pinned (.plain (OpenSpec.upto fnStringSpec)) fnStringUptoCard
end Rows
end Go.Proofs.YtnbnfjpecgbnpaaGreatDoor
