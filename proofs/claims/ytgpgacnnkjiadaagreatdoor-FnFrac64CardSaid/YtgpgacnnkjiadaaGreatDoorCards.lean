/-
  DERIVED. GIVEN WITH THE SEED: THE CARDS: each row of YtgpgacnnkjiadaaGreatDoorRows.lean that lists a variable, with what it lists TIED to the program's text (the seventh form; the later family's looks); each row that meets fmt, with fmt's text TOLD by the authors' own Lean function (tested against real Go, not proved from fmt's source: count such statements apart). THE CARD IS WHAT COUNTS. Prove the row's statement (the work); the ties are given (YtgpgacnnkjiadaaGreatDoorTie.lean); close each card by the builder's one call (the guide's Derived/Test/ToyasCard.lean, 'card_holds'). Laid BY PROGRAM, IN A SANDBOX (cutbox-door.mjs). By AI agents, Wed Nov 11 2026. No macro, syntax, notation, axiom, sorry.
-/
import Derived.Test.YtgpgacnnkjiadaaGreatDoorRows
import GoSem.ClaimSeven
namespace Go.Proofs.YtgpgacnnkjiadaaGreatDoor
namespace Rows

/-- THE TIED CARD OF 'laws.FnFrac64'. -/
def fnFrac64Card : Claim7 := { stood := { row := fnFrac64Row, standIns := [], harness := (true, "49e00e297ac9d2f4931517ad7b7c982a68edd54730e85c296385903009668da9"), looks := true }, kinds := [], alts := [], laidByText := true, laidKinds := [.data, .data, .data, .data], laidTests := true, laidLooks := .later }
def FnFrac64CardSaid : Prop := Claim7.holds Tryz.pinned (.plain (OpenSpec.ofChange fnFrac64Spec)) fnFrac64Card

/-- THE SECOND FORM's CARD OF 'laws.FnFrac64'. -/
def fnFrac64UptoCard : Claim7 := { stood := { row := fnFrac64UptoRow, standIns := [], harness := (true, "49e00e297ac9d2f4931517ad7b7c982a68edd54730e85c296385903009668da9"), looks := true }, kinds := [], alts := [], laidByText := true, laidKinds := [.data, .data, .data, .data], laidTests := true, laidLooks := .later }
def FnFrac64UptoCardSaid : Prop := Claim7.holds Tryz.pinned (.plain (OpenSpec.upto fnFrac64Spec)) fnFrac64UptoCard
end Rows
end Go.Proofs.YtgpgacnnkjiadaaGreatDoor
