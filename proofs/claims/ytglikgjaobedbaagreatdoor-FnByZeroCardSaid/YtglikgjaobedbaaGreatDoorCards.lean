/-
  DERIVED. GIVEN WITH THE SEED: THE CARDS: each row of YtglikgjaobedbaaGreatDoorRows.lean that lists a variable, with what it lists TIED to the program's text (the seventh form; the later family's looks); each row that meets fmt, with fmt's text TOLD by the authors' own Lean function (tested against real Go, not proved from fmt's source: count such statements apart). THE CARD IS WHAT COUNTS. Prove the row's statement (the work); the ties are given (YtglikgjaobedbaaGreatDoorTie.lean); close each card by the builder's one call (the guide's Derived/Test/ToyasCard.lean, 'card_holds'). Laid BY PROGRAM, IN A SANDBOX (cutbox-door.mjs). By AI agents, Wed Nov 11 2026. No macro, syntax, notation, axiom, sorry.
-/
import Derived.Test.YtglikgjaobedbaaGreatDoorRows
import GoSem.ClaimSeven
namespace Go.Proofs.YtglikgjaobedbaaGreatDoor
namespace Rows

/-- THE TIED CARD OF 'laws.FnRoot'. -/
def fnRootCard : Claim7 := { stood := { row := fnRootRow, standIns := [], harness := (true, "e3d41e378a14f5a0572a958125e8c8af210c2beb875358bd3db741859efcd1bd"), looks := true }, kinds := [], alts := [], laidByText := true, laidKinds := [.data, .data, .data, .data, .data], laidTests := true, laidLooks := .later }
def FnRootCardSaid : Prop := Claim7.holds Tryz.pinned (.plain (OpenSpec.ofChange fnRootSpec)) fnRootCard

/-- THE TIED CARD OF 'laws.FnByZero'. -/
def fnByZeroCard : Claim7 := { stood := { row := fnByZeroRow, standIns := [], harness := (true, "e3d41e378a14f5a0572a958125e8c8af210c2beb875358bd3db741859efcd1bd"), looks := true }, kinds := [], alts := [], laidByText := true, laidKinds := [.data, .data, .data, .data, .data, .data], laidTests := true, laidLooks := .later }
def FnByZeroCardSaid : Prop := Claim7.holds Tryz.pinned (.plain (OpenSpec.ofChange fnByZeroSpec)) fnByZeroCard

/-- THE TIED CARD OF 'laws.FnErrNaN'. -/
def fnErrNaNCard : Claim7 := { stood := { row := fnErrNaNRow, standIns := [], harness := (true, "e3d41e378a14f5a0572a958125e8c8af210c2beb875358bd3db741859efcd1bd"), looks := true }, kinds := [], alts := [], laidByText := true, laidKinds := [.data, .data, .data, .data, .data, .data], laidTests := true, laidLooks := .later }
def FnErrNaNCardSaid : Prop := Claim7.holds Tryz.pinned (.plain (OpenSpec.ofChange fnErrNaNSpec)) fnErrNaNCard

/-- THE SECOND FORM's CARD OF 'laws.FnRoot'. -/
def fnRootUptoCard : Claim7 := { stood := { row := fnRootUptoRow, standIns := [], harness := (true, "e3d41e378a14f5a0572a958125e8c8af210c2beb875358bd3db741859efcd1bd"), looks := true }, kinds := [], alts := [], laidByText := true, laidKinds := [.data, .data, .data, .data, .data], laidTests := true, laidLooks := .later }
def FnRootUptoCardSaid : Prop := Claim7.holds Tryz.pinned (.plain (OpenSpec.upto fnRootSpec)) fnRootUptoCard

/-- THE SECOND FORM's CARD OF 'laws.FnByZero'. -/
def fnByZeroUptoCard : Claim7 := { stood := { row := fnByZeroUptoRow, standIns := [], harness := (true, "e3d41e378a14f5a0572a958125e8c8af210c2beb875358bd3db741859efcd1bd"), looks := true }, kinds := [], alts := [], laidByText := true, laidKinds := [.data, .data, .data, .data, .data, .data], laidTests := true, laidLooks := .later }
def FnByZeroUptoCardSaid : Prop := Claim7.holds Tryz.pinned (.plain (OpenSpec.upto fnByZeroSpec)) fnByZeroUptoCard

/-- THE SECOND FORM's CARD OF 'laws.FnErrNaN'. -/
def fnErrNaNUptoCard : Claim7 := { stood := { row := fnErrNaNUptoRow, standIns := [], harness := (true, "e3d41e378a14f5a0572a958125e8c8af210c2beb875358bd3db741859efcd1bd"), looks := true }, kinds := [], alts := [], laidByText := true, laidKinds := [.data, .data, .data, .data, .data, .data], laidTests := true, laidLooks := .later }
def FnErrNaNUptoCardSaid : Prop := Claim7.holds Tryz.pinned (.plain (OpenSpec.upto fnErrNaNSpec)) fnErrNaNUptoCard
end Rows
end Go.Proofs.YtglikgjaobedbaaGreatDoor
