/-
  DERIVED. GIVEN WITH THE SEED: THE CARDS: each row of YtjbeaofnnodlcaaGreatDoorRows.lean that lists a variable, with what it lists TIED to the program's text (the seventh form; the later family's looks); each row that meets fmt, with fmt's text TOLD by the authors' own Lean function (tested against real Go, not proved from fmt's source: count such statements apart). THE CARD IS WHAT COUNTS. Prove the row's statement (the work); the ties are given (YtjbeaofnnodlcaaGreatDoorTie.lean); close each card by the builder's one call (the guide's Derived/Test/ToyasCard.lean, 'card_holds'). Laid BY PROGRAM, IN A SANDBOX (cutbox-door.mjs). By AI agents, Wed Nov 11 2026. No macro, syntax, notation, axiom, sorry.
-/
import Derived.Test.YtjbeaofnnodlcaaGreatDoorRows
import GoSem.ClaimSeven
namespace Go.Proofs.YtjbeaofnnodlcaaGreatDoor
namespace Rows

/-- THE TIED CARD OF 'laws.FnDocAnyValidate'. -/
def fnDocAnyValidateCard : Claim7 := { stood := { row := fnDocAnyValidateRow, standIns := [], harness := (true, "b566bd53c8e6f027500af178b02940345299ca82bd85ad488438dc30e6b77a09"), looks := true }, kinds := [], alts := [], laidByText := true, laidKinds := [.data, .data, .data, .sentinel, .sentinel, .sentinel, .sentinel], laidTests := true, laidLooks := .later }
def FnDocAnyValidateCardSaid : Prop := Claim7.holds Tryz.pinned (.plain (OpenSpec.ofChange fnDocAnyValidateSpec)) fnDocAnyValidateCard

/-- THE TIED CARD OF 'laws.FnDocValid'. -/
def fnDocValidCard : Claim7 := { stood := { row := fnDocValidRow, standIns := [], harness := (true, "b566bd53c8e6f027500af178b02940345299ca82bd85ad488438dc30e6b77a09"), looks := true }, kinds := [], alts := [], laidByText := true, laidKinds := [.data, .data, .data, .sentinel, .sentinel, .sentinel, .sentinel], laidTests := true, laidLooks := .later }
def FnDocValidCardSaid : Prop := Claim7.holds Tryz.pinned (.plain (OpenSpec.ofChange fnDocValidSpec)) fnDocValidCard

/-- THE SECOND FORM's CARD OF 'laws.FnDocAnyValidate'. -/
def fnDocAnyValidateUptoCard : Claim7 := { stood := { row := fnDocAnyValidateUptoRow, standIns := [], harness := (true, "b566bd53c8e6f027500af178b02940345299ca82bd85ad488438dc30e6b77a09"), looks := true }, kinds := [], alts := [], laidByText := true, laidKinds := [.data, .data, .data, .sentinel, .sentinel, .sentinel, .sentinel], laidTests := true, laidLooks := .later }
def FnDocAnyValidateUptoCardSaid : Prop := Claim7.holds Tryz.pinned (.plain (OpenSpec.upto fnDocAnyValidateSpec)) fnDocAnyValidateUptoCard

/-- THE SECOND FORM's CARD OF 'laws.FnDocValid'. -/
def fnDocValidUptoCard : Claim7 := { stood := { row := fnDocValidUptoRow, standIns := [], harness := (true, "b566bd53c8e6f027500af178b02940345299ca82bd85ad488438dc30e6b77a09"), looks := true }, kinds := [], alts := [], laidByText := true, laidKinds := [.data, .data, .data, .sentinel, .sentinel, .sentinel, .sentinel], laidTests := true, laidLooks := .later }
def FnDocValidUptoCardSaid : Prop := Claim7.holds Tryz.pinned (.plain (OpenSpec.upto fnDocValidSpec)) fnDocValidUptoCard
end Rows
end Go.Proofs.YtjbeaofnnodlcaaGreatDoor
