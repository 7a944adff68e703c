/-
  DERIVED. GIVEN WITH THE SEED: THE CARDS: each row of YtfhbnlbdmfjhlaaGreatDoorRows.lean that lists a variable, with what it lists TIED to the program's text (the seventh form; the later family's looks); each row that meets fmt, with fmt's text TOLD by the authors' own Lean function (tested against real Go, not proved from fmt's source: count such statements apart). THE CARD IS WHAT COUNTS. Prove the row's statement (the work); the ties are given (YtfhbnlbdmfjhlaaGreatDoorTie.lean); close each card by the builder's one call (the guide's Derived/Test/ToyasCard.lean, 'card_holds'). Laid BY PROGRAM, IN A SANDBOX (cutbox-door.mjs). By AI agents, Wed Nov 11 2026. No macro, syntax, notation, axiom, sorry.
-/
import Derived.Test.YtfhbnlbdmfjhlaaGreatDoorRows
import GoSem.ClaimSeven
namespace Go.Proofs.YtfhbnlbdmfjhlaaGreatDoor
namespace Rows

/-- THE TIED CARD OF 'laws.FnDocEqual'. -/
def fnDocEqualCard : Claim7 := { stood := { row := fnDocEqualRow, standIns := [], harness := (true, "40086399831b931d277674c7e0349f17523782358fe403fda3e38d1f9ef11ee3"), looks := true }, kinds := [], alts := [], laidByText := true, laidKinds := [.data, .data, .data, .sentinel, .sentinel, .sentinel, .sentinel], laidTests := true, laidLooks := .later }
def FnDocEqualCardSaid : Prop := Claim7.holds Tryz.pinned (.plain (OpenSpec.ofChange fnDocEqualSpec)) fnDocEqualCard

/-- THE TIED CARD OF 'laws.FnDocFromReader'. -/
def fnDocFromReaderCard : Claim7 := { stood := { row := fnDocFromReaderRow, standIns := [], harness := (true, "40086399831b931d277674c7e0349f17523782358fe403fda3e38d1f9ef11ee3"), looks := true }, kinds := [], alts := [], laidByText := true, laidKinds := [.data, .data, .data, .sentinel, .sentinel, .sentinel, .sentinel, .sentinel, .sentinel, .sentinel], laidTests := true, laidLooks := .later }
def FnDocFromReaderCardSaid : Prop := Claim7.holds Tryz.pinned (.plain (OpenSpec.ofChange fnDocFromReaderSpec)) fnDocFromReaderCard

/-- THE SECOND FORM's CARD OF 'laws.FnDocEqual'. -/
def fnDocEqualUptoCard : Claim7 := { stood := { row := fnDocEqualUptoRow, standIns := [], harness := (true, "40086399831b931d277674c7e0349f17523782358fe403fda3e38d1f9ef11ee3"), looks := true }, kinds := [], alts := [], laidByText := true, laidKinds := [.data, .data, .data, .sentinel, .sentinel, .sentinel, .sentinel], laidTests := true, laidLooks := .later }
def FnDocEqualUptoCardSaid : Prop := Claim7.holds Tryz.pinned (.plain (OpenSpec.upto fnDocEqualSpec)) fnDocEqualUptoCard

/-- THE SECOND FORM's CARD OF 'laws.FnDocFromReader'. -/
def fnDocFromReaderUptoCard : Claim7 := { stood := { row := fnDocFromReaderUptoRow, standIns := [], harness := (true, "40086399831b931d277674c7e0349f17523782358fe403fda3e38d1f9ef11ee3"), looks := true }, kinds := [], alts := [], laidByText := true, laidKinds := [.data, .data, .data, .sentinel, .sentinel, .sentinel, .sentinel, .sentinel, .sentinel, .sentinel], laidTests := true, laidLooks := .later }
def FnDocFromReaderUptoCardSaid : Prop := Claim7.holds Tryz.pinned (.plain (OpenSpec.upto fnDocFromReaderSpec)) fnDocFromReaderUptoCard
end Rows
end Go.Proofs.YtfhbnlbdmfjhlaaGreatDoor
