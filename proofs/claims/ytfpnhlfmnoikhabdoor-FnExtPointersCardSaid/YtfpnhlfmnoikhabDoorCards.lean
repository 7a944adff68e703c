/-
  DERIVED. GIVEN WITH THE SEED: THE CARDS: each row of YtfpnhlfmnoikhabDoorRows.lean that lists a variable, with what it lists TIED to the program's text (the seventh form; the later family's looks); each row that meets fmt, with fmt's text TOLD by the authors' own Lean function (tested against real Go, not proved from fmt's source: count such statements apart). THE CARD IS WHAT COUNTS. Prove the row's statement (the work); the ties are given (YtfpnhlfmnoikhabDoorTie.lean); close each card by the builder's one call (the guide's Derived/Test/ToyasCard.lean, 'card_holds'). Laid BY PROGRAM, IN A SANDBOX (cutbox-door.mjs). By AI agents, Wed Nov 11 2026. No macro, syntax, notation, axiom, sorry.
-/
import Derived.Test.YtfpnhlfmnoikhabDoorRows
import GoSem.ClaimSeven
namespace Go.Proofs.YtfpnhlfmnoikhabDoor
namespace Rows

/-- THE TIED CARD OF 'laws.FnBindUnhex'. -/
def fnBindUnhexCard : Claim7 := { stood := { row := fnBindUnhexRow, standIns := [], harness := (true, "b8d3f1875524c093d318104aa734066728941d0a31fe299829d7a8a01acb91ad"), looks := true }, kinds := [], alts := [], laidByText := true, laidKinds := [.sentinel, .sentinel, .data], laidTests := true, laidLooks := .later }
def FnBindUnhexCardSaid : Prop := Claim7.holds Tryd.pinned (.plain (OpenSpec.ofChange fnBindUnhexSpec)) fnBindUnhexCard

/-- THE TIED CARD OF 'laws.FnExtPointers'. -/
def fnExtPointersCard : Claim7 := { stood := { row := fnExtPointersRow, standIns := [], harness := (true, "b8d3f1875524c093d318104aa734066728941d0a31fe299829d7a8a01acb91ad"), looks := true }, kinds := [], alts := [], laidByText := true, laidKinds := [.sentinel, .sentinel, .data], laidTests := true, laidLooks := .later }
def FnExtPointersCardSaid : Prop := Claim7.holds Tryd.pinned (.plain (OpenSpec.ofChange fnExtPointersSpec)) fnExtPointersCard

/-- THE SECOND FORM's CARD OF 'laws.FnBindUnhex'. -/
def fnBindUnhexUptoCard : Claim7 := { stood := { row := fnBindUnhexUptoRow, standIns := [], harness := (true, "b8d3f1875524c093d318104aa734066728941d0a31fe299829d7a8a01acb91ad"), looks := true }, kinds := [], alts := [], laidByText := true, laidKinds := [.sentinel, .sentinel, .data], laidTests := true, laidLooks := .later }
def FnBindUnhexUptoCardSaid : Prop := Claim7.holds Tryd.pinned (.plain (OpenSpec.upto fnBindUnhexSpec)) fnBindUnhexUptoCard

/-- THE SECOND FORM's CARD OF 'laws.FnExtPointers'. -/
def fnExtPointersUptoCard : Claim7 := { stood := { row := fnExtPointersUptoRow, standIns := [], harness := (true, "b8d3f1875524c093d318104aa734066728941d0a31fe299829d7a8a01acb91ad"), looks := true }, kinds := [], alts := [], laidByText := true, laidKinds := [.sentinel, .sentinel, .data], laidTests := true, laidLooks := .later }
def FnExtPointersUptoCardSaid : Prop := Claim7.holds Tryd.pinned (.plain (OpenSpec.upto fnExtPointersSpec)) fnExtPointersUptoCard
end Rows
end Go.Proofs.YtfpnhlfmnoikhabDoor
