/-
  DERIVED. GIVEN WITH THE SEED: THE CARDS: each row of YtohfgfbfohkkkaaGreatDoorRows.lean that lists a variable, with what it lists TIED to the program's text (the seventh form; the later family's looks); each row that meets fmt, with fmt's text TOLD by the authors' own Lean function (tested against real Go, not proved from fmt's source: count such statements apart). THE CARD IS WHAT COUNTS. Prove the row's statement (the work); the ties are given (YtohfgfbfohkkkaaGreatDoorTie.lean); close each card by the builder's one call (the guide's Derived/Test/ToyasCard.lean, 'card_holds'). Laid BY PROGRAM, IN A SANDBOX (cutbox-door.mjs). By AI agents, Wed Nov 11 2026. No macro, syntax, notation, axiom, sorry.
-/
import Derived.Test.YtohfgfbfohkkkaaGreatDoorRows
import GoSem.ClaimSeven
namespace Go.Proofs.YtohfgfbfohkkkaaGreatDoor
namespace Rows

/-- THE TIED CARD OF 'laws.FnDocRebuilt'. -/
def fnDocRebuiltCard : Claim7 := { stood := { row := fnDocRebuiltRow, standIns := [], harness := (true, "08bf1690903de9a0cb49933f78bd47389e09cb811d6b83a95b35e8a8f49ecf50"), looks := true }, kinds := [], alts := [], laidByText := true, laidKinds := [.data, .data, .data, .sentinel, .sentinel, .sentinel, .sentinel], laidTests := true, laidLooks := .later }
def FnDocRebuiltCardSaid : Prop := Claim7.holds Tryz.pinned (.plain (OpenSpec.ofChange fnDocRebuiltSpec)) fnDocRebuiltCard

/-- THE TIED CARD OF 'laws.FnDocAppend'. -/
def fnDocAppendCard : Claim7 := { stood := { row := fnDocAppendRow, standIns := [], harness := (true, "08bf1690903de9a0cb49933f78bd47389e09cb811d6b83a95b35e8a8f49ecf50"), looks := true }, kinds := [], alts := [], laidByText := true, laidKinds := [.data, .data, .data, .sentinel, .sentinel, .sentinel, .sentinel], laidTests := true, laidLooks := .later }
def FnDocAppendCardSaid : Prop := Claim7.holds Tryz.pinned (.plain (OpenSpec.ofChange fnDocAppendSpec)) fnDocAppendCard

/-- THE SECOND FORM's CARD OF 'laws.FnDocRebuilt'. -/
def fnDocRebuiltUptoCard : Claim7 := { stood := { row := fnDocRebuiltUptoRow, standIns := [], harness := (true, "08bf1690903de9a0cb49933f78bd47389e09cb811d6b83a95b35e8a8f49ecf50"), looks := true }, kinds := [], alts := [], laidByText := true, laidKinds := [.data, .data, .data, .sentinel, .sentinel, .sentinel, .sentinel], laidTests := true, laidLooks := .later }
def FnDocRebuiltUptoCardSaid : Prop := Claim7.holds Tryz.pinned (.plain (OpenSpec.upto fnDocRebuiltSpec)) fnDocRebuiltUptoCard

/-- THE SECOND FORM's CARD OF 'laws.FnDocAppend'. -/
def fnDocAppendUptoCard : Claim7 := { stood := { row := fnDocAppendUptoRow, standIns := [], harness := (true, "08bf1690903de9a0cb49933f78bd47389e09cb811d6b83a95b35e8a8f49ecf50"), looks := true }, kinds := [], alts := [], laidByText := true, laidKinds := [.data, .data, .data, .sentinel, .sentinel, .sentinel, .sentinel], laidTests := true, laidLooks := .later }
def FnDocAppendUptoCardSaid : Prop := Claim7.holds Tryz.pinned (.plain (OpenSpec.upto fnDocAppendSpec)) fnDocAppendUptoCard
end Rows
end Go.Proofs.YtohfgfbfohkkkaaGreatDoor
