/-
  DERIVED. GIVEN WITH THE SEED: THE CARDS: each row of YtdmnogjgifapnaaDoorRows.lean that lists a variable, with what it lists TIED to the program's text (the seventh form; the later family's looks); each row that meets fmt, with fmt's text TOLD by the authors' own Lean function (tested against real Go, not proved from fmt's source: count such statements apart). THE CARD IS WHAT COUNTS. Prove the row's statement (the work); the ties are given (YtdmnogjgifapnaaDoorTie.lean); close each card by the builder's one call (the guide's Derived/Test/ToyasCard.lean, 'card_holds'). Laid BY PROGRAM, IN A SANDBOX (cutbox-door.mjs). By AI agents, Wed Nov 11 2026. No macro, syntax, notation, axiom, sorry.
-/
import Derived.Test.YtdmnogjgifapnaaDoorRows
import GoSem.ClaimSeven
namespace Go.Proofs.YtdmnogjgifapnaaDoor
namespace Rows

/-- THE TIED CARD OF 'laws.FnExtBinaries'. -/
def fnExtBinariesCard : Claim7 := { stood := { row := fnExtBinariesRow, standIns := [], harness := (true, "ffe620839e67a3af8d91f8fa7796a916ab0fd7ca7ae4887c29763e5dddc6e4df"), looks := true }, kinds := [], alts := [], laidByText := true, laidKinds := [.data, .data, .data, .sentinel, .sentinel], laidTests := true, laidLooks := .later }
def FnExtBinariesCardSaid : Prop := Claim7.holds Tryd.pinned (.plain (OpenSpec.ofChange fnExtBinariesSpec)) fnExtBinariesCard

/-- THE TIED CARD OF 'laws.FnBindElement'. -/
def fnBindElementCard : Claim7 := { stood := { row := fnBindElementRow, standIns := [], harness := (true, "ffe620839e67a3af8d91f8fa7796a916ab0fd7ca7ae4887c29763e5dddc6e4df"), looks := true }, kinds := [], alts := [], laidByText := true, laidKinds := [.sentinel, .sentinel, .sentinel, .sentinel], laidTests := true, laidLooks := .later }
def FnBindElementCardSaid : Prop := Claim7.holds Tryd.pinned (.plain (OpenSpec.ofChange fnBindElementSpec)) fnBindElementCard

/-- THE TIED CARD OF 'laws.FnBindMore'. -/
def fnBindMoreCard : Claim7 := { stood := { row := fnBindMoreRow, standIns := [], harness := (true, "ffe620839e67a3af8d91f8fa7796a916ab0fd7ca7ae4887c29763e5dddc6e4df"), looks := true }, kinds := [], alts := [], laidByText := true, laidKinds := [.sentinel, .sentinel, .sentinel, .sentinel, .sentinel, .sentinel, .sentinel], laidTests := true, laidLooks := .later }
def FnBindMoreCardSaid : Prop := Claim7.holds Tryd.pinned (.plain (OpenSpec.ofChange fnBindMoreSpec)) fnBindMoreCard

/-- THE TIED CARD OF 'laws.FnBindLayersElement'. -/
def fnBindLayersElementCard : Claim7 := { stood := { row := fnBindLayersElementRow, standIns := [], harness := (true, "ffe620839e67a3af8d91f8fa7796a916ab0fd7ca7ae4887c29763e5dddc6e4df"), looks := true }, kinds := [], alts := [], laidByText := true, laidKinds := [.sentinel, .sentinel, .sentinel, .sentinel], laidTests := true, laidLooks := .later }
def FnBindLayersElementCardSaid : Prop := Claim7.holds Tryd.pinned (.plain (OpenSpec.ofChange fnBindLayersElementSpec)) fnBindLayersElementCard

/-- THE SECOND FORM's CARD OF 'laws.FnExtBinaries'. -/
def fnExtBinariesUptoCard : Claim7 := { stood := { row := fnExtBinariesUptoRow, standIns := [], harness := (true, "ffe620839e67a3af8d91f8fa7796a916ab0fd7ca7ae4887c29763e5dddc6e4df"), looks := true }, kinds := [], alts := [], laidByText := true, laidKinds := [.data, .data, .data, .sentinel, .sentinel], laidTests := true, laidLooks := .later }
def FnExtBinariesUptoCardSaid : Prop := Claim7.holds Tryd.pinned (.plain (OpenSpec.upto fnExtBinariesSpec)) fnExtBinariesUptoCard

/-- THE SECOND FORM's CARD OF 'laws.FnBindElement'. -/
def fnBindElementUptoCard : Claim7 := { stood := { row := fnBindElementUptoRow, standIns := [], harness := (true, "ffe620839e67a3af8d91f8fa7796a916ab0fd7ca7ae4887c29763e5dddc6e4df"), looks := true }, kinds := [], alts := [], laidByText := true, laidKinds := [.sentinel, .sentinel, .sentinel, .sentinel], laidTests := true, laidLooks := .later }
def FnBindElementUptoCardSaid : Prop := Claim7.holds Tryd.pinned (.plain (OpenSpec.upto fnBindElementSpec)) fnBindElementUptoCard

/-- THE SECOND FORM's CARD OF 'laws.FnBindMore'. -/
def fnBindMoreUptoCard : Claim7 := { stood := { row := fnBindMoreUptoRow, standIns := [], harness := (true, "ffe620839e67a3af8d91f8fa7796a916ab0fd7ca7ae4887c29763e5dddc6e4df"), looks := true }, kinds := [], alts := [], laidByText := true, laidKinds := [.sentinel, .sentinel, .sentinel, .sentinel, .sentinel, .sentinel, .sentinel], laidTests := true, laidLooks := .later }
def FnBindMoreUptoCardSaid : Prop := Claim7.holds Tryd.pinned (.plain (OpenSpec.upto fnBindMoreSpec)) fnBindMoreUptoCard

/-- THE SECOND FORM's CARD OF 'laws.FnBindLayersElement'. -/
def fnBindLayersElementUptoCard : Claim7 := { stood := { row := fnBindLayersElementUptoRow, standIns := [], harness := (true, "ffe620839e67a3af8d91f8fa7796a916ab0fd7ca7ae4887c29763e5dddc6e4df"), looks := true }, kinds := [], alts := [], laidByText := true, laidKinds := [.sentinel, .sentinel, .sentinel, .sentinel], laidTests := true, laidLooks := .later }
def FnBindLayersElementUptoCardSaid : Prop := Claim7.holds Tryd.pinned (.plain (OpenSpec.upto fnBindLayersElementSpec)) fnBindLayersElementUptoCard
end Rows
end Go.Proofs.YtdmnogjgifapnaaDoor
