/-
  DERIVED. GIVEN WITH THE SEED: THE CARDS: each row of YtbpopaegfhcdpaaGreatDoorRows.lean that lists a variable, with what it lists TIED to the program's text (the seventh form; the later family's looks); each row that meets fmt, with fmt's text TOLD by the authors' own Lean function (tested against real Go, not proved from fmt's source: count such statements apart). THE CARD IS WHAT COUNTS. Prove the row's statement (the work); the ties are given (YtbpopaegfhcdpaaGreatDoorTie.lean); close each card by the builder's one call (the guide's Derived/Test/ToyasCard.lean, 'card_holds'). Laid BY PROGRAM, IN A SANDBOX (cutbox-door.mjs). By AI agents, Wed Nov 11 2026. No macro, syntax, notation, axiom, sorry.
-/
import Derived.Test.YtbpopaegfhcdpaaGreatDoorRows
import GoSem.ClaimSeven
namespace Go.Proofs.YtbpopaegfhcdpaaGreatDoor
namespace Rows

/-- THE TIED CARD OF 'laws.FnDocBuiltArray'. -/
def fnDocBuiltArrayCard : Claim7 := { stood := { row := fnDocBuiltArrayRow, standIns := [], harness := (true, "16951da6da1fec345ef8ba922b177a084999b68aeb73639a84555eebec9a0d93"), looks := true }, kinds := [], alts := [], laidByText := true, laidKinds := [.data, .data, .data], laidTests := true, laidLooks := .later }
def FnDocBuiltArrayCardSaid : Prop := Claim7.holds Tryz.pinned (.plain (OpenSpec.ofChange fnDocBuiltArraySpec)) fnDocBuiltArrayCard

/-- THE TIED CARD OF 'laws.FnDocAnyRead'. -/
def fnDocAnyReadCard : Claim7 := { stood := { row := fnDocAnyReadRow, standIns := [], harness := (true, "16951da6da1fec345ef8ba922b177a084999b68aeb73639a84555eebec9a0d93"), looks := true }, kinds := [], alts := [], laidByText := true, laidKinds := [.data, .data, .data, .sentinel, .sentinel, .sentinel, .sentinel], laidTests := true, laidLooks := .later }
def FnDocAnyReadCardSaid : Prop := Claim7.holds Tryz.pinned (.plain (OpenSpec.ofChange fnDocAnyReadSpec)) fnDocAnyReadCard

/-- THE TIED CARD OF 'laws.FnDocAnyLookup'. -/
def fnDocAnyLookupCard : Claim7 := { stood := { row := fnDocAnyLookupRow, standIns := [], harness := (true, "16951da6da1fec345ef8ba922b177a084999b68aeb73639a84555eebec9a0d93"), looks := true }, kinds := [], alts := [], laidByText := true, laidKinds := [.data, .data, .data, .sentinel, .sentinel, .sentinel, .sentinel], laidTests := true, laidLooks := .later }
def FnDocAnyLookupCardSaid : Prop := Claim7.holds Tryz.pinned (.plain (OpenSpec.ofChange fnDocAnyLookupSpec)) fnDocAnyLookupCard

/-- THE SECOND FORM's CARD OF 'laws.FnDocBuiltArray'. -/
def fnDocBuiltArrayUptoCard : Claim7 := { stood := { row := fnDocBuiltArrayUptoRow, standIns := [], harness := (true, "16951da6da1fec345ef8ba922b177a084999b68aeb73639a84555eebec9a0d93"), looks := true }, kinds := [], alts := [], laidByText := true, laidKinds := [.data, .data, .data], laidTests := true, laidLooks := .later }
def FnDocBuiltArrayUptoCardSaid : Prop := Claim7.holds Tryz.pinned (.plain (OpenSpec.upto fnDocBuiltArraySpec)) fnDocBuiltArrayUptoCard

/-- THE SECOND FORM's CARD OF 'laws.FnDocAnyRead'. -/
def fnDocAnyReadUptoCard : Claim7 := { stood := { row := fnDocAnyReadUptoRow, standIns := [], harness := (true, "16951da6da1fec345ef8ba922b177a084999b68aeb73639a84555eebec9a0d93"), looks := true }, kinds := [], alts := [], laidByText := true, laidKinds := [.data, .data, .data, .sentinel, .sentinel, .sentinel, .sentinel], laidTests := true, laidLooks := .later }
def FnDocAnyReadUptoCardSaid : Prop := Claim7.holds Tryz.pinned (.plain (OpenSpec.upto fnDocAnyReadSpec)) fnDocAnyReadUptoCard

/-- THE SECOND FORM's CARD OF 'laws.FnDocAnyLookup'. -/
def fnDocAnyLookupUptoCard : Claim7 := { stood := { row := fnDocAnyLookupUptoRow, standIns := [], harness := (true, "16951da6da1fec345ef8ba922b177a084999b68aeb73639a84555eebec9a0d93"), looks := true }, kinds := [], alts := [], laidByText := true, laidKinds := [.data, .data, .data, .sentinel, .sentinel, .sentinel, .sentinel], laidTests := true, laidLooks := .later }
def FnDocAnyLookupUptoCardSaid : Prop := Claim7.holds Tryz.pinned (.plain (OpenSpec.upto fnDocAnyLookupSpec)) fnDocAnyLookupUptoCard
end Rows
end Go.Proofs.YtbpopaegfhcdpaaGreatDoor
