/-
  DERIVED. GIVEN WITH THE SEED: THE CARDS: each row of YtdgncemcfhocmaaGreatDoorRows.lean that lists a variable, with what it lists TIED to the program's text (the seventh form; the later family's looks); each row that meets fmt, with fmt's text TOLD by the authors' own Lean function (tested against real Go, not proved from fmt's source: count such statements apart). THE CARD IS WHAT COUNTS. Prove the row's statement (the work); the ties are given (YtdgncemcfhocmaaGreatDoorTie.lean); close each card by the builder's one call (the guide's Derived/Test/ToyasCard.lean, 'card_holds'). Laid BY PROGRAM, IN A SANDBOX (cutbox-door.mjs). By AI agents, Wed Nov 11 2026. No macro, syntax, notation, axiom, sorry.
-/
import Derived.Test.YtdgncemcfhocmaaGreatDoorRows
import GoSem.ClaimSeven
namespace Go.Proofs.YtdgncemcfhocmaaGreatDoor
namespace Rows

/-- THE TIED CARD OF 'laws.FnBindFirst'. -/
def fnBindFirstCard : Claim7 := { stood := { row := fnBindFirstRow, standIns := [], harness := (true, "a97be2bff9db4704a004f5dc65a59dce46c530acd82607443e3b1a18bf5fd011"), looks := false }, kinds := [], alts := [], laidByText := true, laidKinds := [.data, .data, .data, .data, .sentinel], laidTests := true, laidLooks := .later }
def FnBindFirstCardSaid : Prop := Claim7.holds Tryz.pinned (.plain (OpenSpec.ofChange fnBindFirstSpec)) fnBindFirstCard

/-- THE TIED CARD OF 'laws.FnBindWhole'. -/
def fnBindWholeCard : Claim7 := { stood := { row := fnBindWholeRow, standIns := [], harness := (true, "a97be2bff9db4704a004f5dc65a59dce46c530acd82607443e3b1a18bf5fd011"), looks := false }, kinds := [], alts := [], laidByText := true, laidKinds := [.data, .data, .data, .data, .sentinel], laidTests := true, laidLooks := .later }
def FnBindWholeCardSaid : Prop := Claim7.holds Tryz.pinned (.plain (OpenSpec.ofChange fnBindWholeSpec)) fnBindWholeCard

/-- THE TIED CARD OF 'laws.FnBindWrite'. -/
def fnBindWriteCard : Claim7 := { stood := { row := fnBindWriteRow, standIns := [], harness := (true, "a97be2bff9db4704a004f5dc65a59dce46c530acd82607443e3b1a18bf5fd011"), looks := false }, kinds := [], alts := [], laidByText := true, laidKinds := [.data, .data, .data, .data, .sentinel], laidTests := true, laidLooks := .later }
def FnBindWriteCardSaid : Prop := Claim7.holds Tryz.pinned (.plain (OpenSpec.ofChange fnBindWriteSpec)) fnBindWriteCard

/-- THE SECOND FORM's CARD OF 'laws.FnBindFirst'. -/
def fnBindFirstUptoCard : Claim7 := { stood := { row := fnBindFirstUptoRow, standIns := [], harness := (true, "a97be2bff9db4704a004f5dc65a59dce46c530acd82607443e3b1a18bf5fd011"), looks := false }, kinds := [], alts := [], laidByText := true, laidKinds := [.data, .data, .data, .data, .sentinel], laidTests := true, laidLooks := .later }
def FnBindFirstUptoCardSaid : Prop := Claim7.holds Tryz.pinned (.plain (OpenSpec.upto fnBindFirstSpec)) fnBindFirstUptoCard

/-- THE SECOND FORM's CARD OF 'laws.FnBindWhole'. -/
def fnBindWholeUptoCard : Claim7 := { stood := { row := fnBindWholeUptoRow, standIns := [], harness := (true, "a97be2bff9db4704a004f5dc65a59dce46c530acd82607443e3b1a18bf5fd011"), looks := false }, kinds := [], alts := [], laidByText := true, laidKinds := [.data, .data, .data, .data, .sentinel], laidTests := true, laidLooks := .later }
def FnBindWholeUptoCardSaid : Prop := Claim7.holds Tryz.pinned (.plain (OpenSpec.upto fnBindWholeSpec)) fnBindWholeUptoCard

/-- THE SECOND FORM's CARD OF 'laws.FnBindWrite'. -/
def fnBindWriteUptoCard : Claim7 := { stood := { row := fnBindWriteUptoRow, standIns := [], harness := (true, "a97be2bff9db4704a004f5dc65a59dce46c530acd82607443e3b1a18bf5fd011"), looks := false }, kinds := [], alts := [], laidByText := true, laidKinds := [.data, .data, .data, .data, .sentinel], laidTests := true, laidLooks := .later }
def FnBindWriteUptoCardSaid : Prop := Claim7.holds Tryz.pinned (.plain (OpenSpec.upto fnBindWriteSpec)) fnBindWriteUptoCard
end Rows
end Go.Proofs.YtdgncemcfhocmaaGreatDoor
