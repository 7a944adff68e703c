/-
  DERIVED. GIVEN WITH THE SEED: THE CARDS: each row of YtjjfdamlicoeeaaDoorRows.lean that lists a variable, with what it lists TIED to the program's text (the seventh form; the later family's looks); each row that meets fmt, with fmt's text TOLD by the authors' own Lean function (tested against real Go, not proved from fmt's source: count such statements apart). THE CARD IS WHAT COUNTS. Prove the row's statement (the work); the ties are given (YtjjfdamlicoeeaaDoorTie.lean); close each card by the builder's one call (the guide's Derived/Test/ToyasCard.lean, 'card_holds'). Laid BY PROGRAM, IN A SANDBOX (cutbox-door.mjs). By AI agents, Wed Nov 11 2026. No macro, syntax, notation, axiom, sorry.
-/
import Derived.Test.YtjjfdamlicoeeaaDoorRows
import GoSem.ClaimSeven
namespace Go.Proofs.YtjjfdamlicoeeaaDoor
namespace Rows

/-- THE TIED CARD OF 'laws.FnDecInt'. -/
def fnDecIntCard : Claim7 := { stood := { row := fnDecIntRow, standIns := [], harness := (true, "7da068721f49058a71cf5930553b8205bb915b14a0a9b9adeb5cbc5c8bfef302"), looks := true }, kinds := [], alts := [], laidByText := true, laidKinds := [.sentinel, .sentinel, .sentinel], laidTests := true, laidLooks := .later }
def FnDecIntCardSaid : Prop := Claim7.holds Tryd.pinned (.plain (OpenSpec.ofChange fnDecIntSpec)) fnDecIntCard

/-- THE TIED CARD OF 'laws.FnDecDifferent'. -/
def fnDecDifferentCard : Claim7 := { stood := { row := fnDecDifferentRow, standIns := [], harness := (true, "7da068721f49058a71cf5930553b8205bb915b14a0a9b9adeb5cbc5c8bfef302"), looks := true }, kinds := [], alts := [], laidByText := true, laidKinds := [.data, .data, .data], laidTests := true, laidLooks := .later }
def FnDecDifferentCardSaid : Prop := Claim7.holds Tryd.pinned (.plain (OpenSpec.ofChange fnDecDifferentSpec)) fnDecDifferentCard

/-- THE TIED CARD OF 'laws.FnDecCore'. -/
def fnDecCoreCard : Claim7 := { stood := { row := fnDecCoreRow, standIns := [], harness := (true, "7da068721f49058a71cf5930553b8205bb915b14a0a9b9adeb5cbc5c8bfef302"), looks := true }, kinds := [], alts := [], laidByText := true, laidKinds := [.data, .data, .data], laidTests := true, laidLooks := .later }
def FnDecCoreCardSaid : Prop := Claim7.holds Tryd.pinned (.plain (OpenSpec.ofChange fnDecCoreSpec)) fnDecCoreCard

/-- THE TIED CARD OF 'laws.FnDecZeros'. -/
def fnDecZerosCard : Claim7 := { stood := { row := fnDecZerosRow, standIns := [], harness := (true, "7da068721f49058a71cf5930553b8205bb915b14a0a9b9adeb5cbc5c8bfef302"), looks := true }, kinds := [], alts := [], laidByText := true, laidKinds := [.data, .data, .data, .data, .sentinel, .sentinel, .data, .data, .data, .data, .data, .pinned, .pinned], laidTests := true, laidLooks := .later }
def FnDecZerosCardSaid : Prop := Claim7.holds Tryd.pinned (.plain (OpenSpec.ofChange fnDecZerosSpec)) fnDecZerosCard

/-- THE TIED CARD OF 'laws.FnVectorOf'. -/
def fnVectorOfCard : Claim7 := { stood := { row := fnVectorOfRow, standIns := [], harness := (true, "7da068721f49058a71cf5930553b8205bb915b14a0a9b9adeb5cbc5c8bfef302"), looks := true }, kinds := [], alts := [], laidByText := true, laidKinds := [.sentinel, .sentinel, .sentinel], laidTests := true, laidLooks := .later }
def FnVectorOfCardSaid : Prop := Claim7.holds Tryd.pinned (.plain (OpenSpec.ofChange fnVectorOfSpec)) fnVectorOfCard

/-- THE TIED CARD OF 'laws.FnVectorInts'. -/
def fnVectorIntsCard : Claim7 := { stood := { row := fnVectorIntsRow, standIns := [], harness := (true, "7da068721f49058a71cf5930553b8205bb915b14a0a9b9adeb5cbc5c8bfef302"), looks := true }, kinds := [], alts := [], laidByText := true, laidKinds := [.sentinel, .sentinel, .sentinel], laidTests := true, laidLooks := .later }
def FnVectorIntsCardSaid : Prop := Claim7.holds Tryd.pinned (.plain (OpenSpec.ofChange fnVectorIntsSpec)) fnVectorIntsCard

/-- THE SECOND FORM's CARD OF 'laws.FnDecInt'. -/
def fnDecIntUptoCard : Claim7 := { stood := { row := fnDecIntUptoRow, standIns := [], harness := (true, "7da068721f49058a71cf5930553b8205bb915b14a0a9b9adeb5cbc5c8bfef302"), looks := true }, kinds := [], alts := [], laidByText := true, laidKinds := [.sentinel, .sentinel, .sentinel], laidTests := true, laidLooks := .later }
def FnDecIntUptoCardSaid : Prop := Claim7.holds Tryd.pinned (.plain (OpenSpec.upto fnDecIntSpec)) fnDecIntUptoCard

/-- THE SECOND FORM's CARD OF 'laws.FnDecDifferent'. -/
def fnDecDifferentUptoCard : Claim7 := { stood := { row := fnDecDifferentUptoRow, standIns := [], harness := (true, "7da068721f49058a71cf5930553b8205bb915b14a0a9b9adeb5cbc5c8bfef302"), looks := true }, kinds := [], alts := [], laidByText := true, laidKinds := [.data, .data, .data], laidTests := true, laidLooks := .later }
def FnDecDifferentUptoCardSaid : Prop := Claim7.holds Tryd.pinned (.plain (OpenSpec.upto fnDecDifferentSpec)) fnDecDifferentUptoCard

/-- THE SECOND FORM's CARD OF 'laws.FnDecCore'. -/
def fnDecCoreUptoCard : Claim7 := { stood := { row := fnDecCoreUptoRow, standIns := [], harness := (true, "7da068721f49058a71cf5930553b8205bb915b14a0a9b9adeb5cbc5c8bfef302"), looks := true }, kinds := [], alts := [], laidByText := true, laidKinds := [.data, .data, .data], laidTests := true, laidLooks := .later }
def FnDecCoreUptoCardSaid : Prop := Claim7.holds Tryd.pinned (.plain (OpenSpec.upto fnDecCoreSpec)) fnDecCoreUptoCard

/-- THE SECOND FORM's CARD OF 'laws.FnDecZeros'. -/
def fnDecZerosUptoCard : Claim7 := { stood := { row := fnDecZerosUptoRow, standIns := [], harness := (true, "7da068721f49058a71cf5930553b8205bb915b14a0a9b9adeb5cbc5c8bfef302"), looks := true }, kinds := [], alts := [], laidByText := true, laidKinds := [.data, .data, .data, .data, .sentinel, .sentinel, .data, .data, .data, .data, .data, .pinned, .pinned], laidTests := true, laidLooks := .later }
def FnDecZerosUptoCardSaid : Prop := Claim7.holds Tryd.pinned (.plain (OpenSpec.upto fnDecZerosSpec)) fnDecZerosUptoCard

/-- THE SECOND FORM's CARD OF 'laws.FnVectorOf'. -/
def fnVectorOfUptoCard : Claim7 := { stood := { row := fnVectorOfUptoRow, standIns := [], harness := (true, "7da068721f49058a71cf5930553b8205bb915b14a0a9b9adeb5cbc5c8bfef302"), looks := true }, kinds := [], alts := [], laidByText := true, laidKinds := [.sentinel, .sentinel, .sentinel], laidTests := true, laidLooks := .later }
def FnVectorOfUptoCardSaid : Prop := Claim7.holds Tryd.pinned (.plain (OpenSpec.upto fnVectorOfSpec)) fnVectorOfUptoCard

/-- THE SECOND FORM's CARD OF 'laws.FnVectorInts'. -/
def fnVectorIntsUptoCard : Claim7 := { stood := { row := fnVectorIntsUptoRow, standIns := [], harness := (true, "7da068721f49058a71cf5930553b8205bb915b14a0a9b9adeb5cbc5c8bfef302"), looks := true }, kinds := [], alts := [], laidByText := true, laidKinds := [.sentinel, .sentinel, .sentinel], laidTests := true, laidLooks := .later }
def FnVectorIntsUptoCardSaid : Prop := Claim7.holds Tryd.pinned (.plain (OpenSpec.upto fnVectorIntsSpec)) fnVectorIntsUptoCard
end Rows
end Go.Proofs.YtjjfdamlicoeeaaDoor
