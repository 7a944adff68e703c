/-
  NARROWER THAN 'FOR EVERY INPUT', by the rows' own cells (each row's printed sentence says how): FnBindUnhex: laid · FnExtPointers: laid.
  DERIVED. THE GIVEN ROWS OF THIS SEAT. 2 by the template 'for every input the law returns true; each argument reads behind the call as it read before'; 0 by the template 'total and deterministic' (their statements: YtfpnhlfmnoikhabDoorTotals.lean).
  GIVEN WITH THE SEED: the statements are not yours to turn. If you find one false, say at which input.
  Laid BY PROGRAM, IN A SANDBOX (cutbox-rows.mjs): the forced cells as the released guide's own fill.sh prints them over the translation 4b0e9991b6d3af11… (all of the seat's roots in one cut). By AI agents, Wed Nov 11 2026. No macro, syntax, notation, axiom, sorry.
-/
import Derived.Test.YtfpnhlfmnoikhabDoorChecked
import GoSem.Claim
import GoSem.ClaimJoined
import GoSem.ClaimMapViews
import Derived.JoinedTies
import Derived.KernelRfl
namespace Go.Proofs.YtfpnhlfmnoikhabDoor
/- THE CELL 'sum', in the pinned program and in every row, IS THE sha256 OF THE DUMP (.gsa) THAT YtfpnhlfmnoikhabDoorProg.lean LOADS. Nothing in Lean hashes anything: it is a label: what it is worth is what the hold of that sum in a sandbox is worth. -/
noncomputable def Tryd.pinned : Pinned := { name := "ytfpnhlfmnoikhabdoor", sum := "4b0e9991b6d3af11a9d9c6a6d01bf33965c881433a40224a06c1bc80edd6d8fa", checked := Tryd.checked }
namespace Rows
def none {H : Type} : Left H := { results := [], args := [] }

/- WHAT THE LISTED PACKAGE-LEVEL VARIABLES READ AS WHEN THE CALL BEGINS. Each datum BY PROGRAM (the guide's laid-datum.mjs) off the statement by which the dump's own 'gosem.cut.vars' lays the variable. In a bare row this is a premise. The card (YtfpnhlfmnoikhabDoorCards.lean) ties it to the program's text. -/
def laid_encoding_hex_ErrLength {H : Type} : DataW H := .iface "*errors.errorString" (.ptr (.agg [.lit (.string [101, 110, 99, 111, 100, 105, 110, 103, 47, 104, 101, 120, 58, 32, 111, 100, 100, 32, 108, 101, 110, 103, 116, 104, 32, 104, 101, 120, 32, 115, 116, 114, 105, 110, 103])]))
def laid_pub_gunnysack_pub_bson_ErrInvalidHex {H : Type} : DataW H := .iface "*errors.errorString" (.ptr (.agg [.lit (.string [116, 104, 101, 32, 112, 114, 111, 118, 105, 100, 101, 100, 32, 104, 101, 120, 32, 115, 116, 114, 105, 110, 103, 32, 105, 115, 32, 110, 111, 116, 32, 97, 32, 118, 97, 108, 105, 100, 32, 79, 98, 106, 101, 99, 116, 73, 68])]))
def laid_pub_gunnysack_pub_bson_NilObjectID {H : Type} : DataW H := .agg [.lit (.int .u8 0), .lit (.int .u8 0), .lit (.int .u8 0), .lit (.int .u8 0), .lit (.int .u8 0), .lit (.int .u8 0), .lit (.int .u8 0), .lit (.int .u8 0), .lit (.int .u8 0), .lit (.int .u8 0), .lit (.int .u8 0), .lit (.int .u8 0)]

/-- 'laws.FnBindUnhex': WHATEVER THE INPUT: true; the input reads as it did. -/
def fnBindUnhexSpec : ChangeSpec := { name := "fnBindUnhex", fn := fun _ => fun
  | [d] => { results := [.lit (.bool true)], args := [d] }
  | _ => none }
def fnBindUnhexRow : OpenClaim := { program := "ytfpnhlfmnoikhabdoor", sum := "4b0e9991b6d3af11a9d9c6a6d01bf33965c881433a40224a06c1bc80edd6d8fa", func := "pub-gunnysack/laws.FnBindUnhex", spec := "fnBindUnhex", named := ["pub-gunnysack/pub/bson.NilObjectID", "pub-gunnysack/pub/bson.ErrInvalidHex", "encoding/hex.ErrLength"], apart := false, laid := [("encoding/hex.ErrLength", laid_encoding_hex_ErrLength), ("pub-gunnysack/pub/bson.ErrInvalidHex", laid_pub_gunnysack_pub_bson_ErrInvalidHex), ("pub-gunnysack/pub/bson.NilObjectID", laid_pub_gunnysack_pub_bson_NilObjectID)] }
def FnBindUnhexSaid : Prop := fnBindUnhexRow.holds Tryd.pinned (OpenSpec.ofChange fnBindUnhexSpec)

/-- ITS FALSE NEIGHBOUR: 'it returns false'. Refute it at one input. -/
def fnBindUnhexWrong : ChangeSpec := { name := "fnBindUnhex", fn := fun _ => fun
  | [d] => { results := [.lit (.bool false)], args := [d] }
  | _ => none }
def FnBindUnhexWrongFalsely : Prop := fnBindUnhexRow.holds Tryd.pinned (OpenSpec.ofChange fnBindUnhexWrong)

/-- 'laws.FnExtPointers': WHATEVER THE INPUT: true; the input reads as it did. -/
def fnExtPointersSpec : ChangeSpec := { name := "fnExtPointers", fn := fun _ => fun
  | [d1, d2] => { results := [.lit (.bool true)], args := [d1, d2] }
  | _ => none }
def fnExtPointersRow : OpenClaim := { program := "ytfpnhlfmnoikhabdoor", sum := "4b0e9991b6d3af11a9d9c6a6d01bf33965c881433a40224a06c1bc80edd6d8fa", func := "pub-gunnysack/laws.FnExtPointers", spec := "fnExtPointers", named := ["pub-gunnysack/pub/bson.NilObjectID", "pub-gunnysack/pub/bson.ErrInvalidHex", "encoding/hex.ErrLength"], apart := false, laid := [("encoding/hex.ErrLength", laid_encoding_hex_ErrLength), ("pub-gunnysack/pub/bson.ErrInvalidHex", laid_pub_gunnysack_pub_bson_ErrInvalidHex), ("pub-gunnysack/pub/bson.NilObjectID", laid_pub_gunnysack_pub_bson_NilObjectID)] }
def FnExtPointersSaid : Prop := fnExtPointersRow.holds Tryd.pinned (OpenSpec.ofChange fnExtPointersSpec)

/-- ITS FALSE NEIGHBOUR: 'it returns false'. Refute it at one input. -/
def fnExtPointersWrong : ChangeSpec := { name := "fnExtPointers", fn := fun _ => fun
  | [d1, d2] => { results := [.lit (.bool false)], args := [d1, d2] }
  | _ => none }
def FnExtPointersWrongFalsely : Prop := fnExtPointersRow.holds Tryd.pinned (OpenSpec.ofChange fnExtPointersWrong)

/- THE SECOND FORM. 'bulk': how many values and letters a reading holds, each counted each time it is reached (what is shared counts as often as it is met; a slice's spare places count too). A statement '..UptoSaid' is the law's where the arguments, and the package variables that the reading takes, are together of bulk at most 1048576: NARROWER than '..Said'. Prove '..Said' where nothing that the law and all that it calls make is longer than what came in: it says more and counts as full. Else prove '..UptoSaid'. A law counts once. -/
mutual
def uptoBulk {H : Type} : DataW H → Nat
  | .lit (.string bytes) => bytes.length + 1
  | .lit _ => 1
  | .nil => 1
  | .ptr d => uptoBulk d + 1
  | .slice elems spare => uptoBulkAll elems + uptoBulkAll spare + 1
  | .agg parts => uptoBulkAll parts + 1
  | .iface _ d => uptoBulk d + 1
  | .map entries => uptoBulkEntries entries + 1
  | .held _ => 1
def uptoBulkAll {H : Type} : List (DataW H) → Nat
  | [] => 0
  | d :: r => uptoBulk d + uptoBulkAll r
def uptoBulkEntries {H : Type} : List (Lit × DataW H) → Nat
  | [] => 0
  | x :: r => uptoBulkEntry x + uptoBulkEntries r
def uptoBulkEntry {H : Type} : Lit × DataW H → Nat
  | (.string bytes, d) => bytes.length + uptoBulk d + 1
  | (_, d) => uptoBulk d + 1
 end
def uptoSmall : (H : Type) → List (DataW H) → Bool := fun _ ds => decide (uptoBulkAll ds ≤ 1048576)
def OpenSpec.upto (s : _root_.Go.ChangeSpec) : _root_.Go.OpenSpec := { _root_.Go.OpenSpec.ofChange s with cond := some uptoSmall }

/-- 'laws.FnBindUnhex', WHERE WHAT IT READS IS OF BULK AT MOST 1048576: true; the input reads as it did. -/
def fnBindUnhexUptoRow : OpenClaim := { program := "ytfpnhlfmnoikhabdoor", sum := "4b0e9991b6d3af11a9d9c6a6d01bf33965c881433a40224a06c1bc80edd6d8fa", func := "pub-gunnysack/laws.FnBindUnhex", spec := "fnBindUnhex", named := ["pub-gunnysack/pub/bson.NilObjectID", "pub-gunnysack/pub/bson.ErrInvalidHex", "encoding/hex.ErrLength"], apart := false, laid := [("encoding/hex.ErrLength", laid_encoding_hex_ErrLength), ("pub-gunnysack/pub/bson.ErrInvalidHex", laid_pub_gunnysack_pub_bson_ErrInvalidHex), ("pub-gunnysack/pub/bson.NilObjectID", laid_pub_gunnysack_pub_bson_NilObjectID)], narrowed := true }
def FnBindUnhexUptoSaid : Prop := fnBindUnhexUptoRow.holds Tryd.pinned (OpenSpec.upto fnBindUnhexSpec)

/-- 'laws.FnExtPointers', WHERE WHAT IT READS IS OF BULK AT MOST 1048576: true; the input reads as it did. -/
def fnExtPointersUptoRow : OpenClaim := { program := "ytfpnhlfmnoikhabdoor", sum := "4b0e9991b6d3af11a9d9c6a6d01bf33965c881433a40224a06c1bc80edd6d8fa", func := "pub-gunnysack/laws.FnExtPointers", spec := "fnExtPointers", named := ["pub-gunnysack/pub/bson.NilObjectID", "pub-gunnysack/pub/bson.ErrInvalidHex", "encoding/hex.ErrLength"], apart := false, laid := [("encoding/hex.ErrLength", laid_encoding_hex_ErrLength), ("pub-gunnysack/pub/bson.ErrInvalidHex", laid_pub_gunnysack_pub_bson_ErrInvalidHex), ("pub-gunnysack/pub/bson.NilObjectID", laid_pub_gunnysack_pub_bson_NilObjectID)], narrowed := true }
def FnExtPointersUptoSaid : Prop := fnExtPointersUptoRow.holds Tryd.pinned (OpenSpec.upto fnExtPointersSpec)

end Rows
end Go.Proofs.YtfpnhlfmnoikhabDoor
