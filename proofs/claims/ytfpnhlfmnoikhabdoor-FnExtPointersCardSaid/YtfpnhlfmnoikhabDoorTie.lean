/-
  DERIVED. GIVEN WITH THE SEED: THE PROGRAM's TIES (one call each: nine closed facts by the kernel) AND EACH ROW's TIE, after the 31st guide's Derived/Test/Toyas{Tie, Card}.lean. No idea stands in it: it is a product of the set-up. Laid BY PROGRAM, IN A SANDBOX (cutbox-door.mjs). By AI agents, Wed Nov 11 2026. No macro, syntax, notation, axiom, sorry.
-/
import Derived.Test.YtfpnhlfmnoikhabDoorRows
import Derived.LaidByTextLater
import Derived.SevenTiedAt
import Derived.LaidSub
import Derived.LaidOnce
namespace Go.Proofs.YtfpnhlfmnoikhabDoor
open Go
set_option maxRecDepth 100000
theorem seatTie1 : Tryd.prog.laidByTextLater [("encoding/hex.ErrLength", Rows.laid_encoding_hex_ErrLength), ("pub-gunnysack/pub/bson.ErrInvalidHex", Rows.laid_pub_gunnysack_pub_bson_ErrInvalidHex), ("pub-gunnysack/pub/bson.NilObjectID", Rows.laid_pub_gunnysack_pub_bson_NilObjectID)] [.sentinel, .sentinel, .data] true :=
  Program.laidByTextLater_by_one 52 8 13 (by kernel_rfl) (by kernel_rfl) (by kernel_rfl) (by kernel_rfl) (by kernel_rfl) (by kernel_rfl) (fun _ _ => by kernel_rfl)
theorem noOwnUnsafe : Tryd.pinned.checked.prog.headLifts.contains "ownunsafe" = false := by kernel_rfl
theorem tie : Tryd.prog.laidByTextLater [("encoding/hex.ErrLength", Rows.laid_encoding_hex_ErrLength), ("pub-gunnysack/pub/bson.ErrInvalidHex", Rows.laid_pub_gunnysack_pub_bson_ErrInvalidHex), ("pub-gunnysack/pub/bson.NilObjectID", Rows.laid_pub_gunnysack_pub_bson_NilObjectID)] [.sentinel, .sentinel, .data] true :=
  Program.laidByTextLater.sub seatTie1 ["encoding/hex.ErrLength", "pub-gunnysack/pub/bson.ErrInvalidHex", "pub-gunnysack/pub/bson.NilObjectID"] (by kernel_rfl) (by kernel_rfl)
theorem fnBindUnhex_row_tie : Rows.fnBindUnhexRow.laidByTextAt .later Tryd.pinned [.sentinel, .sentinel, .data] true :=
  OpenClaim.laidByTextAt_later rfl rfl tie noOwnUnsafe
theorem fnExtPointers_row_tie : Rows.fnExtPointersRow.laidByTextAt .later Tryd.pinned [.sentinel, .sentinel, .data] true :=
  OpenClaim.laidByTextAt_later rfl rfl tie noOwnUnsafe
theorem fnBindUnhexUpto_row_tie : Rows.fnBindUnhexUptoRow.laidByTextAt .later Tryd.pinned [.sentinel, .sentinel, .data] true :=
  OpenClaim.laidByTextAt_later rfl rfl tie noOwnUnsafe
theorem fnExtPointersUpto_row_tie : Rows.fnExtPointersUptoRow.laidByTextAt .later Tryd.pinned [.sentinel, .sentinel, .data] true :=
  OpenClaim.laidByTextAt_later rfl rfl tie noOwnUnsafe
end Go.Proofs.YtfpnhlfmnoikhabDoor
