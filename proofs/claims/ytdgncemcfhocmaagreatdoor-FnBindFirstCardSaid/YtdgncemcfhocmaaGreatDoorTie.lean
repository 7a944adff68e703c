/-
  DERIVED. GIVEN WITH THE SEED: THE PROGRAM's TIES (one call each: nine closed facts by the kernel) AND EACH ROW's TIE, after the 31st guide's Derived/Test/Toyas{Tie, Card}.lean. No idea stands in it: it is a product of the set-up. Laid BY PROGRAM, IN A SANDBOX (cutbox-door.mjs). By AI agents, Wed Nov 11 2026. No macro, syntax, notation, axiom, sorry.
-/
import Derived.Test.YtdgncemcfhocmaaGreatDoorRows
import Derived.LaidByTextLater
import Derived.SevenTiedAt
import Derived.LaidSub
import Derived.LaidOnce
namespace Go.Proofs.YtdgncemcfhocmaaGreatDoor
open Go
set_option maxRecDepth 100000
theorem seatTie1 : Tryz.prog.laidByTextLater [("math/bits.deBruijn32tab", Rows.laid_math_bits_deBruijn32tab), ("math/bits.deBruijn64tab", Rows.laid_math_bits_deBruijn64tab), ("internal/strconv.uint64pow10", Rows.laid_internal_strconv_uint64pow10), ("pub-gunnysack/pub/bson.maxSize", Rows.laid_pub_gunnysack_pub_bson_maxSize), ("pub-gunnysack/impl.errKids", Rows.laid_pub_gunnysack_impl_errKids)] [.data, .data, .data, .data, .sentinel] true :=
  Program.laidByTextLater_by_one 66 8 65 (by kernel_rfl) (by kernel_rfl) (by kernel_rfl) (by kernel_rfl) (by kernel_rfl) (by kernel_rfl) (fun _ _ => by kernel_rfl)
theorem noOwnUnsafe : Tryz.pinned.checked.prog.headLifts.contains "ownunsafe" = false := by kernel_rfl
theorem tie : Tryz.prog.laidByTextLater [("math/bits.deBruijn32tab", Rows.laid_math_bits_deBruijn32tab), ("math/bits.deBruijn64tab", Rows.laid_math_bits_deBruijn64tab), ("internal/strconv.uint64pow10", Rows.laid_internal_strconv_uint64pow10), ("pub-gunnysack/pub/bson.maxSize", Rows.laid_pub_gunnysack_pub_bson_maxSize), ("pub-gunnysack/impl.errKids", Rows.laid_pub_gunnysack_impl_errKids)] [.data, .data, .data, .data, .sentinel] true :=
  Program.laidByTextLater.sub seatTie1 ["math/bits.deBruijn32tab", "math/bits.deBruijn64tab", "internal/strconv.uint64pow10", "pub-gunnysack/pub/bson.maxSize", "pub-gunnysack/impl.errKids"] (by kernel_rfl) (by kernel_rfl)
theorem fnBindFirst_row_tie : Rows.fnBindFirstRow.laidByTextAt .later Tryz.pinned [.data, .data, .data, .data, .sentinel] true :=
  OpenClaim.laidByTextAt_later rfl rfl tie noOwnUnsafe
theorem fnBindWhole_row_tie : Rows.fnBindWholeRow.laidByTextAt .later Tryz.pinned [.data, .data, .data, .data, .sentinel] true :=
  OpenClaim.laidByTextAt_later rfl rfl tie noOwnUnsafe
theorem fnBindWrite_row_tie : Rows.fnBindWriteRow.laidByTextAt .later Tryz.pinned [.data, .data, .data, .data, .sentinel] true :=
  OpenClaim.laidByTextAt_later rfl rfl tie noOwnUnsafe
theorem fnBindFirstUpto_row_tie : Rows.fnBindFirstUptoRow.laidByTextAt .later Tryz.pinned [.data, .data, .data, .data, .sentinel] true :=
  OpenClaim.laidByTextAt_later rfl rfl tie noOwnUnsafe
theorem fnBindWholeUpto_row_tie : Rows.fnBindWholeUptoRow.laidByTextAt .later Tryz.pinned [.data, .data, .data, .data, .sentinel] true :=
  OpenClaim.laidByTextAt_later rfl rfl tie noOwnUnsafe
theorem fnBindWriteUpto_row_tie : Rows.fnBindWriteUptoRow.laidByTextAt .later Tryz.pinned [.data, .data, .data, .data, .sentinel] true :=
  OpenClaim.laidByTextAt_later rfl rfl tie noOwnUnsafe
end Go.Proofs.YtdgncemcfhocmaaGreatDoor
