/-
  DERIVED. GIVEN WITH THE SEED: THE PROGRAM's TIES (one call each: nine closed facts by the kernel) AND EACH ROW's TIE, after the 31st guide's Derived/Test/Toyas{Tie, Card}.lean. No idea stands in it: it is a product of the set-up. Laid BY PROGRAM, IN A SANDBOX (cutbox-door.mjs). By AI agents, Wed Nov 11 2026. No macro, syntax, notation, axiom, sorry.
-/
import Derived.Test.YtdmnogjgifapnaaDoorRows
import Derived.LaidByTextLater
import Derived.SevenTiedAt
import Derived.LaidSub
import Derived.LaidOnce
namespace Go.Proofs.YtdmnogjgifapnaaDoor
open Go
set_option maxRecDepth 100000
theorem seatTie1 : Tryd.prog.laidByTextLater [("math/bits.deBruijn32tab", Rows.laid_math_bits_deBruijn32tab), ("math/bits.deBruijn64tab", Rows.laid_math_bits_deBruijn64tab), ("internal/strconv.uint64pow10", Rows.laid_internal_strconv_uint64pow10), ("strconv.ErrRange", Rows.laid_strconv_ErrRange), ("strconv.ErrSyntax", Rows.laid_strconv_ErrSyntax), ("io.ErrShortBuffer", Rows.laid_io_ErrShortBuffer), ("io.EOF", Rows.laid_io_EOF), ("io.ErrUnexpectedEOF", Rows.laid_io_ErrUnexpectedEOF), ("pub-gunnysack/pub/bsoncore.ErrNilReader", Rows.laid_pub_gunnysack_pub_bsoncore_ErrNilReader), ("pub-gunnysack/pub/bsoncore.ErrEmptyKey", Rows.laid_pub_gunnysack_pub_bsoncore_ErrEmptyKey), ("pub-gunnysack/pub/bsoncore.ErrElementNotFound", Rows.laid_pub_gunnysack_pub_bsoncore_ErrElementNotFound), ("pub-gunnysack/pub/bsoncore.ErrOutOfBounds", Rows.laid_pub_gunnysack_pub_bsoncore_ErrOutOfBounds)] [.data, .data, .data, .sentinel, .sentinel, .sentinel, .sentinel, .sentinel, .sentinel, .sentinel, .sentinel, .sentinel] true :=
  Program.laidByTextLater_by_one 195 8 65 (by kernel_rfl) (by kernel_rfl) (by kernel_rfl) (by kernel_rfl) (by kernel_rfl) (by kernel_rfl) (fun _ _ => by kernel_rfl)
theorem noOwnUnsafe : Tryd.pinned.checked.prog.headLifts.contains "ownunsafe" = false := by kernel_rfl
theorem tie : Tryd.prog.laidByTextLater [("math/bits.deBruijn32tab", Rows.laid_math_bits_deBruijn32tab), ("math/bits.deBruijn64tab", Rows.laid_math_bits_deBruijn64tab), ("internal/strconv.uint64pow10", Rows.laid_internal_strconv_uint64pow10), ("strconv.ErrRange", Rows.laid_strconv_ErrRange), ("strconv.ErrSyntax", Rows.laid_strconv_ErrSyntax)] [.data, .data, .data, .sentinel, .sentinel] true :=
  Program.laidByTextLater.sub seatTie1 ["math/bits.deBruijn32tab", "math/bits.deBruijn64tab", "internal/strconv.uint64pow10", "strconv.ErrRange", "strconv.ErrSyntax"] (by kernel_rfl) (by kernel_rfl)
theorem fnExtBinaries_row_tie : Rows.fnExtBinariesRow.laidByTextAt .later Tryd.pinned [.data, .data, .data, .sentinel, .sentinel] true :=
  OpenClaim.laidByTextAt_later rfl rfl tie noOwnUnsafe
theorem tie2 : Tryd.prog.laidByTextLater [("io.EOF", Rows.laid_io_EOF), ("pub-gunnysack/pub/bsoncore.ErrEmptyKey", Rows.laid_pub_gunnysack_pub_bsoncore_ErrEmptyKey), ("pub-gunnysack/pub/bsoncore.ErrElementNotFound", Rows.laid_pub_gunnysack_pub_bsoncore_ErrElementNotFound), ("pub-gunnysack/pub/bsoncore.ErrOutOfBounds", Rows.laid_pub_gunnysack_pub_bsoncore_ErrOutOfBounds)] [.sentinel, .sentinel, .sentinel, .sentinel] true :=
  Program.laidByTextLater.sub seatTie1 ["io.EOF", "pub-gunnysack/pub/bsoncore.ErrEmptyKey", "pub-gunnysack/pub/bsoncore.ErrElementNotFound", "pub-gunnysack/pub/bsoncore.ErrOutOfBounds"] (by kernel_rfl) (by kernel_rfl)
theorem fnBindElement_row_tie : Rows.fnBindElementRow.laidByTextAt .later Tryd.pinned [.sentinel, .sentinel, .sentinel, .sentinel] true :=
  OpenClaim.laidByTextAt_later rfl rfl tie2 noOwnUnsafe
theorem fnBindLayersElement_row_tie : Rows.fnBindLayersElementRow.laidByTextAt .later Tryd.pinned [.sentinel, .sentinel, .sentinel, .sentinel] true :=
  OpenClaim.laidByTextAt_later rfl rfl tie2 noOwnUnsafe
theorem tie3 : Tryd.prog.laidByTextLater [("io.ErrShortBuffer", Rows.laid_io_ErrShortBuffer), ("io.EOF", Rows.laid_io_EOF), ("io.ErrUnexpectedEOF", Rows.laid_io_ErrUnexpectedEOF), ("pub-gunnysack/pub/bsoncore.ErrNilReader", Rows.laid_pub_gunnysack_pub_bsoncore_ErrNilReader), ("pub-gunnysack/pub/bsoncore.ErrEmptyKey", Rows.laid_pub_gunnysack_pub_bsoncore_ErrEmptyKey), ("pub-gunnysack/pub/bsoncore.ErrElementNotFound", Rows.laid_pub_gunnysack_pub_bsoncore_ErrElementNotFound), ("pub-gunnysack/pub/bsoncore.ErrOutOfBounds", Rows.laid_pub_gunnysack_pub_bsoncore_ErrOutOfBounds)] [.sentinel, .sentinel, .sentinel, .sentinel, .sentinel, .sentinel, .sentinel] true :=
  Program.laidByTextLater.sub seatTie1 ["io.ErrShortBuffer", "io.EOF", "io.ErrUnexpectedEOF", "pub-gunnysack/pub/bsoncore.ErrNilReader", "pub-gunnysack/pub/bsoncore.ErrEmptyKey", "pub-gunnysack/pub/bsoncore.ErrElementNotFound", "pub-gunnysack/pub/bsoncore.ErrOutOfBounds"] (by kernel_rfl) (by kernel_rfl)
theorem fnBindMore_row_tie : Rows.fnBindMoreRow.laidByTextAt .later Tryd.pinned [.sentinel, .sentinel, .sentinel, .sentinel, .sentinel, .sentinel, .sentinel] true :=
  OpenClaim.laidByTextAt_later rfl rfl tie3 noOwnUnsafe
theorem fnExtBinariesUpto_row_tie : Rows.fnExtBinariesUptoRow.laidByTextAt .later Tryd.pinned [.data, .data, .data, .sentinel, .sentinel] true :=
  OpenClaim.laidByTextAt_later rfl rfl tie noOwnUnsafe
theorem fnBindElementUpto_row_tie : Rows.fnBindElementUptoRow.laidByTextAt .later Tryd.pinned [.sentinel, .sentinel, .sentinel, .sentinel] true :=
  OpenClaim.laidByTextAt_later rfl rfl tie2 noOwnUnsafe
theorem fnBindMoreUpto_row_tie : Rows.fnBindMoreUptoRow.laidByTextAt .later Tryd.pinned [.sentinel, .sentinel, .sentinel, .sentinel, .sentinel, .sentinel, .sentinel] true :=
  OpenClaim.laidByTextAt_later rfl rfl tie3 noOwnUnsafe
theorem fnBindLayersElementUpto_row_tie : Rows.fnBindLayersElementUptoRow.laidByTextAt .later Tryd.pinned [.sentinel, .sentinel, .sentinel, .sentinel] true :=
  OpenClaim.laidByTextAt_later rfl rfl tie2 noOwnUnsafe
end Go.Proofs.YtdmnogjgifapnaaDoor
