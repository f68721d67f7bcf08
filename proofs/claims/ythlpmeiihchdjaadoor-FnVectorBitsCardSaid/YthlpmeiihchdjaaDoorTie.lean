/-
  DERIVED. GIVEN WITH THE SEED: THE PROGRAM's TIES (one call each: nine closed facts by the kernel) AND EACH ROW's TIE, after the 31st guide's Derived/Test/Toyas{Tie, Card}.lean. No idea stands in it: it is a product of the set-up. Laid BY PROGRAM, IN A SANDBOX (cutbox-door.mjs). By AI agents, Wed Nov 11 2026. No macro, syntax, notation, axiom, sorry.
-/
import Derived.Test.YthlpmeiihchdjaaDoorRows
import Derived.LaidByTextLater
import Derived.SevenTiedAt
import Derived.LaidSub
import Derived.LaidOnce
namespace Go.Proofs.YthlpmeiihchdjaaDoor
open Go
set_option maxRecDepth 100000
theorem seatTie1 : Tryd.prog.laidByTextLater [("encoding/hex.ErrLength", Rows.laid_encoding_hex_ErrLength), ("pub-gunnysack/pub/bson.ErrInvalidHex", Rows.laid_pub_gunnysack_pub_bson_ErrInvalidHex), ("pub-gunnysack/pub/bson.NilObjectID", Rows.laid_pub_gunnysack_pub_bson_NilObjectID), ("pub-gunnysack/pub/bson.errInsufficientVectorData", Rows.laid_pub_gunnysack_pub_bson_errInsufficientVectorData), ("pub-gunnysack/pub/bson.errNonZeroVectorPadding", Rows.laid_pub_gunnysack_pub_bson_errNonZeroVectorPadding), ("pub-gunnysack/pub/bson.errVectorPaddingTooLarge", Rows.laid_pub_gunnysack_pub_bson_errVectorPaddingTooLarge)] [.sentinel, .sentinel, .data, .sentinel, .sentinel, .sentinel] true :=
  Program.laidByTextLater_by_one 109 8 13 (by kernel_rfl) (by kernel_rfl) (by kernel_rfl) (by kernel_rfl) (by kernel_rfl) (by kernel_rfl) (fun _ _ => by kernel_rfl)
theorem noOwnUnsafe : Tryd.pinned.checked.prog.headLifts.contains "ownunsafe" = false := by kernel_rfl
theorem tie : Tryd.prog.laidByTextLater [("encoding/hex.ErrLength", Rows.laid_encoding_hex_ErrLength), ("pub-gunnysack/pub/bson.ErrInvalidHex", Rows.laid_pub_gunnysack_pub_bson_ErrInvalidHex), ("pub-gunnysack/pub/bson.NilObjectID", Rows.laid_pub_gunnysack_pub_bson_NilObjectID)] [.sentinel, .sentinel, .data] true :=
  Program.laidByTextLater.sub seatTie1 ["encoding/hex.ErrLength", "pub-gunnysack/pub/bson.ErrInvalidHex", "pub-gunnysack/pub/bson.NilObjectID"] (by kernel_rfl) (by kernel_rfl)
theorem fnExtIDs_row_tie : Rows.fnExtIDsRow.laidByTextAt .later Tryd.pinned [.sentinel, .sentinel, .data] true :=
  OpenClaim.laidByTextAt_later rfl rfl tie noOwnUnsafe
theorem fnBindID_row_tie : Rows.fnBindIDRow.laidByTextAt .later Tryd.pinned [.sentinel, .sentinel, .data] true :=
  OpenClaim.laidByTextAt_later rfl rfl tie noOwnUnsafe
theorem tie2 : Tryd.prog.laidByTextLater [("pub-gunnysack/pub/bson.errInsufficientVectorData", Rows.laid_pub_gunnysack_pub_bson_errInsufficientVectorData), ("pub-gunnysack/pub/bson.errNonZeroVectorPadding", Rows.laid_pub_gunnysack_pub_bson_errNonZeroVectorPadding), ("pub-gunnysack/pub/bson.errVectorPaddingTooLarge", Rows.laid_pub_gunnysack_pub_bson_errVectorPaddingTooLarge)] [.sentinel, .sentinel, .sentinel] true :=
  Program.laidByTextLater.sub seatTie1 ["pub-gunnysack/pub/bson.errInsufficientVectorData", "pub-gunnysack/pub/bson.errNonZeroVectorPadding", "pub-gunnysack/pub/bson.errVectorPaddingTooLarge"] (by kernel_rfl) (by kernel_rfl)
theorem fnVectorBits_row_tie : Rows.fnVectorBitsRow.laidByTextAt .later Tryd.pinned [.sentinel, .sentinel, .sentinel] true :=
  OpenClaim.laidByTextAt_later rfl rfl tie2 noOwnUnsafe
theorem fnExtIDsUpto_row_tie : Rows.fnExtIDsUptoRow.laidByTextAt .later Tryd.pinned [.sentinel, .sentinel, .data] true :=
  OpenClaim.laidByTextAt_later rfl rfl tie noOwnUnsafe
theorem fnBindIDUpto_row_tie : Rows.fnBindIDUptoRow.laidByTextAt .later Tryd.pinned [.sentinel, .sentinel, .data] true :=
  OpenClaim.laidByTextAt_later rfl rfl tie noOwnUnsafe
theorem fnVectorBitsUpto_row_tie : Rows.fnVectorBitsUptoRow.laidByTextAt .later Tryd.pinned [.sentinel, .sentinel, .sentinel] true :=
  OpenClaim.laidByTextAt_later rfl rfl tie2 noOwnUnsafe
end Go.Proofs.YthlpmeiihchdjaaDoor
