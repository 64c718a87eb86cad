/-
  DERIVED. GIVEN WITH THE SEED: THE PROGRAM's TIES (one call each: nine closed facts by the kernel) AND EACH ROW's TIE, after the 31st guide's Derived/Test/Toyas{Tie, Card}.lean. No idea stands in it: it is a product of the set-up. Laid BY PROGRAM, IN A SANDBOX (cutbox-door.mjs). By AI agents, Wed Nov 11 2026. No macro, syntax, notation, axiom, sorry.
-/
import Derived.Test.YtghjlekdibcjdaaGreatDoorRows
import Derived.LaidByTextLater
import Derived.SevenTiedAt
import Derived.LaidSub
import Derived.LaidOnce
namespace Go.Proofs.YtghjlekdibcjdaaGreatDoor
open Go
set_option maxRecDepth 100000
theorem seatTie1 : Tryz.prog.laidByTextLater [("errors.errorType", Rows.laid_errors_errorType), ("jpegcodec/pub/jpeg.unzig", Rows.laid_jpegcodec_pub_jpeg_unzig), ("jpegcodec/pub/jpeg.bitCount", Rows.laid_jpegcodec_pub_jpeg_bitCount), ("jpegcodec/pub/jpeg.unscaledQuant", Rows.laid_jpegcodec_pub_jpeg_unscaledQuant)] [.handle, .data, .data, .data] true :=
  Program.laidByTextLater_by_one 62 8 257 (by kernel_rfl) (by kernel_rfl) (by kernel_rfl) (by kernel_rfl) (by kernel_rfl) (by kernel_rfl) (fun _ _ => by kernel_rfl)
theorem noOwnUnsafe : Tryz.pinned.checked.prog.headLifts.contains "ownunsafe" = false := by kernel_rfl
theorem tie : Tryz.prog.laidByTextLater [("errors.errorType", Rows.laid_errors_errorType), ("jpegcodec/pub/jpeg.unzig", Rows.laid_jpegcodec_pub_jpeg_unzig), ("jpegcodec/pub/jpeg.bitCount", Rows.laid_jpegcodec_pub_jpeg_bitCount), ("jpegcodec/pub/jpeg.unscaledQuant", Rows.laid_jpegcodec_pub_jpeg_unscaledQuant)] [.handle, .data, .data, .data] true :=
  Program.laidByTextLater.sub seatTie1 ["errors.errorType", "jpegcodec/pub/jpeg.unzig", "jpegcodec/pub/jpeg.bitCount", "jpegcodec/pub/jpeg.unscaledQuant"] (by kernel_rfl) (by kernel_rfl)
theorem fnQualityLimits_row_tie : Rows.fnQualityLimitsRow.laidByTextAt .later Tryz.pinned [.handle, .data, .data, .data] true :=
  OpenClaim.laidByTextAt_later rfl rfl tie noOwnUnsafe
theorem fnWriterFails_row_tie : Rows.fnWriterFailsRow.laidByTextAt .later Tryz.pinned [.handle, .data, .data, .data] true :=
  OpenClaim.laidByTextAt_later rfl rfl tie noOwnUnsafe
theorem fnOpaque_row_tie : Rows.fnOpaqueRow.laidByTextAt .later Tryz.pinned [.handle, .data, .data, .data] true :=
  OpenClaim.laidByTextAt_later rfl rfl tie noOwnUnsafe
theorem fnPlaced_row_tie : Rows.fnPlacedRow.laidByTextAt .later Tryz.pinned [.handle, .data, .data, .data] true :=
  OpenClaim.laidByTextAt_later rfl rfl tie noOwnUnsafe
theorem fnTooLarge_row_tie : Rows.fnTooLargeRow.laidByTextAt .later Tryz.pinned [.handle, .data, .data, .data] true :=
  OpenClaim.laidByTextAt_later rfl rfl tie noOwnUnsafe
theorem fnTwoRoads_row_tie : Rows.fnTwoRoadsRow.laidByTextAt .later Tryz.pinned [.handle, .data, .data, .data] true :=
  OpenClaim.laidByTextAt_later rfl rfl tie noOwnUnsafe
theorem fnQualityLimitsUpto_row_tie : Rows.fnQualityLimitsUptoRow.laidByTextAt .later Tryz.pinned [.handle, .data, .data, .data] true :=
  OpenClaim.laidByTextAt_later rfl rfl tie noOwnUnsafe
theorem fnWriterFailsUpto_row_tie : Rows.fnWriterFailsUptoRow.laidByTextAt .later Tryz.pinned [.handle, .data, .data, .data] true :=
  OpenClaim.laidByTextAt_later rfl rfl tie noOwnUnsafe
theorem fnOpaqueUpto_row_tie : Rows.fnOpaqueUptoRow.laidByTextAt .later Tryz.pinned [.handle, .data, .data, .data] true :=
  OpenClaim.laidByTextAt_later rfl rfl tie noOwnUnsafe
theorem fnPlacedUpto_row_tie : Rows.fnPlacedUptoRow.laidByTextAt .later Tryz.pinned [.handle, .data, .data, .data] true :=
  OpenClaim.laidByTextAt_later rfl rfl tie noOwnUnsafe
theorem fnTooLargeUpto_row_tie : Rows.fnTooLargeUptoRow.laidByTextAt .later Tryz.pinned [.handle, .data, .data, .data] true :=
  OpenClaim.laidByTextAt_later rfl rfl tie noOwnUnsafe
theorem fnTwoRoadsUpto_row_tie : Rows.fnTwoRoadsUptoRow.laidByTextAt .later Tryz.pinned [.handle, .data, .data, .data] true :=
  OpenClaim.laidByTextAt_later rfl rfl tie noOwnUnsafe
end Go.Proofs.YtghjlekdibcjdaaGreatDoor
