/-
  DERIVED. GIVEN WITH THE SEED: THE PROGRAM's TIES (one call each: nine closed facts by the kernel) AND EACH ROW's TIE, after the 31st guide's Derived/Test/Toyas{Tie, Card}.lean. No idea stands in it: it is a product of the set-up. Laid BY PROGRAM, IN A SANDBOX (cutbox-door.mjs). By AI agents, Wed Nov 11 2026. No macro, syntax, notation, axiom, sorry.
-/
import Derived.Test.YtpmbbampkedecaaDoorRows
import Derived.LaidByTextLater
import Derived.SevenTiedAt
import Derived.LaidSub
import Derived.LaidOnce
namespace Go.Proofs.YtpmbbampkedecaaDoor
open Go
set_option maxRecDepth 100000
theorem seatTie1 : Tryd.prog.laidByTextLater [("jpegcodec/spec.zigzag", Rows.laid_jpegcodec_spec_zigzag), ("jpegcodec/pub/jpeg.unzig", Rows.laid_jpegcodec_pub_jpeg_unzig)] [.data, .data] true :=
  Program.laidByTextLater_by_one 19 8 65 (by kernel_rfl) (by kernel_rfl) (by kernel_rfl) (by kernel_rfl) (by kernel_rfl) (by kernel_rfl) (fun _ _ => by kernel_rfl)
theorem noOwnUnsafe : Tryd.pinned.checked.prog.headLifts.contains "ownunsafe" = false := by kernel_rfl
theorem tie : Tryd.prog.laidByTextLater [("jpegcodec/spec.zigzag", Rows.laid_jpegcodec_spec_zigzag), ("jpegcodec/pub/jpeg.unzig", Rows.laid_jpegcodec_pub_jpeg_unzig)] [.data, .data] true :=
  Program.laidByTextLater.sub seatTie1 ["jpegcodec/spec.zigzag", "jpegcodec/pub/jpeg.unzig"] (by kernel_rfl) (by kernel_rfl)
theorem fnZigZag_row_tie : Rows.fnZigZagRow.laidByTextAt .later Tryd.pinned [.data, .data] true :=
  OpenClaim.laidByTextAt_later rfl rfl tie noOwnUnsafe
theorem fnZigZagUpto_row_tie : Rows.fnZigZagUptoRow.laidByTextAt .later Tryd.pinned [.data, .data] true :=
  OpenClaim.laidByTextAt_later rfl rfl tie noOwnUnsafe
end Go.Proofs.YtpmbbampkedecaaDoor
