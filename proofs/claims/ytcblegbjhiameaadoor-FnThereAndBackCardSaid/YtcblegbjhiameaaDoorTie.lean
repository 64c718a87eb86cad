/-
  DERIVED. GIVEN WITH THE SEED: THE PROGRAM's TIES (one call each: nine closed facts by the kernel) AND EACH ROW's TIE, after the 31st guide's Derived/Test/Toyas{Tie, Card}.lean. No idea stands in it: it is a product of the set-up. Laid BY PROGRAM, IN A SANDBOX (cutbox-door.mjs). By AI agents, Wed Nov 11 2026. No macro, syntax, notation, axiom, sorry.
-/
import Derived.Test.YtcblegbjhiameaaDoorRows
import Derived.LaidByTextLater
import Derived.SevenTiedAt
import Derived.LaidSub
import Derived.LaidOnce
namespace Go.Proofs.YtcblegbjhiameaaDoor
open Go
set_option maxRecDepth 100000
theorem seatTie1 : Tryd.prog.laidByTextLater [("jpegcodec/spec.basis", Rows.laid_jpegcodec_spec_basis), ("jpegcodec/spec.zigzag", Rows.laid_jpegcodec_spec_zigzag)] [.data, .data] true :=
  Program.laidByTextLater_by_one 27 8 65 (by kernel_rfl) (by kernel_rfl) (by kernel_rfl) (by kernel_rfl) (by kernel_rfl) (by kernel_rfl) (fun _ _ => by kernel_rfl)
theorem noOwnUnsafe : Tryd.pinned.checked.prog.headLifts.contains "ownunsafe" = false := by kernel_rfl
theorem tie : Tryd.prog.laidByTextLater [("jpegcodec/spec.basis", Rows.laid_jpegcodec_spec_basis), ("jpegcodec/spec.zigzag", Rows.laid_jpegcodec_spec_zigzag)] [.data, .data] true :=
  Program.laidByTextLater.sub seatTie1 ["jpegcodec/spec.basis", "jpegcodec/spec.zigzag"] (by kernel_rfl) (by kernel_rfl)
theorem fnForward_row_tie : Rows.fnForwardRow.laidByTextAt .later Tryd.pinned [.data, .data] true :=
  OpenClaim.laidByTextAt_later rfl rfl tie noOwnUnsafe
theorem fnInverse_row_tie : Rows.fnInverseRow.laidByTextAt .later Tryd.pinned [.data, .data] true :=
  OpenClaim.laidByTextAt_later rfl rfl tie noOwnUnsafe
theorem fnInverseHalves_row_tie : Rows.fnInverseHalvesRow.laidByTextAt .later Tryd.pinned [.data, .data] true :=
  OpenClaim.laidByTextAt_later rfl rfl tie noOwnUnsafe
theorem fnThereAndBack_row_tie : Rows.fnThereAndBackRow.laidByTextAt .later Tryd.pinned [.data, .data] true :=
  OpenClaim.laidByTextAt_later rfl rfl tie noOwnUnsafe
theorem fnForwardUpto_row_tie : Rows.fnForwardUptoRow.laidByTextAt .later Tryd.pinned [.data, .data] true :=
  OpenClaim.laidByTextAt_later rfl rfl tie noOwnUnsafe
theorem fnInverseUpto_row_tie : Rows.fnInverseUptoRow.laidByTextAt .later Tryd.pinned [.data, .data] true :=
  OpenClaim.laidByTextAt_later rfl rfl tie noOwnUnsafe
theorem fnInverseHalvesUpto_row_tie : Rows.fnInverseHalvesUptoRow.laidByTextAt .later Tryd.pinned [.data, .data] true :=
  OpenClaim.laidByTextAt_later rfl rfl tie noOwnUnsafe
theorem fnThereAndBackUpto_row_tie : Rows.fnThereAndBackUptoRow.laidByTextAt .later Tryd.pinned [.data, .data] true :=
  OpenClaim.laidByTextAt_later rfl rfl tie noOwnUnsafe
end Go.Proofs.YtcblegbjhiameaaDoor
