/- The listed variables, read out of a row's condition. -/
import Derived.Test.YtghjlekdibcjdaaGreatDoorRows
import Derived.LaidMore
import Derived.LaidHandle
import Derived.Lib.LaidTab
import Derived.OpenShut
import Derived.Stop.Joined
import Derived.WalkKit
import Derived.ProofKit
import Derived.SevenTiedAt
namespace Go.Proofs.YtghjlekdibcjdaaGreatDoor
open Go Go.ChangeShapes Go.WideShapes Go.ChangeAt Go.RowKit
/-- The four listed variables. -/
abbrev fourLaid {H : Type} : List (String × DataW H) := [("errors.errorType", Rows.laid_errors_errorType), ("jpegcodec/pub/jpeg.unzig", Rows.laid_jpegcodec_pub_jpeg_unzig), ("jpegcodec/pub/jpeg.bitCount", Rows.laid_jpegcodec_pub_jpeg_bitCount), ("jpegcodec/pub/jpeg.unscaledQuant", Rows.laid_jpegcodec_pub_jpeg_unscaledQuant)]
theorem gErr : Tryz.prog.globalNamed "errors.errorType" = some 1 := by kernel_rfl
theorem rtN : (Tryz.prog.cutTypes.find? (·.1 == "internal/reflectlite.rtype")).map (·.2) = some 180 := by kernel_rfl
theorem tySize : Tryz.prog.types.size = 245 := by kernel_rfl
theorem oneRow : ((List.range 245).filter fun t => Tryz.prog.rowNamed t [101, 114, 114, 111, 114]) = [69] := by kernel_rfl
theorem handle_of_laid {W : World} (h : laidMetH Tryz.prog fourLaid W) : W.cell? ⟨1, 0, none⟩ = some (.iface 180 (.agg #[.pointer (some ⟨7, 69, none⟩)])) := by
  obtain ⟨name, u, ty, e1, e2, e3, e4, e5⟩ := h.2 _ (List.mem_cons_self ..)
  have en : name = [101, 114, 114, 111, 114] := (Option.some.inj e1).symm
  subst en
  obtain rfl := Option.some.inj (rtN.symm.trans e2)
  have hm : ty ∈ (List.range 245).filter fun t => Tryz.prog.rowNamed t [101, 114, 114, 111, 114] := List.mem_filter.2 ⟨List.mem_range.2 (by rw [← tySize]; exact e3), e4⟩
  rw [oneRow] at hm
  obtain rfl := List.mem_singleton.1 hm
  have hh : typeHandle Tryz.prog 69 = .pointer (some ⟨7, 69, none⟩) := by kernel_rfl
  rw [hh] at e5
  simpa using World.var?_cell gErr e5 0
/-- The start that the listed variables' own statements leave meets the condition. -/
theorem door_met (os : Os) (args : Array Value) : laidMetH Tryz.prog fourLaid ((World.doorLaid Tryz.prog 400 os).forCall (fun _ _ => 0) ⟨#[], args, []⟩).memory :=
  laidMetH_of_parts3 (fuel := 8) (laidMet_of_run' 8 (by kernel_rfl) (by kernel_rfl)) (by kernel_rfl) (by kernel_rfl)
end Go.Proofs.YtghjlekdibcjdaaGreatDoor
