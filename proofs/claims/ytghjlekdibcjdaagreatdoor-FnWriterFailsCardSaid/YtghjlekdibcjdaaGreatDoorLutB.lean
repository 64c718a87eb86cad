/- The contract of newLUT. -/
import Derived.Test.YtghjlekdibcjdaaGreatDoorLutA
import Derived.StillTailTactics
namespace Go.Proofs.YtghjlekdibcjdaaGreatDoor
open Go.Deep Go.RowKit
set_option linter.unusedVariables false
theorem good_small0 : ∀ h, h < 4 → ∀ i, i < 16 → ∀ j, j < cntN h i → cd (cntN h) i + j < 2 ^ (i + 1) - 1 := by decide +kernel
theorem good_all : ∀ h, h < 4 → cnt (cntN h) 16 = valLen h ∧ 0 < valLen h := by decide +kernel
theorem good_spec (h : Nat) (hh : h < 4) : Good (cntN h) (valLen h) := ⟨(good_all h hh).1, (good_all h hh).2, good_small0 h hh⟩
theorem cnt_255 : ∀ h, h < 4 → ∀ i, i < 16 → cntN h i ≤ 255 := by decide +kernel
theorem greatest_lut : ∀ h, h < 4 → greatest (valN h) (valLen h) + 1 = lutLen h := by decide +kernel
theorem val_255 : ∀ h, h < 4 → ∀ i, i < valLen h → valN h i ≤ 255 := by decide +kernel
theorem tab_lut : ∀ h, h < 4 → ∀ i, i < lutLen h → (tab (cntN h) (valN h) 16 i).1 * 16777216 + (tab (cntN h) (valN h) 16 i).2 = lutN h i := by decide +kernel
end Go.Proofs.YtghjlekdibcjdaaGreatDoor
