/-
  DERIVED. GIVEN WITH THE SEED: THE CARDS: each row of YtghjlekdibcjdaaGreatDoorRows.lean that lists a variable, with what it lists TIED to the program's text (the seventh form; the later family's looks); each row that meets fmt, with fmt's text TOLD by the authors' own Lean function (tested against real Go, not proved from fmt's source: count such statements apart). THE CARD IS WHAT COUNTS. Prove the row's statement (the work); the ties are given (YtghjlekdibcjdaaGreatDoorTie.lean); close each card by the builder's one call (the guide's Derived/Test/ToyasCard.lean, 'card_holds'). Laid BY PROGRAM, IN A SANDBOX (cutbox-door.mjs). By AI agents, Wed Nov 11 2026. No macro, syntax, notation, axiom, sorry.
-/
import Derived.Test.YtghjlekdibcjdaaGreatDoorRows
import GoSem.ClaimSeven
namespace Go.Proofs.YtghjlekdibcjdaaGreatDoor
namespace Rows

/-- THE TIED CARD OF 'laws.FnQualityLimits'. -/
def fnQualityLimitsCard : Claim7 := { stood := { row := fnQualityLimitsRow, standIns := [], harness := (true, "1ba88c322de6ea36b8a6d9e50d476de2dbbcbd9b294b25c336aade5bff5aeeb1"), looks := true }, kinds := [], alts := [], laidByText := true, laidKinds := [.handle, .data, .data, .data], laidTests := true, laidLooks := .later }
def FnQualityLimitsCardSaid : Prop := Claim7.holds Tryz.pinned (.plain (OpenSpec.ofChange fnQualityLimitsSpec)) fnQualityLimitsCard

/-- THE TIED CARD OF 'laws.FnWriterFails'. -/
def fnWriterFailsCard : Claim7 := { stood := { row := fnWriterFailsRow, standIns := [], harness := (true, "1ba88c322de6ea36b8a6d9e50d476de2dbbcbd9b294b25c336aade5bff5aeeb1"), looks := true }, kinds := [], alts := [], laidByText := true, laidKinds := [.handle, .data, .data, .data], laidTests := true, laidLooks := .later }
def FnWriterFailsCardSaid : Prop := Claim7.holds Tryz.pinned (.plain (OpenSpec.ofChange fnWriterFailsSpec)) fnWriterFailsCard

/-- THE TIED CARD OF 'laws.FnOpaque'. -/
def fnOpaqueCard : Claim7 := { stood := { row := fnOpaqueRow, standIns := [], harness := (true, "1ba88c322de6ea36b8a6d9e50d476de2dbbcbd9b294b25c336aade5bff5aeeb1"), looks := true }, kinds := [], alts := [], laidByText := true, laidKinds := [.handle, .data, .data, .data], laidTests := true, laidLooks := .later }
def FnOpaqueCardSaid : Prop := Claim7.holds Tryz.pinned (.plain (OpenSpec.ofChange fnOpaqueSpec)) fnOpaqueCard

/-- THE TIED CARD OF 'laws.FnPlaced'. -/
def fnPlacedCard : Claim7 := { stood := { row := fnPlacedRow, standIns := [], harness := (true, "1ba88c322de6ea36b8a6d9e50d476de2dbbcbd9b294b25c336aade5bff5aeeb1"), looks := true }, kinds := [], alts := [], laidByText := true, laidKinds := [.handle, .data, .data, .data], laidTests := true, laidLooks := .later }
def FnPlacedCardSaid : Prop := Claim7.holds Tryz.pinned (.plain (OpenSpec.ofChange fnPlacedSpec)) fnPlacedCard

/-- THE TIED CARD OF 'laws.FnTooLarge'. -/
def fnTooLargeCard : Claim7 := { stood := { row := fnTooLargeRow, standIns := [], harness := (true, "1ba88c322de6ea36b8a6d9e50d476de2dbbcbd9b294b25c336aade5bff5aeeb1"), looks := true }, kinds := [], alts := [], laidByText := true, laidKinds := [.handle, .data, .data, .data], laidTests := true, laidLooks := .later }
def FnTooLargeCardSaid : Prop := Claim7.holds Tryz.pinned (.plain (OpenSpec.ofChange fnTooLargeSpec)) fnTooLargeCard

/-- THE TIED CARD OF 'laws.FnTwoRoads'. -/
def fnTwoRoadsCard : Claim7 := { stood := { row := fnTwoRoadsRow, standIns := [], harness := (true, "1ba88c322de6ea36b8a6d9e50d476de2dbbcbd9b294b25c336aade5bff5aeeb1"), looks := true }, kinds := [], alts := [], laidByText := true, laidKinds := [.handle, .data, .data, .data], laidTests := true, laidLooks := .later }
def FnTwoRoadsCardSaid : Prop := Claim7.holds Tryz.pinned (.plain (OpenSpec.ofChange fnTwoRoadsSpec)) fnTwoRoadsCard

/-- THE SECOND FORM's CARD OF 'laws.FnQualityLimits'. -/
def fnQualityLimitsUptoCard : Claim7 := { stood := { row := fnQualityLimitsUptoRow, standIns := [], harness := (true, "1ba88c322de6ea36b8a6d9e50d476de2dbbcbd9b294b25c336aade5bff5aeeb1"), looks := true }, kinds := [], alts := [], laidByText := true, laidKinds := [.handle, .data, .data, .data], laidTests := true, laidLooks := .later }
def FnQualityLimitsUptoCardSaid : Prop := Claim7.holds Tryz.pinned (.plain (OpenSpec.upto fnQualityLimitsSpec)) fnQualityLimitsUptoCard

/-- THE SECOND FORM's CARD OF 'laws.FnWriterFails'. -/
def fnWriterFailsUptoCard : Claim7 := { stood := { row := fnWriterFailsUptoRow, standIns := [], harness := (true, "1ba88c322de6ea36b8a6d9e50d476de2dbbcbd9b294b25c336aade5bff5aeeb1"), looks := true }, kinds := [], alts := [], laidByText := true, laidKinds := [.handle, .data, .data, .data], laidTests := true, laidLooks := .later }
def FnWriterFailsUptoCardSaid : Prop := Claim7.holds Tryz.pinned (.plain (OpenSpec.upto fnWriterFailsSpec)) fnWriterFailsUptoCard

/-- THE SECOND FORM's CARD OF 'laws.FnOpaque'. -/
def fnOpaqueUptoCard : Claim7 := { stood := { row := fnOpaqueUptoRow, standIns := [], harness := (true, "1ba88c322de6ea36b8a6d9e50d476de2dbbcbd9b294b25c336aade5bff5aeeb1"), looks := true }, kinds := [], alts := [], laidByText := true, laidKinds := [.handle, .data, .data, .data], laidTests := true, laidLooks := .later }
def FnOpaqueUptoCardSaid : Prop := Claim7.holds Tryz.pinned (.plain (OpenSpec.upto fnOpaqueSpec)) fnOpaqueUptoCard

/-- THE SECOND FORM's CARD OF 'laws.FnPlaced'. -/
def fnPlacedUptoCard : Claim7 := { stood := { row := fnPlacedUptoRow, standIns := [], harness := (true, "1ba88c322de6ea36b8a6d9e50d476de2dbbcbd9b294b25c336aade5bff5aeeb1"), looks := true }, kinds := [], alts := [], laidByText := true, laidKinds := [.handle, .data, .data, .data], laidTests := true, laidLooks := .later }
def FnPlacedUptoCardSaid : Prop := Claim7.holds Tryz.pinned (.plain (OpenSpec.upto fnPlacedSpec)) fnPlacedUptoCard

/-- THE SECOND FORM's CARD OF 'laws.FnTooLarge'. -/
def fnTooLargeUptoCard : Claim7 := { stood := { row := fnTooLargeUptoRow, standIns := [], harness := (true, "1ba88c322de6ea36b8a6d9e50d476de2dbbcbd9b294b25c336aade5bff5aeeb1"), looks := true }, kinds := [], alts := [], laidByText := true, laidKinds := [.handle, .data, .data, .data], laidTests := true, laidLooks := .later }
def FnTooLargeUptoCardSaid : Prop := Claim7.holds Tryz.pinned (.plain (OpenSpec.upto fnTooLargeSpec)) fnTooLargeUptoCard

/-- THE SECOND FORM's CARD OF 'laws.FnTwoRoads'. -/
def fnTwoRoadsUptoCard : Claim7 := { stood := { row := fnTwoRoadsUptoRow, standIns := [], harness := (true, "1ba88c322de6ea36b8a6d9e50d476de2dbbcbd9b294b25c336aade5bff5aeeb1"), looks := true }, kinds := [], alts := [], laidByText := true, laidKinds := [.handle, .data, .data, .data], laidTests := true, laidLooks := .later }
def FnTwoRoadsUptoCardSaid : Prop := Claim7.holds Tryz.pinned (.plain (OpenSpec.upto fnTwoRoadsSpec)) fnTwoRoadsUptoCard
end Rows
end Go.Proofs.YtghjlekdibcjdaaGreatDoor
