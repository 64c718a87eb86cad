/-
  NARROWER THAN 'FOR EVERY INPUT', by the rows' own cells (each row's printed sentence says how): FnQualityLimits: laid · FnWriterFails: laid · FnOpaque: laid · FnPlaced: laid · FnTooLarge: laid · FnTwoRoads: laid.
  DERIVED. THE GIVEN ROWS OF THIS SEAT. 6 by the template 'for every input the law returns true; each argument reads behind the call as it read before'; 0 by the template 'total and deterministic' (their statements: YtghjlekdibcjdaaGreatDoorTotals.lean).
  GIVEN WITH THE SEED: the statements are not yours to turn. If you find one false, say at which input.
  Laid BY PROGRAM, IN A SANDBOX (cutbox-rows.mjs): the forced cells as the released guide's own fill.sh prints them over the translation 53d44133a6bedd51… (all of the seat's roots in one cut). By AI agents, Wed Nov 11 2026. No macro, syntax, notation, axiom, sorry.
-/
import Derived.Test.YtghjlekdibcjdaaGreatDoorChecked
import GoSem.Claim
import GoSem.ClaimJoined
import GoSem.ClaimMapViews
import Derived.JoinedTies
import Derived.KernelRfl
namespace Go.Proofs.YtghjlekdibcjdaaGreatDoor
/- THE CELL 'sum', in the pinned program and in every row, IS THE sha256 OF THE DUMP (.gsa) THAT YtghjlekdibcjdaaGreatDoorProg.lean LOADS. Nothing in Lean hashes anything: it is a label: what it is worth is what the hold of that sum in a sandbox is worth. -/
noncomputable def Tryz.pinned : Pinned := { name := "ytghjlekdibcjdaagreatdoor", sum := "53d44133a6bedd51d03f10fb69ea25d9d4dcb996321991eb74ebbdf20b0f3bc2", checked := Tryz.checked }
namespace Rows
def none {H : Type} : Left H := { results := [], args := [] }

/- WHAT THE LISTED PACKAGE-LEVEL VARIABLES READ AS WHEN THE CALL BEGINS. Each datum BY PROGRAM (the guide's laid-datum.mjs) off the statement by which the dump's own 'gosem.cut.vars' lays the variable. In a bare row this is a premise. The card (YtghjlekdibcjdaaGreatDoorCards.lean) ties it to the program's text. -/
def laid_errors_errorType {H : Type} : DataW H := .iface "internal/reflectlite.rtype" (.agg [.ptr (.lit (.string [101, 114, 114, 111, 114]))])
def laid_jpegcodec_pub_jpeg_unzig {H : Type} : DataW H := .agg [.lit (.int .i64 0), .lit (.int .i64 1), .lit (.int .i64 8), .lit (.int .i64 16), .lit (.int .i64 9), .lit (.int .i64 2), .lit (.int .i64 3), .lit (.int .i64 10), .lit (.int .i64 17), .lit (.int .i64 24), .lit (.int .i64 32), .lit (.int .i64 25), .lit (.int .i64 18), .lit (.int .i64 11), .lit (.int .i64 4), .lit (.int .i64 5), .lit (.int .i64 12), .lit (.int .i64 19), .lit (.int .i64 26), .lit (.int .i64 33), .lit (.int .i64 40), .lit (.int .i64 48), .lit (.int .i64 41), .lit (.int .i64 34), .lit (.int .i64 27), .lit (.int .i64 20), .lit (.int .i64 13), .lit (.int .i64 6), .lit (.int .i64 7), .lit (.int .i64 14), .lit (.int .i64 21), .lit (.int .i64 28), .lit (.int .i64 35), .lit (.int .i64 42), .lit (.int .i64 49), .lit (.int .i64 56), .lit (.int .i64 57), .lit (.int .i64 50), .lit (.int .i64 43), .lit (.int .i64 36), .lit (.int .i64 29), .lit (.int .i64 22), .lit (.int .i64 15), .lit (.int .i64 23), .lit (.int .i64 30), .lit (.int .i64 37), .lit (.int .i64 44), .lit (.int .i64 51), .lit (.int .i64 58), .lit (.int .i64 59), .lit (.int .i64 52), .lit (.int .i64 45), .lit (.int .i64 38), .lit (.int .i64 31), .lit (.int .i64 39), .lit (.int .i64 46), .lit (.int .i64 53), .lit (.int .i64 60), .lit (.int .i64 61), .lit (.int .i64 54), .lit (.int .i64 47), .lit (.int .i64 55), .lit (.int .i64 62), .lit (.int .i64 63)]
def laid_jpegcodec_pub_jpeg_bitCount {H : Type} : DataW H := .agg [.lit (.int .u8 0), .lit (.int .u8 1), .lit (.int .u8 2), .lit (.int .u8 2), .lit (.int .u8 3), .lit (.int .u8 3), .lit (.int .u8 3), .lit (.int .u8 3), .lit (.int .u8 4), .lit (.int .u8 4), .lit (.int .u8 4), .lit (.int .u8 4), .lit (.int .u8 4), .lit (.int .u8 4), .lit (.int .u8 4), .lit (.int .u8 4), .lit (.int .u8 5), .lit (.int .u8 5), .lit (.int .u8 5), .lit (.int .u8 5), .lit (.int .u8 5), .lit (.int .u8 5), .lit (.int .u8 5), .lit (.int .u8 5), .lit (.int .u8 5), .lit (.int .u8 5), .lit (.int .u8 5), .lit (.int .u8 5), .lit (.int .u8 5), .lit (.int .u8 5), .lit (.int .u8 5), .lit (.int .u8 5), .lit (.int .u8 6), .lit (.int .u8 6), .lit (.int .u8 6), .lit (.int .u8 6), .lit (.int .u8 6), .lit (.int .u8 6), .lit (.int .u8 6), .lit (.int .u8 6), .lit (.int .u8 6), .lit (.int .u8 6), .lit (.int .u8 6), .lit (.int .u8 6), .lit (.int .u8 6), .lit (.int .u8 6), .lit (.int .u8 6), .lit (.int .u8 6), .lit (.int .u8 6), .lit (.int .u8 6), .lit (.int .u8 6), .lit (.int .u8 6), .lit (.int .u8 6), .lit (.int .u8 6), .lit (.int .u8 6), .lit (.int .u8 6), .lit (.int .u8 6), .lit (.int .u8 6), .lit (.int .u8 6), .lit (.int .u8 6), .lit (.int .u8 6), .lit (.int .u8 6), .lit (.int .u8 6), .lit (.int .u8 6), .lit (.int .u8 7), .lit (.int .u8 7), .lit (.int .u8 7), .lit (.int .u8 7), .lit (.int .u8 7), .lit (.int .u8 7), .lit (.int .u8 7), .lit (.int .u8 7), .lit (.int .u8 7), .lit (.int .u8 7), .lit (.int .u8 7), .lit (.int .u8 7), .lit (.int .u8 7), .lit (.int .u8 7), .lit (.int .u8 7), .lit (.int .u8 7), .lit (.int .u8 7), .lit (.int .u8 7), .lit (.int .u8 7), .lit (.int .u8 7), .lit (.int .u8 7), .lit (.int .u8 7), .lit (.int .u8 7), .lit (.int .u8 7), .lit (.int .u8 7), .lit (.int .u8 7), .lit (.int .u8 7), .lit (.int .u8 7), .lit (.int .u8 7), .lit (.int .u8 7), .lit (.int .u8 7), .lit (.int .u8 7), .lit (.int .u8 7), .lit (.int .u8 7), .lit (.int .u8 7), .lit (.int .u8 7), .lit (.int .u8 7), .lit (.int .u8 7), .lit (.int .u8 7), .lit (.int .u8 7), .lit (.int .u8 7), .lit (.int .u8 7), .lit (.int .u8 7), .lit (.int .u8 7), .lit (.int .u8 7), .lit (.int .u8 7), .lit (.int .u8 7), .lit (.int .u8 7), .lit (.int .u8 7), .lit (.int .u8 7), .lit (.int .u8 7), .lit (.int .u8 7), .lit (.int .u8 7), .lit (.int .u8 7), .lit (.int .u8 7), .lit (.int .u8 7), .lit (.int .u8 7), .lit (.int .u8 7), .lit (.int .u8 7), .lit (.int .u8 7), .lit (.int .u8 7), .lit (.int .u8 7), .lit (.int .u8 7), .lit (.int .u8 7), .lit (.int .u8 8), .lit (.int .u8 8), .lit (.int .u8 8), .lit (.int .u8 8), .lit (.int .u8 8), .lit (.int .u8 8), .lit (.int .u8 8), .lit (.int .u8 8), .lit (.int .u8 8), .lit (.int .u8 8), .lit (.int .u8 8), .lit (.int .u8 8), .lit (.int .u8 8), .lit (.int .u8 8), .lit (.int .u8 8), .lit (.int .u8 8), .lit (.int .u8 8), .lit (.int .u8 8), .lit (.int .u8 8), .lit (.int .u8 8), .lit (.int .u8 8), .lit (.int .u8 8), .lit (.int .u8 8), .lit (.int .u8 8), .lit (.int .u8 8), .lit (.int .u8 8), .lit (.int .u8 8), .lit (.int .u8 8), .lit (.int .u8 8), .lit (.int .u8 8), .lit (.int .u8 8), .lit (.int .u8 8), .lit (.int .u8 8), .lit (.int .u8 8), .lit (.int .u8 8), .lit (.int .u8 8), .lit (.int .u8 8), .lit (.int .u8 8), .lit (.int .u8 8), .lit (.int .u8 8), .lit (.int .u8 8), .lit (.int .u8 8), .lit (.int .u8 8), .lit (.int .u8 8), .lit (.int .u8 8), .lit (.int .u8 8), .lit (.int .u8 8), .lit (.int .u8 8), .lit (.int .u8 8), .lit (.int .u8 8), .lit (.int .u8 8), .lit (.int .u8 8), .lit (.int .u8 8), .lit (.int .u8 8), .lit (.int .u8 8), .lit (.int .u8 8), .lit (.int .u8 8), .lit (.int .u8 8), .lit (.int .u8 8), .lit (.int .u8 8), .lit (.int .u8 8), .lit (.int .u8 8), .lit (.int .u8 8), .lit (.int .u8 8), .lit (.int .u8 8), .lit (.int .u8 8), .lit (.int .u8 8), .lit (.int .u8 8), .lit (.int .u8 8), .lit (.int .u8 8), .lit (.int .u8 8), .lit (.int .u8 8), .lit (.int .u8 8), .lit (.int .u8 8), .lit (.int .u8 8), .lit (.int .u8 8), .lit (.int .u8 8), .lit (.int .u8 8), .lit (.int .u8 8), .lit (.int .u8 8), .lit (.int .u8 8), .lit (.int .u8 8), .lit (.int .u8 8), .lit (.int .u8 8), .lit (.int .u8 8), .lit (.int .u8 8), .lit (.int .u8 8), .lit (.int .u8 8), .lit (.int .u8 8), .lit (.int .u8 8), .lit (.int .u8 8), .lit (.int .u8 8), .lit (.int .u8 8), .lit (.int .u8 8), .lit (.int .u8 8), .lit (.int .u8 8), .lit (.int .u8 8), .lit (.int .u8 8), .lit (.int .u8 8), .lit (.int .u8 8), .lit (.int .u8 8), .lit (.int .u8 8), .lit (.int .u8 8), .lit (.int .u8 8), .lit (.int .u8 8), .lit (.int .u8 8), .lit (.int .u8 8), .lit (.int .u8 8), .lit (.int .u8 8), .lit (.int .u8 8), .lit (.int .u8 8), .lit (.int .u8 8), .lit (.int .u8 8), .lit (.int .u8 8), .lit (.int .u8 8), .lit (.int .u8 8), .lit (.int .u8 8), .lit (.int .u8 8), .lit (.int .u8 8), .lit (.int .u8 8), .lit (.int .u8 8), .lit (.int .u8 8), .lit (.int .u8 8), .lit (.int .u8 8), .lit (.int .u8 8), .lit (.int .u8 8), .lit (.int .u8 8), .lit (.int .u8 8)]
def laid_jpegcodec_pub_jpeg_unscaledQuant {H : Type} : DataW H := .agg [.agg [.lit (.int .u8 16), .lit (.int .u8 11), .lit (.int .u8 12), .lit (.int .u8 14), .lit (.int .u8 12), .lit (.int .u8 10), .lit (.int .u8 16), .lit (.int .u8 14), .lit (.int .u8 13), .lit (.int .u8 14), .lit (.int .u8 18), .lit (.int .u8 17), .lit (.int .u8 16), .lit (.int .u8 19), .lit (.int .u8 24), .lit (.int .u8 40), .lit (.int .u8 26), .lit (.int .u8 24), .lit (.int .u8 22), .lit (.int .u8 22), .lit (.int .u8 24), .lit (.int .u8 49), .lit (.int .u8 35), .lit (.int .u8 37), .lit (.int .u8 29), .lit (.int .u8 40), .lit (.int .u8 58), .lit (.int .u8 51), .lit (.int .u8 61), .lit (.int .u8 60), .lit (.int .u8 57), .lit (.int .u8 51), .lit (.int .u8 56), .lit (.int .u8 55), .lit (.int .u8 64), .lit (.int .u8 72), .lit (.int .u8 92), .lit (.int .u8 78), .lit (.int .u8 64), .lit (.int .u8 68), .lit (.int .u8 87), .lit (.int .u8 69), .lit (.int .u8 55), .lit (.int .u8 56), .lit (.int .u8 80), .lit (.int .u8 109), .lit (.int .u8 81), .lit (.int .u8 87), .lit (.int .u8 95), .lit (.int .u8 98), .lit (.int .u8 103), .lit (.int .u8 104), .lit (.int .u8 103), .lit (.int .u8 62), .lit (.int .u8 77), .lit (.int .u8 113), .lit (.int .u8 121), .lit (.int .u8 112), .lit (.int .u8 100), .lit (.int .u8 120), .lit (.int .u8 92), .lit (.int .u8 101), .lit (.int .u8 103), .lit (.int .u8 99)], .agg [.lit (.int .u8 17), .lit (.int .u8 18), .lit (.int .u8 18), .lit (.int .u8 24), .lit (.int .u8 21), .lit (.int .u8 24), .lit (.int .u8 47), .lit (.int .u8 26), .lit (.int .u8 26), .lit (.int .u8 47), .lit (.int .u8 99), .lit (.int .u8 66), .lit (.int .u8 56), .lit (.int .u8 66), .lit (.int .u8 99), .lit (.int .u8 99), .lit (.int .u8 99), .lit (.int .u8 99), .lit (.int .u8 99), .lit (.int .u8 99), .lit (.int .u8 99), .lit (.int .u8 99), .lit (.int .u8 99), .lit (.int .u8 99), .lit (.int .u8 99), .lit (.int .u8 99), .lit (.int .u8 99), .lit (.int .u8 99), .lit (.int .u8 99), .lit (.int .u8 99), .lit (.int .u8 99), .lit (.int .u8 99), .lit (.int .u8 99), .lit (.int .u8 99), .lit (.int .u8 99), .lit (.int .u8 99), .lit (.int .u8 99), .lit (.int .u8 99), .lit (.int .u8 99), .lit (.int .u8 99), .lit (.int .u8 99), .lit (.int .u8 99), .lit (.int .u8 99), .lit (.int .u8 99), .lit (.int .u8 99), .lit (.int .u8 99), .lit (.int .u8 99), .lit (.int .u8 99), .lit (.int .u8 99), .lit (.int .u8 99), .lit (.int .u8 99), .lit (.int .u8 99), .lit (.int .u8 99), .lit (.int .u8 99), .lit (.int .u8 99), .lit (.int .u8 99), .lit (.int .u8 99), .lit (.int .u8 99), .lit (.int .u8 99), .lit (.int .u8 99), .lit (.int .u8 99), .lit (.int .u8 99), .lit (.int .u8 99), .lit (.int .u8 99)]]

/-- 'laws.FnQualityLimits': WHATEVER THE INPUT: true; the input reads as it did. -/
def fnQualityLimitsSpec : ChangeSpec := { name := "fnQualityLimits", fn := fun _ => fun
  | [d1, d2, d3, d4] => { results := [.lit (.bool true)], args := [d1, d2, d3, d4] }
  | _ => none }
def fnQualityLimitsRow : OpenClaim := { program := "ytghjlekdibcjdaagreatdoor", sum := "53d44133a6bedd51d03f10fb69ea25d9d4dcb996321991eb74ebbdf20b0f3bc2", func := "jpegcodec/laws.FnQualityLimits", spec := "fnQualityLimits", inPlace := ["internal/reflectlite.TypeOf", "internal/reflectlite.ValueOf", "(internal/reflectlite.Value).Type", "(internal/reflectlite.Value).IsNil", "(internal/reflectlite.Value).Elem", "(internal/reflectlite.Value).Set"], unfollowed := true, recurses := true, named := ["jpegcodec/pub/jpeg.unscaledQuant", "jpegcodec/pub/jpeg.unzig", "jpegcodec/pub/jpeg.bitCount", "errors.errorType"], apart := false, laid := [("errors.errorType", laid_errors_errorType), ("jpegcodec/pub/jpeg.unzig", laid_jpegcodec_pub_jpeg_unzig), ("jpegcodec/pub/jpeg.bitCount", laid_jpegcodec_pub_jpeg_bitCount), ("jpegcodec/pub/jpeg.unscaledQuant", laid_jpegcodec_pub_jpeg_unscaledQuant)] }
def FnQualityLimitsSaid : Prop := fnQualityLimitsRow.holds Tryz.pinned (OpenSpec.ofChange fnQualityLimitsSpec)

/-- ITS FALSE NEIGHBOUR: 'it returns false'. Refute it at one input. -/
def fnQualityLimitsWrong : ChangeSpec := { name := "fnQualityLimits", fn := fun _ => fun
  | [d1, d2, d3, d4] => { results := [.lit (.bool false)], args := [d1, d2, d3, d4] }
  | _ => none }
def FnQualityLimitsWrongFalsely : Prop := fnQualityLimitsRow.holds Tryz.pinned (OpenSpec.ofChange fnQualityLimitsWrong)

/-- 'laws.FnWriterFails': WHATEVER THE INPUT: true; the input reads as it did. -/
def fnWriterFailsSpec : ChangeSpec := { name := "fnWriterFails", fn := fun _ => fun
  | [d1, d2, d3, d4, d5] => { results := [.lit (.bool true)], args := [d1, d2, d3, d4, d5] }
  | _ => none }
def fnWriterFailsRow : OpenClaim := { program := "ytghjlekdibcjdaagreatdoor", sum := "53d44133a6bedd51d03f10fb69ea25d9d4dcb996321991eb74ebbdf20b0f3bc2", func := "jpegcodec/laws.FnWriterFails", spec := "fnWriterFails", inPlace := ["internal/reflectlite.TypeOf", "internal/reflectlite.ValueOf", "(internal/reflectlite.Value).Type", "(internal/reflectlite.Value).IsNil", "(internal/reflectlite.Value).Elem", "(internal/reflectlite.Value).Set"], unfollowed := true, recurses := true, named := ["jpegcodec/pub/jpeg.unscaledQuant", "jpegcodec/pub/jpeg.unzig", "jpegcodec/pub/jpeg.bitCount", "errors.errorType"], apart := false, laid := [("errors.errorType", laid_errors_errorType), ("jpegcodec/pub/jpeg.unzig", laid_jpegcodec_pub_jpeg_unzig), ("jpegcodec/pub/jpeg.bitCount", laid_jpegcodec_pub_jpeg_bitCount), ("jpegcodec/pub/jpeg.unscaledQuant", laid_jpegcodec_pub_jpeg_unscaledQuant)] }
def FnWriterFailsSaid : Prop := fnWriterFailsRow.holds Tryz.pinned (OpenSpec.ofChange fnWriterFailsSpec)

/-- ITS FALSE NEIGHBOUR: 'it returns false'. Refute it at one input. -/
def fnWriterFailsWrong : ChangeSpec := { name := "fnWriterFails", fn := fun _ => fun
  | [d1, d2, d3, d4, d5] => { results := [.lit (.bool false)], args := [d1, d2, d3, d4, d5] }
  | _ => none }
def FnWriterFailsWrongFalsely : Prop := fnWriterFailsRow.holds Tryz.pinned (OpenSpec.ofChange fnWriterFailsWrong)

/-- 'laws.FnOpaque': WHATEVER THE INPUT: true; the input reads as it did. -/
def fnOpaqueSpec : ChangeSpec := { name := "fnOpaque", fn := fun _ => fun
  | [d1, d2, d3, d4, d5, d6] => { results := [.lit (.bool true)], args := [d1, d2, d3, d4, d5, d6] }
  | _ => none }
def fnOpaqueRow : OpenClaim := { program := "ytghjlekdibcjdaagreatdoor", sum := "53d44133a6bedd51d03f10fb69ea25d9d4dcb996321991eb74ebbdf20b0f3bc2", func := "jpegcodec/laws.FnOpaque", spec := "fnOpaque", inPlace := ["internal/reflectlite.TypeOf", "internal/reflectlite.ValueOf", "(internal/reflectlite.Value).Type", "(internal/reflectlite.Value).IsNil", "(internal/reflectlite.Value).Elem", "(internal/reflectlite.Value).Set"], unfollowed := true, recurses := true, named := ["jpegcodec/pub/jpeg.unscaledQuant", "jpegcodec/pub/jpeg.unzig", "jpegcodec/pub/jpeg.bitCount", "errors.errorType"], apart := false, laid := [("errors.errorType", laid_errors_errorType), ("jpegcodec/pub/jpeg.unzig", laid_jpegcodec_pub_jpeg_unzig), ("jpegcodec/pub/jpeg.bitCount", laid_jpegcodec_pub_jpeg_bitCount), ("jpegcodec/pub/jpeg.unscaledQuant", laid_jpegcodec_pub_jpeg_unscaledQuant)] }
def FnOpaqueSaid : Prop := fnOpaqueRow.holds Tryz.pinned (OpenSpec.ofChange fnOpaqueSpec)

/-- ITS FALSE NEIGHBOUR: 'it returns false'. Refute it at one input. -/
def fnOpaqueWrong : ChangeSpec := { name := "fnOpaque", fn := fun _ => fun
  | [d1, d2, d3, d4, d5, d6] => { results := [.lit (.bool false)], args := [d1, d2, d3, d4, d5, d6] }
  | _ => none }
def FnOpaqueWrongFalsely : Prop := fnOpaqueRow.holds Tryz.pinned (OpenSpec.ofChange fnOpaqueWrong)

/-- 'laws.FnPlaced': WHATEVER THE INPUT: true; the input reads as it did. -/
def fnPlacedSpec : ChangeSpec := { name := "fnPlaced", fn := fun _ => fun
  | [d1, d2, d3, d4, d5, d6] => { results := [.lit (.bool true)], args := [d1, d2, d3, d4, d5, d6] }
  | _ => none }
def fnPlacedRow : OpenClaim := { program := "ytghjlekdibcjdaagreatdoor", sum := "53d44133a6bedd51d03f10fb69ea25d9d4dcb996321991eb74ebbdf20b0f3bc2", func := "jpegcodec/laws.FnPlaced", spec := "fnPlaced", inPlace := ["internal/reflectlite.TypeOf", "internal/reflectlite.ValueOf", "(internal/reflectlite.Value).Type", "(internal/reflectlite.Value).IsNil", "(internal/reflectlite.Value).Elem", "(internal/reflectlite.Value).Set"], unfollowed := true, recurses := true, named := ["jpegcodec/pub/jpeg.unscaledQuant", "jpegcodec/pub/jpeg.unzig", "jpegcodec/pub/jpeg.bitCount", "errors.errorType"], apart := false, laid := [("errors.errorType", laid_errors_errorType), ("jpegcodec/pub/jpeg.unzig", laid_jpegcodec_pub_jpeg_unzig), ("jpegcodec/pub/jpeg.bitCount", laid_jpegcodec_pub_jpeg_bitCount), ("jpegcodec/pub/jpeg.unscaledQuant", laid_jpegcodec_pub_jpeg_unscaledQuant)] }
def FnPlacedSaid : Prop := fnPlacedRow.holds Tryz.pinned (OpenSpec.ofChange fnPlacedSpec)

/-- ITS FALSE NEIGHBOUR: 'it returns false'. Refute it at one input. -/
def fnPlacedWrong : ChangeSpec := { name := "fnPlaced", fn := fun _ => fun
  | [d1, d2, d3, d4, d5, d6] => { results := [.lit (.bool false)], args := [d1, d2, d3, d4, d5, d6] }
  | _ => none }
def FnPlacedWrongFalsely : Prop := fnPlacedRow.holds Tryz.pinned (OpenSpec.ofChange fnPlacedWrong)

/-- 'laws.FnTooLarge': WHATEVER THE INPUT: true; the input reads as it did. -/
def fnTooLargeSpec : ChangeSpec := { name := "fnTooLarge", fn := fun _ => fun
  | [d1, d2, d3] => { results := [.lit (.bool true)], args := [d1, d2, d3] }
  | _ => none }
def fnTooLargeRow : OpenClaim := { program := "ytghjlekdibcjdaagreatdoor", sum := "53d44133a6bedd51d03f10fb69ea25d9d4dcb996321991eb74ebbdf20b0f3bc2", func := "jpegcodec/laws.FnTooLarge", spec := "fnTooLarge", inPlace := ["internal/reflectlite.TypeOf", "internal/reflectlite.ValueOf", "(internal/reflectlite.Value).Type", "(internal/reflectlite.Value).IsNil", "(internal/reflectlite.Value).Elem", "(internal/reflectlite.Value).Set"], unfollowed := true, recurses := true, named := ["jpegcodec/pub/jpeg.unscaledQuant", "jpegcodec/pub/jpeg.unzig", "jpegcodec/pub/jpeg.bitCount", "errors.errorType"], apart := false, laid := [("errors.errorType", laid_errors_errorType), ("jpegcodec/pub/jpeg.unzig", laid_jpegcodec_pub_jpeg_unzig), ("jpegcodec/pub/jpeg.bitCount", laid_jpegcodec_pub_jpeg_bitCount), ("jpegcodec/pub/jpeg.unscaledQuant", laid_jpegcodec_pub_jpeg_unscaledQuant)] }
def FnTooLargeSaid : Prop := fnTooLargeRow.holds Tryz.pinned (OpenSpec.ofChange fnTooLargeSpec)

/-- ITS FALSE NEIGHBOUR: 'it returns false'. Refute it at one input. -/
def fnTooLargeWrong : ChangeSpec := { name := "fnTooLarge", fn := fun _ => fun
  | [d1, d2, d3] => { results := [.lit (.bool false)], args := [d1, d2, d3] }
  | _ => none }
def FnTooLargeWrongFalsely : Prop := fnTooLargeRow.holds Tryz.pinned (OpenSpec.ofChange fnTooLargeWrong)

/-- 'laws.FnTwoRoads': WHATEVER THE INPUT: true; the input reads as it did. -/
def fnTwoRoadsSpec : ChangeSpec := { name := "fnTwoRoads", fn := fun _ => fun
  | [d1, d2, d3, d4] => { results := [.lit (.bool true)], args := [d1, d2, d3, d4] }
  | _ => none }
def fnTwoRoadsRow : OpenClaim := { program := "ytghjlekdibcjdaagreatdoor", sum := "53d44133a6bedd51d03f10fb69ea25d9d4dcb996321991eb74ebbdf20b0f3bc2", func := "jpegcodec/laws.FnTwoRoads", spec := "fnTwoRoads", inPlace := ["internal/reflectlite.TypeOf", "internal/reflectlite.ValueOf", "(internal/reflectlite.Value).Type", "(internal/reflectlite.Value).IsNil", "(internal/reflectlite.Value).Elem", "(internal/reflectlite.Value).Set"], unfollowed := true, recurses := true, named := ["jpegcodec/pub/jpeg.unscaledQuant", "jpegcodec/pub/jpeg.unzig", "jpegcodec/pub/jpeg.bitCount", "errors.errorType"], apart := false, laid := [("errors.errorType", laid_errors_errorType), ("jpegcodec/pub/jpeg.unzig", laid_jpegcodec_pub_jpeg_unzig), ("jpegcodec/pub/jpeg.bitCount", laid_jpegcodec_pub_jpeg_bitCount), ("jpegcodec/pub/jpeg.unscaledQuant", laid_jpegcodec_pub_jpeg_unscaledQuant)] }
def FnTwoRoadsSaid : Prop := fnTwoRoadsRow.holds Tryz.pinned (OpenSpec.ofChange fnTwoRoadsSpec)

/-- ITS FALSE NEIGHBOUR: 'it returns false'. Refute it at one input. -/
def fnTwoRoadsWrong : ChangeSpec := { name := "fnTwoRoads", fn := fun _ => fun
  | [d1, d2, d3, d4] => { results := [.lit (.bool false)], args := [d1, d2, d3, d4] }
  | _ => none }
def FnTwoRoadsWrongFalsely : Prop := fnTwoRoadsRow.holds Tryz.pinned (OpenSpec.ofChange fnTwoRoadsWrong)

/- THE SECOND FORM. 'bulk': how many values and letters a reading holds, each counted each time it is reached (what is shared counts as often as it is met; a slice's spare places count too). A statement '..UptoSaid' is the law's where the arguments, and the package variables that the reading takes, are together of bulk at most 1048576: NARROWER than '..Said'. Prove '..Said' where nothing that the law and all that it calls make is longer than what came in: it says more and counts as full. Else prove '..UptoSaid'. A law counts once. -/
mutual
def uptoBulk {H : Type} : DataW H → Nat
  | .lit (.string bytes) => bytes.length + 1
  | .lit _ => 1
  | .nil => 1
  | .ptr d => uptoBulk d + 1
  | .slice elems spare => uptoBulkAll elems + uptoBulkAll spare + 1
  | .agg parts => uptoBulkAll parts + 1
  | .iface _ d => uptoBulk d + 1
  | .map entries => uptoBulkEntries entries + 1
  | .held _ => 1
def uptoBulkAll {H : Type} : List (DataW H) → Nat
  | [] => 0
  | d :: r => uptoBulk d + uptoBulkAll r
def uptoBulkEntries {H : Type} : List (Lit × DataW H) → Nat
  | [] => 0
  | x :: r => uptoBulkEntry x + uptoBulkEntries r
def uptoBulkEntry {H : Type} : Lit × DataW H → Nat
  | (.string bytes, d) => bytes.length + uptoBulk d + 1
  | (_, d) => uptoBulk d + 1
 end
def uptoSmall : (H : Type) → List (DataW H) → Bool := fun _ ds => decide (uptoBulkAll ds ≤ 1048576)
def OpenSpec.upto (s : _root_.Go.ChangeSpec) : _root_.Go.OpenSpec := { _root_.Go.OpenSpec.ofChange s with cond := some uptoSmall }

/-- 'laws.FnQualityLimits', WHERE WHAT IT READS IS OF BULK AT MOST 1048576: true; the input reads as it did. -/
def fnQualityLimitsUptoRow : OpenClaim := { program := "ytghjlekdibcjdaagreatdoor", sum := "53d44133a6bedd51d03f10fb69ea25d9d4dcb996321991eb74ebbdf20b0f3bc2", func := "jpegcodec/laws.FnQualityLimits", spec := "fnQualityLimits", inPlace := ["internal/reflectlite.TypeOf", "internal/reflectlite.ValueOf", "(internal/reflectlite.Value).Type", "(internal/reflectlite.Value).IsNil", "(internal/reflectlite.Value).Elem", "(internal/reflectlite.Value).Set"], unfollowed := true, recurses := true, named := ["jpegcodec/pub/jpeg.unscaledQuant", "jpegcodec/pub/jpeg.unzig", "jpegcodec/pub/jpeg.bitCount", "errors.errorType"], apart := false, laid := [("errors.errorType", laid_errors_errorType), ("jpegcodec/pub/jpeg.unzig", laid_jpegcodec_pub_jpeg_unzig), ("jpegcodec/pub/jpeg.bitCount", laid_jpegcodec_pub_jpeg_bitCount), ("jpegcodec/pub/jpeg.unscaledQuant", laid_jpegcodec_pub_jpeg_unscaledQuant)], narrowed := true }
def FnQualityLimitsUptoSaid : Prop := fnQualityLimitsUptoRow.holds Tryz.pinned (OpenSpec.upto fnQualityLimitsSpec)

/-- 'laws.FnWriterFails', WHERE WHAT IT READS IS OF BULK AT MOST 1048576: true; the input reads as it did. -/
def fnWriterFailsUptoRow : OpenClaim := { program := "ytghjlekdibcjdaagreatdoor", sum := "53d44133a6bedd51d03f10fb69ea25d9d4dcb996321991eb74ebbdf20b0f3bc2", func := "jpegcodec/laws.FnWriterFails", spec := "fnWriterFails", inPlace := ["internal/reflectlite.TypeOf", "internal/reflectlite.ValueOf", "(internal/reflectlite.Value).Type", "(internal/reflectlite.Value).IsNil", "(internal/reflectlite.Value).Elem", "(internal/reflectlite.Value).Set"], unfollowed := true, recurses := true, named := ["jpegcodec/pub/jpeg.unscaledQuant", "jpegcodec/pub/jpeg.unzig", "jpegcodec/pub/jpeg.bitCount", "errors.errorType"], apart := false, laid := [("errors.errorType", laid_errors_errorType), ("jpegcodec/pub/jpeg.unzig", laid_jpegcodec_pub_jpeg_unzig), ("jpegcodec/pub/jpeg.bitCount", laid_jpegcodec_pub_jpeg_bitCount), ("jpegcodec/pub/jpeg.unscaledQuant", laid_jpegcodec_pub_jpeg_unscaledQuant)], narrowed := true }
def FnWriterFailsUptoSaid : Prop := fnWriterFailsUptoRow.holds Tryz.pinned (OpenSpec.upto fnWriterFailsSpec)

/-- 'laws.FnOpaque', WHERE WHAT IT READS IS OF BULK AT MOST 1048576: true; the input reads as it did. -/
def fnOpaqueUptoRow : OpenClaim := { program := "ytghjlekdibcjdaagreatdoor", sum := "53d44133a6bedd51d03f10fb69ea25d9d4dcb996321991eb74ebbdf20b0f3bc2", func := "jpegcodec/laws.FnOpaque", spec := "fnOpaque", inPlace := ["internal/reflectlite.TypeOf", "internal/reflectlite.ValueOf", "(internal/reflectlite.Value).Type", "(internal/reflectlite.Value).IsNil", "(internal/reflectlite.Value).Elem", "(internal/reflectlite.Value).Set"], unfollowed := true, recurses := true, named := ["jpegcodec/pub/jpeg.unscaledQuant", "jpegcodec/pub/jpeg.unzig", "jpegcodec/pub/jpeg.bitCount", "errors.errorType"], apart := false, laid := [("errors.errorType", laid_errors_errorType), ("jpegcodec/pub/jpeg.unzig", laid_jpegcodec_pub_jpeg_unzig), ("jpegcodec/pub/jpeg.bitCount", laid_jpegcodec_pub_jpeg_bitCount), ("jpegcodec/pub/jpeg.unscaledQuant", laid_jpegcodec_pub_jpeg_unscaledQuant)], narrowed := true }
def FnOpaqueUptoSaid : Prop := fnOpaqueUptoRow.holds Tryz.pinned (OpenSpec.upto fnOpaqueSpec)

/-- 'laws.FnPlaced', WHERE WHAT IT READS IS OF BULK AT MOST 1048576: true; the input reads as it did. -/
def fnPlacedUptoRow : OpenClaim := { program := "ytghjlekdibcjdaagreatdoor", sum := "53d44133a6bedd51d03f10fb69ea25d9d4dcb996321991eb74ebbdf20b0f3bc2", func := "jpegcodec/laws.FnPlaced", spec := "fnPlaced", inPlace := ["internal/reflectlite.TypeOf", "internal/reflectlite.ValueOf", "(internal/reflectlite.Value).Type", "(internal/reflectlite.Value).IsNil", "(internal/reflectlite.Value).Elem", "(internal/reflectlite.Value).Set"], unfollowed := true, recurses := true, named := ["jpegcodec/pub/jpeg.unscaledQuant", "jpegcodec/pub/jpeg.unzig", "jpegcodec/pub/jpeg.bitCount", "errors.errorType"], apart := false, laid := [("errors.errorType", laid_errors_errorType), ("jpegcodec/pub/jpeg.unzig", laid_jpegcodec_pub_jpeg_unzig), ("jpegcodec/pub/jpeg.bitCount", laid_jpegcodec_pub_jpeg_bitCount), ("jpegcodec/pub/jpeg.unscaledQuant", laid_jpegcodec_pub_jpeg_unscaledQuant)], narrowed := true }
def FnPlacedUptoSaid : Prop := fnPlacedUptoRow.holds Tryz.pinned (OpenSpec.upto fnPlacedSpec)

/-- 'laws.FnTooLarge', WHERE WHAT IT READS IS OF BULK AT MOST 1048576: true; the input reads as it did. -/
def fnTooLargeUptoRow : OpenClaim := { program := "ytghjlekdibcjdaagreatdoor", sum := "53d44133a6bedd51d03f10fb69ea25d9d4dcb996321991eb74ebbdf20b0f3bc2", func := "jpegcodec/laws.FnTooLarge", spec := "fnTooLarge", inPlace := ["internal/reflectlite.TypeOf", "internal/reflectlite.ValueOf", "(internal/reflectlite.Value).Type", "(internal/reflectlite.Value).IsNil", "(internal/reflectlite.Value).Elem", "(internal/reflectlite.Value).Set"], unfollowed := true, recurses := true, named := ["jpegcodec/pub/jpeg.unscaledQuant", "jpegcodec/pub/jpeg.unzig", "jpegcodec/pub/jpeg.bitCount", "errors.errorType"], apart := false, laid := [("errors.errorType", laid_errors_errorType), ("jpegcodec/pub/jpeg.unzig", laid_jpegcodec_pub_jpeg_unzig), ("jpegcodec/pub/jpeg.bitCount", laid_jpegcodec_pub_jpeg_bitCount), ("jpegcodec/pub/jpeg.unscaledQuant", laid_jpegcodec_pub_jpeg_unscaledQuant)], narrowed := true }
def FnTooLargeUptoSaid : Prop := fnTooLargeUptoRow.holds Tryz.pinned (OpenSpec.upto fnTooLargeSpec)

/-- 'laws.FnTwoRoads', WHERE WHAT IT READS IS OF BULK AT MOST 1048576: true; the input reads as it did. -/
def fnTwoRoadsUptoRow : OpenClaim := { program := "ytghjlekdibcjdaagreatdoor", sum := "53d44133a6bedd51d03f10fb69ea25d9d4dcb996321991eb74ebbdf20b0f3bc2", func := "jpegcodec/laws.FnTwoRoads", spec := "fnTwoRoads", inPlace := ["internal/reflectlite.TypeOf", "internal/reflectlite.ValueOf", "(internal/reflectlite.Value).Type", "(internal/reflectlite.Value).IsNil", "(internal/reflectlite.Value).Elem", "(internal/reflectlite.Value).Set"], unfollowed := true, recurses := true, named := ["jpegcodec/pub/jpeg.unscaledQuant", "jpegcodec/pub/jpeg.unzig", "jpegcodec/pub/jpeg.bitCount", "errors.errorType"], apart := false, laid := [("errors.errorType", laid_errors_errorType), ("jpegcodec/pub/jpeg.unzig", laid_jpegcodec_pub_jpeg_unzig), ("jpegcodec/pub/jpeg.bitCount", laid_jpegcodec_pub_jpeg_bitCount), ("jpegcodec/pub/jpeg.unscaledQuant", laid_jpegcodec_pub_jpeg_unscaledQuant)], narrowed := true }
def FnTwoRoadsUptoSaid : Prop := fnTwoRoadsUptoRow.holds Tryz.pinned (OpenSpec.upto fnTwoRoadsSpec)

end Rows
end Go.Proofs.YtghjlekdibcjdaaGreatDoor
