/- impl.encoded of an image that is too large. -/
import Derived.Test.YtghjlekdibcjdaaGreatDoorBigA
import Derived.Test.YtghjlekdibcjdaaGreatDoorErrC
import Derived.Deep.RegionHeld3
namespace Go.Proofs.YtghjlekdibcjdaaGreatDoor
open Go.Deep Go.RowKit
set_option linter.unusedVariables false
set_option maxRecDepth 100000
set_option maxHeartbeats 2000000 in
theorem encoded_err (img : Value) (q l : Int) (w : World) (hg : w.cell? ⟨1, 0, none⟩ = some (.iface 180 (.agg #[.pointer (some ⟨7, 69, none⟩)])))
    (hE : ∀ wv ov W, Kept (fun _ => True) w W → Calls Tryz.prog 29 #[wv, img, ov] W fun e w' => (∃ a, e = .returned (.iface 115 (.pointer (some a)))) ∧ Kept (fun _ => True) W w') :
    Calls Tryz.prog 19 #[img, .int .i64 q, .int .i64 l] w fun e w' => e = .returned (.tuple #[.slice none 0 0, .int .i64 4]) ∧ Kept (fun _ => True) w w' := by
  have HE := Lib.hid hE
  have HG := Lib.hid hg
  clear hE hg
  go_enter Tryz.func19, Tryz.ntmps19
  go_wp2_with (go_at_call 29; (with_reducible refine (HE.out _ _ _ ?_).mono ?_); (first | exact ((Kept.refl _ _).alloc _).alloc _); rintro e w2 ⟨⟨a, rfl⟩, k2⟩; have HK := Lib.hid k2; clear k2)
  have K1 := ((Kept.refl (fun _ => True) w).alloc (.cells #[.slice none 0 0, .int .i64 l, .bool false] 67)).alloc (.cells #[.int .i64 q] 73)
  have KW := Lib.hid (K1.trans HK.out)
  have cg := KW.out.cellOf HG.out trivial
  have cB := HK.out.cellOf (a := ⟨w.heap.size, 0, none⟩) (v := .slice none 0 0) (by rw [World.cell?_alloc_lt _ _ ⟨w.heap.size, 0, none⟩ (by simp)]; unfold World.cell?; simp only [heap_alloc_new]; rfl) trivial
  clear K1 HK HG HE
  generalize w.heap.size = B at *
  go_region_held3 (fun w' => w'.cell? ⟨B, 0, none⟩ = some (.slice none 0 0) ∧ w'.cell? ⟨1, 0, none⟩ = some (.iface 180 (.agg #[.pointer (some ⟨7, 69, none⟩)])))
    (first | go_keep | (go_split_ands; refine ⟨?_, ?_⟩ <;> (refine Kept.cellOf k2 ?_ trivial; assumption)))
    (first
      | (go_at_call 30; (with_reducible refine (code_new _ _ ?_).mono ?_); (first | assumption); rintro e w3 ⟨rfl, k2⟩; have HKm := Lib.hid k2))
  all_goals
    have K := KW.out.drew.trans HKm.out
    clear KW HKm
    go_wp2
    go_ret2
    exact ⟨rfl, K⟩
end Go.Proofs.YtghjlekdibcjdaaGreatDoor
