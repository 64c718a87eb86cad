/- Contracts of impl.code at the errors that Encode returns. -/
import Derived.Test.YtghjlekdibcjdaaGreatDoorErrB
import Derived.Test.YtghjlekdibcjdaaGreatDoorImgA
namespace Go.Proofs.YtghjlekdibcjdaaGreatDoor
open Go.RowKit Go.Extern.Stop Go.Stop Go.Extern
set_option linter.unusedVariables false
set_option maxRecDepth 100000
theorem code_nil (w : World) : Calls Tryz.prog 30 #[.nilIface] w fun e w' => e = .returned (.int .i64 0) ∧ Kept (fun _ => True) w w' := by
  go_enter Tryz.func30, Tryz.ntmps30
  go_wp2
  go_ret
  exact ⟨rfl, ((Kept.refl _ w).alloc _).alloc _⟩
set_option maxHeartbeats 4000000 in
theorem code_new (a : Addr) (w : World) (hg : w.cell? ⟨1, 0, none⟩ = some (.iface 180 (.agg #[.pointer (some ⟨7, 69, none⟩)]))) : Calls Tryz.prog 30 #[.iface 115 (.pointer (some a))] w fun e w' => e = .returned (.int .i64 4) ∧ Kept (fun _ => True) w w' := by
  have K0 := Lib.hid (((Kept.refl (fun _ => True) w).alloc (.cells #[.string ByteArray.empty] 104)).alloc (.cells #[.string ByteArray.empty] 105))
  have G0 := Lib.hid (K0.out.cellOf hg trivial)
  clear hg
  go_enter Tryz.func30, Tryz.ntmps30
  go_wp2_with (first
    | (go_at_call 45; (with_reducible refine (is_new _ _).mono ?_); rintro e w2 ⟨rfl, rfl⟩)
    | (go_at_call 46; first
        | ((with_reducible refine (as_miss110 _ _ _ ?_).mono ?_); (first | exact G0.out); rintro e w2 ⟨rfl, rfl⟩)
        | ((with_reducible refine (as_miss111 _ _ _ ?_).mono ?_); (refine Kept.cellOf (((Kept.refl (fun _ => True) _).alloc _).alloc _ |>.alloc _) G0.out trivial); rintro e w2 ⟨rfl, rfl⟩)))
  go_ret
  exact ⟨rfl, ((((((K0.out).alloc _).alloc _).alloc _).alloc _).alloc _).alloc _⟩
end Go.Proofs.YtghjlekdibcjdaaGreatDoor
