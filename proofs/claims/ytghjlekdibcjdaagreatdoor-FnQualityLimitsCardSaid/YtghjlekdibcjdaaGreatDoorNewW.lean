/- The contract of bufio.NewWriter over impl.writer. -/
import Derived.Test.YtghjlekdibcjdaaGreatDoorWrB
namespace Go.Proofs.YtghjlekdibcjdaaGreatDoor
open Go.Deep Go.RowKit
set_option linter.unusedVariables false
set_option maxHeartbeats 1000000 in
set_option maxRecDepth 100000 in
theorem newWriter_any (wb : Nat) (w : World) :
    Calls Tryz.prog 37 #[.iface 65 (.pointer (some ⟨wb, 0, none⟩))] w fun e w' => e = .returned (.pointer (some ⟨w.heap.size + 1, 0, none⟩)) ∧ w'.rowIs w.heap.size 5 4096 (fun _ => .int .u8 0) ∧ w'.heap[w.heap.size + 1]? = some (.cells #[.nilIface, .slice (some ⟨w.heap.size, 0, none⟩) 4096 4096, .int .i64 0, .iface 65 (.pointer (some ⟨wb, 0, none⟩))] 166 (0, 0)) ∧ Kept (fun _ => True) w w' := by
  have hmk : ∀ W, (Instr.makeSlice 22 (.int .i64 4096) (.int .i64 4096)).run Tryz.prog W = .ok (.slice (some ⟨W.heap.size, 0, none⟩) 4096 4096) (W.alloc (.cells (madeCells #[.int .u8 0] 4096) 5)) := run_make_row' (P := Tryz.prog) 22 5 (.int .u8 0) 1 Tryz.underlying22 info5 rfl .i64 .i64 4096 (by omega) (by omega)
  have hta : ∀ W, (Instr.typeAssert (.iface 65 (.pointer (some ⟨wb, 0, none⟩))) 82 97 true).run Tryz.prog W = .ok (.tuple #[.pointer none, .bool false]) W := fun W => by kernel_rfl
  have CS : Hid (Calls Tryz.prog 50 #[.iface 65 (.pointer (some ⟨wb, 0, none⟩)), .int .i64 4096] w fun e w' => e = .returned (.pointer (some ⟨w.heap.size + 1, 0, none⟩)) ∧ w'.rowIs w.heap.size 5 4096 (fun _ => .int .u8 0) ∧ w'.heap[w.heap.size + 1]? = some (.cells #[.nilIface, .slice (some ⟨w.heap.size, 0, none⟩) 4096 4096, .int .i64 0, .iface 65 (.pointer (some ⟨wb, 0, none⟩))] 166 (0, 0)) ∧ Kept (fun _ => True) w w') := Lib.hid (by
    go_enter Tryz.func50, Tryz.ntmps50
    go_wp2_with fail
    go_ret
    have h := heap_alloc_new (w.alloc (.cells (madeCells #[.int .u8 0] 4096) 5)) (.cells #[.nilIface, .slice (some ⟨w.heap.size, 0, none⟩) 4096 4096, .int .i64 0, .iface 65 (.pointer (some ⟨wb, 0, none⟩))] 166)
    simp only [World.size_alloc] at h
    exact ⟨rfl, (World.rowIs_made _ _ _ _).alloc _, h, ((Kept.refl _ _).alloc _).alloc _⟩)
  go_enter Tryz.func37, Tryz.ntmps37
  go_wp2_with (go_at_call 50; (with_reducible refine CS.out.mono ?_); rintro e w1 ⟨rfl, k1⟩; have P := Lib.hid k1; clear k1)
  go_ret
  exact ⟨rfl, P.out⟩
end Go.Proofs.YtghjlekdibcjdaaGreatDoor
