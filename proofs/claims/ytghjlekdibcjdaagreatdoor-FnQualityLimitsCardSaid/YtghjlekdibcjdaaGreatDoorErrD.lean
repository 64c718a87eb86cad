/- The contract of impl.code at the writer's own error. -/
import Derived.Test.YtghjlekdibcjdaaGreatDoorErrC
namespace Go.Proofs.YtghjlekdibcjdaaGreatDoor
open Go.RowKit Go.Extern.Stop Go.Stop Go.Extern
set_option linter.unusedVariables false
set_option maxRecDepth 100000
/-- errors.Is(own{}, own{}). -/
theorem is_own (w : World) :
    Calls Tryz.prog 45 #[.iface 108 (.agg #[]), .iface 108 (.agg #[])] w fun e w' => e = .returned (.bool true) ∧ w' = w := by
  have h63 := @run_callFunc_extern Tryz.prog 63 _ ReflectliteType.typeOf Tryz.func63 (by kernel_rfl) (by kernel_rfl) (by kernel_rfl) (by kernel_rfl)
  have h138 := @run_callFunc_extern Tryz.prog 138 _ cmpEntry Tryz.func138 (by kernel_rfl) (by kernel_rfl) (by kernel_rfl) (by kernel_rfl)
  have tT := z_typeOf108
  have cT := z_comparable108
  have mR := z_methodComparable
  have heq : (binOp .eql 69 (.iface 108 (.agg #[])) (.iface 108 (.agg #[]))).run Tryz.prog w = .ok (.bool true) w := by kernel_rfl
  have hn := run_eql_iface_nil_left (P := Tryz.prog) w 108 (.agg #[]) Tryz.underlying69
  go_enter Tryz.func45, Tryz.ntmps45
  go_wp2
  refine wp_loop_rounds 1 ?_
  rw [rounds_succ]
  go_wp2
  go_ret
  exact ⟨rfl, rfl⟩
theorem code_own (w : World) : Calls Tryz.prog 30 #[.iface 108 (.agg #[])] w fun e w' => e = .returned (.int .i64 3) ∧ Kept (fun _ => True) w w' := by
  go_enter Tryz.func30, Tryz.ntmps30
  go_wp2_with (go_at_call 45; (with_reducible refine (is_own _).mono ?_); rintro e w2 ⟨rfl, rfl⟩)
  go_ret
  exact ⟨rfl, ((Kept.refl _ w).alloc _).alloc _⟩
end Go.Proofs.YtghjlekdibcjdaaGreatDoor
