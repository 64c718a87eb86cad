/- Contracts of errors.Is at the errors that Encode returns. -/
import Derived.Test.YtghjlekdibcjdaaGreatDoorErrA
namespace Go.Proofs.YtghjlekdibcjdaaGreatDoor
open Go.RowKit Go.Extern.Stop Go.Stop Go.Extern
set_option linter.unusedVariables false
set_option maxRecDepth 100000
/-- errors.Is(an error of errors.New, own{}). -/
theorem is_new (a : Addr) (w : World) :
    Calls Tryz.prog 45 #[.iface 115 (.pointer (some a)), .iface 108 (.agg #[])] w fun e w' => e = .returned (.bool false) ∧ w' = w := by
  have h63 := @run_callFunc_extern Tryz.prog 63 _ ReflectliteType.typeOf Tryz.func63 (by kernel_rfl) (by kernel_rfl) (by kernel_rfl) (by kernel_rfl)
  have h138 := @run_callFunc_extern Tryz.prog 138 _ cmpEntry Tryz.func138 (by kernel_rfl) (by kernel_rfl) (by kernel_rfl) (by kernel_rfl)
  have tT := z_typeOf108
  have cT := z_comparable108
  have mR := z_methodComparable
  have nI := z_noIs
  have nU := z_noUnwrap
  have nV := z_noUnwraps
  have hty := run_eql_iface_types (P := Tryz.prog) 115 108 (.pointer (some a)) (.agg #[]) Tryz.underlying69 (by decide) w
  have hn := run_eql_iface_nil_left (P := Tryz.prog) w 108 (.agg #[]) Tryz.underlying69
  go_enter Tryz.func45, Tryz.ntmps45
  go_wp2
  refine wp_loop_rounds 1 ?_
  rw [rounds_succ]
  go_wp2
  go_ret
  exact ⟨rfl, rfl⟩

set_option maxHeartbeats 4000000 in
/-- errors.As(an error of errors.New, a pointer to type 104): it is none. -/
theorem as_miss110 (e t : Addr) (w : World) (hg : w.cell? ⟨1, 0, none⟩ = some (.iface 180 (.agg #[.pointer (some ⟨7, 69, none⟩)]))) :
    Calls Tryz.prog 46 #[.iface 115 (.pointer (some e)), .iface 110 (.pointer (some t))] w fun ev w' => ev = .returned (.bool false) ∧ w' = (((w.alloc (.cells #[.pointer (some t)] 110)).alloc (.cells #[.pointer (some ⟨7, 110, none⟩), .pointer (some ⟨w.heap.size, 0, none⟩), .int .u64 150] 156)).alloc (.cells #[.pointer (some ⟨7, 110, none⟩), .pointer (some ⟨w.heap.size, 0, none⟩), .int .u64 150] 156)) := by
  have h65 := @run_callFunc_extern Tryz.prog 65 _ (fun args => ReflectliteValue.unpack (args.getD 0 (.tuple #[]))) Tryz.func65 (by kernel_rfl) (by kernel_rfl) (by kernel_rfl) (by kernel_rfl)
  have h66 := @run_callFunc_extern Tryz.prog 66 _ (ReflectliteValue.methodAny (ReflectliteValue.valueError "reflectlite.Value.Type" 0) (fun t _ _ _ => ReflectliteType.toType t)) Tryz.func66 (by kernel_rfl) (by kernel_rfl) (by kernel_rfl) (by kernel_rfl)
  have h67 := @run_callFunc_extern Tryz.prog 67 _ (ReflectliteValue.method (ReflectliteValue.valueError "reflectlite.Value.IsNil" 0) ReflectliteValue.isNil) Tryz.func67 (by kernel_rfl) (by kernel_rfl) (by kernel_rfl) (by kernel_rfl)
  have h99 := @run_callFunc_extern Tryz.prog 99 _ (ReflectliteType.abiMethod fun t => do pure (.int .u8 (← Rtype.kind t))) Tryz.func99 (by kernel_rfl) (by kernel_rfl) (by kernel_rfl) (by kernel_rfl)
  have h139 := @run_callFunc_extern Tryz.prog 139 _ (ReflectliteType.method ReflectliteType.elem) Tryz.func139 (by kernel_rfl) (by kernel_rfl) (by kernel_rfl) (by kernel_rfl)
  have h140 := @run_callFunc_extern Tryz.prog 140 _ (ReflectliteType.relation "Implements" ReflectliteType.implements_) Tryz.func140 (by kernel_rfl) (by kernel_rfl) (by kernel_rfl) (by kernel_rfl)
  have h63 := @run_callFunc_extern Tryz.prog 63 _ ReflectliteType.typeOf Tryz.func63 (by kernel_rfl) (by kernel_rfl) (by kernel_rfl) (by kernel_rfl)
  have h137 := @run_callFunc_extern Tryz.prog 137 _ (ReflectliteType.relation "AssignableTo" ReflectliteType.assignableTo) Tryz.func137 (by kernel_rfl) (by kernel_rfl) (by kernel_rfl) (by kernel_rfl)
  have tO := z_typeOf115
  have mA := z_methodAssignableTo
  have aE := z_assignable104
  have vT := z_valueOf110
  have fT := z_type110
  have mK := z_methodKind
  have mE := z_methodElem
  have mI := z_methodImplements
  have kT := z_kind110
  have kE := z_kind104
  have eT := z_elem110
  have iE := z_implements104
  have nA := z_noAs
  have nU := z_noUnwrap
  have nV := z_noUnwraps
  have n67 := z_isNil110 ⟨w.heap.size, 0, none⟩ t ((w.alloc (.cells #[.pointer (some t)] 110)).alloc (.cells #[.pointer (some ⟨7, 110, none⟩), .pointer (some ⟨w.heap.size, 0, none⟩), .int .u64 150] 156)) (by simp)
  have hlt : 1 < w.heap.size := by
    rcases Nat.lt_or_ge 1 w.heap.size with h0 | h
    · exact h0
    · simp [World.cell?, Array.getElem?_eq_none h] at hg
  have hg2 : ((w.alloc (.cells #[.pointer (some t)] 110)).alloc (.cells #[.pointer (some ⟨7, 110, none⟩), .pointer (some ⟨w.heap.size, 0, none⟩), .int .u64 150] 156)).cell? ⟨1, 0, none⟩ = some (.iface 180 (.agg #[.pointer (some ⟨7, 69, none⟩)])) := by
    rw [World.cell?_alloc_lt _ _ ⟨1, 0, none⟩ (by simp; omega), World.cell?_alloc_lt _ _ ⟨1, 0, none⟩ hlt]; exact hg
  go_enter Tryz.func46, Tryz.ntmps46
  go_wp2
  refine wp_loop_rounds 1 ?_
  rw [rounds_succ]
  go_wp2
  go_ret
  exact ⟨rfl, rfl⟩

set_option maxHeartbeats 4000000 in
/-- errors.As(an error of errors.New, a pointer to type 105): it is none. -/
theorem as_miss111 (e t : Addr) (w : World) (hg : w.cell? ⟨1, 0, none⟩ = some (.iface 180 (.agg #[.pointer (some ⟨7, 69, none⟩)]))) :
    Calls Tryz.prog 46 #[.iface 115 (.pointer (some e)), .iface 111 (.pointer (some t))] w fun ev w' => ev = .returned (.bool false) ∧ w' = (((w.alloc (.cells #[.pointer (some t)] 111)).alloc (.cells #[.pointer (some ⟨7, 111, none⟩), .pointer (some ⟨w.heap.size, 0, none⟩), .int .u64 150] 156)).alloc (.cells #[.pointer (some ⟨7, 111, none⟩), .pointer (some ⟨w.heap.size, 0, none⟩), .int .u64 150] 156)) := by
  have h65 := @run_callFunc_extern Tryz.prog 65 _ (fun args => ReflectliteValue.unpack (args.getD 0 (.tuple #[]))) Tryz.func65 (by kernel_rfl) (by kernel_rfl) (by kernel_rfl) (by kernel_rfl)
  have h66 := @run_callFunc_extern Tryz.prog 66 _ (ReflectliteValue.methodAny (ReflectliteValue.valueError "reflectlite.Value.Type" 0) (fun t _ _ _ => ReflectliteType.toType t)) Tryz.func66 (by kernel_rfl) (by kernel_rfl) (by kernel_rfl) (by kernel_rfl)
  have h67 := @run_callFunc_extern Tryz.prog 67 _ (ReflectliteValue.method (ReflectliteValue.valueError "reflectlite.Value.IsNil" 0) ReflectliteValue.isNil) Tryz.func67 (by kernel_rfl) (by kernel_rfl) (by kernel_rfl) (by kernel_rfl)
  have h99 := @run_callFunc_extern Tryz.prog 99 _ (ReflectliteType.abiMethod fun t => do pure (.int .u8 (← Rtype.kind t))) Tryz.func99 (by kernel_rfl) (by kernel_rfl) (by kernel_rfl) (by kernel_rfl)
  have h139 := @run_callFunc_extern Tryz.prog 139 _ (ReflectliteType.method ReflectliteType.elem) Tryz.func139 (by kernel_rfl) (by kernel_rfl) (by kernel_rfl) (by kernel_rfl)
  have h140 := @run_callFunc_extern Tryz.prog 140 _ (ReflectliteType.relation "Implements" ReflectliteType.implements_) Tryz.func140 (by kernel_rfl) (by kernel_rfl) (by kernel_rfl) (by kernel_rfl)
  have h63 := @run_callFunc_extern Tryz.prog 63 _ ReflectliteType.typeOf Tryz.func63 (by kernel_rfl) (by kernel_rfl) (by kernel_rfl) (by kernel_rfl)
  have h137 := @run_callFunc_extern Tryz.prog 137 _ (ReflectliteType.relation "AssignableTo" ReflectliteType.assignableTo) Tryz.func137 (by kernel_rfl) (by kernel_rfl) (by kernel_rfl) (by kernel_rfl)
  have tO := z_typeOf115
  have mA := z_methodAssignableTo
  have aE := z_assignable105
  have vT := z_valueOf111
  have fT := z_type111
  have mK := z_methodKind
  have mE := z_methodElem
  have mI := z_methodImplements
  have kT := z_kind111
  have kE := z_kind105
  have eT := z_elem111
  have iE := z_implements105
  have nA := z_noAs
  have nU := z_noUnwrap
  have nV := z_noUnwraps
  have n67 := z_isNil111 ⟨w.heap.size, 0, none⟩ t ((w.alloc (.cells #[.pointer (some t)] 111)).alloc (.cells #[.pointer (some ⟨7, 111, none⟩), .pointer (some ⟨w.heap.size, 0, none⟩), .int .u64 150] 156)) (by simp)
  have hlt : 1 < w.heap.size := by
    rcases Nat.lt_or_ge 1 w.heap.size with h0 | h
    · exact h0
    · simp [World.cell?, Array.getElem?_eq_none h] at hg
  have hg2 : ((w.alloc (.cells #[.pointer (some t)] 111)).alloc (.cells #[.pointer (some ⟨7, 111, none⟩), .pointer (some ⟨w.heap.size, 0, none⟩), .int .u64 150] 156)).cell? ⟨1, 0, none⟩ = some (.iface 180 (.agg #[.pointer (some ⟨7, 69, none⟩)])) := by
    rw [World.cell?_alloc_lt _ _ ⟨1, 0, none⟩ (by simp; omega), World.cell?_alloc_lt _ _ ⟨1, 0, none⟩ hlt]; exact hg
  go_enter Tryz.func46, Tryz.ntmps46
  go_wp2
  refine wp_loop_rounds 1 ?_
  rw [rounds_succ]
  go_wp2
  go_ret
  exact ⟨rfl, rfl⟩
end Go.Proofs.YtghjlekdibcjdaaGreatDoor
