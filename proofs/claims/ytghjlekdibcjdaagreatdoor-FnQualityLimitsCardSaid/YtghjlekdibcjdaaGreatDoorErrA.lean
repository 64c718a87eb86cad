/- Contracts of errors.Is, errors.As and impl.code at the errors that Encode returns: nil, own{}, and an error of errors.New. -/
import Derived.Test.YtghjlekdibcjdaaGreatDoorMem
import Derived.Test.YtghjlekdibcjdaaGreatDoorProg
import Derived.WalkKit
import Derived.LaidEql
import Derived.Stop.Asserts
import Derived.RowKitTokens
namespace Go.Proofs.YtghjlekdibcjdaaGreatDoor
open Go.RowKit Go.Extern.Stop Go.Stop Go.Extern
set_option linter.unusedVariables false
/-! Closed facts on the entries for reflectlite at this program's types. -/
theorem z_typeOf115 (v : Value) (w : World) : (ReflectliteType.typeOf #[.iface 115 v]).run Tryz.prog w = .ok (.iface 180 (.agg #[.pointer (some ⟨7, 115, none⟩)])) w := by kernel_rfl
theorem z_typeOf108 (v : Value) (w : World) : (ReflectliteType.typeOf #[.iface 108 v]).run Tryz.prog w = .ok (.iface 180 (.agg #[.pointer (some ⟨7, 108, none⟩)])) w := by kernel_rfl
/-- The entry for rtype's Comparable. -/
def cmpEntry : Array Value → Sem Value := ReflectliteType.method fun t => do Rtype.noPackHeld "Comparable" t; pure (.bool (← typeInfo t).comparable)
theorem z_comparable108 (w : World) : (cmpEntry #[.agg #[.pointer (some ⟨7, 108, none⟩)]]).run Tryz.prog w = .ok (.bool true) w := by kernel_rfl
theorem z_valueOf110 (t : Addr) (w : World) : (ReflectliteValue.unpack (.iface 110 (.pointer (some t)))).run Tryz.prog w
    = .ok (.agg #[.pointer (some ⟨7, 110, none⟩), .pointer (some ⟨w.heap.size, 0, none⟩), .int .u64 150]) (w.alloc (.cells #[.pointer (some t)] 110)) := by kernel_rfl
theorem z_valueOf111 (t : Addr) (w : World) : (ReflectliteValue.unpack (.iface 111 (.pointer (some t)))).run Tryz.prog w
    = .ok (.agg #[.pointer (some ⟨7, 111, none⟩), .pointer (some ⟨w.heap.size, 0, none⟩), .int .u64 150]) (w.alloc (.cells #[.pointer (some t)] 111)) := by kernel_rfl
theorem z_type110 (a : Addr) (w : World) : (ReflectliteValue.methodAny (ReflectliteValue.valueError "reflectlite.Value.Type" 0) (fun t _ _ _ => ReflectliteType.toType t) #[.agg #[.pointer (some ⟨7, 110, none⟩), .pointer (some a), .int .u64 150]]).run Tryz.prog w
    = .ok (.iface 180 (.agg #[.pointer (some ⟨7, 110, none⟩)])) w := by kernel_rfl
theorem z_type111 (a : Addr) (w : World) : (ReflectliteValue.methodAny (ReflectliteValue.valueError "reflectlite.Value.Type" 0) (fun t _ _ _ => ReflectliteType.toType t) #[.agg #[.pointer (some ⟨7, 111, none⟩), .pointer (some a), .int .u64 150]]).run Tryz.prog w
    = .ok (.iface 180 (.agg #[.pointer (some ⟨7, 111, none⟩)])) w := by kernel_rfl
theorem z_kind110 (w : World) : ((ReflectliteType.abiMethod fun t => (fun a : Nat => Value.int IntKind.u8 (a : Int)) <$> Rtype.kind t) #[.pointer (some ⟨7, 110, none⟩)]).run Tryz.prog w = .ok (.int .u8 22) w := by kernel_rfl
theorem z_kind111 (w : World) : ((ReflectliteType.abiMethod fun t => (fun a : Nat => Value.int IntKind.u8 (a : Int)) <$> Rtype.kind t) #[.pointer (some ⟨7, 111, none⟩)]).run Tryz.prog w = .ok (.int .u8 22) w := by kernel_rfl
theorem z_kind104 (w : World) : ((ReflectliteType.abiMethod fun t => (fun a : Nat => Value.int IntKind.u8 (a : Int)) <$> Rtype.kind t) #[.pointer (some ⟨7, 104, none⟩)]).run Tryz.prog w = .ok (.int .u8 24) w := by kernel_rfl
theorem z_kind105 (w : World) : ((ReflectliteType.abiMethod fun t => (fun a : Nat => Value.int IntKind.u8 (a : Int)) <$> Rtype.kind t) #[.pointer (some ⟨7, 105, none⟩)]).run Tryz.prog w = .ok (.int .u8 24) w := by kernel_rfl
theorem z_rlm (z : Sem Value) (f : TypeId → Addr → Nat → Nat → Sem Value) (v : Value) :
    ReflectliteValue.method z f #[v] = (do match ← ReflectliteValue.parts v with | none => z | some (t, a, fl) => f t a fl (fl % 32)) := rfl
theorem z_parts110 (a : Addr) (w : World) : (ReflectliteValue.parts (.agg #[.pointer (some ⟨7, 110, none⟩), .pointer (some a), .int .u64 150])).run Tryz.prog w = .ok (some (110, a, 150)) w := by kernel_rfl
theorem z_parts111 (a : Addr) (w : World) : (ReflectliteValue.parts (.agg #[.pointer (some ⟨7, 111, none⟩), .pointer (some a), .int .u64 150])).run Tryz.prog w = .ok (some (111, a, 150)) w := by kernel_rfl
theorem z_isNil110 (a p : Addr) (W : World) (ha : W.cell? a = some (.pointer (some p))) :
    (ReflectliteValue.method (ReflectliteValue.valueError "reflectlite.Value.IsNil" 0) ReflectliteValue.isNil #[.agg #[.pointer (some ⟨7, 110, none⟩), .pointer (some a), .int .u64 150]]).run Tryz.prog W = .ok (.bool false) W := by
  rw [z_rlm]
  simp only [Sem.run_bind, z_parts110, Result.andThen]
  simp [ReflectliteValue.isNil, loadVar, isAgg, underlying, Tryz.underlying110, ha, Result.andThen]
theorem z_isNil111 (a p : Addr) (W : World) (ha : W.cell? a = some (.pointer (some p))) :
    (ReflectliteValue.method (ReflectliteValue.valueError "reflectlite.Value.IsNil" 0) ReflectliteValue.isNil #[.agg #[.pointer (some ⟨7, 111, none⟩), .pointer (some a), .int .u64 150]]).run Tryz.prog W = .ok (.bool false) W := by
  rw [z_rlm]
  simp only [Sem.run_bind, z_parts111, Result.andThen]
  simp [ReflectliteValue.isNil, loadVar, isAgg, underlying, Tryz.underlying111, ha, Result.andThen]
theorem z_methodKind (h : Value) (w : World) : (Go.method 345 180 (.agg #[h]) "Kind").run Tryz.prog w = .ok (99, h) w := by kernel_rfl
theorem z_methodElem (h : Value) (w : World) : (Go.method 345 180 (.agg #[h]) "Elem").run Tryz.prog w = .ok (139, .agg #[h]) w := by kernel_rfl
theorem z_methodImplements (h : Value) (w : World) : (Go.method 345 180 (.agg #[h]) "Implements").run Tryz.prog w = .ok (140, .agg #[h]) w := by kernel_rfl
theorem z_methodAssignableTo (h : Value) (w : World) : (Go.method 345 180 (.agg #[h]) "AssignableTo").run Tryz.prog w = .ok (137, .agg #[h]) w := by kernel_rfl
theorem z_methodComparable (h : Value) (w : World) : (Go.method 345 180 (.agg #[h]) "Comparable").run Tryz.prog w = .ok (138, .agg #[h]) w := by kernel_rfl
theorem z_elem110 (w : World) : (ReflectliteType.method ReflectliteType.elem #[.agg #[.pointer (some ⟨7, 110, none⟩)]]).run Tryz.prog w = .ok (.iface 180 (.agg #[.pointer (some ⟨7, 104, none⟩)])) w := by kernel_rfl
theorem z_elem111 (w : World) : (ReflectliteType.method ReflectliteType.elem #[.agg #[.pointer (some ⟨7, 111, none⟩)]]).run Tryz.prog w = .ok (.iface 180 (.agg #[.pointer (some ⟨7, 105, none⟩)])) w := by kernel_rfl
theorem z_implements104 (w : World) : (ReflectliteType.relation "Implements" ReflectliteType.implements_ #[.agg #[.pointer (some ⟨7, 104, none⟩)], .iface 180 (.agg #[.pointer (some ⟨7, 69, none⟩)])]).run Tryz.prog w = .ok (.bool true) w := by kernel_rfl
theorem z_implements105 (w : World) : (ReflectliteType.relation "Implements" ReflectliteType.implements_ #[.agg #[.pointer (some ⟨7, 105, none⟩)], .iface 180 (.agg #[.pointer (some ⟨7, 69, none⟩)])]).run Tryz.prog w = .ok (.bool true) w := by kernel_rfl
theorem z_assignable104 (w : World) : (ReflectliteType.relation "AssignableTo" ReflectliteType.assignableTo #[.agg #[.pointer (some ⟨7, 115, none⟩)], .iface 180 (.agg #[.pointer (some ⟨7, 104, none⟩)])]).run Tryz.prog w = .ok (.bool false) w := by kernel_rfl
theorem z_assignable105 (w : World) : (ReflectliteType.relation "AssignableTo" ReflectliteType.assignableTo #[.agg #[.pointer (some ⟨7, 115, none⟩)], .iface 180 (.agg #[.pointer (some ⟨7, 105, none⟩)])]).run Tryz.prog w = .ok (.bool false) w := by kernel_rfl
theorem z_noIs (v : Value) (xT : TypeId) (w : World) : (Instr.typeAssert (.iface 115 v) xT 182 true).run Tryz.prog w = .ok (.tuple #[.nilIface, .bool false]) w := run_typeAssert_lacksB Tryz.underlying182 (by kernel_rfl) (by kernel_rfl) v xT w
theorem z_noAs (v : Value) (xT : TypeId) (w : World) : (Instr.typeAssert (.iface 115 v) xT 191 true).run Tryz.prog w = .ok (.tuple #[.nilIface, .bool false]) w := run_typeAssert_lacksB Tryz.underlying191 (by kernel_rfl) (by kernel_rfl) v xT w
theorem z_noUnwrap (v : Value) (xT : TypeId) (w : World) : (Instr.typeAssert (.iface 115 v) xT 185 true).run Tryz.prog w = .ok (.tuple #[.nilIface, .bool false]) w := run_typeAssert_lacksB Tryz.underlying185 (by kernel_rfl) (by kernel_rfl) v xT w
theorem z_noUnwraps (v : Value) (xT : TypeId) (w : World) : (Instr.typeAssert (.iface 115 v) xT 186 true).run Tryz.prog w = .ok (.tuple #[.nilIface, .bool false]) w := run_typeAssert_lacksB Tryz.underlying186 (by kernel_rfl) (by kernel_rfl) v xT w
end Go.Proofs.YtghjlekdibcjdaaGreatDoor
