/- Texts of mine, united so that a claim holds fewer files: ErrA, ErrB, ErrC, ErrD, BigA, BigB, BigC. -/
import Derived.Test.YtghjlekdibcjdaaGreatDoorMem
import Derived.Test.YtghjlekdibcjdaaGreatDoorProg
import Derived.WalkKit
import Derived.LaidEql
import Derived.Stop.Asserts
import Derived.RowKitTokens
import Derived.Test.YtghjlekdibcjdaaGreatDoorImgA
import Derived.Test.YtghjlekdibcjdaaGreatDoorBounds
import Derived.Deep.RegionHeld3
import Derived.Test.YtghjlekdibcjdaaGreatDoorFill
/- Contracts of errors.Is, errors.As and impl.code at the errors that Encode returns: nil, own{}, and an error of errors.New. -/
namespace Go.Proofs.YtghjlekdibcjdaaGreatDoor
open Go.RowKit Go.Extern.Stop Go.Stop Go.Extern
set_option linter.unusedVariables false
/-! Closed facts on the entries for reflectlite at this program's types. -/
theorem z_typeOf115 (v : Value) (w : World) : (ReflectliteType.typeOf #[.iface 115 v]).run Tryz.prog w = .ok (.iface 180 (.agg #[.pointer (some ⟨7, 115, none⟩)])) w := by kernel_rfl
theorem z_typeOf108 (v : Value) (w : World) : (ReflectliteType.typeOf #[.iface 108 v]).run Tryz.prog w = .ok (.iface 180 (.agg #[.pointer (some ⟨7, 108, none⟩)])) w := by kernel_rfl
/-- The entry for rtype's Comparable. -/
def cmpEntry : Array Value → Sem Value := ReflectliteType.method fun t => do Rtype.noPackHeld "Comparable" t; pure (.bool (← typeInfo t).comparable)
theorem z_comparable108 (w : World) : (cmpEntry #[.agg #[.pointer (some ⟨7, 108, none⟩)]]).run Tryz.prog w = .ok (.bool true) w := by kernel_rfl
theorem z_valueOf110 (t : Addr) (w : World) : (ReflectliteValue.unpack (.iface 110 (.pointer (some t)))).run Tryz.prog w
    = .ok (.agg #[.pointer (some ⟨7, 110, none⟩), .pointer (some ⟨w.heap.size, 0, none⟩), .int .u64 150]) (w.alloc (.cells #[.pointer (some t)] 110)) := by kernel_rfl
theorem z_valueOf111 (t : Addr) (w : World) : (ReflectliteValue.unpack (.iface 111 (.pointer (some t)))).run Tryz.prog w
    = .ok (.agg #[.pointer (some ⟨7, 111, none⟩), .pointer (some ⟨w.heap.size, 0, none⟩), .int .u64 150]) (w.alloc (.cells #[.pointer (some t)] 111)) := by kernel_rfl
theorem z_type110 (a : Addr) (w : World) : (ReflectliteValue.methodAny (ReflectliteValue.valueError "reflectlite.Value.Type" 0) (fun t _ _ _ => ReflectliteType.toType t) #[.agg #[.pointer (some ⟨7, 110, none⟩), .pointer (some a), .int .u64 150]]).run Tryz.prog w
    = .ok (.iface 180 (.agg #[.pointer (some ⟨7, 110, none⟩)])) w := by kernel_rfl
theorem z_type111 (a : Addr) (w : World) : (ReflectliteValue.methodAny (ReflectliteValue.valueError "reflectlite.Value.Type" 0) (fun t _ _ _ => ReflectliteType.toType t) #[.agg #[.pointer (some ⟨7, 111, none⟩), .pointer (some a), .int .u64 150]]).run Tryz.prog w
    = .ok (.iface 180 (.agg #[.pointer (some ⟨7, 111, none⟩)])) w := by kernel_rfl
theorem z_kind110 (w : World) : ((ReflectliteType.abiMethod fun t => Functor.map (fun a : Nat => Value.int IntKind.u8 (a : Int)) (Rtype.kind t)) #[.pointer (some ⟨7, 110, none⟩)]).run Tryz.prog w = .ok (.int .u8 22) w := by kernel_rfl
theorem z_kind111 (w : World) : ((ReflectliteType.abiMethod fun t => Functor.map (fun a : Nat => Value.int IntKind.u8 (a : Int)) (Rtype.kind t)) #[.pointer (some ⟨7, 111, none⟩)]).run Tryz.prog w = .ok (.int .u8 22) w := by kernel_rfl
theorem z_kind104 (w : World) : ((ReflectliteType.abiMethod fun t => Functor.map (fun a : Nat => Value.int IntKind.u8 (a : Int)) (Rtype.kind t)) #[.pointer (some ⟨7, 104, none⟩)]).run Tryz.prog w = .ok (.int .u8 24) w := by kernel_rfl
theorem z_kind105 (w : World) : ((ReflectliteType.abiMethod fun t => Functor.map (fun a : Nat => Value.int IntKind.u8 (a : Int)) (Rtype.kind t)) #[.pointer (some ⟨7, 105, none⟩)]).run Tryz.prog w = .ok (.int .u8 24) w := by kernel_rfl
theorem z_rlm (z : Sem Value) (f : TypeId → Addr → Nat → Nat → Sem Value) (v : Value) :
    ReflectliteValue.method z f #[v] = (do match ← ReflectliteValue.parts v with | none => z | some (t, a, fl) => f t a fl (fl % 32)) := rfl
theorem z_parts110 (a : Addr) (w : World) : (ReflectliteValue.parts (.agg #[.pointer (some ⟨7, 110, none⟩), .pointer (some a), .int .u64 150])).run Tryz.prog w = .ok (some (110, a, 150)) w := by kernel_rfl
theorem z_parts111 (a : Addr) (w : World) : (ReflectliteValue.parts (.agg #[.pointer (some ⟨7, 111, none⟩), .pointer (some a), .int .u64 150])).run Tryz.prog w = .ok (some (111, a, 150)) w := by kernel_rfl
theorem z_isNil110 (a p : Addr) (W : World) (ha : W.cell? a = some (.pointer (some p))) :
    (ReflectliteValue.method (ReflectliteValue.valueError "reflectlite.Value.IsNil" 0) ReflectliteValue.isNil #[.agg #[.pointer (some ⟨7, 110, none⟩), .pointer (some a), .int .u64 150]]).run Tryz.prog W = .ok (.bool false) W := by
  rw [z_rlm]
  simp only [Sem.run_bind, z_parts110, Result.andThen]
  simp [ReflectliteValue.isNil, loadVar, isAgg, underlying, Tryz.underlying110, ha, Result.andThen]
theorem z_isNil111 (a p : Addr) (W : World) (ha : W.cell? a = some (.pointer (some p))) :
    (ReflectliteValue.method (ReflectliteValue.valueError "reflectlite.Value.IsNil" 0) ReflectliteValue.isNil #[.agg #[.pointer (some ⟨7, 111, none⟩), .pointer (some a), .int .u64 150]]).run Tryz.prog W = .ok (.bool false) W := by
  rw [z_rlm]
  simp only [Sem.run_bind, z_parts111, Result.andThen]
  simp [ReflectliteValue.isNil, loadVar, isAgg, underlying, Tryz.underlying111, ha, Result.andThen]
theorem z_methodKind (h : Value) (w : World) : (Go.method 345 180 (.agg #[h]) "Kind").run Tryz.prog w = .ok (99, h) w := by kernel_rfl
theorem z_methodElem (h : Value) (w : World) : (Go.method 345 180 (.agg #[h]) "Elem").run Tryz.prog w = .ok (139, .agg #[h]) w := by kernel_rfl
theorem z_methodImplements (h : Value) (w : World) : (Go.method 345 180 (.agg #[h]) "Implements").run Tryz.prog w = .ok (140, .agg #[h]) w := by kernel_rfl
theorem z_methodAssignableTo (h : Value) (w : World) : (Go.method 345 180 (.agg #[h]) "AssignableTo").run Tryz.prog w = .ok (137, .agg #[h]) w := by kernel_rfl
theorem z_methodComparable (h : Value) (w : World) : (Go.method 345 180 (.agg #[h]) "Comparable").run Tryz.prog w = .ok (138, .agg #[h]) w := by kernel_rfl
theorem z_elem110 (w : World) : (ReflectliteType.method ReflectliteType.elem #[.agg #[.pointer (some ⟨7, 110, none⟩)]]).run Tryz.prog w = .ok (.iface 180 (.agg #[.pointer (some ⟨7, 104, none⟩)])) w := by kernel_rfl
theorem z_elem111 (w : World) : (ReflectliteType.method ReflectliteType.elem #[.agg #[.pointer (some ⟨7, 111, none⟩)]]).run Tryz.prog w = .ok (.iface 180 (.agg #[.pointer (some ⟨7, 105, none⟩)])) w := by kernel_rfl
theorem z_implements104 (w : World) : (ReflectliteType.relation "Implements" ReflectliteType.implements_ #[.agg #[.pointer (some ⟨7, 104, none⟩)], .iface 180 (.agg #[.pointer (some ⟨7, 69, none⟩)])]).run Tryz.prog w = .ok (.bool true) w := by kernel_rfl
theorem z_implements105 (w : World) : (ReflectliteType.relation "Implements" ReflectliteType.implements_ #[.agg #[.pointer (some ⟨7, 105, none⟩)], .iface 180 (.agg #[.pointer (some ⟨7, 69, none⟩)])]).run Tryz.prog w = .ok (.bool true) w := by kernel_rfl
theorem z_assignable104 (w : World) : (ReflectliteType.relation "AssignableTo" ReflectliteType.assignableTo #[.agg #[.pointer (some ⟨7, 115, none⟩)], .iface 180 (.agg #[.pointer (some ⟨7, 104, none⟩)])]).run Tryz.prog w = .ok (.bool false) w := by kernel_rfl
theorem z_assignable105 (w : World) : (ReflectliteType.relation "AssignableTo" ReflectliteType.assignableTo #[.agg #[.pointer (some ⟨7, 115, none⟩)], .iface 180 (.agg #[.pointer (some ⟨7, 105, none⟩)])]).run Tryz.prog w = .ok (.bool false) w := by kernel_rfl
theorem z_noIs (v : Value) (xT : TypeId) (w : World) : (Instr.typeAssert (.iface 115 v) xT 182 true).run Tryz.prog w = .ok (.tuple #[.nilIface, .bool false]) w := run_typeAssert_lacksB Tryz.underlying182 (by kernel_rfl) (by kernel_rfl) v xT w
theorem z_noAs (v : Value) (xT : TypeId) (w : World) : (Instr.typeAssert (.iface 115 v) xT 191 true).run Tryz.prog w = .ok (.tuple #[.nilIface, .bool false]) w := run_typeAssert_lacksB Tryz.underlying191 (by kernel_rfl) (by kernel_rfl) v xT w
theorem z_noUnwrap (v : Value) (xT : TypeId) (w : World) : (Instr.typeAssert (.iface 115 v) xT 185 true).run Tryz.prog w = .ok (.tuple #[.nilIface, .bool false]) w := run_typeAssert_lacksB Tryz.underlying185 (by kernel_rfl) (by kernel_rfl) v xT w
theorem z_noUnwraps (v : Value) (xT : TypeId) (w : World) : (Instr.typeAssert (.iface 115 v) xT 186 true).run Tryz.prog w = .ok (.tuple #[.nilIface, .bool false]) w := run_typeAssert_lacksB Tryz.underlying186 (by kernel_rfl) (by kernel_rfl) v xT w
end Go.Proofs.YtghjlekdibcjdaaGreatDoor
/- Contracts of errors.Is at the errors that Encode returns. -/
namespace Go.Proofs.YtghjlekdibcjdaaGreatDoor
open Go.RowKit Go.Extern.Stop Go.Stop Go.Extern
set_option linter.unusedVariables false
set_option maxRecDepth 100000
/-- errors.Is(an error of errors.New, own{}). -/
theorem is_new (a : Addr) (w : World) :
    Calls Tryz.prog 45 #[.iface 115 (.pointer (some a)), .iface 108 (.agg #[])] w fun e w' => e = .returned (.bool false) ∧ w' = w := by
  have h63 := @run_callFunc_extern Tryz.prog 63 _ ReflectliteType.typeOf Tryz.func63 (by kernel_rfl) (by kernel_rfl) (by kernel_rfl) (by kernel_rfl)
  have h138 := @run_callFunc_extern Tryz.prog 138 _ cmpEntry Tryz.func138 (by kernel_rfl) (by kernel_rfl) (by kernel_rfl) (by kernel_rfl)
  have tT := z_typeOf108
  have cT := z_comparable108
  have mR := z_methodComparable
  have nI := z_noIs
  have nU := z_noUnwrap
  have nV := z_noUnwraps
  have hty := run_eql_iface_types (P := Tryz.prog) 115 108 (.pointer (some a)) (.agg #[]) Tryz.underlying69 (by decide) w
  have hn := run_eql_iface_nil_left (P := Tryz.prog) w 108 (.agg #[]) Tryz.underlying69
  go_enter Tryz.func45, Tryz.ntmps45
  go_wp2
  refine wp_loop_rounds 1 ?_
  rw [rounds_succ]
  go_wp2
  go_ret
  exact ⟨rfl, rfl⟩

set_option maxHeartbeats 4000000 in
/-- errors.As(an error of errors.New, a pointer to type 104): it is none. -/
theorem as_miss110 (e t : Addr) (w : World) (hg : w.cell? ⟨1, 0, none⟩ = some (.iface 180 (.agg #[.pointer (some ⟨7, 69, none⟩)]))) :
    Calls Tryz.prog 46 #[.iface 115 (.pointer (some e)), .iface 110 (.pointer (some t))] w fun ev w' => ev = .returned (.bool false) ∧ w' = (((w.alloc (.cells #[.pointer (some t)] 110)).alloc (.cells #[.pointer (some ⟨7, 110, none⟩), .pointer (some ⟨w.heap.size, 0, none⟩), .int .u64 150] 156)).alloc (.cells #[.pointer (some ⟨7, 110, none⟩), .pointer (some ⟨w.heap.size, 0, none⟩), .int .u64 150] 156)) := by
  have h65 := @run_callFunc_extern Tryz.prog 65 _ (fun args => ReflectliteValue.unpack (args.getD 0 (.tuple #[]))) Tryz.func65 (by kernel_rfl) (by kernel_rfl) (by kernel_rfl) (by kernel_rfl)
  have h66 := @run_callFunc_extern Tryz.prog 66 _ (ReflectliteValue.methodAny (ReflectliteValue.valueError "reflectlite.Value.Type" 0) (fun t _ _ _ => ReflectliteType.toType t)) Tryz.func66 (by kernel_rfl) (by kernel_rfl) (by kernel_rfl) (by kernel_rfl)
  have h67 := @run_callFunc_extern Tryz.prog 67 _ (ReflectliteValue.method (ReflectliteValue.valueError "reflectlite.Value.IsNil" 0) ReflectliteValue.isNil) Tryz.func67 (by kernel_rfl) (by kernel_rfl) (by kernel_rfl) (by kernel_rfl)
  have h99 := @run_callFunc_extern Tryz.prog 99 _ (ReflectliteType.abiMethod fun t => do pure (.int .u8 (← Rtype.kind t))) Tryz.func99 (by kernel_rfl) (by kernel_rfl) (by kernel_rfl) (by kernel_rfl)
  have h139 := @run_callFunc_extern Tryz.prog 139 _ (ReflectliteType.method ReflectliteType.elem) Tryz.func139 (by kernel_rfl) (by kernel_rfl) (by kernel_rfl) (by kernel_rfl)
  have h140 := @run_callFunc_extern Tryz.prog 140 _ (ReflectliteType.relation "Implements" ReflectliteType.implements_) Tryz.func140 (by kernel_rfl) (by kernel_rfl) (by kernel_rfl) (by kernel_rfl)
  have h63 := @run_callFunc_extern Tryz.prog 63 _ ReflectliteType.typeOf Tryz.func63 (by kernel_rfl) (by kernel_rfl) (by kernel_rfl) (by kernel_rfl)
  have h137 := @run_callFunc_extern Tryz.prog 137 _ (ReflectliteType.relation "AssignableTo" ReflectliteType.assignableTo) Tryz.func137 (by kernel_rfl) (by kernel_rfl) (by kernel_rfl) (by kernel_rfl)
  have tO := z_typeOf115
  have mA := z_methodAssignableTo
  have aE := z_assignable104
  have vT := z_valueOf110
  have fT := z_type110
  have mK := z_methodKind
  have mE := z_methodElem
  have mI := z_methodImplements
  have kT := z_kind110
  have kE := z_kind104
  have eT := z_elem110
  have iE := z_implements104
  have nA := z_noAs
  have nU := z_noUnwrap
  have nV := z_noUnwraps
  have n67 := z_isNil110 ⟨w.heap.size, 0, none⟩ t ((w.alloc (.cells #[.pointer (some t)] 110)).alloc (.cells #[.pointer (some ⟨7, 110, none⟩), .pointer (some ⟨w.heap.size, 0, none⟩), .int .u64 150] 156)) (by simp)
  have hlt : 1 < w.heap.size := by
    rcases Nat.lt_or_ge 1 w.heap.size with h0 | h
    · exact h0
    · simp [World.cell?, Array.getElem?_eq_none h] at hg
  have hg2 : ((w.alloc (.cells #[.pointer (some t)] 110)).alloc (.cells #[.pointer (some ⟨7, 110, none⟩), .pointer (some ⟨w.heap.size, 0, none⟩), .int .u64 150] 156)).cell? ⟨1, 0, none⟩ = some (.iface 180 (.agg #[.pointer (some ⟨7, 69, none⟩)])) := by
    rw [World.cell?_alloc_lt _ _ ⟨1, 0, none⟩ (by simp; omega), World.cell?_alloc_lt _ _ ⟨1, 0, none⟩ hlt]; exact hg
  go_enter Tryz.func46, Tryz.ntmps46
  go_wp2
  refine wp_loop_rounds 1 ?_
  rw [rounds_succ]
  go_wp2
  go_ret
  exact ⟨rfl, rfl⟩

set_option maxHeartbeats 4000000 in
/-- errors.As(an error of errors.New, a pointer to type 105): it is none. -/
theorem as_miss111 (e t : Addr) (w : World) (hg : w.cell? ⟨1, 0, none⟩ = some (.iface 180 (.agg #[.pointer (some ⟨7, 69, none⟩)]))) :
    Calls Tryz.prog 46 #[.iface 115 (.pointer (some e)), .iface 111 (.pointer (some t))] w fun ev w' => ev = .returned (.bool false) ∧ w' = (((w.alloc (.cells #[.pointer (some t)] 111)).alloc (.cells #[.pointer (some ⟨7, 111, none⟩), .pointer (some ⟨w.heap.size, 0, none⟩), .int .u64 150] 156)).alloc (.cells #[.pointer (some ⟨7, 111, none⟩), .pointer (some ⟨w.heap.size, 0, none⟩), .int .u64 150] 156)) := by
  have h65 := @run_callFunc_extern Tryz.prog 65 _ (fun args => ReflectliteValue.unpack (args.getD 0 (.tuple #[]))) Tryz.func65 (by kernel_rfl) (by kernel_rfl) (by kernel_rfl) (by kernel_rfl)
  have h66 := @run_callFunc_extern Tryz.prog 66 _ (ReflectliteValue.methodAny (ReflectliteValue.valueError "reflectlite.Value.Type" 0) (fun t _ _ _ => ReflectliteType.toType t)) Tryz.func66 (by kernel_rfl) (by kernel_rfl) (by kernel_rfl) (by kernel_rfl)
  have h67 := @run_callFunc_extern Tryz.prog 67 _ (ReflectliteValue.method (ReflectliteValue.valueError "reflectlite.Value.IsNil" 0) ReflectliteValue.isNil) Tryz.func67 (by kernel_rfl) (by kernel_rfl) (by kernel_rfl) (by kernel_rfl)
  have h99 := @run_callFunc_extern Tryz.prog 99 _ (ReflectliteType.abiMethod fun t => do pure (.int .u8 (← Rtype.kind t))) Tryz.func99 (by kernel_rfl) (by kernel_rfl) (by kernel_rfl) (by kernel_rfl)
  have h139 := @run_callFunc_extern Tryz.prog 139 _ (ReflectliteType.method ReflectliteType.elem) Tryz.func139 (by kernel_rfl) (by kernel_rfl) (by kernel_rfl) (by kernel_rfl)
  have h140 := @run_callFunc_extern Tryz.prog 140 _ (ReflectliteType.relation "Implements" ReflectliteType.implements_) Tryz.func140 (by kernel_rfl) (by kernel_rfl) (by kernel_rfl) (by kernel_rfl)
  have h63 := @run_callFunc_extern Tryz.prog 63 _ ReflectliteType.typeOf Tryz.func63 (by kernel_rfl) (by kernel_rfl) (by kernel_rfl) (by kernel_rfl)
  have h137 := @run_callFunc_extern Tryz.prog 137 _ (ReflectliteType.relation "AssignableTo" ReflectliteType.assignableTo) Tryz.func137 (by kernel_rfl) (by kernel_rfl) (by kernel_rfl) (by kernel_rfl)
  have tO := z_typeOf115
  have mA := z_methodAssignableTo
  have aE := z_assignable105
  have vT := z_valueOf111
  have fT := z_type111
  have mK := z_methodKind
  have mE := z_methodElem
  have mI := z_methodImplements
  have kT := z_kind111
  have kE := z_kind105
  have eT := z_elem111
  have iE := z_implements105
  have nA := z_noAs
  have nU := z_noUnwrap
  have nV := z_noUnwraps
  have n67 := z_isNil111 ⟨w.heap.size, 0, none⟩ t ((w.alloc (.cells #[.pointer (some t)] 111)).alloc (.cells #[.pointer (some ⟨7, 111, none⟩), .pointer (some ⟨w.heap.size, 0, none⟩), .int .u64 150] 156)) (by simp)
  have hlt : 1 < w.heap.size := by
    rcases Nat.lt_or_ge 1 w.heap.size with h0 | h
    · exact h0
    · simp [World.cell?, Array.getElem?_eq_none h] at hg
  have hg2 : ((w.alloc (.cells #[.pointer (some t)] 111)).alloc (.cells #[.pointer (some ⟨7, 111, none⟩), .pointer (some ⟨w.heap.size, 0, none⟩), .int .u64 150] 156)).cell? ⟨1, 0, none⟩ = some (.iface 180 (.agg #[.pointer (some ⟨7, 69, none⟩)])) := by
    rw [World.cell?_alloc_lt _ _ ⟨1, 0, none⟩ (by simp; omega), World.cell?_alloc_lt _ _ ⟨1, 0, none⟩ hlt]; exact hg
  go_enter Tryz.func46, Tryz.ntmps46
  go_wp2
  refine wp_loop_rounds 1 ?_
  rw [rounds_succ]
  go_wp2
  go_ret
  exact ⟨rfl, rfl⟩
end Go.Proofs.YtghjlekdibcjdaaGreatDoor
/- Contracts of impl.code at the errors that Encode returns. -/
namespace Go.Proofs.YtghjlekdibcjdaaGreatDoor
open Go.RowKit Go.Extern.Stop Go.Stop Go.Extern
set_option linter.unusedVariables false
set_option maxRecDepth 100000
theorem code_nil (w : World) : Calls Tryz.prog 30 #[.nilIface] w fun e w' => e = .returned (.int .i64 0) ∧ Kept (fun _ => True) w w' := by
  go_enter Tryz.func30, Tryz.ntmps30
  go_wp2
  go_ret
  exact ⟨rfl, ((Kept.refl _ w).alloc _).alloc _⟩
set_option maxHeartbeats 4000000 in
theorem code_new (a : Addr) (w : World) (hg : w.cell? ⟨1, 0, none⟩ = some (.iface 180 (.agg #[.pointer (some ⟨7, 69, none⟩)]))) : Calls Tryz.prog 30 #[.iface 115 (.pointer (some a))] w fun e w' => e = .returned (.int .i64 4) ∧ Kept (fun _ => True) w w' := by
  have K0 := Lib.hid (((Kept.refl (fun _ => True) w).alloc (.cells #[.string ByteArray.empty] 104)).alloc (.cells #[.string ByteArray.empty] 105))
  have G0 := Lib.hid (K0.out.cellOf hg trivial)
  clear hg
  go_enter Tryz.func30, Tryz.ntmps30
  go_wp2_with (first
    | (go_at_call 45; (with_reducible refine (is_new _ _).mono ?_); rintro e w2 ⟨rfl, rfl⟩)
    | (go_at_call 46; first
        | ((with_reducible refine (as_miss110 _ _ _ ?_).mono ?_); (first | exact G0.out); rintro e w2 ⟨rfl, rfl⟩)
        | ((with_reducible refine (as_miss111 _ _ _ ?_).mono ?_); (refine Kept.cellOf (((Kept.refl (fun _ => True) _).alloc _).alloc _ |>.alloc _) G0.out trivial); rintro e w2 ⟨rfl, rfl⟩)))
  go_ret
  exact ⟨rfl, ((((((K0.out).alloc _).alloc _).alloc _).alloc _).alloc _).alloc _⟩
end Go.Proofs.YtghjlekdibcjdaaGreatDoor
/- The contract of impl.code at the writer's own error. -/
namespace Go.Proofs.YtghjlekdibcjdaaGreatDoor
open Go.RowKit Go.Extern.Stop Go.Stop Go.Extern
set_option linter.unusedVariables false
set_option maxRecDepth 100000
/-- errors.Is(own{}, own{}). -/
theorem is_own (w : World) :
    Calls Tryz.prog 45 #[.iface 108 (.agg #[]), .iface 108 (.agg #[])] w fun e w' => e = .returned (.bool true) ∧ w' = w := by
  have h63 := @run_callFunc_extern Tryz.prog 63 _ ReflectliteType.typeOf Tryz.func63 (by kernel_rfl) (by kernel_rfl) (by kernel_rfl) (by kernel_rfl)
  have h138 := @run_callFunc_extern Tryz.prog 138 _ cmpEntry Tryz.func138 (by kernel_rfl) (by kernel_rfl) (by kernel_rfl) (by kernel_rfl)
  have tT := z_typeOf108
  have cT := z_comparable108
  have mR := z_methodComparable
  have heq : (binOp .eql 69 (.iface 108 (.agg #[])) (.iface 108 (.agg #[]))).run Tryz.prog w = .ok (.bool true) w := by kernel_rfl
  have hn := run_eql_iface_nil_left (P := Tryz.prog) w 108 (.agg #[]) Tryz.underlying69
  go_enter Tryz.func45, Tryz.ntmps45
  go_wp2
  refine wp_loop_rounds 1 ?_
  rw [rounds_succ]
  go_wp2
  go_ret
  exact ⟨rfl, rfl⟩
theorem code_own (w : World) : Calls Tryz.prog 30 #[.iface 108 (.agg #[])] w fun e w' => e = .returned (.int .i64 3) ∧ Kept (fun _ => True) w w' := by
  go_enter Tryz.func30, Tryz.ntmps30
  go_wp2_with (go_at_call 45; (with_reducible refine (is_own _).mono ?_); rintro e w2 ⟨rfl, rfl⟩)
  go_ret
  exact ⟨rfl, ((Kept.refl _ w).alloc _).alloc _⟩
end Go.Proofs.YtghjlekdibcjdaaGreatDoor
/- Encode of an image that is too large: an error. -/
namespace Go.Proofs.YtghjlekdibcjdaaGreatDoor
open Go.Deep Go.RowKit
set_option linter.unusedVariables false
set_option maxRecDepth 100000
theorem new_any (s : ByteArray) (w : World) : Calls Tryz.prog 35 #[.string s] w fun e w' => e = .returned (.iface 115 (.pointer (some ⟨w.heap.size, 0, none⟩))) ∧ Kept (fun _ => True) w w' := by
  go_enter Tryz.func35, Tryz.ntmps35
  go_wp2
  go_ret
  exact ⟨rfl, (Kept.refl _ w).alloc _⟩
set_option maxHeartbeats 2000000 in
theorem encode_wide_Gray (bi : Nat) (pv sv wv ov : Value) (x0 y0 x1 y1 : Int) (w : World) (h : w.heap[bi]? = some (.cells #[pv, sv, .int .i64 x0, .int .i64 y0, .int .i64 x1, .int .i64 y1] 44 (0, 0))) (hx : 65536 ≤ x1 - x0) (h0 : -2097152 ≤ x0 ∧ x0 ≤ 2097152) (h1 : -2097152 ≤ x1 ∧ x1 ≤ 2097152) :
    Calls Tryz.prog 29 #[wv, .iface 35 (.pointer (some ⟨bi, 0, none⟩)), ov] w fun e w' => (∃ a, e = .returned (.iface 115 (.pointer (some a)))) ∧ Kept (fun _ => True) w w' := by
  have hm : ∀ w, (method 345 35 (.pointer (some ⟨bi, 0, none⟩)) "Bounds").run Tryz.prog w = .ok (69, .pointer (some ⟨bi, 0, none⟩)) w := fun _ => by kernel_rfl
  have CB := Lib.hid (boundsGray bi pv sv x0 y0 x1 y1 w h)
  have CX := Lib.hid fun W => dx_any x0 y0 x1 y1 W (by omega) (by omega)
  clear h h0 h1
  unfold rectV at CB CX
  obtain ⟨d, hd⟩ : ∃ d, x1 - x0 = d := ⟨_, rfl⟩
  rw [hd] at CX hx
  clear hd
  go_enter Tryz.func29, Tryz.ntmps29
  go_wp2_with (first
    | (go_at_call 69; (with_reducible refine CB.out.mono ?_); rintro e w2 ⟨rfl, k2⟩; have HK := Lib.hid k2; clear k2)
    | (go_at_call 28; (with_reducible refine (CX.out _).mono ?_); rintro e w3 ⟨rfl, k3⟩; have c0 := k3.cellOf (a := ⟨w2.heap.size, 0, none⟩) (v := .int .i64 x0) (by unfold World.cell?; simp only [heap_alloc_new]; rfl) trivial; have c1 := k3.cellOf (a := ⟨w2.heap.size, 1, none⟩) (v := .int .i64 y0) (by unfold World.cell?; simp only [heap_alloc_new]; rfl) trivial; have c2 := k3.cellOf (a := ⟨w2.heap.size, 2, none⟩) (v := .int .i64 x1) (by unfold World.cell?; simp only [heap_alloc_new]; rfl) trivial; have c3 := k3.cellOf (a := ⟨w2.heap.size, 3, none⟩) (v := .int .i64 y1) (by unfold World.cell?; simp only [heap_alloc_new]; rfl) trivial; have HK3 := Lib.hid k3; clear k3)
    | (go_at_call 35; (with_reducible refine (new_any _ _).mono ?_); rintro e w5 ⟨rfl, k5⟩; have HK5 := Lib.hid k5; clear k5))
  go_ret
  exact ⟨⟨_, rfl⟩, ((HK.out.alloc _).trans HK3.out).trans HK5.out⟩
set_option maxHeartbeats 2000000 in
theorem encode_tall_Gray (bi : Nat) (pv sv wv ov : Value) (x0 y0 x1 y1 : Int) (w : World) (h : w.heap[bi]? = some (.cells #[pv, sv, .int .i64 x0, .int .i64 y0, .int .i64 x1, .int .i64 y1] 44 (0, 0))) (hx : x1 - x0 < 65536) (hy : 65536 ≤ y1 - y0) (h2 : -2097152 ≤ y0 ∧ y0 ≤ 2097152) (h3 : -2097152 ≤ y1 ∧ y1 ≤ 2097152) (h0 : -2097152 ≤ x0 ∧ x0 ≤ 2097152) (h1 : -2097152 ≤ x1 ∧ x1 ≤ 2097152) :
    Calls Tryz.prog 29 #[wv, .iface 35 (.pointer (some ⟨bi, 0, none⟩)), ov] w fun e w' => (∃ a, e = .returned (.iface 115 (.pointer (some a)))) ∧ Kept (fun _ => True) w w' := by
  have hm : ∀ w, (method 345 35 (.pointer (some ⟨bi, 0, none⟩)) "Bounds").run Tryz.prog w = .ok (69, .pointer (some ⟨bi, 0, none⟩)) w := fun _ => by kernel_rfl
  have CB := Lib.hid (boundsGray bi pv sv x0 y0 x1 y1 w h)
  have CX := Lib.hid fun W => dx_any x0 y0 x1 y1 W (by omega) (by omega)
  have CY := Lib.hid fun W => dy_any x0 y0 x1 y1 W (by omega) (by omega)
  clear h h0 h1 h2 h3
  unfold rectV at CB CX CY
  obtain ⟨d, hd⟩ : ∃ d, x1 - x0 = d := ⟨_, rfl⟩
  rw [hd] at CX hx
  clear hd
  obtain ⟨dd, hdd⟩ : ∃ dd, y1 - y0 = dd := ⟨_, rfl⟩
  rw [hdd] at CY hy
  clear hdd
  go_enter Tryz.func29, Tryz.ntmps29
  go_wp2_with (first
    | (go_at_call 69; (with_reducible refine CB.out.mono ?_); rintro e w2 ⟨rfl, k2⟩; have HK := Lib.hid k2; clear k2)
    | (go_at_call 28; (with_reducible refine (CX.out _).mono ?_); rintro e w3 ⟨rfl, k3⟩; have c0 := k3.cellOf (a := ⟨w2.heap.size, 0, none⟩) (v := .int .i64 x0) (by unfold World.cell?; simp only [heap_alloc_new]; rfl) trivial; have c1 := k3.cellOf (a := ⟨w2.heap.size, 1, none⟩) (v := .int .i64 y0) (by unfold World.cell?; simp only [heap_alloc_new]; rfl) trivial; have c2 := k3.cellOf (a := ⟨w2.heap.size, 2, none⟩) (v := .int .i64 x1) (by unfold World.cell?; simp only [heap_alloc_new]; rfl) trivial; have c3 := k3.cellOf (a := ⟨w2.heap.size, 3, none⟩) (v := .int .i64 y1) (by unfold World.cell?; simp only [heap_alloc_new]; rfl) trivial; have HK3 := Lib.hid k3; clear k3)
    | (go_at_call 34; (with_reducible refine (CY.out _).mono ?_); rintro e w4 ⟨rfl, k4⟩; have HK4 := Lib.hid k4; clear k4)
    | (go_at_call 35; (with_reducible refine (new_any _ _).mono ?_); rintro e w5 ⟨rfl, k5⟩; have HK5 := Lib.hid k5; clear k5))
  go_ret
  exact ⟨⟨_, rfl⟩, (((HK.out.alloc _).trans HK3.out).trans HK4.out).trans HK5.out⟩
set_option maxHeartbeats 2000000 in
theorem encode_wide_Rgba (bi : Nat) (pv sv wv ov : Value) (x0 y0 x1 y1 : Int) (w : World) (h : w.heap[bi]? = some (.cells #[pv, sv, .int .i64 x0, .int .i64 y0, .int .i64 x1, .int .i64 y1] 48 (0, 0))) (hx : 65536 ≤ x1 - x0) (h0 : -2097152 ≤ x0 ∧ x0 ≤ 2097152) (h1 : -2097152 ≤ x1 ∧ x1 ≤ 2097152) :
    Calls Tryz.prog 29 #[wv, .iface 46 (.pointer (some ⟨bi, 0, none⟩)), ov] w fun e w' => (∃ a, e = .returned (.iface 115 (.pointer (some a)))) ∧ Kept (fun _ => True) w w' := by
  have hm : ∀ w, (method 345 46 (.pointer (some ⟨bi, 0, none⟩)) "Bounds").run Tryz.prog w = .ok (75, .pointer (some ⟨bi, 0, none⟩)) w := fun _ => by kernel_rfl
  have CB := Lib.hid (boundsRgba bi pv sv x0 y0 x1 y1 w h)
  have CX := Lib.hid fun W => dx_any x0 y0 x1 y1 W (by omega) (by omega)
  clear h h0 h1
  unfold rectV at CB CX
  obtain ⟨d, hd⟩ : ∃ d, x1 - x0 = d := ⟨_, rfl⟩
  rw [hd] at CX hx
  clear hd
  go_enter Tryz.func29, Tryz.ntmps29
  go_wp2_with (first
    | (go_at_call 75; (with_reducible refine CB.out.mono ?_); rintro e w2 ⟨rfl, k2⟩; have HK := Lib.hid k2; clear k2)
    | (go_at_call 28; (with_reducible refine (CX.out _).mono ?_); rintro e w3 ⟨rfl, k3⟩; have c0 := k3.cellOf (a := ⟨w2.heap.size, 0, none⟩) (v := .int .i64 x0) (by unfold World.cell?; simp only [heap_alloc_new]; rfl) trivial; have c1 := k3.cellOf (a := ⟨w2.heap.size, 1, none⟩) (v := .int .i64 y0) (by unfold World.cell?; simp only [heap_alloc_new]; rfl) trivial; have c2 := k3.cellOf (a := ⟨w2.heap.size, 2, none⟩) (v := .int .i64 x1) (by unfold World.cell?; simp only [heap_alloc_new]; rfl) trivial; have c3 := k3.cellOf (a := ⟨w2.heap.size, 3, none⟩) (v := .int .i64 y1) (by unfold World.cell?; simp only [heap_alloc_new]; rfl) trivial; have HK3 := Lib.hid k3; clear k3)
    | (go_at_call 35; (with_reducible refine (new_any _ _).mono ?_); rintro e w5 ⟨rfl, k5⟩; have HK5 := Lib.hid k5; clear k5))
  go_ret
  exact ⟨⟨_, rfl⟩, ((HK.out.alloc _).trans HK3.out).trans HK5.out⟩
set_option maxHeartbeats 2000000 in
theorem encode_tall_Rgba (bi : Nat) (pv sv wv ov : Value) (x0 y0 x1 y1 : Int) (w : World) (h : w.heap[bi]? = some (.cells #[pv, sv, .int .i64 x0, .int .i64 y0, .int .i64 x1, .int .i64 y1] 48 (0, 0))) (hx : x1 - x0 < 65536) (hy : 65536 ≤ y1 - y0) (h2 : -2097152 ≤ y0 ∧ y0 ≤ 2097152) (h3 : -2097152 ≤ y1 ∧ y1 ≤ 2097152) (h0 : -2097152 ≤ x0 ∧ x0 ≤ 2097152) (h1 : -2097152 ≤ x1 ∧ x1 ≤ 2097152) :
    Calls Tryz.prog 29 #[wv, .iface 46 (.pointer (some ⟨bi, 0, none⟩)), ov] w fun e w' => (∃ a, e = .returned (.iface 115 (.pointer (some a)))) ∧ Kept (fun _ => True) w w' := by
  have hm : ∀ w, (method 345 46 (.pointer (some ⟨bi, 0, none⟩)) "Bounds").run Tryz.prog w = .ok (75, .pointer (some ⟨bi, 0, none⟩)) w := fun _ => by kernel_rfl
  have CB := Lib.hid (boundsRgba bi pv sv x0 y0 x1 y1 w h)
  have CX := Lib.hid fun W => dx_any x0 y0 x1 y1 W (by omega) (by omega)
  have CY := Lib.hid fun W => dy_any x0 y0 x1 y1 W (by omega) (by omega)
  clear h h0 h1 h2 h3
  unfold rectV at CB CX CY
  obtain ⟨d, hd⟩ : ∃ d, x1 - x0 = d := ⟨_, rfl⟩
  rw [hd] at CX hx
  clear hd
  obtain ⟨dd, hdd⟩ : ∃ dd, y1 - y0 = dd := ⟨_, rfl⟩
  rw [hdd] at CY hy
  clear hdd
  go_enter Tryz.func29, Tryz.ntmps29
  go_wp2_with (first
    | (go_at_call 75; (with_reducible refine CB.out.mono ?_); rintro e w2 ⟨rfl, k2⟩; have HK := Lib.hid k2; clear k2)
    | (go_at_call 28; (with_reducible refine (CX.out _).mono ?_); rintro e w3 ⟨rfl, k3⟩; have c0 := k3.cellOf (a := ⟨w2.heap.size, 0, none⟩) (v := .int .i64 x0) (by unfold World.cell?; simp only [heap_alloc_new]; rfl) trivial; have c1 := k3.cellOf (a := ⟨w2.heap.size, 1, none⟩) (v := .int .i64 y0) (by unfold World.cell?; simp only [heap_alloc_new]; rfl) trivial; have c2 := k3.cellOf (a := ⟨w2.heap.size, 2, none⟩) (v := .int .i64 x1) (by unfold World.cell?; simp only [heap_alloc_new]; rfl) trivial; have c3 := k3.cellOf (a := ⟨w2.heap.size, 3, none⟩) (v := .int .i64 y1) (by unfold World.cell?; simp only [heap_alloc_new]; rfl) trivial; have HK3 := Lib.hid k3; clear k3)
    | (go_at_call 34; (with_reducible refine (CY.out _).mono ?_); rintro e w4 ⟨rfl, k4⟩; have HK4 := Lib.hid k4; clear k4)
    | (go_at_call 35; (with_reducible refine (new_any _ _).mono ?_); rintro e w5 ⟨rfl, k5⟩; have HK5 := Lib.hid k5; clear k5))
  go_ret
  exact ⟨⟨_, rfl⟩, (((HK.out.alloc _).trans HK3.out).trans HK4.out).trans HK5.out⟩
end Go.Proofs.YtghjlekdibcjdaaGreatDoor
/- impl.encoded of an image that is too large. -/
namespace Go.Proofs.YtghjlekdibcjdaaGreatDoor
open Go.Deep Go.RowKit
set_option linter.unusedVariables false
set_option maxRecDepth 100000
set_option maxHeartbeats 2000000 in
theorem encoded_err (img : Value) (q l : Int) (w : World) (hg : w.cell? ⟨1, 0, none⟩ = some (.iface 180 (.agg #[.pointer (some ⟨7, 69, none⟩)])))
    (hE : ∀ wv ov W, Kept (fun _ => True) w W → Calls Tryz.prog 29 #[wv, img, ov] W fun e w' => (∃ a, e = .returned (.iface 115 (.pointer (some a)))) ∧ Kept (fun _ => True) W w') :
    Calls Tryz.prog 19 #[img, .int .i64 q, .int .i64 l] w fun e w' => e = .returned (.tuple #[.slice none 0 0, .int .i64 4]) ∧ Kept (fun _ => True) w w' := by
  have HE := Lib.hid hE
  have HG := Lib.hid hg
  clear hE hg
  go_enter Tryz.func19, Tryz.ntmps19
  go_wp2_with (go_at_call 29; (with_reducible refine (HE.out _ _ _ ?_).mono ?_); (first | exact ((Kept.refl _ _).alloc _).alloc _); rintro e w2 ⟨⟨a, rfl⟩, k2⟩; have HK := Lib.hid k2; clear k2)
  have K1 := ((Kept.refl (fun _ => True) w).alloc (.cells #[.slice none 0 0, .int .i64 l, .bool false] 67)).alloc (.cells #[.int .i64 q] 73)
  have KW := Lib.hid (K1.trans HK.out)
  have cg := KW.out.cellOf HG.out trivial
  have cB := HK.out.cellOf (a := ⟨w.heap.size, 0, none⟩) (v := .slice none 0 0) (by rw [World.cell?_alloc_lt _ _ ⟨w.heap.size, 0, none⟩ (by simp)]; unfold World.cell?; simp only [heap_alloc_new]; rfl) trivial
  clear K1 HK HG HE
  generalize w.heap.size = B at *
  go_region_held3 (fun w' => w'.cell? ⟨B, 0, none⟩ = some (.slice none 0 0) ∧ w'.cell? ⟨1, 0, none⟩ = some (.iface 180 (.agg #[.pointer (some ⟨7, 69, none⟩)])))
    (first | go_keep | (go_split_ands; refine ⟨?_, ?_⟩ <;> (refine Kept.cellOf k2 ?_ trivial; assumption)))
    (first
      | (go_at_call 30; (with_reducible refine (code_new _ _ ?_).mono ?_); (first | assumption); rintro e w3 ⟨rfl, k2⟩; have HKm := Lib.hid k2))
  all_goals
    have K := KW.out.drew.trans HKm.out
    clear KW HKm
    go_wp2
    go_ret2
    exact ⟨rfl, K⟩
end Go.Proofs.YtghjlekdibcjdaaGreatDoor
/- impl.EncodeGray of an image that is too large. -/
namespace Go.Proofs.YtghjlekdibcjdaaGreatDoor
open Go.Deep Go.RowKit
set_option linter.unusedVariables false
set_option maxRecDepth 100000
set_option maxHeartbeats 4000000 in
theorem big_gray (wd hg : Nat) (q : Int) (w : World) (hG : w.cell? ⟨1, 0, none⟩ = some (.iface 180 (.agg #[.pointer (some ⟨7, 69, none⟩)]))) (h1 : 1 ≤ wd) (h2 : 1 ≤ hg) (h3 : wd ≤ 131072) (h4 : hg ≤ 131072) (h5 : wd * hg ≤ 131072) (h6 : 65536 ≤ wd ∨ 65536 ≤ hg) :
    Calls Tryz.prog 10 #[.slice none 0 0, .int .i64 0, .int .i64 0, .int .i64 (wd : Int), .int .i64 (hg : Int), .int .i64 q, .int .i64 (-1)] w fun e w' => e = .returned (.tuple #[.slice none 0 0, .int .i64 4]) ∧ Kept (fun _ => True) w w' := by
  have CR := Lib.hid fun W => rect_any 0 0 (wd : Int) (hg : Int) W (by omega) (by omega)
  have CN := Lib.hid fun W => newGray_any 0 0 (wd : Int) (hg : Int) wd hg W (by omega) (by omega) (by omega) (by omega) (by omega) (by omega) (by omega)
  have ew : IntKind.i64.wrap (wd : Int) = (wd : Int) := IntWalk.i64_in _ ⟨by omega, by omega⟩
  have eh : IntKind.i64.wrap (hg : Int) = (hg : Int) := IntWalk.i64_in _ ⟨by omega, by omega⟩
  have HH := Lib.hid (And.intro h1 (And.intro h3 (And.intro h4 (And.intro h5 h6))))
  have HG := Lib.hid hG
  clear h1 h2 h3 h4 h5 h6 hG
  unfold rectV at CR CN
  go_enter Tryz.func10, Tryz.ntmps10
  go_wp2_with (first
    | (go_at_call 17; (with_reducible refine (CR.out _).mono ?_); rintro e w2 ⟨rfl, k2⟩; have HK2 := Lib.hid k2; clear k2)
    | (go_at_call 16; (with_reducible refine (CN.out _).mono ?_); rintro e w3 ⟨bp, bi, rfl, k3⟩; have HK3 := Lib.hid k3; clear k3))
  have hne : bi ≠ bp := fun e => by
    obtain ⟨c, hc, -, -⟩ := HK3.out.pix
    rw [← e, HK3.out.img] at hc
    cases hc
  have c0 : w3.cell? ⟨bi, 0, none⟩ = some (.slice (some ⟨bp, 0, none⟩) (wd * hg) (wd * hg)) := by unfold World.cell?; simp only [HK3.out.img]; rfl
  have c1 : w3.cell? ⟨bi, 1, none⟩ = some (.int .i64 (wd : Int)) := by unfold World.cell?; simp only [HK3.out.img]; rfl
  have KW := HK2.out.trans HK3.out.kept
  have hrow : w3.drew.rowIs bp 5 (wd * hg) _ := HK3.out.pix
  have CF := Lib.hid (fill_nil bp wd hg _ w3.drew hrow (by have := HH.out; omega) (by have := HH.out; omega) (by have := HH.out; omega))
  have himg := HK3.out.img
  have HI := Lib.hid himg
  have HKW := Lib.hid KW
  have HNE := Lib.hid hne
  have hlp := HK3.out.lp
  have hbw : w2.heap.size ≤ bp := hlp
  have hw2 := HK2.out.size
  have HBP : Hid (w.heap.size ≤ bp) := Lib.hid (by omega)
  clear himg KW hne hrow CR CN hlp hbw hw2 ew eh HK3 HK2
  have hg3 := HKW.out.cellOf HG.out trivial
  have h1lt : 1 < w.heap.size := block_lt_of_cell HG.out
  have hbi : bi < w3.heap.size := by
    rcases Nat.lt_or_ge bi w3.heap.size with h0 | h0
    · exact h0
    · have := HI.out; rw [Array.getElem?_eq_none h0] at this; cases this
  have CE : Hid (∀ W, Kept (fun k => k ≠ bp) w3.drew W → Calls Tryz.prog 19 #[.iface 35 (.pointer (some ⟨bi, 0, none⟩)), .int .i64 q, .int .i64 (-1)] W fun e w' => e = .returned (.tuple #[.slice none 0 0, .int .i64 4]) ∧ Kept (fun _ => True) W w') := Lib.hid fun W k => by
    have hW := (k.block bi hbi HNE.out).trans HI.out
    refine encoded_err _ q (-1) W (k.cellOf hg3 (by have := HBP.out; show 1 ≠ bp; omega)) fun wv ov W' k' => ?_
    have hW' := (k'.block bi (by have := k.size; exact Nat.lt_of_lt_of_le hbi this) trivial).trans hW
    obtain ⟨h1, h3, h4, h5, h6⟩ := HH.out
    by_cases hb : 65536 ≤ wd
    · exact encode_wide_Gray bi _ _ wv ov 0 0 (wd : Int) (hg : Int) W' hW' (by omega) (by omega) (by omega)
    · exact encode_tall_Gray bi _ _ wv ov 0 0 (wd : Int) (hg : Int) W' hW' (by omega) (by omega) (by omega) (by omega) (by omega) (by omega)
  clear hg3 h1lt hbi
  go_still_tail 11, (by kernel_rfl)
  change wpList _ _ _ _ _ w3.drew
  clear c0 c1
  go_wp2_with (first
    | (go_at_call 18; (with_reducible refine CF.out.mono ?_); rintro e w4 ⟨rfl, k4, r4⟩; have HK4 := Lib.hid k4; clear k4 r4)
    | (go_at_call 19; (with_reducible refine (CE.out _ HK4.out).mono ?_); rintro e w5 ⟨rfl, k5⟩; have HK5 := Lib.hid k5; clear k5))
  go_ret2
  refine ⟨rfl, ?_⟩
  have hbp := HBP.out
  exact (HKW.out.drew.trans' HK4.out fun k hk _ => by omega).trans HK5.out
end Go.Proofs.YtghjlekdibcjdaaGreatDoor
