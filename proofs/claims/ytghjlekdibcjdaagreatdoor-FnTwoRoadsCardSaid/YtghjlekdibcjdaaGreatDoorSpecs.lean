/- The contract of theHuffmanSpec (printed by specs.py). -/
import Derived.Test.YtghjlekdibcjdaaGreatDoorHuff
namespace Go.Proofs.YtghjlekdibcjdaaGreatDoor
open Go.Deep Go.RowKit
set_option linter.unusedVariables false
section
variable {P : Program} {ops : Array Oper} {rest : List Oper} {op : Oper} {a : Act} {w : World} {Q : Exit → Act → World → Prop}
/-- An operation whose run is known. -/
theorem wpList_run (hgd : op.guard = none) (v : Value) (w2 : World) (hrun : (execOp a.eval op).run P w = .ok (.value v) w2) (h : wpList P ops Q rest (a.put op.dst v) w2) : wpList P ops Q (op :: rest) a w :=
  wpList_plain hgd fun K hK => by
    unfold Oper.wp
    rw [hrun]
    exact hK _ _ h
/-- The same where the world stays. -/
theorem wpList_same (hgd : op.guard = none) (v : Value) (hrun : (execOp a.eval op).run P w = .ok (.value v) w) (h : wpList P ops Q rest (a.put op.dst v) w) : wpList P ops Q (op :: rest) a w := wpList_run hgd v w hrun h
/-- A variable of a great type is laid. -/
theorem wpList_alloc_agg (hgd : op.guard = none) (ty : TypeId) (c : Array Value) (H : Nat) (hH : w.heap.size = H) (hrun : (execOp a.eval op).run P w = .ok (.value (.pointer (some ⟨w.heap.size, 0, none⟩))) (w.alloc (.cells c ty)))
    (h : wpList P ops Q rest (a.put op.dst (.pointer (some ⟨H, 0, none⟩))) (w.alloc (.cells c ty))) : wpList P ops Q (op :: rest) a w :=
  wpList_run hgd _ _ hrun (by rw [hH]; exact h)
/-- A slice of constants is laid. -/
theorem wpList_slice_agg (hgd : op.guard = none) (e : TypeId) (n : Nat) (c : Array Value) (H : Nat) (hH : w.heap.size = H) (hrun : (execOp a.eval op).run P w = .ok (.value (.slice (some ⟨w.heap.size, 0, none⟩) n n)) (w.alloc (.cells c e)))
    (h : wpList P ops Q rest (a.put op.dst (.slice (some ⟨H, 0, none⟩) n n)) (w.alloc (.cells c e))) : wpList P ops Q (op :: rest) a w :=
  wpList_run hgd _ _ hrun (by rw [hH]; exact h)
end
theorem then_normal {K : Act → World → Prop} {Q : Exit → Act → World → Prop} {a : Act} {w : World} (h : K a w) : Exit.then K Q .normal a w := h
def cntN (h i : Nat) : Nat := (cntL h).getD i 0
def valN (h i : Nat) : Nat := (valL h).getD i 0
def valLen : Nat → Nat
  | 0 => 12
  | 1 => 162
  | 2 => 12
  | _ => 162
/-- The cells of a huffmanSpec whose values lie in block b. -/
def specF (h b : Nat) : Nat → Value := fun j => if j < 16 then .int .u8 (cntN h j : Int) else .slice (some ⟨b, 0, none⟩) (valLen h) (valLen h)
/-- The cells of all four. -/
def specsF (b : Nat → Nat) : Nat → Value := fun j => specF (j / 17) (b (j / 17)) (j % 17)
def specZ : Nat → Value := fun j => if j % 17 < 16 then .int .u8 0 else .slice none 0 0
theorem size120 : (Tryz.prog.info? 120).map (·.size) = some 68 := by kernel_rfl
theorem specsF_one (b : Nat → Nat) (i : Nat) : (specsF b i).oneCell' = true := by
  unfold specsF specF
  split <;> rfl
theorem build119 (h b : Nat) (hh : h < 4) (w : World) : (Instr.build 119 #[(0, .agg (agg 16 (ints .u8 fun i => (cntN h i : Int)))), (1, .slice (some ⟨b, 0, none⟩) (valLen h) (valLen h))]).run Tryz.prog w = .ok (.agg (agg 17 (specF h b))) w := by
  obtain rfl | rfl | rfl | rfl : h = 0 ∨ h = 1 ∨ h = 2 ∨ h = 3 := by omega
  all_goals kernel_rfl
theorem build120 (b : Nat → Nat) (w : World) : (Instr.build 120 #[(0, .agg (agg 17 (specF 0 (b 0)))), (1, .agg (agg 17 (specF 1 (b 1)))), (2, .agg (agg 17 (specF 2 (b 2)))), (3, .agg (agg 17 (specF 3 (b 3))))]).run Tryz.prog w = .ok (.agg (agg 68 (specsF b))) w := by kernel_rfl
/-- The values' rows. -/
def SpecRows (b : Nat → Nat) (w : World) : Prop := ∀ h, h < 4 → w.rowIs (b h) 5 (valLen h) (ints .u8 fun i => (valN h i : Int))
theorem specs_laid (w : World) (H : Nat) (hH : w.heap.size = H) : SpecRows (fun h => H + 1 + h) (((((w.alloc (.cells (agg 68 specZ) 120)).alloc (.cells (agg 12 (ints .u8 fun i => (valN 0 i : Int))) 5)).alloc (.cells (agg 162 (ints .u8 fun i => (valN 1 i : Int))) 5)).alloc (.cells (agg 12 (ints .u8 fun i => (valN 2 i : Int))) 5)).alloc (.cells (agg 162 (ints .u8 fun i => (valN 3 i : Int))) 5)) := by
  intro h hh
  have r0 := rowIs_agg (w.alloc (.cells (agg 68 specZ) 120)) 5 12 (ints .u8 fun i => (valN 0 i : Int))
  have r1 := rowIs_agg ((w.alloc (.cells (agg 68 specZ) 120)).alloc (.cells (agg 12 (ints .u8 fun i => (valN 0 i : Int))) 5)) 5 162 (ints .u8 fun i => (valN 1 i : Int))
  have r2 := rowIs_agg (((w.alloc (.cells (agg 68 specZ) 120)).alloc (.cells (agg 12 (ints .u8 fun i => (valN 0 i : Int))) 5)).alloc (.cells (agg 162 (ints .u8 fun i => (valN 1 i : Int))) 5)) 5 12 (ints .u8 fun i => (valN 2 i : Int))
  have r3 := rowIs_agg ((((w.alloc (.cells (agg 68 specZ) 120)).alloc (.cells (agg 12 (ints .u8 fun i => (valN 0 i : Int))) 5)).alloc (.cells (agg 162 (ints .u8 fun i => (valN 1 i : Int))) 5)).alloc (.cells (agg 12 (ints .u8 fun i => (valN 2 i : Int))) 5)) 5 162 (ints .u8 fun i => (valN 3 i : Int))
  simp only [World.size_alloc, hH] at r0 r1 r2 r3
  obtain rfl | rfl | rfl | rfl : h = 0 ∨ h = 1 ∨ h = 2 ∨ h = 3 := by omega
  · exact ((r0.alloc _).alloc _).alloc _
  · exact (r1.alloc _).alloc _
  · exact r2.alloc _
  · exact r3
set_option maxHeartbeats 400000 in
set_option maxRecDepth 100000 in
theorem specs_any (w : World) : Calls Tryz.prog 48 #[] w fun e w' => ∃ b : Nat → Nat, e = .returned (.agg (agg 68 (specsF b))) ∧ SpecRows b w' ∧ (∀ h, h < 4 → w.heap.size ≤ b h) ∧ Kept (fun _ => True) w w' := by
  obtain ⟨H, hH⟩ : ∃ H, w.heap.size = H := ⟨_, rfl⟩
  have hrow := specs_laid w H hH
  have hr0 : (((((w.alloc (.cells (agg 68 specZ) 120)).alloc (.cells (agg 12 (ints .u8 fun i => (valN 0 i : Int))) 5)).alloc (.cells (agg 162 (ints .u8 fun i => (valN 1 i : Int))) 5)).alloc (.cells (agg 12 (ints .u8 fun i => (valN 2 i : Int))) 5)).alloc (.cells (agg 162 (ints .u8 fun i => (valN 3 i : Int))) 5)).rowIs H 120 68 specZ := by
    have := rowIs_agg w 120 68 specZ
    rw [hH] at this
    exact (((this.alloc _).alloc _).alloc _).alloc _
  have hk0 := (((((Kept.refl (fun _ => True) w).alloc (.cells (agg 68 specZ) 120)).alloc (.cells (agg 12 (ints .u8 fun i => (valN 0 i : Int))) 5)).alloc (.cells (agg 162 (ints .u8 fun i => (valN 1 i : Int))) 5)).alloc (.cells (agg 12 (ints .u8 fun i => (valN 2 i : Int))) 5)).alloc (.cells (agg 162 (ints .u8 fun i => (valN 3 i : Int))) 5)
  have HR := Lib.hid (And.intro hrow (And.intro hr0 hk0))
  clear hrow hr0 hk0
  go_enter Tryz.func48, Tryz.ntmps48
  refine wp_seq ?_
  refine wp_region_list ?_
  refine wpList_alloc_agg rfl 120 (agg 68 specZ) H hH (by kernel_rfl) ?_
  refine wpList_nil (then_normal ?_)
  refine wp_seq ?_
  refine wp_region_list ?_
  refine wpList_same rfl (.agg (agg 16 (ints .u8 fun i => (cntN 0 i : Int)))) (by kernel_rfl) ?_
  refine wpList_slice_agg rfl 5 12 (agg 12 (ints .u8 fun i => (valN 0 i : Int))) (H + 1) (by simp [hH]) (by kernel_rfl) ?_
  refine wpList_same rfl (.agg (agg 17 (specF 0 (H + 1)))) (by kernel_rfl) ?_
  refine wpList_same rfl (.agg (agg 16 (ints .u8 fun i => (cntN 1 i : Int)))) (by kernel_rfl) ?_
  refine wpList_slice_agg rfl 5 162 (agg 162 (ints .u8 fun i => (valN 1 i : Int))) (H + 2) (by simp [hH]) (by kernel_rfl) ?_
  refine wpList_same rfl (.agg (agg 17 (specF 1 (H + 2)))) (by kernel_rfl) ?_
  refine wpList_same rfl (.agg (agg 16 (ints .u8 fun i => (cntN 2 i : Int)))) (by kernel_rfl) ?_
  refine wpList_slice_agg rfl 5 12 (agg 12 (ints .u8 fun i => (valN 2 i : Int))) (H + 3) (by simp [hH]) (by kernel_rfl) ?_
  refine wpList_same rfl (.agg (agg 17 (specF 2 (H + 3)))) (by kernel_rfl) ?_
  refine wpList_same rfl (.agg (agg 16 (ints .u8 fun i => (cntN 3 i : Int)))) (by kernel_rfl) ?_
  refine wpList_slice_agg rfl 5 162 (agg 162 (ints .u8 fun i => (valN 3 i : Int))) (H + 4) (by simp [hH]) (by kernel_rfl) ?_
  refine wpList_same rfl (.agg (agg 17 (specF 3 (H + 4)))) (by kernel_rfl) ?_
  refine wpList_same rfl (.agg (agg 68 (specsF fun h => H + 1 + h))) (by kernel_rfl) ?_
  with_reducible refine wpList_store_new (a := _) ?_ 120 (.tmp 0) (.tmp 13) ?_ H 68 (g := specsF fun h => H + 1 + h) ?_ ?_ HR.out.2.1 size120 (specsF_one _) ?_
  · rfl
  · rfl
  · kernel_rfl
  · kernel_rfl
  · intro w2 k2 s2 r2
    with_reducible refine wpList_nil (then_normal ?_)
    refine wp_ret ?_
    refine bodyPost_ret (v := .agg (agg 68 (specsF fun h => H + 1 + h))) (results_rowIs Tryz.results48 r2 (by kernel_rfl) Tryz.underlying120 (by kernel_rfl) size120) (by kernel_rfl) ?_
    exact ⟨fun h => H + 1 + h, rfl, fun h hh => k2.row (HR.out.1 h hh) (by show H + 1 + h ≠ H; omega), fun h _ => by show w.heap.size ≤ H + 1 + h; omega, HR.out.2.2.trans' k2 fun i hi _ => by omega⟩
end Go.Proofs.YtghjlekdibcjdaaGreatDoor
