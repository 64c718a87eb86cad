/- Contracts of the images' Bounds. -/
import Derived.Test.YtghjlekdibcjdaaGreatDoorImgC
namespace Go.Proofs.YtghjlekdibcjdaaGreatDoor
open Go.Deep Go.RowKit
set_option linter.unusedVariables false
set_option maxRecDepth 100000
theorem boundsGray (bi : Nat) (pv sv : Value) (x0 y0 x1 y1 : Int) (w : World) (h : w.heap[bi]? = some (.cells #[pv, sv, .int .i64 x0, .int .i64 y0, .int .i64 x1, .int .i64 y1] 44 (0, 0))) :
    Calls Tryz.prog 69 #[.pointer (some ⟨bi, 0, none⟩)] w fun e w' => e = .returned (rectV x0 y0 x1 y1) ∧ Kept (fun _ => True) w w' := by
  have hb : bi < w.heap.size := by
    rcases Nat.lt_or_ge bi w.heap.size with h0 | h0
    · exact h0
    · rw [Array.getElem?_eq_none h0] at h; cases h
  have K1 := (Kept.refl (fun _ => True) w).alloc (.cells #[.int .i64 0, .int .i64 0, .int .i64 0, .int .i64 0] 40)
  have h2 := (K1.block _ hb trivial).trans h
  have c2 : (w.alloc (.cells #[.int .i64 0, .int .i64 0, .int .i64 0, .int .i64 0] 40)).cell? ⟨bi, 2, none⟩ = some (.int .i64 x0) := by unfold World.cell?; simp only [h2]; rfl
  have c3 : (w.alloc (.cells #[.int .i64 0, .int .i64 0, .int .i64 0, .int .i64 0] 40)).cell? ⟨bi, 3, none⟩ = some (.int .i64 y0) := by unfold World.cell?; simp only [h2]; rfl
  have c4 : (w.alloc (.cells #[.int .i64 0, .int .i64 0, .int .i64 0, .int .i64 0] 40)).cell? ⟨bi, 4, none⟩ = some (.int .i64 x1) := by unfold World.cell?; simp only [h2]; rfl
  have c5 : (w.alloc (.cells #[.int .i64 0, .int .i64 0, .int .i64 0, .int .i64 0] 40)).cell? ⟨bi, 5, none⟩ = some (.int .i64 y1) := by unfold World.cell?; simp only [h2]; rfl
  clear h2
  unfold rectV
  go_enter Tryz.func69, Tryz.ntmps69
  go_wp2
  exact bodyPost_ret (v := .agg #[.int .i64 x0, .int .i64 y0, .int .i64 x1, .int .i64 y1]) (results_cell_row Tryz.results69 _ _ w.heap.size 40 _ (0, 0) _ rfl (heap_alloc_new _ _) Tryz.underlying40 rfl (by kernel_rfl)) rfl ⟨rfl, (Kept.refl _ w).alloc _⟩
theorem boundsRgba (bi : Nat) (pv sv : Value) (x0 y0 x1 y1 : Int) (w : World) (h : w.heap[bi]? = some (.cells #[pv, sv, .int .i64 x0, .int .i64 y0, .int .i64 x1, .int .i64 y1] 48 (0, 0))) :
    Calls Tryz.prog 75 #[.pointer (some ⟨bi, 0, none⟩)] w fun e w' => e = .returned (rectV x0 y0 x1 y1) ∧ Kept (fun _ => True) w w' := by
  have hb : bi < w.heap.size := by
    rcases Nat.lt_or_ge bi w.heap.size with h0 | h0
    · exact h0
    · rw [Array.getElem?_eq_none h0] at h; cases h
  have K1 := (Kept.refl (fun _ => True) w).alloc (.cells #[.int .i64 0, .int .i64 0, .int .i64 0, .int .i64 0] 40)
  have h2 := (K1.block _ hb trivial).trans h
  have c2 : (w.alloc (.cells #[.int .i64 0, .int .i64 0, .int .i64 0, .int .i64 0] 40)).cell? ⟨bi, 2, none⟩ = some (.int .i64 x0) := by unfold World.cell?; simp only [h2]; rfl
  have c3 : (w.alloc (.cells #[.int .i64 0, .int .i64 0, .int .i64 0, .int .i64 0] 40)).cell? ⟨bi, 3, none⟩ = some (.int .i64 y0) := by unfold World.cell?; simp only [h2]; rfl
  have c4 : (w.alloc (.cells #[.int .i64 0, .int .i64 0, .int .i64 0, .int .i64 0] 40)).cell? ⟨bi, 4, none⟩ = some (.int .i64 x1) := by unfold World.cell?; simp only [h2]; rfl
  have c5 : (w.alloc (.cells #[.int .i64 0, .int .i64 0, .int .i64 0, .int .i64 0] 40)).cell? ⟨bi, 5, none⟩ = some (.int .i64 y1) := by unfold World.cell?; simp only [h2]; rfl
  clear h2
  unfold rectV
  go_enter Tryz.func75, Tryz.ntmps75
  go_wp2
  exact bodyPost_ret (v := .agg #[.int .i64 x0, .int .i64 y0, .int .i64 x1, .int .i64 y1]) (results_cell_row Tryz.results75 _ _ w.heap.size 40 _ (0, 0) _ rfl (heap_alloc_new _ _) Tryz.underlying40 rfl (by kernel_rfl)) rfl ⟨rfl, (Kept.refl _ w).alloc _⟩
theorem boundsNrgba (bi : Nat) (pv sv : Value) (x0 y0 x1 y1 : Int) (w : World) (h : w.heap[bi]? = some (.cells #[pv, sv, .int .i64 x0, .int .i64 y0, .int .i64 x1, .int .i64 y1] 51 (0, 0))) :
    Calls Tryz.prog 115 #[.pointer (some ⟨bi, 0, none⟩)] w fun e w' => e = .returned (rectV x0 y0 x1 y1) ∧ Kept (fun _ => True) w w' := by
  have hb : bi < w.heap.size := by
    rcases Nat.lt_or_ge bi w.heap.size with h0 | h0
    · exact h0
    · rw [Array.getElem?_eq_none h0] at h; cases h
  have K1 := (Kept.refl (fun _ => True) w).alloc (.cells #[.int .i64 0, .int .i64 0, .int .i64 0, .int .i64 0] 40)
  have h2 := (K1.block _ hb trivial).trans h
  have c2 : (w.alloc (.cells #[.int .i64 0, .int .i64 0, .int .i64 0, .int .i64 0] 40)).cell? ⟨bi, 2, none⟩ = some (.int .i64 x0) := by unfold World.cell?; simp only [h2]; rfl
  have c3 : (w.alloc (.cells #[.int .i64 0, .int .i64 0, .int .i64 0, .int .i64 0] 40)).cell? ⟨bi, 3, none⟩ = some (.int .i64 y0) := by unfold World.cell?; simp only [h2]; rfl
  have c4 : (w.alloc (.cells #[.int .i64 0, .int .i64 0, .int .i64 0, .int .i64 0] 40)).cell? ⟨bi, 4, none⟩ = some (.int .i64 x1) := by unfold World.cell?; simp only [h2]; rfl
  have c5 : (w.alloc (.cells #[.int .i64 0, .int .i64 0, .int .i64 0, .int .i64 0] 40)).cell? ⟨bi, 5, none⟩ = some (.int .i64 y1) := by unfold World.cell?; simp only [h2]; rfl
  clear h2
  unfold rectV
  go_enter Tryz.func115, Tryz.ntmps115
  go_wp2
  exact bodyPost_ret (v := .agg #[.int .i64 x0, .int .i64 y0, .int .i64 x1, .int .i64 y1]) (results_cell_row Tryz.results115 _ _ w.heap.size 40 _ (0, 0) _ rfl (heap_alloc_new _ _) Tryz.underlying40 rfl (by kernel_rfl)) rfl ⟨rfl, (Kept.refl _ w).alloc _⟩
end Go.Proofs.YtghjlekdibcjdaaGreatDoor
