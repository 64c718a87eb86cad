/- Encode of an image that is too large: an error. -/
import Derived.Test.YtghjlekdibcjdaaGreatDoorBounds
namespace Go.Proofs.YtghjlekdibcjdaaGreatDoor
open Go.Deep Go.RowKit
set_option linter.unusedVariables false
set_option maxRecDepth 100000
theorem new_any (s : ByteArray) (w : World) : Calls Tryz.prog 35 #[.string s] w fun e w' => e = .returned (.iface 115 (.pointer (some ⟨w.heap.size, 0, none⟩))) ∧ Kept (fun _ => True) w w' := by
  go_enter Tryz.func35, Tryz.ntmps35
  go_wp2
  go_ret
  exact ⟨rfl, (Kept.refl _ w).alloc _⟩
set_option maxHeartbeats 2000000 in
theorem encode_wide_Gray (bi : Nat) (pv sv wv ov : Value) (x0 y0 x1 y1 : Int) (w : World) (h : w.heap[bi]? = some (.cells #[pv, sv, .int .i64 x0, .int .i64 y0, .int .i64 x1, .int .i64 y1] 44 (0, 0))) (hx : 65536 ≤ x1 - x0) (h0 : -2097152 ≤ x0 ∧ x0 ≤ 2097152) (h1 : -2097152 ≤ x1 ∧ x1 ≤ 2097152) :
    Calls Tryz.prog 29 #[wv, .iface 35 (.pointer (some ⟨bi, 0, none⟩)), ov] w fun e w' => (∃ a, e = .returned (.iface 115 (.pointer (some a)))) ∧ Kept (fun _ => True) w w' := by
  have hm : ∀ w, (method 345 35 (.pointer (some ⟨bi, 0, none⟩)) "Bounds").run Tryz.prog w = .ok (69, .pointer (some ⟨bi, 0, none⟩)) w := fun _ => by kernel_rfl
  have CB := Lib.hid (boundsGray bi pv sv x0 y0 x1 y1 w h)
  have CX := Lib.hid fun W => dx_any x0 y0 x1 y1 W (by omega) (by omega)
  clear h h0 h1
  unfold rectV at CB CX
  obtain ⟨d, hd⟩ : ∃ d, x1 - x0 = d := ⟨_, rfl⟩
  rw [hd] at CX hx
  clear hd
  go_enter Tryz.func29, Tryz.ntmps29
  go_wp2_with (first
    | (go_at_call 69; (with_reducible refine CB.out.mono ?_); rintro e w2 ⟨rfl, k2⟩; have HK := Lib.hid k2; clear k2)
    | (go_at_call 28; (with_reducible refine (CX.out _).mono ?_); rintro e w3 ⟨rfl, k3⟩; have c0 := k3.cellOf (a := ⟨w2.heap.size, 0, none⟩) (v := .int .i64 x0) (by unfold World.cell?; simp only [heap_alloc_new]; rfl) trivial; have c1 := k3.cellOf (a := ⟨w2.heap.size, 1, none⟩) (v := .int .i64 y0) (by unfold World.cell?; simp only [heap_alloc_new]; rfl) trivial; have c2 := k3.cellOf (a := ⟨w2.heap.size, 2, none⟩) (v := .int .i64 x1) (by unfold World.cell?; simp only [heap_alloc_new]; rfl) trivial; have c3 := k3.cellOf (a := ⟨w2.heap.size, 3, none⟩) (v := .int .i64 y1) (by unfold World.cell?; simp only [heap_alloc_new]; rfl) trivial; have HK3 := Lib.hid k3; clear k3)
    | (go_at_call 35; (with_reducible refine (new_any _ _).mono ?_); rintro e w5 ⟨rfl, k5⟩; have HK5 := Lib.hid k5; clear k5))
  go_ret
  exact ⟨⟨_, rfl⟩, ((HK.out.alloc _).trans HK3.out).trans HK5.out⟩
set_option maxHeartbeats 2000000 in
theorem encode_tall_Gray (bi : Nat) (pv sv wv ov : Value) (x0 y0 x1 y1 : Int) (w : World) (h : w.heap[bi]? = some (.cells #[pv, sv, .int .i64 x0, .int .i64 y0, .int .i64 x1, .int .i64 y1] 44 (0, 0))) (hx : x1 - x0 < 65536) (hy : 65536 ≤ y1 - y0) (h2 : -2097152 ≤ y0 ∧ y0 ≤ 2097152) (h3 : -2097152 ≤ y1 ∧ y1 ≤ 2097152) (h0 : -2097152 ≤ x0 ∧ x0 ≤ 2097152) (h1 : -2097152 ≤ x1 ∧ x1 ≤ 2097152) :
    Calls Tryz.prog 29 #[wv, .iface 35 (.pointer (some ⟨bi, 0, none⟩)), ov] w fun e w' => (∃ a, e = .returned (.iface 115 (.pointer (some a)))) ∧ Kept (fun _ => True) w w' := by
  have hm : ∀ w, (method 345 35 (.pointer (some ⟨bi, 0, none⟩)) "Bounds").run Tryz.prog w = .ok (69, .pointer (some ⟨bi, 0, none⟩)) w := fun _ => by kernel_rfl
  have CB := Lib.hid (boundsGray bi pv sv x0 y0 x1 y1 w h)
  have CX := Lib.hid fun W => dx_any x0 y0 x1 y1 W (by omega) (by omega)
  have CY := Lib.hid fun W => dy_any x0 y0 x1 y1 W (by omega) (by omega)
  clear h h0 h1 h2 h3
  unfold rectV at CB CX CY
  obtain ⟨d, hd⟩ : ∃ d, x1 - x0 = d := ⟨_, rfl⟩
  rw [hd] at CX hx
  clear hd
  obtain ⟨dd, hdd⟩ : ∃ dd, y1 - y0 = dd := ⟨_, rfl⟩
  rw [hdd] at CY hy
  clear hdd
  go_enter Tryz.func29, Tryz.ntmps29
  go_wp2_with (first
    | (go_at_call 69; (with_reducible refine CB.out.mono ?_); rintro e w2 ⟨rfl, k2⟩; have HK := Lib.hid k2; clear k2)
    | (go_at_call 28; (with_reducible refine (CX.out _).mono ?_); rintro e w3 ⟨rfl, k3⟩; have c0 := k3.cellOf (a := ⟨w2.heap.size, 0, none⟩) (v := .int .i64 x0) (by unfold World.cell?; simp only [heap_alloc_new]; rfl) trivial; have c1 := k3.cellOf (a := ⟨w2.heap.size, 1, none⟩) (v := .int .i64 y0) (by unfold World.cell?; simp only [heap_alloc_new]; rfl) trivial; have c2 := k3.cellOf (a := ⟨w2.heap.size, 2, none⟩) (v := .int .i64 x1) (by unfold World.cell?; simp only [heap_alloc_new]; rfl) trivial; have c3 := k3.cellOf (a := ⟨w2.heap.size, 3, none⟩) (v := .int .i64 y1) (by unfold World.cell?; simp only [heap_alloc_new]; rfl) trivial; have HK3 := Lib.hid k3; clear k3)
    | (go_at_call 34; (with_reducible refine (CY.out _).mono ?_); rintro e w4 ⟨rfl, k4⟩; have HK4 := Lib.hid k4; clear k4)
    | (go_at_call 35; (with_reducible refine (new_any _ _).mono ?_); rintro e w5 ⟨rfl, k5⟩; have HK5 := Lib.hid k5; clear k5))
  go_ret
  exact ⟨⟨_, rfl⟩, (((HK.out.alloc _).trans HK3.out).trans HK4.out).trans HK5.out⟩
set_option maxHeartbeats 2000000 in
theorem encode_wide_Rgba (bi : Nat) (pv sv wv ov : Value) (x0 y0 x1 y1 : Int) (w : World) (h : w.heap[bi]? = some (.cells #[pv, sv, .int .i64 x0, .int .i64 y0, .int .i64 x1, .int .i64 y1] 48 (0, 0))) (hx : 65536 ≤ x1 - x0) (h0 : -2097152 ≤ x0 ∧ x0 ≤ 2097152) (h1 : -2097152 ≤ x1 ∧ x1 ≤ 2097152) :
    Calls Tryz.prog 29 #[wv, .iface 46 (.pointer (some ⟨bi, 0, none⟩)), ov] w fun e w' => (∃ a, e = .returned (.iface 115 (.pointer (some a)))) ∧ Kept (fun _ => True) w w' := by
  have hm : ∀ w, (method 345 46 (.pointer (some ⟨bi, 0, none⟩)) "Bounds").run Tryz.prog w = .ok (75, .pointer (some ⟨bi, 0, none⟩)) w := fun _ => by kernel_rfl
  have CB := Lib.hid (boundsRgba bi pv sv x0 y0 x1 y1 w h)
  have CX := Lib.hid fun W => dx_any x0 y0 x1 y1 W (by omega) (by omega)
  clear h h0 h1
  unfold rectV at CB CX
  obtain ⟨d, hd⟩ : ∃ d, x1 - x0 = d := ⟨_, rfl⟩
  rw [hd] at CX hx
  clear hd
  go_enter Tryz.func29, Tryz.ntmps29
  go_wp2_with (first
    | (go_at_call 75; (with_reducible refine CB.out.mono ?_); rintro e w2 ⟨rfl, k2⟩; have HK := Lib.hid k2; clear k2)
    | (go_at_call 28; (with_reducible refine (CX.out _).mono ?_); rintro e w3 ⟨rfl, k3⟩; have c0 := k3.cellOf (a := ⟨w2.heap.size, 0, none⟩) (v := .int .i64 x0) (by unfold World.cell?; simp only [heap_alloc_new]; rfl) trivial; have c1 := k3.cellOf (a := ⟨w2.heap.size, 1, none⟩) (v := .int .i64 y0) (by unfold World.cell?; simp only [heap_alloc_new]; rfl) trivial; have c2 := k3.cellOf (a := ⟨w2.heap.size, 2, none⟩) (v := .int .i64 x1) (by unfold World.cell?; simp only [heap_alloc_new]; rfl) trivial; have c3 := k3.cellOf (a := ⟨w2.heap.size, 3, none⟩) (v := .int .i64 y1) (by unfold World.cell?; simp only [heap_alloc_new]; rfl) trivial; have HK3 := Lib.hid k3; clear k3)
    | (go_at_call 35; (with_reducible refine (new_any _ _).mono ?_); rintro e w5 ⟨rfl, k5⟩; have HK5 := Lib.hid k5; clear k5))
  go_ret
  exact ⟨⟨_, rfl⟩, ((HK.out.alloc _).trans HK3.out).trans HK5.out⟩
set_option maxHeartbeats 2000000 in
theorem encode_tall_Rgba (bi : Nat) (pv sv wv ov : Value) (x0 y0 x1 y1 : Int) (w : World) (h : w.heap[bi]? = some (.cells #[pv, sv, .int .i64 x0, .int .i64 y0, .int .i64 x1, .int .i64 y1] 48 (0, 0))) (hx : x1 - x0 < 65536) (hy : 65536 ≤ y1 - y0) (h2 : -2097152 ≤ y0 ∧ y0 ≤ 2097152) (h3 : -2097152 ≤ y1 ∧ y1 ≤ 2097152) (h0 : -2097152 ≤ x0 ∧ x0 ≤ 2097152) (h1 : -2097152 ≤ x1 ∧ x1 ≤ 2097152) :
    Calls Tryz.prog 29 #[wv, .iface 46 (.pointer (some ⟨bi, 0, none⟩)), ov] w fun e w' => (∃ a, e = .returned (.iface 115 (.pointer (some a)))) ∧ Kept (fun _ => True) w w' := by
  have hm : ∀ w, (method 345 46 (.pointer (some ⟨bi, 0, none⟩)) "Bounds").run Tryz.prog w = .ok (75, .pointer (some ⟨bi, 0, none⟩)) w := fun _ => by kernel_rfl
  have CB := Lib.hid (boundsRgba bi pv sv x0 y0 x1 y1 w h)
  have CX := Lib.hid fun W => dx_any x0 y0 x1 y1 W (by omega) (by omega)
  have CY := Lib.hid fun W => dy_any x0 y0 x1 y1 W (by omega) (by omega)
  clear h h0 h1 h2 h3
  unfold rectV at CB CX CY
  obtain ⟨d, hd⟩ : ∃ d, x1 - x0 = d := ⟨_, rfl⟩
  rw [hd] at CX hx
  clear hd
  obtain ⟨dd, hdd⟩ : ∃ dd, y1 - y0 = dd := ⟨_, rfl⟩
  rw [hdd] at CY hy
  clear hdd
  go_enter Tryz.func29, Tryz.ntmps29
  go_wp2_with (first
    | (go_at_call 75; (with_reducible refine CB.out.mono ?_); rintro e w2 ⟨rfl, k2⟩; have HK := Lib.hid k2; clear k2)
    | (go_at_call 28; (with_reducible refine (CX.out _).mono ?_); rintro e w3 ⟨rfl, k3⟩; have c0 := k3.cellOf (a := ⟨w2.heap.size, 0, none⟩) (v := .int .i64 x0) (by unfold World.cell?; simp only [heap_alloc_new]; rfl) trivial; have c1 := k3.cellOf (a := ⟨w2.heap.size, 1, none⟩) (v := .int .i64 y0) (by unfold World.cell?; simp only [heap_alloc_new]; rfl) trivial; have c2 := k3.cellOf (a := ⟨w2.heap.size, 2, none⟩) (v := .int .i64 x1) (by unfold World.cell?; simp only [heap_alloc_new]; rfl) trivial; have c3 := k3.cellOf (a := ⟨w2.heap.size, 3, none⟩) (v := .int .i64 y1) (by unfold World.cell?; simp only [heap_alloc_new]; rfl) trivial; have HK3 := Lib.hid k3; clear k3)
    | (go_at_call 34; (with_reducible refine (CY.out _).mono ?_); rintro e w4 ⟨rfl, k4⟩; have HK4 := Lib.hid k4; clear k4)
    | (go_at_call 35; (with_reducible refine (new_any _ _).mono ?_); rintro e w5 ⟨rfl, k5⟩; have HK5 := Lib.hid k5; clear k5))
  go_ret
  exact ⟨⟨_, rfl⟩, (((HK.out.alloc _).trans HK3.out).trans HK4.out).trans HK5.out⟩
end Go.Proofs.YtghjlekdibcjdaaGreatDoor
