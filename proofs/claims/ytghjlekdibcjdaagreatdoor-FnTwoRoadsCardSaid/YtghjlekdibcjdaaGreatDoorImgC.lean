/- Contracts of package image's NewRGBA and NewNRGBA. -/
import Derived.Test.YtghjlekdibcjdaaGreatDoorImgB
namespace Go.Proofs.YtghjlekdibcjdaaGreatDoor
open Go.Deep Go.RowKit
set_option linter.unusedVariables false
/-- A new RGBA image: its rows are noughts. -/
structure RgbaNew (x0 y0 x1 y1 : Int) (wd n : Nat) (w : World) (bp bi : Nat) (w' : World) : Prop where
  kept : Kept (fun _ => True) w w'
  lp : w.heap.size ≤ bp
  li : w.heap.size ≤ bi
  img : w'.heap[bi]? = some (.cells #[.slice (some ⟨bp, 0, none⟩) n n, .int .i64 (4 * (wd : Int)), .int .i64 x0, .int .i64 y0, .int .i64 x1, .int .i64 y1] 48 (0, 0))
  pix : w'.rowIs bp 5 n (fun _ => .int .u8 0)
set_option maxHeartbeats 2000000 in
set_option maxRecDepth 100000 in
theorem newRgba_any (x0 y0 x1 y1 : Int) (wd hg : Nat) (w : World) (h0 : -1048576 ≤ x0 ∧ x0 ≤ 1048576) (h1 : -1048576 ≤ y0 ∧ y0 ≤ 1048576) (h2 : x1 = x0 + wd) (h3 : y1 = y0 + hg) (hw : wd ≤ 1048576) (hh : hg ≤ 1048576) (hp : 4 * wd * hg < 2147483648) :
    Calls Tryz.prog 20 #[rectV x0 y0 x1 y1] w fun e w' => ∃ bp bi, e = .returned (.pointer (some ⟨bi, 0, none⟩)) ∧ RgbaNew x0 y0 x1 y1 wd (4 * wd * hg) w bp bi w' := by
  have CX := Lib.hid fun W => dx_any x0 y0 x1 y1 W (by omega) (by omega)
  have e1 : x1 - x0 = (wd : Int) := by omega
  rw [e1] at CX
  have CP : Hid (∀ s W, Calls Tryz.prog 27 #[.int .i64 4, rectV x0 y0 x1 y1, .string s] W fun e w' => e = .returned (.int .i64 ((4 * wd * hg : Nat) : Int)) ∧ Kept (fun _ => True) W w') := Lib.hid fun s W => by
    exact pbl_any 4 x0 y0 x1 y1 s wd hg W h0 h1 h2 h3 hw hh (by omega) hp
  obtain ⟨q, hq⟩ : ∃ q, 4 * wd * hg = q := ⟨_, rfl⟩
  rw [hq] at CP hp
  rw [hq]
  have hmk := run_make_row' (P := Tryz.prog) 22 5 (.int .u8 0) 1 Tryz.underlying22 info5 rfl .i64 .i64 q (by omega) (by omega)
  clear hq e1 h2 h3
  unfold rectV at CX CP ⊢
  have K1 := (Kept.refl (fun _ => True) w).alloc (.cells #[.int .i64 x0, .int .i64 y0, .int .i64 x1, .int .i64 y1] 40)
  have hR : RectAt w.heap.size x0 y0 x1 y1 (w.alloc (.cells #[.int .i64 x0, .int .i64 y0, .int .i64 x1, .int .i64 y1] 40)) := by
    have h := heap_alloc_new w (.cells #[.int .i64 x0, .int .i64 y0, .int .i64 x1, .int .i64 y1] 40)
    refine ⟨?_, ?_, ?_, ?_⟩ <;> (unfold World.cell?; simp only [h]; rfl)
  go_enter Tryz.func20, Tryz.ntmps20
  go_wp2_with fail
  generalize w.alloc (.cells #[.int .i64 x0, .int .i64 y0, .int .i64 x1, .int .i64 y1] 40) = w1 at *
  generalize w.heap.size = B at *
  obtain ⟨c0, c1, c2, c3⟩ := hR
  have HK := Lib.hid K1
  clear K1
  have ew : IntKind.i64.wrap (4 * (wd : Int)) = 4 * (wd : Int) := IntWalk.i64_in _ ⟨by omega, by omega⟩
  go_region_held3 (fun w' => w'.cell? ⟨B, 0, none⟩ = some (.int .i64 x0) ∧ w'.cell? ⟨B, 1, none⟩ = some (.int .i64 y0) ∧ w'.cell? ⟨B, 2, none⟩ = some (.int .i64 x1) ∧ w'.cell? ⟨B, 3, none⟩ = some (.int .i64 y1))
    (first | go_keep | (go_split_ands; refine ⟨?_, ?_, ?_, ?_⟩ <;> (refine Kept.cellOf k2 ?_ trivial; assumption)))
    (first
      | (go_at_call 28; (with_reducible refine (CX.out _).mono ?_); rintro e w2 ⟨rfl, k2⟩; have HKn := Lib.hid k2)
      | (go_at_call 27; (with_reducible refine (CP.out _ _).mono ?_); rintro e w2 ⟨rfl, k2⟩; have HKm := Lib.hid k2))
  · clear c0 c1 c2 c3 ew hmk CX CP
    have K1 := HK.out.drew.trans HKm.out
    have K2 := (K1.alloc _).trans HKn.out
    have hpix := HKn.out.row (World.rowIs_made _ _ _ _) trivial
    have hsz := K1.size
    have hsz2 := HKn.out.size
    clear HK HKm HKn
    go_wp2
    go_ret
    have hk2 := K2.size
    exact ⟨_, _, rfl, K2.alloc _, hsz, hk2, heap_alloc_new _ _, hpix.alloc _⟩
  · clear c0 c1 c2 c3 ew hmk CX CP
    have K1 := (HK.out.drew.trans HKm.out).trans HKn.out
    have hsz := K1.size
    clear HK HKm HKn
    go_wp2
    go_ret
    have h := heap_alloc_new (w2.alloc (.cells (madeCells #[.int .u8 0] q) 5)) (.cells #[.slice (some ⟨w2.heap.size, 0, none⟩) q q, .int .i64 (4 * (wd : Int)), .int .i64 x0, .int .i64 y0, .int .i64 x1, .int .i64 y1] 48)
    simp only [World.size_alloc] at h
    exact ⟨w2.heap.size, w2.heap.size + 1, rfl, (K1.alloc _).alloc _, hsz, by omega, h, (World.rowIs_made _ _ _ _).alloc _⟩
/-- A new NRGBA image: its rows are noughts. -/
structure NrgbaNew (x0 y0 x1 y1 : Int) (wd n : Nat) (w : World) (bp bi : Nat) (w' : World) : Prop where
  kept : Kept (fun _ => True) w w'
  lp : w.heap.size ≤ bp
  li : w.heap.size ≤ bi
  img : w'.heap[bi]? = some (.cells #[.slice (some ⟨bp, 0, none⟩) n n, .int .i64 (4 * (wd : Int)), .int .i64 x0, .int .i64 y0, .int .i64 x1, .int .i64 y1] 51 (0, 0))
  pix : w'.rowIs bp 5 n (fun _ => .int .u8 0)
set_option maxHeartbeats 2000000 in
set_option maxRecDepth 100000 in
theorem newNrgba_any (x0 y0 x1 y1 : Int) (wd hg : Nat) (w : World) (h0 : -1048576 ≤ x0 ∧ x0 ≤ 1048576) (h1 : -1048576 ≤ y0 ∧ y0 ≤ 1048576) (h2 : x1 = x0 + wd) (h3 : y1 = y0 + hg) (hw : wd ≤ 1048576) (hh : hg ≤ 1048576) (hp : 4 * wd * hg < 2147483648) :
    Calls Tryz.prog 21 #[rectV x0 y0 x1 y1] w fun e w' => ∃ bp bi, e = .returned (.pointer (some ⟨bi, 0, none⟩)) ∧ NrgbaNew x0 y0 x1 y1 wd (4 * wd * hg) w bp bi w' := by
  have CX := Lib.hid fun W => dx_any x0 y0 x1 y1 W (by omega) (by omega)
  have e1 : x1 - x0 = (wd : Int) := by omega
  rw [e1] at CX
  have CP : Hid (∀ s W, Calls Tryz.prog 27 #[.int .i64 4, rectV x0 y0 x1 y1, .string s] W fun e w' => e = .returned (.int .i64 ((4 * wd * hg : Nat) : Int)) ∧ Kept (fun _ => True) W w') := Lib.hid fun s W => by
    exact pbl_any 4 x0 y0 x1 y1 s wd hg W h0 h1 h2 h3 hw hh (by omega) hp
  obtain ⟨q, hq⟩ : ∃ q, 4 * wd * hg = q := ⟨_, rfl⟩
  rw [hq] at CP hp
  rw [hq]
  have hmk := run_make_row' (P := Tryz.prog) 22 5 (.int .u8 0) 1 Tryz.underlying22 info5 rfl .i64 .i64 q (by omega) (by omega)
  clear hq e1 h2 h3
  unfold rectV at CX CP ⊢
  have K1 := (Kept.refl (fun _ => True) w).alloc (.cells #[.int .i64 x0, .int .i64 y0, .int .i64 x1, .int .i64 y1] 40)
  have hR : RectAt w.heap.size x0 y0 x1 y1 (w.alloc (.cells #[.int .i64 x0, .int .i64 y0, .int .i64 x1, .int .i64 y1] 40)) := by
    have h := heap_alloc_new w (.cells #[.int .i64 x0, .int .i64 y0, .int .i64 x1, .int .i64 y1] 40)
    refine ⟨?_, ?_, ?_, ?_⟩ <;> (unfold World.cell?; simp only [h]; rfl)
  go_enter Tryz.func21, Tryz.ntmps21
  go_wp2_with fail
  generalize w.alloc (.cells #[.int .i64 x0, .int .i64 y0, .int .i64 x1, .int .i64 y1] 40) = w1 at *
  generalize w.heap.size = B at *
  obtain ⟨c0, c1, c2, c3⟩ := hR
  have HK := Lib.hid K1
  clear K1
  have ew : IntKind.i64.wrap (4 * (wd : Int)) = 4 * (wd : Int) := IntWalk.i64_in _ ⟨by omega, by omega⟩
  go_region_held3 (fun w' => w'.cell? ⟨B, 0, none⟩ = some (.int .i64 x0) ∧ w'.cell? ⟨B, 1, none⟩ = some (.int .i64 y0) ∧ w'.cell? ⟨B, 2, none⟩ = some (.int .i64 x1) ∧ w'.cell? ⟨B, 3, none⟩ = some (.int .i64 y1))
    (first | go_keep | (go_split_ands; refine ⟨?_, ?_, ?_, ?_⟩ <;> (refine Kept.cellOf k2 ?_ trivial; assumption)))
    (first
      | (go_at_call 28; (with_reducible refine (CX.out _).mono ?_); rintro e w2 ⟨rfl, k2⟩; have HKn := Lib.hid k2)
      | (go_at_call 27; (with_reducible refine (CP.out _ _).mono ?_); rintro e w2 ⟨rfl, k2⟩; have HKm := Lib.hid k2))
  · clear c0 c1 c2 c3 ew hmk CX CP
    have K1 := HK.out.drew.trans HKm.out
    have K2 := (K1.alloc _).trans HKn.out
    have hpix := HKn.out.row (World.rowIs_made _ _ _ _) trivial
    have hsz := K1.size
    have hsz2 := HKn.out.size
    clear HK HKm HKn
    go_wp2
    go_ret
    have hk2 := K2.size
    exact ⟨_, _, rfl, K2.alloc _, hsz, hk2, heap_alloc_new _ _, hpix.alloc _⟩
  · clear c0 c1 c2 c3 ew hmk CX CP
    have K1 := (HK.out.drew.trans HKm.out).trans HKn.out
    have hsz := K1.size
    clear HK HKm HKn
    go_wp2
    go_ret
    have h := heap_alloc_new (w2.alloc (.cells (madeCells #[.int .u8 0] q) 5)) (.cells #[.slice (some ⟨w2.heap.size, 0, none⟩) q q, .int .i64 (4 * (wd : Int)), .int .i64 x0, .int .i64 y0, .int .i64 x1, .int .i64 y1] 51)
    simp only [World.size_alloc] at h
    exact ⟨w2.heap.size, w2.heap.size + 1, rfl, (K1.alloc _).alloc _, hsz, by omega, h, (World.rowIs_made _ _ _ _).alloc _⟩
end Go.Proofs.YtghjlekdibcjdaaGreatDoor
