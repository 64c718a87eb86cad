/- Contracts of package image's pixelBufferLength and of NewGray. -/
import Derived.Test.YtghjlekdibcjdaaGreatDoorImgA
import Derived.Deep.RegionHeld3
import Derived.Deep.OwnRows
namespace Go.Proofs.YtghjlekdibcjdaaGreatDoor
open Go.Deep Go.RowKit
set_option linter.unusedVariables false
/-- A rectangle that lies in a block. -/
def RectAt (b : Nat) (x0 y0 x1 y1 : Int) (w : World) : Prop :=
  w.cell? ⟨b, 0, none⟩ = some (.int .i64 x0) ∧ w.cell? ⟨b, 1, none⟩ = some (.int .i64 y0) ∧ w.cell? ⟨b, 2, none⟩ = some (.int .i64 x1) ∧ w.cell? ⟨b, 3, none⟩ = some (.int .i64 y1)
theorem RectAt.kept {b : Nat} {x0 y0 x1 y1 : Int} {w w' : World} (h : RectAt b x0 y0 x1 y1 w) (k : Kept (fun _ => True) w w') : RectAt b x0 y0 x1 y1 w' :=
  ⟨k.cellOf h.1 trivial, k.cellOf h.2.1 trivial, k.cellOf h.2.2.1 trivial, k.cellOf h.2.2.2 trivial⟩
theorem first_kept {w w1 w2 w3 : World} (h : Kept (fun _ => True) w w1) (h1 : Kept (fun _ => True) w1.drew w2) (h2 : Kept (fun _ => True) w2 w3) : Kept (fun _ => True) w w3 := ((h.drew).trans h1).trans h2
set_option maxHeartbeats 2000000 in
set_option maxRecDepth 100000 in
theorem pbl_any (bpp : Nat) (x0 y0 x1 y1 : Int) (s : ByteArray) (wd hg : Nat) (w : World) (h0 : -1048576 ≤ x0 ∧ x0 ≤ 1048576) (h1 : -1048576 ≤ y0 ∧ y0 ≤ 1048576) (h2 : x1 = x0 + wd) (h3 : y1 = y0 + hg) (hw : wd ≤ 1048576) (hh : hg ≤ 1048576) (hb : bpp ≤ 8) (hp : bpp * wd * hg < 2147483648) :
    Calls Tryz.prog 27 #[.int .i64 (bpp : Int), rectV x0 y0 x1 y1, .string s] w fun e w' => e = .returned (.int .i64 ((bpp * wd * hg : Nat) : Int)) ∧ Kept (fun _ => True) w w' := by
  have CX := Lib.hid fun W => dx_any x0 y0 x1 y1 W (by omega) (by omega)
  have CY := Lib.hid fun W => dy_any x0 y0 x1 y1 W (by omega) (by omega)
  have e1 : x1 - x0 = (wd : Int) := by omega
  have e2 : y1 - y0 = (hg : Int) := by omega
  rw [e1] at CX
  rw [e2] at CY
  have hpw : bpp * wd < 2147483648 := by
    have : bpp * wd ≤ 8 * 1048576 := Nat.mul_le_mul hb hw
    omega
  have CM := Lib.hid fun W => mul3_small bpp wd hg W (by omega) (by omega) (by omega) hpw hp
  obtain ⟨q, hq⟩ : ∃ q, bpp * wd * hg = q := ⟨_, rfl⟩
  rw [hq] at CM hp
  rw [hq]
  clear hq e1 e2 hpw h2 h3
  unfold rectV at CX CY ⊢
  have K1 := (Kept.refl (fun _ => True) w).alloc (.cells #[.int .i64 x0, .int .i64 y0, .int .i64 x1, .int .i64 y1] 40)
  have hR : RectAt w.heap.size x0 y0 x1 y1 (w.alloc (.cells #[.int .i64 x0, .int .i64 y0, .int .i64 x1, .int .i64 y1] 40)) := by
    have h := heap_alloc_new w (.cells #[.int .i64 x0, .int .i64 y0, .int .i64 x1, .int .i64 y1] 40)
    refine ⟨?_, ?_, ?_, ?_⟩ <;> (unfold World.cell?; simp only [h]; rfl)
  go_enter Tryz.func27, Tryz.ntmps27
  go_wp2_with fail
  generalize w.alloc (.cells #[.int .i64 x0, .int .i64 y0, .int .i64 x1, .int .i64 y1] 40) = w1 at *
  generalize w.heap.size = B at *
  obtain ⟨c0, c1, c2, c3⟩ := hR
  have HK := Lib.hid K1
  clear K1
  go_region_held3 (fun w' => w'.cell? ⟨B, 0, none⟩ = some (.int .i64 x0) ∧ w'.cell? ⟨B, 1, none⟩ = some (.int .i64 y0) ∧ w'.cell? ⟨B, 2, none⟩ = some (.int .i64 x1) ∧ w'.cell? ⟨B, 3, none⟩ = some (.int .i64 y1))
    (first | go_keep | (go_split_ands; refine ⟨?_, ?_, ?_, ?_⟩ <;> (refine Kept.cellOf k2 ?_ trivial; assumption)))
    (first
      | (go_at_call 28; (with_reducible refine (CX.out _).mono ?_); rintro e w2 ⟨rfl, k2⟩; have HKn := Lib.hid k2)
      | (go_at_call 34; (with_reducible refine (CY.out _).mono ?_); rintro e w2 ⟨rfl, k2⟩; have HKm := Lib.hid k2)
      | (go_at_call 33; (with_reducible refine (CM.out _).mono ?_); rintro e w2 ⟨rfl, rfl⟩))
  all_goals
    have K := first_kept HK.out HKn.out HKm.out
    clear HK HKn HKm
    go_wp2
    go_ret
    exact ⟨rfl, K⟩
theorem info5 : (Tryz.prog.info? 5).map (fun i => (i.zero, i.size, i.bytes)) = some (some (.int .u8 0), 1, 1) := by kernel_rfl
/-- A new gray image: its rows are noughts. -/
structure GrayNew (x0 y0 x1 y1 : Int) (wd n : Nat) (w : World) (bp bi : Nat) (w' : World) : Prop where
  kept : Kept (fun _ => True) w w'
  lp : w.heap.size ≤ bp
  li : w.heap.size ≤ bi
  img : w'.heap[bi]? = some (.cells #[.slice (some ⟨bp, 0, none⟩) n n, .int .i64 (wd : Int), .int .i64 x0, .int .i64 y0, .int .i64 x1, .int .i64 y1] 44 (0, 0))
  pix : w'.rowIs bp 5 n (fun _ => .int .u8 0)
set_option maxHeartbeats 2000000 in
set_option maxRecDepth 100000 in
theorem newGray_any (x0 y0 x1 y1 : Int) (wd hg : Nat) (w : World) (h0 : -1048576 ≤ x0 ∧ x0 ≤ 1048576) (h1 : -1048576 ≤ y0 ∧ y0 ≤ 1048576) (h2 : x1 = x0 + wd) (h3 : y1 = y0 + hg) (hw : wd ≤ 1048576) (hh : hg ≤ 1048576) (hp : wd * hg < 2147483648) :
    Calls Tryz.prog 16 #[rectV x0 y0 x1 y1] w fun e w' => ∃ bp bi, e = .returned (.pointer (some ⟨bi, 0, none⟩)) ∧ GrayNew x0 y0 x1 y1 wd (wd * hg) w bp bi w' := by
  have CX := Lib.hid fun W => dx_any x0 y0 x1 y1 W (by omega) (by omega)
  have e1 : x1 - x0 = (wd : Int) := by omega
  rw [e1] at CX
  have CP : Hid (∀ s W, Calls Tryz.prog 27 #[.int .i64 1, rectV x0 y0 x1 y1, .string s] W fun e w' => e = .returned (.int .i64 ((wd * hg : Nat) : Int)) ∧ Kept (fun _ => True) W w') := Lib.hid fun s W => by
    have h := pbl_any 1 x0 y0 x1 y1 s wd hg W h0 h1 h2 h3 hw hh (by omega) (by rw [Nat.one_mul]; exact hp)
    rw [Nat.one_mul] at h
    exact h
  obtain ⟨q, hq⟩ : ∃ q, wd * hg = q := ⟨_, rfl⟩
  rw [hq] at CP hp
  rw [hq]
  have hmk := run_make_row' (P := Tryz.prog) 22 5 (.int .u8 0) 1 Tryz.underlying22 info5 rfl .i64 .i64 q (by omega) (by omega)
  clear hq e1 h2 h3
  unfold rectV at CX CP ⊢
  have K1 := (Kept.refl (fun _ => True) w).alloc (.cells #[.int .i64 x0, .int .i64 y0, .int .i64 x1, .int .i64 y1] 40)
  have hR : RectAt w.heap.size x0 y0 x1 y1 (w.alloc (.cells #[.int .i64 x0, .int .i64 y0, .int .i64 x1, .int .i64 y1] 40)) := by
    have h := heap_alloc_new w (.cells #[.int .i64 x0, .int .i64 y0, .int .i64 x1, .int .i64 y1] 40)
    refine ⟨?_, ?_, ?_, ?_⟩ <;> (unfold World.cell?; simp only [h]; rfl)
  go_enter Tryz.func16, Tryz.ntmps16
  go_wp2_with fail
  generalize w.alloc (.cells #[.int .i64 x0, .int .i64 y0, .int .i64 x1, .int .i64 y1] 40) = w1 at *
  generalize w.heap.size = B at *
  obtain ⟨c0, c1, c2, c3⟩ := hR
  have HK := Lib.hid K1
  clear K1
  have ew : IntKind.i64.wrap (wd : Int) = (wd : Int) := IntWalk.i64_in _ ⟨by omega, by omega⟩
  go_region_held3 (fun w' => w'.cell? ⟨B, 0, none⟩ = some (.int .i64 x0) ∧ w'.cell? ⟨B, 1, none⟩ = some (.int .i64 y0) ∧ w'.cell? ⟨B, 2, none⟩ = some (.int .i64 x1) ∧ w'.cell? ⟨B, 3, none⟩ = some (.int .i64 y1))
    (first | go_keep | (go_split_ands; refine ⟨?_, ?_, ?_, ?_⟩ <;> (refine Kept.cellOf k2 ?_ trivial; assumption)))
    (first
      | (go_at_call 28; (with_reducible refine (CX.out _).mono ?_); rintro e w2 ⟨rfl, k2⟩; have HKn := Lib.hid k2)
      | (go_at_call 27; (with_reducible refine (CP.out _ _).mono ?_); rintro e w2 ⟨rfl, k2⟩; have HKm := Lib.hid k2))
  · clear c0 c1 c2 c3 ew hmk CX CP
    have K1 := HK.out.drew.trans HKm.out
    have K2 := (K1.alloc _).trans HKn.out
    have hpix := HKn.out.row (World.rowIs_made _ _ _ _) trivial
    have hsz := K1.size
    have hsz2 := HKn.out.size
    clear HK HKm HKn
    go_wp2
    go_ret
    have hk2 := K2.size
    exact ⟨_, _, rfl, K2.alloc _, hsz, hk2, heap_alloc_new _ _, hpix.alloc _⟩
  · clear c0 c1 c2 c3 ew hmk CX CP
    have K1 := (HK.out.drew.trans HKm.out).trans HKn.out
    have hsz := K1.size
    clear HK HKm HKn
    go_wp2
    go_ret
    have h := heap_alloc_new (w2.alloc (.cells (madeCells #[.int .u8 0] q) 5)) (.cells #[.slice (some ⟨w2.heap.size, 0, none⟩) q q, .int .i64 (wd : Int), .int .i64 x0, .int .i64 y0, .int .i64 x1, .int .i64 y1] 44)
    simp only [World.size_alloc] at h
    exact ⟨w2.heap.size, w2.heap.size + 1, rfl, (K1.alloc _).alloc _, hsz, by omega, h, (World.rowIs_made _ _ _ _).alloc _⟩
end Go.Proofs.YtghjlekdibcjdaaGreatDoor
