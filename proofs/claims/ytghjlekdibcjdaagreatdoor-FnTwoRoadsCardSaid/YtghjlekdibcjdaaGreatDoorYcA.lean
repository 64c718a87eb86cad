/- The contracts of the ratios' functions and of package image's NewYCbCr for a ratio of 4:4:4. -/
import Derived.Test.YtghjlekdibcjdaaGreatDoorBounds
import Derived.Test.YtghjlekdibcjdaaGreatDoorFill
import Derived.BigQuiet
import Derived.Deep.QuietTactic
namespace Go.Proofs.YtghjlekdibcjdaaGreatDoor
open Go.Deep Go.RowKit
set_option linter.unusedVariables false
set_option maxRecDepth 100000 in
theorem ratioAs0 (w : World) : Calls Tryz.prog 23 #[.int .i64 0] w fun e w' => e = .returned (.int .i64 0) ∧ w' = w := by
  go_enter Tryz.func23, Tryz.ntmps23
  go_wp2
  go_ret
  exact ⟨rfl, rfl⟩
set_option maxRecDepth 100000 in
theorem ratioOf0 (w : World) : Calls Tryz.prog 26 #[.int .i64 0] w fun e w' => e = .returned (.int .i64 0) ∧ w' = w := by
  go_enter Tryz.func26, Tryz.ntmps26
  go_wp2
  go_ret
  exact ⟨rfl, rfl⟩
set_option maxRecDepth 100000 in
theorem chroma0 (a b : Int) (w : World) : Calls Tryz.prog 25 #[.int .i64 0, .int .i64 a, .int .i64 b] w fun e w' => e = .returned (.tuple #[.int .i64 a, .int .i64 b]) ∧ w' = w := by
  go_enter Tryz.func25, Tryz.ntmps25
  go_wp2
  go_ret2
  exact ⟨rfl, rfl⟩
set_option maxRecDepth 100000 in
theorem add2_small (a b : Nat) (w : World) (h : a + b < 2147483648) : Calls Tryz.prog 32 #[.int .i64 (a : Int), .int .i64 (b : Int)] w fun e w' => e = .returned (.int .i64 ((a : Int) + (b : Int))) ∧ w' = w := by
  have h1 : ¬ (a : Int) + (b : Int) < 0 := by omega
  go_enter Tryz.func32, Tryz.ntmps32
  go_wp2
  go_ret
  exact ⟨rfl, rfl⟩
set_option maxHeartbeats 2000000 in
set_option maxRecDepth 100000 in
theorem yccSize_any (x0 y0 x1 y1 : Int) (wd hg : Nat) (w : World) (h0 : -1048576 ≤ x0 ∧ x0 ≤ 1048576) (h1 : -1048576 ≤ y0 ∧ y0 ≤ 1048576) (h2 : x1 = x0 + wd) (h3 : y1 = y0 + hg) (hw : wd ≤ 1048576) (hh : hg ≤ 1048576) :
    Calls Tryz.prog 31 #[rectV x0 y0 x1 y1, .int .i64 0] w fun e w' => e = .returned (.tuple #[.int .i64 (wd : Int), .int .i64 (hg : Int), .int .i64 (wd : Int), .int .i64 (hg : Int)]) ∧ Kept (fun _ => True) w w' := by
  have CX := Lib.hid fun W => dx_any x0 y0 x1 y1 W (by omega) (by omega)
  have CY := Lib.hid fun W => dy_any x0 y0 x1 y1 W (by omega) (by omega)
  have e1 : x1 - x0 = (wd : Int) := by omega
  have e2 : y1 - y0 = (hg : Int) := by omega
  rw [e1] at CX
  rw [e2] at CY
  clear e1 e2 h2 h3
  unfold rectV at CX CY ⊢
  have K1 := (Kept.refl (fun _ => True) w).alloc (.cells #[.int .i64 x0, .int .i64 y0, .int .i64 x1, .int .i64 y1] 40)
  have hR : RectAt w.heap.size x0 y0 x1 y1 (w.alloc (.cells #[.int .i64 x0, .int .i64 y0, .int .i64 x1, .int .i64 y1] 40)) := by
    have h := heap_alloc_new w (.cells #[.int .i64 x0, .int .i64 y0, .int .i64 x1, .int .i64 y1] 40)
    refine ⟨?_, ?_, ?_, ?_⟩ <;> (unfold World.cell?; simp only [h]; rfl)
  go_enter Tryz.func31, Tryz.ntmps31
  go_wp2_with fail
  generalize w.alloc (.cells #[.int .i64 x0, .int .i64 y0, .int .i64 x1, .int .i64 y1] 40) = w1 at *
  generalize w.heap.size = B at *
  obtain ⟨c0, c1, c2, c3⟩ := hR
  have HK := Lib.hid K1
  clear K1
  go_region_held3 (fun w' => w'.cell? ⟨B, 0, none⟩ = some (.int .i64 x0) ∧ w'.cell? ⟨B, 1, none⟩ = some (.int .i64 y0) ∧ w'.cell? ⟨B, 2, none⟩ = some (.int .i64 x1) ∧ w'.cell? ⟨B, 3, none⟩ = some (.int .i64 y1))
    (first | go_keep | (go_split_ands; refine ⟨?_, ?_, ?_, ?_⟩ <;> (refine Kept.cellOf k2 ?_ trivial; assumption)))
    (first
      | (go_at_call 28; (with_reducible refine (CX.out _).mono ?_); rintro e w2 ⟨rfl, k2⟩; have HKn := Lib.hid k2)
      | (go_at_call 34; (with_reducible refine (CY.out _).mono ?_); rintro e w2 ⟨rfl, k2⟩; have HKm := Lib.hid k2))
  all_goals
    have K := (HK.out.drew.trans HKn.out).trans HKm.out
    clear HK HKn HKm c0 c1 c2 c3 CX CY
    go_wp2
    exact bodyPost_ret (v := .tuple #[.int .i64 (wd : Int), .int .i64 (hg : Int), .int .i64 (wd : Int), .int .i64 (hg : Int)]) (by simp [results, Tryz.results31, go_sem]) rfl ⟨rfl, K⟩
/-- A new image of three planes: its rows are noughts. -/
structure YccNew (x0 y0 x1 y1 : Int) (wd n B : Nat) (w : World) (bp bi : Nat) (w' : World) : Prop where
  kept : Kept (fun _ => True) w w'
  lp : B ≤ bp
  li : B ≤ bi
  img : w'.heap[bi]? = some (.cells #[.slice (some ⟨bp, 0, none⟩) n n, .slice (some ⟨bp, n, none⟩) n n, .slice (some ⟨bp, 2 * n, none⟩) n n, .int .i64 (wd : Int), .int .i64 (wd : Int), .int .i64 0, .int .i64 x0, .int .i64 y0, .int .i64 x1, .int .i64 y1] 60 (0, 0))
  pix : w'.rowIs bp 5 (3 * n) (fun _ => .int .u8 0)
set_option maxHeartbeats 2000000 in
set_option maxRecDepth 100000 in
theorem newYcc_any (x0 y0 x1 y1 : Int) (wd hg : Nat) (w : World) (h0 : -1048576 ≤ x0 ∧ x0 ≤ 1048576) (h1 : -1048576 ≤ y0 ∧ y0 ≤ 1048576) (h2 : x1 = x0 + wd) (h3 : y1 = y0 + hg) (hw : wd ≤ 1048576) (hh : hg ≤ 1048576) (hp : wd * hg ≤ 65536) (hpos : 1 ≤ wd * hg) :
    Calls Tryz.prog 24 #[rectV x0 y0 x1 y1, .int .i64 0] w fun e w' => ∃ bp bi, e = .returned (.pointer (some ⟨bi, 0, none⟩)) ∧ YccNew x0 y0 x1 y1 wd (wd * hg) w.heap.size w bp bi w' := by
  have CZ := Lib.hid fun W => yccSize_any x0 y0 x1 y1 wd hg W h0 h1 h2 h3 hw hh
  have CM1 : Hid (∀ W, Calls Tryz.prog 33 #[.int .i64 1, .int .i64 (wd : Int), .int .i64 (hg : Int)] W fun e w' => e = .returned (.int .i64 ((wd * hg : Nat) : Int)) ∧ W = w') := Lib.hid fun W => by
    have h := mul3_small 1 wd hg W (by omega) (by omega) (by omega) (by omega) (by rw [Nat.one_mul]; omega)
    rw [Nat.one_mul] at h
    exact h
  have CM2 : Hid (∀ W, Calls Tryz.prog 33 #[.int .i64 2, .int .i64 (wd : Int), .int .i64 (hg : Int)] W fun e w' => e = .returned (.int .i64 ((2 * (wd * hg) : Nat) : Int)) ∧ W = w') := Lib.hid fun W => by
    have h := mul3_small 2 wd hg W (by omega) (by omega) (by omega) (by omega) (by rw [Nat.mul_assoc]; omega)
    rw [Nat.mul_assoc] at h
    exact h
  have hq1 : (wd : Int) * (hg : Int) = ((wd * hg : Nat) : Int) := by simp
  have hq2 : 2 * (wd : Int) * (hg : Int) = ((2 * (wd * hg) : Nat) : Int) := by simp [Int.mul_assoc]
  obtain ⟨q, hq⟩ : ∃ q, wd * hg = q := ⟨_, rfl⟩
  rw [hq] at CM1 CM2 hp hpos hq1 hq2
  rw [hq]
  obtain ⟨q2, hqq⟩ : ∃ q2, 2 * q = q2 := ⟨_, rfl⟩
  obtain ⟨q3, hqr⟩ : ∃ q3, 3 * q = q3 := ⟨_, rfl⟩
  rw [hqq] at CM2 hq2
  have CA : Hid (∀ W, Calls Tryz.prog 32 #[.int .i64 (q : Int), .int .i64 (q2 : Int)] W fun e w' => e = .returned (.int .i64 (q3 : Int)) ∧ w' = W) := Lib.hid fun W => by
    have h := add2_small q q2 W (by omega)
    rw [show (q : Int) + (q2 : Int) = (q3 : Int) by omega] at h
    exact h
  have hmk := run_make_row' (P := Tryz.prog) 22 5 (.int .u8 0) 1 Tryz.underlying22 info5 rfl .i64 .i64 q3 (by omega) (by omega)
  have s1 : (q : Int) + (q : Int) = (q2 : Int) := by omega
  have s2 : (q : Int) + (q2 : Int) = (q3 : Int) := by omega
  have d1 : q2 - q = q := by omega
  have d2 : q3 - q2 = q := by omega
  have HQ := Lib.hid (And.intro hqq hqr)
  clear hq h2 h3 hqq hqr
  unfold rectV at CZ ⊢
  have n0 : ¬ (q3 : Int) < 0 := by omega
  have ewq : IntKind.i64.wrap (q : Int) = (q : Int) := IntWalk.i64_in _ ⟨by omega, by omega⟩
  go_enter Tryz.func24, Tryz.ntmps24
  go_wp2_with (first
    | (go_at_call 31; (with_reducible refine (CZ.out _).mono ?_); rintro e w2 ⟨rfl, k2⟩; have K2 := Lib.hid k2; clear k2)
    | (go_at_call 33; (with_reducible refine (CM1.out _).mono ?_); rintro e w3 ⟨rfl, rfl⟩)
    | (go_at_call 33; (with_reducible refine (CM2.out _).mono ?_); rintro e w3 ⟨rfl, rfl⟩)
    | (go_at_call 32; (with_reducible refine (CA.out _).mono ?_); rintro e w3 ⟨rfl, rfl⟩))
  have hk3 : Kept (fun _ => True) w w3 := ((Kept.refl _ w).alloc _).trans K2.out
  have hR : RectAt w.heap.size x0 y0 x1 y1 w3 := by
    have h := (K2.out.block w.heap.size (by simp) trivial).trans (heap_alloc_new w (.cells #[.int .i64 x0, .int .i64 y0, .int .i64 x1, .int .i64 y1] 40))
    refine ⟨?_, ?_, ?_, ?_⟩ <;> (unfold World.cell?; simp only [h]; rfl)
  obtain ⟨W4, hW4⟩ : ∃ W4, w3.alloc (.cells (madeCells #[.int .u8 0] q3) 5) = W4 := ⟨_, rfl⟩
  obtain ⟨bp, hbp⟩ : ∃ bp, w3.heap.size = bp := ⟨_, rfl⟩
  have hk4 : Kept (fun _ => True) w W4 := by rw [← hW4]; exact hk3.alloc _
  have hk34 : Kept (fun _ => True) w3 W4 := by rw [← hW4]; exact (Kept.refl _ _).alloc _
  have hpix : W4.rowIs bp 5 q3 (fun _ => .int .u8 0) := by rw [← hW4, ← hbp]; exact World.rowIs_made _ _ _ _
  obtain ⟨c0, c1, c2, c3⟩ := hR.kept hk34
  have hlb : w.heap.size ≤ bp := by rw [← hbp]; exact hk3.size
  have hl4 := hk4.size
  rw [hW4, hbp]
  have i0 : (0 : Int) ≤ (q : Int) := by omega
  have i1 : (q : Int) ≤ (q3 : Int) := by omega
  have i2 : (q : Int) ≤ (q2 : Int) := by omega
  have i3 : (q2 : Int) ≤ (q3 : Int) := by omega
  have i4 : (0 : Int) ≤ (q2 : Int) := by omega
  have i5 : (0 : Int) ≤ (q3 : Int) := by omega
  have nn0 : ¬ q = 0 := by omega
  have nn1 : ¬ q2 = q := by omega
  have nn2 : ¬ q3 = q2 := by omega
  have HF := Lib.hid (And.intro hk4 (And.intro hpix (And.intro hlb hl4)))
  clear hk3 hR hW4 hbp hk4 hk34 hpix hlb hl4 hmk CZ CM1 CM2 CA hq1 hq2 n0 ewq s1 s2
  go_still_tail 19, (by kernel_rfl)
  change wpList _ _ _ _ _ W4.drew
  clear c0 c1 c2 c3 i0 i1 i2 i3 i4 i5 d1 d2 nn0 nn1 nn2
  obtain ⟨hqq, hqr⟩ := HQ.out
  go_wp2_with fail
  go_ret
  obtain ⟨hk, hp4, hl, hl4⟩ := HF.out
  subst hqq
  subst hqr
  exact ⟨bp, W4.heap.size, rfl, hk.drew.alloc _, hl, hl4, heap_alloc_new W4.drew _, World.rowIs.alloc (show W4.drew.rowIs bp 5 _ _ from hp4) _⟩
end Go.Proofs.YtghjlekdibcjdaaGreatDoor
