/- Contracts of the functions that FnScale calls, and the walk of the law itself. -/
import Derived.Test.YtpmbbampkedecaaScaleWalk
import Derived.Deep.WholeRow
namespace Go.Proofs.Ytpmbbampkedecaa
open Go.Deep Go.RowKit

theorem info51 : (Try.prog.info? 51).map (fun i => (i.zero, i.size)) = some (some (.agg (zeros 256)), 256) := by kernel_rfl
theorem info26 : (Try.prog.info? 26).map (fun i => (i.zero, i.size)) = some (some (.agg (zeros 256)), 256) := by kernel_rfl
theorem size25 : (Try.prog.info? 25).map (·.size) = some 64 := by kernel_rfl
theorem size50 : (Try.prog.info? 50).map (·.size) = some 64 := by kernel_rfl
theorem size26 : (Try.prog.info? 26).map (·.size) = some 256 := by kernel_rfl

/-- What holds at the head of ZZScale's loop, i blocks copied. -/
structure ZS (w wr : World) (g : Nat → Int) (i : Nat) : Prop where
  kept : Kept (fun _ => True) w wr
  size : wr.heap.size = w.heap.size + 4
  src : wr.rowIs w.heap.size 26 256 (ints .i32 g)
  res : wr.rowIs (w.heap.size + 1) 25 64 (ints .i32 fun _ => 0)
  dst : wr.rowIs (w.heap.size + 1 + 1) 50 64 (ints .i32 fun _ => 0)
  cpy : wr.rowIs (w.heap.size + 1 + 1 + 1) 51 256 (ints .i32 fun j => if j < 64 * i then g j else 0)

theorem ZS.start (w : World) (g : Nat → Int) (A B : Array Value) (hA : A = zeros 64) (hB : B = zeros 64) :
    ZS w ((((w.alloc (.cells (agg 256 (ints .i32 g)) 26)).alloc (.cells A 25)).alloc (.cells B 50)).alloc (.cells (zeros 256) 51)) g 0 := by
  subst hA hB
  refine ⟨((((Kept.refl _ _).alloc _).alloc _).alloc _).alloc _, by simp, (((rowIs_agg w 26 256 _).alloc _).alloc _).alloc _, ?_, ?_, ?_⟩
  · have := rowIs_zeros (w.alloc (.cells (agg 256 (ints .i32 g)) 26)) 25 64
    simp only [World.size_alloc] at this
    exact (this.alloc _).alloc _
  · have := rowIs_zeros ((w.alloc (.cells (agg 256 (ints .i32 g)) 26)).alloc (.cells (zeros 64) 25)) 50 64
    simp only [World.size_alloc] at this
    exact this.alloc _
  · have := rowIs_zeros (((w.alloc (.cells (agg 256 (ints .i32 g)) 26)).alloc (.cells (zeros 64) 25)).alloc (.cells (zeros 64) 50)) 51 256
    simp only [World.size_alloc] at this
    exact this.congr fun j _ => by simp [ints]

theorem ZS.step {w wr : World} {g : Nat → Int} {i : Nat} (h : ZS w wr g i) :
    ZS w (lay wr (w.heap.size + 1 + 1 + 1) (i * 64) 64 fun j => ints .i32 g (i * 64 + j)) g (i + 1) := by
  refine ⟨h.kept.lay _ _ _ _ (fun hb => by omega), (size_lay _ _ _ _ _).trans h.size, rowIs_lay_other (by omega) h.src _ _ _, rowIs_lay_other (by omega) h.res _ _ _, rowIs_lay_other (by omega) h.dst _ _ _, (rowIs_lay h.cpy _ _ _).congr fun j hj => ?_⟩
  by_cases c : i * 64 ≤ j ∧ j < i * 64 + 64
  · rw [if_pos c]
    simp only [ints]
    rw [if_pos (by omega), show i * 64 + (j - i * 64) = j by omega]
  · rw [if_neg c]
    simp only [ints]
    by_cases d : j < 64 * i
    · rw [if_pos d, if_pos (by omega)]
    · rw [if_neg d, if_neg (by omega)]

set_option maxHeartbeats 1000000 in
set_option maxRecDepth 100000 in
theorem zzscale_any (g : Nat → Int) (w : World) (hg : ∀ j, 0 ≤ g j ∧ g j ≤ 255) :
    Calls Try.prog 15 #[.agg (agg 256 (ints .i32 g))] w fun e w' => e = .returned (.agg (agg 64 (ints .i32 (scaled g)))) ∧ Kept (fun _ => True) w w' := by
  have hz51 := (zero_of_info info51).1
  go_enter Try.func15, Try.ntmps15
  go_wp2_with fail
  go_loopg [6] 4 (fun k si wr => ∃ i : Nat, i ≤ 4 ∧ k = 4 - i ∧ si = .int .i64 i ∧ ZS w wr g i)
  case atStart => exact ⟨0, by omega, rfl, rfl, ZS.start w g _ _ rfl rfl⟩
  case round =>
    obtain ⟨i, hi, rfl, rfl, hz⟩ := hrel
    clear hz51
    by_cases hi4 : i < 4
    · have hs := hz.src
      have ht := hz.cpy
      go_wp2_with (first | ((with_reducible refine wpList_load_rowIs (w := wr) (op := ⟨some 12, .load 25 (.tmp 11), _, _, _, _⟩) ?_ 25 (.tmp 11) ?_ w.heap.size (i * 64) 64 ?_ hs ?_ Try.underlying25 ?_ ?_ ?_); (· rfl); (· rfl); (· rfl); (· omega); (· rfl); (· exact size25)) | ((with_reducible refine wpList_store_rowIs (w := wr) (op := ⟨none, .store 50 (.tmp 13) (.tmp 12), _, _, _, _⟩) ?_ 50 (.tmp 13) (.tmp 12) ?_ (w.heap.size + 1 + 1 + 1) (i * 64) 64 (g := fun j => ints .i32 g (i * 64 + j)) ?_ ?_ ht ?_ ?_ ?_ ?_); (· rfl); (· rfl); (· rfl); (· rfl); (· omega); (· exact size50); (· exact fun _ => rfl)))
      go_roundg (4 - (i + 1))
      case measure => go_light; omega
      case rel =>
        go_light
        exact ⟨i + 1, by omega, rfl, by go_num, hz.step⟩
    · obtain rfl : i = 4 := by omega
      go_wp2_with fail
      refine (scale_any (w.heap.size + 1 + 1) (w.heap.size + 1 + 1 + 1) 50 51 (fun _ => 0) g wr (by omega) hz.dst (hz.cpy.congr fun j hj => by simp only [ints]; rw [if_pos (by omega)]) hg).mono ?_
      rintro e w1 ⟨rfl, hk, hr⟩
      have hs := hr
      have ht := hk.row hz.res (by omega)
      go_wp2_with (first | ((with_reducible refine wpList_load_all (w := w1) (op := ⟨some 16, .load 50 (.tmp 3), _, _, _, _⟩) ?_ 50 (.tmp 3) ?_ (w.heap.size + 1 + 1) 64 ?_ hs ?_ Try.underlying50 ?_ ?_ ?_); (· rfl); (· rfl); (· rfl); (· omega); (· rfl); (· exact size50)) | ((with_reducible refine wpList_store_rowIs (w := w1) (op := ⟨none, .store 25 (.tmp 2) (.tmp 16), _, _, _, _⟩) ?_ 25 (.tmp 2) (.tmp 16) ?_ (w.heap.size + 1) 0 64 (g := ints .i32 (scaled g)) ?_ ?_ ht ?_ ?_ ?_ ?_); (· rfl); (· rfl); (· rfl); (· rfl); (· omega); (· exact size25); (· exact fun _ => rfl)))
      exact bodyPost_ret (v := .agg (agg 64 (ints .i32 (scaled g)))) (results_rowIs Try.results15 (rowIs_lay_all ht _) rfl Try.underlying25 rfl size25) rfl ⟨rfl, (hz.kept.trans' hk fun i hi _ => by omega).lay _ _ _ _ (fun h => by omega)⟩

set_option maxHeartbeats 1000000 in
set_option maxRecDepth 100000 in
theorem impl_scale_any (g : Nat → Int) (w : World) (hg : ∀ j, 0 ≤ g j ∧ g j ≤ 255) :
    Calls Try.prog 8 #[.agg (agg 256 (ints .i32 g))] w fun e w' => e = .returned (.agg (agg 64 (ints .i32 (scaled g)))) ∧ Kept (fun _ => True) w w' := by
  obtain ⟨W, hW⟩ : ∃ W, W = (w.alloc (.cells (agg 256 (ints .i32 g)) 26)).alloc (.cells (zeros 64) 25) := ⟨_, rfl⟩
  have hk : Kept (fun _ => True) w W := by rw [hW]; exact ((Kept.refl _ _).alloc _).alloc _
  have hs : W.rowIs w.heap.size 26 256 (ints .i32 g) := by rw [hW]; exact (rowIs_agg w 26 256 _).alloc _
  have ht : W.rowIs (w.heap.size + 1) 25 64 (ints .i32 fun _ => 0) := by
    rw [hW]
    have := rowIs_zeros (w.alloc (.cells (agg 256 (ints .i32 g)) 26)) 25 64
    simpa only [World.size_alloc] using this
  have HW := Lib.hid hW
  clear hW
  go_enter Try.func8, Try.ntmps8
  go_wp2_with (first | ((with_reducible refine wpList_load_all (op := ⟨some 3, .load 26 (.tmp 1), _, _, _, _⟩) ?_ 26 (.tmp 1) ?_ w.heap.size 256 ?_ ((rowIs_agg w 26 256 _).alloc _) ?_ Try.underlying26 ?_ ?_ ?_); (· rfl); (· rfl); (· rfl); (· omega); (· rfl); (· exact size26)))
  refine (zzscale_any g _ hg).mono ?_
  rintro e w1 ⟨rfl, hk1⟩
  replace hk1 : Kept (fun _ => True) W w1 := by rw [show W = _ from HW.out]; exact hk1
  have ht1 := hk1.row ht trivial
  go_wp2_with (first | ((with_reducible refine wpList_store_rowIs (w := w1) (op := ⟨none, .store 25 (.tmp 2) (.tmp 4), _, _, _, _⟩) ?_ 25 (.tmp 2) (.tmp 4) ?_ (w.heap.size + 1) 0 64 (g := ints .i32 (scaled g)) ?_ ?_ ht1 ?_ ?_ ?_ ?_); (· rfl); (· rfl); (· rfl); (· rfl); (· omega); (· exact size25); (· exact fun _ => rfl)))
  exact bodyPost_ret (v := .agg (agg 64 (ints .i32 (scaled g)))) (results_rowIs Try.results8 (rowIs_lay_all ht1 _) rfl Try.underlying25 rfl size25) rfl ⟨rfl, (hk.trans hk1).lay _ _ _ _ (fun h => by omega)⟩
end Go.Proofs.Ytpmbbampkedecaa
