/- Contracts of fdct, idct and of the exports around the four passes (printed by wip/tools/dctcalls.py). -/
import Derived.Test.YtcblegbjhiameaaDoorWalkfcol
import Derived.Test.YtcblegbjhiameaaDoorWalkfrow
import Derived.Test.YtcblegbjhiameaaDoorWalkirow
import Derived.Test.YtcblegbjhiameaaDoorWalkicol
namespace Go.Proofs.YtcblegbjhiameaaDoor
open Go.Deep Go.RowKit
theorem sizeA : (Tryd.prog.info? 23).map (·.size) = some 64 := by kernel_rfl
theorem sizeB : (Tryd.prog.info? 42).map (·.size) = some 64 := by kernel_rfl
theorem fdct_any (b : Nat) (T : TypeId) (f : Nat → Int) (w : World) (h : w.rowIs b T 64 (ints .i32 f)) :
    Calls Tryd.prog 29 #[.pointer (some ⟨b, 0, none⟩)] w fun e w' => e = .returned (.tuple #[]) ∧ Kept (fun k => k ≠ b) w w' ∧ w'.rowIs b T 64 (ints .i32 (frows (fcols f))) := by
  go_enter Tryd.func29, Tryd.ntmps29
  go_wp2_with fail
  refine (fcol_any b T f w h).mono ?_
  rintro e w1 ⟨rfl, k1, r1⟩
  go_wp2_with fail
  refine (frow_any b T _ w1 r1).mono ?_
  rintro e w2 ⟨rfl, k2, r2⟩
  go_wp2_with fail
  go_end0
  exact ⟨rfl, k1.trans k2, r2⟩
theorem idct_any (b : Nat) (T : TypeId) (f : Nat → Int) (w : World) (h : w.rowIs b T 64 (ints .i32 f)) :
    Calls Tryd.prog 30 #[.pointer (some ⟨b, 0, none⟩)] w fun e w' => e = .returned (.tuple #[]) ∧ Kept (fun k => k ≠ b) w w' ∧ w'.rowIs b T 64 (ints .i32 (icols (irows f))) := by
  go_enter Tryd.func30, Tryd.ntmps30
  go_wp2_with fail
  refine (irow_any b T f w h).mono ?_
  rintro e w1 ⟨rfl, k1, r1⟩
  go_wp2_with fail
  refine (icol_any b T _ w1 r1).mono ?_
  rintro e w2 ⟨rfl, k2, r2⟩
  go_wp2_with fail
  go_end0
  exact ⟨rfl, k1.trans k2, r2⟩

set_option maxHeartbeats 1000000 in
set_option maxRecDepth 100000 in
theorem zzForward_any (f : Nat → Int) (w : World) :
    Calls Tryd.prog 20 #[.agg (agg 64 (ints .i32 f))] w fun e w' => e = .returned (.agg (agg 64 (ints .i32 (frows (fcols f))))) ∧ Kept (fun _ => True) w w' := by
  have hnew := fun o1 o2 => rowIs_lit64 ((w.alloc o1).alloc o2) 42
  have hres := fun o1 o2 => (rowIs_lit64 (w.alloc o1) 23).alloc o2
  simp only [World.size_alloc] at hnew hres
  go_enter Tryd.func20, Tryd.ntmps20
  go_wp2_with (first | ((with_reducible refine wpList_load_all (op := ⟨some 4, .load 23 (.tmp 1), _, _, _, _⟩) ?_ 23 (.tmp 1) ?_ w.heap.size 64 ?_ (rowIs_agg w 23 64 (ints .i32 f) |>.alloc _) ?_ Tryd.underlying23 ?_ ?_ ?_); (· rfl); (· rfl); (· rfl); (· omega); (· rfl); (· exact sizeA)) | ((with_reducible refine wpList_store_new (op := ⟨none, .store 42 (.tmp 3) (.tmp 4), _, _, _, _⟩) ?_ 42 (.tmp 3) (.tmp 4) ?_ (w.heap.size + 1 + 1) 64 (g := ints .i32 f) ?_ ?_ (hnew _ _) ?_ ?_ ?_); (· rfl); (· rfl); (· rfl); (· rfl); (· exact sizeB); (· exact fun _ => rfl); (intro w2 k2 s2 r2)))
  have k3 : Kept (fun _ => True) w w2 := Kept.trans' ((((Kept.refl _ _).alloc _).alloc _).alloc _) k2 fun i hi _ => by omega
  have q2 := k2.row (hres _ _) (by omega)
  refine (fdct_any (w.heap.size + 1 + 1) 42 f w2 r2).mono ?_
  rintro e w3 ⟨rfl, k4, r4⟩
  have q3 := k4.row q2 (by omega)
  have k5 : Kept (fun _ => True) w w3 := k3.trans' k4 fun i hi _ => by omega
  clear k4 k3 k2 s2 r2 q2 hnew hres
  go_wp2_with (first | ((with_reducible refine wpList_load_all (op := ⟨some 6, .load 42 (.tmp 3), _, _, _, _⟩) ?_ 42 (.tmp 3) ?_ (w.heap.size + 1 + 1) 64 ?_ r4 ?_ Tryd.underlying42 ?_ ?_ ?_); (· rfl); (· rfl); (· rfl); (· omega); (· rfl); (· exact sizeB)) | ((with_reducible refine wpList_store_new (op := ⟨none, .store 23 (.tmp 2) (.tmp 6), _, _, _, _⟩) ?_ 23 (.tmp 2) (.tmp 6) ?_ (w.heap.size + 1) 64 (g := ints .i32 (frows (fcols f))) ?_ ?_ q3 ?_ ?_ ?_); (· rfl); (· rfl); (· rfl); (· rfl); (· exact sizeA); (· exact fun _ => rfl); (intro w4 k6 s6 r6)))
  exact bodyPost_ret (v := .agg (agg 64 (ints .i32 (frows (fcols f))))) (results_rowIs Tryd.results20 r6 rfl Tryd.underlying23 rfl sizeA) rfl ⟨rfl, k5.trans' k6 fun i hi _ => by omega⟩
set_option maxHeartbeats 1000000 in
set_option maxRecDepth 100000 in
theorem implForward_any (f : Nat → Int) (w : World) :
    Calls Tryd.prog 8 #[.agg (agg 64 (ints .i32 f))] w fun e w' => e = .returned (.agg (agg 64 (ints .i32 (frows (fcols f))))) ∧ Kept (fun _ => True) w w' := by
  have hres := fun o1 => rowIs_lit64 (w.alloc o1) 23
  simp only [World.size_alloc] at hres
  go_enter Tryd.func8, Tryd.ntmps8
  go_wp2_with (((with_reducible refine wpList_load_all (op := ⟨some 3, .load 23 (.tmp 1), _, _, _, _⟩) ?_ 23 (.tmp 1) ?_ w.heap.size 64 ?_ (rowIs_agg w 23 64 (ints .i32 f) |>.alloc _) ?_ Tryd.underlying23 ?_ ?_ ?_); (· rfl); (· rfl); (· rfl); (· omega); (· rfl); (· exact sizeA)))
  refine (zzForward_any f _).mono ?_
  rintro e w3 ⟨rfl, k4⟩
  have q3 := k4.row (hres _) trivial
  have k5 : Kept (fun _ => True) w w3 := Kept.trans (((Kept.refl _ _).alloc _).alloc _) k4
  clear k4 hres
  go_wp2_with (((with_reducible refine wpList_store_new (op := ⟨none, .store 23 (.tmp 2) (.tmp 4), _, _, _, _⟩) ?_ 23 (.tmp 2) (.tmp 4) ?_ (w.heap.size + 1) 64 (g := ints .i32 (frows (fcols f))) ?_ ?_ q3 ?_ ?_ ?_); (· rfl); (· rfl); (· rfl); (· rfl); (· exact sizeA); (· exact fun _ => rfl); (intro w4 k6 s6 r6)))
  exact bodyPost_ret (v := .agg (agg 64 (ints .i32 (frows (fcols f))))) (results_rowIs Tryd.results8 r6 rfl Tryd.underlying23 rfl sizeA) rfl ⟨rfl, k5.trans' k6 fun i hi _ => by omega⟩

set_option maxHeartbeats 1000000 in
set_option maxRecDepth 100000 in
theorem zzInverse_any (f : Nat → Int) (w : World) :
    Calls Tryd.prog 25 #[.agg (agg 64 (ints .i32 f))] w fun e w' => e = .returned (.agg (agg 64 (ints .i32 (icols (irows f))))) ∧ Kept (fun _ => True) w w' := by
  have hnew := fun o1 o2 => rowIs_lit64 ((w.alloc o1).alloc o2) 42
  have hres := fun o1 o2 => (rowIs_lit64 (w.alloc o1) 23).alloc o2
  simp only [World.size_alloc] at hnew hres
  go_enter Tryd.func25, Tryd.ntmps25
  go_wp2_with (first | ((with_reducible refine wpList_load_all (op := ⟨some 4, .load 23 (.tmp 1), _, _, _, _⟩) ?_ 23 (.tmp 1) ?_ w.heap.size 64 ?_ (rowIs_agg w 23 64 (ints .i32 f) |>.alloc _) ?_ Tryd.underlying23 ?_ ?_ ?_); (· rfl); (· rfl); (· rfl); (· omega); (· rfl); (· exact sizeA)) | ((with_reducible refine wpList_store_new (op := ⟨none, .store 42 (.tmp 3) (.tmp 4), _, _, _, _⟩) ?_ 42 (.tmp 3) (.tmp 4) ?_ (w.heap.size + 1 + 1) 64 (g := ints .i32 f) ?_ ?_ (hnew _ _) ?_ ?_ ?_); (· rfl); (· rfl); (· rfl); (· rfl); (· exact sizeB); (· exact fun _ => rfl); (intro w2 k2 s2 r2)))
  have k3 : Kept (fun _ => True) w w2 := Kept.trans' ((((Kept.refl _ _).alloc _).alloc _).alloc _) k2 fun i hi _ => by omega
  have q2 := k2.row (hres _ _) (by omega)
  refine (idct_any (w.heap.size + 1 + 1) 42 f w2 r2).mono ?_
  rintro e w3 ⟨rfl, k4, r4⟩
  have q3 := k4.row q2 (by omega)
  have k5 : Kept (fun _ => True) w w3 := k3.trans' k4 fun i hi _ => by omega
  clear k4 k3 k2 s2 r2 q2 hnew hres
  go_wp2_with (first | ((with_reducible refine wpList_load_all (op := ⟨some 6, .load 42 (.tmp 3), _, _, _, _⟩) ?_ 42 (.tmp 3) ?_ (w.heap.size + 1 + 1) 64 ?_ r4 ?_ Tryd.underlying42 ?_ ?_ ?_); (· rfl); (· rfl); (· rfl); (· omega); (· rfl); (· exact sizeB)) | ((with_reducible refine wpList_store_new (op := ⟨none, .store 23 (.tmp 2) (.tmp 6), _, _, _, _⟩) ?_ 23 (.tmp 2) (.tmp 6) ?_ (w.heap.size + 1) 64 (g := ints .i32 (icols (irows f))) ?_ ?_ q3 ?_ ?_ ?_); (· rfl); (· rfl); (· rfl); (· rfl); (· exact sizeA); (· exact fun _ => rfl); (intro w4 k6 s6 r6)))
  exact bodyPost_ret (v := .agg (agg 64 (ints .i32 (icols (irows f))))) (results_rowIs Tryd.results25 r6 rfl Tryd.underlying23 rfl sizeA) rfl ⟨rfl, k5.trans' k6 fun i hi _ => by omega⟩
set_option maxHeartbeats 1000000 in
set_option maxRecDepth 100000 in
theorem implInverse_any (f : Nat → Int) (w : World) :
    Calls Tryd.prog 14 #[.agg (agg 64 (ints .i32 f))] w fun e w' => e = .returned (.agg (agg 64 (ints .i32 (icols (irows f))))) ∧ Kept (fun _ => True) w w' := by
  have hres := fun o1 => rowIs_lit64 (w.alloc o1) 23
  simp only [World.size_alloc] at hres
  go_enter Tryd.func14, Tryd.ntmps14
  go_wp2_with (((with_reducible refine wpList_load_all (op := ⟨some 3, .load 23 (.tmp 1), _, _, _, _⟩) ?_ 23 (.tmp 1) ?_ w.heap.size 64 ?_ (rowIs_agg w 23 64 (ints .i32 f) |>.alloc _) ?_ Tryd.underlying23 ?_ ?_ ?_); (· rfl); (· rfl); (· rfl); (· omega); (· rfl); (· exact sizeA)))
  refine (zzInverse_any f _).mono ?_
  rintro e w3 ⟨rfl, k4⟩
  have q3 := k4.row (hres _) trivial
  have k5 : Kept (fun _ => True) w w3 := Kept.trans (((Kept.refl _ _).alloc _).alloc _) k4
  clear k4 hres
  go_wp2_with (((with_reducible refine wpList_store_new (op := ⟨none, .store 23 (.tmp 2) (.tmp 4), _, _, _, _⟩) ?_ 23 (.tmp 2) (.tmp 4) ?_ (w.heap.size + 1) 64 (g := ints .i32 (icols (irows f))) ?_ ?_ q3 ?_ ?_ ?_); (· rfl); (· rfl); (· rfl); (· rfl); (· exact sizeA); (· exact fun _ => rfl); (intro w4 k6 s6 r6)))
  exact bodyPost_ret (v := .agg (agg 64 (ints .i32 (icols (irows f))))) (results_rowIs Tryd.results14 r6 rfl Tryd.underlying23 rfl sizeA) rfl ⟨rfl, k5.trans' k6 fun i hi _ => by omega⟩

set_option maxHeartbeats 1000000 in
set_option maxRecDepth 100000 in
theorem zzICols_any (f : Nat → Int) (w : World) :
    Calls Tryd.prog 26 #[.agg (agg 64 (ints .i32 f))] w fun e w' => e = .returned (.agg (agg 64 (ints .i32 (icols f)))) ∧ Kept (fun _ => True) w w' := by
  have hnew := fun o1 o2 => rowIs_lit64 ((w.alloc o1).alloc o2) 42
  have hres := fun o1 o2 => (rowIs_lit64 (w.alloc o1) 23).alloc o2
  simp only [World.size_alloc] at hnew hres
  go_enter Tryd.func26, Tryd.ntmps26
  go_wp2_with (first | ((with_reducible refine wpList_load_all (op := ⟨some 4, .load 23 (.tmp 1), _, _, _, _⟩) ?_ 23 (.tmp 1) ?_ w.heap.size 64 ?_ (rowIs_agg w 23 64 (ints .i32 f) |>.alloc _) ?_ Tryd.underlying23 ?_ ?_ ?_); (· rfl); (· rfl); (· rfl); (· omega); (· rfl); (· exact sizeA)) | ((with_reducible refine wpList_store_new (op := ⟨none, .store 42 (.tmp 3) (.tmp 4), _, _, _, _⟩) ?_ 42 (.tmp 3) (.tmp 4) ?_ (w.heap.size + 1 + 1) 64 (g := ints .i32 f) ?_ ?_ (hnew _ _) ?_ ?_ ?_); (· rfl); (· rfl); (· rfl); (· rfl); (· exact sizeB); (· exact fun _ => rfl); (intro w2 k2 s2 r2)))
  have k3 : Kept (fun _ => True) w w2 := Kept.trans' ((((Kept.refl _ _).alloc _).alloc _).alloc _) k2 fun i hi _ => by omega
  have q2 := k2.row (hres _ _) (by omega)
  refine (icol_any (w.heap.size + 1 + 1) 42 f w2 r2).mono ?_
  rintro e w3 ⟨rfl, k4, r4⟩
  have q3 := k4.row q2 (by omega)
  have k5 : Kept (fun _ => True) w w3 := k3.trans' k4 fun i hi _ => by omega
  clear k4 k3 k2 s2 r2 q2 hnew hres
  go_wp2_with (first | ((with_reducible refine wpList_load_all (op := ⟨some 6, .load 42 (.tmp 3), _, _, _, _⟩) ?_ 42 (.tmp 3) ?_ (w.heap.size + 1 + 1) 64 ?_ r4 ?_ Tryd.underlying42 ?_ ?_ ?_); (· rfl); (· rfl); (· rfl); (· omega); (· rfl); (· exact sizeB)) | ((with_reducible refine wpList_store_new (op := ⟨none, .store 23 (.tmp 2) (.tmp 6), _, _, _, _⟩) ?_ 23 (.tmp 2) (.tmp 6) ?_ (w.heap.size + 1) 64 (g := ints .i32 (icols f)) ?_ ?_ q3 ?_ ?_ ?_); (· rfl); (· rfl); (· rfl); (· rfl); (· exact sizeA); (· exact fun _ => rfl); (intro w4 k6 s6 r6)))
  exact bodyPost_ret (v := .agg (agg 64 (ints .i32 (icols f)))) (results_rowIs Tryd.results26 r6 rfl Tryd.underlying23 rfl sizeA) rfl ⟨rfl, k5.trans' k6 fun i hi _ => by omega⟩
set_option maxHeartbeats 1000000 in
set_option maxRecDepth 100000 in
theorem implICols_any (f : Nat → Int) (w : World) :
    Calls Tryd.prog 15 #[.agg (agg 64 (ints .i32 f))] w fun e w' => e = .returned (.agg (agg 64 (ints .i32 (icols f)))) ∧ Kept (fun _ => True) w w' := by
  have hres := fun o1 => rowIs_lit64 (w.alloc o1) 23
  simp only [World.size_alloc] at hres
  go_enter Tryd.func15, Tryd.ntmps15
  go_wp2_with (((with_reducible refine wpList_load_all (op := ⟨some 3, .load 23 (.tmp 1), _, _, _, _⟩) ?_ 23 (.tmp 1) ?_ w.heap.size 64 ?_ (rowIs_agg w 23 64 (ints .i32 f) |>.alloc _) ?_ Tryd.underlying23 ?_ ?_ ?_); (· rfl); (· rfl); (· rfl); (· omega); (· rfl); (· exact sizeA)))
  refine (zzICols_any f _).mono ?_
  rintro e w3 ⟨rfl, k4⟩
  have q3 := k4.row (hres _) trivial
  have k5 : Kept (fun _ => True) w w3 := Kept.trans (((Kept.refl _ _).alloc _).alloc _) k4
  clear k4 hres
  go_wp2_with (((with_reducible refine wpList_store_new (op := ⟨none, .store 23 (.tmp 2) (.tmp 4), _, _, _, _⟩) ?_ 23 (.tmp 2) (.tmp 4) ?_ (w.heap.size + 1) 64 (g := ints .i32 (icols f)) ?_ ?_ q3 ?_ ?_ ?_); (· rfl); (· rfl); (· rfl); (· rfl); (· exact sizeA); (· exact fun _ => rfl); (intro w4 k6 s6 r6)))
  exact bodyPost_ret (v := .agg (agg 64 (ints .i32 (icols f)))) (results_rowIs Tryd.results15 r6 rfl Tryd.underlying23 rfl sizeA) rfl ⟨rfl, k5.trans' k6 fun i hi _ => by omega⟩

set_option maxHeartbeats 1000000 in
set_option maxRecDepth 100000 in
theorem zzIRows_any (f : Nat → Int) (w : World) :
    Calls Tryd.prog 27 #[.agg (agg 64 (ints .i32 f))] w fun e w' => e = .returned (.agg (agg 64 (ints .i32 (irows f)))) ∧ Kept (fun _ => True) w w' := by
  have hnew := fun o1 o2 => rowIs_lit64 ((w.alloc o1).alloc o2) 42
  have hres := fun o1 o2 => (rowIs_lit64 (w.alloc o1) 23).alloc o2
  simp only [World.size_alloc] at hnew hres
  go_enter Tryd.func27, Tryd.ntmps27
  go_wp2_with (first | ((with_reducible refine wpList_load_all (op := ⟨some 4, .load 23 (.tmp 1), _, _, _, _⟩) ?_ 23 (.tmp 1) ?_ w.heap.size 64 ?_ (rowIs_agg w 23 64 (ints .i32 f) |>.alloc _) ?_ Tryd.underlying23 ?_ ?_ ?_); (· rfl); (· rfl); (· rfl); (· omega); (· rfl); (· exact sizeA)) | ((with_reducible refine wpList_store_new (op := ⟨none, .store 42 (.tmp 3) (.tmp 4), _, _, _, _⟩) ?_ 42 (.tmp 3) (.tmp 4) ?_ (w.heap.size + 1 + 1) 64 (g := ints .i32 f) ?_ ?_ (hnew _ _) ?_ ?_ ?_); (· rfl); (· rfl); (· rfl); (· rfl); (· exact sizeB); (· exact fun _ => rfl); (intro w2 k2 s2 r2)))
  have k3 : Kept (fun _ => True) w w2 := Kept.trans' ((((Kept.refl _ _).alloc _).alloc _).alloc _) k2 fun i hi _ => by omega
  have q2 := k2.row (hres _ _) (by omega)
  refine (irow_any (w.heap.size + 1 + 1) 42 f w2 r2).mono ?_
  rintro e w3 ⟨rfl, k4, r4⟩
  have q3 := k4.row q2 (by omega)
  have k5 : Kept (fun _ => True) w w3 := k3.trans' k4 fun i hi _ => by omega
  clear k4 k3 k2 s2 r2 q2 hnew hres
  go_wp2_with (first | ((with_reducible refine wpList_load_all (op := ⟨some 6, .load 42 (.tmp 3), _, _, _, _⟩) ?_ 42 (.tmp 3) ?_ (w.heap.size + 1 + 1) 64 ?_ r4 ?_ Tryd.underlying42 ?_ ?_ ?_); (· rfl); (· rfl); (· rfl); (· omega); (· rfl); (· exact sizeB)) | ((with_reducible refine wpList_store_new (op := ⟨none, .store 23 (.tmp 2) (.tmp 6), _, _, _, _⟩) ?_ 23 (.tmp 2) (.tmp 6) ?_ (w.heap.size + 1) 64 (g := ints .i32 (irows f)) ?_ ?_ q3 ?_ ?_ ?_); (· rfl); (· rfl); (· rfl); (· rfl); (· exact sizeA); (· exact fun _ => rfl); (intro w4 k6 s6 r6)))
  exact bodyPost_ret (v := .agg (agg 64 (ints .i32 (irows f)))) (results_rowIs Tryd.results27 r6 rfl Tryd.underlying23 rfl sizeA) rfl ⟨rfl, k5.trans' k6 fun i hi _ => by omega⟩
set_option maxHeartbeats 1000000 in
set_option maxRecDepth 100000 in
theorem implIRows_any (f : Nat → Int) (w : World) :
    Calls Tryd.prog 16 #[.agg (agg 64 (ints .i32 f))] w fun e w' => e = .returned (.agg (agg 64 (ints .i32 (irows f)))) ∧ Kept (fun _ => True) w w' := by
  have hres := fun o1 => rowIs_lit64 (w.alloc o1) 23
  simp only [World.size_alloc] at hres
  go_enter Tryd.func16, Tryd.ntmps16
  go_wp2_with (((with_reducible refine wpList_load_all (op := ⟨some 3, .load 23 (.tmp 1), _, _, _, _⟩) ?_ 23 (.tmp 1) ?_ w.heap.size 64 ?_ (rowIs_agg w 23 64 (ints .i32 f) |>.alloc _) ?_ Tryd.underlying23 ?_ ?_ ?_); (· rfl); (· rfl); (· rfl); (· omega); (· rfl); (· exact sizeA)))
  refine (zzIRows_any f _).mono ?_
  rintro e w3 ⟨rfl, k4⟩
  have q3 := k4.row (hres _) trivial
  have k5 : Kept (fun _ => True) w w3 := Kept.trans (((Kept.refl _ _).alloc _).alloc _) k4
  clear k4 hres
  go_wp2_with (((with_reducible refine wpList_store_new (op := ⟨none, .store 23 (.tmp 2) (.tmp 4), _, _, _, _⟩) ?_ 23 (.tmp 2) (.tmp 4) ?_ (w.heap.size + 1) 64 (g := ints .i32 (irows f)) ?_ ?_ q3 ?_ ?_ ?_); (· rfl); (· rfl); (· rfl); (· rfl); (· exact sizeA); (· exact fun _ => rfl); (intro w4 k6 s6 r6)))
  exact bodyPost_ret (v := .agg (agg 64 (ints .i32 (irows f)))) (results_rowIs Tryd.results16 r6 rfl Tryd.underlying23 rfl sizeA) rfl ⟨rfl, k5.trans' k6 fun i hi _ => by omega⟩
end Go.Proofs.YtcblegbjhiameaaDoor
