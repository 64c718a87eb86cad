/- Contracts of fdct, idct and of the exports around the four passes (printed by wip/tools/dctcalls.py). -/
import Derived.Test.YtcblegbjhiameaaWalkfcol
import Derived.Test.YtcblegbjhiameaaWalkfrow
import Derived.Test.YtcblegbjhiameaaWalkirow
import Derived.Test.YtcblegbjhiameaaWalkicol
namespace Go.Proofs.Ytcblegbjhiameaa
open Go.Deep Go.RowKit
theorem sizeA : (Try.prog.info? 22).map (·.size) = some 64 := by kernel_rfl
theorem sizeB : (Try.prog.info? 30).map (·.size) = some 64 := by kernel_rfl
theorem fdct_any (b : Nat) (T : TypeId) (f : Nat → Int) (w : World) (h : w.rowIs b T 64 (ints .i32 f)) :
    Calls Try.prog 15 #[.pointer (some ⟨b, 0, none⟩)] w fun e w' => e = .returned (.tuple #[]) ∧ Kept (fun k => k ≠ b) w w' ∧ w'.rowIs b T 64 (ints .i32 (frows (fcols f))) := by
  go_enter Try.func15, Try.ntmps15
  go_wp2_with fail
  refine (fcol_any b T f w h).mono ?_
  rintro e w1 ⟨rfl, k1, r1⟩
  go_wp2_with fail
  refine (frow_any b T _ w1 r1).mono ?_
  rintro e w2 ⟨rfl, k2, r2⟩
  go_wp2_with fail
  go_end0
  exact ⟨rfl, k1.trans k2, r2⟩
theorem idct_any (b : Nat) (T : TypeId) (f : Nat → Int) (w : World) (h : w.rowIs b T 64 (ints .i32 f)) :
    Calls Try.prog 14 #[.pointer (some ⟨b, 0, none⟩)] w fun e w' => e = .returned (.tuple #[]) ∧ Kept (fun k => k ≠ b) w w' ∧ w'.rowIs b T 64 (ints .i32 (icols (irows f))) := by
  go_enter Try.func14, Try.ntmps14
  go_wp2_with fail
  refine (irow_any b T f w h).mono ?_
  rintro e w1 ⟨rfl, k1, r1⟩
  go_wp2_with fail
  refine (icol_any b T _ w1 r1).mono ?_
  rintro e w2 ⟨rfl, k2, r2⟩
  go_wp2_with fail
  go_end0
  exact ⟨rfl, k1.trans k2, r2⟩

set_option maxHeartbeats 1000000 in
set_option maxRecDepth 100000 in
theorem zzForward_any (f : Nat → Int) (w : World) :
    Calls Try.prog 11 #[.agg (agg 64 (ints .i32 f))] w fun e w' => e = .returned (.agg (agg 64 (ints .i32 (frows (fcols f))))) ∧ Kept (fun _ => True) w w' := by
  have hnew := fun o1 o2 => rowIs_lit64 ((w.alloc o1).alloc o2) 30
  have hres := fun o1 o2 => (rowIs_lit64 (w.alloc o1) 22).alloc o2
  simp only [World.size_alloc] at hnew hres
  go_enter Try.func11, Try.ntmps11
  go_wp2_with (first | ((with_reducible refine wpList_load_all (op := ⟨some 4, .load 22 (.tmp 1), _, _, _, _⟩) ?_ 22 (.tmp 1) ?_ w.heap.size 64 ?_ (rowIs_agg w 22 64 (ints .i32 f) |>.alloc _) ?_ Try.underlying22 ?_ ?_ ?_); (· rfl); (· rfl); (· rfl); (· omega); (· rfl); (· exact sizeA)) | ((with_reducible refine wpList_store_new (op := ⟨none, .store 30 (.tmp 3) (.tmp 4), _, _, _, _⟩) ?_ 30 (.tmp 3) (.tmp 4) ?_ (w.heap.size + 1 + 1) 64 (g := ints .i32 f) ?_ ?_ (hnew _ _) ?_ ?_ ?_); (· rfl); (· rfl); (· rfl); (· rfl); (· exact sizeB); (· exact fun _ => rfl); (intro w2 k2 s2 r2)))
  have k3 : Kept (fun _ => True) w w2 := Kept.trans' ((((Kept.refl _ _).alloc _).alloc _).alloc _) k2 fun i hi _ => by omega
  have q2 := k2.row (hres _ _) (by omega)
  refine (fdct_any (w.heap.size + 1 + 1) 30 f w2 r2).mono ?_
  rintro e w3 ⟨rfl, k4, r4⟩
  have q3 := k4.row q2 (by omega)
  have k5 : Kept (fun _ => True) w w3 := k3.trans' k4 fun i hi _ => by omega
  clear k4 k3 k2 s2 r2 q2 hnew hres
  go_wp2_with (first | ((with_reducible refine wpList_load_all (op := ⟨some 6, .load 30 (.tmp 3), _, _, _, _⟩) ?_ 30 (.tmp 3) ?_ (w.heap.size + 1 + 1) 64 ?_ r4 ?_ Try.underlying30 ?_ ?_ ?_); (· rfl); (· rfl); (· rfl); (· omega); (· rfl); (· exact sizeB)) | ((with_reducible refine wpList_store_new (op := ⟨none, .store 22 (.tmp 2) (.tmp 6), _, _, _, _⟩) ?_ 22 (.tmp 2) (.tmp 6) ?_ (w.heap.size + 1) 64 (g := ints .i32 (frows (fcols f))) ?_ ?_ q3 ?_ ?_ ?_); (· rfl); (· rfl); (· rfl); (· rfl); (· exact sizeA); (· exact fun _ => rfl); (intro w4 k6 s6 r6)))
  exact bodyPost_ret (v := .agg (agg 64 (ints .i32 (frows (fcols f))))) (results_rowIs Try.results11 r6 rfl Try.underlying22 rfl sizeA) rfl ⟨rfl, k5.trans' k6 fun i hi _ => by omega⟩
set_option maxHeartbeats 1000000 in
set_option maxRecDepth 100000 in
theorem implForward_any (f : Nat → Int) (w : World) :
    Calls Try.prog 7 #[.agg (agg 64 (ints .i32 f))] w fun e w' => e = .returned (.agg (agg 64 (ints .i32 (frows (fcols f))))) ∧ Kept (fun _ => True) w w' := by
  have hres := fun o1 => rowIs_lit64 (w.alloc o1) 22
  simp only [World.size_alloc] at hres
  go_enter Try.func7, Try.ntmps7
  go_wp2_with (((with_reducible refine wpList_load_all (op := ⟨some 3, .load 22 (.tmp 1), _, _, _, _⟩) ?_ 22 (.tmp 1) ?_ w.heap.size 64 ?_ (rowIs_agg w 22 64 (ints .i32 f) |>.alloc _) ?_ Try.underlying22 ?_ ?_ ?_); (· rfl); (· rfl); (· rfl); (· omega); (· rfl); (· exact sizeA)))
  refine (zzForward_any f _).mono ?_
  rintro e w3 ⟨rfl, k4⟩
  have q3 := k4.row (hres _) trivial
  have k5 : Kept (fun _ => True) w w3 := Kept.trans (((Kept.refl _ _).alloc _).alloc _) k4
  clear k4 hres
  go_wp2_with (((with_reducible refine wpList_store_new (op := ⟨none, .store 22 (.tmp 2) (.tmp 4), _, _, _, _⟩) ?_ 22 (.tmp 2) (.tmp 4) ?_ (w.heap.size + 1) 64 (g := ints .i32 (frows (fcols f))) ?_ ?_ q3 ?_ ?_ ?_); (· rfl); (· rfl); (· rfl); (· rfl); (· exact sizeA); (· exact fun _ => rfl); (intro w4 k6 s6 r6)))
  exact bodyPost_ret (v := .agg (agg 64 (ints .i32 (frows (fcols f))))) (results_rowIs Try.results7 r6 rfl Try.underlying22 rfl sizeA) rfl ⟨rfl, k5.trans' k6 fun i hi _ => by omega⟩

set_option maxHeartbeats 1000000 in
set_option maxRecDepth 100000 in
theorem zzInverse_any (f : Nat → Int) (w : World) :
    Calls Try.prog 10 #[.agg (agg 64 (ints .i32 f))] w fun e w' => e = .returned (.agg (agg 64 (ints .i32 (icols (irows f))))) ∧ Kept (fun _ => True) w w' := by
  have hnew := fun o1 o2 => rowIs_lit64 ((w.alloc o1).alloc o2) 30
  have hres := fun o1 o2 => (rowIs_lit64 (w.alloc o1) 22).alloc o2
  simp only [World.size_alloc] at hnew hres
  go_enter Try.func10, Try.ntmps10
  go_wp2_with (first | ((with_reducible refine wpList_load_all (op := ⟨some 4, .load 22 (.tmp 1), _, _, _, _⟩) ?_ 22 (.tmp 1) ?_ w.heap.size 64 ?_ (rowIs_agg w 22 64 (ints .i32 f) |>.alloc _) ?_ Try.underlying22 ?_ ?_ ?_); (· rfl); (· rfl); (· rfl); (· omega); (· rfl); (· exact sizeA)) | ((with_reducible refine wpList_store_new (op := ⟨none, .store 30 (.tmp 3) (.tmp 4), _, _, _, _⟩) ?_ 30 (.tmp 3) (.tmp 4) ?_ (w.heap.size + 1 + 1) 64 (g := ints .i32 f) ?_ ?_ (hnew _ _) ?_ ?_ ?_); (· rfl); (· rfl); (· rfl); (· rfl); (· exact sizeB); (· exact fun _ => rfl); (intro w2 k2 s2 r2)))
  have k3 : Kept (fun _ => True) w w2 := Kept.trans' ((((Kept.refl _ _).alloc _).alloc _).alloc _) k2 fun i hi _ => by omega
  have q2 := k2.row (hres _ _) (by omega)
  refine (idct_any (w.heap.size + 1 + 1) 30 f w2 r2).mono ?_
  rintro e w3 ⟨rfl, k4, r4⟩
  have q3 := k4.row q2 (by omega)
  have k5 : Kept (fun _ => True) w w3 := k3.trans' k4 fun i hi _ => by omega
  clear k4 k3 k2 s2 r2 q2 hnew hres
  go_wp2_with (first | ((with_reducible refine wpList_load_all (op := ⟨some 6, .load 30 (.tmp 3), _, _, _, _⟩) ?_ 30 (.tmp 3) ?_ (w.heap.size + 1 + 1) 64 ?_ r4 ?_ Try.underlying30 ?_ ?_ ?_); (· rfl); (· rfl); (· rfl); (· omega); (· rfl); (· exact sizeB)) | ((with_reducible refine wpList_store_new (op := ⟨none, .store 22 (.tmp 2) (.tmp 6), _, _, _, _⟩) ?_ 22 (.tmp 2) (.tmp 6) ?_ (w.heap.size + 1) 64 (g := ints .i32 (icols (irows f))) ?_ ?_ q3 ?_ ?_ ?_); (· rfl); (· rfl); (· rfl); (· rfl); (· exact sizeA); (· exact fun _ => rfl); (intro w4 k6 s6 r6)))
  exact bodyPost_ret (v := .agg (agg 64 (ints .i32 (icols (irows f))))) (results_rowIs Try.results10 r6 rfl Try.underlying22 rfl sizeA) rfl ⟨rfl, k5.trans' k6 fun i hi _ => by omega⟩
set_option maxHeartbeats 1000000 in
set_option maxRecDepth 100000 in
theorem implInverse_any (f : Nat → Int) (w : World) :
    Calls Try.prog 5 #[.agg (agg 64 (ints .i32 f))] w fun e w' => e = .returned (.agg (agg 64 (ints .i32 (icols (irows f))))) ∧ Kept (fun _ => True) w w' := by
  have hres := fun o1 => rowIs_lit64 (w.alloc o1) 22
  simp only [World.size_alloc] at hres
  go_enter Try.func5, Try.ntmps5
  go_wp2_with (((with_reducible refine wpList_load_all (op := ⟨some 3, .load 22 (.tmp 1), _, _, _, _⟩) ?_ 22 (.tmp 1) ?_ w.heap.size 64 ?_ (rowIs_agg w 22 64 (ints .i32 f) |>.alloc _) ?_ Try.underlying22 ?_ ?_ ?_); (· rfl); (· rfl); (· rfl); (· omega); (· rfl); (· exact sizeA)))
  refine (zzInverse_any f _).mono ?_
  rintro e w3 ⟨rfl, k4⟩
  have q3 := k4.row (hres _) trivial
  have k5 : Kept (fun _ => True) w w3 := Kept.trans (((Kept.refl _ _).alloc _).alloc _) k4
  clear k4 hres
  go_wp2_with (((with_reducible refine wpList_store_new (op := ⟨none, .store 22 (.tmp 2) (.tmp 4), _, _, _, _⟩) ?_ 22 (.tmp 2) (.tmp 4) ?_ (w.heap.size + 1) 64 (g := ints .i32 (icols (irows f))) ?_ ?_ q3 ?_ ?_ ?_); (· rfl); (· rfl); (· rfl); (· rfl); (· exact sizeA); (· exact fun _ => rfl); (intro w4 k6 s6 r6)))
  exact bodyPost_ret (v := .agg (agg 64 (ints .i32 (icols (irows f))))) (results_rowIs Try.results5 r6 rfl Try.underlying22 rfl sizeA) rfl ⟨rfl, k5.trans' k6 fun i hi _ => by omega⟩

set_option maxHeartbeats 1000000 in
set_option maxRecDepth 100000 in
theorem zzFCols_any (f : Nat → Int) (w : World) :
    Calls Try.prog 13 #[.agg (agg 64 (ints .i32 f))] w fun e w' => e = .returned (.agg (agg 64 (ints .i32 (fcols f)))) ∧ Kept (fun _ => True) w w' := by
  have hnew := fun o1 o2 => rowIs_lit64 ((w.alloc o1).alloc o2) 30
  have hres := fun o1 o2 => (rowIs_lit64 (w.alloc o1) 22).alloc o2
  simp only [World.size_alloc] at hnew hres
  go_enter Try.func13, Try.ntmps13
  go_wp2_with (first | ((with_reducible refine wpList_load_all (op := ⟨some 4, .load 22 (.tmp 1), _, _, _, _⟩) ?_ 22 (.tmp 1) ?_ w.heap.size 64 ?_ (rowIs_agg w 22 64 (ints .i32 f) |>.alloc _) ?_ Try.underlying22 ?_ ?_ ?_); (· rfl); (· rfl); (· rfl); (· omega); (· rfl); (· exact sizeA)) | ((with_reducible refine wpList_store_new (op := ⟨none, .store 30 (.tmp 3) (.tmp 4), _, _, _, _⟩) ?_ 30 (.tmp 3) (.tmp 4) ?_ (w.heap.size + 1 + 1) 64 (g := ints .i32 f) ?_ ?_ (hnew _ _) ?_ ?_ ?_); (· rfl); (· rfl); (· rfl); (· rfl); (· exact sizeB); (· exact fun _ => rfl); (intro w2 k2 s2 r2)))
  have k3 : Kept (fun _ => True) w w2 := Kept.trans' ((((Kept.refl _ _).alloc _).alloc _).alloc _) k2 fun i hi _ => by omega
  have q2 := k2.row (hres _ _) (by omega)
  refine (fcol_any (w.heap.size + 1 + 1) 30 f w2 r2).mono ?_
  rintro e w3 ⟨rfl, k4, r4⟩
  have q3 := k4.row q2 (by omega)
  have k5 : Kept (fun _ => True) w w3 := k3.trans' k4 fun i hi _ => by omega
  clear k4 k3 k2 s2 r2 q2 hnew hres
  go_wp2_with (first | ((with_reducible refine wpList_load_all (op := ⟨some 6, .load 30 (.tmp 3), _, _, _, _⟩) ?_ 30 (.tmp 3) ?_ (w.heap.size + 1 + 1) 64 ?_ r4 ?_ Try.underlying30 ?_ ?_ ?_); (· rfl); (· rfl); (· rfl); (· omega); (· rfl); (· exact sizeB)) | ((with_reducible refine wpList_store_new (op := ⟨none, .store 22 (.tmp 2) (.tmp 6), _, _, _, _⟩) ?_ 22 (.tmp 2) (.tmp 6) ?_ (w.heap.size + 1) 64 (g := ints .i32 (fcols f)) ?_ ?_ q3 ?_ ?_ ?_); (· rfl); (· rfl); (· rfl); (· rfl); (· exact sizeA); (· exact fun _ => rfl); (intro w4 k6 s6 r6)))
  exact bodyPost_ret (v := .agg (agg 64 (ints .i32 (fcols f)))) (results_rowIs Try.results13 r6 rfl Try.underlying22 rfl sizeA) rfl ⟨rfl, k5.trans' k6 fun i hi _ => by omega⟩
set_option maxHeartbeats 1000000 in
set_option maxRecDepth 100000 in
theorem implFCols_any (f : Nat → Int) (w : World) :
    Calls Try.prog 9 #[.agg (agg 64 (ints .i32 f))] w fun e w' => e = .returned (.agg (agg 64 (ints .i32 (fcols f)))) ∧ Kept (fun _ => True) w w' := by
  have hres := fun o1 => rowIs_lit64 (w.alloc o1) 22
  simp only [World.size_alloc] at hres
  go_enter Try.func9, Try.ntmps9
  go_wp2_with (((with_reducible refine wpList_load_all (op := ⟨some 3, .load 22 (.tmp 1), _, _, _, _⟩) ?_ 22 (.tmp 1) ?_ w.heap.size 64 ?_ (rowIs_agg w 22 64 (ints .i32 f) |>.alloc _) ?_ Try.underlying22 ?_ ?_ ?_); (· rfl); (· rfl); (· rfl); (· omega); (· rfl); (· exact sizeA)))
  refine (zzFCols_any f _).mono ?_
  rintro e w3 ⟨rfl, k4⟩
  have q3 := k4.row (hres _) trivial
  have k5 : Kept (fun _ => True) w w3 := Kept.trans (((Kept.refl _ _).alloc _).alloc _) k4
  clear k4 hres
  go_wp2_with (((with_reducible refine wpList_store_new (op := ⟨none, .store 22 (.tmp 2) (.tmp 4), _, _, _, _⟩) ?_ 22 (.tmp 2) (.tmp 4) ?_ (w.heap.size + 1) 64 (g := ints .i32 (fcols f)) ?_ ?_ q3 ?_ ?_ ?_); (· rfl); (· rfl); (· rfl); (· rfl); (· exact sizeA); (· exact fun _ => rfl); (intro w4 k6 s6 r6)))
  exact bodyPost_ret (v := .agg (agg 64 (ints .i32 (fcols f)))) (results_rowIs Try.results9 r6 rfl Try.underlying22 rfl sizeA) rfl ⟨rfl, k5.trans' k6 fun i hi _ => by omega⟩

set_option maxHeartbeats 1000000 in
set_option maxRecDepth 100000 in
theorem zzFRows_any (f : Nat → Int) (w : World) :
    Calls Try.prog 12 #[.agg (agg 64 (ints .i32 f))] w fun e w' => e = .returned (.agg (agg 64 (ints .i32 (frows f)))) ∧ Kept (fun _ => True) w w' := by
  have hnew := fun o1 o2 => rowIs_lit64 ((w.alloc o1).alloc o2) 30
  have hres := fun o1 o2 => (rowIs_lit64 (w.alloc o1) 22).alloc o2
  simp only [World.size_alloc] at hnew hres
  go_enter Try.func12, Try.ntmps12
  go_wp2_with (first | ((with_reducible refine wpList_load_all (op := ⟨some 4, .load 22 (.tmp 1), _, _, _, _⟩) ?_ 22 (.tmp 1) ?_ w.heap.size 64 ?_ (rowIs_agg w 22 64 (ints .i32 f) |>.alloc _) ?_ Try.underlying22 ?_ ?_ ?_); (· rfl); (· rfl); (· rfl); (· omega); (· rfl); (· exact sizeA)) | ((with_reducible refine wpList_store_new (op := ⟨none, .store 30 (.tmp 3) (.tmp 4), _, _, _, _⟩) ?_ 30 (.tmp 3) (.tmp 4) ?_ (w.heap.size + 1 + 1) 64 (g := ints .i32 f) ?_ ?_ (hnew _ _) ?_ ?_ ?_); (· rfl); (· rfl); (· rfl); (· rfl); (· exact sizeB); (· exact fun _ => rfl); (intro w2 k2 s2 r2)))
  have k3 : Kept (fun _ => True) w w2 := Kept.trans' ((((Kept.refl _ _).alloc _).alloc _).alloc _) k2 fun i hi _ => by omega
  have q2 := k2.row (hres _ _) (by omega)
  refine (frow_any (w.heap.size + 1 + 1) 30 f w2 r2).mono ?_
  rintro e w3 ⟨rfl, k4, r4⟩
  have q3 := k4.row q2 (by omega)
  have k5 : Kept (fun _ => True) w w3 := k3.trans' k4 fun i hi _ => by omega
  clear k4 k3 k2 s2 r2 q2 hnew hres
  go_wp2_with (first | ((with_reducible refine wpList_load_all (op := ⟨some 6, .load 30 (.tmp 3), _, _, _, _⟩) ?_ 30 (.tmp 3) ?_ (w.heap.size + 1 + 1) 64 ?_ r4 ?_ Try.underlying30 ?_ ?_ ?_); (· rfl); (· rfl); (· rfl); (· omega); (· rfl); (· exact sizeB)) | ((with_reducible refine wpList_store_new (op := ⟨none, .store 22 (.tmp 2) (.tmp 6), _, _, _, _⟩) ?_ 22 (.tmp 2) (.tmp 6) ?_ (w.heap.size + 1) 64 (g := ints .i32 (frows f)) ?_ ?_ q3 ?_ ?_ ?_); (· rfl); (· rfl); (· rfl); (· rfl); (· exact sizeA); (· exact fun _ => rfl); (intro w4 k6 s6 r6)))
  exact bodyPost_ret (v := .agg (agg 64 (ints .i32 (frows f)))) (results_rowIs Try.results12 r6 rfl Try.underlying22 rfl sizeA) rfl ⟨rfl, k5.trans' k6 fun i hi _ => by omega⟩
set_option maxHeartbeats 1000000 in
set_option maxRecDepth 100000 in
theorem implFRows_any (f : Nat → Int) (w : World) :
    Calls Try.prog 8 #[.agg (agg 64 (ints .i32 f))] w fun e w' => e = .returned (.agg (agg 64 (ints .i32 (frows f)))) ∧ Kept (fun _ => True) w w' := by
  have hres := fun o1 => rowIs_lit64 (w.alloc o1) 22
  simp only [World.size_alloc] at hres
  go_enter Try.func8, Try.ntmps8
  go_wp2_with (((with_reducible refine wpList_load_all (op := ⟨some 3, .load 22 (.tmp 1), _, _, _, _⟩) ?_ 22 (.tmp 1) ?_ w.heap.size 64 ?_ (rowIs_agg w 22 64 (ints .i32 f) |>.alloc _) ?_ Try.underlying22 ?_ ?_ ?_); (· rfl); (· rfl); (· rfl); (· omega); (· rfl); (· exact sizeA)))
  refine (zzFRows_any f _).mono ?_
  rintro e w3 ⟨rfl, k4⟩
  have q3 := k4.row (hres _) trivial
  have k5 : Kept (fun _ => True) w w3 := Kept.trans (((Kept.refl _ _).alloc _).alloc _) k4
  clear k4 hres
  go_wp2_with (((with_reducible refine wpList_store_new (op := ⟨none, .store 22 (.tmp 2) (.tmp 4), _, _, _, _⟩) ?_ 22 (.tmp 2) (.tmp 4) ?_ (w.heap.size + 1) 64 (g := ints .i32 (frows f)) ?_ ?_ q3 ?_ ?_ ?_); (· rfl); (· rfl); (· rfl); (· rfl); (· exact sizeA); (· exact fun _ => rfl); (intro w4 k6 s6 r6)))
  exact bodyPost_ret (v := .agg (agg 64 (ints .i32 (frows f)))) (results_rowIs Try.results8 r6 rfl Try.underlying22 rfl sizeA) rfl ⟨rfl, k5.trans' k6 fun i hi _ => by omega⟩
end Go.Proofs.Ytcblegbjhiameaa
