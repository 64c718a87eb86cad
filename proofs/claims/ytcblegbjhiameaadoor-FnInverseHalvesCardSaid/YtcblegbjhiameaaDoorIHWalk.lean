/- The walk of the law FnInverseHalves. -/
import Derived.Test.YtcblegbjhiameaaDoorOneLaw
import Derived.Test.YtcblegbjhiameaaDoorCoef
import Derived.Test.YtcblegbjhiameaaDoorSpecTop
import Derived.Test.YtcblegbjhiameaaDoorArrEq
import Derived.Test.YtcblegbjhiameaaDoorDctCallsDoor
namespace Go.Proofs.YtcblegbjhiameaaDoor
open Go.Deep Go.RowKit
theorem size_i32 : (Tryd.prog.info? 21).map (·.size) = some 1 := by kernel_rfl
theorem guardA : Tryd.prog.eqGuardType Tryd.prog.depth 23 = false := by kernel_rfl
theorem eql_self (f : Nat → Int) (w : World) : (binOp .eql 23 (.agg (agg 64 (ints .i32 f))) (.agg (agg 64 (ints .i32 f)))).run Tryd.prog w = .ok (.bool true) w := by
  rw [run_eql_struct, run_equalIn_ints Tryd.underlying23 Tryd.underlying21 size_i32]
  simp [Result.andThen]
theorem execOp_bin {ρ : Operand → Value} {o : Oper} (op : BinOp) (x y : Operand) (ty : TypeId) (ho : o.op = .binOp op 23 x y ty) (xs ys : Array Value) (hx : ρ x = .agg xs) (hy : ρ y = .agg ys) {v : Value} {w : World}
    (h : (binOp op 23 (.agg xs) (.agg ys)).run Tryd.prog w = .ok v w) : (execOp ρ o).run Tryd.prog w = .ok (.value v) w := by
  unfold execOp
  simp only [ho, hx, hy, Sem.run_bind, Sem.run_pure, Result.andThen_ok, run_eqGuard_agg (hm := guardA), h]

set_option maxHeartbeats 1000000 in
set_option maxRecDepth 100000 in
theorem ih_any (zz : Nat → Nat) (bs : Nat → Int) (a : Option Addr) (len cap : Nat) (z : List Int) (w : World) (L : Laid zz bs w) (h : IsRow .i64 w a len cap z) (hb : ¬ 2147483647 < len) :
    Calls Tryd.prog 5 #[.slice a len cap] w fun e w' => e = .returned (.bool true) ∧ Kept (fun _ => True) w w' := by
  have hlen := h.len_le
  have HC1 := Lib.hid (coef_any a len cap z w h)
  clear h
  go_enter Tryd.func5, Tryd.ntmps5
  go_wp2_with fail
  refine HC1.out.mono ?_
  rintro e w1 ⟨f, ok, rfl, hok, k1⟩
  have hn1 := fun o => (rowIs_lit64 w1 23).alloc o
  have hn2 := fun o => rowIs_lit64i (w1.alloc o) 24
  simp only [World.size_alloc] at hn2
  have hsz := k1.size
  clear HC1
  cases ok
  · clear hok
    go_wp2_with (first | ((with_reducible refine wpList_store_new (op := ⟨none, .store 23 (.tmp 3) (.tmp 13), _, _, _, _⟩) ?_ 23 (.tmp 3) (.tmp 13) ?_ w1.heap.size 64 (g := ints .i32 f) ?_ ?_ (hn1 _) ?_ ?_ ?_); (· rfl); (· rfl); (· rfl); (· rfl); (· exact sizeT); (· exact fun _ => rfl); (intro w2 k2 s2 r2)) | ((with_reducible refine wpList_store_new (op := ⟨none, .store 24 (.tmp 4) (.tmp 14), _, _, _, _⟩) ?_ 24 (.tmp 4) (.tmp 14) ?_ (w1.heap.size + 1) 64 (g := ints .i64 f) ?_ ?_ (k2.row (hn2 _) (by omega)) ?_ ?_ ?_); (· rfl); (· rfl); (· rfl); (· rfl); (· exact sizeU); (· exact fun _ => rfl); (intro w3 k3 s3 r3)))
    go_ret
    exact ⟨rfl, (((k1.alloc _).alloc _).trans' k2 fun i hi _ => by omega).trans' k3 fun i hi _ => by omega⟩
  · clear hok
    go_wp2_with (first | ((with_reducible refine wpList_store_new (op := ⟨none, .store 23 (.tmp 3) (.tmp 13), _, _, _, _⟩) ?_ 23 (.tmp 3) (.tmp 13) ?_ w1.heap.size 64 (g := ints .i32 f) ?_ ?_ (hn1 _) ?_ ?_ ?_); (· rfl); (· rfl); (· rfl); (· rfl); (· exact sizeT); (· exact fun _ => rfl); (intro w2 k2 s2 r2)) | ((with_reducible refine wpList_store_new (op := ⟨none, .store 24 (.tmp 4) (.tmp 14), _, _, _, _⟩) ?_ 24 (.tmp 4) (.tmp 14) ?_ (w1.heap.size + 1) 64 (g := ints .i64 f) ?_ ?_ (k2.row (hn2 _) (by omega)) ?_ ?_ ?_); (· rfl); (· rfl); (· rfl); (· rfl); (· exact sizeU); (· exact fun _ => rfl); (intro w3 k3 s3 r3)))
    have r4 := k3.row r2 (by omega)
    have K3 : Kept (fun _ => True) w w3 := (((k1.alloc _).alloc _).trans' k2 fun i hi _ => by omega).trans' k3 fun i hi _ => by omega
    clear hn1 hn2 k1 k2 k3 s2 s3 r2
    refine (specInverse_any zz bs f (w1.heap.size + 1) 24 w3 (L.kept K3) r3).mono ?_
    rintro e w4 ⟨rfl, k4⟩
    have K4 := K3.trans k4
    have r5 := k4.row r4 trivial
    have lt5 := r5.lt
    have hsz4 := K4.size
    clear k4 K3 r4 r3
    generalize inv zz bs f = S
    have hnew := rowIs_lit64i w4 24
    go_wp2_with (((with_reducible refine wpList_store_new (op := ⟨none, .store 24 (.tmp 6) (.tmp 18), _, _, _, _⟩) ?_ 24 (.tmp 6) (.tmp 18) ?_ w4.heap.size 64 (g := ints .i64 S) ?_ ?_ hnew ?_ ?_ ?_); (· rfl); (· rfl); (· rfl); (· rfl); (· exact sizeU); (· exact fun _ => rfl); (intro w5 k5 s5 q5)))
    have K5 : Kept (fun _ => True) w w5 := (K4.alloc _).trans' k5 fun i hi _ => by omega
    have r6 := k5.row (r5.alloc _) (by omega)
    clear k5 s5 K4 r5 hnew
    refine (within_any S w4.heap.size 24 w5 q5).mono ?_
    rintro e w6 ⟨b, rfl, _, k6⟩
    have K6 := K5.trans k6
    have r7 := k6.row r6 trivial
    clear k6 K5 r6 q5
    cases b
    · go_wp2_with fail
      go_ret
      exact ⟨rfl, K6⟩
    · go_wp2_with fail
      · have hL : ∀ W, Kept (fun _ => True) w6 W → W.rowIs w1.heap.size 23 64 (ints .i32 f) := fun W hW => hW.row r7 trivial
        have I := fun (g : Nat → Int) (W : World) (hW : Kept (fun _ => True) w6 W) => (implInverse_any g W).mono fun e W' h => (⟨h.1, hW.trans h.2⟩ : e = .returned (.agg (agg 64 (ints .i32 (icols (irows g))))) ∧ Kept (fun _ => True) w6 W')
        have IR := fun (g : Nat → Int) (W : World) (hW : Kept (fun _ => True) w6 W) => (implIRows_any g W).mono fun e W' h => (⟨h.1, hW.trans h.2⟩ : e = .returned (.agg (agg 64 (ints .i32 (irows g)))) ∧ Kept (fun _ => True) w6 W')
        have IC := fun (g : Nat → Int) (W : World) (hW : Kept (fun _ => True) w6 W) => (implICols_any g W).mono fun e W' h => (⟨h.1, hW.trans h.2⟩ : e = .returned (.agg (agg 64 (ints .i32 (icols g)))) ∧ Kept (fun _ => True) w6 W')
        refine wp_region_calm (C := fun W => Kept (fun _ => True) w6 W) (by kernel_rfl) (by kernel_rfl) (Kept.refl _ _).drew ?_
        refine wpQuiet_load_all rfl 23 (.tmp 3) rfl w1.heap.size 64 rfl hL (by omega) Tryd.underlying23 rfl sizeT ?_
        simp only [Act.put, List.setIfInBounds_toArray, List.set_cons_zero, List.set_cons_succ]
        refine wpQuiet_call rfl 14 #[.agg (agg 64 (ints .i32 (f)))] (.agg (agg 64 (ints .i32 (icols (irows f))))) (fun _ => by first | kernel_rfl | go_simp) (I f) ?_
        simp only [Act.put, List.setIfInBounds_toArray, List.set_cons_zero, List.set_cons_succ]
        refine wpQuiet_load_all rfl 23 (.tmp 3) rfl w1.heap.size 64 rfl hL (by omega) Tryd.underlying23 rfl sizeT ?_
        simp only [Act.put, List.setIfInBounds_toArray, List.set_cons_zero, List.set_cons_succ]
        refine wpQuiet_call rfl 16 #[.agg (agg 64 (ints .i32 (f)))] (.agg (agg 64 (ints .i32 (irows f)))) (fun _ => by first | kernel_rfl | go_simp) (IR f) ?_
        simp only [Act.put, List.setIfInBounds_toArray, List.set_cons_zero, List.set_cons_succ]
        refine wpQuiet_call rfl 15 #[.agg (agg 64 (ints .i32 (irows f)))] (.agg (agg 64 (ints .i32 (icols (irows f))))) (fun _ => by first | kernel_rfl | go_simp) (IC (irows f)) ?_
        simp only [Act.put, List.setIfInBounds_toArray, List.set_cons_zero, List.set_cons_succ]
        refine wpQuiet_value rfl (.bool true) (fun W _ => execOp_bin .eql (.tmp 22) (.tmp 25) _ rfl _ _ rfl rfl (eql_self (icols (irows f)) W)) ?_
        simp only [Act.put, List.setIfInBounds_toArray, List.set_cons_zero, List.set_cons_succ]
        refine wpQuiet_move rfl (.tmp 26) rfl ?_
        simp only [Act.put, List.setIfInBounds_toArray, List.set_cons_zero, List.set_cons_succ]
        refine wpQuiet_value rfl (.agg (agg 64 (ints .i32 (lone 64)))) (fun W _ => by kernel_rfl) ?_
        simp only [Act.put, List.setIfInBounds_toArray, List.set_cons_zero, List.set_cons_succ]
        refine wpQuiet_call rfl 14 #[.agg (agg 64 (ints .i32 (lone 64)))] (.agg (agg 64 (ints .i32 (fun _ => 8)))) (fun _ => by first | kernel_rfl | go_simp) (fun W hW => by have h := I (lone 64) W hW; rwa [agg_congr (f := ints .i32 (icols (irows (lone 64)))) (g := ints .i32 fun _ => 8) fun j _ => by simp only [ints]; rw [show (64 : Int) = 8 * 8 from rfl, inverse_lone 8 (by omega) (by omega) j]] at h) ?_
        simp only [Act.put, List.setIfInBounds_toArray, List.set_cons_zero, List.set_cons_succ]
        have hidx : ∀ wx, (Instr.index 23 (.agg (agg 64 (ints .i32 (fun _ => 8)))) (.int .i64 0)).run Tryd.prog wx = .ok (.int .i32 8) wx := run_index_one (P := Tryd.prog) Tryd.underlying23 Tryd.underlying21 rfl size_i32 (ints .i32 fun _ => 8) 0 (by omega)
        refine wpQuiet_value rfl (.int .i32 8) (fun W _ => by first | go_simp | kernel_rfl) ?_
        simp only [Act.put, List.setIfInBounds_toArray, List.set_cons_zero, List.set_cons_succ]
        refine wpQuiet_value rfl (.bool true) (fun W _ => by first | kernel_rfl | go_simp) ?_
        simp only [Act.put, List.setIfInBounds_toArray, List.set_cons_zero, List.set_cons_succ]
        refine wpQuiet_value rfl (.bool true) (fun W _ => by first | kernel_rfl | go_simp) ?_
        simp only [Act.put, List.setIfInBounds_toArray, List.set_cons_zero, List.set_cons_succ]
        refine wpQuiet_value rfl (.bool true) (fun W _ => by first | kernel_rfl | go_simp) ?_
        simp only [Act.put, List.setIfInBounds_toArray, List.set_cons_zero, List.set_cons_succ]
        refine wpQuiet_nil ?_
        intro W hW
        go_wp2_with fail
        go_ret
        exact ⟨rfl, K6.trans hW⟩

theorem ih_huge (a : Option Addr) (len cap : Nat) (w : World) (hlen : len ≤ 9223372036854775807) (hl : 2147483647 < len) :
    Calls Tryd.prog 5 #[.slice a len cap] w fun e w' => e = .returned (.bool true) ∧ Kept (fun _ => True) w w' := by
  go_enter Tryd.func5, Tryd.ntmps5
  go_wp2
  go_ret
  exact ⟨rfl, Kept.refl _ _⟩
end Go.Proofs.YtcblegbjhiameaaDoor
