/- The walk of the law FnForwardHalves. -/
import Derived.Test.YtcblegbjhiameaaHalvesLaw
import Derived.Test.YtcblegbjhiameaaOneWalk
import Derived.Test.YtcblegbjhiameaaSamples
import Derived.Test.YtcblegbjhiameaaArrEq
namespace Go.Proofs.Ytcblegbjhiameaa
open Go.Deep Go.RowKit
theorem build_none (w : World) : (Instr.build 22 #[]).run Try.prog w = .ok (.agg (agg 64 (ints .i32 fun _ => 0))) w := by kernel_rfl
theorem guardA : Try.prog.eqGuardType Try.prog.depth 22 = false := by kernel_rfl
theorem eql_self (f : Nat → Int) (w : World) : (binOp .eql 22 (.agg (agg 64 (ints .i32 f))) (.agg (agg 64 (ints .i32 f)))).run Try.prog w = .ok (.bool true) w := by
  rw [run_eql_struct, run_equalIn_ints Try.underlying22 Try.underlying21 size_i32]
  simp [Result.andThen]
theorem neq_at (f g : Nat → Int) (i : Nat) (hi : i < 64) (h : f i ≠ g i) (w : World) : (binOp .neq 22 (.agg (agg 64 (ints .i32 f))) (.agg (agg 64 (ints .i32 g)))).run Try.prog w = .ok (.bool true) w := by
  rw [run_neq_struct, run_equalIn_ints Try.underlying22 Try.underlying21 size_i32]
  simp [Result.andThen]
  exact ⟨i, hi, h⟩
theorem execOp_bin {ρ : Operand → Value} {o : Oper} (op : BinOp) (x y : Operand) (ty : TypeId) (ho : o.op = .binOp op 22 x y ty) (xs ys : Array Value) (hx : ρ x = .agg xs) (hy : ρ y = .agg ys) {v : Value} {w : World}
    (h : (binOp op 22 (.agg xs) (.agg ys)).run Try.prog w = .ok v w) : (execOp ρ o).run Try.prog w = .ok (.value v) w := by
  unfold execOp
  simp only [ho, hx, hy, Sem.run_bind, Sem.run_pure, Result.andThen_ok, run_eqGuard_agg (hm := guardA), h]

set_option maxHeartbeats 1000000 in
set_option maxRecDepth 100000 in
theorem fh_64 (a : Option Addr) (cap : Nat) (z : List Int) (w : World) (h : IsRow .u8 w a 64 cap z) :
    Calls Try.prog 4 #[.slice a 64 cap] w fun e w' => e = .returned (.bool true) ∧ Kept (fun _ => True) w w' := by
  have C1 := samples_64 a 64 cap z w h rfl
  obtain ⟨f, hf⟩ : ∃ f, firstOf z 64 = f := ⟨_, rfl⟩
  rw [hf] at C1
  clear hf h
  have HC1 := Lib.hid C1
  clear C1
  go_enter Try.func4, Try.ntmps4
  go_wp2_with fail
  refine HC1.out.mono ?_
  rintro e w1 ⟨rfl, k1⟩
  have hn1 := fun o => (rowIs_lit64 w1 22).alloc o
  have hn2 := fun o => rowIs_lit64i (w1.alloc o) 26
  simp only [World.size_alloc] at hn2
  go_wp2_with (first | ((with_reducible refine wpList_store_new (op := ⟨none, .store 22 (.tmp 3) (.tmp 12), _, _, _, _⟩) ?_ 22 (.tmp 3) (.tmp 12) ?_ w1.heap.size 64 (g := ints .i32 f) ?_ ?_ (hn1 _) ?_ ?_ ?_); (· rfl); (· rfl); (· rfl); (· rfl); (· exact sizeT); (· exact fun _ => rfl); (intro w2 k2 s2 r2)) | ((with_reducible refine wpList_store_new (op := ⟨none, .store 26 (.tmp 4) (.tmp 13), _, _, _, _⟩) ?_ 26 (.tmp 4) (.tmp 13) ?_ (w1.heap.size + 1) 64 (g := ints .i64 f) ?_ ?_ (k2.row (hn2 _) (by omega)) ?_ ?_ ?_); (· rfl); (· rfl); (· rfl); (· rfl); (· exact sizeU); (· exact fun _ => rfl); (intro w3 k3 s3 r3)))
  have r4 := k3.row r2 (by omega)
  have hk : Kept (fun _ => True) w w3 := (((k1.alloc _).alloc _).trans' k2 fun i hi _ => by have := k1.size; omega).trans' k3 fun i hi _ => by have := k1.size; omega
  clear hn1 hn2 k1 k2 k3 s2 s3 r2 r3
  have F := fun (g : Nat → Int) (W : World) (hW : Kept (fun _ => True) w3 W) => (implForward_any g W).mono fun e W' h => (⟨h.1, hW.trans h.2⟩ : e = .returned (.agg (agg 64 (ints .i32 (frows (fcols g))))) ∧ Kept (fun _ => True) w3 W')
  have FC := fun (g : Nat → Int) (W : World) (hW : Kept (fun _ => True) w3 W) => (implFCols_any g W).mono fun e W' h => (⟨h.1, hW.trans h.2⟩ : e = .returned (.agg (agg 64 (ints .i32 (fcols g)))) ∧ Kept (fun _ => True) w3 W')
  have FR := fun (g : Nat → Int) (W : World) (hW : Kept (fun _ => True) w3 W) => (implFRows_any g W).mono fun e W' h => (⟨h.1, hW.trans h.2⟩ : e = .returned (.agg (agg 64 (ints .i32 (frows g)))) ∧ Kept (fun _ => True) w3 W')
  have hL : ∀ W, Kept (fun _ => True) w3 W → W.rowIs w1.heap.size 22 64 (ints .i32 f) := fun W hW => hW.row r4 trivial
  refine wp_region_calm (C := fun W => Kept (fun _ => True) w3 W) (by kernel_rfl) (by kernel_rfl) (Kept.refl _ _).drew ?_
  refine wpQuiet_load_all rfl 22 (.tmp 3) rfl w1.heap.size 64 rfl hL (by omega) Try.underlying22 rfl sizeT ?_
  simp only [Act.put, List.setIfInBounds_toArray, List.set_cons_zero, List.set_cons_succ]
  refine wpQuiet_call rfl 7 #[.agg (agg 64 (ints .i32 f))] (.agg (agg 64 (ints .i32 (frows (fcols f))))) (fun _ => by first | kernel_rfl | go_simp) (F f) ?_
  simp only [Act.put, List.setIfInBounds_toArray, List.set_cons_zero, List.set_cons_succ]
  refine wpQuiet_load_all rfl 22 (.tmp 3) rfl w1.heap.size 64 rfl hL (by omega) Try.underlying22 rfl sizeT ?_
  simp only [Act.put, List.setIfInBounds_toArray, List.set_cons_zero, List.set_cons_succ]
  refine wpQuiet_call rfl 9 #[.agg (agg 64 (ints .i32 f))] (.agg (agg 64 (ints .i32 (fcols f)))) (fun _ => by first | kernel_rfl | go_simp) (FC f) ?_
  simp only [Act.put, List.setIfInBounds_toArray, List.set_cons_zero, List.set_cons_succ]
  refine wpQuiet_call rfl 8 #[.agg (agg 64 (ints .i32 (fcols f)))] (.agg (agg 64 (ints .i32 (frows (fcols f))))) (fun _ => by first | kernel_rfl | go_simp) (FR (fcols f)) ?_
  simp only [Act.put, List.setIfInBounds_toArray, List.set_cons_zero, List.set_cons_succ]
  refine wpQuiet_value rfl (.bool true) (fun W _ => execOp_bin .eql (.tmp 18) (.tmp 21) _ rfl _ _ rfl rfl (eql_self (frows (fcols f)) W)) ?_
  simp only [Act.put, List.setIfInBounds_toArray, List.set_cons_zero, List.set_cons_succ]
  refine wpQuiet_move rfl (.tmp 22) rfl ?_
  simp only [Act.put, List.setIfInBounds_toArray, List.set_cons_zero, List.set_cons_succ]
  refine wpQuiet_value rfl (.agg (agg 64 (ints .i32 (lone 8)))) (fun W _ => by kernel_rfl) ?_
  simp only [Act.put, List.setIfInBounds_toArray, List.set_cons_zero, List.set_cons_succ]
  refine wpQuiet_call rfl 7 #[.agg (agg 64 (ints .i32 (lone 8)))] (.agg (agg 64 (ints .i32 (frows (fcols (lone 8)))))) (fun _ => by first | kernel_rfl | go_simp) (F (lone 8)) ?_
  simp only [Act.put, List.setIfInBounds_toArray, List.set_cons_zero, List.set_cons_succ]
  refine wpQuiet_value rfl (.agg (agg 64 (ints .i32 fun _ => 0))) (fun W _ => by kernel_rfl) ?_
  simp only [Act.put, List.setIfInBounds_toArray, List.set_cons_zero, List.set_cons_succ]
  refine wpQuiet_value rfl (.bool true) (fun W _ => execOp_bin .neq (.tmp 25) (.tmp 26) _ rfl _ _ rfl rfl (neq_at (frows (fcols (lone 8))) (fun _ => 0) 0 (by omega) forward_lone W)) ?_
  simp only [Act.put, List.setIfInBounds_toArray, List.set_cons_zero, List.set_cons_succ]
  refine wpQuiet_value rfl (.bool true) (fun W _ => by first | kernel_rfl | go_simp) ?_
  simp only [Act.put, List.setIfInBounds_toArray, List.set_cons_zero, List.set_cons_succ]
  refine wpQuiet_value rfl (.bool true) (fun W _ => by first | kernel_rfl | go_simp) ?_
  simp only [Act.put, List.setIfInBounds_toArray, List.set_cons_zero, List.set_cons_succ]
  refine wpQuiet_nil ?_
  intro W hW
  go_wp2_with fail
  go_ret
  exact ⟨rfl, hk.trans hW⟩

set_option maxHeartbeats 1000000 in
set_option maxRecDepth 100000 in
theorem fh_less (a : Option Addr) (len cap : Nat) (z : List Int) (w : World) (h : IsRow .u8 w a len cap z) (hl : len < 64) :
    Calls Try.prog 4 #[.slice a len cap] w fun e w' => e = .returned (.bool true) ∧ Kept (fun _ => True) w w' := by
  have hlen := h.len_le
  have C1 := samples_less a len cap z w h hl
  obtain ⟨f, hf⟩ : ∃ f, firstOf z len = f := ⟨_, rfl⟩
  rw [hf] at C1
  clear hf h
  have HC1 := Lib.hid C1
  clear C1
  go_enter Try.func4, Try.ntmps4
  go_wp2_with fail
  refine HC1.out.mono ?_
  rintro e w1 ⟨rfl, k1⟩
  have hn1 := fun o => (rowIs_lit64 w1 22).alloc o
  have hn2 := fun o => rowIs_lit64i (w1.alloc o) 26
  simp only [World.size_alloc] at hn2
  go_wp2_with (first | ((with_reducible refine wpList_store_new (op := ⟨none, .store 22 (.tmp 3) (.tmp 12), _, _, _, _⟩) ?_ 22 (.tmp 3) (.tmp 12) ?_ w1.heap.size 64 (g := ints .i32 f) ?_ ?_ (hn1 _) ?_ ?_ ?_); (· rfl); (· rfl); (· rfl); (· rfl); (· exact sizeT); (· exact fun _ => rfl); (intro w2 k2 s2 r2)) | ((with_reducible refine wpList_store_new (op := ⟨none, .store 26 (.tmp 4) (.tmp 13), _, _, _, _⟩) ?_ 26 (.tmp 4) (.tmp 13) ?_ (w1.heap.size + 1) 64 (g := ints .i64 f) ?_ ?_ (k2.row (hn2 _) (by omega)) ?_ ?_ ?_); (· rfl); (· rfl); (· rfl); (· rfl); (· exact sizeU); (· exact fun _ => rfl); (intro w3 k3 s3 r3)))
  go_ret
  exact ⟨rfl, (((k1.alloc _).alloc _).trans' k2 fun i hi _ => by have := k1.size; omega).trans' k3 fun i hi _ => by have := k1.size; omega⟩

set_option maxHeartbeats 1000000 in
set_option maxRecDepth 100000 in
theorem fh_more (a : Option Addr) (len cap : Nat) (z : List Int) (w : World) (h : IsRow .u8 w a len cap z) (hl : 64 < len) (hb : ¬ 2147483647 < len) :
    Calls Try.prog 4 #[.slice a len cap] w fun e w' => e = .returned (.bool true) ∧ Kept (fun _ => True) w w' := by
  have hlen := h.len_le
  have C1 := samples_more a len cap z w h hl
  obtain ⟨f, hf⟩ : ∃ f, firstOf z 64 = f := ⟨_, rfl⟩
  rw [hf] at C1
  clear hf h
  have HC1 := Lib.hid C1
  clear C1
  go_enter Try.func4, Try.ntmps4
  go_wp2_with fail
  refine HC1.out.mono ?_
  rintro e w1 ⟨rfl, k1⟩
  have hn1 := fun o => (rowIs_lit64 w1 22).alloc o
  have hn2 := fun o => rowIs_lit64i (w1.alloc o) 26
  simp only [World.size_alloc] at hn2
  go_wp2_with (first | ((with_reducible refine wpList_store_new (op := ⟨none, .store 22 (.tmp 3) (.tmp 12), _, _, _, _⟩) ?_ 22 (.tmp 3) (.tmp 12) ?_ w1.heap.size 64 (g := ints .i32 f) ?_ ?_ (hn1 _) ?_ ?_ ?_); (· rfl); (· rfl); (· rfl); (· rfl); (· exact sizeT); (· exact fun _ => rfl); (intro w2 k2 s2 r2)) | ((with_reducible refine wpList_store_new (op := ⟨none, .store 26 (.tmp 4) (.tmp 13), _, _, _, _⟩) ?_ 26 (.tmp 4) (.tmp 13) ?_ (w1.heap.size + 1) 64 (g := ints .i64 f) ?_ ?_ (k2.row (hn2 _) (by omega)) ?_ ?_ ?_); (· rfl); (· rfl); (· rfl); (· rfl); (· exact sizeU); (· exact fun _ => rfl); (intro w3 k3 s3 r3)))
  go_ret
  exact ⟨rfl, (((k1.alloc _).alloc _).trans' k2 fun i hi _ => by have := k1.size; omega).trans' k3 fun i hi _ => by have := k1.size; omega⟩

theorem fh_huge (a : Option Addr) (len cap : Nat) (w : World) (hlen : len ≤ 9223372036854775807) (hl : 2147483647 < len) :
    Calls Try.prog 4 #[.slice a len cap] w fun e w' => e = .returned (.bool true) ∧ Kept (fun _ => True) w w' := by
  go_enter Try.func4, Try.ntmps4
  go_wp2
  go_ret
  exact ⟨rfl, Kept.refl _ _⟩
end Go.Proofs.Ytcblegbjhiameaa
