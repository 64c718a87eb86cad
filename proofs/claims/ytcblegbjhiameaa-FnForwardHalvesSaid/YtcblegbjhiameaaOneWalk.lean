/- The walk of the law FnInverseOfOne. -/
import Derived.Test.YtcblegbjhiameaaOneLaw
import Derived.Test.YtcblegbjhiameaaDctCallsPlain
namespace Go.Proofs.Ytcblegbjhiameaa
open Go.Deep Go.RowKit
theorem size_i32 : (Try.prog.info? 21).map (·.size) = some 1 := by kernel_rfl
theorem build_lone (v : Int) (w : World) : (Instr.build 22 #[(0, .int .i32 v)]).run Try.prog w = .ok (.agg (agg 64 (ints .i32 (lone v)))) w := by kernel_rfl
theorem wpList_lone {ops : Array Oper} {rest : List Oper} {dst : Option Tmp} {t : TypeId} {pos : String} {after : Array Edge} {act : Act} {w : World} {Q : Exit → Act → World → Prop} (x : Operand) (v : Int)
    (hx : act.eval x = .int .i32 v) (h : wpList Try.prog ops Q rest (act.put dst (.agg (agg 64 (ints .i32 (lone v))))) w) :
    wpList Try.prog ops Q (⟨dst, .build 22 #[(0, x)], t, pos, after, none⟩ :: rest) act w :=
  wpList_build rfl 22 _ rfl _ rfl _ (by simp only [List.map_toArray, List.map_cons, List.map_nil, hx]; exact build_lone v w) h

set_option maxHeartbeats 1000000 in
set_option maxRecDepth 100000 in
theorem one_law (n : Int) (w : World) (h1 : -128 ≤ n) (h2 : n ≤ 127) :
    Calls Try.prog 3 #[.int .i64 n] w fun e w' => e = .returned (.bool true) ∧ Kept (fun _ => True) w w' := by
  have C1 : ∀ w : World, Calls Try.prog 5 #[.agg (agg 64 (ints .i32 (lone (8 * n))))] w fun e w' => e = .returned (.agg (agg 64 (ints .i32 fun _ => n))) ∧ Kept (fun _ => True) w w' := fun w => by
    have := implInverse_any (lone (8 * n)) w
    rwa [agg_congr (f := ints .i32 (icols (irows (lone (8 * n))))) (g := ints .i32 fun _ => n) fun j _ => by simp only [ints]; rw [inverse_lone n h1 h2 j]] at this
  have C2 : ∀ w : World, Calls Try.prog 5 #[.agg (agg 64 (ints .i32 (lone 8)))] w fun e w' => e = .returned (.agg (agg 64 (ints .i32 fun _ => 1))) ∧ Kept (fun _ => True) w w' := fun w => by
    have := implInverse_any (lone 8) w
    rwa [agg_congr (f := ints .i32 (icols (irows (lone 8)))) (g := ints .i32 fun _ => 1) fun j _ => by simp only [ints]; rw [show (8 : Int) = 8 * 1 from rfl, inverse_lone 1 (by omega) (by omega) j]] at this
  have C1 := Lib.hid C1
  have C2 := Lib.hid C2
  go_enter Try.func3, Try.ntmps3
  go_wp2_with (((with_reducible refine wpList_lone _ (8 * n) ?_ ?_); (· rfl)))
  refine (C1.out _).mono ?_
  rintro e w1 ⟨rfl, k1⟩
  go_wp2_with fail
  go_loopg [16] 64 (fun k s wr => ∃ i : Nat, i ≤ 64 ∧ k = 64 - i ∧ s = .int .i64 i ∧ wr = w1)
  case atStart => exact ⟨0, by omega, rfl, rfl, rfl⟩
  case round =>
    obtain ⟨i, hi, rfl, rfl, rfl⟩ := hrel
    by_cases hlt : i < 64
    · have hidx : ∀ wx, (Instr.index 22 (.agg (agg 64 (ints .i32 fun _ => n))) (.int .i64 (i : Int))).run Try.prog wx = .ok (.int .i32 n) wx := run_index_one (P := Try.prog) Try.underlying22 Try.underlying21 rfl size_i32 (ints .i32 fun _ => n) i hlt
      have hne : (n != n) = false := by simp
      go_wp2
      go_roundg (64 - (i + 1))
      case measure => go_light; omega
      case rel =>
        go_light
        exact ⟨i + 1, by omega, rfl, by go_num, rfl⟩
    · go_wp2_with (((with_reducible refine wpList_lone _ 8 ?_ ?_); (· rfl)))
      refine (C2.out _).mono ?_
      rintro e w2 ⟨rfl, k2⟩
      have hidx : ∀ wx, (Instr.index 22 (.agg (agg 64 (ints .i32 fun _ => 1))) (.int .i64 0)).run Try.prog wx = .ok (.int .i32 1) wx := run_index_one (P := Try.prog) Try.underlying22 Try.underlying21 rfl size_i32 (ints .i32 fun _ => 1) 0 (by omega)
      go_wp2
      go_ret
      exact ⟨rfl, k1.trans k2⟩
end Go.Proofs.Ytcblegbjhiameaa
