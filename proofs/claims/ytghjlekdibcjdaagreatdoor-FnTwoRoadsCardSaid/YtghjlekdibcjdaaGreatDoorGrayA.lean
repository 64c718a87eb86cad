/- The contracts of image.Pt, of Gray's PixOffset and of grayToY. -/
import Derived.Test.YtghjlekdibcjdaaGreatDoorBounds
import Derived.Test.YtghjlekdibcjdaaGreatDoorSinkB
namespace Go.Proofs.YtghjlekdibcjdaaGreatDoor
open Go.Deep Go.RowKit
set_option linter.unusedVariables false
set_option maxHeartbeats 1000000 in
set_option maxRecDepth 100000 in
theorem pixOffset_any (bi : Nat) (pv : Value) (x0 y0 x1 y1 x y : Int) (wd c a p : Nat) (w : World) (h : w.heap[bi]? = some (.cells #[pv, .int .i64 (wd : Int), .int .i64 x0, .int .i64 y0, .int .i64 x1, .int .i64 y1] 44 (0, 0))) (hx : x - x0 = (a : Int)) (hy : y - y0 = (c : Int)) (hp : c * wd = p) (ha : a ≤ 1048576) (hc : c ≤ 1048576) (hpl : p ≤ 1073741824) :
    Calls Tryz.prog 70 #[.pointer (some ⟨bi, 0, none⟩), .int .i64 x, .int .i64 y] w fun e w' => e = .returned (.int .i64 ((p + a : Nat) : Int)) ∧ Kept (fun _ => True) w w' := by
  have c1 : w.cell? ⟨bi, 1, none⟩ = some (.int .i64 (wd : Int)) := by unfold World.cell?; simp only [h]; rfl
  have c2 : w.cell? ⟨bi, 2, none⟩ = some (.int .i64 x0) := by unfold World.cell?; simp only [h]; rfl
  have c3 : w.cell? ⟨bi, 3, none⟩ = some (.int .i64 y0) := by unfold World.cell?; simp only [h]; rfl
  have hpi : (c : Int) * (wd : Int) = (p : Int) := by rw [← hp]; simp
  have ew1 : IntKind.i64.wrap (a : Int) = (a : Int) := IntWalk.i64_in _ ⟨by omega, by omega⟩
  have ew2 : IntKind.i64.wrap (c : Int) = (c : Int) := IntWalk.i64_in _ ⟨by omega, by omega⟩
  have ew3 : IntKind.i64.wrap (p : Int) = (p : Int) := IntWalk.i64_in _ ⟨by omega, by omega⟩
  have ew4 : IntKind.i64.wrap ((p : Int) + (a : Int)) = (p : Int) + (a : Int) := IntWalk.i64_in _ ⟨by omega, by omega⟩
  have epa : ((p + a : Nat) : Int) = (p : Int) + (a : Int) := by omega
  rw [epa]
  have HK := Lib.hid ((Kept.refl (fun _ => True) w).drew)
  clear h hp epa ha hc hpl
  go_enter Tryz.func70, Tryz.ntmps70
  go_wp2_with fail
  go_quiet (fail)
  go_wp2_with fail
  go_ret
  exact ⟨rfl, (Kept.refl _ _).drewN _⟩
theorem pt_any (x y : Int) (w : World) :
    Calls Tryz.prog 55 #[.int .i64 x, .int .i64 y] w fun e w' => e = .returned (.agg #[.int .i64 x, .int .i64 y]) ∧ Kept (fun _ => True) w w' := by
  go_enter Tryz.func55, Tryz.ntmps55
  go_wp2
  exact bodyPost_ret (v := .agg #[.int .i64 x, .int .i64 y]) (by simp [results, Tryz.results55, go_sem]) rfl ⟨rfl, (Kept.refl _ _).alloc _⟩
end Go.Proofs.YtghjlekdibcjdaaGreatDoor
