/- The contract of Rectangle's Size. -/
import Derived.Test.YtghjlekdibcjdaaGreatDoorImgA
namespace Go.Proofs.YtghjlekdibcjdaaGreatDoor
open Go.Deep Go.RowKit
set_option linter.unusedVariables false
theorem size_any (x0 y0 : Int) (wd hg : Nat) (w : World) (h0 : -1048576 ≤ x0 ∧ x0 ≤ 1048576) (h1 : -1048576 ≤ y0 ∧ y0 ≤ 1048576) (hw : wd ≤ 1048576) (hh : hg ≤ 1048576) :
    Calls Tryz.prog 41 #[rectV x0 y0 (x0 + wd) (y0 + hg)] w fun e w' => e = .returned (.agg #[.int .i64 (wd : Int), .int .i64 (hg : Int)]) ∧ Kept (fun _ => True) w w' := by
  obtain ⟨a1, a2⟩ := h0
  obtain ⟨a3, a4⟩ := h1
  obtain ⟨x1, hx1⟩ : ∃ x1, x0 + (wd : Int) = x1 := ⟨_, rfl⟩
  obtain ⟨y1, hy1⟩ : ∃ y1, y0 + (hg : Int) = y1 := ⟨_, rfl⟩
  obtain ⟨dw, hdw⟩ : ∃ dw : Int, (wd : Int) = dw := ⟨_, rfl⟩
  obtain ⟨dh, hdh⟩ : ∃ dh : Int, (hg : Int) = dh := ⟨_, rfl⟩
  have ex : x1 - x0 = dw := by omega
  have ey : y1 - y0 = dh := by omega
  have ewx : IntKind.i64.wrap dw = dw := IntWalk.i64_in _ ⟨by omega, by omega⟩
  have ewy : IntKind.i64.wrap dh = dh := IntWalk.i64_in _ ⟨by omega, by omega⟩
  rw [hx1, hy1, hdw, hdh]
  unfold rectV
  clear hx1 hy1 hdw hdh hw hh
  go_enter Tryz.func41, Tryz.ntmps41
  go_wp2
  exact bodyPost_ret (v := .agg #[.int .i64 dw, .int .i64 dh]) (by simp [results, Tryz.results41, go_sem]) rfl ⟨rfl, ((Kept.refl _ _).alloc _).alloc _⟩
end Go.Proofs.YtghjlekdibcjdaaGreatDoor
