/- Contracts of package image's sizes: Rect, Dx, Dy, mul3NonNeg, pixelBufferLength. -/
import Derived.Test.YtghjlekdibcjdaaGreatDoorQuiet
import Derived.Test.YtghjlekdibcjdaaGreatDoorRows
import Derived.Deep.LoopGhost
import Derived.Deep.Light
import Derived.BigRegion
namespace Go.Proofs.YtghjlekdibcjdaaGreatDoor
open Go.Deep Go.RowKit
set_option linter.unusedVariables false
theorem ofInt_u64m (a : Nat) (h : a < 18446744073709551616) : (BitVec.ofInt 64 (a : Int)).toNat = a := by simp; omega
theorem u64_and_mask (a : Nat) (ha : a < 4294967296) : bits .and .u64 (a : Int) 4294967295 = (a : Int) := by
  show IntKind.u64.wrap ((BitVec.ofInt 64 (a : Int) &&& BitVec.ofInt 64 4294967295).toNat : Int) = _
  rw [BitVec.toNat_and, ofInt_u64m a (by omega), show (BitVec.ofInt 64 4294967295).toNat = 2 ^ 32 - 1 from rfl, Nat.and_two_pow_sub_one_eq_mod, Nat.mod_eq_of_lt (by omega)]
  simp only [IntKind.wrap_u64]
  omega
set_option maxHeartbeats 1000000 in
theorem mul64_small (x y : Nat) (w : World) (hx : x < 2147483648) (hy : y < 2147483648) (hp : x * y < 4294967296) :
    Calls Tryz.prog 47 #[.int .u64 (x : Int), .int .u64 (y : Int)] w fun e w' => e = .returned (.tuple #[.int .u64 0, .int .u64 ((x * y : Nat) : Int)]) ∧ w = w' := by
  have e1 := u64_and_mask x (by omega)
  have e2 := u64_and_mask y (by omega)
  have e3 := u64_and_mask (x * y) (by omega)
  have h1 : (x : Int) / 4294967296 = 0 := by omega
  have h2 : (y : Int) / 4294967296 = 0 := by omega
  have h3 : (x : Int) * (y : Int) / 4294967296 = 0 := by
    have e : (x : Int) * (y : Int) = ((x * y : Nat) : Int) := by simp
    rw [e]
    generalize x * y = p at *
    omega
  have e4 : bits .and .u64 0 4294967295 = 0 := by decide
  go_enter Tryz.func47, Tryz.ntmps47
  go_wp2
  go_ret2
  exact ⟨by simp, rfl⟩
/-- Three numbers whose product is small. -/
theorem mul3_small (x y z : Nat) (w : World) (hx : x < 2147483648) (hy : y < 2147483648) (hz : z < 2147483648) (hp : x * y < 2147483648) (hq : x * y * z < 2147483648) :
    Calls Tryz.prog 33 #[.int .i64 (x : Int), .int .i64 (y : Int), .int .i64 (z : Int)] w fun e w' => e = .returned (.int .i64 ((x * y * z : Nat) : Int)) ∧ w = w' := by
  have C1 := Lib.hid (mul64_small x y w hx hy (by omega))
  have C2 := Lib.hid (mul64_small (x * y) z w hp hz (by omega))
  obtain ⟨p, hpp⟩ : ∃ p, x * y = p := ⟨_, rfl⟩
  rw [hpp] at C1 C2 hp hq
  obtain ⟨q, hqq⟩ : ∃ q, p * z = q := ⟨_, rfl⟩
  rw [hqq] at C2 hq
  rw [hpp, hqq]
  clear hpp hqq
  have hb : (((q : Nat) : Int) == ((q : Nat) : Int)) = true := by simp
  have hb2 : (((q : Nat) : Int) != ((q : Nat) : Int)) = false := by simp
  go_enter Tryz.func33, Tryz.ntmps33
  go_wp2_with fail
  refine C1.out.mono ?_
  rintro e w1 ⟨rfl, rfl⟩
  go_wp2_with fail
  refine C2.out.mono ?_
  rintro e w1 ⟨rfl, rfl⟩
  go_wp2_with fail
  go_ret
  exact ⟨rfl, rfl⟩
/-- A rectangle as a value. -/
def rectV (x0 y0 x1 y1 : Int) : Value := .agg #[.int .i64 x0, .int .i64 y0, .int .i64 x1, .int .i64 y1]
theorem dx_any (x0 y0 x1 y1 : Int) (w : World) (h0 : -1073741824 ≤ x0 ∧ x0 ≤ 1073741824) (h1 : -1073741824 ≤ x1 ∧ x1 ≤ 1073741824) :
    Calls Tryz.prog 28 #[rectV x0 y0 x1 y1] w fun e w' => e = .returned (.int .i64 (x1 - x0)) ∧ Kept (fun _ => True) w w' := by
  obtain ⟨a1, a2⟩ := h0
  obtain ⟨a3, a4⟩ := h1
  unfold rectV
  go_enter Tryz.func28, Tryz.ntmps28
  go_wp2
  go_ret
  exact ⟨rfl, (Kept.refl _ _).alloc _⟩
theorem dy_any (x0 y0 x1 y1 : Int) (w : World) (h0 : -1073741824 ≤ y0 ∧ y0 ≤ 1073741824) (h1 : -1073741824 ≤ y1 ∧ y1 ≤ 1073741824) :
    Calls Tryz.prog 34 #[rectV x0 y0 x1 y1] w fun e w' => e = .returned (.int .i64 (y1 - y0)) ∧ Kept (fun _ => True) w w' := by
  obtain ⟨a1, a2⟩ := h0
  obtain ⟨a3, a4⟩ := h1
  unfold rectV
  go_enter Tryz.func34, Tryz.ntmps34
  go_wp2
  go_ret
  exact ⟨rfl, (Kept.refl _ _).alloc _⟩
theorem rect_any (x0 y0 x1 y1 : Int) (w : World) (hx : x0 ≤ x1) (hy : y0 ≤ y1) :
    Calls Tryz.prog 17 #[.int .i64 x0, .int .i64 y0, .int .i64 x1, .int .i64 y1] w fun e w' => e = .returned (rectV x0 y0 x1 y1) ∧ Kept (fun _ => True) w w' := by
  unfold rectV
  go_enter Tryz.func17, Tryz.ntmps17
  go_wp2
  exact bodyPost_ret (v := .agg #[.int .i64 x0, .int .i64 y0, .int .i64 x1, .int .i64 y1]) (by simp [results, Tryz.results17, go_sem]) rfl ⟨rfl, (Kept.refl _ _).alloc _⟩
end Go.Proofs.YtghjlekdibcjdaaGreatDoor
