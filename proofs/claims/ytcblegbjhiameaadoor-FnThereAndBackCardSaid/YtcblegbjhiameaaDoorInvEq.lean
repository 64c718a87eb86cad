/- What spec.Inverse computes is the exact double sum: plain law, printed by inveq.py. -/
import Derived.Test.YtcblegbjhiameaaDoorSumLaw
import Derived.Test.YtcblegbjhiameaaDoorInverseLaw
import Derived.Test.YtcblegbjhiameaaDoorTab
namespace Go.Proofs.YtcblegbjhiameaaDoor
open Go.RowKit
theorem zN_onto2 : ∀ j, j < 64 → ∃ k, k < 64 ∧ zN k = j := by decide +kernel
theorem smpS_at (c : Nat → Int) (h0 : ∀ j, j < 64 → -32768 ≤ c j ∧ c j ≤ 32768) (j : Nat) (hj : j < 64) : smpS zN (fun k => c (zN k)) (fun _ => 1) j = c j :=
  fill_at zN _ c j 64 (fun k hk => by
    have := h0 _ (zN_lt k hk)
    show wrap64 (c (zN k) * 1) = c (zN k)
    rw [Int.mul_one]
    generalize c (zN k) = q at *
    exact IntWalk.wrap64_in q ⟨by omega, by omega⟩) (zN_onto2 j hj)
theorem smpH_at (c : Nat → Int) (h0 : ∀ j, j < 64 → -32768 ≤ c j ∧ c j ≤ 32768) (v x : Nat) (hv : v < 8) (hx : x < 8) :
    smpH bN (smpS zN (fun k => c (zN k)) (fun _ => 1)) (8 * v + x) = exT c v x ∧ -137438953472 ≤ exT c v x ∧ exT c v x ≤ 137438953472 := by
  obtain ⟨s, hs⟩ : ∃ s, smpS zN (fun k => c (zN k)) (fun _ => 1) = s := ⟨_, rfl⟩
  have hsc : ∀ j, j < 64 → s j = c j := fun j hj => by rw [← hs]; exact smpS_at c h0 j hj
  rw [hs]
  clear hs
  have hb : ∀ u, u < 8 → smpB s (8 * v + x) u = c (8 * v + u) := fun u hu => by
    simp only [smpB]
    rw [show (8 * v + x) / 8 = v by omega]
    exact hsc _ (by omega)
  have hp : ∀ u, u < 8 → smpA bN (8 * v + x) u = bN (x * 8 + u) := fun u hu => by
    simp only [smpA]
    rw [show (8 * v + x) % 8 = x by omega]
  have hm : ∀ u, u < 8 → -17179869184 ≤ smpA bN (8 * v + x) u * smpB s (8 * v + x) u ∧ smpA bN (8 * v + x) u * smpB s (8 * v + x) u ≤ 17179869184 := fun u hu => by
    rw [hb u hu, hp u hu]
    have := mul_in (A := 524288) (C := 32768) (by omega) (bN_in2 (x * 8 + u) (by omega)) (h0 (8 * v + u) (by omega))
    simpa using this
  have e := dot_eq 0 (smpA bN (8 * v + x)) (smpB s (8 * v + x)) 17179869184 (by omega) (by omega) hm
  have m0 := hm 0 (by omega)
  have m1 := hm 1 (by omega)
  have m2 := hm 2 (by omega)
  have m3 := hm 3 (by omega)
  have m4 := hm 4 (by omega)
  have m5 := hm 5 (by omega)
  have m6 := hm 6 (by omega)
  have m7 := hm 7 (by omega)
  rw [hb 0 (by omega), hp 0 (by omega), hb 1 (by omega), hp 1 (by omega), hb 2 (by omega), hp 2 (by omega), hb 3 (by omega), hp 3 (by omega), hb 4 (by omega), hp 4 (by omega), hb 5 (by omega), hp 5 (by omega), hb 6 (by omega), hp 6 (by omega), hb 7 (by omega), hp 7 (by omega)] at e
  rw [hb 0 (by omega), hp 0 (by omega)] at m0
  rw [hb 1 (by omega), hp 1 (by omega)] at m1
  rw [hb 2 (by omega), hp 2 (by omega)] at m2
  rw [hb 3 (by omega), hp 3 (by omega)] at m3
  rw [hb 4 (by omega), hp 4 (by omega)] at m4
  rw [hb 5 (by omega), hp 5 (by omega)] at m5
  rw [hb 6 (by omega), hp 6 (by omega)] at m6
  rw [hb 7 (by omega), hp 7 (by omega)] at m7
  unfold smpH exT
  rw [e, Int.zero_add]
  clear e hm hp hb hsc
  generalize bN (x * 8 + 0) * c (8 * v + 0) = p0 at *
  generalize bN (x * 8 + 1) * c (8 * v + 1) = p1 at *
  generalize bN (x * 8 + 2) * c (8 * v + 2) = p2 at *
  generalize bN (x * 8 + 3) * c (8 * v + 3) = p3 at *
  generalize bN (x * 8 + 4) * c (8 * v + 4) = p4 at *
  generalize bN (x * 8 + 5) * c (8 * v + 5) = p5 at *
  generalize bN (x * 8 + 6) * c (8 * v + 6) = p6 at *
  generalize bN (x * 8 + 7) * c (8 * v + 7) = p7 at *
  clear h0
  exact ⟨rfl, by omega, by omega⟩
theorem smpO_at (c : Nat → Int) (h0 : ∀ j, j < 64 → -32768 ≤ c j ∧ c j ≤ 32768) (y x : Nat) (hy : y < 8) (hx : x < 8) :
    smp zN bN (fun k => c (zN k)) (fun _ => 1) (8 * y + x) = 140737488355328 + exS c y x ∧ -576460752303423488 ≤ exS c y x ∧ exS c y x ≤ 576460752303423488 := by
  unfold smp
  obtain ⟨h, hh⟩ : ∃ h, smpH bN (smpS zN (fun k => c (zN k)) (fun _ => 1)) = h := ⟨_, rfl⟩
  have hT : ∀ v, v < 8 → h (8 * v + x) = exT c v x ∧ -137438953472 ≤ exT c v x ∧ exT c v x ≤ 137438953472 := fun v hv => by rw [← hh]; exact smpH_at c h0 v x hv hx
  rw [hh]
  clear hh h0
  have hb : ∀ v, v < 8 → smpD h (8 * y + x) v = exT c v x := fun v hv => by
    simp only [smpD]
    rw [show (8 * y + x) % 8 = x by omega]
    exact (hT v hv).1
  have hp : ∀ v, v < 8 → smpC bN (8 * y + x) v = bN (y * 8 + v) := fun v hv => by
    simp only [smpC]
    rw [show (8 * y + x) / 8 = y by omega]
  have hm : ∀ v, v < 8 → -72057594037927936 ≤ smpC bN (8 * y + x) v * smpD h (8 * y + x) v ∧ smpC bN (8 * y + x) v * smpD h (8 * y + x) v ≤ 72057594037927936 := fun v hv => by
    rw [hb v hv, hp v hv]
    have := mul_in (A := 524288) (C := 137438953472) (by omega) (bN_in2 (y * 8 + v) (by omega)) (hT v hv).2
    simpa using this
  have e := dot_eq 140737488355328 (smpC bN (8 * y + x)) (smpD h (8 * y + x)) 72057594037927936 (by omega) (by omega) hm
  have m0 := hm 0 (by omega)
  have m1 := hm 1 (by omega)
  have m2 := hm 2 (by omega)
  have m3 := hm 3 (by omega)
  have m4 := hm 4 (by omega)
  have m5 := hm 5 (by omega)
  have m6 := hm 6 (by omega)
  have m7 := hm 7 (by omega)
  rw [hb 0 (by omega), hp 0 (by omega), hb 1 (by omega), hp 1 (by omega), hb 2 (by omega), hp 2 (by omega), hb 3 (by omega), hp 3 (by omega), hb 4 (by omega), hp 4 (by omega), hb 5 (by omega), hp 5 (by omega), hb 6 (by omega), hp 6 (by omega), hb 7 (by omega), hp 7 (by omega)] at e
  rw [hb 0 (by omega), hp 0 (by omega)] at m0
  rw [hb 1 (by omega), hp 1 (by omega)] at m1
  rw [hb 2 (by omega), hp 2 (by omega)] at m2
  rw [hb 3 (by omega), hp 3 (by omega)] at m3
  rw [hb 4 (by omega), hp 4 (by omega)] at m4
  rw [hb 5 (by omega), hp 5 (by omega)] at m5
  rw [hb 6 (by omega), hp 6 (by omega)] at m6
  rw [hb 7 (by omega), hp 7 (by omega)] at m7
  unfold smpO exS
  rw [e]
  clear e hm hp hb hT
  generalize bN (y * 8 + 0) * exT c 0 x = p0 at *
  generalize bN (y * 8 + 1) * exT c 1 x = p1 at *
  generalize bN (y * 8 + 2) * exT c 2 x = p2 at *
  generalize bN (y * 8 + 3) * exT c 3 x = p3 at *
  generalize bN (y * 8 + 4) * exT c 4 x = p4 at *
  generalize bN (y * 8 + 5) * exT c 5 x = p5 at *
  generalize bN (y * 8 + 6) * exT c 6 x = p6 at *
  generalize bN (y * 8 + 7) * exT c 7 x = p7 at *
  exact ⟨rfl, by omega, by omega⟩
/-- What the code's spec.Inverse computes. -/
theorem inv_eq (c : Nat → Int) (h0 : ∀ j, j < 64 → -32768 ≤ c j ∧ c j ≤ 32768) (y x : Nat) (hy : y < 8) (hx : x < 8) : inv zN bN c (8 * y + x) = exS c y x := by
  have h := smpO_at c h0 y x hy hx
  unfold inv
  rw [h.1]
  have h2 := h.2
  clear h h0
  generalize exS c y x = s at *
  rw [show 140737488355328 + s - 140737488355328 = s by omega]
  exact IntWalk.wrap64_in s ⟨by omega, by omega⟩
/-- What the law FnInverse asks. -/
theorem inverse_one (c : Nat → Int) (h0 : ∀ j, j < 64 → -32768 ≤ c j ∧ c j ≤ 32768) (hS : ∀ j, j < 64 → -422212465065984 ≤ inv zN bN c j ∧ inv zN bN c j ≤ 421112953438208) (j : Nat) (hj : j < 64) :
    -1099511627776 ≤ icols (irows c) j * 1099511627776 - inv zN bN c j ∧ icols (irows c) j * 1099511627776 - inv zN bN c j ≤ 1099511627776 := by
  have hS' : ∀ y x, y < 8 → x < 8 → -422212465065984 ≤ exS c y x ∧ exS c y x ≤ 422212465065984 := fun y x hy hx => by
    have := hS (8 * y + x) (by omega)
    rw [inv_eq c h0 y x hy hx] at this
    generalize exS c y x = s at *
    exact ⟨this.1, by omega⟩
  have h := inverse_near c h0 hS' (j / 8) (j % 8) (by omega) (by omega)
  rw [← inv_eq c h0 (j / 8) (j % 8) (by omega) (by omega), show 8 * (j / 8) + j % 8 = j by omega] at h
  exact h
end Go.Proofs.YtcblegbjhiameaaDoor
