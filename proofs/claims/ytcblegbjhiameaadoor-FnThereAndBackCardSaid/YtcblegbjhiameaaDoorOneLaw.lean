/- The inverse transform of one first coefficient that 8 divides is one value of all samples: plain law. -/
import Derived.Test.YtcblegbjhiameaaDoorDctFns
namespace Go.Proofs.YtcblegbjhiameaaDoor
open Go.RowKit
theorem box0_zero (a b : Int) : box0 0 0 a b = 0 := by simp [box0, wrap32]
theorem box1_zero (a b : Int) : box1 0 0 a b = 0 := by simp [box1, wrap32]
theorem w0 : wrap32 0 = 0 := by decide
theorem irow_zero (k : Nat) : irow k 0 0 0 0 0 0 0 0 = 0 := by
  unfold irow
  split <;> simp only [irow0, irow1, irow2, irow3, irow4, irow5, irow6, irow7, Int.zero_mul, Int.add_zero, Int.sub_self, w0, box0_zero, box1_zero, Int.zero_ediv]
theorem wr_in {x : Int} (h : -2147483648 ≤ x ∧ x ≤ 2147483647) : wrap32 x = x := by unfold wrap32; omega
theorem irow_dc (n : Int) (h1 : -128 ≤ n) (h2 : n ≤ 127) (k : Nat) : irow k (8 * n) 0 0 0 0 0 0 0 = n * 1048576 := by
  have e1 : wrap32 (8 * n * 131072) = n * 1048576 := by rw [wr_in (by omega)]; omega
  have e2 : wrap32 (n * 1048576) = n * 1048576 := wr_in (by omega)
  unfold irow
  split <;> simp only [irow0, irow1, irow2, irow3, irow4, irow5, irow6, irow7, Int.zero_mul, Int.add_zero, Int.sub_zero, Int.sub_self, w0, box0_zero, box1_zero, Int.zero_ediv, e1, e2]
theorem icol_dc (n : Int) (h1 : -128 ≤ n) (h2 : n ≤ 127) (k : Nat) : icol k (n * 1048576) 0 0 0 0 0 0 0 = n := by
  have e1 : wrap32 (n * 1048576 + 524288) = n * 1048576 + 524288 := wr_in (by omega)
  have e3 : (n * 1048576 + 524288) / 4 = n * 262144 + 131072 := by omega
  have e4 : wrap32 (n * 262144 + 131072) = n * 262144 + 131072 := wr_in (by omega)
  have e5 : (n * 262144 + 131072) / 262144 = n := by omega
  unfold icol
  split <;> simp only [icol0, icol1, icol2, icol3, icol4, icol5, icol6, icol7, Int.zero_mul, Int.add_zero, Int.sub_zero, Int.sub_self, w0, box0_zero, box1_zero, Int.zero_ediv, e1, e3, e4, e5]
/-- A block with one coefficient. -/
def lone (v : Int) : Nat → Int := fun j => if j = 0 then v else 0
theorem irows_lone (n : Int) (h1 : -128 ≤ n) (h2 : n ≤ 127) (j : Nat) : irows (lone (8 * n)) j = if j / 8 = 0 then n * 1048576 else 0 := by
  by_cases c : j / 8 = 0
  · rw [if_pos c]
    simp only [irows, lone, c]
    simp only [Nat.mul_zero, Nat.zero_add, if_true]
    exact irow_dc n h1 h2 _
  · rw [if_neg c]
    simp only [irows, lone]
    rw [if_neg (by omega), if_neg (by omega), if_neg (by omega), if_neg (by omega), if_neg (by omega), if_neg (by omega), if_neg (by omega), if_neg (by omega)]
    exact irow_zero _
theorem inverse_lone (n : Int) (h1 : -128 ≤ n) (h2 : n ≤ 127) (j : Nat) : icols (irows (lone (8 * n))) j = n := by
  simp only [icols, irows_lone n h1 h2]
  rw [if_pos (by omega), if_neg (by omega), if_neg (by omega), if_neg (by omega), if_neg (by omega), if_neg (by omega), if_neg (by omega), if_neg (by omega)]
  exact icol_dc n h1 h2 _
end Go.Proofs.YtcblegbjhiameaaDoor
