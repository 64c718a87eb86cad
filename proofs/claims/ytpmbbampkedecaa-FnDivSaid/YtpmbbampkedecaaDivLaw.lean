/- The quotient that 'div' computes, as a plain function, and the law that it is rounded to the nearest integer. -/
import Derived.RowKit
namespace Go.Proofs.Ytpmbbampkedecaa
/-- The quotient rounded to the nearest integer, halves away from nought. -/
def qdiv (a b : Int) : Int := if 0 ≤ a then (a + b / 2) / b else -((-a + b / 2) / b)
theorem qdiv_pos {a b : Int} (h : 0 ≤ a) : qdiv a b = (a + b / 2) / b := if_pos h
theorem qdiv_neg {a b : Int} (h : a < 0) : qdiv a b = -((-a + b / 2) / b) := if_neg (by omega)
theorem quot_bounds {x b : Int} (hb : 1 ≤ b) : (x / b) * b ≤ x ∧ x < (x / b) * b + b := by
  have h1 := Int.mul_ediv_add_emod x b
  have h2 := Int.emod_nonneg x (show b ≠ 0 by omega)
  have h3 := Int.emod_lt_of_pos x (show 0 < b by omega)
  rw [Int.mul_comm] at h1
  omega
theorem quot_le {x b : Int} (hx : 0 ≤ x) (hb : 1 ≤ b) : 0 ≤ x / b ∧ x / b ≤ x :=
  ⟨Int.ediv_nonneg hx (by omega), Int.ediv_le_self _ hx⟩
/-- The law: twice the distance of the product from the dividend is no more than the divisor. -/
theorem qdiv_near (a b : Int) (hb : 1 ≤ b) : -b ≤ 2 * (qdiv a b * b - a) ∧ 2 * (qdiv a b * b - a) ≤ b := by
  by_cases h : 0 ≤ a
  · rw [qdiv_pos h]
    have := quot_bounds (x := a + b / 2) hb
    omega
  · rw [qdiv_neg (by omega), Int.neg_mul]
    have := quot_bounds (x := -a + b / 2) hb
    omega
theorem qdiv_range (a b : Int) (hb : 1 ≤ b) (h1 : -1610612735 ≤ a) (h2 : a ≤ 1610612735) (h3 : b ≤ 1073741824) : -2147483647 ≤ qdiv a b ∧ qdiv a b ≤ 2147483647 := by
  by_cases h : 0 ≤ a
  · rw [qdiv_pos h]
    have := quot_le (x := a + b / 2) (by omega) hb
    omega
  · rw [qdiv_neg (by omega)]
    have := quot_le (x := -a + b / 2) (by omega) hb
    omega
theorem qdiv_self (b : Int) (hb : 1 ≤ b) : qdiv b b = 1 := by
  have h := qdiv_near b b hb
  rw [qdiv_pos (by omega)] at *
  have hq := quot_bounds (x := b + b / 2) hb
  have : (b + b / 2) / b = 1 := by
    have e : b + b / 2 = b / 2 + b * 1 := by omega
    rw [e, Int.add_mul_ediv_left _ _ (by omega), Int.ediv_eq_zero_of_lt (by omega) (by omega)]
    omega
  exact this
end Go.Proofs.Ytpmbbampkedecaa
