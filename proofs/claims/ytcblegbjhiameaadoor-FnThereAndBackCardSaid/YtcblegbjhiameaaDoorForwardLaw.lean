/- The forward transform is near the exact one: plain law, printed by fwdlaw.py. -/
import Derived.Test.YtcblegbjhiameaaDoorSumLaw
import Derived.Test.YtcblegbjhiameaaDoorNearfwd
import Derived.Test.YtcblegbjhiameaaDoorTab
namespace Go.Proofs.YtcblegbjhiameaaDoor
open Go.RowKit
theorem bN_in : ∀ k, k < 64 → -524288 ≤ bN k ∧ bN k ≤ 524288 := by decide +kernel
theorem zN_onto : ∀ j, j < 64 → ∃ k, k < 64 ∧ zN k = j := by decide +kernel
theorem fcols_at (f : Nat → Int) (v x : Nat) (hx : x < 8) : fcols f (8 * v + x) = fcol v (f (8 * 0 + x)) (f (8 * 1 + x)) (f (8 * 2 + x)) (f (8 * 3 + x)) (f (8 * 4 + x)) (f (8 * 5 + x)) (f (8 * 6 + x)) (f (8 * 7 + x)) := by
  simp only [fcols]
  rw [show (8 * v + x) / 8 = v by omega, show (8 * v + x) % 8 = x by omega, Nat.mul_zero, Nat.zero_add]
/-- The exact sum of a column. -/
def colSum (f : Nat → Int) (v x : Nat) : Int := bN (0 * 8 + v) * (f (8 * 0 + x) - 128) + bN (1 * 8 + v) * (f (8 * 1 + x) - 128) + bN (2 * 8 + v) * (f (8 * 2 + x) - 128) + bN (3 * 8 + v) * (f (8 * 3 + x) - 128) + bN (4 * 8 + v) * (f (8 * 4 + x) - 128) + bN (5 * 8 + v) * (f (8 * 5 + x) - 128) + bN (6 * 8 + v) * (f (8 * 6 + x) - 128) + bN (7 * 8 + v) * (f (8 * 7 + x) - 128)
theorem col_near (f : Nat → Int) (hf : ∀ j, 0 ≤ f j ∧ f j ≤ 255) (v x : Nat) (hv : v < 8) (hx : x < 8) :
    -23147726241792 ≤ fcols f (8 * v + x) * 1073741824 - 759250125 * colSum f v x ∧ fcols f (8 * v + x) * 1073741824 - 759250125 * colSum f v x ≤ 23147726241792 ∧ -268435456 ≤ fcols f (8 * v + x) ∧ fcols f (8 * v + x) ≤ 267386880 := by
  rw [fcols_at f v x hx]
  unfold colSum
  obtain rfl | rfl | rfl | rfl | rfl | rfl | rfl | rfl : v = 0 ∨ v = 1 ∨ v = 2 ∨ v = 3 ∨ v = 4 ∨ v = 5 ∨ v = 6 ∨ v = 7 := by omega
  · rw [show bN (0 * 8 + 0) = 370728 from rfl, show bN (1 * 8 + 0) = 370728 from rfl, show bN (2 * 8 + 0) = 370728 from rfl, show bN (3 * 8 + 0) = 370728 from rfl, show bN (4 * 8 + 0) = 370728 from rfl, show bN (5 * 8 + 0) = 370728 from rfl, show bN (6 * 8 + 0) = 370728 from rfl, show bN (7 * 8 + 0) = 370728 from rfl]
    exact fcol0_near _ _ _ _ _ _ _ _ (hf _) (hf _) (hf _) (hf _) (hf _) (hf _) (hf _) (hf _)
  · rw [show bN (0 * 8 + 1) = 514214 from rfl, show bN (1 * 8 + 1) = 435930 from rfl, show bN (2 * 8 + 1) = 291279 from rfl, show bN (3 * 8 + 1) = 102284 from rfl, show bN (4 * 8 + 1) = (-102284) from rfl, show bN (5 * 8 + 1) = (-291279) from rfl, show bN (6 * 8 + 1) = (-435930) from rfl, show bN (7 * 8 + 1) = (-514214) from rfl]
    exact fcol1_near _ _ _ _ _ _ _ _ (hf _) (hf _) (hf _) (hf _) (hf _) (hf _) (hf _) (hf _)
  · rw [show bN (0 * 8 + 2) = 484379 from rfl, show bN (1 * 8 + 2) = 200636 from rfl, show bN (2 * 8 + 2) = (-200636) from rfl, show bN (3 * 8 + 2) = (-484379) from rfl, show bN (4 * 8 + 2) = (-484379) from rfl, show bN (5 * 8 + 2) = (-200636) from rfl, show bN (6 * 8 + 2) = 200636 from rfl, show bN (7 * 8 + 2) = 484379 from rfl]
    exact fcol2_near _ _ _ _ _ _ _ _ (hf _) (hf _) (hf _) (hf _) (hf _) (hf _) (hf _) (hf _)
  · rw [show bN (0 * 8 + 3) = 435930 from rfl, show bN (1 * 8 + 3) = (-102284) from rfl, show bN (2 * 8 + 3) = (-514214) from rfl, show bN (3 * 8 + 3) = (-291279) from rfl, show bN (4 * 8 + 3) = 291279 from rfl, show bN (5 * 8 + 3) = 514214 from rfl, show bN (6 * 8 + 3) = 102284 from rfl, show bN (7 * 8 + 3) = (-435930) from rfl]
    exact fcol3_near _ _ _ _ _ _ _ _ (hf _) (hf _) (hf _) (hf _) (hf _) (hf _) (hf _) (hf _)
  · rw [show bN (0 * 8 + 4) = 370728 from rfl, show bN (1 * 8 + 4) = (-370728) from rfl, show bN (2 * 8 + 4) = (-370728) from rfl, show bN (3 * 8 + 4) = 370728 from rfl, show bN (4 * 8 + 4) = 370728 from rfl, show bN (5 * 8 + 4) = (-370728) from rfl, show bN (6 * 8 + 4) = (-370728) from rfl, show bN (7 * 8 + 4) = 370728 from rfl]
    exact fcol4_near _ _ _ _ _ _ _ _ (hf _) (hf _) (hf _) (hf _) (hf _) (hf _) (hf _) (hf _)
  · rw [show bN (0 * 8 + 5) = 291279 from rfl, show bN (1 * 8 + 5) = (-514214) from rfl, show bN (2 * 8 + 5) = 102284 from rfl, show bN (3 * 8 + 5) = 435930 from rfl, show bN (4 * 8 + 5) = (-435930) from rfl, show bN (5 * 8 + 5) = (-102284) from rfl, show bN (6 * 8 + 5) = 514214 from rfl, show bN (7 * 8 + 5) = (-291279) from rfl]
    exact fcol5_near _ _ _ _ _ _ _ _ (hf _) (hf _) (hf _) (hf _) (hf _) (hf _) (hf _) (hf _)
  · rw [show bN (0 * 8 + 6) = 200636 from rfl, show bN (1 * 8 + 6) = (-484379) from rfl, show bN (2 * 8 + 6) = 484379 from rfl, show bN (3 * 8 + 6) = (-200636) from rfl, show bN (4 * 8 + 6) = (-200636) from rfl, show bN (5 * 8 + 6) = 484379 from rfl, show bN (6 * 8 + 6) = (-484379) from rfl, show bN (7 * 8 + 6) = 200636 from rfl]
    exact fcol6_near _ _ _ _ _ _ _ _ (hf _) (hf _) (hf _) (hf _) (hf _) (hf _) (hf _) (hf _)
  · rw [show bN (0 * 8 + 7) = 102284 from rfl, show bN (1 * 8 + 7) = (-291279) from rfl, show bN (2 * 8 + 7) = 435930 from rfl, show bN (3 * 8 + 7) = (-514214) from rfl, show bN (4 * 8 + 7) = 514214 from rfl, show bN (5 * 8 + 7) = (-435930) from rfl, show bN (6 * 8 + 7) = 291279 from rfl, show bN (7 * 8 + 7) = (-102284) from rfl]
    exact fcol7_near _ _ _ _ _ _ _ _ (hf _) (hf _) (hf _) (hf _) (hf _) (hf _) (hf _) (hf _)
theorem join0 (F X0 X1 X2 X3 X4 X5 X6 X7 S0 S1 S2 S3 S4 S5 S6 S7 : Int)
    (h : -86000000000000000000 ≤ F * 73786976294838206464 - 759250125 * (370728 * X0 + 370728 * X1 + 370728 * X2 + 370728 * X3 + 370728 * X4 + 370728 * X5 + 370728 * X6 + 370728 * X7) ∧ F * 73786976294838206464 - 759250125 * (370728 * X0 + 370728 * X1 + 370728 * X2 + 370728 * X3 + 370728 * X4 + 370728 * X5 + 370728 * X6 + 370728 * X7) ≤ 86000000000000000000)
    (h0 : -23147726241792 ≤ X0 * 1073741824 - 759250125 * S0 ∧ X0 * 1073741824 - 759250125 * S0 ≤ 23147726241792) (h1 : -23147726241792 ≤ X1 * 1073741824 - 759250125 * S1 ∧ X1 * 1073741824 - 759250125 * S1 ≤ 23147726241792) (h2 : -23147726241792 ≤ X2 * 1073741824 - 759250125 * S2 ∧ X2 * 1073741824 - 759250125 * S2 ≤ 23147726241792) (h3 : -23147726241792 ≤ X3 * 1073741824 - 759250125 * S3 ∧ X3 * 1073741824 - 759250125 * S3 ≤ 23147726241792) (h4 : -23147726241792 ≤ X4 * 1073741824 - 759250125 * S4 ∧ X4 * 1073741824 - 759250125 * S4 ≤ 23147726241792) (h5 : -23147726241792 ≤ X5 * 1073741824 - 759250125 * S5 ∧ X5 * 1073741824 - 759250125 * S5 ≤ 23147726241792) (h6 : -23147726241792 ≤ X6 * 1073741824 - 759250125 * S6 ∧ X6 * 1073741824 - 759250125 * S6 ≤ 23147726241792) (h7 : -23147726241792 ≤ X7 * 1073741824 - 759250125 * S7 ∧ X7 * 1073741824 - 759250125 * S7 ≤ 23147726241792) (k0 : -400000000 ≤ S0 ∧ S0 ≤ 400000000) (k1 : -400000000 ≤ S1 ∧ S1 ≤ 400000000) (k2 : -400000000 ≤ S2 ∧ S2 ≤ 400000000) (k3 : -400000000 ≤ S3 ∧ S3 ≤ 400000000) (k4 : -400000000 ≤ S4 ∧ S4 ≤ 400000000) (k5 : -400000000 ≤ S5 ∧ S5 ≤ 400000000) (k6 : -400000000 ≤ S6 ∧ S6 ≤ 400000000) (k7 : -400000000 ≤ S7 ∧ S7 ≤ 400000000) :
    -2199023255552 ≤ F * 1099511627776 - 8 * (370728 * S0 + 370728 * S1 + 370728 * S2 + 370728 * S3 + 370728 * S4 + 370728 * S5 + 370728 * S6 + 370728 * S7) ∧ F * 1099511627776 - 8 * (370728 * S0 + 370728 * S1 + 370728 * S2 + 370728 * S3 + 370728 * S4 + 370728 * S5 + 370728 * S6 + 370728 * S7) ≤ 2199023255552 := by
  omega
theorem join1 (F X0 X1 X2 X3 X4 X5 X6 X7 S0 S1 S2 S3 S4 S5 S6 S7 : Int)
    (h : -86000000000000000000 ≤ F * 73786976294838206464 - 759250125 * (514214 * X0 + 435930 * X1 + 291279 * X2 + 102284 * X3 + (-102284) * X4 + (-291279) * X5 + (-435930) * X6 + (-514214) * X7) ∧ F * 73786976294838206464 - 759250125 * (514214 * X0 + 435930 * X1 + 291279 * X2 + 102284 * X3 + (-102284) * X4 + (-291279) * X5 + (-435930) * X6 + (-514214) * X7) ≤ 86000000000000000000)
    (h0 : -23147726241792 ≤ X0 * 1073741824 - 759250125 * S0 ∧ X0 * 1073741824 - 759250125 * S0 ≤ 23147726241792) (h1 : -23147726241792 ≤ X1 * 1073741824 - 759250125 * S1 ∧ X1 * 1073741824 - 759250125 * S1 ≤ 23147726241792) (h2 : -23147726241792 ≤ X2 * 1073741824 - 759250125 * S2 ∧ X2 * 1073741824 - 759250125 * S2 ≤ 23147726241792) (h3 : -23147726241792 ≤ X3 * 1073741824 - 759250125 * S3 ∧ X3 * 1073741824 - 759250125 * S3 ≤ 23147726241792) (h4 : -23147726241792 ≤ X4 * 1073741824 - 759250125 * S4 ∧ X4 * 1073741824 - 759250125 * S4 ≤ 23147726241792) (h5 : -23147726241792 ≤ X5 * 1073741824 - 759250125 * S5 ∧ X5 * 1073741824 - 759250125 * S5 ≤ 23147726241792) (h6 : -23147726241792 ≤ X6 * 1073741824 - 759250125 * S6 ∧ X6 * 1073741824 - 759250125 * S6 ≤ 23147726241792) (h7 : -23147726241792 ≤ X7 * 1073741824 - 759250125 * S7 ∧ X7 * 1073741824 - 759250125 * S7 ≤ 23147726241792) (k0 : -400000000 ≤ S0 ∧ S0 ≤ 400000000) (k1 : -400000000 ≤ S1 ∧ S1 ≤ 400000000) (k2 : -400000000 ≤ S2 ∧ S2 ≤ 400000000) (k3 : -400000000 ≤ S3 ∧ S3 ≤ 400000000) (k4 : -400000000 ≤ S4 ∧ S4 ≤ 400000000) (k5 : -400000000 ≤ S5 ∧ S5 ≤ 400000000) (k6 : -400000000 ≤ S6 ∧ S6 ≤ 400000000) (k7 : -400000000 ≤ S7 ∧ S7 ≤ 400000000) :
    -2199023255552 ≤ F * 1099511627776 - 8 * (514214 * S0 + 435930 * S1 + 291279 * S2 + 102284 * S3 + (-102284) * S4 + (-291279) * S5 + (-435930) * S6 + (-514214) * S7) ∧ F * 1099511627776 - 8 * (514214 * S0 + 435930 * S1 + 291279 * S2 + 102284 * S3 + (-102284) * S4 + (-291279) * S5 + (-435930) * S6 + (-514214) * S7) ≤ 2199023255552 := by
  omega
theorem join2 (F X0 X1 X2 X3 X4 X5 X6 X7 S0 S1 S2 S3 S4 S5 S6 S7 : Int)
    (h : -86000000000000000000 ≤ F * 73786976294838206464 - 759250125 * (484379 * X0 + 200636 * X1 + (-200636) * X2 + (-484379) * X3 + (-484379) * X4 + (-200636) * X5 + 200636 * X6 + 484379 * X7) ∧ F * 73786976294838206464 - 759250125 * (484379 * X0 + 200636 * X1 + (-200636) * X2 + (-484379) * X3 + (-484379) * X4 + (-200636) * X5 + 200636 * X6 + 484379 * X7) ≤ 86000000000000000000)
    (h0 : -23147726241792 ≤ X0 * 1073741824 - 759250125 * S0 ∧ X0 * 1073741824 - 759250125 * S0 ≤ 23147726241792) (h1 : -23147726241792 ≤ X1 * 1073741824 - 759250125 * S1 ∧ X1 * 1073741824 - 759250125 * S1 ≤ 23147726241792) (h2 : -23147726241792 ≤ X2 * 1073741824 - 759250125 * S2 ∧ X2 * 1073741824 - 759250125 * S2 ≤ 23147726241792) (h3 : -23147726241792 ≤ X3 * 1073741824 - 759250125 * S3 ∧ X3 * 1073741824 - 759250125 * S3 ≤ 23147726241792) (h4 : -23147726241792 ≤ X4 * 1073741824 - 759250125 * S4 ∧ X4 * 1073741824 - 759250125 * S4 ≤ 23147726241792) (h5 : -23147726241792 ≤ X5 * 1073741824 - 759250125 * S5 ∧ X5 * 1073741824 - 759250125 * S5 ≤ 23147726241792) (h6 : -23147726241792 ≤ X6 * 1073741824 - 759250125 * S6 ∧ X6 * 1073741824 - 759250125 * S6 ≤ 23147726241792) (h7 : -23147726241792 ≤ X7 * 1073741824 - 759250125 * S7 ∧ X7 * 1073741824 - 759250125 * S7 ≤ 23147726241792) (k0 : -400000000 ≤ S0 ∧ S0 ≤ 400000000) (k1 : -400000000 ≤ S1 ∧ S1 ≤ 400000000) (k2 : -400000000 ≤ S2 ∧ S2 ≤ 400000000) (k3 : -400000000 ≤ S3 ∧ S3 ≤ 400000000) (k4 : -400000000 ≤ S4 ∧ S4 ≤ 400000000) (k5 : -400000000 ≤ S5 ∧ S5 ≤ 400000000) (k6 : -400000000 ≤ S6 ∧ S6 ≤ 400000000) (k7 : -400000000 ≤ S7 ∧ S7 ≤ 400000000) :
    -2199023255552 ≤ F * 1099511627776 - 8 * (484379 * S0 + 200636 * S1 + (-200636) * S2 + (-484379) * S3 + (-484379) * S4 + (-200636) * S5 + 200636 * S6 + 484379 * S7) ∧ F * 1099511627776 - 8 * (484379 * S0 + 200636 * S1 + (-200636) * S2 + (-484379) * S3 + (-484379) * S4 + (-200636) * S5 + 200636 * S6 + 484379 * S7) ≤ 2199023255552 := by
  omega
theorem join3 (F X0 X1 X2 X3 X4 X5 X6 X7 S0 S1 S2 S3 S4 S5 S6 S7 : Int)
    (h : -86000000000000000000 ≤ F * 73786976294838206464 - 759250125 * (435930 * X0 + (-102284) * X1 + (-514214) * X2 + (-291279) * X3 + 291279 * X4 + 514214 * X5 + 102284 * X6 + (-435930) * X7) ∧ F * 73786976294838206464 - 759250125 * (435930 * X0 + (-102284) * X1 + (-514214) * X2 + (-291279) * X3 + 291279 * X4 + 514214 * X5 + 102284 * X6 + (-435930) * X7) ≤ 86000000000000000000)
    (h0 : -23147726241792 ≤ X0 * 1073741824 - 759250125 * S0 ∧ X0 * 1073741824 - 759250125 * S0 ≤ 23147726241792) (h1 : -23147726241792 ≤ X1 * 1073741824 - 759250125 * S1 ∧ X1 * 1073741824 - 759250125 * S1 ≤ 23147726241792) (h2 : -23147726241792 ≤ X2 * 1073741824 - 759250125 * S2 ∧ X2 * 1073741824 - 759250125 * S2 ≤ 23147726241792) (h3 : -23147726241792 ≤ X3 * 1073741824 - 759250125 * S3 ∧ X3 * 1073741824 - 759250125 * S3 ≤ 23147726241792) (h4 : -23147726241792 ≤ X4 * 1073741824 - 759250125 * S4 ∧ X4 * 1073741824 - 759250125 * S4 ≤ 23147726241792) (h5 : -23147726241792 ≤ X5 * 1073741824 - 759250125 * S5 ∧ X5 * 1073741824 - 759250125 * S5 ≤ 23147726241792) (h6 : -23147726241792 ≤ X6 * 1073741824 - 759250125 * S6 ∧ X6 * 1073741824 - 759250125 * S6 ≤ 23147726241792) (h7 : -23147726241792 ≤ X7 * 1073741824 - 759250125 * S7 ∧ X7 * 1073741824 - 759250125 * S7 ≤ 23147726241792) (k0 : -400000000 ≤ S0 ∧ S0 ≤ 400000000) (k1 : -400000000 ≤ S1 ∧ S1 ≤ 400000000) (k2 : -400000000 ≤ S2 ∧ S2 ≤ 400000000) (k3 : -400000000 ≤ S3 ∧ S3 ≤ 400000000) (k4 : -400000000 ≤ S4 ∧ S4 ≤ 400000000) (k5 : -400000000 ≤ S5 ∧ S5 ≤ 400000000) (k6 : -400000000 ≤ S6 ∧ S6 ≤ 400000000) (k7 : -400000000 ≤ S7 ∧ S7 ≤ 400000000) :
    -2199023255552 ≤ F * 1099511627776 - 8 * (435930 * S0 + (-102284) * S1 + (-514214) * S2 + (-291279) * S3 + 291279 * S4 + 514214 * S5 + 102284 * S6 + (-435930) * S7) ∧ F * 1099511627776 - 8 * (435930 * S0 + (-102284) * S1 + (-514214) * S2 + (-291279) * S3 + 291279 * S4 + 514214 * S5 + 102284 * S6 + (-435930) * S7) ≤ 2199023255552 := by
  omega
theorem join4 (F X0 X1 X2 X3 X4 X5 X6 X7 S0 S1 S2 S3 S4 S5 S6 S7 : Int)
    (h : -86000000000000000000 ≤ F * 73786976294838206464 - 759250125 * (370728 * X0 + (-370728) * X1 + (-370728) * X2 + 370728 * X3 + 370728 * X4 + (-370728) * X5 + (-370728) * X6 + 370728 * X7) ∧ F * 73786976294838206464 - 759250125 * (370728 * X0 + (-370728) * X1 + (-370728) * X2 + 370728 * X3 + 370728 * X4 + (-370728) * X5 + (-370728) * X6 + 370728 * X7) ≤ 86000000000000000000)
    (h0 : -23147726241792 ≤ X0 * 1073741824 - 759250125 * S0 ∧ X0 * 1073741824 - 759250125 * S0 ≤ 23147726241792) (h1 : -23147726241792 ≤ X1 * 1073741824 - 759250125 * S1 ∧ X1 * 1073741824 - 759250125 * S1 ≤ 23147726241792) (h2 : -23147726241792 ≤ X2 * 1073741824 - 759250125 * S2 ∧ X2 * 1073741824 - 759250125 * S2 ≤ 23147726241792) (h3 : -23147726241792 ≤ X3 * 1073741824 - 759250125 * S3 ∧ X3 * 1073741824 - 759250125 * S3 ≤ 23147726241792) (h4 : -23147726241792 ≤ X4 * 1073741824 - 759250125 * S4 ∧ X4 * 1073741824 - 759250125 * S4 ≤ 23147726241792) (h5 : -23147726241792 ≤ X5 * 1073741824 - 759250125 * S5 ∧ X5 * 1073741824 - 759250125 * S5 ≤ 23147726241792) (h6 : -23147726241792 ≤ X6 * 1073741824 - 759250125 * S6 ∧ X6 * 1073741824 - 759250125 * S6 ≤ 23147726241792) (h7 : -23147726241792 ≤ X7 * 1073741824 - 759250125 * S7 ∧ X7 * 1073741824 - 759250125 * S7 ≤ 23147726241792) (k0 : -400000000 ≤ S0 ∧ S0 ≤ 400000000) (k1 : -400000000 ≤ S1 ∧ S1 ≤ 400000000) (k2 : -400000000 ≤ S2 ∧ S2 ≤ 400000000) (k3 : -400000000 ≤ S3 ∧ S3 ≤ 400000000) (k4 : -400000000 ≤ S4 ∧ S4 ≤ 400000000) (k5 : -400000000 ≤ S5 ∧ S5 ≤ 400000000) (k6 : -400000000 ≤ S6 ∧ S6 ≤ 400000000) (k7 : -400000000 ≤ S7 ∧ S7 ≤ 400000000) :
    -2199023255552 ≤ F * 1099511627776 - 8 * (370728 * S0 + (-370728) * S1 + (-370728) * S2 + 370728 * S3 + 370728 * S4 + (-370728) * S5 + (-370728) * S6 + 370728 * S7) ∧ F * 1099511627776 - 8 * (370728 * S0 + (-370728) * S1 + (-370728) * S2 + 370728 * S3 + 370728 * S4 + (-370728) * S5 + (-370728) * S6 + 370728 * S7) ≤ 2199023255552 := by
  omega
theorem join5 (F X0 X1 X2 X3 X4 X5 X6 X7 S0 S1 S2 S3 S4 S5 S6 S7 : Int)
    (h : -86000000000000000000 ≤ F * 73786976294838206464 - 759250125 * (291279 * X0 + (-514214) * X1 + 102284 * X2 + 435930 * X3 + (-435930) * X4 + (-102284) * X5 + 514214 * X6 + (-291279) * X7) ∧ F * 73786976294838206464 - 759250125 * (291279 * X0 + (-514214) * X1 + 102284 * X2 + 435930 * X3 + (-435930) * X4 + (-102284) * X5 + 514214 * X6 + (-291279) * X7) ≤ 86000000000000000000)
    (h0 : -23147726241792 ≤ X0 * 1073741824 - 759250125 * S0 ∧ X0 * 1073741824 - 759250125 * S0 ≤ 23147726241792) (h1 : -23147726241792 ≤ X1 * 1073741824 - 759250125 * S1 ∧ X1 * 1073741824 - 759250125 * S1 ≤ 23147726241792) (h2 : -23147726241792 ≤ X2 * 1073741824 - 759250125 * S2 ∧ X2 * 1073741824 - 759250125 * S2 ≤ 23147726241792) (h3 : -23147726241792 ≤ X3 * 1073741824 - 759250125 * S3 ∧ X3 * 1073741824 - 759250125 * S3 ≤ 23147726241792) (h4 : -23147726241792 ≤ X4 * 1073741824 - 759250125 * S4 ∧ X4 * 1073741824 - 759250125 * S4 ≤ 23147726241792) (h5 : -23147726241792 ≤ X5 * 1073741824 - 759250125 * S5 ∧ X5 * 1073741824 - 759250125 * S5 ≤ 23147726241792) (h6 : -23147726241792 ≤ X6 * 1073741824 - 759250125 * S6 ∧ X6 * 1073741824 - 759250125 * S6 ≤ 23147726241792) (h7 : -23147726241792 ≤ X7 * 1073741824 - 759250125 * S7 ∧ X7 * 1073741824 - 759250125 * S7 ≤ 23147726241792) (k0 : -400000000 ≤ S0 ∧ S0 ≤ 400000000) (k1 : -400000000 ≤ S1 ∧ S1 ≤ 400000000) (k2 : -400000000 ≤ S2 ∧ S2 ≤ 400000000) (k3 : -400000000 ≤ S3 ∧ S3 ≤ 400000000) (k4 : -400000000 ≤ S4 ∧ S4 ≤ 400000000) (k5 : -400000000 ≤ S5 ∧ S5 ≤ 400000000) (k6 : -400000000 ≤ S6 ∧ S6 ≤ 400000000) (k7 : -400000000 ≤ S7 ∧ S7 ≤ 400000000) :
    -2199023255552 ≤ F * 1099511627776 - 8 * (291279 * S0 + (-514214) * S1 + 102284 * S2 + 435930 * S3 + (-435930) * S4 + (-102284) * S5 + 514214 * S6 + (-291279) * S7) ∧ F * 1099511627776 - 8 * (291279 * S0 + (-514214) * S1 + 102284 * S2 + 435930 * S3 + (-435930) * S4 + (-102284) * S5 + 514214 * S6 + (-291279) * S7) ≤ 2199023255552 := by
  omega
theorem join6 (F X0 X1 X2 X3 X4 X5 X6 X7 S0 S1 S2 S3 S4 S5 S6 S7 : Int)
    (h : -86000000000000000000 ≤ F * 73786976294838206464 - 759250125 * (200636 * X0 + (-484379) * X1 + 484379 * X2 + (-200636) * X3 + (-200636) * X4 + 484379 * X5 + (-484379) * X6 + 200636 * X7) ∧ F * 73786976294838206464 - 759250125 * (200636 * X0 + (-484379) * X1 + 484379 * X2 + (-200636) * X3 + (-200636) * X4 + 484379 * X5 + (-484379) * X6 + 200636 * X7) ≤ 86000000000000000000)
    (h0 : -23147726241792 ≤ X0 * 1073741824 - 759250125 * S0 ∧ X0 * 1073741824 - 759250125 * S0 ≤ 23147726241792) (h1 : -23147726241792 ≤ X1 * 1073741824 - 759250125 * S1 ∧ X1 * 1073741824 - 759250125 * S1 ≤ 23147726241792) (h2 : -23147726241792 ≤ X2 * 1073741824 - 759250125 * S2 ∧ X2 * 1073741824 - 759250125 * S2 ≤ 23147726241792) (h3 : -23147726241792 ≤ X3 * 1073741824 - 759250125 * S3 ∧ X3 * 1073741824 - 759250125 * S3 ≤ 23147726241792) (h4 : -23147726241792 ≤ X4 * 1073741824 - 759250125 * S4 ∧ X4 * 1073741824 - 759250125 * S4 ≤ 23147726241792) (h5 : -23147726241792 ≤ X5 * 1073741824 - 759250125 * S5 ∧ X5 * 1073741824 - 759250125 * S5 ≤ 23147726241792) (h6 : -23147726241792 ≤ X6 * 1073741824 - 759250125 * S6 ∧ X6 * 1073741824 - 759250125 * S6 ≤ 23147726241792) (h7 : -23147726241792 ≤ X7 * 1073741824 - 759250125 * S7 ∧ X7 * 1073741824 - 759250125 * S7 ≤ 23147726241792) (k0 : -400000000 ≤ S0 ∧ S0 ≤ 400000000) (k1 : -400000000 ≤ S1 ∧ S1 ≤ 400000000) (k2 : -400000000 ≤ S2 ∧ S2 ≤ 400000000) (k3 : -400000000 ≤ S3 ∧ S3 ≤ 400000000) (k4 : -400000000 ≤ S4 ∧ S4 ≤ 400000000) (k5 : -400000000 ≤ S5 ∧ S5 ≤ 400000000) (k6 : -400000000 ≤ S6 ∧ S6 ≤ 400000000) (k7 : -400000000 ≤ S7 ∧ S7 ≤ 400000000) :
    -2199023255552 ≤ F * 1099511627776 - 8 * (200636 * S0 + (-484379) * S1 + 484379 * S2 + (-200636) * S3 + (-200636) * S4 + 484379 * S5 + (-484379) * S6 + 200636 * S7) ∧ F * 1099511627776 - 8 * (200636 * S0 + (-484379) * S1 + 484379 * S2 + (-200636) * S3 + (-200636) * S4 + 484379 * S5 + (-484379) * S6 + 200636 * S7) ≤ 2199023255552 := by
  omega
theorem join7 (F X0 X1 X2 X3 X4 X5 X6 X7 S0 S1 S2 S3 S4 S5 S6 S7 : Int)
    (h : -86000000000000000000 ≤ F * 73786976294838206464 - 759250125 * (102284 * X0 + (-291279) * X1 + 435930 * X2 + (-514214) * X3 + 514214 * X4 + (-435930) * X5 + 291279 * X6 + (-102284) * X7) ∧ F * 73786976294838206464 - 759250125 * (102284 * X0 + (-291279) * X1 + 435930 * X2 + (-514214) * X3 + 514214 * X4 + (-435930) * X5 + 291279 * X6 + (-102284) * X7) ≤ 86000000000000000000)
    (h0 : -23147726241792 ≤ X0 * 1073741824 - 759250125 * S0 ∧ X0 * 1073741824 - 759250125 * S0 ≤ 23147726241792) (h1 : -23147726241792 ≤ X1 * 1073741824 - 759250125 * S1 ∧ X1 * 1073741824 - 759250125 * S1 ≤ 23147726241792) (h2 : -23147726241792 ≤ X2 * 1073741824 - 759250125 * S2 ∧ X2 * 1073741824 - 759250125 * S2 ≤ 23147726241792) (h3 : -23147726241792 ≤ X3 * 1073741824 - 759250125 * S3 ∧ X3 * 1073741824 - 759250125 * S3 ≤ 23147726241792) (h4 : -23147726241792 ≤ X4 * 1073741824 - 759250125 * S4 ∧ X4 * 1073741824 - 759250125 * S4 ≤ 23147726241792) (h5 : -23147726241792 ≤ X5 * 1073741824 - 759250125 * S5 ∧ X5 * 1073741824 - 759250125 * S5 ≤ 23147726241792) (h6 : -23147726241792 ≤ X6 * 1073741824 - 759250125 * S6 ∧ X6 * 1073741824 - 759250125 * S6 ≤ 23147726241792) (h7 : -23147726241792 ≤ X7 * 1073741824 - 759250125 * S7 ∧ X7 * 1073741824 - 759250125 * S7 ≤ 23147726241792) (k0 : -400000000 ≤ S0 ∧ S0 ≤ 400000000) (k1 : -400000000 ≤ S1 ∧ S1 ≤ 400000000) (k2 : -400000000 ≤ S2 ∧ S2 ≤ 400000000) (k3 : -400000000 ≤ S3 ∧ S3 ≤ 400000000) (k4 : -400000000 ≤ S4 ∧ S4 ≤ 400000000) (k5 : -400000000 ≤ S5 ∧ S5 ≤ 400000000) (k6 : -400000000 ≤ S6 ∧ S6 ≤ 400000000) (k7 : -400000000 ≤ S7 ∧ S7 ≤ 400000000) :
    -2199023255552 ≤ F * 1099511627776 - 8 * (102284 * S0 + (-291279) * S1 + 435930 * S2 + (-514214) * S3 + 514214 * S4 + (-435930) * S5 + 291279 * S6 + (-102284) * S7) ∧ F * 1099511627776 - 8 * (102284 * S0 + (-291279) * S1 + 435930 * S2 + (-514214) * S3 + 514214 * S4 + (-435930) * S5 + 291279 * S6 + (-102284) * S7) ≤ 2199023255552 := by
  omega
/-- The exact sum of both. -/
def exact2 (f : Nat → Int) (v u : Nat) : Int := bN (0 * 8 + u) * colSum f v 0 + bN (1 * 8 + u) * colSum f v 1 + bN (2 * 8 + u) * colSum f v 2 + bN (3 * 8 + u) * colSum f v 3 + bN (4 * 8 + u) * colSum f v 4 + bN (5 * 8 + u) * colSum f v 5 + bN (6 * 8 + u) * colSum f v 6 + bN (7 * 8 + u) * colSum f v 7
theorem both_near (f : Nat → Int) (hf : ∀ j, 0 ≤ f j ∧ f j ≤ 255) (v u : Nat) (hv : v < 8) (hu : u < 8) :
    -2199023255552 ≤ frows (fcols f) (8 * v + u) * 1099511627776 - 8 * exact2 f v u ∧ frows (fcols f) (8 * v + u) * 1099511627776 - 8 * exact2 f v u ≤ 2199023255552 := by
  have e : frows (fcols f) (8 * v + u) = frow u (fcols f (8 * v + 0)) (fcols f (8 * v + 1)) (fcols f (8 * v + 2)) (fcols f (8 * v + 3)) (fcols f (8 * v + 4)) (fcols f (8 * v + 5)) (fcols f (8 * v + 6)) (fcols f (8 * v + 7)) := by
    simp only [frows]
    rw [show (8 * v + u) / 8 = v by omega, show (8 * v + u) % 8 = u by omega]
    rfl
  rw [e]
  unfold exact2
  have h0 := col_near f hf v 0 hv (by omega)
  have h1 := col_near f hf v 1 hv (by omega)
  have h2 := col_near f hf v 2 hv (by omega)
  have h3 := col_near f hf v 3 hv (by omega)
  have h4 := col_near f hf v 4 hv (by omega)
  have h5 := col_near f hf v 5 hv (by omega)
  have h6 := col_near f hf v 6 hv (by omega)
  have h7 := col_near f hf v 7 hv (by omega)
  generalize fcols f (8 * v + 0) = X0 at *
  generalize fcols f (8 * v + 1) = X1 at *
  generalize fcols f (8 * v + 2) = X2 at *
  generalize fcols f (8 * v + 3) = X3 at *
  generalize fcols f (8 * v + 4) = X4 at *
  generalize fcols f (8 * v + 5) = X5 at *
  generalize fcols f (8 * v + 6) = X6 at *
  generalize fcols f (8 * v + 7) = X7 at *
  generalize colSum f v 0 = S0 at *
  generalize colSum f v 1 = S1 at *
  generalize colSum f v 2 = S2 at *
  generalize colSum f v 3 = S3 at *
  generalize colSum f v 4 = S4 at *
  generalize colSum f v 5 = S5 at *
  generalize colSum f v 6 = S6 at *
  generalize colSum f v 7 = S7 at *
  obtain ⟨a0, b0, c0⟩ := h0
  obtain ⟨a1, b1, c1⟩ := h1
  obtain ⟨a2, b2, c2⟩ := h2
  obtain ⟨a3, b3, c3⟩ := h3
  obtain ⟨a4, b4, c4⟩ := h4
  obtain ⟨a5, b5, c5⟩ := h5
  obtain ⟨a6, b6, c6⟩ := h6
  obtain ⟨a7, b7, c7⟩ := h7
  clear e
  obtain rfl | rfl | rfl | rfl | rfl | rfl | rfl | rfl : u = 0 ∨ u = 1 ∨ u = 2 ∨ u = 3 ∨ u = 4 ∨ u = 5 ∨ u = 6 ∨ u = 7 := by omega
  · rw [show bN (0 * 8 + 0) = 370728 from rfl, show bN (1 * 8 + 0) = 370728 from rfl, show bN (2 * 8 + 0) = 370728 from rfl, show bN (3 * 8 + 0) = 370728 from rfl, show bN (4 * 8 + 0) = 370728 from rfl, show bN (5 * 8 + 0) = 370728 from rfl, show bN (6 * 8 + 0) = 370728 from rfl, show bN (7 * 8 + 0) = 370728 from rfl]
    exact join0 _ _ _ _ _ _ _ _ _ _ _ _ _ _ _ _ _ (frow0_near _ _ _ _ _ _ _ _ c0 c1 c2 c3 c4 c5 c6 c7) ⟨a0, b0⟩ ⟨a1, b1⟩ ⟨a2, b2⟩ ⟨a3, b3⟩ ⟨a4, b4⟩ ⟨a5, b5⟩ ⟨a6, b6⟩ ⟨a7, b7⟩ ⟨by omega, by omega⟩ ⟨by omega, by omega⟩ ⟨by omega, by omega⟩ ⟨by omega, by omega⟩ ⟨by omega, by omega⟩ ⟨by omega, by omega⟩ ⟨by omega, by omega⟩ ⟨by omega, by omega⟩
  · rw [show bN (0 * 8 + 1) = 514214 from rfl, show bN (1 * 8 + 1) = 435930 from rfl, show bN (2 * 8 + 1) = 291279 from rfl, show bN (3 * 8 + 1) = 102284 from rfl, show bN (4 * 8 + 1) = (-102284) from rfl, show bN (5 * 8 + 1) = (-291279) from rfl, show bN (6 * 8 + 1) = (-435930) from rfl, show bN (7 * 8 + 1) = (-514214) from rfl]
    exact join1 _ _ _ _ _ _ _ _ _ _ _ _ _ _ _ _ _ (frow1_near _ _ _ _ _ _ _ _ c0 c1 c2 c3 c4 c5 c6 c7) ⟨a0, b0⟩ ⟨a1, b1⟩ ⟨a2, b2⟩ ⟨a3, b3⟩ ⟨a4, b4⟩ ⟨a5, b5⟩ ⟨a6, b6⟩ ⟨a7, b7⟩ ⟨by omega, by omega⟩ ⟨by omega, by omega⟩ ⟨by omega, by omega⟩ ⟨by omega, by omega⟩ ⟨by omega, by omega⟩ ⟨by omega, by omega⟩ ⟨by omega, by omega⟩ ⟨by omega, by omega⟩
  · rw [show bN (0 * 8 + 2) = 484379 from rfl, show bN (1 * 8 + 2) = 200636 from rfl, show bN (2 * 8 + 2) = (-200636) from rfl, show bN (3 * 8 + 2) = (-484379) from rfl, show bN (4 * 8 + 2) = (-484379) from rfl, show bN (5 * 8 + 2) = (-200636) from rfl, show bN (6 * 8 + 2) = 200636 from rfl, show bN (7 * 8 + 2) = 484379 from rfl]
    exact join2 _ _ _ _ _ _ _ _ _ _ _ _ _ _ _ _ _ (frow2_near _ _ _ _ _ _ _ _ c0 c1 c2 c3 c4 c5 c6 c7) ⟨a0, b0⟩ ⟨a1, b1⟩ ⟨a2, b2⟩ ⟨a3, b3⟩ ⟨a4, b4⟩ ⟨a5, b5⟩ ⟨a6, b6⟩ ⟨a7, b7⟩ ⟨by omega, by omega⟩ ⟨by omega, by omega⟩ ⟨by omega, by omega⟩ ⟨by omega, by omega⟩ ⟨by omega, by omega⟩ ⟨by omega, by omega⟩ ⟨by omega, by omega⟩ ⟨by omega, by omega⟩
  · rw [show bN (0 * 8 + 3) = 435930 from rfl, show bN (1 * 8 + 3) = (-102284) from rfl, show bN (2 * 8 + 3) = (-514214) from rfl, show bN (3 * 8 + 3) = (-291279) from rfl, show bN (4 * 8 + 3) = 291279 from rfl, show bN (5 * 8 + 3) = 514214 from rfl, show bN (6 * 8 + 3) = 102284 from rfl, show bN (7 * 8 + 3) = (-435930) from rfl]
    exact join3 _ _ _ _ _ _ _ _ _ _ _ _ _ _ _ _ _ (frow3_near _ _ _ _ _ _ _ _ c0 c1 c2 c3 c4 c5 c6 c7) ⟨a0, b0⟩ ⟨a1, b1⟩ ⟨a2, b2⟩ ⟨a3, b3⟩ ⟨a4, b4⟩ ⟨a5, b5⟩ ⟨a6, b6⟩ ⟨a7, b7⟩ ⟨by omega, by omega⟩ ⟨by omega, by omega⟩ ⟨by omega, by omega⟩ ⟨by omega, by omega⟩ ⟨by omega, by omega⟩ ⟨by omega, by omega⟩ ⟨by omega, by omega⟩ ⟨by omega, by omega⟩
  · rw [show bN (0 * 8 + 4) = 370728 from rfl, show bN (1 * 8 + 4) = (-370728) from rfl, show bN (2 * 8 + 4) = (-370728) from rfl, show bN (3 * 8 + 4) = 370728 from rfl, show bN (4 * 8 + 4) = 370728 from rfl, show bN (5 * 8 + 4) = (-370728) from rfl, show bN (6 * 8 + 4) = (-370728) from rfl, show bN (7 * 8 + 4) = 370728 from rfl]
    exact join4 _ _ _ _ _ _ _ _ _ _ _ _ _ _ _ _ _ (frow4_near _ _ _ _ _ _ _ _ c0 c1 c2 c3 c4 c5 c6 c7) ⟨a0, b0⟩ ⟨a1, b1⟩ ⟨a2, b2⟩ ⟨a3, b3⟩ ⟨a4, b4⟩ ⟨a5, b5⟩ ⟨a6, b6⟩ ⟨a7, b7⟩ ⟨by omega, by omega⟩ ⟨by omega, by omega⟩ ⟨by omega, by omega⟩ ⟨by omega, by omega⟩ ⟨by omega, by omega⟩ ⟨by omega, by omega⟩ ⟨by omega, by omega⟩ ⟨by omega, by omega⟩
  · rw [show bN (0 * 8 + 5) = 291279 from rfl, show bN (1 * 8 + 5) = (-514214) from rfl, show bN (2 * 8 + 5) = 102284 from rfl, show bN (3 * 8 + 5) = 435930 from rfl, show bN (4 * 8 + 5) = (-435930) from rfl, show bN (5 * 8 + 5) = (-102284) from rfl, show bN (6 * 8 + 5) = 514214 from rfl, show bN (7 * 8 + 5) = (-291279) from rfl]
    exact join5 _ _ _ _ _ _ _ _ _ _ _ _ _ _ _ _ _ (frow5_near _ _ _ _ _ _ _ _ c0 c1 c2 c3 c4 c5 c6 c7) ⟨a0, b0⟩ ⟨a1, b1⟩ ⟨a2, b2⟩ ⟨a3, b3⟩ ⟨a4, b4⟩ ⟨a5, b5⟩ ⟨a6, b6⟩ ⟨a7, b7⟩ ⟨by omega, by omega⟩ ⟨by omega, by omega⟩ ⟨by omega, by omega⟩ ⟨by omega, by omega⟩ ⟨by omega, by omega⟩ ⟨by omega, by omega⟩ ⟨by omega, by omega⟩ ⟨by omega, by omega⟩
  · rw [show bN (0 * 8 + 6) = 200636 from rfl, show bN (1 * 8 + 6) = (-484379) from rfl, show bN (2 * 8 + 6) = 484379 from rfl, show bN (3 * 8 + 6) = (-200636) from rfl, show bN (4 * 8 + 6) = (-200636) from rfl, show bN (5 * 8 + 6) = 484379 from rfl, show bN (6 * 8 + 6) = (-484379) from rfl, show bN (7 * 8 + 6) = 200636 from rfl]
    exact join6 _ _ _ _ _ _ _ _ _ _ _ _ _ _ _ _ _ (frow6_near _ _ _ _ _ _ _ _ c0 c1 c2 c3 c4 c5 c6 c7) ⟨a0, b0⟩ ⟨a1, b1⟩ ⟨a2, b2⟩ ⟨a3, b3⟩ ⟨a4, b4⟩ ⟨a5, b5⟩ ⟨a6, b6⟩ ⟨a7, b7⟩ ⟨by omega, by omega⟩ ⟨by omega, by omega⟩ ⟨by omega, by omega⟩ ⟨by omega, by omega⟩ ⟨by omega, by omega⟩ ⟨by omega, by omega⟩ ⟨by omega, by omega⟩ ⟨by omega, by omega⟩
  · rw [show bN (0 * 8 + 7) = 102284 from rfl, show bN (1 * 8 + 7) = (-291279) from rfl, show bN (2 * 8 + 7) = 435930 from rfl, show bN (3 * 8 + 7) = (-514214) from rfl, show bN (4 * 8 + 7) = 514214 from rfl, show bN (5 * 8 + 7) = (-435930) from rfl, show bN (6 * 8 + 7) = 291279 from rfl, show bN (7 * 8 + 7) = (-102284) from rfl]
    exact join7 _ _ _ _ _ _ _ _ _ _ _ _ _ _ _ _ _ (frow7_near _ _ _ _ _ _ _ _ c0 c1 c2 c3 c4 c5 c6 c7) ⟨a0, b0⟩ ⟨a1, b1⟩ ⟨a2, b2⟩ ⟨a3, b3⟩ ⟨a4, b4⟩ ⟨a5, b5⟩ ⟨a6, b6⟩ ⟨a7, b7⟩ ⟨by omega, by omega⟩ ⟨by omega, by omega⟩ ⟨by omega, by omega⟩ ⟨by omega, by omega⟩ ⟨by omega, by omega⟩ ⟨by omega, by omega⟩ ⟨by omega, by omega⟩ ⟨by omega, by omega⟩
theorem half_eq (f : Nat → Int) (hf : ∀ j, 0 ≤ f j ∧ f j ≤ 255) (y u : Nat) (hu : u < 8) :
    cofH bN f (8 * y + u) = bN (0 * 8 + u) * (f (8 * y + 0) - 128) + bN (1 * 8 + u) * (f (8 * y + 1) - 128) + bN (2 * 8 + u) * (f (8 * y + 2) - 128) + bN (3 * 8 + u) * (f (8 * y + 3) - 128) + bN (4 * 8 + u) * (f (8 * y + 4) - 128) + bN (5 * 8 + u) * (f (8 * y + 5) - 128) + bN (6 * 8 + u) * (f (8 * y + 6) - 128) + bN (7 * 8 + u) * (f (8 * y + 7) - 128) ∧ -536870912 ≤ cofH bN f (8 * y + u) ∧ cofH bN f (8 * y + u) ≤ 536870912 := by
  have hb : ∀ x, x < 8 → cofB f (8 * y + u) x = f (8 * y + x) - 128 := fun x hx => by
    simp only [cofB]
    rw [show (8 * y + u) / 8 = y by omega]
    have := hf (8 * y + x)
    exact IntWalk.wrap64_in _ ⟨by omega, by omega⟩
  have hp : ∀ x, x < 8 → cofA bN (8 * y + u) x = bN (x * 8 + u) := fun x hx => by
    simp only [cofA]
    rw [show (8 * y + u) % 8 = u by omega]
  have hm : ∀ x, x < 8 → -67108864 ≤ cofA bN (8 * y + u) x * cofB f (8 * y + u) x ∧ cofA bN (8 * y + u) x * cofB f (8 * y + u) x ≤ 67108864 := fun x hx => by
    rw [hb x hx, hp x hx]
    have := hf (8 * y + x)
    have := mul_in (A := 524288) (C := 128) (by omega) (bN_in (x * 8 + u) (by omega)) (b := f (8 * y + x) - 128) (by omega)
    simpa using this
  have e := dot_eq 0 (cofA bN (8 * y + u)) (cofB f (8 * y + u)) 67108864 (by omega) (by omega) hm
  unfold cofH
  rw [e]
  have m0 := hm 0 (by omega)
  have m1 := hm 1 (by omega)
  have m2 := hm 2 (by omega)
  have m3 := hm 3 (by omega)
  have m4 := hm 4 (by omega)
  have m5 := hm 5 (by omega)
  have m6 := hm 6 (by omega)
  have m7 := hm 7 (by omega)
  refine ⟨?_, by omega, by omega⟩
  rw [hb 0 (by omega), hp 0 (by omega), hb 1 (by omega), hp 1 (by omega), hb 2 (by omega), hp 2 (by omega), hb 3 (by omega), hp 3 (by omega), hb 4 (by omega), hp 4 (by omega), hb 5 (by omega), hp 5 (by omega), hb 6 (by omega), hp 6 (by omega), hb 7 (by omega), hp 7 (by omega), Int.zero_add]
theorem want_eq (f : Nat → Int) (hf : ∀ j, 0 ≤ f j ∧ f j ≤ 255) (v u : Nat) (hv : v < 8) (hu : u < 8) :
    cofS bN (cofH bN f) (8 * v + u) = exact2 f v u ∧ -2251799813685248 ≤ cofS bN (cofH bN f) (8 * v + u) ∧ cofS bN (cofH bN f) (8 * v + u) ≤ 2251799813685248 := by
  have hb : ∀ y, y < 8 → cofD (cofH bN f) (8 * v + u) y = cofH bN f (8 * y + u) := fun y hy => by
    simp only [cofD]
    rw [show (8 * v + u) % 8 = u by omega]
  have hp : ∀ y, y < 8 → cofC bN (8 * v + u) y = bN (y * 8 + v) := fun y hy => by
    simp only [cofC]
    rw [show (8 * v + u) / 8 = v by omega]
  have hm : ∀ y, y < 8 → -281474976710656 ≤ cofC bN (8 * v + u) y * cofD (cofH bN f) (8 * v + u) y ∧ cofC bN (8 * v + u) y * cofD (cofH bN f) (8 * v + u) y ≤ 281474976710656 := fun y hy => by
    rw [hb y hy, hp y hy]
    have := (half_eq f hf y u hu).2
    have := mul_in (A := 524288) (C := 536870912) (by omega) (bN_in (y * 8 + v) (by omega)) this
    simpa using this
  have e := dot_eq 0 (cofC bN (8 * v + u)) (cofD (cofH bN f) (8 * v + u)) 281474976710656 (by omega) (by omega) hm
  unfold cofS
  rw [e]
  have m0 := hm 0 (by omega)
  have m1 := hm 1 (by omega)
  have m2 := hm 2 (by omega)
  have m3 := hm 3 (by omega)
  have m4 := hm 4 (by omega)
  have m5 := hm 5 (by omega)
  have m6 := hm 6 (by omega)
  have m7 := hm 7 (by omega)
  refine ⟨?_, by omega, by omega⟩
  rw [hb 0 (by omega), hp 0 (by omega), hb 1 (by omega), hp 1 (by omega), hb 2 (by omega), hp 2 (by omega), hb 3 (by omega), hp 3 (by omega), hb 4 (by omega), hp 4 (by omega), hb 5 (by omega), hp 5 (by omega), hb 6 (by omega), hp 6 (by omega), hb 7 (by omega), hp 7 (by omega), Int.zero_add]
  rw [(half_eq f hf 0 u hu).1, (half_eq f hf 1 u hu).1, (half_eq f hf 2 u hu).1, (half_eq f hf 3 u hu).1, (half_eq f hf 4 u hu).1, (half_eq f hf 5 u hu).1, (half_eq f hf 6 u hu).1, (half_eq f hf 7 u hu).1]
  exact exchange (fun x => bN (x * 8 + u)) (fun y => bN (y * 8 + v)) (fun y x => f (8 * y + x) - 128)
/-- What the law FnForward asks. -/
theorem forward_near (f : Nat → Int) (hf : ∀ j, 0 ≤ f j ∧ f j ≤ 255) (j : Nat) (hj : j < 64) :
    (-2199023255552 ≤ frows (fcols f) j * 1099511627776 - 8 * fwd zN bN f j ∧ frows (fcols f) j * 1099511627776 - 8 * fwd zN bN f j ≤ 2199023255552) ∧ -2251799813685248 ≤ fwd zN bN f j ∧ fwd zN bN f j ≤ 2251799813685248 := by
  have e : fwd zN bN f j = cofS bN (cofH bN f) j := fill_at zN (cof zN bN f) (cofS bN (cofH bN f)) j 64 (fun _ _ => rfl) (zN_onto j hj)
  have h1 := both_near f hf (j / 8) (j % 8) (by omega) (by omega)
  have h2 := want_eq f hf (j / 8) (j % 8) (by omega) (by omega)
  rw [show 8 * (j / 8) + j % 8 = j by omega] at h1 h2
  rw [e, h2.1]
  rw [h2.1] at h2
  exact ⟨h1, h2.2⟩
end Go.Proofs.YtcblegbjhiameaaDoor
