/- The coefficients of a block are small: plain law (the nearness is that of the forward transform's text, printed by fwdlaw.py; the bounds by coefs.py). -/
import Derived.Test.YtghjlekdibcjdaaGreatDoorNearfwd
import Derived.Test.YtghjlekdibcjdaaGreatDoorRows
namespace Go.Proofs.YtghjlekdibcjdaaGreatDoor
open Go.RowKit
/-- The numbers of the basis, row by row. -/
def bl : List (List Int) := [[370728, 514214, 484379, 435930, 370728, 291279, 200636, 102284], [370728, 435930, 200636, -102284, -370728, -514214, -484379, -291279], [370728, 291279, -200636, -514214, -370728, 102284, 484379, 435930], [370728, 102284, -484379, -291279, 370728, 435930, -200636, -514214], [370728, -102284, -484379, 291279, 370728, -435930, -200636, 514214], [370728, -291279, -200636, 514214, -370728, -102284, 484379, -435930], [370728, -435930, 200636, 102284, -370728, 514214, -484379, 291279], [370728, -514214, 484379, -435930, 370728, -291279, 200636, -102284]]
/-- The numbers of a table's data. -/
def litN : Go.DataW Unit → Int
  | .lit (.int _ n) => n
  | _ => 0
def rowN : Go.DataW Unit → List Nat
  | .agg xs => xs.map fun x => (litN x).toNat
  | _ => []
def rowsN : Go.DataW Unit → List (List Nat)
  | .agg xs => xs.map rowN
  | _ => []
/-- The zigzag sequence: that of the given rows. -/
def zl : List Nat := rowN Rows.laid_jpegcodec_pub_jpeg_unzig
def zN (k : Nat) : Nat := zl.getD k 0
def bN (k : Nat) : Int := bl.flatten.getD k 0
theorem zN_lt : ∀ k, k < 64 → zN k < 64 := by decide +kernel
theorem zN_pos0 : ∀ k, k < 64 → 1 ≤ k → 1 ≤ zN k := by decide +kernel
theorem zN_pos (k : Nat) (h1 : 1 ≤ k) (h2 : k < 64) : 1 ≤ zN k := zN_pos0 k h2 h1
theorem fcols_at (f : Nat → Int) (v x : Nat) (hx : x < 8) : fcols f (8 * v + x) = fcol v (f (8 * 0 + x)) (f (8 * 1 + x)) (f (8 * 2 + x)) (f (8 * 3 + x)) (f (8 * 4 + x)) (f (8 * 5 + x)) (f (8 * 6 + x)) (f (8 * 7 + x)) := by
  simp only [fcols]
  rw [show (8 * v + x) / 8 = v by omega, show (8 * v + x) % 8 = x by omega, Nat.mul_zero, Nat.zero_add]
/-- The exact sum of a column. -/
def colSum (f : Nat → Int) (v x : Nat) : Int := bN (0 * 8 + v) * (f (8 * 0 + x) - 128) + bN (1 * 8 + v) * (f (8 * 1 + x) - 128) + bN (2 * 8 + v) * (f (8 * 2 + x) - 128) + bN (3 * 8 + v) * (f (8 * 3 + x) - 128) + bN (4 * 8 + v) * (f (8 * 4 + x) - 128) + bN (5 * 8 + v) * (f (8 * 5 + x) - 128) + bN (6 * 8 + v) * (f (8 * 6 + x) - 128) + bN (7 * 8 + v) * (f (8 * 7 + x) - 128)
theorem col_near (f : Nat → Int) (hf : ∀ j, 0 ≤ f j ∧ f j ≤ 255) (v x : Nat) (hv : v < 8) (hx : x < 8) :
    -23147726241792 ≤ fcols f (8 * v + x) * 1073741824 - 759250125 * colSum f v x ∧ fcols f (8 * v + x) * 1073741824 - 759250125 * colSum f v x ≤ 23147726241792 ∧ -268435456 ≤ fcols f (8 * v + x) ∧ fcols f (8 * v + x) ≤ 267386880 := by
  rw [fcols_at f v x hx]
  unfold colSum
  obtain rfl | rfl | rfl | rfl | rfl | rfl | rfl | rfl : v = 0 ∨ v = 1 ∨ v = 2 ∨ v = 3 ∨ v = 4 ∨ v = 5 ∨ v = 6 ∨ v = 7 := by omega
  · rw [show bN (0 * 8 + 0) = 370728 from rfl, show bN (1 * 8 + 0) = 370728 from rfl, show bN (2 * 8 + 0) = 370728 from rfl, show bN (3 * 8 + 0) = 370728 from rfl, show bN (4 * 8 + 0) = 370728 from rfl, show bN (5 * 8 + 0) = 370728 from rfl, show bN (6 * 8 + 0) = 370728 from rfl, show bN (7 * 8 + 0) = 370728 from rfl]
    exact fcol0_near _ _ _ _ _ _ _ _ (hf _) (hf _) (hf _) (hf _) (hf _) (hf _) (hf _) (hf _)
  · rw [show bN (0 * 8 + 1) = 514214 from rfl, show bN (1 * 8 + 1) = 435930 from rfl, show bN (2 * 8 + 1) = 291279 from rfl, show bN (3 * 8 + 1) = 102284 from rfl, show bN (4 * 8 + 1) = (-102284) from rfl, show bN (5 * 8 + 1) = (-291279) from rfl, show bN (6 * 8 + 1) = (-435930) from rfl, show bN (7 * 8 + 1) = (-514214) from rfl]
    exact fcol1_near _ _ _ _ _ _ _ _ (hf _) (hf _) (hf _) (hf _) (hf _) (hf _) (hf _) (hf _)
  · rw [show bN (0 * 8 + 2) = 484379 from rfl, show bN (1 * 8 + 2) = 200636 from rfl, show bN (2 * 8 + 2) = (-200636) from rfl, show bN (3 * 8 + 2) = (-484379) from rfl, show bN (4 * 8 + 2) = (-484379) from rfl, show bN (5 * 8 + 2) = (-200636) from rfl, show bN (6 * 8 + 2) = 200636 from rfl, show bN (7 * 8 + 2) = 484379 from rfl]
    exact fcol2_near _ _ _ _ _ _ _ _ (hf _) (hf _) (hf _) (hf _) (hf _) (hf _) (hf _) (hf _)
  · rw [show bN (0 * 8 + 3) = 435930 from rfl, show bN (1 * 8 + 3) = (-102284) from rfl, show bN (2 * 8 + 3) = (-514214) from rfl, show bN (3 * 8 + 3) = (-291279) from rfl, show bN (4 * 8 + 3) = 291279 from rfl, show bN (5 * 8 + 3) = 514214 from rfl, show bN (6 * 8 + 3) = 102284 from rfl, show bN (7 * 8 + 3) = (-435930) from rfl]
    exact fcol3_near _ _ _ _ _ _ _ _ (hf _) (hf _) (hf _) (hf _) (hf _) (hf _) (hf _) (hf _)
  · rw [show bN (0 * 8 + 4) = 370728 from rfl, show bN (1 * 8 + 4) = (-370728) from rfl, show bN (2 * 8 + 4) = (-370728) from rfl, show bN (3 * 8 + 4) = 370728 from rfl, show bN (4 * 8 + 4) = 370728 from rfl, show bN (5 * 8 + 4) = (-370728) from rfl, show bN (6 * 8 + 4) = (-370728) from rfl, show bN (7 * 8 + 4) = 370728 from rfl]
    exact fcol4_near _ _ _ _ _ _ _ _ (hf _) (hf _) (hf _) (hf _) (hf _) (hf _) (hf _) (hf _)
  · rw [show bN (0 * 8 + 5) = 291279 from rfl, show bN (1 * 8 + 5) = (-514214) from rfl, show bN (2 * 8 + 5) = 102284 from rfl, show bN (3 * 8 + 5) = 435930 from rfl, show bN (4 * 8 + 5) = (-435930) from rfl, show bN (5 * 8 + 5) = (-102284) from rfl, show bN (6 * 8 + 5) = 514214 from rfl, show bN (7 * 8 + 5) = (-291279) from rfl]
    exact fcol5_near _ _ _ _ _ _ _ _ (hf _) (hf _) (hf _) (hf _) (hf _) (hf _) (hf _) (hf _)
  · rw [show bN (0 * 8 + 6) = 200636 from rfl, show bN (1 * 8 + 6) = (-484379) from rfl, show bN (2 * 8 + 6) = 484379 from rfl, show bN (3 * 8 + 6) = (-200636) from rfl, show bN (4 * 8 + 6) = (-200636) from rfl, show bN (5 * 8 + 6) = 484379 from rfl, show bN (6 * 8 + 6) = (-484379) from rfl, show bN (7 * 8 + 6) = 200636 from rfl]
    exact fcol6_near _ _ _ _ _ _ _ _ (hf _) (hf _) (hf _) (hf _) (hf _) (hf _) (hf _) (hf _)
  · rw [show bN (0 * 8 + 7) = 102284 from rfl, show bN (1 * 8 + 7) = (-291279) from rfl, show bN (2 * 8 + 7) = 435930 from rfl, show bN (3 * 8 + 7) = (-514214) from rfl, show bN (4 * 8 + 7) = 514214 from rfl, show bN (5 * 8 + 7) = (-435930) from rfl, show bN (6 * 8 + 7) = 291279 from rfl, show bN (7 * 8 + 7) = (-102284) from rfl]
    exact fcol7_near _ _ _ _ _ _ _ _ (hf _) (hf _) (hf _) (hf _) (hf _) (hf _) (hf _) (hf _)
theorem join0 (F X0 X1 X2 X3 X4 X5 X6 X7 S0 S1 S2 S3 S4 S5 S6 S7 : Int)
    (h : -86000000000000000000 ≤ F * 73786976294838206464 - 759250125 * (370728 * X0 + 370728 * X1 + 370728 * X2 + 370728 * X3 + 370728 * X4 + 370728 * X5 + 370728 * X6 + 370728 * X7) ∧ F * 73786976294838206464 - 759250125 * (370728 * X0 + 370728 * X1 + 370728 * X2 + 370728 * X3 + 370728 * X4 + 370728 * X5 + 370728 * X6 + 370728 * X7) ≤ 86000000000000000000)
    (h0 : -23147726241792 ≤ X0 * 1073741824 - 759250125 * S0 ∧ X0 * 1073741824 - 759250125 * S0 ≤ 23147726241792) (h1 : -23147726241792 ≤ X1 * 1073741824 - 759250125 * S1 ∧ X1 * 1073741824 - 759250125 * S1 ≤ 23147726241792) (h2 : -23147726241792 ≤ X2 * 1073741824 - 759250125 * S2 ∧ X2 * 1073741824 - 759250125 * S2 ≤ 23147726241792) (h3 : -23147726241792 ≤ X3 * 1073741824 - 759250125 * S3 ∧ X3 * 1073741824 - 759250125 * S3 ≤ 23147726241792) (h4 : -23147726241792 ≤ X4 * 1073741824 - 759250125 * S4 ∧ X4 * 1073741824 - 759250125 * S4 ≤ 23147726241792) (h5 : -23147726241792 ≤ X5 * 1073741824 - 759250125 * S5 ∧ X5 * 1073741824 - 759250125 * S5 ≤ 23147726241792) (h6 : -23147726241792 ≤ X6 * 1073741824 - 759250125 * S6 ∧ X6 * 1073741824 - 759250125 * S6 ≤ 23147726241792) (h7 : -23147726241792 ≤ X7 * 1073741824 - 759250125 * S7 ∧ X7 * 1073741824 - 759250125 * S7 ≤ 23147726241792) (k0 : -400000000 ≤ S0 ∧ S0 ≤ 400000000) (k1 : -400000000 ≤ S1 ∧ S1 ≤ 400000000) (k2 : -400000000 ≤ S2 ∧ S2 ≤ 400000000) (k3 : -400000000 ≤ S3 ∧ S3 ≤ 400000000) (k4 : -400000000 ≤ S4 ∧ S4 ≤ 400000000) (k5 : -400000000 ≤ S5 ∧ S5 ≤ 400000000) (k6 : -400000000 ≤ S6 ∧ S6 ≤ 400000000) (k7 : -400000000 ≤ S7 ∧ S7 ≤ 400000000) :
    -2199023255552 ≤ F * 1099511627776 - 8 * (370728 * S0 + 370728 * S1 + 370728 * S2 + 370728 * S3 + 370728 * S4 + 370728 * S5 + 370728 * S6 + 370728 * S7) ∧ F * 1099511627776 - 8 * (370728 * S0 + 370728 * S1 + 370728 * S2 + 370728 * S3 + 370728 * S4 + 370728 * S5 + 370728 * S6 + 370728 * S7) ≤ 2199023255552 := by
  omega
theorem join1 (F X0 X1 X2 X3 X4 X5 X6 X7 S0 S1 S2 S3 S4 S5 S6 S7 : Int)
    (h : -86000000000000000000 ≤ F * 73786976294838206464 - 759250125 * (514214 * X0 + 435930 * X1 + 291279 * X2 + 102284 * X3 + (-102284) * X4 + (-291279) * X5 + (-435930) * X6 + (-514214) * X7) ∧ F * 73786976294838206464 - 759250125 * (514214 * X0 + 435930 * X1 + 291279 * X2 + 102284 * X3 + (-102284) * X4 + (-291279) * X5 + (-435930) * X6 + (-514214) * X7) ≤ 86000000000000000000)
    (h0 : -23147726241792 ≤ X0 * 1073741824 - 759250125 * S0 ∧ X0 * 1073741824 - 759250125 * S0 ≤ 23147726241792) (h1 : -23147726241792 ≤ X1 * 1073741824 - 759250125 * S1 ∧ X1 * 1073741824 - 759250125 * S1 ≤ 23147726241792) (h2 : -23147726241792 ≤ X2 * 1073741824 - 759250125 * S2 ∧ X2 * 1073741824 - 759250125 * S2 ≤ 23147726241792) (h3 : -23147726241792 ≤ X3 * 1073741824 - 759250125 * S3 ∧ X3 * 1073741824 - 759250125 * S3 ≤ 23147726241792) (h4 : -23147726241792 ≤ X4 * 1073741824 - 759250125 * S4 ∧ X4 * 1073741824 - 759250125 * S4 ≤ 23147726241792) (h5 : -23147726241792 ≤ X5 * 1073741824 - 759250125 * S5 ∧ X5 * 1073741824 - 759250125 * S5 ≤ 23147726241792) (h6 : -23147726241792 ≤ X6 * 1073741824 - 759250125 * S6 ∧ X6 * 1073741824 - 759250125 * S6 ≤ 23147726241792) (h7 : -23147726241792 ≤ X7 * 1073741824 - 759250125 * S7 ∧ X7 * 1073741824 - 759250125 * S7 ≤ 23147726241792) (k0 : -400000000 ≤ S0 ∧ S0 ≤ 400000000) (k1 : -400000000 ≤ S1 ∧ S1 ≤ 400000000) (k2 : -400000000 ≤ S2 ∧ S2 ≤ 400000000) (k3 : -400000000 ≤ S3 ∧ S3 ≤ 400000000) (k4 : -400000000 ≤ S4 ∧ S4 ≤ 400000000) (k5 : -400000000 ≤ S5 ∧ S5 ≤ 400000000) (k6 : -400000000 ≤ S6 ∧ S6 ≤ 400000000) (k7 : -400000000 ≤ S7 ∧ S7 ≤ 400000000) :
    -2199023255552 ≤ F * 1099511627776 - 8 * (514214 * S0 + 435930 * S1 + 291279 * S2 + 102284 * S3 + (-102284) * S4 + (-291279) * S5 + (-435930) * S6 + (-514214) * S7) ∧ F * 1099511627776 - 8 * (514214 * S0 + 435930 * S1 + 291279 * S2 + 102284 * S3 + (-102284) * S4 + (-291279) * S5 + (-435930) * S6 + (-514214) * S7) ≤ 2199023255552 := by
  omega
theorem join2 (F X0 X1 X2 X3 X4 X5 X6 X7 S0 S1 S2 S3 S4 S5 S6 S7 : Int)
    (h : -86000000000000000000 ≤ F * 73786976294838206464 - 759250125 * (484379 * X0 + 200636 * X1 + (-200636) * X2 + (-484379) * X3 + (-484379) * X4 + (-200636) * X5 + 200636 * X6 + 484379 * X7) ∧ F * 73786976294838206464 - 759250125 * (484379 * X0 + 200636 * X1 + (-200636) * X2 + (-484379) * X3 + (-484379) * X4 + (-200636) * X5 + 200636 * X6 + 484379 * X7) ≤ 86000000000000000000)
    (h0 : -23147726241792 ≤ X0 * 1073741824 - 759250125 * S0 ∧ X0 * 1073741824 - 759250125 * S0 ≤ 23147726241792) (h1 : -23147726241792 ≤ X1 * 1073741824 - 759250125 * S1 ∧ X1 * 1073741824 - 759250125 * S1 ≤ 23147726241792) (h2 : -23147726241792 ≤ X2 * 1073741824 - 759250125 * S2 ∧ X2 * 1073741824 - 759250125 * S2 ≤ 23147726241792) (h3 : -23147726241792 ≤ X3 * 1073741824 - 759250125 * S3 ∧ X3 * 1073741824 - 759250125 * S3 ≤ 23147726241792) (h4 : -23147726241792 ≤ X4 * 1073741824 - 759250125 * S4 ∧ X4 * 1073741824 - 759250125 * S4 ≤ 23147726241792) (h5 : -23147726241792 ≤ X5 * 1073741824 - 759250125 * S5 ∧ X5 * 1073741824 - 759250125 * S5 ≤ 23147726241792) (h6 : -23147726241792 ≤ X6 * 1073741824 - 759250125 * S6 ∧ X6 * 1073741824 - 759250125 * S6 ≤ 23147726241792) (h7 : -23147726241792 ≤ X7 * 1073741824 - 759250125 * S7 ∧ X7 * 1073741824 - 759250125 * S7 ≤ 23147726241792) (k0 : -400000000 ≤ S0 ∧ S0 ≤ 400000000) (k1 : -400000000 ≤ S1 ∧ S1 ≤ 400000000) (k2 : -400000000 ≤ S2 ∧ S2 ≤ 400000000) (k3 : -400000000 ≤ S3 ∧ S3 ≤ 400000000) (k4 : -400000000 ≤ S4 ∧ S4 ≤ 400000000) (k5 : -400000000 ≤ S5 ∧ S5 ≤ 400000000) (k6 : -400000000 ≤ S6 ∧ S6 ≤ 400000000) (k7 : -400000000 ≤ S7 ∧ S7 ≤ 400000000) :
    -2199023255552 ≤ F * 1099511627776 - 8 * (484379 * S0 + 200636 * S1 + (-200636) * S2 + (-484379) * S3 + (-484379) * S4 + (-200636) * S5 + 200636 * S6 + 484379 * S7) ∧ F * 1099511627776 - 8 * (484379 * S0 + 200636 * S1 + (-200636) * S2 + (-484379) * S3 + (-484379) * S4 + (-200636) * S5 + 200636 * S6 + 484379 * S7) ≤ 2199023255552 := by
  omega
theorem join3 (F X0 X1 X2 X3 X4 X5 X6 X7 S0 S1 S2 S3 S4 S5 S6 S7 : Int)
    (h : -86000000000000000000 ≤ F * 73786976294838206464 - 759250125 * (435930 * X0 + (-102284) * X1 + (-514214) * X2 + (-291279) * X3 + 291279 * X4 + 514214 * X5 + 102284 * X6 + (-435930) * X7) ∧ F * 73786976294838206464 - 759250125 * (435930 * X0 + (-102284) * X1 + (-514214) * X2 + (-291279) * X3 + 291279 * X4 + 514214 * X5 + 102284 * X6 + (-435930) * X7) ≤ 86000000000000000000)
    (h0 : -23147726241792 ≤ X0 * 1073741824 - 759250125 * S0 ∧ X0 * 1073741824 - 759250125 * S0 ≤ 23147726241792) (h1 : -23147726241792 ≤ X1 * 1073741824 - 759250125 * S1 ∧ X1 * 1073741824 - 759250125 * S1 ≤ 23147726241792) (h2 : -23147726241792 ≤ X2 * 1073741824 - 759250125 * S2 ∧ X2 * 1073741824 - 759250125 * S2 ≤ 23147726241792) (h3 : -23147726241792 ≤ X3 * 1073741824 - 759250125 * S3 ∧ X3 * 1073741824 - 759250125 * S3 ≤ 23147726241792) (h4 : -23147726241792 ≤ X4 * 1073741824 - 759250125 * S4 ∧ X4 * 1073741824 - 759250125 * S4 ≤ 23147726241792) (h5 : -23147726241792 ≤ X5 * 1073741824 - 759250125 * S5 ∧ X5 * 1073741824 - 759250125 * S5 ≤ 23147726241792) (h6 : -23147726241792 ≤ X6 * 1073741824 - 759250125 * S6 ∧ X6 * 1073741824 - 759250125 * S6 ≤ 23147726241792) (h7 : -23147726241792 ≤ X7 * 1073741824 - 759250125 * S7 ∧ X7 * 1073741824 - 759250125 * S7 ≤ 23147726241792) (k0 : -400000000 ≤ S0 ∧ S0 ≤ 400000000) (k1 : -400000000 ≤ S1 ∧ S1 ≤ 400000000) (k2 : -400000000 ≤ S2 ∧ S2 ≤ 400000000) (k3 : -400000000 ≤ S3 ∧ S3 ≤ 400000000) (k4 : -400000000 ≤ S4 ∧ S4 ≤ 400000000) (k5 : -400000000 ≤ S5 ∧ S5 ≤ 400000000) (k6 : -400000000 ≤ S6 ∧ S6 ≤ 400000000) (k7 : -400000000 ≤ S7 ∧ S7 ≤ 400000000) :
    -2199023255552 ≤ F * 1099511627776 - 8 * (435930 * S0 + (-102284) * S1 + (-514214) * S2 + (-291279) * S3 + 291279 * S4 + 514214 * S5 + 102284 * S6 + (-435930) * S7) ∧ F * 1099511627776 - 8 * (435930 * S0 + (-102284) * S1 + (-514214) * S2 + (-291279) * S3 + 291279 * S4 + 514214 * S5 + 102284 * S6 + (-435930) * S7) ≤ 2199023255552 := by
  omega
theorem join4 (F X0 X1 X2 X3 X4 X5 X6 X7 S0 S1 S2 S3 S4 S5 S6 S7 : Int)
    (h : -86000000000000000000 ≤ F * 73786976294838206464 - 759250125 * (370728 * X0 + (-370728) * X1 + (-370728) * X2 + 370728 * X3 + 370728 * X4 + (-370728) * X5 + (-370728) * X6 + 370728 * X7) ∧ F * 73786976294838206464 - 759250125 * (370728 * X0 + (-370728) * X1 + (-370728) * X2 + 370728 * X3 + 370728 * X4 + (-370728) * X5 + (-370728) * X6 + 370728 * X7) ≤ 86000000000000000000)
    (h0 : -23147726241792 ≤ X0 * 1073741824 - 759250125 * S0 ∧ X0 * 1073741824 - 759250125 * S0 ≤ 23147726241792) (h1 : -23147726241792 ≤ X1 * 1073741824 - 759250125 * S1 ∧ X1 * 1073741824 - 759250125 * S1 ≤ 23147726241792) (h2 : -23147726241792 ≤ X2 * 1073741824 - 759250125 * S2 ∧ X2 * 1073741824 - 759250125 * S2 ≤ 23147726241792) (h3 : -23147726241792 ≤ X3 * 1073741824 - 759250125 * S3 ∧ X3 * 1073741824 - 759250125 * S3 ≤ 23147726241792) (h4 : -23147726241792 ≤ X4 * 1073741824 - 759250125 * S4 ∧ X4 * 1073741824 - 759250125 * S4 ≤ 23147726241792) (h5 : -23147726241792 ≤ X5 * 1073741824 - 759250125 * S5 ∧ X5 * 1073741824 - 759250125 * S5 ≤ 23147726241792) (h6 : -23147726241792 ≤ X6 * 1073741824 - 759250125 * S6 ∧ X6 * 1073741824 - 759250125 * S6 ≤ 23147726241792) (h7 : -23147726241792 ≤ X7 * 1073741824 - 759250125 * S7 ∧ X7 * 1073741824 - 759250125 * S7 ≤ 23147726241792) (k0 : -400000000 ≤ S0 ∧ S0 ≤ 400000000) (k1 : -400000000 ≤ S1 ∧ S1 ≤ 400000000) (k2 : -400000000 ≤ S2 ∧ S2 ≤ 400000000) (k3 : -400000000 ≤ S3 ∧ S3 ≤ 400000000) (k4 : -400000000 ≤ S4 ∧ S4 ≤ 400000000) (k5 : -400000000 ≤ S5 ∧ S5 ≤ 400000000) (k6 : -400000000 ≤ S6 ∧ S6 ≤ 400000000) (k7 : -400000000 ≤ S7 ∧ S7 ≤ 400000000) :
    -2199023255552 ≤ F * 1099511627776 - 8 * (370728 * S0 + (-370728) * S1 + (-370728) * S2 + 370728 * S3 + 370728 * S4 + (-370728) * S5 + (-370728) * S6 + 370728 * S7) ∧ F * 1099511627776 - 8 * (370728 * S0 + (-370728) * S1 + (-370728) * S2 + 370728 * S3 + 370728 * S4 + (-370728) * S5 + (-370728) * S6 + 370728 * S7) ≤ 2199023255552 := by
  omega
theorem join5 (F X0 X1 X2 X3 X4 X5 X6 X7 S0 S1 S2 S3 S4 S5 S6 S7 : Int)
    (h : -86000000000000000000 ≤ F * 73786976294838206464 - 759250125 * (291279 * X0 + (-514214) * X1 + 102284 * X2 + 435930 * X3 + (-435930) * X4 + (-102284) * X5 + 514214 * X6 + (-291279) * X7) ∧ F * 73786976294838206464 - 759250125 * (291279 * X0 + (-514214) * X1 + 102284 * X2 + 435930 * X3 + (-435930) * X4 + (-102284) * X5 + 514214 * X6 + (-291279) * X7) ≤ 86000000000000000000)
    (h0 : -23147726241792 ≤ X0 * 1073741824 - 759250125 * S0 ∧ X0 * 1073741824 - 759250125 * S0 ≤ 23147726241792) (h1 : -23147726241792 ≤ X1 * 1073741824 - 759250125 * S1 ∧ X1 * 1073741824 - 759250125 * S1 ≤ 23147726241792) (h2 : -23147726241792 ≤ X2 * 1073741824 - 759250125 * S2 ∧ X2 * 1073741824 - 759250125 * S2 ≤ 23147726241792) (h3 : -23147726241792 ≤ X3 * 1073741824 - 759250125 * S3 ∧ X3 * 1073741824 - 759250125 * S3 ≤ 23147726241792) (h4 : -23147726241792 ≤ X4 * 1073741824 - 759250125 * S4 ∧ X4 * 1073741824 - 759250125 * S4 ≤ 23147726241792) (h5 : -23147726241792 ≤ X5 * 1073741824 - 759250125 * S5 ∧ X5 * 1073741824 - 759250125 * S5 ≤ 23147726241792) (h6 : -23147726241792 ≤ X6 * 1073741824 - 759250125 * S6 ∧ X6 * 1073741824 - 759250125 * S6 ≤ 23147726241792) (h7 : -23147726241792 ≤ X7 * 1073741824 - 759250125 * S7 ∧ X7 * 1073741824 - 759250125 * S7 ≤ 23147726241792) (k0 : -400000000 ≤ S0 ∧ S0 ≤ 400000000) (k1 : -400000000 ≤ S1 ∧ S1 ≤ 400000000) (k2 : -400000000 ≤ S2 ∧ S2 ≤ 400000000) (k3 : -400000000 ≤ S3 ∧ S3 ≤ 400000000) (k4 : -400000000 ≤ S4 ∧ S4 ≤ 400000000) (k5 : -400000000 ≤ S5 ∧ S5 ≤ 400000000) (k6 : -400000000 ≤ S6 ∧ S6 ≤ 400000000) (k7 : -400000000 ≤ S7 ∧ S7 ≤ 400000000) :
    -2199023255552 ≤ F * 1099511627776 - 8 * (291279 * S0 + (-514214) * S1 + 102284 * S2 + 435930 * S3 + (-435930) * S4 + (-102284) * S5 + 514214 * S6 + (-291279) * S7) ∧ F * 1099511627776 - 8 * (291279 * S0 + (-514214) * S1 + 102284 * S2 + 435930 * S3 + (-435930) * S4 + (-102284) * S5 + 514214 * S6 + (-291279) * S7) ≤ 2199023255552 := by
  omega
theorem join6 (F X0 X1 X2 X3 X4 X5 X6 X7 S0 S1 S2 S3 S4 S5 S6 S7 : Int)
    (h : -86000000000000000000 ≤ F * 73786976294838206464 - 759250125 * (200636 * X0 + (-484379) * X1 + 484379 * X2 + (-200636) * X3 + (-200636) * X4 + 484379 * X5 + (-484379) * X6 + 200636 * X7) ∧ F * 73786976294838206464 - 759250125 * (200636 * X0 + (-484379) * X1 + 484379 * X2 + (-200636) * X3 + (-200636) * X4 + 484379 * X5 + (-484379) * X6 + 200636 * X7) ≤ 86000000000000000000)
    (h0 : -23147726241792 ≤ X0 * 1073741824 - 759250125 * S0 ∧ X0 * 1073741824 - 759250125 * S0 ≤ 23147726241792) (h1 : -23147726241792 ≤ X1 * 1073741824 - 759250125 * S1 ∧ X1 * 1073741824 - 759250125 * S1 ≤ 23147726241792) (h2 : -23147726241792 ≤ X2 * 1073741824 - 759250125 * S2 ∧ X2 * 1073741824 - 759250125 * S2 ≤ 23147726241792) (h3 : -23147726241792 ≤ X3 * 1073741824 - 759250125 * S3 ∧ X3 * 1073741824 - 759250125 * S3 ≤ 23147726241792) (h4 : -23147726241792 ≤ X4 * 1073741824 - 759250125 * S4 ∧ X4 * 1073741824 - 759250125 * S4 ≤ 23147726241792) (h5 : -23147726241792 ≤ X5 * 1073741824 - 759250125 * S5 ∧ X5 * 1073741824 - 759250125 * S5 ≤ 23147726241792) (h6 : -23147726241792 ≤ X6 * 1073741824 - 759250125 * S6 ∧ X6 * 1073741824 - 759250125 * S6 ≤ 23147726241792) (h7 : -23147726241792 ≤ X7 * 1073741824 - 759250125 * S7 ∧ X7 * 1073741824 - 759250125 * S7 ≤ 23147726241792) (k0 : -400000000 ≤ S0 ∧ S0 ≤ 400000000) (k1 : -400000000 ≤ S1 ∧ S1 ≤ 400000000) (k2 : -400000000 ≤ S2 ∧ S2 ≤ 400000000) (k3 : -400000000 ≤ S3 ∧ S3 ≤ 400000000) (k4 : -400000000 ≤ S4 ∧ S4 ≤ 400000000) (k5 : -400000000 ≤ S5 ∧ S5 ≤ 400000000) (k6 : -400000000 ≤ S6 ∧ S6 ≤ 400000000) (k7 : -400000000 ≤ S7 ∧ S7 ≤ 400000000) :
    -2199023255552 ≤ F * 1099511627776 - 8 * (200636 * S0 + (-484379) * S1 + 484379 * S2 + (-200636) * S3 + (-200636) * S4 + 484379 * S5 + (-484379) * S6 + 200636 * S7) ∧ F * 1099511627776 - 8 * (200636 * S0 + (-484379) * S1 + 484379 * S2 + (-200636) * S3 + (-200636) * S4 + 484379 * S5 + (-484379) * S6 + 200636 * S7) ≤ 2199023255552 := by
  omega
theorem join7 (F X0 X1 X2 X3 X4 X5 X6 X7 S0 S1 S2 S3 S4 S5 S6 S7 : Int)
    (h : -86000000000000000000 ≤ F * 73786976294838206464 - 759250125 * (102284 * X0 + (-291279) * X1 + 435930 * X2 + (-514214) * X3 + 514214 * X4 + (-435930) * X5 + 291279 * X6 + (-102284) * X7) ∧ F * 73786976294838206464 - 759250125 * (102284 * X0 + (-291279) * X1 + 435930 * X2 + (-514214) * X3 + 514214 * X4 + (-435930) * X5 + 291279 * X6 + (-102284) * X7) ≤ 86000000000000000000)
    (h0 : -23147726241792 ≤ X0 * 1073741824 - 759250125 * S0 ∧ X0 * 1073741824 - 759250125 * S0 ≤ 23147726241792) (h1 : -23147726241792 ≤ X1 * 1073741824 - 759250125 * S1 ∧ X1 * 1073741824 - 759250125 * S1 ≤ 23147726241792) (h2 : -23147726241792 ≤ X2 * 1073741824 - 759250125 * S2 ∧ X2 * 1073741824 - 759250125 * S2 ≤ 23147726241792) (h3 : -23147726241792 ≤ X3 * 1073741824 - 759250125 * S3 ∧ X3 * 1073741824 - 759250125 * S3 ≤ 23147726241792) (h4 : -23147726241792 ≤ X4 * 1073741824 - 759250125 * S4 ∧ X4 * 1073741824 - 759250125 * S4 ≤ 23147726241792) (h5 : -23147726241792 ≤ X5 * 1073741824 - 759250125 * S5 ∧ X5 * 1073741824 - 759250125 * S5 ≤ 23147726241792) (h6 : -23147726241792 ≤ X6 * 1073741824 - 759250125 * S6 ∧ X6 * 1073741824 - 759250125 * S6 ≤ 23147726241792) (h7 : -23147726241792 ≤ X7 * 1073741824 - 759250125 * S7 ∧ X7 * 1073741824 - 759250125 * S7 ≤ 23147726241792) (k0 : -400000000 ≤ S0 ∧ S0 ≤ 400000000) (k1 : -400000000 ≤ S1 ∧ S1 ≤ 400000000) (k2 : -400000000 ≤ S2 ∧ S2 ≤ 400000000) (k3 : -400000000 ≤ S3 ∧ S3 ≤ 400000000) (k4 : -400000000 ≤ S4 ∧ S4 ≤ 400000000) (k5 : -400000000 ≤ S5 ∧ S5 ≤ 400000000) (k6 : -400000000 ≤ S6 ∧ S6 ≤ 400000000) (k7 : -400000000 ≤ S7 ∧ S7 ≤ 400000000) :
    -2199023255552 ≤ F * 1099511627776 - 8 * (102284 * S0 + (-291279) * S1 + 435930 * S2 + (-514214) * S3 + 514214 * S4 + (-435930) * S5 + 291279 * S6 + (-102284) * S7) ∧ F * 1099511627776 - 8 * (102284 * S0 + (-291279) * S1 + 435930 * S2 + (-514214) * S3 + 514214 * S4 + (-435930) * S5 + 291279 * S6 + (-102284) * S7) ≤ 2199023255552 := by
  omega
/-- The exact sum of both. -/
def exact2 (f : Nat → Int) (v u : Nat) : Int := bN (0 * 8 + u) * colSum f v 0 + bN (1 * 8 + u) * colSum f v 1 + bN (2 * 8 + u) * colSum f v 2 + bN (3 * 8 + u) * colSum f v 3 + bN (4 * 8 + u) * colSum f v 4 + bN (5 * 8 + u) * colSum f v 5 + bN (6 * 8 + u) * colSum f v 6 + bN (7 * 8 + u) * colSum f v 7
theorem both_near (f : Nat → Int) (hf : ∀ j, 0 ≤ f j ∧ f j ≤ 255) (v u : Nat) (hv : v < 8) (hu : u < 8) :
    -2199023255552 ≤ frows (fcols f) (8 * v + u) * 1099511627776 - 8 * exact2 f v u ∧ frows (fcols f) (8 * v + u) * 1099511627776 - 8 * exact2 f v u ≤ 2199023255552 := by
  have e : frows (fcols f) (8 * v + u) = frow u (fcols f (8 * v + 0)) (fcols f (8 * v + 1)) (fcols f (8 * v + 2)) (fcols f (8 * v + 3)) (fcols f (8 * v + 4)) (fcols f (8 * v + 5)) (fcols f (8 * v + 6)) (fcols f (8 * v + 7)) := by
    simp only [frows]
    rw [show (8 * v + u) / 8 = v by omega, show (8 * v + u) % 8 = u by omega]
    rfl
  rw [e]
  unfold exact2
  have h0 := col_near f hf v 0 hv (by omega)
  have h1 := col_near f hf v 1 hv (by omega)
  have h2 := col_near f hf v 2 hv (by omega)
  have h3 := col_near f hf v 3 hv (by omega)
  have h4 := col_near f hf v 4 hv (by omega)
  have h5 := col_near f hf v 5 hv (by omega)
  have h6 := col_near f hf v 6 hv (by omega)
  have h7 := col_near f hf v 7 hv (by omega)
  generalize fcols f (8 * v + 0) = X0 at *
  generalize fcols f (8 * v + 1) = X1 at *
  generalize fcols f (8 * v + 2) = X2 at *
  generalize fcols f (8 * v + 3) = X3 at *
  generalize fcols f (8 * v + 4) = X4 at *
  generalize fcols f (8 * v + 5) = X5 at *
  generalize fcols f (8 * v + 6) = X6 at *
  generalize fcols f (8 * v + 7) = X7 at *
  generalize colSum f v 0 = S0 at *
  generalize colSum f v 1 = S1 at *
  generalize colSum f v 2 = S2 at *
  generalize colSum f v 3 = S3 at *
  generalize colSum f v 4 = S4 at *
  generalize colSum f v 5 = S5 at *
  generalize colSum f v 6 = S6 at *
  generalize colSum f v 7 = S7 at *
  obtain ⟨a0, b0, c0⟩ := h0
  obtain ⟨a1, b1, c1⟩ := h1
  obtain ⟨a2, b2, c2⟩ := h2
  obtain ⟨a3, b3, c3⟩ := h3
  obtain ⟨a4, b4, c4⟩ := h4
  obtain ⟨a5, b5, c5⟩ := h5
  obtain ⟨a6, b6, c6⟩ := h6
  obtain ⟨a7, b7, c7⟩ := h7
  clear e
  obtain rfl | rfl | rfl | rfl | rfl | rfl | rfl | rfl : u = 0 ∨ u = 1 ∨ u = 2 ∨ u = 3 ∨ u = 4 ∨ u = 5 ∨ u = 6 ∨ u = 7 := by omega
  · rw [show bN (0 * 8 + 0) = 370728 from rfl, show bN (1 * 8 + 0) = 370728 from rfl, show bN (2 * 8 + 0) = 370728 from rfl, show bN (3 * 8 + 0) = 370728 from rfl, show bN (4 * 8 + 0) = 370728 from rfl, show bN (5 * 8 + 0) = 370728 from rfl, show bN (6 * 8 + 0) = 370728 from rfl, show bN (7 * 8 + 0) = 370728 from rfl]
    exact join0 _ _ _ _ _ _ _ _ _ _ _ _ _ _ _ _ _ (frow0_near _ _ _ _ _ _ _ _ c0 c1 c2 c3 c4 c5 c6 c7) ⟨a0, b0⟩ ⟨a1, b1⟩ ⟨a2, b2⟩ ⟨a3, b3⟩ ⟨a4, b4⟩ ⟨a5, b5⟩ ⟨a6, b6⟩ ⟨a7, b7⟩ ⟨by omega, by omega⟩ ⟨by omega, by omega⟩ ⟨by omega, by omega⟩ ⟨by omega, by omega⟩ ⟨by omega, by omega⟩ ⟨by omega, by omega⟩ ⟨by omega, by omega⟩ ⟨by omega, by omega⟩
  · rw [show bN (0 * 8 + 1) = 514214 from rfl, show bN (1 * 8 + 1) = 435930 from rfl, show bN (2 * 8 + 1) = 291279 from rfl, show bN (3 * 8 + 1) = 102284 from rfl, show bN (4 * 8 + 1) = (-102284) from rfl, show bN (5 * 8 + 1) = (-291279) from rfl, show bN (6 * 8 + 1) = (-435930) from rfl, show bN (7 * 8 + 1) = (-514214) from rfl]
    exact join1 _ _ _ _ _ _ _ _ _ _ _ _ _ _ _ _ _ (frow1_near _ _ _ _ _ _ _ _ c0 c1 c2 c3 c4 c5 c6 c7) ⟨a0, b0⟩ ⟨a1, b1⟩ ⟨a2, b2⟩ ⟨a3, b3⟩ ⟨a4, b4⟩ ⟨a5, b5⟩ ⟨a6, b6⟩ ⟨a7, b7⟩ ⟨by omega, by omega⟩ ⟨by omega, by omega⟩ ⟨by omega, by omega⟩ ⟨by omega, by omega⟩ ⟨by omega, by omega⟩ ⟨by omega, by omega⟩ ⟨by omega, by omega⟩ ⟨by omega, by omega⟩
  · rw [show bN (0 * 8 + 2) = 484379 from rfl, show bN (1 * 8 + 2) = 200636 from rfl, show bN (2 * 8 + 2) = (-200636) from rfl, show bN (3 * 8 + 2) = (-484379) from rfl, show bN (4 * 8 + 2) = (-484379) from rfl, show bN (5 * 8 + 2) = (-200636) from rfl, show bN (6 * 8 + 2) = 200636 from rfl, show bN (7 * 8 + 2) = 484379 from rfl]
    exact join2 _ _ _ _ _ _ _ _ _ _ _ _ _ _ _ _ _ (frow2_near _ _ _ _ _ _ _ _ c0 c1 c2 c3 c4 c5 c6 c7) ⟨a0, b0⟩ ⟨a1, b1⟩ ⟨a2, b2⟩ ⟨a3, b3⟩ ⟨a4, b4⟩ ⟨a5, b5⟩ ⟨a6, b6⟩ ⟨a7, b7⟩ ⟨by omega, by omega⟩ ⟨by omega, by omega⟩ ⟨by omega, by omega⟩ ⟨by omega, by omega⟩ ⟨by omega, by omega⟩ ⟨by omega, by omega⟩ ⟨by omega, by omega⟩ ⟨by omega, by omega⟩
  · rw [show bN (0 * 8 + 3) = 435930 from rfl, show bN (1 * 8 + 3) = (-102284) from rfl, show bN (2 * 8 + 3) = (-514214) from rfl, show bN (3 * 8 + 3) = (-291279) from rfl, show bN (4 * 8 + 3) = 291279 from rfl, show bN (5 * 8 + 3) = 514214 from rfl, show bN (6 * 8 + 3) = 102284 from rfl, show bN (7 * 8 + 3) = (-435930) from rfl]
    exact join3 _ _ _ _ _ _ _ _ _ _ _ _ _ _ _ _ _ (frow3_near _ _ _ _ _ _ _ _ c0 c1 c2 c3 c4 c5 c6 c7) ⟨a0, b0⟩ ⟨a1, b1⟩ ⟨a2, b2⟩ ⟨a3, b3⟩ ⟨a4, b4⟩ ⟨a5, b5⟩ ⟨a6, b6⟩ ⟨a7, b7⟩ ⟨by omega, by omega⟩ ⟨by omega, by omega⟩ ⟨by omega, by omega⟩ ⟨by omega, by omega⟩ ⟨by omega, by omega⟩ ⟨by omega, by omega⟩ ⟨by omega, by omega⟩ ⟨by omega, by omega⟩
  · rw [show bN (0 * 8 + 4) = 370728 from rfl, show bN (1 * 8 + 4) = (-370728) from rfl, show bN (2 * 8 + 4) = (-370728) from rfl, show bN (3 * 8 + 4) = 370728 from rfl, show bN (4 * 8 + 4) = 370728 from rfl, show bN (5 * 8 + 4) = (-370728) from rfl, show bN (6 * 8 + 4) = (-370728) from rfl, show bN (7 * 8 + 4) = 370728 from rfl]
    exact join4 _ _ _ _ _ _ _ _ _ _ _ _ _ _ _ _ _ (frow4_near _ _ _ _ _ _ _ _ c0 c1 c2 c3 c4 c5 c6 c7) ⟨a0, b0⟩ ⟨a1, b1⟩ ⟨a2, b2⟩ ⟨a3, b3⟩ ⟨a4, b4⟩ ⟨a5, b5⟩ ⟨a6, b6⟩ ⟨a7, b7⟩ ⟨by omega, by omega⟩ ⟨by omega, by omega⟩ ⟨by omega, by omega⟩ ⟨by omega, by omega⟩ ⟨by omega, by omega⟩ ⟨by omega, by omega⟩ ⟨by omega, by omega⟩ ⟨by omega, by omega⟩
  · rw [show bN (0 * 8 + 5) = 291279 from rfl, show bN (1 * 8 + 5) = (-514214) from rfl, show bN (2 * 8 + 5) = 102284 from rfl, show bN (3 * 8 + 5) = 435930 from rfl, show bN (4 * 8 + 5) = (-435930) from rfl, show bN (5 * 8 + 5) = (-102284) from rfl, show bN (6 * 8 + 5) = 514214 from rfl, show bN (7 * 8 + 5) = (-291279) from rfl]
    exact join5 _ _ _ _ _ _ _ _ _ _ _ _ _ _ _ _ _ (frow5_near _ _ _ _ _ _ _ _ c0 c1 c2 c3 c4 c5 c6 c7) ⟨a0, b0⟩ ⟨a1, b1⟩ ⟨a2, b2⟩ ⟨a3, b3⟩ ⟨a4, b4⟩ ⟨a5, b5⟩ ⟨a6, b6⟩ ⟨a7, b7⟩ ⟨by omega, by omega⟩ ⟨by omega, by omega⟩ ⟨by omega, by omega⟩ ⟨by omega, by omega⟩ ⟨by omega, by omega⟩ ⟨by omega, by omega⟩ ⟨by omega, by omega⟩ ⟨by omega, by omega⟩
  · rw [show bN (0 * 8 + 6) = 200636 from rfl, show bN (1 * 8 + 6) = (-484379) from rfl, show bN (2 * 8 + 6) = 484379 from rfl, show bN (3 * 8 + 6) = (-200636) from rfl, show bN (4 * 8 + 6) = (-200636) from rfl, show bN (5 * 8 + 6) = 484379 from rfl, show bN (6 * 8 + 6) = (-484379) from rfl, show bN (7 * 8 + 6) = 200636 from rfl]
    exact join6 _ _ _ _ _ _ _ _ _ _ _ _ _ _ _ _ _ (frow6_near _ _ _ _ _ _ _ _ c0 c1 c2 c3 c4 c5 c6 c7) ⟨a0, b0⟩ ⟨a1, b1⟩ ⟨a2, b2⟩ ⟨a3, b3⟩ ⟨a4, b4⟩ ⟨a5, b5⟩ ⟨a6, b6⟩ ⟨a7, b7⟩ ⟨by omega, by omega⟩ ⟨by omega, by omega⟩ ⟨by omega, by omega⟩ ⟨by omega, by omega⟩ ⟨by omega, by omega⟩ ⟨by omega, by omega⟩ ⟨by omega, by omega⟩ ⟨by omega, by omega⟩
  · rw [show bN (0 * 8 + 7) = 102284 from rfl, show bN (1 * 8 + 7) = (-291279) from rfl, show bN (2 * 8 + 7) = 435930 from rfl, show bN (3 * 8 + 7) = (-514214) from rfl, show bN (4 * 8 + 7) = 514214 from rfl, show bN (5 * 8 + 7) = (-435930) from rfl, show bN (6 * 8 + 7) = 291279 from rfl, show bN (7 * 8 + 7) = (-102284) from rfl]
    exact join7 _ _ _ _ _ _ _ _ _ _ _ _ _ _ _ _ _ (frow7_near _ _ _ _ _ _ _ _ c0 c1 c2 c3 c4 c5 c6 c7) ⟨a0, b0⟩ ⟨a1, b1⟩ ⟨a2, b2⟩ ⟨a3, b3⟩ ⟨a4, b4⟩ ⟨a5, b5⟩ ⟨a6, b6⟩ ⟨a7, b7⟩ ⟨by omega, by omega⟩ ⟨by omega, by omega⟩ ⟨by omega, by omega⟩ ⟨by omega, by omega⟩ ⟨by omega, by omega⟩ ⟨by omega, by omega⟩ ⟨by omega, by omega⟩ ⟨by omega, by omega⟩
theorem colB0 (d0 d1 d2 d3 d4 d5 d6 d7 : Int) (h0 : -128 ≤ d0 ∧ d0 ≤ 127) (h1 : -128 ≤ d1 ∧ d1 ≤ 127) (h2 : -128 ≤ d2 ∧ d2 ≤ 127) (h3 : -128 ≤ d3 ∧ d3 ≤ 127) (h4 : -128 ≤ d4 ∧ d4 ≤ 127) (h5 : -128 ≤ d5 ∧ d5 ≤ 127) (h6 : -128 ≤ d6 ∧ d6 ≤ 127) (h7 : -128 ≤ d7 ∧ d7 ≤ 127) : (-379625472) ≤ 370728 * d0 + 370728 * d1 + 370728 * d2 + 370728 * d3 + 370728 * d4 + 370728 * d5 + 370728 * d6 + 370728 * d7 ∧ 370728 * d0 + 370728 * d1 + 370728 * d2 + 370728 * d3 + 370728 * d4 + 370728 * d5 + 370728 * d6 + 370728 * d7 ≤ 376659648 := by omega
theorem colB1 (d0 d1 d2 d3 d4 d5 d6 d7 : Int) (h0 : -128 ≤ d0 ∧ d0 ≤ 127) (h1 : -128 ≤ d1 ∧ d1 ≤ 127) (h2 : -128 ≤ d2 ∧ d2 ≤ 127) (h3 : -128 ≤ d3 ∧ d3 ≤ 127) (h4 : -128 ≤ d4 ∧ d4 ≤ 127) (h5 : -128 ≤ d5 ∧ d5 ≤ 127) (h6 : -128 ≤ d6 ∧ d6 ≤ 127) (h7 : -128 ≤ d7 ∧ d7 ≤ 127) : (-342645285) ≤ 514214 * d0 + 435930 * d1 + 291279 * d2 + 102284 * d3 + (-102284) * d4 + (-291279) * d5 + (-435930) * d6 + (-514214) * d7 ∧ 514214 * d0 + 435930 * d1 + 291279 * d2 + 102284 * d3 + (-102284) * d4 + (-291279) * d5 + (-435930) * d6 + (-514214) * d7 ≤ 342645285 := by omega
theorem colB2 (d0 d1 d2 d3 d4 d5 d6 d7 : Int) (h0 : -128 ≤ d0 ∧ d0 ≤ 127) (h1 : -128 ≤ d1 ∧ d1 ≤ 127) (h2 : -128 ≤ d2 ∧ d2 ≤ 127) (h3 : -128 ≤ d3 ∧ d3 ≤ 127) (h4 : -128 ≤ d4 ∧ d4 ≤ 127) (h5 : -128 ≤ d5 ∧ d5 ≤ 127) (h6 : -128 ≤ d6 ∧ d6 ≤ 127) (h7 : -128 ≤ d7 ∧ d7 ≤ 127) : (-349357650) ≤ 484379 * d0 + 200636 * d1 + (-200636) * d2 + (-484379) * d3 + (-484379) * d4 + (-200636) * d5 + 200636 * d6 + 484379 * d7 ∧ 484379 * d0 + 200636 * d1 + (-200636) * d2 + (-484379) * d3 + (-484379) * d4 + (-200636) * d5 + 200636 * d6 + 484379 * d7 ≤ 349357650 := by omega
theorem colB3 (d0 d1 d2 d3 d4 d5 d6 d7 : Int) (h0 : -128 ≤ d0 ∧ d0 ≤ 127) (h1 : -128 ≤ d1 ∧ d1 ≤ 127) (h2 : -128 ≤ d2 ∧ d2 ≤ 127) (h3 : -128 ≤ d3 ∧ d3 ≤ 127) (h4 : -128 ≤ d4 ∧ d4 ≤ 127) (h5 : -128 ≤ d5 ∧ d5 ≤ 127) (h6 : -128 ≤ d6 ∧ d6 ≤ 127) (h7 : -128 ≤ d7 ∧ d7 ≤ 127) : (-342645285) ≤ 435930 * d0 + (-102284) * d1 + (-514214) * d2 + (-291279) * d3 + 291279 * d4 + 514214 * d5 + 102284 * d6 + (-435930) * d7 ∧ 435930 * d0 + (-102284) * d1 + (-514214) * d2 + (-291279) * d3 + 291279 * d4 + 514214 * d5 + 102284 * d6 + (-435930) * d7 ≤ 342645285 := by omega
theorem colB4 (d0 d1 d2 d3 d4 d5 d6 d7 : Int) (h0 : -128 ≤ d0 ∧ d0 ≤ 127) (h1 : -128 ≤ d1 ∧ d1 ≤ 127) (h2 : -128 ≤ d2 ∧ d2 ≤ 127) (h3 : -128 ≤ d3 ∧ d3 ≤ 127) (h4 : -128 ≤ d4 ∧ d4 ≤ 127) (h5 : -128 ≤ d5 ∧ d5 ≤ 127) (h6 : -128 ≤ d6 ∧ d6 ≤ 127) (h7 : -128 ≤ d7 ∧ d7 ≤ 127) : (-378142560) ≤ 370728 * d0 + (-370728) * d1 + (-370728) * d2 + 370728 * d3 + 370728 * d4 + (-370728) * d5 + (-370728) * d6 + 370728 * d7 ∧ 370728 * d0 + (-370728) * d1 + (-370728) * d2 + 370728 * d3 + 370728 * d4 + (-370728) * d5 + (-370728) * d6 + 370728 * d7 ≤ 378142560 := by omega
theorem colB5 (d0 d1 d2 d3 d4 d5 d6 d7 : Int) (h0 : -128 ≤ d0 ∧ d0 ≤ 127) (h1 : -128 ≤ d1 ∧ d1 ≤ 127) (h2 : -128 ≤ d2 ∧ d2 ≤ 127) (h3 : -128 ≤ d3 ∧ d3 ≤ 127) (h4 : -128 ≤ d4 ∧ d4 ≤ 127) (h5 : -128 ≤ d5 ∧ d5 ≤ 127) (h6 : -128 ≤ d6 ∧ d6 ≤ 127) (h7 : -128 ≤ d7 ∧ d7 ≤ 127) : (-342645285) ≤ 291279 * d0 + (-514214) * d1 + 102284 * d2 + 435930 * d3 + (-435930) * d4 + (-102284) * d5 + 514214 * d6 + (-291279) * d7 ∧ 291279 * d0 + (-514214) * d1 + 102284 * d2 + 435930 * d3 + (-435930) * d4 + (-102284) * d5 + 514214 * d6 + (-291279) * d7 ≤ 342645285 := by omega
theorem colB6 (d0 d1 d2 d3 d4 d5 d6 d7 : Int) (h0 : -128 ≤ d0 ∧ d0 ≤ 127) (h1 : -128 ≤ d1 ∧ d1 ≤ 127) (h2 : -128 ≤ d2 ∧ d2 ≤ 127) (h3 : -128 ≤ d3 ∧ d3 ≤ 127) (h4 : -128 ≤ d4 ∧ d4 ≤ 127) (h5 : -128 ≤ d5 ∧ d5 ≤ 127) (h6 : -128 ≤ d6 ∧ d6 ≤ 127) (h7 : -128 ≤ d7 ∧ d7 ≤ 127) : (-349357650) ≤ 200636 * d0 + (-484379) * d1 + 484379 * d2 + (-200636) * d3 + (-200636) * d4 + 484379 * d5 + (-484379) * d6 + 200636 * d7 ∧ 200636 * d0 + (-484379) * d1 + 484379 * d2 + (-200636) * d3 + (-200636) * d4 + 484379 * d5 + (-484379) * d6 + 200636 * d7 ≤ 349357650 := by omega
theorem colB7 (d0 d1 d2 d3 d4 d5 d6 d7 : Int) (h0 : -128 ≤ d0 ∧ d0 ≤ 127) (h1 : -128 ≤ d1 ∧ d1 ≤ 127) (h2 : -128 ≤ d2 ∧ d2 ≤ 127) (h3 : -128 ≤ d3 ∧ d3 ≤ 127) (h4 : -128 ≤ d4 ∧ d4 ≤ 127) (h5 : -128 ≤ d5 ∧ d5 ≤ 127) (h6 : -128 ≤ d6 ∧ d6 ≤ 127) (h7 : -128 ≤ d7 ∧ d7 ≤ 127) : (-342645285) ≤ 102284 * d0 + (-291279) * d1 + 435930 * d2 + (-514214) * d3 + 514214 * d4 + (-435930) * d5 + 291279 * d6 + (-102284) * d7 ∧ 102284 * d0 + (-291279) * d1 + 435930 * d2 + (-514214) * d3 + 514214 * d4 + (-435930) * d5 + 291279 * d6 + (-102284) * d7 ≤ 342645285 := by omega
/-- The exact sum of a column is small. -/
theorem colSum_in (f : Nat → Int) (hf : ∀ j, 0 ≤ f j ∧ f j ≤ 255) (v x : Nat) (hv : v < 8) : (v = 0 → -379625472 ≤ colSum f v x ∧ colSum f v x ≤ 376659648) ∧ (v ≠ 0 → -378142560 ≤ colSum f v x ∧ colSum f v x ≤ 378142560) := by
  unfold colSum
  have h0 := hf (8 * 0 + x)
  have h1 := hf (8 * 1 + x)
  have h2 := hf (8 * 2 + x)
  have h3 := hf (8 * 3 + x)
  have h4 := hf (8 * 4 + x)
  have h5 := hf (8 * 5 + x)
  have h6 := hf (8 * 6 + x)
  have h7 := hf (8 * 7 + x)
  generalize f (8 * 0 + x) = e0 at *
  generalize f (8 * 1 + x) = e1 at *
  generalize f (8 * 2 + x) = e2 at *
  generalize f (8 * 3 + x) = e3 at *
  generalize f (8 * 4 + x) = e4 at *
  generalize f (8 * 5 + x) = e5 at *
  generalize f (8 * 6 + x) = e6 at *
  generalize f (8 * 7 + x) = e7 at *
  obtain rfl | rfl | rfl | rfl | rfl | rfl | rfl | rfl : v = 0 ∨ v = 1 ∨ v = 2 ∨ v = 3 ∨ v = 4 ∨ v = 5 ∨ v = 6 ∨ v = 7 := by omega
  · rw [show bN (0 * 8 + 0) = 370728 from rfl, show bN (1 * 8 + 0) = 370728 from rfl, show bN (2 * 8 + 0) = 370728 from rfl, show bN (3 * 8 + 0) = 370728 from rfl, show bN (4 * 8 + 0) = 370728 from rfl, show bN (5 * 8 + 0) = 370728 from rfl, show bN (6 * 8 + 0) = 370728 from rfl, show bN (7 * 8 + 0) = 370728 from rfl]
    have h := colB0 (e0 - 128) (e1 - 128) (e2 - 128) (e3 - 128) (e4 - 128) (e5 - 128) (e6 - 128) (e7 - 128) ⟨by omega, by omega⟩ ⟨by omega, by omega⟩ ⟨by omega, by omega⟩ ⟨by omega, by omega⟩ ⟨by omega, by omega⟩ ⟨by omega, by omega⟩ ⟨by omega, by omega⟩ ⟨by omega, by omega⟩
    exact ⟨fun _ => ⟨by omega, by omega⟩, fun h => absurd rfl h⟩
  · rw [show bN (0 * 8 + 1) = 514214 from rfl, show bN (1 * 8 + 1) = 435930 from rfl, show bN (2 * 8 + 1) = 291279 from rfl, show bN (3 * 8 + 1) = 102284 from rfl, show bN (4 * 8 + 1) = (-102284) from rfl, show bN (5 * 8 + 1) = (-291279) from rfl, show bN (6 * 8 + 1) = (-435930) from rfl, show bN (7 * 8 + 1) = (-514214) from rfl]
    have h := colB1 (e0 - 128) (e1 - 128) (e2 - 128) (e3 - 128) (e4 - 128) (e5 - 128) (e6 - 128) (e7 - 128) ⟨by omega, by omega⟩ ⟨by omega, by omega⟩ ⟨by omega, by omega⟩ ⟨by omega, by omega⟩ ⟨by omega, by omega⟩ ⟨by omega, by omega⟩ ⟨by omega, by omega⟩ ⟨by omega, by omega⟩
    exact ⟨fun h => absurd h (by decide), fun _ => ⟨by omega, by omega⟩⟩
  · rw [show bN (0 * 8 + 2) = 484379 from rfl, show bN (1 * 8 + 2) = 200636 from rfl, show bN (2 * 8 + 2) = (-200636) from rfl, show bN (3 * 8 + 2) = (-484379) from rfl, show bN (4 * 8 + 2) = (-484379) from rfl, show bN (5 * 8 + 2) = (-200636) from rfl, show bN (6 * 8 + 2) = 200636 from rfl, show bN (7 * 8 + 2) = 484379 from rfl]
    have h := colB2 (e0 - 128) (e1 - 128) (e2 - 128) (e3 - 128) (e4 - 128) (e5 - 128) (e6 - 128) (e7 - 128) ⟨by omega, by omega⟩ ⟨by omega, by omega⟩ ⟨by omega, by omega⟩ ⟨by omega, by omega⟩ ⟨by omega, by omega⟩ ⟨by omega, by omega⟩ ⟨by omega, by omega⟩ ⟨by omega, by omega⟩
    exact ⟨fun h => absurd h (by decide), fun _ => ⟨by omega, by omega⟩⟩
  · rw [show bN (0 * 8 + 3) = 435930 from rfl, show bN (1 * 8 + 3) = (-102284) from rfl, show bN (2 * 8 + 3) = (-514214) from rfl, show bN (3 * 8 + 3) = (-291279) from rfl, show bN (4 * 8 + 3) = 291279 from rfl, show bN (5 * 8 + 3) = 514214 from rfl, show bN (6 * 8 + 3) = 102284 from rfl, show bN (7 * 8 + 3) = (-435930) from rfl]
    have h := colB3 (e0 - 128) (e1 - 128) (e2 - 128) (e3 - 128) (e4 - 128) (e5 - 128) (e6 - 128) (e7 - 128) ⟨by omega, by omega⟩ ⟨by omega, by omega⟩ ⟨by omega, by omega⟩ ⟨by omega, by omega⟩ ⟨by omega, by omega⟩ ⟨by omega, by omega⟩ ⟨by omega, by omega⟩ ⟨by omega, by omega⟩
    exact ⟨fun h => absurd h (by decide), fun _ => ⟨by omega, by omega⟩⟩
  · rw [show bN (0 * 8 + 4) = 370728 from rfl, show bN (1 * 8 + 4) = (-370728) from rfl, show bN (2 * 8 + 4) = (-370728) from rfl, show bN (3 * 8 + 4) = 370728 from rfl, show bN (4 * 8 + 4) = 370728 from rfl, show bN (5 * 8 + 4) = (-370728) from rfl, show bN (6 * 8 + 4) = (-370728) from rfl, show bN (7 * 8 + 4) = 370728 from rfl]
    have h := colB4 (e0 - 128) (e1 - 128) (e2 - 128) (e3 - 128) (e4 - 128) (e5 - 128) (e6 - 128) (e7 - 128) ⟨by omega, by omega⟩ ⟨by omega, by omega⟩ ⟨by omega, by omega⟩ ⟨by omega, by omega⟩ ⟨by omega, by omega⟩ ⟨by omega, by omega⟩ ⟨by omega, by omega⟩ ⟨by omega, by omega⟩
    exact ⟨fun h => absurd h (by decide), fun _ => ⟨by omega, by omega⟩⟩
  · rw [show bN (0 * 8 + 5) = 291279 from rfl, show bN (1 * 8 + 5) = (-514214) from rfl, show bN (2 * 8 + 5) = 102284 from rfl, show bN (3 * 8 + 5) = 435930 from rfl, show bN (4 * 8 + 5) = (-435930) from rfl, show bN (5 * 8 + 5) = (-102284) from rfl, show bN (6 * 8 + 5) = 514214 from rfl, show bN (7 * 8 + 5) = (-291279) from rfl]
    have h := colB5 (e0 - 128) (e1 - 128) (e2 - 128) (e3 - 128) (e4 - 128) (e5 - 128) (e6 - 128) (e7 - 128) ⟨by omega, by omega⟩ ⟨by omega, by omega⟩ ⟨by omega, by omega⟩ ⟨by omega, by omega⟩ ⟨by omega, by omega⟩ ⟨by omega, by omega⟩ ⟨by omega, by omega⟩ ⟨by omega, by omega⟩
    exact ⟨fun h => absurd h (by decide), fun _ => ⟨by omega, by omega⟩⟩
  · rw [show bN (0 * 8 + 6) = 200636 from rfl, show bN (1 * 8 + 6) = (-484379) from rfl, show bN (2 * 8 + 6) = 484379 from rfl, show bN (3 * 8 + 6) = (-200636) from rfl, show bN (4 * 8 + 6) = (-200636) from rfl, show bN (5 * 8 + 6) = 484379 from rfl, show bN (6 * 8 + 6) = (-484379) from rfl, show bN (7 * 8 + 6) = 200636 from rfl]
    have h := colB6 (e0 - 128) (e1 - 128) (e2 - 128) (e3 - 128) (e4 - 128) (e5 - 128) (e6 - 128) (e7 - 128) ⟨by omega, by omega⟩ ⟨by omega, by omega⟩ ⟨by omega, by omega⟩ ⟨by omega, by omega⟩ ⟨by omega, by omega⟩ ⟨by omega, by omega⟩ ⟨by omega, by omega⟩ ⟨by omega, by omega⟩
    exact ⟨fun h => absurd h (by decide), fun _ => ⟨by omega, by omega⟩⟩
  · rw [show bN (0 * 8 + 7) = 102284 from rfl, show bN (1 * 8 + 7) = (-291279) from rfl, show bN (2 * 8 + 7) = 435930 from rfl, show bN (3 * 8 + 7) = (-514214) from rfl, show bN (4 * 8 + 7) = 514214 from rfl, show bN (5 * 8 + 7) = (-435930) from rfl, show bN (6 * 8 + 7) = 291279 from rfl, show bN (7 * 8 + 7) = (-102284) from rfl]
    have h := colB7 (e0 - 128) (e1 - 128) (e2 - 128) (e3 - 128) (e4 - 128) (e5 - 128) (e6 - 128) (e7 - 128) ⟨by omega, by omega⟩ ⟨by omega, by omega⟩ ⟨by omega, by omega⟩ ⟨by omega, by omega⟩ ⟨by omega, by omega⟩ ⟨by omega, by omega⟩ ⟨by omega, by omega⟩ ⟨by omega, by omega⟩
    exact ⟨fun h => absurd h (by decide), fun _ => ⟨by omega, by omega⟩⟩
theorem rowB0 (lo hi X0 X1 X2 X3 X4 X5 X6 X7 : Int) (h0 : lo ≤ X0 ∧ X0 ≤ hi) (h1 : lo ≤ X1 ∧ X1 ≤ hi) (h2 : lo ≤ X2 ∧ X2 ≤ hi) (h3 : lo ≤ X3 ∧ X3 ≤ hi) (h4 : lo ≤ X4 ∧ X4 ≤ hi) (h5 : lo ≤ X5 ∧ X5 ≤ hi) (h6 : lo ≤ X6 ∧ X6 ≤ hi) (h7 : lo ≤ X7 ∧ X7 ≤ hi) : 2965824 * lo + 0 * hi ≤ 370728 * X0 + 370728 * X1 + 370728 * X2 + 370728 * X3 + 370728 * X4 + 370728 * X5 + 370728 * X6 + 370728 * X7 ∧ 370728 * X0 + 370728 * X1 + 370728 * X2 + 370728 * X3 + 370728 * X4 + 370728 * X5 + 370728 * X6 + 370728 * X7 ≤ 2965824 * hi + 0 * lo := by omega
theorem rowB1 (lo hi X0 X1 X2 X3 X4 X5 X6 X7 : Int) (h0 : lo ≤ X0 ∧ X0 ≤ hi) (h1 : lo ≤ X1 ∧ X1 ≤ hi) (h2 : lo ≤ X2 ∧ X2 ≤ hi) (h3 : lo ≤ X3 ∧ X3 ≤ hi) (h4 : lo ≤ X4 ∧ X4 ≤ hi) (h5 : lo ≤ X5 ∧ X5 ≤ hi) (h6 : lo ≤ X6 ∧ X6 ≤ hi) (h7 : lo ≤ X7 ∧ X7 ≤ hi) : 1343707 * lo + (-1343707) * hi ≤ 514214 * X0 + 435930 * X1 + 291279 * X2 + 102284 * X3 + (-102284) * X4 + (-291279) * X5 + (-435930) * X6 + (-514214) * X7 ∧ 514214 * X0 + 435930 * X1 + 291279 * X2 + 102284 * X3 + (-102284) * X4 + (-291279) * X5 + (-435930) * X6 + (-514214) * X7 ≤ 1343707 * hi + (-1343707) * lo := by omega
theorem rowB2 (lo hi X0 X1 X2 X3 X4 X5 X6 X7 : Int) (h0 : lo ≤ X0 ∧ X0 ≤ hi) (h1 : lo ≤ X1 ∧ X1 ≤ hi) (h2 : lo ≤ X2 ∧ X2 ≤ hi) (h3 : lo ≤ X3 ∧ X3 ≤ hi) (h4 : lo ≤ X4 ∧ X4 ≤ hi) (h5 : lo ≤ X5 ∧ X5 ≤ hi) (h6 : lo ≤ X6 ∧ X6 ≤ hi) (h7 : lo ≤ X7 ∧ X7 ≤ hi) : 1370030 * lo + (-1370030) * hi ≤ 484379 * X0 + 200636 * X1 + (-200636) * X2 + (-484379) * X3 + (-484379) * X4 + (-200636) * X5 + 200636 * X6 + 484379 * X7 ∧ 484379 * X0 + 200636 * X1 + (-200636) * X2 + (-484379) * X3 + (-484379) * X4 + (-200636) * X5 + 200636 * X6 + 484379 * X7 ≤ 1370030 * hi + (-1370030) * lo := by omega
theorem rowB3 (lo hi X0 X1 X2 X3 X4 X5 X6 X7 : Int) (h0 : lo ≤ X0 ∧ X0 ≤ hi) (h1 : lo ≤ X1 ∧ X1 ≤ hi) (h2 : lo ≤ X2 ∧ X2 ≤ hi) (h3 : lo ≤ X3 ∧ X3 ≤ hi) (h4 : lo ≤ X4 ∧ X4 ≤ hi) (h5 : lo ≤ X5 ∧ X5 ≤ hi) (h6 : lo ≤ X6 ∧ X6 ≤ hi) (h7 : lo ≤ X7 ∧ X7 ≤ hi) : 1343707 * lo + (-1343707) * hi ≤ 435930 * X0 + (-102284) * X1 + (-514214) * X2 + (-291279) * X3 + 291279 * X4 + 514214 * X5 + 102284 * X6 + (-435930) * X7 ∧ 435930 * X0 + (-102284) * X1 + (-514214) * X2 + (-291279) * X3 + 291279 * X4 + 514214 * X5 + 102284 * X6 + (-435930) * X7 ≤ 1343707 * hi + (-1343707) * lo := by omega
theorem rowB4 (lo hi X0 X1 X2 X3 X4 X5 X6 X7 : Int) (h0 : lo ≤ X0 ∧ X0 ≤ hi) (h1 : lo ≤ X1 ∧ X1 ≤ hi) (h2 : lo ≤ X2 ∧ X2 ≤ hi) (h3 : lo ≤ X3 ∧ X3 ≤ hi) (h4 : lo ≤ X4 ∧ X4 ≤ hi) (h5 : lo ≤ X5 ∧ X5 ≤ hi) (h6 : lo ≤ X6 ∧ X6 ≤ hi) (h7 : lo ≤ X7 ∧ X7 ≤ hi) : 1482912 * lo + (-1482912) * hi ≤ 370728 * X0 + (-370728) * X1 + (-370728) * X2 + 370728 * X3 + 370728 * X4 + (-370728) * X5 + (-370728) * X6 + 370728 * X7 ∧ 370728 * X0 + (-370728) * X1 + (-370728) * X2 + 370728 * X3 + 370728 * X4 + (-370728) * X5 + (-370728) * X6 + 370728 * X7 ≤ 1482912 * hi + (-1482912) * lo := by omega
theorem rowB5 (lo hi X0 X1 X2 X3 X4 X5 X6 X7 : Int) (h0 : lo ≤ X0 ∧ X0 ≤ hi) (h1 : lo ≤ X1 ∧ X1 ≤ hi) (h2 : lo ≤ X2 ∧ X2 ≤ hi) (h3 : lo ≤ X3 ∧ X3 ≤ hi) (h4 : lo ≤ X4 ∧ X4 ≤ hi) (h5 : lo ≤ X5 ∧ X5 ≤ hi) (h6 : lo ≤ X6 ∧ X6 ≤ hi) (h7 : lo ≤ X7 ∧ X7 ≤ hi) : 1343707 * lo + (-1343707) * hi ≤ 291279 * X0 + (-514214) * X1 + 102284 * X2 + 435930 * X3 + (-435930) * X4 + (-102284) * X5 + 514214 * X6 + (-291279) * X7 ∧ 291279 * X0 + (-514214) * X1 + 102284 * X2 + 435930 * X3 + (-435930) * X4 + (-102284) * X5 + 514214 * X6 + (-291279) * X7 ≤ 1343707 * hi + (-1343707) * lo := by omega
theorem rowB6 (lo hi X0 X1 X2 X3 X4 X5 X6 X7 : Int) (h0 : lo ≤ X0 ∧ X0 ≤ hi) (h1 : lo ≤ X1 ∧ X1 ≤ hi) (h2 : lo ≤ X2 ∧ X2 ≤ hi) (h3 : lo ≤ X3 ∧ X3 ≤ hi) (h4 : lo ≤ X4 ∧ X4 ≤ hi) (h5 : lo ≤ X5 ∧ X5 ≤ hi) (h6 : lo ≤ X6 ∧ X6 ≤ hi) (h7 : lo ≤ X7 ∧ X7 ≤ hi) : 1370030 * lo + (-1370030) * hi ≤ 200636 * X0 + (-484379) * X1 + 484379 * X2 + (-200636) * X3 + (-200636) * X4 + 484379 * X5 + (-484379) * X6 + 200636 * X7 ∧ 200636 * X0 + (-484379) * X1 + 484379 * X2 + (-200636) * X3 + (-200636) * X4 + 484379 * X5 + (-484379) * X6 + 200636 * X7 ≤ 1370030 * hi + (-1370030) * lo := by omega
theorem rowB7 (lo hi X0 X1 X2 X3 X4 X5 X6 X7 : Int) (h0 : lo ≤ X0 ∧ X0 ≤ hi) (h1 : lo ≤ X1 ∧ X1 ≤ hi) (h2 : lo ≤ X2 ∧ X2 ≤ hi) (h3 : lo ≤ X3 ∧ X3 ≤ hi) (h4 : lo ≤ X4 ∧ X4 ≤ hi) (h5 : lo ≤ X5 ∧ X5 ≤ hi) (h6 : lo ≤ X6 ∧ X6 ≤ hi) (h7 : lo ≤ X7 ∧ X7 ≤ hi) : 1343707 * lo + (-1343707) * hi ≤ 102284 * X0 + (-291279) * X1 + 435930 * X2 + (-514214) * X3 + 514214 * X4 + (-435930) * X5 + 291279 * X6 + (-102284) * X7 ∧ 102284 * X0 + (-291279) * X1 + 435930 * X2 + (-514214) * X3 + 514214 * X4 + (-435930) * X5 + 291279 * X6 + (-102284) * X7 ≤ 1343707 * hi + (-1343707) * lo := by omega
/-- The coefficients behind both passes. -/
def coef (f : Nat → Int) : Nat → Int := frows (fcols f)
theorem exact2_in (f : Nat → Int) (hf : ∀ j, 0 ≤ f j ∧ f j ≤ 255) (v u : Nat) (hv : v < 8) (hu : u < 8) : (v = 0 ∧ u = 0 → -1125902355677184 - 16492674416 ≤ exact2 f v u ∧ exact2 f v u ≤ 1117106272174080 + 16492674416) ∧ (¬ (v = 0 ∧ u = 0) → -1121504289521664 ≤ exact2 f v u ∧ exact2 f v u ≤ 1121504289521664) := by
  unfold exact2
  have h0 := colSum_in f hf v 0 hv
  have h1 := colSum_in f hf v 1 hv
  have h2 := colSum_in f hf v 2 hv
  have h3 := colSum_in f hf v 3 hv
  have h4 := colSum_in f hf v 4 hv
  have h5 := colSum_in f hf v 5 hv
  have h6 := colSum_in f hf v 6 hv
  have h7 := colSum_in f hf v 7 hv
  generalize colSum f v 0 = X0 at *
  generalize colSum f v 1 = X1 at *
  generalize colSum f v 2 = X2 at *
  generalize colSum f v 3 = X3 at *
  generalize colSum f v 4 = X4 at *
  generalize colSum f v 5 = X5 at *
  generalize colSum f v 6 = X6 at *
  generalize colSum f v 7 = X7 at *
  obtain rfl | rfl | rfl | rfl | rfl | rfl | rfl | rfl : u = 0 ∨ u = 1 ∨ u = 2 ∨ u = 3 ∨ u = 4 ∨ u = 5 ∨ u = 6 ∨ u = 7 := by omega
  · rw [show bN (0 * 8 + 0) = 370728 from rfl, show bN (1 * 8 + 0) = 370728 from rfl, show bN (2 * 8 + 0) = 370728 from rfl, show bN (3 * 8 + 0) = 370728 from rfl, show bN (4 * 8 + 0) = 370728 from rfl, show bN (5 * 8 + 0) = 370728 from rfl, show bN (6 * 8 + 0) = 370728 from rfl, show bN (7 * 8 + 0) = 370728 from rfl]
    by_cases hv0 : v = 0
    · have h := rowB0 (-379625472) 376659648 X0 X1 X2 X3 X4 X5 X6 X7 (h0.1 hv0) (h1.1 hv0) (h2.1 hv0) (h3.1 hv0) (h4.1 hv0) (h5.1 hv0) (h6.1 hv0) (h7.1 hv0)
      exact ⟨fun _ => ⟨by omega, by omega⟩, fun h => absurd ⟨hv0, rfl⟩ h⟩
    · have h := rowB0 (-378142560) 378142560 X0 X1 X2 X3 X4 X5 X6 X7 (h0.2 hv0) (h1.2 hv0) (h2.2 hv0) (h3.2 hv0) (h4.2 hv0) (h5.2 hv0) (h6.2 hv0) (h7.2 hv0)
      exact ⟨fun h => absurd h.1 hv0, fun _ => ⟨by omega, by omega⟩⟩
  · rw [show bN (0 * 8 + 1) = 514214 from rfl, show bN (1 * 8 + 1) = 435930 from rfl, show bN (2 * 8 + 1) = 291279 from rfl, show bN (3 * 8 + 1) = 102284 from rfl, show bN (4 * 8 + 1) = (-102284) from rfl, show bN (5 * 8 + 1) = (-291279) from rfl, show bN (6 * 8 + 1) = (-435930) from rfl, show bN (7 * 8 + 1) = (-514214) from rfl]
    by_cases hv0 : v = 0
    · have h := rowB1 (-379625472) 376659648 X0 X1 X2 X3 X4 X5 X6 X7 (h0.1 hv0) (h1.1 hv0) (h2.1 hv0) (h3.1 hv0) (h4.1 hv0) (h5.1 hv0) (h6.1 hv0) (h7.1 hv0)
      exact ⟨fun h => absurd h.2 (by decide), fun _ => ⟨by omega, by omega⟩⟩
    · have h := rowB1 (-378142560) 378142560 X0 X1 X2 X3 X4 X5 X6 X7 (h0.2 hv0) (h1.2 hv0) (h2.2 hv0) (h3.2 hv0) (h4.2 hv0) (h5.2 hv0) (h6.2 hv0) (h7.2 hv0)
      exact ⟨fun h => absurd h.1 hv0, fun _ => ⟨by omega, by omega⟩⟩
  · rw [show bN (0 * 8 + 2) = 484379 from rfl, show bN (1 * 8 + 2) = 200636 from rfl, show bN (2 * 8 + 2) = (-200636) from rfl, show bN (3 * 8 + 2) = (-484379) from rfl, show bN (4 * 8 + 2) = (-484379) from rfl, show bN (5 * 8 + 2) = (-200636) from rfl, show bN (6 * 8 + 2) = 200636 from rfl, show bN (7 * 8 + 2) = 484379 from rfl]
    by_cases hv0 : v = 0
    · have h := rowB2 (-379625472) 376659648 X0 X1 X2 X3 X4 X5 X6 X7 (h0.1 hv0) (h1.1 hv0) (h2.1 hv0) (h3.1 hv0) (h4.1 hv0) (h5.1 hv0) (h6.1 hv0) (h7.1 hv0)
      exact ⟨fun h => absurd h.2 (by decide), fun _ => ⟨by omega, by omega⟩⟩
    · have h := rowB2 (-378142560) 378142560 X0 X1 X2 X3 X4 X5 X6 X7 (h0.2 hv0) (h1.2 hv0) (h2.2 hv0) (h3.2 hv0) (h4.2 hv0) (h5.2 hv0) (h6.2 hv0) (h7.2 hv0)
      exact ⟨fun h => absurd h.1 hv0, fun _ => ⟨by omega, by omega⟩⟩
  · rw [show bN (0 * 8 + 3) = 435930 from rfl, show bN (1 * 8 + 3) = (-102284) from rfl, show bN (2 * 8 + 3) = (-514214) from rfl, show bN (3 * 8 + 3) = (-291279) from rfl, show bN (4 * 8 + 3) = 291279 from rfl, show bN (5 * 8 + 3) = 514214 from rfl, show bN (6 * 8 + 3) = 102284 from rfl, show bN (7 * 8 + 3) = (-435930) from rfl]
    by_cases hv0 : v = 0
    · have h := rowB3 (-379625472) 376659648 X0 X1 X2 X3 X4 X5 X6 X7 (h0.1 hv0) (h1.1 hv0) (h2.1 hv0) (h3.1 hv0) (h4.1 hv0) (h5.1 hv0) (h6.1 hv0) (h7.1 hv0)
      exact ⟨fun h => absurd h.2 (by decide), fun _ => ⟨by omega, by omega⟩⟩
    · have h := rowB3 (-378142560) 378142560 X0 X1 X2 X3 X4 X5 X6 X7 (h0.2 hv0) (h1.2 hv0) (h2.2 hv0) (h3.2 hv0) (h4.2 hv0) (h5.2 hv0) (h6.2 hv0) (h7.2 hv0)
      exact ⟨fun h => absurd h.1 hv0, fun _ => ⟨by omega, by omega⟩⟩
  · rw [show bN (0 * 8 + 4) = 370728 from rfl, show bN (1 * 8 + 4) = (-370728) from rfl, show bN (2 * 8 + 4) = (-370728) from rfl, show bN (3 * 8 + 4) = 370728 from rfl, show bN (4 * 8 + 4) = 370728 from rfl, show bN (5 * 8 + 4) = (-370728) from rfl, show bN (6 * 8 + 4) = (-370728) from rfl, show bN (7 * 8 + 4) = 370728 from rfl]
    by_cases hv0 : v = 0
    · have h := rowB4 (-379625472) 376659648 X0 X1 X2 X3 X4 X5 X6 X7 (h0.1 hv0) (h1.1 hv0) (h2.1 hv0) (h3.1 hv0) (h4.1 hv0) (h5.1 hv0) (h6.1 hv0) (h7.1 hv0)
      exact ⟨fun h => absurd h.2 (by decide), fun _ => ⟨by omega, by omega⟩⟩
    · have h := rowB4 (-378142560) 378142560 X0 X1 X2 X3 X4 X5 X6 X7 (h0.2 hv0) (h1.2 hv0) (h2.2 hv0) (h3.2 hv0) (h4.2 hv0) (h5.2 hv0) (h6.2 hv0) (h7.2 hv0)
      exact ⟨fun h => absurd h.1 hv0, fun _ => ⟨by omega, by omega⟩⟩
  · rw [show bN (0 * 8 + 5) = 291279 from rfl, show bN (1 * 8 + 5) = (-514214) from rfl, show bN (2 * 8 + 5) = 102284 from rfl, show bN (3 * 8 + 5) = 435930 from rfl, show bN (4 * 8 + 5) = (-435930) from rfl, show bN (5 * 8 + 5) = (-102284) from rfl, show bN (6 * 8 + 5) = 514214 from rfl, show bN (7 * 8 + 5) = (-291279) from rfl]
    by_cases hv0 : v = 0
    · have h := rowB5 (-379625472) 376659648 X0 X1 X2 X3 X4 X5 X6 X7 (h0.1 hv0) (h1.1 hv0) (h2.1 hv0) (h3.1 hv0) (h4.1 hv0) (h5.1 hv0) (h6.1 hv0) (h7.1 hv0)
      exact ⟨fun h => absurd h.2 (by decide), fun _ => ⟨by omega, by omega⟩⟩
    · have h := rowB5 (-378142560) 378142560 X0 X1 X2 X3 X4 X5 X6 X7 (h0.2 hv0) (h1.2 hv0) (h2.2 hv0) (h3.2 hv0) (h4.2 hv0) (h5.2 hv0) (h6.2 hv0) (h7.2 hv0)
      exact ⟨fun h => absurd h.1 hv0, fun _ => ⟨by omega, by omega⟩⟩
  · rw [show bN (0 * 8 + 6) = 200636 from rfl, show bN (1 * 8 + 6) = (-484379) from rfl, show bN (2 * 8 + 6) = 484379 from rfl, show bN (3 * 8 + 6) = (-200636) from rfl, show bN (4 * 8 + 6) = (-200636) from rfl, show bN (5 * 8 + 6) = 484379 from rfl, show bN (6 * 8 + 6) = (-484379) from rfl, show bN (7 * 8 + 6) = 200636 from rfl]
    by_cases hv0 : v = 0
    · have h := rowB6 (-379625472) 376659648 X0 X1 X2 X3 X4 X5 X6 X7 (h0.1 hv0) (h1.1 hv0) (h2.1 hv0) (h3.1 hv0) (h4.1 hv0) (h5.1 hv0) (h6.1 hv0) (h7.1 hv0)
      exact ⟨fun h => absurd h.2 (by decide), fun _ => ⟨by omega, by omega⟩⟩
    · have h := rowB6 (-378142560) 378142560 X0 X1 X2 X3 X4 X5 X6 X7 (h0.2 hv0) (h1.2 hv0) (h2.2 hv0) (h3.2 hv0) (h4.2 hv0) (h5.2 hv0) (h6.2 hv0) (h7.2 hv0)
      exact ⟨fun h => absurd h.1 hv0, fun _ => ⟨by omega, by omega⟩⟩
  · rw [show bN (0 * 8 + 7) = 102284 from rfl, show bN (1 * 8 + 7) = (-291279) from rfl, show bN (2 * 8 + 7) = 435930 from rfl, show bN (3 * 8 + 7) = (-514214) from rfl, show bN (4 * 8 + 7) = 514214 from rfl, show bN (5 * 8 + 7) = (-435930) from rfl, show bN (6 * 8 + 7) = 291279 from rfl, show bN (7 * 8 + 7) = (-102284) from rfl]
    by_cases hv0 : v = 0
    · have h := rowB7 (-379625472) 376659648 X0 X1 X2 X3 X4 X5 X6 X7 (h0.1 hv0) (h1.1 hv0) (h2.1 hv0) (h3.1 hv0) (h4.1 hv0) (h5.1 hv0) (h6.1 hv0) (h7.1 hv0)
      exact ⟨fun h => absurd h.2 (by decide), fun _ => ⟨by omega, by omega⟩⟩
    · have h := rowB7 (-378142560) 378142560 X0 X1 X2 X3 X4 X5 X6 X7 (h0.2 hv0) (h1.2 hv0) (h2.2 hv0) (h3.2 hv0) (h4.2 hv0) (h5.2 hv0) (h6.2 hv0) (h7.2 hv0)
      exact ⟨fun h => absurd h.1 hv0, fun _ => ⟨by omega, by omega⟩⟩
theorem coef_dc (f : Nat → Int) (hf : ∀ j, 0 ≤ f j ∧ f j ≤ 255) : -8195 ≤ coef f 0 ∧ coef f 0 ≤ 8131 := by
  have h := both_near f hf 0 0 (by omega) (by omega)
  have k := (exact2_in f hf 0 0 (by omega) (by omega)).1 ⟨rfl, rfl⟩
  unfold coef
  rw [show 8 * 0 + 0 = 0 from rfl] at h
  generalize exact2 f 0 0 = E at *
  generalize frows (fcols f) 0 = c at *
  omega
theorem coef_ac (f : Nat → Int) (hf : ∀ j, 0 ≤ f j ∧ f j ≤ 255) (j : Nat) (h1 : 1 ≤ j) (h2 : j < 64) : -8187 ≤ coef f j ∧ coef f j ≤ 8187 := by
  have h := both_near f hf (j / 8) (j % 8) (by omega) (by omega)
  have k := (exact2_in f hf (j / 8) (j % 8) (by omega) (by omega)).2 (by omega)
  unfold coef
  rw [show 8 * (j / 8) + j % 8 = j by omega] at h
  generalize exact2 f (j / 8) (j % 8) = E at *
  generalize frows (fcols f) j = c at *
  omega
end Go.Proofs.YtghjlekdibcjdaaGreatDoor
