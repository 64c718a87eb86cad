/- Samples there and back: transformed, divided by a table, multiplied by it and transformed back: plain law, printed by therelaw.py. -/
import Derived.Test.YtcblegbjhiameaaDoorForwardLaw
import Derived.Test.YtcblegbjhiameaaDoorInvEq
namespace Go.Proofs.YtcblegbjhiameaaDoor
open Go.RowKit
set_option linter.unusedVariables false
/-- The place of a coefficient in zigzag order. -/
def izN (j : Nat) : Nat := ([0, 1, 5, 6, 14, 15, 27, 28, 2, 4, 7, 13, 16, 26, 29, 42, 3, 8, 12, 17, 25, 30, 41, 43, 9, 11, 18, 24, 31, 40, 44, 53, 10, 19, 23, 32, 39, 45, 52, 54, 20, 22, 33, 38, 46, 51, 55, 60, 21, 34, 37, 47, 50, 56, 59, 61, 35, 36, 48, 49, 57, 58, 62, 63] : List Nat).getD j 0
theorem izN_z : ∀ k, k < 64 → izN (zN k) = k := by decide +kernel
theorem izN_lt : ∀ j, j < 64 → izN j < 64 ∧ zN (izN j) = j := by decide +kernel
/-- The quotient rounded to the nearest integer, halves away from nought. -/
def rnd (a b : Int) : Int := if 0 ≤ a then (a + b / 2) / b else -((-a + b / 2) / b)
theorem rnd_pos {a b : Int} (h : 0 ≤ a) : rnd a b = (a + b / 2) / b := if_pos h
theorem rnd_neg {a b : Int} (h : a < 0) : rnd a b = -((-a + b / 2) / b) := if_neg (by omega)
theorem quo_bounds {x b : Int} (hb : 1 ≤ b) : (x / b) * b ≤ x ∧ x < (x / b) * b + b := by
  have h1 := Int.mul_ediv_add_emod x b
  have h2 := Int.emod_nonneg x (show b ≠ 0 by omega)
  have h3 := Int.emod_lt_of_pos x (show 0 < b by omega)
  rw [Int.mul_comm] at h1
  omega
theorem quo_le {x b : Int} (hx : 0 ≤ x) (hb : 1 ≤ b) : 0 ≤ x / b ∧ x / b ≤ x :=
  ⟨Int.ediv_nonneg hx (by omega), Int.ediv_le_self _ hx⟩
theorem rnd_near (a b : Int) (hb : 1 ≤ b) : -b ≤ 2 * (rnd a b * b - a) ∧ 2 * (rnd a b * b - a) ≤ b := by
  by_cases h : 0 ≤ a
  · rw [rnd_pos h]
    have := quo_bounds (x := a + b / 2) hb
    omega
  · rw [rnd_neg (by omega), Int.neg_mul]
    have := quo_bounds (x := -a + b / 2) hb
    omega
/-- A coefficient that is divided by the table and multiplied by it. -/
def qC (F q : Nat → Int) (j : Nat) : Int := rnd (F j) (8 * q (izN j)) * q (izN j)
theorem qC_near (F q : Nat → Int) (j : Nat) (hq : 1 ≤ q (izN j)) : -(4 * q (izN j)) ≤ 8 * qC F q j - F j ∧ 8 * qC F q j - F j ≤ 4 * q (izN j) := by
  unfold qC
  generalize q (izN j) = t at *
  generalize F j = a
  have h := rnd_near a (8 * t) (by omega)
  rw [Int.mul_left_comm] at h
  generalize rnd a (8 * t) * t = p at *
  omega
/-- The magnitude of a number of the table. -/
def aB (k : Nat) : Int := max (bN k) (-(bN k))
theorem aB_in : ∀ k, k < 64 → 0 ≤ aB k ∧ aB k ≤ 524288 := by decide +kernel
theorem wabs (b d D : Int) (h : -D ≤ 4 * d ∧ 4 * d ≤ D) : -(max b (-b) * D) ≤ 4 * (b * d) ∧ 4 * (b * d) ≤ max b (-b) * D := by
  have e : 4 * (b * d) = b * (4 * d) := Int.mul_left_comm _ _ _
  by_cases hb : 0 ≤ b
  · rw [Int.max_eq_left (by omega), e]
    have h1 := Int.mul_le_mul_of_nonneg_left h.1 hb
    have h2 := Int.mul_le_mul_of_nonneg_left h.2 hb
    rw [Int.mul_neg] at h1
    exact ⟨h1, h2⟩
  · rw [Int.max_eq_right (by omega), e]
    have h1 := Int.mul_le_mul_of_nonneg_left h.1 (c := -b) (by omega)
    have h2 := Int.mul_le_mul_of_nonneg_left h.2 (c := -b) (by omega)
    rw [Int.neg_mul, Int.neg_mul, Int.mul_neg] at h1
    rw [Int.neg_mul, Int.neg_mul] at h2
    rw [Int.neg_mul]
    omega
theorem wsum8 (b d D : Nat → Int) (h : ∀ i, i < 8 → -D i ≤ 4 * d i ∧ 4 * d i ≤ D i) :
    -(max (b 0) (-(b 0)) * D 0 + max (b 1) (-(b 1)) * D 1 + max (b 2) (-(b 2)) * D 2 + max (b 3) (-(b 3)) * D 3 + max (b 4) (-(b 4)) * D 4 + max (b 5) (-(b 5)) * D 5 + max (b 6) (-(b 6)) * D 6 + max (b 7) (-(b 7)) * D 7) ≤ 4 * (b 0 * d 0 + b 1 * d 1 + b 2 * d 2 + b 3 * d 3 + b 4 * d 4 + b 5 * d 5 + b 6 * d 6 + b 7 * d 7) ∧ 4 * (b 0 * d 0 + b 1 * d 1 + b 2 * d 2 + b 3 * d 3 + b 4 * d 4 + b 5 * d 5 + b 6 * d 6 + b 7 * d 7) ≤ max (b 0) (-(b 0)) * D 0 + max (b 1) (-(b 1)) * D 1 + max (b 2) (-(b 2)) * D 2 + max (b 3) (-(b 3)) * D 3 + max (b 4) (-(b 4)) * D 4 + max (b 5) (-(b 5)) * D 5 + max (b 6) (-(b 6)) * D 6 + max (b 7) (-(b 7)) * D 7 := by
  have h0 := wabs (b 0) (d 0) (D 0) (h 0 (by omega))
  have h1 := wabs (b 1) (d 1) (D 1) (h 1 (by omega))
  have h2 := wabs (b 2) (d 2) (D 2) (h 2 (by omega))
  have h3 := wabs (b 3) (d 3) (D 3) (h 3 (by omega))
  have h4 := wabs (b 4) (d 4) (D 4) (h 4 (by omega))
  have h5 := wabs (b 5) (d 5) (D 5) (h 5 (by omega))
  have h6 := wabs (b 6) (d 6) (D 6) (h 6 (by omega))
  have h7 := wabs (b 7) (d 7) (D 7) (h 7 (by omega))
  clear h
  generalize max (b 0) (-(b 0)) * D 0 = m0 at *
  generalize b 0 * d 0 = p0 at *
  generalize max (b 1) (-(b 1)) * D 1 = m1 at *
  generalize b 1 * d 1 = p1 at *
  generalize max (b 2) (-(b 2)) * D 2 = m2 at *
  generalize b 2 * d 2 = p2 at *
  generalize max (b 3) (-(b 3)) * D 3 = m3 at *
  generalize b 3 * d 3 = p3 at *
  generalize max (b 4) (-(b 4)) * D 4 = m4 at *
  generalize b 4 * d 4 = p4 at *
  generalize max (b 5) (-(b 5)) * D 5 = m5 at *
  generalize b 5 * d 5 = p5 at *
  generalize max (b 6) (-(b 6)) * D 6 = m6 at *
  generalize b 6 * d 6 = p6 at *
  generalize max (b 7) (-(b 7)) * D 7 = m7 at *
  generalize b 7 * d 7 = p7 at *
  exact ⟨by omega, by omega⟩
/-- The sum of a block's numbers, each weighed by the magnitudes of its row and column. -/
def nest (y x : Nat) (t : Nat → Int) : Int := aB (y * 8 + 0) * (aB (x * 8 + 0) * t (8 * 0 + 0) + aB (x * 8 + 1) * t (8 * 0 + 1) + aB (x * 8 + 2) * t (8 * 0 + 2) + aB (x * 8 + 3) * t (8 * 0 + 3) + aB (x * 8 + 4) * t (8 * 0 + 4) + aB (x * 8 + 5) * t (8 * 0 + 5) + aB (x * 8 + 6) * t (8 * 0 + 6) + aB (x * 8 + 7) * t (8 * 0 + 7)) + aB (y * 8 + 1) * (aB (x * 8 + 0) * t (8 * 1 + 0) + aB (x * 8 + 1) * t (8 * 1 + 1) + aB (x * 8 + 2) * t (8 * 1 + 2) + aB (x * 8 + 3) * t (8 * 1 + 3) + aB (x * 8 + 4) * t (8 * 1 + 4) + aB (x * 8 + 5) * t (8 * 1 + 5) + aB (x * 8 + 6) * t (8 * 1 + 6) + aB (x * 8 + 7) * t (8 * 1 + 7)) + aB (y * 8 + 2) * (aB (x * 8 + 0) * t (8 * 2 + 0) + aB (x * 8 + 1) * t (8 * 2 + 1) + aB (x * 8 + 2) * t (8 * 2 + 2) + aB (x * 8 + 3) * t (8 * 2 + 3) + aB (x * 8 + 4) * t (8 * 2 + 4) + aB (x * 8 + 5) * t (8 * 2 + 5) + aB (x * 8 + 6) * t (8 * 2 + 6) + aB (x * 8 + 7) * t (8 * 2 + 7)) + aB (y * 8 + 3) * (aB (x * 8 + 0) * t (8 * 3 + 0) + aB (x * 8 + 1) * t (8 * 3 + 1) + aB (x * 8 + 2) * t (8 * 3 + 2) + aB (x * 8 + 3) * t (8 * 3 + 3) + aB (x * 8 + 4) * t (8 * 3 + 4) + aB (x * 8 + 5) * t (8 * 3 + 5) + aB (x * 8 + 6) * t (8 * 3 + 6) + aB (x * 8 + 7) * t (8 * 3 + 7)) + aB (y * 8 + 4) * (aB (x * 8 + 0) * t (8 * 4 + 0) + aB (x * 8 + 1) * t (8 * 4 + 1) + aB (x * 8 + 2) * t (8 * 4 + 2) + aB (x * 8 + 3) * t (8 * 4 + 3) + aB (x * 8 + 4) * t (8 * 4 + 4) + aB (x * 8 + 5) * t (8 * 4 + 5) + aB (x * 8 + 6) * t (8 * 4 + 6) + aB (x * 8 + 7) * t (8 * 4 + 7)) + aB (y * 8 + 5) * (aB (x * 8 + 0) * t (8 * 5 + 0) + aB (x * 8 + 1) * t (8 * 5 + 1) + aB (x * 8 + 2) * t (8 * 5 + 2) + aB (x * 8 + 3) * t (8 * 5 + 3) + aB (x * 8 + 4) * t (8 * 5 + 4) + aB (x * 8 + 5) * t (8 * 5 + 5) + aB (x * 8 + 6) * t (8 * 5 + 6) + aB (x * 8 + 7) * t (8 * 5 + 7)) + aB (y * 8 + 6) * (aB (x * 8 + 0) * t (8 * 6 + 0) + aB (x * 8 + 1) * t (8 * 6 + 1) + aB (x * 8 + 2) * t (8 * 6 + 2) + aB (x * 8 + 3) * t (8 * 6 + 3) + aB (x * 8 + 4) * t (8 * 6 + 4) + aB (x * 8 + 5) * t (8 * 6 + 5) + aB (x * 8 + 6) * t (8 * 6 + 6) + aB (x * 8 + 7) * t (8 * 6 + 7)) + aB (y * 8 + 7) * (aB (x * 8 + 0) * t (8 * 7 + 0) + aB (x * 8 + 1) * t (8 * 7 + 1) + aB (x * 8 + 2) * t (8 * 7 + 2) + aB (x * 8 + 3) * t (8 * 7 + 3) + aB (x * 8 + 4) * t (8 * 7 + 4) + aB (x * 8 + 5) * t (8 * 7 + 5) + aB (x * 8 + 6) * t (8 * 7 + 6) + aB (x * 8 + 7) * t (8 * 7 + 7))
theorem nest_near (y x : Nat) (d D : Nat → Int) (h : ∀ j, j < 64 → -D j ≤ 4 * d j ∧ 4 * d j ≤ D j) : -(nest y x D) ≤ 4 * exS d y x ∧ 4 * exS d y x ≤ nest y x D :=
  wsum8 (fun v => bN (y * 8 + v)) (fun v => exT d v x) (fun v => aB (x * 8 + 0) * D (8 * v + 0) + aB (x * 8 + 1) * D (8 * v + 1) + aB (x * 8 + 2) * D (8 * v + 2) + aB (x * 8 + 3) * D (8 * v + 3) + aB (x * 8 + 4) * D (8 * v + 4) + aB (x * 8 + 5) * D (8 * v + 5) + aB (x * 8 + 6) * D (8 * v + 6) + aB (x * 8 + 7) * D (8 * v + 7)) fun v hv =>
    wsum8 (fun u => bN (x * 8 + u)) (fun u => d (8 * v + u)) (fun u => D (8 * v + u)) fun u hu => h (8 * v + u) (by omega)
theorem key_lin (b c s : Int) : b * (c * 1099511627776 - s) = b * c * 1099511627776 - b * s := by rw [Int.mul_sub, Int.mul_assoc]
theorem key_lin2 (b t s : Int) : b * (t * 1099511627776 - s) = b * t * 1099511627776 - b * s := key_lin b t s
theorem exT_lin (c S : Nat → Int) (v x : Nat) : exT (fun j => c j * 1099511627776 - S j) v x = exT c v x * 1099511627776 - exT S v x := by
  simp only [exT, key_lin]
  generalize bN (x * 8 + 0) * c (8 * v + 0) = p0
  generalize bN (x * 8 + 0) * S (8 * v + 0) = r0
  generalize bN (x * 8 + 1) * c (8 * v + 1) = p1
  generalize bN (x * 8 + 1) * S (8 * v + 1) = r1
  generalize bN (x * 8 + 2) * c (8 * v + 2) = p2
  generalize bN (x * 8 + 2) * S (8 * v + 2) = r2
  generalize bN (x * 8 + 3) * c (8 * v + 3) = p3
  generalize bN (x * 8 + 3) * S (8 * v + 3) = r3
  generalize bN (x * 8 + 4) * c (8 * v + 4) = p4
  generalize bN (x * 8 + 4) * S (8 * v + 4) = r4
  generalize bN (x * 8 + 5) * c (8 * v + 5) = p5
  generalize bN (x * 8 + 5) * S (8 * v + 5) = r5
  generalize bN (x * 8 + 6) * c (8 * v + 6) = p6
  generalize bN (x * 8 + 6) * S (8 * v + 6) = r6
  generalize bN (x * 8 + 7) * c (8 * v + 7) = p7
  generalize bN (x * 8 + 7) * S (8 * v + 7) = r7
  omega
theorem exS_lin (c S : Nat → Int) (y x : Nat) : exS (fun j => c j * 1099511627776 - S j) y x = exS c y x * 1099511627776 - exS S y x := by
  simp only [exS, exT_lin, key_lin]
  generalize bN (y * 8 + 0) * exT c 0 x = p0
  generalize bN (y * 8 + 0) * exT S 0 x = r0
  generalize bN (y * 8 + 1) * exT c 1 x = p1
  generalize bN (y * 8 + 1) * exT S 1 x = r1
  generalize bN (y * 8 + 2) * exT c 2 x = p2
  generalize bN (y * 8 + 2) * exT S 2 x = r2
  generalize bN (y * 8 + 3) * exT c 3 x = p3
  generalize bN (y * 8 + 3) * exT S 3 x = r3
  generalize bN (y * 8 + 4) * exT c 4 x = p4
  generalize bN (y * 8 + 4) * exT S 4 x = r4
  generalize bN (y * 8 + 5) * exT c 5 x = p5
  generalize bN (y * 8 + 5) * exT S 5 x = r5
  generalize bN (y * 8 + 6) * exT c 6 x = p6
  generalize bN (y * 8 + 6) * exT S 6 x = r6
  generalize bN (y * 8 + 7) * exT c 7 x = p7
  generalize bN (y * 8 + 7) * exT S 7 x = r7
  omega
/-- The products of the table's rows. -/
def gT (k : Nat) : Int := ([1099512795298, -276042, 276042, 679831, 679831, -276042, 276042, -155088, -276042, 1099512795298, 679831, 276042, -276042, 679831, -155088, 276042, 276042, 679831, 1099512795298, 276042, -276042, -155088, 679831, -276042, 679831, 276042, 276042, 1099512795298, -155088, -276042, -276042, 679831, 679831, -276042, -276042, -155088, 1099512795298, 276042, 276042, 679831, -276042, 679831, -155088, -276042, 276042, 1099512795298, 679831, 276042, 276042, -155088, 679831, -276042, 276042, 679831, 1099512795298, -276042, -155088, 276042, -276042, 679831, 679831, 276042, -276042, 1099512795298] : List Int).getD k 0
theorem gram : ∀ y, y < 8 → ∀ z, z < 8 → bN (y * 8 + 0) * bN (z * 8 + 0) + bN (y * 8 + 1) * bN (z * 8 + 1) + bN (y * 8 + 2) * bN (z * 8 + 2) + bN (y * 8 + 3) * bN (z * 8 + 3) + bN (y * 8 + 4) * bN (z * 8 + 4) + bN (y * 8 + 5) * bN (z * 8 + 5) + bN (y * 8 + 6) * bN (z * 8 + 6) + bN (y * 8 + 7) * bN (z * 8 + 7) = gT (y * 8 + z) := by decide +kernel
theorem gramswap (a : Nat → Int) (B : Nat → Nat → Int) (t : Nat → Int) :
    a 0 * (B 0 0 * t 0 + B 1 0 * t 1 + B 2 0 * t 2 + B 3 0 * t 3 + B 4 0 * t 4 + B 5 0 * t 5 + B 6 0 * t 6 + B 7 0 * t 7) + a 1 * (B 0 1 * t 0 + B 1 1 * t 1 + B 2 1 * t 2 + B 3 1 * t 3 + B 4 1 * t 4 + B 5 1 * t 5 + B 6 1 * t 6 + B 7 1 * t 7) + a 2 * (B 0 2 * t 0 + B 1 2 * t 1 + B 2 2 * t 2 + B 3 2 * t 3 + B 4 2 * t 4 + B 5 2 * t 5 + B 6 2 * t 6 + B 7 2 * t 7) + a 3 * (B 0 3 * t 0 + B 1 3 * t 1 + B 2 3 * t 2 + B 3 3 * t 3 + B 4 3 * t 4 + B 5 3 * t 5 + B 6 3 * t 6 + B 7 3 * t 7) + a 4 * (B 0 4 * t 0 + B 1 4 * t 1 + B 2 4 * t 2 + B 3 4 * t 3 + B 4 4 * t 4 + B 5 4 * t 5 + B 6 4 * t 6 + B 7 4 * t 7) + a 5 * (B 0 5 * t 0 + B 1 5 * t 1 + B 2 5 * t 2 + B 3 5 * t 3 + B 4 5 * t 4 + B 5 5 * t 5 + B 6 5 * t 6 + B 7 5 * t 7) + a 6 * (B 0 6 * t 0 + B 1 6 * t 1 + B 2 6 * t 2 + B 3 6 * t 3 + B 4 6 * t 4 + B 5 6 * t 5 + B 6 6 * t 6 + B 7 6 * t 7) + a 7 * (B 0 7 * t 0 + B 1 7 * t 1 + B 2 7 * t 2 + B 3 7 * t 3 + B 4 7 * t 4 + B 5 7 * t 5 + B 6 7 * t 6 + B 7 7 * t 7) = (a 0 * B 0 0 + a 1 * B 0 1 + a 2 * B 0 2 + a 3 * B 0 3 + a 4 * B 0 4 + a 5 * B 0 5 + a 6 * B 0 6 + a 7 * B 0 7) * t 0 + (a 0 * B 1 0 + a 1 * B 1 1 + a 2 * B 1 2 + a 3 * B 1 3 + a 4 * B 1 4 + a 5 * B 1 5 + a 6 * B 1 6 + a 7 * B 1 7) * t 1 + (a 0 * B 2 0 + a 1 * B 2 1 + a 2 * B 2 2 + a 3 * B 2 3 + a 4 * B 2 4 + a 5 * B 2 5 + a 6 * B 2 6 + a 7 * B 2 7) * t 2 + (a 0 * B 3 0 + a 1 * B 3 1 + a 2 * B 3 2 + a 3 * B 3 3 + a 4 * B 3 4 + a 5 * B 3 5 + a 6 * B 3 6 + a 7 * B 3 7) * t 3 + (a 0 * B 4 0 + a 1 * B 4 1 + a 2 * B 4 2 + a 3 * B 4 3 + a 4 * B 4 4 + a 5 * B 4 5 + a 6 * B 4 6 + a 7 * B 4 7) * t 4 + (a 0 * B 5 0 + a 1 * B 5 1 + a 2 * B 5 2 + a 3 * B 5 3 + a 4 * B 5 4 + a 5 * B 5 5 + a 6 * B 5 6 + a 7 * B 5 7) * t 5 + (a 0 * B 6 0 + a 1 * B 6 1 + a 2 * B 6 2 + a 3 * B 6 3 + a 4 * B 6 4 + a 5 * B 6 5 + a 6 * B 6 6 + a 7 * B 6 7) * t 6 + (a 0 * B 7 0 + a 1 * B 7 1 + a 2 * B 7 2 + a 3 * B 7 3 + a 4 * B 7 4 + a 5 * B 7 5 + a 6 * B 7 6 + a 7 * B 7 7) * t 7 := by
  simp only [Int.mul_add, Int.add_mul, Int.mul_assoc]
  ac_rfl
theorem exT_S (f S : Nat → Int) (hS : ∀ v u, v < 8 → u < 8 → S (8 * v + u) = exact2 f v u) (v x : Nat) (hv : v < 8) (hx : x < 8) :
    exT S v x = gT (x * 8 + 0) * colSum f v 0 + gT (x * 8 + 1) * colSum f v 1 + gT (x * 8 + 2) * colSum f v 2 + gT (x * 8 + 3) * colSum f v 3 + gT (x * 8 + 4) * colSum f v 4 + gT (x * 8 + 5) * colSum f v 5 + gT (x * 8 + 6) * colSum f v 6 + gT (x * 8 + 7) * colSum f v 7 := by
  unfold exT
  rw [hS v 0 hv (by omega), hS v 1 hv (by omega), hS v 2 hv (by omega), hS v 3 hv (by omega), hS v 4 hv (by omega), hS v 5 hv (by omega), hS v 6 hv (by omega), hS v 7 hv (by omega)]
  unfold exact2
  have h := gramswap (fun u => bN (x * 8 + u)) (fun x' u => bN (x' * 8 + u)) (fun x' => colSum f v x')
  rw [← gram x hx 0 (by omega), ← gram x hx 1 (by omega), ← gram x hx 2 (by omega), ← gram x hx 3 (by omega), ← gram x hx 4 (by omega), ← gram x hx 5 (by omega), ← gram x hx 6 (by omega), ← gram x hx 7 (by omega)]
  exact h
/-- The rows' part of the sum there and back. -/
def hB (f : Nat → Int) (y x : Nat) : Int := gT (y * 8 + 0) * (f (8 * 0 + x) - 128) + gT (y * 8 + 1) * (f (8 * 1 + x) - 128) + gT (y * 8 + 2) * (f (8 * 2 + x) - 128) + gT (y * 8 + 3) * (f (8 * 3 + x) - 128) + gT (y * 8 + 4) * (f (8 * 4 + x) - 128) + gT (y * 8 + 5) * (f (8 * 5 + x) - 128) + gT (y * 8 + 6) * (f (8 * 6 + x) - 128) + gT (y * 8 + 7) * (f (8 * 7 + x) - 128)
theorem exS_S (f S : Nat → Int) (hS : ∀ v u, v < 8 → u < 8 → S (8 * v + u) = exact2 f v u) (y x : Nat) (hy : y < 8) (hx : x < 8) :
    exS S y x = gT (x * 8 + 0) * hB f y 0 + gT (x * 8 + 1) * hB f y 1 + gT (x * 8 + 2) * hB f y 2 + gT (x * 8 + 3) * hB f y 3 + gT (x * 8 + 4) * hB f y 4 + gT (x * 8 + 5) * hB f y 5 + gT (x * 8 + 6) * hB f y 6 + gT (x * 8 + 7) * hB f y 7 := by
  have e : ∀ x', bN (y * 8 + 0) * colSum f 0 x' + bN (y * 8 + 1) * colSum f 1 x' + bN (y * 8 + 2) * colSum f 2 x' + bN (y * 8 + 3) * colSum f 3 x' + bN (y * 8 + 4) * colSum f 4 x' + bN (y * 8 + 5) * colSum f 5 x' + bN (y * 8 + 6) * colSum f 6 x' + bN (y * 8 + 7) * colSum f 7 x' = hB f y x' := fun x' => by
    unfold colSum hB
    have h := gramswap (fun v => bN (y * 8 + v)) (fun y' v => bN (y' * 8 + v)) (fun y' => f (8 * y' + x') - 128)
    rw [← gram y hy 0 (by omega), ← gram y hy 1 (by omega), ← gram y hy 2 (by omega), ← gram y hy 3 (by omega), ← gram y hy 4 (by omega), ← gram y hy 5 (by omega), ← gram y hy 6 (by omega), ← gram y hy 7 (by omega)]
    exact h
  have h := exchange (fun x' => gT (x * 8 + x')) (fun v => bN (y * 8 + v)) (fun v x' => colSum f v x')
  simp only [e] at h
  unfold exS
  rw [exT_S f S hS 0 x (by omega) hx, exT_S f S hS 1 x (by omega) hx, exT_S f S hS 2 x (by omega) hx, exT_S f S hS 3 x (by omega) hx, exT_S f S hS 4 x (by omega) hx, exT_S f S hS 5 x (by omega) hx, exT_S f S hS 6 x (by omega) hx, exT_S f S hS 7 x (by omega) hx]
  exact h
theorem gr0 (g0 g1 g2 g3 g4 g5 g6 g7 : Int) (k0 : -128 ≤ g0 ∧ g0 ≤ 127) (k1 : -128 ≤ g1 ∧ g1 ≤ 127) (k2 : -128 ≤ g2 ∧ g2 ≤ 127) (k3 : -128 ≤ g3 ∧ g3 ≤ 127) (k4 : -128 ≤ g4 ∧ g4 ≤ 127) (k5 : -128 ≤ g5 ∧ g5 ≤ 127) (k6 : -128 ≤ g6 ∧ g6 ≤ 127) (k7 : -128 ≤ g7 ∧ g7 ≤ 127) : -484664320 ≤ 1099512795298 * g0 + (-276042) * g1 + 276042 * g2 + 679831 * g3 + 679831 * g4 + (-276042) * g5 + 276042 * g6 + (-155088) * g7 - g0 * 1099511627776 ∧ 1099512795298 * g0 + (-276042) * g1 + 276042 * g2 + 679831 * g3 + 679831 * g4 + (-276042) * g5 + 276042 * g6 + (-155088) * g7 - g0 * 1099511627776 ≤ 484664320 := ⟨by omega, by omega⟩
theorem gs0 (g0 g1 g2 g3 g4 g5 g6 g7 : Int) (k0 : -140737973019648 ≤ g0 ∧ g0 ≤ 140737973019648) (k1 : -140737973019648 ≤ g1 ∧ g1 ≤ 140737973019648) (k2 : -140737973019648 ≤ g2 ∧ g2 ≤ 140737973019648) (k3 : -140737973019648 ≤ g3 ∧ g3 ≤ 140737973019648) (k4 : -140737973019648 ≤ g4 ∧ g4 ≤ 140737973019648) (k5 : -140737973019648 ≤ g5 ∧ g5 ≤ 140737973019648) (k6 : -140737973019648 ≤ g6 ∧ g6 ≤ 140737973019648) (k7 : -140737973019648 ≤ g7 ∧ g7 ≤ 140737973019648) : -532895890560515973120 ≤ 1099512795298 * g0 + (-276042) * g1 + 276042 * g2 + 679831 * g3 + 679831 * g4 + (-276042) * g5 + 276042 * g6 + (-155088) * g7 - g0 * 1099511627776 ∧ 1099512795298 * g0 + (-276042) * g1 + 276042 * g2 + 679831 * g3 + 679831 * g4 + (-276042) * g5 + 276042 * g6 + (-155088) * g7 - g0 * 1099511627776 ≤ 532895890560515973120 := ⟨by omega, by omega⟩
theorem gr1 (g0 g1 g2 g3 g4 g5 g6 g7 : Int) (k0 : -128 ≤ g0 ∧ g0 ≤ 127) (k1 : -128 ≤ g1 ∧ g1 ≤ 127) (k2 : -128 ≤ g2 ∧ g2 ≤ 127) (k3 : -128 ≤ g3 ∧ g3 ≤ 127) (k4 : -128 ≤ g4 ∧ g4 ≤ 127) (k5 : -128 ≤ g5 ∧ g5 ≤ 127) (k6 : -128 ≤ g6 ∧ g6 ≤ 127) (k7 : -128 ≤ g7 ∧ g7 ≤ 127) : -484664320 ≤ (-276042) * g0 + 1099512795298 * g1 + 679831 * g2 + 276042 * g3 + (-276042) * g4 + 679831 * g5 + (-155088) * g6 + 276042 * g7 - g1 * 1099511627776 ∧ (-276042) * g0 + 1099512795298 * g1 + 679831 * g2 + 276042 * g3 + (-276042) * g4 + 679831 * g5 + (-155088) * g6 + 276042 * g7 - g1 * 1099511627776 ≤ 484664320 := ⟨by omega, by omega⟩
theorem gs1 (g0 g1 g2 g3 g4 g5 g6 g7 : Int) (k0 : -140737973019648 ≤ g0 ∧ g0 ≤ 140737973019648) (k1 : -140737973019648 ≤ g1 ∧ g1 ≤ 140737973019648) (k2 : -140737973019648 ≤ g2 ∧ g2 ≤ 140737973019648) (k3 : -140737973019648 ≤ g3 ∧ g3 ≤ 140737973019648) (k4 : -140737973019648 ≤ g4 ∧ g4 ≤ 140737973019648) (k5 : -140737973019648 ≤ g5 ∧ g5 ≤ 140737973019648) (k6 : -140737973019648 ≤ g6 ∧ g6 ≤ 140737973019648) (k7 : -140737973019648 ≤ g7 ∧ g7 ≤ 140737973019648) : -532895890560515973120 ≤ (-276042) * g0 + 1099512795298 * g1 + 679831 * g2 + 276042 * g3 + (-276042) * g4 + 679831 * g5 + (-155088) * g6 + 276042 * g7 - g1 * 1099511627776 ∧ (-276042) * g0 + 1099512795298 * g1 + 679831 * g2 + 276042 * g3 + (-276042) * g4 + 679831 * g5 + (-155088) * g6 + 276042 * g7 - g1 * 1099511627776 ≤ 532895890560515973120 := ⟨by omega, by omega⟩
theorem gr2 (g0 g1 g2 g3 g4 g5 g6 g7 : Int) (k0 : -128 ≤ g0 ∧ g0 ≤ 127) (k1 : -128 ≤ g1 ∧ g1 ≤ 127) (k2 : -128 ≤ g2 ∧ g2 ≤ 127) (k3 : -128 ≤ g3 ∧ g3 ≤ 127) (k4 : -128 ≤ g4 ∧ g4 ≤ 127) (k5 : -128 ≤ g5 ∧ g5 ≤ 127) (k6 : -128 ≤ g6 ∧ g6 ≤ 127) (k7 : -128 ≤ g7 ∧ g7 ≤ 127) : -484664320 ≤ 276042 * g0 + 679831 * g1 + 1099512795298 * g2 + 276042 * g3 + (-276042) * g4 + (-155088) * g5 + 679831 * g6 + (-276042) * g7 - g2 * 1099511627776 ∧ 276042 * g0 + 679831 * g1 + 1099512795298 * g2 + 276042 * g3 + (-276042) * g4 + (-155088) * g5 + 679831 * g6 + (-276042) * g7 - g2 * 1099511627776 ≤ 484664320 := ⟨by omega, by omega⟩
theorem gs2 (g0 g1 g2 g3 g4 g5 g6 g7 : Int) (k0 : -140737973019648 ≤ g0 ∧ g0 ≤ 140737973019648) (k1 : -140737973019648 ≤ g1 ∧ g1 ≤ 140737973019648) (k2 : -140737973019648 ≤ g2 ∧ g2 ≤ 140737973019648) (k3 : -140737973019648 ≤ g3 ∧ g3 ≤ 140737973019648) (k4 : -140737973019648 ≤ g4 ∧ g4 ≤ 140737973019648) (k5 : -140737973019648 ≤ g5 ∧ g5 ≤ 140737973019648) (k6 : -140737973019648 ≤ g6 ∧ g6 ≤ 140737973019648) (k7 : -140737973019648 ≤ g7 ∧ g7 ≤ 140737973019648) : -532895890560515973120 ≤ 276042 * g0 + 679831 * g1 + 1099512795298 * g2 + 276042 * g3 + (-276042) * g4 + (-155088) * g5 + 679831 * g6 + (-276042) * g7 - g2 * 1099511627776 ∧ 276042 * g0 + 679831 * g1 + 1099512795298 * g2 + 276042 * g3 + (-276042) * g4 + (-155088) * g5 + 679831 * g6 + (-276042) * g7 - g2 * 1099511627776 ≤ 532895890560515973120 := ⟨by omega, by omega⟩
theorem gr3 (g0 g1 g2 g3 g4 g5 g6 g7 : Int) (k0 : -128 ≤ g0 ∧ g0 ≤ 127) (k1 : -128 ≤ g1 ∧ g1 ≤ 127) (k2 : -128 ≤ g2 ∧ g2 ≤ 127) (k3 : -128 ≤ g3 ∧ g3 ≤ 127) (k4 : -128 ≤ g4 ∧ g4 ≤ 127) (k5 : -128 ≤ g5 ∧ g5 ≤ 127) (k6 : -128 ≤ g6 ∧ g6 ≤ 127) (k7 : -128 ≤ g7 ∧ g7 ≤ 127) : -484664320 ≤ 679831 * g0 + 276042 * g1 + 276042 * g2 + 1099512795298 * g3 + (-155088) * g4 + (-276042) * g5 + (-276042) * g6 + 679831 * g7 - g3 * 1099511627776 ∧ 679831 * g0 + 276042 * g1 + 276042 * g2 + 1099512795298 * g3 + (-155088) * g4 + (-276042) * g5 + (-276042) * g6 + 679831 * g7 - g3 * 1099511627776 ≤ 484664320 := ⟨by omega, by omega⟩
theorem gs3 (g0 g1 g2 g3 g4 g5 g6 g7 : Int) (k0 : -140737973019648 ≤ g0 ∧ g0 ≤ 140737973019648) (k1 : -140737973019648 ≤ g1 ∧ g1 ≤ 140737973019648) (k2 : -140737973019648 ≤ g2 ∧ g2 ≤ 140737973019648) (k3 : -140737973019648 ≤ g3 ∧ g3 ≤ 140737973019648) (k4 : -140737973019648 ≤ g4 ∧ g4 ≤ 140737973019648) (k5 : -140737973019648 ≤ g5 ∧ g5 ≤ 140737973019648) (k6 : -140737973019648 ≤ g6 ∧ g6 ≤ 140737973019648) (k7 : -140737973019648 ≤ g7 ∧ g7 ≤ 140737973019648) : -532895890560515973120 ≤ 679831 * g0 + 276042 * g1 + 276042 * g2 + 1099512795298 * g3 + (-155088) * g4 + (-276042) * g5 + (-276042) * g6 + 679831 * g7 - g3 * 1099511627776 ∧ 679831 * g0 + 276042 * g1 + 276042 * g2 + 1099512795298 * g3 + (-155088) * g4 + (-276042) * g5 + (-276042) * g6 + 679831 * g7 - g3 * 1099511627776 ≤ 532895890560515973120 := ⟨by omega, by omega⟩
theorem gr4 (g0 g1 g2 g3 g4 g5 g6 g7 : Int) (k0 : -128 ≤ g0 ∧ g0 ≤ 127) (k1 : -128 ≤ g1 ∧ g1 ≤ 127) (k2 : -128 ≤ g2 ∧ g2 ≤ 127) (k3 : -128 ≤ g3 ∧ g3 ≤ 127) (k4 : -128 ≤ g4 ∧ g4 ≤ 127) (k5 : -128 ≤ g5 ∧ g5 ≤ 127) (k6 : -128 ≤ g6 ∧ g6 ≤ 127) (k7 : -128 ≤ g7 ∧ g7 ≤ 127) : -484664320 ≤ 679831 * g0 + (-276042) * g1 + (-276042) * g2 + (-155088) * g3 + 1099512795298 * g4 + 276042 * g5 + 276042 * g6 + 679831 * g7 - g4 * 1099511627776 ∧ 679831 * g0 + (-276042) * g1 + (-276042) * g2 + (-155088) * g3 + 1099512795298 * g4 + 276042 * g5 + 276042 * g6 + 679831 * g7 - g4 * 1099511627776 ≤ 484664320 := ⟨by omega, by omega⟩
theorem gs4 (g0 g1 g2 g3 g4 g5 g6 g7 : Int) (k0 : -140737973019648 ≤ g0 ∧ g0 ≤ 140737973019648) (k1 : -140737973019648 ≤ g1 ∧ g1 ≤ 140737973019648) (k2 : -140737973019648 ≤ g2 ∧ g2 ≤ 140737973019648) (k3 : -140737973019648 ≤ g3 ∧ g3 ≤ 140737973019648) (k4 : -140737973019648 ≤ g4 ∧ g4 ≤ 140737973019648) (k5 : -140737973019648 ≤ g5 ∧ g5 ≤ 140737973019648) (k6 : -140737973019648 ≤ g6 ∧ g6 ≤ 140737973019648) (k7 : -140737973019648 ≤ g7 ∧ g7 ≤ 140737973019648) : -532895890560515973120 ≤ 679831 * g0 + (-276042) * g1 + (-276042) * g2 + (-155088) * g3 + 1099512795298 * g4 + 276042 * g5 + 276042 * g6 + 679831 * g7 - g4 * 1099511627776 ∧ 679831 * g0 + (-276042) * g1 + (-276042) * g2 + (-155088) * g3 + 1099512795298 * g4 + 276042 * g5 + 276042 * g6 + 679831 * g7 - g4 * 1099511627776 ≤ 532895890560515973120 := ⟨by omega, by omega⟩
theorem gr5 (g0 g1 g2 g3 g4 g5 g6 g7 : Int) (k0 : -128 ≤ g0 ∧ g0 ≤ 127) (k1 : -128 ≤ g1 ∧ g1 ≤ 127) (k2 : -128 ≤ g2 ∧ g2 ≤ 127) (k3 : -128 ≤ g3 ∧ g3 ≤ 127) (k4 : -128 ≤ g4 ∧ g4 ≤ 127) (k5 : -128 ≤ g5 ∧ g5 ≤ 127) (k6 : -128 ≤ g6 ∧ g6 ≤ 127) (k7 : -128 ≤ g7 ∧ g7 ≤ 127) : -484664320 ≤ (-276042) * g0 + 679831 * g1 + (-155088) * g2 + (-276042) * g3 + 276042 * g4 + 1099512795298 * g5 + 679831 * g6 + 276042 * g7 - g5 * 1099511627776 ∧ (-276042) * g0 + 679831 * g1 + (-155088) * g2 + (-276042) * g3 + 276042 * g4 + 1099512795298 * g5 + 679831 * g6 + 276042 * g7 - g5 * 1099511627776 ≤ 484664320 := ⟨by omega, by omega⟩
theorem gs5 (g0 g1 g2 g3 g4 g5 g6 g7 : Int) (k0 : -140737973019648 ≤ g0 ∧ g0 ≤ 140737973019648) (k1 : -140737973019648 ≤ g1 ∧ g1 ≤ 140737973019648) (k2 : -140737973019648 ≤ g2 ∧ g2 ≤ 140737973019648) (k3 : -140737973019648 ≤ g3 ∧ g3 ≤ 140737973019648) (k4 : -140737973019648 ≤ g4 ∧ g4 ≤ 140737973019648) (k5 : -140737973019648 ≤ g5 ∧ g5 ≤ 140737973019648) (k6 : -140737973019648 ≤ g6 ∧ g6 ≤ 140737973019648) (k7 : -140737973019648 ≤ g7 ∧ g7 ≤ 140737973019648) : -532895890560515973120 ≤ (-276042) * g0 + 679831 * g1 + (-155088) * g2 + (-276042) * g3 + 276042 * g4 + 1099512795298 * g5 + 679831 * g6 + 276042 * g7 - g5 * 1099511627776 ∧ (-276042) * g0 + 679831 * g1 + (-155088) * g2 + (-276042) * g3 + 276042 * g4 + 1099512795298 * g5 + 679831 * g6 + 276042 * g7 - g5 * 1099511627776 ≤ 532895890560515973120 := ⟨by omega, by omega⟩
theorem gr6 (g0 g1 g2 g3 g4 g5 g6 g7 : Int) (k0 : -128 ≤ g0 ∧ g0 ≤ 127) (k1 : -128 ≤ g1 ∧ g1 ≤ 127) (k2 : -128 ≤ g2 ∧ g2 ≤ 127) (k3 : -128 ≤ g3 ∧ g3 ≤ 127) (k4 : -128 ≤ g4 ∧ g4 ≤ 127) (k5 : -128 ≤ g5 ∧ g5 ≤ 127) (k6 : -128 ≤ g6 ∧ g6 ≤ 127) (k7 : -128 ≤ g7 ∧ g7 ≤ 127) : -484664320 ≤ 276042 * g0 + (-155088) * g1 + 679831 * g2 + (-276042) * g3 + 276042 * g4 + 679831 * g5 + 1099512795298 * g6 + (-276042) * g7 - g6 * 1099511627776 ∧ 276042 * g0 + (-155088) * g1 + 679831 * g2 + (-276042) * g3 + 276042 * g4 + 679831 * g5 + 1099512795298 * g6 + (-276042) * g7 - g6 * 1099511627776 ≤ 484664320 := ⟨by omega, by omega⟩
theorem gs6 (g0 g1 g2 g3 g4 g5 g6 g7 : Int) (k0 : -140737973019648 ≤ g0 ∧ g0 ≤ 140737973019648) (k1 : -140737973019648 ≤ g1 ∧ g1 ≤ 140737973019648) (k2 : -140737973019648 ≤ g2 ∧ g2 ≤ 140737973019648) (k3 : -140737973019648 ≤ g3 ∧ g3 ≤ 140737973019648) (k4 : -140737973019648 ≤ g4 ∧ g4 ≤ 140737973019648) (k5 : -140737973019648 ≤ g5 ∧ g5 ≤ 140737973019648) (k6 : -140737973019648 ≤ g6 ∧ g6 ≤ 140737973019648) (k7 : -140737973019648 ≤ g7 ∧ g7 ≤ 140737973019648) : -532895890560515973120 ≤ 276042 * g0 + (-155088) * g1 + 679831 * g2 + (-276042) * g3 + 276042 * g4 + 679831 * g5 + 1099512795298 * g6 + (-276042) * g7 - g6 * 1099511627776 ∧ 276042 * g0 + (-155088) * g1 + 679831 * g2 + (-276042) * g3 + 276042 * g4 + 679831 * g5 + 1099512795298 * g6 + (-276042) * g7 - g6 * 1099511627776 ≤ 532895890560515973120 := ⟨by omega, by omega⟩
theorem gr7 (g0 g1 g2 g3 g4 g5 g6 g7 : Int) (k0 : -128 ≤ g0 ∧ g0 ≤ 127) (k1 : -128 ≤ g1 ∧ g1 ≤ 127) (k2 : -128 ≤ g2 ∧ g2 ≤ 127) (k3 : -128 ≤ g3 ∧ g3 ≤ 127) (k4 : -128 ≤ g4 ∧ g4 ≤ 127) (k5 : -128 ≤ g5 ∧ g5 ≤ 127) (k6 : -128 ≤ g6 ∧ g6 ≤ 127) (k7 : -128 ≤ g7 ∧ g7 ≤ 127) : -484664320 ≤ (-155088) * g0 + 276042 * g1 + (-276042) * g2 + 679831 * g3 + 679831 * g4 + 276042 * g5 + (-276042) * g6 + 1099512795298 * g7 - g7 * 1099511627776 ∧ (-155088) * g0 + 276042 * g1 + (-276042) * g2 + 679831 * g3 + 679831 * g4 + 276042 * g5 + (-276042) * g6 + 1099512795298 * g7 - g7 * 1099511627776 ≤ 484664320 := ⟨by omega, by omega⟩
theorem gs7 (g0 g1 g2 g3 g4 g5 g6 g7 : Int) (k0 : -140737973019648 ≤ g0 ∧ g0 ≤ 140737973019648) (k1 : -140737973019648 ≤ g1 ∧ g1 ≤ 140737973019648) (k2 : -140737973019648 ≤ g2 ∧ g2 ≤ 140737973019648) (k3 : -140737973019648 ≤ g3 ∧ g3 ≤ 140737973019648) (k4 : -140737973019648 ≤ g4 ∧ g4 ≤ 140737973019648) (k5 : -140737973019648 ≤ g5 ∧ g5 ≤ 140737973019648) (k6 : -140737973019648 ≤ g6 ∧ g6 ≤ 140737973019648) (k7 : -140737973019648 ≤ g7 ∧ g7 ≤ 140737973019648) : -532895890560515973120 ≤ (-155088) * g0 + 276042 * g1 + (-276042) * g2 + 679831 * g3 + 679831 * g4 + 276042 * g5 + (-276042) * g6 + 1099512795298 * g7 - g7 * 1099511627776 ∧ (-155088) * g0 + 276042 * g1 + (-276042) * g2 + 679831 * g3 + 679831 * g4 + 276042 * g5 + (-276042) * g6 + 1099512795298 * g7 - g7 * 1099511627776 ≤ 532895890560515973120 := ⟨by omega, by omega⟩
theorem hB_near (f : Nat → Int) (hf : ∀ j, 0 ≤ f j ∧ f j ≤ 255) (y x : Nat) (hy : y < 8) : -484664320 ≤ hB f y x - (f (8 * y + x) - 128) * 1099511627776 ∧ hB f y x - (f (8 * y + x) - 128) * 1099511627776 ≤ 484664320 := by
  unfold hB
  have k : ∀ i, -128 ≤ f i - 128 ∧ f i - 128 ≤ 127 := fun i => by have := hf i; omega
  obtain rfl | rfl | rfl | rfl | rfl | rfl | rfl | rfl : y = 0 ∨ y = 1 ∨ y = 2 ∨ y = 3 ∨ y = 4 ∨ y = 5 ∨ y = 6 ∨ y = 7 := by omega
  · rw [show gT (0 * 8 + 0) = 1099512795298 from rfl, show gT (0 * 8 + 1) = (-276042) from rfl, show gT (0 * 8 + 2) = 276042 from rfl, show gT (0 * 8 + 3) = 679831 from rfl, show gT (0 * 8 + 4) = 679831 from rfl, show gT (0 * 8 + 5) = (-276042) from rfl, show gT (0 * 8 + 6) = 276042 from rfl, show gT (0 * 8 + 7) = (-155088) from rfl]
    exact gr0 _ _ _ _ _ _ _ _ (k _) (k _) (k _) (k _) (k _) (k _) (k _) (k _)
  · rw [show gT (1 * 8 + 0) = (-276042) from rfl, show gT (1 * 8 + 1) = 1099512795298 from rfl, show gT (1 * 8 + 2) = 679831 from rfl, show gT (1 * 8 + 3) = 276042 from rfl, show gT (1 * 8 + 4) = (-276042) from rfl, show gT (1 * 8 + 5) = 679831 from rfl, show gT (1 * 8 + 6) = (-155088) from rfl, show gT (1 * 8 + 7) = 276042 from rfl]
    exact gr1 _ _ _ _ _ _ _ _ (k _) (k _) (k _) (k _) (k _) (k _) (k _) (k _)
  · rw [show gT (2 * 8 + 0) = 276042 from rfl, show gT (2 * 8 + 1) = 679831 from rfl, show gT (2 * 8 + 2) = 1099512795298 from rfl, show gT (2 * 8 + 3) = 276042 from rfl, show gT (2 * 8 + 4) = (-276042) from rfl, show gT (2 * 8 + 5) = (-155088) from rfl, show gT (2 * 8 + 6) = 679831 from rfl, show gT (2 * 8 + 7) = (-276042) from rfl]
    exact gr2 _ _ _ _ _ _ _ _ (k _) (k _) (k _) (k _) (k _) (k _) (k _) (k _)
  · rw [show gT (3 * 8 + 0) = 679831 from rfl, show gT (3 * 8 + 1) = 276042 from rfl, show gT (3 * 8 + 2) = 276042 from rfl, show gT (3 * 8 + 3) = 1099512795298 from rfl, show gT (3 * 8 + 4) = (-155088) from rfl, show gT (3 * 8 + 5) = (-276042) from rfl, show gT (3 * 8 + 6) = (-276042) from rfl, show gT (3 * 8 + 7) = 679831 from rfl]
    exact gr3 _ _ _ _ _ _ _ _ (k _) (k _) (k _) (k _) (k _) (k _) (k _) (k _)
  · rw [show gT (4 * 8 + 0) = 679831 from rfl, show gT (4 * 8 + 1) = (-276042) from rfl, show gT (4 * 8 + 2) = (-276042) from rfl, show gT (4 * 8 + 3) = (-155088) from rfl, show gT (4 * 8 + 4) = 1099512795298 from rfl, show gT (4 * 8 + 5) = 276042 from rfl, show gT (4 * 8 + 6) = 276042 from rfl, show gT (4 * 8 + 7) = 679831 from rfl]
    exact gr4 _ _ _ _ _ _ _ _ (k _) (k _) (k _) (k _) (k _) (k _) (k _) (k _)
  · rw [show gT (5 * 8 + 0) = (-276042) from rfl, show gT (5 * 8 + 1) = 679831 from rfl, show gT (5 * 8 + 2) = (-155088) from rfl, show gT (5 * 8 + 3) = (-276042) from rfl, show gT (5 * 8 + 4) = 276042 from rfl, show gT (5 * 8 + 5) = 1099512795298 from rfl, show gT (5 * 8 + 6) = 679831 from rfl, show gT (5 * 8 + 7) = 276042 from rfl]
    exact gr5 _ _ _ _ _ _ _ _ (k _) (k _) (k _) (k _) (k _) (k _) (k _) (k _)
  · rw [show gT (6 * 8 + 0) = 276042 from rfl, show gT (6 * 8 + 1) = (-155088) from rfl, show gT (6 * 8 + 2) = 679831 from rfl, show gT (6 * 8 + 3) = (-276042) from rfl, show gT (6 * 8 + 4) = 276042 from rfl, show gT (6 * 8 + 5) = 679831 from rfl, show gT (6 * 8 + 6) = 1099512795298 from rfl, show gT (6 * 8 + 7) = (-276042) from rfl]
    exact gr6 _ _ _ _ _ _ _ _ (k _) (k _) (k _) (k _) (k _) (k _) (k _) (k _)
  · rw [show gT (7 * 8 + 0) = (-155088) from rfl, show gT (7 * 8 + 1) = 276042 from rfl, show gT (7 * 8 + 2) = (-276042) from rfl, show gT (7 * 8 + 3) = 679831 from rfl, show gT (7 * 8 + 4) = 679831 from rfl, show gT (7 * 8 + 5) = 276042 from rfl, show gT (7 * 8 + 6) = (-276042) from rfl, show gT (7 * 8 + 7) = 1099512795298 from rfl]
    exact gr7 _ _ _ _ _ _ _ _ (k _) (k _) (k _) (k _) (k _) (k _) (k _) (k _)
theorem back_near (f S : Nat → Int) (hf : ∀ j, 0 ≤ f j ∧ f j ≤ 255) (hS : ∀ v u, v < 8 → u < 8 → S (8 * v + u) = exact2 f v u) (y x : Nat) (hy : y < 8) (hx : x < 8) :
    -1065789945968664125440 ≤ exS S y x - (f (8 * y + x) - 128) * 1208925819614629174706176 ∧ exS S y x - (f (8 * y + x) - 128) * 1208925819614629174706176 ≤ 1065789945968664125440 := by
  rw [exS_S f S hS y x hy hx]
  have h1 := hB_near f hf y x hy
  have hk : ∀ i, -140737973019648 ≤ hB f y i ∧ hB f y i ≤ 140737973019648 := fun i => by
    have := hB_near f hf y i hy
    have := hf (8 * y + i)
    generalize hB f y i = h at *
    generalize f (8 * y + i) = g at *
    exact ⟨by omega, by omega⟩
  have h2 : -532895890560515973120 ≤ gT (x * 8 + 0) * hB f y 0 + gT (x * 8 + 1) * hB f y 1 + gT (x * 8 + 2) * hB f y 2 + gT (x * 8 + 3) * hB f y 3 + gT (x * 8 + 4) * hB f y 4 + gT (x * 8 + 5) * hB f y 5 + gT (x * 8 + 6) * hB f y 6 + gT (x * 8 + 7) * hB f y 7 - hB f y x * 1099511627776 ∧ gT (x * 8 + 0) * hB f y 0 + gT (x * 8 + 1) * hB f y 1 + gT (x * 8 + 2) * hB f y 2 + gT (x * 8 + 3) * hB f y 3 + gT (x * 8 + 4) * hB f y 4 + gT (x * 8 + 5) * hB f y 5 + gT (x * 8 + 6) * hB f y 6 + gT (x * 8 + 7) * hB f y 7 - hB f y x * 1099511627776 ≤ 532895890560515973120 := by
    clear h1
    obtain rfl | rfl | rfl | rfl | rfl | rfl | rfl | rfl : x = 0 ∨ x = 1 ∨ x = 2 ∨ x = 3 ∨ x = 4 ∨ x = 5 ∨ x = 6 ∨ x = 7 := by omega
    · rw [show gT (0 * 8 + 0) = 1099512795298 from rfl, show gT (0 * 8 + 1) = (-276042) from rfl, show gT (0 * 8 + 2) = 276042 from rfl, show gT (0 * 8 + 3) = 679831 from rfl, show gT (0 * 8 + 4) = 679831 from rfl, show gT (0 * 8 + 5) = (-276042) from rfl, show gT (0 * 8 + 6) = 276042 from rfl, show gT (0 * 8 + 7) = (-155088) from rfl]
      exact gs0 _ _ _ _ _ _ _ _ (hk _) (hk _) (hk _) (hk _) (hk _) (hk _) (hk _) (hk _)
    · rw [show gT (1 * 8 + 0) = (-276042) from rfl, show gT (1 * 8 + 1) = 1099512795298 from rfl, show gT (1 * 8 + 2) = 679831 from rfl, show gT (1 * 8 + 3) = 276042 from rfl, show gT (1 * 8 + 4) = (-276042) from rfl, show gT (1 * 8 + 5) = 679831 from rfl, show gT (1 * 8 + 6) = (-155088) from rfl, show gT (1 * 8 + 7) = 276042 from rfl]
      exact gs1 _ _ _ _ _ _ _ _ (hk _) (hk _) (hk _) (hk _) (hk _) (hk _) (hk _) (hk _)
    · rw [show gT (2 * 8 + 0) = 276042 from rfl, show gT (2 * 8 + 1) = 679831 from rfl, show gT (2 * 8 + 2) = 1099512795298 from rfl, show gT (2 * 8 + 3) = 276042 from rfl, show gT (2 * 8 + 4) = (-276042) from rfl, show gT (2 * 8 + 5) = (-155088) from rfl, show gT (2 * 8 + 6) = 679831 from rfl, show gT (2 * 8 + 7) = (-276042) from rfl]
      exact gs2 _ _ _ _ _ _ _ _ (hk _) (hk _) (hk _) (hk _) (hk _) (hk _) (hk _) (hk _)
    · rw [show gT (3 * 8 + 0) = 679831 from rfl, show gT (3 * 8 + 1) = 276042 from rfl, show gT (3 * 8 + 2) = 276042 from rfl, show gT (3 * 8 + 3) = 1099512795298 from rfl, show gT (3 * 8 + 4) = (-155088) from rfl, show gT (3 * 8 + 5) = (-276042) from rfl, show gT (3 * 8 + 6) = (-276042) from rfl, show gT (3 * 8 + 7) = 679831 from rfl]
      exact gs3 _ _ _ _ _ _ _ _ (hk _) (hk _) (hk _) (hk _) (hk _) (hk _) (hk _) (hk _)
    · rw [show gT (4 * 8 + 0) = 679831 from rfl, show gT (4 * 8 + 1) = (-276042) from rfl, show gT (4 * 8 + 2) = (-276042) from rfl, show gT (4 * 8 + 3) = (-155088) from rfl, show gT (4 * 8 + 4) = 1099512795298 from rfl, show gT (4 * 8 + 5) = 276042 from rfl, show gT (4 * 8 + 6) = 276042 from rfl, show gT (4 * 8 + 7) = 679831 from rfl]
      exact gs4 _ _ _ _ _ _ _ _ (hk _) (hk _) (hk _) (hk _) (hk _) (hk _) (hk _) (hk _)
    · rw [show gT (5 * 8 + 0) = (-276042) from rfl, show gT (5 * 8 + 1) = 679831 from rfl, show gT (5 * 8 + 2) = (-155088) from rfl, show gT (5 * 8 + 3) = (-276042) from rfl, show gT (5 * 8 + 4) = 276042 from rfl, show gT (5 * 8 + 5) = 1099512795298 from rfl, show gT (5 * 8 + 6) = 679831 from rfl, show gT (5 * 8 + 7) = 276042 from rfl]
      exact gs5 _ _ _ _ _ _ _ _ (hk _) (hk _) (hk _) (hk _) (hk _) (hk _) (hk _) (hk _)
    · rw [show gT (6 * 8 + 0) = 276042 from rfl, show gT (6 * 8 + 1) = (-155088) from rfl, show gT (6 * 8 + 2) = 679831 from rfl, show gT (6 * 8 + 3) = (-276042) from rfl, show gT (6 * 8 + 4) = 276042 from rfl, show gT (6 * 8 + 5) = 679831 from rfl, show gT (6 * 8 + 6) = 1099512795298 from rfl, show gT (6 * 8 + 7) = (-276042) from rfl]
      exact gs6 _ _ _ _ _ _ _ _ (hk _) (hk _) (hk _) (hk _) (hk _) (hk _) (hk _) (hk _)
    · rw [show gT (7 * 8 + 0) = (-155088) from rfl, show gT (7 * 8 + 1) = 276042 from rfl, show gT (7 * 8 + 2) = (-276042) from rfl, show gT (7 * 8 + 3) = 679831 from rfl, show gT (7 * 8 + 4) = 679831 from rfl, show gT (7 * 8 + 5) = 276042 from rfl, show gT (7 * 8 + 6) = (-276042) from rfl, show gT (7 * 8 + 7) = 1099512795298 from rfl]
      exact gs7 _ _ _ _ _ _ _ _ (hk _) (hk _) (hk _) (hk _) (hk _) (hk _) (hk _) (hk _)
  clear hk hS
  generalize gT (x * 8 + 0) * hB f y 0 + gT (x * 8 + 1) * hB f y 1 + gT (x * 8 + 2) * hB f y 2 + gT (x * 8 + 3) * hB f y 3 + gT (x * 8 + 4) * hB f y 4 + gT (x * 8 + 5) * hB f y 5 + gT (x * 8 + 6) * hB f y 6 + gT (x * 8 + 7) * hB f y 7 = X at *
  generalize hB f y x = h at *
  generalize f (8 * y + x) - 128 = g at *
  exact ⟨by omega, by omega⟩
/-- A sum of the first numbers. -/
def sumTo (t : Nat → Int) : Nat → Int
  | 0 => 0
  | n + 1 => sumTo t n + t n
theorem sum_perm (t : Nat → Int) : sumTo (fun k => t (zN k)) 64 = sumTo t 64 := by
  have e1 : sumTo (fun k => t (zN k)) 64 = 0 + t 0 + t 1 + t 8 + t 16 + t 9 + t 2 + t 3 + t 10 + t 17 + t 24 + t 32 + t 25 + t 18 + t 11 + t 4 + t 5 + t 12 + t 19 + t 26 + t 33 + t 40 + t 48 + t 41 + t 34 + t 27 + t 20 + t 13 + t 6 + t 7 + t 14 + t 21 + t 28 + t 35 + t 42 + t 49 + t 56 + t 57 + t 50 + t 43 + t 36 + t 29 + t 22 + t 15 + t 23 + t 30 + t 37 + t 44 + t 51 + t 58 + t 59 + t 52 + t 45 + t 38 + t 31 + t 39 + t 46 + t 53 + t 60 + t 61 + t 54 + t 47 + t 55 + t 62 + t 63 := rfl
  have e2 : sumTo t 64 = 0 + t 0 + t 1 + t 2 + t 3 + t 4 + t 5 + t 6 + t 7 + t 8 + t 9 + t 10 + t 11 + t 12 + t 13 + t 14 + t 15 + t 16 + t 17 + t 18 + t 19 + t 20 + t 21 + t 22 + t 23 + t 24 + t 25 + t 26 + t 27 + t 28 + t 29 + t 30 + t 31 + t 32 + t 33 + t 34 + t 35 + t 36 + t 37 + t 38 + t 39 + t 40 + t 41 + t 42 + t 43 + t 44 + t 45 + t 46 + t 47 + t 48 + t 49 + t 50 + t 51 + t 52 + t 53 + t 54 + t 55 + t 56 + t 57 + t 58 + t 59 + t 60 + t 61 + t 62 + t 63 := rfl
  rw [e1, e2]
  generalize t 0 = t0
  generalize t 1 = t1
  generalize t 2 = t2
  generalize t 3 = t3
  generalize t 4 = t4
  generalize t 5 = t5
  generalize t 6 = t6
  generalize t 7 = t7
  generalize t 8 = t8
  generalize t 9 = t9
  generalize t 10 = t10
  generalize t 11 = t11
  generalize t 12 = t12
  generalize t 13 = t13
  generalize t 14 = t14
  generalize t 15 = t15
  generalize t 16 = t16
  generalize t 17 = t17
  generalize t 18 = t18
  generalize t 19 = t19
  generalize t 20 = t20
  generalize t 21 = t21
  generalize t 22 = t22
  generalize t 23 = t23
  generalize t 24 = t24
  generalize t 25 = t25
  generalize t 26 = t26
  generalize t 27 = t27
  generalize t 28 = t28
  generalize t 29 = t29
  generalize t 30 = t30
  generalize t 31 = t31
  generalize t 32 = t32
  generalize t 33 = t33
  generalize t 34 = t34
  generalize t 35 = t35
  generalize t 36 = t36
  generalize t 37 = t37
  generalize t 38 = t38
  generalize t 39 = t39
  generalize t 40 = t40
  generalize t 41 = t41
  generalize t 42 = t42
  generalize t 43 = t43
  generalize t 44 = t44
  generalize t 45 = t45
  generalize t 46 = t46
  generalize t 47 = t47
  generalize t 48 = t48
  generalize t 49 = t49
  generalize t 50 = t50
  generalize t 51 = t51
  generalize t 52 = t52
  generalize t 53 = t53
  generalize t 54 = t54
  generalize t 55 = t55
  generalize t 56 = t56
  generalize t 57 = t57
  generalize t 58 = t58
  generalize t 59 = t59
  generalize t 60 = t60
  generalize t 61 = t61
  generalize t 62 = t62
  generalize t 63 = t63
  ac_rfl
theorem nest_key (a b t : Int) : a * (b * t) = t * a * b := by rw [Int.mul_comm b t, ← Int.mul_assoc, Int.mul_comm a t]
theorem nest_sum (y x : Nat) (t : Nat → Int) : nest y x t = sumTo (fun j => t j * aB (y * 8 + j / 8) * aB (x * 8 + j % 8)) 64 := by
  have e1 : sumTo (fun j => t j * aB (y * 8 + j / 8) * aB (x * 8 + j % 8)) 64 = 0 + t 0 * aB (y * 8 + 0) * aB (x * 8 + 0) + t 1 * aB (y * 8 + 0) * aB (x * 8 + 1) + t 2 * aB (y * 8 + 0) * aB (x * 8 + 2) + t 3 * aB (y * 8 + 0) * aB (x * 8 + 3) + t 4 * aB (y * 8 + 0) * aB (x * 8 + 4) + t 5 * aB (y * 8 + 0) * aB (x * 8 + 5) + t 6 * aB (y * 8 + 0) * aB (x * 8 + 6) + t 7 * aB (y * 8 + 0) * aB (x * 8 + 7) + t 8 * aB (y * 8 + 1) * aB (x * 8 + 0) + t 9 * aB (y * 8 + 1) * aB (x * 8 + 1) + t 10 * aB (y * 8 + 1) * aB (x * 8 + 2) + t 11 * aB (y * 8 + 1) * aB (x * 8 + 3) + t 12 * aB (y * 8 + 1) * aB (x * 8 + 4) + t 13 * aB (y * 8 + 1) * aB (x * 8 + 5) + t 14 * aB (y * 8 + 1) * aB (x * 8 + 6) + t 15 * aB (y * 8 + 1) * aB (x * 8 + 7) + t 16 * aB (y * 8 + 2) * aB (x * 8 + 0) + t 17 * aB (y * 8 + 2) * aB (x * 8 + 1) + t 18 * aB (y * 8 + 2) * aB (x * 8 + 2) + t 19 * aB (y * 8 + 2) * aB (x * 8 + 3) + t 20 * aB (y * 8 + 2) * aB (x * 8 + 4) + t 21 * aB (y * 8 + 2) * aB (x * 8 + 5) + t 22 * aB (y * 8 + 2) * aB (x * 8 + 6) + t 23 * aB (y * 8 + 2) * aB (x * 8 + 7) + t 24 * aB (y * 8 + 3) * aB (x * 8 + 0) + t 25 * aB (y * 8 + 3) * aB (x * 8 + 1) + t 26 * aB (y * 8 + 3) * aB (x * 8 + 2) + t 27 * aB (y * 8 + 3) * aB (x * 8 + 3) + t 28 * aB (y * 8 + 3) * aB (x * 8 + 4) + t 29 * aB (y * 8 + 3) * aB (x * 8 + 5) + t 30 * aB (y * 8 + 3) * aB (x * 8 + 6) + t 31 * aB (y * 8 + 3) * aB (x * 8 + 7) + t 32 * aB (y * 8 + 4) * aB (x * 8 + 0) + t 33 * aB (y * 8 + 4) * aB (x * 8 + 1) + t 34 * aB (y * 8 + 4) * aB (x * 8 + 2) + t 35 * aB (y * 8 + 4) * aB (x * 8 + 3) + t 36 * aB (y * 8 + 4) * aB (x * 8 + 4) + t 37 * aB (y * 8 + 4) * aB (x * 8 + 5) + t 38 * aB (y * 8 + 4) * aB (x * 8 + 6) + t 39 * aB (y * 8 + 4) * aB (x * 8 + 7) + t 40 * aB (y * 8 + 5) * aB (x * 8 + 0) + t 41 * aB (y * 8 + 5) * aB (x * 8 + 1) + t 42 * aB (y * 8 + 5) * aB (x * 8 + 2) + t 43 * aB (y * 8 + 5) * aB (x * 8 + 3) + t 44 * aB (y * 8 + 5) * aB (x * 8 + 4) + t 45 * aB (y * 8 + 5) * aB (x * 8 + 5) + t 46 * aB (y * 8 + 5) * aB (x * 8 + 6) + t 47 * aB (y * 8 + 5) * aB (x * 8 + 7) + t 48 * aB (y * 8 + 6) * aB (x * 8 + 0) + t 49 * aB (y * 8 + 6) * aB (x * 8 + 1) + t 50 * aB (y * 8 + 6) * aB (x * 8 + 2) + t 51 * aB (y * 8 + 6) * aB (x * 8 + 3) + t 52 * aB (y * 8 + 6) * aB (x * 8 + 4) + t 53 * aB (y * 8 + 6) * aB (x * 8 + 5) + t 54 * aB (y * 8 + 6) * aB (x * 8 + 6) + t 55 * aB (y * 8 + 6) * aB (x * 8 + 7) + t 56 * aB (y * 8 + 7) * aB (x * 8 + 0) + t 57 * aB (y * 8 + 7) * aB (x * 8 + 1) + t 58 * aB (y * 8 + 7) * aB (x * 8 + 2) + t 59 * aB (y * 8 + 7) * aB (x * 8 + 3) + t 60 * aB (y * 8 + 7) * aB (x * 8 + 4) + t 61 * aB (y * 8 + 7) * aB (x * 8 + 5) + t 62 * aB (y * 8 + 7) * aB (x * 8 + 6) + t 63 * aB (y * 8 + 7) * aB (x * 8 + 7) := rfl
  have e2 : nest y x t = aB (y * 8 + 0) * (aB (x * 8 + 0) * t 0 + aB (x * 8 + 1) * t 1 + aB (x * 8 + 2) * t 2 + aB (x * 8 + 3) * t 3 + aB (x * 8 + 4) * t 4 + aB (x * 8 + 5) * t 5 + aB (x * 8 + 6) * t 6 + aB (x * 8 + 7) * t 7) + aB (y * 8 + 1) * (aB (x * 8 + 0) * t 8 + aB (x * 8 + 1) * t 9 + aB (x * 8 + 2) * t 10 + aB (x * 8 + 3) * t 11 + aB (x * 8 + 4) * t 12 + aB (x * 8 + 5) * t 13 + aB (x * 8 + 6) * t 14 + aB (x * 8 + 7) * t 15) + aB (y * 8 + 2) * (aB (x * 8 + 0) * t 16 + aB (x * 8 + 1) * t 17 + aB (x * 8 + 2) * t 18 + aB (x * 8 + 3) * t 19 + aB (x * 8 + 4) * t 20 + aB (x * 8 + 5) * t 21 + aB (x * 8 + 6) * t 22 + aB (x * 8 + 7) * t 23) + aB (y * 8 + 3) * (aB (x * 8 + 0) * t 24 + aB (x * 8 + 1) * t 25 + aB (x * 8 + 2) * t 26 + aB (x * 8 + 3) * t 27 + aB (x * 8 + 4) * t 28 + aB (x * 8 + 5) * t 29 + aB (x * 8 + 6) * t 30 + aB (x * 8 + 7) * t 31) + aB (y * 8 + 4) * (aB (x * 8 + 0) * t 32 + aB (x * 8 + 1) * t 33 + aB (x * 8 + 2) * t 34 + aB (x * 8 + 3) * t 35 + aB (x * 8 + 4) * t 36 + aB (x * 8 + 5) * t 37 + aB (x * 8 + 6) * t 38 + aB (x * 8 + 7) * t 39) + aB (y * 8 + 5) * (aB (x * 8 + 0) * t 40 + aB (x * 8 + 1) * t 41 + aB (x * 8 + 2) * t 42 + aB (x * 8 + 3) * t 43 + aB (x * 8 + 4) * t 44 + aB (x * 8 + 5) * t 45 + aB (x * 8 + 6) * t 46 + aB (x * 8 + 7) * t 47) + aB (y * 8 + 6) * (aB (x * 8 + 0) * t 48 + aB (x * 8 + 1) * t 49 + aB (x * 8 + 2) * t 50 + aB (x * 8 + 3) * t 51 + aB (x * 8 + 4) * t 52 + aB (x * 8 + 5) * t 53 + aB (x * 8 + 6) * t 54 + aB (x * 8 + 7) * t 55) + aB (y * 8 + 7) * (aB (x * 8 + 0) * t 56 + aB (x * 8 + 1) * t 57 + aB (x * 8 + 2) * t 58 + aB (x * 8 + 3) * t 59 + aB (x * 8 + 4) * t 60 + aB (x * 8 + 5) * t 61 + aB (x * 8 + 6) * t 62 + aB (x * 8 + 7) * t 63) := rfl
  rw [e1, e2]
  simp only [Int.mul_add, nest_key]
  generalize t 0 * aB (y * 8 + 0) * aB (x * 8 + 0) = t0
  generalize t 1 * aB (y * 8 + 0) * aB (x * 8 + 1) = t1
  generalize t 2 * aB (y * 8 + 0) * aB (x * 8 + 2) = t2
  generalize t 3 * aB (y * 8 + 0) * aB (x * 8 + 3) = t3
  generalize t 4 * aB (y * 8 + 0) * aB (x * 8 + 4) = t4
  generalize t 5 * aB (y * 8 + 0) * aB (x * 8 + 5) = t5
  generalize t 6 * aB (y * 8 + 0) * aB (x * 8 + 6) = t6
  generalize t 7 * aB (y * 8 + 0) * aB (x * 8 + 7) = t7
  generalize t 8 * aB (y * 8 + 1) * aB (x * 8 + 0) = t8
  generalize t 9 * aB (y * 8 + 1) * aB (x * 8 + 1) = t9
  generalize t 10 * aB (y * 8 + 1) * aB (x * 8 + 2) = t10
  generalize t 11 * aB (y * 8 + 1) * aB (x * 8 + 3) = t11
  generalize t 12 * aB (y * 8 + 1) * aB (x * 8 + 4) = t12
  generalize t 13 * aB (y * 8 + 1) * aB (x * 8 + 5) = t13
  generalize t 14 * aB (y * 8 + 1) * aB (x * 8 + 6) = t14
  generalize t 15 * aB (y * 8 + 1) * aB (x * 8 + 7) = t15
  generalize t 16 * aB (y * 8 + 2) * aB (x * 8 + 0) = t16
  generalize t 17 * aB (y * 8 + 2) * aB (x * 8 + 1) = t17
  generalize t 18 * aB (y * 8 + 2) * aB (x * 8 + 2) = t18
  generalize t 19 * aB (y * 8 + 2) * aB (x * 8 + 3) = t19
  generalize t 20 * aB (y * 8 + 2) * aB (x * 8 + 4) = t20
  generalize t 21 * aB (y * 8 + 2) * aB (x * 8 + 5) = t21
  generalize t 22 * aB (y * 8 + 2) * aB (x * 8 + 6) = t22
  generalize t 23 * aB (y * 8 + 2) * aB (x * 8 + 7) = t23
  generalize t 24 * aB (y * 8 + 3) * aB (x * 8 + 0) = t24
  generalize t 25 * aB (y * 8 + 3) * aB (x * 8 + 1) = t25
  generalize t 26 * aB (y * 8 + 3) * aB (x * 8 + 2) = t26
  generalize t 27 * aB (y * 8 + 3) * aB (x * 8 + 3) = t27
  generalize t 28 * aB (y * 8 + 3) * aB (x * 8 + 4) = t28
  generalize t 29 * aB (y * 8 + 3) * aB (x * 8 + 5) = t29
  generalize t 30 * aB (y * 8 + 3) * aB (x * 8 + 6) = t30
  generalize t 31 * aB (y * 8 + 3) * aB (x * 8 + 7) = t31
  generalize t 32 * aB (y * 8 + 4) * aB (x * 8 + 0) = t32
  generalize t 33 * aB (y * 8 + 4) * aB (x * 8 + 1) = t33
  generalize t 34 * aB (y * 8 + 4) * aB (x * 8 + 2) = t34
  generalize t 35 * aB (y * 8 + 4) * aB (x * 8 + 3) = t35
  generalize t 36 * aB (y * 8 + 4) * aB (x * 8 + 4) = t36
  generalize t 37 * aB (y * 8 + 4) * aB (x * 8 + 5) = t37
  generalize t 38 * aB (y * 8 + 4) * aB (x * 8 + 6) = t38
  generalize t 39 * aB (y * 8 + 4) * aB (x * 8 + 7) = t39
  generalize t 40 * aB (y * 8 + 5) * aB (x * 8 + 0) = t40
  generalize t 41 * aB (y * 8 + 5) * aB (x * 8 + 1) = t41
  generalize t 42 * aB (y * 8 + 5) * aB (x * 8 + 2) = t42
  generalize t 43 * aB (y * 8 + 5) * aB (x * 8 + 3) = t43
  generalize t 44 * aB (y * 8 + 5) * aB (x * 8 + 4) = t44
  generalize t 45 * aB (y * 8 + 5) * aB (x * 8 + 5) = t45
  generalize t 46 * aB (y * 8 + 5) * aB (x * 8 + 6) = t46
  generalize t 47 * aB (y * 8 + 5) * aB (x * 8 + 7) = t47
  generalize t 48 * aB (y * 8 + 6) * aB (x * 8 + 0) = t48
  generalize t 49 * aB (y * 8 + 6) * aB (x * 8 + 1) = t49
  generalize t 50 * aB (y * 8 + 6) * aB (x * 8 + 2) = t50
  generalize t 51 * aB (y * 8 + 6) * aB (x * 8 + 3) = t51
  generalize t 52 * aB (y * 8 + 6) * aB (x * 8 + 4) = t52
  generalize t 53 * aB (y * 8 + 6) * aB (x * 8 + 5) = t53
  generalize t 54 * aB (y * 8 + 6) * aB (x * 8 + 6) = t54
  generalize t 55 * aB (y * 8 + 6) * aB (x * 8 + 7) = t55
  generalize t 56 * aB (y * 8 + 7) * aB (x * 8 + 0) = t56
  generalize t 57 * aB (y * 8 + 7) * aB (x * 8 + 1) = t57
  generalize t 58 * aB (y * 8 + 7) * aB (x * 8 + 2) = t58
  generalize t 59 * aB (y * 8 + 7) * aB (x * 8 + 3) = t59
  generalize t 60 * aB (y * 8 + 7) * aB (x * 8 + 4) = t60
  generalize t 61 * aB (y * 8 + 7) * aB (x * 8 + 5) = t61
  generalize t 62 * aB (y * 8 + 7) * aB (x * 8 + 6) = t62
  generalize t 63 * aB (y * 8 + 7) * aB (x * 8 + 7) = t63
  rw [Int.zero_add]
  ac_rfl
/-- What spec.Bounds sums, in zigzag order. -/
def bT (q : Nat → Int) (y x k : Nat) : Int := (q k + 1) * aB (y * 8 + zN k / 8) * aB (x * 8 + zN k % 8)
theorem bT_in (q : Nat → Int) (hq : ∀ k, k < 64 → 1 ≤ q k ∧ q k ≤ 255) (y x k : Nat) (hy : y < 8) (hx : x < 8) (hk : k < 64) : 0 ≤ bT q y x k ∧ bT q y x k ≤ 70368744177664 := by
  have hz := zN_lt k hk
  have h1 := aB_in (y * 8 + zN k / 8) (by omega)
  have h2 := aB_in (x * 8 + zN k % 8) (by omega)
  have h3 := hq k hk
  unfold bT
  generalize aB (y * 8 + zN k / 8) = a at *
  generalize aB (x * 8 + zN k % 8) = b at *
  generalize q k = t at *
  have m1 : 0 ≤ (t + 1) * a := Int.mul_nonneg (by omega) h1.1
  have m2 : (t + 1) * a ≤ 256 * 524288 := Int.mul_le_mul (by omega) h1.2 h1.1 (by omega)
  have m3 : 0 ≤ (t + 1) * a * b := Int.mul_nonneg m1 h2.1
  have m4 : (t + 1) * a * b ≤ 256 * 524288 * 524288 := Int.mul_le_mul m2 h2.2 h2.1 (by omega)
  exact ⟨m3, by omega⟩
theorem sumTo_in (t : Nat → Int) (M : Int) (n : Nat) (h : ∀ k, k < n → 0 ≤ t k ∧ t k ≤ M) : 0 ≤ sumTo t n ∧ sumTo t n ≤ n * M := by
  induction n with
  | zero => simp [sumTo]
  | succ n ih =>
    have h1 := ih fun k hk => h k (by omega)
    have h2 := h n (by omega)
    have e : ((n + 1 : Nat) : Int) * M = n * M + M := by rw [Int.natCast_add, Int.add_mul]; simp
    simp only [sumTo]
    rw [e]
    omega
theorem nest_bT (q : Nat → Int) (y x : Nat) : nest y x (fun j => q (izN j) + 1) = sumTo (bT q y x) 64 := by
  rw [nest_sum, ← sum_perm]
  have e : ∀ n, n ≤ 64 → sumTo (fun k => (fun j => (fun j => q (izN j) + 1) j * aB (y * 8 + j / 8) * aB (x * 8 + j % 8)) (zN k)) n = sumTo (bT q y x) n := by
    intro n
    induction n with
    | zero => intro _; rfl
    | succ n ih =>
      intro hn
      simp only [sumTo]
      rw [ih (by omega)]
      simp only [bT, izN_z n (by omega)]
  exact e 64 (by omega)
/-- What the law FnThereAndBack asks of the exact samples. -/
theorem there_near (f q : Nat → Int) (hf : ∀ j, 0 ≤ f j ∧ f j ≤ 255) (hq : ∀ k, k < 64 → 1 ≤ q k ∧ q k ≤ 255) (y x : Nat) (hy : y < 8) (hx : x < 8) :
    -(sumTo (bT q y x) 64) ≤ 2 * (exS (qC (frows (fcols f)) q) y x - (f (8 * y + x) - 128) * 1099511627776) ∧ 2 * (exS (qC (frows (fcols f)) q) y x - (f (8 * y + x) - 128) * 1099511627776) ≤ sumTo (bT q y x) 64 := by
  have hS : ∀ v u, v < 8 → u < 8 → fwd zN bN f (8 * v + u) = exact2 f v u := fun v u hv hu => by
    have e : fwd zN bN f (8 * v + u) = cofS bN (cofH bN f) (8 * v + u) := fill_at zN (cof zN bN f) (cofS bN (cofH bN f)) (8 * v + u) 64 (fun _ _ => rfl) (zN_onto _ (by omega))
    rw [e, (want_eq f hf v u hv hu).1]
  have hd : ∀ j, j < 64 → -((2 * (q (izN j) + 1) - 1) * 1099511627776) ≤ 4 * (qC (frows (fcols f)) q j * 1099511627776 - fwd zN bN f j) ∧ 4 * (qC (frows (fcols f)) q j * 1099511627776 - fwd zN bN f j) ≤ (2 * (q (izN j) + 1) - 1) * 1099511627776 := fun j hj => by
    have h1 := qC_near (frows (fcols f)) q j (hq _ (izN_lt j hj).1).1
    have h2 := (forward_near f hf j hj).1
    generalize qC (frows (fcols f)) q j = c at *
    generalize frows (fcols f) j = F at *
    generalize fwd zN bN f j = S at *
    generalize q (izN j) = t at *
    exact ⟨by omega, by omega⟩
  have h1 := nest_near y x (fun j => qC (frows (fcols f)) q j * 1099511627776 - fwd zN bN f j) (fun j => (2 * (q (izN j) + 1) - 1) * 1099511627776) hd
  rw [exS_lin] at h1
  have h2 := back_near f (fwd zN bN f) hf hS y x hy hx
  have e : nest y x (fun j => (2 * (q (izN j) + 1) - 1) * 1099511627776) = 2199023255552 * nest y x (fun j => q (izN j) + 1) - 1099511627776 * nest y x (fun _ => 1) := by
    clear h1 h2 hd hS hq hf
    have k1 : ∀ a t : Int, a * ((2 * t - 1) * 1099511627776) = 2199023255552 * (a * t) - 1099511627776 * (a * 1) := fun a t => by
      rw [← Int.mul_assoc, Int.mul_sub, Int.mul_left_comm]
      generalize a * t = p
      omega
    have k2 : ∀ a s t : Int, a * (2199023255552 * s - 1099511627776 * t) = 2199023255552 * (a * s) - 1099511627776 * (a * t) := fun a s t => by
      rw [Int.mul_sub, Int.mul_left_comm, Int.mul_left_comm a]
    simp only [nest, k1]
    have k3 : ∀ v, (2199023255552 * (aB (x * 8 + 0) * (q (izN (8 * v + 0)) + 1)) - 1099511627776 * (aB (x * 8 + 0) * 1)) + (2199023255552 * (aB (x * 8 + 1) * (q (izN (8 * v + 1)) + 1)) - 1099511627776 * (aB (x * 8 + 1) * 1)) + (2199023255552 * (aB (x * 8 + 2) * (q (izN (8 * v + 2)) + 1)) - 1099511627776 * (aB (x * 8 + 2) * 1)) + (2199023255552 * (aB (x * 8 + 3) * (q (izN (8 * v + 3)) + 1)) - 1099511627776 * (aB (x * 8 + 3) * 1)) + (2199023255552 * (aB (x * 8 + 4) * (q (izN (8 * v + 4)) + 1)) - 1099511627776 * (aB (x * 8 + 4) * 1)) + (2199023255552 * (aB (x * 8 + 5) * (q (izN (8 * v + 5)) + 1)) - 1099511627776 * (aB (x * 8 + 5) * 1)) + (2199023255552 * (aB (x * 8 + 6) * (q (izN (8 * v + 6)) + 1)) - 1099511627776 * (aB (x * 8 + 6) * 1)) + (2199023255552 * (aB (x * 8 + 7) * (q (izN (8 * v + 7)) + 1)) - 1099511627776 * (aB (x * 8 + 7) * 1)) = 2199023255552 * (aB (x * 8 + 0) * (q (izN (8 * v + 0)) + 1) + aB (x * 8 + 1) * (q (izN (8 * v + 1)) + 1) + aB (x * 8 + 2) * (q (izN (8 * v + 2)) + 1) + aB (x * 8 + 3) * (q (izN (8 * v + 3)) + 1) + aB (x * 8 + 4) * (q (izN (8 * v + 4)) + 1) + aB (x * 8 + 5) * (q (izN (8 * v + 5)) + 1) + aB (x * 8 + 6) * (q (izN (8 * v + 6)) + 1) + aB (x * 8 + 7) * (q (izN (8 * v + 7)) + 1)) - 1099511627776 * (aB (x * 8 + 0) * 1 + aB (x * 8 + 1) * 1 + aB (x * 8 + 2) * 1 + aB (x * 8 + 3) * 1 + aB (x * 8 + 4) * 1 + aB (x * 8 + 5) * 1 + aB (x * 8 + 6) * 1 + aB (x * 8 + 7) * 1) := fun v => by
      generalize aB (x * 8 + 0) * (q (izN (8 * v + 0)) + 1) = p0
      generalize aB (x * 8 + 0) * 1 = r0
      generalize aB (x * 8 + 1) * (q (izN (8 * v + 1)) + 1) = p1
      generalize aB (x * 8 + 1) * 1 = r1
      generalize aB (x * 8 + 2) * (q (izN (8 * v + 2)) + 1) = p2
      generalize aB (x * 8 + 2) * 1 = r2
      generalize aB (x * 8 + 3) * (q (izN (8 * v + 3)) + 1) = p3
      generalize aB (x * 8 + 3) * 1 = r3
      generalize aB (x * 8 + 4) * (q (izN (8 * v + 4)) + 1) = p4
      generalize aB (x * 8 + 4) * 1 = r4
      generalize aB (x * 8 + 5) * (q (izN (8 * v + 5)) + 1) = p5
      generalize aB (x * 8 + 5) * 1 = r5
      generalize aB (x * 8 + 6) * (q (izN (8 * v + 6)) + 1) = p6
      generalize aB (x * 8 + 6) * 1 = r6
      generalize aB (x * 8 + 7) * (q (izN (8 * v + 7)) + 1) = p7
      generalize aB (x * 8 + 7) * 1 = r7
      omega
    rw [k3 0, k3 1, k3 2, k3 3, k3 4, k3 5, k3 6, k3 7]
    simp only [k2]
    generalize aB (y * 8 + 0) * (aB (x * 8 + 0) * (q (izN (8 * 0 + 0)) + 1) + aB (x * 8 + 1) * (q (izN (8 * 0 + 1)) + 1) + aB (x * 8 + 2) * (q (izN (8 * 0 + 2)) + 1) + aB (x * 8 + 3) * (q (izN (8 * 0 + 3)) + 1) + aB (x * 8 + 4) * (q (izN (8 * 0 + 4)) + 1) + aB (x * 8 + 5) * (q (izN (8 * 0 + 5)) + 1) + aB (x * 8 + 6) * (q (izN (8 * 0 + 6)) + 1) + aB (x * 8 + 7) * (q (izN (8 * 0 + 7)) + 1)) = p0
    generalize aB (y * 8 + 0) * (aB (x * 8 + 0) * 1 + aB (x * 8 + 1) * 1 + aB (x * 8 + 2) * 1 + aB (x * 8 + 3) * 1 + aB (x * 8 + 4) * 1 + aB (x * 8 + 5) * 1 + aB (x * 8 + 6) * 1 + aB (x * 8 + 7) * 1) = r0
    generalize aB (y * 8 + 1) * (aB (x * 8 + 0) * (q (izN (8 * 1 + 0)) + 1) + aB (x * 8 + 1) * (q (izN (8 * 1 + 1)) + 1) + aB (x * 8 + 2) * (q (izN (8 * 1 + 2)) + 1) + aB (x * 8 + 3) * (q (izN (8 * 1 + 3)) + 1) + aB (x * 8 + 4) * (q (izN (8 * 1 + 4)) + 1) + aB (x * 8 + 5) * (q (izN (8 * 1 + 5)) + 1) + aB (x * 8 + 6) * (q (izN (8 * 1 + 6)) + 1) + aB (x * 8 + 7) * (q (izN (8 * 1 + 7)) + 1)) = p1
    generalize aB (y * 8 + 1) * (aB (x * 8 + 0) * 1 + aB (x * 8 + 1) * 1 + aB (x * 8 + 2) * 1 + aB (x * 8 + 3) * 1 + aB (x * 8 + 4) * 1 + aB (x * 8 + 5) * 1 + aB (x * 8 + 6) * 1 + aB (x * 8 + 7) * 1) = r1
    generalize aB (y * 8 + 2) * (aB (x * 8 + 0) * (q (izN (8 * 2 + 0)) + 1) + aB (x * 8 + 1) * (q (izN (8 * 2 + 1)) + 1) + aB (x * 8 + 2) * (q (izN (8 * 2 + 2)) + 1) + aB (x * 8 + 3) * (q (izN (8 * 2 + 3)) + 1) + aB (x * 8 + 4) * (q (izN (8 * 2 + 4)) + 1) + aB (x * 8 + 5) * (q (izN (8 * 2 + 5)) + 1) + aB (x * 8 + 6) * (q (izN (8 * 2 + 6)) + 1) + aB (x * 8 + 7) * (q (izN (8 * 2 + 7)) + 1)) = p2
    generalize aB (y * 8 + 2) * (aB (x * 8 + 0) * 1 + aB (x * 8 + 1) * 1 + aB (x * 8 + 2) * 1 + aB (x * 8 + 3) * 1 + aB (x * 8 + 4) * 1 + aB (x * 8 + 5) * 1 + aB (x * 8 + 6) * 1 + aB (x * 8 + 7) * 1) = r2
    generalize aB (y * 8 + 3) * (aB (x * 8 + 0) * (q (izN (8 * 3 + 0)) + 1) + aB (x * 8 + 1) * (q (izN (8 * 3 + 1)) + 1) + aB (x * 8 + 2) * (q (izN (8 * 3 + 2)) + 1) + aB (x * 8 + 3) * (q (izN (8 * 3 + 3)) + 1) + aB (x * 8 + 4) * (q (izN (8 * 3 + 4)) + 1) + aB (x * 8 + 5) * (q (izN (8 * 3 + 5)) + 1) + aB (x * 8 + 6) * (q (izN (8 * 3 + 6)) + 1) + aB (x * 8 + 7) * (q (izN (8 * 3 + 7)) + 1)) = p3
    generalize aB (y * 8 + 3) * (aB (x * 8 + 0) * 1 + aB (x * 8 + 1) * 1 + aB (x * 8 + 2) * 1 + aB (x * 8 + 3) * 1 + aB (x * 8 + 4) * 1 + aB (x * 8 + 5) * 1 + aB (x * 8 + 6) * 1 + aB (x * 8 + 7) * 1) = r3
    generalize aB (y * 8 + 4) * (aB (x * 8 + 0) * (q (izN (8 * 4 + 0)) + 1) + aB (x * 8 + 1) * (q (izN (8 * 4 + 1)) + 1) + aB (x * 8 + 2) * (q (izN (8 * 4 + 2)) + 1) + aB (x * 8 + 3) * (q (izN (8 * 4 + 3)) + 1) + aB (x * 8 + 4) * (q (izN (8 * 4 + 4)) + 1) + aB (x * 8 + 5) * (q (izN (8 * 4 + 5)) + 1) + aB (x * 8 + 6) * (q (izN (8 * 4 + 6)) + 1) + aB (x * 8 + 7) * (q (izN (8 * 4 + 7)) + 1)) = p4
    generalize aB (y * 8 + 4) * (aB (x * 8 + 0) * 1 + aB (x * 8 + 1) * 1 + aB (x * 8 + 2) * 1 + aB (x * 8 + 3) * 1 + aB (x * 8 + 4) * 1 + aB (x * 8 + 5) * 1 + aB (x * 8 + 6) * 1 + aB (x * 8 + 7) * 1) = r4
    generalize aB (y * 8 + 5) * (aB (x * 8 + 0) * (q (izN (8 * 5 + 0)) + 1) + aB (x * 8 + 1) * (q (izN (8 * 5 + 1)) + 1) + aB (x * 8 + 2) * (q (izN (8 * 5 + 2)) + 1) + aB (x * 8 + 3) * (q (izN (8 * 5 + 3)) + 1) + aB (x * 8 + 4) * (q (izN (8 * 5 + 4)) + 1) + aB (x * 8 + 5) * (q (izN (8 * 5 + 5)) + 1) + aB (x * 8 + 6) * (q (izN (8 * 5 + 6)) + 1) + aB (x * 8 + 7) * (q (izN (8 * 5 + 7)) + 1)) = p5
    generalize aB (y * 8 + 5) * (aB (x * 8 + 0) * 1 + aB (x * 8 + 1) * 1 + aB (x * 8 + 2) * 1 + aB (x * 8 + 3) * 1 + aB (x * 8 + 4) * 1 + aB (x * 8 + 5) * 1 + aB (x * 8 + 6) * 1 + aB (x * 8 + 7) * 1) = r5
    generalize aB (y * 8 + 6) * (aB (x * 8 + 0) * (q (izN (8 * 6 + 0)) + 1) + aB (x * 8 + 1) * (q (izN (8 * 6 + 1)) + 1) + aB (x * 8 + 2) * (q (izN (8 * 6 + 2)) + 1) + aB (x * 8 + 3) * (q (izN (8 * 6 + 3)) + 1) + aB (x * 8 + 4) * (q (izN (8 * 6 + 4)) + 1) + aB (x * 8 + 5) * (q (izN (8 * 6 + 5)) + 1) + aB (x * 8 + 6) * (q (izN (8 * 6 + 6)) + 1) + aB (x * 8 + 7) * (q (izN (8 * 6 + 7)) + 1)) = p6
    generalize aB (y * 8 + 6) * (aB (x * 8 + 0) * 1 + aB (x * 8 + 1) * 1 + aB (x * 8 + 2) * 1 + aB (x * 8 + 3) * 1 + aB (x * 8 + 4) * 1 + aB (x * 8 + 5) * 1 + aB (x * 8 + 6) * 1 + aB (x * 8 + 7) * 1) = r6
    generalize aB (y * 8 + 7) * (aB (x * 8 + 0) * (q (izN (8 * 7 + 0)) + 1) + aB (x * 8 + 1) * (q (izN (8 * 7 + 1)) + 1) + aB (x * 8 + 2) * (q (izN (8 * 7 + 2)) + 1) + aB (x * 8 + 3) * (q (izN (8 * 7 + 3)) + 1) + aB (x * 8 + 4) * (q (izN (8 * 7 + 4)) + 1) + aB (x * 8 + 5) * (q (izN (8 * 7 + 5)) + 1) + aB (x * 8 + 6) * (q (izN (8 * 7 + 6)) + 1) + aB (x * 8 + 7) * (q (izN (8 * 7 + 7)) + 1)) = p7
    generalize aB (y * 8 + 7) * (aB (x * 8 + 0) * 1 + aB (x * 8 + 1) * 1 + aB (x * 8 + 2) * 1 + aB (x * 8 + 3) * 1 + aB (x * 8 + 4) * 1 + aB (x * 8 + 5) * 1 + aB (x * 8 + 6) * 1 + aB (x * 8 + 7) * 1) = r7
    omega
  have hN : 7673886151684 ≤ nest y x (fun _ => 1) := by
    have := (show ∀ y, y < 8 → ∀ x, x < 8 → 7673886151684 ≤ nest y x (fun _ => 1) by decide +kernel) y hy x hx
    exact this
  rw [nest_bT] at e
  rw [e] at h1
  clear e hd hS hq
  generalize nest y x (fun _ => 1) = n at *
  generalize sumTo (bT q y x) 64 = W at *
  generalize exS (qC (frows (fcols f)) q) y x = X at *
  generalize exS (fwd zN bN f) y x = Z at *
  generalize f (8 * y + x) - 128 = g at *
  exact ⟨by omega, by omega⟩
end Go.Proofs.YtcblegbjhiameaaDoor
