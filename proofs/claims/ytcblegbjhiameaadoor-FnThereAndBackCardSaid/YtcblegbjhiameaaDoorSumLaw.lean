/- Sums of products without their wraps. -/
import Derived.Test.YtcblegbjhiameaaDoorSpecLaw
namespace Go.Proofs.YtcblegbjhiameaaDoor
open Go.RowKit
theorem dot_eq (c : Int) (a b : Nat → Int) (M : Int) (hM : M ≤ 576460752303423488) (hc : -1152921504606846976 ≤ c ∧ c ≤ 1152921504606846976) (h : ∀ i, i < 8 → -M ≤ a i * b i ∧ a i * b i ≤ M) :
    dot c a b 8 = c + (a 0 * b 0 + a 1 * b 1 + a 2 * b 2 + a 3 * b 3 + a 4 * b 4 + a 5 * b 5 + a 6 * b 6 + a 7 * b 7) := by
  have e : dot c a b 8 = wrap64 (wrap64 (wrap64 (wrap64 (wrap64 (wrap64 (wrap64 (wrap64 (c + wrap64 (a 0 * b 0)) + wrap64 (a 1 * b 1)) + wrap64 (a 2 * b 2)) + wrap64 (a 3 * b 3)) + wrap64 (a 4 * b 4)) + wrap64 (a 5 * b 5)) + wrap64 (a 6 * b 6)) + wrap64 (a 7 * b 7)) := rfl
  rw [e]
  have h0 := h 0 (by omega)
  have h1 := h 1 (by omega)
  have h2 := h 2 (by omega)
  have h3 := h 3 (by omega)
  have h4 := h 4 (by omega)
  have h5 := h 5 (by omega)
  have h6 := h 6 (by omega)
  have h7 := h 7 (by omega)
  clear e h
  generalize a 0 * b 0 = p0 at *
  generalize a 1 * b 1 = p1 at *
  generalize a 2 * b 2 = p2 at *
  generalize a 3 * b 3 = p3 at *
  generalize a 4 * b 4 = p4 at *
  generalize a 5 * b 5 = p5 at *
  generalize a 6 * b 6 = p6 at *
  generalize a 7 * b 7 = p7 at *
  rw [IntWalk.wrap64_in p0 ⟨by omega, by omega⟩]
  rw [IntWalk.wrap64_in (c + p0) ⟨by omega, by omega⟩]
  rw [IntWalk.wrap64_in p1 ⟨by omega, by omega⟩]
  rw [IntWalk.wrap64_in (c + p0 + p1) ⟨by omega, by omega⟩]
  rw [IntWalk.wrap64_in p2 ⟨by omega, by omega⟩]
  rw [IntWalk.wrap64_in (c + p0 + p1 + p2) ⟨by omega, by omega⟩]
  rw [IntWalk.wrap64_in p3 ⟨by omega, by omega⟩]
  rw [IntWalk.wrap64_in (c + p0 + p1 + p2 + p3) ⟨by omega, by omega⟩]
  rw [IntWalk.wrap64_in p4 ⟨by omega, by omega⟩]
  rw [IntWalk.wrap64_in (c + p0 + p1 + p2 + p3 + p4) ⟨by omega, by omega⟩]
  rw [IntWalk.wrap64_in p5 ⟨by omega, by omega⟩]
  rw [IntWalk.wrap64_in (c + p0 + p1 + p2 + p3 + p4 + p5) ⟨by omega, by omega⟩]
  rw [IntWalk.wrap64_in p6 ⟨by omega, by omega⟩]
  rw [IntWalk.wrap64_in (c + p0 + p1 + p2 + p3 + p4 + p5 + p6) ⟨by omega, by omega⟩]
  rw [IntWalk.wrap64_in p7 ⟨by omega, by omega⟩]
  rw [IntWalk.wrap64_in (c + p0 + p1 + p2 + p3 + p4 + p5 + p6 + p7) ⟨by omega, by omega⟩]
  omega

theorem mul_in {a b A C : Int} (hA : 0 ≤ A) (h1 : -A ≤ a ∧ a ≤ A) (h2 : -C ≤ b ∧ b ≤ C) : -(A * C) ≤ a * b ∧ a * b ≤ A * C := by
  have k1 : a.natAbs ≤ A.natAbs := by omega
  have k2 : b.natAbs ≤ C.natAbs := by omega
  have k3 := Nat.mul_le_mul k1 k2
  rw [← Int.natAbs_mul, ← Int.natAbs_mul] at k3
  have k4 : 0 ≤ A * C := Int.mul_nonneg hA (by omega)
  generalize a * b = p at *
  generalize A * C = q at *
  omega
/-- The two sums may change places. -/
theorem exchange (A B : Nat → Int) (D : Nat → Nat → Int) :
    B 0 * (A 0 * D 0 0 + A 1 * D 0 1 + A 2 * D 0 2 + A 3 * D 0 3 + A 4 * D 0 4 + A 5 * D 0 5 + A 6 * D 0 6 + A 7 * D 0 7) + B 1 * (A 0 * D 1 0 + A 1 * D 1 1 + A 2 * D 1 2 + A 3 * D 1 3 + A 4 * D 1 4 + A 5 * D 1 5 + A 6 * D 1 6 + A 7 * D 1 7) + B 2 * (A 0 * D 2 0 + A 1 * D 2 1 + A 2 * D 2 2 + A 3 * D 2 3 + A 4 * D 2 4 + A 5 * D 2 5 + A 6 * D 2 6 + A 7 * D 2 7) + B 3 * (A 0 * D 3 0 + A 1 * D 3 1 + A 2 * D 3 2 + A 3 * D 3 3 + A 4 * D 3 4 + A 5 * D 3 5 + A 6 * D 3 6 + A 7 * D 3 7) + B 4 * (A 0 * D 4 0 + A 1 * D 4 1 + A 2 * D 4 2 + A 3 * D 4 3 + A 4 * D 4 4 + A 5 * D 4 5 + A 6 * D 4 6 + A 7 * D 4 7) + B 5 * (A 0 * D 5 0 + A 1 * D 5 1 + A 2 * D 5 2 + A 3 * D 5 3 + A 4 * D 5 4 + A 5 * D 5 5 + A 6 * D 5 6 + A 7 * D 5 7) + B 6 * (A 0 * D 6 0 + A 1 * D 6 1 + A 2 * D 6 2 + A 3 * D 6 3 + A 4 * D 6 4 + A 5 * D 6 5 + A 6 * D 6 6 + A 7 * D 6 7) + B 7 * (A 0 * D 7 0 + A 1 * D 7 1 + A 2 * D 7 2 + A 3 * D 7 3 + A 4 * D 7 4 + A 5 * D 7 5 + A 6 * D 7 6 + A 7 * D 7 7) = A 0 * (B 0 * D 0 0 + B 1 * D 1 0 + B 2 * D 2 0 + B 3 * D 3 0 + B 4 * D 4 0 + B 5 * D 5 0 + B 6 * D 6 0 + B 7 * D 7 0) + A 1 * (B 0 * D 0 1 + B 1 * D 1 1 + B 2 * D 2 1 + B 3 * D 3 1 + B 4 * D 4 1 + B 5 * D 5 1 + B 6 * D 6 1 + B 7 * D 7 1) + A 2 * (B 0 * D 0 2 + B 1 * D 1 2 + B 2 * D 2 2 + B 3 * D 3 2 + B 4 * D 4 2 + B 5 * D 5 2 + B 6 * D 6 2 + B 7 * D 7 2) + A 3 * (B 0 * D 0 3 + B 1 * D 1 3 + B 2 * D 2 3 + B 3 * D 3 3 + B 4 * D 4 3 + B 5 * D 5 3 + B 6 * D 6 3 + B 7 * D 7 3) + A 4 * (B 0 * D 0 4 + B 1 * D 1 4 + B 2 * D 2 4 + B 3 * D 3 4 + B 4 * D 4 4 + B 5 * D 5 4 + B 6 * D 6 4 + B 7 * D 7 4) + A 5 * (B 0 * D 0 5 + B 1 * D 1 5 + B 2 * D 2 5 + B 3 * D 3 5 + B 4 * D 4 5 + B 5 * D 5 5 + B 6 * D 6 5 + B 7 * D 7 5) + A 6 * (B 0 * D 0 6 + B 1 * D 1 6 + B 2 * D 2 6 + B 3 * D 3 6 + B 4 * D 4 6 + B 5 * D 5 6 + B 6 * D 6 6 + B 7 * D 7 6) + A 7 * (B 0 * D 0 7 + B 1 * D 1 7 + B 2 * D 2 7 + B 3 * D 3 7 + B 4 * D 4 7 + B 5 * D 5 7 + B 6 * D 6 7 + B 7 * D 7 7) := by
  have key : ∀ x y, B y * (A x * D y x) = A x * (B y * D y x) := fun x y => Int.mul_left_comm _ _ _
  simp only [Int.mul_add, key]
  ac_rfl
theorem fill_at (z : Nat → Nat) (v S : Nat → Int) (j : Nat) : ∀ n, (∀ k, k < n → v k = S (z k)) → (∃ k, k < n ∧ z k = j) → fill z v n j = S j
  | 0, _, ⟨k, hk, _⟩ => by omega
  | n + 1, hv, ⟨k, hk, hz⟩ => by
    simp only [fill]
    by_cases e : j = z n
    · rw [if_pos e, hv n (by omega), e]
    · rw [if_neg e]
      exact fill_at z v S j n (fun i hi => hv i (by omega)) ⟨k, by
        by_cases d : k = n
        · subst d; exact absurd hz.symm e
        · omega, hz⟩
end Go.Proofs.YtcblegbjhiameaaDoor
