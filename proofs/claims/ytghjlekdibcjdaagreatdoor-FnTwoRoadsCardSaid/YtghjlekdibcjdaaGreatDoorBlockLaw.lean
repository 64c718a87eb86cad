/- What writeBlock makes of a block, as plain functions; it fits the Huffman tables. -/
import Derived.Test.YtghjlekdibcjdaaGreatDoorRle
import Derived.Test.YtghjlekdibcjdaaGreatDoorCoefs
namespace Go.Proofs.YtghjlekdibcjdaaGreatDoor
open Go.Deep Go.RowKit
set_option linter.unusedVariables false
/-- Runs of sixteen noughts. -/
def zrl (h : Nat) : Nat → Bw → Bw
  | 0, s => s
  | k + 1, s => zrl h k (huffN h 240 s)
theorem zrl_len (h : Nat) : ∀ (k : Nat) (s : Bw), (zrl h k s).1.length ≤ s.1.length + 6 * k
  | 0, s => by simp [zrl]
  | k + 1, s => by
    have h1 := zrl_len h k (huffN h 240 s)
    have h2 := huffN_len h 240 s
    simp only [zrl]
    omega
theorem ac_len (q : Nat) (hq : q < 2) : lutLen (2 * q + 1) = 251 := by
  obtain rfl | rfl : q = 0 ∨ q = 1 := by omega
  · rfl
  · rfl
theorem dc_len (q : Nat) (hq : q < 2) : lutLen (2 * q) = 12 := by
  obtain rfl | rfl : q = 0 ∨ q = 1 := by omega
  · rfl
  · rfl
theorem zrl_ok {q : Nat} (hq : q < 2) : ∀ (k : Nat) {s : Bw}, BwOk s → BwOk (zrl (2 * q + 1) k s)
  | 0, s, hs => hs
  | k + 1, s, hs => zrl_ok hq k (huffN_ok hs (by omega) (by rw [ac_len q hq]; omega))
/-- The quantized coefficient. -/
def acAt (Q : Nat → Nat) (q : Nat) (c : Nat → Int) (k : Nat) : Int := qdiv (c (zN k)) (8 * (Q (64 * q + k) : Int))
def dcAt (Q : Nat → Nat) (q : Nat) (c : Nat → Int) : Int := qdiv (c 0) (8 * (Q (64 * q) : Int))
/-- One coefficient more. -/
def acStep (q : Nat) (v : Int) (t : Bw × Nat) : Bw × Nat := if v = 0 then (t.1, t.2 + 1) else (rleN (2 * q + 1) (t.2 % 16) v (zrl (2 * q + 1) (t.2 / 16) t.1), 0)
/-- The first k coefficients. -/
def acs (Q : Nat → Nat) (q : Nat) (c : Nat → Int) (s : Bw) : Nat → Bw × Nat
  | 0 => (s, 0)
  | k + 1 => acStep q (acAt Q q c (k + 1)) (acs Q q c s k)
/-- A block. -/
def blockN (Q : Nat → Nat) (q : Nat) (c : Nat → Int) (prev : Int) (s : Bw) : Bw :=
  let t := acs Q q c (rleN (2 * q) 0 (dcAt Q q c - prev) s) 63
  if 0 < t.2 then huffN (2 * q + 1) 0 t.1 else t.1
theorem acs_run (Q : Nat → Nat) (q : Nat) (c : Nat → Int) (s : Bw) : ∀ k, (acs Q q c s k).2 ≤ k
  | 0 => by simp [acs]
  | k + 1 => by
    have h := acs_run Q q c s k
    simp only [acs, acStep]
    split
    · simp only; omega
    · simp
theorem acs_len (Q : Nat → Nat) (q : Nat) (c : Nat → Int) (s : Bw) : ∀ k, k ≤ 63 → (acs Q q c s k).1.1.length ≤ s.1.length + 36 * k
  | 0, _ => by simp [acs]
  | k + 1, hk => by
    have h := acs_len Q q c s k (by omega)
    have hr := acs_run Q q c s k
    simp only [acs, acStep]
    split
    · simp only; omega
    · have h1 := rleN_len (2 * q + 1) ((acs Q q c s k).2 % 16) (acAt Q q c (k + 1)) (zrl (2 * q + 1) ((acs Q q c s k).2 / 16) (acs Q q c s k).1)
      have h2 := zrl_len (2 * q + 1) ((acs Q q c s k).2 / 16) (acs Q q c s k).1
      simp only
      omega
theorem blockN_len (Q : Nat → Nat) (q : Nat) (c : Nat → Int) (prev : Int) (s : Bw) : (blockN Q q c prev s).1.length ≤ s.1.length + 2400 := by
  have h1 := acs_len Q q c (rleN (2 * q) 0 (dcAt Q q c - prev) s) 63 (by omega)
  have h2 := rleN_len (2 * q) 0 (dcAt Q q c - prev) s
  have h3 := huffN_len (2 * q + 1) 0 (acs Q q c (rleN (2 * q) 0 (dcAt Q q c - prev) s) 63).1
  unfold blockN
  simp only
  split <;> omega
/-- The samples of a block. -/
def IsSamples (f : Nat → Int) : Prop := ∀ j, 0 ≤ f j ∧ f j ≤ 255
theorem ac_in {c : Int} {Q : Nat} (hQ : 1 ≤ Q) (h : -8187 ≤ c ∧ c ≤ 8187) : -1023 ≤ qdiv c (8 * (Q : Int)) ∧ qdiv c (8 * (Q : Int)) ≤ 1023 := by
  have hn := qdiv_near c (8 * (Q : Int)) (by omega)
  generalize qdiv c (8 * (Q : Int)) = x at *
  obtain ⟨b, hb⟩ : ∃ b : Int, 8 * (Q : Int) = b := ⟨_, rfl⟩
  rw [hb] at hn
  have hb8 : 8 ≤ b := by omega
  constructor
  · rcases Int.lt_or_le x (-1023) with h1 | h1
    · have := Int.mul_le_mul_of_nonneg_right (show x ≤ -1024 by omega) (show 0 ≤ b by omega)
      omega
    · exact h1
  · rcases Int.lt_or_le 1023 x with h1 | h1
    · have := Int.mul_le_mul_of_nonneg_right (show 1024 ≤ x by omega) (show 0 ≤ b by omega)
      omega
    · exact h1
theorem dc_in {c : Int} {Q : Nat} (hQ : 1 ≤ Q) (h : -8195 ≤ c ∧ c ≤ 8131) : -1024 ≤ qdiv c (8 * (Q : Int)) ∧ qdiv c (8 * (Q : Int)) ≤ 1016 := by
  have hn := qdiv_near c (8 * (Q : Int)) (by omega)
  generalize qdiv c (8 * (Q : Int)) = x at *
  obtain ⟨b, hb⟩ : ∃ b : Int, 8 * (Q : Int) = b := ⟨_, rfl⟩
  rw [hb] at hn
  have hb8 : 8 ≤ b := by omega
  constructor
  · rcases Int.lt_or_le x (-1024) with h1 | h1
    · have := Int.mul_le_mul_of_nonneg_right (show x ≤ -1025 by omega) (show 0 ≤ b by omega)
      omega
    · exact h1
  · rcases Int.lt_or_le 1016 x with h1 | h1
    · have := Int.mul_le_mul_of_nonneg_right (show 1017 ≤ x by omega) (show 0 ≤ b by omega)
      omega
    · exact h1
/-- What is known of the coefficients. -/
structure CoefOk (c : Nat → Int) : Prop where
  dc : -8195 ≤ c 0 ∧ c 0 ≤ 8131
  ac : ∀ j, 1 ≤ j → j < 64 → -8187 ≤ c j ∧ c j ≤ 8187
theorem coefOk {f : Nat → Int} (hf : IsSamples f) : CoefOk (coef f) := ⟨coef_dc f hf, fun j h1 h2 => coef_ac f hf j h1 h2⟩
theorem acAt_in {Q : Nat → Nat} (hQ : ∀ j, 1 ≤ Q j) {c : Nat → Int} (hc : CoefOk c) (q k : Nat) (h1 : 1 ≤ k) (h2 : k < 64) : -1023 ≤ acAt Q q c k ∧ acAt Q q c k ≤ 1023 :=
  ac_in (hQ _) (hc.ac _ (zN_pos k h1 h2) (zN_lt k h2))
theorem dcAt_in {Q : Nat → Nat} (hQ : ∀ j, 1 ≤ Q j) {c : Nat → Int} (hc : CoefOk c) (q : Nat) : -1024 ≤ dcAt Q q c ∧ dcAt Q q c ≤ 1016 := dc_in (hQ _) hc.dc
theorem ac_fits {q r : Nat} {v : Int} (hq : q < 2) (hv : -1023 ≤ v ∧ v ≤ 1023) (hr : r ≤ 15) : r * 16 + nb v.natAbs < lutLen (2 * q + 1) ∧ nb v.natAbs ≤ 10 := by
  have := nb_le (a := v.natAbs) (k := 10) (by omega)
  rw [ac_len q hq]
  omega
theorem dc_fits {q : Nat} {v : Int} (hq : q < 2) (hv : -2047 ≤ v ∧ v ≤ 2047) : 0 * 16 + nb v.natAbs < lutLen (2 * q) ∧ nb v.natAbs ≤ 11 := by
  have := nb_le (a := v.natAbs) (k := 11) (by omega)
  rw [dc_len q hq]
  omega
theorem acStep_ok {q : Nat} {v : Int} {t : Bw × Nat} (hq : q < 2) (hv : -1023 ≤ v ∧ v ≤ 1023) (ht : BwOk t.1) : BwOk (acStep q v t).1 := by
  unfold acStep
  split
  · exact ht
  · have h := ac_fits (r := t.2 % 16) hq hv (by omega)
    exact rleN_ok (zrl_ok hq _ ht) (by omega) h.1 (by omega)
theorem acs_ok {Q : Nat → Nat} (hQ : ∀ j, 1 ≤ Q j) {c : Nat → Int} (hc : CoefOk c) {q : Nat} (hq : q < 2) {s : Bw} (hs : BwOk s) : ∀ k, k ≤ 63 → BwOk (acs Q q c s k).1
  | 0, _ => hs
  | k + 1, hk => acStep_ok hq (acAt_in hQ hc q (k + 1) (by omega) (by omega)) (acs_ok hQ hc hq hs k (by omega))
theorem blockN_ok {Q : Nat → Nat} (hQ : ∀ j, 1 ≤ Q j) {c : Nat → Int} (hc : CoefOk c) {q : Nat} (hq : q < 2) {prev : Int} (hp : -1024 ≤ prev ∧ prev ≤ 1016) {s : Bw} (hs : BwOk s) : BwOk (blockN Q q c prev s) := by
  have hd := dcAt_in hQ hc q
  have hf := dc_fits (q := q) (v := dcAt Q q c - prev) hq (by omega)
  have h1 := acs_ok hQ hc hq (rleN_ok hs (show 2 * q < 4 by omega) hf.1 (by omega)) 63 (by omega)
  unfold blockN
  simp only
  split
  · exact huffN_ok h1 (by omega) (by rw [ac_len q hq]; omega)
  · exact h1
end Go.Proofs.YtghjlekdibcjdaaGreatDoor
