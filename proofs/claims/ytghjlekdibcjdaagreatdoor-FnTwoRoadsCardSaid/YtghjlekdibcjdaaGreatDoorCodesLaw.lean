/- The codes of Annex C as plain functions: how many codes stand ahead of a length, the first code of a length, and the table that both sides fill. -/
import Derived.RowKit
namespace Go.Proofs.YtghjlekdibcjdaaGreatDoor
/-- How many codes are shorter than i + 1 bits. -/
def cnt (c : Nat → Nat) : Nat → Nat
  | 0 => 0
  | i + 1 => cnt c i + c i
/-- The first code of i + 1 bits. -/
def cd (c : Nat → Nat) : Nat → Nat
  | 0 => 0
  | i + 1 => 2 * (cd c i + c i)
/-- j codes of one length are entered. -/
def fill (sym : Nat → Nat) (i k d : Nat) : Nat → (Nat → Nat × Nat) → Nat → Nat × Nat
  | 0, t => t
  | j + 1, t => fun s => if s = sym (k + j) then (i + 1, d + j) else fill sym i k d j t s
/-- The table when all codes of up to i bits are entered. -/
def tab (c sym : Nat → Nat) : Nat → Nat → Nat × Nat
  | 0 => fun _ => (0, 0)
  | i + 1 => fill sym i (cnt c i) (cd c i) (c i) (tab c sym i)
/-- The table when j codes of i + 1 bits are entered, too. -/
def tb (c sym : Nat → Nat) (i j : Nat) : Nat → Nat × Nat := fill sym i (cnt c i) (cd c i) j (tab c sym i)
theorem tb_zero (c sym : Nat → Nat) (i : Nat) : tb c sym i 0 = tab c sym i := rfl
theorem tb_all (c sym : Nat → Nat) (i : Nat) : tb c sym i (c i) = tab c sym (i + 1) := rfl
theorem tb_step (c sym : Nat → Nat) (i j : Nat) : tb c sym i (j + 1) = fun s => if s = sym (cnt c i + j) then (i + 1, cd c i + j) else tb c sym i j s := rfl
theorem cd_le {c : Nat → Nat} (hc : ∀ i, c i ≤ 255) : ∀ i, cd c i + 510 ≤ 510 * 2 ^ i
  | 0 => by simp [cd]
  | i + 1 => by
    have h := cd_le hc i
    have h2 := hc i
    simp only [cd, Nat.pow_succ]
    omega
theorem cd_small {c : Nat → Nat} (hc : ∀ i, c i ≤ 255) {i : Nat} (hi : i ≤ 16) : cd c i ≤ 33422850 := by
  have h := cd_le hc i
  have : 2 ^ i ≤ 2 ^ 16 := Nat.pow_le_pow_right (by omega) hi
  omega
theorem cnt_le {c : Nat → Nat} (hc : ∀ i, c i ≤ 255) : ∀ i, cnt c i ≤ 255 * i
  | 0 => by simp [cnt]
  | i + 1 => by
    have h := cnt_le hc i
    have h2 := hc i
    simp only [cnt]
    omega
theorem cnt_mono (c : Nat → Nat) {i : Nat} : ∀ {k : Nat}, i ≤ k → cnt c i ≤ cnt c k
  | 0, h => by have : i = 0 := by omega
               subst this; exact Nat.le_refl _
  | k + 1, h => by
    by_cases e : i = k + 1
    · subst e; exact Nat.le_refl _
    · have := cnt_mono c (i := i) (k := k) (by omega)
      simp only [cnt]; omega
/-- What a table must meet: as many symbols as codes, at least one, and no code of ones alone. -/
structure Good (c : Nat → Nat) (n : Nat) : Prop where
  all : cnt c 16 = n
  pos : 0 < n
  small : ∀ i, i < 16 → ∀ j, j < c i → cd c i + j < 2 ^ (i + 1) - 1
theorem Good.lt {c : Nat → Nat} {n : Nat} (h : Good c n) {i j : Nat} (hi : i < 16) (hj : j < c i) : cnt c i + j < n := by
  have h1 := cnt_mono c (show i + 1 ≤ 16 by omega)
  have h2 := h.all
  have e : cnt c (i + 1) = cnt c i + c i := rfl
  omega
theorem Good.code {c : Nat → Nat} {n : Nat} (h : Good c n) {i j : Nat} (hi : i < 16) (hj : j < c i) : cd c i + j < 65535 := by
  have h1 := h.small i hi j hj
  have h2 : 2 ^ (i + 1) ≤ 2 ^ 16 := Nat.pow_le_pow_right (by omega) (by omega)
  omega
/-- The cells of the table: the length and the code of each symbol. -/
def codeCells (t : Nat → Nat × Nat) : Nat → Int := fun q => if q % 2 = 0 then ((t (q / 2)).1 : Int) else ((t (q / 2)).2 : Int)
/-- Entries are small. -/
theorem fill_small {c sym : Nat → Nat} {n : Nat} (h : Good c n) {i : Nat} (hi : i < 16) {t : Nat → Nat × Nat} (ht : ∀ s, (t s).1 ≤ 16 ∧ (t s).2 < 65535 ∧ ((t s).1 = 0 → (t s).2 = 0)) :
    ∀ j, j ≤ c i → ∀ s, (fill sym i (cnt c i) (cd c i) j t s).1 ≤ 16 ∧ (fill sym i (cnt c i) (cd c i) j t s).2 < 65535 ∧ ((fill sym i (cnt c i) (cd c i) j t s).1 = 0 → (fill sym i (cnt c i) (cd c i) j t s).2 = 0)
  | 0, _, s => ht s
  | j + 1, hj, s => by
    simp only [fill]
    by_cases e : s = sym (cnt c i + j)
    · rw [if_pos e]
      have := h.code hi (show j < c i by omega)
      exact ⟨by simp; omega, this, by simp⟩
    · rw [if_neg e]
      exact fill_small h hi ht j (by omega) s
theorem tab_small {c sym : Nat → Nat} {n : Nat} (h : Good c n) : ∀ i, i ≤ 16 → ∀ s, (tab c sym i s).1 ≤ 16 ∧ (tab c sym i s).2 < 65535 ∧ ((tab c sym i s).1 = 0 → (tab c sym i s).2 = 0)
  | 0, _, s => by simp [tab]
  | i + 1, hi, s => fill_small h (by omega) (fun s => tab_small h i (by omega) s) (c i) (Nat.le_refl _) s
/-- A symbol that is not among the first ones has no code. -/
theorem fill_none {sym : Nat → Nat} {i k d s : Nat} {t : Nat → Nat × Nat} : ∀ j, (∀ q, q < j → sym (k + q) ≠ s) → fill sym i k d j t s = t s
  | 0, _ => rfl
  | j + 1, h => by
    simp only [fill]
    rw [if_neg (fun e => h j (by omega) e.symm)]
    exact fill_none j fun q hq => h q (by omega)
theorem tab_none {c sym : Nat → Nat} {s : Nat} : ∀ i, (∀ q, q < cnt c i → sym q ≠ s) → tab c sym i s = (0, 0)
  | 0, _ => rfl
  | i + 1, h => by
    simp only [tab]
    rw [fill_none _ fun q hq => h _ (by simp only [cnt]; omega)]
    exact tab_none i fun q hq => h q (by simp only [cnt]; omega)
end Go.Proofs.YtghjlekdibcjdaaGreatDoor
