/- Bits written one behind the other: one at a time, as package spec does it, and by whole bytes, as the package does it: plain laws. -/
import Derived.RowKit
namespace Go.Proofs.Ytpmbbampkedecaa
/-- A byte, and a byte 0 behind it if it is 255. -/
def stuff (b : Nat) : List Nat := if b = 255 then [255, 0] else [b]
/-- What is written: the bytes, the bits of the byte that is not full, how many these are. -/
abbrev Bw := List Nat × Nat × Nat
/-- One bit more (spec.sink.put's round). -/
def put1 (s : Bw) (b : Nat) : Bw := if s.2.2 + 1 = 8 then (s.1 ++ stuff (2 * s.2.1 + b), 0, 0) else (s.1, 2 * s.2.1 + b, s.2.2 + 1)
/-- The first k of the n bits of a number. -/
def putTo (s : Bw) (v n : Nat) : Nat → Bw
  | 0 => s
  | k + 1 => put1 (putTo s v n k) (v / 2 ^ (n - 1 - k) % 2)
/-- A round of the encoder's loop: the register's highest byte is written. -/
def flS (s : Bw) : Bw := (s.1 ++ stuff (s.2.1 / 16777216), s.2.1 * 256 % 4294967296, s.2.2 - 8)
def fl : Nat → Bw → Bw
  | 0, s => s
  | k + 1, s => if 8 ≤ s.2.2 then fl k (flS s) else s
/-- What emit makes of a state (the bytes, the register, how many of its bits count). -/
def emitN (s : Bw) (v n : Nat) : Bw := fl 3 (s.1, (v * 2 ^ (32 - (n + s.2.2))) ||| s.2.1, n + s.2.2)
/-- The whole bytes of a number of m bits are written. -/
def nf : Nat → Bw → Bw
  | 0, s => s
  | k + 1, s => if 8 ≤ s.2.2 then nf k (s.1 ++ stuff (s.2.1 / 2 ^ (s.2.2 - 8)), s.2.1 % 2 ^ (s.2.2 - 8), s.2.2 - 8) else s
/-- The register that holds a state's bits. -/
def reg (s : Bw) : Bw := (s.1, s.2.1 * 2 ^ (32 - s.2.2), s.2.2)
theorem pow_split (a b : Nat) (h : b ≤ a) : 2 ^ a = 2 ^ b * 2 ^ (a - b) := by rw [← Nat.pow_add]; congr 1; omega
theorem fl_yes (k : Nat) (s : Bw) (h : 8 ≤ s.2.2) : fl (k + 1) s = fl k (flS s) := if_pos h
theorem fl_no (k : Nat) (s : Bw) (h : ¬ 8 ≤ s.2.2) : fl (k + 1) s = s := if_neg h
theorem nf_yes (k : Nat) (o : List Nat) (x m : Nat) (h : 8 ≤ m) : nf (k + 1) (o, x, m) = nf k (o ++ stuff (x / 2 ^ (m - 8)), x % 2 ^ (m - 8), m - 8) := if_pos h
theorem nf_no (k : Nat) (o : List Nat) (x m : Nat) (h : ¬ 8 ≤ m) : nf (k + 1) (o, x, m) = (o, x, m) := if_neg h
theorem put1_more (o : List Nat) (x m b : Nat) (h : m + 1 ≠ 8) : put1 (o, x, m) b = (o, 2 * x + b, m + 1) := if_neg h
theorem put1_full (o : List Nat) (x b : Nat) : put1 (o, x, 7) b = (o ++ stuff (2 * x + b), 0, 0) := if_pos rfl
theorem flS_reg (o : List Nat) (x m : Nat) (h8 : 8 ≤ m) (hm : m ≤ 32) : flS (reg (o, x, m)) = reg (o ++ stuff (x / 2 ^ (m - 8)), x % 2 ^ (m - 8), m - 8) := by
  have e1 : x * 2 ^ (32 - m) / 16777216 = x / 2 ^ (m - 8) := by
    rw [show 16777216 = 2 ^ (m - 8) * 2 ^ (32 - m) by rw [← Nat.pow_add, show m - 8 + (32 - m) = 24 by omega]]
    exact Nat.mul_div_mul_right _ _ (Nat.two_pow_pos _)
  have e2 : x * 2 ^ (32 - m) * 256 % 4294967296 = x % 2 ^ (m - 8) * 2 ^ (32 - (m - 8)) := by
    rw [show 4294967296 = 2 ^ (m - 8) * 2 ^ (32 - (m - 8)) by rw [← Nat.pow_add, show m - 8 + (32 - (m - 8)) = 32 by omega]]
    rw [Nat.mul_assoc, show 2 ^ (32 - m) * 256 = 2 ^ (32 - (m - 8)) by rw [show 256 = 2 ^ 8 from rfl, ← Nat.pow_add]; congr 1; omega]
    exact Nat.mul_mod_mul_right _ _ _
  simp only [flS, reg, e1, e2]
theorem fl_reg : ∀ (k : Nat) (o : List Nat) (x m : Nat), m ≤ 32 → x < 2 ^ m → fl k (reg (o, x, m)) = reg (nf k (o, x, m))
  | 0, _, _, _, _, _ => rfl
  | k + 1, o, x, m, hm, hx => by
    by_cases h : 8 ≤ m
    · rw [fl_yes k (reg (o, x, m)) h, nf_yes k o x m h, flS_reg o x m h hm]
      exact fl_reg k _ _ _ (by omega) (Nat.mod_lt _ (Nat.two_pow_pos _))
    · rw [fl_no k (reg (o, x, m)) h, nf_no k o x m h]
theorem nf_small : ∀ (k : Nat) (o : List Nat) (x m : Nat), m < 8 → nf k (o, x, m) = (o, x, m)
  | 0, _, _, _, _ => rfl
  | k + 1, o, x, m, h => nf_no k o x m (by omega)
theorem put1_nf : ∀ (k : Nat) (o : List Nat) (x m b : Nat), b < 2 → x < 2 ^ m → m + 1 < 8 * (k + 1) → put1 (nf k (o, x, m)) b = nf k (o, 2 * x + b, m + 1)
  | 0, o, x, m, b, hb, hx, hm => put1_more o x m b (by omega)
  | k + 1, o, x, m, b, hb, hx, hm => by
    by_cases h : 8 ≤ m
    · have e1 := nf_yes k o x m h
      have e2 := nf_yes k o (2 * x + b) (m + 1) (by omega)
      have ep : 2 ^ (m + 1 - 8) = 2 * 2 ^ (m - 8) := by rw [show m + 1 - 8 = (m - 8) + 1 by omega, Nat.pow_succ, Nat.mul_comm]
      have ed : (2 * x + b) / 2 ^ (m + 1 - 8) = x / 2 ^ (m - 8) := by
        rw [ep, ← Nat.div_div_eq_div_mul, show (2 * x + b) / 2 = x by omega]
      have em : (2 * x + b) % 2 ^ (m + 1 - 8) = 2 * (x % 2 ^ (m - 8)) + b := by
        rw [ep, Nat.mod_mul, show (2 * x + b) / 2 = x by omega, show (2 * x + b) % 2 = b by omega]
        omega
      rw [e1, e2, ed, em, put1_nf k _ _ _ _ hb (Nat.mod_lt _ (Nat.two_pow_pos _)) (by omega), show m + 1 - 8 = m - 8 + 1 by omega]
    · rw [nf_small _ _ _ _ (show m < 8 by omega)]
      by_cases h7 : m = 7
      · subst h7
        rw [nf_yes k o (2 * x + b) (7 + 1) (by omega), put1_full, show 7 + 1 - 8 = 0 from rfl, Nat.pow_zero, Nat.div_one, Nat.mod_one, nf_small _ _ _ _ (by omega)]
      · rw [nf_small _ _ _ _ (show m + 1 < 8 by omega)]
        exact put1_more o x m b (by omega)
theorem putTo_nf (o : List Nat) (x m v n : Nat) (hx : x < 2 ^ m) (hm : m < 8) (hn : n ≤ 16) (hv : v < 2 ^ n) : ∀ k, k ≤ n → putTo (o, x, m) v n k = nf 3 (o, x * 2 ^ k + v / 2 ^ (n - k), m + k)
  | 0, _ => by
    rw [Nat.pow_zero, Nat.mul_one, Nat.sub_zero, Nat.div_eq_of_lt hv, Nat.add_zero, Nat.add_zero, nf_small _ _ _ _ hm]
    rfl
  | k + 1, hk => by
    simp only [putTo]
    have hb : v / 2 ^ (n - k) < 2 ^ k := by
      rw [Nat.div_lt_iff_lt_mul (Nat.two_pow_pos _), ← Nat.pow_add, show k + (n - k) = n by omega]
      exact hv
    have hxk : x * 2 ^ k + v / 2 ^ (n - k) < 2 ^ (m + k) := by
      rw [Nat.pow_add]
      have : (x + 1) * 2 ^ k ≤ 2 ^ m * 2 ^ k := Nat.mul_le_mul_right _ hx
      rw [Nat.add_mul, Nat.one_mul] at this
      omega
    rw [putTo_nf o x m v n hx hm hn hv k (by omega), put1_nf 3 _ _ _ _ (Nat.mod_lt _ (by omega)) hxk (by omega)]
    have e : 2 * (x * 2 ^ k + v / 2 ^ (n - k)) + v / 2 ^ (n - 1 - k) % 2 = x * 2 ^ (k + 1) + v / 2 ^ (n - (k + 1)) := by
      have e1 : v / 2 ^ (n - k) = v / 2 ^ (n - 1 - k) / 2 := by
        rw [Nat.div_div_eq_div_mul, ← Nat.pow_succ]
        congr 2
        omega
      rw [e1, show n - (k + 1) = n - 1 - k by omega, Nat.pow_succ, ← Nat.mul_assoc]
      generalize v / 2 ^ (n - 1 - k) = q
      generalize x * 2 ^ k = p
      omega
    rw [e, show m + k + 1 = m + (k + 1) by omega]
/-- What is known of a state: fewer than 8 bits wait. -/
def BwOk (s : Bw) : Prop := s.2.2 < 8 ∧ s.2.1 < 2 ^ s.2.2
theorem put1_ok {s : Bw} {b : Nat} (hb : b < 2) (h : BwOk s) : BwOk (put1 s b) := by
  obtain ⟨o, x, m⟩ := s
  obtain ⟨h1, h2⟩ := h
  simp only at h1 h2
  by_cases e : m = 7
  · subst e
    rw [put1_full]
    exact ⟨by simp, by simp⟩
  · rw [put1_more o x m b (by omega)]
    refine ⟨by show m + 1 < 8; omega, ?_⟩
    show 2 * x + b < 2 ^ (m + 1)
    rw [Nat.pow_succ]
    omega
theorem putTo_ok {s : Bw} (v n : Nat) (h : BwOk s) : ∀ k, BwOk (putTo s v n k)
  | 0 => h
  | k + 1 => put1_ok (Nat.mod_lt _ (by omega)) (putTo_ok v n h k)
/-- The two ways come to one: a number written bit by bit, and by the register. -/
theorem emit_put (s : Bw) (v n : Nat) (h : BwOk s) (hn : n ≤ 16) (hv : v < 2 ^ n) : emitN (reg s) v n = reg (putTo s v n n) := by
  obtain ⟨o, x, m⟩ := s
  obtain ⟨h1, h2⟩ := h
  simp only at h1 h2
  have hx : x * 2 ^ n + v < 2 ^ (m + n) := by
    rw [Nat.pow_add]
    have : (x + 1) * 2 ^ n ≤ 2 ^ m * 2 ^ n := Nat.mul_le_mul_right _ h2
    rw [Nat.add_mul, Nat.one_mul] at this
    omega
  have hor : (v * 2 ^ (32 - (n + m))) ||| (x * 2 ^ (32 - m)) = (x * 2 ^ n + v) * 2 ^ (32 - (m + n)) := by
    have e : x * 2 ^ (32 - m) = 2 ^ (32 - m) * x := Nat.mul_comm _ _
    have hlt : v * 2 ^ (32 - (n + m)) < 2 ^ (32 - m) := by
      rw [show 32 - m = n + (32 - (n + m)) by omega, Nat.pow_add]
      exact Nat.mul_lt_mul_of_pos_right hv (Nat.two_pow_pos _)
    rw [e, Nat.or_comm, ← Nat.two_pow_add_eq_or_of_lt hlt, Nat.add_mul, show 32 - (m + n) = 32 - (n + m) by omega, Nat.mul_assoc, ← Nat.pow_add, show n + (32 - (n + m)) = 32 - m by omega, Nat.mul_comm]
  show fl 3 (o, (v * 2 ^ (32 - (n + m))) ||| (x * 2 ^ (32 - m)), n + m) = _
  rw [hor, show n + m = m + n by omega]
  have := fl_reg 3 o (x * 2 ^ n + v) (m + n) (by omega) hx
  rw [putTo_nf o x m v n h2 h1 hn hv n (Nat.le_refl _), Nat.sub_self, Nat.pow_zero, Nat.div_one]
  exact this
/-- The bytes, the last one filled with ones. -/
def fin (s : Bw) : List Nat := if s.2.2 = 0 then s.1 else s.1 ++ stuff (s.2.1 * 2 ^ (8 - s.2.2) + 2 ^ (8 - s.2.2) - 1)
theorem fin_put1 {s : Bw} (h : BwOk s) (h0 : 0 < s.2.2) : fin (put1 s 1) = fin s := by
  obtain ⟨o, x, m⟩ := s
  obtain ⟨h1, h2⟩ := h
  simp only at h0 h1 h2
  obtain rfl | rfl | rfl | rfl | rfl | rfl | rfl : m = 1 ∨ m = 2 ∨ m = 3 ∨ m = 4 ∨ m = 5 ∨ m = 6 ∨ m = 7 := by omega
  all_goals
    simp only [put1, fin]
    simp
    try (congr 1; omega)
theorem emit_fin (s : Bw) (h : BwOk s) : (emitN (reg s) 127 7).1 = fin s := by
  rw [emit_put s 127 7 h (by omega) (by omega)]
  obtain ⟨o, x, m⟩ := s
  obtain ⟨h1, h2⟩ := h
  simp only at h1 h2
  rw [putTo_nf o x m 127 7 h2 h1 (by omega) (by omega) 7 (Nat.le_refl _), Nat.sub_self, Nat.pow_zero, Nat.div_one]
  obtain rfl | rfl | rfl | rfl | rfl | rfl | rfl | rfl : m = 0 ∨ m = 1 ∨ m = 2 ∨ m = 3 ∨ m = 4 ∨ m = 5 ∨ m = 6 ∨ m = 7 := by omega
  all_goals
    simp [nf, fin, reg]
    try (congr 1; omega)
theorem stuff_len (b : Nat) : 1 ≤ (stuff b).length ∧ (stuff b).length ≤ 2 := by unfold stuff; split <;> simp
theorem stuff_byte (b : Nat) (h : b < 256) : ∀ x ∈ stuff b, x < 256 := by
  unfold stuff
  split <;> simp [h]
theorem put1_len (s : Bw) (b : Nat) : s.1.length ≤ (put1 s b).1.length ∧ (put1 s b).1.length ≤ s.1.length + 2 := by
  unfold put1
  have := stuff_len (2 * s.2.1 + b)
  split <;> simp <;> omega
theorem putTo_len (s : Bw) (v n : Nat) : ∀ k, s.1.length ≤ (putTo s v n k).1.length ∧ (putTo s v n k).1.length ≤ s.1.length + 2 * k
  | 0 => ⟨Nat.le_refl _, Nat.le_refl _⟩
  | k + 1 => by
    have h1 := putTo_len s v n k
    have h2 := put1_len (putTo s v n k) (v / 2 ^ (n - 1 - k) % 2)
    simp only [putTo]
    omega
end Go.Proofs.Ytpmbbampkedecaa
