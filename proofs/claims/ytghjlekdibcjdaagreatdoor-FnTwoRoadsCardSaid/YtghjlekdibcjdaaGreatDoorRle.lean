/- The contracts of the encoder's emitHuffRLE and of div. -/
import Derived.Test.YtghjlekdibcjdaaGreatDoorHuff
namespace Go.Proofs.YtghjlekdibcjdaaGreatDoor
open Go.Deep Go.RowKit
set_option linter.unusedVariables false
/-- How many bits a small number has, and a greater one. -/
def bitC (i : Nat) : Nat := if i = 0 then 0 else Nat.log2 i + 1
def nb (a : Nat) : Nat := if a < 256 then bitC a else 8 + bitC (a / 256)
theorem bitC_le {a k : Nat} (h : a < 2 ^ k) : bitC a ≤ k := by
  unfold bitC
  split
  · omega
  · rename_i h0
    exact (Nat.log2_lt h0).2 h
theorem nb_le {a k : Nat} (h : a < 2 ^ k) : nb a ≤ k := by
  unfold nb
  split
  · exact bitC_le h
  · rename_i h0
    have hk : 8 < k := by
      rcases Nat.lt_or_ge 8 k with h1 | h1
      · exact h1
      · have : 2 ^ k ≤ 2 ^ 8 := Nat.pow_le_pow_right (by omega) h1
        omega
    have h2 : a / 256 < 2 ^ (k - 8) := by
      rw [Nat.div_lt_iff_lt_mul (by omega), show (256 : Nat) = 2 ^ 8 from rfl, ← Nat.pow_add, show k - 8 + 8 = k by omega]
      exact h
    have := bitC_le h2
    omega
theorem nb_pos {a : Nat} (h : 0 < a) : 0 < nb a := by
  unfold nb bitC
  split
  · rw [if_neg (by omega)]; omega
  · omega
theorem nb_zero : nb 0 = 0 := rfl
/-- The low bits of a number. -/
def lowBits (v : Int) (n : Nat) : Nat := ((if v < 0 then v - 1 else v) % (2 ^ n : Nat)).toNat
theorem lowBits_lt (v : Int) (n : Nat) : lowBits v n < 2 ^ n := by
  unfold lowBits
  have hp := Nat.two_pow_pos n
  have h1 := Int.emod_nonneg (if v < 0 then v - 1 else v) (b := ((2 ^ n : Nat) : Int)) (by omega)
  have h2 := Int.emod_lt_of_pos (if v < 0 then v - 1 else v) (b := ((2 ^ n : Nat) : Int)) (by omega)
  omega
/-- A run of noughts and a number behind it are written. -/
def rleN (h run : Nat) (v : Int) (s : Bw) : Bw :=
  if v = 0 then huffN h (run * 16) s else emitN (huffN h (run * 16 + nb v.natAbs) s) (lowBits v (nb v.natAbs)) (nb v.natAbs)
theorem rleN_len (h run : Nat) (v : Int) (s : Bw) : (rleN h run v s).1.length ≤ s.1.length + 12 := by
  unfold rleN
  split
  · have := huffN_len h (run * 16) s; omega
  · have h1 := emitN_len (huffN h (run * 16 + nb v.natAbs) s) (lowBits v (nb v.natAbs)) (nb v.natAbs)
    have h2 := huffN_len h (run * 16 + nb v.natAbs) s
    omega
theorem rleN_ok {h run : Nat} {v : Int} {s : Bw} (hs : BwOk s) (hh : h < 4) (hi : run * 16 + nb v.natAbs < lutLen h) (hn : nb v.natAbs ≤ 16) : BwOk (rleN h run v s) := by
  unfold rleN
  split
  · exact huffN_ok hs hh (by omega)
  · exact emitN_ok (huffN_ok hs hh hi) hn (lowBits_lt _ _)
/-- The listed variable bitCount. -/
def BitsAt (w : World) : Prop := ∀ i, i < 256 → w.cell? ⟨3, i, none⟩ = some (.int .u8 (bitC i : Int))
theorem i32_or_nat (a b : Nat) (ha : a < 2147483648) (hb : b < 2147483648) : bits .or .i32 (a : Int) (b : Int) = ((a ||| b : Nat) : Int) := by
  have hx : a ||| b < 2 ^ 31 := Nat.or_lt_two_pow (by omega) (by omega)
  show IntKind.i32.wrap ((BitVec.ofInt 32 (a : Int) ||| BitVec.ofInt 32 (b : Int)).toNat : Int) = _
  rw [BitVec.toNat_or, ofInt_u32 a (by omega), ofInt_u32 b (by omega)]
  exact IntWalk.i32_in _ ⟨by omega, by omega⟩
theorem run_or (r n : Nat) (hr : r < 1024) (hn : n < 16) : bits .or .i32 ((r : Int) * 16) (n : Int) = ((r * 16 + n : Nat) : Int) := by
  have := i32_or_nat (r * 16) n (by omega) (by omega)
  have e : r * 16 ||| n = r * 16 + n := by
    have := Nat.two_pow_add_eq_or_of_lt (i := 4) (b := n) (by omega) r
    rw [Nat.mul_comm, show (2 : Nat) ^ 4 = 16 from rfl] at this
    rw [Nat.mul_comm r 16]
    rw [Nat.mul_comm] at this
    exact this.symm
  rw [e] at this
  rw [← this]
  congr 1
/-- The quotient rounded to the nearest integer, halves away from nought. -/
def qdiv (a b : Int) : Int := if 0 ≤ a then (a + b / 2) / b else -((-a + b / 2) / b)
theorem qdiv_pos {a b : Int} (h : 0 ≤ a) : qdiv a b = (a + b / 2) / b := if_pos h
theorem qdiv_neg {a b : Int} (h : a < 0) : qdiv a b = -((-a + b / 2) / b) := if_neg (by omega)
theorem quot_bounds {x b : Int} (hb : 1 ≤ b) : (x / b) * b ≤ x ∧ x < (x / b) * b + b := by
  have h1 := Int.mul_ediv_add_emod x b
  have h2 := Int.emod_nonneg x (show b ≠ 0 by omega)
  have h3 := Int.emod_lt_of_pos x (show 0 < b by omega)
  rw [Int.mul_comm] at h1
  omega
theorem quot_le {x b : Int} (hx : 0 ≤ x) (hb : 1 ≤ b) : 0 ≤ x / b ∧ x / b ≤ x :=
  ⟨Int.ediv_nonneg hx (by omega), Int.ediv_le_self _ hx⟩
/-- The law: twice the distance of the product from the dividend is no more than the divisor. -/
theorem qdiv_near (a b : Int) (hb : 1 ≤ b) : -b ≤ 2 * (qdiv a b * b - a) ∧ 2 * (qdiv a b * b - a) ≤ b := by
  by_cases h : 0 ≤ a
  · rw [qdiv_pos h]
    have := quot_bounds (x := a + b / 2) hb
    omega
  · rw [qdiv_neg (by omega), Int.neg_mul]
    have := quot_bounds (x := -a + b / 2) hb
    omega
theorem qdiv_range (a b : Int) (hb : 1 ≤ b) (h1 : -1610612735 ≤ a) (h2 : a ≤ 1610612735) (h3 : b ≤ 1073741824) : -2147483647 ≤ qdiv a b ∧ qdiv a b ≤ 2147483647 := by
  by_cases h : 0 ≤ a
  · rw [qdiv_pos h]
    have := quot_le (x := a + b / 2) (by omega) hb
    omega
  · rw [qdiv_neg (by omega)]
    have := quot_le (x := -a + b / 2) (by omega) hb
    omega
theorem div_any (a b : Int) (w : World) (h1 : -1610612735 ≤ a) (h2 : a ≤ 1610612735) (h3 : 1 ≤ b) (h4 : b ≤ 1073741824) :
    Calls Tryz.prog 72 #[.int .i32 a, .int .i32 b] w fun e w' => e = .returned (.int .i32 (qdiv a b)) ∧ w = w' := by
  by_cases h : 0 ≤ a
  · have hq := quot_le (x := a + b / 2) (b := b) (by omega) h3
    have e := qdiv_pos (b := b) h
    have E := Lib.hid e
    clear e
    go_enter Tryz.func72, Tryz.ntmps72
    go_wp2
    go_ret
    exact ⟨by rw [E.out]; rfl, rfl⟩
  · have h' : a < 0 := by omega
    have hq := quot_le (x := -a + b / 2) (b := b) (by omega) h3
    have hr : -2147483648 ≤ -((-a + b / 2) / b) := by omega
    have e := qdiv_neg (b := b) h'
    have E := Lib.hid e
    clear e
    go_enter Tryz.func72, Tryz.ntmps72
    go_wp2
    go_ret
    exact ⟨by rw [E.out]; rfl, rfl⟩
theorem pow15 {n : Nat} (h : n ≤ 15) : (1 : Int) ≤ ((2 ^ n : Nat) : Int) ∧ ((2 ^ n : Nat) : Int) ≤ 65536 := by
  have h1 : 2 ^ n ≤ 2 ^ 16 := Nat.pow_le_pow_right (by omega) (by omega)
  have h2 := Nat.two_pow_pos n
  omega
set_option maxHeartbeats 2000000 in
set_option maxRecDepth 100000 in
theorem rle_any (z : Ids) (eb : Nat) (Q L : Nat → Nat) (f : Nat → Value) (s : Bw) (h run : Nat) (v : Int) (w : World) (hT : Tabs z eb Q L f w) (hBits : BitsAt w) (hE : EncS z eb f s w) (hs : BwOk s) (hh : h < 4) (hv : -2047 ≤ v ∧ v ≤ 2047) (hr : run ≤ 15) (hi : run * 16 + nb v.natAbs < lutLen h) (hl : s.1.length + 12 ≤ 1099511627776) :
    Calls Tryz.prog 73 #[.pointer (some ⟨eb, 0, none⟩), .int .i64 (h : Int), .int .i32 (run : Int), .int .i32 v] w fun e w' => e = .returned (.tuple #[]) ∧ EncS z eb f (rleN h run v s) w' ∧ Fr z.B (z.all eb) w w' := by
  have hn15 : nb v.natAbs ≤ 15 := nb_le (by omega)
  have CH0 := (emitHuff_any z eb Q L f s h (run * 16 + nb v.natAbs) w hT hE hs hh hi (by omega))
  have CE0 := fun (W : World) (k : EncS z eb f (huffN h (run * 16 + nb v.natAbs) s) W) => emit_any z eb f _ (lowBits v (nb v.natAbs)) (nb v.natAbs) W k (huffN_ok hs hh hi) (by omega) (lowBits_lt _ _) (by have := huffN_len h (run * 16 + nb v.natAbs) s; omega)
  have hor := run_or run (nb v.natAbs) (by omega) (by omega)
  obtain ⟨hv1, hv2⟩ := hv
  have hpos : v ≠ 0 → 0 < nb v.natAbs := fun h => nb_pos (by omega)
  have hz0 : v = 0 → nb v.natAbs = 0 := fun h => by rw [h]; rfl
  have hrl : rleN h run v s = if v = 0 then huffN h (run * 16 + nb v.natAbs) s else emitN (huffN h (run * 16 + nb v.natAbs) s) (lowBits v (nb v.natAbs)) (nb v.natAbs) := by
    unfold rleN
    by_cases h : v = 0
    · rw [if_pos h, if_pos h, hz0 h, Nat.add_zero]
    · rw [if_neg h, if_neg h]
  obtain ⟨F, hF⟩ : ∃ F, rleN h run v s = F := ⟨_, rfl⟩
  rw [hF] at hrl ⊢
  have hlow : (((if v < 0 then v - 1 else v) % 4294967296) % ((2 ^ nb v.natAbs : Nat) : Int)) = (lowBits v (nb v.natAbs) : Int) := by
    unfold lowBits
    have hp := Nat.two_pow_pos (nb v.natAbs)
    have e : (4294967296 : Int) = ((2 ^ nb v.natAbs : Nat) : Int) * ((2 ^ (32 - nb v.natAbs) : Nat) : Int) := by
      rw [← Int.natCast_mul, ← Nat.pow_add, show nb v.natAbs + (32 - nb v.natAbs) = 32 by omega]; rfl
    rw [e, Int.emod_emod_of_dvd _ (Int.dvd_mul_right _ _)]
    have h1 := Int.emod_nonneg (if v < 0 then v - 1 else v) (b := ((2 ^ nb v.natAbs : Nat) : Int)) (by omega)
    omega
  have hb1 : v.natAbs < 256 → w.cell? ⟨3, v.natAbs, none⟩ = some (.int .u8 (nb v.natAbs : Int)) := fun h => by
    rw [hBits _ h]; unfold nb; rw [if_pos h]
  have hb2 : 256 ≤ v.natAbs → ∃ m, nb v.natAbs = 8 + m ∧ w.cell? ⟨3, v.natAbs / 256, none⟩ = some (.int .u8 (m : Int)) := fun h => by
    refine ⟨bitC (v.natAbs / 256), ?_, hBits _ (by omega)⟩
    unfold nb; rw [if_neg (by omega)]
  obtain ⟨lo, hlo⟩ : ∃ lo, lowBits v (nb v.natAbs) = lo := ⟨_, rfl⟩
  rw [hlo] at CE0 hlow hrl
  obtain ⟨n, hn⟩ : ∃ n, nb v.natAbs = n := ⟨_, rfl⟩
  rw [hn] at CH0 CE0 hor hpos hz0 hlow hb1 hb2 hn15 hrl
  have em : ((n : Nat) : Int) % 4294967296 = (n : Int) := by omega
  have ew : wrap32 ((n : Nat) : Int) = (n : Int) := IntWalk.wrap32_in _ ⟨by omega, by omega⟩
  have hpw := pow15 hn15
  have ecast : (((run * 16 + n : Nat)) : Int) = (run : Int) * 16 + (n : Int) := by omega
  rw [ecast] at CH0 hor
  obtain ⟨P2, hP2⟩ : ∃ P2 : Nat, 2 ^ n = P2 := ⟨_, rfl⟩
  have hsh3 : (2 : Int) ^ n = (P2 : Int) := by rw [← hP2]; simp
  have hP1 : 1 ≤ (P2 : Int) := by rw [← hP2]; exact hpw.1
  have hPu : (P2 : Int) ≤ 65536 := by rw [← hP2]; exact hpw.2
  rw [hP2] at hlow
  have CH := Lib.hid CH0
  have CE := Lib.hid CE0
  clear hT hE hF hlo CH0 CE0 hBits ecast
  by_cases h0 : v < 0
  · by_cases h8 : v.natAbs < 256
    · skip
      have c0 := hb1 h8
      have hp := hpos (by omega)
      obtain ⟨a, ha⟩ : ∃ a, v.natAbs = a := ⟨_, rfl⟩
      have hva : v = -(a : Int) := by omega
      rw [ha] at c0 h8
      have hand : bits .and .u32 ((-(a : Int) - 1) % 4294967296) ((P2 : Int) - 1) = (lo : Int) := by
        have h1 := u32_and_mask ((-(a : Int) - 1) % 4294967296).toNat n (by omega) (by omega)
        have h2 : ((((-(a : Int) - 1) % 4294967296).toNat : Nat) : Int) = (-(a : Int) - 1) % 4294967296 := by omega
        have h3 : ((2 ^ n - 1 : Nat) : Int) = (P2 : Int) - 1 := by rw [hP2]; omega
        rw [h2, h3] at h1
        rw [h1, ← hlow, hva]
        rw [Int.natCast_emod, h2, hP2]
        rw [if_pos (by omega)]
      have i0 : (0 : Int) < (n : Int) := by omega
      have HZ := Lib.hid (And.intro hrl h0)
      have h8' : (a : Int) < 256 := by omega
      have hv3 : (a : Int) ≤ 2047 := by omega
      have h0' : 0 < (a : Int) := by omega
      have HN := Lib.hid (And.intro hn hP2)
      clear hb1 hb2 ha hpos hz0 hlow hrl hv1 hv2 h0 h8 hn hP2 hpw
      subst hva
      go_enter Tryz.func73, Tryz.ntmps73
      go_wp2_with (first
        | (go_at_call 74; (with_reducible refine CH.out.mono ?_); rintro e w1 ⟨rfl, k1, k2⟩; have P := Lib.hid (And.intro k1 k2); clear k1 k2)
        | (go_at_call 62; (with_reducible refine (CE.out _ P.out.1).mono ?_); rintro e w2 ⟨rfl, k1, k2⟩; have P2 := Lib.hid (And.intro k1 k2); clear k1 k2))
      go_end0
      have hF := HZ.out.1
      rw [if_neg (by omega)] at hF
      rw [hF]
      exact ⟨rfl, P2.out.1, P.out.2.trans P2.out.2⟩
    · skip
      obtain ⟨m, hm, c0⟩ := hb2 (by omega)
      have hp := hpos (by omega)
      obtain ⟨a, ha⟩ : ∃ a, v.natAbs = a := ⟨_, rfl⟩
      have hva : v = -(a : Int) := by omega
      rw [ha] at c0 h8
      have hand : bits .and .u32 ((-(a : Int) - 1) % 4294967296) ((P2 : Int) - 1) = (lo : Int) := by
        have h1 := u32_and_mask ((-(a : Int) - 1) % 4294967296).toNat n (by omega) (by omega)
        have h2 : ((((-(a : Int) - 1) % 4294967296).toNat : Nat) : Int) = (-(a : Int) - 1) % 4294967296 := by omega
        have h3 : ((2 ^ n - 1 : Nat) : Int) = (P2 : Int) - 1 := by rw [hP2]; omega
        rw [h2, h3] at h1
        rw [h1, ← hlow, hva]
        rw [Int.natCast_emod, h2, hP2]
        rw [if_pos (by omega)]
      have i0 : (0 : Int) < (n : Int) := by omega
      have HZ := Lib.hid (And.intro hrl h0)
      have h8' : 256 ≤ (a : Int) := by omega
      obtain ⟨d, hd⟩ : ∃ d, a / 256 = d := ⟨_, rfl⟩
      rw [hd] at c0
      have hdv : (a : Int) / 256 = (d : Int) := by omega
      have hdl : (d : Int) < 256 := by omega
      clear hd
      have hn8 : (8 : Int) + (m : Int) = (n : Int) := by omega
      have em2 : (m : Int) % 4294967296 = (m : Int) := by omega
      have hv3 : (a : Int) ≤ 2047 := by omega
      have h0' : 0 < (a : Int) := by omega
      have HN := Lib.hid (And.intro hn hP2)
      clear hb1 hb2 ha hpos hz0 hlow hrl hv1 hv2 h0 h8 hn hP2 hm hpw
      subst hva
      go_enter Tryz.func73, Tryz.ntmps73
      go_wp2_with (first
        | (go_at_call 74; (with_reducible refine CH.out.mono ?_); rintro e w1 ⟨rfl, k1, k2⟩; have P := Lib.hid (And.intro k1 k2); clear k1 k2)
        | (go_at_call 62; (with_reducible refine (CE.out _ P.out.1).mono ?_); rintro e w2 ⟨rfl, k1, k2⟩; have P2 := Lib.hid (And.intro k1 k2); clear k1 k2))
      go_end0
      have hF := HZ.out.1
      rw [if_neg (by omega)] at hF
      rw [hF]
      exact ⟨rfl, P2.out.1, P.out.2.trans P2.out.2⟩
  · by_cases h8 : v.natAbs < 256
    · by_cases hz : v = 0
      · subst hz
        have c0 := hb1 h8
        have e0 := hz0 rfl
        have c0' : w.cell? ⟨3, 0, none⟩ = some (.int .u8 (n : Int)) := c0
        rw [if_pos rfl] at hrl
        have HZ := Lib.hid hrl
        have i0 : ¬ (0 : Int) < (n : Int) := by omega
        have HN := Lib.hid (And.intro hn hP2)
        clear hb1 hb2 hpos hz0 hlow hrl hv1 hv2 h0 h8 hn hP2 hpw c0 e0
        go_enter Tryz.func73, Tryz.ntmps73
        go_wp2_with (first
          | (go_at_call 74; (with_reducible refine CH.out.mono ?_); rintro e w1 ⟨rfl, k1, k2⟩; have P := Lib.hid (And.intro k1 k2); clear k1 k2))
        go_end0
        rw [HZ.out]
        exact ⟨rfl, P.out⟩
      · skip
        have c0 := hb1 h8
        have hp := hpos (by omega)
        obtain ⟨a, ha⟩ : ∃ a, v.natAbs = a := ⟨_, rfl⟩
        have hva : v = (a : Int) := by omega
        rw [ha] at c0 h8
        have hand : bits .and .u32 ((a : Int)) ((P2 : Int) - 1) = (lo : Int) := by
          have h1 := u32_and_mask a n (by omega) (by omega)
          have h2 : ((a : Nat) : Int) = (a : Int) := by omega
          have h3 : ((2 ^ n - 1 : Nat) : Int) = (P2 : Int) - 1 := by rw [hP2]; omega
          rw [h2, h3] at h1
          rw [h1, ← hlow, hva]
          rw [Int.natCast_emod, h2, hP2]
          rw [if_neg (by omega)]; congr 1; omega
        have i0 : (0 : Int) < (n : Int) := by omega
        have HZ := Lib.hid (And.intro hrl h0)
        have h8' : (a : Int) < 256 := by omega
        have hv3 : (a : Int) ≤ 2047 := by omega
        have h0' : 0 ≤ (a : Int) := by omega
        have HN := Lib.hid (And.intro hn hP2)
        clear hb1 hb2 ha hpos hz0 hlow hrl hv1 hv2 h0 h8 hn hP2 hpw
        subst hva
        go_enter Tryz.func73, Tryz.ntmps73
        go_wp2_with (first
          | (go_at_call 74; (with_reducible refine CH.out.mono ?_); rintro e w1 ⟨rfl, k1, k2⟩; have P := Lib.hid (And.intro k1 k2); clear k1 k2)
          | (go_at_call 62; (with_reducible refine (CE.out _ P.out.1).mono ?_); rintro e w2 ⟨rfl, k1, k2⟩; have P2 := Lib.hid (And.intro k1 k2); clear k1 k2))
        go_end0
        have hF := HZ.out.1
        rw [if_neg (by omega)] at hF
        rw [hF]
        exact ⟨rfl, P2.out.1, P.out.2.trans P2.out.2⟩
    · skip
      obtain ⟨m, hm, c0⟩ := hb2 (by omega)
      have hp := hpos (by omega)
      obtain ⟨a, ha⟩ : ∃ a, v.natAbs = a := ⟨_, rfl⟩
      have hva : v = (a : Int) := by omega
      rw [ha] at c0 h8
      have hand : bits .and .u32 ((a : Int)) ((P2 : Int) - 1) = (lo : Int) := by
        have h1 := u32_and_mask a n (by omega) (by omega)
        have h2 : ((a : Nat) : Int) = (a : Int) := by omega
        have h3 : ((2 ^ n - 1 : Nat) : Int) = (P2 : Int) - 1 := by rw [hP2]; omega
        rw [h2, h3] at h1
        rw [h1, ← hlow, hva]
        rw [Int.natCast_emod, h2, hP2]
        rw [if_neg (by omega)]; congr 1; omega
      have i0 : (0 : Int) < (n : Int) := by omega
      have HZ := Lib.hid (And.intro hrl h0)
      have h8' : 256 ≤ (a : Int) := by omega
      obtain ⟨d, hd⟩ : ∃ d, a / 256 = d := ⟨_, rfl⟩
      rw [hd] at c0
      have hdv : (a : Int) / 256 = (d : Int) := by omega
      have hdl : (d : Int) < 256 := by omega
      clear hd
      have hn8 : (8 : Int) + (m : Int) = (n : Int) := by omega
      have em2 : (m : Int) % 4294967296 = (m : Int) := by omega
      have hv3 : (a : Int) ≤ 2047 := by omega
      have h0' : 0 ≤ (a : Int) := by omega
      have HN := Lib.hid (And.intro hn hP2)
      clear hb1 hb2 ha hpos hz0 hlow hrl hv1 hv2 h0 h8 hn hP2 hm hpw
      subst hva
      go_enter Tryz.func73, Tryz.ntmps73
      go_wp2_with (first
        | (go_at_call 74; (with_reducible refine CH.out.mono ?_); rintro e w1 ⟨rfl, k1, k2⟩; have P := Lib.hid (And.intro k1 k2); clear k1 k2)
        | (go_at_call 62; (with_reducible refine (CE.out _ P.out.1).mono ?_); rintro e w2 ⟨rfl, k1, k2⟩; have P2 := Lib.hid (And.intro k1 k2); clear k1 k2))
      go_end0
      have hF := HZ.out.1
      rw [if_neg (by omega)] at hF
      rw [hF]
      exact ⟨rfl, P2.out.1, P.out.2.trans P2.out.2⟩
end Go.Proofs.YtghjlekdibcjdaaGreatDoor
