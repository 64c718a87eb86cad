/- The contract of the encoder's emit. -/
import Derived.Test.YtghjlekdibcjdaaGreatDoorSinkD
namespace Go.Proofs.YtghjlekdibcjdaaGreatDoor
open Go.Deep Go.RowKit
set_option linter.unusedVariables false
theorem ofInt_u32 (a : Nat) (h : a < 4294967296) : (BitVec.ofInt 32 (a : Int)).toNat = a := by simp; omega
/-- Go's '|' on two numbers of type uint32. -/
theorem u32_or_nat (a b : Nat) (ha : a < 4294967296) (hb : b < 4294967296) : bits .or .u32 (a : Int) (b : Int) = ((a ||| b : Nat) : Int) := by
  have hx : a ||| b < 2 ^ 32 := Nat.or_lt_two_pow (by omega) (by omega)
  show IntKind.u32.wrap ((BitVec.ofInt 32 (a : Int) ||| BitVec.ofInt 32 (b : Int)).toNat : Int) = _
  rw [BitVec.toNat_or, ofInt_u32 a ha, ofInt_u32 b hb]
  simp only [IntKind.wrap_u32]
  omega
/-- The encoder's cells with a register. -/
def encR (f : Nat → Value) (x m : Nat) : Nat → Value := fun j => if j = 18 then .int .u32 (x : Int) else if j = 19 then .int .u32 (m : Int) else f j
/-- An encoder in a state. -/
def EncS (z : Ids) (eb : Nat) (f : Nat → Value) (s : Bw) (w : World) : Prop := EncIs z eb (encR f s.2.1 s.2.2) s.1 w
/-- What holds at the head of emit's loop. -/
structure EmS (z : Ids) (eb : Nat) (g : Nat → Value) (w : World) (F : Bw) (top : Nat) (k : Nat) (o : List Nat) (Y q : Nat) (wr : World) : Prop where
  lk : q < 8 * (k + 1)
  lY : Y < 4294967296
  eq : fl k (o, Y, q) = F
  len : o.length + 2 * k ≤ top
  enc : EncIs z eb g o wr
  fr : Fr z.B (z.all eb) w wr
set_option maxHeartbeats 1000000 in
set_option maxRecDepth 100000 in
theorem emit_any (z : Ids) (eb : Nat) (f : Nat → Value) (s : Bw) (v n : Nat) (w : World) (h : EncS z eb f s w) (hs : BwOk s) (hn : n ≤ 16) (hvn : v < 2 ^ n) (hl : s.1.length + 6 ≤ 1099511627776) :
    Calls Tryz.prog 62 #[.pointer (some ⟨eb, 0, none⟩), .int .u32 (v : Int), .int .u32 (n : Int)] w fun e w' => e = .returned (.tuple #[]) ∧ EncS z eb f (emitN s v n) w' ∧ Fr z.B (z.all eb) w w' := by
  obtain ⟨o, X, m⟩ := s
  unfold EncS at h
  obtain ⟨hm, hx⟩ := hs
  simp only at h hm hx hl
  have hv : v * 2 ^ (32 - (n + m)) < 4294967296 := shl_lt hvn (by omega)
  have c3 : w.cell? ⟨eb, 18, none⟩ = some (.int .u32 (X : Int)) := h.cell 18 (by omega) (by omega)
  have c4 : w.cell? ⟨eb, 19, none⟩ = some (.int .u32 (m : Int)) := h.cell 19 (by omega) (by omega)
  have H := Lib.hid h
  clear h hvn
  go_enter Tryz.func62, Tryz.ntmps62
  go_wp2_with fail
  have hor : bits BinOp.or IntKind.u32 ((v : Int) * 2 ^ (32 - (n + m)) % 4294967296) (X : Int) = (((v * 2 ^ (32 - (n + m))) ||| X : Nat) : Int) := by
    have e : (v : Int) * 2 ^ (32 - (n + m)) % 4294967296 = ((v * 2 ^ (32 - (n + m)) : Nat) : Int) := by
      have e2 : (v : Int) * 2 ^ (32 - (n + m)) = ((v * 2 ^ (32 - (n + m)) : Nat) : Int) := by simp
      rw [e2]
      generalize v * 2 ^ (32 - (n + m)) = z at *
      omega
    rw [e]
    exact u32_or_nat _ _ hv hx
  go_loopg [1, 2] 3 (fun k sb sn wr => ∃ (i : Nat) (o1 : List Nat) (Y q : Nat), i ≤ 3 ∧ k = 0 + i ∧ sb = .int .u32 (Y : Int) ∧ sn = .int .u32 (q : Int) ∧ EmS z eb (encR f X m) w (emitN (o, X, m) v n) (o.length + 6) i o1 Y q wr)
  case atStart => exact ⟨3, o, _, n + m, by omega, rfl, by rw [hor], by go_num, by omega, Nat.or_lt_two_pow (n := 32) hv hx, rfl, by omega, H.out, Fr.refl _ _ _⟩
  case round =>
    clear hor
    obtain ⟨i, o1, Y, q, hi, rfl, rfl, rfl, hS⟩ := hrel
    have hY := hS.lY
    have hlk := hS.lk
    by_cases h8 : 8 ≤ q
    · obtain ⟨j, rfl⟩ : ∃ j, i = j + 1 := ⟨i - 1, by omega⟩
      obtain ⟨c, hc⟩ : ∃ c, Y / 16777216 = c := ⟨_, rfl⟩
      have hci : ((Y : Nat) : Int) / 16777216 = (c : Int) := by omega
      have hc256 : c < 256 := by omega
      have hlen := hS.len
      have heq := hS.eq
      rw [fl_yes j (o1, Y, q) h8] at heq
      simp only [flS, hc] at heq
      have HEQ := Lib.hid heq
      have hst := stuff_len c
      have CW := Lib.hid fun (l : List Nat) (x : Nat) (W : World) (h1 : EncIs z eb (encR f X m) l W) => writeByte_any z eb (encR f X m) l x W h1
      have HS := Lib.hid hS
      clear hS heq hc
      by_cases hff : c = 255
      · have hffb : (((c : Nat) : Int) == 255) = true := by simp; omega
        have HFF := Lib.hid hff
        clear hff
        go_wp2_with fail
        ((with_reducible refine (CW.out o1 c wr HS.out.enc (by omega)).mono ?_))
        rintro e w1 ⟨rfl, hI, hb1⟩
        go_wp2_with fail
        refine (CW.out (o1 ++ [c]) 0 w1 hI (by simp; omega)).mono ?_
        rintro e w2 ⟨rfl, hI2, hb2⟩
        go_wp2_with fail
        go_roundg (0 + j)
        case measure => go_light; omega
        case rel =>
          go_light
          exact ⟨j, o1 ++ stuff c, Y * 256 % 4294967296, q - 8, by omega, rfl, by go_num, by go_num, by omega, Nat.mod_lt _ (by omega), HEQ.out, by simp; omega, by
            rw [HFF.out] at *; simpa [stuff] using hI2, (HS.out.fr.trans hb1).trans hb2⟩
      · have hffb : (((c : Nat) : Int) == 255) = false := by simp; omega
        have HFF := Lib.hid hff
        clear hff
        go_wp2_with fail
        ((with_reducible refine (CW.out o1 c wr HS.out.enc (by omega)).mono ?_))
        rintro e w1 ⟨rfl, hI, hb1⟩
        go_wp2_with fail
        go_roundg (0 + j)
        case measure => go_light; omega
        case rel =>
          go_light
          exact ⟨j, o1 ++ stuff c, Y * 256 % 4294967296, q - 8, by omega, rfl, by go_num, by go_num, by omega, Nat.mod_lt _ (by omega), HEQ.out, by simp; omega, by
            simpa [stuff, HFF.out] using hI, HS.out.fr.trans hb1⟩
    · have heq := hS.eq
      have hno : fl i (o1, Y, q) = (o1, Y, q) := by
        cases i with
        | zero => rfl
        | succ i => exact fl_no i (o1, Y, q) h8
      rw [hno] at heq
      have d3 : wr.cell? ⟨eb, 18, none⟩ = some (.int .u32 (X : Int)) := hS.enc.cell 18 (by omega) (by omega)
      have d4 : wr.cell? ⟨eb, 19, none⟩ = some (.int .u32 (m : Int)) := hS.enc.cell 19 (by omega) (by omega)
      have d5 : wr.frozen? ⟨eb, 18, none⟩ = false := hS.enc.frozen _
      have d6 : wr.frozen? ⟨eb, 19, none⟩ = false := hS.enc.frozen _
      have HEQ := Lib.hid heq
      have HS := Lib.hid hS
      clear hS heq hno
      go_wp2_with fail
      go_end0
      rw [← HEQ.out]
      refine ⟨rfl, ?_, (HS.out.fr.setCell (.inr (.inr rfl)) _).setCell (.inr (.inr rfl)) _⟩
      exact ((HS.out.enc.set 18 (by omega) (by omega) _).set 19 (by omega) (by omega) _).congr fun j _ _ => by
        unfold encR
        by_cases e1 : j = 19
        · subst e1; rfl
        · rw [if_neg e1]
          by_cases e2 : j = 18
          · subst e2; rfl
          · rw [if_neg e2, if_neg e2, if_neg e1, if_neg e2, if_neg e1]
end Go.Proofs.YtghjlekdibcjdaaGreatDoor
