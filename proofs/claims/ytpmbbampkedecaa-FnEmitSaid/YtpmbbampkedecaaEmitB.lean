/- The contract of the encoder's emit. -/
import Derived.Test.YtpmbbampkedecaaEmitA
namespace Go.Proofs.Ytpmbbampkedecaa
open Go.Deep Go.RowKit
theorem ofInt_u32 (a : Nat) (h : a < 4294967296) : (BitVec.ofInt 32 (a : Int)).toNat = a := by simp; omega
/-- Go's '|' on two numbers of type uint32. -/
theorem u32_or_nat (a b : Nat) (ha : a < 4294967296) (hb : b < 4294967296) : bits .or .u32 (a : Int) (b : Int) = ((a ||| b : Nat) : Int) := by
  have hx : a ||| b < 2 ^ 32 := Nat.or_lt_two_pow (by omega) (by omega)
  show IntKind.u32.wrap ((BitVec.ofInt 32 (a : Int) ||| BitVec.ofInt 32 (b : Int)).toNat : Int) = _
  rw [BitVec.toNat_or, ofInt_u32 a ha, ofInt_u32 b hb]
  simp only [IntKind.wrap_u32]
  omega
/-- What holds at the head of emit's loop. -/
structure EmS (B b be : Nat) (f : Nat → Value) (w : World) (F : Bw) (top : Nat) (k : Nat) (o : List Nat) (Y q : Nat) (wr : World) : Prop where
  lk : q < 8 * (k + 1)
  lY : Y < 4294967296
  eq : fl k (o, Y, q) = F
  len : o.length + 2 * k ≤ top
  buf : Lib.IsBuffer 62 5 B b (cellsN o) wr
  row : wr.rowIs be 74 152 f
  below : Below B w wr
set_option maxHeartbeats 1000000 in
set_option maxRecDepth 100000 in
theorem emit_any (B b be : Nat) (o : List Nat) (X m v n : Nat) (w : World) (h : EncIs B b be (o, X, m) w) (hm : m < 8) (hx : X < 4294967296) (hn : n ≤ 16) (hv : v * 2 ^ (32 - (n + m)) < 4294967296) (hl : o.length + 6 ≤ 140737488355328) :
    Calls Try.prog 23 #[.pointer (some ⟨be, 0, none⟩), .int .u32 (v : Int), .int .u32 (n : Int)] w fun e w' => e = .returned (.tuple #[]) ∧ EncIs B b be (emitN (o, X, m) v n) w' ∧ Below B w w' := by
  obtain ⟨hb, ⟨f, hr, f0, f1, f3, f4⟩, hB⟩ := h
  simp only at hb f3 f4
  have c3 : w.cell? ⟨be, 18, none⟩ = some (.int .u32 (X : Int)) := by rw [← f3]; exact hr.cell (by omega)
  have c4 : w.cell? ⟨be, 19, none⟩ = some (.int .u32 (m : Int)) := by rw [← f4]; exact hr.cell (by omega)
  have HR := Lib.hid hr
  have HB := Lib.hid hb
  have F := Lib.hid (And.intro f0 (And.intro f1 (And.intro f3 f4)))
  clear hr f0 f1 f3 f4 hb
  go_enter Try.func23, Try.ntmps23
  go_wp2_with fail
  have hor : bits BinOp.or IntKind.u32 ((v : Int) * 2 ^ (32 - (n + m)) % 4294967296) (X : Int) = (((v * 2 ^ (32 - (n + m))) ||| X : Nat) : Int) := by
    have e : (v : Int) * 2 ^ (32 - (n + m)) % 4294967296 = ((v * 2 ^ (32 - (n + m)) : Nat) : Int) := by
      have e2 : (v : Int) * 2 ^ (32 - (n + m)) = ((v * 2 ^ (32 - (n + m)) : Nat) : Int) := by simp
      rw [e2]
      generalize v * 2 ^ (32 - (n + m)) = z at *
      omega
    rw [e]
    exact u32_or_nat _ _ hv hx
  go_loopg [1, 2] 3 (fun k sb sn wr => ∃ (i : Nat) (o1 : List Nat) (Y q : Nat), i ≤ 3 ∧ k = 0 + i ∧ sb = .int .u32 (Y : Int) ∧ sn = .int .u32 (q : Int) ∧ EmS B b be f w (emitN (o, X, m) v n) (o.length + 6) i o1 Y q wr)
  case atStart => exact ⟨3, o, _, n + m, by omega, rfl, by rw [hor], by go_num, by omega, Nat.or_lt_two_pow (n := 32) hv hx, rfl, by omega, HB.out, HR.out, Below.refl _ _⟩
  case round =>
    clear hor
    obtain ⟨i, o1, Y, q, hi, rfl, rfl, rfl, hS⟩ := hrel
    have hY := hS.lY
    have hlk := hS.lk
    by_cases h8 : 8 ≤ q
    · obtain ⟨j, rfl⟩ : ∃ j, i = j + 1 := ⟨i - 1, by omega⟩
      obtain ⟨c, hc⟩ : ∃ c, Y / 16777216 = c := ⟨_, rfl⟩
      have hci : ((Y : Nat) : Int) / 16777216 = (c : Int) := by omega
      have hc256 : c < 256 := by omega
      have hlen := hS.len
      have heq := hS.eq
      rw [fl_yes j (o1, Y, q) h8] at heq
      simp only [flS, hc] at heq
      have HEQ := Lib.hid heq
      have hst := stuff_len c
      have CW := Lib.hid fun (l : List Nat) (x : Int) (W : World) (h1 : Lib.IsBuffer 62 5 B b (cellsN l) W) (h2 : W.rowIs be 74 152 f) => writeByte_any B b be l x f W h1 h2 F.out.1 F.out.2.1 hB
      have HS := Lib.hid hS
      clear hS heq hc
      by_cases hff : c = 255
      · have hffb : (((c : Nat) : Int) == 255) = true := by simp; omega
        have HFF := Lib.hid hff
        clear hff
        go_wp2_with fail
        ((with_reducible refine (CW.out o1 c wr HS.out.buf HS.out.row (by omega)).mono ?_))
        rintro e w1 ⟨rfl, hI, hr1, hb1⟩
        go_wp2_with fail
        refine (CW.out (o1 ++ [c]) 0 w1 (by rw [cellsN_app]; exact hI) hr1 (by simp; omega)).mono ?_
        rintro e w2 ⟨rfl, hI2, hr2, hb2⟩
        go_wp2_with fail
        go_roundg (0 + j)
        case measure => go_light; omega
        case rel =>
          go_light
          exact ⟨j, o1 ++ stuff c, Y * 256 % 4294967296, q - 8, by omega, rfl, by go_num, by go_num, by omega, Nat.mod_lt _ (by omega), HEQ.out, by simp; omega, by
            rw [cellsN_app]; rw [cellsN_app] at hI2; rw [HFF.out] at *; simpa [stuff, cellsN] using hI2, hr2, (HS.out.below.trans hb1).trans hb2⟩
      · have hffb : (((c : Nat) : Int) == 255) = false := by simp; omega
        have HFF := Lib.hid hff
        clear hff
        go_wp2_with fail
        ((with_reducible refine (CW.out o1 c wr HS.out.buf HS.out.row (by omega)).mono ?_))
        rintro e w1 ⟨rfl, hI, hr1, hb1⟩
        go_wp2_with fail
        go_roundg (0 + j)
        case measure => go_light; omega
        case rel =>
          go_light
          exact ⟨j, o1 ++ stuff c, Y * 256 % 4294967296, q - 8, by omega, rfl, by go_num, by go_num, by omega, Nat.mod_lt _ (by omega), HEQ.out, by simp; omega, by
            rw [cellsN_app]; simpa [stuff, HFF.out, cellsN] using hI, hr1, HS.out.below.trans hb1⟩
    · have heq := hS.eq
      have hno : fl i (o1, Y, q) = (o1, Y, q) := by
        cases i with
        | zero => rfl
        | succ i => exact fl_no i (o1, Y, q) h8
      rw [hno] at heq
      have d3 : wr.cell? ⟨be, 18, none⟩ = some (.int .u32 (X : Int)) := by rw [← F.out.2.2.1]; exact hS.row.cell (by omega)
      have d4 : wr.cell? ⟨be, 19, none⟩ = some (.int .u32 (m : Int)) := by rw [← F.out.2.2.2]; exact hS.row.cell (by omega)
      have d5 : wr.frozen? ⟨be, 18, none⟩ = false := hS.row.frozen _
      have d6 : wr.frozen? ⟨be, 19, none⟩ = false := hS.row.frozen _
      have HI := Lib.hid (isBuffer_set (isBuffer_set hS.buf hS.row (by decide) (by decide) 18 (.int .u32 (Y : Int))) (hS.row.set _ _) (by decide) (by decide) 19 (.int .u32 (q : Int)))
      have HEQ := Lib.hid heq
      have HS := Lib.hid hS
      clear hS heq hno
      go_wp2_with fail
      go_end0
      rw [← HEQ.out]
      exact ⟨rfl, ⟨HI.out, ⟨_, (HS.out.row.set _ _).set _ _, by simp [F.out.1], by simp [F.out.2.1], by simp, by simp⟩, hB⟩, (HS.out.below.setCell (by simpa using hB) _).setCell (by simpa using hB) _⟩
end Go.Proofs.Ytpmbbampkedecaa
