/- The contract of impl.Emit: the bytes of all numbers. -/
import Derived.Test.YtpmbbampkedecaaEmitB
namespace Go.Proofs.Ytpmbbampkedecaa
open Go.Deep Go.RowKit
/-- The state behind the first numbers. -/
def putAll (ns ls : Nat → Nat) : Nat → Bw
  | 0 => ([], 0, 0)
  | i + 1 => putTo (putAll ns ls i) (ns i) (ls i) (ls i)
theorem putAll_ok (ns ls : Nat → Nat) : ∀ i, BwOk (putAll ns ls i)
  | 0 => ⟨by simp [putAll], by simp [putAll]⟩
  | i + 1 => putTo_ok _ _ (putAll_ok ns ls i) _
theorem putAll_len (ns ls : Nat → Nat) : ∀ i, (∀ j, j < i → ls j ≤ 16) → (putAll ns ls i).1.length ≤ 32 * i
  | 0, _ => by simp [putAll]
  | i + 1, h => by
    have h1 := putAll_len ns ls i fun j hj => h j (by omega)
    have h2 := (putTo_len (putAll ns ls i) (ns i) (ls i) (ls i)).2
    have h3 := h i (by omega)
    simp only [putAll]
    omega
theorem reg_lt {s : Bw} (h : BwOk s) : (reg s).2.1 < 4294967296 := by
  obtain ⟨o, x, m⟩ := s
  obtain ⟨h1, h2⟩ := h
  simp only at h1 h2
  show x * 2 ^ (32 - m) < 2 ^ 32
  rw [show 32 = m + (32 - m) by omega, Nat.pow_add, show m + (32 - m) - m = 32 - m by omega]
  exact Nat.mul_lt_mul_of_pos_right h2 (Nat.two_pow_pos _)
theorem shl_lt {v n m : Nat} (hv : v < 2 ^ n) (h : n + m ≤ 32) : v * 2 ^ (32 - (n + m)) < 4294967296 := by
  have h1 : v * 2 ^ (32 - (n + m)) < 2 ^ n * 2 ^ (32 - (n + m)) := Nat.mul_lt_mul_of_pos_right hv (Nat.two_pow_pos _)
  rw [← Nat.pow_add] at h1
  have h2 : 2 ^ (n + (32 - (n + m))) ≤ 2 ^ 32 := Nat.pow_le_pow_right (by omega) (by omega)
  omega
/-- emit by the state. -/
theorem emit_st (B b be : Nat) (s : Bw) (v n : Nat) (w : World) (h : EncIs B b be (reg s) w) (hs : BwOk s) (hn : n ≤ 16) (hv : v < 2 ^ n) (hl : s.1.length + 6 ≤ 140737488355328) :
    Calls Try.prog 23 #[.pointer (some ⟨be, 0, none⟩), .int .u32 (v : Int), .int .u32 (n : Int)] w fun e w' => e = .returned (.tuple #[]) ∧ EncIs B b be (reg (putTo s v n n)) w' ∧ Below B w w' := by
  have := emit_any B b be s.1 (reg s).2.1 s.2.2 v n w h hs.1 (reg_lt hs) hn (shl_lt hv (by have := hs.1; omega)) hl
  rw [← emit_put s v n hs hn hv]
  exact this
theorem emit_end (B b be : Nat) (s : Bw) (w : World) (h : EncIs B b be (reg s) w) (hs : BwOk s) (hl : s.1.length + 6 ≤ 140737488355328) :
    Calls Try.prog 23 #[.pointer (some ⟨be, 0, none⟩), .int .u32 127, .int .u32 7] w fun e w' => e = .returned (.tuple #[]) ∧ Lib.IsBuffer 62 5 B b (cellsN (fin s)) w' ∧ Below B w w' := by
  have := emit_any B b be s.1 (reg s).2.1 s.2.2 127 7 w h hs.1 (reg_lt hs) (by omega) (shl_lt (by omega) (by have := hs.1; omega)) hl
  refine this.mono fun e w' ⟨h1, h2, h3⟩ => ⟨h1, ?_, h3⟩
  have h4 := h2.buf
  rw [← emit_fin s hs]
  exact h4
section
variable {P : Program} {ops : Array Oper} {rest : List Oper} {op : Oper} {a : Act} {w : World} {Q : Exit → Act → World → Prop}
/-- An operation whose run is known. -/
theorem wpList_run (hgd : op.guard = none) (v : Value) (w2 : World) (hrun : (execOp a.eval op).run P w = .ok (.value v) w2) (h : wpList P ops Q rest (a.put op.dst v) w2) : wpList P ops Q (op :: rest) a w :=
  wpList_plain hgd fun K hK => by
    unfold Oper.wp
    rw [hrun]
    exact hK _ _ h
/-- A variable of a great type is laid. -/
theorem wpList_alloc_agg (hgd : op.guard = none) (ty : TypeId) (c : Array Value) (H : Nat) (hH : w.heap.size = H) (hrun : (execOp a.eval op).run P w = .ok (.value (.pointer (some ⟨w.heap.size, 0, none⟩))) (w.alloc (.cells c ty)))
    (h : wpList P ops Q rest (a.put op.dst (.pointer (some ⟨H, 0, none⟩))) (w.alloc (.cells c ty))) : wpList P ops Q (op :: rest) a w :=
  wpList_run hgd _ _ hrun (by rw [hH]; exact h)
end
theorem isBuffer_kept {T e : TypeId} {B b be : Nat} {bs : List Value} {w w' : World} {t : TypeId} {n : Nat} {f : Nat → Value} (h : Lib.IsBuffer T e B b bs w) (hr : w.rowIs be t n f) (ht : t ≠ e) (hT : t ≠ T) (k : Kept (fun i => i ≠ be) w w') :
    Lib.IsBuffer T e B b bs w' := by
  have hlt := h.lt
  obtain ⟨hB, u, lr, hb, hrow, hne⟩ := h
  have hbe : b ≠ be := fun e => hT (by subst e; exact rowIs_type hr hb)
  refine ⟨hB, u, lr, (k.block b hlt hbe).trans hb, ?_, hne⟩
  obtain ⟨h1, h2⟩ := hrow
  refine ⟨h1, ?_⟩
  rcases h2 with h2 | ⟨g, cap, cur, e1, e2, e3, e4⟩
  · exact .inl h2
  · have hg : g ≠ be := fun e => ht (by subst e; exact rowIs_type hr e3)
    exact .inr ⟨g, cap, cur, e1, e2, (k.block g (Array.getElem?_eq_some_iff.1 e3).1 hg).trans e3, e4⟩
/-- A new encoder over the buffer in a block. -/
def encF (b : Nat) : Nat → Value := fun i => if i = 0 then .iface 65 (.agg #[.pointer (some ⟨b, 0, none⟩)]) else if i = 1 then .nilIface else if i < 18 then .int .u8 0 else if i < 20 then .int .u32 0 else if i < 148 then .int .u8 0 else .slice none 0 0
def encZ : Nat → Value := fun i => if i < 2 then .nilIface else if i < 18 then .int .u8 0 else if i < 20 then .int .u32 0 else if i < 148 then .int .u8 0 else .slice none 0 0
theorem size_enc : (Try.prog.info? 74).map (·.size) = some 152 := by kernel_rfl
theorem one_enc (b i : Nat) : (encF b i).oneCell' = true := by
  unfold encF
  repeat' split
  all_goals rfl
set_option maxHeartbeats 1000000 in
set_option maxRecDepth 100000 in
theorem zzEmit_any (a0 a1 : Option Addr) (len cap0 cap1 : Nat) (z0 z1 : List Int) (w : World) (h0 : IsRow .u32 w a0 len cap0 z0) (h1 : IsRow .u32 w a1 len cap1 z1) (hl : len ≤ 2147483647)
    (ns ls : Nat → Nat) (hz : ∀ j, j < len → z0.getD j 0 = (ns j : Int) ∧ z1.getD j 0 = (ls j : Int) ∧ ls j ≤ 16 ∧ ns j < 2 ^ ls j) :
    Calls Try.prog 19 #[.slice a0 len cap0, .slice a1 len cap1] w fun e w' => ∃ v, e = .returned v ∧ w'.ownsRow w.heap.size 5 1 v (cellsN (fin (putAll ns ls len))).length (cellsN (fin (putAll ns ls len))) ∧ Below w.heap.size w w' := by
  have H0 := Lib.hid h0
  have H1 := Lib.hid h1
  have HZ := Lib.hid hz
  clear h0 h1 hz
  have hI0 := (Lib.fresh_isBuffer 62 5 w).alloc (.cells (agg 152 encZ) 74)
  have hr0 := rowIs_agg (w.alloc (.cells #[.slice none 0 0, .int .i64 0, .int .i8 0] 62)) 74 152 encZ
  simp only [World.size_alloc] at hr0
  go_enter Try.func19, Try.ntmps19
  go_wp2_with (first | (with_reducible refine wpList_run (op := ⟨some 11, .build 74 _, _, _, _, _⟩) ?_ (.agg (agg 152 (encF w.heap.size))) (w.alloc (.cells #[.slice none 0 0, .int .i64 0, .int .i8 0] 62)) ?_ ?_; (· rfl); (· kernel_rfl)) | (with_reducible refine wpList_alloc_agg (op := ⟨some 6, .alloc 74, _, _, _, _⟩) ?_ 74 (agg 152 encZ) (w.heap.size + 1) ?_ ?_ ?_; (· rfl); (· simp); (· kernel_rfl)) | ((with_reducible refine wpList_store_new (op := ⟨none, .store 74 (.tmp 6) (.tmp 11), _, _, _, _⟩) ?_ 74 (.tmp 6) (.tmp 11) ?_ (w.heap.size + 1) 152 (g := encF w.heap.size) ?_ ?_ hr0 ?_ ?_ ?_); (· rfl); (· rfl); (· rfl); (· rfl); (· exact size_enc); (· exact one_enc w.heap.size); (intro w2 k2 s2 r2)))
  have hE0 : EncIs w.heap.size w.heap.size (w.heap.size + 1) (reg (putAll ns ls 0)) w2 :=
    ⟨isBuffer_kept hI0 hr0 (by decide) (by decide) k2, ⟨_, r2, by simp [encF], by simp [encF], by simp [encF, reg, putAll], by simp [encF, reg, putAll]⟩, by omega⟩
  have hB0 : Below w.heap.size w w2 := Kept.below ((((Kept.refl (fun _ => True) w).alloc _).alloc _).trans' k2 fun i hi _ => by omega) fun _ _ => trivial
  clear hI0 hr0 k2 s2 r2
  go_loopg [14] len (fun k s wr => ∃ i : Nat, i ≤ len ∧ k = len - i ∧ s = .int .i64 i ∧ EncIs w.heap.size w.heap.size (w.heap.size + 1) (reg (putAll ns ls i)) wr ∧ Below w.heap.size w wr)
  case atStart => exact ⟨0, by omega, by omega, rfl, hE0, hB0⟩
  case round =>
    clear hE0 hB0
    obtain ⟨i, hi, rfl, rfl, hE, hB⟩ := hrel
    by_cases hlt : i < len
    · obtain ⟨b0, off0, rfl, hlc0, _, hc0, hbw0⟩ := H0.out.cells (by omega)
      obtain ⟨b1, off1, rfl, hlc1, _, hc1, hbw1⟩ := H1.out.cells (by omega)
      obtain ⟨hz0, hz1, hl16, hv⟩ := HZ.out i hlt
      have c0 : wr.cell? ⟨b0, off0 + i, none⟩ = some (.int .u32 (ns i : Int)) := by rw [← hz0]; exact (hB.cell (p := ⟨b0, off0 + i, none⟩) hbw0).trans (hc0 i (by omega))
      have c1 : wr.cell? ⟨b1, off1 + i, none⟩ = some (.int .u32 (ls i : Int)) := by rw [← hz1]; exact (hB.cell (p := ⟨b1, off1 + i, none⟩) hbw1).trans (hc1 i (by omega))
      have CE := Lib.hid (emit_st w.heap.size w.heap.size (w.heap.size + 1) (putAll ns ls i) (ns i) (ls i) wr hE (putAll_ok ns ls i) hl16 hv (by have := putAll_len ns ls i fun j hj => (HZ.out j (by omega)).2.2.1; omega))
      have HBl := Lib.hid hB
      clear hc0 hc1 hz0 hz1 hv hE hB
      go_wp2_with fail
      refine CE.out.mono ?_
      rintro e w3 ⟨rfl, hE3, hB3⟩
      go_wp2_with fail
      go_roundg (len - (i + 1))
      case measure => go_light; omega
      case rel =>
        go_light
        exact ⟨i + 1, by omega, rfl, by go_num, hE3, HBl.out.trans hB3⟩
    · have ei : i = len := by omega
      subst ei
      have CE := Lib.hid (emit_end w.heap.size w.heap.size (w.heap.size + 1) (putAll ns ls i) wr hE (putAll_ok ns ls i) (by have := putAll_len ns ls i fun j hj => (HZ.out j (by omega)).2.2.1; omega))
      have HBl := Lib.hid hB
      clear hE hB
      go_wp2_with fail
      refine CE.out.mono ?_
      rintro e w3 ⟨rfl, hI3, hB3⟩
      go_wp2_with fail
      refine (Try.Buffer_Bytes w.heap.size w.heap.size _ w3 hI3).mono ?_
      rintro e w4 ⟨v, rfl, hown, nq, rfl⟩
      have HO := Lib.hid hown
      clear hown
      go_wp2_with fail
      go_ret
      exact ⟨v, rfl, HO.out, have h := HBl.out.trans hB3; ⟨h.os, h.tape, h.output, h.size, h.block⟩⟩
end Go.Proofs.Ytpmbbampkedecaa
