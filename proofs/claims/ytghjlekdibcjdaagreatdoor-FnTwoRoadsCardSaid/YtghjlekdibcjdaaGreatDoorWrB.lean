/- The encoder while its headers are written (all fits into the buffer): write, writeByte, writeMarkerHeader. -/
import Derived.Test.YtghjlekdibcjdaaGreatDoorWrA
import Derived.Test.YtghjlekdibcjdaaGreatDoorEmitA
namespace Go.Proofs.YtghjlekdibcjdaaGreatDoor
open Go.Deep Go.RowKit
set_option linter.unusedVariables false
/-- An encoder whose sink has passed nothing on yet. -/
structure EncG (z : Ids) (eb : Nat) (g : Nat → Value) (T : List Nat) (w : World) : Prop where
  le : z.B ≤ eb
  f0 : g 0 = .iface 97 (.pointer (some ⟨z.bb, 0, none⟩))
  row : w.rowIs eb 94 152 (put1 .nilIface g)
  buf : BufIs z [] T w
/-- The blocks that a header's write may turn. -/
def Ids.hd (z : Ids) (eb : Nat) : Nat → Prop := fun k => k ≠ eb ∧ k ≠ z.bb ∧ k ≠ z.fb
theorem EncG.toIs {z : Ids} {eb : Nat} {g : Nat → Value} {T : List Nat} {w : World} (h : EncG z eb g T w) : EncIs z eb g T w := ⟨h.le, h.f0, .inl ⟨h.row, [], T, rfl, h.buf⟩⟩
theorem EncG.cell {z : Ids} {eb : Nat} {g : Nat → Value} {T : List Nat} {w : World} (h : EncG z eb g T w) (j : Nat) (hj : j < 152) (h1 : j ≠ 1) : w.cell? ⟨eb, j, none⟩ = some (g j) := h.toIs.cell j hj h1
theorem EncG.err {z : Ids} {eb : Nat} {g : Nat → Value} {T : List Nat} {w : World} (h : EncG z eb g T w) : w.cell? ⟨eb, 1, none⟩ = some .nilIface := h.row.cell (by omega)
theorem EncG.frozen {z : Ids} {eb : Nat} {g : Nat → Value} {T : List Nat} {w : World} (h : EncG z eb g T w) (j : Nat) : w.frozen? ⟨eb, j, none⟩ = false := h.row.frozen _
theorem EncG.ne {z : Ids} {eb : Nat} {g : Nat → Value} {T : List Nat} {w : World} (h : EncG z eb g T w) : eb ≠ z.bb ∧ eb ≠ z.fb ∧ eb ≠ z.wb := by
  obtain ⟨g', hr, _⟩ := h.buf.row
  obtain ⟨v, hk, _⟩ := h.buf.wr.ex
  exact ⟨type_ne (rowIs_heap h.row) h.buf.bw (by decide), type_ne (rowIs_heap h.row) (rowIs_heap hr) (by decide), type_ne (rowIs_heap h.row) hk (by decide)⟩
theorem EncG.set {z : Ids} {eb : Nat} {g : Nat → Value} {T : List Nat} {w : World} (h : EncG z eb g T w) (j : Nat) (h1 : j ≠ 1) (h0 : j ≠ 0) (v : Value) : EncG z eb (fun i => if i = j then v else g i) T (w.setCell ⟨eb, j, none⟩ v) := by
  refine ⟨h.le, by rw [if_neg (Ne.symm h0)]; exact h.f0, ?_, h.buf.block fun i c t fz hi ht => blk_setCell_other _ _ _ _ (type_ne hi (rowIs_heap h.row) (by rcases ht with rfl | rfl | rfl <;> decide))⟩
  refine (h.row.set j v).congr fun i _ => ?_
  unfold put1
  by_cases e1 : i = 1
  · rw [if_neg (by rw [e1]; exact Ne.symm h1), if_pos e1, if_pos e1]
  · rw [if_neg e1, if_neg e1]
theorem EncG.congr {z : Ids} {eb : Nat} {g g' : Nat → Value} {T : List Nat} {w : World} (h : EncG z eb g T w) (hf : ∀ j, j < 152 → j ≠ 1 → g j = g' j) : EncG z eb g' T w :=
  ⟨h.le, by rw [← hf 0 (by omega) (by omega)]; exact h.f0, h.row.congr fun i hi => by
    unfold put1
    split
    · rfl
    · exact hf i hi (by assumption), h.buf⟩
theorem EncG.kept {z : Ids} {eb : Nat} {g : Nat → Value} {T : List Nat} {S : Nat → Prop} {w w' : World} (h : EncG z eb g T w) (k : Kept S w w') (hS : ∀ (i : Nat) c t fz, w.heap[i]? = some (Obj.cells c t fz) → (t = 94 ∨ t = 67 ∨ t = 166 ∨ t = 5) → S i) : EncG z eb g T w' :=
  ⟨h.le, h.f0, k.row h.row (hS _ _ _ _ (rowIs_heap h.row) (.inl rfl)), h.buf.block fun i c t fz hi ht => k.block i (Array.getElem?_eq_some_iff.1 hi).1 (hS i c t fz hi (.inr ht))⟩
theorem EncG.all {z : Ids} {eb : Nat} {g : Nat → Value} {T : List Nat} {w w' : World} (h : EncG z eb g T w) (k : Kept (fun _ => True) w w') : EncG z eb g T w' := h.kept k fun _ _ _ _ _ _ => trivial
theorem EncG.done {z : Ids} {eb : Nat} {g : Nat → Value} {T : List Nat} {w w1 : World} (h : EncG z eb g T w) {T' : List Nat} (hB : BufIs z [] T' w1) (k : Kept (fun k => k ≠ z.bb ∧ k ≠ z.fb) w w1) :
    EncG z eb g T' (w1.setCell ⟨eb, 1, none⟩ .nilIface) ∧ Kept (z.hd eb) w (w1.setCell ⟨eb, 1, none⟩ .nilIface) := by
  have hne := h.ne
  have hr := k.row h.row ⟨hne.1, hne.2.1⟩
  refine ⟨⟨h.le, h.f0, enc_err hr _, hB.block fun i c t fz hi ht => blk_setCell_other _ _ _ _ (type_ne hi (rowIs_heap hr) (by rcases ht with rfl | rfl | rfl <;> decide))⟩, (k.mono fun i _ h => ⟨h.2.1, h.2.2⟩).setCell (fun _ h => h.1 rfl) _⟩
set_option maxHeartbeats 1000000 in
set_option maxRecDepth 100000 in
theorem write_hd (z : Ids) (eb : Nat) (g : Nat → Value) (T p : List Nat) (b off cap l : Nat) (hpl : p.length = l) (w : World) (h : EncG z eb g T w) (hp : ∀ j, j < p.length → w.cell? ⟨b, off + j, none⟩ = some (.int .u8 ((p.getD j 0 : Nat) : Int))) (hn : T.length + p.length ≤ 4096) (h0 : 0 < p.length) :
    Calls Tryz.prog 38 #[.pointer (some ⟨eb, 0, none⟩), .slice (some ⟨b, off, none⟩) l cap] w fun e w' => e = .returned (.tuple #[]) ∧ EncG z eb g (T ++ p) w' ∧ Kept (z.hd eb) w w' := by
  subst hpl
  have hm : ∀ w : World, (method 345 97 (.pointer (some ⟨z.bb, 0, none⟩)) "Write").run Tryz.prog w = .ok (126, .pointer (some ⟨z.bb, 0, none⟩)) w := fun _ => by kernel_rfl
  have c0 : w.cell? ⟨eb, 0, none⟩ = some (.iface 97 (.pointer (some ⟨z.bb, 0, none⟩))) := by rw [← h.f0]; exact h.cell 0 (by omega) (by omega)
  have c1 := h.err
  have CW := Lib.hid (bufWrite_fits z [] T p b off cap w h.buf hp hn h0)
  have H := Lib.hid h
  clear h hp
  go_enter Tryz.func38, Tryz.ntmps38
  go_wp2_with (go_at_call 126; (with_reducible refine CW.out.mono ?_); rintro e w1 ⟨rfl, k1, k2⟩; have hr1 := k2.row H.out.row ⟨H.out.ne.1, H.out.ne.2.1⟩; have d0 := hr1.frozen 1; have d1 : w1.cell? ⟨eb, 1, none⟩ = some .nilIface := hr1.cell (by omega); have P := Lib.hid (And.intro k1 k2); clear k1 k2 hr1)
  go_end0
  exact ⟨rfl, H.out.done P.out.1 P.out.2⟩
set_option maxHeartbeats 1000000 in
set_option maxRecDepth 100000 in
theorem writeByte_hd (z : Ids) (eb : Nat) (g : Nat → Value) (T : List Nat) (c : Nat) (w : World) (h : EncG z eb g T w) (hn : T.length < 4096) :
    Calls Tryz.prog 52 #[.pointer (some ⟨eb, 0, none⟩), .int .u8 (c : Int)] w fun e w' => e = .returned (.tuple #[]) ∧ EncG z eb g (T ++ [c]) w' ∧ Kept (z.hd eb) w w' := by
  have hm : ∀ w : World, (method 345 97 (.pointer (some ⟨z.bb, 0, none⟩)) "WriteByte").run Tryz.prog w = .ok (127, .pointer (some ⟨z.bb, 0, none⟩)) w := fun _ => by kernel_rfl
  have c0 : w.cell? ⟨eb, 0, none⟩ = some (.iface 97 (.pointer (some ⟨z.bb, 0, none⟩))) := by rw [← h.f0]; exact h.cell 0 (by omega) (by omega)
  have c1 := h.err
  have CW := Lib.hid (bufByte_fits z [] T c w h.buf hn)
  have H := Lib.hid h
  clear h
  go_enter Tryz.func52, Tryz.ntmps52
  go_wp2_with (go_at_call 127; (with_reducible refine CW.out.mono ?_); rintro e w1 ⟨rfl, k1, k2⟩; have hr1 := k2.row H.out.row ⟨H.out.ne.1, H.out.ne.2.1⟩; have d0 := hr1.frozen 1; have d1 : w1.cell? ⟨eb, 1, none⟩ = some .nilIface := hr1.cell (by omega); have P := Lib.hid (And.intro k1 k2); clear k1 k2 hr1)
  go_end0
  exact ⟨rfl, H.out.done P.out.1 P.out.2⟩
/-- The bytes of a marker's header. -/
def mkr (m n : Nat) : List Nat := [255, m, n / 256, n % 256]
theorem i64_and_255 (a : Nat) (ha : a < 9223372036854775808) : bits .and .i64 (a : Int) 255 = ((a % 256 : Nat) : Int) := by
  show IntKind.i64.wrap ((BitVec.ofInt 64 (a : Int) &&& BitVec.ofInt 64 255).toNat : Int) = _
  rw [BitVec.toNat_and, ofInt_u64m a (by omega), show (BitVec.ofInt 64 255).toNat = 2 ^ 8 - 1 from rfl, Nat.and_two_pow_sub_one_eq_mod]
  exact IntWalk.i64_in _ ⟨by omega, by omega⟩
set_option maxHeartbeats 1000000 in
set_option maxRecDepth 100000 in
theorem marker_hd (z : Ids) (eb : Nat) (g : Nat → Value) (T : List Nat) (m n : Nat) (w : World) (h : EncG z eb g T w) (hT : T.length + 4 ≤ 4096) (hn : n < 65536) :
    Calls Tryz.prog 51 #[.pointer (some ⟨eb, 0, none⟩), .int .u8 (m : Int), .int .i64 (n : Int)] w fun e w' => e = .returned (.tuple #[]) ∧ (∃ g', (∀ j, j < 2 ∨ 6 ≤ j → g' j = g j) ∧ EncG z eb g' (T ++ mkr m n) w') ∧ Kept (z.hd eb) w w' := by
  have HG := Lib.hid ((((h.set 2 (by omega) (by omega) (.int .u8 255)).set 3 (by omega) (by omega) (.int .u8 (m : Int))).set 4 (by omega) (by omega) (.int .u8 ((n / 256 : Nat) : Int))).set 5 (by omega) (by omega) (.int .u8 ((n % 256 : Nat) : Int)))
  have c2 := h.cell 2 (by omega) (by omega)
  have c3 := h.cell 3 (by omega) (by omega)
  have c4 := h.cell 4 (by omega) (by omega)
  have c5 := h.cell 5 (by omega) (by omega)
  have f2 := h.frozen
  have hand := i64_and_255 n (by omega)
  have HK0 := Lib.hid (((((Kept.refl (z.hd eb) w).setCell (a := ⟨eb, 2, none⟩) (fun _ h => h.1 rfl) (.int .u8 255)).setCell (a := ⟨eb, 3, none⟩) (fun _ h => h.1 rfl) (.int .u8 (m : Int))).setCell (a := ⟨eb, 4, none⟩) (fun _ h => h.1 rfl) (.int .u8 ((n / 256 : Nat) : Int))).setCell (a := ⟨eb, 5, none⟩) (fun _ h => h.1 rfl) (.int .u8 ((n % 256 : Nat) : Int)))
  obtain ⟨a, ha⟩ : ∃ a, n / 256 = a := ⟨_, rfl⟩
  obtain ⟨b, hb⟩ : ∃ b, n % 256 = b := ⟨_, rfl⟩
  have hmk : mkr m n = [255, m, a, b] := by unfold mkr; rw [ha, hb]
  rw [ha, hb] at HG HK0
  rw [hb] at hand
  have hdi : (n : Int) / 256 = (a : Int) := by omega
  have ha1 : (a : Int) ≤ 255 := by omega
  have hb1 : (b : Int) ≤ 255 := by omega
  rw [hmk]
  clear ha hb hmk h
  have CW := Lib.hid (write_hd z eb _ T [255, m, a, b] eb 2 16 4 rfl _ HG.out (by
    intro j hj
    simp only [List.length_cons, List.length_nil] at hj
    obtain rfl | rfl | rfl | rfl : j = 0 ∨ j = 1 ∨ j = 2 ∨ j = 3 := by omega
    · exact HG.out.cell 2 (by omega) (by omega)
    · exact HG.out.cell 3 (by omega) (by omega)
    · exact HG.out.cell 4 (by omega) (by omega)
    · exact HG.out.cell 5 (by omega) (by omega)) (by simpa using hT) (by simp))
  go_enter Tryz.func51, Tryz.ntmps51
  go_wp2_with (go_at_call 38; (with_reducible refine CW.out.mono ?_); rintro e w1 ⟨rfl, k1, k2⟩; have P := Lib.hid (And.intro k1 k2); clear k1 k2)
  go_end0
  refine ⟨rfl, ⟨_, ?_, P.out.1⟩, HK0.out.trans P.out.2⟩
  intro j hj
  rw [if_neg (by omega), if_neg (by omega), if_neg (by omega), if_neg (by omega)]
end Go.Proofs.YtghjlekdibcjdaaGreatDoor
