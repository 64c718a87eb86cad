/- The contracts of writeDQT and writeSOF0. -/
import Derived.Test.YtghjlekdibcjdaaGreatDoorWrB
namespace Go.Proofs.YtghjlekdibcjdaaGreatDoor
open Go.Deep Go.RowKit
set_option linter.unusedVariables false
/-- The quantization tables as they are written. -/
def qrow (Q : Nat → Nat) (i : Nat) : List Nat := (List.range 64).map fun j => Q (64 * i + j)
def qs (Q : Nat → Nat) : Nat → List Nat
  | 0 => []
  | i + 1 => qs Q i ++ [i] ++ qrow Q i
theorem qrow_len (Q : Nat → Nat) (i : Nat) : (qrow Q i).length = 64 := by simp [qrow]
theorem qrow_at (Q : Nat → Nat) (i j : Nat) (h : j < 64) : (qrow Q i).getD j 0 = Q (64 * i + j) := by
  unfold qrow
  rw [List.getD_eq_getElem?_getD, List.getElem?_map, List.getElem?_range h]
  rfl
theorem qs_len (Q : Nat → Nat) : ∀ i, (qs Q i).length = 65 * i
  | 0 => rfl
  | i + 1 => by simp only [qs, List.length_append, qs_len Q i, qrow_len, List.length_singleton]; omega
theorem mkr_len (m n : Nat) : (mkr m n).length = 4 := rfl
set_option maxHeartbeats 1000000 in
set_option maxRecDepth 100000 in
theorem dqt_hd (z : Ids) (eb : Nat) (Q : Nat → Nat) (g : Nat → Value) (T : List Nat) (w : World) (h : EncG z eb g T w) (hQ : ∀ j, j < 128 → g (20 + j) = .int .u8 (Q j : Int)) (hT : T.length + 134 ≤ 4096) :
    Calls Tryz.prog 39 #[.pointer (some ⟨eb, 0, none⟩)] w fun e w' => e = .returned (.tuple #[]) ∧ (∃ g', (∀ j, j < 2 ∨ 6 ≤ j → g' j = g j) ∧ EncG z eb g' (T ++ (mkr 219 132 ++ qs Q 2)) w') ∧ Kept (z.hd eb) w w' := by
  have CM : Hid (Calls Tryz.prog 51 #[.pointer (some ⟨eb, 0, none⟩), .int .u8 219, .int .i64 132] w fun e w' => e = .returned (.tuple #[]) ∧ (∃ g', (∀ j, j < 2 ∨ 6 ≤ j → g' j = g j) ∧ EncG z eb g' (T ++ mkr 219 132) w') ∧ Kept (z.hd eb) w w') := Lib.hid (marker_hd z eb g T 219 132 w h (by omega) (by omega))
  clear h
  go_enter Tryz.func39, Tryz.ntmps39
  go_wp2_with (go_at_call 51; (with_reducible refine CM.out.mono ?_); rintro e w1 ⟨rfl, ⟨g1, hg1, k1⟩, k2⟩; have P := Lib.hid (And.intro hg1 (And.intro k1 k2)); clear hg1 k1 k2)
  clear CM
  have hQ1 : ∀ j, j < 128 → g1 (20 + j) = .int .u8 (Q j : Int) := fun j hj => by rw [P.out.1 _ (by omega)]; exact hQ j hj
  have HQ := Lib.hid hQ1
  clear hQ hQ1
  go_loopg [5] 2 (fun k s5 wr => ∃ i : Nat, i ≤ 2 ∧ k = 2 - i ∧ s5 = .int .i64 (i : Int) ∧ EncG z eb g1 (T ++ (mkr 219 132 ++ qs Q i)) wr ∧ Kept (z.hd eb) w wr)
  case atStart => exact ⟨0, by omega, rfl, rfl, by simpa [qs] using P.out.2.1, P.out.2.2⟩
  case round =>
    obtain ⟨i, hi, rfl, rfl, hE, hK⟩ := hrel
    by_cases hlt : i < 2
    · have hlen : (T ++ (mkr 219 132 ++ qs Q i)).length = T.length + 4 + 65 * i := by simp only [List.length_append, mkr_len, qs_len]; omega
      have CB := Lib.hid (writeByte_hd z eb g1 (T ++ (mkr 219 132 ++ qs Q i)) i wr hE (by omega))
      have CW := Lib.hid fun (W : World) (k : EncG z eb g1 (T ++ (mkr 219 132 ++ qs Q i) ++ [i]) W) => write_hd z eb g1 _ (qrow Q i) eb (20 + i * 64) 64 64 (qrow_len Q i) W k (by
        intro j hj
        rw [qrow_len] at hj
        rw [qrow_at Q i j hj, k.cell (20 + i * 64 + j) (by omega) (by omega), Nat.mul_comm i 64, Nat.add_assoc, HQ.out _ (by omega)]) (by rw [qrow_len]; simp only [List.length_append, List.length_singleton] at hlen ⊢; omega) (by rw [qrow_len]; omega)
      have j0 : (0 : Int) ≤ (i : Int) := by omega
      have j1 : (i : Int) < 2 := by omega
      have HK := Lib.hid hK
      clear hE hK hlen
      go_wp2_with (first
        | (go_at_call 52; (with_reducible refine CB.out.mono ?_); rintro e w2 ⟨rfl, k1, k2⟩; have P2 := Lib.hid (And.intro k1 k2); clear k1 k2)
        | (go_at_call 38; (with_reducible refine (CW.out _ P2.out.1).mono ?_); rintro e w3 ⟨rfl, k1, k2⟩; have P3 := Lib.hid (And.intro k1 k2); clear k1 k2))
      go_roundg (2 - (i + 1))
      case measure => go_light; omega
      case rel =>
        go_light
        refine ⟨i + 1, by omega, rfl, by go_num, ?_, (HK.out.trans P2.out.2).trans P3.out.2⟩
        have := P3.out.1
        simpa [qs, List.append_assoc] using this
    · obtain rfl : i = 2 := by omega
      have HS := Lib.hid (And.intro hE hK)
      clear hE hK
      go_wp2_with fail
      go_end0
      exact ⟨rfl, ⟨g1, P.out.1, HS.out.1⟩, HS.out.2⟩
theorem EncG.drew1 {z : Ids} {eb : Nat} {g : Nat → Value} {T : List Nat} {w : World} (h : EncG z eb g T w) : EncG z eb g T w.drew := h.all ((Kept.refl _ _).drew)
theorem EncG.drewN {z : Ids} {eb : Nat} {g : Nat → Value} {T : List Nat} {w : World} (h : EncG z eb g T w) (n : Nat) : EncG z eb g T (w.drewN n) := h.all ((Kept.refl _ _).drewN n)
theorem sof_facts {z : Ids} {eb bx : Nat} {g1 : Nat → Value} {T : List Nat} {u v : Value} {W w1 : World} (hb : W.heap[bx]? = some (.cells #[u, v] 38 (0, 0))) (hbd : z.hd eb bx) (k1 : EncG z eb g1 T w1) (k2 : Kept (z.hd eb) W w1) :
    w1.cell? ⟨bx, 0, none⟩ = some u ∧ w1.cell? ⟨bx, 1, none⟩ = some v ∧ bx ≠ eb ∧ (∀ j, w1.frozen? ⟨eb, j, none⟩ = false) ∧ w1.cell? ⟨eb, 2, none⟩ = some (g1 2) ∧ w1.cell? ⟨eb, 3, none⟩ = some (g1 3) ∧ w1.cell? ⟨eb, 4, none⟩ = some (g1 4) ∧ w1.cell? ⟨eb, 5, none⟩ = some (g1 5) ∧ w1.cell? ⟨eb, 6, none⟩ = some (g1 6) ∧ w1.cell? ⟨eb, 7, none⟩ = some (g1 7) ∧ w1.cell? ⟨eb, 8, none⟩ = some (g1 8) ∧ w1.cell? ⟨eb, 9, none⟩ = some (g1 9) ∧ w1.cell? ⟨eb, 10, none⟩ = some (g1 10) := by
  have hbb := (k2.block bx (Array.getElem?_eq_some_iff.1 hb).1 hbd).trans hb
  refine ⟨?_, ?_, hbd.1, k1.frozen, k1.cell 2 (by omega) (by omega), k1.cell 3 (by omega) (by omega), k1.cell 4 (by omega) (by omega), k1.cell 5 (by omega) (by omega), k1.cell 6 (by omega) (by omega), k1.cell 7 (by omega) (by omega), k1.cell 8 (by omega) (by omega), k1.cell 9 (by omega) (by omega), k1.cell 10 (by omega) (by omega)⟩ <;>
  · unfold World.cell?
    simp only [hbb]
    rfl
/-- The frame's header. -/
def sofB (wd hg nc : Nat) : List Nat := [8, hg / 256, hg % 256, wd / 256, wd % 256, nc] ++ (if nc = 1 then [1, 17, 0] else [1, 34, 0, 2, 17, 1, 3, 17, 1])
set_option maxHeartbeats 2000000 in
set_option maxRecDepth 100000 in
theorem sof_hd1 (z : Ids) (eb : Nat) (g : Nat → Value) (T : List Nat) (wd hg : Nat) (w : World) (h : EncG z eb g T w) (hT : T.length + 20 ≤ 4096) (hw : wd < 65536) (hh : hg < 65536) :
    Calls Tryz.prog 40 #[.pointer (some ⟨eb, 0, none⟩), .agg #[.int .i64 (wd : Int), .int .i64 (hg : Int)], .int .i64 1] w fun e w' => e = .returned (.tuple #[]) ∧ (∃ g', (∀ j, j < 2 ∨ 18 ≤ j → g' j = g j) ∧ EncG z eb g' (T ++ (mkr 192 11 ++ sofB wd hg 1)) w') ∧ Kept (z.hd eb) w w' := by
  have hw1 : EncG z eb g T (w.alloc (.cells #[.int .i64 (wd : Int), .int .i64 (hg : Int)] 38)) := h.all ((Kept.refl _ _).alloc _)
  have CM : Hid (Calls Tryz.prog 51 #[.pointer (some ⟨eb, 0, none⟩), .int .u8 192, .int .i64 11] (w.alloc (.cells #[.int .i64 (wd : Int), .int .i64 (hg : Int)] 38)) fun e w' => e = .returned (.tuple #[]) ∧ (∃ g', (∀ j, j < 2 ∨ 6 ≤ j → g' j = g j) ∧ EncG z eb g' (T ++ mkr 192 11) w') ∧ Kept (z.hd eb) (w.alloc (.cells #[.int .i64 (wd : Int), .int .i64 (hg : Int)] 38)) w') := Lib.hid (marker_hd z eb g T 192 11 _ hw1 (by omega) (by omega))
  have hbx := heap_alloc_new w (.cells #[.int .i64 (wd : Int), .int .i64 (hg : Int)] 38)
  obtain ⟨_, hrow, _⟩ := hw1.buf.row
  have hne : z.hd eb w.heap.size := ⟨type_ne hbx (rowIs_heap hw1.row) (by decide), type_ne hbx hw1.buf.bw (by decide), type_ne hbx (rowIs_heap hrow) (by decide)⟩
  have HB := Lib.hid (And.intro hbx hne)
  have HB0 := Lib.hid ((Kept.refl (z.hd eb) w).alloc (.cells #[.int .i64 (wd : Int), .int .i64 (hg : Int)] 38))
  clear h hw1 hbx hrow hne
  have hwi : (wd : Int) / 256 = ((wd / 256 : Nat) : Int) := by omega
  have hhi : (hg : Int) / 256 = ((hg / 256 : Nat) : Int) := by omega
  have hwa := i64_and_255 wd (by omega)
  have hha := i64_and_255 hg (by omega)
  have hl1 : wd / 256 < 256 := by omega
  have hl2 : hg / 256 < 256 := by omega
  have hl3 : wd % 256 < 256 := by omega
  have hl4 : hg % 256 < 256 := by omega
  have hsof : sofB wd hg 1 = [8, hg / 256, hg % 256, wd / 256, wd % 256, 1, 1, 17, 0] := rfl
  rw [hsof]
  clear hsof
  generalize wd / 256 = wa at *
  generalize wd % 256 = wb at *
  generalize hg / 256 = ha at *
  generalize hg % 256 = hb at *
  have q1 : (wa : Int) ≤ 255 := by omega
  have q2 : (wb : Int) ≤ 255 := by omega
  have q3 : (ha : Int) ≤ 255 := by omega
  have q4 : (hb : Int) ≤ 255 := by omega
  go_enter Tryz.func40, Tryz.ntmps40
  go_wp2_with (go_at_call 51; (with_reducible refine CM.out.mono ?_); rintro e w1 ⟨rfl, ⟨g1, hg1, k1⟩, k2⟩; have P := Lib.hid (And.intro hg1 (And.intro k1 k2)); clear hg1 k1 k2; obtain ⟨b0, b1, hbe, xf, x2, x3, x4, x5, x6, x7, x8, x9, x10⟩ := sof_facts HB.out.1 HB.out.2 P.out.2.1 P.out.2.2; have hbe2 := Ne.symm hbe)
  go_region
  go_wp2_with fail
  go_region
  go_wp2_with fail
  go_region
  go_wp2_with fail
  go_region
  go_wp2_with fail
  have HG0 := (((((((((P.out.2.1.set 2 (by omega) (by omega) (.int .u8 8)).set 3 (by omega) (by omega) (.int .u8 (ha : Int))).set 4 (by omega) (by omega) (.int .u8 (hb : Int))).set 5 (by omega) (by omega) (.int .u8 (wa : Int))).set 6 (by omega) (by omega) (.int .u8 (wb : Int))).set 7 (by omega) (by omega) (.int .u8 1)).set 8 (by omega) (by omega) (.int .u8 1)).set 9 (by omega) (by omega) (.int .u8 17)).set 10 (by omega) (by omega) (.int .u8 0))
  have HG := HG0.drew1.drew1.drew1.drew1
  have HK0 := ((((((((((Kept.refl (z.hd eb) w1).setCell (a := ⟨eb, 2, none⟩) (fun _ h => h.1 rfl) (.int .u8 8)).setCell (a := ⟨eb, 3, none⟩) (fun _ h => h.1 rfl) (.int .u8 (ha : Int))).setCell (a := ⟨eb, 4, none⟩) (fun _ h => h.1 rfl) (.int .u8 (hb : Int))).setCell (a := ⟨eb, 5, none⟩) (fun _ h => h.1 rfl) (.int .u8 (wa : Int))).setCell (a := ⟨eb, 6, none⟩) (fun _ h => h.1 rfl) (.int .u8 (wb : Int))).setCell (a := ⟨eb, 7, none⟩) (fun _ h => h.1 rfl) (.int .u8 1)).setCell (a := ⟨eb, 8, none⟩) (fun _ h => h.1 rfl) (.int .u8 1)).setCell (a := ⟨eb, 9, none⟩) (fun _ h => h.1 rfl) (.int .u8 17)).setCell (a := ⟨eb, 10, none⟩) (fun _ h => h.1 rfl) (.int .u8 0))
  have CW := Lib.hid (write_hd z eb _ (T ++ mkr 192 11) [8, ha, hb, wa, wb, 1, 1, 17, 0] eb 2 16 9 rfl _ HG (by
    intro j hj
    simp only [List.length_cons, List.length_nil] at hj
    obtain rfl | rfl | rfl | rfl | rfl | rfl | rfl | rfl | rfl : j = 0 ∨ j = 1 ∨ j = 2 ∨ j = 3 ∨ j = 4 ∨ j = 5 ∨ j = 6 ∨ j = 7 ∨ j = 8 := by omega
    · exact HG.cell 2 (by omega) (by omega)
    · exact HG.cell 3 (by omega) (by omega)
    · exact HG.cell 4 (by omega) (by omega)
    · exact HG.cell 5 (by omega) (by omega)
    · exact HG.cell 6 (by omega) (by omega)
    · exact HG.cell 7 (by omega) (by omega)
    · exact HG.cell 8 (by omega) (by omega)
    · exact HG.cell 9 (by omega) (by omega)
    · exact HG.cell 10 (by omega) (by omega)) (by simp only [List.length_append, mkr_len, List.length_cons, List.length_nil]; omega) (by simp))
  have HK := Lib.hid HK0
  clear HG0 HG HK0 x2 x3 x4 x5 x6 x7 x8 x9 x10 xf b0 b1
  with_reducible refine CW.out.mono ?_
  rintro e w2 ⟨rfl, k1, k2⟩
  have P2 := Lib.hid (And.intro k1 k2)
  clear k1 k2
  have HFIN := Lib.hid (And.intro P2.out.1 (((HB0.out.trans P.out.2.2).trans HK.out.drew.drew.drew.drew).trans P2.out.2))
  have HG1 := Lib.hid P.out.1
  clear P2 HK P CW
  go_wp2_with fail
  go_end0
  refine ⟨rfl, ⟨_, ?_, by have h := HFIN.out.1; rw [List.append_assoc] at h; exact h⟩, HFIN.out.2⟩
  intro j hj
  rw [if_neg (by omega), if_neg (by omega), if_neg (by omega), if_neg (by omega), if_neg (by omega), if_neg (by omega), if_neg (by omega), if_neg (by omega), if_neg (by omega)]
  exact HG1.out j (by omega)
end Go.Proofs.YtghjlekdibcjdaaGreatDoor
