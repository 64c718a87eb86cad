/- The contract of bufio.Writer's Write of two bytes that do not fit. -/
import Derived.Test.YtghjlekdibcjdaaGreatDoorEoiA
import Derived.Test.YtghjlekdibcjdaaGreatDoorWrB
namespace Go.Proofs.YtghjlekdibcjdaaGreatDoor
open Go.Deep Go.RowKit
set_option linter.unusedVariables false
theorem buffered_any (bb : Nat) (u v c : Value) (n : Int) (w : World) (h : w.heap[bb]? = some (.cells #[u, v, .int .i64 n, c] 166 (0, 0))) :
    Calls Tryz.prog 128 #[.pointer (some ⟨bb, 0, none⟩)] w fun e w' => e = .returned (.int .i64 n) ∧ w = w' := by
  obtain ⟨c0, c1, c2, c3, c4⟩ := buf_cells h
  clear h
  go_enter Tryz.func128, Tryz.ntmps128
  go_wp2_with fail
  go_ret
  exact ⟨rfl, rfl⟩
theorem over_fr {z : Ids} {A R : List Nat} {w w1 w2 w3 w4 w5 : World} (h : BufIs z A R w) (k1 : Kept (fun _ => True) w w1) (k2 : Kept (fun k => k ≠ z.bb ∧ k ≠ z.fb) w1 w2) (k3 : Fr z.B z.own w2 w3) (k4 : Kept (fun _ => True) w3 w4) (k5 : Kept (fun k => k ≠ z.bb ∧ k ≠ z.fb) w4 w5) : Fr z.B z.own w w5 := by
  obtain ⟨g, hg, _⟩ := h.row
  have hf0 : ∀ i o, w.heap[i]? = some o → ¬ z.own i → (i < z.B ∨ ∀ c fz, o ≠ .cells c 5 fz) → i ≠ z.fb := fun i o h1 h2 h3 e => by
    subst e
    rcases h3 with h3 | h3
    · have := h.lf; omega
    · have := rowIs_heap hg
      rw [h1] at this
      injection this with this
      exact h3 _ _ this
  refine ⟨k5.os.trans (k4.os.trans (k3.os.trans (k2.os.trans k1.os))), k5.tape.trans (k4.tape.trans (k3.tape.trans (k2.tape.trans k1.tape))), k5.output.trans (k4.output.trans (k3.output.trans (k2.output.trans k1.output))), Nat.le_trans k1.size (Nat.le_trans k2.size (Nat.le_trans k3.size (Nat.le_trans k4.size k5.size))), fun i o h1 h2 h3 => ?_⟩
  have hne := hf0 i o h1 h2 h3
  have hbn : i ≠ z.bb := fun e => h2 (.inr e)
  have e1 := (k1.block i (Array.getElem?_eq_some_iff.1 h1).1 trivial).trans h1
  have e2 := (k2.block i (Array.getElem?_eq_some_iff.1 e1).1 ⟨hbn, hne⟩).trans e1
  have e3 := k3.block i o e2 h2 h3
  have e4 := (k4.block i (Array.getElem?_eq_some_iff.1 e3).1 trivial).trans e3
  exact (k5.block i (Array.getElem?_eq_some_iff.1 e4).1 ⟨hbn, hne⟩).trans e4
theorem avail_raw (bb : Nat) (u : Value) (fb : Nat) (n : Int) (c : Value) (w : World) (h : w.heap[bb]? = some (.cells #[u, .slice (some ⟨fb, 0, none⟩) 4096 4096, .int .i64 n, c] 166 (0, 0))) (hn : 0 ≤ n ∧ n ≤ 4096) :
    Calls Tryz.prog 124 #[.pointer (some ⟨bb, 0, none⟩)] w fun e w' => (∃ m, e = .returned (.int .i64 m)) ∧ Kept (fun _ => True) w w' := by
  obtain ⟨c0, c1, c2, c3, c4⟩ := buf_cells h
  obtain ⟨h1, h2⟩ := hn
  clear h
  go_enter Tryz.func124, Tryz.ntmps124
  go_wp2_with fail
  go_region
  go_wp2_with fail
  go_ret
  exact ⟨⟨_, rfl⟩, (Kept.refl _ _).drew⟩
set_option maxHeartbeats 2000000 in
set_option maxRecDepth 100000 in
theorem over_good0 (z : Ids) (A R : List Nat) (c0 c1 : Nat) (eb off cap : Nat) (f : Nat → Value) (w : World) (h : BufIs z A R w) (hr : R.length = 4096) (hE : w.rowIs eb 94 152 f) (hf0 : f off = .int .u8 (c0 : Int)) (hf1 : f (off + 1) = .int .u8 (c1 : Int)) (hoff : off + 2 ≤ 152) (hcap : 2 < cap) (hl : A.length + 4096 ≤ 1099511627776) (hg : z.lim < 0 ∨ (A.length : Int) + 4096 ≤ z.lim) :
    Calls Tryz.prog 126 #[.pointer (some ⟨z.bb, 0, none⟩), .slice (some ⟨eb, off, none⟩) 2 cap] w fun e w' => e = .returned (.tuple #[.int .i64 2, .nilIface]) ∧ BufIs z (A ++ (R ++ [])) [c0, c1] w' ∧ Fr z.B z.own w w' := by
  have CA : Hid (Calls Tryz.prog 124 #[.pointer (some ⟨z.bb, 0, none⟩)] w fun e w' => e = .returned (.int .i64 0) ∧ BufIs z A R w' ∧ Kept (fun _ => True) w w') := Lib.hid ((avail_any z A R w h).mono fun e w' ⟨h1, h2⟩ => ⟨by rw [h1, hr]; rfl, by rw [h2]; exact ⟨h.kept ((Kept.refl _ _).drew), (Kept.refl _ _).drew⟩⟩)
  have hlen : (R ++ []).length = 4096 := by simp [hr]
  have hns : ¬ z.own eb := fun e => by
    obtain ⟨v, hk, _⟩ := h.wr.ex
    exact e.elim (type_ne (rowIs_heap hE) hk (by decide)) (type_ne (rowIs_heap hE) h.bw (by decide))
  have hef : eb ≠ z.fb := by
    obtain ⟨_, hrf, _⟩ := h.row
    exact type_ne (rowIs_heap hE) (rowIs_heap hrf) (by decide)
  have hlf := h.lf
  have HH := Lib.hid (And.intro h (And.intro hE (And.intro hf0 (And.intro hf1 (And.intro hg (And.intro hns (And.intro hef hlf)))))))
  clear h hE hf0 hf1 hg hns hef hlf
  go_enter Tryz.func126, Tryz.ntmps126
  go_wp2_with fail
  refine wp_loop_rounds 2 ?_
  rw [rounds_succ]
  obtain ⟨B, wb, bb, fb, lim⟩ := z
  simp only at *
  go_wp2_with (first
    | (go_at_call 124; (with_reducible refine CA.out.mono ?_); rintro e w1 ⟨rfl, hB1, hK1⟩; obtain ⟨d0, d1, d2, d3, d4⟩ := buf_cells hB1.bw; rw [hr] at d2; have HB1 := Lib.hid (And.intro hB1 hK1); clear hB1 hK1)
    | (go_at_call 128; (with_reducible refine (buffered_any bb _ _ _ _ _ HB1.out.1.bw).mono ?_); rintro e w2 ⟨rfl, rfl⟩))
  clear CA
  go_still_tail 10, (by kernel_rfl)
  change wpList _ _ _ _ _ w1.drew
  obtain ⟨g, hrow, hgr⟩ := HB1.out.1.row
  have hE1 := HB1.out.2.row HH.out.2.1 trivial
  have hrowd : w1.drew.rowIs fb 5 4096 g := hrow
  refine wpList_copy_rowIs rfl (.tmp 43) (.tmp 44) 22 22 rfl 5 Tryz.underlying22 size5 _ (some ⟨eb, off, none⟩) 0 0 2 cap rfl rfl fb 4096 4096 5 g hrowd 0 (fun i => Value.int .u8 (([].getD i 0 : Nat) : Int)) (by decide) ?_ (by omega) (fun _ => rfl) ?_
  · exact fun h => absurd h (by omega)
  intro w2 k2 r2
  have k2' : Kept (fun k => k ≠ fb) w1 w2 := ⟨k2.os, k2.tape, k2.output, k2.size, k2.block⟩
  have HPUT := buf_puts (p := []) (w2 := w2) HB1.out.1 (by simp [hr]) hrow hgr k2' (by rw [hr]; exact r2)
  rw [hr] at HPUT
  have hE2 := HPUT.2.row hE1 ⟨fun e => HH.out.2.2.2.2.2.1 (.inr e), HH.out.2.2.2.2.2.2.1⟩
  have hbb := HB1.out.1.bw
  have hbf : fb ≠ bb := type_ne (rowIs_heap hrow) hbb (by decide)
  have hb2 := (k2'.block bb (Array.getElem?_eq_some_iff.1 hbb).1 (Ne.symm hbf)).trans hbb
  obtain ⟨d0, d1, d2, d3, d4⟩ := buf_cells hb2
  rw [hr] at d2
  have HK2 := Lib.hid (And.intro HPUT hE2)
  have CF := Lib.hid fun W (hW : W = w2.setCell ⟨bb, 2, none⟩ (.int .i64 4096)) => flush_good ⟨B, wb, bb, fb, lim⟩ A (R ++ []) W (by rw [hW]; exact HPUT.1) (by omega) (by omega) (by rw [hlen]; exact HH.out.2.2.2.2.1)
  clear HPUT k2 k2' r2 hrow hgr hrowd hE1 hE2 hbb hbf hb2
  go_wp2_with (go_at_call 125; (with_reducible refine (CF.out _ rfl).mono ?_); rintro e w3 ⟨rfl, hB3, hF3⟩; have HB3 := Lib.hid (And.intro hB3 (hF3.rowE HH.out.2.2.2.2.2.1 HK2.out.2)); have HF3 := Lib.hid hF3; clear hB3 hF3)
  clear d0 d1 d2 d3 d4
  rw [rounds_succ]
  have CA3 : Hid (Calls Tryz.prog 124 #[.pointer (some ⟨bb, 0, none⟩)] w3 fun e w' => e = .returned (.int .i64 4096) ∧ BufIs ⟨B, wb, bb, fb, lim⟩ (A ++ (R ++ [])) [] w' ∧ Kept (fun _ => True) w3 w') := Lib.hid ((avail_any _ _ [] w3 HB3.out.1).mono fun e w' ⟨h1, h2⟩ => ⟨by rw [h1]; rfl, by rw [h2]; exact ⟨HB3.out.1.kept ((Kept.refl _ _).drew), (Kept.refl _ _).drew⟩⟩)
  go_wp2_with (go_at_call 124; (with_reducible refine CA3.out.mono ?_); rintro e w4 ⟨rfl, hB4, hK4⟩; obtain ⟨d0, d1, d2, d3, d4⟩ := buf_cells hB4.bw; simp only [List.length_nil] at d2; have HB4 := Lib.hid (And.intro hB4 hK4); clear hB4 hK4)
  clear CA3
  go_still_tail 10, (by kernel_rfl)
  change wpList _ _ _ _ _ w4.drew
  obtain ⟨g4, hrow4, hgr4⟩ := HB4.out.1.row
  have hE4 := HB4.out.2.row HB3.out.2 trivial
  have hrowd4 : w4.drew.rowIs fb 5 4096 g4 := hrow4
  refine wpList_copy_rowIs rfl (.tmp 80) (.tmp 81) 22 22 rfl 5 Tryz.underlying22 size5 (some ⟨fb, 0, none⟩) (some ⟨eb, off + 0, none⟩) 4096 4096 2 (cap - 0) ?_ ?_ fb 0 4096 5 g4 hrowd4 2 (fun i => Value.int .u8 (([c0, c1].getD i 0 : Nat) : Int)) (by decide) ?_ (by omega) (fun _ => rfl) ?_
  · first | rfl | (simp [Act.eval]; done)
  · first | rfl | (simp [Act.eval]; done) | (simp [Act.eval]; omega)
  · refine fun _ => ⟨rfl, _, rfl, fun j hj => ?_⟩
    obtain rfl | rfl : j = 0 ∨ j = 1 := by omega
    · rw [Addr.add_mid]
      show w4.cell? _ = _
      rw [hE4.cell (by omega)]
      exact congrArg some HH.out.2.2.1
    · rw [Addr.add_mid]
      show w4.cell? _ = _
      rw [hE4.cell (by omega)]
      exact congrArg some HH.out.2.2.2.1
  intro w5 k5 r5
  have k5' : Kept (fun k => k ≠ fb) w4 w5 := ⟨k5.os, k5.tape, k5.output, k5.size, k5.block⟩
  have HPUT := buf_puts (p := [c0, c1]) (w2 := w5) HB4.out.1 (by simp) hrow4 hgr4 k5' r5
  have hbb := HB4.out.1.bw
  have hbf : fb ≠ bb := type_ne (rowIs_heap hrow4) hbb (by decide)
  have hb2 := (k5'.block bb (Array.getElem?_eq_some_iff.1 hbb).1 (Ne.symm hbf)).trans hbb
  clear d0 d1 d2 d3 d4
  obtain ⟨d0, d1, d2, d3, d4⟩ := buf_cells hb2
  simp only [List.length_nil] at d2
  have HP5 := Lib.hid HPUT
  clear HPUT k5 k5' r5 hrow4 hgr4 hrowd4 hE4 hbb hbf hb2
  go_wp2_with fail
  go_ret2
  refine ⟨rfl, by have := HP5.out.1; simpa using this, ?_⟩
  refine over_fr (w1 := w1) (w2 := w2.setCell ⟨bb, 2, none⟩ (.int .i64 4096)) (w3 := w3) (w4 := w4) HH.out.1 HB1.out.2 HK2.out.1.2 HF3.out HB4.out.2 ?_
  have := HP5.out.2
  simpa using this
set_option maxHeartbeats 2000000 in
set_option maxRecDepth 100000 in
theorem over_good1 (z : Ids) (A R : List Nat) (c0 c1 : Nat) (eb off cap : Nat) (f : Nat → Value) (w : World) (h : BufIs z A R w) (hr : R.length = 4095) (hE : w.rowIs eb 94 152 f) (hf0 : f off = .int .u8 (c0 : Int)) (hf1 : f (off + 1) = .int .u8 (c1 : Int)) (hoff : off + 2 ≤ 152) (hcap : 2 < cap) (hl : A.length + 4096 ≤ 1099511627776) (hg : z.lim < 0 ∨ (A.length : Int) + 4096 ≤ z.lim) :
    Calls Tryz.prog 126 #[.pointer (some ⟨z.bb, 0, none⟩), .slice (some ⟨eb, off, none⟩) 2 cap] w fun e w' => e = .returned (.tuple #[.int .i64 2, .nilIface]) ∧ BufIs z (A ++ (R ++ [c0])) [c1] w' ∧ Fr z.B z.own w w' := by
  have CA : Hid (Calls Tryz.prog 124 #[.pointer (some ⟨z.bb, 0, none⟩)] w fun e w' => e = .returned (.int .i64 1) ∧ BufIs z A R w' ∧ Kept (fun _ => True) w w') := Lib.hid ((avail_any z A R w h).mono fun e w' ⟨h1, h2⟩ => ⟨by rw [h1, hr]; rfl, by rw [h2]; exact ⟨h.kept ((Kept.refl _ _).drew), (Kept.refl _ _).drew⟩⟩)
  have hlen : (R ++ [c0]).length = 4096 := by simp [hr]
  have hns : ¬ z.own eb := fun e => by
    obtain ⟨v, hk, _⟩ := h.wr.ex
    exact e.elim (type_ne (rowIs_heap hE) hk (by decide)) (type_ne (rowIs_heap hE) h.bw (by decide))
  have hef : eb ≠ z.fb := by
    obtain ⟨_, hrf, _⟩ := h.row
    exact type_ne (rowIs_heap hE) (rowIs_heap hrf) (by decide)
  have hlf := h.lf
  have HH := Lib.hid (And.intro h (And.intro hE (And.intro hf0 (And.intro hf1 (And.intro hg (And.intro hns (And.intro hef hlf)))))))
  clear h hE hf0 hf1 hg hns hef hlf
  go_enter Tryz.func126, Tryz.ntmps126
  go_wp2_with fail
  refine wp_loop_rounds 2 ?_
  rw [rounds_succ]
  obtain ⟨B, wb, bb, fb, lim⟩ := z
  simp only at *
  go_wp2_with (first
    | (go_at_call 124; (with_reducible refine CA.out.mono ?_); rintro e w1 ⟨rfl, hB1, hK1⟩; obtain ⟨d0, d1, d2, d3, d4⟩ := buf_cells hB1.bw; rw [hr] at d2; have HB1 := Lib.hid (And.intro hB1 hK1); clear hB1 hK1)
    | (go_at_call 128; (with_reducible refine (buffered_any bb _ _ _ _ _ HB1.out.1.bw).mono ?_); rintro e w2 ⟨rfl, rfl⟩))
  clear CA
  go_still_tail 10, (by kernel_rfl)
  change wpList _ _ _ _ _ w1.drew
  obtain ⟨g, hrow, hgr⟩ := HB1.out.1.row
  have hE1 := HB1.out.2.row HH.out.2.1 trivial
  have hrowd : w1.drew.rowIs fb 5 4096 g := hrow
  refine wpList_copy_rowIs rfl (.tmp 43) (.tmp 44) 22 22 rfl 5 Tryz.underlying22 size5 _ (some ⟨eb, off, none⟩) 1 1 2 cap rfl rfl fb 4095 4096 5 g hrowd 1 (fun i => Value.int .u8 (([c0].getD i 0 : Nat) : Int)) (by decide) ?_ (by omega) (fun _ => rfl) ?_
  · refine fun _ => ⟨rfl, _, rfl, fun j hj => ?_⟩
    obtain rfl : j = 0 := by omega
    rw [Addr.add_mid, Nat.add_zero]
    show w1.cell? _ = _
    rw [hE1.cell (by omega), HH.out.2.2.1]
    rfl
  intro w2 k2 r2
  have k2' : Kept (fun k => k ≠ fb) w1 w2 := ⟨k2.os, k2.tape, k2.output, k2.size, k2.block⟩
  have HPUT := buf_puts (p := [c0]) (w2 := w2) HB1.out.1 (by simp [hr]) hrow hgr k2' (by rw [hr]; exact r2)
  rw [hr] at HPUT
  have hE2 := HPUT.2.row hE1 ⟨fun e => HH.out.2.2.2.2.2.1 (.inr e), HH.out.2.2.2.2.2.2.1⟩
  have hbb := HB1.out.1.bw
  have hbf : fb ≠ bb := type_ne (rowIs_heap hrow) hbb (by decide)
  have hb2 := (k2'.block bb (Array.getElem?_eq_some_iff.1 hbb).1 (Ne.symm hbf)).trans hbb
  obtain ⟨d0, d1, d2, d3, d4⟩ := buf_cells hb2
  rw [hr] at d2
  have HK2 := Lib.hid (And.intro HPUT hE2)
  have CF := Lib.hid fun W (hW : W = w2.setCell ⟨bb, 2, none⟩ (.int .i64 4096)) => flush_good ⟨B, wb, bb, fb, lim⟩ A (R ++ [c0]) W (by rw [hW]; exact HPUT.1) (by omega) (by omega) (by rw [hlen]; exact HH.out.2.2.2.2.1)
  clear HPUT k2 k2' r2 hrow hgr hrowd hE1 hE2 hbb hbf hb2
  go_wp2_with (go_at_call 125; (with_reducible refine (CF.out _ rfl).mono ?_); rintro e w3 ⟨rfl, hB3, hF3⟩; have HB3 := Lib.hid (And.intro hB3 (hF3.rowE HH.out.2.2.2.2.2.1 HK2.out.2)); have HF3 := Lib.hid hF3; clear hB3 hF3)
  clear d0 d1 d2 d3 d4
  rw [rounds_succ]
  have CA3 : Hid (Calls Tryz.prog 124 #[.pointer (some ⟨bb, 0, none⟩)] w3 fun e w' => e = .returned (.int .i64 4096) ∧ BufIs ⟨B, wb, bb, fb, lim⟩ (A ++ (R ++ [c0])) [] w' ∧ Kept (fun _ => True) w3 w') := Lib.hid ((avail_any _ _ [] w3 HB3.out.1).mono fun e w' ⟨h1, h2⟩ => ⟨by rw [h1]; rfl, by rw [h2]; exact ⟨HB3.out.1.kept ((Kept.refl _ _).drew), (Kept.refl _ _).drew⟩⟩)
  go_wp2_with (go_at_call 124; (with_reducible refine CA3.out.mono ?_); rintro e w4 ⟨rfl, hB4, hK4⟩; obtain ⟨d0, d1, d2, d3, d4⟩ := buf_cells hB4.bw; simp only [List.length_nil] at d2; have HB4 := Lib.hid (And.intro hB4 hK4); clear hB4 hK4)
  clear CA3
  go_still_tail 10, (by kernel_rfl)
  change wpList _ _ _ _ _ w4.drew
  obtain ⟨g4, hrow4, hgr4⟩ := HB4.out.1.row
  have hE4 := HB4.out.2.row HB3.out.2 trivial
  have hrowd4 : w4.drew.rowIs fb 5 4096 g4 := hrow4
  refine wpList_copy_rowIs rfl (.tmp 80) (.tmp 81) 22 22 rfl 5 Tryz.underlying22 size5 (some ⟨fb, 0, none⟩) (some ⟨eb, off + 1, none⟩) 4096 4096 1 (cap - 1) ?_ ?_ fb 0 4096 5 g4 hrowd4 1 (fun i => Value.int .u8 (([c1].getD i 0 : Nat) : Int)) (by decide) ?_ (by omega) (fun _ => rfl) ?_
  · first | rfl | (simp [Act.eval]; done)
  · first | rfl | (simp [Act.eval]; done) | (simp [Act.eval]; omega)
  · refine fun _ => ⟨rfl, _, rfl, fun j hj => ?_⟩
    obtain rfl : j = 0 := by omega
    rw [Addr.add_mid]
    show w4.cell? _ = _
    rw [hE4.cell (by omega)]
    exact congrArg some HH.out.2.2.2.1
  intro w5 k5 r5
  have k5' : Kept (fun k => k ≠ fb) w4 w5 := ⟨k5.os, k5.tape, k5.output, k5.size, k5.block⟩
  have HPUT := buf_puts (p := [c1]) (w2 := w5) HB4.out.1 (by simp) hrow4 hgr4 k5' r5
  have hbb := HB4.out.1.bw
  have hbf : fb ≠ bb := type_ne (rowIs_heap hrow4) hbb (by decide)
  have hb2 := (k5'.block bb (Array.getElem?_eq_some_iff.1 hbb).1 (Ne.symm hbf)).trans hbb
  clear d0 d1 d2 d3 d4
  obtain ⟨d0, d1, d2, d3, d4⟩ := buf_cells hb2
  simp only [List.length_nil] at d2
  have HP5 := Lib.hid HPUT
  clear HPUT k5 k5' r5 hrow4 hgr4 hrowd4 hE4 hbb hbf hb2
  go_wp2_with fail
  go_ret2
  refine ⟨rfl, by have := HP5.out.1; simpa using this, ?_⟩
  refine over_fr (w1 := w1) (w2 := w2.setCell ⟨bb, 2, none⟩ (.int .i64 4096)) (w3 := w3) (w4 := w4) HH.out.1 HB1.out.2 HK2.out.1.2 HF3.out HB4.out.2 ?_
  have := HP5.out.2
  simpa using this
set_option maxHeartbeats 2000000 in
set_option maxRecDepth 100000 in
theorem over_bad0 (z : Ids) (A R : List Nat) (c0 c1 : Nat) (k : Nat) (eb off cap : Nat) (f : Nat → Value) (w : World) (h : BufIs z A R w) (hr : R.length = 4096) (hE : w.rowIs eb 94 152 f) (hf0 : f off = .int .u8 (c0 : Int)) (hf1 : f (off + 1) = .int .u8 (c1 : Int)) (hoff : off + 2 ≤ 152) (hcap : 2 < cap) (hl : A.length + 4096 ≤ 1099511627776) (hk : k < 4096) (hg : z.lim = (A.length : Int) + k) :
    Calls Tryz.prog 126 #[.pointer (some ⟨z.bb, 0, none⟩), .slice (some ⟨eb, off, none⟩) 2 cap] w fun e w' => (∃ n, e = .returned (.tuple #[.int .i64 n, .iface 108 (.agg #[])])) ∧ WrIs z.B z.wb z.fb z.lim true (A ++ (R ++ []).take k) w' ∧ Fr z.B z.own w w' := by
  have CA : Hid (Calls Tryz.prog 124 #[.pointer (some ⟨z.bb, 0, none⟩)] w fun e w' => e = .returned (.int .i64 0) ∧ BufIs z A R w' ∧ Kept (fun _ => True) w w') := Lib.hid ((avail_any z A R w h).mono fun e w' ⟨h1, h2⟩ => ⟨by rw [h1, hr]; rfl, by rw [h2]; exact ⟨h.kept ((Kept.refl _ _).drew), (Kept.refl _ _).drew⟩⟩)
  have hlen : (R ++ []).length = 4096 := by simp [hr]
  have hns : ¬ z.own eb := fun e => by
    obtain ⟨v, hk, _⟩ := h.wr.ex
    exact e.elim (type_ne (rowIs_heap hE) hk (by decide)) (type_ne (rowIs_heap hE) h.bw (by decide))
  have hef : eb ≠ z.fb := by
    obtain ⟨_, hrf, _⟩ := h.row
    exact type_ne (rowIs_heap hE) (rowIs_heap hrf) (by decide)
  have hlf := h.lf
  have HH := Lib.hid (And.intro h (And.intro hE (And.intro hf0 (And.intro hf1 (And.intro hg (And.intro hns (And.intro hef hlf)))))))
  clear h hE hf0 hf1 hg hns hef hlf
  go_enter Tryz.func126, Tryz.ntmps126
  go_wp2_with fail
  refine wp_loop_rounds 2 ?_
  rw [rounds_succ]
  obtain ⟨B, wb, bb, fb, lim⟩ := z
  simp only at *
  go_wp2_with (first
    | (go_at_call 124; (with_reducible refine CA.out.mono ?_); rintro e w1 ⟨rfl, hB1, hK1⟩; obtain ⟨d0, d1, d2, d3, d4⟩ := buf_cells hB1.bw; rw [hr] at d2; have HB1 := Lib.hid (And.intro hB1 hK1); clear hB1 hK1)
    | (go_at_call 128; (with_reducible refine (buffered_any bb _ _ _ _ _ HB1.out.1.bw).mono ?_); rintro e w2 ⟨rfl, rfl⟩))
  clear CA
  go_still_tail 10, (by kernel_rfl)
  change wpList _ _ _ _ _ w1.drew
  obtain ⟨g, hrow, hgr⟩ := HB1.out.1.row
  have hE1 := HB1.out.2.row HH.out.2.1 trivial
  have hrowd : w1.drew.rowIs fb 5 4096 g := hrow
  refine wpList_copy_rowIs rfl (.tmp 43) (.tmp 44) 22 22 rfl 5 Tryz.underlying22 size5 _ (some ⟨eb, off, none⟩) 0 0 2 cap rfl rfl fb 4096 4096 5 g hrowd 0 (fun i => Value.int .u8 (([].getD i 0 : Nat) : Int)) (by decide) ?_ (by omega) (fun _ => rfl) ?_
  · exact fun h => absurd h (by omega)
  intro w2 k2 r2
  have k2' : Kept (fun k => k ≠ fb) w1 w2 := ⟨k2.os, k2.tape, k2.output, k2.size, k2.block⟩
  have HPUT := buf_puts (p := []) (w2 := w2) HB1.out.1 (by simp [hr]) hrow hgr k2' (by rw [hr]; exact r2)
  rw [hr] at HPUT
  have hE2 := HPUT.2.row hE1 ⟨fun e => HH.out.2.2.2.2.2.1 (.inr e), HH.out.2.2.2.2.2.2.1⟩
  have hbb := HB1.out.1.bw
  have hbf : fb ≠ bb := type_ne (rowIs_heap hrow) hbb (by decide)
  have hb2 := (k2'.block bb (Array.getElem?_eq_some_iff.1 hbb).1 (Ne.symm hbf)).trans hbb
  obtain ⟨d0, d1, d2, d3, d4⟩ := buf_cells hb2
  rw [hr] at d2
  have HK2 := Lib.hid (And.intro HPUT hE2)
  have CF := Lib.hid fun W (hW : W = w2.setCell ⟨bb, 2, none⟩ (.int .i64 4096)) => flush_bad_h ⟨B, wb, bb, fb, lim⟩ A (R ++ []) k W (by rw [hW]; exact HPUT.1) (by omega) (by omega) HH.out.2.2.2.2.1
  clear HPUT k2 k2' r2 hrow hgr hrowd hE1 hE2 hbb hbf hb2
  go_wp2_with (go_at_call 125; (with_reducible refine (CF.out _ rfl).mono ?_); rintro e w3 ⟨rfl, hB3, hb3, hF3⟩; have HB3 := Lib.hid (And.intro hB3 hb3); have HF3 := Lib.hid hF3; clear hB3 hb3 hF3)
  clear d0 d1 d2 d3 d4
  rw [rounds_succ]
  obtain ⟨d0, d1, d2, d3, d4⟩ := buf_cells HB3.out.2
  have CA3 := Lib.hid (avail_raw bb _ fb _ _ w3 HB3.out.2 (by omega))
  go_wp2_with (go_at_call 124; (with_reducible refine CA3.out.mono ?_); rintro e w4 ⟨⟨n, rfl⟩, hK4⟩; have d0 := hK4.cellOf d0 trivial; have HK4 := Lib.hid hK4; clear hK4)
  all_goals
    clear d1 d2 d3 d4
    go_region
    go_wp2_with fail
    go_ret2
    have hwf : WrIs B wb fb lim true (A ++ (R ++ []).take k) w4.drew := (HB3.out.1.block (HK4.out.block _ (Array.getElem?_eq_some_iff.1 HB3.out.1.ex.choose_spec.1).1 trivial) (fun g c fz hg _ => HK4.out.block g (Array.getElem?_eq_some_iff.1 hg).1 trivial)).block rfl (fun g c fz hg _ => rfl)
    refine ⟨⟨_, rfl⟩, by simpa using hwf, ?_⟩
    exact over_fr (w1 := w1) (w2 := w2.setCell ⟨bb, 2, none⟩ (.int .i64 4096)) (w3 := w3) (w4 := w4) HH.out.1 HB1.out.2 HK2.out.1.2 HF3.out HK4.out ((Kept.refl _ _).drew)
set_option maxHeartbeats 2000000 in
set_option maxRecDepth 100000 in
theorem over_bad1 (z : Ids) (A R : List Nat) (c0 c1 : Nat) (k : Nat) (eb off cap : Nat) (f : Nat → Value) (w : World) (h : BufIs z A R w) (hr : R.length = 4095) (hE : w.rowIs eb 94 152 f) (hf0 : f off = .int .u8 (c0 : Int)) (hf1 : f (off + 1) = .int .u8 (c1 : Int)) (hoff : off + 2 ≤ 152) (hcap : 2 < cap) (hl : A.length + 4096 ≤ 1099511627776) (hk : k < 4096) (hg : z.lim = (A.length : Int) + k) :
    Calls Tryz.prog 126 #[.pointer (some ⟨z.bb, 0, none⟩), .slice (some ⟨eb, off, none⟩) 2 cap] w fun e w' => (∃ n, e = .returned (.tuple #[.int .i64 n, .iface 108 (.agg #[])])) ∧ WrIs z.B z.wb z.fb z.lim true (A ++ (R ++ [c0]).take k) w' ∧ Fr z.B z.own w w' := by
  have CA : Hid (Calls Tryz.prog 124 #[.pointer (some ⟨z.bb, 0, none⟩)] w fun e w' => e = .returned (.int .i64 1) ∧ BufIs z A R w' ∧ Kept (fun _ => True) w w') := Lib.hid ((avail_any z A R w h).mono fun e w' ⟨h1, h2⟩ => ⟨by rw [h1, hr]; rfl, by rw [h2]; exact ⟨h.kept ((Kept.refl _ _).drew), (Kept.refl _ _).drew⟩⟩)
  have hlen : (R ++ [c0]).length = 4096 := by simp [hr]
  have hns : ¬ z.own eb := fun e => by
    obtain ⟨v, hk, _⟩ := h.wr.ex
    exact e.elim (type_ne (rowIs_heap hE) hk (by decide)) (type_ne (rowIs_heap hE) h.bw (by decide))
  have hef : eb ≠ z.fb := by
    obtain ⟨_, hrf, _⟩ := h.row
    exact type_ne (rowIs_heap hE) (rowIs_heap hrf) (by decide)
  have hlf := h.lf
  have HH := Lib.hid (And.intro h (And.intro hE (And.intro hf0 (And.intro hf1 (And.intro hg (And.intro hns (And.intro hef hlf)))))))
  clear h hE hf0 hf1 hg hns hef hlf
  go_enter Tryz.func126, Tryz.ntmps126
  go_wp2_with fail
  refine wp_loop_rounds 2 ?_
  rw [rounds_succ]
  obtain ⟨B, wb, bb, fb, lim⟩ := z
  simp only at *
  go_wp2_with (first
    | (go_at_call 124; (with_reducible refine CA.out.mono ?_); rintro e w1 ⟨rfl, hB1, hK1⟩; obtain ⟨d0, d1, d2, d3, d4⟩ := buf_cells hB1.bw; rw [hr] at d2; have HB1 := Lib.hid (And.intro hB1 hK1); clear hB1 hK1)
    | (go_at_call 128; (with_reducible refine (buffered_any bb _ _ _ _ _ HB1.out.1.bw).mono ?_); rintro e w2 ⟨rfl, rfl⟩))
  clear CA
  go_still_tail 10, (by kernel_rfl)
  change wpList _ _ _ _ _ w1.drew
  obtain ⟨g, hrow, hgr⟩ := HB1.out.1.row
  have hE1 := HB1.out.2.row HH.out.2.1 trivial
  have hrowd : w1.drew.rowIs fb 5 4096 g := hrow
  refine wpList_copy_rowIs rfl (.tmp 43) (.tmp 44) 22 22 rfl 5 Tryz.underlying22 size5 _ (some ⟨eb, off, none⟩) 1 1 2 cap rfl rfl fb 4095 4096 5 g hrowd 1 (fun i => Value.int .u8 (([c0].getD i 0 : Nat) : Int)) (by decide) ?_ (by omega) (fun _ => rfl) ?_
  · refine fun _ => ⟨rfl, _, rfl, fun j hj => ?_⟩
    obtain rfl : j = 0 := by omega
    rw [Addr.add_mid, Nat.add_zero]
    show w1.cell? _ = _
    rw [hE1.cell (by omega), HH.out.2.2.1]
    rfl
  intro w2 k2 r2
  have k2' : Kept (fun k => k ≠ fb) w1 w2 := ⟨k2.os, k2.tape, k2.output, k2.size, k2.block⟩
  have HPUT := buf_puts (p := [c0]) (w2 := w2) HB1.out.1 (by simp [hr]) hrow hgr k2' (by rw [hr]; exact r2)
  rw [hr] at HPUT
  have hE2 := HPUT.2.row hE1 ⟨fun e => HH.out.2.2.2.2.2.1 (.inr e), HH.out.2.2.2.2.2.2.1⟩
  have hbb := HB1.out.1.bw
  have hbf : fb ≠ bb := type_ne (rowIs_heap hrow) hbb (by decide)
  have hb2 := (k2'.block bb (Array.getElem?_eq_some_iff.1 hbb).1 (Ne.symm hbf)).trans hbb
  obtain ⟨d0, d1, d2, d3, d4⟩ := buf_cells hb2
  rw [hr] at d2
  have HK2 := Lib.hid (And.intro HPUT hE2)
  have CF := Lib.hid fun W (hW : W = w2.setCell ⟨bb, 2, none⟩ (.int .i64 4096)) => flush_bad_h ⟨B, wb, bb, fb, lim⟩ A (R ++ [c0]) k W (by rw [hW]; exact HPUT.1) (by omega) (by omega) HH.out.2.2.2.2.1
  clear HPUT k2 k2' r2 hrow hgr hrowd hE1 hE2 hbb hbf hb2
  go_wp2_with (go_at_call 125; (with_reducible refine (CF.out _ rfl).mono ?_); rintro e w3 ⟨rfl, hB3, hb3, hF3⟩; have HB3 := Lib.hid (And.intro hB3 hb3); have HF3 := Lib.hid hF3; clear hB3 hb3 hF3)
  clear d0 d1 d2 d3 d4
  rw [rounds_succ]
  obtain ⟨d0, d1, d2, d3, d4⟩ := buf_cells HB3.out.2
  have CA3 := Lib.hid (avail_raw bb _ fb _ _ w3 HB3.out.2 (by omega))
  go_wp2_with (go_at_call 124; (with_reducible refine CA3.out.mono ?_); rintro e w4 ⟨⟨n, rfl⟩, hK4⟩; have d0 := hK4.cellOf d0 trivial; have HK4 := Lib.hid hK4; clear hK4)
  all_goals
    clear d1 d2 d3 d4
    go_region
    go_wp2_with fail
    go_ret2
    have hwf : WrIs B wb fb lim true (A ++ (R ++ [c0]).take k) w4.drew := (HB3.out.1.block (HK4.out.block _ (Array.getElem?_eq_some_iff.1 HB3.out.1.ex.choose_spec.1).1 trivial) (fun g c fz hg _ => HK4.out.block g (Array.getElem?_eq_some_iff.1 hg).1 trivial)).block rfl (fun g c fz hg _ => rfl)
    refine ⟨⟨_, rfl⟩, by simpa using hwf, ?_⟩
    exact over_fr (w1 := w1) (w2 := w2.setCell ⟨bb, 2, none⟩ (.int .i64 4096)) (w3 := w3) (w4 := w4) HH.out.1 HB1.out.2 HK2.out.1.2 HF3.out HK4.out ((Kept.refl _ _).drew)
end Go.Proofs.YtghjlekdibcjdaaGreatDoor
