/- The contract of bufio.Writer's WriteByte over impl.writer. -/
import Derived.Test.YtghjlekdibcjdaaGreatDoorSinkB
namespace Go.Proofs.YtghjlekdibcjdaaGreatDoor
open Go.Deep Go.RowKit
set_option linter.unusedVariables false
theorem BufIs.kept {z : Ids} {A R : List Nat} {w w' : World} (h : BufIs z A R w) (k : Kept (fun _ => True) w w') : BufIs z A R w' := by
  obtain ⟨hw, hb, ⟨g, hrow, hrg⟩, h4, h5, h6, h7, h8⟩ := h
  obtain ⟨v, hk, _⟩ := hw.ex
  have hbl : ∀ i c, w.heap[i]? = some c → w'.heap[i]? = w.heap[i]? := fun i c hi => k.block i (Array.getElem?_eq_some_iff.1 hi).1 trivial
  exact ⟨hw.block (hbl _ _ hk) (fun g c fz hg _ => hbl _ _ hg), (hbl _ _ hb).trans hb, ⟨g, hrow.of_block (hbl _ _ (rowIs_heap hrow)), hrg⟩, h4, h5, h6, h7, h8⟩
theorem avail_any (z : Ids) (A R : List Nat) (w : World) (h : BufIs z A R w) :
    Calls Tryz.prog 124 #[.pointer (some ⟨z.bb, 0, none⟩)] w fun e w' => e = .returned (.int .i64 (4096 - (R.length : Int))) ∧ w' = w.drew := by
  obtain ⟨B, wb, bb, fb, lim⟩ := z
  obtain ⟨c0, c1, c2, c3, c4⟩ := buf_cells h.bw
  have hl := h.len
  simp only at *
  obtain ⟨r, hr⟩ : ∃ r, R.length = r := ⟨_, rfl⟩
  rw [hr] at c2 hl ⊢
  have ew : IntKind.i64.wrap (4096 - (r : Int)) = 4096 - (r : Int) := IntWalk.i64_in _ ⟨by omega, by omega⟩
  clear h hr
  go_enter Tryz.func124, Tryz.ntmps124
  go_wp2_with fail
  go_region
  go_wp2_with fail
  go_ret
  exact ⟨rfl, rfl⟩
theorem buf_put {z : Ids} {A R : List Nat} {w : World} (h : BufIs z A R w) (hn : R.length < 4096) (c : Nat) :
    BufIs z A (R ++ [c]) ((w.setCell ⟨z.fb, R.length, none⟩ (.int .u8 (c : Int))).setCell ⟨z.bb, 2, none⟩ (.int .i64 ((R.length : Int) + 1))) ∧
      Kept (fun k => k ≠ z.bb ∧ k ≠ z.fb) w ((w.setCell ⟨z.fb, R.length, none⟩ (.int .u8 (c : Int))).setCell ⟨z.bb, 2, none⟩ (.int .i64 ((R.length : Int) + 1))) := by
  obtain ⟨hw, hb, ⟨g, hrow, hrg⟩, hlen, h5, h6, h7, h8⟩ := h
  obtain ⟨v, hk, _⟩ := hw.ex
  have hfb : z.fb ≠ z.bb := type_ne (rowIs_heap hrow) hb (by decide)
  have hwf : z.wb ≠ z.fb := type_ne hk (rowIs_heap hrow) (by decide)
  have hwb : z.wb ≠ z.bb := type_ne hk hb (by decide)
  have hb1 : (w.setCell ⟨z.fb, R.length, none⟩ (.int .u8 (c : Int))).heap[z.bb]? = _ := (blk_setCell_other _ ⟨z.fb, R.length, none⟩ _ _ (Ne.symm hfb)).trans hb
  refine ⟨⟨hw.block ?_ ?_, ?_, ⟨_, (hrow.set R.length _).setOther (a := ⟨z.bb, 2, none⟩) hfb _, ?_⟩, by simp; omega, h5, h6, h7, h8⟩, ?_⟩
  · rw [blk_setCell_other _ _ _ _ hwb, blk_setCell_other _ _ _ _ hwf]
  · intro g cs fz hg hgf
    rw [blk_setCell_other _ _ _ _ (type_ne hg hb (by decide)), blk_setCell_other _ _ _ _ hgf]
  · simpa using heap_set hb1 2 (.int .i64 ((R.length : Int) + 1))
  · intro j hj
    simp only [List.length_append, List.length_singleton] at hj
    by_cases e : j = R.length
    · subst e; simp
    · rw [if_neg e, hrg j (by omega)]
      rw [List.getD_eq_getElem?_getD, List.getD_eq_getElem?_getD, List.getElem?_append_left (by omega)]
  · exact ((Kept.refl _ _).setCell (fun _ h => h.2 rfl) _).setCell (fun _ h => h.1 rfl) _
set_option maxHeartbeats 2000000 in
set_option maxRecDepth 100000 in
theorem bufByte_fits (z : Ids) (A R : List Nat) (c : Nat) (w : World) (h : BufIs z A R w) (hn : R.length < 4096) :
    Calls Tryz.prog 127 #[.pointer (some ⟨z.bb, 0, none⟩), .int .u8 (c : Int)] w fun e w' => e = .returned .nilIface ∧ BufIs z A (R ++ [c]) w' ∧ Kept (fun k => k ≠ z.bb ∧ k ≠ z.fb) w w' := by
  have P := Lib.hid (buf_put h hn c)
  have CA := Lib.hid (avail_any z A R w h)
  obtain ⟨g, hrow, _⟩ := h.row
  have f0 : w.frozen? ⟨z.fb, R.length, none⟩ = false := hrow.frozen _
  have f1 : w.cell? ⟨z.fb, R.length, none⟩ = some (g R.length) := hrow.cell (by omega)
  have hbf : z.fb ≠ z.bb := type_ne (rowIs_heap hrow) h.bw (by decide)
  obtain ⟨B, wb, bb, fb, lim⟩ := z
  obtain ⟨c0, c1, c2, c3, c4⟩ := buf_cells h.bw
  simp only at *
  obtain ⟨r, hr⟩ : ∃ r, R.length = r := ⟨_, rfl⟩
  rw [hr] at c2 hn CA f0 f1 P
  have ew : IntKind.i64.wrap ((r : Int) + 1) = (r : Int) + 1 := IntWalk.i64_in _ ⟨by omega, by omega⟩
  have i0 : (0 : Int) ≤ (r : Int) := by omega
  have i1 : (r : Int) < 4096 := by omega
  have i2 : ¬ (4096 - (r : Int) ≤ 0) := by omega
  clear h hr hrow
  go_enter Tryz.func127, Tryz.ntmps127
  go_wp2_with (go_at_call 124; (with_reducible refine CA.out.mono ?_); rintro e w1 ⟨rfl, rfl⟩)
  have hbf2 : bb ≠ fb := Ne.symm hbf
  go_region
  go_wp2_with fail
  go_ret
  exact ⟨rfl, P.out.1.kept ((Kept.refl _ _).drewN 2), P.out.2.drewN 2⟩
set_option maxHeartbeats 2000000 in
set_option maxRecDepth 100000 in
theorem bufByte_over (z : Ids) (A R : List Nat) (c : Nat) (w : World) (h : BufIs z A R w) (hn : R.length = 4096) (hl : A.length + R.length ≤ 1099511627776) (hg : z.lim < 0 ∨ (A.length : Int) + R.length ≤ z.lim) :
    Calls Tryz.prog 127 #[.pointer (some ⟨z.bb, 0, none⟩), .int .u8 (c : Int)] w fun e w' => e = .returned .nilIface ∧ BufIs z (A ++ R) [c] w' ∧ Fr z.B z.own w w' := by
  have CA := Lib.hid (avail_any z A R w h)
  have CF := Lib.hid (flush_good z A R w.drew (h.kept ((Kept.refl _ _).drew)) (by omega) hl hg)
  have hlf := h.lf
  obtain ⟨B, wb, bb, fb, lim⟩ := z
  obtain ⟨c0, c1, c2, c3, c4⟩ := buf_cells h.bw
  simp only at *
  rw [hn] at c2 CA
  have i0 : (0 : Int) ≤ 0 := by omega
  have i1 : (0 : Int) < 4096 := by omega
  clear h hg
  go_enter Tryz.func127, Tryz.ntmps127
  go_wp2_with (first
    | (go_at_call 124; (with_reducible refine CA.out.mono ?_); rintro e w1 ⟨rfl, rfl⟩)
    | (go_at_call 125; (with_reducible refine CF.out.mono ?_); rintro e w2 ⟨rfl, hb2, hF2⟩; obtain ⟨c0, c1, c2, c3, c4⟩ := buf_cells hb2.bw; obtain ⟨g, hrow, _⟩ := hb2.row; have f0 : w2.frozen? ⟨fb, 0, none⟩ = false := hrow.frozen _; have f1 : w2.cell? ⟨fb, 0, none⟩ = some (g 0) := hrow.cell (by omega); have hbf : fb ≠ bb := type_ne (rowIs_heap hrow) hb2.bw (by decide); have hbf2 : bb ≠ fb := Ne.symm hbf; have P := Lib.hid (And.intro (buf_put hb2 (by simp) c) (And.intro hF2 hrow)); clear hb2 hF2 hrow))
  simp only [List.length_nil] at c2
  go_region
  go_wp2_with fail
  go_ret
  obtain ⟨⟨P1, P2⟩, hF, hrow⟩ := P.out
  have hF' : Fr B (Ids.own ⟨B, wb, bb, fb, lim⟩) w w2 := ⟨hF.os, hF.tape, hF.output, hF.size, hF.block⟩
  refine ⟨rfl, P1.kept ((Kept.refl _ _).drew), ?_⟩
  refine ⟨P2.os.trans hF'.os, P2.tape.trans hF'.tape, P2.output.trans hF'.output, Nat.le_trans hF'.size P2.size, fun i o h1 h2 h3 => ?_⟩
  have h4 := hF'.block i o h1 h2 h3
  exact (P2.block i (Array.getElem?_eq_some_iff.1 h4).1 ⟨fun e => h2 (.inr e), fun e => by
    subst e
    rcases h3 with h3 | h3
    · omega
    · have := rowIs_heap hrow
      rw [h4] at this
      injection this with this
      exact h3 _ _ this⟩).trans h4
set_option maxHeartbeats 2000000 in
set_option maxRecDepth 100000 in
theorem bufByte_bad (z : Ids) (A R : List Nat) (c k : Nat) (w : World) (h : BufIs z A R w) (hn : R.length = 4096) (hl : A.length + R.length ≤ 1099511627776) (hk : k < 4096) (hg : z.lim = (A.length : Int) + k) :
    Calls Tryz.prog 127 #[.pointer (some ⟨z.bb, 0, none⟩), .int .u8 (c : Int)] w fun e w' => e = .returned (.iface 108 (.agg #[])) ∧ WrIs z.B z.wb z.fb z.lim true (A ++ R.take k) w' ∧ Fr z.B z.own w w' := by
  have CA := Lib.hid (avail_any z A R w h)
  have CF := Lib.hid (flush_bad z A R k w.drew (h.kept ((Kept.refl _ _).drew)) (by omega) hl hg)
  obtain ⟨B, wb, bb, fb, lim⟩ := z
  obtain ⟨c0, c1, c2, c3, c4⟩ := buf_cells h.bw
  simp only at *
  rw [hn] at c2 CA
  clear h hg
  go_enter Tryz.func127, Tryz.ntmps127
  go_wp2_with (first
    | (go_at_call 124; (with_reducible refine CA.out.mono ?_); rintro e w1 ⟨rfl, rfl⟩)
    | (go_at_call 125; (with_reducible refine CF.out.mono ?_); rintro e w2 ⟨rfl, hw2, d0, hF2⟩; have P := Lib.hid (And.intro hw2 hF2); clear hw2 hF2))
  go_ret
  have hF := P.out.2
  exact ⟨rfl, P.out.1, ⟨hF.os, hF.tape, hF.output, hF.size, hF.block⟩⟩
end Go.Proofs.YtghjlekdibcjdaaGreatDoor
