/- The contract of bufio.Writer's Write where the bytes fit. -/
import Derived.Test.YtghjlekdibcjdaaGreatDoorSinkD
import Derived.Test.YtghjlekdibcjdaaGreatDoorFill
namespace Go.Proofs.YtghjlekdibcjdaaGreatDoor
open Go.Deep Go.RowKit
set_option linter.unusedVariables false
theorem buf_puts {z : Ids} {A R p : List Nat} {w w2 : World} {g : Nat → Value} (h : BufIs z A R w) (hn : R.length + p.length ≤ 4096) (hg : w.rowIs z.fb 5 4096 g) (hgr : ∀ j, j < R.length → g j = .int .u8 ((R.getD j 0 : Nat) : Int)) (k : Kept (fun i => i ≠ z.fb) w w2) (hr : w2.rowIs z.fb 5 4096 (over R.length p.length (fun j => .int .u8 ((p.getD j 0 : Nat) : Int)) g)) :
    BufIs z A (R ++ p) (w2.setCell ⟨z.bb, 2, none⟩ (.int .i64 ((R.length : Int) + (p.length : Int)))) ∧
      Kept (fun k => k ≠ z.bb ∧ k ≠ z.fb) w (w2.setCell ⟨z.bb, 2, none⟩ (.int .i64 ((R.length : Int) + (p.length : Int)))) := by
  obtain ⟨hw, hb, _, hlen, h5, h6, h7, h8⟩ := h
  obtain ⟨v, hk, _⟩ := hw.ex
  have hfb : z.fb ≠ z.bb := type_ne (rowIs_heap hg) hb (by decide)
  have hwf : z.wb ≠ z.fb := type_ne hk (rowIs_heap hg) (by decide)
  have hwb : z.wb ≠ z.bb := type_ne hk hb (by decide)
  have hb1 := (k.block z.bb (Array.getElem?_eq_some_iff.1 hb).1 (Ne.symm hfb)).trans hb
  refine ⟨⟨hw.block ?_ ?_, ?_, ⟨_, hr.setOther (a := ⟨z.bb, 2, none⟩) hfb _, ?_⟩, by simp; omega, h5, h6, h7, h8⟩, ?_⟩
  · rw [blk_setCell_other _ _ _ _ hwb, k.block z.wb (Array.getElem?_eq_some_iff.1 hk).1 hwf]
  · intro g cs fz hg hgf
    rw [blk_setCell_other _ _ _ _ (type_ne hg hb (by decide)), k.block g (Array.getElem?_eq_some_iff.1 hg).1 hgf]
  · simpa using heap_set hb1 2 (.int .i64 ((R.length : Int) + (p.length : Int)))
  · intro j hj
    simp only [List.length_append] at hj
    unfold over
    by_cases e : R.length ≤ j
    · rw [if_pos ⟨e, by omega⟩]
      show Value.int .u8 ((p.getD (j - R.length) 0 : Nat) : Int) = _
      rw [List.getD_eq_getElem?_getD, List.getD_eq_getElem?_getD, List.getElem?_append_right e]
    · rw [if_neg (by omega), hgr j (by omega)]
      rw [List.getD_eq_getElem?_getD, List.getD_eq_getElem?_getD, List.getElem?_append_left (by omega)]
  · exact (k.mono fun i _ h => h.2).setCell (fun _ h => h.1 rfl) _
set_option maxHeartbeats 2000000 in
set_option maxRecDepth 100000 in
theorem bufWrite_fits (z : Ids) (A R p : List Nat) (b off cap : Nat) (w : World) (h : BufIs z A R w) (hp : ∀ j, j < p.length → w.cell? ⟨b, off + j, none⟩ = some (.int .u8 ((p.getD j 0 : Nat) : Int))) (hn : R.length + p.length ≤ 4096) (h0 : 0 < p.length) :
    Calls Tryz.prog 126 #[.pointer (some ⟨z.bb, 0, none⟩), .slice (some ⟨b, off, none⟩) p.length cap] w fun e w' => e = .returned (.tuple #[.int .i64 (p.length : Int), .nilIface]) ∧ BufIs z A (R ++ p) w' ∧ Kept (fun k => k ≠ z.bb ∧ k ≠ z.fb) w w' := by
  have CA : Hid (Calls Tryz.prog 124 #[.pointer (some ⟨z.bb, 0, none⟩)] w fun e w' => e = .returned (.int .i64 (4096 - (R.length : Int))) ∧ BufIs z A R w' ∧ Kept (fun _ => True) w w') := Lib.hid ((avail_any z A R w h).mono fun e w' ⟨h1, h2⟩ => ⟨h1, by rw [h2]; exact ⟨h.kept ((Kept.refl _ _).drew), (Kept.refl _ _).drew⟩⟩)
  obtain ⟨B, wb, bb, fb, lim⟩ := z
  obtain ⟨c0, c1, c2, c3, c4⟩ := buf_cells h.bw
  simp only at *
  obtain ⟨r, hr⟩ : ∃ r, R.length = r := ⟨_, rfl⟩
  obtain ⟨m, hm⟩ : ∃ m, p.length = m := ⟨_, rfl⟩
  have hp' : ∀ j, j < m → w.cell? ⟨b, off + j, none⟩ = some (.int .u8 ((p.getD j 0 : Nat) : Int)) := fun j hj => hp j (by omega)
  rw [hr] at c2 hn CA
  rw [hm] at hn h0 ⊢
  have i0 : (0 : Int) ≤ (r : Int) := by omega
  have i1 : (r : Int) ≤ 4096 := by omega
  have i2 : ¬ (4096 - (r : Int) < (m : Int)) := by omega
  have HP := Lib.hid hp'
  have HRM := Lib.hid (And.intro hr hm)
  clear h hp hp' hr hm
  go_enter Tryz.func126, Tryz.ntmps126
  go_wp2_with fail
  refine wp_loop_rounds 1 ?_
  rw [rounds_succ]
  go_wp2_with (go_at_call 124; (with_reducible refine CA.out.mono ?_); rintro e w1 ⟨rfl, hB1, hK1⟩; obtain ⟨c0, c1, c2, c3, c4⟩ := buf_cells hB1.bw; have P := Lib.hid (And.intro hB1 hK1); clear hB1 hK1)
  clear CA

  rw [HRM.out.1] at c2
  have e1 : ((r : Nat) : Int).toNat = r := by omega
  have nr : ¬ (4096 : Nat) = r := by omega
  go_still_tail 10, (by kernel_rfl)
  change wpList _ _ _ _ _ w1.drew
  obtain ⟨g, hrow, hgr⟩ := P.out.1.row
  have hrowd : w1.drew.rowIs fb 5 4096 g := hrow
  have hsrc : ∀ j, j < m → w1.drew.cell? ((⟨b, off, none⟩ : Addr).add j) = some (Value.int .u8 ((p.getD j 0 : Nat) : Int)) := fun j hj => by
    rw [Addr.add_mid]
    exact P.out.2.cellOf (HP.out j hj) trivial
  refine wpList_copy_rowIs rfl (.tmp 80) (.tmp 81) 22 22 rfl 5 Tryz.underlying22 size5 (some ⟨fb, r, none⟩) (some ⟨b, off, none⟩) (4096 - r) (4096 - r) m cap ?_ rfl fb r 4096 5 g hrowd m (fun i => Value.int .u8 ((p.getD i 0 : Nat) : Int)) (Nat.min_eq_left (by omega)).symm ?_ (by omega) (fun _ => rfl) ?_
  · first | rfl | (simp [Act.eval]; done) | (simp [Act.eval]; omega)
  · exact fun _ => ⟨rfl, _, rfl, hsrc⟩
  · intro w2 k2 r2
    have k2' : Kept (fun k => k ≠ fb) w1 w2 := ⟨k2.os, k2.tape, k2.output, k2.size, k2.block⟩
    have HPUT := buf_puts (p := p) (w2 := w2) P.out.1 (by have h1 := HRM.out.1; have h2 := HRM.out.2; omega) hrow hgr k2' (by rw [HRM.out.1, HRM.out.2]; exact r2)
    rw [HRM.out.1, HRM.out.2] at HPUT
    have hbb := P.out.1.bw
    have hbf : fb ≠ bb := type_ne (rowIs_heap hrow) hbb (by decide)
    have hb2 := (k2'.block bb (Array.getElem?_eq_some_iff.1 hbb).1 (Ne.symm hbf)).trans hbb
    clear c0 c1 c2 c3 c4
    obtain ⟨c0, c1, c2, c3, c4⟩ := buf_cells hb2
    rw [HRM.out.1] at c2
    have ew : IntKind.i64.wrap ((r : Int) + (m : Int)) = (r : Int) + (m : Int) := IntWalk.i64_in _ ⟨by omega, by omega⟩
    have HQ := Lib.hid HPUT
    clear HPUT k2 k2' r2 hrow hgr hrowd hsrc hbb hbf hb2 e1 nr
    go_wp2_with fail
    go_ret2
    exact ⟨rfl, HQ.out.1, (P.out.2.mono fun _ _ _ => trivial).trans HQ.out.2⟩
end Go.Proofs.YtghjlekdibcjdaaGreatDoor
