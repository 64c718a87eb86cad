/- Texts of mine, united so that a claim holds fewer files: EoiA, EoiB, EoiC. -/
import Derived.Test.YtghjlekdibcjdaaGreatDoorSinkB
import Derived.Test.YtghjlekdibcjdaaGreatDoorWrB
import Derived.Test.YtghjlekdibcjdaaGreatDoorScanA
/- Flush where the writer fails, with what the buffer's block holds behind it (the proof is that of flush_bad). -/
namespace Go.Proofs.YtghjlekdibcjdaaGreatDoor
open Go.Deep Go.RowKit
set_option linter.unusedVariables false
theorem flush_end_h {B wb bb fb : Nat} {lim : Int} {T : List Nat} {w w1 w2 : World} {a b c e : Value} (hw1 : WrIs B wb fb lim true T w1) (hF : Fr B (fun k => k = wb) w w1) (hb1 : w1.heap[bb]? = some (.cells #[e, a, b, c] 166 (0, 0))) (k2 : Kept (fun k => k ≠ fb) w1 w2) (hbf : fb ≠ bb) (hwf : fb ≠ wb) (hwb : bb ≠ wb) (hr : ∃ t n g, w1.rowIs fb t n g ∧ t = 5) (x : Value) :
    WrIs B wb fb lim true T ((w2.setCell ⟨bb, 2, none⟩ x).setCell ⟨bb, 0, none⟩ (.iface 108 (.agg #[]))) ∧ ((w2.setCell ⟨bb, 2, none⟩ x).setCell ⟨bb, 0, none⟩ (.iface 108 (.agg #[]))).heap[bb]? = some (.cells #[.iface 108 (.agg #[]), a, x, c] 166 (0, 0)) ∧ (B ≤ fb → Fr B (fun k => k = wb ∨ k = bb) w ((w2.setCell ⟨bb, 2, none⟩ x).setCell ⟨bb, 0, none⟩ (.iface 108 (.agg #[])))) := by
  have hlt : bb < w1.heap.size := (Array.getElem?_eq_some_iff.1 hb1).1
  have hb2 : w2.heap[bb]? = some (.cells #[e, a, b, c] 166 (0, 0)) := (k2.block bb hlt (Ne.symm hbf)).trans hb1
  obtain ⟨v, hk, ho, hne⟩ := hw1.ex
  have hlw : wb < w1.heap.size := (Array.getElem?_eq_some_iff.1 hk).1
  refine ⟨hw1.block ?_ ?_, ?_, fun hB => ?_⟩
  · rw [blk_setCell_other _ _ _ _ (Ne.symm hwb), blk_setCell_other _ _ _ _ (Ne.symm hwb), k2.block wb hlw (Ne.symm hwf)]
  · intro g cs fz hg hgf
    have hgb : g ≠ bb := type_ne hg hb1 (by decide)
    rw [blk_setCell_other _ _ _ _ hgb, blk_setCell_other _ _ _ _ hgb, k2.block g (Array.getElem?_eq_some_iff.1 hg).1 hgf]
  · simpa using heap_set (heap_set hb2 2 x) 0 (.iface 108 (.agg #[]))
  · have hF2 : Fr B (fun k => k = wb ∨ k = bb) w w2 := by
      refine ⟨k2.os.trans hF.os, k2.tape.trans hF.tape, k2.output.trans hF.output, Nat.le_trans hF.size k2.size, fun i o h1 h2 h3 => ?_⟩
      have h4 := hF.block i o h1 (fun h => h2 (.inl h)) h3
      have hif : i ≠ fb := fun hi => by
        obtain ⟨t, n, g, hr, rfl⟩ := hr
        subst hi
        rcases h3 with h3 | h3
        · omega
        · have := rowIs_heap hr
          rw [h4] at this
          injection this with this
          exact h3 _ _ this
      rw [k2.block i (Array.getElem?_eq_some_iff.1 h4).1 hif, h4]
    exact (hF2.setCell (.inr rfl) _).setCell (.inr rfl) _
set_option maxHeartbeats 2000000 in
set_option maxRecDepth 100000 in
theorem flush_bad_h (z : Ids) (A R : List Nat) (k : Nat) (w : World) (h : BufIs z A R w) (hk : k < R.length) (hl : A.length + R.length ≤ 1099511627776) (hg : z.lim = (A.length : Int) + k) :
    Calls Tryz.prog 125 #[.pointer (some ⟨z.bb, 0, none⟩)] w fun e w' => e = .returned (.iface 108 (.agg #[])) ∧ WrIs z.B z.wb z.fb z.lim true (A ++ R.take k) w' ∧ w'.heap[z.bb]? = some (.cells #[.iface 108 (.agg #[]), .slice (some ⟨z.fb, 0, none⟩) 4096 4096, .int .i64 ((R.length : Int) - (k : Int)), .iface 65 (.pointer (some ⟨z.wb, 0, none⟩))] 166 (0, 0)) ∧ Fr z.B z.own w w' := by
  obtain ⟨hw, hb, ⟨g, hrow, hrg⟩, hlen, hlb, hlf, hlim, hmax⟩ := h
  have hbf : z.fb ≠ z.bb := type_ne (rowIs_heap hrow) hb (by decide)
  obtain ⟨v0, hk0, _⟩ := hw.ex
  have hwf : z.fb ≠ z.wb := type_ne (rowIs_heap hrow) hk0 (by decide)
  have hwb : z.bb ≠ z.wb := type_ne hb hk0 (by decide)
  have hm : ∀ w : World, (method 345 65 (.pointer (some ⟨z.wb, 0, none⟩)) "Write").run Tryz.prog w = .ok (123, .pointer (some ⟨z.wb, 0, none⟩)) w := fun _ => by kernel_rfl
  have CW : Calls Tryz.prog 123 #[.pointer (some ⟨z.wb, 0, none⟩), .slice (some ⟨z.fb, 0, none⟩) R.length 4096] w.drew fun e w' => e = .returned (.tuple #[.int .i64 (k : Int), .iface 108 (.agg #[])]) ∧ WrIs z.B z.wb z.fb z.lim true (A ++ R.take k) w' ∧ w'.heap[z.fb]? = w.heap[z.fb]? ∧ Fr z.B (fun k => k = z.wb) w w' := by
    have hW : WrIs z.B z.wb z.fb z.lim false A w.drew := ⟨hw.le, hw.ex⟩
    have hR : ∀ j, j < R.length → w.drew.cell? ⟨z.fb, j, none⟩ = some (.int .u8 ((R.getD j 0 : Nat) : Int)) := fun j hj => by rw [← hrg j hj]; exact hrow.cell (by omega)
    have hlt := hrow.lt
    have hB : z.B ≤ w.heap.size := by have := hrow.lt; omega
    have key : ∀ {e : Ending} {w' : World}, Fr z.B (fun k => k = z.wb) w.drew w' → Fr z.B (fun k => k = z.wb) w w' := fun k => ⟨k.os, k.tape, k.output, k.size, k.block⟩
    exact (wrWrite_short z.B z.wb z.fb 4096 z.lim A R w.drew hW hR hl hlen hlt hwf hB k hg hk).mono fun e w' ⟨h1, h2, h3, h4⟩ => ⟨h1, h2, h3, key (e := e) h4⟩
  obtain ⟨B, wb, bb, fb, lim⟩ := z
  simp only at *
  obtain ⟨r, hr⟩ : ∃ r, R.length = r := ⟨_, rfl⟩
  obtain ⟨c0, c1, c2, c3, c4⟩ := buf_cells hb
  rw [hr] at c2 CW hk hlen
  have HH := Lib.hid (And.intro hw (And.intro hb (And.intro hrow hrg)))
  have CW' := Lib.hid CW
  have hln : ((k : Nat) : Int) < ((r : Nat) : Int) := by omega
  have hz : (((r : Nat) : Int) == 0) = false := by simp; omega
  have i0 : (0 : Int) ≤ (r : Int) := by omega
  have i1 : (r : Int) ≤ 4096 := by omega
  have j0 : (0 : Int) ≤ (r : Int) - (k : Int) := by omega
  have j1 : (r : Int) - (k : Int) ≤ 4096 := by omega
  have j2 : ((r : Int) - (k : Int)).toNat = r - k := by omega
  have j3 : (0 : Int) ≤ (k : Int) := by omega
  have j4 : (k : Int) ≤ (r : Int) := by omega
  have ew : IntKind.i64.wrap ((r : Int) - (k : Int)) = (r : Int) - (k : Int) := IntWalk.i64_in _ ⟨by omega, by omega⟩
  have i2 : ((r : Nat) : Int).toNat = r := by omega
  have HRL := Lib.hid hr
  have HLIM := Lib.hid (And.intro hlim hg)
  have HNE := Lib.hid (And.intro hbf (And.intro hwf hwb))
  clear hw hb hrow hrg CW hlim hg hbf hwf hwb hk0 hr
  go_enter Tryz.func125, Tryz.ntmps125
  go_wp2_with fail
  go_region_held3 (fun w' => w'.cell? ⟨bb, 0, none⟩ = some .nilIface ∧ w'.cell? ⟨bb, 1, none⟩ = some (.slice (some ⟨fb, 0, none⟩) 4096 4096) ∧ w'.cell? ⟨bb, 2, none⟩ = some (.int .i64 (r : Int)) ∧ w'.cell? ⟨bb, 3, none⟩ = some (.iface 65 (.pointer (some ⟨wb, 0, none⟩))))
    (first | go_keep | (go_split_ands; refine ⟨?_, ?_, ?_, ?_⟩ <;> assumption))
    (first
      | (go_at_call 123; (with_reducible refine CW'.out.mono ?_); rintro e w1 ⟨rfl, hw1, hf1, hF1⟩; have hb1 := hF1.heap HH.out.2.1 (fun e => HNE.out.2.2 e) (.inr (by simp)); obtain ⟨d0, d1, d2, d3, d4⟩ := buf_cells hb1; rw [HRL.out] at d2; have K1 := Lib.hid (And.intro hw1 (And.intro hf1 (And.intro hF1 hb1))); clear hw1 hf1 hF1 hb1))
  clear c0 c1 c2 c3 c4
  obtain ⟨hw1, hf1, hF1, hb1⟩ := K1.out
  have hrw1 := HH.out.2.2.1.of_block hf1
  have HW1 := Lib.hid (And.intro hw1 (And.intro hF1 (And.intro hb1 hrw1)))
  clear hw1 hf1 hF1 hb1 hrw1
  by_cases hk0 : 0 < k
  · have hki : (0 : Int) < (k : Int) := by omega
    go_wp2_with fail
    have nk : ¬ 4096 = k := by omega
    go_still_tail 21, (by kernel_rfl)
    change wpList _ _ _ _ _ w1.drew
    clear d0 d1 d2 d3 d4
    have hrd : w1.drew.rowIs fb 5 4096 g := HW1.out.2.2.2
    have hsrc : ∀ j, j < r - k → w1.drew.cell? ((⟨fb, k, none⟩ : Addr).add j) = some (Value.int .u8 ((R.getD (k + j) 0 : Nat) : Int)) := fun j hj => by
      rw [Addr.add_mid, ← HH.out.2.2.2 (k + j) (by have := HRL.out; omega)]
      exact hrd.cell (by omega)
    refine wpList_copy_rowIs rfl (.tmp 71) (.tmp 81) 22 22 rfl 5 Tryz.underlying22 size5 (some ⟨fb, 0, none⟩) (some ⟨fb, k, none⟩) (r - k) 4096 (r - k) (4096 - k) ?_ ?_ fb 0 4096 5 g hrd (r - k) (fun i => Value.int .u8 ((R.getD (k + i) 0 : Nat) : Int)) (by simp) (fun _ => ⟨rfl, _, rfl, hsrc⟩) (by omega) (fun _ => rfl) ?_
    · first | rfl | (simp [Act.eval, Operand.eval]; done)
    · first | rfl | (simp [Act.eval, Operand.eval]; done) | (simp [Act.eval]; omega)
    · intro w2 k2 r2
      have k2' : Kept (fun k => k ≠ fb) w1 w2 := ⟨k2.os, k2.tape, k2.output, k2.size, k2.block⟩
      have E := flush_end_h HW1.out.1 HW1.out.2.1 HW1.out.2.2.1 k2' HNE.out.1 HNE.out.2.1 HNE.out.2.2 ⟨_, _, _, HW1.out.2.2.2, rfl⟩ (.int .i64 ((r : Int) - (k : Int)))
      have hb2 := (k2'.block bb (Array.getElem?_eq_some_iff.1 HW1.out.2.2.1).1 (Ne.symm HNE.out.1)).trans HW1.out.2.2.1
      obtain ⟨d0, d1, d2, d3, d4⟩ := buf_cells hb2
      rw [HRL.out] at d2
      have HE := Lib.hid E
      clear E k2 k2' r2 hb2 hrd hsrc
      go_wp2_with fail
      go_ret
      exact ⟨rfl, HE.out.1, by rw [HRL.out]; exact HE.out.2.1, HE.out.2.2 hlf⟩
  · have hki : ¬ (0 : Int) < (k : Int) := by omega
    go_wp2_with fail
    go_ret
    have E := flush_end_h HW1.out.1 HW1.out.2.1 HW1.out.2.2.1 (Kept.refl _ _) HNE.out.1 HNE.out.2.1 HNE.out.2.2 ⟨_, _, _, HW1.out.2.2.2, rfl⟩ (.int .i64 ((r : Int) - (k : Int)))
    exact ⟨rfl, E.1, by rw [HRL.out]; exact E.2.1, E.2.2 hlf⟩
end Go.Proofs.YtghjlekdibcjdaaGreatDoor
/- The contract of bufio.Writer's Write of two bytes that do not fit. -/
namespace Go.Proofs.YtghjlekdibcjdaaGreatDoor
open Go.Deep Go.RowKit
set_option linter.unusedVariables false
theorem buffered_any (bb : Nat) (u v c : Value) (n : Int) (w : World) (h : w.heap[bb]? = some (.cells #[u, v, .int .i64 n, c] 166 (0, 0))) :
    Calls Tryz.prog 128 #[.pointer (some ⟨bb, 0, none⟩)] w fun e w' => e = .returned (.int .i64 n) ∧ w = w' := by
  obtain ⟨c0, c1, c2, c3, c4⟩ := buf_cells h
  clear h
  go_enter Tryz.func128, Tryz.ntmps128
  go_wp2_with fail
  go_ret
  exact ⟨rfl, rfl⟩
theorem over_fr {z : Ids} {A R : List Nat} {w w1 w2 w3 w4 w5 : World} (h : BufIs z A R w) (k1 : Kept (fun _ => True) w w1) (k2 : Kept (fun k => k ≠ z.bb ∧ k ≠ z.fb) w1 w2) (k3 : Fr z.B z.own w2 w3) (k4 : Kept (fun _ => True) w3 w4) (k5 : Kept (fun k => k ≠ z.bb ∧ k ≠ z.fb) w4 w5) : Fr z.B z.own w w5 := by
  obtain ⟨g, hg, _⟩ := h.row
  have hf0 : ∀ i o, w.heap[i]? = some o → ¬ z.own i → (i < z.B ∨ ∀ c fz, o ≠ .cells c 5 fz) → i ≠ z.fb := fun i o h1 h2 h3 e => by
    subst e
    rcases h3 with h3 | h3
    · have := h.lf; omega
    · have := rowIs_heap hg
      rw [h1] at this
      injection this with this
      exact h3 _ _ this
  refine ⟨k5.os.trans (k4.os.trans (k3.os.trans (k2.os.trans k1.os))), k5.tape.trans (k4.tape.trans (k3.tape.trans (k2.tape.trans k1.tape))), k5.output.trans (k4.output.trans (k3.output.trans (k2.output.trans k1.output))), Nat.le_trans k1.size (Nat.le_trans k2.size (Nat.le_trans k3.size (Nat.le_trans k4.size k5.size))), fun i o h1 h2 h3 => ?_⟩
  have hne := hf0 i o h1 h2 h3
  have hbn : i ≠ z.bb := fun e => h2 (.inr e)
  have e1 := (k1.block i (Array.getElem?_eq_some_iff.1 h1).1 trivial).trans h1
  have e2 := (k2.block i (Array.getElem?_eq_some_iff.1 e1).1 ⟨hbn, hne⟩).trans e1
  have e3 := k3.block i o e2 h2 h3
  have e4 := (k4.block i (Array.getElem?_eq_some_iff.1 e3).1 trivial).trans e3
  exact (k5.block i (Array.getElem?_eq_some_iff.1 e4).1 ⟨hbn, hne⟩).trans e4
theorem avail_raw (bb : Nat) (u : Value) (fb : Nat) (n : Int) (c : Value) (w : World) (h : w.heap[bb]? = some (.cells #[u, .slice (some ⟨fb, 0, none⟩) 4096 4096, .int .i64 n, c] 166 (0, 0))) (hn : 0 ≤ n ∧ n ≤ 4096) :
    Calls Tryz.prog 124 #[.pointer (some ⟨bb, 0, none⟩)] w fun e w' => (∃ m, e = .returned (.int .i64 m)) ∧ Kept (fun _ => True) w w' := by
  obtain ⟨c0, c1, c2, c3, c4⟩ := buf_cells h
  obtain ⟨h1, h2⟩ := hn
  clear h
  go_enter Tryz.func124, Tryz.ntmps124
  go_wp2_with fail
  go_region
  go_wp2_with fail
  go_ret
  exact ⟨⟨_, rfl⟩, (Kept.refl _ _).drew⟩
set_option maxHeartbeats 2000000 in
set_option maxRecDepth 100000 in
theorem over_good0 (z : Ids) (A R : List Nat) (c0 c1 : Nat) (eb off cap : Nat) (f : Nat → Value) (w : World) (h : BufIs z A R w) (hr : R.length = 4096) (hE : w.rowIs eb 94 152 f) (hf0 : f off = .int .u8 (c0 : Int)) (hf1 : f (off + 1) = .int .u8 (c1 : Int)) (hoff : off + 2 ≤ 152) (hcap : 2 < cap) (hl : A.length + 4096 ≤ 1099511627776) (hg : z.lim < 0 ∨ (A.length : Int) + 4096 ≤ z.lim) :
    Calls Tryz.prog 126 #[.pointer (some ⟨z.bb, 0, none⟩), .slice (some ⟨eb, off, none⟩) 2 cap] w fun e w' => e = .returned (.tuple #[.int .i64 2, .nilIface]) ∧ BufIs z (A ++ (R ++ [])) [c0, c1] w' ∧ Fr z.B z.own w w' := by
  have CA : Hid (Calls Tryz.prog 124 #[.pointer (some ⟨z.bb, 0, none⟩)] w fun e w' => e = .returned (.int .i64 0) ∧ BufIs z A R w' ∧ Kept (fun _ => True) w w') := Lib.hid ((avail_any z A R w h).mono fun e w' ⟨h1, h2⟩ => ⟨by rw [h1, hr]; rfl, by rw [h2]; exact ⟨h.kept ((Kept.refl _ _).drew), (Kept.refl _ _).drew⟩⟩)
  have hlen : (R ++ []).length = 4096 := by simp [hr]
  have hns : ¬ z.own eb := fun e => by
    obtain ⟨v, hk, _⟩ := h.wr.ex
    exact e.elim (type_ne (rowIs_heap hE) hk (by decide)) (type_ne (rowIs_heap hE) h.bw (by decide))
  have hef : eb ≠ z.fb := by
    obtain ⟨_, hrf, _⟩ := h.row
    exact type_ne (rowIs_heap hE) (rowIs_heap hrf) (by decide)
  have hlf := h.lf
  have HH := Lib.hid (And.intro h (And.intro hE (And.intro hf0 (And.intro hf1 (And.intro hg (And.intro hns (And.intro hef hlf)))))))
  clear h hE hf0 hf1 hg hns hef hlf
  go_enter Tryz.func126, Tryz.ntmps126
  go_wp2_with fail
  refine wp_loop_rounds 2 ?_
  rw [rounds_succ]
  obtain ⟨B, wb, bb, fb, lim⟩ := z
  simp only at *
  go_wp2_with (first
    | (go_at_call 124; (with_reducible refine CA.out.mono ?_); rintro e w1 ⟨rfl, hB1, hK1⟩; obtain ⟨d0, d1, d2, d3, d4⟩ := buf_cells hB1.bw; rw [hr] at d2; have HB1 := Lib.hid (And.intro hB1 hK1); clear hB1 hK1)
    | (go_at_call 128; (with_reducible refine (buffered_any bb _ _ _ _ _ HB1.out.1.bw).mono ?_); rintro e w2 ⟨rfl, rfl⟩))
  clear CA
  go_still_tail 10, (by kernel_rfl)
  change wpList _ _ _ _ _ w1.drew
  obtain ⟨g, hrow, hgr⟩ := HB1.out.1.row
  have hE1 := HB1.out.2.row HH.out.2.1 trivial
  have hrowd : w1.drew.rowIs fb 5 4096 g := hrow
  refine wpList_copy_rowIs rfl (.tmp 43) (.tmp 44) 22 22 rfl 5 Tryz.underlying22 size5 _ (some ⟨eb, off, none⟩) 0 0 2 cap rfl rfl fb 4096 4096 5 g hrowd 0 (fun i => Value.int .u8 (([].getD i 0 : Nat) : Int)) (by decide) ?_ (by omega) (fun _ => rfl) ?_
  · exact fun h => absurd h (by omega)
  intro w2 k2 r2
  have k2' : Kept (fun k => k ≠ fb) w1 w2 := ⟨k2.os, k2.tape, k2.output, k2.size, k2.block⟩
  have HPUT := buf_puts (p := []) (w2 := w2) HB1.out.1 (by simp [hr]) hrow hgr k2' (by rw [hr]; exact r2)
  rw [hr] at HPUT
  have hE2 := HPUT.2.row hE1 ⟨fun e => HH.out.2.2.2.2.2.1 (.inr e), HH.out.2.2.2.2.2.2.1⟩
  have hbb := HB1.out.1.bw
  have hbf : fb ≠ bb := type_ne (rowIs_heap hrow) hbb (by decide)
  have hb2 := (k2'.block bb (Array.getElem?_eq_some_iff.1 hbb).1 (Ne.symm hbf)).trans hbb
  obtain ⟨d0, d1, d2, d3, d4⟩ := buf_cells hb2
  rw [hr] at d2
  have HK2 := Lib.hid (And.intro HPUT hE2)
  have CF := Lib.hid fun W (hW : W = w2.setCell ⟨bb, 2, none⟩ (.int .i64 4096)) => flush_good ⟨B, wb, bb, fb, lim⟩ A (R ++ []) W (by rw [hW]; exact HPUT.1) (by omega) (by omega) (by rw [hlen]; exact HH.out.2.2.2.2.1)
  clear HPUT k2 k2' r2 hrow hgr hrowd hE1 hE2 hbb hbf hb2
  go_wp2_with (go_at_call 125; (with_reducible refine (CF.out _ rfl).mono ?_); rintro e w3 ⟨rfl, hB3, hF3⟩; have HB3 := Lib.hid (And.intro hB3 (hF3.rowE HH.out.2.2.2.2.2.1 HK2.out.2)); have HF3 := Lib.hid hF3; clear hB3 hF3)
  clear d0 d1 d2 d3 d4
  rw [rounds_succ]
  have CA3 : Hid (Calls Tryz.prog 124 #[.pointer (some ⟨bb, 0, none⟩)] w3 fun e w' => e = .returned (.int .i64 4096) ∧ BufIs ⟨B, wb, bb, fb, lim⟩ (A ++ (R ++ [])) [] w' ∧ Kept (fun _ => True) w3 w') := Lib.hid ((avail_any _ _ [] w3 HB3.out.1).mono fun e w' ⟨h1, h2⟩ => ⟨by rw [h1]; rfl, by rw [h2]; exact ⟨HB3.out.1.kept ((Kept.refl _ _).drew), (Kept.refl _ _).drew⟩⟩)
  go_wp2_with (go_at_call 124; (with_reducible refine CA3.out.mono ?_); rintro e w4 ⟨rfl, hB4, hK4⟩; obtain ⟨d0, d1, d2, d3, d4⟩ := buf_cells hB4.bw; simp only [List.length_nil] at d2; have HB4 := Lib.hid (And.intro hB4 hK4); clear hB4 hK4)
  clear CA3
  go_still_tail 10, (by kernel_rfl)
  change wpList _ _ _ _ _ w4.drew
  obtain ⟨g4, hrow4, hgr4⟩ := HB4.out.1.row
  have hE4 := HB4.out.2.row HB3.out.2 trivial
  have hrowd4 : w4.drew.rowIs fb 5 4096 g4 := hrow4
  refine wpList_copy_rowIs rfl (.tmp 80) (.tmp 81) 22 22 rfl 5 Tryz.underlying22 size5 (some ⟨fb, 0, none⟩) (some ⟨eb, off + 0, none⟩) 4096 4096 2 (cap - 0) ?_ ?_ fb 0 4096 5 g4 hrowd4 2 (fun i => Value.int .u8 (([c0, c1].getD i 0 : Nat) : Int)) (by decide) ?_ (by omega) (fun _ => rfl) ?_
  · first | rfl | (simp [Act.eval]; done)
  · first | rfl | (simp [Act.eval]; done) | (simp [Act.eval]; omega)
  · refine fun _ => ⟨rfl, _, rfl, fun j hj => ?_⟩
    obtain rfl | rfl : j = 0 ∨ j = 1 := by omega
    · rw [Addr.add_mid]
      show w4.cell? _ = _
      rw [hE4.cell (by omega)]
      exact congrArg some HH.out.2.2.1
    · rw [Addr.add_mid]
      show w4.cell? _ = _
      rw [hE4.cell (by omega)]
      exact congrArg some HH.out.2.2.2.1
  intro w5 k5 r5
  have k5' : Kept (fun k => k ≠ fb) w4 w5 := ⟨k5.os, k5.tape, k5.output, k5.size, k5.block⟩
  have HPUT := buf_puts (p := [c0, c1]) (w2 := w5) HB4.out.1 (by simp) hrow4 hgr4 k5' r5
  have hbb := HB4.out.1.bw
  have hbf : fb ≠ bb := type_ne (rowIs_heap hrow4) hbb (by decide)
  have hb2 := (k5'.block bb (Array.getElem?_eq_some_iff.1 hbb).1 (Ne.symm hbf)).trans hbb
  clear d0 d1 d2 d3 d4
  obtain ⟨d0, d1, d2, d3, d4⟩ := buf_cells hb2
  simp only [List.length_nil] at d2
  have HP5 := Lib.hid HPUT
  clear HPUT k5 k5' r5 hrow4 hgr4 hrowd4 hE4 hbb hbf hb2
  go_wp2_with fail
  go_ret2
  refine ⟨rfl, by have := HP5.out.1; simpa using this, ?_⟩
  refine over_fr (w1 := w1) (w2 := w2.setCell ⟨bb, 2, none⟩ (.int .i64 4096)) (w3 := w3) (w4 := w4) HH.out.1 HB1.out.2 HK2.out.1.2 HF3.out HB4.out.2 ?_
  have := HP5.out.2
  simpa using this
set_option maxHeartbeats 2000000 in
set_option maxRecDepth 100000 in
theorem over_good1 (z : Ids) (A R : List Nat) (c0 c1 : Nat) (eb off cap : Nat) (f : Nat → Value) (w : World) (h : BufIs z A R w) (hr : R.length = 4095) (hE : w.rowIs eb 94 152 f) (hf0 : f off = .int .u8 (c0 : Int)) (hf1 : f (off + 1) = .int .u8 (c1 : Int)) (hoff : off + 2 ≤ 152) (hcap : 2 < cap) (hl : A.length + 4096 ≤ 1099511627776) (hg : z.lim < 0 ∨ (A.length : Int) + 4096 ≤ z.lim) :
    Calls Tryz.prog 126 #[.pointer (some ⟨z.bb, 0, none⟩), .slice (some ⟨eb, off, none⟩) 2 cap] w fun e w' => e = .returned (.tuple #[.int .i64 2, .nilIface]) ∧ BufIs z (A ++ (R ++ [c0])) [c1] w' ∧ Fr z.B z.own w w' := by
  have CA : Hid (Calls Tryz.prog 124 #[.pointer (some ⟨z.bb, 0, none⟩)] w fun e w' => e = .returned (.int .i64 1) ∧ BufIs z A R w' ∧ Kept (fun _ => True) w w') := Lib.hid ((avail_any z A R w h).mono fun e w' ⟨h1, h2⟩ => ⟨by rw [h1, hr]; rfl, by rw [h2]; exact ⟨h.kept ((Kept.refl _ _).drew), (Kept.refl _ _).drew⟩⟩)
  have hlen : (R ++ [c0]).length = 4096 := by simp [hr]
  have hns : ¬ z.own eb := fun e => by
    obtain ⟨v, hk, _⟩ := h.wr.ex
    exact e.elim (type_ne (rowIs_heap hE) hk (by decide)) (type_ne (rowIs_heap hE) h.bw (by decide))
  have hef : eb ≠ z.fb := by
    obtain ⟨_, hrf, _⟩ := h.row
    exact type_ne (rowIs_heap hE) (rowIs_heap hrf) (by decide)
  have hlf := h.lf
  have HH := Lib.hid (And.intro h (And.intro hE (And.intro hf0 (And.intro hf1 (And.intro hg (And.intro hns (And.intro hef hlf)))))))
  clear h hE hf0 hf1 hg hns hef hlf
  go_enter Tryz.func126, Tryz.ntmps126
  go_wp2_with fail
  refine wp_loop_rounds 2 ?_
  rw [rounds_succ]
  obtain ⟨B, wb, bb, fb, lim⟩ := z
  simp only at *
  go_wp2_with (first
    | (go_at_call 124; (with_reducible refine CA.out.mono ?_); rintro e w1 ⟨rfl, hB1, hK1⟩; obtain ⟨d0, d1, d2, d3, d4⟩ := buf_cells hB1.bw; rw [hr] at d2; have HB1 := Lib.hid (And.intro hB1 hK1); clear hB1 hK1)
    | (go_at_call 128; (with_reducible refine (buffered_any bb _ _ _ _ _ HB1.out.1.bw).mono ?_); rintro e w2 ⟨rfl, rfl⟩))
  clear CA
  go_still_tail 10, (by kernel_rfl)
  change wpList _ _ _ _ _ w1.drew
  obtain ⟨g, hrow, hgr⟩ := HB1.out.1.row
  have hE1 := HB1.out.2.row HH.out.2.1 trivial
  have hrowd : w1.drew.rowIs fb 5 4096 g := hrow
  refine wpList_copy_rowIs rfl (.tmp 43) (.tmp 44) 22 22 rfl 5 Tryz.underlying22 size5 _ (some ⟨eb, off, none⟩) 1 1 2 cap rfl rfl fb 4095 4096 5 g hrowd 1 (fun i => Value.int .u8 (([c0].getD i 0 : Nat) : Int)) (by decide) ?_ (by omega) (fun _ => rfl) ?_
  · refine fun _ => ⟨rfl, _, rfl, fun j hj => ?_⟩
    obtain rfl : j = 0 := by omega
    rw [Addr.add_mid, Nat.add_zero]
    show w1.cell? _ = _
    rw [hE1.cell (by omega), HH.out.2.2.1]
    rfl
  intro w2 k2 r2
  have k2' : Kept (fun k => k ≠ fb) w1 w2 := ⟨k2.os, k2.tape, k2.output, k2.size, k2.block⟩
  have HPUT := buf_puts (p := [c0]) (w2 := w2) HB1.out.1 (by simp [hr]) hrow hgr k2' (by rw [hr]; exact r2)
  rw [hr] at HPUT
  have hE2 := HPUT.2.row hE1 ⟨fun e => HH.out.2.2.2.2.2.1 (.inr e), HH.out.2.2.2.2.2.2.1⟩
  have hbb := HB1.out.1.bw
  have hbf : fb ≠ bb := type_ne (rowIs_heap hrow) hbb (by decide)
  have hb2 := (k2'.block bb (Array.getElem?_eq_some_iff.1 hbb).1 (Ne.symm hbf)).trans hbb
  obtain ⟨d0, d1, d2, d3, d4⟩ := buf_cells hb2
  rw [hr] at d2
  have HK2 := Lib.hid (And.intro HPUT hE2)
  have CF := Lib.hid fun W (hW : W = w2.setCell ⟨bb, 2, none⟩ (.int .i64 4096)) => flush_good ⟨B, wb, bb, fb, lim⟩ A (R ++ [c0]) W (by rw [hW]; exact HPUT.1) (by omega) (by omega) (by rw [hlen]; exact HH.out.2.2.2.2.1)
  clear HPUT k2 k2' r2 hrow hgr hrowd hE1 hE2 hbb hbf hb2
  go_wp2_with (go_at_call 125; (with_reducible refine (CF.out _ rfl).mono ?_); rintro e w3 ⟨rfl, hB3, hF3⟩; have HB3 := Lib.hid (And.intro hB3 (hF3.rowE HH.out.2.2.2.2.2.1 HK2.out.2)); have HF3 := Lib.hid hF3; clear hB3 hF3)
  clear d0 d1 d2 d3 d4
  rw [rounds_succ]
  have CA3 : Hid (Calls Tryz.prog 124 #[.pointer (some ⟨bb, 0, none⟩)] w3 fun e w' => e = .returned (.int .i64 4096) ∧ BufIs ⟨B, wb, bb, fb, lim⟩ (A ++ (R ++ [c0])) [] w' ∧ Kept (fun _ => True) w3 w') := Lib.hid ((avail_any _ _ [] w3 HB3.out.1).mono fun e w' ⟨h1, h2⟩ => ⟨by rw [h1]; rfl, by rw [h2]; exact ⟨HB3.out.1.kept ((Kept.refl _ _).drew), (Kept.refl _ _).drew⟩⟩)
  go_wp2_with (go_at_call 124; (with_reducible refine CA3.out.mono ?_); rintro e w4 ⟨rfl, hB4, hK4⟩; obtain ⟨d0, d1, d2, d3, d4⟩ := buf_cells hB4.bw; simp only [List.length_nil] at d2; have HB4 := Lib.hid (And.intro hB4 hK4); clear hB4 hK4)
  clear CA3
  go_still_tail 10, (by kernel_rfl)
  change wpList _ _ _ _ _ w4.drew
  obtain ⟨g4, hrow4, hgr4⟩ := HB4.out.1.row
  have hE4 := HB4.out.2.row HB3.out.2 trivial
  have hrowd4 : w4.drew.rowIs fb 5 4096 g4 := hrow4
  refine wpList_copy_rowIs rfl (.tmp 80) (.tmp 81) 22 22 rfl 5 Tryz.underlying22 size5 (some ⟨fb, 0, none⟩) (some ⟨eb, off + 1, none⟩) 4096 4096 1 (cap - 1) ?_ ?_ fb 0 4096 5 g4 hrowd4 1 (fun i => Value.int .u8 (([c1].getD i 0 : Nat) : Int)) (by decide) ?_ (by omega) (fun _ => rfl) ?_
  · first | rfl | (simp [Act.eval]; done)
  · first | rfl | (simp [Act.eval]; done) | (simp [Act.eval]; omega)
  · refine fun _ => ⟨rfl, _, rfl, fun j hj => ?_⟩
    obtain rfl : j = 0 := by omega
    rw [Addr.add_mid]
    show w4.cell? _ = _
    rw [hE4.cell (by omega)]
    exact congrArg some HH.out.2.2.2.1
  intro w5 k5 r5
  have k5' : Kept (fun k => k ≠ fb) w4 w5 := ⟨k5.os, k5.tape, k5.output, k5.size, k5.block⟩
  have HPUT := buf_puts (p := [c1]) (w2 := w5) HB4.out.1 (by simp) hrow4 hgr4 k5' r5
  have hbb := HB4.out.1.bw
  have hbf : fb ≠ bb := type_ne (rowIs_heap hrow4) hbb (by decide)
  have hb2 := (k5'.block bb (Array.getElem?_eq_some_iff.1 hbb).1 (Ne.symm hbf)).trans hbb
  clear d0 d1 d2 d3 d4
  obtain ⟨d0, d1, d2, d3, d4⟩ := buf_cells hb2
  simp only [List.length_nil] at d2
  have HP5 := Lib.hid HPUT
  clear HPUT k5 k5' r5 hrow4 hgr4 hrowd4 hE4 hbb hbf hb2
  go_wp2_with fail
  go_ret2
  refine ⟨rfl, by have := HP5.out.1; simpa using this, ?_⟩
  refine over_fr (w1 := w1) (w2 := w2.setCell ⟨bb, 2, none⟩ (.int .i64 4096)) (w3 := w3) (w4 := w4) HH.out.1 HB1.out.2 HK2.out.1.2 HF3.out HB4.out.2 ?_
  have := HP5.out.2
  simpa using this
set_option maxHeartbeats 2000000 in
set_option maxRecDepth 100000 in
theorem over_bad0 (z : Ids) (A R : List Nat) (c0 c1 : Nat) (k : Nat) (eb off cap : Nat) (f : Nat → Value) (w : World) (h : BufIs z A R w) (hr : R.length = 4096) (hE : w.rowIs eb 94 152 f) (hf0 : f off = .int .u8 (c0 : Int)) (hf1 : f (off + 1) = .int .u8 (c1 : Int)) (hoff : off + 2 ≤ 152) (hcap : 2 < cap) (hl : A.length + 4096 ≤ 1099511627776) (hk : k < 4096) (hg : z.lim = (A.length : Int) + k) :
    Calls Tryz.prog 126 #[.pointer (some ⟨z.bb, 0, none⟩), .slice (some ⟨eb, off, none⟩) 2 cap] w fun e w' => (∃ n, e = .returned (.tuple #[.int .i64 n, .iface 108 (.agg #[])])) ∧ WrIs z.B z.wb z.fb z.lim true (A ++ (R ++ []).take k) w' ∧ Fr z.B z.own w w' := by
  have CA : Hid (Calls Tryz.prog 124 #[.pointer (some ⟨z.bb, 0, none⟩)] w fun e w' => e = .returned (.int .i64 0) ∧ BufIs z A R w' ∧ Kept (fun _ => True) w w') := Lib.hid ((avail_any z A R w h).mono fun e w' ⟨h1, h2⟩ => ⟨by rw [h1, hr]; rfl, by rw [h2]; exact ⟨h.kept ((Kept.refl _ _).drew), (Kept.refl _ _).drew⟩⟩)
  have hlen : (R ++ []).length = 4096 := by simp [hr]
  have hns : ¬ z.own eb := fun e => by
    obtain ⟨v, hk, _⟩ := h.wr.ex
    exact e.elim (type_ne (rowIs_heap hE) hk (by decide)) (type_ne (rowIs_heap hE) h.bw (by decide))
  have hef : eb ≠ z.fb := by
    obtain ⟨_, hrf, _⟩ := h.row
    exact type_ne (rowIs_heap hE) (rowIs_heap hrf) (by decide)
  have hlf := h.lf
  have HH := Lib.hid (And.intro h (And.intro hE (And.intro hf0 (And.intro hf1 (And.intro hg (And.intro hns (And.intro hef hlf)))))))
  clear h hE hf0 hf1 hg hns hef hlf
  go_enter Tryz.func126, Tryz.ntmps126
  go_wp2_with fail
  refine wp_loop_rounds 2 ?_
  rw [rounds_succ]
  obtain ⟨B, wb, bb, fb, lim⟩ := z
  simp only at *
  go_wp2_with (first
    | (go_at_call 124; (with_reducible refine CA.out.mono ?_); rintro e w1 ⟨rfl, hB1, hK1⟩; obtain ⟨d0, d1, d2, d3, d4⟩ := buf_cells hB1.bw; rw [hr] at d2; have HB1 := Lib.hid (And.intro hB1 hK1); clear hB1 hK1)
    | (go_at_call 128; (with_reducible refine (buffered_any bb _ _ _ _ _ HB1.out.1.bw).mono ?_); rintro e w2 ⟨rfl, rfl⟩))
  clear CA
  go_still_tail 10, (by kernel_rfl)
  change wpList _ _ _ _ _ w1.drew
  obtain ⟨g, hrow, hgr⟩ := HB1.out.1.row
  have hE1 := HB1.out.2.row HH.out.2.1 trivial
  have hrowd : w1.drew.rowIs fb 5 4096 g := hrow
  refine wpList_copy_rowIs rfl (.tmp 43) (.tmp 44) 22 22 rfl 5 Tryz.underlying22 size5 _ (some ⟨eb, off, none⟩) 0 0 2 cap rfl rfl fb 4096 4096 5 g hrowd 0 (fun i => Value.int .u8 (([].getD i 0 : Nat) : Int)) (by decide) ?_ (by omega) (fun _ => rfl) ?_
  · exact fun h => absurd h (by omega)
  intro w2 k2 r2
  have k2' : Kept (fun k => k ≠ fb) w1 w2 := ⟨k2.os, k2.tape, k2.output, k2.size, k2.block⟩
  have HPUT := buf_puts (p := []) (w2 := w2) HB1.out.1 (by simp [hr]) hrow hgr k2' (by rw [hr]; exact r2)
  rw [hr] at HPUT
  have hE2 := HPUT.2.row hE1 ⟨fun e => HH.out.2.2.2.2.2.1 (.inr e), HH.out.2.2.2.2.2.2.1⟩
  have hbb := HB1.out.1.bw
  have hbf : fb ≠ bb := type_ne (rowIs_heap hrow) hbb (by decide)
  have hb2 := (k2'.block bb (Array.getElem?_eq_some_iff.1 hbb).1 (Ne.symm hbf)).trans hbb
  obtain ⟨d0, d1, d2, d3, d4⟩ := buf_cells hb2
  rw [hr] at d2
  have HK2 := Lib.hid (And.intro HPUT hE2)
  have CF := Lib.hid fun W (hW : W = w2.setCell ⟨bb, 2, none⟩ (.int .i64 4096)) => flush_bad_h ⟨B, wb, bb, fb, lim⟩ A (R ++ []) k W (by rw [hW]; exact HPUT.1) (by omega) (by omega) HH.out.2.2.2.2.1
  clear HPUT k2 k2' r2 hrow hgr hrowd hE1 hE2 hbb hbf hb2
  go_wp2_with (go_at_call 125; (with_reducible refine (CF.out _ rfl).mono ?_); rintro e w3 ⟨rfl, hB3, hb3, hF3⟩; have HB3 := Lib.hid (And.intro hB3 hb3); have HF3 := Lib.hid hF3; clear hB3 hb3 hF3)
  clear d0 d1 d2 d3 d4
  rw [rounds_succ]
  obtain ⟨d0, d1, d2, d3, d4⟩ := buf_cells HB3.out.2
  have CA3 := Lib.hid (avail_raw bb _ fb _ _ w3 HB3.out.2 (by omega))
  go_wp2_with (go_at_call 124; (with_reducible refine CA3.out.mono ?_); rintro e w4 ⟨⟨n, rfl⟩, hK4⟩; have d0 := hK4.cellOf d0 trivial; have HK4 := Lib.hid hK4; clear hK4)
  all_goals
    clear d1 d2 d3 d4
    go_region
    go_wp2_with fail
    go_ret2
    have hwf : WrIs B wb fb lim true (A ++ (R ++ []).take k) w4.drew := (HB3.out.1.block (HK4.out.block _ (Array.getElem?_eq_some_iff.1 HB3.out.1.ex.choose_spec.1).1 trivial) (fun g c fz hg _ => HK4.out.block g (Array.getElem?_eq_some_iff.1 hg).1 trivial)).block rfl (fun g c fz hg _ => rfl)
    refine ⟨⟨_, rfl⟩, by simpa using hwf, ?_⟩
    exact over_fr (w1 := w1) (w2 := w2.setCell ⟨bb, 2, none⟩ (.int .i64 4096)) (w3 := w3) (w4 := w4) HH.out.1 HB1.out.2 HK2.out.1.2 HF3.out HK4.out ((Kept.refl _ _).drew)
set_option maxHeartbeats 2000000 in
set_option maxRecDepth 100000 in
theorem over_bad1 (z : Ids) (A R : List Nat) (c0 c1 : Nat) (k : Nat) (eb off cap : Nat) (f : Nat → Value) (w : World) (h : BufIs z A R w) (hr : R.length = 4095) (hE : w.rowIs eb 94 152 f) (hf0 : f off = .int .u8 (c0 : Int)) (hf1 : f (off + 1) = .int .u8 (c1 : Int)) (hoff : off + 2 ≤ 152) (hcap : 2 < cap) (hl : A.length + 4096 ≤ 1099511627776) (hk : k < 4096) (hg : z.lim = (A.length : Int) + k) :
    Calls Tryz.prog 126 #[.pointer (some ⟨z.bb, 0, none⟩), .slice (some ⟨eb, off, none⟩) 2 cap] w fun e w' => (∃ n, e = .returned (.tuple #[.int .i64 n, .iface 108 (.agg #[])])) ∧ WrIs z.B z.wb z.fb z.lim true (A ++ (R ++ [c0]).take k) w' ∧ Fr z.B z.own w w' := by
  have CA : Hid (Calls Tryz.prog 124 #[.pointer (some ⟨z.bb, 0, none⟩)] w fun e w' => e = .returned (.int .i64 1) ∧ BufIs z A R w' ∧ Kept (fun _ => True) w w') := Lib.hid ((avail_any z A R w h).mono fun e w' ⟨h1, h2⟩ => ⟨by rw [h1, hr]; rfl, by rw [h2]; exact ⟨h.kept ((Kept.refl _ _).drew), (Kept.refl _ _).drew⟩⟩)
  have hlen : (R ++ [c0]).length = 4096 := by simp [hr]
  have hns : ¬ z.own eb := fun e => by
    obtain ⟨v, hk, _⟩ := h.wr.ex
    exact e.elim (type_ne (rowIs_heap hE) hk (by decide)) (type_ne (rowIs_heap hE) h.bw (by decide))
  have hef : eb ≠ z.fb := by
    obtain ⟨_, hrf, _⟩ := h.row
    exact type_ne (rowIs_heap hE) (rowIs_heap hrf) (by decide)
  have hlf := h.lf
  have HH := Lib.hid (And.intro h (And.intro hE (And.intro hf0 (And.intro hf1 (And.intro hg (And.intro hns (And.intro hef hlf)))))))
  clear h hE hf0 hf1 hg hns hef hlf
  go_enter Tryz.func126, Tryz.ntmps126
  go_wp2_with fail
  refine wp_loop_rounds 2 ?_
  rw [rounds_succ]
  obtain ⟨B, wb, bb, fb, lim⟩ := z
  simp only at *
  go_wp2_with (first
    | (go_at_call 124; (with_reducible refine CA.out.mono ?_); rintro e w1 ⟨rfl, hB1, hK1⟩; obtain ⟨d0, d1, d2, d3, d4⟩ := buf_cells hB1.bw; rw [hr] at d2; have HB1 := Lib.hid (And.intro hB1 hK1); clear hB1 hK1)
    | (go_at_call 128; (with_reducible refine (buffered_any bb _ _ _ _ _ HB1.out.1.bw).mono ?_); rintro e w2 ⟨rfl, rfl⟩))
  clear CA
  go_still_tail 10, (by kernel_rfl)
  change wpList _ _ _ _ _ w1.drew
  obtain ⟨g, hrow, hgr⟩ := HB1.out.1.row
  have hE1 := HB1.out.2.row HH.out.2.1 trivial
  have hrowd : w1.drew.rowIs fb 5 4096 g := hrow
  refine wpList_copy_rowIs rfl (.tmp 43) (.tmp 44) 22 22 rfl 5 Tryz.underlying22 size5 _ (some ⟨eb, off, none⟩) 1 1 2 cap rfl rfl fb 4095 4096 5 g hrowd 1 (fun i => Value.int .u8 (([c0].getD i 0 : Nat) : Int)) (by decide) ?_ (by omega) (fun _ => rfl) ?_
  · refine fun _ => ⟨rfl, _, rfl, fun j hj => ?_⟩
    obtain rfl : j = 0 := by omega
    rw [Addr.add_mid, Nat.add_zero]
    show w1.cell? _ = _
    rw [hE1.cell (by omega), HH.out.2.2.1]
    rfl
  intro w2 k2 r2
  have k2' : Kept (fun k => k ≠ fb) w1 w2 := ⟨k2.os, k2.tape, k2.output, k2.size, k2.block⟩
  have HPUT := buf_puts (p := [c0]) (w2 := w2) HB1.out.1 (by simp [hr]) hrow hgr k2' (by rw [hr]; exact r2)
  rw [hr] at HPUT
  have hE2 := HPUT.2.row hE1 ⟨fun e => HH.out.2.2.2.2.2.1 (.inr e), HH.out.2.2.2.2.2.2.1⟩
  have hbb := HB1.out.1.bw
  have hbf : fb ≠ bb := type_ne (rowIs_heap hrow) hbb (by decide)
  have hb2 := (k2'.block bb (Array.getElem?_eq_some_iff.1 hbb).1 (Ne.symm hbf)).trans hbb
  obtain ⟨d0, d1, d2, d3, d4⟩ := buf_cells hb2
  rw [hr] at d2
  have HK2 := Lib.hid (And.intro HPUT hE2)
  have CF := Lib.hid fun W (hW : W = w2.setCell ⟨bb, 2, none⟩ (.int .i64 4096)) => flush_bad_h ⟨B, wb, bb, fb, lim⟩ A (R ++ [c0]) k W (by rw [hW]; exact HPUT.1) (by omega) (by omega) HH.out.2.2.2.2.1
  clear HPUT k2 k2' r2 hrow hgr hrowd hE1 hE2 hbb hbf hb2
  go_wp2_with (go_at_call 125; (with_reducible refine (CF.out _ rfl).mono ?_); rintro e w3 ⟨rfl, hB3, hb3, hF3⟩; have HB3 := Lib.hid (And.intro hB3 hb3); have HF3 := Lib.hid hF3; clear hB3 hb3 hF3)
  clear d0 d1 d2 d3 d4
  rw [rounds_succ]
  obtain ⟨d0, d1, d2, d3, d4⟩ := buf_cells HB3.out.2
  have CA3 := Lib.hid (avail_raw bb _ fb _ _ w3 HB3.out.2 (by omega))
  go_wp2_with (go_at_call 124; (with_reducible refine CA3.out.mono ?_); rintro e w4 ⟨⟨n, rfl⟩, hK4⟩; have d0 := hK4.cellOf d0 trivial; have HK4 := Lib.hid hK4; clear hK4)
  all_goals
    clear d1 d2 d3 d4
    go_region
    go_wp2_with fail
    go_ret2
    have hwf : WrIs B wb fb lim true (A ++ (R ++ [c0]).take k) w4.drew := (HB3.out.1.block (HK4.out.block _ (Array.getElem?_eq_some_iff.1 HB3.out.1.ex.choose_spec.1).1 trivial) (fun g c fz hg _ => HK4.out.block g (Array.getElem?_eq_some_iff.1 hg).1 trivial)).block rfl (fun g c fz hg _ => rfl)
    refine ⟨⟨_, rfl⟩, by simpa using hwf, ?_⟩
    exact over_fr (w1 := w1) (w2 := w2.setCell ⟨bb, 2, none⟩ (.int .i64 4096)) (w3 := w3) (w4 := w4) HH.out.1 HB1.out.2 HK2.out.1.2 HF3.out HK4.out ((Kept.refl _ _).drew)
end Go.Proofs.YtghjlekdibcjdaaGreatDoor
/- The end of a stream: the encoder's write of two bytes, and its flush. -/
namespace Go.Proofs.YtghjlekdibcjdaaGreatDoor
open Go.Deep Go.RowKit
set_option linter.unusedVariables false
theorem fits_fr {z : Ids} {A R : List Nat} {w w' : World} (h : BufIs z A R w) (hk : Kept (fun k => k ≠ z.bb ∧ k ≠ z.fb) w w') : Fr z.B z.own w w' :=
  over_fr h (Kept.refl _ _) hk (Fr.refl _ _ _) (Kept.refl _ _) ((Kept.refl _ _))
set_option maxHeartbeats 2000000 in
set_option maxRecDepth 100000 in
theorem write_eoi (z : Ids) (eb : Nat) (f : Nat → Value) (T : List Nat) (c0 c1 : Nat) (w : World) (h : EncIs z eb f T w) (hf2 : f 2 = .int .u8 (c0 : Int)) (hf3 : f 3 = .int .u8 (c1 : Int)) (hl : T.length + 4096 ≤ 1099511627776) :
    Calls Tryz.prog 38 #[.pointer (some ⟨eb, 0, none⟩), .slice (some ⟨eb, 2, none⟩) 2 16] w fun e w' => e = .returned (.tuple #[]) ∧ EncIs z eb f (T ++ [c0, c1]) w' ∧ Fr z.B (z.all eb) w w' := by
  have hm : ∀ w : World, (method 345 97 (.pointer (some ⟨z.bb, 0, none⟩)) "Write").run Tryz.prog w = .ok (126, .pointer (some ⟨z.bb, 0, none⟩)) w := fun _ => by kernel_rfl
  have a0 : w.cell? ⟨eb, 0, none⟩ = some (.iface 97 (.pointer (some ⟨z.bb, 0, none⟩))) := by rw [← h.f0]; exact h.cell 0 (by omega) (by omega)
  have hle := h.le
  have hf0 := h.f0
  rcases h.st with ⟨hr, A, R, rfl, hB⟩ | ⟨hr, h1, h2, h3⟩
  · have a1 : w.cell? ⟨eb, 1, none⟩ = some .nilIface := hr.cell (by omega)
    have hlen := hB.len
    obtain ⟨v0, hk0, _⟩ := hB.wr.ex
    have hns : ¬ z.own eb := fun e => e.elim (type_ne (rowIs_heap hr) hk0 (by decide)) (type_ne (rowIs_heap hr) hB.bw (by decide))
    have hg2 : put1 .nilIface f 2 = .int .u8 (c0 : Int) := hf2
    have hg3 : put1 .nilIface f (2 + 1) = .int .u8 (c1 : Int) := hf3
    have hlA : A.length + 4096 ≤ 1099511627776 := by simp only [List.length_append] at hl; omega
    have CW : Calls Tryz.prog 126 #[.pointer (some ⟨z.bb, 0, none⟩), .slice (some ⟨eb, 2, none⟩) 2 16] w fun e w' => ∃ bad n, e = .returned (.tuple #[.int .i64 n, errV bad]) ∧ (bad = false → SnkGood z (A ++ R ++ [c0, c1]) w') ∧ (bad = true → SnkBad z (A ++ R ++ [c0, c1]) w') ∧ w'.rowIs eb 94 152 (put1 .nilIface f) ∧ Fr z.B z.own w w' := by
      by_cases hn : R.length + 2 ≤ 4096
      · refine (bufWrite_fits z A R [c0, c1] eb 2 16 w hB ?_ hn (by simp)).mono ?_
        · intro j hj
          simp only [List.length_cons, List.length_nil] at hj
          obtain rfl | rfl : j = 0 ∨ j = 1 := by omega
          · rw [hr.cell (by omega)]; exact congrArg some hg2
          · rw [hr.cell (by omega)]; exact congrArg some hg3
        · rintro e w' ⟨rfl, hB', hk⟩
          have hF := fits_fr hB hk
          exact ⟨false, _, rfl, fun _ => ⟨A, R ++ [c0, c1], by simp, hB'⟩, fun h => (by cases h), hF.rowE hns hr, hF⟩
      · have hbad : ∀ (pl rest : List Nat) (k : Nat) (w' : World), pl ++ rest = [c0, c1] → (R ++ pl).length = 4096 → k < 4096 → z.lim = (A.length : Int) + k → WrIs z.B z.wb z.fb z.lim true (A ++ (R ++ pl).take k) w' → SnkBad z (A ++ R ++ [c0, c1]) w' := by
          intro pl rest k w' e1 e2 hk hlim hW
          have e3 : z.lim.toNat = A.length + k := by omega
          have e4 : (A ++ R ++ [c0, c1]).take z.lim.toNat = A ++ (R ++ pl).take k := by
            rw [e3, ← e1, List.append_assoc, ← List.append_assoc R pl rest, List.take_length_add_append, List.take_append_of_le_length (by omega)]
          refine ⟨by omega, ?_, by rw [e4]; exact hW⟩
          have e5 : (R ++ pl).length ≤ (R ++ [c0, c1]).length := by rw [← e1]; simp
          simp only [List.length_append] at e2 e5 ⊢
          omega
        have hlm := hB.lim
        by_cases h96 : R.length = 4096
        · by_cases hg : z.lim < 0 ∨ (A.length : Int) + 4096 ≤ z.lim
          · refine (over_good0 z A R c0 c1 eb 2 16 _ w hB h96 hr hg2 hg3 (by omega) (by omega) hlA hg).mono ?_
            rintro e w' ⟨rfl, hB', hF⟩
            exact ⟨false, _, rfl, fun _ => ⟨_, _, by simp, hB'⟩, fun h => (by cases h), hF.rowE hns hr, hF⟩
          · obtain ⟨k, hk⟩ : ∃ k : Nat, z.lim = (A.length : Int) + k := ⟨(z.lim - A.length).toNat, by omega⟩
            refine (over_bad0 z A R c0 c1 k eb 2 16 _ w hB h96 hr hg2 hg3 (by omega) (by omega) hlA (by omega) hk).mono ?_
            rintro e w' ⟨⟨n, rfl⟩, hW, hF⟩
            exact ⟨true, n, rfl, fun h => (by cases h), fun _ => hbad [] [c0, c1] k w' rfl (by simpa using h96) (by omega) hk hW, hF.rowE hns hr, hF⟩
        · have h95 : R.length = 4095 := by omega
          by_cases hg : z.lim < 0 ∨ (A.length : Int) + 4096 ≤ z.lim
          · refine (over_good1 z A R c0 c1 eb 2 16 _ w hB h95 hr hg2 hg3 (by omega) (by omega) hlA hg).mono ?_
            rintro e w' ⟨rfl, hB', hF⟩
            exact ⟨false, _, rfl, fun _ => ⟨_, _, by simp, hB'⟩, fun h => (by cases h), hF.rowE hns hr, hF⟩
          · obtain ⟨k, hk⟩ : ∃ k : Nat, z.lim = (A.length : Int) + k := ⟨(z.lim - A.length).toNat, by omega⟩
            refine (over_bad1 z A R c0 c1 k eb 2 16 _ w hB h95 hr hg2 hg3 (by omega) (by omega) hlA (by omega) hk).mono ?_
            rintro e w' ⟨⟨n, rfl⟩, hW, hF⟩
            exact ⟨true, n, rfl, fun h => (by cases h), fun _ => hbad [c0] [c1] k w' rfl (by simp [h95]) (by omega) hk hW, hF.rowE hns hr, hF⟩
    have HC := Lib.hid CW
    clear CW h hr hB hl hg2 hg3 hlA hlen
    go_enter Tryz.func38, Tryz.ntmps38
    go_wp2_with (go_at_call 126; (with_reducible refine HC.out.mono ?_); rintro e w1 ⟨bad, n, rfl, hgood, hbad, hr1, hF⟩; have d0 := hr1.frozen 1; have d1 : w1.cell? ⟨eb, 1, none⟩ = some .nilIface := hr1.cell (by omega); have P := Lib.hid (And.intro hgood (And.intro hbad (And.intro hr1 hF))); clear hgood hbad hr1 hF; (cases bad <;> simp only [errV]))
    all_goals try go_wp2_with fail
    all_goals try go_end0
    · obtain ⟨h1, h2, h3, h4⟩ := P.out
      rw [List.append_assoc] at h1
      exact ⟨rfl, ⟨hle, hf0, .inl ⟨enc_err h3 _, (h1 trivial).setEnc h3 _ _⟩⟩, (h4.mono fun i hi => hi.elim .inl fun h => .inr (.inl h)).setCell (.inr (.inr rfl)) _⟩
    · obtain ⟨h1, h2, h3, h4⟩ := P.out
      rw [List.append_assoc] at h2
      exact ⟨rfl, ⟨hle, hf0, .inr ⟨enc_err h3 _, (h2 trivial).setEnc h3 _ _⟩⟩, (h4.mono fun i hi => hi.elim .inl fun h => .inr (.inl h)).setCell (.inr (.inr rfl)) _⟩
  · have a1 : w.cell? ⟨eb, 1, none⟩ = some (.iface 108 (.agg #[])) := hr.cell (by omega)
    have HH := Lib.hid (And.intro hr (And.intro h1 (And.intro h2 h3)))
    clear h hr h1 h2 h3
    go_enter Tryz.func38, Tryz.ntmps38
    go_wp2_with fail
    refine bodyPost_ret (results_none rfl _ _ _) rfl ?_
    obtain ⟨hr, h1, h2, h3⟩ := HH.out
    refine ⟨rfl, ⟨hle, hf0, .inr ⟨hr, h1, by simp; omega, ?_⟩⟩, Fr.refl _ _ _⟩
    rw [List.take_append_of_le_length (by omega)]
    exact h3
/-- Flush of a buffer where nothing waits. -/
theorem flush_zero (z : Ids) (A : List Nat) (w : World) (h : BufIs z A [] w) :
    Calls Tryz.prog 125 #[.pointer (some ⟨z.bb, 0, none⟩)] w fun e w' => e = .returned .nilIface ∧ w = w' := by
  obtain ⟨B, wb, bb, fb, lim⟩ := z
  obtain ⟨c0, c1, c2, c3, c4⟩ := buf_cells h.bw
  simp only [List.length_nil] at c2
  clear h
  go_enter Tryz.func125, Tryz.ntmps125
  go_wp2_with fail
  go_ret
  exact ⟨rfl, rfl⟩
/-- What is left when a stream has ended. -/
structure FinIs (z : Ids) (eb : Nat) (T : List Nat) (w : World) : Prop where
  good : (z.lim < 0 ∨ (T.length : Int) ≤ z.lim) → w.cell? ⟨eb, 1, none⟩ = some .nilIface ∧ WrIs z.B z.wb z.fb z.lim false T w
  bad : 0 ≤ z.lim → z.lim < (T.length : Int) → w.cell? ⟨eb, 1, none⟩ = some (.iface 108 (.agg #[])) ∧ WrIs z.B z.wb z.fb z.lim true (T.take z.lim.toNat) w
theorem WrIs.setEnc {B wb fb : Nat} {lim : Int} {b : Bool} {A : List Nat} {eb : Nat} {f : Nat → Value} {w : World} (h : WrIs B wb fb lim b A w) (hr : w.rowIs eb 94 152 f) (j : Nat) (v : Value) : WrIs B wb fb lim b A (w.setCell ⟨eb, j, none⟩ v) := by
  obtain ⟨v', hk, _⟩ := h.ex
  exact h.block (blk_setCell_other _ _ _ _ (type_ne hk (rowIs_heap hr) (by decide))) (fun g c fz hg _ => blk_setCell_other _ _ _ _ (type_ne hg (rowIs_heap hr) (by decide)))
set_option maxHeartbeats 2000000 in
set_option maxRecDepth 100000 in
theorem flush_enc (z : Ids) (eb : Nat) (f : Nat → Value) (T : List Nat) (w : World) (h : EncIs z eb f T w) (hl : T.length ≤ 1099511627776) :
    Calls Tryz.prog 44 #[.pointer (some ⟨eb, 0, none⟩)] w fun e w' => e = .returned (.tuple #[]) ∧ FinIs z eb T w' ∧ Fr z.B (z.all eb) w w' := by
  have hm : ∀ w : World, (method 345 97 (.pointer (some ⟨z.bb, 0, none⟩)) "Flush").run Tryz.prog w = .ok (125, .pointer (some ⟨z.bb, 0, none⟩)) w := fun _ => by kernel_rfl
  have a0 : w.cell? ⟨eb, 0, none⟩ = some (.iface 97 (.pointer (some ⟨z.bb, 0, none⟩))) := by rw [← h.f0]; exact h.cell 0 (by omega) (by omega)
  rcases h.st with ⟨hr, A, R, rfl, hB⟩ | ⟨hr, h1, h2, h3⟩
  · have a1 : w.cell? ⟨eb, 1, none⟩ = some .nilIface := hr.cell (by omega)
    obtain ⟨v0, hk0, _⟩ := hB.wr.ex
    have hns : ¬ z.own eb := fun e => e.elim (type_ne (rowIs_heap hr) hk0 (by decide)) (type_ne (rowIs_heap hr) hB.bw (by decide))
    have hlm := hB.lim
    have hlA : A.length + R.length ≤ 1099511627776 := by simpa using hl
    have CW : Calls Tryz.prog 125 #[.pointer (some ⟨z.bb, 0, none⟩)] w fun e w' => ∃ bad, e = .returned (errV bad) ∧ (bad = false → (z.lim < 0 ∨ ((A ++ R).length : Int) ≤ z.lim) ∧ WrIs z.B z.wb z.fb z.lim false (A ++ R) w') ∧ (bad = true → 0 ≤ z.lim ∧ z.lim < ((A ++ R).length : Int) ∧ WrIs z.B z.wb z.fb z.lim true ((A ++ R).take z.lim.toNat) w') ∧ w'.rowIs eb 94 152 (put1 .nilIface f) ∧ Fr z.B z.own w w' := by
      by_cases h0 : R.length = 0
      · have hR : R = [] := List.length_eq_zero_iff.1 h0
        subst hR
        refine (flush_zero z A w hB).mono ?_
        rintro e w' ⟨rfl, rfl⟩
        exact ⟨false, rfl, fun _ => ⟨by simpa using hlm, by simpa using hB.wr⟩, fun h => (by cases h), hr, Fr.refl _ _ _⟩
      · by_cases hg : z.lim < 0 ∨ (A.length : Int) + R.length ≤ z.lim
        · refine (flush_good z A R w hB (by omega) hlA hg).mono ?_
          rintro e w' ⟨rfl, hB', hF⟩
          exact ⟨false, rfl, fun _ => ⟨by simpa using hg, hB'.wr⟩, fun h => (by cases h), hF.rowE hns hr, hF⟩
        · obtain ⟨k, hk⟩ : ∃ k : Nat, z.lim = (A.length : Int) + k := ⟨(z.lim - A.length).toNat, by omega⟩
          refine (flush_bad z A R k w hB (by omega) hlA hk).mono ?_
          rintro e w' ⟨rfl, hW, _, hF⟩
          refine ⟨true, rfl, fun h => (by cases h), fun _ => ⟨by omega, by simp; omega, ?_⟩, hF.rowE hns hr, hF⟩
          have e3 : z.lim.toNat = A.length + k := by omega
          rw [e3, List.take_length_add_append]
          exact hW
    have HC := Lib.hid CW
    clear CW h hr hB hl hlA hlm
    go_enter Tryz.func44, Tryz.ntmps44
    go_wp2_with (go_at_call 125; (with_reducible refine HC.out.mono ?_); rintro e w1 ⟨bad, rfl, hgood, hbad, hr1, hF⟩; have d0 := hr1.frozen 1; have d1 : w1.cell? ⟨eb, 1, none⟩ = some .nilIface := hr1.cell (by omega); have P := Lib.hid (And.intro hgood (And.intro hbad (And.intro hr1 hF))); clear hgood hbad hr1 hF; (cases bad <;> simp only [errV]))
    all_goals try go_wp2_with fail
    all_goals try go_end0
    · obtain ⟨h1, h2, h3, h4⟩ := P.out
      obtain ⟨h5, h6⟩ := h1 trivial
      refine ⟨rfl, ⟨fun _ => ⟨(enc_err h3 _).cell (by omega), h6.setEnc h3 _ _⟩, fun g1 g2 => ?_⟩, (h4.mono fun i hi => hi.elim .inl fun h => .inr (.inl h)).setCell (.inr (.inr rfl)) _⟩
      omega
    · obtain ⟨h1, h2, h3, h4⟩ := P.out
      obtain ⟨h5, h6, h7⟩ := h2 trivial
      refine ⟨rfl, ⟨fun g => ?_, fun _ _ => ⟨(enc_err h3 _).cell (by omega), h7.setEnc h3 _ _⟩⟩, (h4.mono fun i hi => hi.elim .inl fun h => .inr (.inl h)).setCell (.inr (.inr rfl)) _⟩
      omega
  · have a1 : w.cell? ⟨eb, 1, none⟩ = some (.iface 108 (.agg #[])) := hr.cell (by omega)
    have HH := Lib.hid (And.intro hr (And.intro h1 (And.intro h2 h3)))
    clear h hr h1 h2 h3
    go_enter Tryz.func44, Tryz.ntmps44
    go_wp2_with fail
    refine bodyPost_ret (results_none rfl _ _ _) rfl ?_
    obtain ⟨hr, h1, h2, h3⟩ := HH.out
    exact ⟨rfl, ⟨fun g => by omega, fun _ _ => ⟨hr.cell (by omega), h3⟩⟩, Fr.refl _ _ _⟩
end Go.Proofs.YtghjlekdibcjdaaGreatDoor
