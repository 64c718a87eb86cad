/- The contract of writeSOS over a gray image. -/
import Derived.Test.YtghjlekdibcjdaaGreatDoorScanA
import Derived.Test.YtghjlekdibcjdaaGreatDoorSpecs
namespace Go.Proofs.YtghjlekdibcjdaaGreatDoor
open Go.Deep Go.RowKit
set_option linter.unusedVariables false
/-- The scan's header of a gray image. -/
def sosY : List Nat := [255, 218, 0, 8, 1, 1, 0, 0, 63, 0]
theorem sosY_any (w : World) : Calls Tryz.prog 53 #[] w fun e w' => e = .returned (.slice (some ⟨w.heap.size, 0, none⟩) 10 10) ∧ w'.rowIs w.heap.size 5 10 (ints .u8 fun j => ((sosY.getD j 0 : Nat) : Int)) ∧ Kept (fun _ => True) w w' := by
  go_enter Tryz.func53, Tryz.ntmps53
  go_wp2
  go_ret
  exact ⟨rfl, rowIs_agg w 5 10 (ints .u8 fun j => ((sosY.getD j 0 : Nat) : Int)), (Kept.refl _ _).alloc _⟩
theorem GS.writeBlock {z : Ids} {eb : Nat} {Q L : Nat → Nat} {f : Nat → Value} {b rb : Nat} {x0 y0 x1 y1 : Int} {w0 wr : World} {st : Bw × Int} (h : GS z eb Q L f b rb x0 y0 x1 y1 w0 st.1 wr) (q : Nat) (hq : q < 2) (G : Nat → Int) (hG : IsSamples G) (hr : wr.rowIs b 132 64 (ints .i32 G)) (ho : StOk st) (hB : z.B ≤ b) (hb : ¬ z.all eb b) (hrb : ¬ z.all eb rb) (hl : st.1.1.length + 2400 ≤ 1099511627776) :
    Calls Tryz.prog 57 #[.pointer (some ⟨eb, 0, none⟩), .pointer (some ⟨b, 0, none⟩), .int .i64 (q : Int), .int .i32 st.2] wr fun e w' => e = .returned (.int .i32 (stepG Q q G st).2) ∧ GS z eb Q L f b rb x0 y0 x1 y1 w0 (stepG Q q G st).1 w' := by
  refine (writeBlock_any z eb Q L f st.1 q b 132 G st.2 wr h.enc h.env ho.1 hq hr hG ho.2 plain132 hb hB hl).mono ?_
  rintro e w' ⟨rfl, he, hr', hk⟩
  exact ⟨rfl, h.block he ⟨_, hr'⟩ hk hrb hB⟩
theorem GS.gray {z : Ids} {eb : Nat} {Q L : Nat → Nat} {f : Nat → Value} {b rb bi bp : Nat} {x0 y0 x1 y1 : Int} {wd hg : Nat} {P : Nat → Nat} {w0 wr : World} {s : Bw} (h : GS z eb Q L f b rb x0 y0 x1 y1 w0 s wr) (hG : GrayAt bi bp x0 y0 wd hg P w0) (hs : SizeOk x0 y0 wd hg) (hbi : bi < z.B) (hbp : bp < z.B) (hB : z.B ≤ b) (bx by' : Nat) (hx : bx < wd) (hy : by' < hg) :
    Calls Tryz.prog 56 #[.pointer (some ⟨bi, 0, none⟩), .agg #[.int .i64 (x0 + bx), .int .i64 (y0 + by')], .pointer (some ⟨b, 0, none⟩)] wr fun e w' => e = .returned (.tuple #[]) ∧ w'.rowIs b 132 64 (ints .i32 (grayS wd hg P bx by')) ∧ GS z eb Q L f b rb x0 y0 x1 y1 w0 s w' := by
  obtain ⟨g0, hg0⟩ := h.row
  have hS : ∀ i, (z.all eb i ∨ i = b) → z.B ≤ i := fun i hi => by
    obtain ⟨_, h2, h3, h4⟩ := h.env.tabs.low
    rcases hi with (e | e | e) | e <;> omega
  refine (grayToY_any bi bp b 132 x0 y0 wd hg P bx by' g0 wr (gray_fr hG h.fr hS hbi hbp) hs hx hy hg0 (by omega) (by omega)).mono ?_
  rintro e w' ⟨rfl, hr, hk⟩
  exact ⟨rfl, hr, h.samples hk hr hB⟩
def zero32 : Nat → Value := fun _ => .int .i32 0
set_option maxHeartbeats 4000000 in
set_option maxRecDepth 100000 in
theorem sosGray_any (z : Ids) (eb : Nat) (Q L : Nat → Nat) (g : Nat → Value) (T : List Nat) (bi bp : Nat) (x0 y0 : Int) (wd hg : Nat) (P : Nat → Nat) (w : World) (hE : EncG z eb g T w) (h18 : g 18 = .int .u32 0) (h19 : g 19 = .int .u32 0) (hV : Env z eb Q L g w)
    (hG : GrayAt bi bp x0 y0 wd hg P w) (hs : SizeOk x0 y0 wd hg) (hbi : bi < z.B) (hbp : bp < z.B) (hT : T.length + 10 ≤ 4096) (hlow : z.wb < w.heap.size ∧ z.bb < w.heap.size ∧ eb < w.heap.size) :
    Calls Tryz.prog 43 #[.pointer (some ⟨eb, 0, none⟩), .iface 35 (.pointer (some ⟨bi, 0, none⟩))] w fun e w' => e = .returned (.tuple #[]) ∧ EncS z eb g (grayScan Q wd hg P (T ++ sosY, 0, 0)) w' ∧ Fr z.B (z.all eb) w w' := by
  have hm : ∀ w : World, (method 345 35 (.pointer (some ⟨bi, 0, none⟩)) "Bounds").run Tryz.prog w = .ok (69, .pointer (some ⟨bi, 0, none⟩)) w := fun _ => by kernel_rfl
  have hta : ∀ W, (Instr.typeAssert (.iface 35 (.pointer (some ⟨bi, 0, none⟩))) 64 35 true).run Tryz.prog W = .ok (.tuple #[.pointer (some ⟨bi, 0, none⟩), .bool true]) W := fun W => by kernel_rfl
  have CH := Lib.hid (sosY_any w)
  have CW := Lib.hid fun (W : World) (k : Kept (fun _ => True) w W) (hr : W.rowIs w.heap.size 5 10 (ints .u8 fun j => ((sosY.getD j 0 : Nat) : Int))) => write_hd z eb g T sosY w.heap.size 0 10 10 rfl W (hE.all k) (fun j hj => by rw [Nat.zero_add]; exact hr.cell hj) hT (by decide)
  obtain ⟨H, hH⟩ : ∃ H, w.heap.size = H := ⟨_, rfl⟩
  have HI := Lib.hid (And.intro hE (And.intro hV (And.intro hG (And.intro h18 (And.intro h19 hH)))))
  clear hE hV hG h18 h19 hH
  go_enter Tryz.func43, Tryz.ntmps43
  go_wp2_with (first
    | (go_at_call 53; (with_reducible refine CH.out.mono ?_); rintro e w1 ⟨rfl, r1, k1⟩; have P1 := Lib.hid (And.intro r1 k1); clear r1 k1)
    | (go_at_call 38; (with_reducible refine (CW.out _ P1.out.2 P1.out.1).mono ?_); rintro e w2 ⟨rfl, e2, k2⟩; obtain ⟨b, hb⟩ : ∃ b, w2.heap.size = b := ⟨_, rfl⟩; have P2 := Lib.hid (And.intro e2 (And.intro k2 hb)); clear e2 k2)
    | ((with_reducible refine wpList_alloc_agg (op := ⟨some 4, .alloc 132, _, _, _, _⟩) ?_ 132 (agg 64 zero32) b ?_ ?_ ?_); (· rfl); (· exact hb); (· kernel_rfl))
    | ((with_reducible refine wpList_alloc_agg (op := ⟨some 5, .alloc 133, _, _, _, _⟩) ?_ 133 (agg 256 zero32) (b + 1) ?_ ?_ ?_); (· rfl); (· simp [hb]); (· kernel_rfl))
    | ((with_reducible refine wpList_alloc_agg (op := ⟨some 6, .alloc 133, _, _, _, _⟩) ?_ 133 (agg 256 zero32) (b + 2) ?_ ?_ ?_); (· rfl); (· simp [hb]); (· kernel_rfl)))
  obtain ⟨W3, hW3⟩ : ∃ W3, (((w2.alloc (Obj.cells (agg 64 zero32) 132)).alloc (Obj.cells (agg 256 zero32) 133)).alloc (Obj.cells (agg 256 zero32) 133)) = W3 := ⟨_, rfl⟩
  have hk3 : Kept (fun _ => True) w2 W3 := by rw [← hW3]; exact (((Kept.refl _ _).alloc _).alloc _).alloc _
  have hb3 : W3.rowIs b 132 64 zero32 := by
    rw [← hW3, ← hb]
    exact ((rowIs_agg w2 132 64 zero32).alloc _).alloc _
  rw [hW3]
  clear hW3
  have hkw3 : Kept (z.hd eb) w W3 := (((P1.out.2).mono fun _ _ _ => trivial).trans P2.out.2.1).trans (hk3.mono fun _ _ _ => trivial)
  have hfr3 : Fr z.B (z.all eb) w W3 := Fr.ofHd HI.out.1 hkw3
  have hlow3 := HI.out.2.1.tabs.low
  have hS0 : ∀ i, z.all eb i → z.B ≤ i := fun i hi => by
    obtain ⟨_, h2, h3, h4⟩ := hlow3
    rcases hi with e | e | e <;> omega
  have hG3 : GrayAt bi bp x0 y0 wd hg P W3 := gray_fr HI.out.2.2.1 hfr3 hS0 hbi hbp
  have hV3 : Env z eb Q L g W3 := HI.out.2.1.all hfr3
  have hE3 : EncG z eb g (T ++ sosY) W3 := P2.out.1.all hk3
  have hwl : w.heap.size ≤ b := by rw [← hb]; exact Nat.le_trans P1.out.2.size P2.out.2.1.size
  have hbB : z.B ≤ b := by have := hlow3.2.1; have := hlow.1; omega
  have hball : ¬ z.all eb b := by
    obtain ⟨h1, h2, h3⟩ := hlow
    rintro (e | e | e) <;> omega
  have CB := Lib.hid (boundsGray bi _ _ x0 y0 (x0 + wd) (y0 + hg) W3 hG3.img)
  unfold rectV at CB
  have HJ := Lib.hid (And.intro hk3 (And.intro hb3 (And.intro hfr3 (And.intro hG3 (And.intro hV3 hE3)))))
  have HLOW := Lib.hid (And.intro hwl (And.intro hbB (And.intro hball hlow)))
  obtain ⟨s1, s2, s3, s4, s5, ⟨s6, s7⟩, ⟨s8, s9⟩⟩ := hs
  have HS := Lib.hid (And.intro (show SizeOk x0 y0 wd hg from ⟨s1, s2, s3, s4, s5, ⟨s6, s7⟩, ⟨s8, s9⟩⟩) (And.intro hbi hbp))
  clear hk3 hb3 hkw3 hfr3 hlow3 hS0 hG3 hV3 hE3 hwl hbB hball hlow CH CW hb hbi hbp s5
  go_wp2_with (go_at_call 69; (with_reducible refine CB.out.mono ?_); rintro e w4 ⟨rfl, k4⟩; obtain ⟨rb, hrb⟩ : ∃ rb, w4.heap.size = rb := ⟨_, rfl⟩; have P4 := Lib.hid (And.intro k4 hrb); clear k4)
  have hGS0 : GS z eb Q L g b rb x0 y0 (x0 + wd) (y0 + hg) W3 (T ++ sosY, 0, 0) (w4.alloc (.cells #[.int .i64 x0, .int .i64 y0, .int .i64 (x0 + wd), .int .i64 (y0 + hg)] 40)) := by
    obtain ⟨k4, hrb⟩ := P4.out
    obtain ⟨hk3, hb3, hfr3, hG3, hV3, hE3⟩ := HJ.out
    have hk := k4.alloc (.cells #[.int .i64 x0, .int .i64 y0, .int .i64 (x0 + wd), .int .i64 (y0 + hg)] 40)
    exact ⟨(hE3.all hk).toS HI.out.2.2.2.1 HI.out.2.2.2.2.1, ⟨hV3.tabs.kept hk fun _ _ _ _ => trivial, fun i hi => hk.cellOf (hV3.bits i hi) trivial, fun i hi => hk.cellOf (hV3.zig i hi) trivial⟩, ⟨_, hk.row hb3 trivial⟩, by rw [← hrb]; exact heap_alloc_new _ _, Fr.ofKept (hk.mono fun _ _ _ => trivial)⟩
  have hrbn : ¬ z.all eb rb := by
    obtain ⟨h1, h2, h3⟩ := HLOW.out.2.2.2
    have h4 := HLOW.out.1
    have h5 := HJ.out.2.1.lt
    have h6 := P4.out.1.size
    have h7 := P4.out.2
    rintro (e | e | e) <;> omega
  have hQ : ∀ j, 1 ≤ Q j := fun j => (HI.out.2.1.tabs.qpos j).1
  have hP := HI.out.2.2.1.small
  have hst0 : StOk ((T ++ sosY, 0, 0), 0) := ⟨⟨show (0 : Nat) < 8 by omega, show (0 : Nat) < 4294967296 by omega⟩, show (-1024 : Int) ≤ 0 by omega, show (0 : Int) ≤ 1016 by omega⟩
  have hlen0 : (T ++ sosY).length ≤ 4096 := by simpa [sosY] using hT
  have HQ := Lib.hid (And.intro hQ (And.intro hP (And.intro hst0 (And.intro hrbn hlen0))))
  clear CB hQ hP hst0 hrbn hlen0 hT
  obtain ⟨st0, hst⟩ : ∃ st0, st0 = (((T ++ sosY, 0, 0), 0) : Bw × Int) := ⟨_, rfl⟩
  have HST := Lib.hid hst
  have hGS1 : GS z eb Q L g b rb x0 y0 (x0 + wd) (y0 + hg) W3 st0.1 (w4.alloc (.cells #[.int .i64 x0, .int .i64 y0, .int .i64 (x0 + wd), .int .i64 (y0 + hg)] 40)) := by rw [hst]; exact hGS0
  have hst2 : st0.2 = 0 := by rw [hst]
  clear hGS0 hst
  go_loopg [7, 12] ((hg + 7) / 8) (fun k s7 s12 wr => ∃ j : Nat, j ≤ (hg + 7) / 8 ∧ k = (hg + 7) / 8 - j ∧ s7 = .int .i32 (grayRows Q wd hg P st0 j).2 ∧ s12 = .int .i64 (y0 + 8 * (j : Int)) ∧ GS z eb Q L g b rb x0 y0 (x0 + wd) (y0 + hg) W3 (grayRows Q wd hg P st0 j).1 wr)
  case atStart => exact ⟨0, by omega, rfl, by simp only [grayRows]; rw [hst2], by go_num, hGS1⟩
  case round =>
    clear hGS1 hst2 P4
    obtain ⟨j, hj, rfl, rfl, rfl, hS⟩ := hrel
    obtain ⟨r0, r1, r2, r3, r4⟩ := buf_cells hS.box
    by_cases hlt : j < (hg + 7) / 8
    · have hjy : y0 + 8 * (j : Int) < y0 + (hg : Int) := by omega
      have hjd : decide (y0 + 8 * (j : Int) < y0 + (hg : Int)) = true := by simp; omega
      obtain ⟨tj, htj⟩ : ∃ tj, grayRows Q wd hg P st0 j = tj := ⟨_, rfl⟩
      have hnext : grayRows Q wd hg P st0 (j + 1) = grayCols Q wd hg P (8 * j) tj ((wd + 7) / 8) := by rw [← htj]; rfl
      rw [htj] at hS ⊢
      have hok : StOk tj := by rw [← htj]; refine grayRows_ok HQ.out.1 HQ.out.2.1 ?_ j; rw [HST.out]; exact HQ.out.2.2.1
      have htl : tj.1.1.length ≤ 4096 + 2400 * ((wd + 7) / 8 * j) := by
        have h1 := grayRows_len Q wd hg P st0 j
        have h2 := HQ.out.2.2.2.2
        rw [htj, HST.out] at h1
        exact Nat.le_trans h1 (Nat.add_le_add_right h2 _)
      have HTJ := Lib.hid (And.intro hok (And.intro htl hnext))
      clear hok htl hnext htj
      go_wp2_with fail
      go_loopg [7, 13] ((wd + 7) / 8) (fun k s7 s13 wr => ∃ i : Nat, i ≤ (wd + 7) / 8 ∧ k = (wd + 7) / 8 - i ∧ s7 = .int .i32 (grayCols Q wd hg P (8 * j) tj i).2 ∧ s13 = .int .i64 (x0 + 8 * (i : Int)) ∧ GS z eb Q L g b rb x0 y0 (x0 + wd) (y0 + hg) W3 (grayCols Q wd hg P (8 * j) tj i).1 wr)
      case atStart => exact ⟨0, by omega, rfl, rfl, by go_num, hS⟩
      case round =>
        clear hS r0 r1 r2 r3 r4
        obtain ⟨i, hi, rfl, rfl, rfl, hS⟩ := hrel
        obtain ⟨r0, r1, r2, r3, r4⟩ := buf_cells hS.box
        by_cases hlt2 : i < (wd + 7) / 8
        · have hix : x0 + 8 * (i : Int) < x0 + (wd : Int) := by omega
          obtain ⟨ti, hti⟩ : ∃ ti, grayCols Q wd hg P (8 * j) tj i = ti := ⟨_, rfl⟩
          have hstep : grayCols Q wd hg P (8 * j) tj (i + 1) = stepG Q 0 (grayS wd hg P (8 * i) (8 * j)) ti := by rw [← hti]; rfl
          rw [hti] at hS ⊢
          have hok : StOk ti := by rw [← hti]; exact grayCols_ok HQ.out.1 HQ.out.2.1 _ HTJ.out.1 i
          have htl : ti.1.1.length + 2400 ≤ 1099511627776 := by
            have h1 := grayCols_len Q wd hg P (8 * j) tj i
            have h2 := HTJ.out.2.1
            rw [hti] at h1
            have h3 := blocks_le s1 s2 HS.out.1.n hlt hi
            generalize (wd + 7) / 8 * j = m at *
            generalize ti.1.1.length = l1 at *
            generalize tj.1.1.length = l2 at *
            omega
          have CPt := Lib.hid (pt_any (x0 + 8 * (i : Int)) (y0 + 8 * (j : Int)) wr)
          have CGr : Hid (∀ W, GS z eb Q L g b rb x0 y0 (x0 + wd) (y0 + hg) W3 ti.1 W → Calls Tryz.prog 56 #[.pointer (some ⟨bi, 0, none⟩), .agg #[.int .i64 (x0 + 8 * (i : Int)), .int .i64 (y0 + 8 * (j : Int))], .pointer (some ⟨b, 0, none⟩)] W fun e w' => e = .returned (.tuple #[]) ∧ w'.rowIs b 132 64 (ints .i32 (grayS wd hg P (8 * i) (8 * j))) ∧ GS z eb Q L g b rb x0 y0 (x0 + wd) (y0 + hg) W3 ti.1 w') := Lib.hid fun W k => by
            have h := k.gray HJ.out.2.2.2.1 HS.out.1 HS.out.2.1 HS.out.2.2 HLOW.out.2.1 (8 * i) (8 * j) (by omega) (by omega)
            rw [show (((8 * i : Nat)) : Int) = 8 * (i : Int) by omega, show (((8 * j : Nat)) : Int) = 8 * (j : Int) by omega] at h
            exact h
          have CBk : Hid (∀ W, GS z eb Q L g b rb x0 y0 (x0 + wd) (y0 + hg) W3 ti.1 W → W.rowIs b 132 64 (ints .i32 (grayS wd hg P (8 * i) (8 * j))) → Calls Tryz.prog 57 #[.pointer (some ⟨eb, 0, none⟩), .pointer (some ⟨b, 0, none⟩), .int .i64 0, .int .i32 ti.2] W fun e w' => e = .returned (.int .i32 (stepG Q 0 (grayS wd hg P (8 * i) (8 * j)) ti).2) ∧ GS z eb Q L g b rb x0 y0 (x0 + wd) (y0 + hg) W3 (stepG Q 0 (grayS wd hg P (8 * i) (8 * j)) ti).1 w') := Lib.hid fun W k hr =>
            k.writeBlock 0 (by omega) _ (grayS_ok HQ.out.2.1 _ _) hr hok HLOW.out.2.1 HLOW.out.2.2.1 HQ.out.2.2.2.1 htl
          have HSS := Lib.hid (And.intro hS (And.intro hstep hti))
          obtain ⟨dc, hdc⟩ : ∃ dc, ti.2 = dc := ⟨_, rfl⟩
          rw [hdc] at CBk ⊢
          have ewx : IntKind.i64.wrap (x0 + 8 * (i : Int) + 8) = x0 + 8 * (i : Int) + 8 := IntWalk.i64_in _ ⟨by omega, by omega⟩
          clear hS hstep hok htl hti hdc
          go_wp2_with (first
            | (go_at_call 55; (with_reducible refine CPt.out.mono ?_); rintro e w5 ⟨rfl, k5⟩; have HS6 := Lib.hid (HSS.out.1.calm (k5.alloc (.cells #[.int .i64 (x0 + 8 * (i : Int)), .int .i64 (y0 + 8 * (j : Int))] 38))); clear k5)
            | (go_at_call 56; (with_reducible refine (CGr.out _ HS6.out).mono ?_); rintro e w7 ⟨rfl, r7, hS7⟩; have HS7 := Lib.hid (And.intro hS7 r7); clear hS7 r7)
            | (go_at_call 57; (with_reducible refine (CBk.out _ HS7.out.1 HS7.out.2).mono ?_); rintro e w8 ⟨rfl, hS8⟩; have HS8 := Lib.hid hS8; clear hS8))
          go_roundg ((wd + 7) / 8 - (i + 1))
          case measure => go_light; omega
          case rel =>
            go_light
            refine ⟨i + 1, by omega, rfl, by rw [HSS.out.2.1], ?_, by rw [HSS.out.2.1]; exact HS8.out⟩
            exact congrArg (Value.int .i64) (by omega)
        · obtain rfl : i = (wd + 7) / 8 := by omega
          have hix : ¬ x0 + 8 * (((wd + 7) / 8 : Nat) : Int) < x0 + (wd : Int) := by omega
          have ewy : IntKind.i64.wrap (y0 + 8 * (j : Int) + 8) = y0 + 8 * (j : Int) + 8 := IntWalk.i64_in _ ⟨by omega, by omega⟩
          have HSS := Lib.hid hS
          clear hS
          obtain ⟨nx, hnx⟩ : ∃ nx, (wd + 7) / 8 = nx := ⟨_, rfl⟩
          rw [hnx] at hix HSS ⊢
          have HNX := Lib.hid hnx
          clear hnx hi
          go_wp2_with fail
          go_roundg ((hg + 7) / 8 - (j + 1))
          case measure => go_light; omega
          case rel =>
            go_light
            refine ⟨j + 1, by omega, rfl, by rw [HTJ.out.2.2, HNX.out], ?_, by rw [HTJ.out.2.2, HNX.out]; exact HSS.out⟩
            exact congrArg (Value.int .i64) (by omega)
    · obtain rfl : j = (hg + 7) / 8 := by omega
      have hjy : ¬ y0 + 8 * (((hg + 7) / 8 : Nat) : Int) < y0 + (hg : Int) := by omega
      have hok := grayRows_ok (wd := wd) (hg := hg) HQ.out.1 HQ.out.2.1 (st := st0) (by rw [HST.out]; exact HQ.out.2.2.1) ((hg + 7) / 8)
      have hlen : (grayRows Q wd hg P st0 ((hg + 7) / 8)).1.1.length + 6 ≤ 1099511627776 := by
        have h1 := grayRows_len Q wd hg P st0 ((hg + 7) / 8)
        have h2 := HQ.out.2.2.2.2
        have h3 := blocks_all s1 s2 HS.out.1.n (Nat.le_refl ((hg + 7) / 8))
        have h4 : st0.1.1.length ≤ 4096 := by rw [HST.out]; exact h2
        generalize (wd + 7) / 8 * ((hg + 7) / 8) = m at *
        generalize (grayRows Q wd hg P st0 ((hg + 7) / 8)).1.1.length = l1 at *
        generalize st0.1.1.length = l2 at *
        omega
      have CE : Hid (Calls Tryz.prog 62 #[.pointer (some ⟨eb, 0, none⟩), .int .u32 127, .int .u32 7] wr fun e w' => e = .returned (.tuple #[]) ∧ EncS z eb g (emitN (grayRows Q wd hg P st0 ((hg + 7) / 8)).1 127 7) w' ∧ Fr z.B (z.all eb) wr w') := Lib.hid (emit_any z eb g _ 127 7 wr hS.enc hok.1 (by omega) (by omega) hlen)
      have HSS := Lib.hid hS
      obtain ⟨ny, hny⟩ : ∃ ny, (hg + 7) / 8 = ny := ⟨_, rfl⟩
      rw [hny] at hjy CE HSS ⊢
      have HNY := Lib.hid hny
      clear hS hok hlen hny hj hlt
      go_wp2_with (go_at_call 62; (with_reducible refine CE.out.mono ?_); rintro e w9 ⟨rfl, e9, k9⟩; have P9 := Lib.hid (And.intro e9 k9); clear e9 k9)
      go_end0
      refine ⟨rfl, ?_, ?_⟩
      · unfold grayScan
        rw [HNY.out, ← HST.out]
        exact P9.out.1
      · obtain ⟨h1, h2, h3⟩ := HLOW.out.2.2.2
        have h4 := HLOW.out.1
        exact (HJ.out.2.2.1.transNew HSS.out.fr fun i hi e => e.elim id fun e => by omega).trans P9.out.2
end Go.Proofs.YtghjlekdibcjdaaGreatDoor
