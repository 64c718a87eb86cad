/- The contract of writeSOS over an image of type Ycc (printed by sos.py). -/
import Derived.Test.YtghjlekdibcjdaaGreatDoorCO
import Derived.StillTailTactics
namespace Go.Proofs.YtghjlekdibcjdaaGreatDoor
open Go.Deep Go.RowKit
set_option linter.unusedVariables false
set_option maxHeartbeats 8000000 in
set_option maxRecDepth 100000 in
theorem sosYcc_any (z : Ids) (eb : Nat) (Q L : Nat → Nat) (g : Nat → Value) (T : List Nat) (bi : Nat) (x0 y0 : Int) (wd hg : Nat) (P : Nat → Nat → Nat) (I : World → Prop) (w : World) (hE : EncG z eb g T w) (h18 : g 18 = .int .u32 0) (h19 : g 19 = .int .u32 0) (hV : Env z eb Q L g w)
    (h0 : I w) (hL : LowC I z.B) (hC : BlockC 59 (.pointer (some ⟨bi, 0, none⟩)) x0 y0 wd hg P I z.B) (hN : BoundsC 76 (.pointer (some ⟨bi, 0, none⟩)) x0 y0 wd hg I) (hP : ∀ c k, P c k ≤ 255) (hs : SizeOk x0 y0 wd hg) (hT : T.length + 14 ≤ 4096) (hlow : z.wb < w.heap.size ∧ z.bb < w.heap.size ∧ eb < w.heap.size) :
    Calls Tryz.prog 43 #[.pointer (some ⟨eb, 0, none⟩), .iface 54 (.pointer (some ⟨bi, 0, none⟩))] w fun e w' => e = .returned (.tuple #[]) ∧ EncS z eb g (colScan Q wd hg P (T ++ sosC, 0, 0)) w' ∧ Fr z.B (z.all eb) w w' := by
  have hm : ∀ w : World, (method 345 54 (.pointer (some ⟨bi, 0, none⟩)) "Bounds").run Tryz.prog w = .ok (76, .pointer (some ⟨bi, 0, none⟩)) w := fun _ => by kernel_rfl
  have hta35 : ∀ W, (Instr.typeAssert (.iface 54 (.pointer (some ⟨bi, 0, none⟩))) 64 35 true).run Tryz.prog W = .ok (.tuple #[.pointer none, .bool false]) W := fun W => by kernel_rfl
  have hta46 : ∀ W, (Instr.typeAssert (.iface 54 (.pointer (some ⟨bi, 0, none⟩))) 64 46 true).run Tryz.prog W = .ok (.tuple #[.pointer none, .bool false]) W := fun W => by kernel_rfl
  have hta54 : ∀ W, (Instr.typeAssert (.iface 54 (.pointer (some ⟨bi, 0, none⟩))) 64 54 true).run Tryz.prog W = .ok (.tuple #[.pointer (some ⟨bi, 0, none⟩), .bool true]) W := fun W => by kernel_rfl
  have CH := Lib.hid (sosC_any w)
  have CW := Lib.hid fun (W : World) (k : Kept (fun _ => True) w W) (hr : W.rowIs w.heap.size 5 14 (ints .u8 fun j => ((sosC.getD j 0 : Nat) : Int))) => write_hd z eb g T sosC w.heap.size 0 14 14 rfl W (hE.all k) (fun j hj => by rw [Nat.zero_add]; exact hr.cell hj) hT (by decide)
  have HI := Lib.hid (And.intro hE (And.intro hV (And.intro h0 (And.intro h18 h19))))
  have HC := Lib.hid (And.intro hL (And.intro hC (And.intro hN hP)))
  clear hE hV h0 h18 h19 hL hC hN hP
  go_enter Tryz.func43, Tryz.ntmps43
  go_wp2_with (first
    | (go_at_call 54; (with_reducible refine CH.out.mono ?_); rintro e w1 ⟨rfl, r1, k1⟩; have P1 := Lib.hid (And.intro r1 k1); clear r1 k1)
    | (go_at_call 38; (with_reducible refine (CW.out _ P1.out.2 P1.out.1).mono ?_); rintro e w2 ⟨rfl, e2, k2⟩; obtain ⟨b, hb⟩ : ∃ b, w2.heap.size = b := ⟨_, rfl⟩; have P2 := Lib.hid (And.intro e2 (And.intro k2 hb)); clear e2 k2)
    | ((with_reducible refine wpList_alloc_agg (op := ⟨some 4, .alloc 132, _, _, _, _⟩) ?_ 132 (agg 64 zero32) b ?_ ?_ ?_); (· rfl); (· exact hb); (· kernel_rfl))
    | ((with_reducible refine wpList_alloc_agg (op := ⟨some 5, .alloc 133, _, _, _, _⟩) ?_ 133 (agg 256 zero32) (b + 1) ?_ ?_ ?_); (· rfl); (· simp [hb]); (· kernel_rfl))
    | ((with_reducible refine wpList_alloc_agg (op := ⟨some 6, .alloc 133, _, _, _, _⟩) ?_ 133 (agg 256 zero32) (b + 2) ?_ ?_ ?_); (· rfl); (· simp [hb]); (· kernel_rfl)))
  obtain ⟨W3, hW3⟩ : ∃ W3, (((w2.alloc (Obj.cells (agg 64 zero32) 132)).alloc (Obj.cells (agg 256 zero32) 133)).alloc (Obj.cells (agg 256 zero32) 133)) = W3 := ⟨_, rfl⟩
  have hk3 : Kept (fun _ => True) w2 W3 := by rw [← hW3]; exact (((Kept.refl _ _).alloc _).alloc _).alloc _
  have hb3 : W3.rowIs b 132 64 zero32 ∧ W3.rowIs (b + 1) 133 256 zero32 ∧ W3.rowIs (b + 2) 133 256 zero32 := by
    rw [← hW3]
    have h1 := rowIs_agg w2 132 64 zero32
    have h2 := rowIs_agg (w2.alloc (Obj.cells (agg 64 zero32) 132)) 133 256 zero32
    have h3 := rowIs_agg ((w2.alloc (Obj.cells (agg 64 zero32) 132)).alloc (Obj.cells (agg 256 zero32) 133)) 133 256 zero32
    simp only [World.size_alloc] at h2 h3
    rw [hb] at h1 h2 h3
    exact ⟨(h1.alloc _).alloc _, h2.alloc _, h3⟩
  rw [hW3]
  clear hW3
  have hkw3 : Kept (z.hd eb) w W3 := (((P1.out.2).mono fun _ _ _ => trivial).trans P2.out.2.1).trans (hk3.mono fun _ _ _ => trivial)
  have hfr3 : Fr z.B (z.all eb) w W3 := Fr.ofHd HI.out.1 hkw3
  have hlow3 := HI.out.2.1.tabs.low
  have hS0 : ∀ i, z.all eb i → z.B ≤ i := fun i hi => by
    obtain ⟨_, h2, h3, h4⟩ := hlow3
    rcases hi with e | e | e <;> omega
  have hI3 : I W3 := HC.out.1 _ _ HI.out.2.2.1 (hfr3.kept hS0)
  have hV3 : Env z eb Q L g W3 := HI.out.2.1.all hfr3
  have hE3 : EncG z eb g (T ++ sosC) W3 := P2.out.1.all hk3
  have hwl : w.heap.size ≤ b := by rw [← hb]; exact Nat.le_trans P1.out.2.size P2.out.2.1.size
  have hbB : z.B ≤ b := by have := hlow3.2.1; have := hlow.1; omega
  have hball : ¬ z.all eb b ∧ ¬ z.all eb (b + 1) ∧ ¬ z.all eb (b + 2) := by
    obtain ⟨h1, h2, h3⟩ := hlow
    refine ⟨?_, ?_, ?_⟩ <;> (rintro (e | e | e) <;> omega)
  have CB := Lib.hid (HC.out.2.2.1 W3 hI3)
  unfold rectV at CB
  have HJ := Lib.hid (And.intro hk3 (And.intro hb3 (And.intro hfr3 (And.intro hI3 (And.intro hV3 hE3)))))
  have HLOW := Lib.hid (And.intro hwl (And.intro hbB (And.intro hball hlow)))
  obtain ⟨s1, s2, s3, s4, s5, ⟨s6, s7⟩, ⟨s8, s9⟩⟩ := hs
  have HS := Lib.hid (show SizeOk x0 y0 wd hg from ⟨s1, s2, s3, s4, s5, ⟨s6, s7⟩, ⟨s8, s9⟩⟩)
  clear hk3 hb3 hkw3 hfr3 hlow3 hS0 hI3 hV3 hE3 hwl hbB hball hlow CH CW hb s5
  go_wp2_with (go_at_call 76; (with_reducible refine CB.out.mono ?_); rintro e w4 ⟨rfl, k4⟩; obtain ⟨rb, hrb⟩ : ∃ rb, w4.heap.size = rb := ⟨_, rfl⟩; have P4 := Lib.hid (And.intro k4 hrb); clear k4)
  have hGS0 : GC z eb Q L g b (b + 1) (b + 2) rb x0 y0 (x0 + wd) (y0 + hg) W3 (T ++ sosC, 0, 0) (w4.alloc (.cells #[.int .i64 x0, .int .i64 y0, .int .i64 (x0 + wd), .int .i64 (y0 + hg)] 40)) := by
    obtain ⟨k4, hrb⟩ := P4.out
    obtain ⟨hk3, hb3, hfr3, hI3, hV3, hE3⟩ := HJ.out
    have hk := k4.alloc (.cells #[.int .i64 x0, .int .i64 y0, .int .i64 (x0 + wd), .int .i64 (y0 + hg)] 40)
    exact ⟨(hE3.all hk).toS HI.out.2.2.2.1 HI.out.2.2.2.2, ⟨hV3.tabs.kept hk fun _ _ _ _ => trivial, fun i hi => hk.cellOf (hV3.bits i hi) trivial, fun i hi => hk.cellOf (hV3.zig i hi) trivial⟩, ⟨fun _ => 0, hk.row hb3.1 trivial⟩, ⟨_, hk.row hb3.2.1 trivial⟩, ⟨_, hk.row hb3.2.2 trivial⟩, by rw [← hrb]; exact heap_alloc_new _ _, Fr.ofKept (hk.mono fun _ _ _ => trivial)⟩
  have hrbn : ¬ z.all eb rb := by
    obtain ⟨h1, h2, h3⟩ := HLOW.out.2.2.2
    have h4 := HLOW.out.1
    have h5 := HJ.out.2.1.1.lt
    have h6 := P4.out.1.size
    have h7 := P4.out.2
    rintro (e | e | e) <;> omega
  have hQ : ∀ j, 1 ≤ Q j := fun j => (HI.out.2.1.tabs.qpos j).1
  have hst0 : St3Ok ((T ++ sosC, 0, 0), 0, 0, 0) := ⟨⟨show (0 : Nat) < 8 by omega, show (0 : Nat) < 4294967296 by omega⟩, ⟨show (-1024 : Int) ≤ 0 by omega, show (0 : Int) ≤ 1016 by omega⟩, ⟨show (-1024 : Int) ≤ 0 by omega, show (0 : Int) ≤ 1016 by omega⟩, ⟨show (-1024 : Int) ≤ 0 by omega, show (0 : Int) ≤ 1016 by omega⟩⟩
  have hlen0 : (T ++ sosC).length ≤ 4096 := by simpa [sosC] using hT
  have HQ := Lib.hid (And.intro hQ (And.intro HC.out.2.2.2 (And.intro hst0 (And.intro hrbn hlen0))))
  clear CB hQ hst0 hrbn hlen0 hT
  obtain ⟨t0, hst⟩ : ∃ t0, t0 = (((T ++ sosC, 0, 0), 0, 0, 0) : St3) := ⟨_, rfl⟩
  have HST := Lib.hid hst
  have hGS1 : GC z eb Q L g b (b + 1) (b + 2) rb x0 y0 (x0 + wd) (y0 + hg) W3 t0.1 (w4.alloc (.cells #[.int .i64 x0, .int .i64 y0, .int .i64 (x0 + wd), .int .i64 (y0 + hg)] 40)) := by rw [hst]; exact hGS0
  have hst2 : t0.2.1 = 0 ∧ t0.2.2.1 = 0 ∧ t0.2.2.2 = 0 := by rw [hst]; exact ⟨rfl, rfl, rfl⟩
  clear hGS0 hst
  go_loopg [7, 8, 9, 20] ((hg + 15) / 16) (fun k s7 s8 s9 s20 wr => ∃ j : Nat, j ≤ (hg + 15) / 16 ∧ k = (hg + 15) / 16 - j ∧ s7 = .int .i32 (colRows Q wd hg P t0 j).2.1 ∧ s8 = .int .i32 (colRows Q wd hg P t0 j).2.2.1 ∧ s9 = .int .i32 (colRows Q wd hg P t0 j).2.2.2 ∧ s20 = .int .i64 (y0 + 16 * (j : Int)) ∧ GC z eb Q L g b (b + 1) (b + 2) rb x0 y0 (x0 + wd) (y0 + hg) W3 (colRows Q wd hg P t0 j).1 wr)
  case atStart => exact ⟨0, by omega, rfl, by simp only [colRows]; rw [hst2.1], by simp only [colRows]; rw [hst2.2.1], by simp only [colRows]; rw [hst2.2.2], by go_num, hGS1⟩
  case round =>
    clear hGS1 hst2 P4
    obtain ⟨j, hj, rfl, rfl, rfl, rfl, rfl, hS⟩ := hrel
    obtain ⟨r0, r1, r2, r3, r4⟩ := buf_cells hS.box
    by_cases hlt : j < (hg + 15) / 16
    · have hjy : y0 + 16 * (j : Int) < y0 + (hg : Int) := by omega
      have hjd : decide (y0 + 16 * (j : Int) < y0 + (hg : Int)) = true := by simp; omega
      obtain ⟨tj, htj⟩ : ∃ tj, colRows Q wd hg P t0 j = tj := ⟨_, rfl⟩
      have hnext : colRows Q wd hg P t0 (j + 1) = colCols Q wd hg P (16 * j) tj ((wd + 15) / 16) := by rw [← htj]; rfl
      rw [htj] at hS ⊢
      have hok : St3Ok tj := by rw [← htj]; refine colRows_ok HQ.out.1 HQ.out.2.1 ?_ j; rw [HST.out]; exact HQ.out.2.2.1
      have htl : tj.1.1.length ≤ 4096 + 14400 * ((wd + 15) / 16 * j) := by
        have h1 := colRows_len Q wd hg P t0 j
        have h2 := HQ.out.2.2.2.2
        rw [htj, HST.out] at h1
        exact Nat.le_trans h1 (Nat.add_le_add_right h2 _)
      have HTJ := Lib.hid (And.intro hok (And.intro htl hnext))
      clear hok htl hnext htj
      go_wp2_with fail
      go_loopg [7, 8, 9, 21] ((wd + 15) / 16) (fun k s7 s8 s9 s21 wr => ∃ i : Nat, i ≤ (wd + 15) / 16 ∧ k = (wd + 15) / 16 - i ∧ s7 = .int .i32 (colCols Q wd hg P (16 * j) tj i).2.1 ∧ s8 = .int .i32 (colCols Q wd hg P (16 * j) tj i).2.2.1 ∧ s9 = .int .i32 (colCols Q wd hg P (16 * j) tj i).2.2.2 ∧ s21 = .int .i64 (x0 + 16 * (i : Int)) ∧ GC z eb Q L g b (b + 1) (b + 2) rb x0 y0 (x0 + wd) (y0 + hg) W3 (colCols Q wd hg P (16 * j) tj i).1 wr)
      case atStart => exact ⟨0, by omega, rfl, rfl, rfl, rfl, by go_num, hS⟩
      case round =>
        clear hS r0 r1 r2 r3 r4
        obtain ⟨i, hi, rfl, rfl, rfl, rfl, rfl, hS⟩ := hrel
        obtain ⟨r0, r1, r2, r3, r4⟩ := buf_cells hS.box
        by_cases hlt2 : i < (wd + 15) / 16
        · have hix : x0 + 16 * (i : Int) < x0 + (wd : Int) := by omega
          obtain ⟨ti, hti⟩ : ∃ ti, colCols Q wd hg P (16 * j) tj i = ti := ⟨_, rfl⟩
          have hstep : colCols Q wd hg P (16 * j) tj (i + 1) = mcuN Q wd hg P (16 * i) (16 * j) ti := by rw [← hti]; rfl
          rw [hti] at hS ⊢
          have hok : St3Ok ti := by rw [← hti]; exact colCols_ok HQ.out.1 HQ.out.2.1 _ HTJ.out.1 i
          have htl : ti.1.1.length + 14400 ≤ 1099511627776 := by
            have h1 := colCols_len Q wd hg P (16 * j) tj i
            have h2 := HTJ.out.2.1
            rw [hti] at h1
            have h3 := mcus_le s1 s2 HS.out.n hlt hi
            generalize (wd + 15) / 16 * j = m at *
            generalize ti.1.1.length = l1 at *
            generalize tj.1.1.length = l2 at *
            omega
          have HTI := Lib.hid (And.intro hok (And.intro htl hstep))
          have hQ0 := hS.start wd hg P (16 * i) (16 * j)
          clear hok htl hti hstep hS
          go_wp2_with fail
          go_loopg [7, 22] 4 (fun k s7 s22 wr => ∃ n : Nat, n ≤ 4 ∧ k = 4 - n ∧ s7 = .int .i32 (lumaN Q wd hg (P 0) (16 * i) (16 * j) (ti.1, ti.2.1) n).2 ∧ s22 = .int .i64 (n : Int) ∧ GQ z eb Q L g b (b + 1) (b + 2) rb x0 y0 (x0 + wd) (y0 + hg) W3 wd hg P (16 * i) (16 * j) (lumaN Q wd hg (P 0) (16 * i) (16 * j) (ti.1, ti.2.1) n).1 n wr)
          case atStart => exact ⟨0, by omega, rfl, rfl, rfl, hQ0⟩
          case round =>
            clear hQ0 r0 r1 r2 r3 r4
            obtain ⟨n, hn, rfl, rfl, rfl, hS⟩ := hrel
            by_cases hlt3 : n < 4
            · have hnd : decide ((n : Int) < 4) = true := by simp; omega
              obtain ⟨st, hst⟩ : ∃ st, lumaN Q wd hg (P 0) (16 * i) (16 * j) (ti.1, ti.2.1) n = st := ⟨_, rfl⟩
              have hstn : lumaN Q wd hg (P 0) (16 * i) (16 * j) (ti.1, ti.2.1) (n + 1) = stepG Q 0 (grayS wd hg (P 0) (16 * i + 8 * (n % 2)) (16 * j + 8 * (n / 2))) st := by rw [← hst]; rfl
              rw [hst] at hS ⊢
              have hok : StOk st := by rw [← hst]; exact lumaN_ok HQ.out.1 (HQ.out.2.1 0) _ _ (st := (ti.1, ti.2.1)) ⟨HTI.out.1.1, HTI.out.1.2.1⟩ n
              have htl : st.1.1.length + 2400 ≤ 1099511627776 := by
                have h1 := lumaN_len Q wd hg (P 0) (16 * i) (16 * j) (ti.1, ti.2.1) n
                have h2 := HTI.out.2.1
                rw [hst] at h1
                simp only at h1
                omega
              obtain ⟨p, hp⟩ : ∃ p : Nat, n % 2 = p := ⟨_, rfl⟩
              obtain ⟨r, hr⟩ : ∃ r : Nat, n / 2 = r := ⟨_, rfl⟩
              have e1 : bits BinOp.and IntKind.i64 (n : Int) 1 = (p : Int) := by
                rw [← hp]
                obtain rfl | rfl | rfl | rfl : n = 0 ∨ n = 1 ∨ n = 2 ∨ n = 3 := by omega
                all_goals decide +kernel
              have e2 : bits BinOp.and IntKind.i64 (n : Int) 2 = 2 * (r : Int) := by
                rw [← hr]
                obtain rfl | rfl | rfl | rfl : n = 0 ∨ n = 1 ∨ n = 2 ∨ n = 3 := by omega
                all_goals decide +kernel
              have p1 : p ≤ 1 := by omega
              have r1 : r ≤ 1 := by omega
              have CPt := Lib.hid fun (x y : Int) => pt_any x y wr
              have CBl : Hid (∀ (x y : Int) (W : World), GQ z eb Q L g b (b + 1) (b + 2) rb x0 y0 (x0 + wd) (y0 + hg) W3 wd hg P (16 * i) (16 * j) st.1 n W → x = x0 + 16 * (i : Int) + (p : Int) * 8 → y = y0 + 16 * (j : Int) + 2 * (r : Int) * 4 → Calls Tryz.prog 59 #[.pointer (some ⟨bi, 0, none⟩), .agg #[.int .i64 x, .int .i64 y], .pointer (some ⟨b, 0, none⟩), .pointer (some ⟨b + 1, n * 64, none⟩), .pointer (some ⟨b + 2, n * 64, none⟩)] W fun e w' => e = .returned (.tuple #[]) ∧ w'.rowIs b 132 64 (ints .i32 (grayS wd hg (P 0) (16 * i + 8 * (n % 2)) (16 * j + 8 * (n / 2)))) ∧ GQ z eb Q L g b (b + 1) (b + 2) rb x0 y0 (x0 + wd) (y0 + hg) W3 wd hg P (16 * i) (16 * j) st.1 (n + 1) w') := Lib.hid fun x y W k hx hy =>
                k.lay HC.out.2.1 HC.out.1 HJ.out.2.2.2.1 hlt3 (by omega) (by omega) HLOW.out.2.1 (by have := HLOW.out.2.1; omega) (by have := HLOW.out.2.1; omega) (by omega) x y (by omega) (by omega)
              have CBk : Hid (∀ W, GQ z eb Q L g b (b + 1) (b + 2) rb x0 y0 (x0 + wd) (y0 + hg) W3 wd hg P (16 * i) (16 * j) st.1 (n + 1) W → W.rowIs b 132 64 (ints .i32 (grayS wd hg (P 0) (16 * i + 8 * (n % 2)) (16 * j + 8 * (n / 2)))) → Calls Tryz.prog 57 #[.pointer (some ⟨eb, 0, none⟩), .pointer (some ⟨b, 0, none⟩), .int .i64 0, .int .i32 st.2] W fun e w' => e = .returned (.int .i32 (stepG Q 0 (grayS wd hg (P 0) (16 * i + 8 * (n % 2)) (16 * j + 8 * (n / 2))) st).2) ∧ GQ z eb Q L g b (b + 1) (b + 2) rb x0 y0 (x0 + wd) (y0 + hg) W3 wd hg P (16 * i) (16 * j) (stepG Q 0 (grayS wd hg (P 0) (16 * i + 8 * (n % 2)) (16 * j + 8 * (n / 2))) st).1 (n + 1) w') := Lib.hid fun W k hr =>
                k.write _ (grayS_ok (HQ.out.2.1 0) _ _) hr hok HLOW.out.2.1 HLOW.out.2.2.1.1 HLOW.out.2.2.1.2.1 HLOW.out.2.2.1.2.2 HQ.out.2.2.2.1 htl
              have HSS := Lib.hid (And.intro hS hstn)
              obtain ⟨dc, hdc⟩ : ∃ dc, st.2 = dc := ⟨_, rfl⟩
              rw [hdc] at CBk ⊢
              have i0 : (0 : Int) ≤ (n : Int) := by omega
              have i1 : (n : Int) < 4 := by omega
              clear hS hstn hok htl hdc hp hr hst
              go_wp2_with (first
                | (go_at_call 55; (with_reducible refine (CPt.out _ _).mono ?_); rintro e w5 ⟨rfl, k5⟩; have K5 := Lib.hid k5; clear k5))
              obtain ⟨W6, hW6⟩ : ∃ W6, w5.alloc (.cells #[.int .i64 (x0 + 16 * (i : Int) + (p : Int) * 8), .int .i64 (y0 + 16 * (j : Int) + 2 * (r : Int) * 4)] 38) = W6 := ⟨_, rfl⟩
              obtain ⟨pb, hpb⟩ : ∃ pb, w5.heap.size = pb := ⟨_, rfl⟩
              have hbx : W6.heap[pb]? = some (.cells #[.int .i64 (x0 + 16 * (i : Int) + (p : Int) * 8), .int .i64 (y0 + 16 * (j : Int) + 2 * (r : Int) * 4)] 38 (0, 0)) := by rw [← hW6, ← hpb]; exact heap_alloc_new _ _
              have hGQ6 := HSS.out.1.calm ((K5.out.alloc (.cells #[.int .i64 (x0 + 16 * (i : Int) + (p : Int) * 8), .int .i64 (y0 + 16 * (j : Int) + 2 * (r : Int) * 4)] 38)).drew)
              rw [hW6] at hGQ6
              have HS6 := Lib.hid hGQ6
              obtain ⟨d0, d1⟩ := two_cells hbx
              rw [hW6, hpb]
              clear hGQ6 e1 e2 hW6 hpb hbx
              go_still_tail 6, (by kernel_rfl)
              change wpList _ _ _ _ _ W6.drew
              clear d0 d1
              go_wp2_with (first
                | (go_at_call 59; (with_reducible refine (CBl.out _ _ _ HS6.out rfl rfl).mono ?_); rintro e w7 ⟨rfl, r7, hS7⟩; have HS7 := Lib.hid (And.intro hS7 r7); clear hS7 r7)
                | (go_at_call 57; (with_reducible refine (CBk.out _ HS7.out.1 HS7.out.2).mono ?_); rintro e w8 ⟨rfl, hS8⟩; have HS8 := Lib.hid hS8; clear hS8))
              go_roundg (4 - (n + 1))
              case measure => go_light; omega
              case rel =>
                go_light
                refine ⟨n + 1, by omega, rfl, by rw [HSS.out.2], by go_num, by rw [HSS.out.2]; exact HS8.out⟩
            · obtain rfl : n = 4 := by omega
              obtain ⟨a, ha⟩ : ∃ a, lumaN Q wd hg (P 0) (16 * i) (16 * j) (ti.1, ti.2.1) 4 = a := ⟨_, rfl⟩
              have hoka : StOk a := by rw [← ha]; exact lumaN_ok HQ.out.1 (HQ.out.2.1 0) _ _ (st := (ti.1, ti.2.1)) ⟨HTI.out.1.1, HTI.out.1.2.1⟩ 4
              have hla : a.1.1.length ≤ ti.1.1.length + 9600 := by
                have h1 := lumaN_len Q wd hg (P 0) (16 * i) (16 * j) (ti.1, ti.2.1) 4
                rw [ha] at h1
                exact h1
              have hmb : mcuB Q wd hg P (16 * i) (16 * j) ti = stepG Q 1 (scaled (quadS wd hg (P 1) (16 * i) (16 * j))) (a.1, ti.2.2.1) := by unfold mcuB; rw [ha]
              have hokb : StOk (mcuB Q wd hg P (16 * i) (16 * j) ti) := mcuB_ok HQ.out.1 HQ.out.2.1 _ _ HTI.out.1
              have hlb := stepG_len Q 1 (scaled (quadS wd hg (P 1) (16 * i) (16 * j))) (a.1, ti.2.2.1)
              rw [← hmb] at hlb
              have hn2 : mcuN Q wd hg P (16 * i) (16 * j) ti = ((mcuR Q wd hg P (16 * i) (16 * j) ti).1, a.2, (mcuB Q wd hg P (16 * i) (16 * j) ti).2, (mcuR Q wd hg P (16 * i) (16 * j) ti).2) := by unfold mcuN; rw [ha]
              have hmr : mcuR Q wd hg P (16 * i) (16 * j) ti = stepG Q 1 (scaled (quadS wd hg (P 2) (16 * i) (16 * j))) ((mcuB Q wd hg P (16 * i) (16 * j) ti).1, ti.2.2.2) := rfl
              obtain ⟨B2, hB2⟩ : ∃ B2, mcuB Q wd hg P (16 * i) (16 * j) ti = B2 := ⟨_, rfl⟩
              rw [hB2] at hmb hokb hlb hn2 hmr
              obtain ⟨R2, hR2⟩ : ∃ R2, mcuR Q wd hg P (16 * i) (16 * j) ti = R2 := ⟨_, rfl⟩
              rw [hR2] at hn2 hmr
              rw [ha] at hS ⊢
              obtain ⟨g1, hg1⟩ := hS.qb
              obtain ⟨g2, hg2⟩ := hS.qr
              have hq1 : wr.rowIs (b + 1) 133 256 (ints .i32 (quadS wd hg (P 1) (16 * i) (16 * j))) := hg1.congr fun j hj => quad_full wd hg (P 1) _ _ g1 j hj
              have hq2 : wr.rowIs (b + 2) 133 256 (ints .i32 (quadS wd hg (P 2) (16 * i) (16 * j))) := hg2.congr fun j hj => quad_full wd hg (P 2) _ _ g2 j hj
              have CS1 := Lib.hid (hS.gc.scaleCall hq1 (quadS_in (HQ.out.2.1 1) _ _) HLOW.out.2.1)
              have CW1 : Hid (∀ W, GC z eb Q L g b (b + 1) (b + 2) rb x0 y0 (x0 + wd) (y0 + hg) W3 a.1 W → W.rowIs b 132 64 (ints .i32 (scaled (quadS wd hg (P 1) (16 * i) (16 * j)))) → Calls Tryz.prog 57 #[.pointer (some ⟨eb, 0, none⟩), .pointer (some ⟨b, 0, none⟩), .int .i64 1, .int .i32 ti.2.2.1] W fun e w' => e = .returned (.int .i32 B2.2) ∧ GC z eb Q L g b (b + 1) (b + 2) rb x0 y0 (x0 + wd) (y0 + hg) W3 B2.1 w' ∧ ∀ i g, W.rowIs i 133 256 g → ¬ z.all eb i → w'.rowIs i 133 256 g) := Lib.hid fun W k hr => by
                have h := k.writeBlock (st := (a.1, ti.2.2.1)) 1 (by omega) _ (scaled_in (quadS_in (HQ.out.2.1 1) _ _)) hr ⟨hoka.1, HTI.out.1.2.2.1⟩ HLOW.out.2.1 HLOW.out.2.2.1.1 HLOW.out.2.2.1.2.1 HLOW.out.2.2.1.2.2 HQ.out.2.2.2.1 (by have := HTI.out.2.1; show a.1.1.length + 2400 ≤ _; omega)
                rw [← hmb] at h
                exact h
              have CS2 : Hid (∀ W, GC z eb Q L g b (b + 1) (b + 2) rb x0 y0 (x0 + wd) (y0 + hg) W3 B2.1 W → W.rowIs (b + 2) 133 256 (ints .i32 (quadS wd hg (P 2) (16 * i) (16 * j))) → Calls Tryz.prog 61 #[.pointer (some ⟨b, 0, none⟩), .pointer (some ⟨b + 2, 0, none⟩)] W fun e w' => e = .returned (.tuple #[]) ∧ w'.rowIs b 132 64 (ints .i32 (scaled (quadS wd hg (P 2) (16 * i) (16 * j)))) ∧ GC z eb Q L g b (b + 1) (b + 2) rb x0 y0 (x0 + wd) (y0 + hg) W3 B2.1 w' ∧ ∀ i g, W.rowIs i 133 256 g → w'.rowIs i 133 256 g) := Lib.hid fun W k hr => k.scaleCall hr (quadS_in (HQ.out.2.1 2) _ _) HLOW.out.2.1
              have CW2 : Hid (∀ W, GC z eb Q L g b (b + 1) (b + 2) rb x0 y0 (x0 + wd) (y0 + hg) W3 B2.1 W → W.rowIs b 132 64 (ints .i32 (scaled (quadS wd hg (P 2) (16 * i) (16 * j)))) → Calls Tryz.prog 57 #[.pointer (some ⟨eb, 0, none⟩), .pointer (some ⟨b, 0, none⟩), .int .i64 1, .int .i32 ti.2.2.2] W fun e w' => e = .returned (.int .i32 R2.2) ∧ GC z eb Q L g b (b + 1) (b + 2) rb x0 y0 (x0 + wd) (y0 + hg) W3 R2.1 w') := Lib.hid fun W k hr => by
                have h := k.writeBlock (st := (B2.1, ti.2.2.2)) 1 (by omega) _ (scaled_in (quadS_in (HQ.out.2.1 2) _ _)) hr ⟨hokb.1, HTI.out.1.2.2.2⟩ HLOW.out.2.1 HLOW.out.2.2.1.1 HLOW.out.2.2.1.2.1 HLOW.out.2.2.1.2.2 HQ.out.2.2.2.1 (by have := HTI.out.2.1; simp only at hlb; show B2.1.1.length + 2400 ≤ _; omega)
                rw [← hmr] at h
                exact h.mono fun e w' h => ⟨h.1, h.2.1⟩
              have HSS := Lib.hid (And.intro hn2 hq2)
              obtain ⟨d1, hd1⟩ : ∃ d, ti.2.2.1 = d := ⟨_, rfl⟩
              obtain ⟨d2, hd2⟩ : ∃ d, ti.2.2.2 = d := ⟨_, rfl⟩
              rw [hd1] at CW1 ⊢
              rw [hd2] at CW2 ⊢
              have ewx : IntKind.i64.wrap (x0 + 16 * (i : Int) + 16) = x0 + 16 * (i : Int) + 16 := IntWalk.i64_in _ ⟨by omega, by omega⟩
              clear hS ha hoka hla hmb hokb hlb hn2 hmr hB2 hR2 hg1 hg2 hq1 hq2 hd1 hd2
              go_wp2_with (first
                | (go_at_call 61; (with_reducible refine CS1.out.mono ?_); rintro e w7 ⟨rfl, r7, hS7, k7⟩; have HS7 := Lib.hid (And.intro hS7 (And.intro r7 k7)); clear hS7 r7 k7)
                | (go_at_call 57; (with_reducible refine (CW1.out _ HS7.out.1 HS7.out.2.1).mono ?_); rintro e w8 ⟨rfl, hS8, k8⟩; have HS8 := Lib.hid (And.intro hS8 (k8 _ _ (HS7.out.2.2 _ _ HSS.out.2) HLOW.out.2.2.1.2.2)); clear hS8 k8)
                | (go_at_call 61; (with_reducible refine (CS2.out _ HS8.out.1 HS8.out.2).mono ?_); rintro e w9 ⟨rfl, r9, hS9, k9⟩; have HS9 := Lib.hid (And.intro hS9 r9); clear hS9 r9 k9)
                | (go_at_call 57; (with_reducible refine (CW2.out _ HS9.out.1 HS9.out.2).mono ?_); rintro e w10 ⟨rfl, hS10⟩; have HS10 := Lib.hid hS10; clear hS10))
              go_roundg ((wd + 15) / 16 - (i + 1))
              case measure => go_light; omega
              case rel =>
                go_light
                refine ⟨i + 1, by omega, rfl, by rw [HTI.out.2.2, HSS.out.1], by rw [HTI.out.2.2, HSS.out.1], by rw [HTI.out.2.2, HSS.out.1], ?_, by rw [HTI.out.2.2, HSS.out.1]; exact HS10.out⟩
                exact congrArg (Value.int .i64) (by omega)
        · obtain rfl : i = (wd + 15) / 16 := by omega
          have hix : ¬ x0 + 16 * (((wd + 15) / 16 : Nat) : Int) < x0 + (wd : Int) := by omega
          have ewy : IntKind.i64.wrap (y0 + 16 * (j : Int) + 16) = y0 + 16 * (j : Int) + 16 := IntWalk.i64_in _ ⟨by omega, by omega⟩
          have HSS := Lib.hid hS
          clear hS
          obtain ⟨nx, hnx⟩ : ∃ nx, (wd + 15) / 16 = nx := ⟨_, rfl⟩
          rw [hnx] at hix HSS ⊢
          have HNX := Lib.hid hnx
          clear hnx hi
          go_wp2_with fail
          go_roundg ((hg + 15) / 16 - (j + 1))
          case measure => go_light; omega
          case rel =>
            go_light
            refine ⟨j + 1, by omega, rfl, by rw [HTJ.out.2.2, HNX.out], by rw [HTJ.out.2.2, HNX.out], by rw [HTJ.out.2.2, HNX.out], ?_, by rw [HTJ.out.2.2, HNX.out]; exact HSS.out⟩
            exact congrArg (Value.int .i64) (by omega)
    · obtain rfl : j = (hg + 15) / 16 := by omega
      have hjy : ¬ y0 + 16 * (((hg + 15) / 16 : Nat) : Int) < y0 + (hg : Int) := by omega
      have hok := colRows_ok (wd := wd) (hg := hg) HQ.out.1 HQ.out.2.1 (t := t0) (by rw [HST.out]; exact HQ.out.2.2.1) ((hg + 15) / 16)
      have hlen : (colRows Q wd hg P t0 ((hg + 15) / 16)).1.1.length + 6 ≤ 1099511627776 := by
        have h1 := colRows_len Q wd hg P t0 ((hg + 15) / 16)
        have h2 := HQ.out.2.2.2.2
        have h3 := mcus_all s1 s2 HS.out.n (Nat.le_refl ((hg + 15) / 16))
        have h4 : t0.1.1.length ≤ 4096 := by rw [HST.out]; exact h2
        generalize (wd + 15) / 16 * ((hg + 15) / 16) = m at *
        generalize (colRows Q wd hg P t0 ((hg + 15) / 16)).1.1.length = l1 at *
        generalize t0.1.1.length = l2 at *
        omega
      have CE : Hid (Calls Tryz.prog 62 #[.pointer (some ⟨eb, 0, none⟩), .int .u32 127, .int .u32 7] wr fun e w' => e = .returned (.tuple #[]) ∧ EncS z eb g (emitN (colRows Q wd hg P t0 ((hg + 15) / 16)).1 127 7) w' ∧ Fr z.B (z.all eb) wr w') := Lib.hid (emit_any z eb g _ 127 7 wr hS.enc hok.1 (by omega) (by omega) hlen)
      have HSS := Lib.hid hS
      obtain ⟨ny, hny⟩ : ∃ ny, (hg + 15) / 16 = ny := ⟨_, rfl⟩
      rw [hny] at hjy CE HSS ⊢
      have HNY := Lib.hid hny
      clear hS hok hlen hny hj hlt
      go_wp2_with (go_at_call 62; (with_reducible refine CE.out.mono ?_); rintro e w9 ⟨rfl, e9, k9⟩; have P9 := Lib.hid (And.intro e9 k9); clear e9 k9)
      go_end0
      refine ⟨rfl, ?_, ?_⟩
      · unfold colScan
        rw [HNY.out, ← HST.out]
        exact P9.out.1
      · obtain ⟨h1, h2, h3⟩ := HLOW.out.2.2.2
        have h4 := HLOW.out.1
        exact (HJ.out.2.2.1.transNew HSS.out.fr fun i hi e => e.elim id fun e => by rcases e with e | e | e <;> omega).trans P9.out.2
end Go.Proofs.YtghjlekdibcjdaaGreatDoor
