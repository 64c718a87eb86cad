/- The law TwoRoads: its walk. -/
import Derived.Test.YtghjlekdibcjdaaGreatDoorTwoA
import Derived.Deep.RegionHeld3
namespace Go.Proofs.YtghjlekdibcjdaaGreatDoor
open Go.Deep Go.RowKit
set_option linter.unusedVariables false
set_option maxRecDepth 100000 in
theorem implRgb_any (r g b : Nat) (hr : r ≤ 255) (hg : g ≤ 255) (hb : b ≤ 255) (w : World) :
    Calls Tryz.prog 14 #[.int .u8 (r : Int), .int .u8 (g : Int), .int .u8 (b : Int)] w fun e w' => e = .returned (.tuple #[.int .u8 (lumaOf r g b : Int), .int .u8 (cbOf r g b : Int), .int .u8 (crOf r g b : Int)]) ∧ w' = w := by
  have C := Lib.hid (rgb_any r g b hr hg hb w)
  go_enter Tryz.func14, Tryz.ntmps14
  go_wp2_with (go_at_call 22; (with_reducible refine C.out.mono ?_); rintro e w2 ⟨rfl, hww⟩; subst w2)
  exact bodyPost_ret (v := .tuple #[.int .u8 (lumaOf r g b : Int), .int .u8 (cbOf r g b : Int), .int .u8 (crOf r g b : Int)]) (by simp [results, Tryz.results14, go_sem]) rfl ⟨rfl, rfl⟩
set_option maxHeartbeats 1000000 in
set_option maxRecDepth 100000 in
theorem tw_huge (a : Option Addr) (len cap : Nat) (wide high q : Int) (w : World) (hl : len ≤ 9223372036854775807) (h : 2147483647 < len) :
    Calls Tryz.prog 8 #[.slice a len cap, .int .i64 wide, .int .i64 high, .int .i64 q] w fun e w' => e = .returned (.bool true) ∧ Kept (fun k => k < w.heap.size) w w' := by
  go_enter Tryz.func8, Tryz.ntmps8
  go_wp2
  go_ret
  exact ⟨rfl, Kept.refl _ _⟩
set_option maxHeartbeats 1000000 in
set_option maxRecDepth 100000 in
theorem tw_not (a : Option Addr) (len cap : Nat) (wide high q p : Int) (w : World) (hl : len ≤ 2147483647) (hp : wide * high = p) (hn : ¬ (1 ≤ wide ∧ 1 ≤ high ∧ wide ≤ 65535 ∧ high ≤ 65535 ∧ p ≤ 65536 ∧ 1 ≤ q ∧ q ≤ 100 ∧ (len : Int) = p * 3)) :
    Calls Tryz.prog 8 #[.slice a len cap, .int .i64 wide, .int .i64 high, .int .i64 q] w fun e w' => e = .returned (.bool true) ∧ Kept (fun k => k < w.heap.size) w w' := by
  have CS := Lib.hid (sized3_false wide high q len p w hp hn)
  clear hn hp
  go_enter Tryz.func8, Tryz.ntmps8
  go_wp2_with (go_at_call 9; (with_reducible refine CS.out.mono ?_); rintro e w2 ⟨rfl, rfl⟩)
  go_ret
  exact ⟨rfl, Kept.refl _ _⟩
/-- A call on the rows of the three planes that were laid. -/
def YccC (args : Value → Value → Value → Array Value) (N B : Nat) (l0 l1 l2 R : List Nat) (w : World) : Prop := ∀ g0 g1 g2 k0 k1 k2 W, W.ownsRow B 5 1 (.slice (some ⟨g0, 0, none⟩) N k0) N (cellsN l0) → W.ownsRow B 5 1 (.slice (some ⟨g1, 0, none⟩) N k1) N (cellsN l1) → W.ownsRow B 5 1 (.slice (some ⟨g2, 0, none⟩) N k2) N (cellsN l2) → Kept (fun k => k < B) w W → Calls Tryz.prog 15 (args (.slice (some ⟨g0, 0, none⟩) N k0) (.slice (some ⟨g1, 0, none⟩) N k1) (.slice (some ⟨g2, 0, none⟩) N k2)) W fun e w' => ∃ g c, e = .returned (.tuple #[.slice (some ⟨g, 0, none⟩) R.length c, .int .i64 0]) ∧ w'.ownsRow W.heap.size 5 1 (.slice (some ⟨g, 0, none⟩) R.length c) R.length (cellsN R) ∧ Kept (fun _ => True) W w'
set_option maxHeartbeats 8000000 in
set_option maxRecDepth 100000 in
theorem tw_ok (b off cap : Nat) (wd hg : Nat) (z : List Int) (q : Int) (R : List Nat) (w : World) (hlen : wd * hg ≤ 65536) (h1 : 1 ≤ wd) (h2 : 1 ≤ hg) (h3 : wd ≤ 65535) (h4 : hg ≤ 65535) (hq0 : 1 ≤ q) (hq1 : q ≤ 100) (hcell : ∀ i, i < 3 * (wd * hg) → w.cell? ⟨b, off + i, none⟩ = some (.int .u8 (z.getD i 0))) (hz : ∀ i, 0 ≤ z.getD i 0 ∧ z.getD i 0 ≤ 255) (hR : 1 ≤ R.length) (hR2 : R.length ≤ 9223372036854775807)
    (hA : PixC 12 (fun v => #[v, .int .i64 0, .int .i64 0, .int .i64 (wd : Int), .int .i64 (hg : Int), .int .i64 q]) (4 * (wd * hg)) w.heap.size (rgba4 z (wd * hg)) R w)
    (hB : YccC (fun u v x => #[u, v, x, .int .i64 0, .int .i64 (wd : Int), .int .i64 (hg : Int), .int .i64 q]) (wd * hg) w.heap.size (chan z 0 (wd * hg)) (chan z 1 (wd * hg)) (chan z 2 (wd * hg)) R w) :
    Calls Tryz.prog 8 #[.slice (some ⟨b, off, none⟩) (3 * (wd * hg)) cap, .int .i64 (wd : Int), .int .i64 (hg : Int), .int .i64 q] w fun e w' => e = .returned (.bool true) ∧ Kept (fun k => k < w.heap.size) w w' := by
  have hmul : ((wd : Nat) : Int) * ((hg : Nat) : Int) = ((wd * hg : Nat) : Int) := by simp
  have hN1 : 1 ≤ wd * hg := Nat.mul_pos h1 h2
  generalize hN : wd * hg = N at hlen hA hB hmul hcell hN1 ⊢
  obtain ⟨L, hL⟩ : ∃ L, 3 * N = L := ⟨_, rfl⟩
  rw [hL] at hcell ⊢
  have CS := Lib.hid (sized3_true wd hg q (L : Int) N w hmul (by omega))
  have CA := Lib.hid hA
  have CB := Lib.hid hB
  have hbl : b < w.heap.size := block_lt_of_cell (hcell 0 (by omega))
  have HC := Lib.hid (And.intro hcell (And.intro hz hbl))
  clear hA hB hN hcell hz hbl
  have HSR : Hid (∀ {W : World} {B : Nat} {v : Value}, W.ownsRow B 5 1 v R.length (cellsN R) → (convert 22 9 v).run Tryz.prog W = .ok (.string (strN R)) W) := Lib.hid fun h => run_str_own h
  generalize strN R = SR at HSR
  unfold PixC at CA
  unfold YccC at CB
  simp only [] at CA CB
  generalize R.length = LR at *
  obtain ⟨B, hB⟩ : ∃ B, w.heap.size = B := ⟨_, rfl⟩
  have HB := Lib.hid hB
  rw [hB] at CA CB HC
  clear hB
  obtain ⟨i0, hi0, hz0, hz1, hz2⟩ := info_parts info5
  have HI := Lib.hid (And.intro hi0 (And.intro hz0 (And.intro hz1 hz2)))
  clear hi0 hz0 hz1 hz2
  go_enter Tryz.func8, Tryz.ntmps8
  go_wp2_with (go_at_call 9; (with_reducible refine CS.out.mono ?_); rintro e w2 ⟨rfl, hww⟩; subst w2)
  clear CS
  go_loopg [9, 10, 11, 12, 13] N (fun k s9 s10 s11 s12 s13 wr => ∃ j : Nat, j ≤ N ∧ k = N - j ∧ s13 = .int .i64 ((3 * j : Nat) : Int) ∧ RowsF B w wr (sel s9 s10 s11 s12) (tr z j j))
  case atStart => exact ⟨0, by omega, rfl, rfl, fun i hi => by
      obtain rfl | rfl | rfl | rfl : i = 0 ∨ i = 1 ∨ i = 2 ∨ i = 3 := by omega
      all_goals exact World.ownsRow_nil _ _ _ _, fun i j hi hj hn g hg => by
      obtain rfl | rfl | rfl | rfl : i = 0 ∨ i = 1 ∨ i = 2 ∨ i = 3 := by omega
      all_goals simp [sel, Value.ownBlock] at hg, Kept.refl _ _⟩
  case round =>
    obtain ⟨j, hj, rfl, rfl, hS⟩ := hrel
    obtain ⟨p, hp⟩ : ∃ p, 3 * j = p := ⟨_, rfl⟩
    rw [hp]
    by_cases hlt : j < N
    · have hfp : ∀ W, Kept (fun k => k < B) w W → W.cell? ⟨b, off + 3 * j, none⟩ = some (.int .u8 (pixN z (3 * j) : Int)) ∧ W.cell? ⟨b, off + (3 * j + 1), none⟩ = some (.int .u8 (pixN z (3 * j + 1) : Int)) ∧ W.cell? ⟨b, off + (3 * j + 2), none⟩ = some (.int .u8 (pixN z (3 * j + 2) : Int)) := fun W k => by
        refine ⟨?_, ?_, ?_⟩
        · have h := k.cellOf (HC.out.1 (3 * j) (by omega)) HC.out.2.2
          have := HC.out.2.1 (3 * j)
          rw [h]; unfold pixN; congr 2; omega
        · have h := k.cellOf (HC.out.1 (3 * j + 1) (by omega)) HC.out.2.2
          have := HC.out.2.1 (3 * j + 1)
          rw [h]; unfold pixN; congr 2; omega
        · have h := k.cellOf (HC.out.1 (3 * j + 2) (by omega)) HC.out.2.2
          have := HC.out.2.1 (3 * j + 2)
          rw [h]; unfold pixN; congr 2; omega
      have c0 : colOf z 0 j = lumaOf (pixN z (3 * j)) (pixN z (3 * j + 1)) (pixN z (3 * j + 2)) := rfl
      have c1 : colOf z 1 j = cbOf (pixN z (3 * j)) (pixN z (3 * j + 1)) (pixN z (3 * j + 2)) := rfl
      have c2 : colOf z 2 j = crOf (pixN z (3 * j)) (pixN z (3 * j + 1)) (pixN z (3 * j + 2)) := rfl
      have hr4 : rgba4 z (j + 1) = rgba4 z j ++ [pixN z (3 * j), pixN z (3 * j + 1), pixN z (3 * j + 2), 255] := rfl
      have b0 := pixN_le HC.out.2.1 (3 * j)
      have b1 := pixN_le HC.out.2.1 (3 * j + 1)
      have b2 := pixN_le HC.out.2.1 (3 * j + 2)
      obtain ⟨a0, ha0⟩ : ∃ a, pixN z (3 * j) = a := ⟨_, rfl⟩
      obtain ⟨a1, ha1⟩ : ∃ a, pixN z (3 * j + 1) = a := ⟨_, rfl⟩
      obtain ⟨a2, ha2⟩ : ∃ a, pixN z (3 * j + 2) = a := ⟨_, rfl⟩
      rw [ha0, ha1, ha2] at hr4 hfp c0 c1 c2
      rw [ha0] at b0
      rw [ha1] at b1
      rw [ha2] at b2
      have CR := Lib.hid fun W => implRgb_any a0 a1 a2 b0 b1 b2 W
      rw [← c0, ← c1, ← c2] at CR
      obtain ⟨yy, hyy⟩ : ∃ a, colOf z 0 j = a := ⟨_, rfl⟩
      obtain ⟨yb, hyb⟩ : ∃ a, colOf z 1 j = a := ⟨_, rfl⟩
      obtain ⟨yr, hyr⟩ : ∃ a, colOf z 2 j = a := ⟨_, rfl⟩
      rw [hyy, hyb, hyr] at CR
      have HR := Lib.hid (And.intro hr4 (And.intro hyy (And.intro hyb hyr)))
      rw [hp] at hfp
      obtain ⟨p0, p1, p2⟩ := hfp wr hS.kept
      have HFP := Lib.hid hfp
      have j0 : (0 : Int) ≤ (p : Int) := by omega
      have j1 : (p : Int) < (L : Int) := by omega
      have jn : p < L := by omega
      have j2 : (0 : Int) ≤ (p : Int) + 1 := by omega
      have j3 : (p : Int) + 1 < (L : Int) := by omega
      have j4 : (0 : Int) ≤ (p : Int) + 2 := by omega
      have j5 : (p : Int) + 2 < (L : Int) := by omega
      have t1 : ((p : Int) + 1).toNat = p + 1 := by omega
      have t2 : ((p : Int) + 2).toNat = p + 2 := by omega
      have hw1 : IntKind.i64.wrap ((p : Int) + 1) = (p : Int) + 1 := IntWalk.i64_in _ ⟨by omega, by omega⟩
      have hw2 : IntKind.i64.wrap ((p : Int) + 2) = (p : Int) + 2 := IntWalk.i64_in _ ⟨by omega, by omega⟩
      have hsz : B ≤ wr.heap.size := by have := hS.kept.size; rw [HB.out] at this; exact this
      have HS := Lib.hid (And.intro hS hsz)
      have HJ := Lib.hid (And.intro j0 (And.intro j1 (And.intro jn (And.intro j2 (And.intro j3 (And.intro j4 (And.intro j5 (And.intro t1 (And.intro t2 (And.intro hw1 hw2))))))))))
      clear hS hfp hr4 c0 c1 c2 ha0 ha1 ha2 hyy hyb hyr hsz b0 b1 b2 hw1 hw2
      go_wp2_with fail
      obtain ⟨-, -, -, -, -, -, -, -, -, hw1, hw2⟩ := HJ.out
      go_quiet ((go_at_call 14; exact Calls.quiet_of_same (CR.out _)))
      obtain ⟨W0, hW0⟩ : ∃ W0, wr.drewN nq = W0 := ⟨_, rfl⟩
      have R0 : RowsF B w W0 (sel u9 u10 u11 u12) (tr z j j) := by rw [← hW0]; exact HS.out.1.heap rfl (HS.out.1.kept.drewN _)
      have hB0 : B ≤ W0.heap.size := by rw [← hW0]; exact HS.out.2
      rw [hW0]
      have HR0 := Lib.hid (And.intro R0 hB0)
      clear hW0 R0 hB0 p0 p1 p2 j0 j1 jn j2 j3 j4 j5 t1 t2 hw1 hw2
      have HCL := Lib.hid fun c => chan_len z c j
      obtain ⟨hi0, hz0, hz1, hz2⟩ := HI.out
      have HR0' := Lib.hid HR0.out.1
      go_wp2_with (first
        | (at_builtin; refine wpList_append_lies _ rfl _ _ _ rfl B 5 i0 _ 1 1 Tryz.underlying22 hi0 hz0 hz1 hz2 rfl (by omega) u10 (chan z 0 j).length (cellsN (chan z 0 j)) rfl ((HR0'.out.own 1 (by omega)).alloc _) ⟨W0.heap.size, 0, none⟩ 1 1 [.int .u8 (yy : Int)] rfl rfl (World.news_of_block (cs := #[.int .u8 (yy : Int)]) (t := 5) (fr := (0, 0)) (heap_alloc_new W0 _)) (by simp [Value.oneCell']) (by omega) (by have := HCL.out 0; unfold maxLen; omega) (by have := HCL.out 0; omega) (by have := HR0'.out.kept.size; have := HB.out; simp; omega) (W0.heap.size + 1) (by simp) ?_; intro g1 cap1 w1 hown hgrow hat hlt3; have HR1 := Lib.hid (HR0'.out.app 1 (by omega) _ [yy] g1 cap1 hown hgrow hat); clear hown hgrow hat hlt3)
        | (at_builtin; refine wpList_append_lies _ rfl _ _ _ rfl B 5 i0 _ 1 1 Tryz.underlying22 hi0 hz0 hz1 hz2 rfl (by omega) u11 (chan z 1 j).length (cellsN (chan z 1 j)) rfl ((HR1.out.own 2 (by omega)).alloc _) ⟨w1.heap.size, 0, none⟩ 1 1 [.int .u8 (yb : Int)] rfl rfl (World.news_of_block (cs := #[.int .u8 (yb : Int)]) (t := 5) (fr := (0, 0)) (heap_alloc_new w1 _)) (by simp [Value.oneCell']) (by omega) (by have := HCL.out 1; unfold maxLen; omega) (by have := HCL.out 1; omega) (by have := HR1.out.kept.size; have := HB.out; simp; omega) (w1.heap.size + 1) (by simp) ?_; intro g2 cap2 w2 hown hgrow hat hlt3; have HR2 := Lib.hid (HR1.out.app 2 (by omega) _ [yb] g2 cap2 hown hgrow hat); clear hown hgrow hat hlt3)
        | (at_builtin; refine wpList_append_lies _ rfl _ _ _ rfl B 5 i0 _ 1 1 Tryz.underlying22 hi0 hz0 hz1 hz2 rfl (by omega) u12 (chan z 2 j).length (cellsN (chan z 2 j)) rfl ((HR2.out.own 3 (by omega)).alloc _) ⟨w2.heap.size, 0, none⟩ 1 1 [.int .u8 (yr : Int)] rfl rfl (World.news_of_block (cs := #[.int .u8 (yr : Int)]) (t := 5) (fr := (0, 0)) (heap_alloc_new w2 _)) (by simp [Value.oneCell']) (by omega) (by have := HCL.out 2; unfold maxLen; omega) (by have := HCL.out 2; omega) (by have := HR2.out.kept.size; have := HB.out; simp; omega) (w2.heap.size + 1) (by simp) ?_; intro g3 cap3 w3 hown hgrow hat hlt3; have HR3 := Lib.hid (HR2.out.app 3 (by omega) _ [yr] g3 cap3 hown hgrow hat); clear hown hgrow hat hlt3))
      obtain ⟨j0, j1, jn, j2, j3, j4, j5, t1, t2, hw1, hw2⟩ := HJ.out
      obtain ⟨p0, p1, p2⟩ := HFP.out w3 HR3.out.kept
      have HV := Lib.hid (HR3.out.heap (W' := w3.drew) rfl HR3.out.kept.drew)
      have HLR := Lib.hid (rgba4_len z j)
      have hBV : B ≤ w3.heap.size := by have := HR3.out.kept.size; rw [HB.out] at this; exact this
      have HBV := Lib.hid hBV
      clear hBV HR0' HR0 HR1 HR2 HR3
      go_region_held3 (fun w' => w'.cell? ⟨b, off + p, none⟩ = some (.int .u8 (a0 : Int)) ∧ w'.cell? ⟨b, off + (p + 1), none⟩ = some (.int .u8 (a1 : Int)) ∧ w'.cell? ⟨b, off + (p + 2), none⟩ = some (.int .u8 (a2 : Int)))
        (first | go_keep | exact QC)
        ((refine step_append_lies _ (by rfl) _ _ _ (by rfl) B 5 i0 _ 1 1 Tryz.underlying22 hi0 hz0 hz1 hz2 rfl (by omega) u9 (rgba4 z j).length (cellsN (rgba4 z j)) (by rfl) ((HV.out.own 0 (by omega)).alloc _) ⟨w3.heap.size, 0, none⟩ 4 4 [.int .u8 (a0 : Int), .int .u8 (a1 : Int), .int .u8 (a2 : Int), .int .u8 255] (by rfl) (by rfl) (World.news_of_block (cs := #[.int .u8 (a0 : Int), .int .u8 (a1 : Int), .int .u8 (a2 : Int), .int .u8 255]) (t := 5) (fr := (0, 0)) (heap_alloc_new w3.drew _)) (by simp [Value.oneCell']) (by omega) (by have := HLR.out; unfold maxLen; omega) (by have := HLR.out; omega) (by have := HBV.out; simp at this ⊢; omega) (w3.heap.size + 1) (by simp) ?_; intro g4 cap4 w4 hown4 hgrow4 hat4 hlt4; have R4 := HV.out.app 0 (by omega) _ [a0, a1, a2, 255] g4 cap4 hown4 hgrow4 hat4; have QC := HFP.out w4 R4.kept; have P4 := Lib.hid R4; clear hown4 hgrow4 hat4 hlt4 R4))
      clear p0 p1 p2 j0 j1 jn j2 j3 j4 j5 t1 t2 hw1 hw2 hi0 hz0 hz1 hz2
      go_wp2_with fail
      go_roundg (N - (j + 1))
      case measure => go_light; omega
      case rel =>
        go_light
        refine ⟨j + 1, by omega, rfl, ?_, ?_⟩
        · exact congrArg (Value.int .i64) (by omega)
        · obtain ⟨hr4, hyy, hyb, hyr⟩ := HR.out
          refine P4.out.congr (fun i hi => ?_) (fun i hi => ?_)
          · obtain rfl | rfl | rfl | rfl : i = 0 ∨ i = 1 ∨ i = 2 ∨ i = 3 := by omega
            all_goals rfl
          · obtain rfl | rfl | rfl | rfl : i = 0 ∨ i = 1 ∨ i = 2 ∨ i = 3 := by omega
            · exact hr4.symm
            · exact congrArg (fun v => chan z 0 j ++ [v]) hyy.symm
            · exact congrArg (fun v => chan z 1 j ++ [v]) hyb.symm
            · exact congrArg (fun v => chan z 2 j ++ [v]) hyr.symm
    · obtain rfl : j = N := by omega
      obtain rfl : p = L := by omega
      have o0 : wr.ownsRow B 5 1 u9 (4 * j) (cellsN (rgba4 z j)) := by
        have := hS.own 0 (by omega)
        rw [show (tr z j j 0).length = 4 * j from rgba4_len z j] at this
        exact this
      have o1 : wr.ownsRow B 5 1 u10 j (cellsN (chan z 0 j)) := by
        have := hS.own 1 (by omega)
        rw [show (tr z j j 1).length = j from chan_len z 0 j] at this
        exact this
      have o2 : wr.ownsRow B 5 1 u11 j (cellsN (chan z 1 j)) := by
        have := hS.own 2 (by omega)
        rw [show (tr z j j 2).length = j from chan_len z 1 j] at this
        exact this
      have o3 : wr.ownsRow B 5 1 u12 j (cellsN (chan z 2 j)) := by
        have := hS.own 3 (by omega)
        rw [show (tr z j j 3).length = j from chan_len z 2 j] at this
        exact this
      have hK := hS.kept
      clear hS
      obtain ⟨g0, k0, rfl, hgB0, hgl0⟩ := o0.form (by omega)
      obtain ⟨g1, k1, rfl, hgB1, hgl1⟩ := o1.form (by omega)
      obtain ⟨g2, k2, rfl, hgB2, hgl2⟩ := o2.form (by omega)
      obtain ⟨g3, k3, rfl, hgB3, hgl3⟩ := o3.form (by omega)
      have CA3 := Lib.hid (CA.out g0 k0 wr o0 hK)
      have HO := Lib.hid (And.intro o1 (And.intro o2 (And.intro o3 hK)))
      clear hK o0 o1 o2 o3 CA hgB0 hgB1 hgB2 hgB3 hgl0 hgl1 hgl2 hgl3
      go_wp2_with (go_at_call 12; (with_reducible refine CA3.out.mono ?_); rintro e w3 ⟨g4, c4, rfl, ho, hk⟩; have HA := Lib.hid (And.intro ho (And.intro (ownsRow_kept' HO.out.1 hk) (And.intro (ownsRow_kept' HO.out.2.1 hk) (And.intro (ownsRow_kept' HO.out.2.2.1 hk) (HO.out.2.2.2.trans (hk.mono fun _ _ _ => trivial)))))); clear ho hk CA3)
      refine (CB.out g1 g2 g3 k1 k2 k3 w3 HA.out.2.1 HA.out.2.2.1 HA.out.2.2.2.1 HA.out.2.2.2.2).mono ?_
      rintro e w4 ⟨g5, c5, rfl, ho, hk⟩
      have hc1 := HSR.out (ownsRow_kept' HA.out.1 hk)
      have hc2 := HSR.out ho
      have HD := Lib.hid (HA.out.2.2.2.2.trans (hk.mono fun _ _ _ => trivial))
      clear ho hk CB
      go_wp2_with fail
      go_ret
      rw [HB.out]
      exact ⟨rfl, HD.out⟩
end Go.Proofs.YtghjlekdibcjdaaGreatDoor
