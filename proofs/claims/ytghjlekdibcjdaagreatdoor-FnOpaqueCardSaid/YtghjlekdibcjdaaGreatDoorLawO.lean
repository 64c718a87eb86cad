/- The law Opaque: its walk. -/
import Derived.Test.YtghjlekdibcjdaaGreatDoorOpq
import Derived.Test.YtghjlekdibcjdaaGreatDoorNR
import Derived.Deep.RegionHeld3
namespace Go.Proofs.YtghjlekdibcjdaaGreatDoor
open Go.Deep Go.RowKit
set_option linter.unusedVariables false
set_option maxHeartbeats 1000000 in
set_option maxRecDepth 100000 in
theorem op_huge (a : Option Addr) (len cap : Nat) (x y wide high q : Int) (w : World) (hl : len ≤ 9223372036854775807) (h : 2147483647 < len) :
    Calls Tryz.prog 5 #[.slice a len cap, .int .i64 x, .int .i64 y, .int .i64 wide, .int .i64 high, .int .i64 q] w fun e w' => e = .returned (.bool true) ∧ Kept (fun k => k < w.heap.size) w w' := by
  go_enter Tryz.func5, Tryz.ntmps5
  go_wp2
  go_ret
  exact ⟨rfl, Kept.refl _ _⟩
set_option maxHeartbeats 1000000 in
set_option maxRecDepth 100000 in
theorem op_not (a : Option Addr) (len cap : Nat) (x y wide high q p : Int) (w : World) (hl : len ≤ 2147483647) (hp : wide * high = p) (hn : ¬ (1 ≤ wide ∧ 1 ≤ high ∧ wide ≤ 65535 ∧ high ≤ 65535 ∧ p ≤ 65536 ∧ 1 ≤ q ∧ q ≤ 100 ∧ (len : Int) = p * 3)) :
    Calls Tryz.prog 5 #[.slice a len cap, .int .i64 x, .int .i64 y, .int .i64 wide, .int .i64 high, .int .i64 q] w fun e w' => e = .returned (.bool true) ∧ Kept (fun k => k < w.heap.size) w w' := by
  have CS := Lib.hid (sized3_false wide high q len p w hp hn)
  clear hn hp
  go_enter Tryz.func5, Tryz.ntmps5
  go_wp2_with (go_at_call 9; (with_reducible refine CS.out.mono ?_); rintro e w2 ⟨rfl, rfl⟩)
  go_ret
  exact ⟨rfl, Kept.refl _ _⟩
set_option maxHeartbeats 1000000 in
set_option maxRecDepth 100000 in
theorem op_far (a : Option Addr) (len cap : Nat) (x y wide high q p : Int) (w : World) (hl : len ≤ 2147483647) (hp : wide * high = p) (hn : 1 ≤ wide ∧ 1 ≤ high ∧ wide ≤ 65535 ∧ high ≤ 65535 ∧ p ≤ 65536 ∧ 1 ≤ q ∧ q ≤ 100 ∧ (len : Int) = p * 3) (hf : ¬ ((-1048576 ≤ x ∧ x ≤ 1048576) ∧ (-1048576 ≤ y ∧ y ≤ 1048576))) :
    Calls Tryz.prog 5 #[.slice a len cap, .int .i64 x, .int .i64 y, .int .i64 wide, .int .i64 high, .int .i64 q] w fun e w' => e = .returned (.bool true) ∧ Kept (fun k => k < w.heap.size) w w' := by
  have CS := Lib.hid (sized3_true wide high q len p w hp hn)
  clear hn hp
  by_cases hx : -1048576 ≤ x ∧ x ≤ 1048576
  · have CX := Lib.hid (near_true x w hx)
    have CY := Lib.hid (near_false y w (fun h => hf ⟨hx, h⟩))
    clear hx hf
    go_enter Tryz.func5, Tryz.ntmps5
    go_wp2_with (first
      | (go_at_call 9; (with_reducible refine CS.out.mono ?_); rintro e w2 ⟨rfl, rfl⟩)
      | (go_at_call 11; (with_reducible refine CX.out.mono ?_); rintro e w3 ⟨rfl, rfl⟩; clear CX)
      | (go_at_call 11; (with_reducible refine CY.out.mono ?_); rintro e w3 ⟨rfl, rfl⟩))
    go_ret
    exact ⟨rfl, Kept.refl _ _⟩
  · have CX := Lib.hid (near_false x w hx)
    clear hx hf
    go_enter Tryz.func5, Tryz.ntmps5
    go_wp2_with (first
      | (go_at_call 9; (with_reducible refine CS.out.mono ?_); rintro e w2 ⟨rfl, rfl⟩)
      | (go_at_call 11; (with_reducible refine CX.out.mono ?_); rintro e w3 ⟨rfl, rfl⟩))
    go_ret
    exact ⟨rfl, Kept.refl _ _⟩
set_option maxHeartbeats 4000000 in
set_option maxRecDepth 100000 in
theorem op_ok (b off cap : Nat) (wd hg : Nat) (z : List Int) (x y q : Int) (R : List Nat) (w : World) (hx : -1048576 ≤ x ∧ x ≤ 1048576) (hy : -1048576 ≤ y ∧ y ≤ 1048576) (hlen : wd * hg ≤ 65536) (h1 : 1 ≤ wd) (h2 : 1 ≤ hg) (h3 : wd ≤ 65535) (h4 : hg ≤ 65535) (hq0 : 1 ≤ q) (hq1 : q ≤ 100) (hcell : ∀ i, i < 3 * (wd * hg) → w.cell? ⟨b, off + i, none⟩ = some (.int .u8 (z.getD i 0))) (hz : ∀ i, 0 ≤ z.getD i 0 ∧ z.getD i 0 ≤ 255) (hR : 1 ≤ R.length) (hR2 : R.length ≤ 9223372036854775807)
    (hA : PixC 12 (fun v => #[v, .int .i64 x, .int .i64 y, .int .i64 (wd : Int), .int .i64 (hg : Int), .int .i64 q]) (4 * (wd * hg)) w.heap.size (rgba4 z (wd * hg)) R w)
    (hB : PixC 13 (fun v => #[v, .int .i64 x, .int .i64 y, .int .i64 (wd : Int), .int .i64 (hg : Int), .int .i64 q]) (4 * (wd * hg)) w.heap.size (rgba4 z (wd * hg)) R w) :
    Calls Tryz.prog 5 #[.slice (some ⟨b, off, none⟩) (3 * (wd * hg)) cap, .int .i64 x, .int .i64 y, .int .i64 (wd : Int), .int .i64 (hg : Int), .int .i64 q] w fun e w' => e = .returned (.bool true) ∧ Kept (fun k => k < w.heap.size) w w' := by
  have hmul : ((wd : Nat) : Int) * ((hg : Nat) : Int) = ((wd * hg : Nat) : Int) := by simp
  have hN1 : 1 ≤ wd * hg := Nat.mul_pos h1 h2
  generalize hN : wd * hg = N at hlen hA hB hmul hcell hN1 ⊢
  obtain ⟨L, hL⟩ : ∃ L, 3 * N = L := ⟨_, rfl⟩
  rw [hL] at hcell ⊢
  have CS := Lib.hid (sized3_true wd hg q (L : Int) N w hmul (by omega))
  have CN := Lib.hid fun (v : Int) (W : World) (h : -1048576 ≤ v ∧ v ≤ 1048576) => near_true v W h
  have CA := Lib.hid hA
  have CB := Lib.hid hB
  have hbl : b < w.heap.size := block_lt_of_cell (hcell 0 (by omega))
  have HC := Lib.hid (And.intro hcell (And.intro hz hbl))
  clear hA hB hN hcell hz hbl
  have HSR : Hid (∀ {W : World} {B : Nat} {v : Value}, W.ownsRow B 5 1 v R.length (cellsN R) → (convert 22 9 v).run Tryz.prog W = .ok (.string (strN R)) W) := Lib.hid fun h => run_str_own h
  generalize strN R = SR at HSR
  unfold PixC at CA CB
  simp only [] at CA CB
  generalize R.length = LR at *
  obtain ⟨B, hB⟩ : ∃ B, w.heap.size = B := ⟨_, rfl⟩
  have HB := Lib.hid hB
  rw [hB] at CA CB HC
  clear hB
  obtain ⟨i0, hi0, hz0, hz1, hz2⟩ := info_parts info5
  have HI := Lib.hid (And.intro hi0 (And.intro hz0 (And.intro hz1 hz2)))
  clear hi0 hz0 hz1 hz2
  go_enter Tryz.func5, Tryz.ntmps5
  go_wp2_with (first
    | (go_at_call 9; (with_reducible refine CS.out.mono ?_); rintro e w2 ⟨rfl, hww⟩; subst w2)
    | (go_at_call 11; (with_reducible refine (CN.out _ _ hx).mono ?_); rintro e w2 ⟨rfl, hww⟩; subst w2)
    | (go_at_call 11; (with_reducible refine (CN.out _ _ hy).mono ?_); rintro e w2 ⟨rfl, hww⟩; subst w2))
  clear CS CN
  go_loopg [13, 14] N (fun k s13 s14 wr => ∃ j : Nat, j ≤ N ∧ k = N - j ∧ s14 = .int .i64 ((3 * j : Nat) : Int) ∧ wr.ownsRow B 5 1 s13 (4 * j) (cellsN (rgba4 z j)) ∧ Kept (fun k => k < B) w wr)
  case atStart => exact ⟨0, by omega, rfl, rfl, World.ownsRow_nil _ _ _ _, Kept.refl _ _⟩
  case round =>
    obtain ⟨j, hj, rfl, rfl, hO, hK⟩ := hrel
    obtain ⟨p, hp⟩ : ∃ p, 3 * j = p := ⟨_, rfl⟩
    rw [hp]
    by_cases hlt : j < N
    · have hfp : ∀ W, Kept (fun k => k < B) w W → W.cell? ⟨b, off + 3 * j, none⟩ = some (.int .u8 (pixN z (3 * j) : Int)) ∧ W.cell? ⟨b, off + (3 * j + 1), none⟩ = some (.int .u8 (pixN z (3 * j + 1) : Int)) ∧ W.cell? ⟨b, off + (3 * j + 2), none⟩ = some (.int .u8 (pixN z (3 * j + 2) : Int)) := fun W k => by
        refine ⟨?_, ?_, ?_⟩
        · have h := k.cellOf (HC.out.1 (3 * j) (by omega)) HC.out.2.2
          have := HC.out.2.1 (3 * j)
          rw [h]; unfold pixN; congr 2; omega
        · have h := k.cellOf (HC.out.1 (3 * j + 1) (by omega)) HC.out.2.2
          have := HC.out.2.1 (3 * j + 1)
          rw [h]; unfold pixN; congr 2; omega
        · have h := k.cellOf (HC.out.1 (3 * j + 2) (by omega)) HC.out.2.2
          have := HC.out.2.1 (3 * j + 2)
          rw [h]; unfold pixN; congr 2; omega
      have hr4 : cellsN (rgba4 z (j + 1)) = cellsN (rgba4 z j) ++ [.int .u8 (pixN z (3 * j) : Int), .int .u8 (pixN z (3 * j + 1) : Int), .int .u8 (pixN z (3 * j + 2) : Int), .int .u8 255] := by
        simp only [rgba4, cellsN_app]; rfl
      obtain ⟨a0, ha0⟩ : ∃ a, pixN z (3 * j) = a := ⟨_, rfl⟩
      obtain ⟨a1, ha1⟩ : ∃ a, pixN z (3 * j + 1) = a := ⟨_, rfl⟩
      obtain ⟨a2, ha2⟩ : ∃ a, pixN z (3 * j + 2) = a := ⟨_, rfl⟩
      rw [ha0, ha1, ha2] at hr4 hfp
      have HR := Lib.hid hr4
      obtain ⟨xs, hxs⟩ : ∃ xs, cellsN (rgba4 z j) = xs := ⟨_, rfl⟩
      rw [hxs] at HR hO
      have hlx : xs.length = 4 * j := by rw [← hxs, cellsN_len, rgba4_len]
      rw [hp] at hfp
      obtain ⟨p0, p1, p2⟩ := hfp wr hK
      have HFP := Lib.hid hfp
      clear hfp
      have j0 : (0 : Int) ≤ (p : Int) := by omega
      have j1 : (p : Int) < (L : Int) := by omega
      have jn : p < L := by omega
      have j2 : (0 : Int) ≤ (p : Int) + 1 := by omega
      have j3 : (p : Int) + 1 < (L : Int) := by omega
      have j4 : (0 : Int) ≤ (p : Int) + 2 := by omega
      have j5 : (p : Int) + 2 < (L : Int) := by omega
      have t1 : ((p : Int) + 1).toNat = p + 1 := by omega
      have t2 : ((p : Int) + 2).toNat = p + 2 := by omega
      have w1 : IntKind.i64.wrap ((p : Int) + 1) = (p : Int) + 1 := IntWalk.i64_in _ ⟨by omega, by omega⟩
      have w2 : IntKind.i64.wrap ((p : Int) + 2) = (p : Int) + 2 := IntWalk.i64_in _ ⟨by omega, by omega⟩
      have HO := Lib.hid (And.intro hO hK)
      have hsz : B ≤ wr.heap.size := by have := hK.size; rw [HB.out] at this; exact this
      have HW := Lib.hid (And.intro w1 w2)
      clear hO hK hr4 ha0 ha1 ha2 hxs w1 w2
      go_wp2_with fail
      obtain ⟨w1, w2⟩ := HW.out
      have hOV : wr.drew.ownsRow B 5 1 u13 (4 * j) xs := HO.out.1
      have hKV : Kept (fun k => k < B) w wr.drew := HO.out.2.drew
      have hBV : B ≤ wr.drew.heap.size := hsz
      have HV := Lib.hid (And.intro hOV (And.intro hKV hBV))
      clear hOV hKV hBV
      obtain ⟨hi0, hz0, hz1, hz2⟩ := HI.out
      go_region_held3 (fun w' => w'.cell? ⟨b, off + p, none⟩ = some (.int .u8 (a0 : Int)) ∧ w'.cell? ⟨b, off + (p + 1), none⟩ = some (.int .u8 (a1 : Int)) ∧ w'.cell? ⟨b, off + (p + 2), none⟩ = some (.int .u8 (a2 : Int)))
        (first | go_keep | exact QC)
        ((refine step_append_lies _ (by rfl) _ _ _ (by rfl) B 5 i0 _ 1 1 Tryz.underlying22 hi0 hz0 hz1 hz2 rfl (by omega) u13 (4 * j) xs (by rfl) (HV.out.1.alloc _) ⟨wr.heap.size, 0, none⟩ 4 4 [.int .u8 (a0 : Int), .int .u8 (a1 : Int), .int .u8 (a2 : Int), .int .u8 255] (by rfl) (by rfl) (World.news_of_block (cs := #[.int .u8 (a0 : Int), .int .u8 (a1 : Int), .int .u8 (a2 : Int), .int .u8 255]) (t := 5) (fr := (0, 0)) (heap_alloc_new wr.drew _)) (by simp [Value.oneCell']) (by omega) (by unfold maxLen; omega) (by omega) (by have := HV.out.2.2; simp at this ⊢; omega) (wr.heap.size + 1) (by simp) ?_; intro g2 cap2 w3 hown3 hgrow3 hat3 hlt3; have hk3 := Kept.grown (HV.out.2.1.alloc _) hgrow3 (HV.out.1.alloc _); have QC := HFP.out w3 hk3; have P3 := Lib.hid (And.intro hown3 hk3); clear hown3 hgrow3 hat3 hlt3 hk3))
      clear p0 p1 p2 j0 j1 jn j2 j3 j4 j5 t1 t2 w1 w2 hsz hi0 hz0 hz1 hz2
      go_wp2_with fail
      go_roundg (N - (j + 1))
      case measure => go_light; omega
      case rel =>
        go_light
        refine ⟨j + 1, by omega, rfl, ?_, ?_, ?_⟩
        · exact congrArg (Value.int .i64) (by omega)
        · rw [HR.out]
          exact P3.out.1
        · exact P3.out.2
    · obtain rfl : j = N := by omega
      obtain ⟨g, cp, rfl, hgB, hgl⟩ := hO.form (by omega)
      have CA2 := CA.out g cp wr hO hK
      have CA3 := Lib.hid CA2
      have HO := Lib.hid (And.intro hO hK)
      clear hO hK CA CA2 hgl
      obtain rfl : p = L := by omega
      go_wp2_with (go_at_call 12; (with_reducible refine CA3.out.mono ?_); rintro e w3 ⟨g1, c1, rfl, ho, hk⟩; have HA := Lib.hid (And.intro ho (And.intro (ownsRow_kept' HO.out.1 hk) (HO.out.2.trans (hk.mono fun _ _ _ => trivial)))); clear ho hk CA3)
      refine (CB.out g cp w3 HA.out.2.1 HA.out.2.2).mono ?_
      rintro e w4 ⟨g2, c2, rfl, ho, hk⟩
      have hc1 := HSR.out (ownsRow_kept' HA.out.1 hk)
      have hc2 := HSR.out ho
      have HD := Lib.hid (HA.out.2.2.trans (hk.mono fun _ _ _ => trivial))
      clear ho hk CB
      go_wp2_with fail
      go_ret
      rw [HB.out]
      exact ⟨rfl, HD.out⟩
/-- EncodeNRGBA of the pixels that were laid. -/
theorem pixC_nrgba (z : List Int) (hz : ∀ i, 0 ≤ z.getD i 0 ∧ z.getD i 0 ≤ 255) (x y : Int) (wd hg : Nat) (q : Int) (U : Nat → Nat) (w : World) (hs : SizeOk x y wd hg) (hD : DoorAt U w) (hUs : ∀ i, U i ≤ 255) (h4 : 4 ≤ w.heap.size) (R : List Nat) (hR : streamC (quantOf U (scaleOf (qualOf q))) wd hg (planesOf fun c k => pixN (intsOf (rgba4 z (wd * hg))) (4 * k + c)) = R) :
    PixC 13 (fun v => #[v, .int .i64 x, .int .i64 y, .int .i64 (wd : Int), .int .i64 (hg : Int), .int .i64 q]) (4 * (wd * hg)) w.heap.size (rgba4 z (wd * hg)) R w := fun g cap W hO hK => by
  have hl := rgba4_len z (wd * hg)
  have hsz := hK.size
  rw [← Nat.mul_assoc] at hO hl ⊢
  have hpos : 1 ≤ R.length := by rw [← hR]; have := streamC_pos (quantOf U (scaleOf (qualOf q))) wd hg (planesOf fun c k => pixN (intsOf (rgba4 z (wd * hg))) (4 * k + c)); omega
  refine (implNrgba_any g 0 cap (intsOf (rgba4 z (wd * hg))) x y wd hg q U W (fun i hi => own_bytes hO hl i hi) (intsOf_in (rgba4_le hz _)) (ownsRow_cap hO) (fun k hk => by rw [intsOf_at, rgba4_at z _ k 3 hk (by omega)]; rfl) hs (hD.low hK h4) hUs (Nat.le_trans h4 hsz) R hR).mono ?_
  rintro e w' ⟨v, rfl, ho, hk⟩
  obtain ⟨g2, c2, rfl⟩ := ownsRow_some ho hpos
  exact ⟨g2, c2, rfl, ho, hk⟩
/-- The law Opaque. -/
theorem op_law (a : Option Addr) (len cap : Nat) (z : List Int) (x y wide high q : Int) (U : Nat → Nat) (w : World) (h : IsRow .u8 w a len cap z) (hD : DoorAt U w) (hU : ∀ i, U i ≤ 255) (h4 : 4 ≤ w.heap.size) :
    Calls Tryz.prog 5 #[.slice a len cap, .int .i64 x, .int .i64 y, .int .i64 wide, .int .i64 high, .int .i64 q] w fun e w' => e = .returned (.bool true) ∧ Kept (fun k => k < w.heap.size) w w' := by
  by_cases hl : len ≤ 2147483647
  · by_cases hs : 1 ≤ wide ∧ 1 ≤ high ∧ wide ≤ 65535 ∧ high ≤ 65535 ∧ wide * high ≤ 65536 ∧ 1 ≤ q ∧ q ≤ 100 ∧ (len : Int) = wide * high * 3
    · by_cases hf : (-1048576 ≤ x ∧ x ≤ 1048576) ∧ (-1048576 ≤ y ∧ y ≤ 1048576)
      · obtain ⟨wd, rfl⟩ : ∃ wd : Nat, wide = (wd : Int) := ⟨wide.toNat, by omega⟩
        obtain ⟨hg, rfl⟩ : ∃ hg : Nat, high = (hg : Int) := ⟨high.toNat, by omega⟩
        obtain ⟨s1, s2, s3, s4, s5, s7, s8, s6⟩ := hs
        rw [← Int.natCast_mul] at s5 s6
        obtain rfl : len = 3 * (wd * hg) := by omega
        have hp : 1 ≤ wd * hg := Nat.mul_pos (by omega) (by omega)
        obtain ⟨b, off, rfl, hcap, -, hcell, -⟩ := h.cells (by omega)
        have hsz : SizeOk x y wd hg := ⟨by omega, by omega, by omega, by omega, by omega, hf.1, hf.2⟩
        have hz : ∀ i, 0 ≤ z.getD i 0 ∧ z.getD i 0 ≤ 255 := fun i => h.u8 i
        have hC := streamC_pos (quantOf U (scaleOf (qualOf q))) wd hg (planesOf fun c k => pixN (intsOf (rgba4 z (wd * hg))) (4 * k + c))
        have hC2 := streamC_len (quantOf U (scaleOf (qualOf q))) (planesOf fun c k => pixN (intsOf (rgba4 z (wd * hg))) (4 * k + c)) (show 1 ≤ wd by omega) (show 1 ≤ hg by omega) (by omega)
        exact op_ok b off cap wd hg z x y q _ w hf.1 hf.2 (by omega) (by omega) (by omega) (by omega) (by omega) s7 s8 (fun i hi => hcell i (by omega)) hz (by omega) (by omega) (pixC_rgba z hz x y wd hg q U w hsz hD hU h4 _ rfl) (pixC_nrgba z hz x y wd hg q U w hsz hD hU h4 _ rfl)
      · exact op_far a len cap x y wide high q _ w hl rfl hs hf
    · exact op_not a len cap x y wide high q _ w hl rfl hs
  · exact op_huge a len cap x y wide high q w h.len_le (by omega)
end Go.Proofs.YtghjlekdibcjdaaGreatDoor
