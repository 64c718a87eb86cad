/- The contract of yCbCrToYCbCr of an image of a ratio of 4:4:4. -/
import Derived.Test.YtghjlekdibcjdaaGreatDoorCO
import Derived.Test.YtghjlekdibcjdaaGreatDoorYcB
namespace Go.Proofs.YtghjlekdibcjdaaGreatDoor
open Go.Deep Go.RowKit
set_option linter.unusedVariables false
/-- An image of three planes: its block, its planes' block, where its bounds begin, its size, its samples. -/
structure YccAt (bi bp : Nat) (x0 y0 : Int) (wd hg : Nat) (V : Nat → Nat → Nat) (w : World) : Prop where
  img : w.heap[bi]? = some (.cells #[.slice (some ⟨bp, 0, none⟩) (wd * hg) (wd * hg), .slice (some ⟨bp, wd * hg, none⟩) (wd * hg) (wd * hg), .slice (some ⟨bp, 2 * (wd * hg), none⟩) (wd * hg) (wd * hg), .int .i64 (wd : Int), .int .i64 (wd : Int), .int .i64 0, .int .i64 x0, .int .i64 y0, .int .i64 (x0 + wd), .int .i64 (y0 + hg)] 60 (0, 0))
  pix0 : ∀ k, k < wd * hg → w.cell? ⟨bp, k, none⟩ = some (.int .u8 (V 0 k : Int))
  pix1 : ∀ k, k < wd * hg → w.cell? ⟨bp, wd * hg + k, none⟩ = some (.int .u8 (V 1 k : Int))
  pix2 : ∀ k, k < wd * hg → w.cell? ⟨bp, 2 * (wd * hg) + k, none⟩ = some (.int .u8 (V 2 k : Int))
  small : ∀ c k, V c k ≤ 255
theorem YccAt.kept {bi bp : Nat} {x0 y0 : Int} {wd hg : Nat} {V : Nat → Nat → Nat} {S : Nat → Prop} {w w' : World} (h : YccAt bi bp x0 y0 wd hg V w) (k : Kept S w w') (h1 : S bi) (h2 : S bp) : YccAt bi bp x0 y0 wd hg V w' :=
  ⟨(k.block bi (Array.getElem?_eq_some_iff.1 h.img).1 h1).trans h.img, fun i hi => k.cellOf (h.pix0 i hi) h2, fun i hi => k.cellOf (h.pix1 i hi) h2, fun i hi => k.cellOf (h.pix2 i hi) h2, h.small⟩
set_option maxRecDepth 100000 in
theorem boundsYcc (bi : Nat) (v0 v1 v2 v3 v4 v5 : Value) (x0 y0 x1 y1 : Int) (w : World) (h : w.heap[bi]? = some (.cells #[v0, v1, v2, v3, v4, v5, .int .i64 x0, .int .i64 y0, .int .i64 x1, .int .i64 y1] 60 (0, 0))) :
    Calls Tryz.prog 76 #[.pointer (some ⟨bi, 0, none⟩)] w fun e w' => e = .returned (rectV x0 y0 x1 y1) ∧ Kept (fun _ => True) w w' := by
  have hb : bi < w.heap.size := (Array.getElem?_eq_some_iff.1 h).1
  have K1 := (Kept.refl (fun _ => True) w).alloc (.cells #[.int .i64 0, .int .i64 0, .int .i64 0, .int .i64 0] 40)
  have h2 := (K1.block _ hb trivial).trans h
  have c2 : (w.alloc (.cells #[.int .i64 0, .int .i64 0, .int .i64 0, .int .i64 0] 40)).cell? ⟨bi, 6, none⟩ = some (.int .i64 x0) := by unfold World.cell?; simp only [h2]; rfl
  have c3 : (w.alloc (.cells #[.int .i64 0, .int .i64 0, .int .i64 0, .int .i64 0] 40)).cell? ⟨bi, 7, none⟩ = some (.int .i64 y0) := by unfold World.cell?; simp only [h2]; rfl
  have c4 : (w.alloc (.cells #[.int .i64 0, .int .i64 0, .int .i64 0, .int .i64 0] 40)).cell? ⟨bi, 8, none⟩ = some (.int .i64 x1) := by unfold World.cell?; simp only [h2]; rfl
  have c5 : (w.alloc (.cells #[.int .i64 0, .int .i64 0, .int .i64 0, .int .i64 0] 40)).cell? ⟨bi, 9, none⟩ = some (.int .i64 y1) := by unfold World.cell?; simp only [h2]; rfl
  clear h2
  unfold rectV
  go_enter Tryz.func76, Tryz.ntmps76
  go_wp2
  exact bodyPost_ret (v := .agg #[.int .i64 x0, .int .i64 y0, .int .i64 x1, .int .i64 y1]) (results_cell_row Tryz.results76 _ _ w.heap.size 40 _ (0, 0) _ rfl (heap_alloc_new _ _) Tryz.underlying40 rfl (by kernel_rfl)) rfl ⟨rfl, (Kept.refl _ w).alloc _⟩
set_option maxHeartbeats 1000000 in
set_option maxRecDepth 100000 in
theorem yOff_any (bi : Nat) (v0 v1 v2 : Value) (x0 y0 x1 y1 x y : Int) (wd c a p : Nat) (w : World) (h : w.heap[bi]? = some (.cells #[v0, v1, v2, .int .i64 (wd : Int), .int .i64 (wd : Int), .int .i64 0, .int .i64 x0, .int .i64 y0, .int .i64 x1, .int .i64 y1] 60 (0, 0))) (hx : x - x0 = (a : Int)) (hy : y - y0 = (c : Int)) (hp : c * wd = p) (ha : a ≤ 1048576) (hc : c ≤ 1048576) (hpl : p ≤ 1073741824) :
    Calls Tryz.prog 77 #[.pointer (some ⟨bi, 0, none⟩), .int .i64 x, .int .i64 y] w fun e w' => e = .returned (.int .i64 ((p + a : Nat) : Int)) ∧ Kept (fun _ => True) w w' := by
  have c1 : w.cell? ⟨bi, 3, none⟩ = some (.int .i64 (wd : Int)) := by unfold World.cell?; simp only [h]; rfl
  have c5 : w.cell? ⟨bi, 5, none⟩ = some (.int .i64 0) := by unfold World.cell?; simp only [h]; rfl
  have c2 : w.cell? ⟨bi, 6, none⟩ = some (.int .i64 x0) := by unfold World.cell?; simp only [h]; rfl
  have c3 : w.cell? ⟨bi, 7, none⟩ = some (.int .i64 y0) := by unfold World.cell?; simp only [h]; rfl
  have hpi : (c : Int) * (wd : Int) = (p : Int) := by rw [← hp]; simp
  have ew1 : IntKind.i64.wrap (a : Int) = (a : Int) := IntWalk.i64_in _ ⟨by omega, by omega⟩
  have ew2 : IntKind.i64.wrap (c : Int) = (c : Int) := IntWalk.i64_in _ ⟨by omega, by omega⟩
  have ew3 : IntKind.i64.wrap (p : Int) = (p : Int) := IntWalk.i64_in _ ⟨by omega, by omega⟩
  have ew4 : IntKind.i64.wrap ((p : Int) + (a : Int)) = (p : Int) + (a : Int) := IntWalk.i64_in _ ⟨by omega, by omega⟩
  have epa : ((p + a : Nat) : Int) = (p : Int) + (a : Int) := by omega
  rw [epa]
  have HK := Lib.hid ((Kept.refl (fun _ => True) w).drew)
  clear h hp epa ha hc hpl
  go_enter Tryz.func77, Tryz.ntmps77
  go_wp2_with fail
  go_quiet (fail)
  go_wp2_with fail
  go_ret
  exact ⟨rfl, (Kept.refl _ _).drewN _⟩
set_option maxHeartbeats 1000000 in
set_option maxRecDepth 100000 in
theorem cOff_any (bi : Nat) (v0 v1 v2 : Value) (x0 y0 x1 y1 x y : Int) (wd c a p : Nat) (w : World) (h : w.heap[bi]? = some (.cells #[v0, v1, v2, .int .i64 (wd : Int), .int .i64 (wd : Int), .int .i64 0, .int .i64 x0, .int .i64 y0, .int .i64 x1, .int .i64 y1] 60 (0, 0))) (hx : x - x0 = (a : Int)) (hy : y - y0 = (c : Int)) (hp : c * wd = p) (ha : a ≤ 1048576) (hc : c ≤ 1048576) (hpl : p ≤ 1073741824) :
    Calls Tryz.prog 78 #[.pointer (some ⟨bi, 0, none⟩), .int .i64 x, .int .i64 y] w fun e w' => e = .returned (.int .i64 ((p + a : Nat) : Int)) ∧ Kept (fun _ => True) w w' := by
  have c1 : w.cell? ⟨bi, 4, none⟩ = some (.int .i64 (wd : Int)) := by unfold World.cell?; simp only [h]; rfl
  have c5 : w.cell? ⟨bi, 5, none⟩ = some (.int .i64 0) := by unfold World.cell?; simp only [h]; rfl
  have c2 : w.cell? ⟨bi, 6, none⟩ = some (.int .i64 x0) := by unfold World.cell?; simp only [h]; rfl
  have c3 : w.cell? ⟨bi, 7, none⟩ = some (.int .i64 y0) := by unfold World.cell?; simp only [h]; rfl
  have hpi : (c : Int) * (wd : Int) = (p : Int) := by rw [← hp]; simp
  have ew1 : IntKind.i64.wrap (a : Int) = (a : Int) := IntWalk.i64_in _ ⟨by omega, by omega⟩
  have ew2 : IntKind.i64.wrap (c : Int) = (c : Int) := IntWalk.i64_in _ ⟨by omega, by omega⟩
  have ew3 : IntKind.i64.wrap (p : Int) = (p : Int) := IntWalk.i64_in _ ⟨by omega, by omega⟩
  have ew4 : IntKind.i64.wrap ((p : Int) + (a : Int)) = (p : Int) + (a : Int) := IntWalk.i64_in _ ⟨by omega, by omega⟩
  have epa : ((p + a : Nat) : Int) = (p : Int) + (a : Int) := by omega
  rw [epa]
  have HK := Lib.hid ((Kept.refl (fun _ => True) w).drew)
  clear h hp epa ha hc hpl
  go_enter Tryz.func78, Tryz.ntmps78
  go_wp2_with fail
  go_quiet (fail)
  go_wp2_with fail
  go_ret
  exact ⟨rfl, (Kept.refl _ _).drewN _⟩
theorem CY.drew3 {w : World} {b cb cr o B0 RB : Nat} {u v r0 r1 r2 r3 : Value} {S : Nat → Nat → Value} {f fc fr : Nat → Value} {n : Nat} {wr : World} (h : CY w b cb cr o B0 RB u v r0 r1 r2 r3 S f fc fr n wr) : CY w b cb cr o B0 RB u v r0 r1 r2 r3 S f fc fr n wr.drew.drew.drew :=
  ⟨h.kept.drew.drew.drew, h.pt, h.box, h.row, h.rowb, h.rowr⟩
set_option maxHeartbeats 8000000 in
set_option maxRecDepth 100000 in
theorem yccBlock_any (bi bp b cb cr o : Nat) (x0 y0 : Int) (wd hg : Nat) (V : Nat → Nat → Nat) (bx by' : Nat) (f fc fr : Nat → Value) (w : World) (hG : YccAt bi bp x0 y0 wd hg V w) (hs : SizeOk x0 y0 wd hg) (hx : bx ≤ 131072) (hy : by' ≤ 131072) (hr : w.rowIs b 132 64 f) (hrb : w.rowIs cb 133 256 fc) (hrr : w.rowIs cr 133 256 fr) (ho : o + 64 ≤ 256) (hcr : cb ≠ cr) (hp : b ≠ bp ∧ cb ≠ bp ∧ cr ≠ bp) :
    Calls Tryz.prog 59 #[.pointer (some ⟨bi, 0, none⟩), .agg #[.int .i64 (x0 + bx), .int .i64 (y0 + by')], .pointer (some ⟨b, 0, none⟩), .pointer (some ⟨cb, o, none⟩), .pointer (some ⟨cr, o, none⟩)] w fun e w' => e = .returned (.tuple #[]) ∧ w'.rowIs b 132 64 (smp wd hg (V 0) bx by') ∧ w'.rowIs cb 133 256 (upAt o 64 (smp wd hg (V 1) bx by') fc) ∧ w'.rowIs cr 133 256 (upAt o 64 (smp wd hg (V 2) bx by') fr) ∧ Kept (fun k => k ≠ b ∧ k ≠ cb ∧ k ≠ cr) w w' := by
  obtain ⟨s1, s2, s3, s4, s5, ⟨s6, s7⟩, ⟨s8, s9⟩⟩ := hs
  have CB := Lib.hid (boundsYcc bi _ _ _ _ _ _ x0 y0 (x0 + wd) (y0 + hg) (w.alloc (.cells #[.int .i64 (x0 + bx), .int .i64 (y0 + by')] 38)) (((Kept.refl (fun _ => True) w).alloc _ |>.block bi (Array.getElem?_eq_some_iff.1 hG.img).1 trivial).trans hG.img))
  unfold rectV at CB
  have HG := Lib.hid (And.intro hG (And.intro hr (And.intro hrb hrr)))
  have HP := Lib.hid hp
  clear hG hr hrb hrr hp
  go_enter Tryz.func59, Tryz.ntmps59
  go_wp2_with (go_at_call 76; (with_reducible refine CB.out.mono ?_); rintro e w1 ⟨rfl, k1⟩; have K1 := Lib.hid k1; obtain ⟨RB, hRB⟩ : ∃ RB, w1.heap.size = RB := ⟨_, rfl⟩; have hbx : (w1.alloc (.cells #[.int .i64 x0, .int .i64 y0, .int .i64 (x0 + wd), .int .i64 (y0 + hg)] 40)).heap[RB]? = some (.cells #[.int .i64 x0, .int .i64 y0, .int .i64 (x0 + wd), .int .i64 (y0 + hg)] 40 (0, 0)) := (by rw [← hRB]; exact heap_alloc_new _ _); obtain ⟨r0, r1, r2, r3, r4⟩ := buf_cells hbx; have HBX := Lib.hid (And.intro hRB hbx); clear k1 hbx)
  clear r0 r1 r2 r3 r4 CB
  have hCY0 : CY w b cb cr o w.heap.size RB (.int .i64 (x0 + bx)) (.int .i64 (y0 + by')) (.int .i64 x0) (.int .i64 y0) (.int .i64 (x0 + wd)) (.int .i64 (y0 + hg)) (fun c => smp wd hg (V c) bx by') f fc fr 0 (w1.alloc (.cells #[.int .i64 x0, .int .i64 y0, .int .i64 (x0 + wd), .int .i64 (y0 + hg)] 40)) := by
    have hk0 : Kept (fun _ => True) w w1 := ((Kept.refl _ w).alloc _).trans K1.out
    have hk := hk0.alloc (.cells #[.int .i64 x0, .int .i64 y0, .int .i64 (x0 + wd), .int .i64 (y0 + hg)] 40)
    have hka : Kept (fun _ => True) w1 (w1.alloc (.cells #[.int .i64 x0, .int .i64 y0, .int .i64 (x0 + wd), .int .i64 (y0 + hg)] 40)) := (Kept.refl _ _).alloc _
    have hp1 := (K1.out.block w.heap.size (by simp) trivial).trans (heap_alloc_new w (.cells #[.int .i64 (x0 + bx), .int .i64 (y0 + by')] 38))
    exact ⟨hk.mono fun _ _ _ => trivial, (hka.block _ (Array.getElem?_eq_some_iff.1 hp1).1 trivial).trans hp1, HBX.out.2, (hk.row HG.out.2.1 trivial).congr fun j _ => upAt_zero _ _ _ j, (hk.row HG.out.2.2.1 trivial).congr fun j _ => upAt_zero _ _ _ j, (hk.row HG.out.2.2.2 trivial).congr fun j _ => upAt_zero _ _ _ j⟩
  obtain ⟨n, hn⟩ : ∃ n, wd * hg = n := ⟨_, rfl⟩
  obtain ⟨n2, hn2⟩ : ∃ n2, 2 * n = n2 := ⟨_, rfl⟩
  rw [hn] at s5
  have HN := Lib.hid hn
  have HN2 := Lib.hid hn2
  clear hn hn2
  go_loopg [13] 8 (fun k s13 wr => ∃ j : Nat, j ≤ 8 ∧ k = 8 - j ∧ s13 = .int .i64 (j : Int) ∧ CY w b cb cr o w.heap.size RB (.int .i64 (x0 + bx)) (.int .i64 (y0 + by')) (.int .i64 x0) (.int .i64 y0) (.int .i64 (x0 + wd)) (.int .i64 (y0 + hg)) (fun c => smp wd hg (V c) bx by') f fc fr (8 * j) wr)
  case atStart => exact ⟨0, by omega, rfl, rfl, hCY0⟩
  case round =>
    clear hCY0 K1 HBX
    obtain ⟨j, hj, rfl, rfl, hS⟩ := hrel
    by_cases hlt : j < 8
    · have hjd : decide ((j : Int) < 8) = true := by simp; omega
      obtain ⟨a0, a1⟩ := two_cells hS.pt
      obtain ⟨c, hcc⟩ : ∃ c, min (by' + j) (hg - 1) = c := ⟨_, rfl⟩
      have HCC := Lib.hid hcc
      have HS := Lib.hid hS
      have hys : (by' + j ≤ hg - 1 ∧ c = by' + j) ∨ (hg ≤ by' + j ∧ c = hg - 1) := by omega
      clear hS hcc a0
      rcases hys with ⟨u3, u4⟩ | ⟨u3, u4⟩
      · go_wp2_with fail
        go_loopg [15] 8 (fun k s15 wr => ∃ i : Nat, i ≤ 8 ∧ k = 8 - i ∧ s15 = .int .i64 (i : Int) ∧ CY w b cb cr o w.heap.size RB (.int .i64 (x0 + bx)) (.int .i64 (y0 + by')) (.int .i64 x0) (.int .i64 y0) (.int .i64 (x0 + wd)) (.int .i64 (y0 + hg)) (fun c => smp wd hg (V c) bx by') f fc fr (8 * j + i) wr)
        case atStart => exact ⟨0, by omega, rfl, rfl, HS.out⟩
        case round =>
          clear a1 HS
          obtain ⟨i, hi, rfl, rfl, hS⟩ := hrel
          by_cases hlt2 : i < 8
          · have hid : decide ((i : Int) < 8) = true := by simp; omega
            have hG := HG.out.1.kept hS.kept ⟨type_ne HG.out.1.img (rowIs_heap HG.out.2.1) (by decide), type_ne HG.out.1.img (rowIs_heap HG.out.2.2.1) (by decide), type_ne HG.out.1.img (rowIs_heap HG.out.2.2.2) (by decide)⟩ ⟨Ne.symm HP.out.1, Ne.symm HP.out.2.1, Ne.symm HP.out.2.2⟩
            obtain ⟨a0, a1⟩ := two_cells hS.pt
            have hca : clampAt wd hg bx by' (8 * j + i) = min (by' + j) (hg - 1) * wd + min (bx + i) (wd - 1) := by
              unfold clampAt
              rw [show (8 * j + i) / 8 = j by omega, show (8 * j + i) % 8 = i by omega]
            have hcl := clamp_lt s1 s2 bx by' (8 * j + i)
            obtain ⟨a, ha⟩ : ∃ a, min (bx + i) (wd - 1) = a := ⟨_, rfl⟩
            obtain ⟨m, hm⟩ : ∃ m, c * wd = m := ⟨_, rfl⟩
            rw [HCC.out, hm, ha] at hca
            rw [hca, HN.out] at hcl
            have hmm : m ≤ 65536 := by omega
            obtain ⟨q, hq⟩ : ∃ q, m + a = q := ⟨_, rfl⟩
            have CP : Hid (∀ (x y : Int) (W : World), Kept (fun _ => True) wr W → x - x0 = (a : Int) → y - y0 = (c : Int) → Calls Tryz.prog 77 #[.pointer (some ⟨bi, 0, none⟩), .int .i64 x, .int .i64 y] W fun e w' => e = .returned (.int .i64 (q : Int)) ∧ Kept (fun _ => True) W w') := Lib.hid fun x y W k hx hy => by
              have h := yOff_any bi _ _ _ x0 y0 _ _ x y wd c a m W (hG.kept k trivial trivial).img hx hy hm (by omega) (by omega) (by omega)
              rw [hq] at h
              exact h
            have CQ : Hid (∀ (x y : Int) (W : World), Kept (fun _ => True) wr W → x - x0 = (a : Int) → y - y0 = (c : Int) → Calls Tryz.prog 78 #[.pointer (some ⟨bi, 0, none⟩), .int .i64 x, .int .i64 y] W fun e w' => e = .returned (.int .i64 (q : Int)) ∧ Kept (fun _ => True) W w') := Lib.hid fun x y W k hx hy => by
              have h := cOff_any bi _ _ _ x0 y0 _ _ x y wd c a m W (hG.kept k trivial trivial).img hx hy hm (by omega) (by omega) (by omega)
              rw [hq] at h
              exact h
            rw [hq] at hca hcl
            have p0 := hG.pix0 q (by rw [HN.out]; exact hcl)
            have p1 := hG.pix1 q (by rw [HN.out]; exact hcl)
            have p2 := hG.pix2 q (by rw [HN.out]; exact hcl)
            have v0 : (V 0 q : Int) ≤ 255 := by have := hG.small 0 q; omega
            have v1 : (V 1 q : Int) ≤ 255 := by have := hG.small 1 q; omega
            have v2 : (V 2 q : Int) ≤ 255 := by have := hG.small 2 q; omega
            have i0 : wr.cell? ⟨bi, 0, none⟩ = some (.slice (some ⟨bp, 0, none⟩) n n) := by unfold World.cell?; simp only [hG.img, HN.out]; rfl
            have i1 : wr.cell? ⟨bi, 1, none⟩ = some (.slice (some ⟨bp, n, none⟩) n n) := by unfold World.cell?; simp only [hG.img, HN.out]; rfl
            have i2 : wr.cell? ⟨bi, 2, none⟩ = some (.slice (some ⟨bp, n2, none⟩) n n) := by unfold World.cell?; simp only [hG.img, HN.out, HN2.out]; rfl
            rw [HN.out] at p1 p2
            rw [HN2.out] at p2
            have e0 : V 0 q = V 0 q := rfl
            have HV := Lib.hid (And.intro hS hca)
            obtain ⟨g0, hg0⟩ : ∃ g, V 0 q = g := ⟨_, rfl⟩
            obtain ⟨g1, hg1⟩ : ∃ g, V 1 q = g := ⟨_, rfl⟩
            obtain ⟨g2, hg2⟩ : ∃ g, V 2 q = g := ⟨_, rfl⟩
            have HV2 := Lib.hid (And.intro hg0 (And.intro hg1 hg2))
            rw [hg0] at p0 v0
            rw [hg1] at p1 v1
            rw [hg2] at p2 v2
            have t0 : wr.cell? ⟨b, 8 * j + i, none⟩ = some (upAt 0 (8 * j + i) (smp wd hg (V 0) bx by') f (8 * j + i)) := hS.row.cell (by omega)
            have t1 : wr.cell? ⟨cb, o + (8 * j + i), none⟩ = some (upAt o (8 * j + i) (smp wd hg (V 1) bx by') fc (o + (8 * j + i))) := hS.rowb.cell (by omega)
            have t2 : wr.cell? ⟨cr, o + (8 * j + i), none⟩ = some (upAt o (8 * j + i) (smp wd hg (V 2) bx by') fr (o + (8 * j + i))) := hS.rowr.cell (by omega)
            have z0 : wr.frozen? ⟨b, 8 * j + i, none⟩ = false := hS.row.frozen _
            have z1 : wr.frozen? ⟨cb, o + (8 * j + i), none⟩ = false := hS.rowb.frozen _
            have z2 : wr.frozen? ⟨cr, o + (8 * j + i), none⟩ = false := hS.rowr.frozen _
            generalize upAt 0 (8 * j + i) (smp wd hg (V 0) bx by') f (8 * j + i) = old0 at t0
            generalize upAt o (8 * j + i) (smp wd hg (V 1) bx by') fc (o + (8 * j + i)) = old1 at t1
            generalize upAt o (8 * j + i) (smp wd hg (V 2) bx by') fr (o + (8 * j + i)) = old2 at t2
            have hbc : b ≠ cb := type_ne (rowIs_heap hS.row) (rowIs_heap hS.rowb) (by decide)
            have hbr : b ≠ cr := type_ne (rowIs_heap hS.row) (rowIs_heap hS.rowr) (by decide)
            have hib : bi ≠ b := type_ne hG.img (rowIs_heap hS.row) (by decide)
            have hicb : bi ≠ cb := type_ne hG.img (rowIs_heap hS.rowb) (by decide)
            have hicr : bi ≠ cr := type_ne hG.img (rowIs_heap hS.rowr) (by decide)
            obtain ⟨hpb, hpcb, hpcr⟩ := HP.out
            have hpb' := Ne.symm hpb
            have hpcb' := Ne.symm hpcb
            have hpcr' := Ne.symm hpcr
            have q0 : (0 : Int) ≤ (q : Int) := by omega
            have q1 : (q : Int) < (n : Int) := by omega
            have q1n : q < n := hcl
            have q2 : (0 : Int) ≤ 8 * (j : Int) + (i : Int) := by omega
            have q3 : 8 * (j : Int) + (i : Int) < 64 := by omega
            have q4 : (8 * (j : Int) + (i : Int)).toNat = 8 * j + i := by omega
            have q5 : IntKind.i64.wrap (8 * (j : Int)) = 8 * (j : Int) := IntWalk.i64_in _ ⟨by omega, by omega⟩
            have q6 : IntKind.i64.wrap (8 * (j : Int) + (i : Int)) = 8 * (j : Int) + (i : Int) := IntWalk.i64_in _ ⟨by omega, by omega⟩
            have w0' : IntKind.i32.wrap (g0 : Int) = (g0 : Int) := IntWalk.i32_in _ ⟨by omega, by omega⟩
            have w1' : IntKind.i32.wrap (g1 : Int) = (g1 : Int) := IntWalk.i32_in _ ⟨by omega, by omega⟩
            have w2' : IntKind.i32.wrap (g2 : Int) = (g2 : Int) := IntWalk.i32_in _ ⟨by omega, by omega⟩
            have fs : ∀ W, Kept (fun _ => True) wr W → (W.cell? ⟨bi, 0, none⟩ = some (.slice (some ⟨bp, 0, none⟩) n n) ∧ W.cell? ⟨bi, 1, none⟩ = some (.slice (some ⟨bp, n, none⟩) n n) ∧ W.cell? ⟨bi, 2, none⟩ = some (.slice (some ⟨bp, n2, none⟩) n n)) ∧ (W.cell? ⟨bp, q, none⟩ = some (.int .u8 (g0 : Int)) ∧ W.cell? ⟨bp, n + q, none⟩ = some (.int .u8 (g1 : Int)) ∧ W.cell? ⟨bp, n2 + q, none⟩ = some (.int .u8 (g2 : Int))) ∧ W.cell? ⟨b, 8 * j + i, none⟩ = some old0 ∧ W.cell? ⟨cb, o + (8 * j + i), none⟩ = some old1 ∧ W.cell? ⟨cr, o + (8 * j + i), none⟩ = some old2 ∧ W.frozen? ⟨b, 8 * j + i, none⟩ = false ∧ W.frozen? ⟨cb, o + (8 * j + i), none⟩ = false ∧ W.frozen? ⟨cr, o + (8 * j + i), none⟩ = false := fun W k =>
              ⟨⟨k.cellOf i0 trivial, k.cellOf i1 trivial, k.cellOf i2 trivial⟩, ⟨k.cellOf p0 trivial, k.cellOf p1 trivial, k.cellOf p2 trivial⟩, k.cellOf t0 trivial, k.cellOf t1 trivial, k.cellOf t2 trivial, (k.frozen (a := ⟨b, 8 * j + i, none⟩) (block_lt_of_cell t0) trivial).trans z0, (k.frozen (a := ⟨cb, o + (8 * j + i), none⟩) (block_lt_of_cell t1) trivial).trans z1, (k.frozen (a := ⟨cr, o + (8 * j + i), none⟩) (block_lt_of_cell t2) trivial).trans z2⟩
            have HFS := Lib.hid fs
            have HW := Lib.hid (And.intro q5 (And.intro q6 (And.intro w0' (And.intro w1' w2'))))
            clear q5 q6 w0' w1' w2'
            have hxs : (bx + i ≤ wd - 1 ∧ a = bx + i) ∨ (wd ≤ bx + i ∧ a = wd - 1) := by omega
            clear hS hG hca ha hm hq hmm hcl hg0 hg1 hg2 e0 fs i0 i1 i2 p0 p1 p2 t0 t1 t2 z0 z1 z2 a1
            rcases hxs with ⟨u1, u2⟩ | ⟨u1, u2⟩
            · go_wp2_with (first
                | (go_at_call 77; (with_reducible refine (CP.out _ _ _ (Kept.refl _ _) ?_ ?_).mono ?_); (· omega); (· omega); rintro e w2 ⟨rfl, k2⟩; have K2 := Lib.hid k2; clear k2)
                | (go_at_call 78; (with_reducible refine (CQ.out _ _ _ K2.out ?_ ?_).mono ?_); (· omega); (· omega); rintro e w3 ⟨rfl, k3⟩; have K3 := Lib.hid (K2.out.trans k3); obtain ⟨⟨i0, i1, i2⟩, ⟨p0, p1, p2⟩, t0, t1, t2, z0, z1, z2⟩ := HFS.out _ K3.out; clear k3))
              obtain ⟨q5, q6, w0', w1', w2'⟩ := HW.out
              go_region
              go_wp2_with fail
              go_region
              go_wp2_with fail
              go_region
              clear q5 q6 w0' w1' w2'
              go_wp2_with fail
              go_roundg (8 - (i + 1))
              case measure => go_light; omega
              case rel =>
                go_light
                obtain ⟨h1, h2⟩ := HV.out
                obtain ⟨h3, h4, h5⟩ := HV2.out
                refine ⟨i + 1, by omega, rfl, by go_num, ?_⟩
                exact (h1.step K3.out hcr _ _ _ (by show _ = Value.int .i32 ((V 0 (clampAt wd hg bx by' (8 * j + i)) : Nat) : Int); rw [h2, h3]) (by show _ = Value.int .i32 ((V 1 (clampAt wd hg bx by' (8 * j + i)) : Nat) : Int); rw [h2, h4]) (by show _ = Value.int .i32 ((V 2 (clampAt wd hg bx by' (8 * j + i)) : Nat) : Int); rw [h2, h5])).drew3
            · go_wp2_with (first
                | (go_at_call 77; (with_reducible refine (CP.out _ _ _ (Kept.refl _ _) ?_ ?_).mono ?_); (· omega); (· omega); rintro e w2 ⟨rfl, k2⟩; have K2 := Lib.hid k2; clear k2)
                | (go_at_call 78; (with_reducible refine (CQ.out _ _ _ K2.out ?_ ?_).mono ?_); (· omega); (· omega); rintro e w3 ⟨rfl, k3⟩; have K3 := Lib.hid (K2.out.trans k3); obtain ⟨⟨i0, i1, i2⟩, ⟨p0, p1, p2⟩, t0, t1, t2, z0, z1, z2⟩ := HFS.out _ K3.out; clear k3))
              obtain ⟨q5, q6, w0', w1', w2'⟩ := HW.out
              go_region
              go_wp2_with fail
              go_region
              go_wp2_with fail
              go_region
              clear q5 q6 w0' w1' w2'
              go_wp2_with fail
              go_roundg (8 - (i + 1))
              case measure => go_light; omega
              case rel =>
                go_light
                obtain ⟨h1, h2⟩ := HV.out
                obtain ⟨h3, h4, h5⟩ := HV2.out
                refine ⟨i + 1, by omega, rfl, by go_num, ?_⟩
                exact (h1.step K3.out hcr _ _ _ (by show _ = Value.int .i32 ((V 0 (clampAt wd hg bx by' (8 * j + i)) : Nat) : Int); rw [h2, h3]) (by show _ = Value.int .i32 ((V 1 (clampAt wd hg bx by' (8 * j + i)) : Nat) : Int); rw [h2, h4]) (by show _ = Value.int .i32 ((V 2 (clampAt wd hg bx by' (8 * j + i)) : Nat) : Int); rw [h2, h5])).drew3
          · obtain rfl : i = 8 := by omega
            have HSS := Lib.hid hS
            clear hS
            go_wp2_with fail
            go_roundg (8 - (j + 1))
            case measure => go_light; omega
            case rel =>
              go_light
              exact ⟨j + 1, by omega, rfl, by go_num, HSS.out⟩
      · have hdb : decide (y0 + (hg : Int) - 1 < y0 + (by' : Int) + (j : Int)) = true := by simp; omega
        go_wp2_with fail
        go_loopg [15] 8 (fun k s15 wr => ∃ i : Nat, i ≤ 8 ∧ k = 8 - i ∧ s15 = .int .i64 (i : Int) ∧ CY w b cb cr o w.heap.size RB (.int .i64 (x0 + bx)) (.int .i64 (y0 + by')) (.int .i64 x0) (.int .i64 y0) (.int .i64 (x0 + wd)) (.int .i64 (y0 + hg)) (fun c => smp wd hg (V c) bx by') f fc fr (8 * j + i) wr)
        case atStart => exact ⟨0, by omega, rfl, rfl, HS.out⟩
        case round =>
          clear a1 HS
          obtain ⟨i, hi, rfl, rfl, hS⟩ := hrel
          by_cases hlt2 : i < 8
          · have hid : decide ((i : Int) < 8) = true := by simp; omega
            have hG := HG.out.1.kept hS.kept ⟨type_ne HG.out.1.img (rowIs_heap HG.out.2.1) (by decide), type_ne HG.out.1.img (rowIs_heap HG.out.2.2.1) (by decide), type_ne HG.out.1.img (rowIs_heap HG.out.2.2.2) (by decide)⟩ ⟨Ne.symm HP.out.1, Ne.symm HP.out.2.1, Ne.symm HP.out.2.2⟩
            obtain ⟨a0, a1⟩ := two_cells hS.pt
            have hca : clampAt wd hg bx by' (8 * j + i) = min (by' + j) (hg - 1) * wd + min (bx + i) (wd - 1) := by
              unfold clampAt
              rw [show (8 * j + i) / 8 = j by omega, show (8 * j + i) % 8 = i by omega]
            have hcl := clamp_lt s1 s2 bx by' (8 * j + i)
            obtain ⟨a, ha⟩ : ∃ a, min (bx + i) (wd - 1) = a := ⟨_, rfl⟩
            obtain ⟨m, hm⟩ : ∃ m, c * wd = m := ⟨_, rfl⟩
            rw [HCC.out, hm, ha] at hca
            rw [hca, HN.out] at hcl
            have hmm : m ≤ 65536 := by omega
            obtain ⟨q, hq⟩ : ∃ q, m + a = q := ⟨_, rfl⟩
            have CP : Hid (∀ (x y : Int) (W : World), Kept (fun _ => True) wr W → x - x0 = (a : Int) → y - y0 = (c : Int) → Calls Tryz.prog 77 #[.pointer (some ⟨bi, 0, none⟩), .int .i64 x, .int .i64 y] W fun e w' => e = .returned (.int .i64 (q : Int)) ∧ Kept (fun _ => True) W w') := Lib.hid fun x y W k hx hy => by
              have h := yOff_any bi _ _ _ x0 y0 _ _ x y wd c a m W (hG.kept k trivial trivial).img hx hy hm (by omega) (by omega) (by omega)
              rw [hq] at h
              exact h
            have CQ : Hid (∀ (x y : Int) (W : World), Kept (fun _ => True) wr W → x - x0 = (a : Int) → y - y0 = (c : Int) → Calls Tryz.prog 78 #[.pointer (some ⟨bi, 0, none⟩), .int .i64 x, .int .i64 y] W fun e w' => e = .returned (.int .i64 (q : Int)) ∧ Kept (fun _ => True) W w') := Lib.hid fun x y W k hx hy => by
              have h := cOff_any bi _ _ _ x0 y0 _ _ x y wd c a m W (hG.kept k trivial trivial).img hx hy hm (by omega) (by omega) (by omega)
              rw [hq] at h
              exact h
            rw [hq] at hca hcl
            have p0 := hG.pix0 q (by rw [HN.out]; exact hcl)
            have p1 := hG.pix1 q (by rw [HN.out]; exact hcl)
            have p2 := hG.pix2 q (by rw [HN.out]; exact hcl)
            have v0 : (V 0 q : Int) ≤ 255 := by have := hG.small 0 q; omega
            have v1 : (V 1 q : Int) ≤ 255 := by have := hG.small 1 q; omega
            have v2 : (V 2 q : Int) ≤ 255 := by have := hG.small 2 q; omega
            have i0 : wr.cell? ⟨bi, 0, none⟩ = some (.slice (some ⟨bp, 0, none⟩) n n) := by unfold World.cell?; simp only [hG.img, HN.out]; rfl
            have i1 : wr.cell? ⟨bi, 1, none⟩ = some (.slice (some ⟨bp, n, none⟩) n n) := by unfold World.cell?; simp only [hG.img, HN.out]; rfl
            have i2 : wr.cell? ⟨bi, 2, none⟩ = some (.slice (some ⟨bp, n2, none⟩) n n) := by unfold World.cell?; simp only [hG.img, HN.out, HN2.out]; rfl
            rw [HN.out] at p1 p2
            rw [HN2.out] at p2
            have e0 : V 0 q = V 0 q := rfl
            have HV := Lib.hid (And.intro hS hca)
            obtain ⟨g0, hg0⟩ : ∃ g, V 0 q = g := ⟨_, rfl⟩
            obtain ⟨g1, hg1⟩ : ∃ g, V 1 q = g := ⟨_, rfl⟩
            obtain ⟨g2, hg2⟩ : ∃ g, V 2 q = g := ⟨_, rfl⟩
            have HV2 := Lib.hid (And.intro hg0 (And.intro hg1 hg2))
            rw [hg0] at p0 v0
            rw [hg1] at p1 v1
            rw [hg2] at p2 v2
            have t0 : wr.cell? ⟨b, 8 * j + i, none⟩ = some (upAt 0 (8 * j + i) (smp wd hg (V 0) bx by') f (8 * j + i)) := hS.row.cell (by omega)
            have t1 : wr.cell? ⟨cb, o + (8 * j + i), none⟩ = some (upAt o (8 * j + i) (smp wd hg (V 1) bx by') fc (o + (8 * j + i))) := hS.rowb.cell (by omega)
            have t2 : wr.cell? ⟨cr, o + (8 * j + i), none⟩ = some (upAt o (8 * j + i) (smp wd hg (V 2) bx by') fr (o + (8 * j + i))) := hS.rowr.cell (by omega)
            have z0 : wr.frozen? ⟨b, 8 * j + i, none⟩ = false := hS.row.frozen _
            have z1 : wr.frozen? ⟨cb, o + (8 * j + i), none⟩ = false := hS.rowb.frozen _
            have z2 : wr.frozen? ⟨cr, o + (8 * j + i), none⟩ = false := hS.rowr.frozen _
            generalize upAt 0 (8 * j + i) (smp wd hg (V 0) bx by') f (8 * j + i) = old0 at t0
            generalize upAt o (8 * j + i) (smp wd hg (V 1) bx by') fc (o + (8 * j + i)) = old1 at t1
            generalize upAt o (8 * j + i) (smp wd hg (V 2) bx by') fr (o + (8 * j + i)) = old2 at t2
            have hbc : b ≠ cb := type_ne (rowIs_heap hS.row) (rowIs_heap hS.rowb) (by decide)
            have hbr : b ≠ cr := type_ne (rowIs_heap hS.row) (rowIs_heap hS.rowr) (by decide)
            have hib : bi ≠ b := type_ne hG.img (rowIs_heap hS.row) (by decide)
            have hicb : bi ≠ cb := type_ne hG.img (rowIs_heap hS.rowb) (by decide)
            have hicr : bi ≠ cr := type_ne hG.img (rowIs_heap hS.rowr) (by decide)
            obtain ⟨hpb, hpcb, hpcr⟩ := HP.out
            have hpb' := Ne.symm hpb
            have hpcb' := Ne.symm hpcb
            have hpcr' := Ne.symm hpcr
            have q0 : (0 : Int) ≤ (q : Int) := by omega
            have q1 : (q : Int) < (n : Int) := by omega
            have q1n : q < n := hcl
            have q2 : (0 : Int) ≤ 8 * (j : Int) + (i : Int) := by omega
            have q3 : 8 * (j : Int) + (i : Int) < 64 := by omega
            have q4 : (8 * (j : Int) + (i : Int)).toNat = 8 * j + i := by omega
            have q5 : IntKind.i64.wrap (8 * (j : Int)) = 8 * (j : Int) := IntWalk.i64_in _ ⟨by omega, by omega⟩
            have q6 : IntKind.i64.wrap (8 * (j : Int) + (i : Int)) = 8 * (j : Int) + (i : Int) := IntWalk.i64_in _ ⟨by omega, by omega⟩
            have w0' : IntKind.i32.wrap (g0 : Int) = (g0 : Int) := IntWalk.i32_in _ ⟨by omega, by omega⟩
            have w1' : IntKind.i32.wrap (g1 : Int) = (g1 : Int) := IntWalk.i32_in _ ⟨by omega, by omega⟩
            have w2' : IntKind.i32.wrap (g2 : Int) = (g2 : Int) := IntWalk.i32_in _ ⟨by omega, by omega⟩
            have fs : ∀ W, Kept (fun _ => True) wr W → (W.cell? ⟨bi, 0, none⟩ = some (.slice (some ⟨bp, 0, none⟩) n n) ∧ W.cell? ⟨bi, 1, none⟩ = some (.slice (some ⟨bp, n, none⟩) n n) ∧ W.cell? ⟨bi, 2, none⟩ = some (.slice (some ⟨bp, n2, none⟩) n n)) ∧ (W.cell? ⟨bp, q, none⟩ = some (.int .u8 (g0 : Int)) ∧ W.cell? ⟨bp, n + q, none⟩ = some (.int .u8 (g1 : Int)) ∧ W.cell? ⟨bp, n2 + q, none⟩ = some (.int .u8 (g2 : Int))) ∧ W.cell? ⟨b, 8 * j + i, none⟩ = some old0 ∧ W.cell? ⟨cb, o + (8 * j + i), none⟩ = some old1 ∧ W.cell? ⟨cr, o + (8 * j + i), none⟩ = some old2 ∧ W.frozen? ⟨b, 8 * j + i, none⟩ = false ∧ W.frozen? ⟨cb, o + (8 * j + i), none⟩ = false ∧ W.frozen? ⟨cr, o + (8 * j + i), none⟩ = false := fun W k =>
              ⟨⟨k.cellOf i0 trivial, k.cellOf i1 trivial, k.cellOf i2 trivial⟩, ⟨k.cellOf p0 trivial, k.cellOf p1 trivial, k.cellOf p2 trivial⟩, k.cellOf t0 trivial, k.cellOf t1 trivial, k.cellOf t2 trivial, (k.frozen (a := ⟨b, 8 * j + i, none⟩) (block_lt_of_cell t0) trivial).trans z0, (k.frozen (a := ⟨cb, o + (8 * j + i), none⟩) (block_lt_of_cell t1) trivial).trans z1, (k.frozen (a := ⟨cr, o + (8 * j + i), none⟩) (block_lt_of_cell t2) trivial).trans z2⟩
            have HFS := Lib.hid fs
            have HW := Lib.hid (And.intro q5 (And.intro q6 (And.intro w0' (And.intro w1' w2'))))
            clear q5 q6 w0' w1' w2'
            have hxs : (bx + i ≤ wd - 1 ∧ a = bx + i) ∨ (wd ≤ bx + i ∧ a = wd - 1) := by omega
            clear hS hG hca ha hm hq hmm hcl hg0 hg1 hg2 e0 fs i0 i1 i2 p0 p1 p2 t0 t1 t2 z0 z1 z2 a1
            rcases hxs with ⟨u1, u2⟩ | ⟨u1, u2⟩
            · go_wp2_with (first
                | (go_at_call 77; (with_reducible refine (CP.out _ _ _ (Kept.refl _ _) ?_ ?_).mono ?_); (· omega); (· omega); rintro e w2 ⟨rfl, k2⟩; have K2 := Lib.hid k2; clear k2)
                | (go_at_call 78; (with_reducible refine (CQ.out _ _ _ K2.out ?_ ?_).mono ?_); (· omega); (· omega); rintro e w3 ⟨rfl, k3⟩; have K3 := Lib.hid (K2.out.trans k3); obtain ⟨⟨i0, i1, i2⟩, ⟨p0, p1, p2⟩, t0, t1, t2, z0, z1, z2⟩ := HFS.out _ K3.out; clear k3))
              obtain ⟨q5, q6, w0', w1', w2'⟩ := HW.out
              go_region
              go_wp2_with fail
              go_region
              go_wp2_with fail
              go_region
              clear q5 q6 w0' w1' w2'
              go_wp2_with fail
              go_roundg (8 - (i + 1))
              case measure => go_light; omega
              case rel =>
                go_light
                obtain ⟨h1, h2⟩ := HV.out
                obtain ⟨h3, h4, h5⟩ := HV2.out
                refine ⟨i + 1, by omega, rfl, by go_num, ?_⟩
                exact (h1.step K3.out hcr _ _ _ (by show _ = Value.int .i32 ((V 0 (clampAt wd hg bx by' (8 * j + i)) : Nat) : Int); rw [h2, h3]) (by show _ = Value.int .i32 ((V 1 (clampAt wd hg bx by' (8 * j + i)) : Nat) : Int); rw [h2, h4]) (by show _ = Value.int .i32 ((V 2 (clampAt wd hg bx by' (8 * j + i)) : Nat) : Int); rw [h2, h5])).drew3
            · go_wp2_with (first
                | (go_at_call 77; (with_reducible refine (CP.out _ _ _ (Kept.refl _ _) ?_ ?_).mono ?_); (· omega); (· omega); rintro e w2 ⟨rfl, k2⟩; have K2 := Lib.hid k2; clear k2)
                | (go_at_call 78; (with_reducible refine (CQ.out _ _ _ K2.out ?_ ?_).mono ?_); (· omega); (· omega); rintro e w3 ⟨rfl, k3⟩; have K3 := Lib.hid (K2.out.trans k3); obtain ⟨⟨i0, i1, i2⟩, ⟨p0, p1, p2⟩, t0, t1, t2, z0, z1, z2⟩ := HFS.out _ K3.out; clear k3))
              obtain ⟨q5, q6, w0', w1', w2'⟩ := HW.out
              go_region
              go_wp2_with fail
              go_region
              go_wp2_with fail
              go_region
              clear q5 q6 w0' w1' w2'
              go_wp2_with fail
              go_roundg (8 - (i + 1))
              case measure => go_light; omega
              case rel =>
                go_light
                obtain ⟨h1, h2⟩ := HV.out
                obtain ⟨h3, h4, h5⟩ := HV2.out
                refine ⟨i + 1, by omega, rfl, by go_num, ?_⟩
                exact (h1.step K3.out hcr _ _ _ (by show _ = Value.int .i32 ((V 0 (clampAt wd hg bx by' (8 * j + i)) : Nat) : Int); rw [h2, h3]) (by show _ = Value.int .i32 ((V 1 (clampAt wd hg bx by' (8 * j + i)) : Nat) : Int); rw [h2, h4]) (by show _ = Value.int .i32 ((V 2 (clampAt wd hg bx by' (8 * j + i)) : Nat) : Int); rw [h2, h5])).drew3
          · obtain rfl : i = 8 := by omega
            have HSS := Lib.hid hS
            clear hS
            go_wp2_with fail
            go_roundg (8 - (j + 1))
            case measure => go_light; omega
            case rel =>
              go_light
              exact ⟨j + 1, by omega, rfl, by go_num, HSS.out⟩

    · obtain rfl : j = 8 := by omega
      have HS := Lib.hid hS
      clear hS
      go_wp2_with fail
      go_end0
      refine ⟨rfl, HS.out.row.congr fun j hj => ?_, HS.out.rowb, HS.out.rowr, HS.out.kept⟩
      unfold upAt; rw [if_pos (by omega), Nat.sub_zero]
end Go.Proofs.YtghjlekdibcjdaaGreatDoor
