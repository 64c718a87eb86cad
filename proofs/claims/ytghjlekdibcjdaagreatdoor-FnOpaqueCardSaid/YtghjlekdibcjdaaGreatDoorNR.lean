/- Texts of mine, united so that a claim holds fewer files: ColC, ColD, ColE, SosNrgba, EncNrgba, ImplNrgba. -/
import Derived.Test.YtghjlekdibcjdaaGreatDoorBounds
import Derived.BigQuiet
import Derived.Deep.QuietTactic
import Derived.StillTailTactics
import Derived.Test.YtghjlekdibcjdaaGreatDoorSinkB
import Derived.Test.YtghjlekdibcjdaaGreatDoorCO
import Derived.Test.YtghjlekdibcjdaaGreatDoorCR
import Derived.Test.YtghjlekdibcjdaaGreatDoorM1
/- The contracts of NRGBA's At and of a color's RGBA. -/
namespace Go.Proofs.YtghjlekdibcjdaaGreatDoor
open Go.Deep Go.RowKit
set_option linter.unusedVariables false
set_option maxHeartbeats 1000000 in
set_option maxRecDepth 100000 in
theorem in_any (x y x0 y0 x1 y1 : Int) (w : World) (h1 : x0 ≤ x) (h2 : x < x1) (h3 : y0 ≤ y) (h4 : y < y1) :
    Calls Tryz.prog 105 #[.agg #[.int .i64 x, .int .i64 y], .agg #[.int .i64 x0, .int .i64 y0, .int .i64 x1, .int .i64 y1]] w fun e w' => e = .returned (.bool true) ∧ Kept (fun _ => True) w w' := by
  go_enter Tryz.func105, Tryz.ntmps105
  go_wp2_with fail
  go_ret
  exact ⟨rfl, ((Kept.refl _ _).alloc _).alloc _⟩
set_option maxHeartbeats 1000000 in
set_option maxRecDepth 100000 in
theorem pixOffN_any (bi : Nat) (pv : Value) (x0 y0 x1 y1 x y : Int) (wd c a m : Nat) (w : World) (h : w.heap[bi]? = some (.cells #[pv, .int .i64 (4 * (wd : Int)), .int .i64 x0, .int .i64 y0, .int .i64 x1, .int .i64 y1] 51 (0, 0))) (hx : x - x0 = (a : Int)) (hy : y - y0 = (c : Int)) (hp : c * wd = m) (ha : a ≤ 1048576) (hc : c ≤ 1048576) (hpl : m ≤ 1048576) :
    Calls Tryz.prog 118 #[.pointer (some ⟨bi, 0, none⟩), .int .i64 x, .int .i64 y] w fun e w' => e = .returned (.int .i64 ((4 * (m + a) : Nat) : Int)) ∧ Kept (fun _ => True) w w' := by
  have c1 : w.cell? ⟨bi, 1, none⟩ = some (.int .i64 (4 * (wd : Int))) := by unfold World.cell?; simp only [h]; rfl
  have c2 : w.cell? ⟨bi, 2, none⟩ = some (.int .i64 x0) := by unfold World.cell?; simp only [h]; rfl
  have c3 : w.cell? ⟨bi, 3, none⟩ = some (.int .i64 y0) := by unfold World.cell?; simp only [h]; rfl
  have hpi : (c : Int) * (4 * (wd : Int)) = 4 * (m : Int) := by rw [← hp]; simp [Int.mul_left_comm]
  have ew1 : IntKind.i64.wrap (a : Int) = (a : Int) := IntWalk.i64_in _ ⟨by omega, by omega⟩
  have ew2 : IntKind.i64.wrap (c : Int) = (c : Int) := IntWalk.i64_in _ ⟨by omega, by omega⟩
  have ew3 : IntKind.i64.wrap (4 * (m : Int)) = 4 * (m : Int) := IntWalk.i64_in _ ⟨by omega, by omega⟩
  have ew5 : IntKind.i64.wrap ((a : Int) * 4) = (a : Int) * 4 := IntWalk.i64_in _ ⟨by omega, by omega⟩
  have ew4 : IntKind.i64.wrap (4 * (m : Int) + (a : Int) * 4) = 4 * (m : Int) + (a : Int) * 4 := IntWalk.i64_in _ ⟨by omega, by omega⟩
  have epa : ((4 * (m + a) : Nat) : Int) = 4 * (m : Int) + (a : Int) * 4 := by omega
  rw [epa]
  have HK := Lib.hid ((Kept.refl (fun _ => True) w).drew)
  clear h hp epa ha hc hpl
  go_enter Tryz.func118, Tryz.ntmps118
  go_wp2_with fail
  go_quiet (fail)
  go_wp2_with fail
  go_ret
  exact ⟨rfl, (Kept.refl _ _).drewN _⟩
theorem or_257 : ∀ r : Nat, r < 256 → bits BinOp.or IntKind.u32 (r : Int) ((r : Int) * 256) = (r : Int) * 257 := by decide +kernel
set_option maxHeartbeats 1000000 in
set_option maxRecDepth 100000 in
theorem rgba_any (r g b : Nat) (hr : r ≤ 255) (hg : g ≤ 255) (hb : b ≤ 255) (w : World) :
    Calls Tryz.prog 150 #[.agg #[.int .u8 (r : Int), .int .u8 (g : Int), .int .u8 (b : Int), .int .u8 255]] w fun e w' => e = .returned (.tuple #[.int .u32 ((r : Int) * 257), .int .u32 ((g : Int) * 257), .int .u32 ((b : Int) * 257), .int .u32 65535]) ∧ Kept (fun _ => True) w w' := by
  have o1 := or_257 r (by omega)
  have o2 := or_257 g (by omega)
  have o3 := or_257 b (by omega)
  have o4 : bits BinOp.or IntKind.u32 255 65280 = 65535 := by decide
  have d1 : (r : Int) * 257 * 255 / 255 = (r : Int) * 257 := by omega
  have d2 : (g : Int) * 257 * 255 / 255 = (g : Int) * 257 := by omega
  have d3 : (b : Int) * 257 * 255 / 255 = (b : Int) * 257 := by omega
  go_enter Tryz.func150, Tryz.ntmps150
  go_wp2_with fail
  exact bodyPost_ret (v := .tuple #[.int .u32 _, .int .u32 _, .int .u32 _, .int .u32 _]) (by simp [results, Tryz.results150, go_sem]) rfl ⟨rfl, (Kept.refl _ _).alloc _⟩
end Go.Proofs.YtghjlekdibcjdaaGreatDoor
/- The contracts of NRGBA's NRGBAAt and At. -/
namespace Go.Proofs.YtghjlekdibcjdaaGreatDoor
open Go.Deep Go.RowKit
set_option linter.unusedVariables false
theorem six_cells {w : World} {k : Nat} {a b c d e f : Value} {t : TypeId} (hk : w.heap[k]? = some (.cells #[a, b, c, d, e, f] t (0, 0))) :
    w.cell? ⟨k, 0, none⟩ = some a ∧ w.cell? ⟨k, 2, none⟩ = some c ∧ w.cell? ⟨k, 3, none⟩ = some d ∧ w.cell? ⟨k, 4, none⟩ = some e ∧ w.cell? ⟨k, 5, none⟩ = some f :=
  ⟨by simp [World.cell?, hk], by simp [World.cell?, hk], by simp [World.cell?, hk], by simp [World.cell?, hk], by simp [World.cell?, hk]⟩
theorem size223 : (Tryz.prog.info? 223).map (·.size) = some 4 := by kernel_rfl
/-- A pixel's color. -/
def pixV (V : Nat → Nat → Nat) (k : Nat) : Nat → Value := fun j => .int .u8 (V j k : Int)
set_option maxHeartbeats 2000000 in
set_option maxRecDepth 100000 in
theorem nrgbaAt_any (bi bp : Nat) (x0 y0 : Int) (wd hg : Nat) (V : Nat → Nat → Nat) (c a : Nat) (x y : Int) (w : World) (hG : PixAt 51 bi bp x0 y0 wd hg V w) (hs : SizeOk x0 y0 wd hg) (hc : c < hg) (ha : a < wd) (hx : x = x0 + a) (hy : y = y0 + c) :
    Calls Tryz.prog 117 #[.pointer (some ⟨bi, 0, none⟩), .int .i64 x, .int .i64 y] w fun e w' => e = .returned (.agg #[.int .u8 (V 0 (c * wd + a) : Int), .int .u8 (V 1 (c * wd + a) : Int), .int .u8 (V 2 (c * wd + a) : Int), .int .u8 (V 3 (c * wd + a) : Int)]) ∧ Kept (fun _ => True) w w' := by
  obtain ⟨s1, s2, s3, s4, s5, ⟨s6, s7⟩, ⟨s8, s9⟩⟩ := hs
  have hlt : bi < w.heap.size := (Array.getElem?_eq_some_iff.1 hG.img).1
  obtain ⟨n, hn⟩ : ∃ n, wd * hg = n := ⟨_, rfl⟩
  have hn4 : 4 * wd * hg = 4 * n := by rw [Nat.mul_assoc, hn]
  obtain ⟨m, hm⟩ : ∃ m, c * wd = m := ⟨_, rfl⟩
  have hmn : m + wd ≤ n := by
    rw [← hn, ← hm, ← Nat.succ_mul, Nat.mul_comm wd hg]
    exact Nat.mul_le_mul_right _ (by omega)
  rw [hn] at s5
  have hK1 : ∀ o : Obj, Kept (fun _ => True) w (w.alloc o) := fun o => (Kept.refl _ _).alloc o
  have hG1 : ∀ o : Obj, (w.alloc o).heap[bi]? = _ := fun o => ((hK1 o).block bi hlt trivial).trans hG.img
  rw [hn4] at hG1
  have i2 : ∀ o, (w.alloc o).cell? ⟨bi, 2, none⟩ = some (.int .i64 x0) := fun o => (six_cells (hG1 o)).2.1
  have i3 : ∀ o, (w.alloc o).cell? ⟨bi, 3, none⟩ = some (.int .i64 y0) := fun o => (six_cells (hG1 o)).2.2.1
  have i4 : ∀ o, (w.alloc o).cell? ⟨bi, 4, none⟩ = some (.int .i64 (x0 + wd)) := fun o => (six_cells (hG1 o)).2.2.2.1
  have i5 : ∀ o, (w.alloc o).cell? ⟨bi, 5, none⟩ = some (.int .i64 (y0 + hg)) := fun o => (six_cells (hG1 o)).2.2.2.2
  have CI := Lib.hid fun (W : World) => in_any x y x0 y0 (x0 + wd) (y0 + hg) W (by omega) (by omega) (by omega) (by omega)
  have CP := Lib.hid fun (W : World) (k : Kept (fun _ => True) w W) => pixOffN_any bi _ x0 y0 _ _ x y wd c a m W ((k.block bi hlt trivial).trans hG.img) (by omega) (by omega) hm (by omega) (by omega) (by omega)
  obtain ⟨k, hk⟩ : ∃ k, m + a = k := ⟨_, rfl⟩
  rw [hm, hk]
  rw [hk] at CP
  have hkn : k < n := by omega
  have q0 : (0 : Int) ≤ ((4 * k : Nat) : Int) := by omega
  have HG := Lib.hid (And.intro hG (And.intro hlt (And.intro hn hn4)))
  have p0 := fun (W : World) (kk : Kept (fun _ => True) w W) => kk.cellOf (hG.pix k (by rw [hn]; exact hkn) 0 (by omega)) trivial
  have p1 := fun (W : World) (kk : Kept (fun _ => True) w W) => kk.cellOf (hG.pix k (by rw [hn]; exact hkn) 1 (by omega)) trivial
  have p2 := fun (W : World) (kk : Kept (fun _ => True) w W) => kk.cellOf (hG.pix k (by rw [hn]; exact hkn) 2 (by omega)) trivial
  have p3 := fun (W : World) (kk : Kept (fun _ => True) w W) => kk.cellOf (hG.pix k (by rw [hn]; exact hkn) 3 (by omega)) trivial
  have HPX := Lib.hid (And.intro p0 (And.intro p1 (And.intro p2 p3)))
  clear p0 p1 p2 p3
  have eln : 4 * k + 4 - 4 * k = 4 := by omega
  have e4 : ((4 * k : Nat) : Int) + 4 ≤ ((4 * n : Nat) : Int) := by omega
  obtain ⟨H, hH⟩ : ∃ H, w.heap.size = H := ⟨_, rfl⟩
  have HH := Lib.hid hH
  clear hG hlt hG1 hK1 hm hk hmn hx hy hn hn4 hH
  go_enter Tryz.func117, Tryz.ntmps117
  go_wp2_with (first
    | (go_at_call 105; (with_reducible refine (CI.out _).mono ?_); rintro e w2 ⟨rfl, k2⟩; have K2 := Lib.hid k2; clear k2)
    | (go_at_call 118; (with_reducible refine (CP.out _ (((Kept.refl _ _).alloc _).trans K2.out)).mono ?_); rintro e w3 ⟨rfl, k3⟩; have hk3 := (((Kept.refl (fun _ => True) w).alloc _).trans K2.out).trans k3; have K3 := Lib.hid (And.intro k3 hk3); have i0 := (six_cells ((hk3.block bi HG.out.2.1 trivial).trans HG.out.1.img)).1; rw [HG.out.2.2.2] at i0; clear k3 hk3))
  obtain ⟨k3, hk3⟩ := K3.out
  have p0 := HPX.out.1 w3.drew hk3.drew
  rw [Nat.add_zero] at p0
  have p1 := HPX.out.2.1 w3.drew hk3.drew
  have p2 := HPX.out.2.2.1 w3.drew hk3.drew
  have p3 := HPX.out.2.2.2 w3.drew hk3.drew
  have hrow : w3.drew.rowIs H 223 4 (fun _ => .int .u8 0) := by
    rw [← HH.out]
    exact (K2.out.trans k3.drew).row (rowIs_replicate w 223 4 (.int .u8 0)) trivial
  have HKD := Lib.hid hk3.drew
  have hHw := HH.out
  rw [hHw]
  clear k3 hk3 CI CP i0 i2 i3 i4 i5
  go_still_tail 13, (by kernel_rfl)
  change wpList _ _ _ _ _ w3.drew
  with_reducible refine wpList_store_new (op := ⟨none, .store 223 (.tmp 6) (.tmp 45), _, _, _, _⟩) ?_ 223 (.tmp 6) (.tmp 45) ?_ H 4 (g := pixV V k) ?_ ?_ hrow ?_ ?_ ?_
  · rfl
  · rfl
  · rfl
  · rfl
  · exact size223
  · exact fun _ => rfl
  intro w4 k4 s4' r4
  have P4 := Lib.hid (And.intro k4 r4)
  clear k4 s4' r4
  go_wp2_with fail
  refine bodyPost_ret (v := .agg (agg 4 (pixV V k))) (results_rowIs Tryz.results117 P4.out.2 rfl Tryz.underlying223 rfl size223) rfl ⟨rfl, ?_⟩
  refine HKD.out.trans' P4.out.1 fun i hi _ => ?_
  have := HH.out
  omega
set_option maxHeartbeats 1000000 in
set_option maxRecDepth 100000 in
theorem nrgba_at_any (bi bp : Nat) (x0 y0 : Int) (wd hg : Nat) (V : Nat → Nat → Nat) (c a : Nat) (x y : Int) (w : World) (hG : PixAt 51 bi bp x0 y0 wd hg V w) (hs : SizeOk x0 y0 wd hg) (hc : c < hg) (ha : a < wd) (hx : x = x0 + a) (hy : y = y0 + c) :
    Calls Tryz.prog 114 #[.pointer (some ⟨bi, 0, none⟩), .int .i64 x, .int .i64 y] w fun e w' => e = .returned (.iface 223 (.agg #[.int .u8 (V 0 (c * wd + a) : Int), .int .u8 (V 1 (c * wd + a) : Int), .int .u8 (V 2 (c * wd + a) : Int), .int .u8 (V 3 (c * wd + a) : Int)])) ∧ Kept (fun _ => True) w w' := by
  have CN := Lib.hid (nrgbaAt_any bi bp x0 y0 wd hg V c a x y w hG hs hc ha hx hy)
  generalize c * wd + a = k at CN ⊢
  clear hG hs hc ha hx hy
  go_enter Tryz.func114, Tryz.ntmps114
  go_wp2_with (go_at_call 117; (with_reducible refine CN.out.mono ?_); rintro e w2 ⟨rfl, k2⟩; have K2 := Lib.hid k2; clear k2)
  go_ret
  exact ⟨rfl, K2.out⟩
end Go.Proofs.YtghjlekdibcjdaaGreatDoor
/- The contract of toYCbCr of an opaque NRGBA image. -/
namespace Go.Proofs.YtghjlekdibcjdaaGreatDoor
open Go.Deep Go.RowKit
set_option linter.unusedVariables false
set_option maxHeartbeats 4000000 in
set_option maxRecDepth 100000 in
theorem nrgbaBlock_any (bi bp b cb cr o : Nat) (x0 y0 : Int) (wd hg : Nat) (V : Nat → Nat → Nat) (bx by' : Nat) (f fc fr : Nat → Value) (w : World) (hop : ∀ k, k < wd * hg → V 3 k = 255) (hG : PixAt 51 bi bp x0 y0 wd hg V w) (hs : SizeOk x0 y0 wd hg) (hx : bx ≤ 131072) (hy : by' ≤ 131072) (hr : w.rowIs b 132 64 f) (hrb : w.rowIs cb 133 256 fc) (hrr : w.rowIs cr 133 256 fr) (ho : o + 64 ≤ 256) (hcr : cb ≠ cr) (hp : b ≠ bp ∧ cb ≠ bp ∧ cr ≠ bp) :
    Calls Tryz.prog 60 #[.iface 49 (.pointer (some ⟨bi, 0, none⟩)), .agg #[.int .i64 (x0 + bx), .int .i64 (y0 + by')], .pointer (some ⟨b, 0, none⟩), .pointer (some ⟨cb, o, none⟩), .pointer (some ⟨cr, o, none⟩)] w fun e w' => e = .returned (.tuple #[]) ∧ w'.rowIs b 132 64 (smp wd hg (planesOf V 0) bx by') ∧ w'.rowIs cb 133 256 (upAt o 64 (smp wd hg (planesOf V 1) bx by') fc) ∧ w'.rowIs cr 133 256 (upAt o 64 (smp wd hg (planesOf V 2) bx by') fr) ∧ Kept (fun k => k ≠ b ∧ k ≠ cb ∧ k ≠ cr) w w' := by
  have hm0 : ∀ w : World, (method 345 49 (.pointer (some ⟨bi, 0, none⟩)) "Bounds").run Tryz.prog w = .ok (115, .pointer (some ⟨bi, 0, none⟩)) w := fun _ => by kernel_rfl
  have hm1 : ∀ w : World, (method 345 49 (.pointer (some ⟨bi, 0, none⟩)) "At").run Tryz.prog w = .ok (114, .pointer (some ⟨bi, 0, none⟩)) w := fun _ => by kernel_rfl
  have hm2 : ∀ (v : Value) (w : World), (method 345 223 v "RGBA").run Tryz.prog w = .ok (150, v) w := fun _ _ => by kernel_rfl
  have hs' := hs
  obtain ⟨s1, s2, s3, s4, s5, ⟨s6, s7⟩, ⟨s8, s9⟩⟩ := hs
  have CB := Lib.hid (boundsNrgba bi _ _ x0 y0 (x0 + wd) (y0 + hg) (w.alloc (.cells #[.int .i64 (x0 + bx), .int .i64 (y0 + by')] 38)) (((Kept.refl (fun _ => True) w).alloc _ |>.block bi (Array.getElem?_eq_some_iff.1 hG.img).1 trivial).trans hG.img))
  unfold rectV at CB
  have HG := Lib.hid (And.intro hG (And.intro hr (And.intro hrb hrr)))
  have HP := Lib.hid hp
  have HO := Lib.hid (And.intro hop hs')
  clear hG hr hrb hrr hp hop hs'
  go_enter Tryz.func60, Tryz.ntmps60
  go_wp2_with (go_at_call 115; (with_reducible refine CB.out.mono ?_); rintro e w1 ⟨rfl, k1⟩; have K1 := Lib.hid k1; obtain ⟨RB, hRB⟩ : ∃ RB, w1.heap.size = RB := ⟨_, rfl⟩; have hbx : (w1.alloc (.cells #[.int .i64 x0, .int .i64 y0, .int .i64 (x0 + wd), .int .i64 (y0 + hg)] 40)).heap[RB]? = some (.cells #[.int .i64 x0, .int .i64 y0, .int .i64 (x0 + wd), .int .i64 (y0 + hg)] 40 (0, 0)) := (by rw [← hRB]; exact heap_alloc_new _ _); obtain ⟨r0, r1, r2, r3, r4⟩ := buf_cells hbx; have HBX := Lib.hid (And.intro hRB hbx); clear k1 hbx)
  clear r0 r1 r2 r3 r4 CB hm0
  have hCY0 : CY w b cb cr o w.heap.size RB (.int .i64 (x0 + bx)) (.int .i64 (y0 + by')) (.int .i64 x0) (.int .i64 y0) (.int .i64 (x0 + wd)) (.int .i64 (y0 + hg)) (fun c => smp wd hg (planesOf V c) bx by') f fc fr 0 (w1.alloc (.cells #[.int .i64 x0, .int .i64 y0, .int .i64 (x0 + wd), .int .i64 (y0 + hg)] 40)) := by
    have hk0 : Kept (fun _ => True) w w1 := ((Kept.refl _ w).alloc _).trans K1.out
    have hk := hk0.alloc (.cells #[.int .i64 x0, .int .i64 y0, .int .i64 (x0 + wd), .int .i64 (y0 + hg)] 40)
    have hka : Kept (fun _ => True) w1 (w1.alloc (.cells #[.int .i64 x0, .int .i64 y0, .int .i64 (x0 + wd), .int .i64 (y0 + hg)] 40)) := (Kept.refl _ _).alloc _
    have hp1 := (K1.out.block w.heap.size (by simp) trivial).trans (heap_alloc_new w (.cells #[.int .i64 (x0 + bx), .int .i64 (y0 + by')] 38))
    exact ⟨hk.mono fun _ _ _ => trivial, (hka.block _ (Array.getElem?_eq_some_iff.1 hp1).1 trivial).trans hp1, HBX.out.2, (hk.row HG.out.2.1 trivial).congr fun j _ => upAt_zero _ _ _ j, (hk.row HG.out.2.2.1 trivial).congr fun j _ => upAt_zero _ _ _ j, (hk.row HG.out.2.2.2 trivial).congr fun j _ => upAt_zero _ _ _ j⟩
  obtain ⟨n, hn⟩ : ∃ n, wd * hg = n := ⟨_, rfl⟩
  rw [hn] at s5
  have HN := Lib.hid hn
  clear hn
  go_loopg [13] 8 (fun k s13 wr => ∃ j : Nat, j ≤ 8 ∧ k = 8 - j ∧ s13 = .int .i64 (j : Int) ∧ CY w b cb cr o w.heap.size RB (.int .i64 (x0 + bx)) (.int .i64 (y0 + by')) (.int .i64 x0) (.int .i64 y0) (.int .i64 (x0 + wd)) (.int .i64 (y0 + hg)) (fun c => smp wd hg (planesOf V c) bx by') f fc fr (8 * j) wr)
  case atStart => exact ⟨0, by omega, rfl, rfl, hCY0⟩
  case round =>
    clear hCY0 K1 HBX
    obtain ⟨j, hj, rfl, rfl, hS⟩ := hrel
    by_cases hlt : j < 8
    · have hjd : decide ((j : Int) < 8) = true := by simp; omega
      go_wp2_with fail
      go_loopg [14] 8 (fun k s14 wr => ∃ i : Nat, i ≤ 8 ∧ k = 8 - i ∧ s14 = .int .i64 (i : Int) ∧ CY w b cb cr o w.heap.size RB (.int .i64 (x0 + bx)) (.int .i64 (y0 + by')) (.int .i64 x0) (.int .i64 y0) (.int .i64 (x0 + wd)) (.int .i64 (y0 + hg)) (fun c => smp wd hg (planesOf V c) bx by') f fc fr (8 * j + i) wr)
      case atStart => exact ⟨0, by omega, rfl, rfl, hS⟩
      case round =>
        clear hS
        obtain ⟨i, hi, rfl, rfl, hS⟩ := hrel
        by_cases hlt2 : i < 8
        · have hid : decide ((i : Int) < 8) = true := by simp; omega
          have hG := HG.out.1.kept hS.kept ⟨type_ne HG.out.1.img (rowIs_heap HG.out.2.1) (by decide), type_ne HG.out.1.img (rowIs_heap HG.out.2.2.1) (by decide), type_ne HG.out.1.img (rowIs_heap HG.out.2.2.2) (by decide)⟩ ⟨Ne.symm HP.out.1, Ne.symm HP.out.2.1, Ne.symm HP.out.2.2⟩
          obtain ⟨a0, a1⟩ := two_cells hS.pt
          have hca : clampAt wd hg bx by' (8 * j + i) = min (by' + j) (hg - 1) * wd + min (bx + i) (wd - 1) := by
            unfold clampAt
            rw [show (8 * j + i) / 8 = j by omega, show (8 * j + i) % 8 = i by omega]
          have hcl := clamp_lt s1 s2 bx by' (8 * j + i)
          obtain ⟨a, ha⟩ : ∃ a, min (bx + i) (wd - 1) = a := ⟨_, rfl⟩
          obtain ⟨c, hcc⟩ : ∃ c, min (by' + j) (hg - 1) = c := ⟨_, rfl⟩
          rw [hcc, ha] at hca
          have CA : Hid (∀ (x y : Int) (W : World), Kept (fun _ => True) wr W → x = x0 + (a : Int) → y = y0 + (c : Int) → Calls Tryz.prog 114 #[.pointer (some ⟨bi, 0, none⟩), .int .i64 x, .int .i64 y] W fun e w' => e = .returned (.iface 223 (.agg #[.int .u8 (V 0 (c * wd + a) : Int), .int .u8 (V 1 (c * wd + a) : Int), .int .u8 (V 2 (c * wd + a) : Int), .int .u8 255])) ∧ Kept (fun _ => True) W w') := Lib.hid fun x y W k hx hy => by
            have h := nrgba_at_any bi bp x0 y0 wd hg V c a x y W (hG.kept k trivial trivial) HO.out.2 (by omega) (by omega) hx hy
            rw [HO.out.1 (c * wd + a) (by rw [← hca]; exact hcl)] at h
            exact h
          obtain ⟨q, hq⟩ : ∃ q, c * wd + a = q := ⟨_, rfl⟩
          rw [hq] at hca CA
          have CG := Lib.hid fun W => rgba_any (V 0 q) (V 1 q) (V 2 q) (hG.small 0 q) (hG.small 1 q) (hG.small 2 q) W
          have CR := Lib.hid fun W => rgb_any (V 0 q) (V 1 q) (V 2 q) (hG.small 0 q) (hG.small 1 q) (hG.small 2 q) W
          have b0 := hG.small 0 q
          have b1 := hG.small 1 q
          have b2 := hG.small 2 q
          have v0 : (lumaOf (V 0 q) (V 1 q) (V 2 q) : Int) ≤ 255 := by have := lumaOf_le (hG.small 0 q) (hG.small 1 q) (hG.small 2 q); omega
          have v1 : (cbOf (V 0 q) (V 1 q) (V 2 q) : Int) ≤ 255 := by have : cbOf (V 0 q) (V 1 q) (V 2 q) ≤ 255 := chr_le _; omega
          have v2 : (crOf (V 0 q) (V 1 q) (V 2 q) : Int) ≤ 255 := by have : crOf (V 0 q) (V 1 q) (V 2 q) ≤ 255 := chr_le _; omega
          have e0 : planesOf V 0 q = lumaOf (V 0 q) (V 1 q) (V 2 q) := rfl
          have e1 : planesOf V 1 q = cbOf (V 0 q) (V 1 q) (V 2 q) := rfl
          have e2 : planesOf V 2 q = crOf (V 0 q) (V 1 q) (V 2 q) := rfl
          have HV := Lib.hid (And.intro hS (And.intro hca (And.intro e0 (And.intro e1 e2))))
          obtain ⟨g0, hg0⟩ : ∃ g, V 0 q = g := ⟨_, rfl⟩
          obtain ⟨g1, hg1⟩ : ∃ g, V 1 q = g := ⟨_, rfl⟩
          obtain ⟨g2, hg2⟩ : ∃ g, V 2 q = g := ⟨_, rfl⟩
          rw [hg0, hg1, hg2] at CR CG CA v0 v1 v2 HV
          rw [hg0] at b0
          rw [hg1] at b1
          rw [hg2] at b2
          obtain ⟨yy, hyy⟩ : ∃ g, lumaOf g0 g1 g2 = g := ⟨_, rfl⟩
          obtain ⟨yb, hyb⟩ : ∃ g, cbOf g0 g1 g2 = g := ⟨_, rfl⟩
          obtain ⟨yr, hyr⟩ : ∃ g, crOf g0 g1 g2 = g := ⟨_, rfl⟩
          rw [hyy] at CR v0 HV
          rw [hyb] at CR v1 HV
          rw [hyr] at CR v2 HV
          have t0 : wr.cell? ⟨b, 8 * j + i, none⟩ = some (upAt 0 (8 * j + i) (smp wd hg (planesOf V 0) bx by') f (8 * j + i)) := hS.row.cell (by omega)
          have t1 : wr.cell? ⟨cb, o + (8 * j + i), none⟩ = some (upAt o (8 * j + i) (smp wd hg (planesOf V 1) bx by') fc (o + (8 * j + i))) := hS.rowb.cell (by omega)
          have t2 : wr.cell? ⟨cr, o + (8 * j + i), none⟩ = some (upAt o (8 * j + i) (smp wd hg (planesOf V 2) bx by') fr (o + (8 * j + i))) := hS.rowr.cell (by omega)
          have z0 : wr.frozen? ⟨b, 8 * j + i, none⟩ = false := hS.row.frozen _
          have z1 : wr.frozen? ⟨cb, o + (8 * j + i), none⟩ = false := hS.rowb.frozen _
          have z2 : wr.frozen? ⟨cr, o + (8 * j + i), none⟩ = false := hS.rowr.frozen _
          generalize upAt 0 (8 * j + i) (smp wd hg (planesOf V 0) bx by') f (8 * j + i) = old0 at t0
          generalize upAt o (8 * j + i) (smp wd hg (planesOf V 1) bx by') fc (o + (8 * j + i)) = old1 at t1
          generalize upAt o (8 * j + i) (smp wd hg (planesOf V 2) bx by') fr (o + (8 * j + i)) = old2 at t2
          have hbc : b ≠ cb := type_ne (rowIs_heap hS.row) (rowIs_heap hS.rowb) (by decide)
          have hbr : b ≠ cr := type_ne (rowIs_heap hS.row) (rowIs_heap hS.rowr) (by decide)
          have HT := Lib.hid (And.intro t0 (And.intro t1 (And.intro t2 (And.intro z0 (And.intro z1 z2)))))
          have q2 : (0 : Int) ≤ 8 * (j : Int) + (i : Int) := by omega
          have q3 : 8 * (j : Int) + (i : Int) < 64 := by omega
          have q4 : (8 * (j : Int) + (i : Int)).toNat = 8 * j + i := by omega
          have dd0 : (g0 : Int) * 257 / 256 = (g0 : Int) := by omega
          have dd1 : (g1 : Int) * 257 / 256 = (g1 : Int) := by omega
          have dd2 : (g2 : Int) * 257 / 256 = (g2 : Int) := by omega
          have hxs : (bx + i ≤ wd - 1 ∧ a = bx + i) ∨ (wd ≤ bx + i ∧ a = wd - 1) := by omega
          have hys : (by' + j ≤ hg - 1 ∧ c = by' + j) ∨ (hg ≤ by' + j ∧ c = hg - 1) := by omega
          have fs : ∀ W, Kept (fun _ => True) wr W → W.cell? ⟨b, 8 * j + i, none⟩ = some old0 ∧ W.cell? ⟨cb, o + (8 * j + i), none⟩ = some old1 ∧ W.cell? ⟨cr, o + (8 * j + i), none⟩ = some old2 ∧ W.frozen? ⟨b, 8 * j + i, none⟩ = false ∧ W.frozen? ⟨cb, o + (8 * j + i), none⟩ = false ∧ W.frozen? ⟨cr, o + (8 * j + i), none⟩ = false := fun W k => by
            obtain ⟨t0, t1, t2, z0, z1, z2⟩ := HT.out
            exact ⟨k.cellOf t0 trivial, k.cellOf t1 trivial, k.cellOf t2 trivial, (k.frozen (a := ⟨b, 8 * j + i, none⟩) (block_lt_of_cell t0) trivial).trans z0, (k.frozen (a := ⟨cb, o + (8 * j + i), none⟩) (block_lt_of_cell t1) trivial).trans z1, (k.frozen (a := ⟨cr, o + (8 * j + i), none⟩) (block_lt_of_cell t2) trivial).trans z2⟩
          have HFS := Lib.hid fs
          clear hS hG hca hcl ha hcc hq hg0 hg1 hg2 hyy hyb hyr e0 e1 e2 t0 t1 t2 z0 z1 z2 fs
          rcases hxs with ⟨u1, u2⟩ | ⟨u1, u2⟩ <;> rcases hys with ⟨u3, u4⟩ | ⟨u3, u4⟩ <;>
          · go_wp2_with (first
              | (go_at_call 114; (with_reducible refine (CA.out _ _ _ (Kept.refl _ _) ?_ ?_).mono ?_); (· omega); (· omega); rintro e w2 ⟨rfl, k2⟩; have K2 := Lib.hid k2; clear k2)
              | (go_at_call 150; (with_reducible refine (CG.out _).mono ?_); rintro e w3 ⟨rfl, k3⟩; have K3 := Lib.hid (K2.out.trans k3); obtain ⟨t0, t1, t2, z0, z1, z2⟩ := HFS.out _ K3.out; clear k3)
              | (go_at_call 22; (with_reducible refine (CR.out _).mono ?_); rintro e w4 ⟨rfl, rfl⟩))
            go_roundg (8 - (i + 1))
            case measure => go_light; omega
            case rel =>
              go_light
              obtain ⟨h1, h2, h3, h4, h5⟩ := HV.out
              refine ⟨i + 1, by omega, rfl, by go_num, ?_⟩
              exact h1.step K3.out hcr _ _ _ (by show _ = Value.int .i32 ((planesOf V 0 (clampAt wd hg bx by' (8 * j + i)) : Nat) : Int); rw [h2, h3]) (by show _ = Value.int .i32 ((planesOf V 1 (clampAt wd hg bx by' (8 * j + i)) : Nat) : Int); rw [h2, h4]) (by show _ = Value.int .i32 ((planesOf V 2 (clampAt wd hg bx by' (8 * j + i)) : Nat) : Int); rw [h2, h5])
        · obtain rfl : i = 8 := by omega
          have HSS := Lib.hid hS
          clear hS
          go_wp2_with fail
          go_roundg (8 - (j + 1))
          case measure => go_light; omega
          case rel =>
            go_light
            exact ⟨j + 1, by omega, rfl, by go_num, HSS.out⟩
    · obtain rfl : j = 8 := by omega
      have HS := Lib.hid hS
      clear hS
      go_wp2_with fail
      go_end0
      refine ⟨rfl, HS.out.row.congr fun j hj => ?_, HS.out.rowb, HS.out.rowr, HS.out.kept⟩
      unfold upAt; rw [if_pos (by omega), Nat.sub_zero]
end Go.Proofs.YtghjlekdibcjdaaGreatDoor
/- The contract of writeSOS over an image of type Nrgba (printed by sos.py). -/
namespace Go.Proofs.YtghjlekdibcjdaaGreatDoor
open Go.Deep Go.RowKit
set_option linter.unusedVariables false
set_option maxHeartbeats 8000000 in
set_option maxRecDepth 100000 in
theorem sosNrgba_any (z : Ids) (eb : Nat) (Q L : Nat → Nat) (g : Nat → Value) (T : List Nat) (bi : Nat) (x0 y0 : Int) (wd hg : Nat) (P : Nat → Nat → Nat) (I : World → Prop) (w : World) (hE : EncG z eb g T w) (h18 : g 18 = .int .u32 0) (h19 : g 19 = .int .u32 0) (hV : Env z eb Q L g w)
    (h0 : I w) (hL : LowC I z.B) (hC : BlockC 60 (.iface 49 (.pointer (some ⟨bi, 0, none⟩))) x0 y0 wd hg P I z.B) (hN : BoundsC 115 (.pointer (some ⟨bi, 0, none⟩)) x0 y0 wd hg I) (hP : ∀ c k, P c k ≤ 255) (hs : SizeOk x0 y0 wd hg) (hT : T.length + 14 ≤ 4096) (hlow : z.wb < w.heap.size ∧ z.bb < w.heap.size ∧ eb < w.heap.size) :
    Calls Tryz.prog 43 #[.pointer (some ⟨eb, 0, none⟩), .iface 49 (.pointer (some ⟨bi, 0, none⟩))] w fun e w' => e = .returned (.tuple #[]) ∧ EncS z eb g (colScan Q wd hg P (T ++ sosC, 0, 0)) w' ∧ Fr z.B (z.all eb) w w' := by
  have hm : ∀ w : World, (method 345 49 (.pointer (some ⟨bi, 0, none⟩)) "Bounds").run Tryz.prog w = .ok (115, .pointer (some ⟨bi, 0, none⟩)) w := fun _ => by kernel_rfl
  have hta35 : ∀ W, (Instr.typeAssert (.iface 49 (.pointer (some ⟨bi, 0, none⟩))) 64 35 true).run Tryz.prog W = .ok (.tuple #[.pointer none, .bool false]) W := fun W => by kernel_rfl
  have hta46 : ∀ W, (Instr.typeAssert (.iface 49 (.pointer (some ⟨bi, 0, none⟩))) 64 46 true).run Tryz.prog W = .ok (.tuple #[.pointer none, .bool false]) W := fun W => by kernel_rfl
  have hta54 : ∀ W, (Instr.typeAssert (.iface 49 (.pointer (some ⟨bi, 0, none⟩))) 64 54 true).run Tryz.prog W = .ok (.tuple #[.pointer none, .bool false]) W := fun W => by kernel_rfl
  have CH := Lib.hid (sosC_any w)
  have CW := Lib.hid fun (W : World) (k : Kept (fun _ => True) w W) (hr : W.rowIs w.heap.size 5 14 (ints .u8 fun j => ((sosC.getD j 0 : Nat) : Int))) => write_hd z eb g T sosC w.heap.size 0 14 14 rfl W (hE.all k) (fun j hj => by rw [Nat.zero_add]; exact hr.cell hj) hT (by decide)
  have HI := Lib.hid (And.intro hE (And.intro hV (And.intro h0 (And.intro h18 h19))))
  have HC := Lib.hid (And.intro hL (And.intro hC (And.intro hN hP)))
  clear hE hV h0 h18 h19 hL hC hN hP
  go_enter Tryz.func43, Tryz.ntmps43
  go_wp2_with (first
    | (go_at_call 54; (with_reducible refine CH.out.mono ?_); rintro e w1 ⟨rfl, r1, k1⟩; have P1 := Lib.hid (And.intro r1 k1); clear r1 k1)
    | (go_at_call 38; (with_reducible refine (CW.out _ P1.out.2 P1.out.1).mono ?_); rintro e w2 ⟨rfl, e2, k2⟩; obtain ⟨b, hb⟩ : ∃ b, w2.heap.size = b := ⟨_, rfl⟩; have P2 := Lib.hid (And.intro e2 (And.intro k2 hb)); clear e2 k2)
    | ((with_reducible refine wpList_alloc_agg (op := ⟨some 4, .alloc 132, _, _, _, _⟩) ?_ 132 (agg 64 zero32) b ?_ ?_ ?_); (· rfl); (· exact hb); (· kernel_rfl))
    | ((with_reducible refine wpList_alloc_agg (op := ⟨some 5, .alloc 133, _, _, _, _⟩) ?_ 133 (agg 256 zero32) (b + 1) ?_ ?_ ?_); (· rfl); (· simp [hb]); (· kernel_rfl))
    | ((with_reducible refine wpList_alloc_agg (op := ⟨some 6, .alloc 133, _, _, _, _⟩) ?_ 133 (agg 256 zero32) (b + 2) ?_ ?_ ?_); (· rfl); (· simp [hb]); (· kernel_rfl)))
  obtain ⟨W3, hW3⟩ : ∃ W3, (((w2.alloc (Obj.cells (agg 64 zero32) 132)).alloc (Obj.cells (agg 256 zero32) 133)).alloc (Obj.cells (agg 256 zero32) 133)) = W3 := ⟨_, rfl⟩
  have hk3 : Kept (fun _ => True) w2 W3 := by rw [← hW3]; exact (((Kept.refl _ _).alloc _).alloc _).alloc _
  have hb3 : W3.rowIs b 132 64 zero32 ∧ W3.rowIs (b + 1) 133 256 zero32 ∧ W3.rowIs (b + 2) 133 256 zero32 := by
    rw [← hW3]
    have h1 := rowIs_agg w2 132 64 zero32
    have h2 := rowIs_agg (w2.alloc (Obj.cells (agg 64 zero32) 132)) 133 256 zero32
    have h3 := rowIs_agg ((w2.alloc (Obj.cells (agg 64 zero32) 132)).alloc (Obj.cells (agg 256 zero32) 133)) 133 256 zero32
    simp only [World.size_alloc] at h2 h3
    rw [hb] at h1 h2 h3
    exact ⟨(h1.alloc _).alloc _, h2.alloc _, h3⟩
  rw [hW3]
  clear hW3
  have hkw3 : Kept (z.hd eb) w W3 := (((P1.out.2).mono fun _ _ _ => trivial).trans P2.out.2.1).trans (hk3.mono fun _ _ _ => trivial)
  have hfr3 : Fr z.B (z.all eb) w W3 := Fr.ofHd HI.out.1 hkw3
  have hlow3 := HI.out.2.1.tabs.low
  have hS0 : ∀ i, z.all eb i → z.B ≤ i := fun i hi => by
    obtain ⟨_, h2, h3, h4⟩ := hlow3
    rcases hi with e | e | e <;> omega
  have hI3 : I W3 := HC.out.1 _ _ HI.out.2.2.1 (hfr3.kept hS0)
  have hV3 : Env z eb Q L g W3 := HI.out.2.1.all hfr3
  have hE3 : EncG z eb g (T ++ sosC) W3 := P2.out.1.all hk3
  have hwl : w.heap.size ≤ b := by rw [← hb]; exact Nat.le_trans P1.out.2.size P2.out.2.1.size
  have hbB : z.B ≤ b := by have := hlow3.2.1; have := hlow.1; omega
  have hball : ¬ z.all eb b ∧ ¬ z.all eb (b + 1) ∧ ¬ z.all eb (b + 2) := by
    obtain ⟨h1, h2, h3⟩ := hlow
    refine ⟨?_, ?_, ?_⟩ <;> (rintro (e | e | e) <;> omega)
  have CB := Lib.hid (HC.out.2.2.1 W3 hI3)
  unfold rectV at CB
  have HJ := Lib.hid (And.intro hk3 (And.intro hb3 (And.intro hfr3 (And.intro hI3 (And.intro hV3 hE3)))))
  have HLOW := Lib.hid (And.intro hwl (And.intro hbB (And.intro hball hlow)))
  obtain ⟨s1, s2, s3, s4, s5, ⟨s6, s7⟩, ⟨s8, s9⟩⟩ := hs
  have HS := Lib.hid (show SizeOk x0 y0 wd hg from ⟨s1, s2, s3, s4, s5, ⟨s6, s7⟩, ⟨s8, s9⟩⟩)
  clear hk3 hb3 hkw3 hfr3 hlow3 hS0 hI3 hV3 hE3 hwl hbB hball hlow CH CW hb s5
  go_wp2_with (go_at_call 115; (with_reducible refine CB.out.mono ?_); rintro e w4 ⟨rfl, k4⟩; obtain ⟨rb, hrb⟩ : ∃ rb, w4.heap.size = rb := ⟨_, rfl⟩; have P4 := Lib.hid (And.intro k4 hrb); clear k4)
  have hGS0 : GC z eb Q L g b (b + 1) (b + 2) rb x0 y0 (x0 + wd) (y0 + hg) W3 (T ++ sosC, 0, 0) (w4.alloc (.cells #[.int .i64 x0, .int .i64 y0, .int .i64 (x0 + wd), .int .i64 (y0 + hg)] 40)) := by
    obtain ⟨k4, hrb⟩ := P4.out
    obtain ⟨hk3, hb3, hfr3, hI3, hV3, hE3⟩ := HJ.out
    have hk := k4.alloc (.cells #[.int .i64 x0, .int .i64 y0, .int .i64 (x0 + wd), .int .i64 (y0 + hg)] 40)
    exact ⟨(hE3.all hk).toS HI.out.2.2.2.1 HI.out.2.2.2.2, ⟨hV3.tabs.kept hk fun _ _ _ _ => trivial, fun i hi => hk.cellOf (hV3.bits i hi) trivial, fun i hi => hk.cellOf (hV3.zig i hi) trivial⟩, ⟨fun _ => 0, hk.row hb3.1 trivial⟩, ⟨_, hk.row hb3.2.1 trivial⟩, ⟨_, hk.row hb3.2.2 trivial⟩, by rw [← hrb]; exact heap_alloc_new _ _, Fr.ofKept (hk.mono fun _ _ _ => trivial)⟩
  have hrbn : ¬ z.all eb rb := by
    obtain ⟨h1, h2, h3⟩ := HLOW.out.2.2.2
    have h4 := HLOW.out.1
    have h5 := HJ.out.2.1.1.lt
    have h6 := P4.out.1.size
    have h7 := P4.out.2
    rintro (e | e | e) <;> omega
  have hQ : ∀ j, 1 ≤ Q j := fun j => (HI.out.2.1.tabs.qpos j).1
  have hst0 : St3Ok ((T ++ sosC, 0, 0), 0, 0, 0) := ⟨⟨show (0 : Nat) < 8 by omega, show (0 : Nat) < 4294967296 by omega⟩, ⟨show (-1024 : Int) ≤ 0 by omega, show (0 : Int) ≤ 1016 by omega⟩, ⟨show (-1024 : Int) ≤ 0 by omega, show (0 : Int) ≤ 1016 by omega⟩, ⟨show (-1024 : Int) ≤ 0 by omega, show (0 : Int) ≤ 1016 by omega⟩⟩
  have hlen0 : (T ++ sosC).length ≤ 4096 := by simpa [sosC] using hT
  have HQ := Lib.hid (And.intro hQ (And.intro HC.out.2.2.2 (And.intro hst0 (And.intro hrbn hlen0))))
  clear CB hQ hst0 hrbn hlen0 hT
  obtain ⟨t0, hst⟩ : ∃ t0, t0 = (((T ++ sosC, 0, 0), 0, 0, 0) : St3) := ⟨_, rfl⟩
  have HST := Lib.hid hst
  have hGS1 : GC z eb Q L g b (b + 1) (b + 2) rb x0 y0 (x0 + wd) (y0 + hg) W3 t0.1 (w4.alloc (.cells #[.int .i64 x0, .int .i64 y0, .int .i64 (x0 + wd), .int .i64 (y0 + hg)] 40)) := by rw [hst]; exact hGS0
  have hst2 : t0.2.1 = 0 ∧ t0.2.2.1 = 0 ∧ t0.2.2.2 = 0 := by rw [hst]; exact ⟨rfl, rfl, rfl⟩
  clear hGS0 hst
  go_loopg [7, 8, 9, 20] ((hg + 15) / 16) (fun k s7 s8 s9 s20 wr => ∃ j : Nat, j ≤ (hg + 15) / 16 ∧ k = (hg + 15) / 16 - j ∧ s7 = .int .i32 (colRows Q wd hg P t0 j).2.1 ∧ s8 = .int .i32 (colRows Q wd hg P t0 j).2.2.1 ∧ s9 = .int .i32 (colRows Q wd hg P t0 j).2.2.2 ∧ s20 = .int .i64 (y0 + 16 * (j : Int)) ∧ GC z eb Q L g b (b + 1) (b + 2) rb x0 y0 (x0 + wd) (y0 + hg) W3 (colRows Q wd hg P t0 j).1 wr)
  case atStart => exact ⟨0, by omega, rfl, by simp only [colRows]; rw [hst2.1], by simp only [colRows]; rw [hst2.2.1], by simp only [colRows]; rw [hst2.2.2], by go_num, hGS1⟩
  case round =>
    clear hGS1 hst2 P4
    obtain ⟨j, hj, rfl, rfl, rfl, rfl, rfl, hS⟩ := hrel
    obtain ⟨r0, r1, r2, r3, r4⟩ := buf_cells hS.box
    by_cases hlt : j < (hg + 15) / 16
    · have hjy : y0 + 16 * (j : Int) < y0 + (hg : Int) := by omega
      have hjd : decide (y0 + 16 * (j : Int) < y0 + (hg : Int)) = true := by simp; omega
      obtain ⟨tj, htj⟩ : ∃ tj, colRows Q wd hg P t0 j = tj := ⟨_, rfl⟩
      have hnext : colRows Q wd hg P t0 (j + 1) = colCols Q wd hg P (16 * j) tj ((wd + 15) / 16) := by rw [← htj]; rfl
      rw [htj] at hS ⊢
      have hok : St3Ok tj := by rw [← htj]; refine colRows_ok HQ.out.1 HQ.out.2.1 ?_ j; rw [HST.out]; exact HQ.out.2.2.1
      have htl : tj.1.1.length ≤ 4096 + 14400 * ((wd + 15) / 16 * j) := by
        have h1 := colRows_len Q wd hg P t0 j
        have h2 := HQ.out.2.2.2.2
        rw [htj, HST.out] at h1
        exact Nat.le_trans h1 (Nat.add_le_add_right h2 _)
      have HTJ := Lib.hid (And.intro hok (And.intro htl hnext))
      clear hok htl hnext htj
      go_wp2_with fail
      go_loopg [7, 8, 9, 21] ((wd + 15) / 16) (fun k s7 s8 s9 s21 wr => ∃ i : Nat, i ≤ (wd + 15) / 16 ∧ k = (wd + 15) / 16 - i ∧ s7 = .int .i32 (colCols Q wd hg P (16 * j) tj i).2.1 ∧ s8 = .int .i32 (colCols Q wd hg P (16 * j) tj i).2.2.1 ∧ s9 = .int .i32 (colCols Q wd hg P (16 * j) tj i).2.2.2 ∧ s21 = .int .i64 (x0 + 16 * (i : Int)) ∧ GC z eb Q L g b (b + 1) (b + 2) rb x0 y0 (x0 + wd) (y0 + hg) W3 (colCols Q wd hg P (16 * j) tj i).1 wr)
      case atStart => exact ⟨0, by omega, rfl, rfl, rfl, rfl, by go_num, hS⟩
      case round =>
        clear hS r0 r1 r2 r3 r4
        obtain ⟨i, hi, rfl, rfl, rfl, rfl, rfl, hS⟩ := hrel
        obtain ⟨r0, r1, r2, r3, r4⟩ := buf_cells hS.box
        by_cases hlt2 : i < (wd + 15) / 16
        · have hix : x0 + 16 * (i : Int) < x0 + (wd : Int) := by omega
          obtain ⟨ti, hti⟩ : ∃ ti, colCols Q wd hg P (16 * j) tj i = ti := ⟨_, rfl⟩
          have hstep : colCols Q wd hg P (16 * j) tj (i + 1) = mcuN Q wd hg P (16 * i) (16 * j) ti := by rw [← hti]; rfl
          rw [hti] at hS ⊢
          have hok : St3Ok ti := by rw [← hti]; exact colCols_ok HQ.out.1 HQ.out.2.1 _ HTJ.out.1 i
          have htl : ti.1.1.length + 14400 ≤ 1099511627776 := by
            have h1 := colCols_len Q wd hg P (16 * j) tj i
            have h2 := HTJ.out.2.1
            rw [hti] at h1
            have h3 := mcus_le s1 s2 HS.out.n hlt hi
            generalize (wd + 15) / 16 * j = m at *
            generalize ti.1.1.length = l1 at *
            generalize tj.1.1.length = l2 at *
            omega
          have HTI := Lib.hid (And.intro hok (And.intro htl hstep))
          have hQ0 := hS.start wd hg P (16 * i) (16 * j)
          clear hok htl hti hstep hS
          go_wp2_with fail
          go_loopg [7, 22] 4 (fun k s7 s22 wr => ∃ n : Nat, n ≤ 4 ∧ k = 4 - n ∧ s7 = .int .i32 (lumaN Q wd hg (P 0) (16 * i) (16 * j) (ti.1, ti.2.1) n).2 ∧ s22 = .int .i64 (n : Int) ∧ GQ z eb Q L g b (b + 1) (b + 2) rb x0 y0 (x0 + wd) (y0 + hg) W3 wd hg P (16 * i) (16 * j) (lumaN Q wd hg (P 0) (16 * i) (16 * j) (ti.1, ti.2.1) n).1 n wr)
          case atStart => exact ⟨0, by omega, rfl, rfl, rfl, hQ0⟩
          case round =>
            clear hQ0 r0 r1 r2 r3 r4
            obtain ⟨n, hn, rfl, rfl, rfl, hS⟩ := hrel
            by_cases hlt3 : n < 4
            · have hnd : decide ((n : Int) < 4) = true := by simp; omega
              obtain ⟨st, hst⟩ : ∃ st, lumaN Q wd hg (P 0) (16 * i) (16 * j) (ti.1, ti.2.1) n = st := ⟨_, rfl⟩
              have hstn : lumaN Q wd hg (P 0) (16 * i) (16 * j) (ti.1, ti.2.1) (n + 1) = stepG Q 0 (grayS wd hg (P 0) (16 * i + 8 * (n % 2)) (16 * j + 8 * (n / 2))) st := by rw [← hst]; rfl
              rw [hst] at hS ⊢
              have hok : StOk st := by rw [← hst]; exact lumaN_ok HQ.out.1 (HQ.out.2.1 0) _ _ (st := (ti.1, ti.2.1)) ⟨HTI.out.1.1, HTI.out.1.2.1⟩ n
              have htl : st.1.1.length + 2400 ≤ 1099511627776 := by
                have h1 := lumaN_len Q wd hg (P 0) (16 * i) (16 * j) (ti.1, ti.2.1) n
                have h2 := HTI.out.2.1
                rw [hst] at h1
                simp only at h1
                omega
              obtain ⟨p, hp⟩ : ∃ p : Nat, n % 2 = p := ⟨_, rfl⟩
              obtain ⟨r, hr⟩ : ∃ r : Nat, n / 2 = r := ⟨_, rfl⟩
              have e1 : bits BinOp.and IntKind.i64 (n : Int) 1 = (p : Int) := by
                rw [← hp]
                obtain rfl | rfl | rfl | rfl : n = 0 ∨ n = 1 ∨ n = 2 ∨ n = 3 := by omega
                all_goals decide +kernel
              have e2 : bits BinOp.and IntKind.i64 (n : Int) 2 = 2 * (r : Int) := by
                rw [← hr]
                obtain rfl | rfl | rfl | rfl : n = 0 ∨ n = 1 ∨ n = 2 ∨ n = 3 := by omega
                all_goals decide +kernel
              have p1 : p ≤ 1 := by omega
              have r1 : r ≤ 1 := by omega
              have CPt := Lib.hid fun (x y : Int) => pt_any x y wr
              have CBl : Hid (∀ (x y : Int) (W : World), GQ z eb Q L g b (b + 1) (b + 2) rb x0 y0 (x0 + wd) (y0 + hg) W3 wd hg P (16 * i) (16 * j) st.1 n W → x = x0 + 16 * (i : Int) + (p : Int) * 8 → y = y0 + 16 * (j : Int) + 2 * (r : Int) * 4 → Calls Tryz.prog 60 #[.iface 49 (.pointer (some ⟨bi, 0, none⟩)), .agg #[.int .i64 x, .int .i64 y], .pointer (some ⟨b, 0, none⟩), .pointer (some ⟨b + 1, n * 64, none⟩), .pointer (some ⟨b + 2, n * 64, none⟩)] W fun e w' => e = .returned (.tuple #[]) ∧ w'.rowIs b 132 64 (ints .i32 (grayS wd hg (P 0) (16 * i + 8 * (n % 2)) (16 * j + 8 * (n / 2)))) ∧ GQ z eb Q L g b (b + 1) (b + 2) rb x0 y0 (x0 + wd) (y0 + hg) W3 wd hg P (16 * i) (16 * j) st.1 (n + 1) w') := Lib.hid fun x y W k hx hy =>
                k.lay HC.out.2.1 HC.out.1 HJ.out.2.2.2.1 hlt3 (by omega) (by omega) HLOW.out.2.1 (by have := HLOW.out.2.1; omega) (by have := HLOW.out.2.1; omega) (by omega) x y (by omega) (by omega)
              have CBk : Hid (∀ W, GQ z eb Q L g b (b + 1) (b + 2) rb x0 y0 (x0 + wd) (y0 + hg) W3 wd hg P (16 * i) (16 * j) st.1 (n + 1) W → W.rowIs b 132 64 (ints .i32 (grayS wd hg (P 0) (16 * i + 8 * (n % 2)) (16 * j + 8 * (n / 2)))) → Calls Tryz.prog 57 #[.pointer (some ⟨eb, 0, none⟩), .pointer (some ⟨b, 0, none⟩), .int .i64 0, .int .i32 st.2] W fun e w' => e = .returned (.int .i32 (stepG Q 0 (grayS wd hg (P 0) (16 * i + 8 * (n % 2)) (16 * j + 8 * (n / 2))) st).2) ∧ GQ z eb Q L g b (b + 1) (b + 2) rb x0 y0 (x0 + wd) (y0 + hg) W3 wd hg P (16 * i) (16 * j) (stepG Q 0 (grayS wd hg (P 0) (16 * i + 8 * (n % 2)) (16 * j + 8 * (n / 2))) st).1 (n + 1) w') := Lib.hid fun W k hr =>
                k.write _ (grayS_ok (HQ.out.2.1 0) _ _) hr hok HLOW.out.2.1 HLOW.out.2.2.1.1 HLOW.out.2.2.1.2.1 HLOW.out.2.2.1.2.2 HQ.out.2.2.2.1 htl
              have HSS := Lib.hid (And.intro hS hstn)
              obtain ⟨dc, hdc⟩ : ∃ dc, st.2 = dc := ⟨_, rfl⟩
              rw [hdc] at CBk ⊢
              have i0 : (0 : Int) ≤ (n : Int) := by omega
              have i1 : (n : Int) < 4 := by omega
              clear hS hstn hok htl hdc hp hr hst
              go_wp2_with (first
                | (go_at_call 55; (with_reducible refine (CPt.out _ _).mono ?_); rintro e w5 ⟨rfl, k5⟩; have K5 := Lib.hid k5; clear k5))
              obtain ⟨W6, hW6⟩ : ∃ W6, w5.alloc (.cells #[.int .i64 (x0 + 16 * (i : Int) + (p : Int) * 8), .int .i64 (y0 + 16 * (j : Int) + 2 * (r : Int) * 4)] 38) = W6 := ⟨_, rfl⟩
              obtain ⟨pb, hpb⟩ : ∃ pb, w5.heap.size = pb := ⟨_, rfl⟩
              have hbx : W6.heap[pb]? = some (.cells #[.int .i64 (x0 + 16 * (i : Int) + (p : Int) * 8), .int .i64 (y0 + 16 * (j : Int) + 2 * (r : Int) * 4)] 38 (0, 0)) := by rw [← hW6, ← hpb]; exact heap_alloc_new _ _
              have hGQ6 := HSS.out.1.calm ((K5.out.alloc (.cells #[.int .i64 (x0 + 16 * (i : Int) + (p : Int) * 8), .int .i64 (y0 + 16 * (j : Int) + 2 * (r : Int) * 4)] 38)).drew)
              rw [hW6] at hGQ6
              have HS6 := Lib.hid hGQ6
              obtain ⟨d0, d1⟩ := two_cells hbx
              rw [hW6, hpb]
              clear hGQ6 e1 e2 hW6 hpb hbx
              go_still_tail 6, (by kernel_rfl)
              change wpList _ _ _ _ _ W6.drew
              clear d0 d1
              go_wp2_with (first
                | (go_at_call 60; (with_reducible refine (CBl.out _ _ _ HS6.out rfl rfl).mono ?_); rintro e w7 ⟨rfl, r7, hS7⟩; have HS7 := Lib.hid (And.intro hS7 r7); clear hS7 r7)
                | (go_at_call 57; (with_reducible refine (CBk.out _ HS7.out.1 HS7.out.2).mono ?_); rintro e w8 ⟨rfl, hS8⟩; have HS8 := Lib.hid hS8; clear hS8))
              go_roundg (4 - (n + 1))
              case measure => go_light; omega
              case rel =>
                go_light
                refine ⟨n + 1, by omega, rfl, by rw [HSS.out.2], by go_num, by rw [HSS.out.2]; exact HS8.out⟩
            · obtain rfl : n = 4 := by omega
              obtain ⟨a, ha⟩ : ∃ a, lumaN Q wd hg (P 0) (16 * i) (16 * j) (ti.1, ti.2.1) 4 = a := ⟨_, rfl⟩
              have hoka : StOk a := by rw [← ha]; exact lumaN_ok HQ.out.1 (HQ.out.2.1 0) _ _ (st := (ti.1, ti.2.1)) ⟨HTI.out.1.1, HTI.out.1.2.1⟩ 4
              have hla : a.1.1.length ≤ ti.1.1.length + 9600 := by
                have h1 := lumaN_len Q wd hg (P 0) (16 * i) (16 * j) (ti.1, ti.2.1) 4
                rw [ha] at h1
                exact h1
              have hmb : mcuB Q wd hg P (16 * i) (16 * j) ti = stepG Q 1 (scaled (quadS wd hg (P 1) (16 * i) (16 * j))) (a.1, ti.2.2.1) := by unfold mcuB; rw [ha]
              have hokb : StOk (mcuB Q wd hg P (16 * i) (16 * j) ti) := mcuB_ok HQ.out.1 HQ.out.2.1 _ _ HTI.out.1
              have hlb := stepG_len Q 1 (scaled (quadS wd hg (P 1) (16 * i) (16 * j))) (a.1, ti.2.2.1)
              rw [← hmb] at hlb
              have hn2 : mcuN Q wd hg P (16 * i) (16 * j) ti = ((mcuR Q wd hg P (16 * i) (16 * j) ti).1, a.2, (mcuB Q wd hg P (16 * i) (16 * j) ti).2, (mcuR Q wd hg P (16 * i) (16 * j) ti).2) := by unfold mcuN; rw [ha]
              have hmr : mcuR Q wd hg P (16 * i) (16 * j) ti = stepG Q 1 (scaled (quadS wd hg (P 2) (16 * i) (16 * j))) ((mcuB Q wd hg P (16 * i) (16 * j) ti).1, ti.2.2.2) := rfl
              obtain ⟨B2, hB2⟩ : ∃ B2, mcuB Q wd hg P (16 * i) (16 * j) ti = B2 := ⟨_, rfl⟩
              rw [hB2] at hmb hokb hlb hn2 hmr
              obtain ⟨R2, hR2⟩ : ∃ R2, mcuR Q wd hg P (16 * i) (16 * j) ti = R2 := ⟨_, rfl⟩
              rw [hR2] at hn2 hmr
              rw [ha] at hS ⊢
              obtain ⟨g1, hg1⟩ := hS.qb
              obtain ⟨g2, hg2⟩ := hS.qr
              have hq1 : wr.rowIs (b + 1) 133 256 (ints .i32 (quadS wd hg (P 1) (16 * i) (16 * j))) := hg1.congr fun j hj => quad_full wd hg (P 1) _ _ g1 j hj
              have hq2 : wr.rowIs (b + 2) 133 256 (ints .i32 (quadS wd hg (P 2) (16 * i) (16 * j))) := hg2.congr fun j hj => quad_full wd hg (P 2) _ _ g2 j hj
              have CS1 := Lib.hid (hS.gc.scaleCall hq1 (quadS_in (HQ.out.2.1 1) _ _) HLOW.out.2.1)
              have CW1 : Hid (∀ W, GC z eb Q L g b (b + 1) (b + 2) rb x0 y0 (x0 + wd) (y0 + hg) W3 a.1 W → W.rowIs b 132 64 (ints .i32 (scaled (quadS wd hg (P 1) (16 * i) (16 * j)))) → Calls Tryz.prog 57 #[.pointer (some ⟨eb, 0, none⟩), .pointer (some ⟨b, 0, none⟩), .int .i64 1, .int .i32 ti.2.2.1] W fun e w' => e = .returned (.int .i32 B2.2) ∧ GC z eb Q L g b (b + 1) (b + 2) rb x0 y0 (x0 + wd) (y0 + hg) W3 B2.1 w' ∧ ∀ i g, W.rowIs i 133 256 g → ¬ z.all eb i → w'.rowIs i 133 256 g) := Lib.hid fun W k hr => by
                have h := k.writeBlock (st := (a.1, ti.2.2.1)) 1 (by omega) _ (scaled_in (quadS_in (HQ.out.2.1 1) _ _)) hr ⟨hoka.1, HTI.out.1.2.2.1⟩ HLOW.out.2.1 HLOW.out.2.2.1.1 HLOW.out.2.2.1.2.1 HLOW.out.2.2.1.2.2 HQ.out.2.2.2.1 (by have := HTI.out.2.1; show a.1.1.length + 2400 ≤ _; omega)
                rw [← hmb] at h
                exact h
              have CS2 : Hid (∀ W, GC z eb Q L g b (b + 1) (b + 2) rb x0 y0 (x0 + wd) (y0 + hg) W3 B2.1 W → W.rowIs (b + 2) 133 256 (ints .i32 (quadS wd hg (P 2) (16 * i) (16 * j))) → Calls Tryz.prog 61 #[.pointer (some ⟨b, 0, none⟩), .pointer (some ⟨b + 2, 0, none⟩)] W fun e w' => e = .returned (.tuple #[]) ∧ w'.rowIs b 132 64 (ints .i32 (scaled (quadS wd hg (P 2) (16 * i) (16 * j)))) ∧ GC z eb Q L g b (b + 1) (b + 2) rb x0 y0 (x0 + wd) (y0 + hg) W3 B2.1 w' ∧ ∀ i g, W.rowIs i 133 256 g → w'.rowIs i 133 256 g) := Lib.hid fun W k hr => k.scaleCall hr (quadS_in (HQ.out.2.1 2) _ _) HLOW.out.2.1
              have CW2 : Hid (∀ W, GC z eb Q L g b (b + 1) (b + 2) rb x0 y0 (x0 + wd) (y0 + hg) W3 B2.1 W → W.rowIs b 132 64 (ints .i32 (scaled (quadS wd hg (P 2) (16 * i) (16 * j)))) → Calls Tryz.prog 57 #[.pointer (some ⟨eb, 0, none⟩), .pointer (some ⟨b, 0, none⟩), .int .i64 1, .int .i32 ti.2.2.2] W fun e w' => e = .returned (.int .i32 R2.2) ∧ GC z eb Q L g b (b + 1) (b + 2) rb x0 y0 (x0 + wd) (y0 + hg) W3 R2.1 w') := Lib.hid fun W k hr => by
                have h := k.writeBlock (st := (B2.1, ti.2.2.2)) 1 (by omega) _ (scaled_in (quadS_in (HQ.out.2.1 2) _ _)) hr ⟨hokb.1, HTI.out.1.2.2.2⟩ HLOW.out.2.1 HLOW.out.2.2.1.1 HLOW.out.2.2.1.2.1 HLOW.out.2.2.1.2.2 HQ.out.2.2.2.1 (by have := HTI.out.2.1; simp only at hlb; show B2.1.1.length + 2400 ≤ _; omega)
                rw [← hmr] at h
                exact h.mono fun e w' h => ⟨h.1, h.2.1⟩
              have HSS := Lib.hid (And.intro hn2 hq2)
              obtain ⟨d1, hd1⟩ : ∃ d, ti.2.2.1 = d := ⟨_, rfl⟩
              obtain ⟨d2, hd2⟩ : ∃ d, ti.2.2.2 = d := ⟨_, rfl⟩
              rw [hd1] at CW1 ⊢
              rw [hd2] at CW2 ⊢
              have ewx : IntKind.i64.wrap (x0 + 16 * (i : Int) + 16) = x0 + 16 * (i : Int) + 16 := IntWalk.i64_in _ ⟨by omega, by omega⟩
              clear hS ha hoka hla hmb hokb hlb hn2 hmr hB2 hR2 hg1 hg2 hq1 hq2 hd1 hd2
              go_wp2_with (first
                | (go_at_call 61; (with_reducible refine CS1.out.mono ?_); rintro e w7 ⟨rfl, r7, hS7, k7⟩; have HS7 := Lib.hid (And.intro hS7 (And.intro r7 k7)); clear hS7 r7 k7)
                | (go_at_call 57; (with_reducible refine (CW1.out _ HS7.out.1 HS7.out.2.1).mono ?_); rintro e w8 ⟨rfl, hS8, k8⟩; have HS8 := Lib.hid (And.intro hS8 (k8 _ _ (HS7.out.2.2 _ _ HSS.out.2) HLOW.out.2.2.1.2.2)); clear hS8 k8)
                | (go_at_call 61; (with_reducible refine (CS2.out _ HS8.out.1 HS8.out.2).mono ?_); rintro e w9 ⟨rfl, r9, hS9, k9⟩; have HS9 := Lib.hid (And.intro hS9 r9); clear hS9 r9 k9)
                | (go_at_call 57; (with_reducible refine (CW2.out _ HS9.out.1 HS9.out.2).mono ?_); rintro e w10 ⟨rfl, hS10⟩; have HS10 := Lib.hid hS10; clear hS10))
              go_roundg ((wd + 15) / 16 - (i + 1))
              case measure => go_light; omega
              case rel =>
                go_light
                refine ⟨i + 1, by omega, rfl, by rw [HTI.out.2.2, HSS.out.1], by rw [HTI.out.2.2, HSS.out.1], by rw [HTI.out.2.2, HSS.out.1], ?_, by rw [HTI.out.2.2, HSS.out.1]; exact HS10.out⟩
                exact congrArg (Value.int .i64) (by omega)
        · obtain rfl : i = (wd + 15) / 16 := by omega
          have hix : ¬ x0 + 16 * (((wd + 15) / 16 : Nat) : Int) < x0 + (wd : Int) := by omega
          have ewy : IntKind.i64.wrap (y0 + 16 * (j : Int) + 16) = y0 + 16 * (j : Int) + 16 := IntWalk.i64_in _ ⟨by omega, by omega⟩
          have HSS := Lib.hid hS
          clear hS
          obtain ⟨nx, hnx⟩ : ∃ nx, (wd + 15) / 16 = nx := ⟨_, rfl⟩
          rw [hnx] at hix HSS ⊢
          have HNX := Lib.hid hnx
          clear hnx hi
          go_wp2_with fail
          go_roundg ((hg + 15) / 16 - (j + 1))
          case measure => go_light; omega
          case rel =>
            go_light
            refine ⟨j + 1, by omega, rfl, by rw [HTJ.out.2.2, HNX.out], by rw [HTJ.out.2.2, HNX.out], by rw [HTJ.out.2.2, HNX.out], ?_, by rw [HTJ.out.2.2, HNX.out]; exact HSS.out⟩
            exact congrArg (Value.int .i64) (by omega)
    · obtain rfl : j = (hg + 15) / 16 := by omega
      have hjy : ¬ y0 + 16 * (((hg + 15) / 16 : Nat) : Int) < y0 + (hg : Int) := by omega
      have hok := colRows_ok (wd := wd) (hg := hg) HQ.out.1 HQ.out.2.1 (t := t0) (by rw [HST.out]; exact HQ.out.2.2.1) ((hg + 15) / 16)
      have hlen : (colRows Q wd hg P t0 ((hg + 15) / 16)).1.1.length + 6 ≤ 1099511627776 := by
        have h1 := colRows_len Q wd hg P t0 ((hg + 15) / 16)
        have h2 := HQ.out.2.2.2.2
        have h3 := mcus_all s1 s2 HS.out.n (Nat.le_refl ((hg + 15) / 16))
        have h4 : t0.1.1.length ≤ 4096 := by rw [HST.out]; exact h2
        generalize (wd + 15) / 16 * ((hg + 15) / 16) = m at *
        generalize (colRows Q wd hg P t0 ((hg + 15) / 16)).1.1.length = l1 at *
        generalize t0.1.1.length = l2 at *
        omega
      have CE : Hid (Calls Tryz.prog 62 #[.pointer (some ⟨eb, 0, none⟩), .int .u32 127, .int .u32 7] wr fun e w' => e = .returned (.tuple #[]) ∧ EncS z eb g (emitN (colRows Q wd hg P t0 ((hg + 15) / 16)).1 127 7) w' ∧ Fr z.B (z.all eb) wr w') := Lib.hid (emit_any z eb g _ 127 7 wr hS.enc hok.1 (by omega) (by omega) hlen)
      have HSS := Lib.hid hS
      obtain ⟨ny, hny⟩ : ∃ ny, (hg + 15) / 16 = ny := ⟨_, rfl⟩
      rw [hny] at hjy CE HSS ⊢
      have HNY := Lib.hid hny
      clear hS hok hlen hny hj hlt
      go_wp2_with (go_at_call 62; (with_reducible refine CE.out.mono ?_); rintro e w9 ⟨rfl, e9, k9⟩; have P9 := Lib.hid (And.intro e9 k9); clear e9 k9)
      go_end0
      refine ⟨rfl, ?_, ?_⟩
      · unfold colScan
        rw [HNY.out, ← HST.out]
        exact P9.out.1
      · obtain ⟨h1, h2, h3⟩ := HLOW.out.2.2.2
        have h4 := HLOW.out.1
        exact (HJ.out.2.2.1.transNew HSS.out.fr fun i hi e => e.elim id fun e => by rcases e with e | e | e <;> omega).trans P9.out.2
end Go.Proofs.YtghjlekdibcjdaaGreatDoor
/- The contract of jpeg.Encode of an image of type Nrgba (printed by encol.py). -/
namespace Go.Proofs.YtghjlekdibcjdaaGreatDoor
open Go.Deep Go.RowKit
set_option linter.unusedVariables false
set_option maxHeartbeats 8000000 in
set_option maxRecDepth 100000 in
theorem encodeNrgba_any (wb ob bi : Nat) (x0 y0 : Int) (wd hg : Nat) (P : Nat → Nat → Nat) (q lim : Int) (U : Nat → Nat) (I : World → Prop) (w : World) (h0 : I w) (hLo : LowC I wb) (hC : BlockC 60 (.iface 49 (.pointer (some ⟨bi, 0, none⟩))) x0 y0 wd hg P I wb) (hN : BoundsC 115 (.pointer (some ⟨bi, 0, none⟩)) x0 y0 wd hg I) (hP : ∀ c k, P c k ≤ 255) (hs : SizeOk x0 y0 wd hg) (hwb : w.heap[wb]? = some (.cells #[.slice none 0 0, .int .i64 lim, .bool false] 67 (0, 0))) (hob : w.cell? ⟨ob, 0, none⟩ = some (.int .i64 q))
    (hU : UAt U w) (hUs : ∀ i, U i ≤ 255) (hBits : BitsAt w) (hZig : ZigAt w) (h8 : 4 ≤ wb) (hob1 : wb < ob) (hlim : lim ≤ 9223372036854775807) :
    Calls Tryz.prog 29 #[.iface 65 (.pointer (some ⟨wb, 0, none⟩)), .iface 49 (.pointer (some ⟨bi, 0, none⟩)), .pointer (some ⟨ob, 0, none⟩)] w fun e w' => ∃ bad, e = .returned (errV bad) ∧ ((lim < 0 ∨ ((streamC (quantOf U (scaleOf (qualOf q))) wd hg P).length : Int) ≤ lim) → bad = false ∧ (∃ fb, WrIs wb wb fb lim false (streamC (quantOf U (scaleOf (qualOf q))) wd hg P) w')) ∧ (0 ≤ lim → lim < ((streamC (quantOf U (scaleOf (qualOf q))) wd hg P).length : Int) → bad = true ∧ (∃ fb, WrIs wb wb fb lim true ((streamC (quantOf U (scaleOf (qualOf q))) wd hg P).take lim.toNat) w')) ∧ Fr wb (fun k => k = wb) w w' := by
  have hm : ∀ w : World, (method 345 49 (.pointer (some ⟨bi, 0, none⟩)) "Bounds").run Tryz.prog w = .ok (115, .pointer (some ⟨bi, 0, none⟩)) w := fun _ => by kernel_rfl
  have hta : ∀ W, (Instr.typeAssert (.iface 49 (.pointer (some ⟨bi, 0, none⟩))) 64 35 true).run Tryz.prog W = .ok (.tuple #[.pointer none, .bool false]) W := fun W => by kernel_rfl
  have htw := z_noWriter (.pointer (some ⟨wb, 0, none⟩))
  obtain ⟨s1, s2, s3, s4, s5, ⟨s6, s7⟩, ⟨s8, s9⟩⟩ := hs
  have CB := Lib.hid (hN w h0)
  have CX := Lib.hid fun W => dx_any x0 y0 (x0 + wd) (y0 + hg) W (by omega) (by omega)
  have CY := Lib.hid fun W => dy_any x0 y0 (x0 + wd) (y0 + hg) W (by omega) (by omega)
  have exw : x0 + (wd : Int) - x0 = (wd : Int) := by omega
  have eyh : y0 + (hg : Int) - y0 = (hg : Int) := by omega
  obtain ⟨dw, hdw⟩ : ∃ dw : Int, x0 + (wd : Int) - x0 = dw := ⟨_, rfl⟩
  obtain ⟨dh, hdh⟩ : ∃ dh : Int, y0 + (hg : Int) - y0 = dh := ⟨_, rfl⟩
  rw [hdw] at CX
  rw [hdh] at CY
  unfold rectV at CB CX CY
  have nw : dw < 65536 := by omega
  have nh : dh < 65536 := by omega
  clear hdw hdh
  have HS := Lib.hid (show SizeOk x0 y0 wd hg from ⟨s1, s2, s3, s4, s5, ⟨s6, s7⟩, ⟨s8, s9⟩⟩)
  clear s1 s2 s3 s4 s5 s6 s7 s8 s9
  have HI := Lib.hid (And.intro hLo (And.intro hC (And.intro hN hP)))
  have HH := Lib.hid (And.intro h0 (And.intro hwb (And.intro hob (And.intro hU (And.intro hBits hZig)))))
  have HB := Lib.hid (And.intro h8 (And.intro hob1 hlim))
  clear h0 hLo hC hN hP hwb hob hU hBits hZig h8 hob1 hlim exw eyh
  go_enter Tryz.func29, Tryz.ntmps29
  go_wp2_with (first
    | (go_at_call 115; (with_reducible refine CB.out.mono ?_); rintro e w2 ⟨rfl, k2⟩; obtain ⟨rb, hrb⟩ : ∃ rb, w2.heap.size = rb := ⟨_, rfl⟩; have hbx : (w2.alloc (.cells #[.int .i64 x0, .int .i64 y0, .int .i64 (x0 + wd), .int .i64 (y0 + hg)] 40)).heap[rb]? = some (.cells #[.int .i64 x0, .int .i64 y0, .int .i64 (x0 + wd), .int .i64 (y0 + hg)] 40 (0, 0)) := (by rw [← hrb]; exact heap_alloc_new _ _); have P2 := Lib.hid (And.intro (k2.alloc (.cells #[.int .i64 x0, .int .i64 y0, .int .i64 (x0 + wd), .int .i64 (y0 + hg)] 40)) (And.intro hbx hrb)); clear k2 hbx)
    | (go_at_call 28; (with_reducible refine (CX.out _).mono ?_); rintro e w3 ⟨rfl, k3⟩; have hb3 := (k3.block rb (Array.getElem?_eq_some_iff.1 P2.out.2.1).1 trivial).trans P2.out.2.1; obtain ⟨c0, c1, c2, c3, c4⟩ := buf_cells hb3; have P3 := Lib.hid (And.intro (P2.out.1.trans k3) hb3); clear k3 hb3)
    | (go_at_call 34; (with_reducible refine (CY.out _).mono ?_); rintro e w4 ⟨rfl, k4⟩; have P4 := Lib.hid (And.intro (P3.out.1.trans k4) ((k4.block rb (Array.getElem?_eq_some_iff.1 P3.out.2).1 trivial).trans P3.out.2)); clear k4 c0 c1 c2 c3 c4; obtain ⟨eb, heb⟩ : ∃ eb, w4.heap.size = eb := ⟨_, rfl⟩; have hre : (w4.alloc (.cells (agg 152 encZ) 94)).rowIs eb 94 152 encZ := (by rw [← heb]; exact rowIs_agg w4 94 152 encZ); have CL := Lib.hid (newLUT_any (w4.alloc (.cells (agg 152 encZ) 94))); have P5 := Lib.hid (And.intro hre heb); clear hre)
    | ((with_reducible refine wpList_alloc_agg (op := ⟨some 8, .alloc 94, _, _, _, _⟩) ?_ 94 (agg 152 encZ) eb ?_ ?_ ?_); (· rfl); (· exact heb); (· kernel_rfl))
    | (go_at_call 36; (with_reducible refine CL.out.mono ?_); rintro e w5 ⟨L, rfl, hL1, hL2, hk5⟩; have hr5 := hk5.row P5.out.1 trivial; have P6 := Lib.hid (And.intro hL1 (And.intro hL2 (And.intro hk5 hr5))); clear hL1 hL2 hk5 hr5)
    | ((with_reducible refine wpList_store_part (op := ⟨none, .store 92 (.tmp 29) (.tmp 28), _, _, _, _⟩) ?_ 92 (.tmp 29) (.tmp 28) ?_ eb 148 4 (g := lutSl L) ?_ ?_ P6.out.2.2.2 ?_ ?_ ?_ ?_); (· rfl); (· rfl); (· rfl); (· rfl); (· omega); (· exact size92); (· exact lutSl_one L); (intro w6 k6 r6; have P7 := Lib.hid (And.intro k6 r6); have CN := Lib.hid (newWriter_any wb w6); clear k6 r6)))
  -- BEHIND NewWriter
  obtain ⟨fb, hfb⟩ : ∃ fb, w6.heap.size = fb := ⟨_, rfl⟩
  rw [hfb] at CN
  obtain ⟨bb, hbb⟩ : ∃ bb, fb + 1 = bb := ⟨_, rfl⟩
  rw [hbb] at CN
  refine CN.out.mono ?_
  rintro e w7 ⟨rfl, hrf, hhb, hk7⟩
  have hr7 := hk7.row P7.out.2 trivial
  have hew : w.heap.size ≤ eb := by have := P4.out.1.size; have := P5.out.2; omega
  have hkw : Kept (fun _ => True) w w7 := by
    have h1 := (P4.out.1.alloc (.cells (agg 152 encZ) 94)).trans P6.out.2.2.1
    exact (h1.trans' P7.out.1 fun i hi _ => by omega).trans hk7
  have hrb7 : w7.heap[rb]? = some (.cells #[.int .i64 x0, .int .i64 y0, .int .i64 (x0 + wd), .int .i64 (y0 + hg)] 40 (0, 0)) := by
    have h1 := P4.out.2
    have hrbl := (Array.getElem?_eq_some_iff.1 h1).1
    have h2 := (((Kept.refl (fun _ => True) w4).alloc (.cells (agg 152 encZ) 94)).trans P6.out.2.2.1)
    have h3 := (h2.block rb hrbl trivial).trans h1
    have hre : rb ≠ eb := by have := P5.out.2; omega
    have h4 := (P7.out.1.block rb (Array.getElem?_eq_some_iff.1 h3).1 hre).trans h3
    exact (hk7.block rb (Array.getElem?_eq_some_iff.1 h4).1 trivial).trans h4
  have hlut7 : ∀ h, h < 4 → w7.rowIs (L h) 76 (lutLen h) (ints .u32 fun i => (lutN h i : Int)) := fun h hh =>
    hk7.row (P7.out.1.row (P6.out.1 h hh) (by have := P6.out.2.1 h hh; have := P5.out.1.lt; simp only [World.size_alloc] at *; omega)) trivial
  have hwbw := (Array.getElem?_eq_some_iff.1 HH.out.2.1).1
  have hsz : eb < fb := by have := P7.out.2.lt; omega
  have hoe : ob ≠ eb := by have := block_lt_of_cell HH.out.2.2.1; simp only at this; omega
  have d0 : w7.cell? ⟨eb, 0, none⟩ = some .nilIface := by rw [hr7.cell (by omega)]; rfl
  have d1 : w7.frozen? ⟨eb, 0, none⟩ = false := hr7.frozen _
  have d2 : w7.cell? ⟨ob, 0, none⟩ = some (.int .i64 q) := hkw.cellOf HH.out.2.2.1 trivial
  have hE8 : EncG ⟨wb, wb, bb, fb, lim⟩ eb (encB bb L) [] (w7.setCell ⟨eb, 0, none⟩ (.iface 97 (.pointer (some ⟨bb, 0, none⟩)))) := by
    have hwb7 := (hkw.block wb hwbw trivial).trans HH.out.2.1
    refine ⟨by show wb ≤ eb; omega, rfl, (hr7.set 0 _).congr fun j hj => ?_, ?_⟩
    · have h := lut_store bb L j hj
      unfold put1
      by_cases e1 : j = 1
      · subst e1; rfl
      · rw [if_neg e1]; exact h
    · refine ⟨⟨Nat.le_refl _, .slice none 0 0, ?_, World.ownsRow_nil _ _ _ _, by simp [Value.ownBlock]⟩, ?_, ⟨_, hrf.setOther (a := ⟨eb, 0, none⟩) (by show fb ≠ eb; omega) _, fun j hj => absurd hj (by simp)⟩, by simp, by show wb ≤ bb; omega, by show wb ≤ fb; omega, ?_, HB.out.2.2⟩
      · rw [blk_setCell_other _ _ _ _ (by show wb ≠ eb; omega)]; exact hwb7
      · rw [blk_setCell_other _ _ _ _ (by show bb ≠ eb; omega)]; exact hhb
      · by_cases h : lim < 0
        · exact .inl h
        · exact .inr (by simp; omega)
  have hkw8 : Kept (fun _ => True) w (w7.setCell ⟨eb, 0, none⟩ (.iface 97 (.pointer (some ⟨bb, 0, none⟩)))) := hkw.setCell (fun h => by simp only at h; omega) _
  have hrb8 : (w7.setCell ⟨eb, 0, none⟩ (.iface 97 (.pointer (some ⟨bb, 0, none⟩)))).heap[rb]? = some (.cells #[.int .i64 x0, .int .i64 y0, .int .i64 (x0 + wd), .int .i64 (y0 + hg)] 40 (0, 0)) := (blk_setCell_other _ ⟨eb, 0, none⟩ _ _ (type_ne hrb7 (rowIs_heap hr7) (by decide))).trans hrb7
  have hlut8 : ∀ h, h < 4 → (w7.setCell ⟨eb, 0, none⟩ (.iface 97 (.pointer (some ⟨bb, 0, none⟩)))).rowIs (L h) 76 (lutLen h) (ints .u32 fun i => (lutN h i : Int)) := fun h hh => (hlut7 h hh).setOther (a := ⟨eb, 0, none⟩) (type_ne (rowIs_heap (hlut7 h hh)) (rowIs_heap hr7) (by decide)) _
  have hLn : ∀ h, h < 4 → eb < L h ∧ L h < fb := fun h hh => by
    have h1 := P6.out.2.1 h hh
    have h2 := (P6.out.1 h hh).lt
    have h3 := P7.out.1.size
    have h4 := P5.out.2
    simp only [World.size_alloc] at h1
    omega
  have HE8 := Lib.hid (And.intro hE8 (And.intro hkw8 (And.intro hrb8 (And.intro hlut8 hLn))))
  have HNUM := Lib.hid (And.intro hew (And.intro hsz (And.intro hbb (And.intro hfb hoe))))
  clear hE8 hkw8 hkw hrb7 hlut7 hrb8 hlut8 hLn hr7 hrf hhb hk7 CN hbb hfb hew hsz P2 P3 P4 CB CX CY CL
  obtain ⟨sc, hsc⟩ : ∃ sc, scaleOf (qualOf q) = sc := ⟨_, rfl⟩
  have hscin := scale_in q
  rw [hsc] at hscin
  obtain ⟨Q, hQQ⟩ : ∃ Q, quantOf U (scaleOf (qualOf q)) = Q := ⟨_, rfl⟩
  have hQi : ∀ j, (Q j : Int) = elemOf (U j) sc := fun j => by rw [← hQQ, ← hsc]; exact quantOf_int U _ j
  have hQin : ∀ j, 1 ≤ Q j ∧ Q j ≤ 255 := fun j => by rw [← hQQ]; exact quantOf_in U _ j
  have HQ := Lib.hid (And.intro hQi (And.intro hQin hQQ))
  clear hQi hQin hQQ
  have hq4 : (q < 1 ∧ sc = 5000) ∨ (1 ≤ q ∧ 100 < q ∧ sc = 0) ∨ (1 ≤ q ∧ q ≤ 100 ∧ q < 50 ∧ 5000 / q = sc) ∨ (1 ≤ q ∧ q ≤ 100 ∧ 50 ≤ q ∧ 200 - q * 2 = sc) := by
    rw [← hsc]
    unfold scaleOf qualOf
    by_cases h1 : q < 1
    · exact .inl ⟨h1, by rw [if_pos h1]; rfl⟩
    · rw [if_neg h1]
      by_cases h2 : 100 < q
      · exact .inr (.inl ⟨by omega, h2, by rw [if_pos h2]; rfl⟩)
      · rw [if_neg h2]
        by_cases h3 : q < 50
        · exact .inr (.inr (.inl ⟨by omega, by omega, h3, by rw [if_pos h3]⟩))
        · exact .inr (.inr (.inr ⟨by omega, by omega, by omega, by rw [if_neg h3]⟩))
  have HSC := Lib.hid hsc
  clear hsc
  rcases hq4 with ⟨g1, g2⟩ | ⟨g1, g2, g3⟩ | ⟨g1, g2, g3, g4⟩ | ⟨g1, g2, g3, g4⟩
  · subst g2
    go_wp2_with fail
    obtain ⟨W8, hW8⟩ : ∃ W8, w7.setCell ⟨eb, 0, none⟩ (.iface 97 (.pointer (some ⟨bb, 0, none⟩))) = W8 := ⟨_, rfl⟩
    rw [hW8] at HE8 ⊢
    clear hW8 d0 d1 d2
    go_loopg [59] 2 (fun k s59 wr => ∃ i : Nat, i ≤ 2 ∧ k = 2 - i ∧ s59 = .int .i64 (i : Int) ∧ EncG ⟨wb, wb, bb, fb, lim⟩ eb (encQ bb L Q (64 * i)) [] wr ∧ Kept (fun k => k ≠ eb) W8 wr)
    case atStart =>
      refine ⟨0, by omega, rfl, rfl, HE8.out.1.congr fun j _ _ => ?_, Kept.refl _ _⟩
      unfold encQ; rw [if_neg (by omega)]
    case round =>
      obtain ⟨i, hi, rfl, rfl, hE, hK⟩ := hrel
      by_cases hlt : i < 2
      · have hid : decide ((i : Int) < 2) = true := by simp; omega
        have i0 : (0 : Int) ≤ (i : Int) := by omega
        have i1 : (i : Int) < 2 := by omega
        go_wp2_with fail
        go_loopg [62] 64 (fun k s62 wr => ∃ j : Nat, j ≤ 64 ∧ k = 64 - j ∧ s62 = .int .i64 (j : Int) ∧ EncG ⟨wb, wb, bb, fb, lim⟩ eb (encQ bb L Q (64 * i + j)) [] wr ∧ Kept (fun k => k ≠ eb) W8 wr)
        case atStart => exact ⟨0, by omega, rfl, rfl, hE, hK⟩
        case round =>
          clear hE hK
          obtain ⟨j, hj, rfl, rfl, hE, hK⟩ := hrel
          by_cases hlt2 : j < 64
          · obtain ⟨n, hn⟩ : ∃ n, 64 * i + j = n := ⟨_, rfl⟩
            have hn1 : n < 128 := by omega
            rw [hn] at hE
            have c0 : wr.cell? ⟨0, i * 64 + j, none⟩ = some (.int .u8 (U n : Int)) := by
              rw [show i * 64 + j = n by omega]
              exact hK.cellOf (HE8.out.2.1.cellOf (HH.out.2.2.2.1 n hn1) trivial) (by have := HNUM.out.1; have := HB.out.1; have := (Array.getElem?_eq_some_iff.1 HH.out.2.1).1; show 0 ≠ eb; omega)
            have c1 : wr.cell? ⟨eb, 20 + i * 64 + j, none⟩ = some (encQ bb L Q n (20 + n)) := by rw [show 20 + i * 64 + j = 20 + n by omega]; exact hE.cell (20 + n) (by omega) (by omega)
            have c2 : wr.frozen? ⟨eb, 20 + i * 64 + j, none⟩ = false := hE.frozen _
            have hu := hUs n
            have hqn := HQ.out.1 n
            have hstep : ∀ v, v = Value.int .u8 (Q n : Int) → EncG ⟨wb, wb, bb, fb, lim⟩ eb (encQ bb L Q (n + 1)) [] (wr.setCell ⟨eb, 20 + i * 64 + j, none⟩ v) ∧ Kept (fun k => k ≠ eb) W8 (wr.setCell ⟨eb, 20 + i * 64 + j, none⟩ v) := fun v hv => by
              rw [show 20 + i * 64 + j = 20 + n by omega]
              exact ⟨(hE.set (20 + n) (by omega) (by omega) v).congr fun m _ _ => encQ_step bb L Q n v hv m, hK.setCell (fun _ h => h rfl) _⟩
            obtain ⟨u, hun⟩ : ∃ u, U n = u := ⟨_, rfl⟩
            rw [hun] at c0 hu hqn
            obtain ⟨p, hp⟩ : ∃ p : Int, (u : Int) * 5000 = p := ⟨_, rfl⟩
            have hp0 : 0 ≤ p := by rw [← hp]; exact Int.mul_nonneg (by omega) hscin.1
            have hp1 : p ≤ 1275000 := by
              rw [← hp]
              have h1 := Int.mul_le_mul (show (u : Int) ≤ 255 by omega) hscin.2 hscin.1 (show (0 : Int) ≤ 255 by omega)
              omega
            unfold elemOf at hqn
            rw [hp] at hqn
            obtain ⟨x, hx⟩ : ∃ x : Int, (p + 50) / 100 = x := ⟨_, rfl⟩
            rw [hx] at hqn
            have hx0 : 0 ≤ x := by omega
            have hx1 : x ≤ 20000 := by omega
            obtain ⟨old, hold⟩ : ∃ old, encQ bb L Q n (20 + n) = old := ⟨_, rfl⟩
            rw [hold] at c1
            have HST := Lib.hid (And.intro hstep (And.intro hqn hn))
            have j0 : (0 : Int) ≤ (j : Int) := by omega
            have j1 : (j : Int) < 64 := by omega
            have ewp : IntKind.i64.wrap p = p := IntWalk.i64_in _ ⟨by omega, by omega⟩
            have ewu : IntKind.i64.wrap (u : Int) = (u : Int) := IntWalk.i64_in _ ⟨by omega, by omega⟩
            clear hE hK hstep hqn hold hun hn hu
            have hx3 : x < 1 ∨ (1 ≤ x ∧ 255 < x) ∨ (1 ≤ x ∧ x ≤ 255 ∧ IntKind.u8.wrap x = x) := by
              by_cases h1 : x < 1
              · exact .inl h1
              · by_cases h2 : 255 < x
                · exact .inr (.inl ⟨by omega, h2⟩)
                · exact .inr (.inr ⟨by omega, by omega, by simp only [IntKind.wrap_u8]; omega⟩)
            rcases hx3 with k1 | ⟨k1, k2⟩ | ⟨k1, k2, k3⟩ <;>
            · go_wp2_with fail
              go_roundg (64 - (j + 1))
              case measure => go_light; omega
              case rel =>
                go_light
                have hq := HST.out.2.1
                have hs := HST.out.1 _ (congrArg (Value.int .u8) hq.symm)
                have hnn := HST.out.2.2
                refine ⟨j + 1, by omega, rfl, by go_num, ?_⟩
                rw [show 64 * i + (j + 1) = n + 1 by omega]
                first
                  | (rw [if_pos (by omega)] at hs; exact hs)
                  | (rw [if_neg (by omega), if_pos (by omega)] at hs; exact hs)
                  | (rw [if_neg (by omega), if_neg (by omega)] at hs; exact hs)
          · obtain rfl : j = 64 := by omega
            have HSS := Lib.hid (And.intro hE hK)
            clear hE hK
            go_wp2_with fail
            go_roundg (2 - (i + 1))
            case measure => go_light; omega
            case rel =>
              go_light
              refine ⟨i + 1, by omega, rfl, by go_num, ?_, HSS.out.2⟩
              have h := HSS.out.1
              rw [show 64 * (i + 1) = 64 * i + 64 by omega]
              exact h
      · obtain rfl : i = 2 := by omega
        obtain ⟨G, hGG⟩ : ∃ G, encQ bb L Q (64 * 2) = G := ⟨_, rfl⟩
        rw [hGG] at hE
        have hGq : ∀ j, j < 128 → G (20 + j) = .int .u8 (Q j : Int) := fun j hj => by rw [← hGG]; unfold encQ; rw [if_pos (by omega), show 20 + j - 20 = j by omega]
        have hGl : ∀ h, h < 4 → G (148 + h) = lutSl L h := fun h hh => by rw [← hGG]; unfold encQ encB; rw [if_neg (by omega), if_neg (by omega), if_neg (by omega), if_neg (by omega), if_neg (by omega), if_neg (by omega), show 148 + h - 148 = h by omega]
        have hGr : G 18 = .int .u32 0 ∧ G 19 = .int .u32 0 := by rw [← hGG]; exact ⟨rfl, rfl⟩
        have x2 := hE.cell 2 (by omega) (by omega)
        have x3 := hE.cell 3 (by omega) (by omega)
        have xf := hE.frozen
        have hE1 := (hE.set 2 (by omega) (by omega) (.int .u8 255)).set 3 (by omega) (by omega) (.int .u8 216)
        have hK1 : Kept (fun k => k ≠ eb) W8 ((wr.setCell ⟨eb, 2, none⟩ (.int .u8 255)).setCell ⟨eb, 3, none⟩ (.int .u8 216)) := (hK.setCell (fun _ h => h rfl) _).setCell (fun _ h => h rfl) _
        have HT := Lib.hid (And.intro hE1 (And.intro hK1 (And.intro hGq (And.intro hGl (And.intro hGr HE8.out)))))
        clear hE hK hE1 hK1 hGq hGl hGr hGG
        go_wp2_with fail
        obtain ⟨hE1, hK1, hGq, hGl, hGr, _, hkw8, _, hlut7, _⟩ := HT.out
        have hrow1 := hE1.row.lt
        refine (write_hd _ eb _ [] [255, 216] eb 2 16 2 rfl _ hE1 (fun j hj => ?_) (by simp) (by simp)).mono ?_
        · simp only [List.length_cons, List.length_nil] at hj
          obtain rfl | rfl : j = 0 ∨ j = 1 := by omega
          · exact hE1.cell 2 (by omega) (by omega)
          · exact hE1.cell 3 (by omega) (by omega)
        rintro e w9 ⟨rfl, e9, k9⟩
        obtain ⟨G1, hG1⟩ : ∃ G1 : Nat → Value, (fun i => if i = 3 then Value.int .u8 216 else (fun i => if i = 2 then Value.int .u8 255 else G i) i) = G1 := ⟨_, rfl⟩
        rw [hG1] at e9
        have hG1s : ∀ j, 18 ≤ j → G1 j = G j := fun j hj => by rw [← hG1]; simp only; rw [if_neg (by omega), if_neg (by omega)]
        have P9 := Lib.hid (And.intro e9 (And.intro k9 hG1s))
        clear e9 k9 hG1s hG1 hE1 hK1 hGq hGl hGr hkw8 hlut7 x2 x3 xf
        go_wp2_with fail
        refine (dqt_hd _ eb Q G1 _ w9 P9.out.1 (fun j hj => by rw [P9.out.2.2 _ (by omega)]; exact HT.out.2.2.1 j hj) (by simp)).mono ?_
        rintro e w10 ⟨rfl, ⟨G2, hG2, e10⟩, k10⟩
        have P10 := Lib.hid (And.intro e10 (And.intro k10 hG2))
        clear e10 k10 hG2
        have hrbx : w10.heap[rb]? = some (.cells #[.int .i64 x0, .int .i64 y0, .int .i64 (x0 + wd), .int .i64 (y0 + hg)] 40 (0, 0)) := by
          have h8 := HE8.out.2.2.1
          have hrbe : rb ≠ eb := by
            have := type_ne h8 (rowIs_heap HE8.out.1.row) (by decide)
            exact this
          have h9 := (HT.out.2.1.block rb (Array.getElem?_eq_some_iff.1 h8).1 hrbe).trans h8
          have hhd : Ids.hd ⟨wb, wb, bb, fb, lim⟩ eb rb := by
            have he := HT.out.1
            obtain ⟨_, hfr, _⟩ := he.buf.row
            exact ⟨hrbe, type_ne h9 he.buf.bw (by decide), type_ne h9 (rowIs_heap hfr) (by decide)⟩
          have h10 := (P9.out.2.1.block rb (Array.getElem?_eq_some_iff.1 h9).1 hhd).trans h9
          exact (P10.out.2.1.block rb (Array.getElem?_eq_some_iff.1 h10).1 hhd).trans h10
        obtain ⟨r0, r1, r2, r3, r4⟩ := buf_cells hrbx
        have CS := Lib.hid (size_any x0 y0 wd hg w10 HS.out.x HS.out.y (by have := HS.out.w2; omega) (by have := HS.out.h2; omega))
        unfold rectV at CS
        clear hrbx
        go_wp2_with (go_at_call 41; (with_reducible refine CS.out.mono ?_); rintro e w11 ⟨rfl, k11⟩; have P11 := Lib.hid k11; clear k11)
        clear r0 r1 r2 r3 r4 CS
        have hl2 : ([] ++ [255, 216] ++ (mkr 219 132 ++ qs Q 2)).length = 136 := by simp only [List.length_append, mkr_len, qs_len]; rfl
        refine (sof_hd3 _ eb G2 _ wd hg w11 (P10.out.1.all P11.out) (by rw [hl2]; omega) (by have := HS.out.w2; omega) (by have := HS.out.h2; omega)).mono ?_
        rintro e w12 ⟨rfl, ⟨G3, hG3, e12⟩, k12⟩
        have P12 := Lib.hid (And.intro e12 (And.intro k12 hG3))
        clear e12 k12 hG3
        go_wp2_with fail
        have hl3 : ([] ++ [255, 216] ++ (mkr 219 132 ++ qs Q 2) ++ (mkr 192 17 ++ sofB wd hg 3)).length = 155 := by rw [List.length_append, hl2]; rfl
        refine (dht_hd3 _ eb G3 _ w12 P12.out.1 (by rw [hl3]; omega)).mono ?_
        rintro e w13 ⟨rfl, ⟨G4, hG4, e13⟩, k13⟩
        have P13 := Lib.hid (And.intro e13 (And.intro k13 hG4))
        clear e13 k13 hG4
        go_wp2_with fail
        have hTT : [] ++ [255, 216] ++ (mkr 219 132 ++ qs Q 2) ++ (mkr 192 17 ++ sofB wd hg 3) ++ (mkr 196 418 ++ dhts 4) = hdrC Q wd hg := rfl
        rw [hTT] at P13
        have hb1 := HNUM.out.1
        have hb2 := HNUM.out.2.1
        have hb3 := HNUM.out.2.2.1
        have hwbw := (Array.getElem?_eq_some_iff.1 HH.out.2.1).1
        obtain ⟨g8, _, _⟩ := HB.out
        have K13 : Kept (fun k => k < w.heap.size) w w13 := by
          have hhd : ∀ i, i < w.heap.size → Ids.hd ⟨wb, wb, bb, fb, lim⟩ eb i := fun i hi => ⟨by omega, by show i ≠ bb; omega, by show i ≠ fb; omega⟩
          have h1 : Kept (fun k => k < w.heap.size) w W8 := HE8.out.2.1.mono fun _ _ _ => trivial
          have h2 := h1.trans (HT.out.2.1.mono fun i _ hi => by omega)
          have h3 := h2.trans (P9.out.2.1.mono fun i _ hi => hhd i hi)
          have h4 := h3.trans (P10.out.2.1.mono fun i _ hi => hhd i hi)
          have h5 := h4.trans (P11.out.mono fun _ _ _ => trivial)
          have h6 := h5.trans (P12.out.2.1.mono fun i _ hi => hhd i hi)
          exact h6.trans (P13.out.2.1.mono fun i _ hi => hhd i hi)
        have hG4 : ∀ j, 18 ≤ j → G4 j = G j := fun j hj => by
          rw [P13.out.2.2 j (by omega), P12.out.2.2 j (by omega), P10.out.2.2 j (by omega), P9.out.2.2 j hj]
        have hV13 : Env ⟨wb, wb, bb, fb, lim⟩ eb Q L G4 w13 := by
          refine ⟨⟨fun j hj => by rw [hG4 _ (by omega)]; exact HT.out.2.2.1 j hj, HQ.out.2.1, fun h hh => by rw [hG4 _ (by omega)]; exact HT.out.2.2.2.1 h hh, fun h hh => ?_, fun h hh => ?_, ⟨g8, Nat.le_refl _, by show wb ≤ bb; omega, by show wb ≤ eb; omega⟩⟩, fun i hi => K13.cellOf (HH.out.2.2.2.2.1 i hi) (by show 3 < w.heap.size; omega), fun i hi => K13.cellOf (HH.out.2.2.2.2.2 i hi) (by show 2 < w.heap.size; omega)⟩
          · have hL := HE8.out.2.2.2.2 h hh
            rintro (e | e | e)
            · have e' : L h = wb := e
              omega
            · have e' : L h = bb := e
              omega
            · omega
          · have hL := HE8.out.2.2.2.2 h hh
            have hhd : Ids.hd ⟨wb, wb, bb, fb, lim⟩ eb (L h) := ⟨by omega, by show L h ≠ bb; omega, by show L h ≠ fb; omega⟩
            exact P13.out.2.1.row (P12.out.2.1.row (P11.out.row (P10.out.2.1.row (P9.out.2.1.row (HT.out.2.1.row (HE8.out.2.2.2.1 h hh) (by omega)) hhd) hhd) trivial) hhd) hhd
        have hG13 : I w13 := HI.out.1 _ _ HH.out.1 (K13.mono fun i _ hi => by omega)
        have hz := hdrC_len Q wd hg
        have hsz13 := K13.size
        have hE13 := P13.out.1
        refine (sosNrgba_any ⟨wb, wb, bb, fb, lim⟩ eb Q L G4 _ bi x0 y0 wd hg P I w13 hE13 (by rw [hG4 _ (by omega)]; exact HT.out.2.2.2.2.1.1) (by rw [hG4 _ (by omega)]; exact HT.out.2.2.2.2.1.2) hV13 hG13 HI.out.1 HI.out.2.1 HI.out.2.2.1 HI.out.2.2.2 HS.out (by omega) ⟨by show wb < _; omega, (Array.getElem?_eq_some_iff.1 hE13.buf.bw).1, hE13.row.lt⟩).mono ?_
        rintro e w14 ⟨rfl, e14, k14⟩
        have hzl := colScan_len Q P HS.out.w1 HS.out.h1 HS.out.n (hdrC Q wd hg ++ sosC, 0, 0) (by simp only [List.length_append]; have : sosC.length = 14 := rfl; omega)
        obtain ⟨S, hSS⟩ : ∃ S, colScan Q wd hg P (hdrC Q wd hg ++ sosC, 0, 0) = S := ⟨_, rfl⟩
        rw [hSS] at e14 hzl
        have hstr : streamC Q wd hg P = S.1 ++ [255, 217] := by rw [← hSS]; rfl
        have y2 := EncIs.cell e14 2 (by omega) (by omega)
        have y3 := EncIs.cell e14 3 (by omega) (by omega)
        have yf := EncIs.frozen e14
        have e15 := (EncIs.set e14 2 (by omega) (by omega) (.int .u8 255)).set 3 (by omega) (by omega) (.int .u8 217)
        have HU := Lib.hid (And.intro K13 (And.intro k14 (And.intro e15 (And.intro hstr hzl))))
        clear K13 hV13 hG13 hE13 e14 k14 e15 hstr hSS hz hzl hG4 hsz13 hTT hl2 hl3
        go_wp2_with fail
        refine (write_eoi ⟨wb, wb, bb, fb, lim⟩ eb _ S.1 255 217 _ HU.out.2.2.1 rfl rfl (by have := HU.out.2.2.2.2; omega)).mono ?_
        rintro e w16 ⟨rfl, e16, k16⟩
        have P16 := Lib.hid (And.intro e16 k16)
        clear e16 k16 y2 y3 yf
        go_wp2_with fail
        refine (flush_enc ⟨wb, wb, bb, fb, lim⟩ eb _ (S.1 ++ [255, 217]) w16 P16.out.1 (by have := HU.out.2.2.2.2; simp only [List.length_append, List.length_cons, List.length_nil]; omega)).mono ?_
        rintro e w17 ⟨rfl, e17, k17⟩
        have HF := Lib.hid (And.intro e17 k17)
        clear e17 k17
        have hfr : Fr wb (fun k => k = wb) w w17 := by
          have h1 : Fr wb (fun k => k = wb) w w13 := Fr.ofKept (HU.out.1.mono fun i hi _ => hi)
          have h2 : Fr wb (Ids.all ⟨wb, wb, bb, fb, lim⟩ eb) w13 w17 := ((HU.out.2.1.setCell (.inr (.inr rfl)) _).setCell (.inr (.inr rfl)) _ |>.trans P16.out.2).trans HF.out.2
          refine h1.transNew h2 fun i hi e => ?_
          rcases e with e | e | e
          · exact e
          · have e' : i = bb := e
            omega
          · omega
        have hstr := HU.out.2.2.2.1
        have HR := Lib.hid (And.intro hfr hstr)
        clear hfr hstr
        have hQr := HQ.out.2.2
        by_cases hgood : lim < 0 ∨ (((S.1 ++ [255, 217]).length : Nat) : Int) ≤ lim
        · have hf := HF.out.1.good hgood
          have t1 := hf.1
          have HX := Lib.hid (And.intro hf.2 hgood)
          clear hf hgood hQr
          go_wp2_with fail
          go_ret
          refine ⟨false, rfl, fun _ => ⟨rfl, fb, ?_⟩, fun h1 h2 => ?_, HR.out.1⟩
          · rw [HQ.out.2.2, HR.out.2]; exact HX.out.1
          · rw [HQ.out.2.2, HR.out.2] at h2
            have := HX.out.2
            omega
        · have hf := HF.out.1.bad (by show 0 ≤ lim; omega) (by show lim < _; omega)
          have t1 := hf.1
          have HX := Lib.hid (And.intro hf.2 hgood)
          clear hf hgood hQr
          go_wp2_with fail
          go_ret
          refine ⟨true, rfl, fun h => ?_, fun h1 h2 => ⟨rfl, fb, ?_⟩, HR.out.1⟩
          · rw [HQ.out.2.2, HR.out.2] at h
            exact absurd h HX.out.2
          · rw [HQ.out.2.2, HR.out.2]; exact HX.out.1
  · subst g3
    go_wp2_with fail
    obtain ⟨W8, hW8⟩ : ∃ W8, w7.setCell ⟨eb, 0, none⟩ (.iface 97 (.pointer (some ⟨bb, 0, none⟩))) = W8 := ⟨_, rfl⟩
    rw [hW8] at HE8 ⊢
    clear hW8 d0 d1 d2
    go_loopg [59] 2 (fun k s59 wr => ∃ i : Nat, i ≤ 2 ∧ k = 2 - i ∧ s59 = .int .i64 (i : Int) ∧ EncG ⟨wb, wb, bb, fb, lim⟩ eb (encQ bb L Q (64 * i)) [] wr ∧ Kept (fun k => k ≠ eb) W8 wr)
    case atStart =>
      refine ⟨0, by omega, rfl, rfl, HE8.out.1.congr fun j _ _ => ?_, Kept.refl _ _⟩
      unfold encQ; rw [if_neg (by omega)]
    case round =>
      obtain ⟨i, hi, rfl, rfl, hE, hK⟩ := hrel
      by_cases hlt : i < 2
      · have hid : decide ((i : Int) < 2) = true := by simp; omega
        have i0 : (0 : Int) ≤ (i : Int) := by omega
        have i1 : (i : Int) < 2 := by omega
        go_wp2_with fail
        go_loopg [62] 64 (fun k s62 wr => ∃ j : Nat, j ≤ 64 ∧ k = 64 - j ∧ s62 = .int .i64 (j : Int) ∧ EncG ⟨wb, wb, bb, fb, lim⟩ eb (encQ bb L Q (64 * i + j)) [] wr ∧ Kept (fun k => k ≠ eb) W8 wr)
        case atStart => exact ⟨0, by omega, rfl, rfl, hE, hK⟩
        case round =>
          clear hE hK
          obtain ⟨j, hj, rfl, rfl, hE, hK⟩ := hrel
          by_cases hlt2 : j < 64
          · obtain ⟨n, hn⟩ : ∃ n, 64 * i + j = n := ⟨_, rfl⟩
            have hn1 : n < 128 := by omega
            rw [hn] at hE
            have c0 : wr.cell? ⟨0, i * 64 + j, none⟩ = some (.int .u8 (U n : Int)) := by
              rw [show i * 64 + j = n by omega]
              exact hK.cellOf (HE8.out.2.1.cellOf (HH.out.2.2.2.1 n hn1) trivial) (by have := HNUM.out.1; have := HB.out.1; have := (Array.getElem?_eq_some_iff.1 HH.out.2.1).1; show 0 ≠ eb; omega)
            have c1 : wr.cell? ⟨eb, 20 + i * 64 + j, none⟩ = some (encQ bb L Q n (20 + n)) := by rw [show 20 + i * 64 + j = 20 + n by omega]; exact hE.cell (20 + n) (by omega) (by omega)
            have c2 : wr.frozen? ⟨eb, 20 + i * 64 + j, none⟩ = false := hE.frozen _
            have hu := hUs n
            have hqn := HQ.out.1 n
            have hstep : ∀ v, v = Value.int .u8 (Q n : Int) → EncG ⟨wb, wb, bb, fb, lim⟩ eb (encQ bb L Q (n + 1)) [] (wr.setCell ⟨eb, 20 + i * 64 + j, none⟩ v) ∧ Kept (fun k => k ≠ eb) W8 (wr.setCell ⟨eb, 20 + i * 64 + j, none⟩ v) := fun v hv => by
              rw [show 20 + i * 64 + j = 20 + n by omega]
              exact ⟨(hE.set (20 + n) (by omega) (by omega) v).congr fun m _ _ => encQ_step bb L Q n v hv m, hK.setCell (fun _ h => h rfl) _⟩
            obtain ⟨u, hun⟩ : ∃ u, U n = u := ⟨_, rfl⟩
            rw [hun] at c0 hu hqn
            obtain ⟨p, hp⟩ : ∃ p : Int, (u : Int) * 0 = p := ⟨_, rfl⟩
            have hp0 : 0 ≤ p := by rw [← hp]; exact Int.mul_nonneg (by omega) hscin.1
            have hp1 : p ≤ 1275000 := by
              rw [← hp]
              have h1 := Int.mul_le_mul (show (u : Int) ≤ 255 by omega) hscin.2 hscin.1 (show (0 : Int) ≤ 255 by omega)
              omega
            unfold elemOf at hqn
            rw [hp] at hqn
            obtain ⟨x, hx⟩ : ∃ x : Int, (p + 50) / 100 = x := ⟨_, rfl⟩
            rw [hx] at hqn
            have hx0 : 0 ≤ x := by omega
            have hx1 : x ≤ 20000 := by omega
            obtain ⟨old, hold⟩ : ∃ old, encQ bb L Q n (20 + n) = old := ⟨_, rfl⟩
            rw [hold] at c1
            have HST := Lib.hid (And.intro hstep (And.intro hqn hn))
            have j0 : (0 : Int) ≤ (j : Int) := by omega
            have j1 : (j : Int) < 64 := by omega
            have ewp : IntKind.i64.wrap p = p := IntWalk.i64_in _ ⟨by omega, by omega⟩
            have ewu : IntKind.i64.wrap (u : Int) = (u : Int) := IntWalk.i64_in _ ⟨by omega, by omega⟩
            clear hE hK hstep hqn hold hun hn hu
            have hx3 : x < 1 ∨ (1 ≤ x ∧ 255 < x) ∨ (1 ≤ x ∧ x ≤ 255 ∧ IntKind.u8.wrap x = x) := by
              by_cases h1 : x < 1
              · exact .inl h1
              · by_cases h2 : 255 < x
                · exact .inr (.inl ⟨by omega, h2⟩)
                · exact .inr (.inr ⟨by omega, by omega, by simp only [IntKind.wrap_u8]; omega⟩)
            rcases hx3 with k1 | ⟨k1, k2⟩ | ⟨k1, k2, k3⟩ <;> try (exfalso; omega)
            · go_wp2_with fail
              go_roundg (64 - (j + 1))
              case measure => go_light; omega
              case rel =>
                go_light
                have hq := HST.out.2.1
                have hs := HST.out.1 _ (congrArg (Value.int .u8) hq.symm)
                have hnn := HST.out.2.2
                refine ⟨j + 1, by omega, rfl, by go_num, ?_⟩
                rw [show 64 * i + (j + 1) = n + 1 by omega]
                first
                  | (rw [if_pos (by omega)] at hs; exact hs)
                  | (rw [if_neg (by omega), if_pos (by omega)] at hs; exact hs)
                  | (rw [if_neg (by omega), if_neg (by omega)] at hs; exact hs)
          · obtain rfl : j = 64 := by omega
            have HSS := Lib.hid (And.intro hE hK)
            clear hE hK
            go_wp2_with fail
            go_roundg (2 - (i + 1))
            case measure => go_light; omega
            case rel =>
              go_light
              refine ⟨i + 1, by omega, rfl, by go_num, ?_, HSS.out.2⟩
              have h := HSS.out.1
              rw [show 64 * (i + 1) = 64 * i + 64 by omega]
              exact h
      · obtain rfl : i = 2 := by omega
        obtain ⟨G, hGG⟩ : ∃ G, encQ bb L Q (64 * 2) = G := ⟨_, rfl⟩
        rw [hGG] at hE
        have hGq : ∀ j, j < 128 → G (20 + j) = .int .u8 (Q j : Int) := fun j hj => by rw [← hGG]; unfold encQ; rw [if_pos (by omega), show 20 + j - 20 = j by omega]
        have hGl : ∀ h, h < 4 → G (148 + h) = lutSl L h := fun h hh => by rw [← hGG]; unfold encQ encB; rw [if_neg (by omega), if_neg (by omega), if_neg (by omega), if_neg (by omega), if_neg (by omega), if_neg (by omega), show 148 + h - 148 = h by omega]
        have hGr : G 18 = .int .u32 0 ∧ G 19 = .int .u32 0 := by rw [← hGG]; exact ⟨rfl, rfl⟩
        have x2 := hE.cell 2 (by omega) (by omega)
        have x3 := hE.cell 3 (by omega) (by omega)
        have xf := hE.frozen
        have hE1 := (hE.set 2 (by omega) (by omega) (.int .u8 255)).set 3 (by omega) (by omega) (.int .u8 216)
        have hK1 : Kept (fun k => k ≠ eb) W8 ((wr.setCell ⟨eb, 2, none⟩ (.int .u8 255)).setCell ⟨eb, 3, none⟩ (.int .u8 216)) := (hK.setCell (fun _ h => h rfl) _).setCell (fun _ h => h rfl) _
        have HT := Lib.hid (And.intro hE1 (And.intro hK1 (And.intro hGq (And.intro hGl (And.intro hGr HE8.out)))))
        clear hE hK hE1 hK1 hGq hGl hGr hGG
        go_wp2_with fail
        obtain ⟨hE1, hK1, hGq, hGl, hGr, _, hkw8, _, hlut7, _⟩ := HT.out
        have hrow1 := hE1.row.lt
        refine (write_hd _ eb _ [] [255, 216] eb 2 16 2 rfl _ hE1 (fun j hj => ?_) (by simp) (by simp)).mono ?_
        · simp only [List.length_cons, List.length_nil] at hj
          obtain rfl | rfl : j = 0 ∨ j = 1 := by omega
          · exact hE1.cell 2 (by omega) (by omega)
          · exact hE1.cell 3 (by omega) (by omega)
        rintro e w9 ⟨rfl, e9, k9⟩
        obtain ⟨G1, hG1⟩ : ∃ G1 : Nat → Value, (fun i => if i = 3 then Value.int .u8 216 else (fun i => if i = 2 then Value.int .u8 255 else G i) i) = G1 := ⟨_, rfl⟩
        rw [hG1] at e9
        have hG1s : ∀ j, 18 ≤ j → G1 j = G j := fun j hj => by rw [← hG1]; simp only; rw [if_neg (by omega), if_neg (by omega)]
        have P9 := Lib.hid (And.intro e9 (And.intro k9 hG1s))
        clear e9 k9 hG1s hG1 hE1 hK1 hGq hGl hGr hkw8 hlut7 x2 x3 xf
        go_wp2_with fail
        refine (dqt_hd _ eb Q G1 _ w9 P9.out.1 (fun j hj => by rw [P9.out.2.2 _ (by omega)]; exact HT.out.2.2.1 j hj) (by simp)).mono ?_
        rintro e w10 ⟨rfl, ⟨G2, hG2, e10⟩, k10⟩
        have P10 := Lib.hid (And.intro e10 (And.intro k10 hG2))
        clear e10 k10 hG2
        have hrbx : w10.heap[rb]? = some (.cells #[.int .i64 x0, .int .i64 y0, .int .i64 (x0 + wd), .int .i64 (y0 + hg)] 40 (0, 0)) := by
          have h8 := HE8.out.2.2.1
          have hrbe : rb ≠ eb := by
            have := type_ne h8 (rowIs_heap HE8.out.1.row) (by decide)
            exact this
          have h9 := (HT.out.2.1.block rb (Array.getElem?_eq_some_iff.1 h8).1 hrbe).trans h8
          have hhd : Ids.hd ⟨wb, wb, bb, fb, lim⟩ eb rb := by
            have he := HT.out.1
            obtain ⟨_, hfr, _⟩ := he.buf.row
            exact ⟨hrbe, type_ne h9 he.buf.bw (by decide), type_ne h9 (rowIs_heap hfr) (by decide)⟩
          have h10 := (P9.out.2.1.block rb (Array.getElem?_eq_some_iff.1 h9).1 hhd).trans h9
          exact (P10.out.2.1.block rb (Array.getElem?_eq_some_iff.1 h10).1 hhd).trans h10
        obtain ⟨r0, r1, r2, r3, r4⟩ := buf_cells hrbx
        have CS := Lib.hid (size_any x0 y0 wd hg w10 HS.out.x HS.out.y (by have := HS.out.w2; omega) (by have := HS.out.h2; omega))
        unfold rectV at CS
        clear hrbx
        go_wp2_with (go_at_call 41; (with_reducible refine CS.out.mono ?_); rintro e w11 ⟨rfl, k11⟩; have P11 := Lib.hid k11; clear k11)
        clear r0 r1 r2 r3 r4 CS
        have hl2 : ([] ++ [255, 216] ++ (mkr 219 132 ++ qs Q 2)).length = 136 := by simp only [List.length_append, mkr_len, qs_len]; rfl
        refine (sof_hd3 _ eb G2 _ wd hg w11 (P10.out.1.all P11.out) (by rw [hl2]; omega) (by have := HS.out.w2; omega) (by have := HS.out.h2; omega)).mono ?_
        rintro e w12 ⟨rfl, ⟨G3, hG3, e12⟩, k12⟩
        have P12 := Lib.hid (And.intro e12 (And.intro k12 hG3))
        clear e12 k12 hG3
        go_wp2_with fail
        have hl3 : ([] ++ [255, 216] ++ (mkr 219 132 ++ qs Q 2) ++ (mkr 192 17 ++ sofB wd hg 3)).length = 155 := by rw [List.length_append, hl2]; rfl
        refine (dht_hd3 _ eb G3 _ w12 P12.out.1 (by rw [hl3]; omega)).mono ?_
        rintro e w13 ⟨rfl, ⟨G4, hG4, e13⟩, k13⟩
        have P13 := Lib.hid (And.intro e13 (And.intro k13 hG4))
        clear e13 k13 hG4
        go_wp2_with fail
        have hTT : [] ++ [255, 216] ++ (mkr 219 132 ++ qs Q 2) ++ (mkr 192 17 ++ sofB wd hg 3) ++ (mkr 196 418 ++ dhts 4) = hdrC Q wd hg := rfl
        rw [hTT] at P13
        have hb1 := HNUM.out.1
        have hb2 := HNUM.out.2.1
        have hb3 := HNUM.out.2.2.1
        have hwbw := (Array.getElem?_eq_some_iff.1 HH.out.2.1).1
        obtain ⟨g8, _, _⟩ := HB.out
        have K13 : Kept (fun k => k < w.heap.size) w w13 := by
          have hhd : ∀ i, i < w.heap.size → Ids.hd ⟨wb, wb, bb, fb, lim⟩ eb i := fun i hi => ⟨by omega, by show i ≠ bb; omega, by show i ≠ fb; omega⟩
          have h1 : Kept (fun k => k < w.heap.size) w W8 := HE8.out.2.1.mono fun _ _ _ => trivial
          have h2 := h1.trans (HT.out.2.1.mono fun i _ hi => by omega)
          have h3 := h2.trans (P9.out.2.1.mono fun i _ hi => hhd i hi)
          have h4 := h3.trans (P10.out.2.1.mono fun i _ hi => hhd i hi)
          have h5 := h4.trans (P11.out.mono fun _ _ _ => trivial)
          have h6 := h5.trans (P12.out.2.1.mono fun i _ hi => hhd i hi)
          exact h6.trans (P13.out.2.1.mono fun i _ hi => hhd i hi)
        have hG4 : ∀ j, 18 ≤ j → G4 j = G j := fun j hj => by
          rw [P13.out.2.2 j (by omega), P12.out.2.2 j (by omega), P10.out.2.2 j (by omega), P9.out.2.2 j hj]
        have hV13 : Env ⟨wb, wb, bb, fb, lim⟩ eb Q L G4 w13 := by
          refine ⟨⟨fun j hj => by rw [hG4 _ (by omega)]; exact HT.out.2.2.1 j hj, HQ.out.2.1, fun h hh => by rw [hG4 _ (by omega)]; exact HT.out.2.2.2.1 h hh, fun h hh => ?_, fun h hh => ?_, ⟨g8, Nat.le_refl _, by show wb ≤ bb; omega, by show wb ≤ eb; omega⟩⟩, fun i hi => K13.cellOf (HH.out.2.2.2.2.1 i hi) (by show 3 < w.heap.size; omega), fun i hi => K13.cellOf (HH.out.2.2.2.2.2 i hi) (by show 2 < w.heap.size; omega)⟩
          · have hL := HE8.out.2.2.2.2 h hh
            rintro (e | e | e)
            · have e' : L h = wb := e
              omega
            · have e' : L h = bb := e
              omega
            · omega
          · have hL := HE8.out.2.2.2.2 h hh
            have hhd : Ids.hd ⟨wb, wb, bb, fb, lim⟩ eb (L h) := ⟨by omega, by show L h ≠ bb; omega, by show L h ≠ fb; omega⟩
            exact P13.out.2.1.row (P12.out.2.1.row (P11.out.row (P10.out.2.1.row (P9.out.2.1.row (HT.out.2.1.row (HE8.out.2.2.2.1 h hh) (by omega)) hhd) hhd) trivial) hhd) hhd
        have hG13 : I w13 := HI.out.1 _ _ HH.out.1 (K13.mono fun i _ hi => by omega)
        have hz := hdrC_len Q wd hg
        have hsz13 := K13.size
        have hE13 := P13.out.1
        refine (sosNrgba_any ⟨wb, wb, bb, fb, lim⟩ eb Q L G4 _ bi x0 y0 wd hg P I w13 hE13 (by rw [hG4 _ (by omega)]; exact HT.out.2.2.2.2.1.1) (by rw [hG4 _ (by omega)]; exact HT.out.2.2.2.2.1.2) hV13 hG13 HI.out.1 HI.out.2.1 HI.out.2.2.1 HI.out.2.2.2 HS.out (by omega) ⟨by show wb < _; omega, (Array.getElem?_eq_some_iff.1 hE13.buf.bw).1, hE13.row.lt⟩).mono ?_
        rintro e w14 ⟨rfl, e14, k14⟩
        have hzl := colScan_len Q P HS.out.w1 HS.out.h1 HS.out.n (hdrC Q wd hg ++ sosC, 0, 0) (by simp only [List.length_append]; have : sosC.length = 14 := rfl; omega)
        obtain ⟨S, hSS⟩ : ∃ S, colScan Q wd hg P (hdrC Q wd hg ++ sosC, 0, 0) = S := ⟨_, rfl⟩
        rw [hSS] at e14 hzl
        have hstr : streamC Q wd hg P = S.1 ++ [255, 217] := by rw [← hSS]; rfl
        have y2 := EncIs.cell e14 2 (by omega) (by omega)
        have y3 := EncIs.cell e14 3 (by omega) (by omega)
        have yf := EncIs.frozen e14
        have e15 := (EncIs.set e14 2 (by omega) (by omega) (.int .u8 255)).set 3 (by omega) (by omega) (.int .u8 217)
        have HU := Lib.hid (And.intro K13 (And.intro k14 (And.intro e15 (And.intro hstr hzl))))
        clear K13 hV13 hG13 hE13 e14 k14 e15 hstr hSS hz hzl hG4 hsz13 hTT hl2 hl3
        go_wp2_with fail
        refine (write_eoi ⟨wb, wb, bb, fb, lim⟩ eb _ S.1 255 217 _ HU.out.2.2.1 rfl rfl (by have := HU.out.2.2.2.2; omega)).mono ?_
        rintro e w16 ⟨rfl, e16, k16⟩
        have P16 := Lib.hid (And.intro e16 k16)
        clear e16 k16 y2 y3 yf
        go_wp2_with fail
        refine (flush_enc ⟨wb, wb, bb, fb, lim⟩ eb _ (S.1 ++ [255, 217]) w16 P16.out.1 (by have := HU.out.2.2.2.2; simp only [List.length_append, List.length_cons, List.length_nil]; omega)).mono ?_
        rintro e w17 ⟨rfl, e17, k17⟩
        have HF := Lib.hid (And.intro e17 k17)
        clear e17 k17
        have hfr : Fr wb (fun k => k = wb) w w17 := by
          have h1 : Fr wb (fun k => k = wb) w w13 := Fr.ofKept (HU.out.1.mono fun i hi _ => hi)
          have h2 : Fr wb (Ids.all ⟨wb, wb, bb, fb, lim⟩ eb) w13 w17 := ((HU.out.2.1.setCell (.inr (.inr rfl)) _).setCell (.inr (.inr rfl)) _ |>.trans P16.out.2).trans HF.out.2
          refine h1.transNew h2 fun i hi e => ?_
          rcases e with e | e | e
          · exact e
          · have e' : i = bb := e
            omega
          · omega
        have hstr := HU.out.2.2.2.1
        have HR := Lib.hid (And.intro hfr hstr)
        clear hfr hstr
        have hQr := HQ.out.2.2
        by_cases hgood : lim < 0 ∨ (((S.1 ++ [255, 217]).length : Nat) : Int) ≤ lim
        · have hf := HF.out.1.good hgood
          have t1 := hf.1
          have HX := Lib.hid (And.intro hf.2 hgood)
          clear hf hgood hQr
          go_wp2_with fail
          go_ret
          refine ⟨false, rfl, fun _ => ⟨rfl, fb, ?_⟩, fun h1 h2 => ?_, HR.out.1⟩
          · rw [HQ.out.2.2, HR.out.2]; exact HX.out.1
          · rw [HQ.out.2.2, HR.out.2] at h2
            have := HX.out.2
            omega
        · have hf := HF.out.1.bad (by show 0 ≤ lim; omega) (by show lim < _; omega)
          have t1 := hf.1
          have HX := Lib.hid (And.intro hf.2 hgood)
          clear hf hgood hQr
          go_wp2_with fail
          go_ret
          refine ⟨true, rfl, fun h => ?_, fun h1 h2 => ⟨rfl, fb, ?_⟩, HR.out.1⟩
          · rw [HQ.out.2.2, HR.out.2] at h
            exact absurd h HX.out.2
          · rw [HQ.out.2.2, HR.out.2]; exact HX.out.1
  · skip
    go_wp2_with fail
    obtain ⟨W8, hW8⟩ : ∃ W8, w7.setCell ⟨eb, 0, none⟩ (.iface 97 (.pointer (some ⟨bb, 0, none⟩))) = W8 := ⟨_, rfl⟩
    rw [hW8] at HE8 ⊢
    clear hW8 d0 d1 d2
    go_loopg [59] 2 (fun k s59 wr => ∃ i : Nat, i ≤ 2 ∧ k = 2 - i ∧ s59 = .int .i64 (i : Int) ∧ EncG ⟨wb, wb, bb, fb, lim⟩ eb (encQ bb L Q (64 * i)) [] wr ∧ Kept (fun k => k ≠ eb) W8 wr)
    case atStart =>
      refine ⟨0, by omega, rfl, rfl, HE8.out.1.congr fun j _ _ => ?_, Kept.refl _ _⟩
      unfold encQ; rw [if_neg (by omega)]
    case round =>
      obtain ⟨i, hi, rfl, rfl, hE, hK⟩ := hrel
      by_cases hlt : i < 2
      · have hid : decide ((i : Int) < 2) = true := by simp; omega
        have i0 : (0 : Int) ≤ (i : Int) := by omega
        have i1 : (i : Int) < 2 := by omega
        go_wp2_with fail
        go_loopg [62] 64 (fun k s62 wr => ∃ j : Nat, j ≤ 64 ∧ k = 64 - j ∧ s62 = .int .i64 (j : Int) ∧ EncG ⟨wb, wb, bb, fb, lim⟩ eb (encQ bb L Q (64 * i + j)) [] wr ∧ Kept (fun k => k ≠ eb) W8 wr)
        case atStart => exact ⟨0, by omega, rfl, rfl, hE, hK⟩
        case round =>
          clear hE hK
          obtain ⟨j, hj, rfl, rfl, hE, hK⟩ := hrel
          by_cases hlt2 : j < 64
          · obtain ⟨n, hn⟩ : ∃ n, 64 * i + j = n := ⟨_, rfl⟩
            have hn1 : n < 128 := by omega
            rw [hn] at hE
            have c0 : wr.cell? ⟨0, i * 64 + j, none⟩ = some (.int .u8 (U n : Int)) := by
              rw [show i * 64 + j = n by omega]
              exact hK.cellOf (HE8.out.2.1.cellOf (HH.out.2.2.2.1 n hn1) trivial) (by have := HNUM.out.1; have := HB.out.1; have := (Array.getElem?_eq_some_iff.1 HH.out.2.1).1; show 0 ≠ eb; omega)
            have c1 : wr.cell? ⟨eb, 20 + i * 64 + j, none⟩ = some (encQ bb L Q n (20 + n)) := by rw [show 20 + i * 64 + j = 20 + n by omega]; exact hE.cell (20 + n) (by omega) (by omega)
            have c2 : wr.frozen? ⟨eb, 20 + i * 64 + j, none⟩ = false := hE.frozen _
            have hu := hUs n
            have hqn := HQ.out.1 n
            have hstep : ∀ v, v = Value.int .u8 (Q n : Int) → EncG ⟨wb, wb, bb, fb, lim⟩ eb (encQ bb L Q (n + 1)) [] (wr.setCell ⟨eb, 20 + i * 64 + j, none⟩ v) ∧ Kept (fun k => k ≠ eb) W8 (wr.setCell ⟨eb, 20 + i * 64 + j, none⟩ v) := fun v hv => by
              rw [show 20 + i * 64 + j = 20 + n by omega]
              exact ⟨(hE.set (20 + n) (by omega) (by omega) v).congr fun m _ _ => encQ_step bb L Q n v hv m, hK.setCell (fun _ h => h rfl) _⟩
            obtain ⟨u, hun⟩ : ∃ u, U n = u := ⟨_, rfl⟩
            rw [hun] at c0 hu hqn
            obtain ⟨p, hp⟩ : ∃ p : Int, (u : Int) * sc = p := ⟨_, rfl⟩
            have hp0 : 0 ≤ p := by rw [← hp]; exact Int.mul_nonneg (by omega) hscin.1
            have hp1 : p ≤ 1275000 := by
              rw [← hp]
              have h1 := Int.mul_le_mul (show (u : Int) ≤ 255 by omega) hscin.2 hscin.1 (show (0 : Int) ≤ 255 by omega)
              omega
            unfold elemOf at hqn
            rw [hp] at hqn
            obtain ⟨x, hx⟩ : ∃ x : Int, (p + 50) / 100 = x := ⟨_, rfl⟩
            rw [hx] at hqn
            have hx0 : 0 ≤ x := by omega
            have hx1 : x ≤ 20000 := by omega
            obtain ⟨old, hold⟩ : ∃ old, encQ bb L Q n (20 + n) = old := ⟨_, rfl⟩
            rw [hold] at c1
            have HST := Lib.hid (And.intro hstep (And.intro hqn hn))
            have j0 : (0 : Int) ≤ (j : Int) := by omega
            have j1 : (j : Int) < 64 := by omega
            have ewp : IntKind.i64.wrap p = p := IntWalk.i64_in _ ⟨by omega, by omega⟩
            have ewu : IntKind.i64.wrap (u : Int) = (u : Int) := IntWalk.i64_in _ ⟨by omega, by omega⟩
            clear hE hK hstep hqn hold hun hn hu
            have hx3 : x < 1 ∨ (1 ≤ x ∧ 255 < x) ∨ (1 ≤ x ∧ x ≤ 255 ∧ IntKind.u8.wrap x = x) := by
              by_cases h1 : x < 1
              · exact .inl h1
              · by_cases h2 : 255 < x
                · exact .inr (.inl ⟨by omega, h2⟩)
                · exact .inr (.inr ⟨by omega, by omega, by simp only [IntKind.wrap_u8]; omega⟩)
            rcases hx3 with k1 | ⟨k1, k2⟩ | ⟨k1, k2, k3⟩ <;>
            · go_wp2_with fail
              go_roundg (64 - (j + 1))
              case measure => go_light; omega
              case rel =>
                go_light
                have hq := HST.out.2.1
                have hs := HST.out.1 _ (congrArg (Value.int .u8) hq.symm)
                have hnn := HST.out.2.2
                refine ⟨j + 1, by omega, rfl, by go_num, ?_⟩
                rw [show 64 * i + (j + 1) = n + 1 by omega]
                first
                  | (rw [if_pos (by omega)] at hs; exact hs)
                  | (rw [if_neg (by omega), if_pos (by omega)] at hs; exact hs)
                  | (rw [if_neg (by omega), if_neg (by omega)] at hs; exact hs)
          · obtain rfl : j = 64 := by omega
            have HSS := Lib.hid (And.intro hE hK)
            clear hE hK
            go_wp2_with fail
            go_roundg (2 - (i + 1))
            case measure => go_light; omega
            case rel =>
              go_light
              refine ⟨i + 1, by omega, rfl, by go_num, ?_, HSS.out.2⟩
              have h := HSS.out.1
              rw [show 64 * (i + 1) = 64 * i + 64 by omega]
              exact h
      · obtain rfl : i = 2 := by omega
        obtain ⟨G, hGG⟩ : ∃ G, encQ bb L Q (64 * 2) = G := ⟨_, rfl⟩
        rw [hGG] at hE
        have hGq : ∀ j, j < 128 → G (20 + j) = .int .u8 (Q j : Int) := fun j hj => by rw [← hGG]; unfold encQ; rw [if_pos (by omega), show 20 + j - 20 = j by omega]
        have hGl : ∀ h, h < 4 → G (148 + h) = lutSl L h := fun h hh => by rw [← hGG]; unfold encQ encB; rw [if_neg (by omega), if_neg (by omega), if_neg (by omega), if_neg (by omega), if_neg (by omega), if_neg (by omega), show 148 + h - 148 = h by omega]
        have hGr : G 18 = .int .u32 0 ∧ G 19 = .int .u32 0 := by rw [← hGG]; exact ⟨rfl, rfl⟩
        have x2 := hE.cell 2 (by omega) (by omega)
        have x3 := hE.cell 3 (by omega) (by omega)
        have xf := hE.frozen
        have hE1 := (hE.set 2 (by omega) (by omega) (.int .u8 255)).set 3 (by omega) (by omega) (.int .u8 216)
        have hK1 : Kept (fun k => k ≠ eb) W8 ((wr.setCell ⟨eb, 2, none⟩ (.int .u8 255)).setCell ⟨eb, 3, none⟩ (.int .u8 216)) := (hK.setCell (fun _ h => h rfl) _).setCell (fun _ h => h rfl) _
        have HT := Lib.hid (And.intro hE1 (And.intro hK1 (And.intro hGq (And.intro hGl (And.intro hGr HE8.out)))))
        clear hE hK hE1 hK1 hGq hGl hGr hGG
        go_wp2_with fail
        obtain ⟨hE1, hK1, hGq, hGl, hGr, _, hkw8, _, hlut7, _⟩ := HT.out
        have hrow1 := hE1.row.lt
        refine (write_hd _ eb _ [] [255, 216] eb 2 16 2 rfl _ hE1 (fun j hj => ?_) (by simp) (by simp)).mono ?_
        · simp only [List.length_cons, List.length_nil] at hj
          obtain rfl | rfl : j = 0 ∨ j = 1 := by omega
          · exact hE1.cell 2 (by omega) (by omega)
          · exact hE1.cell 3 (by omega) (by omega)
        rintro e w9 ⟨rfl, e9, k9⟩
        obtain ⟨G1, hG1⟩ : ∃ G1 : Nat → Value, (fun i => if i = 3 then Value.int .u8 216 else (fun i => if i = 2 then Value.int .u8 255 else G i) i) = G1 := ⟨_, rfl⟩
        rw [hG1] at e9
        have hG1s : ∀ j, 18 ≤ j → G1 j = G j := fun j hj => by rw [← hG1]; simp only; rw [if_neg (by omega), if_neg (by omega)]
        have P9 := Lib.hid (And.intro e9 (And.intro k9 hG1s))
        clear e9 k9 hG1s hG1 hE1 hK1 hGq hGl hGr hkw8 hlut7 x2 x3 xf
        go_wp2_with fail
        refine (dqt_hd _ eb Q G1 _ w9 P9.out.1 (fun j hj => by rw [P9.out.2.2 _ (by omega)]; exact HT.out.2.2.1 j hj) (by simp)).mono ?_
        rintro e w10 ⟨rfl, ⟨G2, hG2, e10⟩, k10⟩
        have P10 := Lib.hid (And.intro e10 (And.intro k10 hG2))
        clear e10 k10 hG2
        have hrbx : w10.heap[rb]? = some (.cells #[.int .i64 x0, .int .i64 y0, .int .i64 (x0 + wd), .int .i64 (y0 + hg)] 40 (0, 0)) := by
          have h8 := HE8.out.2.2.1
          have hrbe : rb ≠ eb := by
            have := type_ne h8 (rowIs_heap HE8.out.1.row) (by decide)
            exact this
          have h9 := (HT.out.2.1.block rb (Array.getElem?_eq_some_iff.1 h8).1 hrbe).trans h8
          have hhd : Ids.hd ⟨wb, wb, bb, fb, lim⟩ eb rb := by
            have he := HT.out.1
            obtain ⟨_, hfr, _⟩ := he.buf.row
            exact ⟨hrbe, type_ne h9 he.buf.bw (by decide), type_ne h9 (rowIs_heap hfr) (by decide)⟩
          have h10 := (P9.out.2.1.block rb (Array.getElem?_eq_some_iff.1 h9).1 hhd).trans h9
          exact (P10.out.2.1.block rb (Array.getElem?_eq_some_iff.1 h10).1 hhd).trans h10
        obtain ⟨r0, r1, r2, r3, r4⟩ := buf_cells hrbx
        have CS := Lib.hid (size_any x0 y0 wd hg w10 HS.out.x HS.out.y (by have := HS.out.w2; omega) (by have := HS.out.h2; omega))
        unfold rectV at CS
        clear hrbx
        go_wp2_with (go_at_call 41; (with_reducible refine CS.out.mono ?_); rintro e w11 ⟨rfl, k11⟩; have P11 := Lib.hid k11; clear k11)
        clear r0 r1 r2 r3 r4 CS
        have hl2 : ([] ++ [255, 216] ++ (mkr 219 132 ++ qs Q 2)).length = 136 := by simp only [List.length_append, mkr_len, qs_len]; rfl
        refine (sof_hd3 _ eb G2 _ wd hg w11 (P10.out.1.all P11.out) (by rw [hl2]; omega) (by have := HS.out.w2; omega) (by have := HS.out.h2; omega)).mono ?_
        rintro e w12 ⟨rfl, ⟨G3, hG3, e12⟩, k12⟩
        have P12 := Lib.hid (And.intro e12 (And.intro k12 hG3))
        clear e12 k12 hG3
        go_wp2_with fail
        have hl3 : ([] ++ [255, 216] ++ (mkr 219 132 ++ qs Q 2) ++ (mkr 192 17 ++ sofB wd hg 3)).length = 155 := by rw [List.length_append, hl2]; rfl
        refine (dht_hd3 _ eb G3 _ w12 P12.out.1 (by rw [hl3]; omega)).mono ?_
        rintro e w13 ⟨rfl, ⟨G4, hG4, e13⟩, k13⟩
        have P13 := Lib.hid (And.intro e13 (And.intro k13 hG4))
        clear e13 k13 hG4
        go_wp2_with fail
        have hTT : [] ++ [255, 216] ++ (mkr 219 132 ++ qs Q 2) ++ (mkr 192 17 ++ sofB wd hg 3) ++ (mkr 196 418 ++ dhts 4) = hdrC Q wd hg := rfl
        rw [hTT] at P13
        have hb1 := HNUM.out.1
        have hb2 := HNUM.out.2.1
        have hb3 := HNUM.out.2.2.1
        have hwbw := (Array.getElem?_eq_some_iff.1 HH.out.2.1).1
        obtain ⟨g8, _, _⟩ := HB.out
        have K13 : Kept (fun k => k < w.heap.size) w w13 := by
          have hhd : ∀ i, i < w.heap.size → Ids.hd ⟨wb, wb, bb, fb, lim⟩ eb i := fun i hi => ⟨by omega, by show i ≠ bb; omega, by show i ≠ fb; omega⟩
          have h1 : Kept (fun k => k < w.heap.size) w W8 := HE8.out.2.1.mono fun _ _ _ => trivial
          have h2 := h1.trans (HT.out.2.1.mono fun i _ hi => by omega)
          have h3 := h2.trans (P9.out.2.1.mono fun i _ hi => hhd i hi)
          have h4 := h3.trans (P10.out.2.1.mono fun i _ hi => hhd i hi)
          have h5 := h4.trans (P11.out.mono fun _ _ _ => trivial)
          have h6 := h5.trans (P12.out.2.1.mono fun i _ hi => hhd i hi)
          exact h6.trans (P13.out.2.1.mono fun i _ hi => hhd i hi)
        have hG4 : ∀ j, 18 ≤ j → G4 j = G j := fun j hj => by
          rw [P13.out.2.2 j (by omega), P12.out.2.2 j (by omega), P10.out.2.2 j (by omega), P9.out.2.2 j hj]
        have hV13 : Env ⟨wb, wb, bb, fb, lim⟩ eb Q L G4 w13 := by
          refine ⟨⟨fun j hj => by rw [hG4 _ (by omega)]; exact HT.out.2.2.1 j hj, HQ.out.2.1, fun h hh => by rw [hG4 _ (by omega)]; exact HT.out.2.2.2.1 h hh, fun h hh => ?_, fun h hh => ?_, ⟨g8, Nat.le_refl _, by show wb ≤ bb; omega, by show wb ≤ eb; omega⟩⟩, fun i hi => K13.cellOf (HH.out.2.2.2.2.1 i hi) (by show 3 < w.heap.size; omega), fun i hi => K13.cellOf (HH.out.2.2.2.2.2 i hi) (by show 2 < w.heap.size; omega)⟩
          · have hL := HE8.out.2.2.2.2 h hh
            rintro (e | e | e)
            · have e' : L h = wb := e
              omega
            · have e' : L h = bb := e
              omega
            · omega
          · have hL := HE8.out.2.2.2.2 h hh
            have hhd : Ids.hd ⟨wb, wb, bb, fb, lim⟩ eb (L h) := ⟨by omega, by show L h ≠ bb; omega, by show L h ≠ fb; omega⟩
            exact P13.out.2.1.row (P12.out.2.1.row (P11.out.row (P10.out.2.1.row (P9.out.2.1.row (HT.out.2.1.row (HE8.out.2.2.2.1 h hh) (by omega)) hhd) hhd) trivial) hhd) hhd
        have hG13 : I w13 := HI.out.1 _ _ HH.out.1 (K13.mono fun i _ hi => by omega)
        have hz := hdrC_len Q wd hg
        have hsz13 := K13.size
        have hE13 := P13.out.1
        refine (sosNrgba_any ⟨wb, wb, bb, fb, lim⟩ eb Q L G4 _ bi x0 y0 wd hg P I w13 hE13 (by rw [hG4 _ (by omega)]; exact HT.out.2.2.2.2.1.1) (by rw [hG4 _ (by omega)]; exact HT.out.2.2.2.2.1.2) hV13 hG13 HI.out.1 HI.out.2.1 HI.out.2.2.1 HI.out.2.2.2 HS.out (by omega) ⟨by show wb < _; omega, (Array.getElem?_eq_some_iff.1 hE13.buf.bw).1, hE13.row.lt⟩).mono ?_
        rintro e w14 ⟨rfl, e14, k14⟩
        have hzl := colScan_len Q P HS.out.w1 HS.out.h1 HS.out.n (hdrC Q wd hg ++ sosC, 0, 0) (by simp only [List.length_append]; have : sosC.length = 14 := rfl; omega)
        obtain ⟨S, hSS⟩ : ∃ S, colScan Q wd hg P (hdrC Q wd hg ++ sosC, 0, 0) = S := ⟨_, rfl⟩
        rw [hSS] at e14 hzl
        have hstr : streamC Q wd hg P = S.1 ++ [255, 217] := by rw [← hSS]; rfl
        have y2 := EncIs.cell e14 2 (by omega) (by omega)
        have y3 := EncIs.cell e14 3 (by omega) (by omega)
        have yf := EncIs.frozen e14
        have e15 := (EncIs.set e14 2 (by omega) (by omega) (.int .u8 255)).set 3 (by omega) (by omega) (.int .u8 217)
        have HU := Lib.hid (And.intro K13 (And.intro k14 (And.intro e15 (And.intro hstr hzl))))
        clear K13 hV13 hG13 hE13 e14 k14 e15 hstr hSS hz hzl hG4 hsz13 hTT hl2 hl3
        go_wp2_with fail
        refine (write_eoi ⟨wb, wb, bb, fb, lim⟩ eb _ S.1 255 217 _ HU.out.2.2.1 rfl rfl (by have := HU.out.2.2.2.2; omega)).mono ?_
        rintro e w16 ⟨rfl, e16, k16⟩
        have P16 := Lib.hid (And.intro e16 k16)
        clear e16 k16 y2 y3 yf
        go_wp2_with fail
        refine (flush_enc ⟨wb, wb, bb, fb, lim⟩ eb _ (S.1 ++ [255, 217]) w16 P16.out.1 (by have := HU.out.2.2.2.2; simp only [List.length_append, List.length_cons, List.length_nil]; omega)).mono ?_
        rintro e w17 ⟨rfl, e17, k17⟩
        have HF := Lib.hid (And.intro e17 k17)
        clear e17 k17
        have hfr : Fr wb (fun k => k = wb) w w17 := by
          have h1 : Fr wb (fun k => k = wb) w w13 := Fr.ofKept (HU.out.1.mono fun i hi _ => hi)
          have h2 : Fr wb (Ids.all ⟨wb, wb, bb, fb, lim⟩ eb) w13 w17 := ((HU.out.2.1.setCell (.inr (.inr rfl)) _).setCell (.inr (.inr rfl)) _ |>.trans P16.out.2).trans HF.out.2
          refine h1.transNew h2 fun i hi e => ?_
          rcases e with e | e | e
          · exact e
          · have e' : i = bb := e
            omega
          · omega
        have hstr := HU.out.2.2.2.1
        have HR := Lib.hid (And.intro hfr hstr)
        clear hfr hstr
        have hQr := HQ.out.2.2
        by_cases hgood : lim < 0 ∨ (((S.1 ++ [255, 217]).length : Nat) : Int) ≤ lim
        · have hf := HF.out.1.good hgood
          have t1 := hf.1
          have HX := Lib.hid (And.intro hf.2 hgood)
          clear hf hgood hQr
          go_wp2_with fail
          go_ret
          refine ⟨false, rfl, fun _ => ⟨rfl, fb, ?_⟩, fun h1 h2 => ?_, HR.out.1⟩
          · rw [HQ.out.2.2, HR.out.2]; exact HX.out.1
          · rw [HQ.out.2.2, HR.out.2] at h2
            have := HX.out.2
            omega
        · have hf := HF.out.1.bad (by show 0 ≤ lim; omega) (by show lim < _; omega)
          have t1 := hf.1
          have HX := Lib.hid (And.intro hf.2 hgood)
          clear hf hgood hQr
          go_wp2_with fail
          go_ret
          refine ⟨true, rfl, fun h => ?_, fun h1 h2 => ⟨rfl, fb, ?_⟩, HR.out.1⟩
          · rw [HQ.out.2.2, HR.out.2] at h
            exact absurd h HX.out.2
          · rw [HQ.out.2.2, HR.out.2]; exact HX.out.1
  · skip
    go_wp2_with fail
    obtain ⟨W8, hW8⟩ : ∃ W8, w7.setCell ⟨eb, 0, none⟩ (.iface 97 (.pointer (some ⟨bb, 0, none⟩))) = W8 := ⟨_, rfl⟩
    rw [hW8] at HE8 ⊢
    clear hW8 d0 d1 d2
    go_loopg [59] 2 (fun k s59 wr => ∃ i : Nat, i ≤ 2 ∧ k = 2 - i ∧ s59 = .int .i64 (i : Int) ∧ EncG ⟨wb, wb, bb, fb, lim⟩ eb (encQ bb L Q (64 * i)) [] wr ∧ Kept (fun k => k ≠ eb) W8 wr)
    case atStart =>
      refine ⟨0, by omega, rfl, rfl, HE8.out.1.congr fun j _ _ => ?_, Kept.refl _ _⟩
      unfold encQ; rw [if_neg (by omega)]
    case round =>
      obtain ⟨i, hi, rfl, rfl, hE, hK⟩ := hrel
      by_cases hlt : i < 2
      · have hid : decide ((i : Int) < 2) = true := by simp; omega
        have i0 : (0 : Int) ≤ (i : Int) := by omega
        have i1 : (i : Int) < 2 := by omega
        go_wp2_with fail
        go_loopg [62] 64 (fun k s62 wr => ∃ j : Nat, j ≤ 64 ∧ k = 64 - j ∧ s62 = .int .i64 (j : Int) ∧ EncG ⟨wb, wb, bb, fb, lim⟩ eb (encQ bb L Q (64 * i + j)) [] wr ∧ Kept (fun k => k ≠ eb) W8 wr)
        case atStart => exact ⟨0, by omega, rfl, rfl, hE, hK⟩
        case round =>
          clear hE hK
          obtain ⟨j, hj, rfl, rfl, hE, hK⟩ := hrel
          by_cases hlt2 : j < 64
          · obtain ⟨n, hn⟩ : ∃ n, 64 * i + j = n := ⟨_, rfl⟩
            have hn1 : n < 128 := by omega
            rw [hn] at hE
            have c0 : wr.cell? ⟨0, i * 64 + j, none⟩ = some (.int .u8 (U n : Int)) := by
              rw [show i * 64 + j = n by omega]
              exact hK.cellOf (HE8.out.2.1.cellOf (HH.out.2.2.2.1 n hn1) trivial) (by have := HNUM.out.1; have := HB.out.1; have := (Array.getElem?_eq_some_iff.1 HH.out.2.1).1; show 0 ≠ eb; omega)
            have c1 : wr.cell? ⟨eb, 20 + i * 64 + j, none⟩ = some (encQ bb L Q n (20 + n)) := by rw [show 20 + i * 64 + j = 20 + n by omega]; exact hE.cell (20 + n) (by omega) (by omega)
            have c2 : wr.frozen? ⟨eb, 20 + i * 64 + j, none⟩ = false := hE.frozen _
            have hu := hUs n
            have hqn := HQ.out.1 n
            have hstep : ∀ v, v = Value.int .u8 (Q n : Int) → EncG ⟨wb, wb, bb, fb, lim⟩ eb (encQ bb L Q (n + 1)) [] (wr.setCell ⟨eb, 20 + i * 64 + j, none⟩ v) ∧ Kept (fun k => k ≠ eb) W8 (wr.setCell ⟨eb, 20 + i * 64 + j, none⟩ v) := fun v hv => by
              rw [show 20 + i * 64 + j = 20 + n by omega]
              exact ⟨(hE.set (20 + n) (by omega) (by omega) v).congr fun m _ _ => encQ_step bb L Q n v hv m, hK.setCell (fun _ h => h rfl) _⟩
            obtain ⟨u, hun⟩ : ∃ u, U n = u := ⟨_, rfl⟩
            rw [hun] at c0 hu hqn
            obtain ⟨p, hp⟩ : ∃ p : Int, (u : Int) * sc = p := ⟨_, rfl⟩
            have hp0 : 0 ≤ p := by rw [← hp]; exact Int.mul_nonneg (by omega) hscin.1
            have hp1 : p ≤ 1275000 := by
              rw [← hp]
              have h1 := Int.mul_le_mul (show (u : Int) ≤ 255 by omega) hscin.2 hscin.1 (show (0 : Int) ≤ 255 by omega)
              omega
            unfold elemOf at hqn
            rw [hp] at hqn
            obtain ⟨x, hx⟩ : ∃ x : Int, (p + 50) / 100 = x := ⟨_, rfl⟩
            rw [hx] at hqn
            have hx0 : 0 ≤ x := by omega
            have hx1 : x ≤ 20000 := by omega
            obtain ⟨old, hold⟩ : ∃ old, encQ bb L Q n (20 + n) = old := ⟨_, rfl⟩
            rw [hold] at c1
            have HST := Lib.hid (And.intro hstep (And.intro hqn hn))
            have j0 : (0 : Int) ≤ (j : Int) := by omega
            have j1 : (j : Int) < 64 := by omega
            have ewp : IntKind.i64.wrap p = p := IntWalk.i64_in _ ⟨by omega, by omega⟩
            have ewu : IntKind.i64.wrap (u : Int) = (u : Int) := IntWalk.i64_in _ ⟨by omega, by omega⟩
            clear hE hK hstep hqn hold hun hn hu
            have hx3 : x < 1 ∨ (1 ≤ x ∧ 255 < x) ∨ (1 ≤ x ∧ x ≤ 255 ∧ IntKind.u8.wrap x = x) := by
              by_cases h1 : x < 1
              · exact .inl h1
              · by_cases h2 : 255 < x
                · exact .inr (.inl ⟨by omega, h2⟩)
                · exact .inr (.inr ⟨by omega, by omega, by simp only [IntKind.wrap_u8]; omega⟩)
            rcases hx3 with k1 | ⟨k1, k2⟩ | ⟨k1, k2, k3⟩ <;>
            · go_wp2_with fail
              go_roundg (64 - (j + 1))
              case measure => go_light; omega
              case rel =>
                go_light
                have hq := HST.out.2.1
                have hs := HST.out.1 _ (congrArg (Value.int .u8) hq.symm)
                have hnn := HST.out.2.2
                refine ⟨j + 1, by omega, rfl, by go_num, ?_⟩
                rw [show 64 * i + (j + 1) = n + 1 by omega]
                first
                  | (rw [if_pos (by omega)] at hs; exact hs)
                  | (rw [if_neg (by omega), if_pos (by omega)] at hs; exact hs)
                  | (rw [if_neg (by omega), if_neg (by omega)] at hs; exact hs)
          · obtain rfl : j = 64 := by omega
            have HSS := Lib.hid (And.intro hE hK)
            clear hE hK
            go_wp2_with fail
            go_roundg (2 - (i + 1))
            case measure => go_light; omega
            case rel =>
              go_light
              refine ⟨i + 1, by omega, rfl, by go_num, ?_, HSS.out.2⟩
              have h := HSS.out.1
              rw [show 64 * (i + 1) = 64 * i + 64 by omega]
              exact h
      · obtain rfl : i = 2 := by omega
        obtain ⟨G, hGG⟩ : ∃ G, encQ bb L Q (64 * 2) = G := ⟨_, rfl⟩
        rw [hGG] at hE
        have hGq : ∀ j, j < 128 → G (20 + j) = .int .u8 (Q j : Int) := fun j hj => by rw [← hGG]; unfold encQ; rw [if_pos (by omega), show 20 + j - 20 = j by omega]
        have hGl : ∀ h, h < 4 → G (148 + h) = lutSl L h := fun h hh => by rw [← hGG]; unfold encQ encB; rw [if_neg (by omega), if_neg (by omega), if_neg (by omega), if_neg (by omega), if_neg (by omega), if_neg (by omega), show 148 + h - 148 = h by omega]
        have hGr : G 18 = .int .u32 0 ∧ G 19 = .int .u32 0 := by rw [← hGG]; exact ⟨rfl, rfl⟩
        have x2 := hE.cell 2 (by omega) (by omega)
        have x3 := hE.cell 3 (by omega) (by omega)
        have xf := hE.frozen
        have hE1 := (hE.set 2 (by omega) (by omega) (.int .u8 255)).set 3 (by omega) (by omega) (.int .u8 216)
        have hK1 : Kept (fun k => k ≠ eb) W8 ((wr.setCell ⟨eb, 2, none⟩ (.int .u8 255)).setCell ⟨eb, 3, none⟩ (.int .u8 216)) := (hK.setCell (fun _ h => h rfl) _).setCell (fun _ h => h rfl) _
        have HT := Lib.hid (And.intro hE1 (And.intro hK1 (And.intro hGq (And.intro hGl (And.intro hGr HE8.out)))))
        clear hE hK hE1 hK1 hGq hGl hGr hGG
        go_wp2_with fail
        obtain ⟨hE1, hK1, hGq, hGl, hGr, _, hkw8, _, hlut7, _⟩ := HT.out
        have hrow1 := hE1.row.lt
        refine (write_hd _ eb _ [] [255, 216] eb 2 16 2 rfl _ hE1 (fun j hj => ?_) (by simp) (by simp)).mono ?_
        · simp only [List.length_cons, List.length_nil] at hj
          obtain rfl | rfl : j = 0 ∨ j = 1 := by omega
          · exact hE1.cell 2 (by omega) (by omega)
          · exact hE1.cell 3 (by omega) (by omega)
        rintro e w9 ⟨rfl, e9, k9⟩
        obtain ⟨G1, hG1⟩ : ∃ G1 : Nat → Value, (fun i => if i = 3 then Value.int .u8 216 else (fun i => if i = 2 then Value.int .u8 255 else G i) i) = G1 := ⟨_, rfl⟩
        rw [hG1] at e9
        have hG1s : ∀ j, 18 ≤ j → G1 j = G j := fun j hj => by rw [← hG1]; simp only; rw [if_neg (by omega), if_neg (by omega)]
        have P9 := Lib.hid (And.intro e9 (And.intro k9 hG1s))
        clear e9 k9 hG1s hG1 hE1 hK1 hGq hGl hGr hkw8 hlut7 x2 x3 xf
        go_wp2_with fail
        refine (dqt_hd _ eb Q G1 _ w9 P9.out.1 (fun j hj => by rw [P9.out.2.2 _ (by omega)]; exact HT.out.2.2.1 j hj) (by simp)).mono ?_
        rintro e w10 ⟨rfl, ⟨G2, hG2, e10⟩, k10⟩
        have P10 := Lib.hid (And.intro e10 (And.intro k10 hG2))
        clear e10 k10 hG2
        have hrbx : w10.heap[rb]? = some (.cells #[.int .i64 x0, .int .i64 y0, .int .i64 (x0 + wd), .int .i64 (y0 + hg)] 40 (0, 0)) := by
          have h8 := HE8.out.2.2.1
          have hrbe : rb ≠ eb := by
            have := type_ne h8 (rowIs_heap HE8.out.1.row) (by decide)
            exact this
          have h9 := (HT.out.2.1.block rb (Array.getElem?_eq_some_iff.1 h8).1 hrbe).trans h8
          have hhd : Ids.hd ⟨wb, wb, bb, fb, lim⟩ eb rb := by
            have he := HT.out.1
            obtain ⟨_, hfr, _⟩ := he.buf.row
            exact ⟨hrbe, type_ne h9 he.buf.bw (by decide), type_ne h9 (rowIs_heap hfr) (by decide)⟩
          have h10 := (P9.out.2.1.block rb (Array.getElem?_eq_some_iff.1 h9).1 hhd).trans h9
          exact (P10.out.2.1.block rb (Array.getElem?_eq_some_iff.1 h10).1 hhd).trans h10
        obtain ⟨r0, r1, r2, r3, r4⟩ := buf_cells hrbx
        have CS := Lib.hid (size_any x0 y0 wd hg w10 HS.out.x HS.out.y (by have := HS.out.w2; omega) (by have := HS.out.h2; omega))
        unfold rectV at CS
        clear hrbx
        go_wp2_with (go_at_call 41; (with_reducible refine CS.out.mono ?_); rintro e w11 ⟨rfl, k11⟩; have P11 := Lib.hid k11; clear k11)
        clear r0 r1 r2 r3 r4 CS
        have hl2 : ([] ++ [255, 216] ++ (mkr 219 132 ++ qs Q 2)).length = 136 := by simp only [List.length_append, mkr_len, qs_len]; rfl
        refine (sof_hd3 _ eb G2 _ wd hg w11 (P10.out.1.all P11.out) (by rw [hl2]; omega) (by have := HS.out.w2; omega) (by have := HS.out.h2; omega)).mono ?_
        rintro e w12 ⟨rfl, ⟨G3, hG3, e12⟩, k12⟩
        have P12 := Lib.hid (And.intro e12 (And.intro k12 hG3))
        clear e12 k12 hG3
        go_wp2_with fail
        have hl3 : ([] ++ [255, 216] ++ (mkr 219 132 ++ qs Q 2) ++ (mkr 192 17 ++ sofB wd hg 3)).length = 155 := by rw [List.length_append, hl2]; rfl
        refine (dht_hd3 _ eb G3 _ w12 P12.out.1 (by rw [hl3]; omega)).mono ?_
        rintro e w13 ⟨rfl, ⟨G4, hG4, e13⟩, k13⟩
        have P13 := Lib.hid (And.intro e13 (And.intro k13 hG4))
        clear e13 k13 hG4
        go_wp2_with fail
        have hTT : [] ++ [255, 216] ++ (mkr 219 132 ++ qs Q 2) ++ (mkr 192 17 ++ sofB wd hg 3) ++ (mkr 196 418 ++ dhts 4) = hdrC Q wd hg := rfl
        rw [hTT] at P13
        have hb1 := HNUM.out.1
        have hb2 := HNUM.out.2.1
        have hb3 := HNUM.out.2.2.1
        have hwbw := (Array.getElem?_eq_some_iff.1 HH.out.2.1).1
        obtain ⟨g8, _, _⟩ := HB.out
        have K13 : Kept (fun k => k < w.heap.size) w w13 := by
          have hhd : ∀ i, i < w.heap.size → Ids.hd ⟨wb, wb, bb, fb, lim⟩ eb i := fun i hi => ⟨by omega, by show i ≠ bb; omega, by show i ≠ fb; omega⟩
          have h1 : Kept (fun k => k < w.heap.size) w W8 := HE8.out.2.1.mono fun _ _ _ => trivial
          have h2 := h1.trans (HT.out.2.1.mono fun i _ hi => by omega)
          have h3 := h2.trans (P9.out.2.1.mono fun i _ hi => hhd i hi)
          have h4 := h3.trans (P10.out.2.1.mono fun i _ hi => hhd i hi)
          have h5 := h4.trans (P11.out.mono fun _ _ _ => trivial)
          have h6 := h5.trans (P12.out.2.1.mono fun i _ hi => hhd i hi)
          exact h6.trans (P13.out.2.1.mono fun i _ hi => hhd i hi)
        have hG4 : ∀ j, 18 ≤ j → G4 j = G j := fun j hj => by
          rw [P13.out.2.2 j (by omega), P12.out.2.2 j (by omega), P10.out.2.2 j (by omega), P9.out.2.2 j hj]
        have hV13 : Env ⟨wb, wb, bb, fb, lim⟩ eb Q L G4 w13 := by
          refine ⟨⟨fun j hj => by rw [hG4 _ (by omega)]; exact HT.out.2.2.1 j hj, HQ.out.2.1, fun h hh => by rw [hG4 _ (by omega)]; exact HT.out.2.2.2.1 h hh, fun h hh => ?_, fun h hh => ?_, ⟨g8, Nat.le_refl _, by show wb ≤ bb; omega, by show wb ≤ eb; omega⟩⟩, fun i hi => K13.cellOf (HH.out.2.2.2.2.1 i hi) (by show 3 < w.heap.size; omega), fun i hi => K13.cellOf (HH.out.2.2.2.2.2 i hi) (by show 2 < w.heap.size; omega)⟩
          · have hL := HE8.out.2.2.2.2 h hh
            rintro (e | e | e)
            · have e' : L h = wb := e
              omega
            · have e' : L h = bb := e
              omega
            · omega
          · have hL := HE8.out.2.2.2.2 h hh
            have hhd : Ids.hd ⟨wb, wb, bb, fb, lim⟩ eb (L h) := ⟨by omega, by show L h ≠ bb; omega, by show L h ≠ fb; omega⟩
            exact P13.out.2.1.row (P12.out.2.1.row (P11.out.row (P10.out.2.1.row (P9.out.2.1.row (HT.out.2.1.row (HE8.out.2.2.2.1 h hh) (by omega)) hhd) hhd) trivial) hhd) hhd
        have hG13 : I w13 := HI.out.1 _ _ HH.out.1 (K13.mono fun i _ hi => by omega)
        have hz := hdrC_len Q wd hg
        have hsz13 := K13.size
        have hE13 := P13.out.1
        refine (sosNrgba_any ⟨wb, wb, bb, fb, lim⟩ eb Q L G4 _ bi x0 y0 wd hg P I w13 hE13 (by rw [hG4 _ (by omega)]; exact HT.out.2.2.2.2.1.1) (by rw [hG4 _ (by omega)]; exact HT.out.2.2.2.2.1.2) hV13 hG13 HI.out.1 HI.out.2.1 HI.out.2.2.1 HI.out.2.2.2 HS.out (by omega) ⟨by show wb < _; omega, (Array.getElem?_eq_some_iff.1 hE13.buf.bw).1, hE13.row.lt⟩).mono ?_
        rintro e w14 ⟨rfl, e14, k14⟩
        have hzl := colScan_len Q P HS.out.w1 HS.out.h1 HS.out.n (hdrC Q wd hg ++ sosC, 0, 0) (by simp only [List.length_append]; have : sosC.length = 14 := rfl; omega)
        obtain ⟨S, hSS⟩ : ∃ S, colScan Q wd hg P (hdrC Q wd hg ++ sosC, 0, 0) = S := ⟨_, rfl⟩
        rw [hSS] at e14 hzl
        have hstr : streamC Q wd hg P = S.1 ++ [255, 217] := by rw [← hSS]; rfl
        have y2 := EncIs.cell e14 2 (by omega) (by omega)
        have y3 := EncIs.cell e14 3 (by omega) (by omega)
        have yf := EncIs.frozen e14
        have e15 := (EncIs.set e14 2 (by omega) (by omega) (.int .u8 255)).set 3 (by omega) (by omega) (.int .u8 217)
        have HU := Lib.hid (And.intro K13 (And.intro k14 (And.intro e15 (And.intro hstr hzl))))
        clear K13 hV13 hG13 hE13 e14 k14 e15 hstr hSS hz hzl hG4 hsz13 hTT hl2 hl3
        go_wp2_with fail
        refine (write_eoi ⟨wb, wb, bb, fb, lim⟩ eb _ S.1 255 217 _ HU.out.2.2.1 rfl rfl (by have := HU.out.2.2.2.2; omega)).mono ?_
        rintro e w16 ⟨rfl, e16, k16⟩
        have P16 := Lib.hid (And.intro e16 k16)
        clear e16 k16 y2 y3 yf
        go_wp2_with fail
        refine (flush_enc ⟨wb, wb, bb, fb, lim⟩ eb _ (S.1 ++ [255, 217]) w16 P16.out.1 (by have := HU.out.2.2.2.2; simp only [List.length_append, List.length_cons, List.length_nil]; omega)).mono ?_
        rintro e w17 ⟨rfl, e17, k17⟩
        have HF := Lib.hid (And.intro e17 k17)
        clear e17 k17
        have hfr : Fr wb (fun k => k = wb) w w17 := by
          have h1 : Fr wb (fun k => k = wb) w w13 := Fr.ofKept (HU.out.1.mono fun i hi _ => hi)
          have h2 : Fr wb (Ids.all ⟨wb, wb, bb, fb, lim⟩ eb) w13 w17 := ((HU.out.2.1.setCell (.inr (.inr rfl)) _).setCell (.inr (.inr rfl)) _ |>.trans P16.out.2).trans HF.out.2
          refine h1.transNew h2 fun i hi e => ?_
          rcases e with e | e | e
          · exact e
          · have e' : i = bb := e
            omega
          · omega
        have hstr := HU.out.2.2.2.1
        have HR := Lib.hid (And.intro hfr hstr)
        clear hfr hstr
        have hQr := HQ.out.2.2
        by_cases hgood : lim < 0 ∨ (((S.1 ++ [255, 217]).length : Nat) : Int) ≤ lim
        · have hf := HF.out.1.good hgood
          have t1 := hf.1
          have HX := Lib.hid (And.intro hf.2 hgood)
          clear hf hgood hQr
          go_wp2_with fail
          go_ret
          refine ⟨false, rfl, fun _ => ⟨rfl, fb, ?_⟩, fun h1 h2 => ?_, HR.out.1⟩
          · rw [HQ.out.2.2, HR.out.2]; exact HX.out.1
          · rw [HQ.out.2.2, HR.out.2] at h2
            have := HX.out.2
            omega
        · have hf := HF.out.1.bad (by show 0 ≤ lim; omega) (by show lim < _; omega)
          have t1 := hf.1
          have HX := Lib.hid (And.intro hf.2 hgood)
          clear hf hgood hQr
          go_wp2_with fail
          go_ret
          refine ⟨true, rfl, fun h => ?_, fun h1 h2 => ⟨rfl, fb, ?_⟩, HR.out.1⟩
          · rw [HQ.out.2.2, HR.out.2] at h
            exact absurd h HX.out.2
          · rw [HQ.out.2.2, HR.out.2]; exact HX.out.1
end Go.Proofs.YtghjlekdibcjdaaGreatDoor
/- The contracts of impl.encoded and of impl.EncodeNRGBA (printed by encd.py). -/
namespace Go.Proofs.YtghjlekdibcjdaaGreatDoor
open Go.Deep Go.RowKit
set_option linter.unusedVariables false
theorem lowNrgba {bi bp B : Nat} (x0 y0 : Int) (wd hg : Nat) (V : Nat → Nat → Nat) (h1 : bi < B) (h2 : bp < B) : LowC (PixAt 51 bi bp x0 y0 wd hg V) B := fun _ _ h k => h.kept k h1 h2
theorem blockNrgba {bi bp B : Nat} {x0 y0 : Int} {wd hg : Nat} (V : Nat → Nat → Nat) (hop : ∀ k, k < wd * hg → V 3 k = 255) (hs : SizeOk x0 y0 wd hg) (h2 : bp < B) : BlockC 60 (.iface 49 (.pointer (some ⟨bi, 0, none⟩))) x0 y0 wd hg (planesOf V) (PixAt 51 bi bp x0 y0 wd hg V) B :=
  fun b cb cr o bx by' f fc fr w hI hx hy hb hc hr r0 r1 r2 ho hne => nrgbaBlock_any bi bp b cb cr o x0 y0 wd hg V bx by' f fc fr w hop hI hs hx hy r0 r1 r2 ho hne ⟨by omega, by omega, by omega⟩
theorem boundsNrgbaC {bi bp : Nat} {x0 y0 : Int} {wd hg : Nat} (V : Nat → Nat → Nat) : BoundsC 115 (.pointer (some ⟨bi, 0, none⟩)) x0 y0 wd hg (PixAt 51 bi bp x0 y0 wd hg V) := fun w h => boundsNrgba bi _ _ x0 y0 (x0 + wd) (y0 + hg) w h.img
set_option maxHeartbeats 2000000 in
set_option maxRecDepth 100000 in
theorem encodedNrgba_good (bi : Nat) (x0 y0 : Int) (wd hg : Nat) (P : Nat → Nat → Nat) (q : Int) (U : Nat → Nat) (T : List Nat) (hT : streamC (quantOf U (scaleOf (qualOf q))) wd hg P = T) (I : World → Prop) (w : World) (h0 : I w) (hL : LowC I w.heap.size) (hC : BlockC 60 (.iface 49 (.pointer (some ⟨bi, 0, none⟩))) x0 y0 wd hg P I w.heap.size) (hN : BoundsC 115 (.pointer (some ⟨bi, 0, none⟩)) x0 y0 wd hg I) (hP : ∀ c k, P c k ≤ 255) (hs : SizeOk x0 y0 wd hg) (hD : DoorAt U w) (hUs : ∀ i, U i ≤ 255) (h8 : 4 ≤ w.heap.size) :
    Calls Tryz.prog 19 #[.iface 49 (.pointer (some ⟨bi, 0, none⟩)), .int .i64 q, .int .i64 (-1)] w fun e w' => ∃ v, e = .returned (.tuple #[v, .int .i64 0]) ∧ w'.ownsRow w.heap.size 5 1 v T.length (cellsN T) ∧ Kept (fun _ => True) w w' := by
  have K1 := ((Kept.refl (fun _ => True) w).alloc (.cells #[.slice none 0 0, .int .i64 (-1), .bool false] 67)).alloc (.cells #[.int .i64 q] 73)
  have hwb : ((w.alloc (.cells #[.slice none 0 0, .int .i64 (-1), .bool false] 67)).alloc (.cells #[.int .i64 q] 73)).heap[w.heap.size]? = some (.cells #[.slice none 0 0, .int .i64 (-1), .bool false] 67 (0, 0)) := by
    rw [blk_alloc_lt _ _ _ (by simp)]; exact heap_alloc_new _ _
  have hob : ((w.alloc (.cells #[.slice none 0 0, .int .i64 (-1), .bool false] 67)).alloc (.cells #[.int .i64 q] 73)).cell? ⟨w.heap.size + 1, 0, none⟩ = some (.int .i64 q) := by
    have h := heap_alloc_new (w.alloc (.cells #[.slice none 0 0, .int .i64 (-1), .bool false] 67)) (.cells #[.int .i64 q] 73)
    simp only [World.size_alloc] at h
    unfold World.cell?
    simp only [h]
    rfl
  have CE : Hid (Calls Tryz.prog 29 #[.iface 65 (.pointer (some ⟨w.heap.size, 0, none⟩)), .iface 49 (.pointer (some ⟨bi, 0, none⟩)), .pointer (some ⟨w.heap.size + 1, 0, none⟩)] ((w.alloc (.cells #[.slice none 0 0, .int .i64 (-1), .bool false] 67)).alloc (.cells #[.int .i64 q] 73)) fun e w' => ∃ v, e = .returned (.nilIface) ∧ w'.cell? ⟨w.heap.size, 0, none⟩ = some v ∧ w'.ownsRow w.heap.size 5 1 v T.length (cellsN T) ∧ Kept (fun _ => True) w w') := Lib.hid (by
    refine (encodeNrgba_any w.heap.size (w.heap.size + 1) bi x0 y0 wd hg P q (-1) U I _ (hL _ _ h0 (K1.mono fun _ _ _ => trivial)) hL hC hN hP hs hwb hob (fun i hi => K1.cellOf (hD.u i hi) trivial) hUs (fun i hi => K1.cellOf (hD.bits i hi) trivial) (fun i hi => K1.cellOf (hD.zig i hi) trivial) h8 (by omega) (by decide)).mono ?_
    rintro e w' ⟨bad, rfl, h1, h2, hF⟩
    obtain ⟨hbad, fb, hW⟩ := h1 (.inl (by decide))
    subst hbad
    obtain ⟨_, v, hk, ho, _⟩ := hW
    rw [hT] at ho
    refine ⟨v, rfl, (own_cells hk).1, ho, ?_⟩
    exact (K1.mono fun _ _ _ => trivial).trans' (hF.kept fun k hk => by omega) fun i hi _ => hi)
  have H1 := Lib.hid (hD.err)
  clear h0 hL hC hN hP hs hD K1 hwb hob hT
  go_enter Tryz.func19, Tryz.ntmps19
  go_wp2_with (go_at_call 29; (with_reducible refine CE.out.mono ?_); rintro e w2 ⟨v, rfl, cB, ho, k2⟩; have HK := Lib.hid (And.intro ho k2); clear ho k2)
  clear CE
  go_region_held3 (fun w' => w'.cell? ⟨w.heap.size, 0, none⟩ = some v)
    (first | go_keep | (refine Kept.cellOf k2 ?_ trivial; assumption))
    (first
      | (go_at_call 30; (with_reducible refine (code_nil _).mono ?_); rintro e w3 ⟨rfl, k2⟩; have HKm := Lib.hid k2))
  all_goals
    obtain ⟨ho, k2⟩ := HK.out
    have HKm' := HKm.out
    have hfin := Lib.hid (And.intro (ownsRow_kept ho HKm') (k2.drew.trans HKm'))
    clear HK HKm ho k2 HKm'
    go_wp2
    go_ret2
    exact ⟨v, rfl, hfin.out⟩
set_option maxHeartbeats 4000000 in
set_option maxRecDepth 100000 in
theorem encNrgba_any (R : List Nat) (b off cap : Nat) (z : List Int) (x0 y0 : Int) (wd hg : Nat) (q : Int) (U : Nat → Nat) (w : World) (hcell : ∀ i, i < 4 * wd * hg → w.cell? ⟨b, off + i, none⟩ = some (.int .u8 (z.getD i 0))) (hz : ∀ i, 0 ≤ z.getD i 0 ∧ z.getD i 0 ≤ 255) (hcap : 4 * wd * hg ≤ cap) (hs : SizeOk x0 y0 wd hg) (hD : DoorAt U w) (h8 : 4 ≤ w.heap.size)
    (hE : ∀ (bi bp : Nat) (W : World), PixAt 51 bi bp x0 y0 wd hg (fun c k => pixN z (4 * k + c)) W → DoorAt U W → 4 ≤ W.heap.size → bi < W.heap.size → bp < W.heap.size → Calls Tryz.prog 19 #[.iface 49 (.pointer (some ⟨bi, 0, none⟩)), .int .i64 q, .int .i64 (-1)] W fun e w' => ∃ v, e = .returned (.tuple #[v, .int .i64 0]) ∧ w'.ownsRow W.heap.size 5 1 v R.length (cellsN R) ∧ Kept (fun _ => True) W w') :
    Calls Tryz.prog 13 #[.slice (some ⟨b, off, none⟩) (4 * wd * hg) cap, .int .i64 x0, .int .i64 y0, .int .i64 (wd : Int), .int .i64 (hg : Int), .int .i64 q] w fun e w' => ∃ v, e = .returned (.tuple #[v, .int .i64 0]) ∧ w'.ownsRow w.heap.size 5 1 v R.length (cellsN R) ∧ Kept (fun _ => True) w w' := by
  obtain ⟨s1, s2, s3, s4, s5, ⟨s6, s7⟩, ⟨s8, s9⟩⟩ := hs
  have hp4 : 4 * wd * hg < 2147483648 := by rw [Nat.mul_assoc]; omega
  have CR := Lib.hid fun W => rect_any x0 y0 (x0 + wd) (y0 + hg) W (by omega) (by omega)
  have CN := Lib.hid fun W => newNrgba_any x0 y0 (x0 + wd) (y0 + hg) wd hg W (by omega) (by omega) rfl rfl (by omega) (by omega) hp4
  have ew : IntKind.i64.wrap (x0 + (wd : Int)) = x0 + (wd : Int) := IntWalk.i64_in _ ⟨by omega, by omega⟩
  have eh : IntKind.i64.wrap (y0 + (hg : Int)) = y0 + (hg : Int) := IntWalk.i64_in _ ⟨by omega, by omega⟩
  have e4 : IntKind.i64.wrap (4 * (wd : Int)) = 4 * (wd : Int) := IntWalk.i64_in _ ⟨by omega, by omega⟩
  have HH := Lib.hid (And.intro s1 (And.intro s2 (And.intro s3 (And.intro s4 (And.intro s5 hcap)))))
  have HD := Lib.hid (And.intro hD (And.intro h8 (And.intro hcell hz)))
  have HE := Lib.hid hE
  have HP4 := Lib.hid hp4
  clear s1 s2 s3 s4 s5 s6 s7 s8 s9 hD h8 hcell hz hE hcap hp4
  unfold rectV at CR CN
  go_enter Tryz.func13, Tryz.ntmps13
  go_wp2_with (first
    | (go_at_call 17; (with_reducible refine (CR.out _).mono ?_); rintro e w2 ⟨rfl, k2⟩; have HK2 := Lib.hid k2; clear k2)
    | (go_at_call 21; (with_reducible refine (CN.out _).mono ?_); rintro e w3 ⟨bp, bi, rfl, k3⟩; have HK3 := Lib.hid k3; clear k3))
  have hne : bi ≠ bp := fun e => by
    obtain ⟨c, hc, -, -⟩ := HK3.out.pix
    rw [← e, HK3.out.img] at hc
    cases hc
  have c0 : w3.cell? ⟨bi, 0, none⟩ = some (.slice (some ⟨bp, 0, none⟩) (4 * wd * hg) (4 * wd * hg)) := by unfold World.cell?; simp only [HK3.out.img]; rfl
  have c1 : w3.cell? ⟨bi, 1, none⟩ = some (.int .i64 (4 * (wd : Int))) := by unfold World.cell?; simp only [HK3.out.img]; rfl
  have KW := HK2.out.trans HK3.out.kept
  have hrow : w3.drew.rowIs bp 5 (4 * wd * hg) _ := HK3.out.pix
  have hlp := HK3.out.lp
  have hw2 := HK2.out.size
  have hbl : 0 < 4 * wd * hg := Nat.mul_pos (by have := HH.out.1; omega) HH.out.2.1
  have hbb : b < w.heap.size := block_lt_of_cell (HD.out.2.2.1 0 hbl)
  have CF := Lib.hid (fill_full bp (4 * wd) hg b off cap z _ w3.drew (fun i hi => KW.cellOf (HD.out.2.2.1 i hi) trivial) (by omega) HH.out.2.2.2.2.2 hrow (by have := HH.out.1; omega) HP4.out (by have := HH.out.2.2.1; omega))
  rw [show ((4 * wd : Nat) : Int) = 4 * (wd : Int) by omega] at CF
  have himg := HK3.out.img
  have HI := Lib.hid (And.intro himg (And.intro KW hne))
  have HBP : Hid (w.heap.size ≤ bp) := Lib.hid (by omega)
  have hbi : bi < w3.heap.size := (Array.getElem?_eq_some_iff.1 himg).1
  have hbpl : bp < w3.heap.size := HK3.out.pix.lt
  have HBI := Lib.hid (And.intro hbi hbpl)
  clear himg KW hne hrow CR CN hlp hw2 ew eh HK3 HK2 hbl hbb hbi hbpl
  go_still_tail 12, (by kernel_rfl)
  change wpList _ _ _ _ _ w3.drew
  clear c0 c1 e4
  go_wp2_with (go_at_call 18; (with_reducible refine CF.out.mono ?_); rintro e w4 ⟨rfl, k4, r4⟩; have HK4 := Lib.hid (And.intro k4 r4); clear k4 r4)
  obtain ⟨k4, r4⟩ := HK4.out
  have hkw4 : Kept (fun _ => True) w w4 := HI.out.2.1.drew.trans' k4 fun k hk _ => by have := HBP.out; omega
  have hG4 : PixAt 51 bi bp x0 y0 wd hg (fun c k => pixN z (4 * k + c)) w4 := by
    refine ⟨(k4.block bi HBI.out.1 HI.out.2.2).trans HI.out.1, fun k hk c hc => ?_, fun c k => ?_⟩
    · have hkk : 4 * k + c < 4 * wd * hg := by rw [Nat.mul_assoc]; omega
      rw [r4.cell hkk]
      unfold fillF pixN
      rw [if_pos ⟨hkk, hkk⟩]
      have := HD.out.2.2.2 (4 * k + c)
      congr 2
      omega
    · have := HD.out.2.2.2 (4 * k + c)
      show pixN z (4 * k + c) ≤ 255
      unfold pixN
      omega
  refine (HE.out bi bp w4 hG4 (HD.out.1.kept hkw4) (by have := HD.out.2.1; have := hkw4.size; omega) (by have := HBI.out.1; have := k4.size; simp only [World.size_drew] at this; omega) (by have := HBI.out.2; have := k4.size; simp only [World.size_drew] at this; omega)).mono ?_
  rintro e w5 ⟨v, rfl, ho, k5⟩
  have HF := Lib.hid (And.intro ho (hkw4.trans k5))
  have hsz := hkw4.size
  clear k4 r4 hkw4 hG4 ho k5
  go_wp2_with fail
  go_ret2
  exact ⟨v, rfl, ownsRow_lower HF.out.1 hsz, HF.out.2⟩
/-- impl.EncodeNRGBA of pixels that lie in memory: the stream of their colors. -/
theorem implNrgba_any (b off cap : Nat) (z : List Int) (x0 y0 : Int) (wd hg : Nat) (q : Int) (U : Nat → Nat) (w : World) (hcell : ∀ i, i < 4 * wd * hg → w.cell? ⟨b, off + i, none⟩ = some (.int .u8 (z.getD i 0))) (hz : ∀ i, 0 ≤ z.getD i 0 ∧ z.getD i 0 ≤ 255) (hcap : 4 * wd * hg ≤ cap) (hop : ∀ k, k < wd * hg → z.getD (4 * k + 3) 0 = 255) (hs : SizeOk x0 y0 wd hg) (hD : DoorAt U w) (hUs : ∀ i, U i ≤ 255) (h8 : 4 ≤ w.heap.size) (R : List Nat) (hR : streamC (quantOf U (scaleOf (qualOf q))) wd hg (planesOf fun c k => pixN z (4 * k + c)) = R) :
    Calls Tryz.prog 13 #[.slice (some ⟨b, off, none⟩) (4 * wd * hg) cap, .int .i64 x0, .int .i64 y0, .int .i64 (wd : Int), .int .i64 (hg : Int), .int .i64 q] w fun e w' => ∃ v, e = .returned (.tuple #[v, .int .i64 0]) ∧ w'.ownsRow w.heap.size 5 1 v R.length (cellsN R) ∧ Kept (fun _ => True) w w' :=
  encNrgba_any R b off cap z x0 y0 wd hg q U w hcell hz hcap hs hD h8 fun bi bp W hG hDW h8W hbi hbp =>
    encodedNrgba_good bi x0 y0 wd hg _ q U R hR _ W hG (lowNrgba x0 y0 wd hg _ hbi hbp) (blockNrgba _ (fun k hk => by show pixN z (4 * k + 3) = 255; unfold pixN; rw [hop k hk]; rfl) hs hbp) (boundsNrgbaC _) (planesOf_le hG.small) hs hDW hUs h8W
end Go.Proofs.YtghjlekdibcjdaaGreatDoor
