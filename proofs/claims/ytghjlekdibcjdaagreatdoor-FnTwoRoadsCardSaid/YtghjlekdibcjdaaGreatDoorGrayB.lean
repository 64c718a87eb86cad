/- The contract of grayToY. -/
import Derived.Test.YtghjlekdibcjdaaGreatDoorGrayA
namespace Go.Proofs.YtghjlekdibcjdaaGreatDoor
open Go.Deep Go.RowKit
set_option linter.unusedVariables false
/-- A gray image: its block, its pixels' block, where its bounds begin, its size, its pixels. -/
structure GrayAt (bi bp : Nat) (x0 y0 : Int) (wd hg : Nat) (P : Nat → Nat) (w : World) : Prop where
  img : w.heap[bi]? = some (.cells #[.slice (some ⟨bp, 0, none⟩) (wd * hg) (wd * hg), .int .i64 (wd : Int), .int .i64 x0, .int .i64 y0, .int .i64 (x0 + wd), .int .i64 (y0 + hg)] 44 (0, 0))
  pix : ∀ k, k < wd * hg → w.cell? ⟨bp, k, none⟩ = some (.int .u8 (P k : Int))
  small : ∀ k, P k ≤ 255
/-- What is known of a size and a place. -/
structure SizeOk (x0 y0 : Int) (wd hg : Nat) : Prop where
  w1 : 1 ≤ wd
  h1 : 1 ≤ hg
  w2 : wd ≤ 65535
  h2 : hg ≤ 65535
  n : wd * hg ≤ 65536
  x : -1048576 ≤ x0 ∧ x0 ≤ 1048576
  y : -1048576 ≤ y0 ∧ y0 ≤ 1048576
/-- A sample of the block whose corner is (bx, by): the last column and row are repeated. -/
def clampAt (wd hg bx by' j : Nat) : Nat := min (by' + j / 8) (hg - 1) * wd + min (bx + j % 8) (wd - 1)
theorem clamp_lt {wd hg : Nat} (hw : 1 ≤ wd) (hh : 1 ≤ hg) (bx by' j : Nat) : clampAt wd hg bx by' j < wd * hg := by
  unfold clampAt
  have h1 : min (by' + j / 8) (hg - 1) ≤ hg - 1 := Nat.min_le_right _ _
  have h2 : min (bx + j % 8) (wd - 1) ≤ wd - 1 := Nat.min_le_right _ _
  have h3 := Nat.mul_le_mul_right wd h1
  have h4 : (hg - 1) * wd + wd = wd * hg := by
    rw [← Nat.succ_mul, show (hg - 1).succ = hg by omega, Nat.mul_comm]
  omega
/-- Rows that are filled as far as a place. -/
def upTo (n : Nat) (S f : Nat → Value) : Nat → Value := fun q => if q < n then S q else f q
/-- What holds in grayToY's loops. -/
structure GY (w : World) (b B0 : Nat) (T : TypeId) (u v : Value) (S f : Nat → Value) (n : Nat) (wr : World) : Prop where
  kept : Kept (fun k => k ≠ b) w wr
  a0 : wr.cell? ⟨B0, 0, none⟩ = some u
  a1 : wr.cell? ⟨B0, 1, none⟩ = some v
  row : wr.rowIs b T 64 (upTo n S f)
theorem GrayAt.kept {bi bp : Nat} {x0 y0 : Int} {wd hg : Nat} {P : Nat → Nat} {S : Nat → Prop} {w w' : World} (h : GrayAt bi bp x0 y0 wd hg P w) (k : Kept S w w') (h1 : S bi) (h2 : S bp) : GrayAt bi bp x0 y0 wd hg P w' :=
  ⟨(k.block bi (Array.getElem?_eq_some_iff.1 h.img).1 h1).trans h.img, fun i hi => k.cellOf (h.pix i hi) h2, h.small⟩
theorem upTo_step (n : Nat) (S f : Nat → Value) (v : Value) (hv : v = S n) (j : Nat) : (if j = n then v else upTo n S f j) = upTo (n + 1) S f j := by
  unfold upTo
  by_cases e : j = n
  · subst e; rw [if_pos rfl, if_pos (by omega), hv]
  · rw [if_neg e]
    by_cases e2 : j < n
    · rw [if_pos e2, if_pos (by omega)]
    · rw [if_neg e2, if_neg (by omega)]
theorem GY.step {w : World} {b B0 : Nat} {T : TypeId} {u v : Value} {S f : Nat → Value} {n : Nat} {wr w2 : World} (h : GY w b B0 T u v S f n wr) (k : Kept (fun _ => True) wr w2) (hB : B0 ≠ b) (x : Value) (hx : x = S n) : GY w b B0 T u v S f (n + 1) ((w2.setCell ⟨b, n, none⟩ x).drew) := by
  have hk2 : Kept (fun k => k ≠ b) w2 (w2.setCell ⟨b, n, none⟩ x) := (Kept.refl _ _).setCell (fun _ h => h rfl) _
  refine ⟨((h.kept.trans (k.mono fun _ _ _ => trivial)).trans hk2).drew, hk2.cellOf (k.cellOf h.a0 trivial) hB, hk2.cellOf (k.cellOf h.a1 trivial) hB, ?_⟩
  exact ((k.row h.row trivial).set n x).congr fun j _ => upTo_step n S f x hx j
set_option maxHeartbeats 2000000 in
set_option maxRecDepth 100000 in
theorem grayToY_any (bi bp b : Nat) (T : TypeId) (x0 y0 : Int) (wd hg : Nat) (P : Nat → Nat) (bx by' : Nat) (f : Nat → Value) (w : World) (hG : GrayAt bi bp x0 y0 wd hg P w) (hs : SizeOk x0 y0 wd hg) (hx : bx < wd) (hy : by' < hg) (hr : w.rowIs b T 64 f) (hbi : b ≠ bi) (hbp : b ≠ bp) :
    Calls Tryz.prog 56 #[.pointer (some ⟨bi, 0, none⟩), .agg #[.int .i64 (x0 + bx), .int .i64 (y0 + by')], .pointer (some ⟨b, 0, none⟩)] w fun e w' => e = .returned (.tuple #[]) ∧ w'.rowIs b T 64 (fun j => .int .i32 ((P (clampAt wd hg bx by' j) : Nat) : Int)) ∧ Kept (fun k => k ≠ b) w w' := by
  obtain ⟨s1, s2, s3, s4, s5, ⟨s6, s7⟩, ⟨s8, s9⟩⟩ := hs
  have CB := Lib.hid (boundsGray bi _ _ x0 y0 (x0 + wd) (y0 + hg) (w.alloc (.cells #[.int .i64 (x0 + bx), .int .i64 (y0 + by')] 38)) (((Kept.refl (fun _ => True) w).alloc _ |>.block bi (Array.getElem?_eq_some_iff.1 hG.img).1 trivial).trans hG.img))
  unfold rectV at CB
  have HG := Lib.hid (And.intro hG hr)
  clear hG hr
  go_enter Tryz.func56, Tryz.ntmps56
  go_wp2_with (go_at_call 69; (with_reducible refine CB.out.mono ?_); rintro e w1 ⟨rfl, k1⟩; have K1 := Lib.hid k1; have a0 := k1.cellOf (a := ⟨w.heap.size, 0, none⟩) (v := .int .i64 (x0 + bx)) (by unfold World.cell?; simp only [heap_alloc_new]; rfl) trivial; have a1 := k1.cellOf (a := ⟨w.heap.size, 1, none⟩) (v := .int .i64 (y0 + by')) (by unfold World.cell?; simp only [heap_alloc_new]; rfl) trivial; have hbb := (k1.block bi (by have := (Array.getElem?_eq_some_iff.1 HG.out.1.img).1; simp; omega) trivial).trans (((Kept.refl (fun _ => True) w).alloc _ |>.block bi (Array.getElem?_eq_some_iff.1 HG.out.1.img).1 trivial).trans HG.out.1.img); have i0 : ∀ o, (w1.alloc o).cell? ⟨bi, 0, none⟩ = some (.slice (some ⟨bp, 0, none⟩) (wd * hg) (wd * hg)) := (fun o => by rw [World.cell?_alloc_past _ _ _ (Array.getElem?_eq_some_iff.1 hbb).1]; unfold World.cell?; simp only [hbb]; rfl); clear k1 hbb)
  obtain ⟨n, hn⟩ : ∃ n, wd * hg = n := ⟨_, rfl⟩
  rw [hn] at s5 ⊢
  have hG0 : GY w b w.heap.size T (.int .i64 (x0 + bx)) (.int .i64 (y0 + by')) (fun j => .int .i32 ((P (clampAt wd hg bx by' j) : Nat) : Int)) f 0 (w1.alloc (.cells #[.int .i64 x0, .int .i64 y0, .int .i64 (x0 + wd), .int .i64 (y0 + hg)] 40)) := by
    have hk0 : Kept (fun _ => True) w w1 := ((Kept.refl _ w).alloc _).trans K1.out
    have hk := hk0.alloc (.cells #[.int .i64 x0, .int .i64 y0, .int .i64 (x0 + wd), .int .i64 (y0 + hg)] 40)
    have hka : Kept (fun _ => True) w1 (w1.alloc (.cells #[.int .i64 x0, .int .i64 y0, .int .i64 (x0 + wd), .int .i64 (y0 + hg)] 40)) := (Kept.refl _ _).alloc _
    exact ⟨hk.mono fun _ _ _ => trivial, hka.cellOf a0 trivial, hka.cellOf a1 trivial, (hk.row HG.out.2 trivial).congr fun j _ => by unfold upTo; rw [if_neg (by omega)]⟩
  have HN := Lib.hid hn
  have hBb : w.heap.size ≠ b := by have := HG.out.2.lt; omega
  clear a0 a1 i0 CB hn
  go_loopg [10] 8 (fun k s10 wr => ∃ j : Nat, j ≤ 8 ∧ k = 8 - j ∧ s10 = .int .i64 (j : Int) ∧ GY w b w.heap.size T (.int .i64 (x0 + bx)) (.int .i64 (y0 + by')) (fun j => .int .i32 ((P (clampAt wd hg bx by' j) : Nat) : Int)) f (8 * j) wr)
  case atStart => exact ⟨0, by omega, rfl, rfl, hG0⟩
  case round =>
    clear hG0 K1
    obtain ⟨j, hj, rfl, rfl, hS⟩ := hrel
    by_cases hlt : j < 8
    · have hjd : decide ((j : Int) < 8) = true := by simp; omega
      go_wp2_with fail
      go_loopg [11] 8 (fun k s11 wr => ∃ i : Nat, i ≤ 8 ∧ k = 8 - i ∧ s11 = .int .i64 (i : Int) ∧ GY w b w.heap.size T (.int .i64 (x0 + bx)) (.int .i64 (y0 + by')) (fun j => .int .i32 ((P (clampAt wd hg bx by' j) : Nat) : Int)) f (8 * j + i) wr)
      case atStart => exact ⟨0, by omega, rfl, rfl, hS⟩
      case round =>
        clear hS
        obtain ⟨i, hi, rfl, rfl, hS⟩ := hrel
        by_cases hlt2 : i < 8
        · have a0 := hS.a0
          have a1 := hS.a1
          have hGr := HG.out.1.kept hS.kept (Ne.symm hbi) (Ne.symm hbp)
          have hc := clamp_lt s1 s2 bx by' (8 * j + i)
          have hca : clampAt wd hg bx by' (8 * j + i) = min (by' + j) (hg - 1) * wd + min (bx + i) (wd - 1) := by
            unfold clampAt
            rw [show (8 * j + i) / 8 = j by omega, show (8 * j + i) % 8 = i by omega]
          obtain ⟨a, ha⟩ : ∃ a, min (bx + i) (wd - 1) = a := ⟨_, rfl⟩
          obtain ⟨c, hcc⟩ : ∃ c, min (by' + j) (hg - 1) = c := ⟨_, rfl⟩
          obtain ⟨p, hp⟩ : ∃ p, c * wd = p := ⟨_, rfl⟩
          rw [ha, hcc, hp] at hca
          rw [hca, HN.out] at hc
          obtain ⟨q, hq⟩ : ∃ q, p + a = q := ⟨_, rfl⟩
          have CP : Hid (∀ (x y : Int) (W : World), Kept (fun _ => True) wr W → x - x0 = (a : Int) → y - y0 = (c : Int) → Calls Tryz.prog 70 #[.pointer (some ⟨bi, 0, none⟩), .int .i64 x, .int .i64 y] W fun e w' => e = .returned (.int .i64 (q : Int)) ∧ Kept (fun _ => True) W w') := Lib.hid fun x y W k hx hy => by
            have h := pixOffset_any bi _ x0 y0 _ _ x y wd c a p W ((k.block bi (Array.getElem?_eq_some_iff.1 hGr.img).1 trivial).trans hGr.img) hx hy hp (by omega) (by omega) (by omega)
            rw [hq] at h
            exact h
          have hpx := hGr.pix (p + a) (by rw [HN.out]; exact hc)
          have hsm := hGr.small (p + a)
          rw [hq] at hpx hca hc hsm
          obtain ⟨v, hv⟩ : ∃ v, P q = v := ⟨_, rfl⟩
          rw [hv] at hpx hsm
          have hrw : wr.cell? ⟨b, 8 * j + i, none⟩ = some (upTo (8 * j + i) (fun j => .int .i32 ((P (clampAt wd hg bx by' j) : Nat) : Int)) f (8 * j + i)) := hS.row.cell (by omega)
          have hrf : wr.frozen? ⟨b, 8 * j + i, none⟩ = false := hS.row.frozen _
          have HS := Lib.hid (And.intro hS (And.intro hca hv))
          obtain ⟨old, hold⟩ : ∃ old, upTo (8 * j + i) (fun j => .int .i32 ((P (clampAt wd hg bx by' j) : Nat) : Int)) f (8 * j + i) = old := ⟨_, rfl⟩
          rw [hold] at hrw
          have q0 : (0 : Int) ≤ (q : Int) := by omega
          have q1 : (q : Int) < (n : Int) := by omega
          have q2 : (0 : Int) ≤ 8 * (j : Int) + (i : Int) := by omega
          have q3 : 8 * (j : Int) + (i : Int) < 64 := by omega
          have q4 : (8 * (j : Int) + (i : Int)).toNat = 8 * j + i := by omega
          have q5 : IntKind.i64.wrap (8 * (j : Int)) = 8 * (j : Int) := IntWalk.i64_in _ ⟨by omega, by omega⟩
          have q6 : IntKind.i64.wrap (8 * (j : Int) + (i : Int)) = 8 * (j : Int) + (i : Int) := IntWalk.i64_in _ ⟨by omega, by omega⟩
          have q7 : IntKind.i32.wrap (v : Int) = (v : Int) := IntWalk.i32_in _ ⟨by omega, by omega⟩
          clear hS hGr hca hp hq hv hold hc
          have hbpb : bp ≠ b := Ne.symm hbp
          have hxs : (bx + i ≤ wd - 1 ∧ a = bx + i) ∨ (wd ≤ bx + i ∧ a = wd - 1) := by omega
          have hys : (by' + j ≤ hg - 1 ∧ c = by' + j) ∨ (hg ≤ by' + j ∧ c = hg - 1) := by omega
          clear ha hcc
          rcases hxs with ⟨u1, u2⟩ | ⟨u1, u2⟩ <;> rcases hys with ⟨u3, u4⟩ | ⟨u3, u4⟩ <;>
          · go_wp2_with (go_at_call 70; (with_reducible refine (CP.out _ _ _ (Kept.refl _ _) ?_ ?_).mono ?_); (· omega); (· omega); rintro e w2 ⟨rfl, k2⟩; have p0 := k2.cellOf hpx trivial; have p1 := k2.cellOf hrw trivial; have p2 : w2.frozen? ⟨b, 8 * j + i, none⟩ = false := (k2.frozen (a := ⟨b, 8 * j + i, none⟩) (block_lt_of_cell hrw) trivial).trans hrf; have HK := Lib.hid k2; clear k2)
            go_region
            go_wp2_with fail
            go_roundg (8 - (i + 1))
            case measure => go_light; omega
            case rel =>
              go_light
              exact ⟨i + 1, by omega, rfl, by go_num, HS.out.1.step HK.out hBb _ (by show _ = Value.int .i32 ((P (clampAt wd hg bx by' (8 * j + i)) : Nat) : Int); rw [HS.out.2.1, HS.out.2.2])⟩
        · obtain rfl : i = 8 := by omega
          have HS := Lib.hid hS
          clear hS
          go_wp2_with fail
          go_roundg (8 - (j + 1))
          case measure => go_light; omega
          case rel =>
            go_light
            exact ⟨j + 1, by omega, rfl, by go_num, HS.out⟩
    · obtain rfl : j = 8 := by omega
      have HS := Lib.hid hS
      clear hS
      go_wp2_with fail
      go_end0
      exact ⟨rfl, HS.out.row.congr fun j hj => (by unfold upTo; rw [if_pos (by omega)]), HS.out.kept⟩
end Go.Proofs.YtghjlekdibcjdaaGreatDoor
