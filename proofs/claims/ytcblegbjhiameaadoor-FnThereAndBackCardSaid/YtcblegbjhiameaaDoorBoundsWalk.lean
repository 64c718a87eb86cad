/- The contract of spec.Bounds. -/
import Derived.Test.YtcblegbjhiameaaDoorThereLaw
import Derived.Test.YtcblegbjhiameaaDoorSpecSums
namespace Go.Proofs.YtcblegbjhiameaaDoor
open Go.Deep Go.RowKit
/-- What spec.Bounds returns. -/
def bndN (q : Nat → Int) (j : Nat) : Int := sumTo (bT q (j / 8) (j % 8)) 64 / 2 + 1099511627776
theorem sumTo_small (q : Nat → Int) (hq : ∀ k, k < 64 → 1 ≤ q k ∧ q k ≤ 255) (y x k : Nat) (hy : y < 8) (hx : x < 8) (hk : k ≤ 64) : 0 ≤ sumTo (bT q y x) k ∧ sumTo (bT q y x) k ≤ 4503599627370496 := by
  have h := sumTo_in (bT q y x) 70368744177664 k fun i hi => bT_in q hq y x i hy hx (by omega)
  omega
theorem max_in {a M : Int} (h1 : -M ≤ a) (h2 : a ≤ M) : 0 ≤ max a (-a) ∧ max a (-a) ≤ M := by omega
theorem bstep {S t a b A B : Int} (hA : max a (-a) = A) (hB : max b (-b) = B) (ht : 1 ≤ t ∧ t ≤ 255) (ha : 0 ≤ max a (-a) ∧ max a (-a) ≤ 524288)
    (h1 : 0 ≤ (t + 1) * max a (-a) * max b (-b) ∧ (t + 1) * max a (-a) * max b (-b) ≤ 70368744177664) (h2 : 0 ≤ S + (t + 1) * max a (-a) * max b (-b) ∧ S + (t + 1) * max a (-a) * max b (-b) ≤ 4503599627370496) :
    wrap64 (S + wrap64 (wrap64 ((t + 1) * A) * B)) = S + (t + 1) * max a (-a) * max b (-b) := by
  rw [hA, hB] at *
  have m1 : 0 ≤ (t + 1) * A := Int.mul_nonneg (by omega) ha.1
  have m2 : (t + 1) * A ≤ 256 * 524288 := Int.mul_le_mul (by omega) ha.2 ha.1 (by omega)
  rw [IntWalk.wrap64_in ((t + 1) * A) ⟨by omega, by omega⟩, IntWalk.wrap64_in ((t + 1) * A * B) ⟨by omega, by omega⟩, IntWalk.wrap64_in _ ⟨by omega, by omega⟩]
set_option maxHeartbeats 1000000 in
set_option maxRecDepth 100000 in
theorem bounds_any (q : Nat → Int) (hq : ∀ k, k < 64 → 1 ≤ q k ∧ q k ≤ 255) (bb T : Nat) (w : World) (L : Laid zN bN w) (hr : w.rowIs bb T 64 (ints .i64 q)) :
    Calls Tryd.prog 19 #[.pointer (some ⟨bb, 0, none⟩)] w fun e w' => e = .returned (.agg (agg 64 (ints .i64 (bndN q)))) ∧ Kept (fun _ => True) w w' := by
  have HQ := Lib.hid hq
  clear hq
  have hA := rowIs_lit64i w 24
  have hB := rowIs_lit64i (w.alloc (.cells lit64i 24)) 24
  simp only [World.size_alloc] at hB
  have HK := fun o1 o2 => ((Kept.refl (fun _ => True) w).alloc o1).alloc o2
  go_enter Tryd.func19, Tryd.ntmps19
  go_wp2
  go_loopg [11] 8 (fun k s wr => ∃ y : Nat, y ≤ 8 ∧ k = 8 - y ∧ s = .int .i64 y ∧ Kept (fun _ => True) w wr ∧ wr.rowIs w.heap.size 24 64 (ints .i64 fun _ => 0) ∧ wr.rowIs (w.heap.size + 1) 24 64 (ints .i64 (upto (bndN q) (8 * y))))
  case atStart => exact ⟨0, by omega, rfl, rfl, HK _ _, hA.alloc _, hB.congr fun j _ => by simp [ints, upto]⟩
  case round =>
    clear hA hB HK
    obtain ⟨y, hy, rfl, rfl, hk, q0, q1⟩ := hrel
    by_cases hy8 : y < 8
    · have hyb : decide ((y : Int) < 8) = true := by simp; omega
      go_wp2
      go_loopg [14] 8 (fun k s wr => ∃ x : Nat, x ≤ 8 ∧ k = 8 - x ∧ s = .int .i64 x ∧ Kept (fun _ => True) w wr ∧ wr.rowIs w.heap.size 24 64 (ints .i64 fun _ => 0) ∧ wr.rowIs (w.heap.size + 1) 24 64 (ints .i64 (upto (bndN q) (8 * y + x))))
      case atStart => exact ⟨0, by omega, rfl, rfl, hk, q0, q1⟩
      case round =>
        clear hk q0 q1
        obtain ⟨x, hx, rfl, rfl, hk, q0, q1⟩ := hrel
        by_cases hx8 : x < 8
        · have hxb : decide ((x : Int) < 8) = true := by simp; omega
          have HL := (L.kept hk).zig
          go_wp2_with (((with_reducible refine wpList_load_cells (op := ⟨some 17, .load 24 (.global 0), _, _, _, _⟩) ?_ 24 (.global 0) ?_ 0 64 (f := ints .i64 fun k => (zN k : Int)) ?_ ?_ Tryd.underlying24 ?_ ?_ ?_); (· rfl); (· rfl); (· rfl); (· exact HL); (· rfl); (· exact sizeU)))
          clear HL
          generalize hG : agg 64 (ints .i64 fun k => ((zN k : Nat) : Int)) = G
          have HG := Lib.hid hG
          clear hG
          go_loopg [18, 6] 64 (fun k s t wr => ∃ i : Nat, i ≤ 64 ∧ k = 64 - i ∧ s = .int .i64 i ∧ t = .int .i64 (sumTo (bT q y x) i) ∧ Kept (fun _ => True) w wr ∧ wr.rowIs w.heap.size 24 64 (ints .i64 fun _ => 0) ∧ wr.rowIs (w.heap.size + 1) 24 64 (ints .i64 (upto (bndN q) (8 * y + x))))
          case atStart => exact ⟨0, by omega, rfl, rfl, rfl, hk, q0, q1⟩
          case round =>
            clear hk q0 q1
            obtain ⟨i, hi, rfl, rfl, rfl, hk, q0, q1⟩ := hrel
            by_cases hlt : i < 64
            · have hidx : ∀ wx, (Instr.index 24 (.agg G) (.int .i64 (i : Int))).run Tryd.prog wx = .ok (.int .i64 (zN i : Int)) wx := fun wx => by
                rw [← show _ = G from HG.out]
                exact run_index_one (P := Tryd.prog) Tryd.underlying24 Tryd.underlying3 rfl sizeI (ints .i64 fun k => ((zN k : Nat) : Int)) i hlt wx
              have hp64 := L.lt i hlt
              have hs := sumTo_small q HQ.out y x i hy8 hx8 (by omega)
              have hs2 := sumTo_small q HQ.out y x (i + 1) hy8 hx8 (by omega)
              have hstep : sumTo (bT q y x) (i + 1) = sumTo (bT q y x) i + (q i + 1) * aB (y * 8 + zN i / 8) * aB (x * 8 + zN i % 8) := rfl
              have hbt := bT_in q HQ.out y x i hy8 hx8 hlt
              have hqi := HQ.out i hlt
              unfold bT at hbt
              obtain ⟨p, hp⟩ : ∃ p, zN i = p := ⟨_, rfl⟩
              rw [hp] at hidx hp64 hstep hbt
              obtain ⟨a0, ha0⟩ : ∃ a0, p / 8 = a0 := ⟨_, rfl⟩
              obtain ⟨b0, hb0⟩ : ∃ b0, p % 8 = b0 := ⟨_, rfl⟩
              have ia : ((p : Nat) : Int) / 8 = (a0 : Int) := by omega
              have ib : ((p : Nat) : Int) % 8 = (b0 : Int) := by omega
              have la : a0 < 8 := by omega
              have lb : b0 < 8 := by omega
              rw [ha0, hb0] at hstep hbt
              clear hp ha0 hb0
              have hma := aB_in (y * 8 + a0) (by omega)
              have hmb := aB_in (x * 8 + b0) (by omega)
              have hba := bN_in (y * 8 + a0) (by omega)
              have hbb := bN_in (x * 8 + b0) (by omega)
              unfold aB at hma hmb hstep hbt
              have d0 := (L.kept hk).bas (y * 8 + a0) (by omega)
              have d1 := (L.kept hk).bas (x * 8 + b0) (by omega)
              have d2 := (hk.row hr trivial).cell (i := i) (by omega)
              simp only [ints] at d2
              obtain ⟨a, ha⟩ : ∃ a, bN (y * 8 + a0) = a := ⟨_, rfl⟩
              obtain ⟨b, hb⟩ : ∃ b, bN (x * 8 + b0) = b := ⟨_, rfl⟩
              obtain ⟨t, ht⟩ : ∃ t, q i = t := ⟨_, rfl⟩
              rw [ha] at d0 hma hba hstep hbt
              rw [hb] at d1 hmb hbb hstep hbt
              rw [ht] at d2 hqi hstep hbt
              clear ha hb ht
              generalize sumTo (bT q y x) i = S at hs hstep
              rw [hstep] at hs2
              have HS := Lib.hid hstep
              clear hstep
              go_wp2_with fail
              go_region
              go_wp2_with fail
              all_goals
                go_roundg (64 - (i + 1))
                case measure => go_light; omega
                case rel =>
                  go_light
                  exact ⟨i + 1, by omega, rfl, by go_num, by rw [HS.out]; refine congrArg (Value.int .i64) (bstep (a := a) (b := b) ?_ ?_ hqi hma hbt hs2) <;> (clear hbt hs2; omega), hk.drew, q0.drew, q1.drew⟩
            · have ei : i = 64 := by omega
              subst ei
              have hs := sumTo_small q HQ.out y x 64 hy8 hx8 (by omega)
              obtain ⟨S, hS⟩ : ∃ S, sumTo (bT q y x) 64 = S := ⟨_, rfl⟩
              rw [hS] at hs
              have hb : bndN q (8 * y + x) = S / 2 + 1099511627776 := by
                unfold bndN
                rw [show (8 * y + x) / 8 = y by omega, show (8 * y + x) % 8 = x by omega, hS]
              have HB := Lib.hid hb
              clear hb
              rw [hS]
              clear hS HG
              have d2 : wr.cell? ⟨w.heap.size + 1, 8 * y + x, none⟩ = some (.int .i64 (upto (bndN q) (8 * y + x) (8 * y + x))) := q1.cell (by omega)
              have d3 : wr.frozen? ⟨w.heap.size + 1, 8 * y + x, none⟩ = false := q1.frozen _
              go_wp2
              go_roundg (8 - (x + 1))
              case measure => go_light; omega
              case rel =>
                go_light
                exact ⟨x + 1, by omega, rfl, by go_num, hk.setCell (fun h => absurd h (by show ¬ (w.heap.size + 1 < w.heap.size); omega)) _, q0.setOther (by simp) _, (q1.set _ _).congr fun j _ => upto_step (bndN q) (8 * y + x) j HB.out⟩
        · have ex : x = 8 := by omega
          subst ex
          go_wp2
          go_roundg (8 - (y + 1))
          case measure => go_light; omega
          case rel =>
            go_light
            exact ⟨y + 1, by omega, rfl, by go_num, hk, q0, by rw [show 8 * (y + 1) = 8 * y + 8 by omega]; exact q1⟩
    · have ey : y = 8 := by omega
      subst ey
      go_wp2_with (first | ((with_reducible refine wpList_load_all (op := ⟨some 63, .load 24 (.tmp 3), _, _, _, _⟩) ?_ 24 (.tmp 3) ?_ (w.heap.size + 1) 64 ?_ q1 ?_ Tryd.underlying24 ?_ ?_ ?_); (· rfl); (· rfl); (· rfl); (· omega); (· rfl); (· exact sizeU)) | ((with_reducible refine wpList_store_new (op := ⟨none, .store 24 (.tmp 2) (.tmp 63), _, _, _, _⟩) ?_ 24 (.tmp 2) (.tmp 63) ?_ w.heap.size 64 (g := ints .i64 (upto (bndN q) 64)) ?_ ?_ q0 ?_ ?_ ?_); (· rfl); (· rfl); (· rfl); (· rfl); (· exact sizeU); (· exact fun _ => rfl); (intro w6 k6 s6 r6)))
      exact bodyPost_ret (v := .agg (agg 64 (ints .i64 (upto (bndN q) 64)))) (results_rowIs Tryd.results19 r6 rfl Tryd.underlying24 rfl sizeU) rfl ⟨by rw [agg_congr (g := ints .i64 (bndN q)) fun j hj => by simp only [ints, upto, if_pos hj]], hk.trans' k6 fun i hi _ => by omega⟩
end Go.Proofs.YtcblegbjhiameaaDoor
