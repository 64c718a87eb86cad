/- Contracts of the functions that FnScale calls, and the walk of the law itself. -/
import Derived.Test.YtpmbbampkedecaaScaleCalls
namespace Go.Proofs.Ytpmbbampkedecaa
open Go.Deep Go.RowKit

/-- What holds at the head of the law's first loop, i numbers copied. -/
structure LS (w wr : World) (g : Nat → Int) (i : Nat) : Prop where
  kept : Kept (fun _ => True) w wr
  size : wr.heap.size = w.heap.size + 1
  src : wr.rowIs w.heap.size 26 256 (ints .i32 fun j => if j < i then g j else 0)
theorem LS.start (w : World) (g : Nat → Int) : LS w (w.alloc (.cells (zeros 256) 26)) g 0 :=
  ⟨(Kept.refl _ _).alloc _, by simp, (rowIs_zeros w 26 256).congr fun j _ => by simp [ints]⟩
theorem LS.step {w wr : World} {g : Nat → Int} {i p : Nat} {v : Int} (h : LS w wr g i) (hp : p = i) (hv : v = g i) : LS w (wr.setCell ⟨w.heap.size, p, none⟩ (.int .i32 v)) g (i + 1) := by
  subst hp hv
  refine ⟨h.kept.setCell (fun h => by simp at h) _, by simpa using h.size, (h.src.set _ _).congr fun j _ => ?_⟩
  simp only [ints]
  by_cases e : j = p
  · subst e; rw [if_pos rfl, if_pos (by omega)]
  · rw [if_neg e]
    by_cases d : j < p
    · rw [if_pos d, if_pos (by omega)]
    · rw [if_neg d, if_neg (by omega)]

/-- A sample of the result and the four that it averages. -/
theorem scaled_near (g : Nat → Int) (hg : ∀ j, 0 ≤ g j ∧ g j ≤ 255) {y x : Nat} (hx : x < 8) :
    ∃ s s0 s1 s8 s9 : Int, g ((y / 4 * 2 + x / 4) * 64 + (y % 4 * 16 + x % 4 * 2)) = s0 ∧ g ((y / 4 * 2 + x / 4) * 64 + (y % 4 * 16 + x % 4 * 2 + 1)) = s1 ∧
      g ((y / 4 * 2 + x / 4) * 64 + (y % 4 * 16 + x % 4 * 2 + 8)) = s8 ∧ g ((y / 4 * 2 + x / 4) * 64 + (y % 4 * 16 + x % 4 * 2 + 9)) = s9 ∧ scaled g (8 * y + x) = s ∧
      (0 ≤ s0 ∧ s0 ≤ 255) ∧ (0 ≤ s1 ∧ s1 ≤ 255) ∧ (0 ≤ s8 ∧ s8 ≤ 255) ∧ (0 ≤ s9 ∧ s9 ≤ 255) ∧ (0 ≤ s ∧ s ≤ 255 ∧ -2 ≤ 4 * s - s0 - s1 - s8 - s9 ∧ 4 * s - s0 - s1 - s8 - s9 ≤ 2) := by
  refine ⟨_, _, _, _, _, rfl, rfl, rfl, rfl, rfl, hg _, hg _, hg _, hg _, ?_⟩
  have e : 64 * (((8 * y + x) / 32) * 2 + ((8 * y + x) % 8) / 4) + 16 * (((8 * y + x) / 8) % 4) + 2 * ((8 * y + x) % 4) = (y / 4 * 2 + x / 4) * 64 + (y % 4 * 16 + x % 4 * 2) := by omega
  simp only [scaled]
  rw [e]
  have h0 := hg ((y / 4 * 2 + x / 4) * 64 + (y % 4 * 16 + x % 4 * 2))
  have h1 := hg ((y / 4 * 2 + x / 4) * 64 + (y % 4 * 16 + x % 4 * 2) + 1)
  have h8 := hg ((y / 4 * 2 + x / 4) * 64 + (y % 4 * 16 + x % 4 * 2) + 8)
  have h9 := hg ((y / 4 * 2 + x / 4) * 64 + (y % 4 * 16 + x % 4 * 2) + 9)
  simp only [Nat.add_assoc] at *
  omega

/-- What holds at the heads of the law's two other loops. -/
structure LT (w wr : World) (g : Nat → Int) (B : Nat) : Prop where
  kept : Kept (fun _ => True) w wr
  src : wr.rowIs w.heap.size 26 256 (ints .i32 g)
  got : wr.rowIs B 25 64 (ints .i32 (scaled g))
  size : B < wr.heap.size

set_option maxHeartbeats 1000000 in
set_option maxRecDepth 100000 in
theorem scale_law (b off cap : Nat) (g : Nat → Int) (w : World) (hg : ∀ j, 0 ≤ g j ∧ g j ≤ 255) (hc : ∀ i, i < 256 → w.cell? ⟨b, off + i, none⟩ = some (.int .u8 (g i))) :
    Calls Try.prog 4 #[.slice (some ⟨b, off, none⟩) 256 cap] w fun e w' => e = .returned (.bool true) ∧ Kept (fun _ => True) w w' := by
  have hz26 := (zero_of_info info26).1
  have HC := Lib.hid hc
  have HG := Lib.hid hg
  clear hc hg
  go_enter Try.func4, Try.ntmps4
  go_wp2_with fail
  go_loopg [20] 256 (fun k si wr => ∃ i : Nat, i ≤ 256 ∧ k = 256 - i ∧ si = .int .i64 i ∧ LS w wr g i)
  case atStart => exact ⟨0, by omega, rfl, rfl, LS.start w g⟩
  case round =>
    obtain ⟨i, hi, rfl, rfl, hl⟩ := hrel
    clear hz26
    by_cases hi4 : i < 256
    · have h0 : (0 : Int) ≤ (i : Int) / 64 := by omega
      have h1 : (i : Int) / 64 < 4 := by omega
      have h2 : (i : Int) % 64 < 64 := by omega
      have c0 : wr.cell? ⟨b, off + i, none⟩ = some (.int .u8 (g i)) := hl.kept.cellOf (HC.out i hi4) trivial
      have c1 : wr.cell? ⟨w.heap.size, i / 64 * 64 + i % 64, none⟩ = some (.int .i32 0) := by
        rw [show i / 64 * 64 + i % 64 = i by omega, hl.src.cell (by omega)]; simp [ints]
      have c2 : wr.frozen? ⟨w.heap.size, i / 64 * 64 + i % 64, none⟩ = false := hl.src.frozen _
      obtain ⟨g0, g1⟩ := HG.out i
      go_wp2
      go_roundg (256 - (i + 1))
      case measure => go_light; omega
      case rel =>
        go_light
        exact ⟨i + 1, by omega, rfl, by go_num, hl.step (by omega) rfl⟩
    · obtain rfl : i = 256 := by omega
      have hsrc : wr.rowIs w.heap.size 26 256 (ints .i32 g) := hl.src.congr fun j hj => by simp only [ints]; rw [if_pos hj]
      have hk := hl.kept
      have hsz := hl.size
      have HL := Lib.hid hsz
      clear hl hsz
      go_wp2_with (((with_reducible refine wpList_load_all (w := wr) (op := ⟨some 34, .load 26 (.tmp 3), _, _, _, _⟩) ?_ 26 (.tmp 3) ?_ w.heap.size 256 ?_ hsrc ?_ Try.underlying26 ?_ ?_ ?_); (· rfl); (· rfl); (· rfl); (· omega); (· rfl); (· exact size26)))
      refine (impl_scale_any g _ HG.out).mono ?_
      rintro e w1 ⟨rfl, hk1⟩
      have hsrc1 := hk1.row hsrc trivial
      have hk2 := hk.trans hk1
      have hnew := rowIs_lit64 w1 25
      obtain ⟨B, hB⟩ : ∃ B, B = w1.heap.size := ⟨_, rfl⟩
      have hsz : w.heap.size < w1.heap.size := by have := hk1.size; have := HL.out; omega
      clear hk hk1 hsrc
      go_wp2_with (((with_reducible refine wpList_store_new (op := ⟨none, .store 25 (.tmp 6) (.tmp 35), _, _, _, _⟩) ?_ 25 (.tmp 6) (.tmp 35) ?_ w1.heap.size 64 (g := ints .i32 (scaled g)) ?_ ?_ hnew ?_ ?_ ?_); (· rfl); (· rfl); (· rfl); (· rfl); (· exact size25); (· exact fun _ => rfl); (intro w2 hk3 hs3 hr3)))
      have hLT : LT w w2 g w1.heap.size := ⟨(hk2.alloc _).trans' hk3 (fun i hi _ => by omega), hk3.row (hsrc1.alloc _) (by omega), hr3, by rw [hs3.out]; simp⟩
      clear hk3 hs3 hr3 hsrc1 hk2 hB hnew
      go_loopg [36] 8 (fun k sy wr => ∃ y : Nat, y ≤ 8 ∧ k = 8 - y ∧ sy = .int .i64 y ∧ LT w wr g w1.heap.size)
      case atStart => exact ⟨0, by omega, rfl, rfl, hLT⟩
      case round =>
        obtain ⟨y, hy, rfl, rfl, hl⟩ := hrel
        clear hLT
        by_cases hy8 : y < 8
        · have hyd : decide ((y : Int) < 8) = true := by simp; omega
          go_wp2
          go_loopg [39] 8 (fun k sx wr => ∃ x : Nat, x ≤ 8 ∧ k = 8 - x ∧ sx = .int .i64 x ∧ LT w wr g w1.heap.size)
          case atStart => exact ⟨0, by omega, rfl, rfl, hl⟩
          case round =>
            obtain ⟨x, hx, rfl, rfl, hl⟩ := hrel
            by_cases hx8 : x < 8
            · have q0 : (0 : Int) ≤ (y : Int) / 4 * 2 + (x : Int) / 4 := by omega
              have q1 : (y : Int) / 4 * 2 + (x : Int) / 4 < 4 := by omega
              have hsrc := hl.src
              have hnew := rowIs_lit64 wr 25
              have hk := hl.kept
              have hgot := hl.got
              have hlt := hl.size
              clear hl
              go_wp2_with (first | ((with_reducible refine wpList_load_rowIs (w := wr) (op := ⟨some 49, .load 25 (.tmp 48), _, _, _, _⟩) ?_ 25 (.tmp 48) ?_ w.heap.size ((y / 4 * 2 + x / 4) * 64) 64 ?_ hsrc ?_ Try.underlying25 ?_ ?_ ?_); (· rfl); (· rfl); (· rfl); (· omega); (· rfl); (· exact size25)) | ((with_reducible refine wpList_store_new (op := ⟨none, .store 25 (.tmp 9) (.tmp 49), _, _, _, _⟩) ?_ 25 (.tmp 9) (.tmp 49) ?_ wr.heap.size 64 (g := fun j => ints .i32 g ((y / 4 * 2 + x / 4) * 64 + j)) ?_ ?_ hnew ?_ ?_ ?_); (· rfl); (· rfl); (· rfl); (· rfl); (· exact size25); (· exact fun _ => rfl); (intro w3 hk3 hs3 hr3)))
              obtain ⟨s, s0, s1, s8, s9, e0, e1, e8, e9, es, b0, b1, b8, b9, bs⟩ := scaled_near g HG.out (y := y) hx8
              have hgot3 := hk3.row (hgot.alloc _) (by omega)
              have hlt3 : w1.heap.size < w3.heap.size := by rw [hs3.out]; simp; omega
              have a0 : (0 : Int) ≤ (y : Int) % 4 * 16 + (x : Int) % 4 * 2 := by omega
              have a1 : (y : Int) % 4 * 16 + (x : Int) % 4 * 2 + 9 < 64 := by omega
              have a2 : (8 : Int) * y + x < 64 := by omega
              have c0 : w3.cell? ⟨w1.heap.size, 8 * y + x, none⟩ = some (.int .i32 s) := by rw [hgot3.cell (by omega)]; simp only [ints, es]
              have c1 : w3.cell? ⟨wr.heap.size, y % 4 * 16 + x % 4 * 2, none⟩ = some (.int .i32 s0) := by rw [hr3.cell (by omega)]; simp only [ints, e0]
              have c2 : w3.cell? ⟨wr.heap.size, y % 4 * 16 + x % 4 * 2 + 1, none⟩ = some (.int .i32 s1) := by rw [hr3.cell (by omega)]; simp only [ints, e1]
              have c3 : w3.cell? ⟨wr.heap.size, y % 4 * 16 + x % 4 * 2 + 8, none⟩ = some (.int .i32 s8) := by rw [hr3.cell (by omega)]; simp only [ints, e8]
              have c4 : w3.cell? ⟨wr.heap.size, y % 4 * 16 + x % 4 * 2 + 9, none⟩ = some (.int .i32 s9) := by rw [hr3.cell (by omega)]; simp only [ints, e9]
              have hLT : LT w w3 g w1.heap.size := ⟨(hk.alloc _).trans' hk3 (fun i hi _ => by have := hk.size; omega), hk3.row (hsrc.alloc _) (by have := hsrc.lt; omega), hgot3, hlt3⟩
              clear hgot3 hlt3 hgot hr3 hs3 hk3 hk hnew hsrc e0 e1 e8 e9 es
              go_quiet (fail)
              go_wp2
              go_roundg (8 - (x + 1))
              case measure => go_light; omega
              case rel =>
                go_light
                exact ⟨x + 1, by omega, rfl, by go_num, ⟨hLT.kept.drewN _, hLT.src, hLT.got, hLT.size⟩⟩
            · go_wp2
              go_roundg (8 - (y + 1))
              case measure => go_light; omega
              case rel =>
                go_light
                exact ⟨y + 1, by omega, rfl, by go_num, hl⟩
        · go_wp2
          go_ret
          exact ⟨rfl, hl.kept⟩
end Go.Proofs.Ytpmbbampkedecaa
