/- Contracts of the functions of package spec: the sums. -/
import Derived.Test.YtcblegbjhiameaaDoorSpecWalk
import Derived.BigRegion
namespace Go.Proofs.YtcblegbjhiameaaDoor
open Go.Deep Go.RowKit
/-- Four rows that a call has made: its result, not yet laid, and three others. -/
structure Four (w wr : World) (f1 f2 f3 : Nat → Int) : Prop where
  kept : Kept (fun _ => True) w wr
  r0 : wr.rowIs w.heap.size 24 64 (ints .i64 fun _ => 0)
  r1 : wr.rowIs (w.heap.size + 1) 24 64 (ints .i64 f1)
  r2 : wr.rowIs (w.heap.size + 2) 24 64 (ints .i64 f2)
  r3 : wr.rowIs (w.heap.size + 3) 24 64 (ints .i64 f3)
namespace Four
variable {w wr : World} {f1 f2 f3 g : Nat → Int} {p : Nat} {x : Int}
theorem drew (h : Four w wr f1 f2 f3) : Four w wr.drew f1 f2 f3 := ⟨h.kept.drew, h.r0.drew, h.r1.drew, h.r2.drew, h.r3.drew⟩
theorem set1 (h : Four w wr f1 f2 f3) (e : ∀ j, j < 64 → (if j = p then Value.int .i64 x else ints .i64 f1 j) = ints .i64 g j) : Four w (wr.setCell ⟨w.heap.size + 1, p, none⟩ (.int .i64 x)) g f2 f3 :=
  ⟨h.kept.setCell (fun h => absurd h (by show ¬ (w.heap.size + 1 < w.heap.size); omega)) _, h.r0.setOther (by simp) _, (h.r1.set _ _).congr e, h.r2.setOther (by simp) _, h.r3.setOther (by simp) _⟩
theorem set2 (h : Four w wr f1 f2 f3) (e : ∀ j, j < 64 → (if j = p then Value.int .i64 x else ints .i64 f2 j) = ints .i64 g j) : Four w (wr.setCell ⟨w.heap.size + 2, p, none⟩ (.int .i64 x)) f1 g f3 :=
  ⟨h.kept.setCell (fun h => absurd h (by show ¬ (w.heap.size + 2 < w.heap.size); omega)) _, h.r0.setOther (by simp) _, h.r1.setOther (by simp) _, (h.r2.set _ _).congr e, h.r3.setOther (by simp) _⟩
theorem set3 (h : Four w wr f1 f2 f3) (e : ∀ j, j < 64 → (if j = p then Value.int .i64 x else ints .i64 f3 j) = ints .i64 g j) : Four w (wr.setCell ⟨w.heap.size + 3, p, none⟩ (.int .i64 x)) f1 f2 g :=
  ⟨h.kept.setCell (fun h => absurd h (by show ¬ (w.heap.size + 3 < w.heap.size); omega)) _, h.r0.setOther (by simp) _, h.r1.setOther (by simp) _, h.r2.setOther (by simp) _, (h.r3.set _ _).congr e⟩
end Four
abbrev lit64i : Array Value := #[Value.int .i64 0, Value.int .i64 0, Value.int .i64 0, Value.int .i64 0, Value.int .i64 0, Value.int .i64 0, Value.int .i64 0, Value.int .i64 0, Value.int .i64 0, Value.int .i64 0, Value.int .i64 0, Value.int .i64 0, Value.int .i64 0, Value.int .i64 0, Value.int .i64 0, Value.int .i64 0, Value.int .i64 0, Value.int .i64 0, Value.int .i64 0, Value.int .i64 0, Value.int .i64 0, Value.int .i64 0, Value.int .i64 0, Value.int .i64 0, Value.int .i64 0, Value.int .i64 0, Value.int .i64 0, Value.int .i64 0, Value.int .i64 0, Value.int .i64 0, Value.int .i64 0, Value.int .i64 0, Value.int .i64 0, Value.int .i64 0, Value.int .i64 0, Value.int .i64 0, Value.int .i64 0, Value.int .i64 0, Value.int .i64 0, Value.int .i64 0, Value.int .i64 0, Value.int .i64 0, Value.int .i64 0, Value.int .i64 0, Value.int .i64 0, Value.int .i64 0, Value.int .i64 0, Value.int .i64 0, Value.int .i64 0, Value.int .i64 0, Value.int .i64 0, Value.int .i64 0, Value.int .i64 0, Value.int .i64 0, Value.int .i64 0, Value.int .i64 0, Value.int .i64 0, Value.int .i64 0, Value.int .i64 0, Value.int .i64 0, Value.int .i64 0, Value.int .i64 0, Value.int .i64 0, Value.int .i64 0]
theorem four_new (w : World) : Four w ((((w.alloc (.cells lit64i 24)).alloc (.cells lit64i 24)).alloc (.cells lit64i 24)).alloc (.cells lit64i 24)) (fun _ => 0) (fun _ => 0) (fun _ => 0) := by
  have a0 := rowIs_lit64i w 24
  have a1 := rowIs_lit64i (w.alloc (.cells lit64i 24)) 24
  have a2 := rowIs_lit64i ((w.alloc (.cells lit64i 24)).alloc (.cells lit64i 24)) 24
  have a3 := rowIs_lit64i (((w.alloc (.cells lit64i 24)).alloc (.cells lit64i 24)).alloc (.cells lit64i 24)) 24
  simp only [World.size_alloc] at a0 a1 a2 a3
  exact ⟨((((Kept.refl _ w).alloc _).alloc _).alloc _).alloc _, ((a0.alloc _).alloc _).alloc _, (a1.alloc _).alloc _, a2.alloc _, a3⟩

set_option maxHeartbeats 1000000 in
set_option maxRecDepth 100000 in
theorem smp_any (z : Nat → Nat) (bs : Nat → Int) (f g : Nat → Int) (bf bg TF TG : Nat) (w : World) (L : Laid z bs w) (hf : w.rowIs bf TF 64 (ints .i64 f)) (hg : w.rowIs bg TG 64 (ints .i64 g)) :
    Calls Tryd.prog 24 #[.pointer (some ⟨bf, 0, none⟩), .pointer (some ⟨bg, 0, none⟩)] w fun e w' => e = .returned (.agg (agg 64 (ints .i64 (smp z bs f g)))) ∧ Kept (fun _ => True) w w' := by
  have HK := fun o1 o2 o3 o4 => ((((Kept.refl (fun _ => True) w).alloc o1).alloc o2).alloc o3).alloc o4
  have HL := fun o1 o2 o3 o4 => (L.kept (HK o1 o2 o3 o4)).zig
  have HR := four_new w
  go_enter Tryd.func24, Tryd.ntmps24
  go_wp2_with (((with_reducible refine wpList_load_cells (op := ⟨some 16, .load 24 (.global 0), _, _, _, _⟩) ?_ 24 (.global 0) ?_ 0 64 (f := ints .i64 fun k => (z k : Int)) ?_ ?_ Tryd.underlying24 ?_ ?_ ?_); (· rfl); (· rfl); (· rfl); (· exact HL _ _ _ _); (· rfl); (· exact sizeU)))
  clear HK HL
  generalize hG : agg 64 (ints .i64 fun k => ((z k : Nat) : Int)) = G
  have HG := Lib.hid hG
  clear hG
  go_loopg [17] 64 (fun k s wr => ∃ i : Nat, i ≤ 64 ∧ k = 64 - i ∧ s = .int .i64 i ∧ Four w wr (fill z (fun k => wrap64 (f k * g k)) i) (fun _ => 0) (fun _ => 0))
  case atStart => exact ⟨0, by omega, rfl, rfl, HR⟩
  case round =>
    clear HR
    obtain ⟨i, hi, rfl, rfl, hR⟩ := hrel
    by_cases hlt : i < 64
    · have hidx : ∀ wx, (Instr.index 24 (.agg G) (.int .i64 (i : Int))).run Tryd.prog wx = .ok (.int .i64 (z i : Int)) wx := fun wx => by
        rw [← show _ = G from HG.out]
        exact run_index_one (P := Tryd.prog) Tryd.underlying24 Tryd.underlying3 rfl sizeI (ints .i64 fun k => ((z k : Nat) : Int)) i hlt wx
      have hp64 := L.lt i hlt
      obtain ⟨p, hp⟩ : ∃ p, z i = p := ⟨_, rfl⟩
      rw [hp] at hidx hp64
      obtain ⟨x, hx⟩ : ∃ x, f i = x := ⟨_, rfl⟩
      obtain ⟨y, hy⟩ : ∃ y, g i = y := ⟨_, rfl⟩
      obtain ⟨o, ho⟩ : ∃ o, fill z (fun k => wrap64 (f k * g k)) i p = o := ⟨_, rfl⟩
      have d0 : wr.cell? ⟨bf, i, none⟩ = some (.int .i64 x) := by rw [← hx]; exact (hR.kept.row hf trivial).cell (by omega)
      have d1 : wr.cell? ⟨bg, i, none⟩ = some (.int .i64 y) := by rw [← hy]; exact (hR.kept.row hg trivial).cell (by omega)
      have d2 : wr.cell? ⟨w.heap.size + 1, p, none⟩ = some (.int .i64 o) := by rw [← ho]; exact hR.r1.cell (by omega)
      have d3 : wr.frozen? ⟨w.heap.size + 1, p, none⟩ = false := hR.r1.frozen _
      have HS := Lib.hid (hR.set1 fun j _ => fill_step z (fun k => wrap64 (f k * g k)) i j (x := wrap64 (x * y)) hp (by simp only [hx, hy]))
      clear hx hy ho hp
      go_wp2_with fail
      go_region
      all_goals
        go_wp2
        go_roundg (64 - (i + 1))
        case measure => go_light; omega
        case rel =>
          go_light
          exact ⟨i + 1, by omega, rfl, by go_num, HS.out.drew⟩
    · have ei : i = 64 := by omega
      subst ei
      clear HG
      have hR0 : Four w wr (smpS z f g) (sums 0 (smpA bs) (smpB (smpS z f g)) 64 0) (fun _ => 0) := ⟨hR.kept, hR.r0, hR.r1, hR.r2.congr fun j _ => by simp only [ints, sums_none], hR.r3⟩
      clear hR
      generalize hS : smpS z f g = S at hR0
      go_wp2
      go_loopg [35] 8 (fun k s wr => ∃ a : Nat, a ≤ 8 ∧ k = 8 - a ∧ s = .int .i64 a ∧ Four w wr (S) (sums 0 (smpA bs) (smpB S) (64) (8 * (8 * a))) (fun _ => 0))
      case atStart => exact ⟨0, by omega, rfl, rfl, hR0⟩
      case round =>
        clear hR0
        obtain ⟨a, ha, rfl, rfl, hR⟩ := hrel
        by_cases ha8 : a < 8
        · go_wp2
          go_loopg [38] 8 (fun k s wr => ∃ b : Nat, b ≤ 8 ∧ k = 8 - b ∧ s = .int .i64 b ∧ Four w wr (S) (sums 0 (smpA bs) (smpB S) (64) (8 * (8 * a + b))) (fun _ => 0))
          case atStart => exact ⟨0, by omega, rfl, rfl, hR⟩
          case round =>
            clear hR
            obtain ⟨b, hb, rfl, rfl, hR⟩ := hrel
            by_cases hb8 : b < 8
            · go_wp2
              go_loopg [41] 8 (fun k s wr => ∃ c : Nat, c ≤ 8 ∧ k = 8 - c ∧ s = .int .i64 c ∧ Four w wr (S) (sums 0 (smpA bs) (smpB S) (64) (8 * (8 * a + b) + c)) (fun _ => 0))
              case atStart => exact ⟨0, by omega, rfl, rfl, hR⟩
              case round =>
                clear hR
                obtain ⟨c, hc, rfl, rfl, hR⟩ := hrel
                by_cases hc8 : c < 8
                · obtain ⟨p, hp⟩ : ∃ p, bs (b * 8 + c) = p := ⟨_, rfl⟩
                  obtain ⟨q, hq⟩ : ∃ q, S (8 * a + c) = q := ⟨_, rfl⟩
                  obtain ⟨o, ho⟩ : ∃ o, sums 0 (smpA bs) (smpB S) (64) (8 * (8 * a + b) + c) (8 * a + b) = o := ⟨_, rfl⟩
                  have d0 : wr.cell? ⟨1, b * 8 + c, none⟩ = some (.int .i64 p) := by rw [← hp]; exact (L.kept hR.kept).bas _ (by omega)
                  have d1 : wr.cell? ⟨w.heap.size + 1, 8 * a + c, none⟩ = some (.int .i64 q) := by rw [← hq]; exact hR.r1.cell (by omega)
                  have d2 : wr.cell? ⟨w.heap.size + 2, 8 * a + b, none⟩ = some (.int .i64 o) := by rw [← ho]; exact hR.r2.cell (by omega)
                  have d3 : wr.frozen? ⟨w.heap.size + 2, 8 * a + b, none⟩ = false := hR.r2.frozen _
                  have hA : (smpA bs) (8 * a + b) c = p := by rw [← hp]; simp only [smpA]; congr 1; omega
                  have hB : (smpB S) (8 * a + b) c = q := by rw [← hq]; simp only [smpB]; rw [show 8 * ((8 * a + b) / 8) + c = 8 * a + c by omega]
                  have HS := Lib.hid (hR.set2 fun j _ => sums_step 0 (smpA bs) (smpB S) j (by omega) hc8 rfl ho hA hB)
                  clear hp hq ho hA hB
                  go_wp2_with fail
                  go_region
                  all_goals
                    go_wp2
                    go_roundg (8 - (c + 1))
                    case measure => go_light; omega
                    case rel =>
                      go_light
                      exact ⟨c + 1, by omega, rfl, by go_num, HS.out.drew⟩
                · have ec : c = 8 := by omega
                  subst ec
                  go_wp2
                  go_roundg (8 - (b + 1))
                  case measure => go_light; omega
                  case rel =>
                    go_light
                    exact ⟨b + 1, by omega, rfl, by go_num, by rw [show 8 * (8 * a + (b + 1)) = 8 * (8 * a + b) + 8 by omega]; exact hR⟩
            · have eb : b = 8 := by omega
              subst eb
              go_wp2
              go_roundg (8 - (a + 1))
              case measure => go_light; omega
              case rel =>
                go_light
                exact ⟨a + 1, by omega, rfl, by go_num, by rw [show 8 * (8 * (a + 1)) = 8 * (8 * a + 8) by omega]; exact hR⟩
        · have ea : a = 8 := by omega
          subst ea
          have hR0 : Four w wr S (smpH bs S) (sums 140737488355328 (smpC bs) (smpD (smpH bs S)) (8 * 0) (8 * (8 * 0))) := ⟨hR.kept, hR.r0, hR.r1, hR.r2.congr fun j hj => by simp only [ints]; rw [sums_end _ _ _ j hj]; rfl, hR.r3.congr fun j _ => by simp only [ints, Nat.mul_zero, sums_none0]⟩
          clear hR
          generalize hH : smpH bs S = H at hR0
          go_wp2
          go_loopg [67] 8 (fun k s wr => ∃ a : Nat, a ≤ 8 ∧ k = 8 - a ∧ s = .int .i64 a ∧ Four w wr (S) (H) (sums 140737488355328 (smpC bs) (smpD H) (8 * a) (8 * (8 * a))))
          case atStart => exact ⟨0, by omega, rfl, rfl, hR0⟩
          case round =>
            clear hR0
            obtain ⟨a, ha, rfl, rfl, hR⟩ := hrel
            by_cases ha8 : a < 8
            · go_wp2
              go_loopg [70] 8 (fun k s wr => ∃ b : Nat, b ≤ 8 ∧ k = 8 - b ∧ s = .int .i64 b ∧ Four w wr (S) (H) (sums 140737488355328 (smpC bs) (smpD H) (8 * a + b) (8 * (8 * a + b))))
              case atStart => exact ⟨0, by omega, rfl, rfl, hR⟩
              case round =>
                clear hR
                obtain ⟨b, hb, rfl, rfl, hR⟩ := hrel
                by_cases hb8 : b < 8
                · obtain ⟨y, hy⟩ : ∃ y, sums 140737488355328 (smpC bs) (smpD H) (8 * a + b) (8 * (8 * a + b)) (8 * a + b) = y := ⟨_, rfl⟩
                  have d2 : wr.cell? ⟨w.heap.size + 3, 8 * a + b, none⟩ = some (.int .i64 y) := by rw [← hy]; exact hR.r3.cell (by omega)
                  have d3 : wr.frozen? ⟨w.heap.size + 3, 8 * a + b, none⟩ = false := hR.r3.frozen _
                  clear hy
                  have hR2 := hR.set3 fun j _ => sums_begin 140737488355328 (smpC bs) (smpD H) (8 * a + b) j (n := 8 * (8 * a + b)) rfl
                  go_wp2
                  clear hR d2 d3
                  go_loopg [78] 8 (fun k s wr => ∃ c : Nat, c ≤ 8 ∧ k = 8 - c ∧ s = .int .i64 c ∧ Four w wr (S) (H) (sums 140737488355328 (smpC bs) (smpD H) (8 * a + b + 1) (8 * (8 * a + b) + c)))
                  case atStart => exact ⟨0, by omega, rfl, rfl, hR2⟩
                  case round =>
                    clear hR2
                    obtain ⟨c, hc, rfl, rfl, hR⟩ := hrel
                    by_cases hc8 : c < 8
                    · obtain ⟨p, hp⟩ : ∃ p, bs (a * 8 + c) = p := ⟨_, rfl⟩
                      obtain ⟨q, hq⟩ : ∃ q, H (8 * c + b) = q := ⟨_, rfl⟩
                      obtain ⟨o, ho⟩ : ∃ o, sums 140737488355328 (smpC bs) (smpD H) (8 * a + b + 1) (8 * (8 * a + b) + c) (8 * a + b) = o := ⟨_, rfl⟩
                      have d0 : wr.cell? ⟨1, a * 8 + c, none⟩ = some (.int .i64 p) := by rw [← hp]; exact (L.kept hR.kept).bas _ (by omega)
                      have d1 : wr.cell? ⟨w.heap.size + 2, 8 * c + b, none⟩ = some (.int .i64 q) := by rw [← hq]; exact hR.r2.cell (by omega)
                      have d2 : wr.cell? ⟨w.heap.size + 3, 8 * a + b, none⟩ = some (.int .i64 o) := by rw [← ho]; exact hR.r3.cell (by omega)
                      have d3 : wr.frozen? ⟨w.heap.size + 3, 8 * a + b, none⟩ = false := hR.r3.frozen _
                      have hA : (smpC bs) (8 * a + b) c = p := by rw [← hp]; simp only [smpC]; congr 1; omega
                      have hB : (smpD H) (8 * a + b) c = q := by rw [← hq]; simp only [smpD]; rw [show 8 * c + (8 * a + b) % 8 = 8 * c + b by omega]
                      have HS := Lib.hid (hR.set3 fun j _ => sums_step 140737488355328 (smpC bs) (smpD H) j (by omega) hc8 rfl ho hA hB)
                      clear hp hq ho hA hB
                      go_wp2_with fail
                      go_region
                      all_goals
                        go_wp2
                        go_roundg (8 - (c + 1))
                        case measure => go_light; omega
                        case rel =>
                          go_light
                          exact ⟨c + 1, by omega, rfl, by go_num, HS.out.drew⟩
                    · have ec : c = 8 := by omega
                      subst ec
                      go_wp2
                      go_roundg (8 - (b + 1))
                      case measure => go_light; omega
                      case rel =>
                        go_light
                        exact ⟨b + 1, by omega, rfl, by go_num, by rw [show 8 * (8 * a + (b + 1)) = 8 * (8 * a + b) + 8 by omega]; exact hR⟩
                · have eb : b = 8 := by omega
                  subst eb
                  go_wp2
                  go_roundg (8 - (a + 1))
                  case measure => go_light; omega
                  case rel =>
                    go_light
                    exact ⟨a + 1, by omega, rfl, by go_num, by rw [show 8 * (a + 1) = 8 * a + 8 by omega]; exact hR⟩
            · have ea : a = 8 := by omega
              subst ea
              go_wp2_with (first | ((with_reducible refine wpList_load_all (op := ⟨some 104, .load 24 (.tmp 7), _, _, _, _⟩) ?_ 24 (.tmp 7) ?_ (w.heap.size + 3) 64 ?_ hR.r3 ?_ Tryd.underlying24 ?_ ?_ ?_); (· rfl); (· rfl); (· rfl); (· omega); (· rfl); (· exact sizeU)) | ((with_reducible refine wpList_store_new (op := ⟨none, .store 24 (.tmp 4) (.tmp 104), _, _, _, _⟩) ?_ 24 (.tmp 4) (.tmp 104) ?_ w.heap.size 64 (g := ints .i64 (sums 140737488355328 (smpC bs) (smpD H) (8 * 8) (8 * (8 * 8)))) ?_ ?_ hR.r0 ?_ ?_ ?_); (· rfl); (· rfl); (· rfl); (· rfl); (· exact sizeU); (· exact fun _ => rfl); (intro w4 k6 s6 r6)))
              exact bodyPost_ret (v := .agg (agg 64 (ints .i64 (sums 140737488355328 (smpC bs) (smpD H) (8 * 8) (8 * (8 * 8)))))) (results_rowIs Tryd.results24 r6 rfl Tryd.underlying24 rfl sizeU) rfl ⟨by rw [agg_congr (g := ints .i64 (smpO bs H)) fun j hj => by simp only [ints]; rw [sums_end _ _ _ j hj]; rfl, ← hH, ← hS]; rfl, hR.kept.trans' k6 fun i hi _ => by omega⟩

set_option maxHeartbeats 1000000 in
set_option maxRecDepth 100000 in
theorem cof_any (z : Nat → Nat) (bs : Nat → Int) (f : Nat → Int) (bf TF : Nat) (w : World) (L : Laid z bs w) (hf : w.rowIs bf TF 64 (ints .i64 f)) :
    Calls Tryd.prog 21 #[.pointer (some ⟨bf, 0, none⟩)] w fun e w' => e = .returned (.agg (agg 64 (ints .i64 (cof z bs f)))) ∧ Kept (fun _ => True) w w' := by
  have HR := four_new w
  have hR0 : Four w ((((w.alloc (.cells lit64i 24)).alloc (.cells lit64i 24)).alloc (.cells lit64i 24)).alloc (.cells lit64i 24)) (sums 0 (cofA bs) (cofB f) 64 (8 * (8 * 0))) (fun _ => 0) (fun _ => 0) := ⟨HR.kept, HR.r0, HR.r1.congr fun j _ => by simp only [ints, Nat.mul_zero, sums_none], HR.r2, HR.r3⟩
  clear HR
  go_enter Tryd.func21, Tryd.ntmps21
  go_wp2
  go_loopg [14] 8 (fun k s wr => ∃ a : Nat, a ≤ 8 ∧ k = 8 - a ∧ s = .int .i64 a ∧ Four w wr (sums 0 (cofA bs) (cofB f) (64) (8 * (8 * a))) (fun _ => 0) (fun _ => 0))
  case atStart => exact ⟨0, by omega, rfl, rfl, hR0⟩
  case round =>
    clear hR0
    obtain ⟨a, ha, rfl, rfl, hR⟩ := hrel
    by_cases ha8 : a < 8
    · go_wp2
      go_loopg [17] 8 (fun k s wr => ∃ b : Nat, b ≤ 8 ∧ k = 8 - b ∧ s = .int .i64 b ∧ Four w wr (sums 0 (cofA bs) (cofB f) (64) (8 * (8 * a + b))) (fun _ => 0) (fun _ => 0))
      case atStart => exact ⟨0, by omega, rfl, rfl, hR⟩
      case round =>
        clear hR
        obtain ⟨b, hb, rfl, rfl, hR⟩ := hrel
        by_cases hb8 : b < 8
        · go_wp2
          go_loopg [20] 8 (fun k s wr => ∃ c : Nat, c ≤ 8 ∧ k = 8 - c ∧ s = .int .i64 c ∧ Four w wr (sums 0 (cofA bs) (cofB f) (64) (8 * (8 * a + b) + c)) (fun _ => 0) (fun _ => 0))
          case atStart => exact ⟨0, by omega, rfl, rfl, hR⟩
          case round =>
            clear hR
            obtain ⟨c, hc, rfl, rfl, hR⟩ := hrel
            by_cases hc8 : c < 8
            · obtain ⟨p, hp⟩ : ∃ p, bs (c * 8 + b) = p := ⟨_, rfl⟩
              obtain ⟨q, hq⟩ : ∃ q, f (8 * a + c) = q := ⟨_, rfl⟩
              obtain ⟨o, ho⟩ : ∃ o, sums 0 (cofA bs) (cofB f) (64) (8 * (8 * a + b) + c) (8 * a + b) = o := ⟨_, rfl⟩
              have d0 : wr.cell? ⟨1, c * 8 + b, none⟩ = some (.int .i64 p) := by rw [← hp]; exact (L.kept hR.kept).bas _ (by omega)
              have d1 : wr.cell? ⟨bf, 8 * a + c, none⟩ = some (.int .i64 q) := by rw [← hq]; exact (hR.kept.row hf trivial).cell (by omega)
              have d2 : wr.cell? ⟨w.heap.size + 1, 8 * a + b, none⟩ = some (.int .i64 o) := by rw [← ho]; exact hR.r1.cell (by omega)
              have d3 : wr.frozen? ⟨w.heap.size + 1, 8 * a + b, none⟩ = false := hR.r1.frozen _
              have hA : (cofA bs) (8 * a + b) c = p := by rw [← hp]; simp only [cofA]; congr 1; omega
              have hB : (cofB f) (8 * a + b) c = wrap64 (q - 128) := by rw [← hq]; simp only [cofB]; rw [show 8 * ((8 * a + b) / 8) + c = 8 * a + c by omega]
              have HS := Lib.hid (hR.set1 fun j _ => sums_step 0 (cofA bs) (cofB f) j (by omega) hc8 rfl ho hA hB)
              clear hp hq ho hA hB
              go_wp2_with fail
              go_region
              all_goals
                go_wp2
                go_roundg (8 - (c + 1))
                case measure => go_light; omega
                case rel =>
                  go_light
                  exact ⟨c + 1, by omega, rfl, by go_num, HS.out.drew⟩
            · have ec : c = 8 := by omega
              subst ec
              go_wp2
              go_roundg (8 - (b + 1))
              case measure => go_light; omega
              case rel =>
                go_light
                exact ⟨b + 1, by omega, rfl, by go_num, by rw [show 8 * (8 * a + (b + 1)) = 8 * (8 * a + b) + 8 by omega]; exact hR⟩
        · have eb : b = 8 := by omega
          subst eb
          go_wp2
          go_roundg (8 - (a + 1))
          case measure => go_light; omega
          case rel =>
            go_light
            exact ⟨a + 1, by omega, rfl, by go_num, by rw [show 8 * (8 * (a + 1)) = 8 * (8 * a + 8) by omega]; exact hR⟩
    · have ea : a = 8 := by omega
      subst ea
      have hR0 : Four w wr (cofH bs f) (sums 0 (cofC bs) (cofD (cofH bs f)) 64 (8 * (8 * 0))) (fun _ => 0) := ⟨hR.kept, hR.r0, hR.r1.congr fun j hj => by simp only [ints]; rw [sums_end _ _ _ j hj]; rfl, hR.r2.congr fun j _ => by simp only [ints, Nat.mul_zero, sums_none], hR.r3⟩
      clear hR
      generalize hH : cofH bs f = H at hR0
      go_wp2
      go_loopg [49] 8 (fun k s wr => ∃ a : Nat, a ≤ 8 ∧ k = 8 - a ∧ s = .int .i64 a ∧ Four w wr (H) (sums 0 (cofC bs) (cofD H) (64) (8 * (8 * a))) (fun _ => 0))
      case atStart => exact ⟨0, by omega, rfl, rfl, hR0⟩
      case round =>
        clear hR0
        obtain ⟨a, ha, rfl, rfl, hR⟩ := hrel
        by_cases ha8 : a < 8
        · go_wp2
          go_loopg [52] 8 (fun k s wr => ∃ b : Nat, b ≤ 8 ∧ k = 8 - b ∧ s = .int .i64 b ∧ Four w wr (H) (sums 0 (cofC bs) (cofD H) (64) (8 * (8 * a + b))) (fun _ => 0))
          case atStart => exact ⟨0, by omega, rfl, rfl, hR⟩
          case round =>
            clear hR
            obtain ⟨b, hb, rfl, rfl, hR⟩ := hrel
            by_cases hb8 : b < 8
            · go_wp2
              go_loopg [55] 8 (fun k s wr => ∃ c : Nat, c ≤ 8 ∧ k = 8 - c ∧ s = .int .i64 c ∧ Four w wr (H) (sums 0 (cofC bs) (cofD H) (64) (8 * (8 * a + b) + c)) (fun _ => 0))
              case atStart => exact ⟨0, by omega, rfl, rfl, hR⟩
              case round =>
                clear hR
                obtain ⟨c, hc, rfl, rfl, hR⟩ := hrel
                by_cases hc8 : c < 8
                · obtain ⟨p, hp⟩ : ∃ p, bs (c * 8 + a) = p := ⟨_, rfl⟩
                  obtain ⟨q, hq⟩ : ∃ q, H (8 * c + b) = q := ⟨_, rfl⟩
                  obtain ⟨o, ho⟩ : ∃ o, sums 0 (cofC bs) (cofD H) (64) (8 * (8 * a + b) + c) (8 * a + b) = o := ⟨_, rfl⟩
                  have d0 : wr.cell? ⟨1, c * 8 + a, none⟩ = some (.int .i64 p) := by rw [← hp]; exact (L.kept hR.kept).bas _ (by omega)
                  have d1 : wr.cell? ⟨w.heap.size + 1, 8 * c + b, none⟩ = some (.int .i64 q) := by rw [← hq]; exact hR.r1.cell (by omega)
                  have d2 : wr.cell? ⟨w.heap.size + 2, 8 * a + b, none⟩ = some (.int .i64 o) := by rw [← ho]; exact hR.r2.cell (by omega)
                  have d3 : wr.frozen? ⟨w.heap.size + 2, 8 * a + b, none⟩ = false := hR.r2.frozen _
                  have hA : (cofC bs) (8 * a + b) c = p := by rw [← hp]; simp only [cofC]; congr 1; omega
                  have hB : (cofD H) (8 * a + b) c = q := by rw [← hq]; simp only [cofD]; rw [show 8 * c + (8 * a + b) % 8 = 8 * c + b by omega]
                  have HS := Lib.hid (hR.set2 fun j _ => sums_step 0 (cofC bs) (cofD H) j (by omega) hc8 rfl ho hA hB)
                  clear hp hq ho hA hB
                  go_wp2_with fail
                  go_region
                  all_goals
                    go_wp2
                    go_roundg (8 - (c + 1))
                    case measure => go_light; omega
                    case rel =>
                      go_light
                      exact ⟨c + 1, by omega, rfl, by go_num, HS.out.drew⟩
                · have ec : c = 8 := by omega
                  subst ec
                  go_wp2
                  go_roundg (8 - (b + 1))
                  case measure => go_light; omega
                  case rel =>
                    go_light
                    exact ⟨b + 1, by omega, rfl, by go_num, by rw [show 8 * (8 * a + (b + 1)) = 8 * (8 * a + b) + 8 by omega]; exact hR⟩
            · have eb : b = 8 := by omega
              subst eb
              go_wp2
              go_roundg (8 - (a + 1))
              case measure => go_light; omega
              case rel =>
                go_light
                exact ⟨a + 1, by omega, rfl, by go_num, by rw [show 8 * (8 * (a + 1)) = 8 * (8 * a + 8) by omega]; exact hR⟩
        · have ea : a = 8 := by omega
          subst ea
          have hR0 : Four w wr H (cofS bs H) (upto (fun k => cofS bs H (z k)) 0) := ⟨hR.kept, hR.r0, hR.r1, hR.r2.congr fun j hj => by simp only [ints]; rw [sums_end _ _ _ j hj]; rfl, hR.r3.congr fun j _ => by simp [ints, upto]⟩
          have HL := fun W (k : Kept (fun _ => True) w W) => (L.kept k).zig
          have hkk := hR.kept
          clear hR
          generalize hS : cofS bs H = S at hR0
          go_wp2_with (((with_reducible refine wpList_load_cells (op := ⟨some 81, .load 24 (.global 0), _, _, _, _⟩) ?_ 24 (.global 0) ?_ 0 64 (f := ints .i64 fun k => (z k : Int)) ?_ ?_ Tryd.underlying24 ?_ ?_ ?_); (· rfl); (· rfl); (· rfl); (· exact HL _ hkk); (· rfl); (· exact sizeU)))
          clear HL hkk
          generalize hG : agg 64 (ints .i64 fun k => ((z k : Nat) : Int)) = G
          have HG := Lib.hid hG
          clear hG
          go_loopg [82] 64 (fun k s wr => ∃ i : Nat, i ≤ 64 ∧ k = 64 - i ∧ s = .int .i64 i ∧ Four w wr H S (upto (fun k => S (z k)) i))
          case atStart => exact ⟨0, by omega, rfl, rfl, hR0⟩
          case round =>
            clear hR0
            obtain ⟨i, hi, rfl, rfl, hR⟩ := hrel
            by_cases hlt : i < 64
            · have hidx : ∀ wx, (Instr.index 24 (.agg G) (.int .i64 (i : Int))).run Tryd.prog wx = .ok (.int .i64 (z i : Int)) wx := fun wx => by
                rw [← show _ = G from HG.out]
                exact run_index_one (P := Tryd.prog) Tryd.underlying24 Tryd.underlying3 rfl sizeI (ints .i64 fun k => ((z k : Nat) : Int)) i hlt wx
              have hp64 := L.lt i hlt
              obtain ⟨p, hp⟩ : ∃ p, z i = p := ⟨_, rfl⟩
              rw [hp] at hidx hp64
              obtain ⟨x, hx⟩ : ∃ x, S p = x := ⟨_, rfl⟩
              obtain ⟨o, ho⟩ : ∃ o, upto (fun k => S (z k)) i i = o := ⟨_, rfl⟩
              have d0 : wr.cell? ⟨w.heap.size + 2, p, none⟩ = some (.int .i64 x) := by rw [← hx]; exact hR.r2.cell (by omega)
              have d2 : wr.cell? ⟨w.heap.size + 3, i, none⟩ = some (.int .i64 o) := by rw [← ho]; exact hR.r3.cell (by omega)
              have d3 : wr.frozen? ⟨w.heap.size + 3, i, none⟩ = false := hR.r3.frozen _
              have HS := Lib.hid (hR.set3 fun j _ => upto_step (fun k => S (z k)) i j (x := x) (by simp only [hp, hx]))
              clear hx ho hp
              go_wp2
              go_roundg (64 - (i + 1))
              case measure => go_light; omega
              case rel =>
                go_light
                exact ⟨i + 1, by omega, rfl, by go_num, HS.out⟩
            · have ei : i = 64 := by omega
              subst ei
              go_wp2_with (first | ((with_reducible refine wpList_load_all (op := ⟨some 92, .load 24 (.tmp 5), _, _, _, _⟩) ?_ 24 (.tmp 5) ?_ (w.heap.size + 3) 64 ?_ hR.r3 ?_ Tryd.underlying24 ?_ ?_ ?_); (· rfl); (· rfl); (· rfl); (· omega); (· rfl); (· exact sizeU)) | ((with_reducible refine wpList_store_new (op := ⟨none, .store 24 (.tmp 2) (.tmp 92), _, _, _, _⟩) ?_ 24 (.tmp 2) (.tmp 92) ?_ w.heap.size 64 (g := ints .i64 (upto (fun k => S (z k)) 64)) ?_ ?_ hR.r0 ?_ ?_ ?_); (· rfl); (· rfl); (· rfl); (· rfl); (· exact sizeU); (· exact fun _ => rfl); (intro w4 k6 s6 r6)))
              exact bodyPost_ret (v := .agg (agg 64 (ints .i64 (upto (fun k => S (z k)) 64)))) (results_rowIs Tryd.results21 r6 rfl Tryd.underlying24 rfl sizeU) rfl ⟨by rw [agg_congr (g := ints .i64 fun k => S (z k)) fun j hj => by simp only [ints, upto, if_pos hj], ← hS, ← hH]; rfl, hR.kept.trans' k6 fun i hi _ => by omega⟩
end Go.Proofs.YtcblegbjhiameaaDoor
