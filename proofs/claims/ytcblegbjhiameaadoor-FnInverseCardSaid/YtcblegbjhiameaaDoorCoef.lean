/- The contract of laws.coefficients. -/
import Derived.Test.YtcblegbjhiameaaDoorSamples
import Derived.BigRegion
namespace Go.Proofs.YtcblegbjhiameaaDoor
open Go.Deep Go.RowKit
def CoefPost (w : World) (e : Ending) (w' : World) : Prop :=
  ∃ (f : Nat → Int) (ok : Bool), e = .returned (.tuple #[.agg (agg 64 (ints .i32 f)), .agg (agg 64 (ints .i64 f)), .bool ok]) ∧ (ok = true → ∀ j, -32768 ≤ f j ∧ f j ≤ 32768) ∧ Kept (fun _ => True) w w'
theorem firstOf_in {z : List Int} {n : Nat} (h : Hid (∀ j, j < n → -32768 ≤ z.getD j 0 ∧ z.getD j 0 ≤ 32768)) (j : Nat) : -32768 ≤ firstOf z n j ∧ firstOf z n j ≤ 32768 := by
  simp only [firstOf]
  by_cases e : j < n
  · rw [if_pos e]; exact h.out j e
  · rw [if_neg e]; omega

set_option maxHeartbeats 1000000 in
set_option maxRecDepth 100000 in
theorem coef_64 (a : Option Addr) (len cap : Nat) (z : List Int) (w : World) (h : IsRow .i64 w a len cap z) (hl : len = 64) :
    Calls Tryd.prog 11 #[.slice a len cap] w (CoefPost w) := by
  have hlen := h.len_le
  subst hl
  have HH := Lib.hid h
  clear h
  unfold CoefPost
  go_enter Tryd.func11, Tryd.ntmps11
  go_wp2_with fail
  go_loopg [9] 64 (fun k si wr => ∃ i : Nat, i ≤ 64 ∧ k = 64 - i ∧ si = .int .i64 i ∧ SS w wr z i ∧ Hid (∀ j, j < i → -32768 ≤ z.getD j 0 ∧ z.getD j 0 ≤ 32768))
  case atStart =>
    refine ⟨0, by omega, rfl, rfl, ⟨((Kept.refl _ _).alloc _).alloc _, ((rowIs_lit64 w 23).alloc _).congr fun j _ => by simp [ints, firstOf], ?_⟩, Lib.hid fun j hj => by omega⟩
    have := rowIs_lit64i (w.alloc (.cells (zeros 64) 23)) 24
    rw [World.size_alloc] at this
    exact this.congr fun j _ => by simp [ints, firstOf]
  case round =>
    obtain ⟨i, hi, rfl, rfl, hs, hb0⟩ := hrel
    by_cases hlt : i < 64
    · have hi64 : i < 64 := by omega
      have hil : i < 64 := by omega
      obtain ⟨b, off, rfl, hlc, _, hc, hbw⟩ := HH.out.cells (by omega)
      obtain ⟨v, hv⟩ : ∃ v, z.getD i 0 = v := ⟨_, rfl⟩
      have hvb := HH.out.i64 i
      rw [hv] at hvb
      obtain ⟨hv0, hv1⟩ := hvb
      have c0 : wr.cell? ⟨b, off + i, none⟩ = some (.int .i64 v) := by rw [← hv]; exact hs.kept.cellOf (hc i (by omega)) trivial
      have hbn : b ≠ w.heap.size := by omega
      have hbn1 : b ≠ w.heap.size + 1 := by omega
      clear hc
      have HV := Lib.hid hv
      clear hv
      by_cases hin : v < -32768 ∨ 32768 < v
      · have hcase : (v < -32768) ∨ (¬ v < -32768 ∧ 32768 < v) := by omega
        clear hin
        rcases hcase with h1 | ⟨h1, h2⟩
        all_goals
          have hf := hs.fst
          have hsn := hs.snd
          have hk := hs.kept
          clear hs
          go_wp2_with fail
          refine wp_region_quiet_lit (by kernel_rfl) (by kernel_rfl) ?_
          refine wpQuiet_load_all rfl 23 (.tmp 2) rfl w.heap.size 64 rfl (fun W hW => by obtain ⟨n, rfl⟩ := hW; exact hf) (by omega) Tryd.underlying23 rfl sizeT ?_
          simp only [Act.put, List.setIfInBounds_toArray, List.set_cons_zero, List.set_cons_succ]
          refine wpQuiet_load_all rfl 24 (.tmp 3) rfl (w.heap.size + 1) 64 rfl (fun W hW => by obtain ⟨n, rfl⟩ := hW; exact hsn) (by omega) Tryd.underlying24 rfl sizeU ?_
          simp only [Act.put, List.setIfInBounds_toArray, List.set_cons_zero, List.set_cons_succ]
          refine wpQuiet_store_same rfl 23 (.tmp 2) (.tmp 24) rfl w.heap.size 64 rfl rfl (fun W hW => by obtain ⟨n, rfl⟩ := hW; exact hf) (by omega) sizeT (fun _ => rfl) ?_
          simp only [Act.put]
          refine wpQuiet_store_same rfl 24 (.tmp 3) (.tmp 25) rfl (w.heap.size + 1) 64 rfl rfl (fun W hW => by obtain ⟨n, rfl⟩ := hW; exact hsn) (by omega) sizeU (fun _ => rfl) ?_
          simp only [Act.put]
          go_big_quiet_step (fail)
          refine wpQuiet_nil ?_
          intro W hW
          obtain ⟨nq, rfl⟩ := hW
          go_wp2_with fail
          exact bodyPost_ret (v := .tuple #[.agg (agg 64 (ints .i32 (firstOf z i))), .agg (agg 64 (ints .i64 (firstOf z i))), .bool false]) (results_two_rows Tryd.results11 (w := wr.drewN nq) (b := w.heap.size) (b' := w.heap.size + 1) hf hsn rfl rfl rfl Tryd.underlying23 rfl sizeT Tryd.underlying24 rfl sizeU) rfl ⟨firstOf z i, false, rfl, (fun h => by cases h), hk.drewN _⟩

      · have h1 : ¬ v < -32768 := by omega
        have h2 : ¬ 32768 < v := by omega
        have h1b : -32768 ≤ v := by omega
        have h2b : v ≤ 32768 := by omega
        clear hin
        have c1 : wr.cell? ⟨w.heap.size, i, none⟩ = some (.int .i32 0) := by rw [hs.fst.cell (by omega)]; simp [ints, firstOf]
        have c2 : wr.frozen? ⟨w.heap.size, i, none⟩ = false := hs.fst.frozen _
        have c3 : wr.cell? ⟨w.heap.size + 1, i, none⟩ = some (.int .i64 0) := by rw [hs.snd.cell (by omega)]; simp [ints, firstOf]
        have c4 : wr.frozen? ⟨w.heap.size + 1, i, none⟩ = false := hs.snd.frozen _
        go_wp2_with fail
        go_region
        all_goals
          go_wp2
          go_roundg (64 - (i + 1))
          case measure => go_light; omega
          case rel =>
            go_light
            exact ⟨i + 1, by omega, rfl, by go_num, hs.step HV.out, Lib.hid fun j hj => by
              by_cases e : j = i
              · rw [e, HV.out]; exact ⟨h1b, h2b⟩
              · exact hb0.out j (by omega)⟩
    · have ei : i = 64 := by omega
      rw [ei] at hs hb0
      clear ei
      have hb0 := hb0.out
      have hb0 := Lib.hid hb0
      have hf := hs.fst
      have hsn := hs.snd
      have hk := hs.kept
      clear hs
      go_wp2_with fail
      refine wp_region_quiet_lit (by kernel_rfl) (by kernel_rfl) ?_
      refine wpQuiet_load_all rfl 23 (.tmp 2) rfl w.heap.size 64 rfl (fun W hW => by obtain ⟨n, rfl⟩ := hW; exact hf) (by omega) Tryd.underlying23 rfl sizeT ?_
      simp only [Act.put, List.setIfInBounds_toArray, List.set_cons_zero, List.set_cons_succ]
      refine wpQuiet_load_all rfl 24 (.tmp 3) rfl (w.heap.size + 1) 64 rfl (fun W hW => by obtain ⟨n, rfl⟩ := hW; exact hsn) (by omega) Tryd.underlying24 rfl sizeU ?_
      simp only [Act.put, List.setIfInBounds_toArray, List.set_cons_zero, List.set_cons_succ]
      go_big_quiet_step (fail)
      go_big_quiet_step (fail)
      go_big_quiet_step (fail)
      refine wpQuiet_store_same rfl 23 (.tmp 2) (.tmp 40) rfl w.heap.size 64 rfl rfl (fun W hW => by obtain ⟨n, rfl⟩ := hW; exact hf) (by omega) sizeT (fun _ => rfl) ?_
      simp only [Act.put]
      refine wpQuiet_store_same rfl 24 (.tmp 3) (.tmp 41) rfl (w.heap.size + 1) 64 rfl rfl (fun W hW => by obtain ⟨n, rfl⟩ := hW; exact hsn) (by omega) sizeU (fun _ => rfl) ?_
      simp only [Act.put]
      go_big_quiet_step (fail)
      refine wpQuiet_nil ?_
      intro W hW
      obtain ⟨nq, rfl⟩ := hW
      go_wp2_with fail
      exact bodyPost_ret (v := .tuple #[.agg (agg 64 (ints .i32 (firstOf z 64))), .agg (agg 64 (ints .i64 (firstOf z 64))), .bool true]) (results_two_rows Tryd.results11 (w := wr.drewN nq) (b := w.heap.size) (b' := w.heap.size + 1) hf hsn rfl rfl rfl Tryd.underlying23 rfl sizeT Tryd.underlying24 rfl sizeU) rfl ⟨firstOf z 64, true, rfl, (fun _ => firstOf_in hb0), hk.drewN _⟩

set_option maxHeartbeats 1000000 in
set_option maxRecDepth 100000 in
theorem coef_less (a : Option Addr) (len cap : Nat) (z : List Int) (w : World) (h : IsRow .i64 w a len cap z) (hl : len < 64) :
    Calls Tryd.prog 11 #[.slice a len cap] w (CoefPost w) := by
  have hlen := h.len_le
  have hne : ((len : Int) == 64) = false := by simp; omega
  have HH := Lib.hid h
  clear h
  unfold CoefPost
  go_enter Tryd.func11, Tryd.ntmps11
  go_wp2_with fail
  go_loopg [9] len (fun k si wr => ∃ i : Nat, i ≤ len ∧ k = len - i ∧ si = .int .i64 i ∧ SS w wr z i ∧ Hid (∀ j, j < i → -32768 ≤ z.getD j 0 ∧ z.getD j 0 ≤ 32768))
  case atStart =>
    refine ⟨0, by omega, rfl, rfl, ⟨((Kept.refl _ _).alloc _).alloc _, ((rowIs_lit64 w 23).alloc _).congr fun j _ => by simp [ints, firstOf], ?_⟩, Lib.hid fun j hj => by omega⟩
    have := rowIs_lit64i (w.alloc (.cells (zeros 64) 23)) 24
    rw [World.size_alloc] at this
    exact this.congr fun j _ => by simp [ints, firstOf]
  case round =>
    obtain ⟨i, hi, rfl, rfl, hs, hb0⟩ := hrel
    by_cases hlt : i < len
    · have hi64 : i < 64 := by omega
      have hil : i < len := by omega
      obtain ⟨b, off, rfl, hlc, _, hc, hbw⟩ := HH.out.cells (by omega)
      obtain ⟨v, hv⟩ : ∃ v, z.getD i 0 = v := ⟨_, rfl⟩
      have hvb := HH.out.i64 i
      rw [hv] at hvb
      obtain ⟨hv0, hv1⟩ := hvb
      have c0 : wr.cell? ⟨b, off + i, none⟩ = some (.int .i64 v) := by rw [← hv]; exact hs.kept.cellOf (hc i (by omega)) trivial
      have hbn : b ≠ w.heap.size := by omega
      have hbn1 : b ≠ w.heap.size + 1 := by omega
      clear hc
      have HV := Lib.hid hv
      clear hv
      by_cases hin : v < -32768 ∨ 32768 < v
      · have hcase : (v < -32768) ∨ (¬ v < -32768 ∧ 32768 < v) := by omega
        clear hin
        rcases hcase with h1 | ⟨h1, h2⟩
        all_goals
          have hf := hs.fst
          have hsn := hs.snd
          have hk := hs.kept
          clear hs
          go_wp2_with fail
          refine wp_region_quiet_lit (by kernel_rfl) (by kernel_rfl) ?_
          refine wpQuiet_load_all rfl 23 (.tmp 2) rfl w.heap.size 64 rfl (fun W hW => by obtain ⟨n, rfl⟩ := hW; exact hf) (by omega) Tryd.underlying23 rfl sizeT ?_
          simp only [Act.put, List.setIfInBounds_toArray, List.set_cons_zero, List.set_cons_succ]
          refine wpQuiet_load_all rfl 24 (.tmp 3) rfl (w.heap.size + 1) 64 rfl (fun W hW => by obtain ⟨n, rfl⟩ := hW; exact hsn) (by omega) Tryd.underlying24 rfl sizeU ?_
          simp only [Act.put, List.setIfInBounds_toArray, List.set_cons_zero, List.set_cons_succ]
          refine wpQuiet_store_same rfl 23 (.tmp 2) (.tmp 24) rfl w.heap.size 64 rfl rfl (fun W hW => by obtain ⟨n, rfl⟩ := hW; exact hf) (by omega) sizeT (fun _ => rfl) ?_
          simp only [Act.put]
          refine wpQuiet_store_same rfl 24 (.tmp 3) (.tmp 25) rfl (w.heap.size + 1) 64 rfl rfl (fun W hW => by obtain ⟨n, rfl⟩ := hW; exact hsn) (by omega) sizeU (fun _ => rfl) ?_
          simp only [Act.put]
          go_big_quiet_step (fail)
          refine wpQuiet_nil ?_
          intro W hW
          obtain ⟨nq, rfl⟩ := hW
          go_wp2_with fail
          exact bodyPost_ret (v := .tuple #[.agg (agg 64 (ints .i32 (firstOf z i))), .agg (agg 64 (ints .i64 (firstOf z i))), .bool false]) (results_two_rows Tryd.results11 (w := wr.drewN nq) (b := w.heap.size) (b' := w.heap.size + 1) hf hsn rfl rfl rfl Tryd.underlying23 rfl sizeT Tryd.underlying24 rfl sizeU) rfl ⟨firstOf z i, false, rfl, (fun h => by cases h), hk.drewN _⟩

      · have h1 : ¬ v < -32768 := by omega
        have h2 : ¬ 32768 < v := by omega
        have h1b : -32768 ≤ v := by omega
        have h2b : v ≤ 32768 := by omega
        clear hin
        have c1 : wr.cell? ⟨w.heap.size, i, none⟩ = some (.int .i32 0) := by rw [hs.fst.cell (by omega)]; simp [ints, firstOf]
        have c2 : wr.frozen? ⟨w.heap.size, i, none⟩ = false := hs.fst.frozen _
        have c3 : wr.cell? ⟨w.heap.size + 1, i, none⟩ = some (.int .i64 0) := by rw [hs.snd.cell (by omega)]; simp [ints, firstOf]
        have c4 : wr.frozen? ⟨w.heap.size + 1, i, none⟩ = false := hs.snd.frozen _
        go_wp2_with fail
        go_region
        all_goals
          go_wp2
          go_roundg (len - (i + 1))
          case measure => go_light; omega
          case rel =>
            go_light
            exact ⟨i + 1, by omega, rfl, by go_num, hs.step HV.out, Lib.hid fun j hj => by
              by_cases e : j = i
              · rw [e, HV.out]; exact ⟨h1b, h2b⟩
              · exact hb0.out j (by omega)⟩
    · have ei : i = len := by omega
      rw [ei] at hs hb0
      clear ei
      have hb0 := hb0.out
      have hb0 := Lib.hid hb0
      have hf := hs.fst
      have hsn := hs.snd
      have hk := hs.kept
      clear hs
      go_wp2_with fail
      refine wp_region_quiet_lit (by kernel_rfl) (by kernel_rfl) ?_
      refine wpQuiet_load_all rfl 23 (.tmp 2) rfl w.heap.size 64 rfl (fun W hW => by obtain ⟨n, rfl⟩ := hW; exact hf) (by omega) Tryd.underlying23 rfl sizeT ?_
      simp only [Act.put, List.setIfInBounds_toArray, List.set_cons_zero, List.set_cons_succ]
      refine wpQuiet_load_all rfl 24 (.tmp 3) rfl (w.heap.size + 1) 64 rfl (fun W hW => by obtain ⟨n, rfl⟩ := hW; exact hsn) (by omega) Tryd.underlying24 rfl sizeU ?_
      simp only [Act.put, List.setIfInBounds_toArray, List.set_cons_zero, List.set_cons_succ]
      go_big_quiet_step (fail)
      go_big_quiet_step (fail)
      go_big_quiet_step (fail)
      refine wpQuiet_store_same rfl 23 (.tmp 2) (.tmp 40) rfl w.heap.size 64 rfl rfl (fun W hW => by obtain ⟨n, rfl⟩ := hW; exact hf) (by omega) sizeT (fun _ => rfl) ?_
      simp only [Act.put]
      refine wpQuiet_store_same rfl 24 (.tmp 3) (.tmp 41) rfl (w.heap.size + 1) 64 rfl rfl (fun W hW => by obtain ⟨n, rfl⟩ := hW; exact hsn) (by omega) sizeU (fun _ => rfl) ?_
      simp only [Act.put]
      go_big_quiet_step (fail)
      refine wpQuiet_nil ?_
      intro W hW
      obtain ⟨nq, rfl⟩ := hW
      go_wp2_with fail
      exact bodyPost_ret (v := .tuple #[.agg (agg 64 (ints .i32 (firstOf z len))), .agg (agg 64 (ints .i64 (firstOf z len))), .bool false]) (results_two_rows Tryd.results11 (w := wr.drewN nq) (b := w.heap.size) (b' := w.heap.size + 1) hf hsn rfl rfl rfl Tryd.underlying23 rfl sizeT Tryd.underlying24 rfl sizeU) rfl ⟨firstOf z len, false, rfl, (fun h => by cases h), hk.drewN _⟩

set_option maxHeartbeats 1000000 in
set_option maxRecDepth 100000 in
theorem coef_more (a : Option Addr) (len cap : Nat) (z : List Int) (w : World) (h : IsRow .i64 w a len cap z) (hl : 64 < len) :
    Calls Tryd.prog 11 #[.slice a len cap] w (CoefPost w) := by
  have hlen := h.len_le
  have hne : ((len : Int) == 64) = false := by simp; omega
  have HH := Lib.hid h
  clear h
  unfold CoefPost
  go_enter Tryd.func11, Tryd.ntmps11
  go_wp2_with fail
  go_loopg [9] 64 (fun k si wr => ∃ i : Nat, i ≤ 64 ∧ k = 64 - i ∧ si = .int .i64 i ∧ SS w wr z i ∧ Hid (∀ j, j < i → -32768 ≤ z.getD j 0 ∧ z.getD j 0 ≤ 32768))
  case atStart =>
    refine ⟨0, by omega, rfl, rfl, ⟨((Kept.refl _ _).alloc _).alloc _, ((rowIs_lit64 w 23).alloc _).congr fun j _ => by simp [ints, firstOf], ?_⟩, Lib.hid fun j hj => by omega⟩
    have := rowIs_lit64i (w.alloc (.cells (zeros 64) 23)) 24
    rw [World.size_alloc] at this
    exact this.congr fun j _ => by simp [ints, firstOf]
  case round =>
    obtain ⟨i, hi, rfl, rfl, hs, hb0⟩ := hrel
    by_cases hlt : i < 64
    · have hi64 : i < 64 := by omega
      have hil : i < len := by omega
      obtain ⟨b, off, rfl, hlc, _, hc, hbw⟩ := HH.out.cells (by omega)
      obtain ⟨v, hv⟩ : ∃ v, z.getD i 0 = v := ⟨_, rfl⟩
      have hvb := HH.out.i64 i
      rw [hv] at hvb
      obtain ⟨hv0, hv1⟩ := hvb
      have c0 : wr.cell? ⟨b, off + i, none⟩ = some (.int .i64 v) := by rw [← hv]; exact hs.kept.cellOf (hc i (by omega)) trivial
      have hbn : b ≠ w.heap.size := by omega
      have hbn1 : b ≠ w.heap.size + 1 := by omega
      clear hc
      have HV := Lib.hid hv
      clear hv
      by_cases hin : v < -32768 ∨ 32768 < v
      · have hcase : (v < -32768) ∨ (¬ v < -32768 ∧ 32768 < v) := by omega
        clear hin
        rcases hcase with h1 | ⟨h1, h2⟩
        all_goals
          have hf := hs.fst
          have hsn := hs.snd
          have hk := hs.kept
          clear hs
          go_wp2_with fail
          refine wp_region_quiet_lit (by kernel_rfl) (by kernel_rfl) ?_
          refine wpQuiet_load_all rfl 23 (.tmp 2) rfl w.heap.size 64 rfl (fun W hW => by obtain ⟨n, rfl⟩ := hW; exact hf) (by omega) Tryd.underlying23 rfl sizeT ?_
          simp only [Act.put, List.setIfInBounds_toArray, List.set_cons_zero, List.set_cons_succ]
          refine wpQuiet_load_all rfl 24 (.tmp 3) rfl (w.heap.size + 1) 64 rfl (fun W hW => by obtain ⟨n, rfl⟩ := hW; exact hsn) (by omega) Tryd.underlying24 rfl sizeU ?_
          simp only [Act.put, List.setIfInBounds_toArray, List.set_cons_zero, List.set_cons_succ]
          refine wpQuiet_store_same rfl 23 (.tmp 2) (.tmp 24) rfl w.heap.size 64 rfl rfl (fun W hW => by obtain ⟨n, rfl⟩ := hW; exact hf) (by omega) sizeT (fun _ => rfl) ?_
          simp only [Act.put]
          refine wpQuiet_store_same rfl 24 (.tmp 3) (.tmp 25) rfl (w.heap.size + 1) 64 rfl rfl (fun W hW => by obtain ⟨n, rfl⟩ := hW; exact hsn) (by omega) sizeU (fun _ => rfl) ?_
          simp only [Act.put]
          go_big_quiet_step (fail)
          refine wpQuiet_nil ?_
          intro W hW
          obtain ⟨nq, rfl⟩ := hW
          go_wp2_with fail
          exact bodyPost_ret (v := .tuple #[.agg (agg 64 (ints .i32 (firstOf z i))), .agg (agg 64 (ints .i64 (firstOf z i))), .bool false]) (results_two_rows Tryd.results11 (w := wr.drewN nq) (b := w.heap.size) (b' := w.heap.size + 1) hf hsn rfl rfl rfl Tryd.underlying23 rfl sizeT Tryd.underlying24 rfl sizeU) rfl ⟨firstOf z i, false, rfl, (fun h => by cases h), hk.drewN _⟩

      · have h1 : ¬ v < -32768 := by omega
        have h2 : ¬ 32768 < v := by omega
        have h1b : -32768 ≤ v := by omega
        have h2b : v ≤ 32768 := by omega
        clear hin
        have c1 : wr.cell? ⟨w.heap.size, i, none⟩ = some (.int .i32 0) := by rw [hs.fst.cell (by omega)]; simp [ints, firstOf]
        have c2 : wr.frozen? ⟨w.heap.size, i, none⟩ = false := hs.fst.frozen _
        have c3 : wr.cell? ⟨w.heap.size + 1, i, none⟩ = some (.int .i64 0) := by rw [hs.snd.cell (by omega)]; simp [ints, firstOf]
        have c4 : wr.frozen? ⟨w.heap.size + 1, i, none⟩ = false := hs.snd.frozen _
        go_wp2_with fail
        go_region
        all_goals
          go_wp2
          go_roundg (64 - (i + 1))
          case measure => go_light; omega
          case rel =>
            go_light
            exact ⟨i + 1, by omega, rfl, by go_num, hs.step HV.out, Lib.hid fun j hj => by
              by_cases e : j = i
              · rw [e, HV.out]; exact ⟨h1b, h2b⟩
              · exact hb0.out j (by omega)⟩
    · have ei : i = 64 := by omega
      rw [ei] at hs hb0
      clear ei
      have hb0 := hb0.out
      have hb0 := Lib.hid hb0
      have hf := hs.fst
      have hsn := hs.snd
      have hk := hs.kept
      clear hs
      go_wp2_with fail
      refine wp_region_quiet_lit (by kernel_rfl) (by kernel_rfl) ?_
      refine wpQuiet_load_all rfl 23 (.tmp 2) rfl w.heap.size 64 rfl (fun W hW => by obtain ⟨n, rfl⟩ := hW; exact hf) (by omega) Tryd.underlying23 rfl sizeT ?_
      simp only [Act.put, List.setIfInBounds_toArray, List.set_cons_zero, List.set_cons_succ]
      refine wpQuiet_load_all rfl 24 (.tmp 3) rfl (w.heap.size + 1) 64 rfl (fun W hW => by obtain ⟨n, rfl⟩ := hW; exact hsn) (by omega) Tryd.underlying24 rfl sizeU ?_
      simp only [Act.put, List.setIfInBounds_toArray, List.set_cons_zero, List.set_cons_succ]
      go_big_quiet_step (fail)
      go_big_quiet_step (fail)
      go_big_quiet_step (fail)
      refine wpQuiet_store_same rfl 23 (.tmp 2) (.tmp 40) rfl w.heap.size 64 rfl rfl (fun W hW => by obtain ⟨n, rfl⟩ := hW; exact hf) (by omega) sizeT (fun _ => rfl) ?_
      simp only [Act.put]
      refine wpQuiet_store_same rfl 24 (.tmp 3) (.tmp 41) rfl (w.heap.size + 1) 64 rfl rfl (fun W hW => by obtain ⟨n, rfl⟩ := hW; exact hsn) (by omega) sizeU (fun _ => rfl) ?_
      simp only [Act.put]
      go_big_quiet_step (fail)
      refine wpQuiet_nil ?_
      intro W hW
      obtain ⟨nq, rfl⟩ := hW
      go_wp2_with fail
      exact bodyPost_ret (v := .tuple #[.agg (agg 64 (ints .i32 (firstOf z 64))), .agg (agg 64 (ints .i64 (firstOf z 64))), .bool false]) (results_two_rows Tryd.results11 (w := wr.drewN nq) (b := w.heap.size) (b' := w.heap.size + 1) hf hsn rfl rfl rfl Tryd.underlying23 rfl sizeT Tryd.underlying24 rfl sizeU) rfl ⟨firstOf z 64, false, rfl, (fun h => by cases h), hk.drewN _⟩

theorem coef_any (a : Option Addr) (len cap : Nat) (z : List Int) (w : World) (h : IsRow .i64 w a len cap z) : Calls Tryd.prog 11 #[.slice a len cap] w (CoefPost w) := by
  by_cases h1 : len = 64
  · exact coef_64 a len cap z w h h1
  · by_cases h2 : len < 64
    · exact coef_less a len cap z w h h2
    · exact coef_more a len cap z w h (by omega)
end Go.Proofs.YtcblegbjhiameaaDoor
