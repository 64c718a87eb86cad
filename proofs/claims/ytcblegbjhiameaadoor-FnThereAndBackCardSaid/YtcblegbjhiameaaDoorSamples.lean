/- The contract of laws.samples: the first 64 bytes, as numbers of two kinds. -/
import Derived.Test.YtcblegbjhiameaaDoorQuiet
import Derived.Test.YtcblegbjhiameaaDoorRows
import Derived.Deep.LoopGhost
import Derived.Deep.Light
import Derived.RegionTactic
namespace Go.Proofs.YtcblegbjhiameaaDoor
open Go.Deep Go.RowKit
theorem sizeT : (Tryd.prog.info? 23).map (·.size) = some 64 := by kernel_rfl
theorem sizeU : (Tryd.prog.info? 24).map (·.size) = some 64 := by kernel_rfl
theorem rowIs_lit64i (W : World) (t : TypeId) : (W.alloc (.cells #[Value.int .i64 0, Value.int .i64 0, Value.int .i64 0, Value.int .i64 0, Value.int .i64 0, Value.int .i64 0, Value.int .i64 0, Value.int .i64 0, Value.int .i64 0, Value.int .i64 0, Value.int .i64 0, Value.int .i64 0, Value.int .i64 0, Value.int .i64 0, Value.int .i64 0, Value.int .i64 0, Value.int .i64 0, Value.int .i64 0, Value.int .i64 0, Value.int .i64 0, Value.int .i64 0, Value.int .i64 0, Value.int .i64 0, Value.int .i64 0, Value.int .i64 0, Value.int .i64 0, Value.int .i64 0, Value.int .i64 0, Value.int .i64 0, Value.int .i64 0, Value.int .i64 0, Value.int .i64 0, Value.int .i64 0, Value.int .i64 0, Value.int .i64 0, Value.int .i64 0, Value.int .i64 0, Value.int .i64 0, Value.int .i64 0, Value.int .i64 0, Value.int .i64 0, Value.int .i64 0, Value.int .i64 0, Value.int .i64 0, Value.int .i64 0, Value.int .i64 0, Value.int .i64 0, Value.int .i64 0, Value.int .i64 0, Value.int .i64 0, Value.int .i64 0, Value.int .i64 0, Value.int .i64 0, Value.int .i64 0, Value.int .i64 0, Value.int .i64 0, Value.int .i64 0, Value.int .i64 0, Value.int .i64 0, Value.int .i64 0, Value.int .i64 0, Value.int .i64 0, Value.int .i64 0, Value.int .i64 0] t)).rowIs W.heap.size t 64 (ints .i64 fun _ => 0) := rowIs_replicate W t 64 (.int .i64 0)
/-- The first numbers of a list, nought behind them. -/
def firstOf (z : List Int) (i : Nat) : Nat → Int := fun j => if j < i then z.getD j 0 else 0
theorem firstOf_step {k : IntKind} {z : List Int} {i j : Nat} : (if j = i then Value.int k (z.getD i 0) else ints k (firstOf z i) j) = ints k (firstOf z (i + 1)) j := by
  simp only [ints, firstOf]
  by_cases e : j = i
  · subst e; rw [if_pos rfl, if_pos (by omega)]
  · rw [if_neg e]
    by_cases d : j < i
    · rw [if_pos d, if_pos (by omega)]
    · rw [if_neg d, if_neg (by omega)]
/-- Three results: two rows of the call's own, and a slot. -/
theorem results_two_rows {P : Program} {fn : Func} {p q r : Tmp} {ty ty' : TypeId} (h : fn.results = #[.cell p ty, .cell q ty', .tmp r]) {tmps : Array Value} {w : World} {b b' : Nat} {t t' : TypeId} {n : Nat} {f f' : Nat → Value} {d d' : TypeDesc} {v : Value}
    (hr : w.rowIs b t n f) (hr' : w.rowIs b' t' n f') (hp : tmps.getD p undef = .pointer (some ⟨b, 0, none⟩)) (hp' : tmps.getD q undef = .pointer (some ⟨b', 0, none⟩)) (hq : tmps.getD r undef = v)
    (hu : P.underlying ty = some d) (hd : d.isRow = true) (hi : (P.info? ty).map (·.size) = some n) (hu' : P.underlying ty' = some d') (hd' : d'.isRow = true) (hi' : (P.info? ty').map (·.size) = some n) :
    (results fn tmps).run P w = .ok (.tuple #[.agg (agg n f), .agg (agg n f'), v]) w := by
  have a1 : tmps[p]?.getD undef = .pointer (some ⟨b, 0, none⟩) := by simpa using hp
  have a2 : tmps[q]?.getD undef = .pointer (some ⟨b', 0, none⟩) := by simpa using hp'
  have a3 : tmps[r]?.getD undef = v := by simpa using hq
  simp [results, h, a1, a2, a3, asAddr, run_loadVar_row w b t ty (agg n f) (0, 0) d (rowIs_heap hr) hu (by cases d <;> simp_all [TypeDesc.isRow]) (by rw [size_agg]; exact hi),
    run_loadVar_row w b' t' ty' (agg n f') (0, 0) d' (rowIs_heap hr') hu' (by cases d' <;> simp_all [TypeDesc.isRow]) (by rw [size_agg]; exact hi')]
/-- What holds at the head of samples' loop. -/
structure SS (w wr : World) (z : List Int) (i : Nat) : Prop where
  kept : Kept (fun _ => True) w wr
  fst : wr.rowIs w.heap.size 23 64 (ints .i32 (firstOf z i))
  snd : wr.rowIs (w.heap.size + 1) 24 64 (ints .i64 (firstOf z i))
theorem SS.step {w wr : World} {z : List Int} {i : Nat} {v : Int} (h : SS w wr z i) (hv : z.getD i 0 = v) :
    SS w (((wr.setCell ⟨w.heap.size, i, none⟩ (.int .i32 v)).setCell ⟨w.heap.size + 1, i, none⟩ (.int .i64 v)).drew) z (i + 1) := by
  subst hv
  exact ⟨((h.kept.setCell (fun h => by simp at h) _).setCell (fun h => by simp at h; omega) _).drew,
    (((h.fst.set _ _).congr fun j _ => firstOf_step).setOther (by simp) _).drew,
    (((h.snd.setOther (by simp) _).set _ _).congr fun j _ => firstOf_step).drew⟩

set_option maxHeartbeats 1000000 in
set_option maxRecDepth 100000 in
theorem samples_64 (a : Option Addr) (len cap : Nat) (z : List Int) (w : World) (h : IsRow .u8 w a len cap z) (hl : len = 64) :
    Calls Tryd.prog 7 #[.slice a len cap] w fun e w' => e = .returned (.tuple #[.agg (agg 64 (ints .i32 (firstOf z 64))), .agg (agg 64 (ints .i64 (firstOf z 64))), .bool true]) ∧ Kept (fun _ => True) w w' := by
  have hlen := h.len_le
  subst hl
  have HH := Lib.hid h
  clear h
  go_enter Tryd.func7, Tryd.ntmps7
  go_wp2_with fail
  go_loopg [9] 64 (fun k si wr => ∃ i : Nat, i ≤ 64 ∧ k = 64 - i ∧ si = .int .i64 i ∧ SS w wr z i)
  case atStart =>
    refine ⟨0, by omega, rfl, rfl, ((Kept.refl _ _).alloc _).alloc _, ((rowIs_lit64 w 23).alloc _).congr fun j _ => by simp [ints, firstOf], ?_⟩
    have := rowIs_lit64i (w.alloc (.cells (zeros 64) 23)) 24
    rw [World.size_alloc] at this
    exact this.congr fun j _ => by simp [ints, firstOf]
  case round =>
    obtain ⟨i, hi, rfl, rfl, hs⟩ := hrel
    by_cases hlt : i < 64
    · have hi64 : i < 64 := by omega
      have hil : i < 64 := by omega
      obtain ⟨b, off, rfl, hlc, _, hc, hbw⟩ := HH.out.cells (by omega)
      obtain ⟨v, hv⟩ : ∃ v, z.getD i 0 = v := ⟨_, rfl⟩
      have hvb := HH.out.u8 i
      rw [hv] at hvb
      obtain ⟨hv0, hv1⟩ := hvb
      have c0 : wr.cell? ⟨b, off + i, none⟩ = some (.int .u8 v) := by rw [← hv]; exact hs.kept.cellOf (hc i (by omega)) trivial
      have c1 : wr.cell? ⟨w.heap.size, i, none⟩ = some (.int .i32 0) := by rw [hs.fst.cell (by omega)]; simp [ints, firstOf]
      have c2 : wr.frozen? ⟨w.heap.size, i, none⟩ = false := hs.fst.frozen _
      have c3 : wr.cell? ⟨w.heap.size + 1, i, none⟩ = some (.int .i64 0) := by rw [hs.snd.cell (by omega)]; simp [ints, firstOf]
      have c4 : wr.frozen? ⟨w.heap.size + 1, i, none⟩ = false := hs.snd.frozen _
      clear hc
      have HV := Lib.hid hv
      clear hv
      have hbn : b ≠ w.heap.size := by omega
      have hbn1 : b ≠ w.heap.size + 1 := by omega
      go_wp2_with fail
      go_region
      all_goals
        go_wp2
        go_roundg (64 - (i + 1))
        case measure => go_light; omega
        case rel =>
          go_light
          exact ⟨i + 1, by omega, rfl, by go_num, hs.step HV.out⟩
    · have ei : i = 64 := by omega
      rw [ei] at hs
      clear ei
      have hf := hs.fst
      have hsn := hs.snd
      have hk := hs.kept
      clear hs
      go_wp2_with fail
      refine wp_region_quiet_lit (by kernel_rfl) (by kernel_rfl) ?_
      refine wpQuiet_load_all rfl 23 (.tmp 2) rfl w.heap.size 64 rfl (fun W hW => by obtain ⟨n, rfl⟩ := hW; exact hf) (by omega) Tryd.underlying23 rfl sizeT ?_
      simp only [Act.put, List.setIfInBounds_toArray, List.set_cons_zero, List.set_cons_succ]
      refine wpQuiet_load_all rfl 24 (.tmp 3) rfl (w.heap.size + 1) 64 rfl (fun W hW => by obtain ⟨n, rfl⟩ := hW; exact hsn) (by omega) Tryd.underlying24 rfl sizeU ?_
      simp only [Act.put, List.setIfInBounds_toArray, List.set_cons_zero, List.set_cons_succ]
      go_big_quiet_step (fail)
      go_big_quiet_step (fail)
      go_big_quiet_step (fail)
      refine wpQuiet_store_same rfl 23 (.tmp 2) (.tmp 27) rfl w.heap.size 64 rfl rfl (fun W hW => by obtain ⟨n, rfl⟩ := hW; exact hf) (by omega) sizeT (fun _ => rfl) ?_
      simp only [Act.put]
      refine wpQuiet_store_same rfl 24 (.tmp 3) (.tmp 28) rfl (w.heap.size + 1) 64 rfl rfl (fun W hW => by obtain ⟨n, rfl⟩ := hW; exact hsn) (by omega) sizeU (fun _ => rfl) ?_
      simp only [Act.put]
      go_big_quiet_step (fail)
      refine wpQuiet_nil ?_
      intro W hW
      obtain ⟨nq, rfl⟩ := hW
      go_wp2_with fail
      exact bodyPost_ret (v := .tuple #[.agg (agg 64 (ints .i32 (firstOf z 64))), .agg (agg 64 (ints .i64 (firstOf z 64))), .bool true]) (results_two_rows Tryd.results7 (w := wr.drewN nq) (b := w.heap.size) (b' := w.heap.size + 1) hf hsn rfl rfl rfl Tryd.underlying23 rfl sizeT Tryd.underlying24 rfl sizeU) rfl ⟨rfl, hk.drewN _⟩

set_option maxHeartbeats 1000000 in
set_option maxRecDepth 100000 in
theorem samples_less (a : Option Addr) (len cap : Nat) (z : List Int) (w : World) (h : IsRow .u8 w a len cap z) (hl : len < 64) :
    Calls Tryd.prog 7 #[.slice a len cap] w fun e w' => e = .returned (.tuple #[.agg (agg 64 (ints .i32 (firstOf z len))), .agg (agg 64 (ints .i64 (firstOf z len))), .bool false]) ∧ Kept (fun _ => True) w w' := by
  have hlen := h.len_le
  have hne : ((len : Int) == 64) = false := by simp; omega
  have HH := Lib.hid h
  clear h
  go_enter Tryd.func7, Tryd.ntmps7
  go_wp2_with fail
  go_loopg [9] len (fun k si wr => ∃ i : Nat, i ≤ len ∧ k = len - i ∧ si = .int .i64 i ∧ SS w wr z i)
  case atStart =>
    refine ⟨0, by omega, rfl, rfl, ((Kept.refl _ _).alloc _).alloc _, ((rowIs_lit64 w 23).alloc _).congr fun j _ => by simp [ints, firstOf], ?_⟩
    have := rowIs_lit64i (w.alloc (.cells (zeros 64) 23)) 24
    rw [World.size_alloc] at this
    exact this.congr fun j _ => by simp [ints, firstOf]
  case round =>
    obtain ⟨i, hi, rfl, rfl, hs⟩ := hrel
    by_cases hlt : i < len
    · have hi64 : i < 64 := by omega
      have hil : i < len := by omega
      obtain ⟨b, off, rfl, hlc, _, hc, hbw⟩ := HH.out.cells (by omega)
      obtain ⟨v, hv⟩ : ∃ v, z.getD i 0 = v := ⟨_, rfl⟩
      have hvb := HH.out.u8 i
      rw [hv] at hvb
      obtain ⟨hv0, hv1⟩ := hvb
      have c0 : wr.cell? ⟨b, off + i, none⟩ = some (.int .u8 v) := by rw [← hv]; exact hs.kept.cellOf (hc i (by omega)) trivial
      have c1 : wr.cell? ⟨w.heap.size, i, none⟩ = some (.int .i32 0) := by rw [hs.fst.cell (by omega)]; simp [ints, firstOf]
      have c2 : wr.frozen? ⟨w.heap.size, i, none⟩ = false := hs.fst.frozen _
      have c3 : wr.cell? ⟨w.heap.size + 1, i, none⟩ = some (.int .i64 0) := by rw [hs.snd.cell (by omega)]; simp [ints, firstOf]
      have c4 : wr.frozen? ⟨w.heap.size + 1, i, none⟩ = false := hs.snd.frozen _
      clear hc
      have HV := Lib.hid hv
      clear hv
      have hbn : b ≠ w.heap.size := by omega
      have hbn1 : b ≠ w.heap.size + 1 := by omega
      go_wp2_with fail
      go_region
      all_goals
        go_wp2
        go_roundg (len - (i + 1))
        case measure => go_light; omega
        case rel =>
          go_light
          exact ⟨i + 1, by omega, rfl, by go_num, hs.step HV.out⟩
    · have ei : i = len := by omega
      rw [ei] at hs
      clear ei
      have hf := hs.fst
      have hsn := hs.snd
      have hk := hs.kept
      clear hs
      go_wp2_with fail
      refine wp_region_quiet_lit (by kernel_rfl) (by kernel_rfl) ?_
      refine wpQuiet_load_all rfl 23 (.tmp 2) rfl w.heap.size 64 rfl (fun W hW => by obtain ⟨n, rfl⟩ := hW; exact hf) (by omega) Tryd.underlying23 rfl sizeT ?_
      simp only [Act.put, List.setIfInBounds_toArray, List.set_cons_zero, List.set_cons_succ]
      refine wpQuiet_load_all rfl 24 (.tmp 3) rfl (w.heap.size + 1) 64 rfl (fun W hW => by obtain ⟨n, rfl⟩ := hW; exact hsn) (by omega) Tryd.underlying24 rfl sizeU ?_
      simp only [Act.put, List.setIfInBounds_toArray, List.set_cons_zero, List.set_cons_succ]
      go_big_quiet_step (fail)
      go_big_quiet_step (fail)
      go_big_quiet_step (fail)
      refine wpQuiet_store_same rfl 23 (.tmp 2) (.tmp 27) rfl w.heap.size 64 rfl rfl (fun W hW => by obtain ⟨n, rfl⟩ := hW; exact hf) (by omega) sizeT (fun _ => rfl) ?_
      simp only [Act.put]
      refine wpQuiet_store_same rfl 24 (.tmp 3) (.tmp 28) rfl (w.heap.size + 1) 64 rfl rfl (fun W hW => by obtain ⟨n, rfl⟩ := hW; exact hsn) (by omega) sizeU (fun _ => rfl) ?_
      simp only [Act.put]
      go_big_quiet_step (fail)
      refine wpQuiet_nil ?_
      intro W hW
      obtain ⟨nq, rfl⟩ := hW
      go_wp2_with fail
      exact bodyPost_ret (v := .tuple #[.agg (agg 64 (ints .i32 (firstOf z len))), .agg (agg 64 (ints .i64 (firstOf z len))), .bool false]) (results_two_rows Tryd.results7 (w := wr.drewN nq) (b := w.heap.size) (b' := w.heap.size + 1) hf hsn rfl rfl rfl Tryd.underlying23 rfl sizeT Tryd.underlying24 rfl sizeU) rfl ⟨rfl, hk.drewN _⟩

set_option maxHeartbeats 1000000 in
set_option maxRecDepth 100000 in
theorem samples_more (a : Option Addr) (len cap : Nat) (z : List Int) (w : World) (h : IsRow .u8 w a len cap z) (hl : 64 < len) :
    Calls Tryd.prog 7 #[.slice a len cap] w fun e w' => e = .returned (.tuple #[.agg (agg 64 (ints .i32 (firstOf z 64))), .agg (agg 64 (ints .i64 (firstOf z 64))), .bool false]) ∧ Kept (fun _ => True) w w' := by
  have hlen := h.len_le
  have hne : ((len : Int) == 64) = false := by simp; omega
  have HH := Lib.hid h
  clear h
  go_enter Tryd.func7, Tryd.ntmps7
  go_wp2_with fail
  go_loopg [9] 64 (fun k si wr => ∃ i : Nat, i ≤ 64 ∧ k = 64 - i ∧ si = .int .i64 i ∧ SS w wr z i)
  case atStart =>
    refine ⟨0, by omega, rfl, rfl, ((Kept.refl _ _).alloc _).alloc _, ((rowIs_lit64 w 23).alloc _).congr fun j _ => by simp [ints, firstOf], ?_⟩
    have := rowIs_lit64i (w.alloc (.cells (zeros 64) 23)) 24
    rw [World.size_alloc] at this
    exact this.congr fun j _ => by simp [ints, firstOf]
  case round =>
    obtain ⟨i, hi, rfl, rfl, hs⟩ := hrel
    by_cases hlt : i < 64
    · have hi64 : i < 64 := by omega
      have hil : i < len := by omega
      obtain ⟨b, off, rfl, hlc, _, hc, hbw⟩ := HH.out.cells (by omega)
      obtain ⟨v, hv⟩ : ∃ v, z.getD i 0 = v := ⟨_, rfl⟩
      have hvb := HH.out.u8 i
      rw [hv] at hvb
      obtain ⟨hv0, hv1⟩ := hvb
      have c0 : wr.cell? ⟨b, off + i, none⟩ = some (.int .u8 v) := by rw [← hv]; exact hs.kept.cellOf (hc i (by omega)) trivial
      have c1 : wr.cell? ⟨w.heap.size, i, none⟩ = some (.int .i32 0) := by rw [hs.fst.cell (by omega)]; simp [ints, firstOf]
      have c2 : wr.frozen? ⟨w.heap.size, i, none⟩ = false := hs.fst.frozen _
      have c3 : wr.cell? ⟨w.heap.size + 1, i, none⟩ = some (.int .i64 0) := by rw [hs.snd.cell (by omega)]; simp [ints, firstOf]
      have c4 : wr.frozen? ⟨w.heap.size + 1, i, none⟩ = false := hs.snd.frozen _
      clear hc
      have HV := Lib.hid hv
      clear hv
      have hbn : b ≠ w.heap.size := by omega
      have hbn1 : b ≠ w.heap.size + 1 := by omega
      go_wp2_with fail
      go_region
      all_goals
        go_wp2
        go_roundg (64 - (i + 1))
        case measure => go_light; omega
        case rel =>
          go_light
          exact ⟨i + 1, by omega, rfl, by go_num, hs.step HV.out⟩
    · have ei : i = 64 := by omega
      rw [ei] at hs
      clear ei
      have hf := hs.fst
      have hsn := hs.snd
      have hk := hs.kept
      clear hs
      go_wp2_with fail
      refine wp_region_quiet_lit (by kernel_rfl) (by kernel_rfl) ?_
      refine wpQuiet_load_all rfl 23 (.tmp 2) rfl w.heap.size 64 rfl (fun W hW => by obtain ⟨n, rfl⟩ := hW; exact hf) (by omega) Tryd.underlying23 rfl sizeT ?_
      simp only [Act.put, List.setIfInBounds_toArray, List.set_cons_zero, List.set_cons_succ]
      refine wpQuiet_load_all rfl 24 (.tmp 3) rfl (w.heap.size + 1) 64 rfl (fun W hW => by obtain ⟨n, rfl⟩ := hW; exact hsn) (by omega) Tryd.underlying24 rfl sizeU ?_
      simp only [Act.put, List.setIfInBounds_toArray, List.set_cons_zero, List.set_cons_succ]
      go_big_quiet_step (fail)
      go_big_quiet_step (fail)
      go_big_quiet_step (fail)
      refine wpQuiet_store_same rfl 23 (.tmp 2) (.tmp 27) rfl w.heap.size 64 rfl rfl (fun W hW => by obtain ⟨n, rfl⟩ := hW; exact hf) (by omega) sizeT (fun _ => rfl) ?_
      simp only [Act.put]
      refine wpQuiet_store_same rfl 24 (.tmp 3) (.tmp 28) rfl (w.heap.size + 1) 64 rfl rfl (fun W hW => by obtain ⟨n, rfl⟩ := hW; exact hsn) (by omega) sizeU (fun _ => rfl) ?_
      simp only [Act.put]
      go_big_quiet_step (fail)
      refine wpQuiet_nil ?_
      intro W hW
      obtain ⟨nq, rfl⟩ := hW
      go_wp2_with fail
      exact bodyPost_ret (v := .tuple #[.agg (agg 64 (ints .i32 (firstOf z 64))), .agg (agg 64 (ints .i64 (firstOf z 64))), .bool false]) (results_two_rows Tryd.results7 (w := wr.drewN nq) (b := w.heap.size) (b' := w.heap.size + 1) hf hsn rfl rfl rfl Tryd.underlying23 rfl sizeT Tryd.underlying24 rfl sizeU) rfl ⟨rfl, hk.drewN _⟩
end Go.Proofs.YtcblegbjhiameaaDoor
