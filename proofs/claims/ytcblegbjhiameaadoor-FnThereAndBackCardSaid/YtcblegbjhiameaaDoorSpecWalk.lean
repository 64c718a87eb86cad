/- Contracts of the functions of package spec: the small ones. -/
import Derived.Test.YtcblegbjhiameaaDoorSpecLaw
import Derived.Test.YtcblegbjhiameaaDoorSamples
namespace Go.Proofs.YtcblegbjhiameaaDoor
open Go.Deep Go.RowKit
theorem sizeI : (Tryd.prog.info? 3).map (·.size) = some 1 := by kernel_rfl
/-- A load of cells that are known one by one. -/
theorem wpList_load_cells {P : Program} {ops : Array Oper} {rest : List Oper} {op : Oper} {a : Act} {w : World} {Q : Exit → Act → World → Prop} (hgd : op.guard = none) (ty : TypeId) (x : Operand) (ho : op.op = .load ty x)
    (b m : Nat) {f : Nat → Value} (hx : a.eval x = .pointer (some ⟨b, 0, none⟩)) (hr : ∀ j, j < m → w.cell? ⟨b, j, none⟩ = some (f j)) {d : TypeDesc}
    (hu : P.underlying ty = some d) (hd : d.isRow = true) (hi : (P.info? ty).map (·.size) = some m)
    (h : wpList P ops Q rest (a.put op.dst (.agg (agg m f))) w) : wpList P ops Q (op :: rest) a w :=
  wpList_load_mid hgd ty x ho b 0 hx ((List.range m).map f) d (fun j v hv => by
    rw [List.getElem?_map] at hv
    obtain ⟨i, hi, rfl⟩ := Option.map_eq_some_iff.1 hv
    obtain ⟨hlt, hi'⟩ := List.getElem?_eq_some_iff.1 hi
    simp only [List.getElem_range] at hi'
    subst hi'
    simp only [List.length_range] at hlt
    rw [Nat.zero_add]
    exact hr _ hlt) hu hd (by simpa using hi) h

set_option maxHeartbeats 1000000 in
set_option maxRecDepth 100000 in
theorem ordered_any (z : Nat → Nat) (bs : Nat → Int) (f : Nat → Int) (bb T : Nat) (w : World) (L : Laid z bs w) (hf : w.rowIs bb T 64 (ints .i64 f)) :
    Calls Tryd.prog 23 #[.pointer (some ⟨bb, 0, none⟩)] w fun e w' => e = .returned (.agg (agg 64 (ints .i64 fun k => f (z k)))) ∧ Kept (fun _ => True) w w' := by
  have hres := fun o1 => (rowIs_lit64i w 24).alloc o1
  have hout := fun o1 => rowIs_lit64i (w.alloc o1) 24
  have HK := fun o1 o2 => ((Kept.refl (fun _ => True) w).alloc o1).alloc o2
  have HL := fun o1 o2 => (L.kept (HK o1 o2)).zig
  simp only [World.size_alloc] at hout
  go_enter Tryd.func23, Tryd.ntmps23
  go_wp2_with (((with_reducible refine wpList_load_cells (op := ⟨some 6, .load 24 (.global 0), _, _, _, _⟩) ?_ 24 (.global 0) ?_ 0 64 (f := ints .i64 fun k => (z k : Int)) ?_ ?_ Tryd.underlying24 ?_ ?_ ?_); (· rfl); (· rfl); (· rfl); (· exact HL _ _); (· rfl); (· exact sizeU)))
  have r0 := hres (.cells (agg 64 (ints .i64 fun _ => 0)) 24)
  have r1 := hout (.cells (agg 64 (ints .i64 fun _ => 0)) 24)
  clear hres hout HL
  generalize hG : agg 64 (ints .i64 fun k => ((z k : Nat) : Int)) = G
  have HG := Lib.hid hG
  clear hG
  go_loopg [7] 64 (fun k s wr => ∃ i : Nat, i ≤ 64 ∧ k = 64 - i ∧ s = .int .i64 i ∧ Kept (fun _ => True) w wr ∧ wr.rowIs w.heap.size 24 64 (ints .i64 fun _ => 0) ∧ wr.rowIs (w.heap.size + 1) 24 64 (ints .i64 (upto (fun k => f (z k)) i)))
  case atStart => exact ⟨0, by omega, rfl, rfl, HK _ _, r0, r1.congr fun j _ => by simp [ints, upto]⟩
  case round =>
    obtain ⟨i, hi, rfl, rfl, hk, q0, q1⟩ := hrel
    by_cases hlt : i < 64
    · have hidx : ∀ wx, (Instr.index 24 (.agg G) (.int .i64 (i : Int))).run Tryd.prog wx = .ok (.int .i64 (z i : Int)) wx := fun wx => by
        rw [← show _ = G from HG.out]
        exact run_index_one (P := Tryd.prog) Tryd.underlying24 Tryd.underlying3 rfl sizeI (ints .i64 fun k => ((z k : Nat) : Int)) i hlt wx
      have hp64 := L.lt i hlt
      obtain ⟨p, hp⟩ : ∃ p, z i = p := ⟨_, rfl⟩
      rw [hp] at hidx hp64
      obtain ⟨x, hx⟩ : ∃ x, (f p) = x := ⟨_, rfl⟩
      have c0 : wr.cell? ⟨bb, p, none⟩ = some (.int .i64 x) := by rw [(hk.row hf trivial).cell (by omega)]; simp only [ints, hx]
      obtain ⟨y, hy⟩ : ∃ y, (upto (fun k => f (z k)) i) i = y := ⟨_, rfl⟩
      have c1 : wr.cell? ⟨w.heap.size + 1, i, none⟩ = some (.int .i64 y) := by rw [q1.cell (by omega)]; simp only [ints, hy]
      have c2 : wr.frozen? ⟨w.heap.size + 1, i, none⟩ = false := q1.frozen _
      have HX := Lib.hid hx
      have HP := Lib.hid hp
      clear hx hp hy
      go_wp2
      go_roundg (64 - (i + 1))
      case measure => go_light; omega
      case rel =>
        go_light
        exact ⟨i + 1, by omega, rfl, by go_num, hk.setCell (fun h => absurd h (by show ¬ (w.heap.size + 1 < w.heap.size); omega)) _, q0.setOther (by simp) _, (q1.set _ _).congr fun j _ => upto_step _ i j (by simp only [HP.out, HX.out])⟩
    · have ei : i = 64 := by omega
      subst ei
      go_wp2_with (first | ((with_reducible refine wpList_load_all (op := ⟨some 19, .load 24 (.tmp 3), _, _, _, _⟩) ?_ 24 (.tmp 3) ?_ (w.heap.size + 1) 64 ?_ q1 ?_ Tryd.underlying24 ?_ ?_ ?_); (· rfl); (· rfl); (· rfl); (· omega); (· rfl); (· exact sizeU)) | ((with_reducible refine wpList_store_new (op := ⟨none, .store 24 (.tmp 2) (.tmp 19), _, _, _, _⟩) ?_ 24 (.tmp 2) (.tmp 19) ?_ w.heap.size 64 (g := ints .i64 (upto (fun k => f (z k)) 64)) ?_ ?_ q0 ?_ ?_ ?_); (· rfl); (· rfl); (· rfl); (· rfl); (· exact sizeU); (· exact fun _ => rfl); (intro w4 k6 s6 r6)))
      exact bodyPost_ret (v := .agg (agg 64 (ints .i64 (upto (fun k => f (z k)) 64)))) (results_rowIs Tryd.results23 r6 rfl Tryd.underlying24 rfl sizeU) rfl ⟨by rw [agg_congr (g := ints .i64 fun k => f (z k)) fun j hj => by simp only [ints, upto, if_pos hj]], hk.trans' k6 fun i hi _ => by omega⟩

set_option maxHeartbeats 1000000 in
set_option maxRecDepth 100000 in
theorem natural_any (z : Nat → Nat) (bs : Nat → Int) (f : Nat → Int) (bb T : Nat) (w : World) (L : Laid z bs w) (hf : w.rowIs bb T 64 (ints .i64 f)) :
    Calls Tryd.prog 22 #[.pointer (some ⟨bb, 0, none⟩)] w fun e w' => e = .returned (.agg (agg 64 (ints .i64 (fill z f 64)))) ∧ Kept (fun _ => True) w w' := by
  have hres := fun o1 => (rowIs_lit64i w 24).alloc o1
  have hout := fun o1 => rowIs_lit64i (w.alloc o1) 24
  have HK := fun o1 o2 => ((Kept.refl (fun _ => True) w).alloc o1).alloc o2
  have HL := fun o1 o2 => (L.kept (HK o1 o2)).zig
  simp only [World.size_alloc] at hout
  go_enter Tryd.func22, Tryd.ntmps22
  go_wp2_with (((with_reducible refine wpList_load_cells (op := ⟨some 6, .load 24 (.global 0), _, _, _, _⟩) ?_ 24 (.global 0) ?_ 0 64 (f := ints .i64 fun k => (z k : Int)) ?_ ?_ Tryd.underlying24 ?_ ?_ ?_); (· rfl); (· rfl); (· rfl); (· exact HL _ _); (· rfl); (· exact sizeU)))
  have r0 := hres (.cells (agg 64 (ints .i64 fun _ => 0)) 24)
  have r1 := hout (.cells (agg 64 (ints .i64 fun _ => 0)) 24)
  clear hres hout HL
  generalize hG : agg 64 (ints .i64 fun k => ((z k : Nat) : Int)) = G
  have HG := Lib.hid hG
  clear hG
  go_loopg [7] 64 (fun k s wr => ∃ i : Nat, i ≤ 64 ∧ k = 64 - i ∧ s = .int .i64 i ∧ Kept (fun _ => True) w wr ∧ wr.rowIs w.heap.size 24 64 (ints .i64 fun _ => 0) ∧ wr.rowIs (w.heap.size + 1) 24 64 (ints .i64 (fill z f i)))
  case atStart => exact ⟨0, by omega, rfl, rfl, HK _ _, r0, r1.congr fun j _ => by simp [ints, fill]⟩
  case round =>
    obtain ⟨i, hi, rfl, rfl, hk, q0, q1⟩ := hrel
    by_cases hlt : i < 64
    · have hidx : ∀ wx, (Instr.index 24 (.agg G) (.int .i64 (i : Int))).run Tryd.prog wx = .ok (.int .i64 (z i : Int)) wx := fun wx => by
        rw [← show _ = G from HG.out]
        exact run_index_one (P := Tryd.prog) Tryd.underlying24 Tryd.underlying3 rfl sizeI (ints .i64 fun k => ((z k : Nat) : Int)) i hlt wx
      have hp64 := L.lt i hlt
      obtain ⟨p, hp⟩ : ∃ p, z i = p := ⟨_, rfl⟩
      rw [hp] at hidx hp64
      obtain ⟨x, hx⟩ : ∃ x, (f i) = x := ⟨_, rfl⟩
      have c0 : wr.cell? ⟨bb, i, none⟩ = some (.int .i64 x) := by rw [(hk.row hf trivial).cell (by omega)]; simp only [ints, hx]
      obtain ⟨y, hy⟩ : ∃ y, (fill z f i) p = y := ⟨_, rfl⟩
      have c1 : wr.cell? ⟨w.heap.size + 1, p, none⟩ = some (.int .i64 y) := by rw [q1.cell (by omega)]; simp only [ints, hy]
      have c2 : wr.frozen? ⟨w.heap.size + 1, p, none⟩ = false := q1.frozen _
      have HX := Lib.hid hx
      have HP := Lib.hid hp
      clear hx hp hy
      go_wp2
      go_roundg (64 - (i + 1))
      case measure => go_light; omega
      case rel =>
        go_light
        exact ⟨i + 1, by omega, rfl, by go_num, hk.setCell (fun h => absurd h (by show ¬ (w.heap.size + 1 < w.heap.size); omega)) _, q0.setOther (by simp) _, (q1.set _ _).congr fun j _ => fill_step z f i j HP.out HX.out⟩
    · have ei : i = 64 := by omega
      subst ei
      go_wp2_with (first | ((with_reducible refine wpList_load_all (op := ⟨some 19, .load 24 (.tmp 3), _, _, _, _⟩) ?_ 24 (.tmp 3) ?_ (w.heap.size + 1) 64 ?_ q1 ?_ Tryd.underlying24 ?_ ?_ ?_); (· rfl); (· rfl); (· rfl); (· omega); (· rfl); (· exact sizeU)) | ((with_reducible refine wpList_store_new (op := ⟨none, .store 24 (.tmp 2) (.tmp 19), _, _, _, _⟩) ?_ 24 (.tmp 2) (.tmp 19) ?_ w.heap.size 64 (g := ints .i64 (fill z f 64)) ?_ ?_ q0 ?_ ?_ ?_); (· rfl); (· rfl); (· rfl); (· rfl); (· exact sizeU); (· exact fun _ => rfl); (intro w4 k6 s6 r6)))
      exact bodyPost_ret (v := .agg (agg 64 (ints .i64 (fill z f 64)))) (results_rowIs Tryd.results22 r6 rfl Tryd.underlying24 rfl sizeU) rfl ⟨rfl, hk.trans' k6 fun i hi _ => by omega⟩
end Go.Proofs.YtcblegbjhiameaaDoor
