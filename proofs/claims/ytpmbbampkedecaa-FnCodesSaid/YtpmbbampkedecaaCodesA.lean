/- Contracts of the functions that FnCodes calls: counted. -/
import Derived.Test.YtpmbbampkedecaaMem
import Derived.Test.YtpmbbampkedecaaRows
import Derived.Deep.LoopGhost
import Derived.Deep.Light
import Derived.Deep.QuietTactic
import Derived.BigQuiet
import Derived.Lib.Hide
import Derived.Deep.WholeRow
namespace Go.Proofs.Ytpmbbampkedecaa
open Go.Deep Go.RowKit

theorem size29 : (Try.prog.info? 29).map (·.size) = some 16 := by kernel_rfl

/-- The first numbers of a list, nought behind them. -/
def firstOf (z : List Int) (i : Nat) : Nat → Int := fun j => if j < i then z.getD j 0 else 0
theorem firstOf_step {z : List Int} {i j : Nat} : (if j = i then Value.int .u8 (z.getD i 0) else ints .u8 (firstOf z i) j) = ints .u8 (firstOf z (i + 1)) j := by
  simp only [ints, firstOf]
  by_cases e : j = i
  · subst e; rw [if_pos rfl, if_pos (by omega)]
  · rw [if_neg e]
    by_cases d : j < i
    · rw [if_pos d, if_pos (by omega)]
    · rw [if_neg d, if_neg (by omega)]

set_option maxHeartbeats 1000000 in
set_option maxRecDepth 100000 in
theorem counted_16 (a : Option Addr) (len cap : Nat) (z : List Int) (w : World) (h : IsRow .u8 w a len cap z) (hl : len = 16) :
    Calls Try.prog 9 #[.slice a len cap] w fun e w' => e = .returned (.tuple #[.agg (agg 16 (ints .u8 (firstOf z 16))), .bool true]) ∧ Kept (fun _ => True) w w' := by
  have hlen := h.len_le
  subst hl
  have HH := Lib.hid h
  clear h
  go_enter Try.func9, Try.ntmps9
  go_wp2_with fail
  go_loopg [8] 16 (fun k si wr => ∃ i : Nat, i ≤ 16 ∧ k = 16 - i ∧ si = .int .i64 i ∧ Kept (fun _ => True) w wr ∧ wr.rowIs w.heap.size 29 16 (ints .u8 (firstOf z i)))
  case atStart => exact ⟨0, by omega, rfl, rfl, (Kept.refl _ _).alloc _, (rowIs_lit16 w 29).congr fun j _ => by simp [ints, firstOf]⟩
  case round =>
    obtain ⟨i, hi, rfl, rfl, hk, hr⟩ := hrel
    by_cases hlt : i < 16
    · have hi16 : i < 16 := by omega
      have hil : i < 16 := by omega
      obtain ⟨b, off, rfl, hlc, _, hc, _⟩ := HH.out.cells (by omega)
      have c0 : wr.cell? ⟨b, off + i, none⟩ = some (.int .u8 (z.getD i 0)) := hk.cellOf (hc i (by omega)) trivial
      have c1 : wr.cell? ⟨w.heap.size, i, none⟩ = some (.int .u8 (firstOf z i i)) := hr.cell (by omega)
      have c2 : wr.frozen? ⟨w.heap.size, i, none⟩ = false := hr.frozen _
      clear hc
      generalize hv : z.getD i 0 = v at c0
      have HV := Lib.hid hv
      clear hv
      go_wp2
      go_roundg (16 - (i + 1))
      case measure => go_light; omega
      case rel =>
        go_light
        exact ⟨i + 1, by omega, rfl, by go_num, hk.setCell (fun h => by simp at h) _, (hr.set _ _).congr fun j _ => by rw [← HV.out]; exact firstOf_step⟩
    · have ei : i = 16 := by omega
      rw [ei] at hr
      clear ei
      go_wp2_with (first | ((with_reducible refine wpList_load_all (w := wr) (op := ⟨some 18, .load 29 (.tmp 2), _, _, _, _⟩) ?_ 29 (.tmp 2) ?_ w.heap.size 16 ?_ hr ?_ Try.underlying29 ?_ ?_ ?_); (· rfl); (· rfl); (· rfl); (· omega); (· rfl); (· exact size29)) | ((with_reducible refine wpList_store_rowIs (w := wr) (op := ⟨none, .store 29 (.tmp 2) (.tmp 18), _, _, _, _⟩) ?_ 29 (.tmp 2) (.tmp 18) ?_ w.heap.size 0 16 (g := ints .u8 (firstOf z 16)) ?_ ?_ hr ?_ ?_ ?_ ?_); (· rfl); (· rfl); (· rfl); (· rfl); (· omega); (· exact size29); (· exact fun _ => rfl)))
      exact bodyPost_ret (v := .tuple #[.agg (agg 16 (ints .u8 (firstOf z 16))), .bool true]) (results_rowIs_tmp Try.results9 (rowIs_lay_all hr _) rfl rfl Try.underlying29 rfl size29) rfl ⟨rfl, hk.lay _ _ _ _ (fun h => by omega)⟩

set_option maxHeartbeats 1000000 in
set_option maxRecDepth 100000 in
theorem counted_less (a : Option Addr) (len cap : Nat) (z : List Int) (w : World) (h : IsRow .u8 w a len cap z) (hl : len < 16) :
    Calls Try.prog 9 #[.slice a len cap] w fun e w' => e = .returned (.tuple #[.agg (agg 16 (ints .u8 (firstOf z len))), .bool false]) ∧ Kept (fun _ => True) w w' := by
  have hlen := h.len_le
  have hne : ((len : Int) == 16) = false := by simp; omega
  have HH := Lib.hid h
  clear h
  go_enter Try.func9, Try.ntmps9
  go_wp2_with fail
  go_loopg [8] len (fun k si wr => ∃ i : Nat, i ≤ len ∧ k = len - i ∧ si = .int .i64 i ∧ Kept (fun _ => True) w wr ∧ wr.rowIs w.heap.size 29 16 (ints .u8 (firstOf z i)))
  case atStart => exact ⟨0, by omega, rfl, rfl, (Kept.refl _ _).alloc _, (rowIs_lit16 w 29).congr fun j _ => by simp [ints, firstOf]⟩
  case round =>
    obtain ⟨i, hi, rfl, rfl, hk, hr⟩ := hrel
    by_cases hlt : i < len
    · have hi16 : i < 16 := by omega
      have hil : i < len := by omega
      obtain ⟨b, off, rfl, hlc, _, hc, _⟩ := HH.out.cells (by omega)
      have c0 : wr.cell? ⟨b, off + i, none⟩ = some (.int .u8 (z.getD i 0)) := hk.cellOf (hc i (by omega)) trivial
      have c1 : wr.cell? ⟨w.heap.size, i, none⟩ = some (.int .u8 (firstOf z i i)) := hr.cell (by omega)
      have c2 : wr.frozen? ⟨w.heap.size, i, none⟩ = false := hr.frozen _
      clear hc
      generalize hv : z.getD i 0 = v at c0
      have HV := Lib.hid hv
      clear hv
      go_wp2
      go_roundg (len - (i + 1))
      case measure => go_light; omega
      case rel =>
        go_light
        exact ⟨i + 1, by omega, rfl, by go_num, hk.setCell (fun h => by simp at h) _, (hr.set _ _).congr fun j _ => by rw [← HV.out]; exact firstOf_step⟩
    · have ei : i = len := by omega
      rw [ei] at hr
      clear ei
      go_wp2_with (first | ((with_reducible refine wpList_load_all (w := wr) (op := ⟨some 18, .load 29 (.tmp 2), _, _, _, _⟩) ?_ 29 (.tmp 2) ?_ w.heap.size 16 ?_ hr ?_ Try.underlying29 ?_ ?_ ?_); (· rfl); (· rfl); (· rfl); (· omega); (· rfl); (· exact size29)) | ((with_reducible refine wpList_store_rowIs (w := wr) (op := ⟨none, .store 29 (.tmp 2) (.tmp 18), _, _, _, _⟩) ?_ 29 (.tmp 2) (.tmp 18) ?_ w.heap.size 0 16 (g := ints .u8 (firstOf z len)) ?_ ?_ hr ?_ ?_ ?_ ?_); (· rfl); (· rfl); (· rfl); (· rfl); (· omega); (· exact size29); (· exact fun _ => rfl)))
      exact bodyPost_ret (v := .tuple #[.agg (agg 16 (ints .u8 (firstOf z len))), .bool false]) (results_rowIs_tmp Try.results9 (rowIs_lay_all hr _) rfl rfl Try.underlying29 rfl size29) rfl ⟨rfl, hk.lay _ _ _ _ (fun h => by omega)⟩

set_option maxHeartbeats 1000000 in
set_option maxRecDepth 100000 in
theorem counted_more (a : Option Addr) (len cap : Nat) (z : List Int) (w : World) (h : IsRow .u8 w a len cap z) (hl : 16 < len) :
    Calls Try.prog 9 #[.slice a len cap] w fun e w' => e = .returned (.tuple #[.agg (agg 16 (ints .u8 (firstOf z 16))), .bool false]) ∧ Kept (fun _ => True) w w' := by
  have hlen := h.len_le
  have hne : ((len : Int) == 16) = false := by simp; omega
  have HH := Lib.hid h
  clear h
  go_enter Try.func9, Try.ntmps9
  go_wp2_with fail
  go_loopg [8] 16 (fun k si wr => ∃ i : Nat, i ≤ 16 ∧ k = 16 - i ∧ si = .int .i64 i ∧ Kept (fun _ => True) w wr ∧ wr.rowIs w.heap.size 29 16 (ints .u8 (firstOf z i)))
  case atStart => exact ⟨0, by omega, rfl, rfl, (Kept.refl _ _).alloc _, (rowIs_lit16 w 29).congr fun j _ => by simp [ints, firstOf]⟩
  case round =>
    obtain ⟨i, hi, rfl, rfl, hk, hr⟩ := hrel
    by_cases hlt : i < 16
    · have hi16 : i < 16 := by omega
      have hil : i < len := by omega
      obtain ⟨b, off, rfl, hlc, _, hc, _⟩ := HH.out.cells (by omega)
      have c0 : wr.cell? ⟨b, off + i, none⟩ = some (.int .u8 (z.getD i 0)) := hk.cellOf (hc i (by omega)) trivial
      have c1 : wr.cell? ⟨w.heap.size, i, none⟩ = some (.int .u8 (firstOf z i i)) := hr.cell (by omega)
      have c2 : wr.frozen? ⟨w.heap.size, i, none⟩ = false := hr.frozen _
      clear hc
      generalize hv : z.getD i 0 = v at c0
      have HV := Lib.hid hv
      clear hv
      go_wp2
      go_roundg (16 - (i + 1))
      case measure => go_light; omega
      case rel =>
        go_light
        exact ⟨i + 1, by omega, rfl, by go_num, hk.setCell (fun h => by simp at h) _, (hr.set _ _).congr fun j _ => by rw [← HV.out]; exact firstOf_step⟩
    · have ei : i = 16 := by omega
      rw [ei] at hr
      clear ei
      go_wp2_with (first | ((with_reducible refine wpList_load_all (w := wr) (op := ⟨some 18, .load 29 (.tmp 2), _, _, _, _⟩) ?_ 29 (.tmp 2) ?_ w.heap.size 16 ?_ hr ?_ Try.underlying29 ?_ ?_ ?_); (· rfl); (· rfl); (· rfl); (· omega); (· rfl); (· exact size29)) | ((with_reducible refine wpList_store_rowIs (w := wr) (op := ⟨none, .store 29 (.tmp 2) (.tmp 18), _, _, _, _⟩) ?_ 29 (.tmp 2) (.tmp 18) ?_ w.heap.size 0 16 (g := ints .u8 (firstOf z 16)) ?_ ?_ hr ?_ ?_ ?_ ?_); (· rfl); (· rfl); (· rfl); (· rfl); (· omega); (· exact size29); (· exact fun _ => rfl)))
      exact bodyPost_ret (v := .tuple #[.agg (agg 16 (ints .u8 (firstOf z 16))), .bool false]) (results_rowIs_tmp Try.results9 (rowIs_lay_all hr _) rfl rfl Try.underlying29 rfl size29) rfl ⟨rfl, hk.lay _ _ _ _ (fun h => by omega)⟩

end Go.Proofs.Ytpmbbampkedecaa
