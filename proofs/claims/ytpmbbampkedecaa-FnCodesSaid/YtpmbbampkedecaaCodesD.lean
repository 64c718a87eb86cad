/- Contracts of the functions that FnCodes calls: ZZCodes and impl.Codes. -/
import Derived.Test.YtpmbbampkedecaaCodesC
namespace Go.Proofs.Ytpmbbampkedecaa
open Go.Deep Go.RowKit

theorem wpList_build58 {ops : Array Oper} {rest : List Oper} {dst : Option Tmp} {t : TypeId} {pos : String} {after : Array Edge} {act : Act} {w : World} {Q : Exit → Act → World → Prop} (x y : Operand) (c : Nat → Nat) (a : Option Addr) (len cap : Nat)
    (hx : act.eval x = .agg (agg 16 (ints .u8 fun i => (c i : Int)))) (hy : act.eval y = .slice a len cap)
    (h : wpList Try.prog ops Q rest (act.put dst (.agg (agg 17 (specCells c a len cap)))) w) :
    wpList Try.prog ops Q (⟨dst, .build 58 #[(0, x), (1, y)], t, pos, after, none⟩ :: rest) act w :=
  wpList_build rfl 58 _ rfl _ rfl _ (by simp only [List.map_toArray, List.map_cons, List.map_nil, hx, hy]; exact build58 c a len cap w) h

/-- What the program's Codes hands back. -/
def CodesPost (w : World) (c sym : Nat → Nat) (len : Nat) (e : Ending) (w' : World) : Prop :=
  Kept (fun _ => True) w w' ∧ ∃ B, w.heap.size ≤ B ∧ e = .returned (.slice (some ⟨B, 0, none⟩) (greatest sym len + 1) (greatest sym len + 1)) ∧ w'.rowIs B 39 (greatest sym len + 1) (ints .u32 (enc (tab c sym 16)))

set_option maxHeartbeats 200000 in
set_option maxRecDepth 100000 in
theorem zz_codes_any (a : Option Addr) (len cap : Nat) (z : List Int) (c : Nat → Nat) (hc : ∀ i, c i ≤ 255) (w : World) (h : IsRow .u8 w a len cap z) (good : Good c len) :
    Calls Try.prog 16 #[.agg (agg 16 (ints .u8 fun i => c i)), .slice a len cap] w (CodesPost w c (fun k => (z.getD k 0).toNat) len) := by
  obtain ⟨b, off, rfl, hlc, hzl, hcell, hbw⟩ := h.cells good.pos
  have HH := Lib.hid h
  clear h
  have HCELL := Lib.hid hcell
  clear hcell
  have hm : ((w.alloc (.cells (agg 16 (ints .u8 fun i => (c i : Int))) 29)).alloc (.cells #[.slice none 0 0] 55)).rowIs (w.heap.size + 1) 55 1 (fun _ => .slice none 0 0) := by
    have := rowIs_replicate (w.alloc (.cells (agg 16 (ints .u8 fun i => (c i : Int))) 29)) 55 1 (.slice none 0 0)
    simp only [World.size_alloc] at this
    exact this
  have hcell2 : IsRow .u8 ((w.alloc (.cells (agg 16 (ints .u8 fun i => (c i : Int))) 29)).alloc (.cells #[.slice none 0 0] 55)) (some ⟨b, off, none⟩) len cap z := by
    rcases HH.out with ⟨e, _⟩ | ⟨x, e, h1, h2, h3, h4, h5⟩
    · cases e
    · cases e
      exact .inr ⟨_, rfl, h1, h2, h3, fun i hi => by
        have k := ((Kept.refl (fun _ => True) w).alloc (.cells (agg 16 (ints .u8 fun i => (c i : Int))) 29)).alloc (.cells #[.slice none 0 0] 55)
        exact k.cellOf (h4 i hi) trivial, h5⟩
  have HI := Lib.hid hcell2
  clear hcell2
  go_enter Try.func16, Try.ntmps16
  go_wp2_with (first | ((with_reducible refine wpList_load_all (op := ⟨some 6, .load 29 (.tmp 2), _, _, _, _⟩) ?_ 29 (.tmp 2) ?_ w.heap.size 16 ?_ ((rowIs_agg w 29 16 _).alloc _) ?_ Try.underlying29 ?_ ?_ ?_); (· rfl); (· rfl); (· rfl); (· omega); (· rfl); (· exact size29)) | ((with_reducible refine wpList_build58 _ _ c (some ⟨b, off, none⟩) len cap ?_ ?_ ?_); (· rfl); (· rfl)))
  refine (init_any (w.heap.size + 1) 55 (some ⟨b, off, none⟩) len cap z c hc _ HI.out good (fun b' off' e => by cases e; omega) hm).mono ?_
  rintro e w1 ⟨rfl, hk, B, hB, hv, ht⟩
  have k1 : w1.cell? ⟨w.heap.size + 1, 0, none⟩ = some (.slice (some ⟨B, 0, none⟩) (greatest (fun k => (z.getD k 0).toNat) len + 1) (greatest (fun k => (z.getD k 0).toNat) len + 1)) := hv.cell (by omega)
  go_wp2_with fail
  go_ret
  refine ⟨((((Kept.refl _ _).alloc _).alloc _).trans' hk fun i hi _ => by omega), B, ?_, rfl, ht⟩
  simp at hB; omega

set_option maxHeartbeats 200000 in
set_option maxRecDepth 100000 in
theorem impl_codes_any (a : Option Addr) (len cap : Nat) (z : List Int) (c : Nat → Nat) (hc : ∀ i, c i ≤ 255) (w : World) (h : IsRow .u8 w a len cap z) (good : Good c len) :
    Calls Try.prog 11 #[.agg (agg 16 (ints .u8 fun i => c i)), .slice a len cap] w (CodesPost w c (fun k => (z.getD k 0).toNat) len) := by
  have hcell2 : IsRow .u8 (w.alloc (.cells (agg 16 (ints .u8 fun i => (c i : Int))) 29)) a len cap z := by
    rcases h with h | ⟨x, e, h1, h2, h3, h4, h5⟩
    · exact .inl h
    · exact .inr ⟨x, e, h1, h2, h3, fun i hi => ((Kept.refl (fun _ => True) w).alloc (.cells (agg 16 (ints .u8 fun i => (c i : Int))) 29)).cellOf (h4 i hi) trivial, h5⟩
  have HI := Lib.hid hcell2
  clear hcell2 h
  go_enter Try.func11, Try.ntmps11
  go_wp2_with (((with_reducible refine wpList_load_all (op := ⟨some 5, .load 29 (.tmp 2), _, _, _, _⟩) ?_ 29 (.tmp 2) ?_ w.heap.size 16 ?_ (rowIs_agg w 29 16 _) ?_ Try.underlying29 ?_ ?_ ?_); (· rfl); (· rfl); (· rfl); (· omega); (· rfl); (· exact size29)))
  refine (zz_codes_any a len cap z c hc _ HI.out good).mono ?_
  rintro e w1 ⟨hk, B, hB, rfl, ht⟩
  go_wp2_with fail
  go_ret
  refine ⟨((Kept.refl _ _).alloc _).trans hk, B, ?_, rfl, ht⟩
  simp at hB; omega
end Go.Proofs.Ytpmbbampkedecaa
