/- Texts of mine, united so that a claim holds fewer files: LutA, LutB, LutC, DhtA, Dht1, Dht3. -/
import Derived.Test.YtghjlekdibcjdaaGreatDoorSpecs
import Derived.Test.YtghjlekdibcjdaaGreatDoorCodesLaw
import Derived.BigRegion
import Derived.Deep.OwnRows
import Derived.StillTailTactics
import Derived.Test.YtghjlekdibcjdaaGreatDoorWrC
import Derived.Deep.LoopGhost
/- Contracts of the functions that FnCodes calls: the program's side. -/
namespace Go.Proofs.YtghjlekdibcjdaaGreatDoor
open Go.Deep Go.RowKit
/-- The cells of a huffmanSpec. -/
def specCells (c : Nat → Nat) (a : Option Addr) (len cap : Nat) : Nat → Value := fun j => if j < 16 then .int .u8 (c j) else .slice a len cap
theorem info76 : (Tryz.prog.info? 76).map (fun i => (i.zero, i.size, i.bytes)) = some (some (.int .u32 0), 1, 4) := by kernel_rfl

/-- The greatest of the first symbols. -/
def greatest (sym : Nat → Nat) : Nat → Nat
  | 0 => 0
  | i + 1 => max (greatest sym i) (sym i)
theorem greatest_le (sym : Nat → Nat) : ∀ {n i : Nat}, i < n → sym i ≤ greatest sym n
  | 0, _, h => by omega
  | n + 1, i, h => by
    simp only [greatest]
    by_cases e : i = n
    · subst e; omega
    · have := greatest_le sym (n := n) (i := i) (by omega); omega
theorem greatest_255 {sym : Nat → Nat} (h : ∀ i, sym i ≤ 255) : ∀ n, greatest sym n ≤ 255
  | 0 => by simp [greatest]
  | n + 1 => by have := greatest_255 h n; have := h n; simp only [greatest]; omega
/-- An entry of the compiled table. -/
def enc (t : Nat → Nat × Nat) : Nat → Int := fun s => (((t s).1 * 16777216 + (t s).2 : Nat) : Int)

/-- What holds in init's first loop. -/
structure IA (w wr : World) (hb hi nn : Nat) (gv : Nat → Value) (T : TypeId) (f : Nat → Value) : Prop where
  kept : Kept (fun k => k ≠ hb) w wr
  size : wr.heap.size = w.heap.size + 1
  spec : wr.rowIs w.heap.size 119 17 f
  var : wr.rowIs hb T nn gv
/-- What holds in init's other loops. -/
structure IB (w wr : World) (hb hi nn : Nat) (gv : Nat → Value) (T : TypeId) (f : Nat → Value) (m : Nat) (t : Nat → Nat × Nat) : Prop where
  kept : Kept (fun k => k ≠ hb) w wr
  spec : wr.rowIs w.heap.size 119 17 f
  var : wr.rowIs hb T nn fun j => if j = hi then .slice (some ⟨w.heap.size + 1, 0, none⟩) (m + 1) (m + 1) else gv j
  tab : wr.rowIs (w.heap.size + 1) 76 (m + 1) (ints .u32 (enc t))
theorem IA.make {w wr : World} {hb hi nn : Nat} {gv : Nat → Value} {T : TypeId} {f : Nat → Value} (h : IA w wr hb hi nn gv T f) (hbw : hb < w.heap.size) (m : Nat) (c sym : Nat → Nat) :
    IB w ((wr.alloc (.cells (madeCells #[.int .u32 0] (m + 1)) 76)).setCell ⟨hb, hi, none⟩ (.slice (some ⟨w.heap.size + 1, 0, none⟩) (m + 1) (m + 1))) hb hi nn gv T f m (tb c sym 0 0) := by
  have hmade := World.rowIs_made wr (.int .u32 0) (m + 1) 76
  rw [h.size] at hmade
  refine ⟨(h.kept.alloc _).setCell (fun _ h => h rfl) _, (h.spec.alloc _).setOther (by simp; omega) _, (h.var.alloc _).set hi _, (hmade.setOther (by simp; omega) _).congr fun j _ => by simp [ints, enc, tb, fill, YtghjlekdibcjdaaGreatDoor.tab]⟩
theorem IB.step {w wr : World} {hb hi nn : Nat} {gv : Nat → Value} {T : TypeId} {f : Nat → Value} {m : Nat} {c sym : Nat → Nat} {i j sv : Nat} {v : Int} (h : IB w wr hb hi nn gv T f m (tb c sym i j)) (hbw : hb < w.heap.size) (hs : sym (cnt c i + j) = sv)
    (hv : v = (((i + 1) * 16777216 + (cd c i + j) : Nat) : Int)) :
    IB w ((wr.setCell ⟨w.heap.size + 1, sv, none⟩ (.int .u32 v)).drew) hb hi nn gv T f m (tb c sym i (j + 1)) :=
  ⟨(h.kept.setCell (fun h => by simp at h; omega) _).drew, (h.spec.setOther (by simp) _).drew, (h.var.setOther (by simp; omega) _).drew, ((h.tab.set _ _).congr fun q _ => by
    simp only [ints, enc, tb_step, hs, hv]
    by_cases e : q = sv
    · rw [if_pos e, if_pos e]
    · rw [if_neg e, if_neg e]).drew⟩

set_option maxHeartbeats 1000000 in
set_option maxRecDepth 100000 in
theorem init_any (hb hi nn : Nat) (gv : Nat → Value) (hin : hi < nn) (hgv : gv hi = .slice none 0 0) (T : TypeId) (a : Option Addr) (len cap : Nat) (z : List Int) (c : Nat → Nat) (hc : ∀ i, c i ≤ 255) (w : World) (h : IsRow .u8 w a len cap z) (good : Good c len) (hx : ∀ b off, a = some ⟨b, off, none⟩ → b ≠ hb) (hh : w.rowIs hb T nn gv) :
    Calls Tryz.prog 49 #[.pointer (some ⟨hb, hi, none⟩), .agg (agg 17 (specCells c a len cap))] w fun e w' => e = .returned (.tuple #[]) ∧ Kept (fun k => k ≠ hb) w w' ∧
      ∃ B, w.heap.size ≤ B ∧ w'.rowIs hb T nn (fun j => if j = hi then .slice (some ⟨B, 0, none⟩) (greatest (fun k => (z.getD k 0).toNat) len + 1) (greatest (fun k => (z.getD k 0).toNat) len + 1) else gv j) ∧
        w'.rowIs B 76 (greatest (fun k => (z.getD k 0).toNat) len + 1) (ints .u32 (enc (tab c (fun k => (z.getD k 0).toNat) 16))) := by
  have hlen := h.len_le
  have HH := Lib.hid h
  clear h
  have HC := Lib.hid hc
  clear hc
  have hpos := good.pos
  obtain ⟨b, off, rfl, hlc, _, hcell, hbw⟩ := HH.out.cells hpos
  have HCELL := Lib.hid hcell
  have hne := hx b off rfl
  clear hx
  clear hcell
  have hspec := rowIs_agg w 119 17 (specCells c (some ⟨b, off, none⟩) len cap)
  have c16 : (w.alloc (.cells (agg 17 (specCells c (some ⟨b, off, none⟩) len cap)) 119)).cell? ⟨w.heap.size, 16, none⟩ = some (.slice (some ⟨b, off, none⟩) len cap) := hspec.cell (i := 16) (by omega)
  go_enter Tryz.func49, Tryz.ntmps49
  have hsym : ∀ i, (fun k => (z.getD k 0).toNat) i ≤ 255 := fun i => by have := HH.out.u8 i; simp only; omega
  have HS := Lib.hid hsym
  clear hsym
  have hbw2 := hh.lt
  go_wp2_with fail
  go_loopg [4, 15] len (fun k s4 s15 wr => ∃ i : Nat, i ≤ len ∧ k = len - i ∧ s4 = .int .i64 (greatest (fun k => (z.getD k 0).toNat) i : Int) ∧ s15 = .int .i64 i ∧ IA w wr hb hi nn gv T (specCells c (some ⟨b, off, none⟩) len cap))
  case atStart => exact ⟨0, by omega, rfl, rfl, rfl, (Kept.refl _ _).alloc _, by simp, hspec, hh.alloc _⟩
  case round =>
    obtain ⟨i, hi1, rfl, rfl, rfl, hs⟩ := hrel
    clear hspec c16
    have hg255 := greatest_255 HS.out i
    by_cases hlt : i < len
    · obtain ⟨sv, hsv⟩ : ∃ sv : Nat, (z.getD i 0).toNat = sv := ⟨_, rfl⟩
      have hsb := HH.out.u8 i
      have hs255 : sv ≤ 255 := by omega
      have hsz : z.getD i 0 = (sv : Int) := by omega
      have c0 : wr.cell? ⟨b, off + i, none⟩ = some (.int .u8 (sv : Int)) := by
        rw [← hsz]
        exact hs.kept.cellOf (HCELL.out i (by omega)) hne
      have hgs : greatest (fun k => (z.getD k 0).toNat) (i + 1) = max (greatest (fun k => (z.getD k 0).toNat) i) sv := by rw [← hsv]; rfl
      have HG := Lib.hid hgs
      clear hsv hsz hsb hgs
      generalize hgi : greatest (fun k => (z.getD k 0).toNat) i = gi at *
      by_cases hgt : gi < sv
      · go_wp2
        go_roundg (len - (i + 1))
        case measure => go_light; omega
        case rel => go_light; exact ⟨i + 1, by omega, rfl, by rw [HG.out, Nat.max_eq_right (by omega)], by go_num, hs⟩
      · go_wp2
        go_roundg (len - (i + 1))
        case measure => go_light; omega
        case rel => go_light; exact ⟨i + 1, by omega, rfl, by rw [HG.out, Nat.max_eq_left (by omega)], by go_num, hs⟩
    · have ei : i = len := by omega
      obtain ⟨m, hm⟩ : ∃ m, greatest (fun k => (z.getD k 0).toNat) len = m := ⟨_, rfl⟩
      rw [ei, hm] at hg255
      rw [ei, hm]
      have hmk := run_make_row' (P := Tryz.prog) 90 76 (.int .u32 0) 4 Tryz.underlying90 info76 rfl .i64 .i64 (m + 1) (by omega) (by omega)
      have ec : ((m + 1 : Nat) : Int) = (m : Int) + 1 := by omega
      rw [ec] at hmk
      have d0 : ∀ o, (wr.alloc o).cell? ⟨hb, hi, none⟩ = some (.slice none 0 0) := fun o => by rw [(hs.var.alloc o).cell hin, hgv]
      have d1 : ∀ o, (wr.alloc o).frozen? ⟨hb, hi, none⟩ = false := fun o => (hs.var.alloc o).frozen _
      clear ec ei
      go_wp2_with fail
      have hB := hs.make hbw2 m c (fun k => (z.getD k 0).toNat)
      rw [← hs.size] at hB
      have hsz := hs.size
      have HSZ := Lib.hid hsz
      clear hmk d0 d1 hsz hs
      have HM := Lib.hid hm
      clear hm
      go_loopg [7, 8, 9] 16 (fun k s7 s8 s9 wr => ∃ i : Nat, i ≤ 16 ∧ k = 16 - i ∧ s7 = .int .u32 (cd c i : Int) ∧ s8 = .int .i64 (cnt c i : Int) ∧ s9 = .int .i64 i ∧ IB w wr hb hi nn gv T (specCells c (some ⟨b, off, none⟩) len cap) m (tb c (fun k => (z.getD k 0).toNat) i 0))
      case atStart => exact ⟨0, by omega, rfl, rfl, rfl, rfl, by rw [HSZ.out] at hB ⊢; exact hB⟩
      case round =>
        obtain ⟨i, hi1, rfl, rfl, rfl, rfl, hs⟩ := hrel
        clear hB
        by_cases hlt : i < 16
        · have hltd : decide ((i : Int) < 16) = true := by simp; omega
          have hci := HC.out i
          have hcd := cd_small HC.out (i := i) (by omega)
          have hcn := cnt_le HC.out i
          go_wp2
          go_loopg [7, 8, 11] (c i) (fun k s7 s8 s11 wr => ∃ j : Nat, j ≤ c i ∧ k = c i - j ∧ s7 = .int .u32 ((cd c i : Int) + j) ∧ s8 = .int .i64 ((cnt c i : Int) + j) ∧ s11 = .int .u8 j ∧ IB w wr hb hi nn gv T (specCells c (some ⟨b, off, none⟩) len cap) m (tb c (fun k => (z.getD k 0).toNat) i j))
          case atStart => exact ⟨0, by omega, rfl, by simp, by simp, rfl, hs⟩
          case round =>
            obtain ⟨j, hj, rfl, rfl, rfl, rfl, hs⟩ := hrel
            have x0 : wr.cell? ⟨w.heap.size, i, none⟩ = some (.int .u8 (c i : Int)) := by rw [hs.spec.cell (by omega)]; simp only [specCells]; rw [if_pos hlt]
            have x1 : wr.cell? ⟨w.heap.size, 16, none⟩ = some (.slice (some ⟨b, off, none⟩) len cap) := hs.spec.cell (by omega)
            by_cases hjc : j < c i
            · have hjd : decide ((j : Int) < (c i : Int)) = true := by simp; omega
              have hk := good.lt hlt hjc
              have hco := good.code hlt hjc
              obtain ⟨sv, hsv⟩ : ∃ sv : Nat, (z.getD (cnt c i + j) 0).toNat = sv := ⟨_, rfl⟩
              have hsb := HH.out.u8 (cnt c i + j)
              have hs255 : sv ≤ 255 := by omega
              have hsm : sv ≤ m := by rw [← HM.out, ← hsv]; exact greatest_le (fun k => (z.getD k 0).toNat) hk
              have hsz : z.getD (cnt c i + j) 0 = (sv : Int) := by omega
              have c0 : wr.cell? ⟨b, off + (cnt c i + j), none⟩ = some (.int .u8 (sv : Int)) := by
                rw [← hsz]
                exact hs.kept.cellOf (HCELL.out _ (by omega)) hne
              obtain ⟨old, hold⟩ : ∃ old, enc (tb c (fun k => (z.getD k 0).toNat) i j) sv = old := ⟨_, rfl⟩
              have c1 : wr.cell? ⟨w.heap.size + 1, sv, none⟩ = some (.int .u32 old) := by rw [hs.tab.cell (by omega)]; simp only [ints, hold]
              have c2 : wr.frozen? ⟨w.heap.size + 1, sv, none⟩ = false := hs.tab.frozen _
              have c3 : wr.cell? ⟨hb, hi, none⟩ = some (.slice (some ⟨w.heap.size + 1, 0, none⟩) (m + 1) (m + 1)) := by rw [hs.var.cell hin, if_pos rfl]
              have HSV := Lib.hid hsv
              clear hsv hsz hsb hold
              obtain ⟨V, hV, hor⟩ : ∃ V : Int, V = (((i + 1) * 16777216 + (cd c i + j) : Nat) : Int) ∧ bits BinOp.or IntKind.u32 (((i : Int) + 1) * 16777216) ((cd c i : Int) + j) = V := ⟨_, rfl, by
                have := u32_or_nat ((i + 1) * 16777216) (cd c i + j) (by omega) (by omega)
                rw [nat_join 24 _ _ (by omega) (by omega)] at this
                rw [← this]
                congr 1⟩
              have HV := Lib.hid hV
              clear hV
              go_wp2_with fail
              go_region
              go_wp2
              go_roundg (c i - (j + 1))
              case measure => go_light; omega
              case rel =>
                go_light
                exact ⟨j + 1, by omega, rfl, by go_num, by go_num, rfl, hs.step hbw2 HSV.out HV.out⟩
            · have hjd : decide ((j : Int) < (c i : Int)) = false := by simp; omega
              have ej : j = c i := by omega
              rw [ej] at hs
              go_wp2
              go_roundg (16 - (i + 1))
              case measure => go_light; omega
              case rel =>
                go_light
                exact ⟨i + 1, by omega, rfl, by simp only [cd]; congr 1; omega, by simp only [cnt]; congr 1; try omega, rfl, hs⟩
        · have hltd : decide ((i : Int) < 16) = false := by simp; omega
          have ei : i = 16 := by omega
          rw [ei] at hs
          go_wp2
          go_end0
          exact ⟨rfl, hs.kept, w.heap.size + 1, by omega, by rw [HM.out]; exact hs.var, by rw [HM.out]; exact hs.tab⟩
end Go.Proofs.YtghjlekdibcjdaaGreatDoor
/- The contract of newLUT. -/
namespace Go.Proofs.YtghjlekdibcjdaaGreatDoor
open Go.Deep Go.RowKit
set_option linter.unusedVariables false
theorem good_small0 : ∀ h, h < 4 → ∀ i, i < 16 → ∀ j, j < cntN h i → cd (cntN h) i + j < 2 ^ (i + 1) - 1 := by decide +kernel
theorem good_all : ∀ h, h < 4 → cnt (cntN h) 16 = valLen h ∧ 0 < valLen h := by decide +kernel
theorem good_spec (h : Nat) (hh : h < 4) : Good (cntN h) (valLen h) := ⟨(good_all h hh).1, (good_all h hh).2, good_small0 h hh⟩
theorem cnt_255 : ∀ h, h < 4 → ∀ i, i < 16 → cntN h i ≤ 255 := by decide +kernel
theorem greatest_lut : ∀ h, h < 4 → greatest (valN h) (valLen h) + 1 = lutLen h := by decide +kernel
theorem val_255 : ∀ h, h < 4 → ∀ i, i < valLen h → valN h i ≤ 255 := by decide +kernel
theorem tab_lut : ∀ h, h < 4 → ∀ i, i < lutLen h → (tab (cntN h) (valN h) 16 i).1 * 16777216 + (tab (cntN h) (valN h) 16 i).2 = lutN h i := by decide +kernel
end Go.Proofs.YtghjlekdibcjdaaGreatDoor
/- The contract of newLUT. -/
namespace Go.Proofs.YtghjlekdibcjdaaGreatDoor
open Go.Deep Go.RowKit
set_option linter.unusedVariables false
theorem cnt_le255 (h : Nat) (hh : h < 4) (i : Nat) : cntN h i ≤ 255 := by
  by_cases hi : i < 16
  · exact cnt_255 h hh i hi
  · have hl : ∀ h, h < 4 → (cntL h).length = 16 := by decide +kernel
    unfold cntN
    rw [List.getD_eq_getElem?_getD, List.getElem?_eq_none (by rw [hl h hh]; omega)]
    simp
theorem valL_len : ∀ h, h < 4 → (valL h).length = valLen h := by decide +kernel
theorem valLen_in : ∀ h, h < 4 → valLen h ≤ 162 := by decide +kernel
theorem sym_eq (h : Nat) : (fun k => (((valL h).map Int.ofNat).getD k 0).toNat) = valN h := by
  funext k
  unfold valN
  rw [List.getD_eq_getElem?_getD, List.getD_eq_getElem?_getD, List.getElem?_map]
  cases (valL h)[k]? <;> simp
theorem val_z (h k : Nat) : ((valL h).map Int.ofNat).getD k 0 = (valN h k : Int) := by
  unfold valN
  rw [List.getD_eq_getElem?_getD, List.getD_eq_getElem?_getD, List.getElem?_map]
  cases (valL h)[k]? <;> simp
theorem spec_isRow {b h : Nat} (hh : h < 4) {w : World} (hr : w.rowIs b 5 (valLen h) (ints .u8 fun i => (valN h i : Int))) : IsRow .u8 w (some ⟨b, 0, none⟩) (valLen h) (valLen h) ((valL h).map Int.ofNat) := by
  refine .inr ⟨_, rfl, Nat.le_refl _, by have := valLen_in h hh; unfold maxLen; omega, by rw [List.length_map, valL_len h hh], ?_, ?_⟩
  · intro i hi
    rw [List.length_map, valL_len h hh] at hi
    rw [Addr.add_mid, Nat.zero_add, hr.cell hi, val_z]
    rfl
  · intro n hn
    obtain ⟨m, hm, rfl⟩ := List.mem_map.1 hn
    obtain ⟨i, hi, rfl⟩ := List.mem_iff_getElem.1 hm
    rw [valL_len h hh] at hi
    have hv := val_255 h hh i hi
    unfold valN at hv
    rw [List.getD_eq_getElem?_getD, List.getElem?_eq_getElem (by rw [valL_len h hh]; exact hi)] at hv
    simp at hv
    simp [Lit.wf, IntKind.min, IntKind.max, IntKind.bits, IntKind.signed]
    omega
/-- The tables of newLUT. -/
def lutSl (L : Nat → Nat) : Nat → Value := fun h => .slice (some ⟨L h, 0, none⟩) (lutLen h) (lutLen h)
theorem init_lut (lb h b : Nat) (gv : Nat → Value) (hh : h < 4) (hgv : gv h = .slice none 0 0) (w : World) (hr : w.rowIs b 5 (valLen h) (ints .u8 fun i => (valN h i : Int))) (hv : w.rowIs lb 92 4 gv) :
    Calls Tryz.prog 49 #[.pointer (some ⟨lb, h, none⟩), .agg (agg 17 (specF h b))] w fun e w' => e = .returned (.tuple #[]) ∧ Kept (fun k => k ≠ lb) w w' ∧ ∃ B, w.heap.size ≤ B ∧ w'.rowIs lb 92 4 (fun j => if j = h then .slice (some ⟨B, 0, none⟩) (lutLen h) (lutLen h) else gv j) ∧ w'.rowIs B 76 (lutLen h) (ints .u32 fun i => (lutN h i : Int)) := by
  have hne : b ≠ lb := type_ne (rowIs_heap hr) (rowIs_heap hv) (by decide)
  have h1 := init_any lb h 4 gv hh hgv 92 (some ⟨b, 0, none⟩) (valLen h) (valLen h) ((valL h).map Int.ofNat) (cntN h) (cnt_le255 h hh) w (spec_isRow hh hr) (good_spec h hh) (fun b' off e => by injection e with e; injection e with e1; rw [← e1]; exact hne) hv
  rw [sym_eq, greatest_lut h hh] at h1
  refine h1.mono ?_
  rintro e w' ⟨rfl, hk, B, hB, hv', ht⟩
  exact ⟨rfl, hk, B, hB, hv', ht.congr fun i hi => by
    unfold ints enc
    rw [tab_lut h hh i hi]⟩
theorem size119 : (Tryz.prog.info? 119).map (·.size) = some 17 := by kernel_rfl
theorem size92 : (Tryz.prog.info? 92).map (·.size) = some 4 := by kernel_rfl
section
variable {P : Program} {ops : Array Oper} {w : World}
theorem wpStill_value {Q : Act → Prop} {rest : List Oper} {o : Oper} {a : Act} (hw : Region.wanted o (yielded ops a.tmps) = true) (v : Value) (hrun : (execOp a.eval o).run P w = .ok (.value v) w) (h : wpStill P ops w Q rest (a.put o.dst v)) : wpStill P ops w Q (o :: rest) a := by
  show if Region.wanted o (yielded ops a.tmps) then _ else _
  rw [if_pos hw]
  unfold Oper.still
  rw [hrun]
  exact ⟨rfl, h⟩
/-- A row is loaded whole. -/
theorem wpStill_load_all {Q : Act → Prop} {rest : List Oper} {o : Oper} {a : Act} (hw : Region.wanted o (yielded ops a.tmps) = true) (ty : TypeId) (x : Operand) (ho : o.op = .load ty x)
    (b m : Nat) (hx : a.eval x = .pointer (some ⟨b, 0, none⟩)) {t : TypeId} {n : Nat} {f : Nat → Value} (hr : w.rowIs b t n f) (hm : m ≤ n) {d : TypeDesc}
    (hu : P.underlying ty = some d) (hd : d.isRow = true) (hi : (P.info? ty).map (·.size) = some m)
    (h : wpStill P ops w Q rest (a.put o.dst (.agg (agg m f)))) : wpStill P ops w Q (o :: rest) a :=
  wpStill_value hw _ (by
    have hr0 := rowIs_range hr 0 m (by omega)
    have hrun := run_loadVar_mid (P := P) w b 0 ty _ d hr0 hu hd (by simpa using hi)
    have e : ((List.range m).map fun j => f (0 + j)).toArray = agg m f := agg_congr fun j _ => by rw [Nat.zero_add]
    rw [e] at hrun
    unfold execOp
    simp only [ho, hx, Instr.loadAt, Instr.sureAddr, Sem.run_bind, Sem.run_pure, Result.andThen_ok, hrun]) h
end
/-- What holds at the head of newLUT's loop. -/
structure NL (w : World) (H : Nat) (b : Nat → Nat) (L : Nat → Nat) (i : Nat) (wr : World) : Prop where
  specs : SpecRows b wr
  var : wr.rowIs H 92 4 (fun j => if j < i then lutSl L j else .slice none 0 0)
  rows : ∀ h, h < i → wr.rowIs (L h) 76 (lutLen h) (ints .u32 fun k => (lutN h k : Int))
  high : ∀ h, h < i → H < L h
  kept : Kept (fun _ => True) w wr
theorem specsF_part (b : Nat → Nat) (i : Nat) : agg 17 (fun j => specsF b (i * 17 + j)) = agg 17 (specF i (b i)) := agg_congr fun j hj => by
  unfold specsF
  rw [show (i * 17 + j) / 17 = i by omega, show (i * 17 + j) % 17 = j by omega]
theorem specF_one (h b i : Nat) : (specF h b i).oneCell' = true := by
  unfold specF
  split <;> rfl
def slice0 : Nat → Value := fun _ => .slice none 0 0
set_option maxHeartbeats 2000000 in
set_option maxRecDepth 100000 in
theorem newLUT_any (w : World) : Calls Tryz.prog 36 #[] w fun e w' => ∃ L : Nat → Nat, e = .returned (.agg (agg 4 (lutSl L))) ∧ (∀ h, h < 4 → w'.rowIs (L h) 76 (lutLen h) (ints .u32 fun i => (lutN h i : Int))) ∧ (∀ h, h < 4 → w.heap.size < L h) ∧ Kept (fun _ => True) w w' := by
  obtain ⟨H, hH⟩ : ∃ H, w.heap.size = H := ⟨_, rfl⟩
  have hr0 : (w.alloc (.cells (agg 4 slice0) 92)).rowIs H 92 4 slice0 := by rw [← hH]; exact rowIs_agg w 92 4 slice0
  have CS := Lib.hid (specs_any (w.alloc (.cells (agg 4 slice0) 92)))
  have HR := Lib.hid (And.intro hr0 ((Kept.refl (fun _ => True) w).alloc (.cells (agg 4 slice0) 92)))
  clear hr0
  go_enter Tryz.func36, Tryz.ntmps36
  go_wp2_with (first
    | ((with_reducible refine wpList_alloc_agg (op := ⟨some 0, .alloc 92, _, _, _, _⟩) ?_ 92 (agg 4 slice0) H ?_ ?_ ?_); (· rfl); (· exact hH); (· kernel_rfl))
    | (go_at_call 48; (with_reducible refine CS.out.mono ?_); rintro e w1 ⟨b, rfl, hs, hb, hk⟩; have P := Lib.hid (And.intro hs (And.intro hb hk)); clear hs hb hk))
  have hNL : NL w H b (fun _ => 0) 0 w1 := by
    obtain ⟨h1, h2, h3⟩ := P.out
    exact ⟨h1, (h3.row HR.out.1 trivial).congr fun j _ => by rw [if_neg (by omega)]; rfl, fun h hh => by omega, fun h hh => by omega, HR.out.2.trans h3⟩
  clear CS P HR
  go_loopg [4] 4 (fun k s4 wr => ∃ (i : Nat) (L : Nat → Nat), i ≤ 4 ∧ k = 4 - i ∧ s4 = .int .i64 (i : Int) ∧ NL w H b L i wr)
  case atStart => exact ⟨0, _, by omega, rfl, rfl, hNL⟩
  case round =>
    clear hNL
    obtain ⟨i, L, hi, rfl, rfl, hN⟩ := hrel
    by_cases hlt : i < 4
    · have hidx : ∀ wx, (Instr.index 120 (.agg (agg 68 (specsF b))) (.int .i64 (i : Int))).run Tryz.prog wx = .ok (.agg (agg 17 (specF i (b i)))) wx := fun wx => by
        have := run_index_row (P := Tryz.prog) (t := 120) (e := 119) (n := 4) (m := 17) (N := 68) Tryz.underlying120 Tryz.underlying119 rfl size119 (specsF b) i hlt (by omega) wx
        rw [specsF_part] at this
        exact this
      obtain ⟨H2, hH2⟩ : ∃ H2, wr.heap.size = H2 := ⟨_, rfl⟩
      have hr2 : (wr.alloc (.cells (agg 17 specZ) 119)).rowIs H2 119 17 specZ := by rw [← hH2]; exact rowIs_agg wr 119 17 specZ
      have j0 : (0 : Int) ≤ (i : Int) := by omega
      have j1 : (i : Int) < 4 := by omega
      have HN := Lib.hid hN
      have HR2 := Lib.hid hr2
      clear hN hr2
      go_wp2_with (first
        | ((with_reducible refine wpList_alloc_agg (op := ⟨some 2, .alloc 119, _, _, _, _⟩) ?_ 119 (agg 17 specZ) H2 ?_ ?_ ?_); (· rfl); (· exact hH2); (· kernel_rfl))
        | ((with_reducible refine wpList_store_new (op := ⟨none, .store 119 (.tmp 2) (.tmp 7), _, _, _, _⟩) ?_ 119 (.tmp 2) (.tmp 7) ?_ H2 17 (g := specF i (b i)) ?_ ?_ HR2.out ?_ ?_ ?_); (· rfl); (· rfl); (· rfl); (· rfl); (· exact size119); (· exact specF_one i (b i)); (intro w2 k2 s2 r2; have P2 := Lib.hid (And.intro k2 r2); clear k2 s2 r2)))
      have hN1 : NL w H b L i w2 := by
        have hN := HN.out
        have hkw : Kept (fun k => k ≠ H2) wr w2 := ((Kept.refl (fun k => k ≠ H2) wr).alloc _).trans P2.out.1
        have hlw : ∀ k, k < wr.heap.size → k ≠ H2 := fun k hk => by omega
        exact ⟨fun h hh => hkw.row (hN.specs h hh) (hlw _ (hN.specs h hh).lt), hkw.row hN.var (hlw _ hN.var.lt), fun h hh => hkw.row (hN.rows h hh) (hlw _ (hN.rows h hh).lt), hN.high, hN.kept.trans' hkw fun k hk _ => hlw k (by have := hN.kept.size; omega)⟩
      have hrow2 : w2.drew.rowIs H2 119 17 (specF i (b i)) := P2.out.2
      have CI := Lib.hid (init_lut H i (b i) _ hlt (by simp) w2.drew (hN1.specs i hlt) hN1.var)
      have HN1 := Lib.hid hN1
      clear hN1 HN HR2 hidx
      refine wp_region_still_tail 3 (by kernel_rfl) (by kernel_rfl) ?_
      simp only [List.take_succ_cons, List.take_zero, List.drop_succ_cons, List.drop_zero]
      still_step
      still_step
      refine wpStill_load_all rfl 119 (.tmp 2) rfl H2 17 rfl hrow2 (by omega) Tryz.underlying119 rfl size119 ?_
      refine wpStill_nil ?_
      change wpList _ _ _ _ _ w2.drew
      go_wp2_with (go_at_call 49; (with_reducible refine CI.out.mono ?_); rintro e w3 ⟨rfl, hk, B, hB, hv, ht⟩; have P3 := Lib.hid (And.intro hk (And.intro hB (And.intro hv ht))); clear hk hB hv ht)
      go_roundg (4 - (i + 1))
      case measure => go_light; omega
      case rel =>
        go_light
        obtain ⟨hk, hB, hv, ht⟩ := P3.out
        have hN1 := HN1.out
        have hHs : H < w2.drew.heap.size := hN1.var.lt
        refine ⟨i + 1, fun j => if j = i then B else L j, by omega, rfl, by go_num, ⟨fun h hh => hk.row (show w2.drew.rowIs _ _ _ _ from hN1.specs h hh) (type_ne (rowIs_heap (hN1.specs h hh)) (rowIs_heap hN1.var) (by decide)), hv.congr fun j _ => ?_, fun h hh => ?_, fun h hh => ?_, ?_⟩⟩
        · by_cases e : j = i
          · subst e; rw [if_pos rfl, if_pos (by omega)]; unfold lutSl; simp
          · rw [if_neg e]
            by_cases e2 : j < i
            · rw [if_pos e2, if_pos (by omega)]; unfold lutSl; simp [e]
            · rw [if_neg e2, if_neg (by omega)]
        · by_cases e : h = i
          · subst e; rw [if_pos rfl]; exact ht
          · rw [if_neg e]
            exact hk.row (show w2.drew.rowIs _ _ _ _ from hN1.rows h (by omega)) (type_ne (rowIs_heap (hN1.rows h (by omega))) (rowIs_heap hN1.var) (by decide))
        · by_cases e : h = i
          · subst e; rw [if_pos rfl]; omega
          · rw [if_neg e]; exact hN1.high h (by omega)
        · have hk2 : Kept (fun k => k ≠ H) w2 w3 := ⟨hk.os, hk.tape, hk.output, hk.size, hk.block⟩
          exact hN1.kept.trans' hk2 fun k hk _ => by omega
    · obtain rfl : i = 4 := by omega
      have hvar : wr.rowIs H 92 4 (lutSl L) := hN.var.congr fun j hj => by rw [if_pos hj]
      have HN := Lib.hid (And.intro hN hvar)
      clear hN hvar
      have ho : ∀ i, (lutSl L i).oneCell' = true := fun _ => rfl
      go_wp2_with (first
        | ((with_reducible refine wpList_load_all (op := ⟨some 13, .load 92 (.tmp 0), _, _, _, _⟩) ?_ 92 (.tmp 0) ?_ H 4 ?_ HN.out.2 ?_ Tryz.underlying92 ?_ ?_ ?_); (· rfl); (· rfl); (· rfl); (· omega); (· rfl); (· exact size92))
        | ((with_reducible refine wpList_store_new (op := ⟨none, .store 92 (.tmp 0) (.tmp 13), _, _, _, _⟩) ?_ 92 (.tmp 0) (.tmp 13) ?_ H 4 (g := lutSl L) ?_ ?_ HN.out.2 ?_ ?_ ?_); (· rfl); (· rfl); (· rfl); (· rfl); (· exact size92); (· exact ho); (intro w2 k2 s2 r2; have P2 := Lib.hid (And.intro k2 r2); clear k2 s2 r2)))
      exact bodyPost_ret (v := .agg (agg 4 (lutSl L))) (results_rowIs Tryz.results36 P2.out.2 rfl Tryz.underlying92 rfl size92) rfl ⟨L, rfl, fun h hh => P2.out.1.row (HN.out.1.rows h hh) (by have := HN.out.1.high h hh; omega), fun h hh => by rw [hH]; exact HN.out.1.high h hh, HN.out.1.kept.trans' P2.out.1 fun k hk _ => by omega⟩
end Go.Proofs.YtghjlekdibcjdaaGreatDoor
/- What writeDHT writes, and what holds on its way. -/
namespace Go.Proofs.YtghjlekdibcjdaaGreatDoor
open Go.Deep Go.RowKit
set_option linter.unusedVariables false
/-- The Huffman tables as they are written. -/
def dhtMark (i : Nat) : Nat := [0, 16, 1, 17].getD i 0
def dhts : Nat → List Nat
  | 0 => []
  | i + 1 => dhts i ++ ([dhtMark i] ++ (cntL i ++ valL i))
theorem cntL_len : ∀ h, h < 4 → (cntL h).length = 16 := by decide +kernel
theorem dhts_len : ∀ i, i < 5 → (dhts i).length ≤ 420 := by decide +kernel
theorem specs_row (b : Nat → Nat) (i j : Nat) (hj : j < 17) : specsF b (17 * i + j) = specF i (b i) j := by
  unfold specsF
  rw [show (17 * i + j) / 17 = i by omega, show (17 * i + j) % 17 = j by omega]
def mlen : Nat → Nat
  | 0 => 2
  | i + 1 => mlen i + (17 + valLen i)
theorem mlen_in : ∀ i, i < 5 → mlen i ≤ 1000 := by decide +kernel
/-- What holds in writeDHT: the encoder, the values' rows. -/
structure DA (z : Ids) (eb : Nat) (g : Nat → Value) (T : List Nat) (b : Nat → Nat) (H : Nat) (w wr : World) : Prop where
  enc : EncG z eb g T wr
  specs : SpecRows b wr
  low : ∀ h, h < 4 → b h < H
  kept : Kept (z.hd eb) w wr
theorem DA.hd {z : Ids} {eb : Nat} {g g2 : Nat → Value} {T T2 : List Nat} {b : Nat → Nat} {H : Nat} {w wr w2 : World} (h : DA z eb g T b H w wr) (he : EncG z eb g2 T2 w2) (hb : ∀ h, h < 4 → z.hd eb (b h)) (k : Kept (z.hd eb) wr w2) : DA z eb g2 T2 b H w w2 :=
  ⟨he, fun i hi => k.row (h.specs i hi) (hb i hi), h.low, h.kept.trans k⟩
theorem DA.new {z : Ids} {eb : Nat} {g : Nat → Value} {T : List Nat} {b : Nat → Nat} {H n : Nat} {w wr w2 : World} {c : Array Value} {t : TypeId} (h : DA z eb g T b H w wr) (hn : wr.heap.size = n) (k : Kept (fun k => k ≠ n) (wr.alloc (.cells c t)) w2) : DA z eb g T b H w w2 := by
  have hk : Kept (fun k => k ≠ n) wr w2 := ((Kept.refl (fun k => k ≠ n) wr).alloc _).trans k
  have hlt : ∀ i, i < wr.heap.size → i ≠ n := fun i hi => by omega
  exact ⟨h.enc.kept hk fun i c t fz hi _ => hlt i (Array.getElem?_eq_some_iff.1 hi).1, fun i hi => hk.row (h.specs i hi) (hlt _ (h.specs i hi).lt), h.low, h.kept.trans' hk fun i hi _ => hlt i (by have := h.kept.size; omega)⟩
end Go.Proofs.YtghjlekdibcjdaaGreatDoor
/- The contract of writeDHT with 2 tables (printed by dht.py). -/
namespace Go.Proofs.YtghjlekdibcjdaaGreatDoor
open Go.Deep Go.RowKit
set_option linter.unusedVariables false
set_option maxHeartbeats 4000000 in
set_option maxRecDepth 100000 in
theorem dht_hd1 (z : Ids) (eb : Nat) (g : Nat → Value) (T : List Nat) (w : World) (h : EncG z eb g T w) (hT : T.length + 424 ≤ 4096) :
    Calls Tryz.prog 42 #[.pointer (some ⟨eb, 0, none⟩), .int .i64 1] w fun e w' => e = .returned (.tuple #[]) ∧ (∃ g', (∀ j, j < 2 ∨ 6 ≤ j → g' j = g j) ∧ EncG z eb g' (T ++ (mkr 196 210 ++ dhts 2)) w') ∧ Kept (z.hd eb) w w' := by
  have CS := Lib.hid (specs_any w)
  have HE := Lib.hid h
  have hlt : eb < w.heap.size ∧ z.bb < w.heap.size ∧ z.fb < w.heap.size := by
    obtain ⟨_, hr, _⟩ := h.buf.row
    exact ⟨h.row.lt, (Array.getElem?_eq_some_iff.1 h.buf.bw).1, hr.lt⟩
  clear h
  go_enter Tryz.func42, Tryz.ntmps42
  go_wp2_with (first
    | (go_at_call 48; (with_reducible refine CS.out.mono ?_); rintro e w1 ⟨b, rfl, hs, hb, hk⟩; obtain ⟨H, hH⟩ : ∃ H, w1.heap.size = H := ⟨_, rfl⟩; have hA0 : DA z eb g T b H w w1 := ⟨HE.out.all hk, hs, fun h hh => (by have := (hs h hh).lt; omega), hk.mono fun _ _ _ => trivial⟩; have hrz : (w1.alloc (.cells (agg 68 specZ) 120)).rowIs H 120 68 specZ := (by rw [← hH]; exact rowIs_agg w1 120 68 specZ); have hbd : ∀ h, h < 4 → z.hd eb (b h) := fun h hh => (by have := hb h hh; exact ⟨by omega, by omega, by omega⟩); have hHd : z.hd eb H := (by have := hk.size; exact ⟨by omega, by omega, by omega⟩); have HA0 := Lib.hid (And.intro hA0 hrz); have HBD := Lib.hid (And.intro hbd hHd); clear hA0 hrz hs hb hk hbd hHd)
    | ((with_reducible refine wpList_alloc_agg (op := ⟨some 5, .alloc 120, _, _, _, _⟩) ?_ 120 (agg 68 specZ) H ?_ ?_ ?_); (· rfl); (· exact hH); (· kernel_rfl))
    | ((with_reducible refine wpList_store_new (op := ⟨none, .store 120 (.tmp 5) (.tmp 11), _, _, _, _⟩) ?_ 120 (.tmp 5) (.tmp 11) ?_ H 68 (g := specsF b) ?_ ?_ HA0.out.2 ?_ ?_ ?_); (· rfl); (· rfl); (· rfl); (· rfl); (· exact size120); (· exact specsF_one _); (intro v0 k2 s2 r2; have hs0 : v0.heap.size = H + 1 := (by have := s2.out; simp at this; omega); have P0 := Lib.hid (And.intro (HA0.out.1.new hH k2) r2); clear k2 s2 r2)))
  clear CS HA0
  go_loopg [4, 19] 2 (fun k s4 s19 wr => ∃ i : Nat, i ≤ 2 ∧ k = 2 - i ∧ s4 = .int .i64 (mlen i : Int) ∧ s19 = .int .i64 (i : Int) ∧ DA z eb g T b H w wr ∧ wr.rowIs H 120 68 (specsF b))
  case atStart => exact ⟨0, by omega, rfl, rfl, rfl, P0.out⟩
  case round =>
    obtain ⟨i, hi, rfl, rfl, rfl, hA, hrow⟩ := hrel
    clear P0
    by_cases hlt : i < 2
    · obtain ⟨H2, hH2⟩ : ∃ H2, wr.heap.size = H2 := ⟨_, rfl⟩
      have hr2 : (wr.alloc (.cells (agg 17 specZ) 119)).rowIs H2 119 17 specZ := by rw [← hH2]; exact rowIs_agg wr 119 17 specZ
      have hvl := valLen_in i (by omega)
      have hml := mlen_in i (by omega)
      have hsl : specsF b (i * 17 + 16) = .slice (some ⟨b i, 0, none⟩) (valLen i) (valLen i) := by rw [Nat.mul_comm, specs_row b i 16 (by omega)]; rfl
      have hmn : (mlen (i + 1) : Int) = (mlen i : Int) + (17 + (valLen i : Int)) := by simp only [mlen]; omega
      have HM := Lib.hid hmn
      obtain ⟨vl, hvv⟩ : ∃ vl, valLen i = vl := ⟨_, rfl⟩
      obtain ⟨ml, hmm⟩ : ∃ ml, mlen i = ml := ⟨_, rfl⟩
      rw [hvv] at hvl hsl
      rw [hmm] at hml ⊢
      have j0 : (0 : Int) ≤ (i : Int) := by omega
      have j1 : (i : Int) < 2 := by omega
      have HN := Lib.hid (And.intro hA (And.intro hrow (And.intro hr2 (And.intro hvv hmm))))
      clear hA hrow hr2 hvv hmm hmn
      go_wp2_with (first
        | ((with_reducible refine wpList_load_rowIs (op := ⟨some 22, .load 119 (.tmp 21), _, _, _, _⟩) ?_ 119 (.tmp 21) ?_ H (i * 17) 17 ?_ HN.out.2.1 ?_ Tryz.underlying119 ?_ ?_ ?_); (· rfl); (· rfl); (· rfl); (· omega); (· rfl); (· exact size119))
        | ((with_reducible refine wpList_alloc_agg (op := ⟨some 8, .alloc 119, _, _, _, _⟩) ?_ 119 (agg 17 specZ) H2 ?_ ?_ ?_); (· rfl); (· exact hH2); (· kernel_rfl))
        | ((with_reducible refine wpList_store_new (op := ⟨none, .store 119 (.tmp 8) (.tmp 22), _, _, _, _⟩) ?_ 119 (.tmp 8) (.tmp 22) ?_ H2 17 (g := fun j => specsF b (i * 17 + j)) ?_ ?_ HN.out.2.2.1 ?_ ?_ ?_); (· rfl); (· rfl); (· rfl); (· rfl); (· exact size119); (· exact fun j => specsF_one b _); (intro w2 k2 s2 r2; have d0 : w2.cell? ⟨H2, 16, none⟩ = some (.slice (some ⟨b i, 0, none⟩) vl vl) := (by rw [r2.cell (by omega), hsl]); have P2 := Lib.hid (And.intro k2 r2); clear k2 s2 r2)))
      go_roundg (2 - (i + 1))
      case measure => go_light; omega
      case rel =>
        go_light
        have hk : Kept (fun k => k ≠ H2) wr w2 := ((Kept.refl (fun k => k ≠ H2) wr).alloc _).trans P2.out.1
        refine ⟨i + 1, by omega, rfl, ?_, by go_num, HN.out.1.new hH2 P2.out.1, hk.row HN.out.2.1 (by have := HN.out.2.1.lt; omega)⟩
        rw [HM.out, HN.out.2.2.2.1, HN.out.2.2.2.2]
    · obtain rfl : i = 2 := by omega
      have CM : Hid (Calls Tryz.prog 51 #[.pointer (some ⟨eb, 0, none⟩), .int .u8 196, .int .i64 210] wr fun e w' => e = .returned (.tuple #[]) ∧ (∃ g', (∀ j, j < 2 ∨ 6 ≤ j → g' j = g j) ∧ EncG z eb g' (T ++ mkr 196 210) w') ∧ Kept (z.hd eb) wr w') := Lib.hid (marker_hd z eb g T 196 210 wr hA.enc (by omega) (by omega))
      have hml : (mlen 2 : Int) = 210 := rfl
      have HN := Lib.hid (And.intro hA hrow)
      clear hA hrow
      go_wp2_with (go_at_call 51; (with_reducible refine CM.out.mono ?_); rintro e w1 ⟨rfl, ⟨g1, hg1, k1⟩, k2⟩; have P := Lib.hid (And.intro hg1 (And.intro (HN.out.1.hd k1 HBD.out.1 k2) (k2.row HN.out.2 HBD.out.2))); clear hg1 k1 k2)
      clear CM HN
      go_loopg [35] 2 (fun k s35 wr => ∃ i : Nat, i ≤ 2 ∧ k = 2 - i ∧ s35 = .int .i64 (i : Int) ∧ DA z eb g1 (T ++ (mkr 196 210 ++ dhts i)) b H w wr ∧ wr.rowIs H 120 68 (specsF b))
      case atStart => exact ⟨0, by omega, rfl, rfl, by simpa [dhts] using P.out.2.1, P.out.2.2⟩
      case round =>
        obtain ⟨i, hi, rfl, rfl, hA, hrow⟩ := hrel
        by_cases hlt : i < 2
        · obtain ⟨H2, hH2⟩ : ∃ H2, wr.heap.size = H2 := ⟨_, rfl⟩
          have hr2 : (wr.alloc (.cells (agg 17 specZ) 119)).rowIs H2 119 17 specZ := by rw [← hH2]; exact rowIs_agg wr 119 17 specZ
          have hsl : specsF b (i * 17 + 16) = .slice (some ⟨b i, 0, none⟩) (valLen i) (valLen i) := by rw [Nat.mul_comm, specs_row b i 16 (by omega)]; rfl
          have hstr : ∀ W, (Instr.index 9 (.string ⟨#[0, 16, 1, 17]⟩) (.int .i64 (i : Int))).run Tryz.prog W = .ok (.int .u8 (dhtMark i : Int)) W := fun W => by
            obtain rfl | rfl : i = 0 ∨ i = 1 := by omega
            · kernel_rfl
            · kernel_rfl
          have hlen : (T ++ (mkr 196 210 ++ dhts (i + 1))).length ≤ 4096 := by
            have := dhts_len (i + 1) (by omega)
            simp only [List.length_append, mkr_len] at this ⊢
            omega
          have hlen2 : (T ++ (mkr 196 210 ++ dhts (i + 1))).length = (T ++ (mkr 196 210 ++ dhts i)).length + 1 + 16 + (valL i).length := by
            simp only [dhts, List.length_append, mkr_len, cntL_len i (by omega), List.length_singleton]; omega
          have hv0 := (good_all i (by omega)).2
          have hvl := valL_len i (by omega)
          have hH2d : z.hd eb H2 := by
            have hk := hA.enc
            obtain ⟨_, hr, _⟩ := hk.buf.row
            have h1 := hk.row.lt
            have h2 := (Array.getElem?_eq_some_iff.1 hk.buf.bw).1
            have h3 := hr.lt
            exact ⟨by omega, by omega, by omega⟩
          obtain ⟨vl, hvv⟩ : ∃ vl, valLen i = vl := ⟨_, rfl⟩
          rw [hvv] at hsl hvl hv0
          have CB := Lib.hid fun (W : World) (k : EncG z eb g1 (T ++ (mkr 196 210 ++ dhts i)) W) => writeByte_hd z eb g1 (T ++ (mkr 196 210 ++ dhts i)) (dhtMark i) W k (by omega)
          have CC := Lib.hid fun (W : World) (k : EncG z eb g1 (T ++ (mkr 196 210 ++ dhts i) ++ [dhtMark i]) W) (hrw : W.rowIs H2 119 17 (fun j => specsF b (i * 17 + j))) => write_hd z eb g1 _ (cntL i) H2 0 16 16 (cntL_len i (by omega)) W k (by
            intro j hj
            rw [cntL_len i (by omega)] at hj
            rw [Nat.zero_add, hrw.cell (by omega), Nat.mul_comm, specs_row b i j (by omega)]
            unfold specF cntN
            rw [if_pos hj]) (by rw [cntL_len i (by omega)]; simp only [List.length_append, List.length_singleton] at hlen hlen2 ⊢; omega) (by rw [cntL_len i (by omega)]; omega)
          have CV := Lib.hid fun (W : World) (k : EncG z eb g1 (T ++ (mkr 196 210 ++ dhts i) ++ [dhtMark i] ++ cntL i) W) (hrw : W.rowIs (b i) 5 (valLen i) (ints .u8 fun q => (valN i q : Int))) => write_hd z eb g1 _ (valL i) (b i) 0 vl vl hvl W k (by
            intro j hj
            rw [hvl, ← hvv] at hj
            rw [Nat.zero_add, hrw.cell hj]
            rfl) (by simp only [List.length_append, List.length_singleton, cntL_len i (show i < 4 by omega)] at hlen hlen2 ⊢; omega) (by omega)
          have j0 : (0 : Int) ≤ (i : Int) := by omega
          have j1 : (i : Int) < 2 := by omega
          have HN := Lib.hid (And.intro hA (And.intro hrow (And.intro hr2 hH2d)))
          clear hA hrow hr2 hH2d hlen hlen2 hv0 hvl hvv
          go_wp2_with (first
            | ((with_reducible refine wpList_load_rowIs (op := ⟨some 39, .load 119 (.tmp 38), _, _, _, _⟩) ?_ 119 (.tmp 38) ?_ H (i * 17) 17 ?_ HN.out.2.1 ?_ Tryz.underlying119 ?_ ?_ ?_); (· rfl); (· rfl); (· rfl); (· omega); (· rfl); (· exact size119))
            | ((with_reducible refine wpList_alloc_agg (op := ⟨some 10, .alloc 119, _, _, _, _⟩) ?_ 119 (agg 17 specZ) H2 ?_ ?_ ?_); (· rfl); (· exact hH2); (· kernel_rfl))
            | ((with_reducible refine wpList_store_new (op := ⟨none, .store 119 (.tmp 10) (.tmp 39), _, _, _, _⟩) ?_ 119 (.tmp 10) (.tmp 39) ?_ H2 17 (g := fun j => specsF b (i * 17 + j)) ?_ ?_ HN.out.2.2.1 ?_ ?_ ?_); (· rfl); (· rfl); (· rfl); (· rfl); (· exact size119); (· exact fun j => specsF_one b _); (intro w2 k2 s2 r2; have hA2 := HN.out.1.new hH2 k2; have hk2 : Kept (fun k => k ≠ H2) wr w2 := ((Kept.refl (fun k => k ≠ H2) wr).alloc _).trans k2; have hr2 := hk2.row HN.out.2.1 (by have := HN.out.2.1.lt; omega); have P2 := Lib.hid (And.intro hA2 (And.intro hr2 r2)); clear k2 s2 r2 hA2 hr2 hk2))
            | (go_at_call 52; (with_reducible refine (CB.out _ P2.out.1.enc).mono ?_); rintro e w3 ⟨rfl, k1, k2⟩; have P3 := Lib.hid (And.intro (P2.out.1.hd k1 HBD.out.1 k2) (And.intro (k2.row P2.out.2.1 HBD.out.2) (k2.row P2.out.2.2 HN.out.2.2.2))); clear k1 k2)
            | (go_at_call 38; first
              | ((with_reducible refine (CC.out _ P3.out.1.enc P3.out.2.2).mono ?_); rintro e w4 ⟨rfl, k1, k2⟩; have d0 : w4.cell? ⟨H2, 16, none⟩ = some (.slice (some ⟨b i, 0, none⟩) vl vl) := (by rw [(k2.row P3.out.2.2 HN.out.2.2.2).cell (by omega), hsl]); have P4 := Lib.hid (And.intro (P3.out.1.hd k1 HBD.out.1 k2) (k2.row P3.out.2.1 HBD.out.2)); clear k1 k2)
              | ((with_reducible refine (CV.out _ P4.out.1.enc (P4.out.1.specs i (by omega))).mono ?_); rintro e w5 ⟨rfl, k1, k2⟩; have P5 := Lib.hid (And.intro (P4.out.1.hd k1 HBD.out.1 k2) (k2.row P4.out.2 HBD.out.2)); clear k1 k2)))
          refine (CV.out _ P4.out.1.enc (P4.out.1.specs i (by omega))).mono ?_
          rintro e w5 ⟨rfl, k1, k2⟩
          have P5 := Lib.hid (And.intro (P4.out.1.hd k1 HBD.out.1 k2) (k2.row P4.out.2 HBD.out.2))
          go_wp2_with fail
          go_roundg (2 - (i + 1))
          case measure => go_light; omega
          case rel =>
            go_light
            refine ⟨i + 1, by omega, rfl, by go_num, ?_, P5.out.2⟩
            have h := P5.out.1
            simp only [dhts]
            simp only [List.append_assoc] at h ⊢
            exact h
        · obtain rfl : i = 2 := by omega
          have HN := Lib.hid hA
          clear hA hrow
          go_wp2_with fail
          go_end0
          exact ⟨rfl, ⟨g1, P.out.1, HN.out.enc⟩, HN.out.kept⟩
end Go.Proofs.YtghjlekdibcjdaaGreatDoor
/- The contract of writeDHT with 4 tables (printed by dht.py). -/
namespace Go.Proofs.YtghjlekdibcjdaaGreatDoor
open Go.Deep Go.RowKit
set_option linter.unusedVariables false
set_option maxHeartbeats 4000000 in
set_option maxRecDepth 100000 in
theorem dht_hd3 (z : Ids) (eb : Nat) (g : Nat → Value) (T : List Nat) (w : World) (h : EncG z eb g T w) (hT : T.length + 424 ≤ 4096) :
    Calls Tryz.prog 42 #[.pointer (some ⟨eb, 0, none⟩), .int .i64 3] w fun e w' => e = .returned (.tuple #[]) ∧ (∃ g', (∀ j, j < 2 ∨ 6 ≤ j → g' j = g j) ∧ EncG z eb g' (T ++ (mkr 196 418 ++ dhts 4)) w') ∧ Kept (z.hd eb) w w' := by
  have CS := Lib.hid (specs_any w)
  have HE := Lib.hid h
  have hlt : eb < w.heap.size ∧ z.bb < w.heap.size ∧ z.fb < w.heap.size := by
    obtain ⟨_, hr, _⟩ := h.buf.row
    exact ⟨h.row.lt, (Array.getElem?_eq_some_iff.1 h.buf.bw).1, hr.lt⟩
  clear h
  go_enter Tryz.func42, Tryz.ntmps42
  go_wp2_with (first
    | (go_at_call 48; (with_reducible refine CS.out.mono ?_); rintro e w1 ⟨b, rfl, hs, hb, hk⟩; obtain ⟨H, hH⟩ : ∃ H, w1.heap.size = H := ⟨_, rfl⟩; have hA0 : DA z eb g T b H w w1 := ⟨HE.out.all hk, hs, fun h hh => (by have := (hs h hh).lt; omega), hk.mono fun _ _ _ => trivial⟩; have hrz : (w1.alloc (.cells (agg 68 specZ) 120)).rowIs H 120 68 specZ := (by rw [← hH]; exact rowIs_agg w1 120 68 specZ); have hbd : ∀ h, h < 4 → z.hd eb (b h) := fun h hh => (by have := hb h hh; exact ⟨by omega, by omega, by omega⟩); have hHd : z.hd eb H := (by have := hk.size; exact ⟨by omega, by omega, by omega⟩); have HA0 := Lib.hid (And.intro hA0 hrz); have HBD := Lib.hid (And.intro hbd hHd); clear hA0 hrz hs hb hk hbd hHd)
    | ((with_reducible refine wpList_alloc_agg (op := ⟨some 5, .alloc 120, _, _, _, _⟩) ?_ 120 (agg 68 specZ) H ?_ ?_ ?_); (· rfl); (· exact hH); (· kernel_rfl))
    | ((with_reducible refine wpList_store_new (op := ⟨none, .store 120 (.tmp 5) (.tmp 11), _, _, _, _⟩) ?_ 120 (.tmp 5) (.tmp 11) ?_ H 68 (g := specsF b) ?_ ?_ HA0.out.2 ?_ ?_ ?_); (· rfl); (· rfl); (· rfl); (· rfl); (· exact size120); (· exact specsF_one _); (intro v0 k2 s2 r2; have hs0 : v0.heap.size = H + 1 := (by have := s2.out; simp at this; omega); have P0 := Lib.hid (And.intro (HA0.out.1.new hH k2) r2); clear k2 s2 r2)))
  clear CS HA0
  go_loopg [4, 19] 4 (fun k s4 s19 wr => ∃ i : Nat, i ≤ 4 ∧ k = 4 - i ∧ s4 = .int .i64 (mlen i : Int) ∧ s19 = .int .i64 (i : Int) ∧ DA z eb g T b H w wr ∧ wr.rowIs H 120 68 (specsF b))
  case atStart => exact ⟨0, by omega, rfl, rfl, rfl, P0.out⟩
  case round =>
    obtain ⟨i, hi, rfl, rfl, rfl, hA, hrow⟩ := hrel
    clear P0
    by_cases hlt : i < 4
    · obtain ⟨H2, hH2⟩ : ∃ H2, wr.heap.size = H2 := ⟨_, rfl⟩
      have hr2 : (wr.alloc (.cells (agg 17 specZ) 119)).rowIs H2 119 17 specZ := by rw [← hH2]; exact rowIs_agg wr 119 17 specZ
      have hvl := valLen_in i (by omega)
      have hml := mlen_in i (by omega)
      have hsl : specsF b (i * 17 + 16) = .slice (some ⟨b i, 0, none⟩) (valLen i) (valLen i) := by rw [Nat.mul_comm, specs_row b i 16 (by omega)]; rfl
      have hmn : (mlen (i + 1) : Int) = (mlen i : Int) + (17 + (valLen i : Int)) := by simp only [mlen]; omega
      have HM := Lib.hid hmn
      obtain ⟨vl, hvv⟩ : ∃ vl, valLen i = vl := ⟨_, rfl⟩
      obtain ⟨ml, hmm⟩ : ∃ ml, mlen i = ml := ⟨_, rfl⟩
      rw [hvv] at hvl hsl
      rw [hmm] at hml ⊢
      have j0 : (0 : Int) ≤ (i : Int) := by omega
      have j1 : (i : Int) < 4 := by omega
      have HN := Lib.hid (And.intro hA (And.intro hrow (And.intro hr2 (And.intro hvv hmm))))
      clear hA hrow hr2 hvv hmm hmn
      go_wp2_with (first
        | ((with_reducible refine wpList_load_rowIs (op := ⟨some 22, .load 119 (.tmp 21), _, _, _, _⟩) ?_ 119 (.tmp 21) ?_ H (i * 17) 17 ?_ HN.out.2.1 ?_ Tryz.underlying119 ?_ ?_ ?_); (· rfl); (· rfl); (· rfl); (· omega); (· rfl); (· exact size119))
        | ((with_reducible refine wpList_alloc_agg (op := ⟨some 8, .alloc 119, _, _, _, _⟩) ?_ 119 (agg 17 specZ) H2 ?_ ?_ ?_); (· rfl); (· exact hH2); (· kernel_rfl))
        | ((with_reducible refine wpList_store_new (op := ⟨none, .store 119 (.tmp 8) (.tmp 22), _, _, _, _⟩) ?_ 119 (.tmp 8) (.tmp 22) ?_ H2 17 (g := fun j => specsF b (i * 17 + j)) ?_ ?_ HN.out.2.2.1 ?_ ?_ ?_); (· rfl); (· rfl); (· rfl); (· rfl); (· exact size119); (· exact fun j => specsF_one b _); (intro w2 k2 s2 r2; have d0 : w2.cell? ⟨H2, 16, none⟩ = some (.slice (some ⟨b i, 0, none⟩) vl vl) := (by rw [r2.cell (by omega), hsl]); have P2 := Lib.hid (And.intro k2 r2); clear k2 s2 r2)))
      go_roundg (4 - (i + 1))
      case measure => go_light; omega
      case rel =>
        go_light
        have hk : Kept (fun k => k ≠ H2) wr w2 := ((Kept.refl (fun k => k ≠ H2) wr).alloc _).trans P2.out.1
        refine ⟨i + 1, by omega, rfl, ?_, by go_num, HN.out.1.new hH2 P2.out.1, hk.row HN.out.2.1 (by have := HN.out.2.1.lt; omega)⟩
        rw [HM.out, HN.out.2.2.2.1, HN.out.2.2.2.2]
    · obtain rfl : i = 4 := by omega
      have CM : Hid (Calls Tryz.prog 51 #[.pointer (some ⟨eb, 0, none⟩), .int .u8 196, .int .i64 418] wr fun e w' => e = .returned (.tuple #[]) ∧ (∃ g', (∀ j, j < 2 ∨ 6 ≤ j → g' j = g j) ∧ EncG z eb g' (T ++ mkr 196 418) w') ∧ Kept (z.hd eb) wr w') := Lib.hid (marker_hd z eb g T 196 418 wr hA.enc (by omega) (by omega))
      have hml : (mlen 4 : Int) = 418 := rfl
      have HN := Lib.hid (And.intro hA hrow)
      clear hA hrow
      go_wp2_with (go_at_call 51; (with_reducible refine CM.out.mono ?_); rintro e w1 ⟨rfl, ⟨g1, hg1, k1⟩, k2⟩; have P := Lib.hid (And.intro hg1 (And.intro (HN.out.1.hd k1 HBD.out.1 k2) (k2.row HN.out.2 HBD.out.2))); clear hg1 k1 k2)
      clear CM HN
      go_loopg [35] 4 (fun k s35 wr => ∃ i : Nat, i ≤ 4 ∧ k = 4 - i ∧ s35 = .int .i64 (i : Int) ∧ DA z eb g1 (T ++ (mkr 196 418 ++ dhts i)) b H w wr ∧ wr.rowIs H 120 68 (specsF b))
      case atStart => exact ⟨0, by omega, rfl, rfl, by simpa [dhts] using P.out.2.1, P.out.2.2⟩
      case round =>
        obtain ⟨i, hi, rfl, rfl, hA, hrow⟩ := hrel
        by_cases hlt : i < 4
        · obtain ⟨H2, hH2⟩ : ∃ H2, wr.heap.size = H2 := ⟨_, rfl⟩
          have hr2 : (wr.alloc (.cells (agg 17 specZ) 119)).rowIs H2 119 17 specZ := by rw [← hH2]; exact rowIs_agg wr 119 17 specZ
          have hsl : specsF b (i * 17 + 16) = .slice (some ⟨b i, 0, none⟩) (valLen i) (valLen i) := by rw [Nat.mul_comm, specs_row b i 16 (by omega)]; rfl
          have hstr : ∀ W, (Instr.index 9 (.string ⟨#[0, 16, 1, 17]⟩) (.int .i64 (i : Int))).run Tryz.prog W = .ok (.int .u8 (dhtMark i : Int)) W := fun W => by
            obtain rfl | rfl | rfl | rfl : i = 0 ∨ i = 1 ∨ i = 2 ∨ i = 3 := by omega
            · kernel_rfl
            · kernel_rfl
            · kernel_rfl
            · kernel_rfl
          have hlen : (T ++ (mkr 196 418 ++ dhts (i + 1))).length ≤ 4096 := by
            have := dhts_len (i + 1) (by omega)
            simp only [List.length_append, mkr_len] at this ⊢
            omega
          have hlen2 : (T ++ (mkr 196 418 ++ dhts (i + 1))).length = (T ++ (mkr 196 418 ++ dhts i)).length + 1 + 16 + (valL i).length := by
            simp only [dhts, List.length_append, mkr_len, cntL_len i (by omega), List.length_singleton]; omega
          have hv0 := (good_all i (by omega)).2
          have hvl := valL_len i (by omega)
          have hH2d : z.hd eb H2 := by
            have hk := hA.enc
            obtain ⟨_, hr, _⟩ := hk.buf.row
            have h1 := hk.row.lt
            have h2 := (Array.getElem?_eq_some_iff.1 hk.buf.bw).1
            have h3 := hr.lt
            exact ⟨by omega, by omega, by omega⟩
          obtain ⟨vl, hvv⟩ : ∃ vl, valLen i = vl := ⟨_, rfl⟩
          rw [hvv] at hsl hvl hv0
          have CB := Lib.hid fun (W : World) (k : EncG z eb g1 (T ++ (mkr 196 418 ++ dhts i)) W) => writeByte_hd z eb g1 (T ++ (mkr 196 418 ++ dhts i)) (dhtMark i) W k (by omega)
          have CC := Lib.hid fun (W : World) (k : EncG z eb g1 (T ++ (mkr 196 418 ++ dhts i) ++ [dhtMark i]) W) (hrw : W.rowIs H2 119 17 (fun j => specsF b (i * 17 + j))) => write_hd z eb g1 _ (cntL i) H2 0 16 16 (cntL_len i (by omega)) W k (by
            intro j hj
            rw [cntL_len i (by omega)] at hj
            rw [Nat.zero_add, hrw.cell (by omega), Nat.mul_comm, specs_row b i j (by omega)]
            unfold specF cntN
            rw [if_pos hj]) (by rw [cntL_len i (by omega)]; simp only [List.length_append, List.length_singleton] at hlen hlen2 ⊢; omega) (by rw [cntL_len i (by omega)]; omega)
          have CV := Lib.hid fun (W : World) (k : EncG z eb g1 (T ++ (mkr 196 418 ++ dhts i) ++ [dhtMark i] ++ cntL i) W) (hrw : W.rowIs (b i) 5 (valLen i) (ints .u8 fun q => (valN i q : Int))) => write_hd z eb g1 _ (valL i) (b i) 0 vl vl hvl W k (by
            intro j hj
            rw [hvl, ← hvv] at hj
            rw [Nat.zero_add, hrw.cell hj]
            rfl) (by simp only [List.length_append, List.length_singleton, cntL_len i (show i < 4 by omega)] at hlen hlen2 ⊢; omega) (by omega)
          have j0 : (0 : Int) ≤ (i : Int) := by omega
          have j1 : (i : Int) < 4 := by omega
          have HN := Lib.hid (And.intro hA (And.intro hrow (And.intro hr2 hH2d)))
          clear hA hrow hr2 hH2d hlen hlen2 hv0 hvl hvv
          go_wp2_with (first
            | ((with_reducible refine wpList_load_rowIs (op := ⟨some 39, .load 119 (.tmp 38), _, _, _, _⟩) ?_ 119 (.tmp 38) ?_ H (i * 17) 17 ?_ HN.out.2.1 ?_ Tryz.underlying119 ?_ ?_ ?_); (· rfl); (· rfl); (· rfl); (· omega); (· rfl); (· exact size119))
            | ((with_reducible refine wpList_alloc_agg (op := ⟨some 10, .alloc 119, _, _, _, _⟩) ?_ 119 (agg 17 specZ) H2 ?_ ?_ ?_); (· rfl); (· exact hH2); (· kernel_rfl))
            | ((with_reducible refine wpList_store_new (op := ⟨none, .store 119 (.tmp 10) (.tmp 39), _, _, _, _⟩) ?_ 119 (.tmp 10) (.tmp 39) ?_ H2 17 (g := fun j => specsF b (i * 17 + j)) ?_ ?_ HN.out.2.2.1 ?_ ?_ ?_); (· rfl); (· rfl); (· rfl); (· rfl); (· exact size119); (· exact fun j => specsF_one b _); (intro w2 k2 s2 r2; have hA2 := HN.out.1.new hH2 k2; have hk2 : Kept (fun k => k ≠ H2) wr w2 := ((Kept.refl (fun k => k ≠ H2) wr).alloc _).trans k2; have hr2 := hk2.row HN.out.2.1 (by have := HN.out.2.1.lt; omega); have P2 := Lib.hid (And.intro hA2 (And.intro hr2 r2)); clear k2 s2 r2 hA2 hr2 hk2))
            | (go_at_call 52; (with_reducible refine (CB.out _ P2.out.1.enc).mono ?_); rintro e w3 ⟨rfl, k1, k2⟩; have P3 := Lib.hid (And.intro (P2.out.1.hd k1 HBD.out.1 k2) (And.intro (k2.row P2.out.2.1 HBD.out.2) (k2.row P2.out.2.2 HN.out.2.2.2))); clear k1 k2)
            | (go_at_call 38; (with_reducible refine (CC.out _ P3.out.1.enc P3.out.2.2).mono ?_); rintro e w4 ⟨rfl, k1, k2⟩; have d0 : w4.cell? ⟨H2, 16, none⟩ = some (.slice (some ⟨b i, 0, none⟩) vl vl) := (by rw [(k2.row P3.out.2.2 HN.out.2.2.2).cell (by omega), hsl]); have P4 := Lib.hid (And.intro (P3.out.1.hd k1 HBD.out.1 k2) (k2.row P3.out.2.1 HBD.out.2)); clear k1 k2))
          refine (CV.out _ P4.out.1.enc (P4.out.1.specs i (by omega))).mono ?_
          rintro e w5 ⟨rfl, k1, k2⟩
          have P5 := Lib.hid (And.intro (P4.out.1.hd k1 HBD.out.1 k2) (k2.row P4.out.2 HBD.out.2))
          go_wp2_with fail
          go_roundg (4 - (i + 1))
          case measure => go_light; omega
          case rel =>
            go_light
            refine ⟨i + 1, by omega, rfl, by go_num, ?_, P5.out.2⟩
            have h := P5.out.1
            simp only [dhts]
            simp only [List.append_assoc] at h ⊢
            exact h
        · obtain rfl : i = 4 := by omega
          have HN := Lib.hid hA
          clear hA hrow
          go_wp2_with fail
          go_end0
          exact ⟨rfl, ⟨g1, P.out.1, HN.out.enc⟩, HN.out.kept⟩
end Go.Proofs.YtghjlekdibcjdaaGreatDoor
