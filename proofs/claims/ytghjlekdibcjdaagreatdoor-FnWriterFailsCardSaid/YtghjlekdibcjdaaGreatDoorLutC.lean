/- The contract of newLUT. -/
import Derived.Test.YtghjlekdibcjdaaGreatDoorLutB
namespace Go.Proofs.YtghjlekdibcjdaaGreatDoor
open Go.Deep Go.RowKit
set_option linter.unusedVariables false
theorem cnt_le255 (h : Nat) (hh : h < 4) (i : Nat) : cntN h i ≤ 255 := by
  by_cases hi : i < 16
  · exact cnt_255 h hh i hi
  · have hl : ∀ h, h < 4 → (cntL h).length = 16 := by decide +kernel
    unfold cntN
    rw [List.getD_eq_getElem?_getD, List.getElem?_eq_none (by rw [hl h hh]; omega)]
    simp
theorem valL_len : ∀ h, h < 4 → (valL h).length = valLen h := by decide +kernel
theorem valLen_in : ∀ h, h < 4 → valLen h ≤ 162 := by decide +kernel
theorem sym_eq (h : Nat) : (fun k => (((valL h).map Int.ofNat).getD k 0).toNat) = valN h := by
  funext k
  unfold valN
  rw [List.getD_eq_getElem?_getD, List.getD_eq_getElem?_getD, List.getElem?_map]
  cases (valL h)[k]? <;> simp
theorem val_z (h k : Nat) : ((valL h).map Int.ofNat).getD k 0 = (valN h k : Int) := by
  unfold valN
  rw [List.getD_eq_getElem?_getD, List.getD_eq_getElem?_getD, List.getElem?_map]
  cases (valL h)[k]? <;> simp
theorem spec_isRow {b h : Nat} (hh : h < 4) {w : World} (hr : w.rowIs b 5 (valLen h) (ints .u8 fun i => (valN h i : Int))) : IsRow .u8 w (some ⟨b, 0, none⟩) (valLen h) (valLen h) ((valL h).map Int.ofNat) := by
  refine .inr ⟨_, rfl, Nat.le_refl _, by have := valLen_in h hh; unfold maxLen; omega, by rw [List.length_map, valL_len h hh], ?_, ?_⟩
  · intro i hi
    rw [List.length_map, valL_len h hh] at hi
    rw [Addr.add_mid, Nat.zero_add, hr.cell hi, val_z]
    rfl
  · intro n hn
    obtain ⟨m, hm, rfl⟩ := List.mem_map.1 hn
    obtain ⟨i, hi, rfl⟩ := List.mem_iff_getElem.1 hm
    rw [valL_len h hh] at hi
    have hv := val_255 h hh i hi
    unfold valN at hv
    rw [List.getD_eq_getElem?_getD, List.getElem?_eq_getElem (by rw [valL_len h hh]; exact hi)] at hv
    simp at hv
    simp [Lit.wf, IntKind.min, IntKind.max, IntKind.bits, IntKind.signed]
    omega
/-- The tables of newLUT. -/
def lutSl (L : Nat → Nat) : Nat → Value := fun h => .slice (some ⟨L h, 0, none⟩) (lutLen h) (lutLen h)
theorem init_lut (lb h b : Nat) (gv : Nat → Value) (hh : h < 4) (hgv : gv h = .slice none 0 0) (w : World) (hr : w.rowIs b 5 (valLen h) (ints .u8 fun i => (valN h i : Int))) (hv : w.rowIs lb 92 4 gv) :
    Calls Tryz.prog 49 #[.pointer (some ⟨lb, h, none⟩), .agg (agg 17 (specF h b))] w fun e w' => e = .returned (.tuple #[]) ∧ Kept (fun k => k ≠ lb) w w' ∧ ∃ B, w.heap.size ≤ B ∧ w'.rowIs lb 92 4 (fun j => if j = h then .slice (some ⟨B, 0, none⟩) (lutLen h) (lutLen h) else gv j) ∧ w'.rowIs B 76 (lutLen h) (ints .u32 fun i => (lutN h i : Int)) := by
  have hne : b ≠ lb := type_ne (rowIs_heap hr) (rowIs_heap hv) (by decide)
  have h1 := init_any lb h 4 gv hh hgv 92 (some ⟨b, 0, none⟩) (valLen h) (valLen h) ((valL h).map Int.ofNat) (cntN h) (cnt_le255 h hh) w (spec_isRow hh hr) (good_spec h hh) (fun b' off e => by injection e with e; injection e with e1; rw [← e1]; exact hne) hv
  rw [sym_eq, greatest_lut h hh] at h1
  refine h1.mono ?_
  rintro e w' ⟨rfl, hk, B, hB, hv', ht⟩
  exact ⟨rfl, hk, B, hB, hv', ht.congr fun i hi => by
    unfold ints enc
    rw [tab_lut h hh i hi]⟩
theorem size119 : (Tryz.prog.info? 119).map (·.size) = some 17 := by kernel_rfl
theorem size92 : (Tryz.prog.info? 92).map (·.size) = some 4 := by kernel_rfl
section
variable {P : Program} {ops : Array Oper} {w : World}
theorem wpStill_value {Q : Act → Prop} {rest : List Oper} {o : Oper} {a : Act} (hw : Region.wanted o (yielded ops a.tmps) = true) (v : Value) (hrun : (execOp a.eval o).run P w = .ok (.value v) w) (h : wpStill P ops w Q rest (a.put o.dst v)) : wpStill P ops w Q (o :: rest) a := by
  show if Region.wanted o (yielded ops a.tmps) then _ else _
  rw [if_pos hw]
  unfold Oper.still
  rw [hrun]
  exact ⟨rfl, h⟩
/-- A row is loaded whole. -/
theorem wpStill_load_all {Q : Act → Prop} {rest : List Oper} {o : Oper} {a : Act} (hw : Region.wanted o (yielded ops a.tmps) = true) (ty : TypeId) (x : Operand) (ho : o.op = .load ty x)
    (b m : Nat) (hx : a.eval x = .pointer (some ⟨b, 0, none⟩)) {t : TypeId} {n : Nat} {f : Nat → Value} (hr : w.rowIs b t n f) (hm : m ≤ n) {d : TypeDesc}
    (hu : P.underlying ty = some d) (hd : d.isRow = true) (hi : (P.info? ty).map (·.size) = some m)
    (h : wpStill P ops w Q rest (a.put o.dst (.agg (agg m f)))) : wpStill P ops w Q (o :: rest) a :=
  wpStill_value hw _ (by
    have hr0 := rowIs_range hr 0 m (by omega)
    have hrun := run_loadVar_mid (P := P) w b 0 ty _ d hr0 hu hd (by simpa using hi)
    have e : ((List.range m).map fun j => f (0 + j)).toArray = agg m f := agg_congr fun j _ => by rw [Nat.zero_add]
    rw [e] at hrun
    unfold execOp
    simp only [ho, hx, Instr.loadAt, Instr.sureAddr, Sem.run_bind, Sem.run_pure, Result.andThen_ok, hrun]) h
end
/-- What holds at the head of newLUT's loop. -/
structure NL (w : World) (H : Nat) (b : Nat → Nat) (L : Nat → Nat) (i : Nat) (wr : World) : Prop where
  specs : SpecRows b wr
  var : wr.rowIs H 92 4 (fun j => if j < i then lutSl L j else .slice none 0 0)
  rows : ∀ h, h < i → wr.rowIs (L h) 76 (lutLen h) (ints .u32 fun k => (lutN h k : Int))
  high : ∀ h, h < i → H < L h
  kept : Kept (fun _ => True) w wr
theorem specsF_part (b : Nat → Nat) (i : Nat) : agg 17 (fun j => specsF b (i * 17 + j)) = agg 17 (specF i (b i)) := agg_congr fun j hj => by
  unfold specsF
  rw [show (i * 17 + j) / 17 = i by omega, show (i * 17 + j) % 17 = j by omega]
theorem specF_one (h b i : Nat) : (specF h b i).oneCell' = true := by
  unfold specF
  split <;> rfl
def slice0 : Nat → Value := fun _ => .slice none 0 0
set_option maxHeartbeats 2000000 in
set_option maxRecDepth 100000 in
theorem newLUT_any (w : World) : Calls Tryz.prog 36 #[] w fun e w' => ∃ L : Nat → Nat, e = .returned (.agg (agg 4 (lutSl L))) ∧ (∀ h, h < 4 → w'.rowIs (L h) 76 (lutLen h) (ints .u32 fun i => (lutN h i : Int))) ∧ (∀ h, h < 4 → w.heap.size < L h) ∧ Kept (fun _ => True) w w' := by
  obtain ⟨H, hH⟩ : ∃ H, w.heap.size = H := ⟨_, rfl⟩
  have hr0 : (w.alloc (.cells (agg 4 slice0) 92)).rowIs H 92 4 slice0 := by rw [← hH]; exact rowIs_agg w 92 4 slice0
  have CS := Lib.hid (specs_any (w.alloc (.cells (agg 4 slice0) 92)))
  have HR := Lib.hid (And.intro hr0 ((Kept.refl (fun _ => True) w).alloc (.cells (agg 4 slice0) 92)))
  clear hr0
  go_enter Tryz.func36, Tryz.ntmps36
  go_wp2_with (first
    | ((with_reducible refine wpList_alloc_agg (op := ⟨some 0, .alloc 92, _, _, _, _⟩) ?_ 92 (agg 4 slice0) H ?_ ?_ ?_); (· rfl); (· exact hH); (· kernel_rfl))
    | (go_at_call 48; (with_reducible refine CS.out.mono ?_); rintro e w1 ⟨b, rfl, hs, hb, hk⟩; have P := Lib.hid (And.intro hs (And.intro hb hk)); clear hs hb hk))
  have hNL : NL w H b (fun _ => 0) 0 w1 := by
    obtain ⟨h1, h2, h3⟩ := P.out
    exact ⟨h1, (h3.row HR.out.1 trivial).congr fun j _ => by rw [if_neg (by omega)]; rfl, fun h hh => by omega, fun h hh => by omega, HR.out.2.trans h3⟩
  clear CS P HR
  go_loopg [4] 4 (fun k s4 wr => ∃ (i : Nat) (L : Nat → Nat), i ≤ 4 ∧ k = 4 - i ∧ s4 = .int .i64 (i : Int) ∧ NL w H b L i wr)
  case atStart => exact ⟨0, _, by omega, rfl, rfl, hNL⟩
  case round =>
    clear hNL
    obtain ⟨i, L, hi, rfl, rfl, hN⟩ := hrel
    by_cases hlt : i < 4
    · have hidx : ∀ wx, (Instr.index 120 (.agg (agg 68 (specsF b))) (.int .i64 (i : Int))).run Tryz.prog wx = .ok (.agg (agg 17 (specF i (b i)))) wx := fun wx => by
        have := run_index_row (P := Tryz.prog) (t := 120) (e := 119) (n := 4) (m := 17) (N := 68) Tryz.underlying120 Tryz.underlying119 rfl size119 (specsF b) i hlt (by omega) wx
        rw [specsF_part] at this
        exact this
      obtain ⟨H2, hH2⟩ : ∃ H2, wr.heap.size = H2 := ⟨_, rfl⟩
      have hr2 : (wr.alloc (.cells (agg 17 specZ) 119)).rowIs H2 119 17 specZ := by rw [← hH2]; exact rowIs_agg wr 119 17 specZ
      have j0 : (0 : Int) ≤ (i : Int) := by omega
      have j1 : (i : Int) < 4 := by omega
      have HN := Lib.hid hN
      have HR2 := Lib.hid hr2
      clear hN hr2
      go_wp2_with (first
        | ((with_reducible refine wpList_alloc_agg (op := ⟨some 2, .alloc 119, _, _, _, _⟩) ?_ 119 (agg 17 specZ) H2 ?_ ?_ ?_); (· rfl); (· exact hH2); (· kernel_rfl))
        | ((with_reducible refine wpList_store_new (op := ⟨none, .store 119 (.tmp 2) (.tmp 7), _, _, _, _⟩) ?_ 119 (.tmp 2) (.tmp 7) ?_ H2 17 (g := specF i (b i)) ?_ ?_ HR2.out ?_ ?_ ?_); (· rfl); (· rfl); (· rfl); (· rfl); (· exact size119); (· exact specF_one i (b i)); (intro w2 k2 s2 r2; have P2 := Lib.hid (And.intro k2 r2); clear k2 s2 r2)))
      have hN1 : NL w H b L i w2 := by
        have hN := HN.out
        have hkw : Kept (fun k => k ≠ H2) wr w2 := ((Kept.refl (fun k => k ≠ H2) wr).alloc _).trans P2.out.1
        have hlw : ∀ k, k < wr.heap.size → k ≠ H2 := fun k hk => by omega
        exact ⟨fun h hh => hkw.row (hN.specs h hh) (hlw _ (hN.specs h hh).lt), hkw.row hN.var (hlw _ hN.var.lt), fun h hh => hkw.row (hN.rows h hh) (hlw _ (hN.rows h hh).lt), hN.high, hN.kept.trans' hkw fun k hk _ => hlw k (by have := hN.kept.size; omega)⟩
      have hrow2 : w2.drew.rowIs H2 119 17 (specF i (b i)) := P2.out.2
      have CI := Lib.hid (init_lut H i (b i) _ hlt (by simp) w2.drew (hN1.specs i hlt) hN1.var)
      have HN1 := Lib.hid hN1
      clear hN1 HN HR2 hidx
      refine wp_region_still_tail 3 (by kernel_rfl) (by kernel_rfl) ?_
      simp only [List.take_succ_cons, List.take_zero, List.drop_succ_cons, List.drop_zero]
      still_step
      still_step
      refine wpStill_load_all rfl 119 (.tmp 2) rfl H2 17 rfl hrow2 (by omega) Tryz.underlying119 rfl size119 ?_
      refine wpStill_nil ?_
      change wpList _ _ _ _ _ w2.drew
      go_wp2_with (go_at_call 49; (with_reducible refine CI.out.mono ?_); rintro e w3 ⟨rfl, hk, B, hB, hv, ht⟩; have P3 := Lib.hid (And.intro hk (And.intro hB (And.intro hv ht))); clear hk hB hv ht)
      go_roundg (4 - (i + 1))
      case measure => go_light; omega
      case rel =>
        go_light
        obtain ⟨hk, hB, hv, ht⟩ := P3.out
        have hN1 := HN1.out
        have hHs : H < w2.drew.heap.size := hN1.var.lt
        refine ⟨i + 1, fun j => if j = i then B else L j, by omega, rfl, by go_num, ⟨fun h hh => hk.row (show w2.drew.rowIs _ _ _ _ from hN1.specs h hh) (type_ne (rowIs_heap (hN1.specs h hh)) (rowIs_heap hN1.var) (by decide)), hv.congr fun j _ => ?_, fun h hh => ?_, fun h hh => ?_, ?_⟩⟩
        · by_cases e : j = i
          · subst e; rw [if_pos rfl, if_pos (by omega)]; unfold lutSl; simp
          · rw [if_neg e]
            by_cases e2 : j < i
            · rw [if_pos e2, if_pos (by omega)]; unfold lutSl; simp [e]
            · rw [if_neg e2, if_neg (by omega)]
        · by_cases e : h = i
          · subst e; rw [if_pos rfl]; exact ht
          · rw [if_neg e]
            exact hk.row (show w2.drew.rowIs _ _ _ _ from hN1.rows h (by omega)) (type_ne (rowIs_heap (hN1.rows h (by omega))) (rowIs_heap hN1.var) (by decide))
        · by_cases e : h = i
          · subst e; rw [if_pos rfl]; omega
          · rw [if_neg e]; exact hN1.high h (by omega)
        · have hk2 : Kept (fun k => k ≠ H) w2 w3 := ⟨hk.os, hk.tape, hk.output, hk.size, hk.block⟩
          exact hN1.kept.trans' hk2 fun k hk _ => by omega
    · obtain rfl : i = 4 := by omega
      have hvar : wr.rowIs H 92 4 (lutSl L) := hN.var.congr fun j hj => by rw [if_pos hj]
      have HN := Lib.hid (And.intro hN hvar)
      clear hN hvar
      have ho : ∀ i, (lutSl L i).oneCell' = true := fun _ => rfl
      go_wp2_with (first
        | ((with_reducible refine wpList_load_all (op := ⟨some 13, .load 92 (.tmp 0), _, _, _, _⟩) ?_ 92 (.tmp 0) ?_ H 4 ?_ HN.out.2 ?_ Tryz.underlying92 ?_ ?_ ?_); (· rfl); (· rfl); (· rfl); (· omega); (· rfl); (· exact size92))
        | ((with_reducible refine wpList_store_new (op := ⟨none, .store 92 (.tmp 0) (.tmp 13), _, _, _, _⟩) ?_ 92 (.tmp 0) (.tmp 13) ?_ H 4 (g := lutSl L) ?_ ?_ HN.out.2 ?_ ?_ ?_); (· rfl); (· rfl); (· rfl); (· rfl); (· exact size92); (· exact ho); (intro w2 k2 s2 r2; have P2 := Lib.hid (And.intro k2 r2); clear k2 s2 r2)))
      exact bodyPost_ret (v := .agg (agg 4 (lutSl L))) (results_rowIs Tryz.results36 P2.out.2 rfl Tryz.underlying92 rfl size92) rfl ⟨L, rfl, fun h hh => P2.out.1.row (HN.out.1.rows h hh) (by have := HN.out.1.high h hh; omega), fun h hh => by rw [hH]; exact HN.out.1.high h hh, HN.out.1.kept.trans' P2.out.1 fun k hk _ => by omega⟩
end Go.Proofs.YtghjlekdibcjdaaGreatDoor
