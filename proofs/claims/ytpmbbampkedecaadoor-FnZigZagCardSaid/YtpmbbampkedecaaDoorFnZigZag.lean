/- Proved: 'Rows.FnZigZagCardSaid': for every integer the law FnZigZag returns true (the program's table unzig is the zigzag sequence of Figure A.6). Conditions: none beyond the card's own (the two listed tables are tied to the program's text).
   The frame follows the kit's worked example Mapy. -/
import Derived.Test.YtpmbbampkedecaaDoorRows
import Derived.Test.YtpmbbampkedecaaDoorCards
import Derived.Test.YtpmbbampkedecaaDoorTie
import Derived.WalkKit
import Derived.ProofKit
import Derived.OpenShut
import Derived.LaidMore
import Derived.Lib.LaidTab
import Derived.Stop.Joined
import Derived.SevenTiedAt
namespace Go.Proofs.YtpmbbampkedecaaDoor.fnZigZag
open Go Go.ChangeShapes Go.WideShapes Go.ChangeAt Go.RowKit
set_option linter.unusedVariables false

theorem own : ownKnob Tryd.prog.godebug = none := by kernel_rfl
theorem gZig : Tryd.prog.globalNamed "jpegcodec/spec.zigzag" = some 0 := by kernel_rfl
theorem gUn : Tryd.prog.globalNamed "jpegcodec/pub/jpeg.unzig" = some 1 := by kernel_rfl
theorem tZig : (Tryd.prog.globals[0]?).map (·.type) = some 24 := by kernel_rfl
theorem tUn : (Tryd.prog.globals[1]?).map (·.type) = some 24 := by kernel_rfl
theorem cells3 : Tryd.prog.cellsOf 3 = 1 := by kernel_rfl
theorem cells24 : Tryd.prog.cellsOf 24 = 64 := by kernel_rfl

/-- The numbers of a table's data. -/
def litN : DataW Unit → Int
  | .lit (.int _ n) => n
  | _ => 0
def rowI : DataW Unit → List Int
  | .agg xs => xs.map litN
  | _ => []
/-- The zigzag sequence: that of the given rows. -/
def zz : List Int := rowI Rows.laid_jpegcodec_spec_zigzag
theorem zz_len : zz.length = 64 := by decide +kernel
theorem z_tab {H : Type} : (Rows.laid_jpegcodec_spec_zigzag : DataW H) = Lib.tabData .i64 zz := by kernel_rfl
theorem u_tab {H : Type} : (Rows.laid_jpegcodec_pub_jpeg_unzig : DataW H) = Lib.tabData .i64 zz := by kernel_rfl

/-- What the condition on the listed tables gives the walk. -/
theorem of_laid {W : World} (h : laidMetH Tryd.prog Rows.fnZigZagRow.laid W) : ∀ k : Nat, k < 64 →
    W.cell? ⟨0, k, none⟩ = some (.int .i64 (zz.getD k 0)) ∧ W.cell? ⟨1, k, none⟩ = some (.int .i64 (zz.getD k 0)) := by
  rw [MakeChecks.laidMetH_plain _ _ _ (by kernel_rfl)] at h
  obtain ⟨ps, ⟨g0, t0, cs0, f0, p0, q0, hg0, ht0, hv0, hd0, ⟨g1, t1, cs1, f1, p1, q1, hg1, ht1, hv1, hd1, _, _⟩, _⟩, _, _⟩ := h
  obtain rfl := Option.some.inj (gZig.symm.trans hg0)
  obtain rfl := Option.some.inj (gUn.symm.trans hg1)
  obtain rfl := Option.some.inj (tZig.symm.trans ht0)
  obtain rfl := Option.some.inj (tUn.symm.trans ht1)
  have e0 := Lib.cells_of_tab (k := .i64) (zs := zz) Tryd.underlying24 Tryd.underlying3 cells3 cells24 (hd0.trans (congrArg (fun d => some (d, p0)) z_tab))
  have e1 := Lib.cells_of_tab (k := .i64) (zs := zz) Tryd.underlying24 Tryd.underlying3 cells3 cells24 (hd1.trans (congrArg (fun d => some (d, p1)) u_tab))
  intro k hk
  have hl : k < zz.length := by rw [zz_len]; exact hk
  have c0 := World.var?_cell hg0 hv0 k
  have c1 := World.var?_cell hg1 hv1 k
  have a0 : cs0[k]? = some (.int .i64 (zz.getD k 0)) := by
    rw [← Array.getElem?_toList, e0, List.getElem?_map, List.getD_eq_getElem?_getD, List.getElem?_eq_getElem hl]; rfl
  have a1 : cs1[k]? = some (.int .i64 (zz.getD k 0)) := by
    rw [← Array.getElem?_toList, e1, List.getElem?_map, List.getD_eq_getElem?_getD, List.getElem?_eq_getElem hl]; rfl
  exact ⟨c0.trans a0, c1.trans a1⟩

theorem walk (a0 : Int) (w : World) (hc : ∀ k : Nat, k < 64 → w.cell? ⟨0, k, none⟩ = some (.int .i64 (zz.getD k 0)) ∧ w.cell? ⟨1, k, none⟩ = some (.int .i64 (zz.getD k 0))) :
    Calls Tryd.prog 3 #[.int .i64 a0] w fun e w' => e = .returned (.bool true) ∧ Grown w w' := by
  by_cases c1 : a0 < 0
  · clear hc
    go_enter Tryd.func3, Tryd.ntmps3
    go_wp2
    go_ret
    exact ⟨rfl, by repeat (first | exact Grown.refl _ | apply Grown.drew | apply Grown.alloc)⟩
  by_cases c2 : 63 < a0
  · clear hc
    go_enter Tryd.func3, Tryd.ntmps3
    go_wp2
    go_ret
    exact ⟨rfl, by repeat (first | exact Grown.refl _ | apply Grown.drew | apply Grown.alloc)⟩
  obtain ⟨k, rfl⟩ := Int.eq_ofNat_of_zero_le (show 0 ≤ a0 by omega)
  have hk : k < 64 := by omega
  obtain ⟨h0, h1⟩ := hc k hk
  clear hc
  generalize zz.getD k 0 = z at h0 h1
  go_enter Tryd.func3, Tryd.ntmps3
  go_wp2
  go_ret
  exact ⟨by simp, by repeat (first | exact Grown.refl _ | apply Grown.drew | apply Grown.alloc)⟩

/-- The start that the listed tables' own statements leave meets the condition. -/
theorem door_met (os : Os) (args : Array Value) : laidMetH Tryd.prog Rows.fnZigZagRow.laid ((World.doorLaid Tryd.prog 400 os).forCall (fun _ _ => 0) ⟨#[], args, []⟩).memory :=
  laidMetH_of_parts3 (fuel := 8) (laidMet_of_run' 8 (by kernel_rfl) (by kernel_rfl)) (by kernel_rfl) (by kernel_rfl)

set_option maxRecDepth 100000 in
theorem lifted (os : Os) (started : os.Started) (H : Type) (enc : TypeId × Value → H) :
    ReturnsInHanded {} Tryd.checked os 3 .any (fun w args => (Rows.fnZigZagSpec.pre enc Tryd.prog Tryd.f3 [] false w args ∧ laidMetH Tryd.prog Rows.fnZigZagRow.laid w) ∧ sizedMet enc Tryd.prog Tryd.f3 (OpenSpec.ofChange Rows.fnZigZagSpec) false w args)
      (Rows.fnZigZagSpec.post enc Tryd.prog Tryd.f3 false true false false) := by
  refine returnsInHanded_of_change_and (C := Tryd.checked) (X := fun w _ => laidMetH Tryd.prog Rows.fnZigZagRow.laid w) (fun _ _ _ hh h => h.of_heap hh) own started (by kernel_rfl) Tryd.func3
    (ChangeSpec.witness_shaped (enc := enc) (C := Tryd.checked) (os := os) (X := fun w _ => laidMetH Tryd.prog Rows.fnZigZagRow.laid w) false (World.doorLaid Tryd.prog 400 os) #[.int .i64 0] 8 rfl (World.shaped_of_RefB (by kernel_rfl) (by kernel_rfl)) (by kernel_rfl) (by kernel_rfl) (by kernel_rfl) (door_met os _)) ?_
  intro W base args ds gs before hval0 hW _ _ hL _
  have hval : ∀ (j : Nat) t v, Tryd.f3.params[j]? = some t → args[j]? = some v → Value.okWide Tryd.prog W .any base t v := hval0
  have hW' := hW
  obtain ⟨p, q, hA0, hV, rfl, hfz, hnd⟩ := hW
  have hA : DataW.TrodAll enc Tryd.prog W 0 (fun _ => true) true Tryd.f3.params.toList args.toList ds p := hA0
  rw [Tryd.params3] at hA hval
  obtain ⟨v0, d0, rfl, rfl, h0⟩ := trodAll_one hA
  obtain ⟨rfl, rfl⟩ := trodVars_none hV
  obtain ⟨a0, rfl, rfl, rfl, w0⟩ := open_int Tryd.underlying3 (hval 0 3 v0 rfl rfl) h0
  have hc := of_laid hL
  clear hA0 hval0
  simp only [List.append_nil] at hW'
  refine (walk a0 W hc).mono fun e W' ⟨he, hg⟩ => ?_
  subst he
  exact ⟨_, rfl, post_of_same (pa := []) (pv := []) hW' (fun _ _ _ => trodAll_mk1 (shut_bool Tryd.underlying4 _)) (fun sp _ => trodAll_mk1 (shut_int Tryd.underlying3 w0)) (fun _ _ => rfl) rfl
    (hg.frame _) hg.2.1 (ok_one (by kernel_rfl) rfl (okWide_bool_mk Tryd.underlying4 _))⟩

theorem row_holds : Rows.FnZigZagSaid :=
  OpenClaim.holds_of_wide 3 Tryd.f3 rfl rfl rfl rfl rfl rfl rfl ⟨rfl, rfl, rfl, rfl, rfl⟩ rfl rfl rfl rfl rfl (by kernel_rfl) Tryd.func3 (by kernel_rfl)
    (of_decide_eq_true (by kernel_rfl)) (by unfold Func.isWrapper; first | (rw [if_pos (by decide +kernel)]; kernel_rfl) | (rw [if_neg (by decide +kernel)]; exact ⟨rfl, rfl⟩))
    (fun os started H enc _ => lifted os started H enc)

/-- The tied card. -/
theorem proved : Rows.FnZigZagCardSaid :=
  Claim7.holds_tied_plain_at .later [] [.data, .data] true (true, "fda16043b6d37a57423200521450051ac8e5449d3be94f4fabf03e7fa0567032") false
    row_holds (fun _ h => by cases h) (by kernel_rfl) (fun _ h => by cases h) fnZigZag_row_tie rfl ⟨rfl, rfl⟩ (by kernel_rfl) rfl
    (fun f fn hf hfn => by
      obtain rfl : f = 3 := Option.some.inj ((show Tryd.prog.funcNamed "jpegcodec/laws.FnZigZag" = some 3 by kernel_rfl).symm.trans hf) |>.symm
      obtain rfl : fn = Tryd.f3 := (Option.some.inj (Tryd.func3.symm.trans hfn)).symm
      exact ⟨by kernel_rfl, fun j t ht => by
        rw [Tryd.params3] at ht
        have hm : t ∈ [3] := by simpa using Array.mem_of_getElem? ht
        have hall : ([3].all fun u => !Tryd.prog.wantsStandIn u) = true := by kernel_rfl
        exact (show Tryd.prog.wantsStandIn t = false by simpa using List.all_eq_true.1 hall t hm)⟩)
    (by kernel_rfl)
#print axioms proved
end Go.Proofs.YtpmbbampkedecaaDoor.fnZigZag
