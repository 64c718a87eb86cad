/- The two listed tables, read out of a row's condition. -/
import Derived.Test.YtcblegbjhiameaaDoorSpecLaw
import Derived.Test.YtcblegbjhiameaaDoorRows
import Derived.LaidMore
import Derived.Lib.LaidTab
import Derived.OpenShut
import Derived.Stop.Joined
import Derived.WalkKit
import Derived.ProofKit
import Derived.SevenTiedAt
namespace Go.Proofs.YtcblegbjhiameaaDoor
open Go Go.ChangeShapes Go.WideShapes Go.ChangeAt Go.RowKit
/-- The numbers of a table's data. -/
def litN : DataW Unit → Int
  | .lit (.int _ n) => n
  | _ => 0
def rowN : DataW Unit → List Nat
  | .agg xs => xs.map fun x => (litN x).toNat
  | _ => []
/-- The zigzag sequence: that of the given rows. -/
def zl : List Nat := rowN Rows.laid_jpegcodec_spec_zigzag
/-- The numbers of the basis, row by row. -/
def bl : List (List Int) := [[370728, 514214, 484379, 435930, 370728, 291279, 200636, 102284], [370728, 435930, 200636, -102284, -370728, -514214, -484379, -291279], [370728, 291279, -200636, -514214, -370728, 102284, 484379, 435930], [370728, 102284, -484379, -291279, 370728, 435930, -200636, -514214], [370728, -102284, -484379, 291279, 370728, -435930, -200636, 514214], [370728, -291279, -200636, 514214, -370728, -102284, 484379, -435930], [370728, -435930, 200636, 102284, -370728, 514214, -484379, 291279], [370728, -514214, 484379, -435930, 370728, -291279, 200636, -102284]]
def zN (k : Nat) : Nat := zl.getD k 0
def bN (k : Nat) : Int := bl.flatten.getD k 0
theorem cells_of_tab2 {H : Type} {enc : TypeId × Value → H} {P : Program} {w : World} {base : Nat} {sp : Nat → Bool} {held : Bool} {fuel : Nat} {t r e : TypeId} {n m : Nat} {k : IntKind} {cs : List Value} {zss : List (List Int)} {p : List MemPlace}
    (ht : P.underlying t = some (.array n r)) (hr : P.underlying r = some (.array m e)) (he : P.underlying e = some (.int k)) (hce : P.cellsOf e = 1) (hcr : P.cellsOf r = m)
    (h : DataW.trod enc P w base sp held fuel t cs = some (.agg (zss.map (Lib.tabData k)), p)) (i : Nat) (hi : i < n) : ∃ zs, zss[i]? = some zs ∧ (cs.drop (i * m)).take m = zs.map fun z => Value.int k z := by
  obtain ⟨xs, fu, rfl, hx, _, hl, hf⟩ := DataW.trod_array ht h
  have h1 := hf i hi
  rw [hcr] at h1
  have hxs : xs.map (·.1) = zss.map (Lib.tabData k) := by
    have := (congrArg Prod.fst hx).symm
    simpa using this
  have hsx : xs[i]? = some xs[i] := List.getElem?_eq_getElem (by omega)
  have h2 : (xs.map (·.1))[i]? = some (xs[i]).1 := by rw [List.getElem?_map, hsx]; rfl
  rw [hxs, List.getElem?_map] at h2
  obtain ⟨zs, hz, hd⟩ := Option.map_eq_some_iff.1 h2
  refine ⟨zs, hz, ?_⟩
  rw [hsx] at h1
  have h3 : xs[i] = (Lib.tabData k zs, (xs[i]).2) := by rw [hd]
  rw [h3] at h1
  exact Lib.cells_of_tab hr he hce hcr h1
theorem gZig : Tryd.prog.globalNamed "jpegcodec/spec.zigzag" = some 0 := by kernel_rfl
theorem gBas : Tryd.prog.globalNamed "jpegcodec/spec.basis" = some 1 := by kernel_rfl
theorem tZig : (Tryd.prog.globals[0]?).map (·.type) = some 24 := by kernel_rfl
theorem tBas : (Tryd.prog.globals[1]?).map (·.type) = some 41 := by kernel_rfl
theorem cellsI : Tryd.prog.cellsOf 3 = 1 := by kernel_rfl
theorem cellsU : Tryd.prog.cellsOf 24 = 64 := by kernel_rfl
theorem cellsR : Tryd.prog.cellsOf 40 = 8 := by kernel_rfl
theorem zl_len : zl.length = 64 := by decide +kernel
theorem zig_tab {H : Type} : (Rows.laid_jpegcodec_spec_zigzag : DataW H) = Lib.tabData .i64 (zl.map Int.ofNat) := by kernel_rfl
theorem bas_tab {H : Type} : (Rows.laid_jpegcodec_spec_basis : DataW H) = .agg (bl.map (Lib.tabData .i64)) := rfl
theorem zN_lt : ∀ k, k < 64 → zN k < 64 := by decide +kernel
theorem bl_flat : ∀ i, i < 8 → ∀ j, j < 8 → ∃ zs, bl[i]? = some zs ∧ zs[j]? = some (bN (i * 8 + j)) := by decide +kernel
/-- What the condition on the listed tables gives the walk. -/
theorem of_laid {W : World} (h : laidMetH Tryd.prog [("jpegcodec/spec.basis", Rows.laid_jpegcodec_spec_basis), ("jpegcodec/spec.zigzag", Rows.laid_jpegcodec_spec_zigzag)] W) : Laid zN bN W := by
  rw [MakeChecks.laidMetH_plain _ _ _ (by kernel_rfl)] at h
  obtain ⟨ps, ⟨g0, t0, cs0, f0, p0, q0, hg0, ht0, hv0, hd0, ⟨g1, t1, cs1, f1, p1, q1, hg1, ht1, hv1, hd1, _, _⟩, _⟩, _, _⟩ := h
  obtain rfl := Option.some.inj (gBas.symm.trans hg0)
  obtain rfl := Option.some.inj (gZig.symm.trans hg1)
  obtain rfl := Option.some.inj (tBas.symm.trans ht0)
  obtain rfl := Option.some.inj (tZig.symm.trans ht1)
  rw [zig_tab] at hd1
  rw [bas_tab] at hd0
  have e1 := Lib.cells_of_tab Tryd.underlying24 Tryd.underlying3 cellsI cellsU hd1
  have e0 := cells_of_tab2 Tryd.underlying41 Tryd.underlying40 Tryd.underlying3 cellsI cellsR hd0
  refine ⟨zN_lt, fun k hk => ?_, fun k hk => ?_⟩
  · have hl : k < zl.length := by rw [zl_len]; exact hk
    refine (World.var?_cell hg1 hv1 k).trans ?_
    rw [← Array.getElem?_toList, e1, List.getElem?_map, List.getElem?_map, List.getElem?_eq_getElem hl]
    simp only [zN, List.getD_eq_getElem?_getD, List.getElem?_eq_getElem hl]
    rfl
  · refine (World.var?_cell hg0 hv0 k).trans ?_
    obtain ⟨zs, hz, hc⟩ := e0 (k / 8) (by omega)
    obtain ⟨zs', hz', hj⟩ := bl_flat (k / 8) (by omega) (k % 8) (by omega)
    obtain rfl : zs = zs' := Option.some.inj (hz.symm.trans hz')
    rw [show k / 8 * 8 + k % 8 = k by omega] at hj
    have := congrArg (fun l => l[k % 8]?) hc
    simp only [List.getElem?_map, hj, List.getElem?_take, List.getElem?_drop, Option.map_some] at this
    rw [if_pos (by omega), show k / 8 * 8 + k % 8 = k by omega] at this
    rw [← Array.getElem?_toList]
    exact this
/-- The start that the listed tables' own statements leave meets the condition. -/
theorem door_met (os : Os) (args : Array Value) : laidMetH Tryd.prog [("jpegcodec/spec.basis", Rows.laid_jpegcodec_spec_basis), ("jpegcodec/spec.zigzag", Rows.laid_jpegcodec_spec_zigzag)] ((World.doorLaid Tryd.prog 400 os).forCall (fun _ _ => 0) ⟨#[], args, []⟩).memory :=
  laidMetH_of_parts3 (fuel := 8) (laidMet_of_run' 8 (by kernel_rfl) (by kernel_rfl)) (by kernel_rfl) (by kernel_rfl)
end Go.Proofs.YtcblegbjhiameaaDoor
