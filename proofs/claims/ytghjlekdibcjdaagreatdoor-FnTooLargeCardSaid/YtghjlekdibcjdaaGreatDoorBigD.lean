/- impl.EncodeRGBA of an image that is too large. -/
import Derived.Test.YtghjlekdibcjdaaGreatDoorBE
namespace Go.Proofs.YtghjlekdibcjdaaGreatDoor
open Go.Deep Go.RowKit
set_option linter.unusedVariables false
set_option maxRecDepth 100000
set_option maxHeartbeats 4000000 in
theorem big_rgba (wd hg : Nat) (q : Int) (w : World) (hG : w.cell? ⟨1, 0, none⟩ = some (.iface 180 (.agg #[.pointer (some ⟨7, 69, none⟩)]))) (h1 : 1 ≤ wd) (h2 : 1 ≤ hg) (h3 : wd ≤ 131072) (h4 : hg ≤ 131072) (h5 : wd * hg ≤ 131072) (h6 : 65536 ≤ wd ∨ 65536 ≤ hg) :
    Calls Tryz.prog 12 #[.slice none 0 0, .int .i64 0, .int .i64 0, .int .i64 (wd : Int), .int .i64 (hg : Int), .int .i64 q] w fun e w' => e = .returned (.tuple #[.slice none 0 0, .int .i64 4]) ∧ Kept (fun _ => True) w w' := by
  have hp4 : 4 * wd * hg < 2147483648 := by rw [Nat.mul_assoc]; omega
  have CR := Lib.hid fun W => rect_any 0 0 (wd : Int) (hg : Int) W (by omega) (by omega)
  have CN := Lib.hid fun W => newRgba_any 0 0 (wd : Int) (hg : Int) wd hg W (by omega) (by omega) (by omega) (by omega) (by omega) (by omega) hp4
  have e4 : IntKind.i64.wrap (4 * (wd : Int)) = 4 * (wd : Int) := IntWalk.i64_in _ ⟨by omega, by omega⟩
  have ew : IntKind.i64.wrap (wd : Int) = (wd : Int) := IntWalk.i64_in _ ⟨by omega, by omega⟩
  have eh : IntKind.i64.wrap (hg : Int) = (hg : Int) := IntWalk.i64_in _ ⟨by omega, by omega⟩
  have HH := Lib.hid (And.intro h1 (And.intro h3 (And.intro h4 (And.intro h5 h6))))
  have HG := Lib.hid hG
  clear h1 h2 h3 h4 h5 h6 hG hp4
  unfold rectV at CR CN
  go_enter Tryz.func12, Tryz.ntmps12
  go_wp2_with (first
    | (go_at_call 17; (with_reducible refine (CR.out _).mono ?_); rintro e w2 ⟨rfl, k2⟩; have HK2 := Lib.hid k2; clear k2)
    | (go_at_call 20; (with_reducible refine (CN.out _).mono ?_); rintro e w3 ⟨bp, bi, rfl, k3⟩; have HK3 := Lib.hid k3; clear k3))
  have hne : bi ≠ bp := fun e => by
    obtain ⟨c, hc, -, -⟩ := HK3.out.pix
    rw [← e, HK3.out.img] at hc
    cases hc
  have c0 : w3.cell? ⟨bi, 0, none⟩ = some (.slice (some ⟨bp, 0, none⟩) (4 * wd * hg) (4 * wd * hg)) := by unfold World.cell?; simp only [HK3.out.img]; rfl
  have c1 : w3.cell? ⟨bi, 1, none⟩ = some (.int .i64 (4 * (wd : Int))) := by unfold World.cell?; simp only [HK3.out.img]; rfl
  have KW := HK2.out.trans HK3.out.kept
  have hrow : w3.drew.rowIs bp 5 (4 * wd * hg) _ := HK3.out.pix
  have CF := Lib.hid (fill_nil bp (4 * wd) hg _ w3.drew hrow (by have := HH.out; omega) (by have := HH.out.2.2.2.1; rw [Nat.mul_assoc]; omega) (by have := HH.out; omega))
  rw [show ((4 * wd : Nat) : Int) = 4 * (wd : Int) by omega] at CF
  have himg := HK3.out.img
  have HI := Lib.hid himg
  have HKW := Lib.hid KW
  have HNE := Lib.hid hne
  have hlp := HK3.out.lp
  have hbw : w2.heap.size ≤ bp := hlp
  have hw2 := HK2.out.size
  have HBP : Hid (w.heap.size ≤ bp) := Lib.hid (by omega)
  clear himg KW hne hrow CR CN hlp hbw hw2 ew eh HK3 HK2
  have hg3 := HKW.out.cellOf HG.out trivial
  have h1lt : 1 < w.heap.size := block_lt_of_cell HG.out
  have hbi : bi < w3.heap.size := by
    rcases Nat.lt_or_ge bi w3.heap.size with h0 | h0
    · exact h0
    · have := HI.out; rw [Array.getElem?_eq_none h0] at this; cases this
  have CE : Hid (∀ W, Kept (fun k => k ≠ bp) w3.drew W → Calls Tryz.prog 19 #[.iface 46 (.pointer (some ⟨bi, 0, none⟩)), .int .i64 q, .int .i64 (-1)] W fun e w' => e = .returned (.tuple #[.slice none 0 0, .int .i64 4]) ∧ Kept (fun _ => True) W w') := Lib.hid fun W k => by
    have hW := (k.block bi hbi HNE.out).trans HI.out
    refine encoded_err _ q (-1) W (k.cellOf hg3 (by have := HBP.out; show 1 ≠ bp; omega)) fun wv ov W' k' => ?_
    have hW' := (k'.block bi (by have := k.size; exact Nat.lt_of_lt_of_le hbi this) trivial).trans hW
    obtain ⟨h1, h3, h4, h5, h6⟩ := HH.out
    by_cases hb : 65536 ≤ wd
    · exact encode_wide_Rgba bi _ _ wv ov 0 0 (wd : Int) (hg : Int) W' hW' (by omega) (by omega) (by omega)
    · exact encode_tall_Rgba bi _ _ wv ov 0 0 (wd : Int) (hg : Int) W' hW' (by omega) (by omega) (by omega) (by omega) (by omega) (by omega)
  clear hg3 h1lt hbi
  go_still_tail 12, (by kernel_rfl)
  change wpList _ _ _ _ _ w3.drew
  clear c0 c1 e4
  go_wp2_with (first
    | (go_at_call 18; (with_reducible refine CF.out.mono ?_); rintro e w4 ⟨rfl, k4, r4⟩; have HK4 := Lib.hid k4; clear k4 r4)
    | (go_at_call 19; (with_reducible refine (CE.out _ HK4.out).mono ?_); rintro e w5 ⟨rfl, k5⟩; have HK5 := Lib.hid k5; clear k5))
  go_ret2
  refine ⟨rfl, ?_⟩
  have hbp := HBP.out
  exact (HKW.out.drew.trans' HK4.out fun k hk _ => by omega).trans HK5.out
end Go.Proofs.YtghjlekdibcjdaaGreatDoor
