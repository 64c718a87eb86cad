/- The contract of impl.fill into the midst of a row. -/
import Derived.Test.YtghjlekdibcjdaaGreatDoorYcA
namespace Go.Proofs.YtghjlekdibcjdaaGreatDoor
open Go.Deep Go.RowKit
set_option linter.unusedVariables false
/-- A row some of whose cells, from a place on, come from a list, as far as it goes. -/
def fillD (d : Nat) (z : List Int) (len top : Nat) (f : Nat → Value) : Nat → Value := fun j => if d ≤ j ∧ j < d + top ∧ j < d + len then .int .u8 (z.getD (j - d) 0) else f j
theorem fillD_step (d : Nat) (z : List Int) (len L wd : Nat) (f : Nat → Value) (j : Nat) (A m : Nat) (hA : A = min L len) (hm : m = min (len - A) wd) :
    over (d + L) m (fun i => .int .u8 (z.getD (A + i) 0)) (fillD d z len L f) j = fillD d z len (L + wd) f j := by
  unfold over fillD
  by_cases h1 : d + L ≤ j ∧ j < d + L + m
  · rw [if_pos h1, if_pos (by omega)]
    show Value.int .u8 (z.getD (A + (j - (d + L))) 0) = _
    rw [show A + (j - (d + L)) = j - d by omega]
  · rw [if_neg h1]
    by_cases h2 : d ≤ j ∧ j < d + L ∧ j < d + len
    · rw [if_pos h2, if_pos (by omega)]
    · rw [if_neg h2, if_neg (by omega)]
set_option maxHeartbeats 2000000 in
set_option maxRecDepth 100000 in
theorem fill_at (bp d M wd hg : Nat) (b off cap : Nat) (z : List Int) (f : Nat → Value) (w : World) (hcell : ∀ i, i < wd * hg → w.cell? ⟨b, off + i, none⟩ = some (.int .u8 (z.getD i 0))) (hbne : b ≠ bp) (hcap : wd * hg ≤ cap) (hr : w.rowIs bp 5 M f) (hM : d + wd * hg ≤ M) (hwd : 1 ≤ wd) (hp : wd * hg < 2147483648) (hwd2 : wd < 2147483648) :
    Calls Tryz.prog 18 #[.slice (some ⟨bp, d, none⟩) (wd * hg) (wd * hg), .int .i64 (wd : Int), .slice (some ⟨b, off, none⟩) (wd * hg) cap, .int .i64 (wd : Int), .int .i64 (hg : Int)] w fun e w' => e = .returned (.tuple #[]) ∧ Kept (fun k => k ≠ bp) w w' ∧ w'.rowIs bp 5 M (fillD d z (wd * hg) (wd * hg) f) := by
  obtain ⟨n, hn⟩ : ∃ n, wd * hg = n := ⟨_, rfl⟩
  rw [hn] at hM hp hcell hcap ⊢
  have HC := Lib.hid hcell
  clear hcell
  have HR := Lib.hid hr
  have HN := Lib.hid hn
  clear hr hn
  have hh : hg ≤ n := by rw [← HN.out]; exact Nat.le_mul_of_pos_left hg hwd
  go_enter Tryz.func18, Tryz.ntmps18
  go_wp2_with fail
  go_loopg [13] hg (fun k s wr => ∃ y : Nat, y ≤ hg ∧ k = hg - y ∧ s = .int .i64 y ∧ Kept (fun k => k ≠ bp) w wr ∧ wr.rowIs bp 5 M (fillD d z n (y * wd) f))
  case atStart => exact ⟨0, by omega, by omega, rfl, Kept.refl _ _, HR.out.congr fun j _ => by unfold fillD; rw [if_neg (by omega)]⟩
  case round =>
    obtain ⟨y, hy, rfl, rfl, hk, hrow⟩ := hrel
    by_cases hlt : y < hg
    · obtain ⟨L, hL⟩ : ∃ L, y * wd = L := ⟨_, rfl⟩
      rw [hL] at hrow
      have hLn : L + wd ≤ n := by
        rw [← HN.out, ← hL, ← Nat.succ_mul, Nat.mul_comm wd hg]
        exact Nat.mul_le_mul_right _ hlt
      have hLi : ((y : Nat) : Int) * ((wd : Nat) : Int) = ((L : Nat) : Int) := by rw [← hL]; simp
      have HL := Lib.hid hL
      have HROW := Lib.hid hrow
      have HRD := Lib.hid (show wr.drew.rowIs bp 5 M _ from hrow)
      have HKP := Lib.hid hk
      clear hL hrow hk
      have eL : IntKind.i64.wrap ((L : Nat) : Int) = ((L : Nat) : Int) := IntWalk.i64_in _ ⟨by omega, by omega⟩
      have eS : IntKind.i64.wrap (((L : Nat) : Int) + ((wd : Nat) : Int)) = ((L : Nat) : Int) + ((wd : Nat) : Int) := IntWalk.i64_in _ ⟨by omega, by omega⟩
      have i0 : (0 : Int) ≤ ((L : Nat) : Int) := by omega
      have i1 : ((L : Nat) : Int) + ((wd : Nat) : Int) ≤ ((n : Nat) : Int) := by omega
      have i2 : (0 : Int) ≤ ((L : Nat) : Int) + ((wd : Nat) : Int) := by omega
      have i3 : ((L : Nat) : Int) ≤ ((L : Nat) : Int) + ((wd : Nat) : Int) := by omega
      have HE2 := Lib.hid (And.intro eL (And.intro eS (And.intro i0 (And.intro i1 (And.intro i2 i3)))))
      clear eL eS i0 i1 i2 i3
      · have hsrc : ∀ j, j < wd → wr.drew.cell? ((⟨b, off + L, none⟩ : Addr).add j) = some (Value.int .u8 (z.getD (L + j) 0)) := fun j hj => by
          rw [Addr.add_mid, show off + L + j = off + (L + j) by omega]
          exact HKP.out.cellOf (HC.out (L + j) (by omega)) hbne
        have HSRC := Lib.hid hsrc
        have ncL : ¬ cap = L := by omega
        have iLl : (L : Int) < (n : Int) := by omega
        have iLl2 : (L : Int) ≤ (n : Int) := by omega
        clear hsrc
        go_wp2_with fail
        obtain ⟨eL, eS, i0, i1, i2, i3⟩ := HE2.out
        have eT : (((L : Nat) : Int) + ((wd : Nat) : Int)).toNat = L + wd := by omega
        have nL : ¬ n = L := by omega
        go_still_tail 13, (by kernel_rfl)
        change wpList _ _ _ _ _ wr.drew
        clear eL eS i0 i1 i2 i3 eT nL
        refine wpList_copy_rowIs rfl (.tmp 31) (.tmp 34) 22 22 rfl 5 Tryz.underlying22 size5 (some ⟨bp, d + L, none⟩) (some ⟨b, off + L, none⟩) wd (n - L) (n - L) (cap - L) rfl rfl bp (d + L) M 5 _ HRD.out wd (fun i => .int .u8 (z.getD (L + i) 0)) (Nat.min_eq_right (by omega)).symm (fun _ => ⟨rfl, _, rfl, HSRC.out⟩) (by omega) (fun _ => rfl) ?_
        intro w2 k2 r2
        have K2 := Lib.hid k2
        have R2 := Lib.hid r2
        clear k2 r2
        go_wp2
        go_roundg (hg - (y + 1))
        case measure => go_light; omega
        case rel =>
          go_light
          refine ⟨y + 1, by omega, rfl, by go_num, HKP.out.drew.trans K2.out, R2.out.congr fun j _ => ?_⟩
          rw [Nat.succ_mul, HL.out]
          exact fillD_step d z n L wd f j L wd (by omega) (by omega)
    · have ey : y = hg := by omega
      subst ey
      have e : y * wd = n := by rw [Nat.mul_comm]; exact HN.out
      rw [e] at hrow
      have HS := Lib.hid (And.intro hk hrow)
      clear hk hrow e
      go_wp2_with fail
      go_end0
      exact ⟨rfl, HS.out⟩
end Go.Proofs.YtghjlekdibcjdaaGreatDoor
