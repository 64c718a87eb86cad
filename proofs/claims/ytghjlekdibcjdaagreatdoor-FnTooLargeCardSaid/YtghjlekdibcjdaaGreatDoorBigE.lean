/- The walk of laws.FnTooLarge. -/
import Derived.Test.YtghjlekdibcjdaaGreatDoorBigD
namespace Go.Proofs.YtghjlekdibcjdaaGreatDoor
open Go.Deep Go.RowKit
set_option linter.unusedVariables false
set_option maxRecDepth 100000
set_option maxHeartbeats 4000000 in
theorem tl_early (wd hg q : Int) (w : World) (h : wd < 1 ∨ 1 ≤ wd ∧ (hg < 1 ∨ 1 ≤ hg ∧ (131072 < wd ∨ wd ≤ 131072 ∧ 131072 < hg))) :
    Calls Tryz.prog 7 #[.int .i64 wd, .int .i64 hg, .int .i64 q] w fun e w' => e = .returned (.bool true) ∧ Kept (fun _ => True) w w' := by
  rcases h with h | ⟨h1, h | ⟨h2, h | ⟨h3, h⟩⟩⟩ <;>
  · go_enter Tryz.func7, Tryz.ntmps7
    go_wp2_with fail
    go_ret
    exact ⟨rfl, Kept.refl _ _⟩
set_option maxHeartbeats 4000000 in
theorem tl_mid (wd hg : Nat) (q : Int) (w : World) (h1 : 1 ≤ wd) (h2 : 1 ≤ hg) (h3 : wd ≤ 131072) (h4 : hg ≤ 131072) (h : 131072 < wd * hg ∨ wd * hg ≤ 131072 ∧ wd ≤ 65535 ∧ hg ≤ 65535) :
    Calls Tryz.prog 7 #[.int .i64 (wd : Int), .int .i64 (hg : Int), .int .i64 q] w fun e w' => e = .returned (.bool true) ∧ Kept (fun _ => True) w w' := by
  obtain ⟨p, hp⟩ : ∃ p, wd * hg = p := ⟨_, rfl⟩
  have hpi : ((wd : Nat) : Int) * ((hg : Nat) : Int) = ((p : Nat) : Int) := by rw [← hp]; simp
  have hpl : p ≤ 131072 * 131072 := by rw [← hp]; exact Nat.mul_le_mul h3 h4
  have ew : IntKind.i64.wrap ((p : Nat) : Int) = ((p : Nat) : Int) := IntWalk.i64_in _ ⟨by omega, by omega⟩
  rw [hp] at h
  clear hp
  have a1 : ¬ ((wd : Nat) : Int) < 1 := by omega
  have a2 : ¬ ((hg : Nat) : Int) < 1 := by omega
  have a3 : ¬ 131072 < ((wd : Nat) : Int) := by omega
  have a4 : ¬ 131072 < ((hg : Nat) : Int) := by omega
  rcases h with h | ⟨h, h', h''⟩ <;>
  · go_enter Tryz.func7, Tryz.ntmps7
    go_wp2_with fail
    go_ret
    exact ⟨rfl, Kept.refl _ _⟩
set_option maxHeartbeats 4000000 in
theorem tl_big (wd hg : Nat) (q : Int) (w : World) (hG : w.cell? ⟨1, 0, none⟩ = some (.iface 180 (.agg #[.pointer (some ⟨7, 69, none⟩)]))) (h1 : 1 ≤ wd) (h2 : 1 ≤ hg) (h3 : wd ≤ 131072) (h4 : hg ≤ 131072) (h5 : wd * hg ≤ 131072) (h6 : 65536 ≤ wd ∨ wd ≤ 65535 ∧ 65536 ≤ hg) :
    Calls Tryz.prog 7 #[.int .i64 (wd : Int), .int .i64 (hg : Int), .int .i64 q] w fun e w' => e = .returned (.bool true) ∧ Kept (fun _ => True) w w' := by
  have CA := Lib.hid fun W (k : Kept (fun _ => True) w W) => big_gray wd hg q W (k.cellOf hG trivial) h1 h2 h3 h4 h5 (by omega)
  have CB := Lib.hid fun W (k : Kept (fun _ => True) w W) => big_rgba wd hg q W (k.cellOf hG trivial) h1 h2 h3 h4 h5 (by omega)
  obtain ⟨p, hp⟩ : ∃ p, wd * hg = p := ⟨_, rfl⟩
  have hpi : ((wd : Nat) : Int) * ((hg : Nat) : Int) = ((p : Nat) : Int) := by rw [← hp]; simp
  rw [hp] at h5
  have ew : IntKind.i64.wrap ((p : Nat) : Int) = ((p : Nat) : Int) := IntWalk.i64_in _ ⟨by omega, by omega⟩
  clear hp hG
  have a1 : ¬ ((wd : Nat) : Int) < 1 := by omega
  have a2 : ¬ ((hg : Nat) : Int) < 1 := by omega
  have a3 : ¬ 131072 < ((wd : Nat) : Int) := by omega
  have a4 : ¬ 131072 < ((hg : Nat) : Int) := by omega
  rcases h6 with h | ⟨h, h'⟩ <;>
  · go_enter Tryz.func7, Tryz.ntmps7
    go_wp2_with (first
      | (go_at_call 10; (with_reducible refine (CA.out _ (Kept.refl _ _)).mono ?_); rintro e w2 ⟨rfl, k2⟩; have HK2 := Lib.hid k2; clear k2)
      | (go_at_call 12; (with_reducible refine (CB.out _ HK2.out).mono ?_); rintro e w3 ⟨rfl, k3⟩; have HK3 := Lib.hid k3; clear k3))
    go_ret
    exact ⟨rfl, HK2.out.trans HK3.out⟩
/-- FnTooLarge holds. -/
theorem tl_law (wide high q : Int) (w : World) (hG : w.cell? ⟨1, 0, none⟩ = some (.iface 180 (.agg #[.pointer (some ⟨7, 69, none⟩)]))) :
    Calls Tryz.prog 7 #[.int .i64 wide, .int .i64 high, .int .i64 q] w fun e w' => e = .returned (.bool true) ∧ Kept (fun _ => True) w w' := by
  by_cases h0 : wide < 1 ∨ 1 ≤ wide ∧ (high < 1 ∨ 1 ≤ high ∧ (131072 < wide ∨ wide ≤ 131072 ∧ 131072 < high))
  · exact tl_early wide high q w h0
  · obtain ⟨wd, rfl⟩ : ∃ wd : Nat, wide = (wd : Int) := ⟨wide.toNat, by omega⟩
    obtain ⟨hg, rfl⟩ : ∃ hg : Nat, high = (hg : Int) := ⟨high.toNat, by omega⟩
    by_cases h5 : wd * hg ≤ 131072
    · by_cases h6 : wd ≤ 65535 ∧ hg ≤ 65535
      · exact tl_mid wd hg q w (by omega) (by omega) (by omega) (by omega) (Or.inr ⟨h5, h6.1, h6.2⟩)
      · exact tl_big wd hg q w hG (by omega) (by omega) (by omega) (by omega) h5 (by omega)
    · exact tl_mid wd hg q w (by omega) (by omega) (by omega) (by omega) (Or.inl (by omega))
end Go.Proofs.YtghjlekdibcjdaaGreatDoor
