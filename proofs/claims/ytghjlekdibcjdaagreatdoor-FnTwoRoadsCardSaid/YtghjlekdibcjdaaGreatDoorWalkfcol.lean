/- The walk of pub/jpeg.fdctCols (printed by wip/tools/dct.py). -/
import Derived.Test.YtghjlekdibcjdaaGreatDoorMem
import Derived.Test.YtghjlekdibcjdaaGreatDoorDctFns
import Derived.Test.YtghjlekdibcjdaaGreatDoorRows
import Derived.WalkKit
import Derived.Deep.LoopGhost
import Derived.Deep.Light
import Derived.Lib.Hide
namespace Go.Proofs.YtghjlekdibcjdaaGreatDoor
open Go.Deep Go.RowKit
def fcolMix (f : Nat → Int) (i : Nat) : Nat → Int := fun j => if j % 8 < i then fcols f j else f j
theorem fcol_step {wr : World} {b : Nat} {T : TypeId} {f : Nat → Int} {i : Nat} {v0 v1 v2 v3 v4 v5 v6 v7 : Int} (hr : wr.rowIs b T 64 (ints .i32 (fcolMix f i))) (_hi : i < 8) (h0 : v0 = fcol0 (f (i)) (f (8 + i)) (f (16 + i)) (f (24 + i)) (f (32 + i)) (f (40 + i)) (f (48 + i)) (f (56 + i))) (h1 : v1 = fcol1 (f (i)) (f (8 + i)) (f (16 + i)) (f (24 + i)) (f (32 + i)) (f (40 + i)) (f (48 + i)) (f (56 + i))) (h2 : v2 = fcol2 (f (i)) (f (8 + i)) (f (16 + i)) (f (24 + i)) (f (32 + i)) (f (40 + i)) (f (48 + i)) (f (56 + i))) (h3 : v3 = fcol3 (f (i)) (f (8 + i)) (f (16 + i)) (f (24 + i)) (f (32 + i)) (f (40 + i)) (f (48 + i)) (f (56 + i))) (h4 : v4 = fcol4 (f (i)) (f (8 + i)) (f (16 + i)) (f (24 + i)) (f (32 + i)) (f (40 + i)) (f (48 + i)) (f (56 + i))) (h5 : v5 = fcol5 (f (i)) (f (8 + i)) (f (16 + i)) (f (24 + i)) (f (32 + i)) (f (40 + i)) (f (48 + i)) (f (56 + i))) (h6 : v6 = fcol6 (f (i)) (f (8 + i)) (f (16 + i)) (f (24 + i)) (f (32 + i)) (f (40 + i)) (f (48 + i)) (f (56 + i))) (h7 : v7 = fcol7 (f (i)) (f (8 + i)) (f (16 + i)) (f (24 + i)) (f (32 + i)) (f (40 + i)) (f (48 + i)) (f (56 + i))) :
    ((((((((wr.setCell ⟨b, i, none⟩ (.int .i32 v0)).setCell ⟨b, 32 + i, none⟩ (.int .i32 v4)).setCell ⟨b, 16 + i, none⟩ (.int .i32 v2)).setCell ⟨b, 48 + i, none⟩ (.int .i32 v6)).setCell ⟨b, 8 + i, none⟩ (.int .i32 v1)).setCell ⟨b, 24 + i, none⟩ (.int .i32 v3)).setCell ⟨b, 40 + i, none⟩ (.int .i32 v5)).setCell ⟨b, 56 + i, none⟩ (.int .i32 v7)).rowIs b T 64 (ints .i32 (fcolMix f (i + 1))) := by
  refine ((((((((hr.set (i) _).set (32 + i) _).set (16 + i) _).set (48 + i) _).set (8 + i) _).set (24 + i) _).set (40 + i) _).set (56 + i) _).congr fun j hj => ?_
  by_cases e : j % 8 = i
  · have e2 : j = 8 * (j / 8) + i := by omega
    have e3 : j / 8 < 8 := by omega
    generalize hq : j / 8 = q at *
    obtain rfl | rfl | rfl | rfl | rfl | rfl | rfl | rfl : q = 0 ∨ q = 1 ∨ q = 2 ∨ q = 3 ∨ q = 4 ∨ q = 5 ∨ q = 6 ∨ q = 7 := by omega
    · subst e2
      simp only [ints, fcolMix]
      repeat (first | rw [if_pos (by first | omega | trivial)] | rw [if_neg (by omega)])
      simp only [fcols, e, hq, fcol, h0]
    · subst e2
      simp only [ints, fcolMix]
      repeat (first | rw [if_pos (by first | omega | trivial)] | rw [if_neg (by omega)])
      simp only [fcols, e, hq, fcol, h1]
    · subst e2
      simp only [ints, fcolMix]
      repeat (first | rw [if_pos (by first | omega | trivial)] | rw [if_neg (by omega)])
      simp only [fcols, e, hq, fcol, h2]
    · subst e2
      simp only [ints, fcolMix]
      repeat (first | rw [if_pos (by first | omega | trivial)] | rw [if_neg (by omega)])
      simp only [fcols, e, hq, fcol, h3]
    · subst e2
      simp only [ints, fcolMix]
      repeat (first | rw [if_pos (by first | omega | trivial)] | rw [if_neg (by omega)])
      simp only [fcols, e, hq, fcol, h4]
    · subst e2
      simp only [ints, fcolMix]
      repeat (first | rw [if_pos (by first | omega | trivial)] | rw [if_neg (by omega)])
      simp only [fcols, e, hq, fcol, h5]
    · subst e2
      simp only [ints, fcolMix]
      repeat (first | rw [if_pos (by first | omega | trivial)] | rw [if_neg (by omega)])
      simp only [fcols, e, hq, fcol, h6]
    · subst e2
      simp only [ints, fcolMix]
      repeat (first | rw [if_pos (by first | omega | trivial)] | rw [if_neg (by omega)])
      simp only [fcols, e, hq, fcol, h7]
  · simp only [ints, fcolMix]
    by_cases d : j % 8 < i
    · repeat (first | rw [if_pos (by first | omega | trivial)] | rw [if_neg (by omega)])
    · repeat (first | rw [if_pos (by first | omega | trivial)] | rw [if_neg (by omega)])

theorem dctBox_any (x0 x1 kc ks : Int) (w : World) : Calls Tryz.prog 83 #[.int .i32 x0, .int .i32 x1, .int .i32 kc, .int .i32 ks] w fun e w' => e = .returned (.tuple #[.int .i32 (box0 x0 x1 kc ks), .int .i32 (box1 x0 x1 kc ks)]) ∧ w = w' := by
  go_enter Tryz.func83, Tryz.ntmps83
  go_wp2
  go_ret2
  exact ⟨rfl, rfl⟩

set_option maxHeartbeats 4000000 in
set_option maxRecDepth 100000 in
theorem fcol_any (b : Nat) (T : TypeId) (f : Nat → Int) (w : World) (h : w.rowIs b T 64 (ints .i32 f)) :
    Calls Tryz.prog 81 #[.pointer (some ⟨b, 0, none⟩)] w fun e w' => e = .returned (.tuple #[]) ∧ Kept (fun k => k ≠ b) w w' ∧ w'.rowIs b T 64 (ints .i32 (fcols f)) := by
  go_enter Tryz.func81, Tryz.ntmps81
  go_wp2_with fail
  go_loopg [11] 8 (fun k si wr => ∃ i : Nat, i ≤ 8 ∧ k = 8 - i ∧ si = .int .i64 i ∧ Kept (fun k => k ≠ b) w wr ∧ wr.rowIs b T 64 (ints .i32 (fcolMix f i)))
  case atStart => exact ⟨0, by omega, rfl, rfl, Kept.refl _ _, h.congr fun j _ => by simp [ints, fcolMix]⟩
  case round =>
    obtain ⟨i, hi, rfl, rfl, hk, hr⟩ := hrel
    by_cases hlt : i < 8
    · have hltd : decide ((i : Int) < 8) = true := by simp; omega
      obtain ⟨x0, q0⟩ : ∃ x, f (i) = x := ⟨_, rfl⟩
      obtain ⟨x1, q1⟩ : ∃ x, f (8 + i) = x := ⟨_, rfl⟩
      obtain ⟨x2, q2⟩ : ∃ x, f (16 + i) = x := ⟨_, rfl⟩
      obtain ⟨x3, q3⟩ : ∃ x, f (24 + i) = x := ⟨_, rfl⟩
      obtain ⟨x4, q4⟩ : ∃ x, f (32 + i) = x := ⟨_, rfl⟩
      obtain ⟨x5, q5⟩ : ∃ x, f (40 + i) = x := ⟨_, rfl⟩
      obtain ⟨x6, q6⟩ : ∃ x, f (48 + i) = x := ⟨_, rfl⟩
      obtain ⟨x7, q7⟩ : ∃ x, f (56 + i) = x := ⟨_, rfl⟩
      have c0 : wr.cell? ⟨b, i, none⟩ = some (.int .i32 x0) := by rw [hr.cell (by omega)]; simp only [ints, fcolMix]; rw [if_neg (by omega), q0]
      have c1 : wr.cell? ⟨b, 8 + i, none⟩ = some (.int .i32 x1) := by rw [hr.cell (by omega)]; simp only [ints, fcolMix]; rw [if_neg (by omega), q1]
      have c2 : wr.cell? ⟨b, 16 + i, none⟩ = some (.int .i32 x2) := by rw [hr.cell (by omega)]; simp only [ints, fcolMix]; rw [if_neg (by omega), q2]
      have c3 : wr.cell? ⟨b, 24 + i, none⟩ = some (.int .i32 x3) := by rw [hr.cell (by omega)]; simp only [ints, fcolMix]; rw [if_neg (by omega), q3]
      have c4 : wr.cell? ⟨b, 32 + i, none⟩ = some (.int .i32 x4) := by rw [hr.cell (by omega)]; simp only [ints, fcolMix]; rw [if_neg (by omega), q4]
      have c5 : wr.cell? ⟨b, 40 + i, none⟩ = some (.int .i32 x5) := by rw [hr.cell (by omega)]; simp only [ints, fcolMix]; rw [if_neg (by omega), q5]
      have c6 : wr.cell? ⟨b, 48 + i, none⟩ = some (.int .i32 x6) := by rw [hr.cell (by omega)]; simp only [ints, fcolMix]; rw [if_neg (by omega), q6]
      have c7 : wr.cell? ⟨b, 56 + i, none⟩ = some (.int .i32 x7) := by rw [hr.cell (by omega)]; simp only [ints, fcolMix]; rw [if_neg (by omega), q7]
      have z0 : wr.frozen? ⟨b, i, none⟩ = false := hr.frozen _
      have z1 : wr.frozen? ⟨b, 8 + i, none⟩ = false := hr.frozen _
      have z2 : wr.frozen? ⟨b, 16 + i, none⟩ = false := hr.frozen _
      have z3 : wr.frozen? ⟨b, 24 + i, none⟩ = false := hr.frozen _
      have z4 : wr.frozen? ⟨b, 32 + i, none⟩ = false := hr.frozen _
      have z5 : wr.frozen? ⟨b, 40 + i, none⟩ = false := hr.frozen _
      have z6 : wr.frozen? ⟨b, 48 + i, none⟩ = false := hr.frozen _
      have z7 : wr.frozen? ⟨b, 56 + i, none⟩ = false := hr.frozen _
      have Q0 := Lib.hid q0
      have Q1 := Lib.hid q1
      have Q2 := Lib.hid q2
      have Q3 := Lib.hid q3
      have Q4 := Lib.hid q4
      have Q5 := Lib.hid q5
      have Q6 := Lib.hid q6
      have Q7 := Lib.hid q7
      clear q0 q1 q2 q3 q4 q5 q6 q7
      have HR := Lib.hid hr
      clear hr h
      go_wp2_with (first | (go_at_call 83; refine (dctBox_any _ _ _ _ _).mono ?_; rintro e w2 ⟨rfl, rfl⟩) | go_in)
      go_roundg (8 - (i + 1))
      case measure => go_light; omega
      case rel =>
        go_light
        exact ⟨i + 1, by omega, rfl, by go_num, ((((((((hk.setCell (fun _ h => h rfl) _).setCell (fun _ h => h rfl) _).setCell (fun _ h => h rfl) _).setCell (fun _ h => h rfl) _).setCell (fun _ h => h rfl) _).setCell (fun _ h => h rfl) _).setCell (fun _ h => h rfl) _).setCell (fun _ h => h rfl) _), fcol_step HR.out hlt (by rw [show f (i) = _ from Q0.out, show f (8 + i) = _ from Q1.out, show f (16 + i) = _ from Q2.out, show f (24 + i) = _ from Q3.out, show f (32 + i) = _ from Q4.out, show f (40 + i) = _ from Q5.out, show f (48 + i) = _ from Q6.out, show f (56 + i) = _ from Q7.out]; rfl) (by rw [show f (i) = _ from Q0.out, show f (8 + i) = _ from Q1.out, show f (16 + i) = _ from Q2.out, show f (24 + i) = _ from Q3.out, show f (32 + i) = _ from Q4.out, show f (40 + i) = _ from Q5.out, show f (48 + i) = _ from Q6.out, show f (56 + i) = _ from Q7.out]; rfl) (by rw [show f (i) = _ from Q0.out, show f (8 + i) = _ from Q1.out, show f (16 + i) = _ from Q2.out, show f (24 + i) = _ from Q3.out, show f (32 + i) = _ from Q4.out, show f (40 + i) = _ from Q5.out, show f (48 + i) = _ from Q6.out, show f (56 + i) = _ from Q7.out]; rfl) (by rw [show f (i) = _ from Q0.out, show f (8 + i) = _ from Q1.out, show f (16 + i) = _ from Q2.out, show f (24 + i) = _ from Q3.out, show f (32 + i) = _ from Q4.out, show f (40 + i) = _ from Q5.out, show f (48 + i) = _ from Q6.out, show f (56 + i) = _ from Q7.out]; rfl) (by rw [show f (i) = _ from Q0.out, show f (8 + i) = _ from Q1.out, show f (16 + i) = _ from Q2.out, show f (24 + i) = _ from Q3.out, show f (32 + i) = _ from Q4.out, show f (40 + i) = _ from Q5.out, show f (48 + i) = _ from Q6.out, show f (56 + i) = _ from Q7.out]; rfl) (by rw [show f (i) = _ from Q0.out, show f (8 + i) = _ from Q1.out, show f (16 + i) = _ from Q2.out, show f (24 + i) = _ from Q3.out, show f (32 + i) = _ from Q4.out, show f (40 + i) = _ from Q5.out, show f (48 + i) = _ from Q6.out, show f (56 + i) = _ from Q7.out]; rfl) (by rw [show f (i) = _ from Q0.out, show f (8 + i) = _ from Q1.out, show f (16 + i) = _ from Q2.out, show f (24 + i) = _ from Q3.out, show f (32 + i) = _ from Q4.out, show f (40 + i) = _ from Q5.out, show f (48 + i) = _ from Q6.out, show f (56 + i) = _ from Q7.out]; rfl) (by rw [show f (i) = _ from Q0.out, show f (8 + i) = _ from Q1.out, show f (16 + i) = _ from Q2.out, show f (24 + i) = _ from Q3.out, show f (32 + i) = _ from Q4.out, show f (40 + i) = _ from Q5.out, show f (48 + i) = _ from Q6.out, show f (56 + i) = _ from Q7.out]; rfl)⟩
    · have hltd : decide ((i : Int) < 8) = false := by simp; omega
      go_wp2
      go_end0
      exact ⟨rfl, hk, hr.congr fun j hj => by simp only [ints, fcolMix]; rw [if_pos (by omega)]⟩
end Go.Proofs.YtghjlekdibcjdaaGreatDoor
