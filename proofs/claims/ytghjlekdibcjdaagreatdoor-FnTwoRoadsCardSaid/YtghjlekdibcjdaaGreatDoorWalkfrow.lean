/- The walk of pub/jpeg.fdctRows (printed by wip/tools/dct.py). -/
import Derived.Test.YtghjlekdibcjdaaGreatDoorMem
import Derived.Test.YtghjlekdibcjdaaGreatDoorDctFns
import Derived.Test.YtghjlekdibcjdaaGreatDoorWalkfcol
import Derived.WalkKit
import Derived.Deep.LoopGhost
import Derived.Deep.Light
import Derived.Lib.Hide
namespace Go.Proofs.YtghjlekdibcjdaaGreatDoor
open Go.Deep Go.RowKit
def frowMix (f : Nat → Int) (i : Nat) : Nat → Int := fun j => if j / 8 < i then frows f j else f j
theorem frow_step {wr : World} {b : Nat} {T : TypeId} {f : Nat → Int} {i : Nat} {v0 v1 v2 v3 v4 v5 v6 v7 : Int} (hr : wr.rowIs b T 64 (ints .i32 (frowMix f i))) (_hi : i < 8) (h0 : v0 = frow0 (f (8 * i)) (f (8 * i + 1)) (f (8 * i + 2)) (f (8 * i + 3)) (f (8 * i + 4)) (f (8 * i + 5)) (f (8 * i + 6)) (f (8 * i + 7))) (h1 : v1 = frow1 (f (8 * i)) (f (8 * i + 1)) (f (8 * i + 2)) (f (8 * i + 3)) (f (8 * i + 4)) (f (8 * i + 5)) (f (8 * i + 6)) (f (8 * i + 7))) (h2 : v2 = frow2 (f (8 * i)) (f (8 * i + 1)) (f (8 * i + 2)) (f (8 * i + 3)) (f (8 * i + 4)) (f (8 * i + 5)) (f (8 * i + 6)) (f (8 * i + 7))) (h3 : v3 = frow3 (f (8 * i)) (f (8 * i + 1)) (f (8 * i + 2)) (f (8 * i + 3)) (f (8 * i + 4)) (f (8 * i + 5)) (f (8 * i + 6)) (f (8 * i + 7))) (h4 : v4 = frow4 (f (8 * i)) (f (8 * i + 1)) (f (8 * i + 2)) (f (8 * i + 3)) (f (8 * i + 4)) (f (8 * i + 5)) (f (8 * i + 6)) (f (8 * i + 7))) (h5 : v5 = frow5 (f (8 * i)) (f (8 * i + 1)) (f (8 * i + 2)) (f (8 * i + 3)) (f (8 * i + 4)) (f (8 * i + 5)) (f (8 * i + 6)) (f (8 * i + 7))) (h6 : v6 = frow6 (f (8 * i)) (f (8 * i + 1)) (f (8 * i + 2)) (f (8 * i + 3)) (f (8 * i + 4)) (f (8 * i + 5)) (f (8 * i + 6)) (f (8 * i + 7))) (h7 : v7 = frow7 (f (8 * i)) (f (8 * i + 1)) (f (8 * i + 2)) (f (8 * i + 3)) (f (8 * i + 4)) (f (8 * i + 5)) (f (8 * i + 6)) (f (8 * i + 7))) :
    ((((((((wr.setCell ⟨b, 8 * i, none⟩ (.int .i32 v0)).setCell ⟨b, 8 * i + 1, none⟩ (.int .i32 v1)).setCell ⟨b, 8 * i + 2, none⟩ (.int .i32 v2)).setCell ⟨b, 8 * i + 3, none⟩ (.int .i32 v3)).setCell ⟨b, 8 * i + 4, none⟩ (.int .i32 v4)).setCell ⟨b, 8 * i + 5, none⟩ (.int .i32 v5)).setCell ⟨b, 8 * i + 6, none⟩ (.int .i32 v6)).setCell ⟨b, 8 * i + 7, none⟩ (.int .i32 v7)).rowIs b T 64 (ints .i32 (frowMix f (i + 1))) := by
  refine ((((((((hr.set (8 * i) _).set (8 * i + 1) _).set (8 * i + 2) _).set (8 * i + 3) _).set (8 * i + 4) _).set (8 * i + 5) _).set (8 * i + 6) _).set (8 * i + 7) _).congr fun j hj => ?_
  by_cases e : j / 8 = i
  · have e2 : j = 8 * i + j % 8 := by omega
    have e3 : j % 8 < 8 := by omega
    generalize hq : j % 8 = q at *
    obtain rfl | rfl | rfl | rfl | rfl | rfl | rfl | rfl : q = 0 ∨ q = 1 ∨ q = 2 ∨ q = 3 ∨ q = 4 ∨ q = 5 ∨ q = 6 ∨ q = 7 := by omega
    · subst e2
      simp only [ints, frowMix]
      repeat (first | rw [if_pos (by first | omega | trivial)] | rw [if_neg (by omega)])
      simp only [frows, e, hq, frow, h0]
    · subst e2
      simp only [ints, frowMix]
      repeat (first | rw [if_pos (by first | omega | trivial)] | rw [if_neg (by omega)])
      simp only [frows, e, hq, frow, h1]
    · subst e2
      simp only [ints, frowMix]
      repeat (first | rw [if_pos (by first | omega | trivial)] | rw [if_neg (by omega)])
      simp only [frows, e, hq, frow, h2]
    · subst e2
      simp only [ints, frowMix]
      repeat (first | rw [if_pos (by first | omega | trivial)] | rw [if_neg (by omega)])
      simp only [frows, e, hq, frow, h3]
    · subst e2
      simp only [ints, frowMix]
      repeat (first | rw [if_pos (by first | omega | trivial)] | rw [if_neg (by omega)])
      simp only [frows, e, hq, frow, h4]
    · subst e2
      simp only [ints, frowMix]
      repeat (first | rw [if_pos (by first | omega | trivial)] | rw [if_neg (by omega)])
      simp only [frows, e, hq, frow, h5]
    · subst e2
      simp only [ints, frowMix]
      repeat (first | rw [if_pos (by first | omega | trivial)] | rw [if_neg (by omega)])
      simp only [frows, e, hq, frow, h6]
    · subst e2
      simp only [ints, frowMix]
      repeat (first | rw [if_pos (by first | omega | trivial)] | rw [if_neg (by omega)])
      simp only [frows, e, hq, frow, h7]
  · simp only [ints, frowMix]
    by_cases d : j / 8 < i
    · repeat (first | rw [if_pos (by first | omega | trivial)] | rw [if_neg (by omega)])
    · repeat (first | rw [if_pos (by first | omega | trivial)] | rw [if_neg (by omega)])

set_option maxHeartbeats 4000000 in
set_option maxRecDepth 100000 in
theorem frow_any (b : Nat) (T : TypeId) (f : Nat → Int) (w : World) (h : w.rowIs b T 64 (ints .i32 f)) :
    Calls Tryz.prog 82 #[.pointer (some ⟨b, 0, none⟩)] w fun e w' => e = .returned (.tuple #[]) ∧ Kept (fun k => k ≠ b) w w' ∧ w'.rowIs b T 64 (ints .i32 (frows f)) := by
  go_enter Tryz.func82, Tryz.ntmps82
  go_wp2_with fail
  go_loopg [12] 8 (fun k si wr => ∃ i : Nat, i ≤ 8 ∧ k = 8 - i ∧ si = .int .i64 i ∧ Kept (fun k => k ≠ b) w wr ∧ wr.rowIs b T 64 (ints .i32 (frowMix f i)))
  case atStart => exact ⟨0, by omega, rfl, rfl, Kept.refl _ _, h.congr fun j _ => by simp [ints, frowMix]⟩
  case round =>
    obtain ⟨i, hi, rfl, rfl, hk, hr⟩ := hrel
    by_cases hlt : i < 8
    · have hltd : decide ((i : Int) < 8) = true := by simp; omega
      have hsl := run_slice8 (P := Tryz.prog) Tryz.underlying132 (show (Tryz.prog.info? 21).map (·.size) = some 1 by kernel_rfl) b i hlt
      obtain ⟨x0, q0⟩ : ∃ x, f (8 * i) = x := ⟨_, rfl⟩
      obtain ⟨x1, q1⟩ : ∃ x, f (8 * i + 1) = x := ⟨_, rfl⟩
      obtain ⟨x2, q2⟩ : ∃ x, f (8 * i + 2) = x := ⟨_, rfl⟩
      obtain ⟨x3, q3⟩ : ∃ x, f (8 * i + 3) = x := ⟨_, rfl⟩
      obtain ⟨x4, q4⟩ : ∃ x, f (8 * i + 4) = x := ⟨_, rfl⟩
      obtain ⟨x5, q5⟩ : ∃ x, f (8 * i + 5) = x := ⟨_, rfl⟩
      obtain ⟨x6, q6⟩ : ∃ x, f (8 * i + 6) = x := ⟨_, rfl⟩
      obtain ⟨x7, q7⟩ : ∃ x, f (8 * i + 7) = x := ⟨_, rfl⟩
      have c0 : wr.cell? ⟨b, 8 * i, none⟩ = some (.int .i32 x0) := by rw [hr.cell (by omega)]; simp only [ints, frowMix]; rw [if_neg (by omega), q0]
      have c1 : wr.cell? ⟨b, 8 * i + 1, none⟩ = some (.int .i32 x1) := by rw [hr.cell (by omega)]; simp only [ints, frowMix]; rw [if_neg (by omega), q1]
      have c2 : wr.cell? ⟨b, 8 * i + 2, none⟩ = some (.int .i32 x2) := by rw [hr.cell (by omega)]; simp only [ints, frowMix]; rw [if_neg (by omega), q2]
      have c3 : wr.cell? ⟨b, 8 * i + 3, none⟩ = some (.int .i32 x3) := by rw [hr.cell (by omega)]; simp only [ints, frowMix]; rw [if_neg (by omega), q3]
      have c4 : wr.cell? ⟨b, 8 * i + 4, none⟩ = some (.int .i32 x4) := by rw [hr.cell (by omega)]; simp only [ints, frowMix]; rw [if_neg (by omega), q4]
      have c5 : wr.cell? ⟨b, 8 * i + 5, none⟩ = some (.int .i32 x5) := by rw [hr.cell (by omega)]; simp only [ints, frowMix]; rw [if_neg (by omega), q5]
      have c6 : wr.cell? ⟨b, 8 * i + 6, none⟩ = some (.int .i32 x6) := by rw [hr.cell (by omega)]; simp only [ints, frowMix]; rw [if_neg (by omega), q6]
      have c7 : wr.cell? ⟨b, 8 * i + 7, none⟩ = some (.int .i32 x7) := by rw [hr.cell (by omega)]; simp only [ints, frowMix]; rw [if_neg (by omega), q7]
      have z0 : wr.frozen? ⟨b, 8 * i, none⟩ = false := hr.frozen _
      have z1 : wr.frozen? ⟨b, 8 * i + 1, none⟩ = false := hr.frozen _
      have z2 : wr.frozen? ⟨b, 8 * i + 2, none⟩ = false := hr.frozen _
      have z3 : wr.frozen? ⟨b, 8 * i + 3, none⟩ = false := hr.frozen _
      have z4 : wr.frozen? ⟨b, 8 * i + 4, none⟩ = false := hr.frozen _
      have z5 : wr.frozen? ⟨b, 8 * i + 5, none⟩ = false := hr.frozen _
      have z6 : wr.frozen? ⟨b, 8 * i + 6, none⟩ = false := hr.frozen _
      have z7 : wr.frozen? ⟨b, 8 * i + 7, none⟩ = false := hr.frozen _
      have Q0 := Lib.hid q0
      have Q1 := Lib.hid q1
      have Q2 := Lib.hid q2
      have Q3 := Lib.hid q3
      have Q4 := Lib.hid q4
      have Q5 := Lib.hid q5
      have Q6 := Lib.hid q6
      have Q7 := Lib.hid q7
      clear q0 q1 q2 q3 q4 q5 q6 q7
      have HR := Lib.hid hr
      clear hr h
      go_wp2_with (first | (go_at_call 83; refine (dctBox_any _ _ _ _ _).mono ?_; rintro e w2 ⟨rfl, rfl⟩) | go_in)
      go_roundg (8 - (i + 1))
      case measure => go_light; omega
      case rel =>
        go_light
        exact ⟨i + 1, by omega, rfl, by go_num, ((((((((hk.setCell (fun _ h => h rfl) _).setCell (fun _ h => h rfl) _).setCell (fun _ h => h rfl) _).setCell (fun _ h => h rfl) _).setCell (fun _ h => h rfl) _).setCell (fun _ h => h rfl) _).setCell (fun _ h => h rfl) _).setCell (fun _ h => h rfl) _), frow_step HR.out hlt (by rw [show f (8 * i) = _ from Q0.out, show f (8 * i + 1) = _ from Q1.out, show f (8 * i + 2) = _ from Q2.out, show f (8 * i + 3) = _ from Q3.out, show f (8 * i + 4) = _ from Q4.out, show f (8 * i + 5) = _ from Q5.out, show f (8 * i + 6) = _ from Q6.out, show f (8 * i + 7) = _ from Q7.out]; rfl) (by rw [show f (8 * i) = _ from Q0.out, show f (8 * i + 1) = _ from Q1.out, show f (8 * i + 2) = _ from Q2.out, show f (8 * i + 3) = _ from Q3.out, show f (8 * i + 4) = _ from Q4.out, show f (8 * i + 5) = _ from Q5.out, show f (8 * i + 6) = _ from Q6.out, show f (8 * i + 7) = _ from Q7.out]; rfl) (by rw [show f (8 * i) = _ from Q0.out, show f (8 * i + 1) = _ from Q1.out, show f (8 * i + 2) = _ from Q2.out, show f (8 * i + 3) = _ from Q3.out, show f (8 * i + 4) = _ from Q4.out, show f (8 * i + 5) = _ from Q5.out, show f (8 * i + 6) = _ from Q6.out, show f (8 * i + 7) = _ from Q7.out]; rfl) (by rw [show f (8 * i) = _ from Q0.out, show f (8 * i + 1) = _ from Q1.out, show f (8 * i + 2) = _ from Q2.out, show f (8 * i + 3) = _ from Q3.out, show f (8 * i + 4) = _ from Q4.out, show f (8 * i + 5) = _ from Q5.out, show f (8 * i + 6) = _ from Q6.out, show f (8 * i + 7) = _ from Q7.out]; rfl) (by rw [show f (8 * i) = _ from Q0.out, show f (8 * i + 1) = _ from Q1.out, show f (8 * i + 2) = _ from Q2.out, show f (8 * i + 3) = _ from Q3.out, show f (8 * i + 4) = _ from Q4.out, show f (8 * i + 5) = _ from Q5.out, show f (8 * i + 6) = _ from Q6.out, show f (8 * i + 7) = _ from Q7.out]; rfl) (by rw [show f (8 * i) = _ from Q0.out, show f (8 * i + 1) = _ from Q1.out, show f (8 * i + 2) = _ from Q2.out, show f (8 * i + 3) = _ from Q3.out, show f (8 * i + 4) = _ from Q4.out, show f (8 * i + 5) = _ from Q5.out, show f (8 * i + 6) = _ from Q6.out, show f (8 * i + 7) = _ from Q7.out]; rfl) (by rw [show f (8 * i) = _ from Q0.out, show f (8 * i + 1) = _ from Q1.out, show f (8 * i + 2) = _ from Q2.out, show f (8 * i + 3) = _ from Q3.out, show f (8 * i + 4) = _ from Q4.out, show f (8 * i + 5) = _ from Q5.out, show f (8 * i + 6) = _ from Q6.out, show f (8 * i + 7) = _ from Q7.out]; rfl) (by rw [show f (8 * i) = _ from Q0.out, show f (8 * i + 1) = _ from Q1.out, show f (8 * i + 2) = _ from Q2.out, show f (8 * i + 3) = _ from Q3.out, show f (8 * i + 4) = _ from Q4.out, show f (8 * i + 5) = _ from Q5.out, show f (8 * i + 6) = _ from Q6.out, show f (8 * i + 7) = _ from Q7.out]; rfl)⟩
    · have hltd : decide ((i : Int) < 8) = false := by simp; omega
      go_wp2
      go_end0
      exact ⟨rfl, hk, hr.congr fun j hj => by simp only [ints, frowMix]; rw [if_pos (by omega)]⟩
end Go.Proofs.YtghjlekdibcjdaaGreatDoor
