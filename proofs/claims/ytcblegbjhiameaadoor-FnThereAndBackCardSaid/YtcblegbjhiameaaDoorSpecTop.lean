/- Contracts of spec.Forward, spec.Inverse, spec.Within and laws.apart. -/
import Derived.Test.YtcblegbjhiameaaDoorSpecSums
namespace Go.Proofs.YtcblegbjhiameaaDoor
open Go.Deep Go.RowKit

set_option maxHeartbeats 1000000 in
set_option maxRecDepth 100000 in
theorem specForward_any (z : Nat → Nat) (bs : Nat → Int) (f : Nat → Int) (bb T : Nat) (w : World) (L : Laid z bs w) (hf : w.rowIs bb T 64 (ints .i64 f)) :
    Calls Tryd.prog 9 #[.pointer (some ⟨bb, 0, none⟩)] w fun e w' => e = .returned (.agg (agg 64 (ints .i64 (fwd z bs f)))) ∧ Kept (fun _ => True) w w' := by
  have hres := rowIs_lit64i w 24
  go_enter Tryd.func9, Tryd.ntmps9
  go_wp2_with fail
  refine (cof_any z bs f bb T _ (L.kept ((Kept.refl _ _).alloc _)) (hf.alloc _)).mono ?_
  rintro e w1 ⟨rfl, k1⟩
  have q0 := k1.row hres trivial
  have hnew := rowIs_lit64i w1 24
  have K1 : Kept (fun _ => True) w w1 := ((Kept.refl _ w).alloc _).trans k1
  have lt1 := q0.lt
  clear hres k1
  generalize hS : cof z bs f = S
  go_wp2_with (((with_reducible refine wpList_store_new (op := ⟨none, .store 24 (.tmp 3) (.tmp 5), _, _, _, _⟩) ?_ 24 (.tmp 3) (.tmp 5) ?_ w1.heap.size 64 (g := ints .i64 S) ?_ ?_ hnew ?_ ?_ ?_); (· rfl); (· rfl); (· rfl); (· rfl); (· exact sizeU); (· exact fun _ => rfl); (intro w2 k2 s2 r2)))
  have K2 : Kept (fun _ => True) w w2 := (K1.alloc _).trans' k2 fun i hi _ => by omega
  have q2 := k2.row (q0.alloc _) (by omega)
  clear hnew k2 q0
  refine (natural_any z bs S w1.heap.size 24 w2 (L.kept K2) r2).mono ?_
  rintro e w3 ⟨rfl, k3⟩
  have q3 := k3.row q2 trivial
  have K3 := K2.trans k3
  clear k3 K2 q2 r2
  go_wp2_with (((with_reducible refine wpList_store_new (op := ⟨none, .store 24 (.tmp 2) (.tmp 6), _, _, _, _⟩) ?_ 24 (.tmp 2) (.tmp 6) ?_ w.heap.size 64 (g := ints .i64 (fill z S 64)) ?_ ?_ q3 ?_ ?_ ?_); (· rfl); (· rfl); (· rfl); (· rfl); (· exact sizeU); (· exact fun _ => rfl); (intro w4 k4 s4 r4)))
  exact bodyPost_ret (v := .agg (agg 64 (ints .i64 (fill z S 64)))) (results_rowIs Tryd.results9 r4 rfl Tryd.underlying24 rfl sizeU) rfl ⟨by rw [← hS]; rfl, K3.trans' k4 fun i hi _ => by omega⟩
def shift (S : Nat → Int) (i : Nat) : Nat → Int := fun j => if j < i then wrap64 (S j - 140737488355328) else S j
theorem shift_at (S : Nat → Int) (i : Nat) : shift S i i = S i := by simp [shift]
theorem shift_step (S : Nat → Int) (i j : Nat) {o : Int} (ho : S i = o) : (if j = i then Value.int .i64 (wrap64 (o - 140737488355328)) else ints .i64 (shift S i) j) = ints .i64 (shift S (i + 1)) j := by
  subst ho
  simp only [ints, shift]
  by_cases e : j = i
  · subst e; rw [if_pos rfl, if_pos (by omega)]
  · rw [if_neg e]
    by_cases d : j < i
    · rw [if_pos d, if_pos (by omega)]
    · rw [if_neg d, if_neg (by omega)]

set_option maxHeartbeats 1000000 in
set_option maxRecDepth 100000 in
theorem specInverse_any (z : Nat → Nat) (bs : Nat → Int) (f : Nat → Int) (bb T : Nat) (w : World) (L : Laid z bs w) (hf : w.rowIs bb T 64 (ints .i64 f)) :
    Calls Tryd.prog 12 #[.pointer (some ⟨bb, 0, none⟩)] w fun e w' => e = .returned (.agg (agg 64 (ints .i64 (inv z bs f)))) ∧ Kept (fun _ => True) w w' := by
  have hA := rowIs_lit64i w 24
  have hB := rowIs_lit64i (w.alloc (.cells lit64i 24)) 24
  simp only [World.size_alloc] at hB
  go_enter Tryd.func12, Tryd.ntmps12
  go_wp2
  go_loopg [8] 64 (fun k s wr => ∃ i : Nat, i ≤ 64 ∧ k = 64 - i ∧ s = .int .i64 i ∧ Kept (fun _ => True) w wr ∧ wr.rowIs w.heap.size 24 64 (ints .i64 fun _ => 0) ∧ wr.rowIs (w.heap.size + 1) 24 64 (ints .i64 (upto (fun _ => 1) i)))
  case atStart => exact ⟨0, by omega, rfl, rfl, ((Kept.refl _ _).alloc _).alloc _, hA.alloc _, hB.congr fun j _ => by simp [ints, upto]⟩
  case round =>
    clear hA hB
    obtain ⟨i, hi, rfl, rfl, hk, q0, q1⟩ := hrel
    by_cases hlt : i < 64
    · obtain ⟨o, ho⟩ : ∃ o, upto (fun _ => 1) i i = o := ⟨_, rfl⟩
      have d2 : wr.cell? ⟨w.heap.size + 1, i, none⟩ = some (.int .i64 o) := by rw [← ho]; exact q1.cell (by omega)
      have d3 : wr.frozen? ⟨w.heap.size + 1, i, none⟩ = false := q1.frozen _
      clear ho
      go_wp2
      go_roundg (64 - (i + 1))
      case measure => go_light; omega
      case rel =>
        go_light
        exact ⟨i + 1, by omega, rfl, by go_num, hk.setCell (fun h => absurd h (by show ¬ (w.heap.size + 1 < w.heap.size); omega)) _, q0.setOther (by simp) _, (q1.set _ _).congr fun j _ => upto_step _ i j rfl⟩
    · have ei : i = 64 := by omega
      subst ei
      have q1' : wr.rowIs (w.heap.size + 1) 24 64 (ints .i64 fun _ => 1) := q1.congr fun j hj => by simp only [ints, upto, if_pos hj]
      clear q1
      go_wp2_with fail
      refine (ordered_any z bs f bb T wr (L.kept hk) (hk.row hf trivial)).mono ?_
      rintro e w1 ⟨rfl, k1⟩
      have K1 := hk.trans k1
      have p0 := k1.row q0 trivial
      have p1 := k1.row q1' trivial
      have lt0 := p0.lt
      have lt1 := p1.lt
      have hnew := rowIs_lit64i w1 24
      clear hk k1 q0 q1'
      generalize hF : (fun k => f (z k)) = F
      go_wp2_with (((with_reducible refine wpList_store_new (op := ⟨none, .store 24 (.tmp 5) (.tmp 15), _, _, _, _⟩) ?_ 24 (.tmp 5) (.tmp 15) ?_ w1.heap.size 64 (g := ints .i64 F) ?_ ?_ hnew ?_ ?_ ?_); (· rfl); (· rfl); (· rfl); (· rfl); (· exact sizeU); (· exact fun _ => rfl); (intro w2 k2 s2 r2)))
      have K2 : Kept (fun _ => True) w w2 := (K1.alloc _).trans' k2 fun i hi _ => by omega
      have o0 := k2.row (p0.alloc _) (by omega)
      have o1 := k2.row (p1.alloc _) (by omega)
      clear hnew k2 p0 p1
      refine (smp_any z bs F (fun _ => 1) w1.heap.size (w.heap.size + 1) 24 24 w2 (L.kept K2) r2 o1).mono ?_
      rintro e w3 ⟨rfl, k3⟩
      have K3 := K2.trans k3
      have n0 := k3.row o0 trivial
      have lt3 := n0.lt
      have hnew := rowIs_lit64i w3 24
      clear K2 k3 o0 o1 r2 s2
      generalize hS : smp z bs F (fun _ => 1) = S
      go_wp2_with (((with_reducible refine wpList_store_new (op := ⟨none, .store 24 (.tmp 6) (.tmp 16), _, _, _, _⟩) ?_ 24 (.tmp 6) (.tmp 16) ?_ w3.heap.size 64 (g := ints .i64 S) ?_ ?_ hnew ?_ ?_ ?_); (· rfl); (· rfl); (· rfl); (· rfl); (· exact sizeU); (· exact fun _ => rfl); (intro w4 k4 s4 r4)))
      have K4 : Kept (fun _ => True) w w4 := (K3.alloc _).trans' k4 fun i hi _ => by omega
      have m0 := k4.row (n0.alloc _) (by omega)
      clear hnew k4 n0 s4
      go_loopg [17] 64 (fun k s wr => ∃ i : Nat, i ≤ 64 ∧ k = 64 - i ∧ s = .int .i64 i ∧ Kept (fun _ => True) w wr ∧ wr.rowIs w.heap.size 24 64 (ints .i64 fun _ => 0) ∧ wr.rowIs w3.heap.size 24 64 (ints .i64 (shift S i)))
      case atStart => exact ⟨0, by omega, rfl, rfl, K4, m0, r4⟩
      case round =>
        clear K4 m0 r4
        obtain ⟨i, hi, rfl, rfl, hk, q0, q1⟩ := hrel
        by_cases hlt : i < 64
        · obtain ⟨o, ho⟩ : ∃ o, S i = o := ⟨_, rfl⟩
          have d2 : wr.cell? ⟨w3.heap.size, i, none⟩ = some (.int .i64 o) := by rw [← ho, ← shift_at S i]; exact q1.cell (by omega)
          have d3 : wr.frozen? ⟨w3.heap.size, i, none⟩ = false := q1.frozen _
          have HO := Lib.hid ho
          clear ho
          go_wp2
          go_roundg (64 - (i + 1))
          case measure => go_light; omega
          case rel =>
            go_light
            exact ⟨i + 1, by omega, rfl, by go_num, hk.setCell (fun h => absurd h (by show ¬ (w3.heap.size < w.heap.size); omega)) _, q0.setOther (by simp; omega) _, (q1.set _ _).congr fun j _ => shift_step S i j HO.out⟩
        · have ei : i = 64 := by omega
          subst ei
          go_wp2_with (first | ((with_reducible refine wpList_load_all (op := ⟨some 26, .load 24 (.tmp 6), _, _, _, _⟩) ?_ 24 (.tmp 6) ?_ w3.heap.size 64 ?_ q1 ?_ Tryd.underlying24 ?_ ?_ ?_); (· rfl); (· rfl); (· rfl); (· omega); (· rfl); (· exact sizeU)) | ((with_reducible refine wpList_store_new (op := ⟨none, .store 24 (.tmp 2) (.tmp 26), _, _, _, _⟩) ?_ 24 (.tmp 2) (.tmp 26) ?_ w.heap.size 64 (g := ints .i64 (shift S 64)) ?_ ?_ q0 ?_ ?_ ?_); (· rfl); (· rfl); (· rfl); (· rfl); (· exact sizeU); (· exact fun _ => rfl); (intro w6 k6 s6 r6)))
          exact bodyPost_ret (v := .agg (agg 64 (ints .i64 (shift S 64)))) (results_rowIs Tryd.results12 r6 rfl Tryd.underlying24 rfl sizeU) rfl ⟨by rw [agg_congr (g := ints .i64 (inv z bs f)) fun j hj => by simp only [ints, shift, if_pos hj]; rw [← hS, ← hF]; rfl], hk.trans' k6 fun i hi _ => by omega⟩

/-- What Within answers at the bounds -384 and 383. -/
def WithinPost (w : World) (g : Nat → Int) (e : Ending) (w' : World) : Prop :=
  ∃ b : Bool, e = .returned (.bool b) ∧ (b = true → ∀ j, j < 64 → -422212465065984 ≤ g j ∧ g j ≤ 421112953438208) ∧ Kept (fun _ => True) w w'
set_option maxHeartbeats 1000000 in
set_option maxRecDepth 100000 in
theorem within_any (g : Nat → Int) (bb T : Nat) (w : World) (hg : w.rowIs bb T 64 (ints .i64 g)) :
    Calls Tryd.prog 13 #[.pointer (some ⟨bb, 0, none⟩), .int .i64 (-384), .int .i64 383] w (WithinPost w g) := by
  unfold WithinPost
  go_enter Tryd.func13, Tryd.ntmps13
  go_wp2
  go_loopg [10] 64 (fun k s wr => ∃ i : Nat, i ≤ 64 ∧ k = 64 - i ∧ s = .int .i64 i ∧ Kept (fun _ => True) w wr ∧ Hid (∀ j, j < i → -422212465065984 ≤ g j ∧ g j ≤ 421112953438208))
  case atStart => exact ⟨0, by omega, rfl, rfl, Kept.refl _ _, Lib.hid fun j hj => by omega⟩
  case round =>
    obtain ⟨i, hi, rfl, rfl, hk, hb⟩ := hrel
    by_cases hlt : i < 64
    · obtain ⟨v, hv⟩ : ∃ v, g i = v := ⟨_, rfl⟩
      have d0 : wr.cell? ⟨bb, i, none⟩ = some (.int .i64 v) := by rw [← hv]; exact (hk.row hg trivial).cell (by omega)
      have HV := Lib.hid hv
      clear hv
      by_cases h1 : v < -422212465065984
      · go_wp2
        go_ret
        first | exact ⟨false, rfl, (fun h => by cases h), hk⟩ | exact .inl ⟨rfl, hk⟩
      · by_cases h2 : 421112953438208 < v
        · go_wp2
          go_ret
          first | exact ⟨false, rfl, (fun h => by cases h), hk⟩ | exact .inl ⟨rfl, hk⟩
        · go_wp2
          go_roundg (64 - (i + 1))
          case measure => go_light; omega
          case rel =>
            go_light
            exact ⟨i + 1, by omega, rfl, by go_num, hk, Lib.hid fun j hj => by
              by_cases e : j = i
              · rw [e, HV.out]; omega
              · exact hb.out j (by omega)⟩
    · have ei : i = 64 := by omega
      subst ei
      go_wp2
      go_ret
      first | exact ⟨true, rfl, (fun _ => hb.out), hk⟩ | exact .inr ⟨rfl, hb.out, hk⟩

theorem apart_no (a b m : Int) (w : World) (ha : -2305843009213693952 ≤ a ∧ a ≤ 2305843009213693952) (hb : -2305843009213693952 ≤ b ∧ b ≤ 2305843009213693952) (h1 : a - b ≤ m) (h2 : b - a ≤ m) :
    Calls Tryd.prog 10 #[.int .i64 a, .int .i64 b, .int .i64 m] w fun e w' => e = .returned (.bool false) ∧ Kept (fun _ => True) w w' := by
  obtain ⟨ha1, ha2⟩ := ha
  obtain ⟨hb1, hb2⟩ := hb
  go_enter Tryd.func10, Tryd.ntmps10
  go_wp2
  all_goals
    go_ret
    exact ⟨by simp; omega, Kept.refl _ _⟩
end Go.Proofs.YtcblegbjhiameaaDoor
