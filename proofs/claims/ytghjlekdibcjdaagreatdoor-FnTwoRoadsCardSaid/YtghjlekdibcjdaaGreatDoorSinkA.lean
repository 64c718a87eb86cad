/- The contract of impl.writer's Write: what is kept of a run of bytes, with a limit or without. -/
import Derived.Test.YtghjlekdibcjdaaGreatDoorStream
import Derived.BigRegion
namespace Go.Proofs.YtghjlekdibcjdaaGreatDoor
open Go.Deep Go.RowKit
set_option linter.unusedVariables false
/-- The writer of package impl: block wb, its limit, whether it has failed, the bytes that it holds; fb is a block that these do not lie in. -/
structure WrIs (B wb fb : Nat) (lim : Int) (failed : Bool) (A : List Nat) (w : World) : Prop where
  le : B ≤ wb
  ex : ∃ v, w.heap[wb]? = some (.cells #[v, .int .i64 lim, .bool failed] 67 (0, 0)) ∧ w.ownsRow B 5 1 v A.length (cellsN A) ∧ v.ownBlock ≠ some fb
/-- How many of m bytes are taken. -/
def takes (lim : Int) (a m : Nat) : Nat := if lim < 0 then m else min m (lim.toNat - a)
theorem own_cells {w : World} {k : Nat} {u a b : Value} {t : TypeId} (hk : w.heap[k]? = some (.cells #[u, a, b] t (0, 0))) :
    w.cell? ⟨k, 0, none⟩ = some u ∧ w.cell? ⟨k, 1, none⟩ = some a ∧ w.cell? ⟨k, 2, none⟩ = some b ∧ ∀ j, w.frozen? ⟨k, j, none⟩ = false :=
  ⟨by simp [World.cell?, hk], by simp [World.cell?, hk], by simp [World.cell?, hk], fun j => by simp [World.frozen?, hk]⟩
theorem ownsRow_len {w : World} {B : Nat} {v : Value} {A : List Nat} (h : w.ownsRow B 5 1 v A.length (cellsN A)) : ∃ p cap, v = .slice p A.length cap := by
  rcases h.2 with ⟨rfl, h0⟩ | ⟨g, cap, cur, rfl, _⟩
  · exact ⟨none, 0, by rw [h0]⟩
  · exact ⟨_, _, rfl⟩
theorem owned_form {w : World} {B n : Nat} {v : Value} {xs : List Value} (h : w.ownsRow B 5 1 v n xs) : ∃ p cap, v = .slice p n cap := by
  rcases h.2 with ⟨rfl, h0⟩ | ⟨g, cap, cur, rfl, _⟩
  · exact ⟨none, 0, by rw [h0]⟩
  · exact ⟨_, _, rfl⟩
theorem own_grown {w w' w1 : World} {k : Nat} {x : Obj} {row : Option Nat} (hk : w.heap[k]? = some x) (hg : w'.grownBy w1 row) (hW : w'.heap = w.heap) (hne : row ≠ some k) : w1.heap[k]? = some x := by
  have hlt : k < w.heap.size := (Array.getElem?_eq_some_iff.1 hk).1
  rw [hg.block k (by rw [hW]; exact hlt) (Ne.symm hne), hW, hk]
theorem cells_at {w : World} {fb : Nat} {R : List Nat} (h : ∀ j, j < R.length → w.cell? ⟨fb, j, none⟩ = some (.int .u8 ((R.getD j 0 : Nat) : Int))) (k : Nat) (j : Nat) (u : Value) (hu : (cellsN (R.take k))[j]? = some u) : w.cell? ((⟨fb, 0, none⟩ : Addr).add j) = some u := by
  unfold cellsN at hu
  rw [List.getElem?_map] at hu
  obtain ⟨x, hx, rfl⟩ := Option.map_eq_some_iff.1 hu
  have hj : j < R.length := by
    have := (List.getElem?_eq_some_iff.1 hx).1
    simp at this; omega
  have hjk : j < k := by
    have := (List.getElem?_eq_some_iff.1 hx).1
    simp at this; omega
  rw [Addr.add_mid, Nat.zero_add, h j hj]
  rw [List.getElem?_take, if_pos hjk] at hx
  rw [List.getD_eq_getElem?_getD, hx]
  rfl
/-- What the append and the two stores behind it leave. -/
theorem wr_done {B wb fb : Nat} {lim : Int} {A R : List Nat} {w w0 w1 : World} {v v1 : Value} {b : Bool} (hle : B ≤ wb) (hB : B ≤ w.heap.size) (h0 : w0.heap = w.heap ∧ w0.os = w.os ∧ w0.tape = w.tape ∧ w0.output = w.output) (hk : w.heap[wb]? = some (.cells #[v, .int .i64 lim, .bool false] 67 (0, 0))) (ho : w.ownsRow B 5 1 v A.length (cellsN A)) (hne : v.ownBlock ≠ some fb) (hfb : fb < w.heap.size) (hfw : fb ≠ wb)
    (ho1 : w1.ownsRow B 5 1 v1 (A.length + R.length) (cellsN A ++ cellsN R)) (hg : w0.grownBy w1 v.ownBlock) (hat : v1.ownBlock = v.ownBlock ∨ v1.ownBlock = some w.heap.size) :
    WrIs B wb fb lim b (A ++ R) ((w1.setCell ⟨wb, 0, none⟩ v1).setCell ⟨wb, 2, none⟩ (.bool b)) ∧ ((w1.setCell ⟨wb, 0, none⟩ v1).setCell ⟨wb, 2, none⟩ (.bool b)).heap[fb]? = w.heap[fb]? ∧ Fr B (fun k => k = wb) w ((w1.setCell ⟨wb, 0, none⟩ v1).setCell ⟨wb, 2, none⟩ (.bool b)) := by
  obtain ⟨e1, e2, e3, e4⟩ := h0
  have ho0 : w0.ownsRow B 5 1 v A.length (cellsN A) := ownsRow_block ho fun g _ => by rw [e1]
  have hF0 : Fr B (fun k => k = wb) w w0 := ⟨e2, e3, e4, by rw [e1]; exact Nat.le_refl _, fun k o h1 _ _ => by rw [e1]; exact h1⟩
  have hF := hF0.grown hg ho0
  have hnw := ownBlock_ne ho hk (by decide)
  have hk1 := own_grown hk hg e1 hnw
  have h2 := heap_set hk1 0 v1
  have h3 := heap_set h2 2 (.bool b)
  have o2 := ownsRow_set ho1 hk1 (by decide) 0 v1
  have o3 := ownsRow_set o2 h2 (by decide) 2 (.bool b)
  refine ⟨⟨hle, v1, by simpa using h3, by rw [List.length_append, cellsN_app]; exact o3, ?_⟩, ?_, (hF.setCell rfl _).setCell rfl _⟩
  · rcases hat with h | h
    · rw [h]; exact hne
    · rw [h]; intro e; injection e with e; omega
  · rw [blk_setCell_other _ _ _ _ hfw, blk_setCell_other _ _ _ _ hfw, hg.block fb (by rw [e1]; exact hfb) (Ne.symm hne), e1]
set_option maxHeartbeats 2000000 in
set_option maxRecDepth 100000 in
theorem wrWrite_free (B wb fb cap : Nat) (lim : Int) (A R : List Nat) (w : World) (h : WrIs B wb fb lim false A w) (hR : ∀ j, j < R.length → w.cell? ⟨fb, j, none⟩ = some (.int .u8 ((R.getD j 0 : Nat) : Int))) (hl : A.length + R.length ≤ 1099511627776) (hcap : R.length ≤ cap) (hfb : fb < w.heap.size) (hfw : fb ≠ wb) (hB : B ≤ w.heap.size) (hlim : lim < 0) :
    Calls Tryz.prog 123 #[.pointer (some ⟨wb, 0, none⟩), .slice (some ⟨fb, 0, none⟩) R.length cap] w fun e w' => e = .returned (.tuple #[.int .i64 (R.length : Int), .nilIface]) ∧ WrIs B wb fb lim false (A ++ R) w' ∧ w'.heap[fb]? = w.heap[fb]? ∧ Fr B (fun k => k = wb) w w' := by
  obtain ⟨hle, v, hk, ho, hne⟩ := h
  obtain ⟨p, cv, rfl⟩ := ownsRow_len ho
  obtain ⟨i0, hi0, hz0, hz1, hz2⟩ := info_parts info5
  have HI := Lib.hid (And.intro hi0 (And.intro hz0 (And.intro hz1 hz2)))
  clear hi0 hz0 hz1 hz2
  obtain ⟨c0, c1, c2, c3⟩ := own_cells hk
  have HK := Lib.hid hk
  have HO := Lib.hid ho
  have HN := Lib.hid hne
  have HR := Lib.hid hR
  clear hk ho hne hR
  have hll : ¬ ((R.length : Nat) : Int) < ((R.length : Nat) : Int) := by omega
  go_enter Tryz.func123, Tryz.ntmps123
  go_wp2_with fail
  obtain ⟨hi0, hz0, hz1, hz2⟩ := HI.out
  have hown0 : w.ownsRow B 5 1 (.slice p A.length cv) A.length (cellsN A) := HO.out
  have hnwb := ownBlock_ne HO.out HK.out (by decide)
  go_region_law ((refine step_append_at _ (by rfl) _ _ _ (by rfl) B 5 i0 _ 1 1 Tryz.underlying22 hi0 hz0 hz1 hz2 rfl (by omega) (.slice p A.length cv) _ _ (by rfl) (show w.drew.ownsRow B 5 1 _ _ _ from hown0) ⟨fb, 0, none⟩ R.length cap (cellsN R) (by rfl) (by rw [cellsN_len]; omega) (fun j u hu => cells_at HR.out R.length j u (by rw [List.take_length]; exact hu)) (cellsN_one R) (by unfold maxLen; omega) (by omega) hB w.heap.size (by rfl) ?_; intro v1 w1 hown1 hgrow hat; obtain ⟨p1, cc1, rfl⟩ := owned_form hown1; have qk := own_grown HK.out hgrow rfl hnwb; obtain ⟨q0, q1, q2, q3⟩ := own_cells qk; have QK := Lib.hid qk; have QO := Lib.hid hown1; have QB := Lib.hid hgrow; have QA := Lib.hid hat; clear qk hown1 hgrow hat))
  all_goals
    have D := Lib.hid (wr_done (b := false) hle hB (by exact ⟨rfl, rfl, rfl, rfl⟩) HK.out HO.out HN.out hfb hfw QO.out QB.out QA.out)
    clear c0 c1 c2 c3 hown0 hnwb
    go_wp2_with fail
    go_ret2
    exact ⟨rfl, D.out⟩
set_option maxHeartbeats 2000000 in
set_option maxRecDepth 100000 in
theorem wrWrite_fits (B wb fb cap : Nat) (lim : Int) (A R : List Nat) (w : World) (h : WrIs B wb fb lim false A w) (hR : ∀ j, j < R.length → w.cell? ⟨fb, j, none⟩ = some (.int .u8 ((R.getD j 0 : Nat) : Int))) (hl : A.length + R.length ≤ 1099511627776) (hcap : R.length ≤ cap) (hfb : fb < w.heap.size) (hfw : fb ≠ wb) (hB : B ≤ w.heap.size) (h0 : 0 ≤ lim) (hlim : (A.length : Int) + R.length ≤ lim) (hmax : lim ≤ 9223372036854775807) :
    Calls Tryz.prog 123 #[.pointer (some ⟨wb, 0, none⟩), .slice (some ⟨fb, 0, none⟩) R.length cap] w fun e w' => e = .returned (.tuple #[.int .i64 (R.length : Int), .nilIface]) ∧ WrIs B wb fb lim false (A ++ R) w' ∧ w'.heap[fb]? = w.heap[fb]? ∧ Fr B (fun k => k = wb) w w' := by
  obtain ⟨hle, v, hk, ho, hne⟩ := h
  obtain ⟨p, cv, rfl⟩ := ownsRow_len ho
  obtain ⟨i0, hi0, hz0, hz1, hz2⟩ := info_parts info5
  have HI := Lib.hid (And.intro hi0 (And.intro hz0 (And.intro hz1 hz2)))
  clear hi0 hz0 hz1 hz2
  obtain ⟨c0, c1, c2, c3⟩ := own_cells hk
  have HK := Lib.hid hk
  have HO := Lib.hid ho
  have HN := Lib.hid hne
  have HR := Lib.hid hR
  clear hk ho hne hR
  have hge : ¬ lim < 0 := by omega
  have ew : IntKind.i64.wrap (lim - (A.length : Int)) = lim - (A.length : Int) := IntWalk.i64_in _ ⟨by omega, by omega⟩
  have hll : ¬ ((R.length : Nat) : Int) < ((R.length : Nat) : Int) := by omega
  go_enter Tryz.func123, Tryz.ntmps123
  go_wp2_with fail
  go_region
  go_wp2_with fail
  obtain ⟨hi0, hz0, hz1, hz2⟩ := HI.out
  have hown0 : w.ownsRow B 5 1 (.slice p A.length cv) A.length (cellsN A) := HO.out
  have hnwb := ownBlock_ne HO.out HK.out (by decide)
  go_region_law ((refine step_append_at _ (by rfl) _ _ _ (by rfl) B 5 i0 _ 1 1 Tryz.underlying22 hi0 hz0 hz1 hz2 rfl (by omega) (.slice p A.length cv) _ _ (by rfl) (show w.drew.drew.ownsRow B 5 1 _ _ _ from hown0) ⟨fb, 0, none⟩ R.length cap (cellsN (R)) (by rfl) (by rw [cellsN_len]; omega) (fun j u hu => cells_at HR.out R.length j u (by rw [List.take_length]; exact hu)) (cellsN_one _) (by unfold maxLen; omega) (by omega) hB w.heap.size (by rfl) ?_; intro v1 w1 hown1 hgrow hat; obtain ⟨p1, cc1, rfl⟩ := owned_form hown1; have qk := own_grown HK.out hgrow rfl hnwb; obtain ⟨q0, q1, q2, q3⟩ := own_cells qk; have QK := Lib.hid qk; have QO := Lib.hid hown1; have QB := Lib.hid hgrow; have QA := Lib.hid hat; clear qk hown1 hgrow hat))
  all_goals
    have D := Lib.hid (wr_done (b := false) (R := R) hle hB (by exact ⟨rfl, rfl, rfl, rfl⟩) HK.out HO.out HN.out hfb hfw QO.out QB.out QA.out)
    clear c0 c1 c2 c3 hown0 hnwb
    go_wp2_with fail
    go_ret2
    exact ⟨rfl, D.out⟩
set_option maxHeartbeats 2000000 in
set_option maxRecDepth 100000 in
theorem wrWrite_short (B wb fb cap : Nat) (lim : Int) (A R : List Nat) (w : World) (h : WrIs B wb fb lim false A w) (hR : ∀ j, j < R.length → w.cell? ⟨fb, j, none⟩ = some (.int .u8 ((R.getD j 0 : Nat) : Int))) (hl : A.length + R.length ≤ 1099511627776) (hcap : R.length ≤ cap) (hfb : fb < w.heap.size) (hfw : fb ≠ wb) (hB : B ≤ w.heap.size) (k : Nat) (hlim : lim = (A.length : Int) + k) (hkR : k < R.length) :
    Calls Tryz.prog 123 #[.pointer (some ⟨wb, 0, none⟩), .slice (some ⟨fb, 0, none⟩) R.length cap] w fun e w' => e = .returned (.tuple #[.int .i64 (k : Int), .iface 108 (.agg #[])]) ∧ WrIs B wb fb lim true (A ++ R.take k) w' ∧ w'.heap[fb]? = w.heap[fb]? ∧ Fr B (fun k => k = wb) w w' := by
  obtain ⟨hle, v, hk, ho, hne⟩ := h
  obtain ⟨p, cv, rfl⟩ := ownsRow_len ho
  obtain ⟨i0, hi0, hz0, hz1, hz2⟩ := info_parts info5
  have HI := Lib.hid (And.intro hi0 (And.intro hz0 (And.intro hz1 hz2)))
  clear hi0 hz0 hz1 hz2
  obtain ⟨c0, c1, c2, c3⟩ := own_cells hk
  have HK := Lib.hid hk
  have HO := Lib.hid ho
  have HN := Lib.hid hne
  have HR := Lib.hid hR
  clear hk ho hne hR
  have hge : ¬ lim < 0 := by omega
  have e1 : lim - (A.length : Int) = (k : Int) := by omega
  have ew : IntKind.i64.wrap (k : Int) = (k : Int) := IntWalk.i64_in _ ⟨by omega, by omega⟩
  clear hlim
  have hkl : (R.take k).length = k := by simp; omega
  have hkc : k ≤ cap := by omega
  have hll : ((k : Nat) : Int) < ((R.length : Nat) : Int) := by omega
  go_enter Tryz.func123, Tryz.ntmps123
  go_wp2_with fail
  go_region
  go_wp2_with fail
  obtain ⟨hi0, hz0, hz1, hz2⟩ := HI.out
  have hown0 : w.ownsRow B 5 1 (.slice p A.length cv) A.length (cellsN A) := HO.out
  have hnwb := ownBlock_ne HO.out HK.out (by decide)
  go_region_law ((refine step_append_at _ (by rfl) _ _ _ (by rfl) B 5 i0 _ 1 1 Tryz.underlying22 hi0 hz0 hz1 hz2 rfl (by omega) (.slice p A.length cv) _ _ (by rfl) (show w.drew.drew.ownsRow B 5 1 _ _ _ from hown0) ⟨fb, 0, none⟩ k cap (cellsN (R.take k)) (by rfl) (by rw [cellsN_len]; omega) (fun j u hu => cells_at HR.out k j u hu) (cellsN_one _) (by unfold maxLen; omega) (by omega) hB w.heap.size (by rfl) ?_; intro v1 w1 hown1 hgrow hat; obtain ⟨p1, cc1, rfl⟩ := owned_form hown1; have qk := own_grown HK.out hgrow rfl hnwb; obtain ⟨q0, q1, q2, q3⟩ := own_cells qk; have QK := Lib.hid qk; have QO := Lib.hid hown1; have QB := Lib.hid hgrow; have QA := Lib.hid hat; clear qk hown1 hgrow hat))
  all_goals
    have D := Lib.hid (wr_done (b := true) (R := R.take k) hle hB (by exact ⟨rfl, rfl, rfl, rfl⟩) HK.out HO.out HN.out hfb hfw (by have h := QO.out; rw [hkl]; exact h) QB.out QA.out)
    clear c0 c1 c2 c3 hown0 hnwb
    go_wp2_with fail
    go_ret2
    exact ⟨rfl, D.out⟩
end Go.Proofs.YtghjlekdibcjdaaGreatDoor
