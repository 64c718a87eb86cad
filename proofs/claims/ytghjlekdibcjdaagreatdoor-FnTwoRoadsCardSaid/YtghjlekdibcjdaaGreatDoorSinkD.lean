/- The encoder over a sink, and the contract of its writeByte. -/
import Derived.Test.YtghjlekdibcjdaaGreatDoorSinkC
namespace Go.Proofs.YtghjlekdibcjdaaGreatDoor
open Go.Deep Go.RowKit
set_option linter.unusedVariables false
/-- What a sink has been handed, where it has not failed, and where it has. -/
def SnkGood (z : Ids) (T : List Nat) (w : World) : Prop := ∃ A R, T = A ++ R ∧ BufIs z A R w
def SnkBad (z : Ids) (T : List Nat) (w : World) : Prop := 0 ≤ z.lim ∧ z.lim < (T.length : Int) ∧ WrIs z.B z.wb z.fb z.lim true (T.take z.lim.toNat) w
/-- The encoder's error. -/
def errV (bad : Bool) : Value := if bad then .iface 108 (.agg #[]) else .nilIface
/-- A row but for its cell 1. -/
def put1 (e : Value) (f : Nat → Value) : Nat → Value := fun j => if j = 1 then e else f j
/-- An encoder: block eb, its cells but for the error's; what its sink has been handed. -/
structure EncIs (z : Ids) (eb : Nat) (f : Nat → Value) (T : List Nat) (w : World) : Prop where
  le : z.B ≤ eb
  f0 : f 0 = .iface 97 (.pointer (some ⟨z.bb, 0, none⟩))
  st : (w.rowIs eb 94 152 (put1 .nilIface f) ∧ SnkGood z T w) ∨ (w.rowIs eb 94 152 (put1 (.iface 108 (.agg #[])) f) ∧ SnkBad z T w)
/-- The blocks that a write may turn. -/
def Ids.all (z : Ids) (eb : Nat) : Nat → Prop := fun k => k = z.wb ∨ k = z.bb ∨ k = eb
theorem BufIs.block {z : Ids} {A R : List Nat} {w w' : World} (h : BufIs z A R w) (hb : ∀ (i : Nat) c t fz, w.heap[i]? = some (Obj.cells c t fz) → (t = 67 ∨ t = 166 ∨ t = 5) → w'.heap[i]? = w.heap[i]?) : BufIs z A R w' := by
  obtain ⟨hw, hbw, ⟨g, hrow, hrg⟩, h4, h5, h6, h7, h8⟩ := h
  obtain ⟨v, hk, _⟩ := hw.ex
  exact ⟨hw.block (hb _ _ _ _ hk (.inl rfl)) (fun g c fz hg _ => hb _ _ _ _ hg (.inr (.inr rfl))), (hb _ _ _ _ hbw (.inr (.inl rfl))).trans hbw, ⟨g, hrow.of_block (hb _ _ _ _ (rowIs_heap hrow) (.inr (.inr rfl))), hrg⟩, h4, h5, h6, h7, h8⟩
theorem EncIs.block {z : Ids} {eb : Nat} {f : Nat → Value} {T : List Nat} {w w' : World} (h : EncIs z eb f T w) (hb : ∀ (i : Nat) c t fz, w.heap[i]? = some (Obj.cells c t fz) → (t = 94 ∨ t = 67 ∨ t = 166 ∨ t = 5) → w'.heap[i]? = w.heap[i]?) : EncIs z eb f T w' := by
  refine ⟨h.le, h.f0, ?_⟩
  rcases h.st with ⟨hr, A, R, e, hB⟩ | ⟨hr, h1, h2, h3⟩
  · exact .inl ⟨hr.of_block (hb _ _ _ _ (rowIs_heap hr) (.inl rfl)), A, R, e, hB.block fun i c t fz hi ht => hb i c t fz hi (.inr ht)⟩
  · obtain ⟨v, hk, _⟩ := h3.ex
    exact .inr ⟨hr.of_block (hb _ _ _ _ (rowIs_heap hr) (.inl rfl)), h1, h2, h3.block (hb _ _ _ _ hk (.inr (.inl rfl))) (fun g c fz hg _ => hb _ _ _ _ hg (.inr (.inr (.inr rfl))))⟩
theorem EncIs.kept {z : Ids} {eb : Nat} {f : Nat → Value} {T : List Nat} {S : Nat → Prop} {w w' : World} (h : EncIs z eb f T w) (k : Kept S w w') (hS : ∀ (i : Nat) c t fz, w.heap[i]? = some (Obj.cells c t fz) → (t = 94 ∨ t = 67 ∨ t = 166 ∨ t = 5) → S i) : EncIs z eb f T w' :=
  h.block fun i c t fz hi ht => k.block i (Array.getElem?_eq_some_iff.1 hi).1 (hS i c t fz hi ht)
theorem EncIs.drew {z : Ids} {eb : Nat} {f : Nat → Value} {T : List Nat} {w : World} (h : EncIs z eb f T w) : EncIs z eb f T w.drew := h.block fun _ _ _ _ _ _ => rfl
/-- A cell of the encoder other than its error. -/
theorem EncIs.cell {z : Ids} {eb : Nat} {f : Nat → Value} {T : List Nat} {w : World} (h : EncIs z eb f T w) (j : Nat) (hj : j < 152) (h1 : j ≠ 1) : w.cell? ⟨eb, j, none⟩ = some (f j) := by
  rcases h.st with ⟨hr, _⟩ | ⟨hr, _⟩ <;>
  · rw [hr.cell hj]
    unfold put1
    rw [if_neg h1]
theorem EncIs.frozen {z : Ids} {eb : Nat} {f : Nat → Value} {T : List Nat} {w : World} (h : EncIs z eb f T w) (j : Nat) : w.frozen? ⟨eb, j, none⟩ = false := by
  rcases h.st with ⟨hr, _⟩ | ⟨hr, _⟩ <;> exact hr.frozen _
theorem EncIs.lt {z : Ids} {eb : Nat} {f : Nat → Value} {T : List Nat} {w : World} (h : EncIs z eb f T w) : eb < w.heap.size := by
  rcases h.st with ⟨hr, _⟩ | ⟨hr, _⟩ <;> exact hr.lt
theorem EncIs.set {z : Ids} {eb : Nat} {f : Nat → Value} {T : List Nat} {w : World} (h : EncIs z eb f T w) (j : Nat) (h1 : j ≠ 1) (h0 : j ≠ 0) (v : Value) : EncIs z eb (fun i => if i = j then v else f i) T (w.setCell ⟨eb, j, none⟩ v) := by
  have hb : ∀ hr : w.rowIs eb 94 152 (put1 .nilIface f) ∨ w.rowIs eb 94 152 (put1 (.iface 108 (.agg #[])) f), ∀ (i : Nat) c t fz, w.heap[i]? = some (Obj.cells c t fz) → (t = 67 ∨ t = 166 ∨ t = 5) → (w.setCell ⟨eb, j, none⟩ v).heap[i]? = w.heap[i]? := by
    intro hr i c t fz hi ht
    refine blk_setCell_other _ _ _ _ ?_
    have ht4 : t ≠ 94 := by rcases ht with rfl | rfl | rfl <;> decide
    rcases hr with hr | hr <;> exact type_ne hi (rowIs_heap hr) ht4
  refine ⟨h.le, by rw [if_neg (Ne.symm h0)]; exact h.f0, ?_⟩
  have hc : ∀ e, put1 e (fun i => if i = j then v else f i) = fun i => if i = j then v else put1 e f i := fun e => by
    funext i
    unfold put1
    by_cases e1 : i = 1
    · rw [if_pos e1, if_neg (by rw [e1]; exact Ne.symm h1), if_pos e1]
    · rw [if_neg e1, if_neg e1]
  rcases h.st with ⟨hr, A, R, e, hB⟩ | ⟨hr, h5, h2, h3⟩
  · rw [hc]
    exact .inl ⟨hr.set j v, A, R, e, hB.block (hb (.inl hr))⟩
  · obtain ⟨v', hk, _⟩ := h3.ex
    refine .inr ⟨?_, h5, h2, h3.block (hb (.inr hr) _ _ _ _ hk (.inl rfl)) (fun g c fz hg _ => hb (.inr hr) _ _ _ _ hg (.inr (.inr rfl)))⟩
    rw [hc]
    exact hr.set j v
theorem EncIs.congr {z : Ids} {eb : Nat} {f f' : Nat → Value} {T : List Nat} {w : World} (h : EncIs z eb f T w) (hf : ∀ j, j < 152 → j ≠ 1 → f j = f' j) : EncIs z eb f' T w := by
  have hc : ∀ e i, i < 152 → put1 e f i = put1 e f' i := fun e i hi => by
    unfold put1
    split
    · rfl
    · exact hf i hi (by assumption)
  refine ⟨h.le, by rw [← hf 0 (by omega) (by omega)]; exact h.f0, ?_⟩
  rcases h.st with ⟨hr, k⟩ | ⟨hr, k⟩
  · exact .inl ⟨hr.congr (hc _), k⟩
  · exact .inr ⟨hr.congr (hc _), k⟩
/-- The encoder's error is set behind a write. -/
theorem enc_err {eb : Nat} {f : Nat → Value} {w : World} (h : w.rowIs eb 94 152 (put1 .nilIface f)) (e : Value) : (w.setCell ⟨eb, 1, none⟩ e).rowIs eb 94 152 (put1 e f) :=
  (h.set 1 e).congr fun j _ => by
    unfold put1
    by_cases h1 : j = 1
    · rw [if_pos h1, if_pos h1]
    · rw [if_neg h1, if_neg h1, if_neg h1]
theorem Fr.rowE {z : Ids} {eb : Nat} {f : Nat → Value} {w w' : World} {S : Nat → Prop} (hF : Fr z.B S w w') (hS : ¬ S eb) (h : w.rowIs eb 94 152 f) : w'.rowIs eb 94 152 f := hF.row h hS (.inr (by decide))
theorem SnkGood.setEnc {z : Ids} {T : List Nat} {eb : Nat} {f : Nat → Value} {w : World} (h : SnkGood z T w) (hr : w.rowIs eb 94 152 f) (j : Nat) (v : Value) : SnkGood z T (w.setCell ⟨eb, j, none⟩ v) := by
  obtain ⟨A, R, e, hB⟩ := h
  exact ⟨A, R, e, hB.block fun i c t fz hi ht => blk_setCell_other _ _ _ _ (type_ne hi (rowIs_heap hr) (by rcases ht with rfl | rfl | rfl <;> decide))⟩
theorem SnkBad.setEnc {z : Ids} {T : List Nat} {eb : Nat} {f : Nat → Value} {w : World} (h : SnkBad z T w) (hr : w.rowIs eb 94 152 f) (j : Nat) (v : Value) : SnkBad z T (w.setCell ⟨eb, j, none⟩ v) := by
  obtain ⟨h1, h2, h3⟩ := h
  obtain ⟨v', hk, _⟩ := h3.ex
  exact ⟨h1, h2, h3.block (blk_setCell_other _ _ _ _ (type_ne hk (rowIs_heap hr) (by decide))) (fun g c fz hg _ => blk_setCell_other _ _ _ _ (type_ne hg (rowIs_heap hr) (by decide)))⟩
set_option maxHeartbeats 2000000 in
set_option maxRecDepth 100000 in
theorem writeByte_any (z : Ids) (eb : Nat) (f : Nat → Value) (T : List Nat) (c : Nat) (w : World) (h : EncIs z eb f T w) (hl : T.length ≤ 1099511627776) :
    Calls Tryz.prog 52 #[.pointer (some ⟨eb, 0, none⟩), .int .u8 (c : Int)] w fun e w' => e = .returned (.tuple #[]) ∧ EncIs z eb f (T ++ [c]) w' ∧ Fr z.B (z.all eb) w w' := by
  have hm : ∀ w : World, (method 345 97 (.pointer (some ⟨z.bb, 0, none⟩)) "WriteByte").run Tryz.prog w = .ok (127, .pointer (some ⟨z.bb, 0, none⟩)) w := fun _ => by kernel_rfl
  have c0 : w.cell? ⟨eb, 0, none⟩ = some (.iface 97 (.pointer (some ⟨z.bb, 0, none⟩))) := by rw [← h.f0]; exact h.cell 0 (by omega) (by omega)
  have hle := h.le
  have hf0 := h.f0
  rcases h.st with ⟨hr, A, R, rfl, hB⟩ | ⟨hr, h1, h2, h3⟩
  · have c1 : w.cell? ⟨eb, 1, none⟩ = some .nilIface := hr.cell (by omega)
    have hlen := hB.len
    have hw0 := hB.wr.ex
    obtain ⟨v0, hk0, _⟩ := hw0
    have hew : eb ≠ z.wb := type_ne (rowIs_heap hr) hk0 (by decide)
    have heb : eb ≠ z.bb := type_ne (rowIs_heap hr) hB.bw (by decide)
    obtain ⟨g, hg, _⟩ := hB.row
    have hef : eb ≠ z.fb := type_ne (rowIs_heap hr) (rowIs_heap hg) (by decide)
    have CW : Calls Tryz.prog 127 #[.pointer (some ⟨z.bb, 0, none⟩), .int .u8 (c : Int)] w fun e w' => ∃ bad, e = .returned (errV bad) ∧ (bad = false → SnkGood z (A ++ R ++ [c]) w') ∧ (bad = true → SnkBad z (A ++ R ++ [c]) w') ∧ w'.rowIs eb 94 152 (put1 .nilIface f) ∧ Fr z.B z.own w w' := by
      have hlA : A.length + R.length ≤ 1099511627776 := by simpa using hl
      by_cases hn : R.length < 4096
      · refine (bufByte_fits z A R c w hB hn).mono ?_
        rintro e w' ⟨rfl, hB', hk⟩
        refine ⟨false, rfl, fun _ => ⟨A, R ++ [c], by simp, hB'⟩, fun h => (by cases h), hk.row hr ⟨heb, hef⟩, ⟨hk.os, hk.tape, hk.output, hk.size, fun i o h1 h2 h3 => ?_⟩⟩
        refine (hk.block i (Array.getElem?_eq_some_iff.1 h1).1 ⟨fun e => h2 (.inr e), fun e => ?_⟩).trans h1
        subst e
        rcases h3 with h3 | h3
        · have := hB.lf; omega
        · have := rowIs_heap hg
          rw [h1] at this
          injection this with this
          exact h3 _ _ this
      · have hn' : R.length = 4096 := by omega
        have hns : ¬ z.own eb := fun e => e.elim hew heb
        by_cases hg2 : z.lim < 0 ∨ (A.length : Int) + R.length ≤ z.lim
        · refine (bufByte_over z A R c w hB hn' hlA hg2).mono ?_
          rintro e w' ⟨rfl, hB', hF⟩
          exact ⟨false, rfl, fun _ => ⟨A ++ R, [c], rfl, hB'⟩, fun h => (by cases h), hF.rowE hns hr, hF⟩
        · have hlm := hB.lim
          obtain ⟨k, hk⟩ : ∃ k : Nat, z.lim = (A.length : Int) + k := ⟨(z.lim - A.length).toNat, by omega⟩
          refine (bufByte_bad z A R c k w hB hn' hlA (by omega) hk).mono ?_
          rintro e w' ⟨rfl, hW, hF⟩
          refine ⟨true, rfl, fun h => (by cases h), fun _ => ⟨by omega, by simp; omega, ?_⟩, hF.rowE hns hr, hF⟩
          have e2 : z.lim.toNat = A.length + k := by omega
          have e3 : (A ++ R ++ [c]).take z.lim.toNat = A ++ R.take k := by
            rw [e2, List.append_assoc, List.take_length_add_append, List.take_append_of_le_length (by omega)]
          rw [e3]
          exact hW
    have HC := Lib.hid CW
    clear CW h hr hB hl
    go_enter Tryz.func52, Tryz.ntmps52
    go_wp2_with (go_at_call 127; (with_reducible refine HC.out.mono ?_); rintro e w1 ⟨bad, rfl, hgood, hbad, hr1, hF⟩; have d0 := hr1.frozen 1; have d1 : w1.cell? ⟨eb, 1, none⟩ = some .nilIface := hr1.cell (by omega); have P := Lib.hid (And.intro hgood (And.intro hbad (And.intro hr1 hF))); clear hgood hbad hr1 hF; (cases bad <;> simp only [errV]))
    all_goals try go_wp2_with fail
    all_goals try go_end0
    · obtain ⟨h1, h2, h3, h4⟩ := P.out
      rw [List.append_assoc] at h1
      exact ⟨rfl, ⟨hle, hf0, .inl ⟨enc_err h3 _, (h1 trivial).setEnc h3 _ _⟩⟩, (h4.mono fun i hi => hi.elim .inl fun h => .inr (.inl h)).setCell (.inr (.inr rfl)) _⟩
    · obtain ⟨h1, h2, h3, h4⟩ := P.out
      rw [List.append_assoc] at h2
      exact ⟨rfl, ⟨hle, hf0, .inr ⟨enc_err h3 _, (h2 trivial).setEnc h3 _ _⟩⟩, (h4.mono fun i hi => hi.elim .inl fun h => .inr (.inl h)).setCell (.inr (.inr rfl)) _⟩
  · have c1 : w.cell? ⟨eb, 1, none⟩ = some (.iface 108 (.agg #[])) := hr.cell (by omega)
    have HH := Lib.hid (And.intro hr (And.intro h1 (And.intro h2 h3)))
    clear h hr h1 h2 h3
    go_enter Tryz.func52, Tryz.ntmps52
    go_wp2_with fail
    refine bodyPost_ret (results_none rfl _ _ _) rfl ?_
    obtain ⟨hr, h1, h2, h3⟩ := HH.out
    refine ⟨rfl, ⟨hle, hf0, .inr ⟨hr, h1, by simp; omega, ?_⟩⟩, Fr.refl _ _ _⟩
    rw [List.take_append_of_le_length (by omega)]
    exact h3
end Go.Proofs.YtghjlekdibcjdaaGreatDoor
