/- Regions that draw their order and leave what is known of the world as it is, walked once in the text's order: laws for whole arrays and for calls that make memory. -/
import Derived.Test.YtghjlekdibcjdaaGreatDoorMem
import Derived.Deep.QuietTactic
import Derived.BigQuiet
import Derived.Lib.Hide
namespace Go.Proofs.YtghjlekdibcjdaaGreatDoor
open Go.Deep Go.RowKit

theorem setCell_same {w : World} {b o : Nat} {v : Value} (h : w.cell? ⟨b, o, none⟩ = some v) : w.setCell ⟨b, o, none⟩ v = w := by
  have hh : w.heap.modify b (fun
      | .cells c elem frozen => .cells (c.setIfInBounds o v) elem frozen
      | x => x) = w.heap := by
    apply Array.ext_getElem?
    intro k
    rw [Array.getElem?_modify]
    by_cases e : b = k
    · subst e
      rw [if_pos rfl]
      unfold World.cell? at h
      cases hb : w.heap[b]? with
      | none => rfl
      | some x =>
        cases x <;> simp [hb] at h ⊢
        rename_i c elem fr
        apply Array.ext_getElem?
        intro j
        rw [Array.getElem?_setIfInBounds]
        by_cases ej : o = j
        · subst ej
          have : o < c.size := (Array.getElem?_eq_some_iff.1 h).1
          rw [if_pos rfl, if_pos this, h]
        · rw [if_neg ej]
    · rw [if_neg e]
  have e : w.setCell ⟨b, o, none⟩ v = { w with heap := w.heap.modify b (fun
      | .cells c elem frozen => .cells (c.setIfInBounds o v) elem frozen
      | x => x) } := by
    unfold World.setCell
    congr 2
  rw [e, hh]
theorem setCells_same {b : Nat} : ∀ (vs : List Value) (o : Nat) {w : World}, w.rangeAt b o vs → w.setCells b o vs = w
  | [], _, _, _ => rfl
  | v :: r, o, w, h => by
    have h0 : w.cell? ⟨b, o, none⟩ = some v := h 0 v rfl
    rw [World.setCells, setCell_same h0]
    exact setCells_same r (o + 1) fun j u hu => by
      have := h (j + 1) u (by simpa using hu)
      rwa [show o + (j + 1) = o + 1 + j by omega] at this
/-- What lies there is stored once more: nothing turns. -/
theorem lay_same {w : World} {b : Nat} {t : TypeId} {m n : Nat} {g : Nat → Value} (h : w.rowIs b t n g) (hm : m ≤ n) : lay w b 0 m g = w := by
  refine setCells_same _ 0 ?_
  have := rowIs_range h 0 m (by omega)
  simpa using this

section
variable {P : Program} {ops : Array Oper} {C : World → Prop}
theorem wpQuiet_yields {Q : Act → Prop} {a : Act} {o : Oper} {rest : List Oper} (hw : Region.wanted o (yielded ops a.tmps) = true) (v : Value)
    (hq : ∀ w, C w → o.quietAt P a C w v) (h : wpQuiet P ops C Q rest (a.put o.dst v)) : wpQuiet P ops C Q (o :: rest) a := by
  show if Region.wanted o (yielded ops a.tmps) then _ else _
  rw [if_pos hw]
  exact ⟨v, hq, h⟩
/-- An operation that yields a value and leaves the world alone. -/
theorem wpQuiet_value {Q : Act → Prop} {a : Act} {o : Oper} {rest : List Oper} (hw : Region.wanted o (yielded ops a.tmps) = true) (v : Value)
    (hq : ∀ w, C w → (execOp a.eval o).run P w = .ok (.value v) w) (h : wpQuiet P ops C Q rest (a.put o.dst v)) : wpQuiet P ops C Q (o :: rest) a :=
  wpQuiet_yields hw v (fun w hw' => by unfold Oper.quietAt; rw [hq w hw']; exact ⟨rfl, rfl⟩) h
theorem wpQuiet_move {Q : Act → Prop} {a : Act} {o : Oper} {rest : List Oper} (hw : Region.wanted o (yielded ops a.tmps) = true) (x : Operand) (ho : o.op = .move x)
    (h : wpQuiet P ops C Q rest (a.put o.dst (a.eval x))) : wpQuiet P ops C Q (o :: rest) a :=
  wpQuiet_value hw (a.eval x) (fun w _ => by unfold execOp; simp only [ho, Sem.run_pure]) h
/-- A whole row is loaded. -/
theorem wpQuiet_load_all {Q : Act → Prop} {a : Act} {o : Oper} {rest : List Oper} (hw : Region.wanted o (yielded ops a.tmps) = true) (ty : TypeId) (x : Operand) (ho : o.op = .load ty x)
    (b m : Nat) (hx : a.eval x = .pointer (some ⟨b, 0, none⟩)) {t : TypeId} {n : Nat} {f : Nat → Value} (hr : ∀ w, C w → w.rowIs b t n f) (hm : m ≤ n) {d : TypeDesc}
    (hu : P.underlying ty = some d) (hd : d.isRow = true) (hi : (P.info? ty).map (·.size) = some m)
    (h : wpQuiet P ops C Q rest (a.put o.dst (.agg (agg m f)))) : wpQuiet P ops C Q (o :: rest) a :=
  wpQuiet_value hw _ (fun w hw' => by
    have hr0 := rowIs_range (hr w hw') 0 m (by omega)
    have hrun := run_loadVar_mid (P := P) w b 0 ty _ d hr0 hu hd (by simpa using hi)
    have e : ((List.range m).map fun j => f (0 + j)).toArray = agg m f := agg_congr fun j _ => by rw [Nat.zero_add]
    rw [e] at hrun
    unfold execOp
    simp only [ho, hx, Instr.loadAt, Instr.sureAddr, Sem.run_bind, Sem.run_pure, Result.andThen_ok, hrun]) h
/-- What a row holds is stored into it once more. -/
theorem wpQuiet_store_same {Q : Act → Prop} {a : Act} {o : Oper} {rest : List Oper} (hw : Region.wanted o (yielded ops a.tmps) = true) (ty : TypeId) (x y : Operand) (ho : o.op = .store ty x y)
    (b m : Nat) {g : Nat → Value} (hx : a.eval x = .pointer (some ⟨b, 0, none⟩)) (hy : a.eval y = .agg (agg m g)) {t : TypeId} {n : Nat} (hr : ∀ w, C w → w.rowIs b t n g) (hm : m ≤ n)
    (hi : (P.info? ty).map (·.size) = some m) (h1 : ∀ i, (g i).oneCell' = true)
    (h : wpQuiet P ops C Q rest (a.put o.dst undef)) : wpQuiet P ops C Q (o :: rest) a :=
  wpQuiet_yields hw undef (fun w hw' => by
    have hrun := run_storeVar_mid (P := P) w b 0 ty (agg m g) (by rw [size_agg]; exact rowIs_there (hr w hw') 0 m (by omega)) (by rw [size_agg]; exact hi) (oneCell_agg m h1)
    have e : w.setCells b 0 (agg m g).toList = w := lay_same (hr w hw') hm
    rw [e] at hrun
    unfold Oper.quietAt execOp
    simp only [ho, hx, hy, Instr.storeAt, Instr.sureAddr, Sem.run_bind, Sem.run_pure, Result.andThen_ok, hrun]
    exact ⟨rfl, rfl⟩) h
/-- A call. -/
theorem wpQuiet_call {Q : Act → Prop} {a : Act} {o : Oper} {rest : List Oper} (hw : Region.wanted o (yielded ops a.tmps) = true) (f : FuncId) (args : Array Value) (v : Value)
    (hop : ∀ w, (execOp a.eval o).run P w = .ok (.enter f args) w) (hc : ∀ w, C w → Calls P f args w fun e w' => e = .returned v ∧ C w')
    (h : wpQuiet P ops C Q rest (a.put o.dst v)) : wpQuiet P ops C Q (o :: rest) a :=
  wpQuiet_yields hw v (fun w hw' => by unfold Oper.quietAt; rw [hop w]; exact ⟨rfl, hc w hw'⟩) h
/-- A region of such operations, over whatever class of worlds. -/
theorem wp_region_calm {id : Nat} {Q : Exit → Act → World → Prop} {a : Act} {w : World} {l : List Oper} (hm : P.follows .mixedOrders = true) (hB : Region.lexB .any l.toArray = true) (hC : C w.drew)
    (h : wpQuiet P l.toArray C (fun a' => ∀ w', C w' → Q .normal a' w') l a) : (Code.region id l.toArray true).wp P Q a w :=
  wp_region_quiet (C := C) hm hB hC (by simpa using h)
end
end Go.Proofs.YtghjlekdibcjdaaGreatDoor
