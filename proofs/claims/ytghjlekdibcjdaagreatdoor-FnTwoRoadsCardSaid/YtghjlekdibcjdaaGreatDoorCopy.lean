/- The built-in copy into a row that is known by index: one step of a region that draws its order, and at a plain list. -/
import Derived.Test.YtghjlekdibcjdaaGreatDoorImgB
import Derived.Laws.CopyOwn
import Derived.Deep.RegionLaw
namespace Go.Proofs.YtghjlekdibcjdaaGreatDoor
open Go.Deep Go.RowKit
set_option linter.unusedVariables false
/-- A row with m cells laid over it from a place on. -/
def over (off m : Nat) (src f : Nat → Value) : Nat → Value := fun j => if off ≤ j ∧ j < off + m then src (j - off) else f j
theorem splice_agg (n off m : Nat) (src f : Nat → Value) (h : off + m ≤ n) : (splice (agg n f).toList off ((List.range m).map src)).toArray = agg n (over off m src f) := by
  have hl : (splice (agg n f).toList off ((List.range m).map src)).length = n := by rw [length_splice _ _ _ (by simp [agg]; omega)]; simp [agg]
  apply Array.ext_getElem?
  intro i
  rw [List.getElem?_toArray]
  by_cases hi : i < n
  · rw [at_agg n _ i hi]
    unfold splice over
    have e1 : (agg n f).toList = (List.range n).map f := by simp [agg]
    rw [e1]
    by_cases h1 : i < off
    · rw [List.getElem?_append_left (by simp; omega), if_neg (by omega), List.getElem?_take, if_pos h1]
      simp [hi]
    · rw [List.getElem?_append_right (by simp; omega)]
      have e2 : (((List.range n).map f).take off).length = off := by simp; omega
      rw [e2]
      by_cases h2 : i < off + m
      · rw [List.getElem?_append_left (by simp; omega), if_pos ⟨by omega, h2⟩]
        simp [show i - off < m by omega]
      · rw [List.getElem?_append_right (by simp; omega), if_neg (by omega), List.getElem?_drop]
        have e3 : off + ((List.range m).map src).length + (i - off - ((List.range m).map src).length) = i := by simp; omega
        rw [e3]
        simp [hi]
  · rw [List.getElem?_eq_none (by omega), Array.getElem?_eq_none (by rw [size_agg]; omega)]
theorem copy_row_world {w : World} {g n : Nat} {t : TypeId} {f : Nat → Value} (hr : w.rowIs g t n f) (cs : Array Value) (h : Nat → Value) (hc : cs = agg n h) : Kept (fun k => k ≠ g) w (w.setRow g cs) ∧ (w.setRow g cs).rowIs g t n h := by
  have hh := rowIs_heap hr
  refine ⟨⟨rfl, rfl, rfl, by simp [World.setRow], fun k hk hne => setRow_other w g k cs hne⟩, ?_⟩
  have h2 := setRow_heap w g (agg n f) cs t _ hh
  subst hc
  exact ⟨_, h2, size_agg n h, fun i hi => at_agg n h i hi⟩
section
variable {P : Program} {ops : Array Oper} {o : Oper} {a : Act} {w : World} {K : Act → World → Prop} {Q : Exit → Act → World → Prop} {E : Prop}
theorem wp_copy_rowIs (d s : Operand) (dT sT : TypeId)
    (ho : o.op = .call { callee := .builtin .copy, args := #[d, s], argTypes := #[dT, sT] }) (elem : TypeId) (hu : P.underlying dT = some (.slice elem)) (hsz : (P.info? elem).map (·.size) = some 1)
    (dp sp : Option Addr) (dLen dCap sLen sCap : Nat) (hd : a.eval d = .slice dp dLen dCap) (hs : a.eval s = .slice sp sLen sCap)
    (g off n : Nat) (t : TypeId) (f : Nat → Value) (hr : w.rowIs g t n f) (m : Nat) (src : Nat → Value) (hm : m = Nat.min sLen dLen)
    (hpos : 0 < m → dp = some ⟨g, off, none⟩ ∧ ∃ ad, sp = some ad ∧ ∀ j, j < m → w.cell? (ad.add j) = some (src j))
    (hfit : off + m ≤ n) (h1 : ∀ j, (src j).oneCell' = true)
    (h : ∀ w', Kept (fun k => k ≠ g) w w' → w'.rowIs g t n (over off m src f) → K (a.put o.dst (goInt m)) w') : Oper.wp P o a w K Q := by
  by_cases h0 : m = 0
  · subst h0
    have hrun := run_copy_none (P := P) w dT sT o.type elem dp sp dLen dCap sLen sCap hu hsz (by simpa using hm.symm)
    unfold Oper.wp
    simp [execOp, ho, resolve, invoke, builtin, hd, hs, hrun, Result.andThen]
    exact h w (Kept.refl _ _) (hr.congr fun j _ => by unfold over; rw [if_neg (by omega)])
  · obtain ⟨rfl, ad, rfl, hsrc⟩ := hpos (by omega)
    have hrun := run_copy_row (P := P) w dT sT o.type elem g off dLen dCap ad sLen sCap (agg n f) t ((List.range m).map src) hu hsz (rowIs_heap hr) (by simpa using hm)
      (fun j v hv => by
        have hj : j < m := by have := (List.getElem?_eq_some_iff.1 hv).1; simpa using this
        have e : v = src j := by simp [hj] at hv; exact hv.symm
        rw [e]; exact hsrc j hj) (by simp [size_agg]; omega) (by simp; intro x hx; exact h1 x)
    obtain ⟨A, hA⟩ : ∃ A, ((agg n f).toList.take off ++ (List.range m).map src ++ (agg n f).toList.drop (off + ((List.range m).map src).length)).toArray = A := ⟨_, rfl⟩
    rw [hA] at hrun
    have hc : A = agg n (over off m src f) := by
      rw [← splice_agg n off m src f hfit, ← hA]
      unfold splice
      rw [List.append_assoc]
    obtain ⟨hk, hrw⟩ := copy_row_world hr A _ hc
    have hm2 : ((List.range m).map src).length = m := by simp
    rw [hm2] at hrun
    unfold Oper.wp
    simp [execOp, ho, resolve, invoke, builtin, hd, hs, hrun, Result.andThen]
    exact h _ hk hrw
/-- The same as one step of a region that draws its order. -/
theorem step_copy_rowIs (hgd : o.guard = none) (d s : Operand) (dT sT : TypeId)
    (ho : o.op = .call { callee := .builtin .copy, args := #[d, s], argTypes := #[dT, sT] }) (elem : TypeId) (hu : P.underlying dT = some (.slice elem)) (hsz : (P.info? elem).map (·.size) = some 1)
    (dp sp : Option Addr) (dLen dCap sLen sCap : Nat) (hd : a.eval d = .slice dp dLen dCap) (hs : a.eval s = .slice sp sLen sCap)
    (g off n : Nat) (t : TypeId) (f : Nat → Value) (hr : w.rowIs g t n f) (m : Nat) (src : Nat → Value) (hm : m = Nat.min sLen dLen)
    (hpos : 0 < m → dp = some ⟨g, off, none⟩ ∧ ∃ ad, sp = some ad ∧ ∀ j, j < m → w.cell? (ad.add j) = some (src j))
    (hfit : off + m ≤ n) (h1 : ∀ j, (src j).oneCell' = true)
    (h : ∀ w', Kept (fun k => k ≠ g) w w' → w'.rowIs g t n (over off m src f) → K (a.put o.dst (goInt m)) w') :
    if Region.wanted o (yielded ops a.tmps) = true then Oper.wp P o a w K Q else E := by
  have hw : Region.wanted o (yielded ops a.tmps) = true := by simp [Region.wanted, hgd]
  rw [if_pos hw]
  exact wp_copy_rowIs d s dT sT ho elem hu hsz dp sp dLen dCap sLen sCap hd hs g off n t f hr m src hm hpos hfit h1 h
/-- The same at a plain list. -/
theorem wpList_copy_rowIs {rest : List Oper} (hgd : o.guard = none) (d s : Operand) (dT sT : TypeId)
    (ho : o.op = .call { callee := .builtin .copy, args := #[d, s], argTypes := #[dT, sT] }) (elem : TypeId) (hu : P.underlying dT = some (.slice elem)) (hsz : (P.info? elem).map (·.size) = some 1)
    (dp sp : Option Addr) (dLen dCap sLen sCap : Nat) (hd : a.eval d = .slice dp dLen dCap) (hs : a.eval s = .slice sp sLen sCap)
    (g off n : Nat) (t : TypeId) (f : Nat → Value) (hr : w.rowIs g t n f) (m : Nat) (src : Nat → Value) (hm : m = Nat.min sLen dLen)
    (hpos : 0 < m → dp = some ⟨g, off, none⟩ ∧ ∃ ad, sp = some ad ∧ ∀ j, j < m → w.cell? (ad.add j) = some (src j))
    (hfit : off + m ≤ n) (h1 : ∀ j, (src j).oneCell' = true)
    (h : ∀ w', Kept (fun k => k ≠ g) w w' → w'.rowIs g t n (over off m src f) → wpList P ops Q rest (a.put o.dst (goInt m)) w') : wpList P ops Q (o :: rest) a w :=
  wpList_plain hgd fun _ hK => wp_copy_rowIs d s dT sT ho elem hu hsz dp sp dLen dCap sLen sCap hd hs g off n t f hr m src hm hpos hfit h1 fun w' h2 h3 => hK _ _ (h w' h2 h3)
end
end Go.Proofs.YtghjlekdibcjdaaGreatDoor
