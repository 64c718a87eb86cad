/- Arrays of integers are compared number by number. -/
import Derived.Test.YtcblegbjhiameaaDoorMem
namespace Go.Proofs.YtcblegbjhiameaaDoor
open Go.RowKit
variable {P : Program}
theorem run_equalIn_aux {t e n : Nat} {k kd : IntKind} (hu : P.underlying t = some (.array n e)) (he : P.underlying e = some (.int kd)) (hs : (P.info? e).map (·.size) = some 1) (D : Nat)
    (hD : ∀ (a b : Int) (w : World), (Op.equalIn D e (.int k a) (.int k b)).run P w = .ok (a == b) w) (f g : Nat → Int) (w : World) :
    (Op.equalIn (D + 1) t (.agg (agg n (ints k f))) (.agg (agg n (ints k g)))).run P w = .ok (decide (∀ i, i < n → f i = g i)) w := by
  have hagg : (isAgg e).run P w = .ok false w := by
    unfold isAgg
    rw [Sem.run_bind, run_underlying he w]
    rfl
  have hsz : (sizeOf e).run P w = .ok 1 w := by
    cases hq : P.info? e with
    | none => simp [hq] at hs
    | some i =>
      have hk : i.size = 1 := by simpa [hq] using hs
      simp [sizeOf, typeInfo, hq, hk, Sem.run_bind, go_sem]
  have part1 : ∀ (h : Nat → Int) (i : Nat), i < n → (part e (agg n (ints k h)) (i * 1)).run P w = .ok (.int k (h i)) w := fun h i hi => by
    simp [part, Sem.run_bind, hagg, at_agg _ _ _ hi, ints]
  simp only [Op.equalIn, Sem.run_bind, run_underlying hu, Result.andThen_ok, hsz, Std.Legacy.Range.forIn_eq_forIn_range']
  have loop : ∀ (l : List Nat), (∀ i ∈ l, i < n) →
      (forIn l ((none : Option Bool), ()) fun i (_ : Option Bool × Unit) => do
        let x ← part e (agg n (ints k f)) (i * 1)
        let y ← part e (agg n (ints k g)) (i * 1)
        let r ← Op.equalIn D e x y
        if (!r) = true then pure (ForInStep.done (some false, ())) else pure (ForInStep.yield ((none : Option Bool), ()))).run P w =
      .ok (if ∀ i ∈ l, f i = g i then (none, ()) else (some false, ())) w := by
    intro l
    induction l with
    | nil => intro _; simp
    | cons i l ih =>
      intro hl
      have hi := hl i (by simp)
      rw [List.forIn_cons]
      simp only [Sem.run_bind, part1 f i hi, part1 g i hi, Result.andThen_ok, hD]
      by_cases c : f i = g i
      · have cb : (f i == g i) = true := by simp [c]
        simp only [cb, Bool.not_true, Bool.false_eq_true, if_false, Sem.run_pure, Result.andThen_ok]
        rw [ih fun j hj => hl j (by simp [hj])]
        simp [c]
      · have cb : (f i == g i) = false := by simp [c]
        simp only [cb, Bool.not_false, if_true, Sem.run_pure, Result.andThen_ok]
        simp [c]
  have hl := loop (List.range' 0 n) (fun i hi => by simp at hi; omega)
  have e0 : ([:n] : Std.Legacy.Range).size = n := by simp [Std.Legacy.Range.size]
  rw [e0, hl]
  by_cases c : ∀ i, i < n → f i = g i
  · rw [if_pos fun i hi => c i (by simp at hi; omega)]
    rw [decide_eq_true c]
    rfl
  · rw [if_neg fun h => c fun i hi => h i (by simp; omega)]
    simp [c]
/-- Arrays of integers are compared number by number. -/
theorem run_equalIn_ints {t e n : Nat} {k kd : IntKind} (hu : P.underlying t = some (.array n e)) (he : P.underlying e = some (.int kd)) (hs : (P.info? e).map (·.size) = some 1) (f g : Nat → Int) (w : World) :
    (Op.equalIn 10000 t (.agg (agg n (ints k f))) (.agg (agg n (ints k g)))).run P w = .ok (decide (∀ i, i < n → f i = g i)) w :=
  run_equalIn_aux hu he hs 9999 (fun a b w => run_equalIn_int w 9998 e k kd a b he) f g w
end Go.Proofs.YtcblegbjhiameaaDoor
