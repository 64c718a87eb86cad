/- Proved: 'Rows.FnDivSaid': for all two integers the law FnDiv returns true (the quotient that div computes is rounded to the nearest integer). Conditions: none beyond the row's own.
   The frame of this text was written by the kit's proof-skeleton.mjs. -/
import Derived.Test.YtpmbbampkedecaaRows
import Derived.WalkKit
import Derived.ProofKit
import Derived.OpenShut
import Derived.Lib.Hide
import Derived.Test.YtpmbbampkedecaaDivLaw
namespace Go.Proofs.Ytpmbbampkedecaa.fnDiv
open Go.ChangeShapes Go.WideShapes Go.ChangeAt Go.RowKit
set_option linter.unusedVariables false      -- a walk need not use every 'w<i>' (that an integer argument fits its kind)

theorem own : ownKnob Try.prog.godebug = none := by kernel_rfl

/-! ### THE CALLEES -/
theorem div_any (a b : Int) (w : World) (h1 : -1610612735 ≤ a) (h2 : a ≤ 1610612735) (h3 : 1 ≤ b) (h4 : b ≤ 1073741824) :
    Calls Try.prog 20 #[.int .i32 a, .int .i32 b] w fun e w' => e = .returned (.int .i32 (qdiv a b)) ∧ w = w' := by
  by_cases h : 0 ≤ a
  · have hq := quot_le (x := a + b / 2) (b := b) (by omega) h3
    have e := qdiv_pos (b := b) h
    have E := Lib.hid e
    clear e
    go_enter Try.func20, Try.ntmps20
    go_wp2
    go_ret
    exact ⟨by rw [E.out]; rfl, rfl⟩
  · have h' : a < 0 := by omega
    have hq := quot_le (x := -a + b / 2) (b := b) (by omega) h3
    have hr : -2147483648 ≤ -((-a + b / 2) / b) := by omega
    have e := qdiv_neg (b := b) h'
    have E := Lib.hid e
    clear e
    go_enter Try.func20, Try.ntmps20
    go_wp2
    go_ret
    exact ⟨by rw [E.out]; rfl, rfl⟩
theorem impl_div_any (a b : Int) (w : World) (h1 : -1610612735 ≤ a) (h2 : a ≤ 1610612735) (h3 : 1 ≤ b) (h4 : b ≤ 1073741824) :
    Calls Try.prog 7 #[.int .i32 a, .int .i32 b] w fun e w' => e = .returned (.int .i32 (qdiv a b)) ∧ w = w' := by
  go_enter Try.func7, Try.ntmps7
  go_wp2_with (first | (go_at_call 20; refine (div_any _ _ _ h1 h2 h3 h4).mono ?_; rintro e w2 ⟨rfl, rfl⟩) | go_in)
  go_ret
  exact ⟨rfl, rfl⟩

/-! ### STEP 1: THE WALK: the Go text returns true. 'Grown w w'': the world has at most new blocks (Derived/RowKit3.lean). Part the cases AHEAD of 'go_enter' where a test parts the walk; take each callee by a contract of your own. -/
theorem walk (a0 : Int) (a1 : Int) (w0 : (Lit.int .i64 a0).wf = true) (w1 : (Lit.int .i64 a1).wf = true) (w : World) :
    Calls Try.prog 3 #[.int .i64 a0, .int .i64 a1] w fun e w' => e = .returned (.bool true) ∧ Grown w w' := by
  by_cases c1 : a0 < -1073741824
  · go_enter Try.func3, Try.ntmps3
    go_wp2
    go_ret
    exact ⟨rfl, by repeat (first | exact Grown.refl _ | apply Grown.drew | apply Grown.alloc)⟩
  by_cases c2 : 1073741824 < a0
  · go_enter Try.func3, Try.ntmps3
    go_wp2
    go_ret
    exact ⟨rfl, by repeat (first | exact Grown.refl _ | apply Grown.drew | apply Grown.alloc)⟩
  by_cases c3 : a1 < 1
  · go_enter Try.func3, Try.ntmps3
    go_wp2
    go_ret
    exact ⟨rfl, by repeat (first | exact Grown.refl _ | apply Grown.drew | apply Grown.alloc)⟩
  by_cases c4 : 1073741824 < a1
  · go_enter Try.func3, Try.ntmps3
    go_wp2
    go_ret
    exact ⟨rfl, by repeat (first | exact Grown.refl _ | apply Grown.drew | apply Grown.alloc)⟩
  have hn := qdiv_near a0 a1 (by omega)
  have hr := qdiv_range a0 a1 (by omega) (by omega) (by omega) (by omega)
  have he := qdiv_self a1 (by omega)
  have C1 : ∀ w : World, Calls Try.prog 7 #[.int .i32 a0, .int .i32 a1] w fun e w' => e = .returned (.int .i32 (qdiv a0 a1)) ∧ w = w' := fun w => impl_div_any a0 a1 w (by omega) (by omega) (by omega) (by omega)
  have C2 : ∀ w : World, Calls Try.prog 7 #[.int .i32 a1, .int .i32 a1] w fun e w' => e = .returned (.int .i32 1) ∧ w = w' := fun w => by
    have := impl_div_any a1 a1 w (by omega) (by omega) (by omega) (by omega)
    rwa [he] at this
  clear he
  have C1 := Lib.hid C1
  have C2 := Lib.hid C2
  generalize hq : qdiv a0 a1 = q at hn hr C1
  clear hq
  obtain ⟨n1, n2⟩ := hn
  obtain ⟨r1, r2⟩ := hr
  by_cases c5 : 2 * (q * a1 - a0) < 0
  · go_enter Try.func3, Try.ntmps3
    go_wp2_with fail
    refine (C1.out _).mono ?_
    rintro e w' ⟨rfl, rfl⟩
    go_wp2_with fail
    refine (C2.out _).mono ?_
    rintro e w' ⟨rfl, rfl⟩
    go_wp2_with fail
    go_ret
    exact ⟨rfl, by repeat (first | exact Grown.refl _ | apply Grown.drew | apply Grown.alloc)⟩
  · go_enter Try.func3, Try.ntmps3
    go_wp2_with fail
    refine (C1.out _).mono ?_
    rintro e w' ⟨rfl, rfl⟩
    go_wp2_with fail
    refine (C2.out _).mono ?_
    rintro e w' ⟨rfl, rfl⟩
    go_wp2_with fail
    go_ret
    exact ⟨rfl, by repeat (first | exact Grown.refl _ | apply Grown.drew | apply Grown.alloc)⟩

/-! ### THE ROW's STEP: WRITTEN OUT: LEAVE IT -/
set_option maxRecDepth 100000 in
theorem lifted (os : Os) (started : os.Started) (H : Type) (enc : TypeId × Value → H) :
    ReturnsInHanded {} Try.checked os 3 .any (Rows.fnDivSpec.pre6 enc Try.prog Try.f3 Rows.fnDivRow.domain false) (Rows.fnDivSpec.post enc Try.prog Try.f3 false true false false) := by
  refine returnsInHanded_of_change (C := Try.checked) own started (by kernel_rfl) Try.func3
    (ChangeSpec.witness6 (enc := enc) (C := Try.checked) false ⟨#[], #[.int .i64 0, .int .i64 0], []⟩ 8 (by kernel_rfl) (by kernel_rfl) (by kernel_rfl) (by kernel_rfl)) ?_
  intro W base args ds gs before hval0 hW hcnd _
  have hval : ∀ (j : Nat) t v, Try.f3.params[j]? = some t → args[j]? = some v → Value.okWide Try.prog W .any base t v := hval0
  have hW' := hW
  obtain ⟨p, q, hA0, hV, rfl, hfz, hnd⟩ := hW
  have hA : DataW.TrodAll enc Try.prog W 0 (fun _ => true) true Try.f3.params.toList args.toList ds p := hA0
  rw [Try.params3] at hA hval
  obtain ⟨v0, vs0, d0, ds0, p0, q0, hargs, rfl, rfl, h0, r0⟩ := trodAll_cons hA
  obtain ⟨v1, vs1, d1, ds1, p1, q1, rfl, rfl, rfl, h1, r1⟩ := trodAll_cons r0
  obtain ⟨rfl, rfl, rfl⟩ := trodAll_nil r1
  obtain rfl : args = #[v0, v1] := by cases args; simp_all
  obtain ⟨rfl, rfl⟩ := trodVars_none hV
  obtain ⟨a0, rfl, rfl, rfl, w0⟩ := open_int Try.underlying3 (hval 0 3 v0 rfl rfl) h0
  obtain ⟨a1, rfl, rfl, rfl, w1⟩ := open_int Try.underlying3 (hval 1 3 v1 rfl rfl) h1
  clear hA0 hval0
  simp only [List.append_nil] at hW'
  refine (walk a0 a1 w0 w1 W).mono fun e W' ⟨he, hg⟩ => ?_
  subst he
  exact ⟨_, rfl, post_of_same (pa := []) (pv := []) hW' (fun _ _ _ => (trodAll_cons_mk (shut_bool Try.underlying4 _) trodAll_mk0)) (fun sp _ => (trodAll_cons_mk (shut_int Try.underlying3 w0) (trodAll_cons_mk (shut_int Try.underlying3 w1) trodAll_mk0))) (fun _ _ => rfl) rfl
    (hg.frame _) hg.2.1 (ok_one (by kernel_rfl) rfl (okWide_bool_mk Try.underlying4 _))⟩

theorem over : Rows.fnDivRow.holds Try.pinned (OpenSpec.ofChange Rows.fnDivSpec) :=
  OpenClaim.holds_of_wide 3 Try.f3 rfl rfl rfl rfl rfl rfl rfl ⟨rfl, rfl, rfl, rfl, rfl⟩ rfl rfl rfl rfl rfl (by kernel_rfl) Try.func3 (by kernel_rfl)
    (of_decide_eq_true (by kernel_rfl)) (by unfold Func.isWrapper; first | (rw [if_pos (by decide +kernel)]; kernel_rfl) | (rw [if_neg (by decide +kernel)]; exact ⟨rfl, rfl⟩))
    (fun os started H enc _ => lifted os started H enc)

/-- ████ THE STATEMENT ████ -/
theorem proved : Rows.FnDivSaid :=
  over
#print axioms proved
end Go.Proofs.Ytpmbbampkedecaa.fnDiv
