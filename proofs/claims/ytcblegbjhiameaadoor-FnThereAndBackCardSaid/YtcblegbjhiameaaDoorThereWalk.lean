/- The walk of the law FnThereAndBack: 64 samples and 64 elements of a table. -/
import Derived.Test.YtcblegbjhiameaaDoorThereLaw2
import Derived.BigRegion
namespace Go.Proofs.YtcblegbjhiameaaDoor
open Go.Deep Go.RowKit
set_option linter.unusedVariables false
/-- The rows that the law has made. -/
structure Rw (w wr : World) (A B Q : Nat) (f : Nat → Int) (q : Nat → Int) : Prop where
  kept : Kept (fun _ => True) w wr
  ra : wr.rowIs A 23 64 (ints .i32 f)
  rb : wr.rowIs B 24 64 (ints .i64 f)
  rq : wr.rowIs Q 24 64 (ints .i64 q)
  la : w.heap.size ≤ A
  lb : A < B
  lq : B < Q
theorem Rw.keep {w wr w2 : World} {A B Q : Nat} {f q : Nat → Int} (h : Rw w wr A B Q f q) (k : Kept (fun _ => True) wr w2) : Rw w w2 A B Q f q :=
  ⟨h.kept.trans k, k.row h.ra trivial, k.row h.rb trivial, k.row h.rq trivial, h.la, h.lb, h.lq⟩
theorem Rw.step {w wr : World} {A B Q : Nat} {f q q' : Nat → Int} {p : Nat} {x : Int} (h : Rw w wr A B Q f q) (e : ∀ j, j < 64 → (if j = p then Value.int .i64 x else ints .i64 q j) = ints .i64 q' j) : Rw w (wr.setCell ⟨Q, p, none⟩ (.int .i64 x)) A B Q f q' :=
  have h1 := h.la
  have h2 := h.lb
  have h3 := h.lq
  ⟨h.kept.setCell (fun h => absurd h (by show ¬ (Q < w.heap.size); omega)) _, h.ra.setOther (by show A ≠ Q; omega) _, h.rb.setOther (by show B ≠ Q; omega) _, (h.rq.set _ _).congr e, h.la, h.lb, h.lq⟩
/-- The same, and the coefficients. -/
structure Rc (w wr : World) (A B Q D E : Nat) (f q c e : Nat → Int) : Prop extends Rw w wr A B Q f q where
  rc : wr.rowIs D 23 64 (ints .i32 c)
  re : wr.rowIs E 24 64 (ints .i64 e)
  ld : Q < D
  le : D < E
theorem Rc.keep {w wr w2 : World} {A B Q D E : Nat} {f q c e : Nat → Int} (h : Rc w wr A B Q D E f q c e) (k : Kept (fun _ => True) wr w2) : Rc w w2 A B Q D E f q c e :=
  ⟨h.toRw.keep k, k.row h.rc trivial, k.row h.re trivial, h.ld, h.le⟩
theorem Rc.drew {w wr : World} {A B Q D E : Nat} {f q c e : Nat → Int} (h : Rc w wr A B Q D E f q c e) : Rc w wr.drew A B Q D E f q c e :=
  h.keep (Kept.refl _ _).drew
theorem Rc.step {w wr : World} {A B Q D E : Nat} {f q c e c' e' : Nat → Int} {p : Nat} {x : Int} (h : Rc w wr A B Q D E f q c e)
    (h1 : ∀ j, j < 64 → (if j = p then Value.int .i32 x else ints .i32 c j) = ints .i32 c' j) (h2 : ∀ j, j < 64 → (if j = p then Value.int .i64 x else ints .i64 e j) = ints .i64 e' j) :
    Rc w ((wr.setCell ⟨D, p, none⟩ (.int .i32 x)).setCell ⟨E, p, none⟩ (.int .i64 x)) A B Q D E f q c' e' :=
  have l1 := h.la
  have l2 := h.lb
  have l3 := h.lq
  have l4 := h.ld
  have l5 := h.le
  ⟨⟨(h.kept.setCell (fun h => absurd h (by show ¬ (D < w.heap.size); omega)) _).setCell (fun h => absurd h (by show ¬ (E < w.heap.size); omega)) _,
      (h.ra.setOther (by show A ≠ D; omega) _).setOther (by show A ≠ E; omega) _, (h.rb.setOther (by show B ≠ D; omega) _).setOther (by show B ≠ E; omega) _, (h.rq.setOther (by show Q ≠ D; omega) _).setOther (by show Q ≠ E; omega) _, l1, l2, l3⟩,
    ((h.rc.set _ _).congr h1).setOther (by show D ≠ E; omega) _, ((h.re.setOther (by show E ≠ D; omega) _).set _ _).congr h2, l4, l5⟩
set_option maxHeartbeats 1000000 in
set_option maxRecDepth 100000 in
theorem tb_64 (a0 : Option Addr) (cap0 : Nat) (z0 : List Int) (a1 : Option Addr) (cap1 : Nat) (z1 : List Int) (w : World) (L : Laid zN bN w) (h : IsRow .u8 w a0 64 cap0 z0) (h1 : IsRow .u8 w a1 64 cap1 z1) :
    Calls Tryd.prog 6 #[.slice a0 64 cap0, .slice a1 64 cap1] w fun e w' => e = .returned (.bool true) ∧ Kept (fun _ => True) w w' := by
  have C1 := samples_64 a0 64 cap0 z0 w h rfl
  have hfb : Hid (∀ j, 0 ≤ firstOf z0 64 j ∧ firstOf z0 64 j ≤ 255) := Lib.hid fun j => by
    have := h.u8 j
    simp only [firstOf]
    split <;> omega
  have HU := Lib.hid h1.u8
  obtain ⟨b, off, rfl, hlc, _, hc, hbw⟩ := h1.cells (by omega)
  have HC := Lib.hid hc
  clear h1 hc
  obtain ⟨f, hf⟩ : ∃ f, firstOf z0 64 = f := ⟨_, rfl⟩
  rw [hf] at C1 hfb
  clear hf h
  have HC1 := Lib.hid C1
  clear C1
  have hne : ((64 : Int) == 64) = true := rfl
  go_enter Tryd.func6, Tryd.ntmps6
  go_wp2_with fail
  refine HC1.out.mono ?_
  rintro e w1 ⟨rfl, k1⟩
  have hn1 := fun o => (rowIs_lit64 w1 23).alloc o
  have hn2 := fun o => rowIs_lit64i (w1.alloc o) 24
  simp only [World.size_alloc] at hn2
  have hsz := k1.size
  clear HC1
  go_wp2_with (first | ((with_reducible refine wpList_store_new (op := ⟨none, .store 23 (.tmp 5) (.tmp 30), _, _, _, _⟩) ?_ 23 (.tmp 5) (.tmp 30) ?_ w1.heap.size 64 (g := ints .i32 f) ?_ ?_ (hn1 _) ?_ ?_ ?_); (· rfl); (· rfl); (· rfl); (· rfl); (· exact sizeT); (· exact fun _ => rfl); (intro w2 k2 s2 r2)) | ((with_reducible refine wpList_store_new (op := ⟨none, .store 24 (.tmp 6) (.tmp 31), _, _, _, _⟩) ?_ 24 (.tmp 6) (.tmp 31) ?_ (w1.heap.size + 1) 64 (g := ints .i64 f) ?_ ?_ (k2.row (hn2 _) (by omega)) ?_ ?_ ?_); (· rfl); (· rfl); (· rfl); (· rfl); (· exact sizeU); (· exact fun _ => rfl); (intro w3 k3 s3 r3)))
  have hs3 : w3.heap.size = w1.heap.size + 2 := by rw [s3.out, s2.out, World.size_alloc, World.size_alloc]
  have hn3 := rowIs_lit64i w3 24
  have r2' := k3.row r2 (by omega)
  have K3 : Kept (fun _ => True) w w3 := (((k1.alloc _).alloc _).trans' k2 fun i hi _ => by omega).trans' k3 fun i hi _ => by omega
  have R0 : Rw w (w3.alloc (.cells lit64i 24)) w1.heap.size (w1.heap.size + 1) w3.heap.size f (firstOf z1 0) := ⟨K3.alloc _, r2'.alloc _, r3.alloc _, hn3.congr fun j _ => by simp [ints, firstOf], hsz, by omega, by omega⟩
  clear hn1 hn2 k1 k2 k3 s2 s3 r2 r3 hn3 r2' K3 hs3
  generalize w1.heap.size + 1 = bB at *
  generalize w3.heap.size = bQ at *
  generalize w1.heap.size = bA at *
  go_loopg [42] 64 (fun k s wr => ∃ i : Nat, i ≤ 64 ∧ k = 64 - i ∧ s = .int .i64 i ∧ Rw w wr bA bB bQ f (firstOf z1 i) ∧ Hid (TabIn (firstOf z1 i) i))
  case atStart => exact ⟨0, by omega, rfl, rfl, R0, Lib.hid fun j hj => by omega⟩
  case round =>
    clear R0
    obtain ⟨i, hi, rfl, rfl, hR, hT⟩ := hrel
    by_cases hlt : i < 64
    · obtain ⟨v, hv⟩ : ∃ v, z1.getD i 0 = v := ⟨_, rfl⟩
      have hvb := HU.out i
      rw [hv] at hvb
      obtain ⟨hv0, hv1⟩ := hvb
      have c0 : wr.cell? ⟨b, off + i, none⟩ = some (.int .u8 v) := by rw [← hv]; exact hR.kept.cellOf (HC.out i (by omega)) trivial
      have c1 : wr.cell? ⟨bQ, i, none⟩ = some (.int .i64 0) := by rw [hR.rq.cell (by omega)]; simp [ints, firstOf]
      have c2 : wr.frozen? ⟨bQ, i, none⟩ = false := hR.rq.frozen _
      have HV := Lib.hid hv
      clear hv
      have l1 := hR.la
      have l2 := hR.lb
      have l3 := hR.lq
      have hbn : b ≠ bQ := by omega
      by_cases hz : v = 0
      · subst hz
        go_wp2
        go_ret
        exact ⟨rfl, hR.kept⟩
      · have hzb : ((v : Int) == 0) = false := by simp; omega
        have hT2 : Hid (TabIn (firstOf z1 (i + 1)) (i + 1)) := Lib.hid fun j hj => by
          by_cases e : j = i
          · subst e
            simp only [firstOf]
            rw [if_pos (by omega), HV.out]
            omega
          · have := hT.out j (by omega)
            simp only [firstOf] at this ⊢
            rw [if_pos (by omega)] at this ⊢
            exact this
        have HS := Lib.hid (hR.step (q' := firstOf z1 (i + 1)) (p := i) (x := v) fun j _ => by rw [← HV.out]; exact firstOf_step)
        clear hR
        go_wp2
        go_roundg (64 - (i + 1))
        case measure => go_light; omega
        case rel =>
          go_light
          exact ⟨i + 1, by omega, rfl, by go_num, HS.out, hT2⟩
    · have ei : i = 64 := by omega
      subst ei
      clear HC HU hbw hlc
      generalize firstOf z1 64 = q at hR hT
      have HW := Lib.hid (implForward_any f)
      have hFI : FIn (frows (fcols f)) := fun j hj => by
        have := forward_near f hfb.out j hj
        generalize frows (fcols f) j = g at *
        generalize fwd zN bN f j = S at *
        exact ⟨by omega, by omega⟩
      obtain ⟨F, hF⟩ : ∃ F, frows (fcols f) = F := ⟨_, rfl⟩
      rw [hF] at HW hFI
      have HF := Lib.hid hF
      clear hF
      have HFI := Lib.hid hFI
      clear hFI
      have hVI := V_in F q HFI.out hT.out
      obtain ⟨V, hV⟩ : ∃ V, qC F q = V := ⟨_, rfl⟩
      rw [hV] at hVI
      have HV := Lib.hid hV
      have HVI := Lib.hid hVI
      clear hV hVI
      go_wp2_with (((with_reducible refine wpList_load_all (op := ⟨some 54, .load 23 (.tmp 5), _, _, _, _⟩) ?_ 23 (.tmp 5) ?_ bA 64 ?_ hR.ra ?_ Tryd.underlying23 ?_ ?_ ?_); (· rfl); (· rfl); (· rfl); (· omega); (· rfl); (· exact sizeT)))
      refine (HW.out wr).mono ?_
      rintro e w4 ⟨rfl, k4⟩
      have hR4 := hR.keep k4
      have lq4 := hR4.rq.lt
      have hn4 := rowIs_lit64 w4 23
      clear hR k4 HW
      go_wp2_with (first | ((with_reducible refine wpList_store_new (op := ⟨none, .store 23 (.tmp 11) (.tmp 55), _, _, _, _⟩) ?_ 23 (.tmp 11) (.tmp 55) ?_ w4.heap.size 64 (g := ints .i32 F) ?_ ?_ hn4 ?_ ?_ ?_); (· rfl); (· rfl); (· rfl); (· rfl); (· exact sizeT); (· exact fun _ => rfl); (intro w5 k5 s5 r5)))
      have hs5 : w5.heap.size = w4.heap.size + 1 := by rw [s5.out, World.size_alloc]
      have hn5 := rowIs_lit64i w5 24
      have R0 : Rc w (w5.alloc (.cells lit64i 24)) bA bB bQ w4.heap.size w5.heap.size f q (cAt F V 0) (cAt (fun _ => 0) V 0) :=
        ⟨⟨((hR4.kept.alloc _).trans' k5 fun i hi _ => by have := hR4.kept.size; omega).alloc _, (k5.row (hR4.ra.alloc _) (by have := hR4.lb; have := hR4.lq; omega)).alloc _, (k5.row (hR4.rb.alloc _) (by have := hR4.lq; omega)).alloc _, (k5.row (hR4.rq.alloc _) (by omega)).alloc _, hR4.la, hR4.lb, hR4.lq⟩,
          (r5.congr fun j _ => by simp only [ints, cAt_zero]).alloc _, hn5.congr fun j _ => by simp only [ints, cAt_zero], lq4, by omega⟩
      clear hn4 k5 s5 r5 hn5 hR4 lq4 hs5
      generalize w5.heap.size = bE at *
      generalize w4.heap.size = bD at *
      go_loopg [56] 64 (fun k s wr => ∃ i : Nat, i ≤ 64 ∧ k = 64 - i ∧ s = .int .i64 i ∧ Rc w wr bA bB bQ bD bE f q (cAt F V i) (cAt (fun _ => 0) V i))
      case atStart => exact ⟨0, by omega, rfl, rfl, R0⟩
      case round =>
        clear R0
        obtain ⟨i, hi, rfl, rfl, hR⟩ := hrel
        by_cases hlt : i < 64
        · have hz := zN_lt i hlt
          have hq := hT.out i hlt
          have hFp := HFI.out (zN i) hz
          have hv := cAt_at F V i hlt
          have hVp : V (zN i) = rnd (F (zN i)) (8 * q i) * q i := by rw [← HV.out]; simp only [qC, izN_z i hlt]
          have CZ := Lib.hid fun W (hW : Kept (fun _ => True) w W) => zigzag_any zN bN i W (L.kept hW) hlt
          have hrb := rnd_in (F (zN i)) (q i) hFp hq
          have hst := fun x (hx : V (zN i) = x) => hR.drew.step (fun j hj => cAt_step F V i hlt j hj (p := zN i) (x := x) rfl hx) (fun j hj => cAt_step (fun _ => 0) V i hlt j hj (p := zN i) (x := x) rfl hx)
          obtain ⟨p, hp⟩ : ∃ p, zN i = p := ⟨_, rfl⟩
          rw [hp] at hz hFp hv hVp CZ hrb hst
          obtain ⟨v, hvv⟩ : ∃ v, F p = v := ⟨_, rfl⟩
          rw [hvv] at hFp hv hVp hrb
          obtain ⟨t, ht⟩ : ∃ t, q i = t := ⟨_, rfl⟩
          rw [ht] at hq hVp hrb
          have d0 : wr.cell? ⟨bD, p, none⟩ = some (.int .i32 v) := by rw [← hv]; exact hR.rc.cell (by omega)
          have d1 : wr.frozen? ⟨bD, p, none⟩ = false := hR.rc.frozen _
          have d2 : wr.cell? ⟨bQ, i, none⟩ = some (.int .i64 t) := by rw [← ht]; exact hR.rq.cell (by omega)
          have d3 : wr.cell? ⟨bE, p, none⟩ = some (.int .i64 (cAt (fun _ => 0) V i p)) := hR.re.cell (by omega)
          have d4 : wr.frozen? ⟨bE, p, none⟩ = false := hR.re.frozen _
          have hde := hR.le
          have hkw := hR.kept
          clear hp hvv ht hv hR
          have HD := Lib.hid fun W => impl_div_any v (8 * t) W (by omega) (by omega) (by omega) (by omega)
          generalize rnd v (8 * t) = r at hVp hrb HD
          have HS := Lib.hid (hst _ hVp)
          clear hst hVp
          obtain ⟨⟨g1, g2⟩, g3, g4⟩ := hrb
          have ip : ((p : Nat) : Int) < 64 := by omega
          have ip0 : 0 ≤ ((p : Nat) : Int) := by omega
          have ii : ((i : Nat) : Int) < 64 := by omega
          have ii0 : 0 ≤ ((i : Nat) : Int) := by omega
          have e8 : IntKind.i64.wrap (8 * t) = 8 * t := IntWalk.i64_in _ (by omega)
          have e8' : IntKind.i32.wrap (8 * t) = 8 * t := IntWalk.i32_in _ (by omega)
          have et' : IntKind.i32.wrap t = t := IntWalk.i32_in _ (by omega)
          have er' : IntKind.i32.wrap (r * t) = r * t := IntWalk.i32_in _ (by omega)
          have E := Lib.hid (And.intro e8 (And.intro e8' (And.intro et' er')))
          clear e8 e8' et' er'
          go_wp2_with fail
          refine (CZ.out wr hkw).mono ?_
          rintro e w7 ⟨rfl, rfl⟩
          clear CZ
          go_wp2_with fail
          obtain ⟨e8, e8', et', er'⟩ := E.out
          go_still_tail 16, (by kernel_rfl)
          still_call (HD.out _)
          repeat still_step
          refine wpStill_nil ?_
          change wpList _ _ _ _ _ wr.drew
          clear e8 e8' et' er' E HD
          go_wp2_with fail
          go_roundg (64 - (i + 1))
          case measure => go_light; omega
          case rel =>
            go_light
            exact ⟨i + 1, by omega, rfl, by go_num, HS.out⟩
        · have ei : i = 64 := by omega
          subst ei
          have hR' : Rc w wr bA bB bQ bD bE f q V V := ⟨hR.toRw, hR.rc.congr fun j hj => by simp only [ints, cAt_end F V j hj], hR.re.congr fun j hj => by simp only [ints, cAt_end (fun _ => 0) V j hj], hR.ld, hR.le⟩
          clear hR HFI
          go_wp2_with fail
          refine (specInverse_any zN bN V bE 24 wr (L.kept hR'.kept) hR'.re).mono ?_
          rintro e w4 ⟨rfl, k4⟩
          have hR := hR'.keep k4
          have lt5 := hR.re.lt
          clear k4 hR'
          obtain ⟨S, hS⟩ : ∃ S, inv zN bN V = S := ⟨_, rfl⟩
          rw [hS]
          have HS := Lib.hid hS
          clear hS
          have hnew := rowIs_lit64i w4 24
          go_wp2_with (((with_reducible refine wpList_store_new (op := ⟨none, .store 24 (.tmp 15) (.tmp 84), _, _, _, _⟩) ?_ 24 (.tmp 15) (.tmp 84) ?_ w4.heap.size 64 (g := ints .i64 S) ?_ ?_ hnew ?_ ?_ ?_); (· rfl); (· rfl); (· rfl); (· rfl); (· exact sizeU); (· exact fun _ => rfl); (intro w5 k5 s5 q5)))
          have hR5 := hR.keep (((Kept.refl (fun _ => True) w4).alloc _).trans' k5 fun i hi _ => by omega)
          clear k5 s5 hR hnew
          refine (within_any S w4.heap.size 24 w5 q5).mono ?_
          rintro e w6 ⟨b6, rfl, hin, k6⟩
          have hR6 := hR5.keep k6
          clear k6 q5 hR5
          cases b6
          · clear hin
            go_wp2_with fail
            go_ret
            exact ⟨rfl, hR6.kept⟩
          · have HN : Hid (EndIn (icols (irows V)) f (bndN q)) := Lib.hid (end_in f q hfb.out hT.out V (by rw [HF.out, HV.out]) HVI.out (by rw [HS.out]; exact hin rfl))
            have HG := Lib.hid (implInverse_any V)
            have HE := Lib.hid fun W => (implInverse_any (lone 64) W)
            have HB := Lib.hid fun W hq => bounds_any q hT.out bQ 24 W (L.kept hq) 
            clear hin HS HV HVI HF hfb
            go_wp2_with fail
            refine (HB.out w6 hR6.kept hR6.rq).mono ?_
            rintro e w7 ⟨rfl, k7⟩
            have hR7 := hR6.keep k7
            have lt7 := hR7.re.lt
            clear k7 hR6 HB hT
            generalize bndN q = M at *
            have hnew := rowIs_lit64i w7 24
            go_wp2_with (first | ((with_reducible refine wpList_store_new (op := ⟨none, .store 24 (.tmp 16) (.tmp 87), _, _, _, _⟩) ?_ 24 (.tmp 16) (.tmp 87) ?_ w7.heap.size 64 (g := ints .i64 M) ?_ ?_ hnew ?_ ?_ ?_); (· rfl); (· rfl); (· rfl); (· rfl); (· exact sizeU); (· exact fun _ => rfl); (intro w8 k8 s8 q8)) | ((with_reducible refine wpList_load_all (op := ⟨some 88, .load 23 (.tmp 11), _, _, _, _⟩) ?_ 23 (.tmp 11) ?_ bD 64 ?_ (k8.row (hR7.rc.alloc _) (by have := hR7.rc.lt; omega)) ?_ Tryd.underlying23 ?_ ?_ ?_); (· rfl); (· rfl); (· rfl); (· omega); (· rfl); (· exact sizeT)))
            have hR8 := hR7.keep (((Kept.refl (fun _ => True) w7).alloc _).trans' k8 fun i hi _ => by omega)
            clear k8 s8 hR7 hnew
            refine (HG.out w8).mono ?_
            rintro e w9 ⟨rfl, k9⟩
            have hk9 := hR8.kept.trans k9
            have rb9 := k9.row hR8.rb trivial
            have q9 := k9.row q8 trivial
            clear k9 hR8 q8 HG
            generalize icols (irows V) = g at HN
            generalize hG : agg 64 (ints .i32 g) = G
            have HG := Lib.hid hG
            clear hG
            generalize w7.heap.size = bM at *
            go_wp2_with fail
            go_loopg [90] 64 (fun k s wr => ∃ i : Nat, i ≤ 64 ∧ k = 64 - i ∧ s = .int .i64 i ∧ Kept (fun _ => True) w wr ∧ wr.rowIs bB 24 64 (ints .i64 f) ∧ wr.rowIs bM 24 64 (ints .i64 M))
            case atStart => exact ⟨0, by omega, rfl, rfl, hk9, rb9, q9⟩
            case round =>
              clear hk9 rb9 q9
              obtain ⟨i, hi, rfl, rfl, hk, rb, rm⟩ := hrel
              by_cases hlt : i < 64
              · have hidx : ∀ wx, (Instr.index 23 (.agg G) (.int .i64 (i : Int))).run Tryd.prog wx = .ok (.int .i32 (g i)) wx := fun wx => by
                  rw [← show _ = G from HG.out]
                  exact run_index_one (P := Tryd.prog) Tryd.underlying23 Tryd.underlying21 rfl size_i32t (ints .i32 g) i hlt wx
                obtain ⟨⟨hg1, hg2⟩, ⟨hf1, hf2⟩, hm1, hm2⟩ := HN.out i hlt
                obtain ⟨v, hv⟩ : ∃ v, g i = v := ⟨_, rfl⟩
                obtain ⟨x, hx⟩ : ∃ x, f i = x := ⟨_, rfl⟩
                obtain ⟨m, hm⟩ : ∃ m, M i = m := ⟨_, rfl⟩
                rw [hv] at hidx hg1 hg2
                have d0 : wr.cell? ⟨bB, i, none⟩ = some (.int .i64 x) := by rw [← hx]; exact rb.cell (by omega)
                have d1 : wr.cell? ⟨bM, i, none⟩ = some (.int .i64 m) := by rw [← hm]; exact rm.cell (by omega)
                rw [hv, hx, hm] at hm1 hm2
                rw [hx] at hf1 hf2
                clear hv hx hm
                have ii : ((i : Nat) : Int) < 64 := by omega
                have ii0 : 0 ≤ ((i : Nat) : Int) := by omega
                have e0 : IntKind.i64.wrap v = v := IntWalk.i64_in _ (by omega)
                have e1 : IntKind.i64.wrap (v + 128) = v + 128 := IntWalk.i64_in _ (by omega)
                have e2 : IntKind.i64.wrap ((v + 128) * 1099511627776) = (v + 128) * 1099511627776 := IntWalk.i64_in _ (by omega)
                have e3 : IntKind.i64.wrap (x * 1099511627776) = x * 1099511627776 := IntWalk.i64_in _ (by omega)
                have E := Lib.hid (And.intro e0 (And.intro e1 (And.intro e2 e3)))
                clear e0 e1 e2 e3
                have CA := Lib.hid fun W => apart_same ((v + 128) * 1099511627776) (x * 1099511627776) m W ⟨by omega, by omega⟩ ⟨by omega, by omega⟩ hm1 hm2
                clear hm1 hm2 
                go_wp2_with fail
                obtain ⟨e0, e1, e2, e3⟩ := E.out
                go_quiet ((go_at_call 10; exact Calls.quiet_of_same (CA.out _)))
                clear e0 e1 e2 e3 E CA
                go_wp2
                go_roundg (64 - (i + 1))
                case measure => go_light; omega
                case rel =>
                  go_light
                  exact ⟨i + 1, by omega, rfl, by go_num, hk.drewN _, rb, rm⟩
              · have ei : i = 64 := by omega
                subst ei
                clear HG HN rb rm
                go_wp2_with fail
                refine (HE.out wr).mono ?_
                rintro e w8 ⟨rfl, k8⟩
                rw [agg_congr (f := ints .i32 (icols (irows (lone 64)))) (g := ints .i32 fun _ => 8) fun j _ => by simp only [ints]; rw [show (64 : Int) = 8 * 8 from rfl, inverse_lone 8 (by omega) (by omega) j]]
                have hidx : ∀ wx, (Instr.index 23 (.agg (agg 64 (ints .i32 (fun _ => 8)))) (.int .i64 0)).run Tryd.prog wx = .ok (.int .i32 8) wx := run_index_one (P := Tryd.prog) Tryd.underlying23 Tryd.underlying21 rfl size_i32t (ints .i32 fun _ => 8) 0 (by omega)
                have K8 := hk.trans k8
                clear hk k8
                generalize hG : agg 64 (ints .i32 fun _ => 8) = G2 at hidx
                clear hG
                go_wp2_with fail
                go_ret
                exact ⟨rfl, K8⟩
end Go.Proofs.YtcblegbjhiameaaDoor
