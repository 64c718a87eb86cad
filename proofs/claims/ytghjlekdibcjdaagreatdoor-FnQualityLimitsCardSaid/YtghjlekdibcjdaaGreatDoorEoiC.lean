/- The end of a stream: the encoder's write of two bytes, and its flush. -/
import Derived.Test.YtghjlekdibcjdaaGreatDoorEoiB
import Derived.Test.YtghjlekdibcjdaaGreatDoorScanA
namespace Go.Proofs.YtghjlekdibcjdaaGreatDoor
open Go.Deep Go.RowKit
set_option linter.unusedVariables false
theorem fits_fr {z : Ids} {A R : List Nat} {w w' : World} (h : BufIs z A R w) (hk : Kept (fun k => k ≠ z.bb ∧ k ≠ z.fb) w w') : Fr z.B z.own w w' :=
  over_fr h (Kept.refl _ _) hk (Fr.refl _ _ _) (Kept.refl _ _) ((Kept.refl _ _))
set_option maxHeartbeats 2000000 in
set_option maxRecDepth 100000 in
theorem write_eoi (z : Ids) (eb : Nat) (f : Nat → Value) (T : List Nat) (c0 c1 : Nat) (w : World) (h : EncIs z eb f T w) (hf2 : f 2 = .int .u8 (c0 : Int)) (hf3 : f 3 = .int .u8 (c1 : Int)) (hl : T.length + 4096 ≤ 1099511627776) :
    Calls Tryz.prog 38 #[.pointer (some ⟨eb, 0, none⟩), .slice (some ⟨eb, 2, none⟩) 2 16] w fun e w' => e = .returned (.tuple #[]) ∧ EncIs z eb f (T ++ [c0, c1]) w' ∧ Fr z.B (z.all eb) w w' := by
  have hm : ∀ w : World, (method 345 97 (.pointer (some ⟨z.bb, 0, none⟩)) "Write").run Tryz.prog w = .ok (126, .pointer (some ⟨z.bb, 0, none⟩)) w := fun _ => by kernel_rfl
  have a0 : w.cell? ⟨eb, 0, none⟩ = some (.iface 97 (.pointer (some ⟨z.bb, 0, none⟩))) := by rw [← h.f0]; exact h.cell 0 (by omega) (by omega)
  have hle := h.le
  have hf0 := h.f0
  rcases h.st with ⟨hr, A, R, rfl, hB⟩ | ⟨hr, h1, h2, h3⟩
  · have a1 : w.cell? ⟨eb, 1, none⟩ = some .nilIface := hr.cell (by omega)
    have hlen := hB.len
    obtain ⟨v0, hk0, _⟩ := hB.wr.ex
    have hns : ¬ z.own eb := fun e => e.elim (type_ne (rowIs_heap hr) hk0 (by decide)) (type_ne (rowIs_heap hr) hB.bw (by decide))
    have hg2 : put1 .nilIface f 2 = .int .u8 (c0 : Int) := hf2
    have hg3 : put1 .nilIface f (2 + 1) = .int .u8 (c1 : Int) := hf3
    have hlA : A.length + 4096 ≤ 1099511627776 := by simp only [List.length_append] at hl; omega
    have CW : Calls Tryz.prog 126 #[.pointer (some ⟨z.bb, 0, none⟩), .slice (some ⟨eb, 2, none⟩) 2 16] w fun e w' => ∃ bad n, e = .returned (.tuple #[.int .i64 n, errV bad]) ∧ (bad = false → SnkGood z (A ++ R ++ [c0, c1]) w') ∧ (bad = true → SnkBad z (A ++ R ++ [c0, c1]) w') ∧ w'.rowIs eb 94 152 (put1 .nilIface f) ∧ Fr z.B z.own w w' := by
      by_cases hn : R.length + 2 ≤ 4096
      · refine (bufWrite_fits z A R [c0, c1] eb 2 16 w hB ?_ hn (by simp)).mono ?_
        · intro j hj
          simp only [List.length_cons, List.length_nil] at hj
          obtain rfl | rfl : j = 0 ∨ j = 1 := by omega
          · rw [hr.cell (by omega)]; exact congrArg some hg2
          · rw [hr.cell (by omega)]; exact congrArg some hg3
        · rintro e w' ⟨rfl, hB', hk⟩
          have hF := fits_fr hB hk
          exact ⟨false, _, rfl, fun _ => ⟨A, R ++ [c0, c1], by simp, hB'⟩, fun h => (by cases h), hF.rowE hns hr, hF⟩
      · have hbad : ∀ (pl rest : List Nat) (k : Nat) (w' : World), pl ++ rest = [c0, c1] → (R ++ pl).length = 4096 → k < 4096 → z.lim = (A.length : Int) + k → WrIs z.B z.wb z.fb z.lim true (A ++ (R ++ pl).take k) w' → SnkBad z (A ++ R ++ [c0, c1]) w' := by
          intro pl rest k w' e1 e2 hk hlim hW
          have e3 : z.lim.toNat = A.length + k := by omega
          have e4 : (A ++ R ++ [c0, c1]).take z.lim.toNat = A ++ (R ++ pl).take k := by
            rw [e3, ← e1, List.append_assoc, ← List.append_assoc R pl rest, List.take_length_add_append, List.take_append_of_le_length (by omega)]
          refine ⟨by omega, ?_, by rw [e4]; exact hW⟩
          have e5 : (R ++ pl).length ≤ (R ++ [c0, c1]).length := by rw [← e1]; simp
          simp only [List.length_append] at e2 e5 ⊢
          omega
        have hlm := hB.lim
        by_cases h96 : R.length = 4096
        · by_cases hg : z.lim < 0 ∨ (A.length : Int) + 4096 ≤ z.lim
          · refine (over_good0 z A R c0 c1 eb 2 16 _ w hB h96 hr hg2 hg3 (by omega) (by omega) hlA hg).mono ?_
            rintro e w' ⟨rfl, hB', hF⟩
            exact ⟨false, _, rfl, fun _ => ⟨_, _, by simp, hB'⟩, fun h => (by cases h), hF.rowE hns hr, hF⟩
          · obtain ⟨k, hk⟩ : ∃ k : Nat, z.lim = (A.length : Int) + k := ⟨(z.lim - A.length).toNat, by omega⟩
            refine (over_bad0 z A R c0 c1 k eb 2 16 _ w hB h96 hr hg2 hg3 (by omega) (by omega) hlA (by omega) hk).mono ?_
            rintro e w' ⟨⟨n, rfl⟩, hW, hF⟩
            exact ⟨true, n, rfl, fun h => (by cases h), fun _ => hbad [] [c0, c1] k w' rfl (by simpa using h96) (by omega) hk hW, hF.rowE hns hr, hF⟩
        · have h95 : R.length = 4095 := by omega
          by_cases hg : z.lim < 0 ∨ (A.length : Int) + 4096 ≤ z.lim
          · refine (over_good1 z A R c0 c1 eb 2 16 _ w hB h95 hr hg2 hg3 (by omega) (by omega) hlA hg).mono ?_
            rintro e w' ⟨rfl, hB', hF⟩
            exact ⟨false, _, rfl, fun _ => ⟨_, _, by simp, hB'⟩, fun h => (by cases h), hF.rowE hns hr, hF⟩
          · obtain ⟨k, hk⟩ : ∃ k : Nat, z.lim = (A.length : Int) + k := ⟨(z.lim - A.length).toNat, by omega⟩
            refine (over_bad1 z A R c0 c1 k eb 2 16 _ w hB h95 hr hg2 hg3 (by omega) (by omega) hlA (by omega) hk).mono ?_
            rintro e w' ⟨⟨n, rfl⟩, hW, hF⟩
            exact ⟨true, n, rfl, fun h => (by cases h), fun _ => hbad [c0] [c1] k w' rfl (by simp [h95]) (by omega) hk hW, hF.rowE hns hr, hF⟩
    have HC := Lib.hid CW
    clear CW h hr hB hl hg2 hg3 hlA hlen
    go_enter Tryz.func38, Tryz.ntmps38
    go_wp2_with (go_at_call 126; (with_reducible refine HC.out.mono ?_); rintro e w1 ⟨bad, n, rfl, hgood, hbad, hr1, hF⟩; have d0 := hr1.frozen 1; have d1 : w1.cell? ⟨eb, 1, none⟩ = some .nilIface := hr1.cell (by omega); have P := Lib.hid (And.intro hgood (And.intro hbad (And.intro hr1 hF))); clear hgood hbad hr1 hF; (cases bad <;> simp only [errV]))
    all_goals try go_wp2_with fail
    all_goals try go_end0
    · obtain ⟨h1, h2, h3, h4⟩ := P.out
      rw [List.append_assoc] at h1
      exact ⟨rfl, ⟨hle, hf0, .inl ⟨enc_err h3 _, (h1 trivial).setEnc h3 _ _⟩⟩, (h4.mono fun i hi => hi.elim .inl fun h => .inr (.inl h)).setCell (.inr (.inr rfl)) _⟩
    · obtain ⟨h1, h2, h3, h4⟩ := P.out
      rw [List.append_assoc] at h2
      exact ⟨rfl, ⟨hle, hf0, .inr ⟨enc_err h3 _, (h2 trivial).setEnc h3 _ _⟩⟩, (h4.mono fun i hi => hi.elim .inl fun h => .inr (.inl h)).setCell (.inr (.inr rfl)) _⟩
  · have a1 : w.cell? ⟨eb, 1, none⟩ = some (.iface 108 (.agg #[])) := hr.cell (by omega)
    have HH := Lib.hid (And.intro hr (And.intro h1 (And.intro h2 h3)))
    clear h hr h1 h2 h3
    go_enter Tryz.func38, Tryz.ntmps38
    go_wp2_with fail
    refine bodyPost_ret (results_none rfl _ _ _) rfl ?_
    obtain ⟨hr, h1, h2, h3⟩ := HH.out
    refine ⟨rfl, ⟨hle, hf0, .inr ⟨hr, h1, by simp; omega, ?_⟩⟩, Fr.refl _ _ _⟩
    rw [List.take_append_of_le_length (by omega)]
    exact h3
/-- Flush of a buffer where nothing waits. -/
theorem flush_zero (z : Ids) (A : List Nat) (w : World) (h : BufIs z A [] w) :
    Calls Tryz.prog 125 #[.pointer (some ⟨z.bb, 0, none⟩)] w fun e w' => e = .returned .nilIface ∧ w = w' := by
  obtain ⟨B, wb, bb, fb, lim⟩ := z
  obtain ⟨c0, c1, c2, c3, c4⟩ := buf_cells h.bw
  simp only [List.length_nil] at c2
  clear h
  go_enter Tryz.func125, Tryz.ntmps125
  go_wp2_with fail
  go_ret
  exact ⟨rfl, rfl⟩
/-- What is left when a stream has ended. -/
structure FinIs (z : Ids) (eb : Nat) (T : List Nat) (w : World) : Prop where
  good : (z.lim < 0 ∨ (T.length : Int) ≤ z.lim) → w.cell? ⟨eb, 1, none⟩ = some .nilIface ∧ WrIs z.B z.wb z.fb z.lim false T w
  bad : 0 ≤ z.lim → z.lim < (T.length : Int) → w.cell? ⟨eb, 1, none⟩ = some (.iface 108 (.agg #[])) ∧ WrIs z.B z.wb z.fb z.lim true (T.take z.lim.toNat) w
theorem WrIs.setEnc {B wb fb : Nat} {lim : Int} {b : Bool} {A : List Nat} {eb : Nat} {f : Nat → Value} {w : World} (h : WrIs B wb fb lim b A w) (hr : w.rowIs eb 94 152 f) (j : Nat) (v : Value) : WrIs B wb fb lim b A (w.setCell ⟨eb, j, none⟩ v) := by
  obtain ⟨v', hk, _⟩ := h.ex
  exact h.block (blk_setCell_other _ _ _ _ (type_ne hk (rowIs_heap hr) (by decide))) (fun g c fz hg _ => blk_setCell_other _ _ _ _ (type_ne hg (rowIs_heap hr) (by decide)))
set_option maxHeartbeats 2000000 in
set_option maxRecDepth 100000 in
theorem flush_enc (z : Ids) (eb : Nat) (f : Nat → Value) (T : List Nat) (w : World) (h : EncIs z eb f T w) (hl : T.length ≤ 1099511627776) :
    Calls Tryz.prog 44 #[.pointer (some ⟨eb, 0, none⟩)] w fun e w' => e = .returned (.tuple #[]) ∧ FinIs z eb T w' ∧ Fr z.B (z.all eb) w w' := by
  have hm : ∀ w : World, (method 345 97 (.pointer (some ⟨z.bb, 0, none⟩)) "Flush").run Tryz.prog w = .ok (125, .pointer (some ⟨z.bb, 0, none⟩)) w := fun _ => by kernel_rfl
  have a0 : w.cell? ⟨eb, 0, none⟩ = some (.iface 97 (.pointer (some ⟨z.bb, 0, none⟩))) := by rw [← h.f0]; exact h.cell 0 (by omega) (by omega)
  rcases h.st with ⟨hr, A, R, rfl, hB⟩ | ⟨hr, h1, h2, h3⟩
  · have a1 : w.cell? ⟨eb, 1, none⟩ = some .nilIface := hr.cell (by omega)
    obtain ⟨v0, hk0, _⟩ := hB.wr.ex
    have hns : ¬ z.own eb := fun e => e.elim (type_ne (rowIs_heap hr) hk0 (by decide)) (type_ne (rowIs_heap hr) hB.bw (by decide))
    have hlm := hB.lim
    have hlA : A.length + R.length ≤ 1099511627776 := by simpa using hl
    have CW : Calls Tryz.prog 125 #[.pointer (some ⟨z.bb, 0, none⟩)] w fun e w' => ∃ bad, e = .returned (errV bad) ∧ (bad = false → (z.lim < 0 ∨ ((A ++ R).length : Int) ≤ z.lim) ∧ WrIs z.B z.wb z.fb z.lim false (A ++ R) w') ∧ (bad = true → 0 ≤ z.lim ∧ z.lim < ((A ++ R).length : Int) ∧ WrIs z.B z.wb z.fb z.lim true ((A ++ R).take z.lim.toNat) w') ∧ w'.rowIs eb 94 152 (put1 .nilIface f) ∧ Fr z.B z.own w w' := by
      by_cases h0 : R.length = 0
      · have hR : R = [] := List.length_eq_zero_iff.1 h0
        subst hR
        refine (flush_zero z A w hB).mono ?_
        rintro e w' ⟨rfl, rfl⟩
        exact ⟨false, rfl, fun _ => ⟨by simpa using hlm, by simpa using hB.wr⟩, fun h => (by cases h), hr, Fr.refl _ _ _⟩
      · by_cases hg : z.lim < 0 ∨ (A.length : Int) + R.length ≤ z.lim
        · refine (flush_good z A R w hB (by omega) hlA hg).mono ?_
          rintro e w' ⟨rfl, hB', hF⟩
          exact ⟨false, rfl, fun _ => ⟨by simpa using hg, hB'.wr⟩, fun h => (by cases h), hF.rowE hns hr, hF⟩
        · obtain ⟨k, hk⟩ : ∃ k : Nat, z.lim = (A.length : Int) + k := ⟨(z.lim - A.length).toNat, by omega⟩
          refine (flush_bad z A R k w hB (by omega) hlA hk).mono ?_
          rintro e w' ⟨rfl, hW, _, hF⟩
          refine ⟨true, rfl, fun h => (by cases h), fun _ => ⟨by omega, by simp; omega, ?_⟩, hF.rowE hns hr, hF⟩
          have e3 : z.lim.toNat = A.length + k := by omega
          rw [e3, List.take_length_add_append]
          exact hW
    have HC := Lib.hid CW
    clear CW h hr hB hl hlA hlm
    go_enter Tryz.func44, Tryz.ntmps44
    go_wp2_with (go_at_call 125; (with_reducible refine HC.out.mono ?_); rintro e w1 ⟨bad, rfl, hgood, hbad, hr1, hF⟩; have d0 := hr1.frozen 1; have d1 : w1.cell? ⟨eb, 1, none⟩ = some .nilIface := hr1.cell (by omega); have P := Lib.hid (And.intro hgood (And.intro hbad (And.intro hr1 hF))); clear hgood hbad hr1 hF; (cases bad <;> simp only [errV]))
    all_goals try go_wp2_with fail
    all_goals try go_end0
    · obtain ⟨h1, h2, h3, h4⟩ := P.out
      obtain ⟨h5, h6⟩ := h1 trivial
      refine ⟨rfl, ⟨fun _ => ⟨(enc_err h3 _).cell (by omega), h6.setEnc h3 _ _⟩, fun g1 g2 => ?_⟩, (h4.mono fun i hi => hi.elim .inl fun h => .inr (.inl h)).setCell (.inr (.inr rfl)) _⟩
      omega
    · obtain ⟨h1, h2, h3, h4⟩ := P.out
      obtain ⟨h5, h6, h7⟩ := h2 trivial
      refine ⟨rfl, ⟨fun g => ?_, fun _ _ => ⟨(enc_err h3 _).cell (by omega), h7.setEnc h3 _ _⟩⟩, (h4.mono fun i hi => hi.elim .inl fun h => .inr (.inl h)).setCell (.inr (.inr rfl)) _⟩
      omega
  · have a1 : w.cell? ⟨eb, 1, none⟩ = some (.iface 108 (.agg #[])) := hr.cell (by omega)
    have HH := Lib.hid (And.intro hr (And.intro h1 (And.intro h2 h3)))
    clear h hr h1 h2 h3
    go_enter Tryz.func44, Tryz.ntmps44
    go_wp2_with fail
    refine bodyPost_ret (results_none rfl _ _ _) rfl ?_
    obtain ⟨hr, h1, h2, h3⟩ := HH.out
    exact ⟨rfl, ⟨fun g => by omega, fun _ _ => ⟨hr.cell (by omega), h3⟩⟩, Fr.refl _ _ _⟩
end Go.Proofs.YtghjlekdibcjdaaGreatDoor
