/- The contract of bufio.Writer's Flush over impl.writer. -/
import Derived.Test.YtghjlekdibcjdaaGreatDoorSinkA
import Derived.Test.YtghjlekdibcjdaaGreatDoorFill
import Derived.Deep.RegionHeld3
namespace Go.Proofs.YtghjlekdibcjdaaGreatDoor
open Go.Deep Go.RowKit
set_option linter.unusedVariables false
/-- The blocks of a sink, and the writer's limit. -/
structure Ids where
  B : Nat
  wb : Nat
  bb : Nat
  fb : Nat
  lim : Int
/-- A sink that has not failed: what the writer holds, what waits in the buffer. -/
structure BufIs (z : Ids) (A R : List Nat) (w : World) : Prop where
  wr : WrIs z.B z.wb z.fb z.lim false A w
  bw : w.heap[z.bb]? = some (.cells #[.nilIface, .slice (some ⟨z.fb, 0, none⟩) 4096 4096, .int .i64 (R.length : Int), .iface 65 (.pointer (some ⟨z.wb, 0, none⟩))] 166 (0, 0))
  row : ∃ g, w.rowIs z.fb 5 4096 g ∧ ∀ j, j < R.length → g j = .int .u8 ((R.getD j 0 : Nat) : Int)
  len : R.length ≤ 4096
  lb : z.B ≤ z.bb
  lf : z.B ≤ z.fb
  lim : z.lim < 0 ∨ (A.length : Int) ≤ z.lim
  max : z.lim ≤ 9223372036854775807
/-- The sink's own blocks. -/
def Ids.own (z : Ids) : Nat → Prop := fun k => k = z.wb ∨ k = z.bb
theorem buf_cells {w : World} {k : Nat} {u a b c : Value} {t : TypeId} (hk : w.heap[k]? = some (.cells #[u, a, b, c] t (0, 0))) :
    w.cell? ⟨k, 0, none⟩ = some u ∧ w.cell? ⟨k, 1, none⟩ = some a ∧ w.cell? ⟨k, 2, none⟩ = some b ∧ w.cell? ⟨k, 3, none⟩ = some c ∧ ∀ j, w.frozen? ⟨k, j, none⟩ = false :=
  ⟨by simp [World.cell?, hk], by simp [World.cell?, hk], by simp [World.cell?, hk], by simp [World.cell?, hk], fun j => by simp [World.frozen?, hk]⟩
theorem type_ne {w : World} {i j : Nat} {c d : Array Value} {t u : TypeId} {f g : Nat × Nat} (h : w.heap[i]? = some (.cells c t f)) (k : w.heap[j]? = some (.cells d u g)) (hne : t ≠ u) : i ≠ j := by
  intro e
  subst e
  rw [h] at k
  injection k with k
  injection k with _ k
  exact hne k
theorem WrIs.block {B wb fb : Nat} {lim : Int} {failed : Bool} {A : List Nat} {w w' : World} (h : WrIs B wb fb lim failed A w) (h1 : w'.heap[wb]? = w.heap[wb]?) (h2 : ∀ g c fz, w.heap[g]? = some (.cells c 5 fz) → g ≠ fb → w'.heap[g]? = w.heap[g]?) : WrIs B wb fb lim failed A w' := by
  obtain ⟨hle, v, hk, ho, hne⟩ := h
  refine ⟨hle, v, h1.trans hk, ownsRow_block ho fun g hg => ?_, hne⟩
  rcases ho.2 with ⟨rfl, _⟩ | ⟨g', cap, cur, rfl, _, hg', _⟩
  · simp [Value.ownBlock] at hg
  · have : g' = g := by simpa [Value.ownBlock] using hg
    subst this
    exact h2 _ _ _ hg' (fun e => hne (by rw [e]; rfl))
set_option maxHeartbeats 2000000 in
set_option maxRecDepth 100000 in
theorem flush_good (z : Ids) (A R : List Nat) (w : World) (h : BufIs z A R w) (h0 : 0 < R.length) (hl : A.length + R.length ≤ 1099511627776) (hg : z.lim < 0 ∨ (A.length : Int) + R.length ≤ z.lim) :
    Calls Tryz.prog 125 #[.pointer (some ⟨z.bb, 0, none⟩)] w fun e w' => e = .returned .nilIface ∧ BufIs z (A ++ R) [] w' ∧ Fr z.B z.own w w' := by
  obtain ⟨hw, hb, ⟨g, hrow, hrg⟩, hlen, hlb, hlf, hlim, hmax⟩ := h
  have hbf : z.fb ≠ z.bb := type_ne (rowIs_heap hrow) hb (by decide)
  obtain ⟨v0, hk0, _⟩ := hw.ex
  have hwf : z.fb ≠ z.wb := type_ne (rowIs_heap hrow) hk0 (by decide)
  have hwb : z.bb ≠ z.wb := type_ne hb hk0 (by decide)
  have hm : ∀ w : World, (method 345 65 (.pointer (some ⟨z.wb, 0, none⟩)) "Write").run Tryz.prog w = .ok (123, .pointer (some ⟨z.wb, 0, none⟩)) w := fun _ => by kernel_rfl
  have CW : Calls Tryz.prog 123 #[.pointer (some ⟨z.wb, 0, none⟩), .slice (some ⟨z.fb, 0, none⟩) R.length 4096] w.drew fun e w' => e = .returned (.tuple #[.int .i64 (R.length : Int), .nilIface]) ∧ WrIs z.B z.wb z.fb z.lim false (A ++ R) w' ∧ w'.heap[z.fb]? = w.heap[z.fb]? ∧ Fr z.B (fun k => k = z.wb) w w' := by
    have hW : WrIs z.B z.wb z.fb z.lim false A w.drew := ⟨hw.le, hw.ex⟩
    have hR : ∀ j, j < R.length → w.drew.cell? ⟨z.fb, j, none⟩ = some (.int .u8 ((R.getD j 0 : Nat) : Int)) := fun j hj => by rw [← hrg j hj]; exact hrow.cell (by omega)
    have hlt := hrow.lt
    have hB : z.B ≤ w.heap.size := by have := hrow.lt; omega
    have key : ∀ {e : Ending} {w' : World}, Fr z.B (fun k => k = z.wb) w.drew w' → Fr z.B (fun k => k = z.wb) w w' := fun k => ⟨k.os, k.tape, k.output, k.size, k.block⟩
    by_cases hn : z.lim < 0
    · exact (wrWrite_free z.B z.wb z.fb 4096 z.lim A R w.drew hW hR hl hlen hlt hwf hB hn).mono fun e w' ⟨h1, h2, h3, h4⟩ => ⟨h1, h2, h3, key (e := e) h4⟩
    · exact (wrWrite_fits z.B z.wb z.fb 4096 z.lim A R w.drew hW hR hl hlen hlt hwf hB (by omega) (by omega) hmax).mono fun e w' ⟨h1, h2, h3, h4⟩ => ⟨h1, h2, h3, key (e := e) h4⟩
  obtain ⟨B, wb, bb, fb, lim⟩ := z
  simp only at *
  obtain ⟨r, hr⟩ : ∃ r, R.length = r := ⟨_, rfl⟩
  obtain ⟨c0, c1, c2, c3, c4⟩ := buf_cells hb
  rw [hr] at c2 CW h0 hlen
  have HH := Lib.hid (And.intro hw (And.intro hb (And.intro hrow hrg)))
  have CW' := Lib.hid CW
  have hln : ¬ ((r : Nat) : Int) < ((r : Nat) : Int) := by omega
  have hz : (((r : Nat) : Int) == 0) = false := by simp; omega
  have i0 : (0 : Int) ≤ (r : Int) := by omega
  have i1 : (r : Int) ≤ 4096 := by omega
  have i2 : ((r : Nat) : Int).toNat = r := by omega
  have HRL := Lib.hid hr
  have HLIM := Lib.hid (And.intro hlim hg)
  have HNE := Lib.hid (And.intro hbf (And.intro hwf hwb))
  clear hw hb hrow hrg CW hlim hg hbf hwf hwb hk0 hr
  go_enter Tryz.func125, Tryz.ntmps125
  go_wp2_with fail
  go_region_held3 (fun w' => w'.cell? ⟨bb, 0, none⟩ = some .nilIface ∧ w'.cell? ⟨bb, 1, none⟩ = some (.slice (some ⟨fb, 0, none⟩) 4096 4096) ∧ w'.cell? ⟨bb, 2, none⟩ = some (.int .i64 (r : Int)) ∧ w'.cell? ⟨bb, 3, none⟩ = some (.iface 65 (.pointer (some ⟨wb, 0, none⟩))))
    (first | go_keep | (go_split_ands; refine ⟨?_, ?_, ?_, ?_⟩ <;> assumption))
    (first
      | (go_at_call 123; (with_reducible refine CW'.out.mono ?_); rintro e w1 ⟨rfl, hw1, hf1, hF1⟩; have hb1 := hF1.heap HH.out.2.1 (fun e => HNE.out.2.2 e) (.inr (by simp)); obtain ⟨d0, d1, d2, d3, d4⟩ := buf_cells hb1; rw [HRL.out] at d2; have K1 := Lib.hid (And.intro hw1 (And.intro hf1 (And.intro hF1 hb1))); clear hw1 hf1 hF1 hb1))
  clear c0 c1 c2 c3 c4
  go_wp2_with fail
  go_ret
  obtain ⟨hw1, hf1, hF1, hb1⟩ := K1.out
  obtain ⟨hw0, hb0, hrow, hrg⟩ := HH.out
  refine ⟨rfl, ⟨?_, by simpa using heap_set hb1 2 (.int .i64 0), ⟨g, (hrow.of_block hf1).setOther (a := ⟨bb, 2, none⟩) HNE.out.1 _, fun j hj => absurd hj (by simp)⟩, by simp, hlb, hlf, ?_, hmax⟩, ?_⟩
  · exact hw1.block (blk_setCell_other _ _ _ _ (Ne.symm HNE.out.2.2)) fun g c fz hg _ => blk_setCell_other _ _ _ _ (type_ne hg hb1 (by decide))
  · have := HLIM.out.2; simp only [List.length_append]; omega
  · exact (hF1.mono fun i h => .inl h).setCell (.inr rfl) _
theorem flush_end {B wb bb fb : Nat} {lim : Int} {T : List Nat} {w w1 w2 : World} {a b c e : Value} (hw1 : WrIs B wb fb lim true T w1) (hF : Fr B (fun k => k = wb) w w1) (hb1 : w1.heap[bb]? = some (.cells #[e, a, b, c] 166 (0, 0))) (k2 : Kept (fun k => k ≠ fb) w1 w2) (hbf : fb ≠ bb) (hwf : fb ≠ wb) (hwb : bb ≠ wb) (hr : ∃ t n g, w1.rowIs fb t n g ∧ t = 5) (x : Value) :
    WrIs B wb fb lim true T ((w2.setCell ⟨bb, 2, none⟩ x).setCell ⟨bb, 0, none⟩ (.iface 108 (.agg #[]))) ∧ ((w2.setCell ⟨bb, 2, none⟩ x).setCell ⟨bb, 0, none⟩ (.iface 108 (.agg #[]))).cell? ⟨bb, 0, none⟩ = some (.iface 108 (.agg #[])) ∧ (B ≤ fb → Fr B (fun k => k = wb ∨ k = bb) w ((w2.setCell ⟨bb, 2, none⟩ x).setCell ⟨bb, 0, none⟩ (.iface 108 (.agg #[])))) := by
  have hlt : bb < w1.heap.size := (Array.getElem?_eq_some_iff.1 hb1).1
  have hb2 : w2.heap[bb]? = some (.cells #[e, a, b, c] 166 (0, 0)) := (k2.block bb hlt (Ne.symm hbf)).trans hb1
  obtain ⟨v, hk, ho, hne⟩ := hw1.ex
  have hlw : wb < w1.heap.size := (Array.getElem?_eq_some_iff.1 hk).1
  refine ⟨hw1.block ?_ ?_, ?_, fun hB => ?_⟩
  · rw [blk_setCell_other _ _ _ _ (Ne.symm hwb), blk_setCell_other _ _ _ _ (Ne.symm hwb), k2.block wb hlw (Ne.symm hwf)]
  · intro g cs fz hg hgf
    have hgb : g ≠ bb := type_ne hg hb1 (by decide)
    rw [blk_setCell_other _ _ _ _ hgb, blk_setCell_other _ _ _ _ hgb, k2.block g (Array.getElem?_eq_some_iff.1 hg).1 hgf]
  · have h3 := heap_set (heap_set hb2 2 x) 0 (.iface 108 (.agg #[]))
    unfold World.cell?
    simp only [h3]
    simp
  · have hF2 : Fr B (fun k => k = wb ∨ k = bb) w w2 := by
      refine ⟨k2.os.trans hF.os, k2.tape.trans hF.tape, k2.output.trans hF.output, Nat.le_trans hF.size k2.size, fun i o h1 h2 h3 => ?_⟩
      have h4 := hF.block i o h1 (fun h => h2 (.inl h)) h3
      have hif : i ≠ fb := fun hi => by
        obtain ⟨t, n, g, hr, rfl⟩ := hr
        subst hi
        rcases h3 with h3 | h3
        · omega
        · have := rowIs_heap hr
          rw [h4] at this
          injection this with this
          exact h3 _ _ this
      rw [k2.block i (Array.getElem?_eq_some_iff.1 h4).1 hif, h4]
    exact (hF2.setCell (.inr rfl) _).setCell (.inr rfl) _
set_option maxHeartbeats 2000000 in
set_option maxRecDepth 100000 in
theorem flush_bad (z : Ids) (A R : List Nat) (k : Nat) (w : World) (h : BufIs z A R w) (hk : k < R.length) (hl : A.length + R.length ≤ 1099511627776) (hg : z.lim = (A.length : Int) + k) :
    Calls Tryz.prog 125 #[.pointer (some ⟨z.bb, 0, none⟩)] w fun e w' => e = .returned (.iface 108 (.agg #[])) ∧ WrIs z.B z.wb z.fb z.lim true (A ++ R.take k) w' ∧ w'.cell? ⟨z.bb, 0, none⟩ = some (.iface 108 (.agg #[])) ∧ Fr z.B z.own w w' := by
  obtain ⟨hw, hb, ⟨g, hrow, hrg⟩, hlen, hlb, hlf, hlim, hmax⟩ := h
  have hbf : z.fb ≠ z.bb := type_ne (rowIs_heap hrow) hb (by decide)
  obtain ⟨v0, hk0, _⟩ := hw.ex
  have hwf : z.fb ≠ z.wb := type_ne (rowIs_heap hrow) hk0 (by decide)
  have hwb : z.bb ≠ z.wb := type_ne hb hk0 (by decide)
  have hm : ∀ w : World, (method 345 65 (.pointer (some ⟨z.wb, 0, none⟩)) "Write").run Tryz.prog w = .ok (123, .pointer (some ⟨z.wb, 0, none⟩)) w := fun _ => by kernel_rfl
  have CW : Calls Tryz.prog 123 #[.pointer (some ⟨z.wb, 0, none⟩), .slice (some ⟨z.fb, 0, none⟩) R.length 4096] w.drew fun e w' => e = .returned (.tuple #[.int .i64 (k : Int), .iface 108 (.agg #[])]) ∧ WrIs z.B z.wb z.fb z.lim true (A ++ R.take k) w' ∧ w'.heap[z.fb]? = w.heap[z.fb]? ∧ Fr z.B (fun k => k = z.wb) w w' := by
    have hW : WrIs z.B z.wb z.fb z.lim false A w.drew := ⟨hw.le, hw.ex⟩
    have hR : ∀ j, j < R.length → w.drew.cell? ⟨z.fb, j, none⟩ = some (.int .u8 ((R.getD j 0 : Nat) : Int)) := fun j hj => by rw [← hrg j hj]; exact hrow.cell (by omega)
    have hlt := hrow.lt
    have hB : z.B ≤ w.heap.size := by have := hrow.lt; omega
    have key : ∀ {e : Ending} {w' : World}, Fr z.B (fun k => k = z.wb) w.drew w' → Fr z.B (fun k => k = z.wb) w w' := fun k => ⟨k.os, k.tape, k.output, k.size, k.block⟩
    exact (wrWrite_short z.B z.wb z.fb 4096 z.lim A R w.drew hW hR hl hlen hlt hwf hB k hg hk).mono fun e w' ⟨h1, h2, h3, h4⟩ => ⟨h1, h2, h3, key (e := e) h4⟩
  obtain ⟨B, wb, bb, fb, lim⟩ := z
  simp only at *
  obtain ⟨r, hr⟩ : ∃ r, R.length = r := ⟨_, rfl⟩
  obtain ⟨c0, c1, c2, c3, c4⟩ := buf_cells hb
  rw [hr] at c2 CW hk hlen
  have HH := Lib.hid (And.intro hw (And.intro hb (And.intro hrow hrg)))
  have CW' := Lib.hid CW
  have hln : ((k : Nat) : Int) < ((r : Nat) : Int) := by omega
  have hz : (((r : Nat) : Int) == 0) = false := by simp; omega
  have i0 : (0 : Int) ≤ (r : Int) := by omega
  have i1 : (r : Int) ≤ 4096 := by omega
  have j0 : (0 : Int) ≤ (r : Int) - (k : Int) := by omega
  have j1 : (r : Int) - (k : Int) ≤ 4096 := by omega
  have j2 : ((r : Int) - (k : Int)).toNat = r - k := by omega
  have j3 : (0 : Int) ≤ (k : Int) := by omega
  have j4 : (k : Int) ≤ (r : Int) := by omega
  have ew : IntKind.i64.wrap ((r : Int) - (k : Int)) = (r : Int) - (k : Int) := IntWalk.i64_in _ ⟨by omega, by omega⟩
  have i2 : ((r : Nat) : Int).toNat = r := by omega
  have HRL := Lib.hid hr
  have HLIM := Lib.hid (And.intro hlim hg)
  have HNE := Lib.hid (And.intro hbf (And.intro hwf hwb))
  clear hw hb hrow hrg CW hlim hg hbf hwf hwb hk0 hr
  go_enter Tryz.func125, Tryz.ntmps125
  go_wp2_with fail
  go_region_held3 (fun w' => w'.cell? ⟨bb, 0, none⟩ = some .nilIface ∧ w'.cell? ⟨bb, 1, none⟩ = some (.slice (some ⟨fb, 0, none⟩) 4096 4096) ∧ w'.cell? ⟨bb, 2, none⟩ = some (.int .i64 (r : Int)) ∧ w'.cell? ⟨bb, 3, none⟩ = some (.iface 65 (.pointer (some ⟨wb, 0, none⟩))))
    (first | go_keep | (go_split_ands; refine ⟨?_, ?_, ?_, ?_⟩ <;> assumption))
    (first
      | (go_at_call 123; (with_reducible refine CW'.out.mono ?_); rintro e w1 ⟨rfl, hw1, hf1, hF1⟩; have hb1 := hF1.heap HH.out.2.1 (fun e => HNE.out.2.2 e) (.inr (by simp)); obtain ⟨d0, d1, d2, d3, d4⟩ := buf_cells hb1; rw [HRL.out] at d2; have K1 := Lib.hid (And.intro hw1 (And.intro hf1 (And.intro hF1 hb1))); clear hw1 hf1 hF1 hb1))
  clear c0 c1 c2 c3 c4
  obtain ⟨hw1, hf1, hF1, hb1⟩ := K1.out
  have hrw1 := HH.out.2.2.1.of_block hf1
  have HW1 := Lib.hid (And.intro hw1 (And.intro hF1 (And.intro hb1 hrw1)))
  clear hw1 hf1 hF1 hb1 hrw1
  by_cases hk0 : 0 < k
  · have hki : (0 : Int) < (k : Int) := by omega
    go_wp2_with fail
    have nk : ¬ 4096 = k := by omega
    go_still_tail 21, (by kernel_rfl)
    change wpList _ _ _ _ _ w1.drew
    clear d0 d1 d2 d3 d4
    have hrd : w1.drew.rowIs fb 5 4096 g := HW1.out.2.2.2
    have hsrc : ∀ j, j < r - k → w1.drew.cell? ((⟨fb, k, none⟩ : Addr).add j) = some (Value.int .u8 ((R.getD (k + j) 0 : Nat) : Int)) := fun j hj => by
      rw [Addr.add_mid, ← HH.out.2.2.2 (k + j) (by have := HRL.out; omega)]
      exact hrd.cell (by omega)
    refine wpList_copy_rowIs rfl (.tmp 71) (.tmp 81) 22 22 rfl 5 Tryz.underlying22 size5 (some ⟨fb, 0, none⟩) (some ⟨fb, k, none⟩) (r - k) 4096 (r - k) (4096 - k) ?_ ?_ fb 0 4096 5 g hrd (r - k) (fun i => Value.int .u8 ((R.getD (k + i) 0 : Nat) : Int)) (by simp) (fun _ => ⟨rfl, _, rfl, hsrc⟩) (by omega) (fun _ => rfl) ?_
    · first | rfl | (simp [Act.eval, Operand.eval]; done)
    · first | rfl | (simp [Act.eval, Operand.eval]; done) | (simp [Act.eval]; omega)
    · intro w2 k2 r2
      have k2' : Kept (fun k => k ≠ fb) w1 w2 := ⟨k2.os, k2.tape, k2.output, k2.size, k2.block⟩
      have E := flush_end HW1.out.1 HW1.out.2.1 HW1.out.2.2.1 k2' HNE.out.1 HNE.out.2.1 HNE.out.2.2 ⟨_, _, _, HW1.out.2.2.2, rfl⟩ (.int .i64 ((r : Int) - (k : Int)))
      have hb2 := (k2'.block bb (Array.getElem?_eq_some_iff.1 HW1.out.2.2.1).1 (Ne.symm HNE.out.1)).trans HW1.out.2.2.1
      obtain ⟨d0, d1, d2, d3, d4⟩ := buf_cells hb2
      rw [HRL.out] at d2
      have HE := Lib.hid E
      clear E k2 k2' r2 hb2 hrd hsrc
      go_wp2_with fail
      go_ret
      exact ⟨rfl, HE.out.1, HE.out.2.1, HE.out.2.2 hlf⟩
  · have hki : ¬ (0 : Int) < (k : Int) := by omega
    go_wp2_with fail
    go_ret
    have E := flush_end HW1.out.1 HW1.out.2.1 HW1.out.2.2.1 (Kept.refl _ _) HNE.out.1 HNE.out.2.1 HNE.out.2.2 ⟨_, _, _, HW1.out.2.2.2, rfl⟩ (.int .i64 ((r : Int) - (k : Int)))
    exact ⟨rfl, E.1, E.2.1, E.2.2 hlf⟩
end Go.Proofs.YtghjlekdibcjdaaGreatDoor
