/- The scan of a gray image as plain functions; what holds on the walk of writeSOS. -/
import Derived.Test.YtghjlekdibcjdaaGreatDoorGrayB
import Derived.Test.YtghjlekdibcjdaaGreatDoorBlock
import Derived.Test.YtghjlekdibcjdaaGreatDoorWrC
namespace Go.Proofs.YtghjlekdibcjdaaGreatDoor
open Go.Deep Go.RowKit
set_option linter.unusedVariables false
/-- One block more. -/
def stepG (Q : Nat → Nat) (q : Nat) (G : Nat → Int) (st : Bw × Int) : Bw × Int := (blockN Q q (coef G) st.2 st.1, dcAt Q q (coef G))
/-- The samples of a gray block. -/
def grayS (wd hg : Nat) (P : Nat → Nat) (bx by' : Nat) : Nat → Int := fun j => ((P (clampAt wd hg bx by' j) : Nat) : Int)
/-- The first i blocks of a row of blocks. -/
def grayCols (Q : Nat → Nat) (wd hg : Nat) (P : Nat → Nat) (by' : Nat) (st : Bw × Int) : Nat → Bw × Int
  | 0 => st
  | i + 1 => stepG Q 0 (grayS wd hg P (8 * i) by') (grayCols Q wd hg P by' st i)
/-- The first j rows of blocks. -/
def grayRows (Q : Nat → Nat) (wd hg : Nat) (P : Nat → Nat) (st : Bw × Int) : Nat → Bw × Int
  | 0 => st
  | j + 1 => grayCols Q wd hg P (8 * j) (grayRows Q wd hg P st j) ((wd + 7) / 8)
def grayScan (Q : Nat → Nat) (wd hg : Nat) (P : Nat → Nat) (s : Bw) : Bw := emitN (grayRows Q wd hg P (s, 0) ((hg + 7) / 8)).1 127 7
theorem stepG_len (Q : Nat → Nat) (q : Nat) (G : Nat → Int) (st : Bw × Int) : (stepG Q q G st).1.1.length ≤ st.1.1.length + 2400 := blockN_len _ _ _ _ _
theorem grayCols_len (Q : Nat → Nat) (wd hg : Nat) (P : Nat → Nat) (by' : Nat) (st : Bw × Int) : ∀ i, (grayCols Q wd hg P by' st i).1.1.length ≤ st.1.1.length + 2400 * i
  | 0 => by simp [grayCols]
  | i + 1 => by
    have h1 := grayCols_len Q wd hg P by' st i
    have h2 := stepG_len Q 0 (grayS wd hg P (8 * i) by') (grayCols Q wd hg P by' st i)
    show (stepG Q 0 (grayS wd hg P (8 * i) by') (grayCols Q wd hg P by' st i)).1.1.length ≤ _
    rw [Nat.mul_succ, ← Nat.add_assoc]
    exact Nat.le_trans h2 (Nat.add_le_add_right h1 2400)
theorem grayRows_len (Q : Nat → Nat) (wd hg : Nat) (P : Nat → Nat) (st : Bw × Int) : ∀ j, (grayRows Q wd hg P st j).1.1.length ≤ st.1.1.length + 2400 * ((wd + 7) / 8 * j)
  | 0 => by simp [grayRows]
  | j + 1 => by
    have h1 := grayRows_len Q wd hg P st j
    have h2 := grayCols_len Q wd hg P (8 * j) (grayRows Q wd hg P st j) ((wd + 7) / 8)
    show (grayCols Q wd hg P (8 * j) (grayRows Q wd hg P st j) ((wd + 7) / 8)).1.1.length ≤ _
    rw [Nat.mul_succ, Nat.mul_add, ← Nat.add_assoc]
    exact Nat.le_trans h2 (Nat.add_le_add_right h1 _)
theorem blocks_le {wd hg : Nat} (h1 : 1 ≤ wd) (h2 : 1 ≤ hg) (h : wd * hg ≤ 65536) {j i : Nat} (hj : j < (hg + 7) / 8) (hi : i ≤ (wd + 7) / 8) : (wd + 7) / 8 * j + i ≤ 65536 := by
  have h3 : (wd + 7) / 8 ≤ wd := by omega
  have h4 : j + 1 ≤ hg := by omega
  have h5 : (wd + 7) / 8 * (j + 1) ≤ wd * hg := Nat.mul_le_mul h3 h4
  rw [Nat.mul_succ] at h5
  omega
theorem blocks_all {wd hg : Nat} (h1 : 1 ≤ wd) (h2 : 1 ≤ hg) (h : wd * hg ≤ 65536) {j : Nat} (hj : j ≤ (hg + 7) / 8) : (wd + 7) / 8 * j ≤ 65536 := by
  have h3 : (wd + 7) / 8 ≤ wd := by omega
  have h4 : j ≤ hg := by omega
  exact Nat.le_trans (Nat.mul_le_mul h3 h4) h
theorem grayS_ok {wd hg : Nat} {P : Nat → Nat} (hP : ∀ k, P k ≤ 255) (bx by' : Nat) : IsSamples (grayS wd hg P bx by') := fun j => by
  have := hP (clampAt wd hg bx by' j)
  unfold grayS
  omega
/-- What holds of a state of the scan. -/
def StOk (st : Bw × Int) : Prop := BwOk st.1 ∧ -1024 ≤ st.2 ∧ st.2 ≤ 1016
theorem stepG_ok {Q : Nat → Nat} (hQ : ∀ j, 1 ≤ Q j) {q : Nat} (hq : q < 2) {G : Nat → Int} (hG : IsSamples G) {st : Bw × Int} (h : StOk st) : StOk (stepG Q q G st) :=
  ⟨blockN_ok hQ (coefOk hG) hq h.2 h.1, dcAt_in hQ (coefOk hG) q⟩
theorem grayCols_ok {Q : Nat → Nat} (hQ : ∀ j, 1 ≤ Q j) {wd hg : Nat} {P : Nat → Nat} (hP : ∀ k, P k ≤ 255) (by' : Nat) {st : Bw × Int} (h : StOk st) : ∀ i, StOk (grayCols Q wd hg P by' st i)
  | 0 => h
  | i + 1 => stepG_ok hQ (by omega) (grayS_ok hP _ _) (grayCols_ok hQ hP by' h i)
theorem grayRows_ok {Q : Nat → Nat} (hQ : ∀ j, 1 ≤ Q j) {wd hg : Nat} {P : Nat → Nat} (hP : ∀ k, P k ≤ 255) {st : Bw × Int} (h : StOk st) : ∀ j, StOk (grayRows Q wd hg P st j)
  | 0 => h
  | j + 1 => grayCols_ok hQ hP _ (grayRows_ok hQ hP h j) _
/-- A header's write, as a frame of the scan. -/
theorem Fr.ofHd {z : Ids} {eb : Nat} {g : Nat → Value} {T : List Nat} {w w' : World} (h : EncG z eb g T w) (k : Kept (z.hd eb) w w') : Fr z.B (z.all eb) w w' := by
  obtain ⟨g', hr, _⟩ := h.buf.row
  refine ⟨k.os, k.tape, k.output, k.size, fun i o h1 h2 h3 => ?_⟩
  refine (k.block i (Array.getElem?_eq_some_iff.1 h1).1 ⟨fun e => h2 (.inr (.inr e)), fun e => h2 (.inr (.inl e)), fun e => ?_⟩).trans h1
  subst e
  rcases h3 with h3 | h3
  · have := h.buf.lf; omega
  · have := rowIs_heap hr
    rw [h1] at this
    injection this with this
    exact h3 _ _ this
theorem EncG.toS {z : Ids} {eb : Nat} {g : Nat → Value} {T : List Nat} {w : World} (h : EncG z eb g T w) (h18 : g 18 = .int .u32 0) (h19 : g 19 = .int .u32 0) : EncS z eb g (T, 0, 0) w :=
  h.toIs.congr fun j _ _ => by
    unfold encR
    by_cases e1 : j = 18
    · subst e1; rw [if_pos rfl, h18]; rfl
    · rw [if_neg e1]
      by_cases e2 : j = 19
      · subst e2; rw [if_pos rfl, h19]; rfl
      · rw [if_neg e2]
/-- What holds in the loops of the scan: b is the block of samples, rb the bounds' block. -/
structure GS (z : Ids) (eb : Nat) (Q L : Nat → Nat) (f : Nat → Value) (b rb : Nat) (x0 y0 x1 y1 : Int) (w0 : World) (s : Bw) (wr : World) : Prop where
  enc : EncS z eb f s wr
  env : Env z eb Q L f wr
  row : ∃ g, wr.rowIs b 132 64 g
  box : wr.heap[rb]? = some (.cells #[.int .i64 x0, .int .i64 y0, .int .i64 x1, .int .i64 y1] 40 (0, 0))
  fr : Fr z.B (fun k => z.all eb k ∨ k = b) w0 wr
theorem plain132 : Plain 132 := ⟨by decide, by decide, by decide, by decide, by decide⟩
namespace GS
variable {z : Ids} {eb : Nat} {Q L : Nat → Nat} {f : Nat → Value} {b rb : Nat} {x0 y0 x1 y1 : Int} {w0 wr w2 : World} {s s2 : Bw}
/-- Calls that make memory alone. -/
theorem calm (h : GS z eb Q L f b rb x0 y0 x1 y1 w0 s wr) (k : Kept (fun _ => True) wr w2) : GS z eb Q L f b rb x0 y0 x1 y1 w0 s w2 := by
  obtain ⟨g, hg⟩ := h.row
  refine ⟨EncIs.kept h.enc k fun _ _ _ _ _ _ => trivial, ?_, ⟨g, k.row hg trivial⟩, (k.block rb (Array.getElem?_eq_some_iff.1 h.box).1 trivial).trans h.box, h.fr.trans (Fr.ofKept (k.mono fun _ _ _ => trivial))⟩
  exact ⟨h.env.tabs.kept k fun _ _ _ _ => trivial, fun i hi => k.cellOf (h.env.bits i hi) trivial, fun i hi => k.cellOf (h.env.zig i hi) trivial⟩
/-- The samples are laid. -/
theorem samples {g : Nat → Value} (h : GS z eb Q L f b rb x0 y0 x1 y1 w0 s wr) (k : Kept (fun i => i ≠ b) wr w2) (hr : w2.rowIs b 132 64 g) (hb : z.B ≤ b) : GS z eb Q L f b rb x0 y0 x1 y1 w0 s w2 := by
  obtain ⟨g0, hg⟩ := h.row
  refine ⟨h.enc.keptOne k hg plain132, h.env.keptOne k hg plain132 hb, ⟨g, hr⟩, (k.block rb (Array.getElem?_eq_some_iff.1 h.box).1 (type_ne h.box (rowIs_heap hg) (by decide))).trans h.box, h.fr.trans (Fr.ofKept (k.mono fun i _ h e => h (.inr e)))⟩
/-- A block is written. -/
theorem block (h : GS z eb Q L f b rb x0 y0 x1 y1 w0 s wr) (he : EncS z eb f s2 w2) (hr : ∃ g, w2.rowIs b 132 64 g) (k : Fr z.B (fun i => z.all eb i ∨ i = b) wr w2) (hrb : ¬ z.all eb rb) (hb : z.B ≤ b) : GS z eb Q L f b rb x0 y0 x1 y1 w0 s2 w2 := by
  obtain ⟨g0, hg⟩ := h.row
  refine ⟨he, h.env.fr k (fun i hi e => e.elim (h.env.tabs.far i hi) fun e => ?_) (fun i hi e => e.elim (h.env.tabs.low_far hi) fun e => by omega), hr, k.heap h.box (fun e => e.elim hrb fun e => ?_) (.inr (by simp)), h.fr.trans k⟩
  · exact type_ne (rowIs_heap (h.env.tabs.row i hi)) (rowIs_heap hg) (by decide) e
  · exact type_ne h.box (rowIs_heap hg) (by decide) e
end GS
theorem gray_fr {bi bp : Nat} {x0 y0 : Int} {wd hg : Nat} {P : Nat → Nat} {B : Nat} {S : Nat → Prop} {w w' : World} (h : GrayAt bi bp x0 y0 wd hg P w) (k : Fr B S w w') (hS : ∀ i, S i → B ≤ i) (h1 : bi < B) (h2 : bp < B) : GrayAt bi bp x0 y0 wd hg P w' := h.kept (k.kept hS) h1 h2
end Go.Proofs.YtghjlekdibcjdaaGreatDoor
