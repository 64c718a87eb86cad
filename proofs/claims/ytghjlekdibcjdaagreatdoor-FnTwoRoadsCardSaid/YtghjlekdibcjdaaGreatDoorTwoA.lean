/- The law TwoRoads: what its loop lays out, as plain lists; rows that grow beside each other. -/
import Derived.Test.YtghjlekdibcjdaaGreatDoorOpq
namespace Go.Proofs.YtghjlekdibcjdaaGreatDoor
open Go.Deep Go.RowKit
set_option linter.unusedVariables false
/-- One of the three samples of a color. -/
def colOf (z : List Int) (c k : Nat) : Nat := if c = 0 then lumaOf (pixN z (3 * k)) (pixN z (3 * k + 1)) (pixN z (3 * k + 2)) else if c = 1 then cbOf (pixN z (3 * k)) (pixN z (3 * k + 1)) (pixN z (3 * k + 2)) else crOf (pixN z (3 * k)) (pixN z (3 * k + 1)) (pixN z (3 * k + 2))
def chan (z : List Int) (c : Nat) : Nat → List Nat
  | 0 => []
  | n + 1 => chan z c n ++ [colOf z c n]
theorem chan_len (z : List Int) (c : Nat) : ∀ n, (chan z c n).length = n
  | 0 => rfl
  | n + 1 => by simp only [chan, List.length_append, chan_len z c n, List.length_singleton]
theorem chan_at (z : List Int) (c : Nat) : ∀ n k, k < n → (chan z c n).getD k 0 = colOf z c k
  | 0, k, h => absurd h (by omega)
  | n + 1, k, h => by
    have hl := chan_len z c n
    simp only [chan]
    rw [List.getD_eq_getElem?_getD]
    by_cases e : k = n
    · subst e
      rw [List.getElem?_append_right (by omega), hl, Nat.sub_self]
      rfl
    · rw [List.getElem?_append_left (by omega), ← List.getD_eq_getElem?_getD]
      exact chan_at z c n k (by omega)
theorem colOf_le {z : List Int} (h : ∀ i, 0 ≤ z.getD i 0 ∧ z.getD i 0 ≤ 255) (c k : Nat) : colOf z c k ≤ 255 := by
  unfold colOf
  split
  · exact lumaOf_le (pixN_le h _) (pixN_le h _) (pixN_le h _)
  · split
    · exact chr_le _
    · exact chr_le _
theorem chan_le {z : List Int} (h : ∀ i, 0 ≤ z.getD i 0 ∧ z.getD i 0 ≤ 255) (c : Nat) : ∀ n, ∀ x ∈ chan z c n, x ≤ 255
  | 0, x, hx => by simp [chan] at hx
  | n + 1, x, hx => by
    simp only [chan, List.mem_append, List.mem_singleton] at hx
    rcases hx with hx | hx
    · exact chan_le h c n x hx
    · subst hx; exact colOf_le h c n
theorem pixN_ints (l : List Nat) (k : Nat) : pixN (intsOf l) k = l.getD k 0 := by
  unfold pixN
  rw [intsOf_at]
  omega
/-- The planes of the opaque pixels are the planes of the colors. -/
theorem planes_eq (z : List Int) (N : Nat) (c k : Nat) (hk : k < N) : planesOf (fun c k => pixN (intsOf (rgba4 z N)) (4 * k + c)) c k = colOf z c k := by
  have h : ∀ c, c < 4 → pixN (intsOf (rgba4 z N)) (4 * k + c) = [pixN z (3 * k), pixN z (3 * k + 1), pixN z (3 * k + 2), 255].getD c 0 := fun c hc => by
    rw [pixN_ints, rgba4_at z N k c hk hc]
  unfold planesOf colOf
  simp only [h 0 (by omega), h 1 (by omega), h 2 (by omega)]
  rfl
/-- A stream looks at an image's samples alone. -/
theorem grayS_congr {wd hg : Nat} {P P' : Nat → Nat} (h1 : 1 ≤ wd) (h2 : 1 ≤ hg) (h : ∀ k, k < wd * hg → P k = P' k) : grayS wd hg P = grayS wd hg P' := by
  funext bx by' j
  unfold grayS
  rw [h _ (clamp_lt h1 h2 bx by' j)]
theorem streamC_congr (Q : Nat → Nat) {wd hg : Nat} {P P' : Nat → Nat → Nat} (h1 : 1 ≤ wd) (h2 : 1 ≤ hg) (h : ∀ c, c < 3 → ∀ k, k < wd * hg → P c k = P' c k) : streamC Q wd hg P = streamC Q wd hg P' := by
  have e0 := grayS_congr h1 h2 (h 0 (by omega))
  have e1 := grayS_congr h1 h2 (h 1 (by omega))
  have e2 := grayS_congr h1 h2 (h 2 (by omega))
  have q1 : quadS wd hg (P 1) = quadS wd hg (P' 1) := by funext bx by' n; unfold quadS; rw [e1]
  have q2 : quadS wd hg (P 2) = quadS wd hg (P' 2) := by funext bx by' n; unfold quadS; rw [e2]
  have hl : ∀ bx by' st i, lumaN Q wd hg (P 0) bx by' st i = lumaN Q wd hg (P' 0) bx by' st i := fun bx by' st i => by
    induction i with
    | zero => rfl
    | succ i ih => simp only [lumaN]; rw [ih, e0]
  have hb : ∀ bx by' t, mcuB Q wd hg P bx by' t = mcuB Q wd hg P' bx by' t := fun bx by' t => by unfold mcuB; rw [hl, q1]
  have hr : ∀ bx by' t, mcuR Q wd hg P bx by' t = mcuR Q wd hg P' bx by' t := fun bx by' t => by unfold mcuR; rw [hb, q2]
  have hn : ∀ bx by' t, mcuN Q wd hg P bx by' t = mcuN Q wd hg P' bx by' t := fun bx by' t => by unfold mcuN; rw [hr, hl, hb]
  have hc : ∀ by' t i, colCols Q wd hg P by' t i = colCols Q wd hg P' by' t i := fun by' t i => by
    induction i with
    | zero => rfl
    | succ i ih => simp only [colCols]; rw [ih, hn]
  have ho : ∀ t j, colRows Q wd hg P t j = colRows Q wd hg P' t j := fun t j => by
    induction j with
    | zero => rfl
    | succ j ih => simp only [colRows]; rw [ih, hc]
  unfold streamC colScan
  rw [ho]
/-- Two rows that lie apart. -/
def Apart (u v : Value) : Prop := ∀ g, u.ownBlock = some g → v.ownBlock ≠ some g
/-- Four rows that grow beside each other, above a block. -/
structure RowsF (B : Nat) (w0 W : World) (v : Nat → Value) (l : Nat → List Nat) : Prop where
  own : ∀ i, i < 4 → W.ownsRow B 5 1 (v i) (l i).length (cellsN (l i))
  apart : ∀ i j, i < 4 → j < 4 → i ≠ j → Apart (v i) (v j)
  kept : Kept (fun k => k < B) w0 W
theorem RowsF.congr {B : Nat} {w0 W : World} {v v' : Nat → Value} {l l' : Nat → List Nat} (h : RowsF B w0 W v l) (hv : ∀ i, i < 4 → v i = v' i) (hl : ∀ i, i < 4 → l i = l' i) : RowsF B w0 W v' l' :=
  ⟨fun i hi => by rw [← hv i hi, ← hl i hi]; exact h.own i hi, fun i j hi hj hn => by rw [← hv i hi, ← hv j hj]; exact h.apart i j hi hj hn, h.kept⟩
theorem ownsRow_lt {W : World} {B n g : Nat} {v : Value} {xs : List Value} (h : W.ownsRow B 5 1 v n xs) (hg : v.ownBlock = some g) : g < W.heap.size := by
  rcases h.2 with ⟨rfl, _⟩ | ⟨g', cap, cur, rfl, _, h3, _⟩
  · simp [Value.ownBlock] at hg
  · have : g' = g := by simpa [Value.ownBlock] using hg
    subst this
    exact (Array.getElem?_eq_some_iff.1 h3).1
theorem RowsF.heap {B : Nat} {w0 W W' : World} {v : Nat → Value} {l : Nat → List Nat} (h : RowsF B w0 W v l) (hh : W'.heap = W.heap) (hk : Kept (fun k => k < B) w0 W') : RowsF B w0 W' v l :=
  ⟨fun i hi => ownsRow_block (h.own i hi) fun g _ => by rw [hh], h.apart, hk⟩
/-- One of them has grown. -/
theorem RowsF.app {B : Nat} {w0 W w2 : World} {v : Nat → Value} {l : Nat → List Nat} (h : RowsF B w0 W v l) (i : Nat) (hi : i < 4) (o : Obj) (m : List Nat) (g cap : Nat) (hown : w2.ownsRow B 5 1 (.slice (some ⟨g, 0, none⟩) ((l i).length + m.length) cap) ((l i).length + m.length) (cellsN (l i) ++ cellsN m)) (hgrow : (W.alloc o).grownBy w2 (v i).ownBlock) (hat : (v i).ownBlock = some g ∨ g = W.heap.size + 1) :
    RowsF B w0 w2 (fun j => if j = i then .slice (some ⟨g, 0, none⟩) ((l i).length + m.length) cap else v j) (fun j => if j = i then l i ++ m else l j) := by
  have hk : Kept (fun k => k < B) w0 w2 := (h.kept.alloc o).grown hgrow ((h.own i hi).alloc o)
  have hnew : ∀ j, j < 4 → j ≠ i → (v j).ownBlock ≠ some g := fun j hj hn e => by
    rcases hat with h2 | h2
    · exact h.apart i j hi hj (Ne.symm hn) g h2 e
    · have := ownsRow_lt (h.own j hj) e
      omega
  refine ⟨fun j hj => ?_, fun j k hj hk' hn => ?_, hk⟩
  · by_cases e : j = i
    · rw [if_pos e, if_pos e, List.length_append, cellsN_app]
      exact hown
    · rw [if_neg e, if_neg e]
      refine ownsRow_block ((h.own j hj).alloc o) fun b hb => ?_
      have hlt := ownsRow_lt ((h.own j hj).alloc o) hb
      exact hgrow.block b hlt fun e2 => h.apart i j hi hj (Ne.symm e) b e2.symm hb
  · by_cases e : j = i
    · have e2 : k ≠ i := fun e3 => hn (by rw [e, e3])
      show Apart (if j = i then _ else v j) (if k = i then _ else v k)
      rw [if_pos e, if_neg e2]
      intro b hb
      have : g = b := by simpa [Value.ownBlock] using hb
      subst this
      exact hnew k hk' e2
    · show Apart (if j = i then _ else v j) (if k = i then _ else v k)
      rw [if_neg e]
      by_cases e2 : k = i
      · rw [if_pos e2]
        intro b hb hb2
        have : g = b := by simpa [Value.ownBlock] using hb2
        subst this
        exact hnew j hj e hb
      · rw [if_neg e2]
        exact h.apart j k hj hk' hn
/-- The loop's four rows: the pixels and the three planes. -/
def sel (a b c d : Value) : Nat → Value := fun k => if k = 0 then a else if k = 1 then b else if k = 2 then c else d
def tr (z : List Int) (n m : Nat) : Nat → List Nat := fun k => if k = 0 then rgba4 z n else chan z (k - 1) m
end Go.Proofs.YtghjlekdibcjdaaGreatDoor
