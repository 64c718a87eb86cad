/- The pixels that the laws lay out of colors: bytes that grow by append. -/
import Derived.Test.YtghjlekdibcjdaaGreatDoorLP
import Derived.StillTailTactics
import Derived.Deep.AppendLies
namespace Go.Proofs.YtghjlekdibcjdaaGreatDoor
open Go.Deep Go.RowKit
set_option linter.unusedVariables false
/-- Opaque pixels of the first n colors. -/
def rgba4 (z : List Int) : Nat → List Nat
  | 0 => []
  | n + 1 => rgba4 z n ++ [pixN z (3 * n), pixN z (3 * n + 1), pixN z (3 * n + 2), 255]
theorem rgba4_len (z : List Int) : ∀ n, (rgba4 z n).length = 4 * n
  | 0 => rfl
  | n + 1 => by simp only [rgba4, List.length_append, rgba4_len z n, List.length_cons, List.length_nil]; omega
theorem rgba4_at (z : List Int) : ∀ n k c, k < n → c < 4 → (rgba4 z n).getD (4 * k + c) 0 = [pixN z (3 * k), pixN z (3 * k + 1), pixN z (3 * k + 2), 255].getD c 0
  | 0, k, c, h, _ => absurd h (by omega)
  | n + 1, k, c, h, hc => by
    have hl := rgba4_len z n
    simp only [rgba4]
    rw [List.getD_eq_getElem?_getD]
    by_cases e : k = n
    · subst e
      rw [List.getElem?_append_right (by omega), hl, show 4 * k + c - 4 * k = c by omega, ← List.getD_eq_getElem?_getD]
    · rw [List.getElem?_append_left (by omega), ← List.getD_eq_getElem?_getD]
      exact rgba4_at z n k c (by omega) hc
theorem pixN_le {z : List Int} (h : ∀ i, 0 ≤ z.getD i 0 ∧ z.getD i 0 ≤ 255) (k : Nat) : pixN z k ≤ 255 := by
  have := h k
  unfold pixN
  omega
theorem rgba4_le {z : List Int} (h : ∀ i, 0 ≤ z.getD i 0 ∧ z.getD i 0 ≤ 255) : ∀ n, ∀ x ∈ rgba4 z n, x ≤ 255
  | 0, x, hx => by simp [rgba4] at hx
  | n + 1, x, hx => by
    simp only [rgba4, List.mem_append, List.mem_cons, List.not_mem_nil, or_false] at hx
    rcases hx with hx | hx | hx | hx | hx
    · exact rgba4_le h n x hx
    · subst hx; exact pixN_le h _
    · subst hx; exact pixN_le h _
    · subst hx; exact pixN_le h _
    · omega
/-- Bytes as integers. -/
def intsOf (l : List Nat) : List Int := l.map Int.ofNat
theorem intsOf_at (l : List Nat) (i : Nat) : (intsOf l).getD i 0 = ((l.getD i 0 : Nat) : Int) := by
  unfold intsOf
  rw [List.getD_eq_getElem?_getD, List.getD_eq_getElem?_getD, List.getElem?_map]
  cases l[i]? <;> rfl
theorem intsOf_in {l : List Nat} (h : ∀ x ∈ l, x ≤ 255) (i : Nat) : 0 ≤ (intsOf l).getD i 0 ∧ (intsOf l).getD i 0 ≤ 255 := by
  rw [intsOf_at, List.getD_eq_getElem?_getD]
  cases e : l[i]? with
  | none => simp
  | some x =>
    have := h x (List.mem_of_getElem? e)
    simp only [Option.getD_some]
    omega
/-- The cells of an owned row of bytes. -/
theorem own_bytes {w : World} {B g n cap : Nat} {l : List Nat} (h : w.ownsRow B 5 1 (.slice (some ⟨g, 0, none⟩) n cap) n (cellsN l)) (hl : l.length = n) (i : Nat) (hi : i < n) : w.cell? ⟨g, 0 + i, none⟩ = some (.int .u8 ((intsOf l).getD i 0)) := by
  rcases h.2 with ⟨h2, _⟩ | ⟨g', cap', cur, e1, e2, e3, e4, e5, e6, e7⟩
  · cases h2
  · have hg : g' = g := by injection e1 with e1; injection e1 with e1; injection e1 with e1; exact e1.symm
    subst hg
    have hx : (cellsN l)[i]? = some (.int .u8 ((intsOf l).getD i 0)) := by
      rw [intsOf_at]
      unfold cellsN
      rw [List.getElem?_map, List.getD_eq_getElem?_getD, List.getElem?_eq_getElem (by omega)]
      rfl
    have := Lib.cells_of_row e3 n i _ (by rw [show n = n * 1 by omega, e7]; exact hx)
    rwa [Addr.add_mid] at this
/-- What lies below a block is kept by an append to a row that lies above it. -/
theorem Kept.grown {B n : Nat} {v : Value} {xs : List Value} {w w1 w2 : World} (h : Kept (fun k => k < B) w w1) (hg : w1.grownBy w2 v.ownBlock) (ho : w1.ownsRow B 5 1 v n xs) : Kept (fun k => k < B) w w2 := by
  refine ⟨hg.os.trans h.os, hg.tape.trans h.tape, hg.output.trans h.output, Nat.le_trans h.size hg.size, fun k hk hB => ?_⟩
  have hlt := h.size
  rw [hg.block k (by omega) fun e => ?_, h.block k hk hB]
  rcases ho.2 with ⟨rfl, _⟩ | ⟨g, cap, cur, rfl, e2, _⟩
  · simp [Value.ownBlock] at e
  · have : k = g := by simpa [Value.ownBlock] using e
    omega
theorem DoorAt.low {U : Nat → Nat} {B : Nat} {w w' : World} (h : DoorAt U w) (k : Kept (fun k => k < B) w w') (h4 : 4 ≤ B) : DoorAt U w' :=
  ⟨fun i hi => k.cellOf (h.u i hi) (by show 0 < B; omega), fun i hi => k.cellOf (h.bits i hi) (by show 3 < B; omega), fun i hi => k.cellOf (h.zig i hi) (by show 2 < B; omega), k.cellOf h.err (by show 1 < B; omega)⟩
/-- A call on the row of the pixels that were laid. -/
def PixC (fn : Nat) (args : Value → Array Value) (N B : Nat) (l R : List Nat) (w : World) : Prop := ∀ g cap W, W.ownsRow B 5 1 (.slice (some ⟨g, 0, none⟩) N cap) N (cellsN l) → Kept (fun k => k < B) w W → Calls Tryz.prog fn (args (.slice (some ⟨g, 0, none⟩) N cap)) W fun e w' => ∃ g c, e = .returned (.tuple #[.slice (some ⟨g, 0, none⟩) R.length c, .int .i64 0]) ∧ w'.ownsRow W.heap.size 5 1 (.slice (some ⟨g, 0, none⟩) R.length c) R.length (cellsN R) ∧ Kept (fun _ => True) W w'
/-- EncodeRGBA of the pixels that were laid. -/
theorem pixC_rgba (z : List Int) (hz : ∀ i, 0 ≤ z.getD i 0 ∧ z.getD i 0 ≤ 255) (x y : Int) (wd hg : Nat) (q : Int) (U : Nat → Nat) (w : World) (hs : SizeOk x y wd hg) (hD : DoorAt U w) (hUs : ∀ i, U i ≤ 255) (h4 : 4 ≤ w.heap.size) (R : List Nat) (hR : streamC (quantOf U (scaleOf (qualOf q))) wd hg (planesOf fun c k => pixN (intsOf (rgba4 z (wd * hg))) (4 * k + c)) = R) :
    PixC 12 (fun v => #[v, .int .i64 x, .int .i64 y, .int .i64 (wd : Int), .int .i64 (hg : Int), .int .i64 q]) (4 * (wd * hg)) w.heap.size (rgba4 z (wd * hg)) R w := fun g cap W hO hK => by
  have hl := rgba4_len z (wd * hg)
  have hsz := hK.size
  rw [← Nat.mul_assoc] at hO hl ⊢
  have hpos : 1 ≤ R.length := by rw [← hR]; have := streamC_pos (quantOf U (scaleOf (qualOf q))) wd hg (planesOf fun c k => pixN (intsOf (rgba4 z (wd * hg))) (4 * k + c)); omega
  refine (implRgba_any g 0 cap (intsOf (rgba4 z (wd * hg))) x y wd hg q U W (fun i hi => own_bytes hO hl i hi) (intsOf_in (rgba4_le hz _)) (ownsRow_cap hO) hs (hD.low hK h4) hUs (Nat.le_trans h4 hsz) R hR).mono ?_
  rintro e w' ⟨v, rfl, ho, hk⟩
  obtain ⟨g2, c2, rfl⟩ := ownsRow_some ho hpos
  exact ⟨g2, c2, rfl, ho, hk⟩
end Go.Proofs.YtghjlekdibcjdaaGreatDoor
