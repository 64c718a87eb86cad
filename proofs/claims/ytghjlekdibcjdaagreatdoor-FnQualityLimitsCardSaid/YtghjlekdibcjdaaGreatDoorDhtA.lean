/- What writeDHT writes, and what holds on its way. -/
import Derived.Test.YtghjlekdibcjdaaGreatDoorWrC
import Derived.Test.YtghjlekdibcjdaaGreatDoorLutC
namespace Go.Proofs.YtghjlekdibcjdaaGreatDoor
open Go.Deep Go.RowKit
set_option linter.unusedVariables false
/-- The Huffman tables as they are written. -/
def dhtMark (i : Nat) : Nat := [0, 16, 1, 17].getD i 0
def dhts : Nat → List Nat
  | 0 => []
  | i + 1 => dhts i ++ ([dhtMark i] ++ (cntL i ++ valL i))
theorem cntL_len : ∀ h, h < 4 → (cntL h).length = 16 := by decide +kernel
theorem dhts_len : ∀ i, i < 5 → (dhts i).length ≤ 420 := by decide +kernel
theorem specs_row (b : Nat → Nat) (i j : Nat) (hj : j < 17) : specsF b (17 * i + j) = specF i (b i) j := by
  unfold specsF
  rw [show (17 * i + j) / 17 = i by omega, show (17 * i + j) % 17 = j by omega]
def mlen : Nat → Nat
  | 0 => 2
  | i + 1 => mlen i + (17 + valLen i)
theorem mlen_in : ∀ i, i < 5 → mlen i ≤ 1000 := by decide +kernel
/-- What holds in writeDHT: the encoder, the values' rows. -/
structure DA (z : Ids) (eb : Nat) (g : Nat → Value) (T : List Nat) (b : Nat → Nat) (H : Nat) (w wr : World) : Prop where
  enc : EncG z eb g T wr
  specs : SpecRows b wr
  low : ∀ h, h < 4 → b h < H
  kept : Kept (z.hd eb) w wr
theorem DA.hd {z : Ids} {eb : Nat} {g g2 : Nat → Value} {T T2 : List Nat} {b : Nat → Nat} {H : Nat} {w wr w2 : World} (h : DA z eb g T b H w wr) (he : EncG z eb g2 T2 w2) (hb : ∀ h, h < 4 → z.hd eb (b h)) (k : Kept (z.hd eb) wr w2) : DA z eb g2 T2 b H w w2 :=
  ⟨he, fun i hi => k.row (h.specs i hi) (hb i hi), h.low, h.kept.trans k⟩
theorem DA.new {z : Ids} {eb : Nat} {g : Nat → Value} {T : List Nat} {b : Nat → Nat} {H n : Nat} {w wr w2 : World} {c : Array Value} {t : TypeId} (h : DA z eb g T b H w wr) (hn : wr.heap.size = n) (k : Kept (fun k => k ≠ n) (wr.alloc (.cells c t)) w2) : DA z eb g T b H w w2 := by
  have hk : Kept (fun k => k ≠ n) wr w2 := ((Kept.refl (fun k => k ≠ n) wr).alloc _).trans k
  have hlt : ∀ i, i < wr.heap.size → i ≠ n := fun i hi => by omega
  exact ⟨h.enc.kept hk fun i c t fz hi _ => hlt i (Array.getElem?_eq_some_iff.1 hi).1, fun i hi => hk.row (h.specs i hi) (hlt _ (h.specs i hi).lt), h.low, h.kept.trans' hk fun i hi _ => hlt i (by have := h.kept.size; omega)⟩
end Go.Proofs.YtghjlekdibcjdaaGreatDoor
