/- The law TwoRoads. -/
import Derived.Test.YtghjlekdibcjdaaGreatDoorTwoB
import Derived.Test.YtghjlekdibcjdaaGreatDoorImplYcc
namespace Go.Proofs.YtghjlekdibcjdaaGreatDoor
open Go.Deep Go.RowKit
set_option linter.unusedVariables false
/-- EncodeYCbCr of the planes that were laid. -/
theorem yccC_impl (z : List Int) (hz : ∀ i, 0 ≤ z.getD i 0 ∧ z.getD i 0 ≤ 255) (wd hg : Nat) (q : Int) (U : Nat → Nat) (w : World) (hs : SizeOk 0 0 wd hg) (h1 : 1 ≤ wd) (h2 : 1 ≤ hg) (hD : DoorAt U w) (hUs : ∀ i, U i ≤ 255) (h4 : 4 ≤ w.heap.size) (R : List Nat) (hR : streamC (quantOf U (scaleOf (qualOf q))) wd hg (planesOf fun c k => pixN (intsOf (rgba4 z (wd * hg))) (4 * k + c)) = R) :
    YccC (fun u v x => #[u, v, x, .int .i64 0, .int .i64 (wd : Int), .int .i64 (hg : Int), .int .i64 q]) (wd * hg) w.heap.size (chan z 0 (wd * hg)) (chan z 1 (wd * hg)) (chan z 2 (wd * hg)) R w := fun g0 g1 g2 k0 k1 k2 W o0 o1 o2 hK => by
  have hsz := hK.size
  have hpos : 1 ≤ R.length := by rw [← hR]; have := streamC_pos (quantOf U (scaleOf (qualOf q))) wd hg (planesOf fun c k => pixN (intsOf (rgba4 z (wd * hg))) (4 * k + c)); omega
  have hT : streamC (quantOf U (scaleOf (qualOf q))) wd hg (three (intsOf (chan z 0 (wd * hg))) (intsOf (chan z 1 (wd * hg))) (intsOf (chan z 2 (wd * hg)))) = R := by
    rw [← hR]
    refine streamC_congr _ h1 h2 fun c hc k hk => ?_
    rw [planes_eq z (wd * hg) c k hk]
    obtain rfl | rfl | rfl : c = 0 ∨ c = 1 ∨ c = 2 := by omega
    · show pixN _ k = _
      rw [pixN_ints, chan_at z 0 _ k hk]
    · show pixN _ k = _
      rw [pixN_ints, chan_at z 1 _ k hk]
    · show pixN _ k = _
      rw [pixN_ints, chan_at z 2 _ k hk]
  have src : ∀ {g k : Nat} {c : Nat}, W.ownsRow w.heap.size 5 1 (.slice (some ⟨g, 0, none⟩) (wd * hg) k) (wd * hg) (cellsN (chan z c (wd * hg))) → SrcAt g k (wd * hg) (intsOf (chan z c (wd * hg))) W := fun {g k c} o => ⟨fun i hi => own_bytes o (chan_len z c _) i hi, intsOf_in (chan_le hz c _), ownsRow_cap o⟩
  refine (implYcc_any g0 g1 g2 k0 k1 k2 _ _ _ wd hg q U W (src o0) (src o1) (src o2) hs (hD.low hK h4) hUs (Nat.le_trans h4 hsz) R hT).mono ?_
  rintro e w' ⟨v, rfl, ho, hk⟩
  obtain ⟨g3, c3, rfl⟩ := ownsRow_some ho hpos
  exact ⟨g3, c3, rfl, ho, hk⟩
/-- The law TwoRoads. -/
theorem tw_law (a : Option Addr) (len cap : Nat) (z : List Int) (wide high q : Int) (U : Nat → Nat) (w : World) (h : IsRow .u8 w a len cap z) (hD : DoorAt U w) (hU : ∀ i, U i ≤ 255) (h4 : 4 ≤ w.heap.size) :
    Calls Tryz.prog 8 #[.slice a len cap, .int .i64 wide, .int .i64 high, .int .i64 q] w fun e w' => e = .returned (.bool true) ∧ Kept (fun k => k < w.heap.size) w w' := by
  by_cases hl : len ≤ 2147483647
  · by_cases hs : 1 ≤ wide ∧ 1 ≤ high ∧ wide ≤ 65535 ∧ high ≤ 65535 ∧ wide * high ≤ 65536 ∧ 1 ≤ q ∧ q ≤ 100 ∧ (len : Int) = wide * high * 3
    · obtain ⟨wd, rfl⟩ : ∃ wd : Nat, wide = (wd : Int) := ⟨wide.toNat, by omega⟩
      obtain ⟨hg, rfl⟩ : ∃ hg : Nat, high = (hg : Int) := ⟨high.toNat, by omega⟩
      obtain ⟨s1, s2, s3, s4, s5, s7, s8, s6⟩ := hs
      rw [← Int.natCast_mul] at s5 s6
      obtain rfl : len = 3 * (wd * hg) := by omega
      have hp : 1 ≤ wd * hg := Nat.mul_pos (by omega) (by omega)
      obtain ⟨b, off, rfl, hcap, -, hcell, -⟩ := h.cells (by omega)
      have hsz : SizeOk 0 0 wd hg := ⟨by omega, by omega, by omega, by omega, by omega, by omega, by omega⟩
      have hz : ∀ i, 0 ≤ z.getD i 0 ∧ z.getD i 0 ≤ 255 := fun i => h.u8 i
      have hC := streamC_pos (quantOf U (scaleOf (qualOf q))) wd hg (planesOf fun c k => pixN (intsOf (rgba4 z (wd * hg))) (4 * k + c))
      have hC2 := streamC_len (quantOf U (scaleOf (qualOf q))) (planesOf fun c k => pixN (intsOf (rgba4 z (wd * hg))) (4 * k + c)) (show 1 ≤ wd by omega) (show 1 ≤ hg by omega) (by omega)
      exact tw_ok b off cap wd hg z q _ w (by omega) (by omega) (by omega) (by omega) (by omega) s7 s8 (fun i hi => hcell i (by omega)) hz (by omega) (by omega) (pixC_rgba z hz 0 0 wd hg q U w hsz hD hU h4 _ rfl) (yccC_impl z hz wd hg q U w hsz (by omega) (by omega) hD hU h4 _ rfl)
    · exact tw_not a len cap wide high q _ w hl rfl hs
  · exact tw_huge a len cap wide high q w h.len_le (by omega)
end Go.Proofs.YtghjlekdibcjdaaGreatDoor
