/- The contracts of impl.encoded of an image of three planes and of impl.EncodeYCbCr for a ratio of 4:4:4. -/
import Derived.Test.YtghjlekdibcjdaaGreatDoorEncYcc
import Derived.Test.YtghjlekdibcjdaaGreatDoorYcC
import Derived.Test.YtghjlekdibcjdaaGreatDoorM1
namespace Go.Proofs.YtghjlekdibcjdaaGreatDoor
open Go.Deep Go.RowKit
set_option linter.unusedVariables false
theorem lowYcc {bi bp B : Nat} (x0 y0 : Int) (wd hg : Nat) (V : Nat → Nat → Nat) (h1 : bi < B) (h2 : bp < B) : LowC (YccAt bi bp x0 y0 wd hg V) B := fun _ _ h k => h.kept k h1 h2
theorem blockYcc {bi bp B : Nat} {x0 y0 : Int} {wd hg : Nat} (V : Nat → Nat → Nat) (hs : SizeOk x0 y0 wd hg) (h2 : bp < B) : BlockC 59 (.pointer (some ⟨bi, 0, none⟩)) x0 y0 wd hg V (YccAt bi bp x0 y0 wd hg V) B :=
  fun b cb cr o bx by' f fc fr w hI hx hy hb hc hr r0 r1 r2 ho hne => yccBlock_any bi bp b cb cr o x0 y0 wd hg V bx by' f fc fr w hI hs hx hy r0 r1 r2 ho hne ⟨by omega, by omega, by omega⟩
theorem boundsYccC {bi bp : Nat} {x0 y0 : Int} {wd hg : Nat} (V : Nat → Nat → Nat) : BoundsC 76 (.pointer (some ⟨bi, 0, none⟩)) x0 y0 wd hg (YccAt bi bp x0 y0 wd hg V) := fun w h => boundsYcc bi _ _ _ _ _ _ x0 y0 (x0 + wd) (y0 + hg) w h.img
set_option maxHeartbeats 2000000 in
set_option maxRecDepth 100000 in
theorem encodedYcc_good (bi : Nat) (x0 y0 : Int) (wd hg : Nat) (P : Nat → Nat → Nat) (q : Int) (U : Nat → Nat) (T : List Nat) (hT : streamC (quantOf U (scaleOf (qualOf q))) wd hg P = T) (I : World → Prop) (w : World) (h0 : I w) (hL : LowC I w.heap.size) (hC : BlockC 59 (.pointer (some ⟨bi, 0, none⟩)) x0 y0 wd hg P I w.heap.size) (hN : BoundsC 76 (.pointer (some ⟨bi, 0, none⟩)) x0 y0 wd hg I) (hP : ∀ c k, P c k ≤ 255) (hs : SizeOk x0 y0 wd hg) (hD : DoorAt U w) (hUs : ∀ i, U i ≤ 255) (h8 : 4 ≤ w.heap.size) :
    Calls Tryz.prog 19 #[.iface 54 (.pointer (some ⟨bi, 0, none⟩)), .int .i64 q, .int .i64 (-1)] w fun e w' => ∃ v, e = .returned (.tuple #[v, .int .i64 0]) ∧ w'.ownsRow w.heap.size 5 1 v T.length (cellsN T) ∧ Kept (fun _ => True) w w' := by
  have K1 := ((Kept.refl (fun _ => True) w).alloc (.cells #[.slice none 0 0, .int .i64 (-1), .bool false] 67)).alloc (.cells #[.int .i64 q] 73)
  have hwb : ((w.alloc (.cells #[.slice none 0 0, .int .i64 (-1), .bool false] 67)).alloc (.cells #[.int .i64 q] 73)).heap[w.heap.size]? = some (.cells #[.slice none 0 0, .int .i64 (-1), .bool false] 67 (0, 0)) := by
    rw [blk_alloc_lt _ _ _ (by simp)]; exact heap_alloc_new _ _
  have hob : ((w.alloc (.cells #[.slice none 0 0, .int .i64 (-1), .bool false] 67)).alloc (.cells #[.int .i64 q] 73)).cell? ⟨w.heap.size + 1, 0, none⟩ = some (.int .i64 q) := by
    have h := heap_alloc_new (w.alloc (.cells #[.slice none 0 0, .int .i64 (-1), .bool false] 67)) (.cells #[.int .i64 q] 73)
    simp only [World.size_alloc] at h
    unfold World.cell?
    simp only [h]
    rfl
  have CE : Hid (Calls Tryz.prog 29 #[.iface 65 (.pointer (some ⟨w.heap.size, 0, none⟩)), .iface 54 (.pointer (some ⟨bi, 0, none⟩)), .pointer (some ⟨w.heap.size + 1, 0, none⟩)] ((w.alloc (.cells #[.slice none 0 0, .int .i64 (-1), .bool false] 67)).alloc (.cells #[.int .i64 q] 73)) fun e w' => ∃ v, e = .returned (.nilIface) ∧ w'.cell? ⟨w.heap.size, 0, none⟩ = some v ∧ w'.ownsRow w.heap.size 5 1 v T.length (cellsN T) ∧ Kept (fun _ => True) w w') := Lib.hid (by
    refine (encodeYcc_any w.heap.size (w.heap.size + 1) bi x0 y0 wd hg P q (-1) U I _ (hL _ _ h0 (K1.mono fun _ _ _ => trivial)) hL hC hN hP hs hwb hob (fun i hi => K1.cellOf (hD.u i hi) trivial) hUs (fun i hi => K1.cellOf (hD.bits i hi) trivial) (fun i hi => K1.cellOf (hD.zig i hi) trivial) h8 (by omega) (by decide)).mono ?_
    rintro e w' ⟨bad, rfl, h1, h2, hF⟩
    obtain ⟨hbad, fb, hW⟩ := h1 (.inl (by decide))
    subst hbad
    obtain ⟨_, v, hk, ho, _⟩ := hW
    rw [hT] at ho
    refine ⟨v, rfl, (own_cells hk).1, ho, ?_⟩
    exact (K1.mono fun _ _ _ => trivial).trans' (hF.kept fun k hk => by omega) fun i hi _ => hi)
  have H1 := Lib.hid (hD.err)
  clear h0 hL hC hN hP hs hD K1 hwb hob hT
  go_enter Tryz.func19, Tryz.ntmps19
  go_wp2_with (go_at_call 29; (with_reducible refine CE.out.mono ?_); rintro e w2 ⟨v, rfl, cB, ho, k2⟩; have HK := Lib.hid (And.intro ho k2); clear ho k2)
  clear CE
  go_region_held3 (fun w' => w'.cell? ⟨w.heap.size, 0, none⟩ = some v)
    (first | go_keep | (refine Kept.cellOf k2 ?_ trivial; assumption))
    (first
      | (go_at_call 30; (with_reducible refine (code_nil _).mono ?_); rintro e w3 ⟨rfl, k2⟩; have HKm := Lib.hid k2))
  all_goals
    obtain ⟨ho, k2⟩ := HK.out
    have HKm' := HKm.out
    have hfin := Lib.hid (And.intro (ownsRow_kept ho HKm') (k2.drew.trans HKm'))
    clear HK HKm ho k2 HKm'
    go_wp2
    go_ret2
    exact ⟨v, rfl, hfin.out⟩
/-- Three planes out of three lists. -/
def three (z0 z1 z2 : List Int) (c k : Nat) : Nat := if c = 0 then pixN z0 k else if c = 1 then pixN z1 k else pixN z2 k
theorem ten_cells {w : World} {k : Nat} {v0 v1 v2 v3 v4 v5 v6 v7 v8 v9 : Value} {t : TypeId} (hk : w.heap[k]? = some (.cells #[v0, v1, v2, v3, v4, v5, v6, v7, v8, v9] t (0, 0))) :
    w.cell? ⟨k, 0, none⟩ = some v0 ∧ w.cell? ⟨k, 1, none⟩ = some v1 ∧ w.cell? ⟨k, 2, none⟩ = some v2 ∧ w.cell? ⟨k, 3, none⟩ = some v3 ∧ w.cell? ⟨k, 4, none⟩ = some v4 :=
  ⟨by simp [World.cell?, hk], by simp [World.cell?, hk], by simp [World.cell?, hk], by simp [World.cell?, hk], by simp [World.cell?, hk]⟩
/-- A byte list that lies in memory. -/
structure SrcAt (g cap n : Nat) (z : List Int) (w : World) : Prop where
  cell : ∀ i, i < n → w.cell? ⟨g, 0 + i, none⟩ = some (.int .u8 (z.getD i 0))
  range : ∀ i, 0 ≤ z.getD i 0 ∧ z.getD i 0 ≤ 255
  cap : n ≤ cap
set_option maxHeartbeats 8000000 in
set_option maxRecDepth 100000 in
theorem encYcc_any (R : List Nat) (g0 g1 g2 k0 k1 k2 : Nat) (z0 z1 z2 : List Int) (wd hg : Nat) (q : Int) (U : Nat → Nat) (w : World) (hz0 : SrcAt g0 k0 (wd * hg) z0 w) (hz1 : SrcAt g1 k1 (wd * hg) z1 w) (hz2 : SrcAt g2 k2 (wd * hg) z2 w) (hs : SizeOk 0 0 wd hg) (hD : DoorAt U w) (h8 : 4 ≤ w.heap.size)
    (hE : ∀ (bi bp : Nat) (W : World), YccAt bi bp 0 0 wd hg (three z0 z1 z2) W → DoorAt U W → 4 ≤ W.heap.size → bi < W.heap.size → bp < W.heap.size → Calls Tryz.prog 19 #[.iface 54 (.pointer (some ⟨bi, 0, none⟩)), .int .i64 q, .int .i64 (-1)] W fun e w' => ∃ v, e = .returned (.tuple #[v, .int .i64 0]) ∧ w'.ownsRow W.heap.size 5 1 v R.length (cellsN R) ∧ Kept (fun _ => True) W w') :
    Calls Tryz.prog 15 #[.slice (some ⟨g0, 0, none⟩) (wd * hg) k0, .slice (some ⟨g1, 0, none⟩) (wd * hg) k1, .slice (some ⟨g2, 0, none⟩) (wd * hg) k2, .int .i64 0, .int .i64 (wd : Int), .int .i64 (hg : Int), .int .i64 q] w fun e w' => ∃ v, e = .returned (.tuple #[v, .int .i64 0]) ∧ w'.ownsRow w.heap.size 5 1 v R.length (cellsN R) ∧ Kept (fun _ => True) w w' := by
  obtain ⟨s1, s2, s3, s4, s5, -, -⟩ := hs
  have hpos : 1 ≤ wd * hg := Nat.mul_pos s1 s2
  have CR := Lib.hid fun W => rect_any 0 0 (wd : Int) (hg : Int) W (by omega) (by omega)
  have CN := Lib.hid fun W => newYcc_any 0 0 (wd : Int) (hg : Int) wd hg W (by omega) (by omega) (by omega) (by omega) (by omega) (by omega) s5 hpos
  have CA := Lib.hid ratioAs0
  have CO := Lib.hid ratioOf0
  have CC := Lib.hid (chroma0 (wd : Int) (hg : Int))
  have l0 : g0 < w.heap.size := block_lt_of_cell (hz0.cell 0 hpos)
  have l1 : g1 < w.heap.size := block_lt_of_cell (hz1.cell 0 hpos)
  have l2 : g2 < w.heap.size := block_lt_of_cell (hz2.cell 0 hpos)
  have HH := Lib.hid (And.intro s1 (And.intro s2 (And.intro s3 (And.intro s4 (And.intro s5 hpos)))))
  have HD := Lib.hid (And.intro hD (And.intro h8 (And.intro hz0 (And.intro hz1 (And.intro hz2 (And.intro l0 (And.intro l1 l2)))))))
  have HE := Lib.hid hE
  clear s1 s2 s3 s4 s5 hpos hD h8 hz0 hz1 hz2 l0 l1 l2 hE
  unfold rectV at CR CN
  go_enter Tryz.func15, Tryz.ntmps15
  go_wp2_with (first
    | (go_at_call 23; (with_reducible refine (CA.out _).mono ?_); rintro e w1 ⟨rfl, hww⟩; subst w1)
    | (go_at_call 17; (with_reducible refine (CR.out _).mono ?_); rintro e w2 ⟨rfl, k2⟩; have HK2 := Lib.hid k2; clear k2)
    | (go_at_call 24; (with_reducible refine (CN.out _).mono ?_); rintro e w3 ⟨bp, bi, rfl, k3⟩; have HK3 := Lib.hid k3; clear k3)
    | (go_at_call 26; (with_reducible refine (CO.out _).mono ?_); rintro e w4 ⟨rfl, hww⟩; subst w4)
    | (go_at_call 25; (with_reducible refine (CC.out _).mono ?_); rintro e w4 ⟨rfl, hww⟩; subst w4))
  have hne : bi ≠ bp := fun e => by
    obtain ⟨c, hc, -, -⟩ := HK3.out.pix
    rw [← e, HK3.out.img] at hc
    cases hc
  have KW := HK2.out.trans HK3.out.kept
  have himg := HK3.out.img
  have hbi : bi < w3.heap.size := (Array.getElem?_eq_some_iff.1 himg).1
  have hbpl : bp < w3.heap.size := HK3.out.pix.lt
  have hlp := HK3.out.lp
  have hw2 := HK2.out.size
  have hM1 : 0 + wd * hg ≤ 3 * (wd * hg) := by omega
  have hM2 : wd * hg + wd * hg ≤ 3 * (wd * hg) := by omega
  have hM3 : 2 * (wd * hg) + wd * hg ≤ 3 * (wd * hg) := by omega
  have hn1 : wd * hg < 2147483648 := by have := HH.out.2.2.2.2.1; omega
  have hn2 : wd < 2147483648 := by have := HH.out.2.2.1; omega
  have ng0 : g0 ≠ bp := by have := HD.out.2.2.2.2.2.1; omega
  have ng1 : g1 ≠ bp := by have := HD.out.2.2.2.2.2.2.1; omega
  have ng2 : g2 ≠ bp := by have := HD.out.2.2.2.2.2.2.2; omega
  have CF0 := Lib.hid (fill_at bp 0 (3 * (wd * hg)) wd hg g0 0 k0 z0 _ w3.drew (fun i hi => KW.cellOf (HD.out.2.2.1.cell i hi) trivial) ng0 HD.out.2.2.1.cap (show w3.drew.rowIs bp 5 (3 * (wd * hg)) _ from HK3.out.pix) hM1 HH.out.1 hn1 hn2)
  have HB := Lib.hid (And.intro hne (And.intro hbi (And.intro hbpl (And.intro KW (And.intro himg (And.intro ng1 ng2))))))
  have HM := Lib.hid (And.intro hM2 (And.intro hM3 (And.intro hn1 hn2)))
  have HBP : Hid (w.heap.size ≤ bp) := Lib.hid (by omega)
  obtain ⟨i0, i1, i2, i3, i4⟩ := ten_cells himg
  clear hne KW himg hbi hbpl hlp hw2 hM1 hM2 hM3 hn1 hn2 ng0 ng1 ng2 CR CN CA CO CC HK2 HK3
  go_still_tail 11, (by kernel_rfl)
  change wpList _ _ _ _ _ w3.drew
  clear i0 i1 i2 i3 i4
  go_wp2_with (go_at_call 18; (with_reducible refine CF0.out.mono ?_); rintro e w4 ⟨rfl, k4, r4⟩; have HK4 := Lib.hid (And.intro (HB.out.2.2.2.1.drew.trans' k4 fun k hk _ => by have := HBP.out; omega) (And.intro r4 ((k4.block bi HB.out.2.1 HB.out.1).trans HB.out.2.2.2.2.1))); clear k4 r4)
  have CF1 := Lib.hid (fill_at bp (wd * hg) (3 * (wd * hg)) wd hg g1 0 k1 z1 _ w4.drew (fun i hi => HK4.out.1.cellOf (HD.out.2.2.2.1.cell i hi) trivial) HB.out.2.2.2.2.2.1 HD.out.2.2.2.1.cap (show w4.drew.rowIs bp 5 (3 * (wd * hg)) _ from HK4.out.2.1) HM.out.1 HH.out.1 HM.out.2.2.1 HM.out.2.2.2)
  obtain ⟨i0, i1, i2, i3, i4⟩ := ten_cells HK4.out.2.2
  go_still_tail 11, (by kernel_rfl)
  change wpList _ _ _ _ _ w4.drew
  clear i0 i1 i2 i3 i4
  go_wp2_with (go_at_call 18; (with_reducible refine CF1.out.mono ?_); rintro e w5 ⟨rfl, k5, r5⟩; have HK5 := Lib.hid (And.intro (HK4.out.1.drew.trans' k5 fun k hk _ => by have := HBP.out; omega) (And.intro r5 ((k5.block bi (Array.getElem?_eq_some_iff.1 HK4.out.2.2).1 HB.out.1).trans HK4.out.2.2))); clear k5 r5)
  have CF2 := Lib.hid (fill_at bp (2 * (wd * hg)) (3 * (wd * hg)) wd hg g2 0 k2 z2 _ w5.drew (fun i hi => HK5.out.1.cellOf (HD.out.2.2.2.2.1.cell i hi) trivial) HB.out.2.2.2.2.2.2 HD.out.2.2.2.2.1.cap (show w5.drew.rowIs bp 5 (3 * (wd * hg)) _ from HK5.out.2.1) HM.out.2.1 HH.out.1 HM.out.2.2.1 HM.out.2.2.2)
  obtain ⟨i0, i1, i2, i3, i4⟩ := ten_cells HK5.out.2.2
  go_still_tail 11, (by kernel_rfl)
  change wpList _ _ _ _ _ w5.drew
  clear i0 i1 i2 i3 i4
  go_wp2_with (go_at_call 18; (with_reducible refine CF2.out.mono ?_); rintro e w6 ⟨rfl, k6, r6⟩; have HK6 := Lib.hid (And.intro (HK5.out.1.drew.trans' k6 fun k hk _ => by have := HBP.out; omega) (And.intro r6 ((k6.block bi (Array.getElem?_eq_some_iff.1 HK5.out.2.2).1 HB.out.1).trans HK5.out.2.2))); clear k6 r6)
  obtain ⟨hkw6, r6, himg6⟩ := HK6.out
  have hG6 : YccAt bi bp 0 0 wd hg (three z0 z1 z2) w6 := by
    obtain ⟨_, _, y0, y1, y2, _⟩ := HD.out
    refine ⟨by rw [himg6]; simp only [Int.zero_add], fun k hk => ?_, fun k hk => ?_, fun k hk => ?_, fun c k => ?_⟩
    · rw [r6.cell (by omega)]
      unfold fillD three pixN
      rw [if_neg (by omega), if_neg (by omega), if_pos (by omega), if_pos rfl, Nat.sub_zero]
      have := y0.range k
      congr 2
      omega
    · rw [r6.cell (by omega)]
      unfold fillD three pixN
      rw [if_neg (by omega), if_pos (by omega), if_neg (by omega), if_pos rfl, show wd * hg + k - wd * hg = k by omega]
      have := y1.range k
      congr 2
      omega
    · rw [r6.cell (by omega)]
      unfold fillD three pixN
      rw [if_pos (by omega), if_neg (by omega), if_neg (by omega), show 2 * (wd * hg) + k - 2 * (wd * hg) = k by omega]
      have := y2.range k
      congr 2
      omega
    · have h0 := y0.range k
      have h1 := y1.range k
      have h2 := y2.range k
      unfold three pixN
      split
      · omega
      · split <;> omega
  refine (HE.out bi bp w6 hG6 (HD.out.1.kept hkw6) (by have := HD.out.2.1; have := hkw6.size; omega) (Array.getElem?_eq_some_iff.1 himg6).1 r6.lt).mono ?_
  rintro e w7 ⟨v, rfl, ho, k7⟩
  have HF := Lib.hid (And.intro ho (hkw6.trans k7))
  have hsz := hkw6.size
  clear r6 himg6 hkw6 hG6 ho k7
  go_wp2_with fail
  go_ret2
  exact ⟨v, rfl, ownsRow_lower HF.out.1 hsz, HF.out.2⟩
/-- impl.EncodeYCbCr of planes that lie in memory: their stream. -/
theorem implYcc_any (g0 g1 g2 k0 k1 k2 : Nat) (z0 z1 z2 : List Int) (wd hg : Nat) (q : Int) (U : Nat → Nat) (w : World) (hz0 : SrcAt g0 k0 (wd * hg) z0 w) (hz1 : SrcAt g1 k1 (wd * hg) z1 w) (hz2 : SrcAt g2 k2 (wd * hg) z2 w) (hs : SizeOk 0 0 wd hg) (hD : DoorAt U w) (hUs : ∀ i, U i ≤ 255) (h8 : 4 ≤ w.heap.size) (R : List Nat) (hR : streamC (quantOf U (scaleOf (qualOf q))) wd hg (three z0 z1 z2) = R) :
    Calls Tryz.prog 15 #[.slice (some ⟨g0, 0, none⟩) (wd * hg) k0, .slice (some ⟨g1, 0, none⟩) (wd * hg) k1, .slice (some ⟨g2, 0, none⟩) (wd * hg) k2, .int .i64 0, .int .i64 (wd : Int), .int .i64 (hg : Int), .int .i64 q] w fun e w' => ∃ v, e = .returned (.tuple #[v, .int .i64 0]) ∧ w'.ownsRow w.heap.size 5 1 v R.length (cellsN R) ∧ Kept (fun _ => True) w w' :=
  encYcc_any R g0 g1 g2 k0 k1 k2 z0 z1 z2 wd hg q U w hz0 hz1 hz2 hs hD h8 fun bi bp W hG hDW h8W hbi hbp =>
    encodedYcc_good bi 0 0 wd hg _ q U R hR _ W hG (lowYcc 0 0 wd hg _ hbi hbp) (blockYcc _ hs hbp) (boundsYccC _) hG.small hs hDW hUs h8W
end Go.Proofs.YtghjlekdibcjdaaGreatDoor
