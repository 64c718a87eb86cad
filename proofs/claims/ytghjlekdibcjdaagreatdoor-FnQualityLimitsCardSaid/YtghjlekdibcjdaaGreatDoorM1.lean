/- Texts of mine, united so that a claim holds fewer files: EncC, EncD, LawA, LawB, LawC, TabB. -/
import Derived.Test.YtghjlekdibcjdaaGreatDoorEncB
import Derived.Test.YtghjlekdibcjdaaGreatDoorBE
import Derived.Test.YtghjlekdibcjdaaGreatDoorStream
import Derived.Lib.BufferKept
import Derived.BigQuiet
import Derived.Deep.QuietTactic
import Derived.BigRegion
import Derived.Test.YtghjlekdibcjdaaGreatDoorTab
/- The contracts of impl.encoded of a gray image (printed by encc.py). -/
namespace Go.Proofs.YtghjlekdibcjdaaGreatDoor
open Go.Deep Go.RowKit
set_option linter.unusedVariables false
/-- The listed variables. -/
structure DoorAt (U : Nat → Nat) (w : World) : Prop where
  u : UAt U w
  bits : BitsAt w
  zig : ZigAt w
  err : w.cell? ⟨1, 0, none⟩ = some (.iface 180 (.agg #[.pointer (some ⟨7, 69, none⟩)]))
theorem DoorAt.kept {U : Nat → Nat} {w w' : World} (h : DoorAt U w) (k : Kept (fun _ => True) w w') : DoorAt U w' :=
  ⟨fun i hi => k.cellOf (h.u i hi) trivial, fun i hi => k.cellOf (h.bits i hi) trivial, fun i hi => k.cellOf (h.zig i hi) trivial, k.cellOf h.err trivial⟩
theorem ownsRow_kept {B n : Nat} {v : Value} {xs : List Value} {w w' : World} (h : w.ownsRow B 5 1 v n xs) (k : Kept (fun _ => True) w.drew w') : w'.ownsRow B 5 1 v n xs := by
  refine ownsRow_block h fun g hg => ?_
  rcases h.2 with ⟨rfl, _⟩ | ⟨g', cap, cur, rfl, _, hg', _⟩
  · simp [Value.ownBlock] at hg
  · have : g' = g := by simpa [Value.ownBlock] using hg
    subst this
    exact k.block _ (Array.getElem?_eq_some_iff.1 hg').1 trivial
/-- A lower base serves too. -/
theorem ownsRow_lower {B B' n : Nat} {v : Value} {xs : List Value} {w : World} (h : w.ownsRow B 5 1 v n xs) (hB : B' ≤ B) : w.ownsRow B' 5 1 v n xs := by
  refine ⟨h.1, ?_⟩
  rcases h.2 with h2 | ⟨g, cap, cur, e1, e2, e3⟩
  · exact .inl h2
  · exact .inr ⟨g, cap, cur, e1, Nat.le_trans hB e2, e3⟩
set_option maxHeartbeats 2000000 in
set_option maxRecDepth 100000 in
theorem encoded_good (bi bp : Nat) (x0 y0 : Int) (wd hg : Nat) (P : Nat → Nat) (q lim : Int) (U : Nat → Nat) (T : List Nat) (hT : streamG (quantOf U (scaleOf (qualOf q))) wd hg P = T) (w : World) (hG : GrayAt bi bp x0 y0 wd hg P w) (hs : SizeOk x0 y0 wd hg) (hD : DoorAt U w) (hUs : ∀ i, U i ≤ 255) (h8 : 4 ≤ w.heap.size) (hlim : lim ≤ 9223372036854775807) (hgood : lim < 0 ∨ (T.length : Int) ≤ lim) :
    Calls Tryz.prog 19 #[.iface 35 (.pointer (some ⟨bi, 0, none⟩)), .int .i64 q, .int .i64 lim] w fun e w' => ∃ v, e = .returned (.tuple #[v, .int .i64 0]) ∧ w'.ownsRow w.heap.size 5 1 v T.length (cellsN T) ∧ Kept (fun _ => True) w w' := by
  have hbi : bi < w.heap.size := (Array.getElem?_eq_some_iff.1 hG.img).1
  have hbp : bp < w.heap.size := by
    have h1 := hs.w1
    have h2 := hs.h1
    exact block_lt_of_cell (hG.pix 0 (Nat.mul_pos h1 h2))
  have K1 := ((Kept.refl (fun _ => True) w).alloc (.cells #[.slice none 0 0, .int .i64 lim, .bool false] 67)).alloc (.cells #[.int .i64 q] 73)
  have hwb : ((w.alloc (.cells #[.slice none 0 0, .int .i64 lim, .bool false] 67)).alloc (.cells #[.int .i64 q] 73)).heap[w.heap.size]? = some (.cells #[.slice none 0 0, .int .i64 lim, .bool false] 67 (0, 0)) := by
    rw [blk_alloc_lt _ _ _ (by simp)]; exact heap_alloc_new _ _
  have hob : ((w.alloc (.cells #[.slice none 0 0, .int .i64 lim, .bool false] 67)).alloc (.cells #[.int .i64 q] 73)).cell? ⟨w.heap.size + 1, 0, none⟩ = some (.int .i64 q) := by
    have h := heap_alloc_new (w.alloc (.cells #[.slice none 0 0, .int .i64 lim, .bool false] 67)) (.cells #[.int .i64 q] 73)
    simp only [World.size_alloc] at h
    unfold World.cell?
    simp only [h]
    rfl
  have CE : Hid (Calls Tryz.prog 29 #[.iface 65 (.pointer (some ⟨w.heap.size, 0, none⟩)), .iface 35 (.pointer (some ⟨bi, 0, none⟩)), .pointer (some ⟨w.heap.size + 1, 0, none⟩)] ((w.alloc (.cells #[.slice none 0 0, .int .i64 lim, .bool false] 67)).alloc (.cells #[.int .i64 q] 73)) fun e w' => ∃ v, e = .returned (.nilIface) ∧ w'.cell? ⟨w.heap.size, 0, none⟩ = some v ∧ w'.ownsRow w.heap.size 5 1 v T.length (cellsN T) ∧ Kept (fun _ => True) w w') := Lib.hid (by
    refine (encodeGray_any w.heap.size (w.heap.size + 1) bi bp x0 y0 wd hg P q lim U _ (hG.kept K1 trivial trivial) hs hwb hob (fun i hi => K1.cellOf (hD.u i hi) trivial) hUs (fun i hi => K1.cellOf (hD.bits i hi) trivial) (fun i hi => K1.cellOf (hD.zig i hi) trivial) h8 hbi hbp (by omega) hlim).mono ?_
    rintro e w' ⟨bad, rfl, h1, h2, hF⟩
    have h3 := And.intro h1 (And.intro h2 hF)
    obtain ⟨hbad, fb, hW⟩ := h3.1 (by rw [hT]; exact hgood)
    subst hbad
    obtain ⟨_, v, hk, ho, _⟩ := hW
    rw [hT] at ho
    refine ⟨v, rfl, (own_cells hk).1, ho, ?_⟩
    exact (K1.mono fun _ _ _ => trivial).trans' (hF.kept fun k hk => by omega) fun i hi _ => hi)
  have H1 := Lib.hid (hD.err)
  clear hG hs hD K1 hwb hob hT
  go_enter Tryz.func19, Tryz.ntmps19
  go_wp2_with (go_at_call 29; (with_reducible refine CE.out.mono ?_); rintro e w2 ⟨v, rfl, cB, ho, k2⟩; have HK := Lib.hid (And.intro ho k2); clear ho k2)
  clear CE
  go_region_held3 (fun w' => w'.cell? ⟨w.heap.size, 0, none⟩ = some v)
    (first | go_keep | (refine Kept.cellOf k2 ?_ trivial; assumption))
    (first
      | (go_at_call 30; (with_reducible refine (code_nil _).mono ?_); rintro e w3 ⟨rfl, k2⟩; have HKm := Lib.hid k2))
  all_goals
    obtain ⟨ho, k2⟩ := HK.out
    have HKm' := HKm.out
    have hfin := Lib.hid (And.intro (ownsRow_kept ho HKm') (k2.drew.trans HKm'))
    clear HK HKm ho k2 HKm'
    go_wp2
    go_ret2
    exact ⟨v, rfl, hfin.out⟩
set_option maxHeartbeats 2000000 in
set_option maxRecDepth 100000 in
theorem encoded_bad (bi bp : Nat) (x0 y0 : Int) (wd hg : Nat) (P : Nat → Nat) (q lim : Int) (U : Nat → Nat) (T : List Nat) (hT : streamG (quantOf U (scaleOf (qualOf q))) wd hg P = T) (w : World) (hG : GrayAt bi bp x0 y0 wd hg P w) (hs : SizeOk x0 y0 wd hg) (hD : DoorAt U w) (hUs : ∀ i, U i ≤ 255) (h8 : 4 ≤ w.heap.size) (hlim : lim ≤ 9223372036854775807) (hb0 : 0 ≤ lim) (hb1 : lim < (T.length : Int)) :
    Calls Tryz.prog 19 #[.iface 35 (.pointer (some ⟨bi, 0, none⟩)), .int .i64 q, .int .i64 lim] w fun e w' => ∃ v, e = .returned (.tuple #[v, .int .i64 3]) ∧ w'.ownsRow w.heap.size 5 1 v (T.take lim.toNat).length (cellsN (T.take lim.toNat)) ∧ Kept (fun _ => True) w w' := by
  have hbi : bi < w.heap.size := (Array.getElem?_eq_some_iff.1 hG.img).1
  have hbp : bp < w.heap.size := by
    have h1 := hs.w1
    have h2 := hs.h1
    exact block_lt_of_cell (hG.pix 0 (Nat.mul_pos h1 h2))
  have K1 := ((Kept.refl (fun _ => True) w).alloc (.cells #[.slice none 0 0, .int .i64 lim, .bool false] 67)).alloc (.cells #[.int .i64 q] 73)
  have hwb : ((w.alloc (.cells #[.slice none 0 0, .int .i64 lim, .bool false] 67)).alloc (.cells #[.int .i64 q] 73)).heap[w.heap.size]? = some (.cells #[.slice none 0 0, .int .i64 lim, .bool false] 67 (0, 0)) := by
    rw [blk_alloc_lt _ _ _ (by simp)]; exact heap_alloc_new _ _
  have hob : ((w.alloc (.cells #[.slice none 0 0, .int .i64 lim, .bool false] 67)).alloc (.cells #[.int .i64 q] 73)).cell? ⟨w.heap.size + 1, 0, none⟩ = some (.int .i64 q) := by
    have h := heap_alloc_new (w.alloc (.cells #[.slice none 0 0, .int .i64 lim, .bool false] 67)) (.cells #[.int .i64 q] 73)
    simp only [World.size_alloc] at h
    unfold World.cell?
    simp only [h]
    rfl
  have CE : Hid (Calls Tryz.prog 29 #[.iface 65 (.pointer (some ⟨w.heap.size, 0, none⟩)), .iface 35 (.pointer (some ⟨bi, 0, none⟩)), .pointer (some ⟨w.heap.size + 1, 0, none⟩)] ((w.alloc (.cells #[.slice none 0 0, .int .i64 lim, .bool false] 67)).alloc (.cells #[.int .i64 q] 73)) fun e w' => ∃ v, e = .returned (.iface 108 (.agg #[])) ∧ w'.cell? ⟨w.heap.size, 0, none⟩ = some v ∧ w'.ownsRow w.heap.size 5 1 v (T.take lim.toNat).length (cellsN (T.take lim.toNat)) ∧ Kept (fun _ => True) w w') := Lib.hid (by
    refine (encodeGray_any w.heap.size (w.heap.size + 1) bi bp x0 y0 wd hg P q lim U _ (hG.kept K1 trivial trivial) hs hwb hob (fun i hi => K1.cellOf (hD.u i hi) trivial) hUs (fun i hi => K1.cellOf (hD.bits i hi) trivial) (fun i hi => K1.cellOf (hD.zig i hi) trivial) h8 hbi hbp (by omega) hlim).mono ?_
    rintro e w' ⟨bad, rfl, h1, h2, hF⟩
    have h3 := And.intro h1 (And.intro h2 hF)
    obtain ⟨hbad, fb, hW⟩ := h3.2.1 hb0 (by rw [hT]; exact hb1)
    subst hbad
    obtain ⟨_, v, hk, ho, _⟩ := hW
    rw [hT] at ho
    refine ⟨v, rfl, (own_cells hk).1, ho, ?_⟩
    exact (K1.mono fun _ _ _ => trivial).trans' (hF.kept fun k hk => by omega) fun i hi _ => hi)
  have H1 := Lib.hid (hD.err)
  clear hG hs hD K1 hwb hob hT
  go_enter Tryz.func19, Tryz.ntmps19
  go_wp2_with (go_at_call 29; (with_reducible refine CE.out.mono ?_); rintro e w2 ⟨v, rfl, cB, ho, k2⟩; have HK := Lib.hid (And.intro ho k2); clear ho k2)
  clear CE
  go_region_held3 (fun w' => w'.cell? ⟨w.heap.size, 0, none⟩ = some v)
    (first | go_keep | (refine Kept.cellOf k2 ?_ trivial; assumption))
    (first
      | (go_at_call 30; (with_reducible refine (code_own _).mono ?_); rintro e w3 ⟨rfl, k2⟩; have HKm := Lib.hid k2))
  all_goals
    obtain ⟨ho, k2⟩ := HK.out
    have HKm' := HKm.out
    have hfin := Lib.hid (And.intro (ownsRow_kept ho HKm') (k2.drew.trans HKm'))
    clear HK HKm ho k2 HKm'
    go_wp2
    go_ret2
    exact ⟨v, rfl, hfin.out⟩
end Go.Proofs.YtghjlekdibcjdaaGreatDoor
/- The contracts of impl.EncodeGray. -/
namespace Go.Proofs.YtghjlekdibcjdaaGreatDoor
open Go.Deep Go.RowKit
set_option linter.unusedVariables false
/-- The pixels that came in, as numbers. -/
def pixN (z : List Int) (k : Nat) : Nat := (z.getD k 0).toNat
set_option maxHeartbeats 4000000 in
set_option maxRecDepth 100000 in
theorem grayEnc_any (code : Int) (R : List Nat) (b off cap : Nat) (z : List Int) (x0 y0 : Int) (wd hg : Nat) (q lim : Int) (U : Nat → Nat) (w : World) (hcell : ∀ i, i < wd * hg → w.cell? ⟨b, off + i, none⟩ = some (.int .u8 (z.getD i 0))) (hz : ∀ i, 0 ≤ z.getD i 0 ∧ z.getD i 0 ≤ 255) (hcap : wd * hg ≤ cap) (hs : SizeOk x0 y0 wd hg) (hD : DoorAt U w) (h8 : 4 ≤ w.heap.size)
    (hE : ∀ (bi bp : Nat) (W : World), GrayAt bi bp x0 y0 wd hg (pixN z) W → DoorAt U W → 4 ≤ W.heap.size → Calls Tryz.prog 19 #[.iface 35 (.pointer (some ⟨bi, 0, none⟩)), .int .i64 q, .int .i64 lim] W fun e w' => ∃ v, e = .returned (.tuple #[v, .int .i64 code]) ∧ w'.ownsRow W.heap.size 5 1 v R.length (cellsN R) ∧ Kept (fun _ => True) W w') :
    Calls Tryz.prog 10 #[.slice (some ⟨b, off, none⟩) (wd * hg) cap, .int .i64 x0, .int .i64 y0, .int .i64 (wd : Int), .int .i64 (hg : Int), .int .i64 q, .int .i64 lim] w fun e w' => ∃ v, e = .returned (.tuple #[v, .int .i64 code]) ∧ w'.ownsRow w.heap.size 5 1 v R.length (cellsN R) ∧ Kept (fun _ => True) w w' := by
  obtain ⟨s1, s2, s3, s4, s5, ⟨s6, s7⟩, ⟨s8, s9⟩⟩ := hs
  have CR := Lib.hid fun W => rect_any x0 y0 (x0 + wd) (y0 + hg) W (by omega) (by omega)
  have CN := Lib.hid fun W => newGray_any x0 y0 (x0 + wd) (y0 + hg) wd hg W (by omega) (by omega) rfl rfl (by omega) (by omega) (by omega)
  have ew : IntKind.i64.wrap (x0 + (wd : Int)) = x0 + (wd : Int) := IntWalk.i64_in _ ⟨by omega, by omega⟩
  have eh : IntKind.i64.wrap (y0 + (hg : Int)) = y0 + (hg : Int) := IntWalk.i64_in _ ⟨by omega, by omega⟩
  have HH := Lib.hid (And.intro s1 (And.intro s2 (And.intro s3 (And.intro s4 (And.intro s5 hcap)))))
  have HD := Lib.hid (And.intro hD (And.intro h8 (And.intro hcell hz)))
  have HE := Lib.hid hE
  clear s1 s2 s3 s4 s5 s6 s7 s8 s9 hD h8 hcell hz hE hcap
  unfold rectV at CR CN
  go_enter Tryz.func10, Tryz.ntmps10
  go_wp2_with (first
    | (go_at_call 17; (with_reducible refine (CR.out _).mono ?_); rintro e w2 ⟨rfl, k2⟩; have HK2 := Lib.hid k2; clear k2)
    | (go_at_call 16; (with_reducible refine (CN.out _).mono ?_); rintro e w3 ⟨bp, bi, rfl, k3⟩; have HK3 := Lib.hid k3; clear k3))
  have hne : bi ≠ bp := fun e => by
    obtain ⟨c, hc, -, -⟩ := HK3.out.pix
    rw [← e, HK3.out.img] at hc
    cases hc
  have c0 : w3.cell? ⟨bi, 0, none⟩ = some (.slice (some ⟨bp, 0, none⟩) (wd * hg) (wd * hg)) := by unfold World.cell?; simp only [HK3.out.img]; rfl
  have c1 : w3.cell? ⟨bi, 1, none⟩ = some (.int .i64 (wd : Int)) := by unfold World.cell?; simp only [HK3.out.img]; rfl
  have KW := HK2.out.trans HK3.out.kept
  have hrow : w3.drew.rowIs bp 5 (wd * hg) _ := HK3.out.pix
  have hlp := HK3.out.lp
  have hw2 := HK2.out.size
  have hbl : wd * hg ≠ 0 := Nat.ne_of_gt (Nat.mul_pos HH.out.1 HH.out.2.1)
  have hbb : b < w.heap.size := block_lt_of_cell (HD.out.2.2.1 0 (by omega))
  have CF := Lib.hid (fill_full bp wd hg b off cap z _ w3.drew (fun i hi => KW.cellOf (HD.out.2.2.1 i hi) trivial) (by omega) HH.out.2.2.2.2.2 hrow HH.out.1 (by have := HH.out.2.2.2.2.1; omega) (by have := HH.out.2.2.1; omega))
  have himg := HK3.out.img
  have HI := Lib.hid (And.intro himg (And.intro KW hne))
  have HBP : Hid (w.heap.size ≤ bp) := Lib.hid (by omega)
  have hbi : bi < w3.heap.size := (Array.getElem?_eq_some_iff.1 himg).1
  have HBI := Lib.hid hbi
  clear himg KW hne hrow CR CN hlp hw2 ew eh HK3 HK2 hbl hbb hbi
  go_still_tail 11, (by kernel_rfl)
  change wpList _ _ _ _ _ w3.drew
  clear c0 c1
  go_wp2_with (go_at_call 18; (with_reducible refine CF.out.mono ?_); rintro e w4 ⟨rfl, k4, r4⟩; have HK4 := Lib.hid (And.intro k4 r4); clear k4 r4)
  obtain ⟨k4, r4⟩ := HK4.out
  have hkw4 : Kept (fun _ => True) w w4 := HI.out.2.1.drew.trans' k4 fun k hk _ => by have := HBP.out; omega
  have hG4 : GrayAt bi bp x0 y0 wd hg (pixN z) w4 := by
    refine ⟨(k4.block bi HBI.out HI.out.2.2).trans HI.out.1, fun k hk => ?_, fun k => ?_⟩
    · rw [r4.cell hk]
      unfold fillF pixN
      rw [if_pos ⟨hk, hk⟩]
      have := HD.out.2.2.2 k
      congr 2
      omega
    · have := HD.out.2.2.2 k
      unfold pixN
      omega
  refine (HE.out bi bp w4 hG4 (HD.out.1.kept hkw4) (by have := HD.out.2.1; have := hkw4.size; omega)).mono ?_
  rintro e w5 ⟨v, rfl, ho, k5⟩
  have HF := Lib.hid (And.intro ho (hkw4.trans k5))
  have hsz := hkw4.size
  clear k4 r4 hkw4 hG4 ho k5
  go_wp2_with fail
  go_ret2
  exact ⟨v, rfl, ownsRow_lower HF.out.1 hsz, HF.out.2⟩
end Go.Proofs.YtghjlekdibcjdaaGreatDoor
/- Contracts of laws.sized; strings of bytes. -/
namespace Go.Proofs.YtghjlekdibcjdaaGreatDoor
open Go.Deep Go.RowKit
set_option linter.unusedVariables false
/-- The string of some bytes. -/
def strN (l : List Nat) : ByteArray := (l.map Int.ofNat).foldl (fun r n => r.push (UInt8.ofNat n.toNat)) ByteArray.empty
theorem run_str_own {w : World} {B : Nat} {v : Value} {n : Nat} {l : List Nat} (h : w.ownsRow B 5 1 v n (cellsN l)) : (convert 22 9 v).run Tryz.prog w = .ok (.string (strN l)) w := by
  obtain ⟨h1, h2⟩ := h
  rcases h2 with ⟨rfl, rfl⟩ | ⟨g, cap, cur, rfl, e2, e3, e4, e5, e6, e7⟩
  · have hl : l = [] := by
      cases l with
      | nil => rfl
      | cons x r => simp [cellsN] at h1
    subst hl
    have e : ∀ W : World, (convert 22 9 (.slice none 0 0)).run Tryz.prog W = .ok (.string (strN [])) W := fun W => by kernel_rfl
    exact e w
  · rw [run_convert_bytes_string w 22 9 5 _ _ _ Tryz.underlying22 Tryz.underlying5 Tryz.underlying9]
    have hlen : (cellsN l).length = n := by omega
    have hc := run_loadCells_list (P := Tryz.prog) w ⟨g, 0, none⟩ (cellsN l) (fun j u hu => Lib.cells_of_row e3 n j u (by rw [show n = n * 1 by omega, e7]; exact hu))
    rw [hlen] at hc
    have e : (cellsN l).toArray = ((l.map Int.ofNat).map (Value.int .u8)).toArray := by simp [cellsN]
    rw [e] at hc
    exact run_bytesToString w _ n cap _ hc
set_option maxHeartbeats 4000000 in
set_option maxRecDepth 100000 in
theorem sized_false (wide high q many p : Int) (w : World) (hp : wide * high = p) (hn : ¬ (1 ≤ wide ∧ 1 ≤ high ∧ wide ≤ 65535 ∧ high ≤ 65535 ∧ p ≤ 65536 ∧ 1 ≤ q ∧ q ≤ 100 ∧ many = p)) :
    Calls Tryz.prog 9 #[.int .i64 wide, .int .i64 high, .int .i64 q, .int .i64 many, .int .i64 1] w fun e w' => e = .returned (.bool false) ∧ w = w' := by
  have h : wide < 1 ∨ (1 ≤ wide ∧ high < 1) ∨ (1 ≤ wide ∧ 1 ≤ high ∧ 65535 < wide) ∨ (1 ≤ wide ∧ 1 ≤ high ∧ wide ≤ 65535 ∧ 65535 < high) ∨ (1 ≤ wide ∧ 1 ≤ high ∧ wide ≤ 65535 ∧ high ≤ 65535 ∧ 65536 < p) ∨ (1 ≤ wide ∧ 1 ≤ high ∧ wide ≤ 65535 ∧ high ≤ 65535 ∧ p ≤ 65536 ∧ q < 1) ∨ (1 ≤ wide ∧ 1 ≤ high ∧ wide ≤ 65535 ∧ high ≤ 65535 ∧ p ≤ 65536 ∧ 1 ≤ q ∧ 100 < q) ∨ (1 ≤ wide ∧ 1 ≤ high ∧ wide ≤ 65535 ∧ high ≤ 65535 ∧ p ≤ 65536 ∧ 1 ≤ q ∧ q ≤ 100 ∧ many ≠ p) := by omega
  have hpw : 1 ≤ wide → 1 ≤ high → wide ≤ 65535 → high ≤ 65535 → 0 ≤ p ∧ p ≤ 4294836225 := fun h1 h2 h3 h4 => by
    rw [← hp]
    exact ⟨Int.mul_nonneg (by omega) (by omega), by have := Int.mul_le_mul h3 h4 (by omega) (show (0 : Int) ≤ 65535 by omega); omega⟩
  clear hn
  rcases h with h | ⟨h1, h⟩ | ⟨h1, h2, h⟩ | ⟨h1, h2, h3, h⟩ | ⟨h1, h2, h3, h4, h⟩ | ⟨h1, h2, h3, h4, h5, h⟩ | ⟨h1, h2, h3, h4, h5, h6, h⟩ | ⟨h1, h2, h3, h4, h5, h6, h, k1⟩
  · clear hpw
    go_enter Tryz.func9, Tryz.ntmps9
    go_wp2_with fail
    go_ret
    exact ⟨rfl, rfl⟩
  · clear hpw
    go_enter Tryz.func9, Tryz.ntmps9
    go_wp2_with fail
    go_ret
    exact ⟨rfl, rfl⟩
  · clear hpw
    go_enter Tryz.func9, Tryz.ntmps9
    go_wp2_with fail
    go_ret
    exact ⟨rfl, rfl⟩
  · clear hpw
    go_enter Tryz.func9, Tryz.ntmps9
    go_wp2_with fail
    go_ret
    exact ⟨rfl, rfl⟩
  · have hpb := hpw h1 h2 h3 h4
    have ew : IntKind.i64.wrap p = p := IntWalk.i64_in _ ⟨by omega, by omega⟩
    clear hpw
    go_enter Tryz.func9, Tryz.ntmps9
    go_wp2_with fail
    go_ret
    exact ⟨rfl, rfl⟩
  · have hpb := hpw h1 h2 h3 h4
    have ew : IntKind.i64.wrap p = p := IntWalk.i64_in _ ⟨by omega, by omega⟩
    clear hpw
    go_enter Tryz.func9, Tryz.ntmps9
    go_wp2_with fail
    go_ret
    exact ⟨rfl, rfl⟩
  · have hpb := hpw h1 h2 h3 h4
    have ew : IntKind.i64.wrap p = p := IntWalk.i64_in _ ⟨by omega, by omega⟩
    clear hpw
    go_enter Tryz.func9, Tryz.ntmps9
    go_wp2_with fail
    go_ret
    exact ⟨rfl, rfl⟩
  · have hpb := hpw h1 h2 h3 h4
    have ew : IntKind.i64.wrap p = p := IntWalk.i64_in _ ⟨by omega, by omega⟩
    have k2 : (many == p) = false := by simpa using k1
    clear hpw
    go_enter Tryz.func9, Tryz.ntmps9
    go_wp2_with fail
    go_ret
    exact ⟨rfl, rfl⟩
set_option maxHeartbeats 4000000 in
set_option maxRecDepth 100000 in
theorem sized_true (wide high q many p : Int) (w : World) (hp : wide * high = p) (hn : 1 ≤ wide ∧ 1 ≤ high ∧ wide ≤ 65535 ∧ high ≤ 65535 ∧ p ≤ 65536 ∧ 1 ≤ q ∧ q ≤ 100 ∧ many = p) :
    Calls Tryz.prog 9 #[.int .i64 wide, .int .i64 high, .int .i64 q, .int .i64 many, .int .i64 1] w fun e w' => e = .returned (.bool true) ∧ w = w' := by
  obtain ⟨h1, h2, h3, h4, h5, h6, h, k1⟩ := hn
  have hpb : 0 ≤ p := by rw [← hp]; exact Int.mul_nonneg (by omega) (by omega)
  have ew : IntKind.i64.wrap p = p := IntWalk.i64_in _ ⟨by omega, by omega⟩
  have k2 : (many == p) = true := by simp [k1]
  go_enter Tryz.func9, Tryz.ntmps9
  go_wp2_with fail
  go_ret
  exact ⟨rfl, rfl⟩
end Go.Proofs.YtghjlekdibcjdaaGreatDoor
/- The law QualityLimits: its walk. -/
namespace Go.Proofs.YtghjlekdibcjdaaGreatDoor
open Go.Deep Go.RowKit
set_option linter.unusedVariables false
theorem streamG_pos (Q : Nat → Nat) (wd hg : Nat) (P : Nat → Nat) : 2 ≤ (streamG Q wd hg P).length := by
  unfold streamG
  simp
theorem streamG_len (Q : Nat → Nat) {wd hg : Nat} (P : Nat → Nat) (h1 : 1 ≤ wd) (h2 : 1 ≤ hg) (h : wd * hg ≤ 65536) : (streamG Q wd hg P).length ≤ 200000002 := by
  have hh := hdrG_len Q wd hg
  have hs : (hdrG Q wd hg ++ sosY).length ≤ 4096 := by
    rw [List.length_append, show sosY.length = 10 from rfl]
    omega
  have := grayScan_len Q P h1 h2 h (hdrG Q wd hg ++ sosY, 0, 0) hs
  unfold streamG
  rw [List.length_append]
  show _ + 2 ≤ _
  omega
/-- A row that is not empty lies somewhere. -/
theorem ownsRow_some {w : World} {B n : Nat} {v : Value} {xs : List Value} (h : w.ownsRow B 5 1 v n xs) (hn : 1 ≤ n) : ∃ g cap, v = .slice (some ⟨g, 0, none⟩) n cap := by
  rcases h.2 with ⟨_, h2⟩ | ⟨g, cap, cur, rfl, _⟩
  · omega
  · exact ⟨g, cap, rfl⟩
theorem ownsRow_kept' {B n : Nat} {v : Value} {xs : List Value} {w w' : World} (h : w.ownsRow B 5 1 v n xs) (k : Kept (fun _ => True) w w') : w'.ownsRow B 5 1 v n xs := by
  refine ownsRow_block h fun g hg => ?_
  rcases h.2 with ⟨rfl, _⟩ | ⟨g', cap, cur, rfl, _, hg', _⟩
  · simp [Value.ownBlock] at hg
  · have : g' = g := by simpa [Value.ownBlock] using hg
    subst this
    exact k.block _ (Array.getElem?_eq_some_iff.1 hg').1 trivial
set_option maxHeartbeats 1000000 in
set_option maxRecDepth 100000 in
theorem ql_huge (a : Option Addr) (len cap : Nat) (wide high q : Int) (w : World) (hl : len ≤ 9223372036854775807) (h : 2147483647 < len) :
    Calls Tryz.prog 3 #[.slice a len cap, .int .i64 wide, .int .i64 high, .int .i64 q] w fun e w' => e = .returned (.bool true) ∧ Kept (fun _ => True) w w' := by
  go_enter Tryz.func3, Tryz.ntmps3
  go_wp2
  go_ret
  exact ⟨rfl, Kept.refl _ _⟩
set_option maxHeartbeats 1000000 in
set_option maxRecDepth 100000 in
theorem ql_not (a : Option Addr) (len cap : Nat) (wide high q p : Int) (w : World) (hl : len ≤ 2147483647) (hp : wide * high = p) (hn : ¬ (1 ≤ wide ∧ 1 ≤ high ∧ wide ≤ 65535 ∧ high ≤ 65535 ∧ p ≤ 65536 ∧ (1 : Int) ≤ 1 ∧ (1 : Int) ≤ 100 ∧ (len : Int) = p)) :
    Calls Tryz.prog 3 #[.slice a len cap, .int .i64 wide, .int .i64 high, .int .i64 q] w fun e w' => e = .returned (.bool true) ∧ Kept (fun _ => True) w w' := by
  have CS := Lib.hid (sized_false wide high 1 len p w hp hn)
  clear hn hp
  go_enter Tryz.func3, Tryz.ntmps3
  go_wp2_with (go_at_call 9; (with_reducible refine CS.out.mono ?_); rintro e w2 ⟨rfl, rfl⟩)
  go_ret
  exact ⟨rfl, Kept.refl _ _⟩
set_option maxHeartbeats 4000000 in
set_option maxRecDepth 100000 in
theorem ql_ok (b off cap : Nat) (wd hg : Nat) (q qb : Int) (R : List Nat) (w : World) (hlen : wd * hg ≤ 65536) (h1 : 1 ≤ wd) (h2 : 1 ≤ hg) (h3 : wd ≤ 65535) (h4 : hg ≤ 65535) (hR : 1 ≤ R.length) (hR2 : R.length ≤ 9223372036854775807)
    (hq0 : -9223372036854775808 ≤ q) (hq1 : q ≤ 9223372036854775807) (hqb : (q < 1 ∧ qb = 1) ∨ (100 < q ∧ qb = 100) ∨ (1 ≤ q ∧ q ≤ 100 ∧ qb = q))
    (hE : ∀ (qq : Int) (W : World), qq = q ∨ qq = qb → Kept (fun _ => True) w W → Calls Tryz.prog 10 #[.slice (some ⟨b, off, none⟩) (wd * hg) cap, .int .i64 0, .int .i64 0, .int .i64 (wd : Int), .int .i64 (hg : Int), .int .i64 qq, .int .i64 (-1)] W fun e w' => ∃ v, e = .returned (.tuple #[v, .int .i64 0]) ∧ w'.ownsRow W.heap.size 5 1 v R.length (cellsN R) ∧ Kept (fun _ => True) W w') :
    Calls Tryz.prog 3 #[.slice (some ⟨b, off, none⟩) (wd * hg) cap, .int .i64 (wd : Int), .int .i64 (hg : Int), .int .i64 q] w fun e w' => e = .returned (.bool true) ∧ Kept (fun _ => True) w w' := by
  have hmul : ((wd : Nat) : Int) * ((hg : Nat) : Int) = ((wd * hg : Nat) : Int) := by simp
  generalize hN : wd * hg = N at hlen hE hmul ⊢
  have CS := Lib.hid (sized_true wd hg 1 N N w hmul (by omega))
  have CE : Hid (∀ W, Kept (fun _ => True) w W → Calls Tryz.prog 10 #[.slice (some ⟨b, off, none⟩) N cap, .int .i64 0, .int .i64 0, .int .i64 (wd : Int), .int .i64 (hg : Int), .int .i64 q, .int .i64 (-1)] W fun e w' => ∃ g c, e = .returned (.tuple #[.slice (some ⟨g, 0, none⟩) R.length c, .int .i64 0]) ∧ w'.ownsRow W.heap.size 5 1 (.slice (some ⟨g, 0, none⟩) R.length c) R.length (cellsN R) ∧ Kept (fun _ => True) W w') := Lib.hid fun W hW => (hE q W (.inl rfl) hW).mono fun e w' ⟨v, he, ho, hk⟩ => by
    obtain ⟨g, c, rfl⟩ := ownsRow_some ho hR
    exact ⟨g, c, he, ho, hk⟩
  have CF : Hid (∀ W, Kept (fun _ => True) w W → Calls Tryz.prog 10 #[.slice (some ⟨b, off, none⟩) N cap, .int .i64 0, .int .i64 0, .int .i64 (wd : Int), .int .i64 (hg : Int), .int .i64 qb, .int .i64 (-1)] W fun e w' => ∃ g c, e = .returned (.tuple #[.slice (some ⟨g, 0, none⟩) R.length c, .int .i64 0]) ∧ w'.ownsRow W.heap.size 5 1 (.slice (some ⟨g, 0, none⟩) R.length c) R.length (cellsN R) ∧ Kept (fun _ => True) W w') := Lib.hid fun W hW => (hE qb W (.inr rfl) hW).mono fun e w' ⟨v, he, ho, hk⟩ => by
    obtain ⟨g, c, rfl⟩ := ownsRow_some ho hR
    exact ⟨g, c, he, ho, hk⟩
  clear hE hmul hN
  generalize hL : R.length = L at hR hR2 CE CF
  have HL := Lib.hid hL
  clear hL
  have HS : Hid (∀ {W : World} {B : Nat} {v : Value}, W.ownsRow B 5 1 v L (cellsN R) → (convert 22 9 v).run Tryz.prog W = .ok (.string (strN R)) W) := Lib.hid fun h => run_str_own h
  generalize strN R = S at HS
  rcases hqb with ⟨hqb, rfl⟩ | ⟨hqb, rfl⟩ | ⟨hqb, hqc, rfl⟩
  all_goals
    go_enter Tryz.func3, Tryz.ntmps3
    go_wp2_with (first
      | (go_at_call 9; (with_reducible refine CS.out.mono ?_); rintro e w2 ⟨rfl, rfl⟩)
      | (go_at_call 10; (with_reducible refine (CE.out _ (Kept.refl _ _)).mono ?_); rintro e w3 ⟨g, c, rfl, ho, hk⟩; have HA := Lib.hid (And.intro ho hk); clear ho hk CE))
    refine (CF.out _ HA.out.2).mono ?_
    rintro e w4 ⟨g2, c2, rfl, ho, hk⟩
    have HB := Lib.hid (And.intro ho (HA.out.2.trans hk))
    have hc1 := HS.out (ownsRow_kept' HA.out.1 hk)
    have hc2 := HS.out ho
    clear ho hk CF
    go_wp2_with fail
    go_ret
    exact ⟨rfl, HB.out.2⟩
theorem qual_cut (q : Int) : qualOf (if q < 1 then 1 else if 100 < q then 100 else q) = qualOf q := by
  unfold qualOf
  split
  · rfl
  · split
    · rfl
    · rfl
theorem qual_eq (q qb : Int) (h : (q < 1 ∧ qb = 1) ∨ (100 < q ∧ qb = 100) ∨ (1 ≤ q ∧ q ≤ 100 ∧ qb = q)) : qualOf qb = qualOf q := by
  unfold qualOf
  rcases h with ⟨h, rfl⟩ | ⟨h, rfl⟩ | ⟨h, h2, rfl⟩
  · rw [if_pos h]; rfl
  · rw [if_neg (show ¬ q < 1 by omega), if_pos h]; rfl
  · rfl
/-- The law QualityLimits. -/
theorem ql_law (a : Option Addr) (len cap : Nat) (z : List Int) (wide high q : Int) (U : Nat → Nat) (w : World) (h : IsRow .u8 w a len cap z) (hD : DoorAt U w) (hU : ∀ i, U i ≤ 255) (h4 : 4 ≤ w.heap.size) (hq0 : -9223372036854775808 ≤ q) (hq1 : q ≤ 9223372036854775807) :
    Calls Tryz.prog 3 #[.slice a len cap, .int .i64 wide, .int .i64 high, .int .i64 q] w fun e w' => e = .returned (.bool true) ∧ Kept (fun _ => True) w w' := by
  by_cases hl : len ≤ 2147483647
  · by_cases hs : 1 ≤ wide ∧ 1 ≤ high ∧ wide ≤ 65535 ∧ high ≤ 65535 ∧ wide * high ≤ 65536 ∧ (1 : Int) ≤ 1 ∧ (1 : Int) ≤ 100 ∧ (len : Int) = wide * high
    · obtain ⟨wd, rfl⟩ : ∃ wd : Nat, wide = (wd : Int) := ⟨wide.toNat, by omega⟩
      obtain ⟨hg, rfl⟩ : ∃ hg : Nat, high = (hg : Int) := ⟨high.toNat, by omega⟩
      obtain ⟨s1, s2, s3, s4, s5, -, -, s6⟩ := hs
      rw [← Int.natCast_mul] at s5 s6
      obtain rfl : len = wd * hg := by omega
      have hp : 1 ≤ wd * hg := Nat.mul_pos (by omega) (by omega)
      obtain ⟨b, off, rfl, hcap, -, hcell, -⟩ := h.cells hp
      obtain ⟨qb, hqb⟩ : ∃ qb : Int, (q < 1 ∧ qb = 1) ∨ (100 < q ∧ qb = 100) ∨ (1 ≤ q ∧ q ≤ 100 ∧ qb = q) := by
        by_cases h1 : q < 1
        · exact ⟨1, .inl ⟨h1, rfl⟩⟩
        · by_cases h2 : 100 < q
          · exact ⟨100, .inr (.inl ⟨h2, rfl⟩)⟩
          · exact ⟨q, .inr (.inr ⟨by omega, by omega, rfl⟩)⟩
      have hsz : SizeOk 0 0 wd hg := ⟨by omega, by omega, by omega, by omega, by omega, by omega, by omega⟩
      have hT := streamG_pos (quantOf U (scaleOf (qualOf q))) wd hg (pixN z)
      have hT2 := streamG_len (quantOf U (scaleOf (qualOf q))) (pixN z) (show 1 ≤ wd by omega) (show 1 ≤ hg by omega) (by omega)
      refine ql_ok b off cap wd hg q qb (streamG (quantOf U (scaleOf (qualOf q))) wd hg (pixN z)) w (by omega) (by omega) (by omega) (by omega) (by omega) (by omega) (by omega) hq0 hq1 hqb ?_
      intro qq W hqq hW
      have eq : qualOf qq = qualOf q := by
        rcases hqq with rfl | rfl
        · rfl
        · exact qual_eq q _ hqb
      exact grayEnc_any 0 _ b off cap z 0 0 wd hg qq (-1) U W (fun i hi => hW.cellOf (hcell i (by omega)) trivial) (fun i => h.u8 i) hcap hsz (hD.kept hW) (Nat.le_trans h4 hW.size)
        fun bi bp V hG hV h8 => encoded_good bi bp 0 0 wd hg (pixN z) qq (-1) U _ (by rw [eq]) V hG hsz hV hU h8 (by decide) (.inl (by decide))
    · exact ql_not a len cap wide high q _ w hl rfl hs
  · exact ql_huge a len cap wide high q w h.len_le (by omega)
end Go.Proofs.YtghjlekdibcjdaaGreatDoor
/- The law WriterFails: its walk. -/
namespace Go.Proofs.YtghjlekdibcjdaaGreatDoor
open Go.Deep Go.RowKit
set_option linter.unusedVariables false
theorem ownsRow_take {w : World} {B g L c n : Nat} {R : List Nat} (h : w.ownsRow B 5 1 (.slice (some ⟨g, 0, none⟩) L c) L (cellsN R)) (hL : R.length = L) (hn : n ≤ L) : w.ownsRow B 5 1 (.slice (some ⟨g, 0, none⟩) n c) n (cellsN (R.take n)) := by
  rcases h.2 with ⟨h2, _⟩ | ⟨g', c', cur, e1, e2, e3, e4, e5, e6, e7⟩
  · cases h2
  · have hc : c' = c ∧ g' = g := by injection e1 with e1 e8 e9; injection e1 with e1; injection e1 with e1; exact ⟨e9.symm, e1.symm⟩
    obtain ⟨rfl, rfl⟩ := hc
    refine ⟨by simp [cellsN]; omega, .inr ⟨g', c', cur, rfl, e2, e3, by omega, e5, e6, ?_⟩⟩
    have : cellsN (R.take n) = (cellsN R).take n := by simp [cellsN, List.map_take]
    rw [this, ← e7, List.take_take, show min n (L * 1) = n * 1 by omega]
theorem ownsRow_cap {w : World} {B g L c : Nat} {xs : List Value} (h : w.ownsRow B 5 1 (.slice (some ⟨g, 0, none⟩) L c) L xs) : L ≤ c := by
  rcases h.2 with ⟨h2, _⟩ | ⟨g', c', cur, e1, e2, e3, e4, e5, e6, e7⟩
  · cases h2
  · have hc : c' = c := by injection e1 with e1 e8 e9; exact e9.symm
    omega
theorem ownsRow_slice {w : World} {B n : Nat} {v : Value} {xs : List Value} (h : w.ownsRow B 5 1 v n xs) : ∃ ad cap, v = .slice ad n cap := by
  rcases h.2 with ⟨rfl, rfl⟩ | ⟨g, cap, cur, rfl, _⟩
  · exact ⟨none, 0, rfl⟩
  · exact ⟨_, _, rfl⟩
set_option maxHeartbeats 1000000 in
set_option maxRecDepth 100000 in
theorem wf_huge (a : Option Addr) (len cap : Nat) (wide high q lim : Int) (w : World) (hl : len ≤ 9223372036854775807) (h : 2147483647 < len) :
    Calls Tryz.prog 4 #[.slice a len cap, .int .i64 wide, .int .i64 high, .int .i64 q, .int .i64 lim] w fun e w' => e = .returned (.bool true) ∧ Kept (fun _ => True) w w' := by
  go_enter Tryz.func4, Tryz.ntmps4
  go_wp2
  go_ret
  exact ⟨rfl, Kept.refl _ _⟩
set_option maxHeartbeats 1000000 in
set_option maxRecDepth 100000 in
theorem wf_not (a : Option Addr) (len cap : Nat) (wide high q lim p : Int) (w : World) (hl : len ≤ 2147483647) (hp : wide * high = p) (hn : ¬ (1 ≤ wide ∧ 1 ≤ high ∧ wide ≤ 65535 ∧ high ≤ 65535 ∧ p ≤ 65536 ∧ 1 ≤ q ∧ q ≤ 100 ∧ (len : Int) = p)) :
    Calls Tryz.prog 4 #[.slice a len cap, .int .i64 wide, .int .i64 high, .int .i64 q, .int .i64 lim] w fun e w' => e = .returned (.bool true) ∧ Kept (fun _ => True) w w' := by
  have CS := Lib.hid (sized_false wide high q len p w hp hn)
  clear hn hp
  go_enter Tryz.func4, Tryz.ntmps4
  go_wp2_with (go_at_call 9; (with_reducible refine CS.out.mono ?_); rintro e w2 ⟨rfl, rfl⟩)
  go_ret
  exact ⟨rfl, Kept.refl _ _⟩
set_option maxHeartbeats 1000000 in
set_option maxRecDepth 100000 in
theorem wf_neg (a : Option Addr) (len cap : Nat) (wide high q lim p : Int) (w : World) (hl : len ≤ 2147483647) (hp : wide * high = p) (hn : 1 ≤ wide ∧ 1 ≤ high ∧ wide ≤ 65535 ∧ high ≤ 65535 ∧ p ≤ 65536 ∧ 1 ≤ q ∧ q ≤ 100 ∧ (len : Int) = p) (hneg : lim < 0) :
    Calls Tryz.prog 4 #[.slice a len cap, .int .i64 wide, .int .i64 high, .int .i64 q, .int .i64 lim] w fun e w' => e = .returned (.bool true) ∧ Kept (fun _ => True) w w' := by
  have CS := Lib.hid (sized_true wide high q len p w hp hn)
  clear hn hp
  go_enter Tryz.func4, Tryz.ntmps4
  go_wp2_with (go_at_call 9; (with_reducible refine CS.out.mono ?_); rintro e w2 ⟨rfl, rfl⟩)
  go_ret
  exact ⟨rfl, Kept.refl _ _⟩
set_option maxHeartbeats 4000000 in
set_option maxRecDepth 100000 in
theorem wf_ok (b off cap : Nat) (wd hg : Nat) (q lim : Int) (R : List Nat) (w : World) (hlen : wd * hg ≤ 65536) (h1 : 1 ≤ wd) (h2 : 1 ≤ hg) (h3 : wd ≤ 65535) (h4 : hg ≤ 65535) (hR : 1 ≤ R.length) (hR2 : R.length ≤ 9223372036854775807) (hq0 : 1 ≤ q) (hq1 : q ≤ 100) (hlim : (R.length : Int) ≤ lim) (hlim2 : lim ≤ 9223372036854775807)
    (hE : ∀ (ll : Int) (W : World), ll = lim ∨ ll = -1 → Kept (fun _ => True) w W → Calls Tryz.prog 10 #[.slice (some ⟨b, off, none⟩) (wd * hg) cap, .int .i64 0, .int .i64 0, .int .i64 (wd : Int), .int .i64 (hg : Int), .int .i64 q, .int .i64 ll] W fun e w' => ∃ v, e = .returned (.tuple #[v, .int .i64 0]) ∧ w'.ownsRow W.heap.size 5 1 v R.length (cellsN R) ∧ Kept (fun _ => True) W w') :
    Calls Tryz.prog 4 #[.slice (some ⟨b, off, none⟩) (wd * hg) cap, .int .i64 (wd : Int), .int .i64 (hg : Int), .int .i64 q, .int .i64 lim] w fun e w' => e = .returned (.bool true) ∧ Kept (fun _ => True) w w' := by
  have hmul : ((wd : Nat) : Int) * ((hg : Nat) : Int) = ((wd * hg : Nat) : Int) := by simp
  generalize hN : wd * hg = N at hlen hE hmul ⊢
  have CS := Lib.hid (sized_true wd hg q N N w hmul (by omega))
  have CE : Hid (∀ W, Kept (fun _ => True) w W → Calls Tryz.prog 10 #[.slice (some ⟨b, off, none⟩) N cap, .int .i64 0, .int .i64 0, .int .i64 (wd : Int), .int .i64 (hg : Int), .int .i64 q, .int .i64 (-1)] W fun e w' => ∃ g c, e = .returned (.tuple #[.slice (some ⟨g, 0, none⟩) R.length c, .int .i64 0]) ∧ w'.ownsRow W.heap.size 5 1 (.slice (some ⟨g, 0, none⟩) R.length c) R.length (cellsN R) ∧ Kept (fun _ => True) W w') := Lib.hid fun W hW => (hE (-1) W (.inr rfl) hW).mono fun e w' ⟨v, he, ho, hk⟩ => by
    obtain ⟨g, c, rfl⟩ := ownsRow_some ho hR
    exact ⟨g, c, he, ho, hk⟩
  have CF : Hid (∀ W, Kept (fun _ => True) w W → Calls Tryz.prog 10 #[.slice (some ⟨b, off, none⟩) N cap, .int .i64 0, .int .i64 0, .int .i64 (wd : Int), .int .i64 (hg : Int), .int .i64 q, .int .i64 lim] W fun e w' => ∃ g c, e = .returned (.tuple #[.slice (some ⟨g, 0, none⟩) R.length c, .int .i64 0]) ∧ w'.ownsRow W.heap.size 5 1 (.slice (some ⟨g, 0, none⟩) R.length c) R.length (cellsN R) ∧ Kept (fun _ => True) W w') := Lib.hid fun W hW => (hE lim W (.inl rfl) hW).mono fun e w' ⟨v, he, ho, hk⟩ => by
    obtain ⟨g, c, rfl⟩ := ownsRow_some ho hR
    exact ⟨g, c, he, ho, hk⟩
  clear hE hmul hN
  generalize hL : R.length = L at hR hR2 hlim CE CF
  have HL := Lib.hid hL
  clear hL
  have HS : Hid (∀ {W : World} {B : Nat} {v : Value}, W.ownsRow B 5 1 v L (cellsN R) → (convert 22 9 v).run Tryz.prog W = .ok (.string (strN R)) W) := Lib.hid fun h => run_str_own h
  generalize strN R = S at HS
  go_enter Tryz.func4, Tryz.ntmps4
  go_wp2_with (first
    | (go_at_call 9; (with_reducible refine CS.out.mono ?_); rintro e w2 ⟨rfl, rfl⟩)
    | (go_at_call 10; (with_reducible refine (CE.out _ (Kept.refl _ _)).mono ?_); rintro e w3 ⟨g, c, rfl, ho, hk⟩; have HA := Lib.hid (And.intro ho hk); clear ho hk CE))
  refine (CF.out _ HA.out.2).mono ?_
  rintro e w4 ⟨g2, c2, rfl, ho, hk⟩
  have HB := Lib.hid (And.intro ho (HA.out.2.trans hk))
  have hc1 := HS.out (ownsRow_kept' HA.out.1 hk)
  have hc2 := HS.out ho
  clear ho hk CF
  go_wp2_with fail
  go_ret
  exact ⟨rfl, HB.out.2⟩
set_option maxHeartbeats 4000000 in
set_option maxRecDepth 100000 in
theorem wf_bad (b off cap : Nat) (wd hg n : Nat) (q : Int) (R : List Nat) (w : World) (hlen : wd * hg ≤ 65536) (h1 : 1 ≤ wd) (h2 : 1 ≤ hg) (h3 : wd ≤ 65535) (h4 : hg ≤ 65535) (hR : n < R.length) (hR2 : R.length ≤ 200000002) (hq0 : 1 ≤ q) (hq1 : q ≤ 100)
    (hE1 : ∀ (W : World), Kept (fun _ => True) w W → Calls Tryz.prog 10 #[.slice (some ⟨b, off, none⟩) (wd * hg) cap, .int .i64 0, .int .i64 0, .int .i64 (wd : Int), .int .i64 (hg : Int), .int .i64 q, .int .i64 (-1)] W fun e w' => ∃ v, e = .returned (.tuple #[v, .int .i64 0]) ∧ w'.ownsRow W.heap.size 5 1 v R.length (cellsN R) ∧ Kept (fun _ => True) W w')
    (hE2 : ∀ (W : World), Kept (fun _ => True) w W → Calls Tryz.prog 10 #[.slice (some ⟨b, off, none⟩) (wd * hg) cap, .int .i64 0, .int .i64 0, .int .i64 (wd : Int), .int .i64 (hg : Int), .int .i64 q, .int .i64 (n : Int)] W fun e w' => ∃ v, e = .returned (.tuple #[v, .int .i64 3]) ∧ w'.ownsRow W.heap.size 5 1 v (R.take n).length (cellsN (R.take n)) ∧ Kept (fun _ => True) W w') :
    Calls Tryz.prog 4 #[.slice (some ⟨b, off, none⟩) (wd * hg) cap, .int .i64 (wd : Int), .int .i64 (hg : Int), .int .i64 q, .int .i64 (n : Int)] w fun e w' => e = .returned (.bool true) ∧ Kept (fun _ => True) w w' := by
  have hmul : ((wd : Nat) : Int) * ((hg : Nat) : Int) = ((wd * hg : Nat) : Int) := by simp
  generalize hN : wd * hg = N at hlen hE1 hE2 hmul ⊢
  have hn : (R.take n).length = n := by rw [List.length_take]; omega
  rw [hn] at hE2
  have CS := Lib.hid (sized_true wd hg q N N w hmul (by omega))
  have CE : Hid (∀ W, Kept (fun _ => True) w W → Calls Tryz.prog 10 #[.slice (some ⟨b, off, none⟩) N cap, .int .i64 0, .int .i64 0, .int .i64 (wd : Int), .int .i64 (hg : Int), .int .i64 q, .int .i64 (-1)] W fun e w' => ∃ g c, e = .returned (.tuple #[.slice (some ⟨g, 0, none⟩) R.length c, .int .i64 0]) ∧ w'.ownsRow W.heap.size 5 1 (.slice (some ⟨g, 0, none⟩) R.length c) R.length (cellsN R) ∧ Kept (fun _ => True) W w') := Lib.hid fun W hW => (hE1 W hW).mono fun e w' ⟨v, he, ho, hk⟩ => by
    obtain ⟨g, c, rfl⟩ := ownsRow_some ho (by omega)
    exact ⟨g, c, he, ho, hk⟩
  have CF : Hid (∀ W, Kept (fun _ => True) w W → Calls Tryz.prog 10 #[.slice (some ⟨b, off, none⟩) N cap, .int .i64 0, .int .i64 0, .int .i64 (wd : Int), .int .i64 (hg : Int), .int .i64 q, .int .i64 (n : Int)] W fun e w' => ∃ ad c, e = .returned (.tuple #[.slice ad n c, .int .i64 3]) ∧ w'.ownsRow W.heap.size 5 1 (.slice ad n c) n (cellsN (R.take n)) ∧ Kept (fun _ => True) W w') := Lib.hid fun W hW => (hE2 W hW).mono fun e w' ⟨v, he, ho, hk⟩ => by
    obtain ⟨ad, c, rfl⟩ := ownsRow_slice ho
    exact ⟨ad, c, he, ho, hk⟩
  clear hE1 hE2 hmul hN hn
  generalize hL : R.length = L at hR hR2 CE
  have HTK : Hid (∀ {W : World} {B g c : Nat}, W.ownsRow B 5 1 (.slice (some ⟨g, 0, none⟩) L c) L (cellsN R) → (convert 22 9 (.slice (some ⟨g, 0, none⟩) n c)).run Tryz.prog W = .ok (.string (strN (R.take n))) W) := Lib.hid fun h => run_str_own (ownsRow_take h hL (Nat.le_of_lt hR))
  clear hL
  have HS : Hid (∀ {W : World} {B : Nat} {v : Value}, W.ownsRow B 5 1 v n (cellsN (R.take n)) → (convert 22 9 v).run Tryz.prog W = .ok (.string (strN (R.take n))) W) := Lib.hid fun h => run_str_own h
  generalize strN (R.take n) = S at HS HTK
  go_enter Tryz.func4, Tryz.ntmps4
  go_wp2_with (first
    | (go_at_call 9; (with_reducible refine CS.out.mono ?_); rintro e w2 ⟨rfl, rfl⟩)
    | (go_at_call 10; (with_reducible refine (CE.out _ (Kept.refl _ _)).mono ?_); rintro e w3 ⟨g, c, rfl, ho, hk⟩; have HA := Lib.hid (And.intro ho hk); clear ho hk CE))
  refine (CF.out _ HA.out.2).mono ?_
  rintro e w4 ⟨ad, c2, rfl, ho, hk⟩
  have HB := Lib.hid (And.intro ho (HA.out.2.trans hk))
  have hcap := ownsRow_cap HA.out.1
  have hc1 : ∀ nq, (convert 22 9 (.slice (some ⟨g, 0, none⟩) n c)).run Tryz.prog (w4.drewN nq) = .ok (.string S) (w4.drewN nq) := fun nq => HTK.out (show (w4.drewN nq).ownsRow _ 5 1 _ _ _ from ownsRow_kept' HA.out.1 (hk.drewN nq))
  have hc2 : ∀ nq, (convert 22 9 (.slice ad n c2)).run Tryz.prog (w4.drewN nq) = .ok (.string S) (w4.drewN nq) := fun nq => HS.out (show (w4.drewN nq).ownsRow _ 5 1 _ _ _ from ownsRow_kept' ho ((Kept.refl _ _).drewN nq))
  have hn0 : (0 : Int) ≤ (n : Int) := by omega
  have hnc : (n : Int) ≤ (c : Int) := by omega
  clear ho hk CF
  go_wp2_with fail
  go_quiet (fail)
  go_wp2_with fail
  go_ret
  exact ⟨rfl, HB.out.2.drewN _⟩
/-- The law WriterFails. -/
theorem wf_law (a : Option Addr) (len cap : Nat) (z : List Int) (wide high q lim : Int) (U : Nat → Nat) (w : World) (h : IsRow .u8 w a len cap z) (hD : DoorAt U w) (hU : ∀ i, U i ≤ 255) (h4 : 4 ≤ w.heap.size) (hl0 : -9223372036854775808 ≤ lim) (hl1 : lim ≤ 9223372036854775807) :
    Calls Tryz.prog 4 #[.slice a len cap, .int .i64 wide, .int .i64 high, .int .i64 q, .int .i64 lim] w fun e w' => e = .returned (.bool true) ∧ Kept (fun _ => True) w w' := by
  by_cases hl : len ≤ 2147483647
  · by_cases hs : 1 ≤ wide ∧ 1 ≤ high ∧ wide ≤ 65535 ∧ high ≤ 65535 ∧ wide * high ≤ 65536 ∧ 1 ≤ q ∧ q ≤ 100 ∧ (len : Int) = wide * high
    · by_cases hneg : lim < 0
      · exact wf_neg a len cap wide high q lim _ w hl rfl hs hneg
      obtain ⟨n, rfl⟩ : ∃ n : Nat, lim = (n : Int) := ⟨lim.toNat, by omega⟩
      obtain ⟨wd, rfl⟩ : ∃ wd : Nat, wide = (wd : Int) := ⟨wide.toNat, by omega⟩
      obtain ⟨hg, rfl⟩ : ∃ hg : Nat, high = (hg : Int) := ⟨high.toNat, by omega⟩
      obtain ⟨s1, s2, s3, s4, s5, s7, s8, s6⟩ := hs
      rw [← Int.natCast_mul] at s5 s6
      obtain rfl : len = wd * hg := by omega
      have hp : 1 ≤ wd * hg := Nat.mul_pos (by omega) (by omega)
      obtain ⟨b, off, rfl, hcap, -, hcell, -⟩ := h.cells hp
      have hsz : SizeOk 0 0 wd hg := ⟨by omega, by omega, by omega, by omega, by omega, by omega, by omega⟩
      have hT := streamG_pos (quantOf U (scaleOf (qualOf q))) wd hg (pixN z)
      have hT2 := streamG_len (quantOf U (scaleOf (qualOf q))) (pixN z) (show 1 ≤ wd by omega) (show 1 ≤ hg by omega) (by omega)
      have hgood : ∀ (ll : Int) (W : World), ll ≤ 9223372036854775807 → (ll < 0 ∨ ((streamG (quantOf U (scaleOf (qualOf q))) wd hg (pixN z)).length : Int) ≤ ll) → Kept (fun _ => True) w W → Calls Tryz.prog 10 #[.slice (some ⟨b, off, none⟩) (wd * hg) cap, .int .i64 0, .int .i64 0, .int .i64 (wd : Int), .int .i64 (hg : Int), .int .i64 q, .int .i64 ll] W fun e w' => ∃ v, e = .returned (.tuple #[v, .int .i64 0]) ∧ w'.ownsRow W.heap.size 5 1 v (streamG (quantOf U (scaleOf (qualOf q))) wd hg (pixN z)).length (cellsN (streamG (quantOf U (scaleOf (qualOf q))) wd hg (pixN z))) ∧ Kept (fun _ => True) W w' := fun ll W hll hg' hW =>
        grayEnc_any 0 _ b off cap z 0 0 wd hg q ll U W (fun i hi => hW.cellOf (hcell i (by omega)) trivial) (fun i => h.u8 i) hcap hsz (hD.kept hW) (Nat.le_trans h4 hW.size)
          fun bi bp V hG hV h8 => encoded_good bi bp 0 0 wd hg (pixN z) q ll U _ rfl V hG hsz hV hU h8 hll hg'
      by_cases hlt : n < (streamG (quantOf U (scaleOf (qualOf q))) wd hg (pixN z)).length
      · refine wf_bad b off cap wd hg n q (streamG (quantOf U (scaleOf (qualOf q))) wd hg (pixN z)) w (by omega) (by omega) (by omega) (by omega) (by omega) hlt hT2 s7 s8 (fun W hW => hgood (-1) W (by decide) (.inl (by decide)) hW) ?_
        intro W hW
        exact grayEnc_any 3 _ b off cap z 0 0 wd hg q (n : Int) U W (fun i hi => hW.cellOf (hcell i (by omega)) trivial) (fun i => h.u8 i) hcap hsz (hD.kept hW) (Nat.le_trans h4 hW.size)
          fun bi bp V hG hV h8 => encoded_bad bi bp 0 0 wd hg (pixN z) q (n : Int) U _ rfl V hG hsz hV hU h8 (by omega) (by omega) (by omega)
      · exact wf_ok b off cap wd hg q n (streamG (quantOf U (scaleOf (qualOf q))) wd hg (pixN z)) w (by omega) (by omega) (by omega) (by omega) (by omega) (by omega) (by omega) s7 s8 (by omega) (by omega) fun ll W hll hW => hgood ll W (by rcases hll with rfl | rfl <;> omega) (by rcases hll with rfl | rfl <;> omega) hW
    · exact wf_not a len cap wide high q lim _ w hl rfl hs
  · exact wf_huge a len cap wide high q lim w h.len_le (by omega)
end Go.Proofs.YtghjlekdibcjdaaGreatDoor
/- The listed variables, read out of a row's condition: the tables. -/
namespace Go.Proofs.YtghjlekdibcjdaaGreatDoor
open Go Go.ChangeShapes Go.WideShapes Go.ChangeAt Go.RowKit
/-- The numbers of the quantization tables, before they are scaled. -/
def ul : List (List Nat) := rowsN Rows.laid_jpegcodec_pub_jpeg_unscaledQuant
def bitL : List Nat := rowN Rows.laid_jpegcodec_pub_jpeg_bitCount
def uN (k : Nat) : Nat := ul.flatten.getD k 0
theorem uN_le (i : Nat) : uN i ≤ 255 := by
  have h : ∀ x ∈ ul.flatten, x ≤ 255 := by decide +kernel
  unfold uN
  rw [List.getD_eq_getElem?_getD]
  cases e : ul.flatten[i]? with
  | none => exact Nat.zero_le _
  | some x => exact h x (List.mem_of_getElem? e)
theorem bitL_eq : ∀ i, i < 256 → bitL.getD i 0 = bitC i := by decide +kernel
theorem bitL_len : bitL.length = 256 := by decide +kernel
theorem ul_flat : ∀ i, i < 2 → ∀ j, j < 64 → ∃ zs, ul[i]? = some zs ∧ zs[j]? = some (uN (i * 64 + j)) := by decide +kernel
theorem cells_of_tab2 {H : Type} {enc : TypeId × Value → H} {P : Program} {w : World} {base : Nat} {sp : Nat → Bool} {held : Bool} {fuel : Nat} {t r e : TypeId} {n m : Nat} {k : IntKind} {cs : List Value} {zss : List (List Int)} {p : List MemPlace}
    (ht : P.underlying t = some (.array n r)) (hr : P.underlying r = some (.array m e)) (he : P.underlying e = some (.int k)) (hce : P.cellsOf e = 1) (hcr : P.cellsOf r = m)
    (h : DataW.trod enc P w base sp held fuel t cs = some (.agg (zss.map (Lib.tabData k)), p)) (i : Nat) (hi : i < n) : ∃ zs, zss[i]? = some zs ∧ (cs.drop (i * m)).take m = zs.map fun z => Value.int k z := by
  obtain ⟨xs, fu, rfl, hx, _, hl, hf⟩ := DataW.trod_array ht h
  have h1 := hf i hi
  rw [hcr] at h1
  have hxs : xs.map (·.1) = zss.map (Lib.tabData k) := by
    have := (congrArg Prod.fst hx).symm
    simpa using this
  have hsx : xs[i]? = some xs[i] := List.getElem?_eq_getElem (by omega)
  have h2 : (xs.map (·.1))[i]? = some (xs[i]).1 := by rw [List.getElem?_map, hsx]; rfl
  rw [hxs, List.getElem?_map] at h2
  obtain ⟨zs, hz, hd⟩ := Option.map_eq_some_iff.1 h2
  refine ⟨zs, hz, ?_⟩
  rw [hsx] at h1
  have h3 : xs[i] = (Lib.tabData k zs, (xs[i]).2) := by rw [hd]
  rw [h3] at h1
  exact Lib.cells_of_tab hr he hce hcr h1
theorem gUnz : Tryz.prog.globalNamed "jpegcodec/pub/jpeg.unzig" = some 2 := by kernel_rfl
theorem gBit : Tryz.prog.globalNamed "jpegcodec/pub/jpeg.bitCount" = some 3 := by kernel_rfl
theorem gUns : Tryz.prog.globalNamed "jpegcodec/pub/jpeg.unscaledQuant" = some 0 := by kernel_rfl
theorem tUnz : (Tryz.prog.globals[2]?).map (·.type) = some 172 := by kernel_rfl
theorem tBit : (Tryz.prog.globals[3]?).map (·.type) = some 194 := by kernel_rfl
theorem tUns : (Tryz.prog.globals[0]?).map (·.type) = some 89 := by kernel_rfl
theorem cells3 : Tryz.prog.cellsOf 3 = 1 := by kernel_rfl
theorem cells5 : Tryz.prog.cellsOf 5 = 1 := by kernel_rfl
theorem cells88 : Tryz.prog.cellsOf 88 = 64 := by kernel_rfl
theorem zl_len : zl.length = 64 := by decide +kernel
theorem unz_tab {H : Type} : (Rows.laid_jpegcodec_pub_jpeg_unzig : DataW H) = Lib.tabData .i64 (zl.map Int.ofNat) := by kernel_rfl
theorem bit_tab {H : Type} : (Rows.laid_jpegcodec_pub_jpeg_bitCount : DataW H) = Lib.tabData .u8 (bitL.map Int.ofNat) := by kernel_rfl
theorem uns_tab {H : Type} : (Rows.laid_jpegcodec_pub_jpeg_unscaledQuant : DataW H) = .agg ((ul.map fun l => l.map Int.ofNat).map (Lib.tabData .u8)) := by kernel_rfl
/-- The three tables alone. -/
theorem three_of_laid {W : World} (h : laidMetH Tryz.prog fourLaid W) : laidMet Tryz.prog [("jpegcodec/pub/jpeg.unzig", Rows.laid_jpegcodec_pub_jpeg_unzig), ("jpegcodec/pub/jpeg.bitCount", Rows.laid_jpegcodec_pub_jpeg_bitCount), ("jpegcodec/pub/jpeg.unscaledQuant", Rows.laid_jpegcodec_pub_jpeg_unscaledQuant)] W := h.1
/-- What the condition on the listed variables gives the walk. -/
theorem door_of_laid {W : World} (h : laidMetH Tryz.prog fourLaid W) : DoorAt uN W := by
  have herr := handle_of_laid h
  have h3 := three_of_laid h
  clear h
  obtain ⟨ps, ⟨g0, t0, cs0, f0, p0, q0, hg0, ht0, hv0, hd0, ⟨g1, t1, cs1, f1, p1, q1, hg1, ht1, hv1, hd1, ⟨g2, t2, cs2, f2, p2, q2, hg2, ht2, hv2, hd2, _, _⟩, _⟩, _⟩, _, _⟩ := h3
  obtain rfl := Option.some.inj (gUnz.symm.trans hg0)
  obtain rfl := Option.some.inj (gBit.symm.trans hg1)
  obtain rfl := Option.some.inj (gUns.symm.trans hg2)
  obtain rfl := Option.some.inj (tUnz.symm.trans ht0)
  obtain rfl := Option.some.inj (tBit.symm.trans ht1)
  obtain rfl := Option.some.inj (tUns.symm.trans ht2)
  rw [unz_tab] at hd0
  rw [bit_tab] at hd1
  rw [uns_tab] at hd2
  have e0 := Lib.cells_of_tab Tryz.underlying172 Tryz.underlying3 cells3 (by kernel_rfl) hd0
  have e1 := Lib.cells_of_tab Tryz.underlying194 Tryz.underlying5 cells5 (by kernel_rfl) hd1
  have e2 := cells_of_tab2 Tryz.underlying89 Tryz.underlying88 Tryz.underlying5 cells5 cells88 hd2
  refine ⟨fun k hk => ?_, fun k hk => ?_, fun k hk => ?_, herr⟩
  · refine (World.var?_cell hg2 hv2 k).trans ?_
    obtain ⟨zs, hz, hc⟩ := e2 (k / 64) (by omega)
    obtain ⟨zs', hz', hj⟩ := ul_flat (k / 64) (by omega) (k % 64) (by omega)
    rw [List.getElem?_map, hz'] at hz
    obtain rfl := Option.some.inj hz
    rw [show k / 64 * 64 + k % 64 = k by omega] at hj
    have := congrArg (fun l => l[k % 64]?) hc
    simp only [List.getElem?_map, hj, List.getElem?_take, List.getElem?_drop, Option.map_some] at this
    rw [if_pos (by omega), show k / 64 * 64 + k % 64 = k by omega] at this
    rw [← Array.getElem?_toList]
    exact this
  · have hl : k < bitL.length := by rw [bitL_len]; exact hk
    refine (World.var?_cell hg1 hv1 k).trans ?_
    rw [← bitL_eq k hk, ← Array.getElem?_toList, e1, List.getElem?_map, List.getElem?_map, List.getElem?_eq_getElem hl]
    simp only [List.getD_eq_getElem?_getD, List.getElem?_eq_getElem hl]
    rfl
  · have hl : k < zl.length := by rw [zl_len]; exact hk
    refine (World.var?_cell hg0 hv0 k).trans ?_
    rw [← Array.getElem?_toList, e0, List.getElem?_map, List.getElem?_map, List.getElem?_eq_getElem hl]
    simp only [zN, List.getD_eq_getElem?_getD, List.getElem?_eq_getElem hl]
    rfl
theorem door_size {U : Nat → Nat} {W : World} (h : DoorAt U W) : 4 ≤ W.heap.size := block_lt_of_cell (h.bits 0 (by omega))
end Go.Proofs.YtghjlekdibcjdaaGreatDoor
