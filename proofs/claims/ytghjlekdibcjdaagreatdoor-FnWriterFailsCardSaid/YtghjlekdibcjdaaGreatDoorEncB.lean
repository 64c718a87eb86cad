/- The contract of jpeg.Encode of a gray image. -/
import Derived.Test.YtghjlekdibcjdaaGreatDoorEA
namespace Go.Proofs.YtghjlekdibcjdaaGreatDoor
open Go.Deep Go.RowKit
set_option linter.unusedVariables false
set_option maxHeartbeats 8000000 in
set_option maxRecDepth 100000 in
theorem encodeGray_any (wb ob bi bp : Nat) (x0 y0 : Int) (wd hg : Nat) (P : Nat → Nat) (q lim : Int) (U : Nat → Nat) (w : World) (hG : GrayAt bi bp x0 y0 wd hg P w) (hs : SizeOk x0 y0 wd hg) (hwb : w.heap[wb]? = some (.cells #[.slice none 0 0, .int .i64 lim, .bool false] 67 (0, 0))) (hob : w.cell? ⟨ob, 0, none⟩ = some (.int .i64 q))
    (hU : UAt U w) (hUs : ∀ i, U i ≤ 255) (hBits : BitsAt w) (hZig : ZigAt w) (h8 : 4 ≤ wb) (hbi : bi < wb) (hbp : bp < wb) (hob1 : wb < ob) (hlim : lim ≤ 9223372036854775807) :
    Calls Tryz.prog 29 #[.iface 65 (.pointer (some ⟨wb, 0, none⟩)), .iface 35 (.pointer (some ⟨bi, 0, none⟩)), .pointer (some ⟨ob, 0, none⟩)] w fun e w' => ∃ bad, e = .returned (errV bad) ∧ ((lim < 0 ∨ ((streamG (quantOf U (scaleOf (qualOf q))) wd hg P).length : Int) ≤ lim) → bad = false ∧ (∃ fb, WrIs wb wb fb lim false (streamG (quantOf U (scaleOf (qualOf q))) wd hg P) w')) ∧ (0 ≤ lim → lim < ((streamG (quantOf U (scaleOf (qualOf q))) wd hg P).length : Int) → bad = true ∧ (∃ fb, WrIs wb wb fb lim true ((streamG (quantOf U (scaleOf (qualOf q))) wd hg P).take lim.toNat) w')) ∧ Fr wb (fun k => k = wb) w w' := by
  have hm : ∀ w : World, (method 345 35 (.pointer (some ⟨bi, 0, none⟩)) "Bounds").run Tryz.prog w = .ok (69, .pointer (some ⟨bi, 0, none⟩)) w := fun _ => by kernel_rfl
  have hta : ∀ W, (Instr.typeAssert (.iface 35 (.pointer (some ⟨bi, 0, none⟩))) 64 35 true).run Tryz.prog W = .ok (.tuple #[.pointer (some ⟨bi, 0, none⟩), .bool true]) W := fun W => by kernel_rfl
  have htw := z_noWriter (.pointer (some ⟨wb, 0, none⟩))
  obtain ⟨s1, s2, s3, s4, s5, ⟨s6, s7⟩, ⟨s8, s9⟩⟩ := hs
  have CB := Lib.hid (boundsGray bi _ _ x0 y0 (x0 + wd) (y0 + hg) w hG.img)
  have CX := Lib.hid fun W => dx_any x0 y0 (x0 + wd) (y0 + hg) W (by omega) (by omega)
  have CY := Lib.hid fun W => dy_any x0 y0 (x0 + wd) (y0 + hg) W (by omega) (by omega)
  have exw : x0 + (wd : Int) - x0 = (wd : Int) := by omega
  have eyh : y0 + (hg : Int) - y0 = (hg : Int) := by omega
  obtain ⟨dw, hdw⟩ : ∃ dw : Int, x0 + (wd : Int) - x0 = dw := ⟨_, rfl⟩
  obtain ⟨dh, hdh⟩ : ∃ dh : Int, y0 + (hg : Int) - y0 = dh := ⟨_, rfl⟩
  rw [hdw] at CX
  rw [hdh] at CY
  unfold rectV at CB CX CY
  have nw : dw < 65536 := by omega
  have nh : dh < 65536 := by omega
  clear hdw hdh
  have HS := Lib.hid (show SizeOk x0 y0 wd hg from ⟨s1, s2, s3, s4, s5, ⟨s6, s7⟩, ⟨s8, s9⟩⟩)
  clear s1 s2 s3 s4 s5 s6 s7 s8 s9
  have HH := Lib.hid (And.intro hG (And.intro hwb (And.intro hob (And.intro hU (And.intro hBits hZig)))))
  have HB := Lib.hid (And.intro h8 (And.intro hbi (And.intro hbp (And.intro hob1 hlim))))
  clear hG hwb hob hU hBits hZig h8 hbi hbp hob1 hlim exw eyh
  go_enter Tryz.func29, Tryz.ntmps29
  go_wp2_with (first
    | (go_at_call 69; (with_reducible refine CB.out.mono ?_); rintro e w2 ⟨rfl, k2⟩; obtain ⟨rb, hrb⟩ : ∃ rb, w2.heap.size = rb := ⟨_, rfl⟩; have hbx : (w2.alloc (.cells #[.int .i64 x0, .int .i64 y0, .int .i64 (x0 + wd), .int .i64 (y0 + hg)] 40)).heap[rb]? = some (.cells #[.int .i64 x0, .int .i64 y0, .int .i64 (x0 + wd), .int .i64 (y0 + hg)] 40 (0, 0)) := (by rw [← hrb]; exact heap_alloc_new _ _); have P2 := Lib.hid (And.intro (k2.alloc (.cells #[.int .i64 x0, .int .i64 y0, .int .i64 (x0 + wd), .int .i64 (y0 + hg)] 40)) (And.intro hbx hrb)); clear k2 hbx)
    | (go_at_call 28; (with_reducible refine (CX.out _).mono ?_); rintro e w3 ⟨rfl, k3⟩; have hb3 := (k3.block rb (Array.getElem?_eq_some_iff.1 P2.out.2.1).1 trivial).trans P2.out.2.1; obtain ⟨c0, c1, c2, c3, c4⟩ := buf_cells hb3; have P3 := Lib.hid (And.intro (P2.out.1.trans k3) hb3); clear k3 hb3)
    | (go_at_call 34; (with_reducible refine (CY.out _).mono ?_); rintro e w4 ⟨rfl, k4⟩; have P4 := Lib.hid (And.intro (P3.out.1.trans k4) ((k4.block rb (Array.getElem?_eq_some_iff.1 P3.out.2).1 trivial).trans P3.out.2)); clear k4 c0 c1 c2 c3 c4; obtain ⟨eb, heb⟩ : ∃ eb, w4.heap.size = eb := ⟨_, rfl⟩; have hre : (w4.alloc (.cells (agg 152 encZ) 94)).rowIs eb 94 152 encZ := (by rw [← heb]; exact rowIs_agg w4 94 152 encZ); have CL := Lib.hid (newLUT_any (w4.alloc (.cells (agg 152 encZ) 94))); have P5 := Lib.hid (And.intro hre heb); clear hre)
    | ((with_reducible refine wpList_alloc_agg (op := ⟨some 8, .alloc 94, _, _, _, _⟩) ?_ 94 (agg 152 encZ) eb ?_ ?_ ?_); (· rfl); (· exact heb); (· kernel_rfl))
    | (go_at_call 36; (with_reducible refine CL.out.mono ?_); rintro e w5 ⟨L, rfl, hL1, hL2, hk5⟩; have hr5 := hk5.row P5.out.1 trivial; have P6 := Lib.hid (And.intro hL1 (And.intro hL2 (And.intro hk5 hr5))); clear hL1 hL2 hk5 hr5)
    | ((with_reducible refine wpList_store_part (op := ⟨none, .store 92 (.tmp 29) (.tmp 28), _, _, _, _⟩) ?_ 92 (.tmp 29) (.tmp 28) ?_ eb 148 4 (g := lutSl L) ?_ ?_ P6.out.2.2.2 ?_ ?_ ?_ ?_); (· rfl); (· rfl); (· rfl); (· rfl); (· omega); (· exact size92); (· exact lutSl_one L); (intro w6 k6 r6; have P7 := Lib.hid (And.intro k6 r6); have CN := Lib.hid (newWriter_any wb w6); clear k6 r6)))
  -- BEHIND NewWriter
  obtain ⟨fb, hfb⟩ : ∃ fb, w6.heap.size = fb := ⟨_, rfl⟩
  rw [hfb] at CN
  obtain ⟨bb, hbb⟩ : ∃ bb, fb + 1 = bb := ⟨_, rfl⟩
  rw [hbb] at CN
  refine CN.out.mono ?_
  rintro e w7 ⟨rfl, hrf, hhb, hk7⟩
  have hr7 := hk7.row P7.out.2 trivial
  have hew : w.heap.size ≤ eb := by have := P4.out.1.size; have := P5.out.2; omega
  have hkw : Kept (fun _ => True) w w7 := by
    have h1 := (P4.out.1.alloc (.cells (agg 152 encZ) 94)).trans P6.out.2.2.1
    exact (h1.trans' P7.out.1 fun i hi _ => by omega).trans hk7
  have hrb7 : w7.heap[rb]? = some (.cells #[.int .i64 x0, .int .i64 y0, .int .i64 (x0 + wd), .int .i64 (y0 + hg)] 40 (0, 0)) := by
    have h1 := P4.out.2
    have hrbl := (Array.getElem?_eq_some_iff.1 h1).1
    have h2 := (((Kept.refl (fun _ => True) w4).alloc (.cells (agg 152 encZ) 94)).trans P6.out.2.2.1)
    have h3 := (h2.block rb hrbl trivial).trans h1
    have hre : rb ≠ eb := by have := P5.out.2; omega
    have h4 := (P7.out.1.block rb (Array.getElem?_eq_some_iff.1 h3).1 hre).trans h3
    exact (hk7.block rb (Array.getElem?_eq_some_iff.1 h4).1 trivial).trans h4
  have hlut7 : ∀ h, h < 4 → w7.rowIs (L h) 76 (lutLen h) (ints .u32 fun i => (lutN h i : Int)) := fun h hh =>
    hk7.row (P7.out.1.row (P6.out.1 h hh) (by have := P6.out.2.1 h hh; have := P5.out.1.lt; simp only [World.size_alloc] at *; omega)) trivial
  have hwbw := (Array.getElem?_eq_some_iff.1 HH.out.2.1).1
  have hsz : eb < fb := by have := P7.out.2.lt; omega
  have hoe : ob ≠ eb := by have := block_lt_of_cell HH.out.2.2.1; simp only at this; omega
  have d0 : w7.cell? ⟨eb, 0, none⟩ = some .nilIface := by rw [hr7.cell (by omega)]; rfl
  have d1 : w7.frozen? ⟨eb, 0, none⟩ = false := hr7.frozen _
  have d2 : w7.cell? ⟨ob, 0, none⟩ = some (.int .i64 q) := hkw.cellOf HH.out.2.2.1 trivial
  have hE8 : EncG ⟨wb, wb, bb, fb, lim⟩ eb (encB bb L) [] (w7.setCell ⟨eb, 0, none⟩ (.iface 97 (.pointer (some ⟨bb, 0, none⟩)))) := by
    have hwb7 := (hkw.block wb hwbw trivial).trans HH.out.2.1
    refine ⟨by show wb ≤ eb; omega, rfl, (hr7.set 0 _).congr fun j hj => ?_, ?_⟩
    · have h := lut_store bb L j hj
      unfold put1
      by_cases e1 : j = 1
      · subst e1; rfl
      · rw [if_neg e1]; exact h
    · refine ⟨⟨Nat.le_refl _, .slice none 0 0, ?_, World.ownsRow_nil _ _ _ _, by simp [Value.ownBlock]⟩, ?_, ⟨_, hrf.setOther (a := ⟨eb, 0, none⟩) (by show fb ≠ eb; omega) _, fun j hj => absurd hj (by simp)⟩, by simp, by show wb ≤ bb; omega, by show wb ≤ fb; omega, ?_, HB.out.2.2.2.2⟩
      · rw [blk_setCell_other _ _ _ _ (by show wb ≠ eb; omega)]; exact hwb7
      · rw [blk_setCell_other _ _ _ _ (by show bb ≠ eb; omega)]; exact hhb
      · by_cases h : lim < 0
        · exact .inl h
        · exact .inr (by simp; omega)
  have hkw8 : Kept (fun _ => True) w (w7.setCell ⟨eb, 0, none⟩ (.iface 97 (.pointer (some ⟨bb, 0, none⟩)))) := hkw.setCell (fun h => by simp only at h; omega) _
  have hrb8 : (w7.setCell ⟨eb, 0, none⟩ (.iface 97 (.pointer (some ⟨bb, 0, none⟩)))).heap[rb]? = some (.cells #[.int .i64 x0, .int .i64 y0, .int .i64 (x0 + wd), .int .i64 (y0 + hg)] 40 (0, 0)) := (blk_setCell_other _ ⟨eb, 0, none⟩ _ _ (type_ne hrb7 (rowIs_heap hr7) (by decide))).trans hrb7
  have hlut8 : ∀ h, h < 4 → (w7.setCell ⟨eb, 0, none⟩ (.iface 97 (.pointer (some ⟨bb, 0, none⟩)))).rowIs (L h) 76 (lutLen h) (ints .u32 fun i => (lutN h i : Int)) := fun h hh => (hlut7 h hh).setOther (a := ⟨eb, 0, none⟩) (type_ne (rowIs_heap (hlut7 h hh)) (rowIs_heap hr7) (by decide)) _
  have hLn : ∀ h, h < 4 → eb < L h ∧ L h < fb := fun h hh => by
    have h1 := P6.out.2.1 h hh
    have h2 := (P6.out.1 h hh).lt
    have h3 := P7.out.1.size
    have h4 := P5.out.2
    simp only [World.size_alloc] at h1
    omega
  have HE8 := Lib.hid (And.intro hE8 (And.intro hkw8 (And.intro hrb8 (And.intro hlut8 hLn))))
  have HNUM := Lib.hid (And.intro hew (And.intro hsz (And.intro hbb (And.intro hfb hoe))))
  clear hE8 hkw8 hkw hrb7 hlut7 hrb8 hlut8 hLn hr7 hrf hhb hk7 CN hbb hfb hew hsz P2 P3 P4 CB CX CY CL
  obtain ⟨sc, hsc⟩ : ∃ sc, scaleOf (qualOf q) = sc := ⟨_, rfl⟩
  have hscin := scale_in q
  rw [hsc] at hscin
  obtain ⟨Q, hQQ⟩ : ∃ Q, quantOf U (scaleOf (qualOf q)) = Q := ⟨_, rfl⟩
  have hQi : ∀ j, (Q j : Int) = elemOf (U j) sc := fun j => by rw [← hQQ, ← hsc]; exact quantOf_int U _ j
  have hQin : ∀ j, 1 ≤ Q j ∧ Q j ≤ 255 := fun j => by rw [← hQQ]; exact quantOf_in U _ j
  have HQ := Lib.hid (And.intro hQi (And.intro hQin hQQ))
  clear hQi hQin hQQ
  have hq4 : (q < 1 ∧ sc = 5000) ∨ (1 ≤ q ∧ 100 < q ∧ sc = 0) ∨ (1 ≤ q ∧ q ≤ 100 ∧ q < 50 ∧ 5000 / q = sc) ∨ (1 ≤ q ∧ q ≤ 100 ∧ 50 ≤ q ∧ 200 - q * 2 = sc) := by
    rw [← hsc]
    unfold scaleOf qualOf
    by_cases h1 : q < 1
    · exact .inl ⟨h1, by rw [if_pos h1]; rfl⟩
    · rw [if_neg h1]
      by_cases h2 : 100 < q
      · exact .inr (.inl ⟨by omega, h2, by rw [if_pos h2]; rfl⟩)
      · rw [if_neg h2]
        by_cases h3 : q < 50
        · exact .inr (.inr (.inl ⟨by omega, by omega, h3, by rw [if_pos h3]⟩))
        · exact .inr (.inr (.inr ⟨by omega, by omega, by omega, by rw [if_neg h3]⟩))
  have HSC := Lib.hid hsc
  clear hsc
  rcases hq4 with ⟨g1, g2⟩ | ⟨g1, g2, g3⟩ | ⟨g1, g2, g3, g4⟩ | ⟨g1, g2, g3, g4⟩
  · subst g2
    go_wp2_with fail
    obtain ⟨W8, hW8⟩ : ∃ W8, w7.setCell ⟨eb, 0, none⟩ (.iface 97 (.pointer (some ⟨bb, 0, none⟩))) = W8 := ⟨_, rfl⟩
    rw [hW8] at HE8 ⊢
    clear hW8 d0 d1 d2
    go_loopg [59] 2 (fun k s59 wr => ∃ i : Nat, i ≤ 2 ∧ k = 2 - i ∧ s59 = .int .i64 (i : Int) ∧ EncG ⟨wb, wb, bb, fb, lim⟩ eb (encQ bb L Q (64 * i)) [] wr ∧ Kept (fun k => k ≠ eb) W8 wr)
    case atStart =>
      refine ⟨0, by omega, rfl, rfl, HE8.out.1.congr fun j _ _ => ?_, Kept.refl _ _⟩
      unfold encQ; rw [if_neg (by omega)]
    case round =>
      obtain ⟨i, hi, rfl, rfl, hE, hK⟩ := hrel
      by_cases hlt : i < 2
      · have hid : decide ((i : Int) < 2) = true := by simp; omega
        have i0 : (0 : Int) ≤ (i : Int) := by omega
        have i1 : (i : Int) < 2 := by omega
        go_wp2_with fail
        go_loopg [62] 64 (fun k s62 wr => ∃ j : Nat, j ≤ 64 ∧ k = 64 - j ∧ s62 = .int .i64 (j : Int) ∧ EncG ⟨wb, wb, bb, fb, lim⟩ eb (encQ bb L Q (64 * i + j)) [] wr ∧ Kept (fun k => k ≠ eb) W8 wr)
        case atStart => exact ⟨0, by omega, rfl, rfl, hE, hK⟩
        case round =>
          clear hE hK
          obtain ⟨j, hj, rfl, rfl, hE, hK⟩ := hrel
          by_cases hlt2 : j < 64
          · obtain ⟨n, hn⟩ : ∃ n, 64 * i + j = n := ⟨_, rfl⟩
            have hn1 : n < 128 := by omega
            rw [hn] at hE
            have c0 : wr.cell? ⟨0, i * 64 + j, none⟩ = some (.int .u8 (U n : Int)) := by
              rw [show i * 64 + j = n by omega]
              exact hK.cellOf (HE8.out.2.1.cellOf (HH.out.2.2.2.1 n hn1) trivial) (by have := HNUM.out.1; have := HB.out.1; have := (Array.getElem?_eq_some_iff.1 HH.out.2.1).1; show 0 ≠ eb; omega)
            have c1 : wr.cell? ⟨eb, 20 + i * 64 + j, none⟩ = some (encQ bb L Q n (20 + n)) := by rw [show 20 + i * 64 + j = 20 + n by omega]; exact hE.cell (20 + n) (by omega) (by omega)
            have c2 : wr.frozen? ⟨eb, 20 + i * 64 + j, none⟩ = false := hE.frozen _
            have hu := hUs n
            have hqn := HQ.out.1 n
            have hstep : ∀ v, v = Value.int .u8 (Q n : Int) → EncG ⟨wb, wb, bb, fb, lim⟩ eb (encQ bb L Q (n + 1)) [] (wr.setCell ⟨eb, 20 + i * 64 + j, none⟩ v) ∧ Kept (fun k => k ≠ eb) W8 (wr.setCell ⟨eb, 20 + i * 64 + j, none⟩ v) := fun v hv => by
              rw [show 20 + i * 64 + j = 20 + n by omega]
              exact ⟨(hE.set (20 + n) (by omega) (by omega) v).congr fun m _ _ => encQ_step bb L Q n v hv m, hK.setCell (fun _ h => h rfl) _⟩
            obtain ⟨u, hun⟩ : ∃ u, U n = u := ⟨_, rfl⟩
            rw [hun] at c0 hu hqn
            obtain ⟨p, hp⟩ : ∃ p : Int, (u : Int) * 5000 = p := ⟨_, rfl⟩
            have hp0 : 0 ≤ p := by rw [← hp]; exact Int.mul_nonneg (by omega) hscin.1
            have hp1 : p ≤ 1275000 := by
              rw [← hp]
              have h1 := Int.mul_le_mul (show (u : Int) ≤ 255 by omega) hscin.2 hscin.1 (show (0 : Int) ≤ 255 by omega)
              omega
            unfold elemOf at hqn
            rw [hp] at hqn
            obtain ⟨x, hx⟩ : ∃ x : Int, (p + 50) / 100 = x := ⟨_, rfl⟩
            rw [hx] at hqn
            have hx0 : 0 ≤ x := by omega
            have hx1 : x ≤ 20000 := by omega
            obtain ⟨old, hold⟩ : ∃ old, encQ bb L Q n (20 + n) = old := ⟨_, rfl⟩
            rw [hold] at c1
            have HST := Lib.hid (And.intro hstep (And.intro hqn hn))
            have j0 : (0 : Int) ≤ (j : Int) := by omega
            have j1 : (j : Int) < 64 := by omega
            have ewp : IntKind.i64.wrap p = p := IntWalk.i64_in _ ⟨by omega, by omega⟩
            have ewu : IntKind.i64.wrap (u : Int) = (u : Int) := IntWalk.i64_in _ ⟨by omega, by omega⟩
            clear hE hK hstep hqn hold hun hn hu
            have hx3 : x < 1 ∨ (1 ≤ x ∧ 255 < x) ∨ (1 ≤ x ∧ x ≤ 255 ∧ IntKind.u8.wrap x = x) := by
              by_cases h1 : x < 1
              · exact .inl h1
              · by_cases h2 : 255 < x
                · exact .inr (.inl ⟨by omega, h2⟩)
                · exact .inr (.inr ⟨by omega, by omega, by simp only [IntKind.wrap_u8]; omega⟩)
            rcases hx3 with k1 | ⟨k1, k2⟩ | ⟨k1, k2, k3⟩ <;>
            · go_wp2_with fail
              go_roundg (64 - (j + 1))
              case measure => go_light; omega
              case rel =>
                go_light
                have hq := HST.out.2.1
                have hs := HST.out.1 _ (congrArg (Value.int .u8) hq.symm)
                have hnn := HST.out.2.2
                refine ⟨j + 1, by omega, rfl, by go_num, ?_⟩
                rw [show 64 * i + (j + 1) = n + 1 by omega]
                first
                  | (rw [if_pos (by omega)] at hs; exact hs)
                  | (rw [if_neg (by omega), if_pos (by omega)] at hs; exact hs)
                  | (rw [if_neg (by omega), if_neg (by omega)] at hs; exact hs)
          · obtain rfl : j = 64 := by omega
            have HSS := Lib.hid (And.intro hE hK)
            clear hE hK
            go_wp2_with fail
            go_roundg (2 - (i + 1))
            case measure => go_light; omega
            case rel =>
              go_light
              refine ⟨i + 1, by omega, rfl, by go_num, ?_, HSS.out.2⟩
              have h := HSS.out.1
              rw [show 64 * (i + 1) = 64 * i + 64 by omega]
              exact h
      · obtain rfl : i = 2 := by omega
        obtain ⟨G, hGG⟩ : ∃ G, encQ bb L Q (64 * 2) = G := ⟨_, rfl⟩
        rw [hGG] at hE
        have hGq : ∀ j, j < 128 → G (20 + j) = .int .u8 (Q j : Int) := fun j hj => by rw [← hGG]; unfold encQ; rw [if_pos (by omega), show 20 + j - 20 = j by omega]
        have hGl : ∀ h, h < 4 → G (148 + h) = lutSl L h := fun h hh => by rw [← hGG]; unfold encQ encB; rw [if_neg (by omega), if_neg (by omega), if_neg (by omega), if_neg (by omega), if_neg (by omega), if_neg (by omega), show 148 + h - 148 = h by omega]
        have hGr : G 18 = .int .u32 0 ∧ G 19 = .int .u32 0 := by rw [← hGG]; exact ⟨rfl, rfl⟩
        have x2 := hE.cell 2 (by omega) (by omega)
        have x3 := hE.cell 3 (by omega) (by omega)
        have xf := hE.frozen
        have hE1 := (hE.set 2 (by omega) (by omega) (.int .u8 255)).set 3 (by omega) (by omega) (.int .u8 216)
        have hK1 : Kept (fun k => k ≠ eb) W8 ((wr.setCell ⟨eb, 2, none⟩ (.int .u8 255)).setCell ⟨eb, 3, none⟩ (.int .u8 216)) := (hK.setCell (fun _ h => h rfl) _).setCell (fun _ h => h rfl) _
        have HT := Lib.hid (And.intro hE1 (And.intro hK1 (And.intro hGq (And.intro hGl (And.intro hGr HE8.out)))))
        clear hE hK hE1 hK1 hGq hGl hGr hGG
        go_wp2_with fail
        obtain ⟨hE1, hK1, hGq, hGl, hGr, _, hkw8, _, hlut7, _⟩ := HT.out
        have hrow1 := hE1.row.lt
        refine (write_hd _ eb _ [] [255, 216] eb 2 16 2 rfl _ hE1 (fun j hj => ?_) (by simp) (by simp)).mono ?_
        · simp only [List.length_cons, List.length_nil] at hj
          obtain rfl | rfl : j = 0 ∨ j = 1 := by omega
          · exact hE1.cell 2 (by omega) (by omega)
          · exact hE1.cell 3 (by omega) (by omega)
        rintro e w9 ⟨rfl, e9, k9⟩
        obtain ⟨G1, hG1⟩ : ∃ G1 : Nat → Value, (fun i => if i = 3 then Value.int .u8 216 else (fun i => if i = 2 then Value.int .u8 255 else G i) i) = G1 := ⟨_, rfl⟩
        rw [hG1] at e9
        have hG1s : ∀ j, 18 ≤ j → G1 j = G j := fun j hj => by rw [← hG1]; simp only; rw [if_neg (by omega), if_neg (by omega)]
        have P9 := Lib.hid (And.intro e9 (And.intro k9 hG1s))
        clear e9 k9 hG1s hG1 hE1 hK1 hGq hGl hGr hkw8 hlut7 x2 x3 xf
        go_wp2_with fail
        refine (dqt_hd _ eb Q G1 _ w9 P9.out.1 (fun j hj => by rw [P9.out.2.2 _ (by omega)]; exact HT.out.2.2.1 j hj) (by simp)).mono ?_
        rintro e w10 ⟨rfl, ⟨G2, hG2, e10⟩, k10⟩
        have P10 := Lib.hid (And.intro e10 (And.intro k10 hG2))
        clear e10 k10 hG2
        have hrbx : w10.heap[rb]? = some (.cells #[.int .i64 x0, .int .i64 y0, .int .i64 (x0 + wd), .int .i64 (y0 + hg)] 40 (0, 0)) := by
          have h8 := HE8.out.2.2.1
          have hrbe : rb ≠ eb := by
            have := type_ne h8 (rowIs_heap HE8.out.1.row) (by decide)
            exact this
          have h9 := (HT.out.2.1.block rb (Array.getElem?_eq_some_iff.1 h8).1 hrbe).trans h8
          have hhd : Ids.hd ⟨wb, wb, bb, fb, lim⟩ eb rb := by
            have he := HT.out.1
            obtain ⟨_, hfr, _⟩ := he.buf.row
            exact ⟨hrbe, type_ne h9 he.buf.bw (by decide), type_ne h9 (rowIs_heap hfr) (by decide)⟩
          have h10 := (P9.out.2.1.block rb (Array.getElem?_eq_some_iff.1 h9).1 hhd).trans h9
          exact (P10.out.2.1.block rb (Array.getElem?_eq_some_iff.1 h10).1 hhd).trans h10
        obtain ⟨r0, r1, r2, r3, r4⟩ := buf_cells hrbx
        have CS := Lib.hid (size_any x0 y0 wd hg w10 HS.out.x HS.out.y (by have := HS.out.w2; omega) (by have := HS.out.h2; omega))
        unfold rectV at CS
        clear hrbx
        go_wp2_with (go_at_call 41; (with_reducible refine CS.out.mono ?_); rintro e w11 ⟨rfl, k11⟩; have P11 := Lib.hid k11; clear k11)
        clear r0 r1 r2 r3 r4 CS
        have hl2 : ([] ++ [255, 216] ++ (mkr 219 132 ++ qs Q 2)).length = 136 := by simp only [List.length_append, mkr_len, qs_len]; rfl
        refine (sof_hd1 _ eb G2 _ wd hg w11 (P10.out.1.all P11.out) (by rw [hl2]; omega) (by have := HS.out.w2; omega) (by have := HS.out.h2; omega)).mono ?_
        rintro e w12 ⟨rfl, ⟨G3, hG3, e12⟩, k12⟩
        have P12 := Lib.hid (And.intro e12 (And.intro k12 hG3))
        clear e12 k12 hG3
        go_wp2_with fail
        have hl3 : ([] ++ [255, 216] ++ (mkr 219 132 ++ qs Q 2) ++ (mkr 192 11 ++ sofB wd hg 1)).length = 149 := by rw [List.length_append, hl2]; rfl
        refine (dht_hd1 _ eb G3 _ w12 P12.out.1 (by rw [hl3]; omega)).mono ?_
        rintro e w13 ⟨rfl, ⟨G4, hG4, e13⟩, k13⟩
        have P13 := Lib.hid (And.intro e13 (And.intro k13 hG4))
        clear e13 k13 hG4
        go_wp2_with fail
        have hTT : [] ++ [255, 216] ++ (mkr 219 132 ++ qs Q 2) ++ (mkr 192 11 ++ sofB wd hg 1) ++ (mkr 196 210 ++ dhts 2) = hdrG Q wd hg := rfl
        rw [hTT] at P13
        have hb1 := HNUM.out.1
        have hb2 := HNUM.out.2.1
        have hb3 := HNUM.out.2.2.1
        have hwbw := (Array.getElem?_eq_some_iff.1 HH.out.2.1).1
        obtain ⟨g8, gbi, gbp, _, _⟩ := HB.out
        have K13 : Kept (fun k => k < w.heap.size) w w13 := by
          have hhd : ∀ i, i < w.heap.size → Ids.hd ⟨wb, wb, bb, fb, lim⟩ eb i := fun i hi => ⟨by omega, by show i ≠ bb; omega, by show i ≠ fb; omega⟩
          have h1 : Kept (fun k => k < w.heap.size) w W8 := HE8.out.2.1.mono fun _ _ _ => trivial
          have h2 := h1.trans (HT.out.2.1.mono fun i _ hi => by omega)
          have h3 := h2.trans (P9.out.2.1.mono fun i _ hi => hhd i hi)
          have h4 := h3.trans (P10.out.2.1.mono fun i _ hi => hhd i hi)
          have h5 := h4.trans (P11.out.mono fun _ _ _ => trivial)
          have h6 := h5.trans (P12.out.2.1.mono fun i _ hi => hhd i hi)
          exact h6.trans (P13.out.2.1.mono fun i _ hi => hhd i hi)
        have hG4 : ∀ j, 18 ≤ j → G4 j = G j := fun j hj => by
          rw [P13.out.2.2 j (by omega), P12.out.2.2 j (by omega), P10.out.2.2 j (by omega), P9.out.2.2 j hj]
        have hV13 : Env ⟨wb, wb, bb, fb, lim⟩ eb Q L G4 w13 := by
          refine ⟨⟨fun j hj => by rw [hG4 _ (by omega)]; exact HT.out.2.2.1 j hj, HQ.out.2.1, fun h hh => by rw [hG4 _ (by omega)]; exact HT.out.2.2.2.1 h hh, fun h hh => ?_, fun h hh => ?_, ⟨g8, Nat.le_refl _, by show wb ≤ bb; omega, by show wb ≤ eb; omega⟩⟩, fun i hi => K13.cellOf (HH.out.2.2.2.2.1 i hi) (by show 3 < w.heap.size; omega), fun i hi => K13.cellOf (HH.out.2.2.2.2.2 i hi) (by show 2 < w.heap.size; omega)⟩
          · have hL := HE8.out.2.2.2.2 h hh
            rintro (e | e | e)
            · have e' : L h = wb := e
              omega
            · have e' : L h = bb := e
              omega
            · omega
          · have hL := HE8.out.2.2.2.2 h hh
            have hhd : Ids.hd ⟨wb, wb, bb, fb, lim⟩ eb (L h) := ⟨by omega, by show L h ≠ bb; omega, by show L h ≠ fb; omega⟩
            exact P13.out.2.1.row (P12.out.2.1.row (P11.out.row (P10.out.2.1.row (P9.out.2.1.row (HT.out.2.1.row (HE8.out.2.2.2.1 h hh) (by omega)) hhd) hhd) trivial) hhd) hhd
        have hG13 : GrayAt bi bp x0 y0 wd hg P w13 := HH.out.1.kept K13 (by omega) (by omega)
        have hz := hdrG_len Q wd hg
        have hsz13 := K13.size
        have hE13 := P13.out.1
        refine (sosGray_any ⟨wb, wb, bb, fb, lim⟩ eb Q L G4 _ bi bp x0 y0 wd hg P w13 hE13 (by rw [hG4 _ (by omega)]; exact HT.out.2.2.2.2.1.1) (by rw [hG4 _ (by omega)]; exact HT.out.2.2.2.2.1.2) hV13 hG13 HS.out gbi gbp (by omega) ⟨by show wb < _; omega, (Array.getElem?_eq_some_iff.1 hE13.buf.bw).1, hE13.row.lt⟩).mono ?_
        rintro e w14 ⟨rfl, e14, k14⟩
        have hzl := grayScan_len Q P HS.out.w1 HS.out.h1 HS.out.n (hdrG Q wd hg ++ sosY, 0, 0) (by simp only [List.length_append]; have : sosY.length = 10 := rfl; omega)
        obtain ⟨S, hSS⟩ : ∃ S, grayScan Q wd hg P (hdrG Q wd hg ++ sosY, 0, 0) = S := ⟨_, rfl⟩
        rw [hSS] at e14 hzl
        have hstr : streamG Q wd hg P = S.1 ++ [255, 217] := by rw [← hSS]; rfl
        have y2 := EncIs.cell e14 2 (by omega) (by omega)
        have y3 := EncIs.cell e14 3 (by omega) (by omega)
        have yf := EncIs.frozen e14
        have e15 := (EncIs.set e14 2 (by omega) (by omega) (.int .u8 255)).set 3 (by omega) (by omega) (.int .u8 217)
        have HU := Lib.hid (And.intro K13 (And.intro k14 (And.intro e15 (And.intro hstr hzl))))
        clear K13 hV13 hG13 hE13 e14 k14 e15 hstr hSS hz hzl hG4 hsz13 hTT hl2 hl3
        go_wp2_with fail
        refine (write_eoi ⟨wb, wb, bb, fb, lim⟩ eb _ S.1 255 217 _ HU.out.2.2.1 rfl rfl (by have := HU.out.2.2.2.2; omega)).mono ?_
        rintro e w16 ⟨rfl, e16, k16⟩
        have P16 := Lib.hid (And.intro e16 k16)
        clear e16 k16 y2 y3 yf
        go_wp2_with fail
        refine (flush_enc ⟨wb, wb, bb, fb, lim⟩ eb _ (S.1 ++ [255, 217]) w16 P16.out.1 (by have := HU.out.2.2.2.2; simp only [List.length_append, List.length_cons, List.length_nil]; omega)).mono ?_
        rintro e w17 ⟨rfl, e17, k17⟩
        have HF := Lib.hid (And.intro e17 k17)
        clear e17 k17
        have hfr : Fr wb (fun k => k = wb) w w17 := by
          have h1 : Fr wb (fun k => k = wb) w w13 := Fr.ofKept (HU.out.1.mono fun i hi _ => hi)
          have h2 : Fr wb (Ids.all ⟨wb, wb, bb, fb, lim⟩ eb) w13 w17 := ((HU.out.2.1.setCell (.inr (.inr rfl)) _).setCell (.inr (.inr rfl)) _ |>.trans P16.out.2).trans HF.out.2
          refine h1.transNew h2 fun i hi e => ?_
          rcases e with e | e | e
          · exact e
          · have e' : i = bb := e
            omega
          · omega
        have hstr := HU.out.2.2.2.1
        have HR := Lib.hid (And.intro hfr hstr)
        clear hfr hstr
        have hQr := HQ.out.2.2
        by_cases hgood : lim < 0 ∨ (((S.1 ++ [255, 217]).length : Nat) : Int) ≤ lim
        · have hf := HF.out.1.good hgood
          have t1 := hf.1
          have HX := Lib.hid (And.intro hf.2 hgood)
          clear hf hgood hQr
          go_wp2_with fail
          go_ret
          refine ⟨false, rfl, fun _ => ⟨rfl, fb, ?_⟩, fun h1 h2 => ?_, HR.out.1⟩
          · rw [HQ.out.2.2, HR.out.2]; exact HX.out.1
          · rw [HQ.out.2.2, HR.out.2] at h2
            have := HX.out.2
            omega
        · have hf := HF.out.1.bad (by show 0 ≤ lim; omega) (by show lim < _; omega)
          have t1 := hf.1
          have HX := Lib.hid (And.intro hf.2 hgood)
          clear hf hgood hQr
          go_wp2_with fail
          go_ret
          refine ⟨true, rfl, fun h => ?_, fun h1 h2 => ⟨rfl, fb, ?_⟩, HR.out.1⟩
          · rw [HQ.out.2.2, HR.out.2] at h
            exact absurd h HX.out.2
          · rw [HQ.out.2.2, HR.out.2]; exact HX.out.1
  · subst g3
    go_wp2_with fail
    obtain ⟨W8, hW8⟩ : ∃ W8, w7.setCell ⟨eb, 0, none⟩ (.iface 97 (.pointer (some ⟨bb, 0, none⟩))) = W8 := ⟨_, rfl⟩
    rw [hW8] at HE8 ⊢
    clear hW8 d0 d1 d2
    go_loopg [59] 2 (fun k s59 wr => ∃ i : Nat, i ≤ 2 ∧ k = 2 - i ∧ s59 = .int .i64 (i : Int) ∧ EncG ⟨wb, wb, bb, fb, lim⟩ eb (encQ bb L Q (64 * i)) [] wr ∧ Kept (fun k => k ≠ eb) W8 wr)
    case atStart =>
      refine ⟨0, by omega, rfl, rfl, HE8.out.1.congr fun j _ _ => ?_, Kept.refl _ _⟩
      unfold encQ; rw [if_neg (by omega)]
    case round =>
      obtain ⟨i, hi, rfl, rfl, hE, hK⟩ := hrel
      by_cases hlt : i < 2
      · have hid : decide ((i : Int) < 2) = true := by simp; omega
        have i0 : (0 : Int) ≤ (i : Int) := by omega
        have i1 : (i : Int) < 2 := by omega
        go_wp2_with fail
        go_loopg [62] 64 (fun k s62 wr => ∃ j : Nat, j ≤ 64 ∧ k = 64 - j ∧ s62 = .int .i64 (j : Int) ∧ EncG ⟨wb, wb, bb, fb, lim⟩ eb (encQ bb L Q (64 * i + j)) [] wr ∧ Kept (fun k => k ≠ eb) W8 wr)
        case atStart => exact ⟨0, by omega, rfl, rfl, hE, hK⟩
        case round =>
          clear hE hK
          obtain ⟨j, hj, rfl, rfl, hE, hK⟩ := hrel
          by_cases hlt2 : j < 64
          · obtain ⟨n, hn⟩ : ∃ n, 64 * i + j = n := ⟨_, rfl⟩
            have hn1 : n < 128 := by omega
            rw [hn] at hE
            have c0 : wr.cell? ⟨0, i * 64 + j, none⟩ = some (.int .u8 (U n : Int)) := by
              rw [show i * 64 + j = n by omega]
              exact hK.cellOf (HE8.out.2.1.cellOf (HH.out.2.2.2.1 n hn1) trivial) (by have := HNUM.out.1; have := HB.out.1; have := (Array.getElem?_eq_some_iff.1 HH.out.2.1).1; show 0 ≠ eb; omega)
            have c1 : wr.cell? ⟨eb, 20 + i * 64 + j, none⟩ = some (encQ bb L Q n (20 + n)) := by rw [show 20 + i * 64 + j = 20 + n by omega]; exact hE.cell (20 + n) (by omega) (by omega)
            have c2 : wr.frozen? ⟨eb, 20 + i * 64 + j, none⟩ = false := hE.frozen _
            have hu := hUs n
            have hqn := HQ.out.1 n
            have hstep : ∀ v, v = Value.int .u8 (Q n : Int) → EncG ⟨wb, wb, bb, fb, lim⟩ eb (encQ bb L Q (n + 1)) [] (wr.setCell ⟨eb, 20 + i * 64 + j, none⟩ v) ∧ Kept (fun k => k ≠ eb) W8 (wr.setCell ⟨eb, 20 + i * 64 + j, none⟩ v) := fun v hv => by
              rw [show 20 + i * 64 + j = 20 + n by omega]
              exact ⟨(hE.set (20 + n) (by omega) (by omega) v).congr fun m _ _ => encQ_step bb L Q n v hv m, hK.setCell (fun _ h => h rfl) _⟩
            obtain ⟨u, hun⟩ : ∃ u, U n = u := ⟨_, rfl⟩
            rw [hun] at c0 hu hqn
            obtain ⟨p, hp⟩ : ∃ p : Int, (u : Int) * 0 = p := ⟨_, rfl⟩
            have hp0 : 0 ≤ p := by rw [← hp]; exact Int.mul_nonneg (by omega) hscin.1
            have hp1 : p ≤ 1275000 := by
              rw [← hp]
              have h1 := Int.mul_le_mul (show (u : Int) ≤ 255 by omega) hscin.2 hscin.1 (show (0 : Int) ≤ 255 by omega)
              omega
            unfold elemOf at hqn
            rw [hp] at hqn
            obtain ⟨x, hx⟩ : ∃ x : Int, (p + 50) / 100 = x := ⟨_, rfl⟩
            rw [hx] at hqn
            have hx0 : 0 ≤ x := by omega
            have hx1 : x ≤ 20000 := by omega
            obtain ⟨old, hold⟩ : ∃ old, encQ bb L Q n (20 + n) = old := ⟨_, rfl⟩
            rw [hold] at c1
            have HST := Lib.hid (And.intro hstep (And.intro hqn hn))
            have j0 : (0 : Int) ≤ (j : Int) := by omega
            have j1 : (j : Int) < 64 := by omega
            have ewp : IntKind.i64.wrap p = p := IntWalk.i64_in _ ⟨by omega, by omega⟩
            have ewu : IntKind.i64.wrap (u : Int) = (u : Int) := IntWalk.i64_in _ ⟨by omega, by omega⟩
            clear hE hK hstep hqn hold hun hn hu
            have hx3 : x < 1 ∨ (1 ≤ x ∧ 255 < x) ∨ (1 ≤ x ∧ x ≤ 255 ∧ IntKind.u8.wrap x = x) := by
              by_cases h1 : x < 1
              · exact .inl h1
              · by_cases h2 : 255 < x
                · exact .inr (.inl ⟨by omega, h2⟩)
                · exact .inr (.inr ⟨by omega, by omega, by simp only [IntKind.wrap_u8]; omega⟩)
            rcases hx3 with k1 | ⟨k1, k2⟩ | ⟨k1, k2, k3⟩ <;> try (exfalso; omega)
            · go_wp2_with fail
              go_roundg (64 - (j + 1))
              case measure => go_light; omega
              case rel =>
                go_light
                have hq := HST.out.2.1
                have hs := HST.out.1 _ (congrArg (Value.int .u8) hq.symm)
                have hnn := HST.out.2.2
                refine ⟨j + 1, by omega, rfl, by go_num, ?_⟩
                rw [show 64 * i + (j + 1) = n + 1 by omega]
                first
                  | (rw [if_pos (by omega)] at hs; exact hs)
                  | (rw [if_neg (by omega), if_pos (by omega)] at hs; exact hs)
                  | (rw [if_neg (by omega), if_neg (by omega)] at hs; exact hs)
          · obtain rfl : j = 64 := by omega
            have HSS := Lib.hid (And.intro hE hK)
            clear hE hK
            go_wp2_with fail
            go_roundg (2 - (i + 1))
            case measure => go_light; omega
            case rel =>
              go_light
              refine ⟨i + 1, by omega, rfl, by go_num, ?_, HSS.out.2⟩
              have h := HSS.out.1
              rw [show 64 * (i + 1) = 64 * i + 64 by omega]
              exact h
      · obtain rfl : i = 2 := by omega
        obtain ⟨G, hGG⟩ : ∃ G, encQ bb L Q (64 * 2) = G := ⟨_, rfl⟩
        rw [hGG] at hE
        have hGq : ∀ j, j < 128 → G (20 + j) = .int .u8 (Q j : Int) := fun j hj => by rw [← hGG]; unfold encQ; rw [if_pos (by omega), show 20 + j - 20 = j by omega]
        have hGl : ∀ h, h < 4 → G (148 + h) = lutSl L h := fun h hh => by rw [← hGG]; unfold encQ encB; rw [if_neg (by omega), if_neg (by omega), if_neg (by omega), if_neg (by omega), if_neg (by omega), if_neg (by omega), show 148 + h - 148 = h by omega]
        have hGr : G 18 = .int .u32 0 ∧ G 19 = .int .u32 0 := by rw [← hGG]; exact ⟨rfl, rfl⟩
        have x2 := hE.cell 2 (by omega) (by omega)
        have x3 := hE.cell 3 (by omega) (by omega)
        have xf := hE.frozen
        have hE1 := (hE.set 2 (by omega) (by omega) (.int .u8 255)).set 3 (by omega) (by omega) (.int .u8 216)
        have hK1 : Kept (fun k => k ≠ eb) W8 ((wr.setCell ⟨eb, 2, none⟩ (.int .u8 255)).setCell ⟨eb, 3, none⟩ (.int .u8 216)) := (hK.setCell (fun _ h => h rfl) _).setCell (fun _ h => h rfl) _
        have HT := Lib.hid (And.intro hE1 (And.intro hK1 (And.intro hGq (And.intro hGl (And.intro hGr HE8.out)))))
        clear hE hK hE1 hK1 hGq hGl hGr hGG
        go_wp2_with fail
        obtain ⟨hE1, hK1, hGq, hGl, hGr, _, hkw8, _, hlut7, _⟩ := HT.out
        have hrow1 := hE1.row.lt
        refine (write_hd _ eb _ [] [255, 216] eb 2 16 2 rfl _ hE1 (fun j hj => ?_) (by simp) (by simp)).mono ?_
        · simp only [List.length_cons, List.length_nil] at hj
          obtain rfl | rfl : j = 0 ∨ j = 1 := by omega
          · exact hE1.cell 2 (by omega) (by omega)
          · exact hE1.cell 3 (by omega) (by omega)
        rintro e w9 ⟨rfl, e9, k9⟩
        obtain ⟨G1, hG1⟩ : ∃ G1 : Nat → Value, (fun i => if i = 3 then Value.int .u8 216 else (fun i => if i = 2 then Value.int .u8 255 else G i) i) = G1 := ⟨_, rfl⟩
        rw [hG1] at e9
        have hG1s : ∀ j, 18 ≤ j → G1 j = G j := fun j hj => by rw [← hG1]; simp only; rw [if_neg (by omega), if_neg (by omega)]
        have P9 := Lib.hid (And.intro e9 (And.intro k9 hG1s))
        clear e9 k9 hG1s hG1 hE1 hK1 hGq hGl hGr hkw8 hlut7 x2 x3 xf
        go_wp2_with fail
        refine (dqt_hd _ eb Q G1 _ w9 P9.out.1 (fun j hj => by rw [P9.out.2.2 _ (by omega)]; exact HT.out.2.2.1 j hj) (by simp)).mono ?_
        rintro e w10 ⟨rfl, ⟨G2, hG2, e10⟩, k10⟩
        have P10 := Lib.hid (And.intro e10 (And.intro k10 hG2))
        clear e10 k10 hG2
        have hrbx : w10.heap[rb]? = some (.cells #[.int .i64 x0, .int .i64 y0, .int .i64 (x0 + wd), .int .i64 (y0 + hg)] 40 (0, 0)) := by
          have h8 := HE8.out.2.2.1
          have hrbe : rb ≠ eb := by
            have := type_ne h8 (rowIs_heap HE8.out.1.row) (by decide)
            exact this
          have h9 := (HT.out.2.1.block rb (Array.getElem?_eq_some_iff.1 h8).1 hrbe).trans h8
          have hhd : Ids.hd ⟨wb, wb, bb, fb, lim⟩ eb rb := by
            have he := HT.out.1
            obtain ⟨_, hfr, _⟩ := he.buf.row
            exact ⟨hrbe, type_ne h9 he.buf.bw (by decide), type_ne h9 (rowIs_heap hfr) (by decide)⟩
          have h10 := (P9.out.2.1.block rb (Array.getElem?_eq_some_iff.1 h9).1 hhd).trans h9
          exact (P10.out.2.1.block rb (Array.getElem?_eq_some_iff.1 h10).1 hhd).trans h10
        obtain ⟨r0, r1, r2, r3, r4⟩ := buf_cells hrbx
        have CS := Lib.hid (size_any x0 y0 wd hg w10 HS.out.x HS.out.y (by have := HS.out.w2; omega) (by have := HS.out.h2; omega))
        unfold rectV at CS
        clear hrbx
        go_wp2_with (go_at_call 41; (with_reducible refine CS.out.mono ?_); rintro e w11 ⟨rfl, k11⟩; have P11 := Lib.hid k11; clear k11)
        clear r0 r1 r2 r3 r4 CS
        have hl2 : ([] ++ [255, 216] ++ (mkr 219 132 ++ qs Q 2)).length = 136 := by simp only [List.length_append, mkr_len, qs_len]; rfl
        refine (sof_hd1 _ eb G2 _ wd hg w11 (P10.out.1.all P11.out) (by rw [hl2]; omega) (by have := HS.out.w2; omega) (by have := HS.out.h2; omega)).mono ?_
        rintro e w12 ⟨rfl, ⟨G3, hG3, e12⟩, k12⟩
        have P12 := Lib.hid (And.intro e12 (And.intro k12 hG3))
        clear e12 k12 hG3
        go_wp2_with fail
        have hl3 : ([] ++ [255, 216] ++ (mkr 219 132 ++ qs Q 2) ++ (mkr 192 11 ++ sofB wd hg 1)).length = 149 := by rw [List.length_append, hl2]; rfl
        refine (dht_hd1 _ eb G3 _ w12 P12.out.1 (by rw [hl3]; omega)).mono ?_
        rintro e w13 ⟨rfl, ⟨G4, hG4, e13⟩, k13⟩
        have P13 := Lib.hid (And.intro e13 (And.intro k13 hG4))
        clear e13 k13 hG4
        go_wp2_with fail
        have hTT : [] ++ [255, 216] ++ (mkr 219 132 ++ qs Q 2) ++ (mkr 192 11 ++ sofB wd hg 1) ++ (mkr 196 210 ++ dhts 2) = hdrG Q wd hg := rfl
        rw [hTT] at P13
        have hb1 := HNUM.out.1
        have hb2 := HNUM.out.2.1
        have hb3 := HNUM.out.2.2.1
        have hwbw := (Array.getElem?_eq_some_iff.1 HH.out.2.1).1
        obtain ⟨g8, gbi, gbp, _, _⟩ := HB.out
        have K13 : Kept (fun k => k < w.heap.size) w w13 := by
          have hhd : ∀ i, i < w.heap.size → Ids.hd ⟨wb, wb, bb, fb, lim⟩ eb i := fun i hi => ⟨by omega, by show i ≠ bb; omega, by show i ≠ fb; omega⟩
          have h1 : Kept (fun k => k < w.heap.size) w W8 := HE8.out.2.1.mono fun _ _ _ => trivial
          have h2 := h1.trans (HT.out.2.1.mono fun i _ hi => by omega)
          have h3 := h2.trans (P9.out.2.1.mono fun i _ hi => hhd i hi)
          have h4 := h3.trans (P10.out.2.1.mono fun i _ hi => hhd i hi)
          have h5 := h4.trans (P11.out.mono fun _ _ _ => trivial)
          have h6 := h5.trans (P12.out.2.1.mono fun i _ hi => hhd i hi)
          exact h6.trans (P13.out.2.1.mono fun i _ hi => hhd i hi)
        have hG4 : ∀ j, 18 ≤ j → G4 j = G j := fun j hj => by
          rw [P13.out.2.2 j (by omega), P12.out.2.2 j (by omega), P10.out.2.2 j (by omega), P9.out.2.2 j hj]
        have hV13 : Env ⟨wb, wb, bb, fb, lim⟩ eb Q L G4 w13 := by
          refine ⟨⟨fun j hj => by rw [hG4 _ (by omega)]; exact HT.out.2.2.1 j hj, HQ.out.2.1, fun h hh => by rw [hG4 _ (by omega)]; exact HT.out.2.2.2.1 h hh, fun h hh => ?_, fun h hh => ?_, ⟨g8, Nat.le_refl _, by show wb ≤ bb; omega, by show wb ≤ eb; omega⟩⟩, fun i hi => K13.cellOf (HH.out.2.2.2.2.1 i hi) (by show 3 < w.heap.size; omega), fun i hi => K13.cellOf (HH.out.2.2.2.2.2 i hi) (by show 2 < w.heap.size; omega)⟩
          · have hL := HE8.out.2.2.2.2 h hh
            rintro (e | e | e)
            · have e' : L h = wb := e
              omega
            · have e' : L h = bb := e
              omega
            · omega
          · have hL := HE8.out.2.2.2.2 h hh
            have hhd : Ids.hd ⟨wb, wb, bb, fb, lim⟩ eb (L h) := ⟨by omega, by show L h ≠ bb; omega, by show L h ≠ fb; omega⟩
            exact P13.out.2.1.row (P12.out.2.1.row (P11.out.row (P10.out.2.1.row (P9.out.2.1.row (HT.out.2.1.row (HE8.out.2.2.2.1 h hh) (by omega)) hhd) hhd) trivial) hhd) hhd
        have hG13 : GrayAt bi bp x0 y0 wd hg P w13 := HH.out.1.kept K13 (by omega) (by omega)
        have hz := hdrG_len Q wd hg
        have hsz13 := K13.size
        have hE13 := P13.out.1
        refine (sosGray_any ⟨wb, wb, bb, fb, lim⟩ eb Q L G4 _ bi bp x0 y0 wd hg P w13 hE13 (by rw [hG4 _ (by omega)]; exact HT.out.2.2.2.2.1.1) (by rw [hG4 _ (by omega)]; exact HT.out.2.2.2.2.1.2) hV13 hG13 HS.out gbi gbp (by omega) ⟨by show wb < _; omega, (Array.getElem?_eq_some_iff.1 hE13.buf.bw).1, hE13.row.lt⟩).mono ?_
        rintro e w14 ⟨rfl, e14, k14⟩
        have hzl := grayScan_len Q P HS.out.w1 HS.out.h1 HS.out.n (hdrG Q wd hg ++ sosY, 0, 0) (by simp only [List.length_append]; have : sosY.length = 10 := rfl; omega)
        obtain ⟨S, hSS⟩ : ∃ S, grayScan Q wd hg P (hdrG Q wd hg ++ sosY, 0, 0) = S := ⟨_, rfl⟩
        rw [hSS] at e14 hzl
        have hstr : streamG Q wd hg P = S.1 ++ [255, 217] := by rw [← hSS]; rfl
        have y2 := EncIs.cell e14 2 (by omega) (by omega)
        have y3 := EncIs.cell e14 3 (by omega) (by omega)
        have yf := EncIs.frozen e14
        have e15 := (EncIs.set e14 2 (by omega) (by omega) (.int .u8 255)).set 3 (by omega) (by omega) (.int .u8 217)
        have HU := Lib.hid (And.intro K13 (And.intro k14 (And.intro e15 (And.intro hstr hzl))))
        clear K13 hV13 hG13 hE13 e14 k14 e15 hstr hSS hz hzl hG4 hsz13 hTT hl2 hl3
        go_wp2_with fail
        refine (write_eoi ⟨wb, wb, bb, fb, lim⟩ eb _ S.1 255 217 _ HU.out.2.2.1 rfl rfl (by have := HU.out.2.2.2.2; omega)).mono ?_
        rintro e w16 ⟨rfl, e16, k16⟩
        have P16 := Lib.hid (And.intro e16 k16)
        clear e16 k16 y2 y3 yf
        go_wp2_with fail
        refine (flush_enc ⟨wb, wb, bb, fb, lim⟩ eb _ (S.1 ++ [255, 217]) w16 P16.out.1 (by have := HU.out.2.2.2.2; simp only [List.length_append, List.length_cons, List.length_nil]; omega)).mono ?_
        rintro e w17 ⟨rfl, e17, k17⟩
        have HF := Lib.hid (And.intro e17 k17)
        clear e17 k17
        have hfr : Fr wb (fun k => k = wb) w w17 := by
          have h1 : Fr wb (fun k => k = wb) w w13 := Fr.ofKept (HU.out.1.mono fun i hi _ => hi)
          have h2 : Fr wb (Ids.all ⟨wb, wb, bb, fb, lim⟩ eb) w13 w17 := ((HU.out.2.1.setCell (.inr (.inr rfl)) _).setCell (.inr (.inr rfl)) _ |>.trans P16.out.2).trans HF.out.2
          refine h1.transNew h2 fun i hi e => ?_
          rcases e with e | e | e
          · exact e
          · have e' : i = bb := e
            omega
          · omega
        have hstr := HU.out.2.2.2.1
        have HR := Lib.hid (And.intro hfr hstr)
        clear hfr hstr
        have hQr := HQ.out.2.2
        by_cases hgood : lim < 0 ∨ (((S.1 ++ [255, 217]).length : Nat) : Int) ≤ lim
        · have hf := HF.out.1.good hgood
          have t1 := hf.1
          have HX := Lib.hid (And.intro hf.2 hgood)
          clear hf hgood hQr
          go_wp2_with fail
          go_ret
          refine ⟨false, rfl, fun _ => ⟨rfl, fb, ?_⟩, fun h1 h2 => ?_, HR.out.1⟩
          · rw [HQ.out.2.2, HR.out.2]; exact HX.out.1
          · rw [HQ.out.2.2, HR.out.2] at h2
            have := HX.out.2
            omega
        · have hf := HF.out.1.bad (by show 0 ≤ lim; omega) (by show lim < _; omega)
          have t1 := hf.1
          have HX := Lib.hid (And.intro hf.2 hgood)
          clear hf hgood hQr
          go_wp2_with fail
          go_ret
          refine ⟨true, rfl, fun h => ?_, fun h1 h2 => ⟨rfl, fb, ?_⟩, HR.out.1⟩
          · rw [HQ.out.2.2, HR.out.2] at h
            exact absurd h HX.out.2
          · rw [HQ.out.2.2, HR.out.2]; exact HX.out.1
  · skip
    go_wp2_with fail
    obtain ⟨W8, hW8⟩ : ∃ W8, w7.setCell ⟨eb, 0, none⟩ (.iface 97 (.pointer (some ⟨bb, 0, none⟩))) = W8 := ⟨_, rfl⟩
    rw [hW8] at HE8 ⊢
    clear hW8 d0 d1 d2
    go_loopg [59] 2 (fun k s59 wr => ∃ i : Nat, i ≤ 2 ∧ k = 2 - i ∧ s59 = .int .i64 (i : Int) ∧ EncG ⟨wb, wb, bb, fb, lim⟩ eb (encQ bb L Q (64 * i)) [] wr ∧ Kept (fun k => k ≠ eb) W8 wr)
    case atStart =>
      refine ⟨0, by omega, rfl, rfl, HE8.out.1.congr fun j _ _ => ?_, Kept.refl _ _⟩
      unfold encQ; rw [if_neg (by omega)]
    case round =>
      obtain ⟨i, hi, rfl, rfl, hE, hK⟩ := hrel
      by_cases hlt : i < 2
      · have hid : decide ((i : Int) < 2) = true := by simp; omega
        have i0 : (0 : Int) ≤ (i : Int) := by omega
        have i1 : (i : Int) < 2 := by omega
        go_wp2_with fail
        go_loopg [62] 64 (fun k s62 wr => ∃ j : Nat, j ≤ 64 ∧ k = 64 - j ∧ s62 = .int .i64 (j : Int) ∧ EncG ⟨wb, wb, bb, fb, lim⟩ eb (encQ bb L Q (64 * i + j)) [] wr ∧ Kept (fun k => k ≠ eb) W8 wr)
        case atStart => exact ⟨0, by omega, rfl, rfl, hE, hK⟩
        case round =>
          clear hE hK
          obtain ⟨j, hj, rfl, rfl, hE, hK⟩ := hrel
          by_cases hlt2 : j < 64
          · obtain ⟨n, hn⟩ : ∃ n, 64 * i + j = n := ⟨_, rfl⟩
            have hn1 : n < 128 := by omega
            rw [hn] at hE
            have c0 : wr.cell? ⟨0, i * 64 + j, none⟩ = some (.int .u8 (U n : Int)) := by
              rw [show i * 64 + j = n by omega]
              exact hK.cellOf (HE8.out.2.1.cellOf (HH.out.2.2.2.1 n hn1) trivial) (by have := HNUM.out.1; have := HB.out.1; have := (Array.getElem?_eq_some_iff.1 HH.out.2.1).1; show 0 ≠ eb; omega)
            have c1 : wr.cell? ⟨eb, 20 + i * 64 + j, none⟩ = some (encQ bb L Q n (20 + n)) := by rw [show 20 + i * 64 + j = 20 + n by omega]; exact hE.cell (20 + n) (by omega) (by omega)
            have c2 : wr.frozen? ⟨eb, 20 + i * 64 + j, none⟩ = false := hE.frozen _
            have hu := hUs n
            have hqn := HQ.out.1 n
            have hstep : ∀ v, v = Value.int .u8 (Q n : Int) → EncG ⟨wb, wb, bb, fb, lim⟩ eb (encQ bb L Q (n + 1)) [] (wr.setCell ⟨eb, 20 + i * 64 + j, none⟩ v) ∧ Kept (fun k => k ≠ eb) W8 (wr.setCell ⟨eb, 20 + i * 64 + j, none⟩ v) := fun v hv => by
              rw [show 20 + i * 64 + j = 20 + n by omega]
              exact ⟨(hE.set (20 + n) (by omega) (by omega) v).congr fun m _ _ => encQ_step bb L Q n v hv m, hK.setCell (fun _ h => h rfl) _⟩
            obtain ⟨u, hun⟩ : ∃ u, U n = u := ⟨_, rfl⟩
            rw [hun] at c0 hu hqn
            obtain ⟨p, hp⟩ : ∃ p : Int, (u : Int) * sc = p := ⟨_, rfl⟩
            have hp0 : 0 ≤ p := by rw [← hp]; exact Int.mul_nonneg (by omega) hscin.1
            have hp1 : p ≤ 1275000 := by
              rw [← hp]
              have h1 := Int.mul_le_mul (show (u : Int) ≤ 255 by omega) hscin.2 hscin.1 (show (0 : Int) ≤ 255 by omega)
              omega
            unfold elemOf at hqn
            rw [hp] at hqn
            obtain ⟨x, hx⟩ : ∃ x : Int, (p + 50) / 100 = x := ⟨_, rfl⟩
            rw [hx] at hqn
            have hx0 : 0 ≤ x := by omega
            have hx1 : x ≤ 20000 := by omega
            obtain ⟨old, hold⟩ : ∃ old, encQ bb L Q n (20 + n) = old := ⟨_, rfl⟩
            rw [hold] at c1
            have HST := Lib.hid (And.intro hstep (And.intro hqn hn))
            have j0 : (0 : Int) ≤ (j : Int) := by omega
            have j1 : (j : Int) < 64 := by omega
            have ewp : IntKind.i64.wrap p = p := IntWalk.i64_in _ ⟨by omega, by omega⟩
            have ewu : IntKind.i64.wrap (u : Int) = (u : Int) := IntWalk.i64_in _ ⟨by omega, by omega⟩
            clear hE hK hstep hqn hold hun hn hu
            have hx3 : x < 1 ∨ (1 ≤ x ∧ 255 < x) ∨ (1 ≤ x ∧ x ≤ 255 ∧ IntKind.u8.wrap x = x) := by
              by_cases h1 : x < 1
              · exact .inl h1
              · by_cases h2 : 255 < x
                · exact .inr (.inl ⟨by omega, h2⟩)
                · exact .inr (.inr ⟨by omega, by omega, by simp only [IntKind.wrap_u8]; omega⟩)
            rcases hx3 with k1 | ⟨k1, k2⟩ | ⟨k1, k2, k3⟩ <;>
            · go_wp2_with fail
              go_roundg (64 - (j + 1))
              case measure => go_light; omega
              case rel =>
                go_light
                have hq := HST.out.2.1
                have hs := HST.out.1 _ (congrArg (Value.int .u8) hq.symm)
                have hnn := HST.out.2.2
                refine ⟨j + 1, by omega, rfl, by go_num, ?_⟩
                rw [show 64 * i + (j + 1) = n + 1 by omega]
                first
                  | (rw [if_pos (by omega)] at hs; exact hs)
                  | (rw [if_neg (by omega), if_pos (by omega)] at hs; exact hs)
                  | (rw [if_neg (by omega), if_neg (by omega)] at hs; exact hs)
          · obtain rfl : j = 64 := by omega
            have HSS := Lib.hid (And.intro hE hK)
            clear hE hK
            go_wp2_with fail
            go_roundg (2 - (i + 1))
            case measure => go_light; omega
            case rel =>
              go_light
              refine ⟨i + 1, by omega, rfl, by go_num, ?_, HSS.out.2⟩
              have h := HSS.out.1
              rw [show 64 * (i + 1) = 64 * i + 64 by omega]
              exact h
      · obtain rfl : i = 2 := by omega
        obtain ⟨G, hGG⟩ : ∃ G, encQ bb L Q (64 * 2) = G := ⟨_, rfl⟩
        rw [hGG] at hE
        have hGq : ∀ j, j < 128 → G (20 + j) = .int .u8 (Q j : Int) := fun j hj => by rw [← hGG]; unfold encQ; rw [if_pos (by omega), show 20 + j - 20 = j by omega]
        have hGl : ∀ h, h < 4 → G (148 + h) = lutSl L h := fun h hh => by rw [← hGG]; unfold encQ encB; rw [if_neg (by omega), if_neg (by omega), if_neg (by omega), if_neg (by omega), if_neg (by omega), if_neg (by omega), show 148 + h - 148 = h by omega]
        have hGr : G 18 = .int .u32 0 ∧ G 19 = .int .u32 0 := by rw [← hGG]; exact ⟨rfl, rfl⟩
        have x2 := hE.cell 2 (by omega) (by omega)
        have x3 := hE.cell 3 (by omega) (by omega)
        have xf := hE.frozen
        have hE1 := (hE.set 2 (by omega) (by omega) (.int .u8 255)).set 3 (by omega) (by omega) (.int .u8 216)
        have hK1 : Kept (fun k => k ≠ eb) W8 ((wr.setCell ⟨eb, 2, none⟩ (.int .u8 255)).setCell ⟨eb, 3, none⟩ (.int .u8 216)) := (hK.setCell (fun _ h => h rfl) _).setCell (fun _ h => h rfl) _
        have HT := Lib.hid (And.intro hE1 (And.intro hK1 (And.intro hGq (And.intro hGl (And.intro hGr HE8.out)))))
        clear hE hK hE1 hK1 hGq hGl hGr hGG
        go_wp2_with fail
        obtain ⟨hE1, hK1, hGq, hGl, hGr, _, hkw8, _, hlut7, _⟩ := HT.out
        have hrow1 := hE1.row.lt
        refine (write_hd _ eb _ [] [255, 216] eb 2 16 2 rfl _ hE1 (fun j hj => ?_) (by simp) (by simp)).mono ?_
        · simp only [List.length_cons, List.length_nil] at hj
          obtain rfl | rfl : j = 0 ∨ j = 1 := by omega
          · exact hE1.cell 2 (by omega) (by omega)
          · exact hE1.cell 3 (by omega) (by omega)
        rintro e w9 ⟨rfl, e9, k9⟩
        obtain ⟨G1, hG1⟩ : ∃ G1 : Nat → Value, (fun i => if i = 3 then Value.int .u8 216 else (fun i => if i = 2 then Value.int .u8 255 else G i) i) = G1 := ⟨_, rfl⟩
        rw [hG1] at e9
        have hG1s : ∀ j, 18 ≤ j → G1 j = G j := fun j hj => by rw [← hG1]; simp only; rw [if_neg (by omega), if_neg (by omega)]
        have P9 := Lib.hid (And.intro e9 (And.intro k9 hG1s))
        clear e9 k9 hG1s hG1 hE1 hK1 hGq hGl hGr hkw8 hlut7 x2 x3 xf
        go_wp2_with fail
        refine (dqt_hd _ eb Q G1 _ w9 P9.out.1 (fun j hj => by rw [P9.out.2.2 _ (by omega)]; exact HT.out.2.2.1 j hj) (by simp)).mono ?_
        rintro e w10 ⟨rfl, ⟨G2, hG2, e10⟩, k10⟩
        have P10 := Lib.hid (And.intro e10 (And.intro k10 hG2))
        clear e10 k10 hG2
        have hrbx : w10.heap[rb]? = some (.cells #[.int .i64 x0, .int .i64 y0, .int .i64 (x0 + wd), .int .i64 (y0 + hg)] 40 (0, 0)) := by
          have h8 := HE8.out.2.2.1
          have hrbe : rb ≠ eb := by
            have := type_ne h8 (rowIs_heap HE8.out.1.row) (by decide)
            exact this
          have h9 := (HT.out.2.1.block rb (Array.getElem?_eq_some_iff.1 h8).1 hrbe).trans h8
          have hhd : Ids.hd ⟨wb, wb, bb, fb, lim⟩ eb rb := by
            have he := HT.out.1
            obtain ⟨_, hfr, _⟩ := he.buf.row
            exact ⟨hrbe, type_ne h9 he.buf.bw (by decide), type_ne h9 (rowIs_heap hfr) (by decide)⟩
          have h10 := (P9.out.2.1.block rb (Array.getElem?_eq_some_iff.1 h9).1 hhd).trans h9
          exact (P10.out.2.1.block rb (Array.getElem?_eq_some_iff.1 h10).1 hhd).trans h10
        obtain ⟨r0, r1, r2, r3, r4⟩ := buf_cells hrbx
        have CS := Lib.hid (size_any x0 y0 wd hg w10 HS.out.x HS.out.y (by have := HS.out.w2; omega) (by have := HS.out.h2; omega))
        unfold rectV at CS
        clear hrbx
        go_wp2_with (go_at_call 41; (with_reducible refine CS.out.mono ?_); rintro e w11 ⟨rfl, k11⟩; have P11 := Lib.hid k11; clear k11)
        clear r0 r1 r2 r3 r4 CS
        have hl2 : ([] ++ [255, 216] ++ (mkr 219 132 ++ qs Q 2)).length = 136 := by simp only [List.length_append, mkr_len, qs_len]; rfl
        refine (sof_hd1 _ eb G2 _ wd hg w11 (P10.out.1.all P11.out) (by rw [hl2]; omega) (by have := HS.out.w2; omega) (by have := HS.out.h2; omega)).mono ?_
        rintro e w12 ⟨rfl, ⟨G3, hG3, e12⟩, k12⟩
        have P12 := Lib.hid (And.intro e12 (And.intro k12 hG3))
        clear e12 k12 hG3
        go_wp2_with fail
        have hl3 : ([] ++ [255, 216] ++ (mkr 219 132 ++ qs Q 2) ++ (mkr 192 11 ++ sofB wd hg 1)).length = 149 := by rw [List.length_append, hl2]; rfl
        refine (dht_hd1 _ eb G3 _ w12 P12.out.1 (by rw [hl3]; omega)).mono ?_
        rintro e w13 ⟨rfl, ⟨G4, hG4, e13⟩, k13⟩
        have P13 := Lib.hid (And.intro e13 (And.intro k13 hG4))
        clear e13 k13 hG4
        go_wp2_with fail
        have hTT : [] ++ [255, 216] ++ (mkr 219 132 ++ qs Q 2) ++ (mkr 192 11 ++ sofB wd hg 1) ++ (mkr 196 210 ++ dhts 2) = hdrG Q wd hg := rfl
        rw [hTT] at P13
        have hb1 := HNUM.out.1
        have hb2 := HNUM.out.2.1
        have hb3 := HNUM.out.2.2.1
        have hwbw := (Array.getElem?_eq_some_iff.1 HH.out.2.1).1
        obtain ⟨g8, gbi, gbp, _, _⟩ := HB.out
        have K13 : Kept (fun k => k < w.heap.size) w w13 := by
          have hhd : ∀ i, i < w.heap.size → Ids.hd ⟨wb, wb, bb, fb, lim⟩ eb i := fun i hi => ⟨by omega, by show i ≠ bb; omega, by show i ≠ fb; omega⟩
          have h1 : Kept (fun k => k < w.heap.size) w W8 := HE8.out.2.1.mono fun _ _ _ => trivial
          have h2 := h1.trans (HT.out.2.1.mono fun i _ hi => by omega)
          have h3 := h2.trans (P9.out.2.1.mono fun i _ hi => hhd i hi)
          have h4 := h3.trans (P10.out.2.1.mono fun i _ hi => hhd i hi)
          have h5 := h4.trans (P11.out.mono fun _ _ _ => trivial)
          have h6 := h5.trans (P12.out.2.1.mono fun i _ hi => hhd i hi)
          exact h6.trans (P13.out.2.1.mono fun i _ hi => hhd i hi)
        have hG4 : ∀ j, 18 ≤ j → G4 j = G j := fun j hj => by
          rw [P13.out.2.2 j (by omega), P12.out.2.2 j (by omega), P10.out.2.2 j (by omega), P9.out.2.2 j hj]
        have hV13 : Env ⟨wb, wb, bb, fb, lim⟩ eb Q L G4 w13 := by
          refine ⟨⟨fun j hj => by rw [hG4 _ (by omega)]; exact HT.out.2.2.1 j hj, HQ.out.2.1, fun h hh => by rw [hG4 _ (by omega)]; exact HT.out.2.2.2.1 h hh, fun h hh => ?_, fun h hh => ?_, ⟨g8, Nat.le_refl _, by show wb ≤ bb; omega, by show wb ≤ eb; omega⟩⟩, fun i hi => K13.cellOf (HH.out.2.2.2.2.1 i hi) (by show 3 < w.heap.size; omega), fun i hi => K13.cellOf (HH.out.2.2.2.2.2 i hi) (by show 2 < w.heap.size; omega)⟩
          · have hL := HE8.out.2.2.2.2 h hh
            rintro (e | e | e)
            · have e' : L h = wb := e
              omega
            · have e' : L h = bb := e
              omega
            · omega
          · have hL := HE8.out.2.2.2.2 h hh
            have hhd : Ids.hd ⟨wb, wb, bb, fb, lim⟩ eb (L h) := ⟨by omega, by show L h ≠ bb; omega, by show L h ≠ fb; omega⟩
            exact P13.out.2.1.row (P12.out.2.1.row (P11.out.row (P10.out.2.1.row (P9.out.2.1.row (HT.out.2.1.row (HE8.out.2.2.2.1 h hh) (by omega)) hhd) hhd) trivial) hhd) hhd
        have hG13 : GrayAt bi bp x0 y0 wd hg P w13 := HH.out.1.kept K13 (by omega) (by omega)
        have hz := hdrG_len Q wd hg
        have hsz13 := K13.size
        have hE13 := P13.out.1
        refine (sosGray_any ⟨wb, wb, bb, fb, lim⟩ eb Q L G4 _ bi bp x0 y0 wd hg P w13 hE13 (by rw [hG4 _ (by omega)]; exact HT.out.2.2.2.2.1.1) (by rw [hG4 _ (by omega)]; exact HT.out.2.2.2.2.1.2) hV13 hG13 HS.out gbi gbp (by omega) ⟨by show wb < _; omega, (Array.getElem?_eq_some_iff.1 hE13.buf.bw).1, hE13.row.lt⟩).mono ?_
        rintro e w14 ⟨rfl, e14, k14⟩
        have hzl := grayScan_len Q P HS.out.w1 HS.out.h1 HS.out.n (hdrG Q wd hg ++ sosY, 0, 0) (by simp only [List.length_append]; have : sosY.length = 10 := rfl; omega)
        obtain ⟨S, hSS⟩ : ∃ S, grayScan Q wd hg P (hdrG Q wd hg ++ sosY, 0, 0) = S := ⟨_, rfl⟩
        rw [hSS] at e14 hzl
        have hstr : streamG Q wd hg P = S.1 ++ [255, 217] := by rw [← hSS]; rfl
        have y2 := EncIs.cell e14 2 (by omega) (by omega)
        have y3 := EncIs.cell e14 3 (by omega) (by omega)
        have yf := EncIs.frozen e14
        have e15 := (EncIs.set e14 2 (by omega) (by omega) (.int .u8 255)).set 3 (by omega) (by omega) (.int .u8 217)
        have HU := Lib.hid (And.intro K13 (And.intro k14 (And.intro e15 (And.intro hstr hzl))))
        clear K13 hV13 hG13 hE13 e14 k14 e15 hstr hSS hz hzl hG4 hsz13 hTT hl2 hl3
        go_wp2_with fail
        refine (write_eoi ⟨wb, wb, bb, fb, lim⟩ eb _ S.1 255 217 _ HU.out.2.2.1 rfl rfl (by have := HU.out.2.2.2.2; omega)).mono ?_
        rintro e w16 ⟨rfl, e16, k16⟩
        have P16 := Lib.hid (And.intro e16 k16)
        clear e16 k16 y2 y3 yf
        go_wp2_with fail
        refine (flush_enc ⟨wb, wb, bb, fb, lim⟩ eb _ (S.1 ++ [255, 217]) w16 P16.out.1 (by have := HU.out.2.2.2.2; simp only [List.length_append, List.length_cons, List.length_nil]; omega)).mono ?_
        rintro e w17 ⟨rfl, e17, k17⟩
        have HF := Lib.hid (And.intro e17 k17)
        clear e17 k17
        have hfr : Fr wb (fun k => k = wb) w w17 := by
          have h1 : Fr wb (fun k => k = wb) w w13 := Fr.ofKept (HU.out.1.mono fun i hi _ => hi)
          have h2 : Fr wb (Ids.all ⟨wb, wb, bb, fb, lim⟩ eb) w13 w17 := ((HU.out.2.1.setCell (.inr (.inr rfl)) _).setCell (.inr (.inr rfl)) _ |>.trans P16.out.2).trans HF.out.2
          refine h1.transNew h2 fun i hi e => ?_
          rcases e with e | e | e
          · exact e
          · have e' : i = bb := e
            omega
          · omega
        have hstr := HU.out.2.2.2.1
        have HR := Lib.hid (And.intro hfr hstr)
        clear hfr hstr
        have hQr := HQ.out.2.2
        by_cases hgood : lim < 0 ∨ (((S.1 ++ [255, 217]).length : Nat) : Int) ≤ lim
        · have hf := HF.out.1.good hgood
          have t1 := hf.1
          have HX := Lib.hid (And.intro hf.2 hgood)
          clear hf hgood hQr
          go_wp2_with fail
          go_ret
          refine ⟨false, rfl, fun _ => ⟨rfl, fb, ?_⟩, fun h1 h2 => ?_, HR.out.1⟩
          · rw [HQ.out.2.2, HR.out.2]; exact HX.out.1
          · rw [HQ.out.2.2, HR.out.2] at h2
            have := HX.out.2
            omega
        · have hf := HF.out.1.bad (by show 0 ≤ lim; omega) (by show lim < _; omega)
          have t1 := hf.1
          have HX := Lib.hid (And.intro hf.2 hgood)
          clear hf hgood hQr
          go_wp2_with fail
          go_ret
          refine ⟨true, rfl, fun h => ?_, fun h1 h2 => ⟨rfl, fb, ?_⟩, HR.out.1⟩
          · rw [HQ.out.2.2, HR.out.2] at h
            exact absurd h HX.out.2
          · rw [HQ.out.2.2, HR.out.2]; exact HX.out.1
  · skip
    go_wp2_with fail
    obtain ⟨W8, hW8⟩ : ∃ W8, w7.setCell ⟨eb, 0, none⟩ (.iface 97 (.pointer (some ⟨bb, 0, none⟩))) = W8 := ⟨_, rfl⟩
    rw [hW8] at HE8 ⊢
    clear hW8 d0 d1 d2
    go_loopg [59] 2 (fun k s59 wr => ∃ i : Nat, i ≤ 2 ∧ k = 2 - i ∧ s59 = .int .i64 (i : Int) ∧ EncG ⟨wb, wb, bb, fb, lim⟩ eb (encQ bb L Q (64 * i)) [] wr ∧ Kept (fun k => k ≠ eb) W8 wr)
    case atStart =>
      refine ⟨0, by omega, rfl, rfl, HE8.out.1.congr fun j _ _ => ?_, Kept.refl _ _⟩
      unfold encQ; rw [if_neg (by omega)]
    case round =>
      obtain ⟨i, hi, rfl, rfl, hE, hK⟩ := hrel
      by_cases hlt : i < 2
      · have hid : decide ((i : Int) < 2) = true := by simp; omega
        have i0 : (0 : Int) ≤ (i : Int) := by omega
        have i1 : (i : Int) < 2 := by omega
        go_wp2_with fail
        go_loopg [62] 64 (fun k s62 wr => ∃ j : Nat, j ≤ 64 ∧ k = 64 - j ∧ s62 = .int .i64 (j : Int) ∧ EncG ⟨wb, wb, bb, fb, lim⟩ eb (encQ bb L Q (64 * i + j)) [] wr ∧ Kept (fun k => k ≠ eb) W8 wr)
        case atStart => exact ⟨0, by omega, rfl, rfl, hE, hK⟩
        case round =>
          clear hE hK
          obtain ⟨j, hj, rfl, rfl, hE, hK⟩ := hrel
          by_cases hlt2 : j < 64
          · obtain ⟨n, hn⟩ : ∃ n, 64 * i + j = n := ⟨_, rfl⟩
            have hn1 : n < 128 := by omega
            rw [hn] at hE
            have c0 : wr.cell? ⟨0, i * 64 + j, none⟩ = some (.int .u8 (U n : Int)) := by
              rw [show i * 64 + j = n by omega]
              exact hK.cellOf (HE8.out.2.1.cellOf (HH.out.2.2.2.1 n hn1) trivial) (by have := HNUM.out.1; have := HB.out.1; have := (Array.getElem?_eq_some_iff.1 HH.out.2.1).1; show 0 ≠ eb; omega)
            have c1 : wr.cell? ⟨eb, 20 + i * 64 + j, none⟩ = some (encQ bb L Q n (20 + n)) := by rw [show 20 + i * 64 + j = 20 + n by omega]; exact hE.cell (20 + n) (by omega) (by omega)
            have c2 : wr.frozen? ⟨eb, 20 + i * 64 + j, none⟩ = false := hE.frozen _
            have hu := hUs n
            have hqn := HQ.out.1 n
            have hstep : ∀ v, v = Value.int .u8 (Q n : Int) → EncG ⟨wb, wb, bb, fb, lim⟩ eb (encQ bb L Q (n + 1)) [] (wr.setCell ⟨eb, 20 + i * 64 + j, none⟩ v) ∧ Kept (fun k => k ≠ eb) W8 (wr.setCell ⟨eb, 20 + i * 64 + j, none⟩ v) := fun v hv => by
              rw [show 20 + i * 64 + j = 20 + n by omega]
              exact ⟨(hE.set (20 + n) (by omega) (by omega) v).congr fun m _ _ => encQ_step bb L Q n v hv m, hK.setCell (fun _ h => h rfl) _⟩
            obtain ⟨u, hun⟩ : ∃ u, U n = u := ⟨_, rfl⟩
            rw [hun] at c0 hu hqn
            obtain ⟨p, hp⟩ : ∃ p : Int, (u : Int) * sc = p := ⟨_, rfl⟩
            have hp0 : 0 ≤ p := by rw [← hp]; exact Int.mul_nonneg (by omega) hscin.1
            have hp1 : p ≤ 1275000 := by
              rw [← hp]
              have h1 := Int.mul_le_mul (show (u : Int) ≤ 255 by omega) hscin.2 hscin.1 (show (0 : Int) ≤ 255 by omega)
              omega
            unfold elemOf at hqn
            rw [hp] at hqn
            obtain ⟨x, hx⟩ : ∃ x : Int, (p + 50) / 100 = x := ⟨_, rfl⟩
            rw [hx] at hqn
            have hx0 : 0 ≤ x := by omega
            have hx1 : x ≤ 20000 := by omega
            obtain ⟨old, hold⟩ : ∃ old, encQ bb L Q n (20 + n) = old := ⟨_, rfl⟩
            rw [hold] at c1
            have HST := Lib.hid (And.intro hstep (And.intro hqn hn))
            have j0 : (0 : Int) ≤ (j : Int) := by omega
            have j1 : (j : Int) < 64 := by omega
            have ewp : IntKind.i64.wrap p = p := IntWalk.i64_in _ ⟨by omega, by omega⟩
            have ewu : IntKind.i64.wrap (u : Int) = (u : Int) := IntWalk.i64_in _ ⟨by omega, by omega⟩
            clear hE hK hstep hqn hold hun hn hu
            have hx3 : x < 1 ∨ (1 ≤ x ∧ 255 < x) ∨ (1 ≤ x ∧ x ≤ 255 ∧ IntKind.u8.wrap x = x) := by
              by_cases h1 : x < 1
              · exact .inl h1
              · by_cases h2 : 255 < x
                · exact .inr (.inl ⟨by omega, h2⟩)
                · exact .inr (.inr ⟨by omega, by omega, by simp only [IntKind.wrap_u8]; omega⟩)
            rcases hx3 with k1 | ⟨k1, k2⟩ | ⟨k1, k2, k3⟩ <;>
            · go_wp2_with fail
              go_roundg (64 - (j + 1))
              case measure => go_light; omega
              case rel =>
                go_light
                have hq := HST.out.2.1
                have hs := HST.out.1 _ (congrArg (Value.int .u8) hq.symm)
                have hnn := HST.out.2.2
                refine ⟨j + 1, by omega, rfl, by go_num, ?_⟩
                rw [show 64 * i + (j + 1) = n + 1 by omega]
                first
                  | (rw [if_pos (by omega)] at hs; exact hs)
                  | (rw [if_neg (by omega), if_pos (by omega)] at hs; exact hs)
                  | (rw [if_neg (by omega), if_neg (by omega)] at hs; exact hs)
          · obtain rfl : j = 64 := by omega
            have HSS := Lib.hid (And.intro hE hK)
            clear hE hK
            go_wp2_with fail
            go_roundg (2 - (i + 1))
            case measure => go_light; omega
            case rel =>
              go_light
              refine ⟨i + 1, by omega, rfl, by go_num, ?_, HSS.out.2⟩
              have h := HSS.out.1
              rw [show 64 * (i + 1) = 64 * i + 64 by omega]
              exact h
      · obtain rfl : i = 2 := by omega
        obtain ⟨G, hGG⟩ : ∃ G, encQ bb L Q (64 * 2) = G := ⟨_, rfl⟩
        rw [hGG] at hE
        have hGq : ∀ j, j < 128 → G (20 + j) = .int .u8 (Q j : Int) := fun j hj => by rw [← hGG]; unfold encQ; rw [if_pos (by omega), show 20 + j - 20 = j by omega]
        have hGl : ∀ h, h < 4 → G (148 + h) = lutSl L h := fun h hh => by rw [← hGG]; unfold encQ encB; rw [if_neg (by omega), if_neg (by omega), if_neg (by omega), if_neg (by omega), if_neg (by omega), if_neg (by omega), show 148 + h - 148 = h by omega]
        have hGr : G 18 = .int .u32 0 ∧ G 19 = .int .u32 0 := by rw [← hGG]; exact ⟨rfl, rfl⟩
        have x2 := hE.cell 2 (by omega) (by omega)
        have x3 := hE.cell 3 (by omega) (by omega)
        have xf := hE.frozen
        have hE1 := (hE.set 2 (by omega) (by omega) (.int .u8 255)).set 3 (by omega) (by omega) (.int .u8 216)
        have hK1 : Kept (fun k => k ≠ eb) W8 ((wr.setCell ⟨eb, 2, none⟩ (.int .u8 255)).setCell ⟨eb, 3, none⟩ (.int .u8 216)) := (hK.setCell (fun _ h => h rfl) _).setCell (fun _ h => h rfl) _
        have HT := Lib.hid (And.intro hE1 (And.intro hK1 (And.intro hGq (And.intro hGl (And.intro hGr HE8.out)))))
        clear hE hK hE1 hK1 hGq hGl hGr hGG
        go_wp2_with fail
        obtain ⟨hE1, hK1, hGq, hGl, hGr, _, hkw8, _, hlut7, _⟩ := HT.out
        have hrow1 := hE1.row.lt
        refine (write_hd _ eb _ [] [255, 216] eb 2 16 2 rfl _ hE1 (fun j hj => ?_) (by simp) (by simp)).mono ?_
        · simp only [List.length_cons, List.length_nil] at hj
          obtain rfl | rfl : j = 0 ∨ j = 1 := by omega
          · exact hE1.cell 2 (by omega) (by omega)
          · exact hE1.cell 3 (by omega) (by omega)
        rintro e w9 ⟨rfl, e9, k9⟩
        obtain ⟨G1, hG1⟩ : ∃ G1 : Nat → Value, (fun i => if i = 3 then Value.int .u8 216 else (fun i => if i = 2 then Value.int .u8 255 else G i) i) = G1 := ⟨_, rfl⟩
        rw [hG1] at e9
        have hG1s : ∀ j, 18 ≤ j → G1 j = G j := fun j hj => by rw [← hG1]; simp only; rw [if_neg (by omega), if_neg (by omega)]
        have P9 := Lib.hid (And.intro e9 (And.intro k9 hG1s))
        clear e9 k9 hG1s hG1 hE1 hK1 hGq hGl hGr hkw8 hlut7 x2 x3 xf
        go_wp2_with fail
        refine (dqt_hd _ eb Q G1 _ w9 P9.out.1 (fun j hj => by rw [P9.out.2.2 _ (by omega)]; exact HT.out.2.2.1 j hj) (by simp)).mono ?_
        rintro e w10 ⟨rfl, ⟨G2, hG2, e10⟩, k10⟩
        have P10 := Lib.hid (And.intro e10 (And.intro k10 hG2))
        clear e10 k10 hG2
        have hrbx : w10.heap[rb]? = some (.cells #[.int .i64 x0, .int .i64 y0, .int .i64 (x0 + wd), .int .i64 (y0 + hg)] 40 (0, 0)) := by
          have h8 := HE8.out.2.2.1
          have hrbe : rb ≠ eb := by
            have := type_ne h8 (rowIs_heap HE8.out.1.row) (by decide)
            exact this
          have h9 := (HT.out.2.1.block rb (Array.getElem?_eq_some_iff.1 h8).1 hrbe).trans h8
          have hhd : Ids.hd ⟨wb, wb, bb, fb, lim⟩ eb rb := by
            have he := HT.out.1
            obtain ⟨_, hfr, _⟩ := he.buf.row
            exact ⟨hrbe, type_ne h9 he.buf.bw (by decide), type_ne h9 (rowIs_heap hfr) (by decide)⟩
          have h10 := (P9.out.2.1.block rb (Array.getElem?_eq_some_iff.1 h9).1 hhd).trans h9
          exact (P10.out.2.1.block rb (Array.getElem?_eq_some_iff.1 h10).1 hhd).trans h10
        obtain ⟨r0, r1, r2, r3, r4⟩ := buf_cells hrbx
        have CS := Lib.hid (size_any x0 y0 wd hg w10 HS.out.x HS.out.y (by have := HS.out.w2; omega) (by have := HS.out.h2; omega))
        unfold rectV at CS
        clear hrbx
        go_wp2_with (go_at_call 41; (with_reducible refine CS.out.mono ?_); rintro e w11 ⟨rfl, k11⟩; have P11 := Lib.hid k11; clear k11)
        clear r0 r1 r2 r3 r4 CS
        have hl2 : ([] ++ [255, 216] ++ (mkr 219 132 ++ qs Q 2)).length = 136 := by simp only [List.length_append, mkr_len, qs_len]; rfl
        refine (sof_hd1 _ eb G2 _ wd hg w11 (P10.out.1.all P11.out) (by rw [hl2]; omega) (by have := HS.out.w2; omega) (by have := HS.out.h2; omega)).mono ?_
        rintro e w12 ⟨rfl, ⟨G3, hG3, e12⟩, k12⟩
        have P12 := Lib.hid (And.intro e12 (And.intro k12 hG3))
        clear e12 k12 hG3
        go_wp2_with fail
        have hl3 : ([] ++ [255, 216] ++ (mkr 219 132 ++ qs Q 2) ++ (mkr 192 11 ++ sofB wd hg 1)).length = 149 := by rw [List.length_append, hl2]; rfl
        refine (dht_hd1 _ eb G3 _ w12 P12.out.1 (by rw [hl3]; omega)).mono ?_
        rintro e w13 ⟨rfl, ⟨G4, hG4, e13⟩, k13⟩
        have P13 := Lib.hid (And.intro e13 (And.intro k13 hG4))
        clear e13 k13 hG4
        go_wp2_with fail
        have hTT : [] ++ [255, 216] ++ (mkr 219 132 ++ qs Q 2) ++ (mkr 192 11 ++ sofB wd hg 1) ++ (mkr 196 210 ++ dhts 2) = hdrG Q wd hg := rfl
        rw [hTT] at P13
        have hb1 := HNUM.out.1
        have hb2 := HNUM.out.2.1
        have hb3 := HNUM.out.2.2.1
        have hwbw := (Array.getElem?_eq_some_iff.1 HH.out.2.1).1
        obtain ⟨g8, gbi, gbp, _, _⟩ := HB.out
        have K13 : Kept (fun k => k < w.heap.size) w w13 := by
          have hhd : ∀ i, i < w.heap.size → Ids.hd ⟨wb, wb, bb, fb, lim⟩ eb i := fun i hi => ⟨by omega, by show i ≠ bb; omega, by show i ≠ fb; omega⟩
          have h1 : Kept (fun k => k < w.heap.size) w W8 := HE8.out.2.1.mono fun _ _ _ => trivial
          have h2 := h1.trans (HT.out.2.1.mono fun i _ hi => by omega)
          have h3 := h2.trans (P9.out.2.1.mono fun i _ hi => hhd i hi)
          have h4 := h3.trans (P10.out.2.1.mono fun i _ hi => hhd i hi)
          have h5 := h4.trans (P11.out.mono fun _ _ _ => trivial)
          have h6 := h5.trans (P12.out.2.1.mono fun i _ hi => hhd i hi)
          exact h6.trans (P13.out.2.1.mono fun i _ hi => hhd i hi)
        have hG4 : ∀ j, 18 ≤ j → G4 j = G j := fun j hj => by
          rw [P13.out.2.2 j (by omega), P12.out.2.2 j (by omega), P10.out.2.2 j (by omega), P9.out.2.2 j hj]
        have hV13 : Env ⟨wb, wb, bb, fb, lim⟩ eb Q L G4 w13 := by
          refine ⟨⟨fun j hj => by rw [hG4 _ (by omega)]; exact HT.out.2.2.1 j hj, HQ.out.2.1, fun h hh => by rw [hG4 _ (by omega)]; exact HT.out.2.2.2.1 h hh, fun h hh => ?_, fun h hh => ?_, ⟨g8, Nat.le_refl _, by show wb ≤ bb; omega, by show wb ≤ eb; omega⟩⟩, fun i hi => K13.cellOf (HH.out.2.2.2.2.1 i hi) (by show 3 < w.heap.size; omega), fun i hi => K13.cellOf (HH.out.2.2.2.2.2 i hi) (by show 2 < w.heap.size; omega)⟩
          · have hL := HE8.out.2.2.2.2 h hh
            rintro (e | e | e)
            · have e' : L h = wb := e
              omega
            · have e' : L h = bb := e
              omega
            · omega
          · have hL := HE8.out.2.2.2.2 h hh
            have hhd : Ids.hd ⟨wb, wb, bb, fb, lim⟩ eb (L h) := ⟨by omega, by show L h ≠ bb; omega, by show L h ≠ fb; omega⟩
            exact P13.out.2.1.row (P12.out.2.1.row (P11.out.row (P10.out.2.1.row (P9.out.2.1.row (HT.out.2.1.row (HE8.out.2.2.2.1 h hh) (by omega)) hhd) hhd) trivial) hhd) hhd
        have hG13 : GrayAt bi bp x0 y0 wd hg P w13 := HH.out.1.kept K13 (by omega) (by omega)
        have hz := hdrG_len Q wd hg
        have hsz13 := K13.size
        have hE13 := P13.out.1
        refine (sosGray_any ⟨wb, wb, bb, fb, lim⟩ eb Q L G4 _ bi bp x0 y0 wd hg P w13 hE13 (by rw [hG4 _ (by omega)]; exact HT.out.2.2.2.2.1.1) (by rw [hG4 _ (by omega)]; exact HT.out.2.2.2.2.1.2) hV13 hG13 HS.out gbi gbp (by omega) ⟨by show wb < _; omega, (Array.getElem?_eq_some_iff.1 hE13.buf.bw).1, hE13.row.lt⟩).mono ?_
        rintro e w14 ⟨rfl, e14, k14⟩
        have hzl := grayScan_len Q P HS.out.w1 HS.out.h1 HS.out.n (hdrG Q wd hg ++ sosY, 0, 0) (by simp only [List.length_append]; have : sosY.length = 10 := rfl; omega)
        obtain ⟨S, hSS⟩ : ∃ S, grayScan Q wd hg P (hdrG Q wd hg ++ sosY, 0, 0) = S := ⟨_, rfl⟩
        rw [hSS] at e14 hzl
        have hstr : streamG Q wd hg P = S.1 ++ [255, 217] := by rw [← hSS]; rfl
        have y2 := EncIs.cell e14 2 (by omega) (by omega)
        have y3 := EncIs.cell e14 3 (by omega) (by omega)
        have yf := EncIs.frozen e14
        have e15 := (EncIs.set e14 2 (by omega) (by omega) (.int .u8 255)).set 3 (by omega) (by omega) (.int .u8 217)
        have HU := Lib.hid (And.intro K13 (And.intro k14 (And.intro e15 (And.intro hstr hzl))))
        clear K13 hV13 hG13 hE13 e14 k14 e15 hstr hSS hz hzl hG4 hsz13 hTT hl2 hl3
        go_wp2_with fail
        refine (write_eoi ⟨wb, wb, bb, fb, lim⟩ eb _ S.1 255 217 _ HU.out.2.2.1 rfl rfl (by have := HU.out.2.2.2.2; omega)).mono ?_
        rintro e w16 ⟨rfl, e16, k16⟩
        have P16 := Lib.hid (And.intro e16 k16)
        clear e16 k16 y2 y3 yf
        go_wp2_with fail
        refine (flush_enc ⟨wb, wb, bb, fb, lim⟩ eb _ (S.1 ++ [255, 217]) w16 P16.out.1 (by have := HU.out.2.2.2.2; simp only [List.length_append, List.length_cons, List.length_nil]; omega)).mono ?_
        rintro e w17 ⟨rfl, e17, k17⟩
        have HF := Lib.hid (And.intro e17 k17)
        clear e17 k17
        have hfr : Fr wb (fun k => k = wb) w w17 := by
          have h1 : Fr wb (fun k => k = wb) w w13 := Fr.ofKept (HU.out.1.mono fun i hi _ => hi)
          have h2 : Fr wb (Ids.all ⟨wb, wb, bb, fb, lim⟩ eb) w13 w17 := ((HU.out.2.1.setCell (.inr (.inr rfl)) _).setCell (.inr (.inr rfl)) _ |>.trans P16.out.2).trans HF.out.2
          refine h1.transNew h2 fun i hi e => ?_
          rcases e with e | e | e
          · exact e
          · have e' : i = bb := e
            omega
          · omega
        have hstr := HU.out.2.2.2.1
        have HR := Lib.hid (And.intro hfr hstr)
        clear hfr hstr
        have hQr := HQ.out.2.2
        by_cases hgood : lim < 0 ∨ (((S.1 ++ [255, 217]).length : Nat) : Int) ≤ lim
        · have hf := HF.out.1.good hgood
          have t1 := hf.1
          have HX := Lib.hid (And.intro hf.2 hgood)
          clear hf hgood hQr
          go_wp2_with fail
          go_ret
          refine ⟨false, rfl, fun _ => ⟨rfl, fb, ?_⟩, fun h1 h2 => ?_, HR.out.1⟩
          · rw [HQ.out.2.2, HR.out.2]; exact HX.out.1
          · rw [HQ.out.2.2, HR.out.2] at h2
            have := HX.out.2
            omega
        · have hf := HF.out.1.bad (by show 0 ≤ lim; omega) (by show lim < _; omega)
          have t1 := hf.1
          have HX := Lib.hid (And.intro hf.2 hgood)
          clear hf hgood hQr
          go_wp2_with fail
          go_ret
          refine ⟨true, rfl, fun h => ?_, fun h1 h2 => ⟨rfl, fb, ?_⟩, HR.out.1⟩
          · rw [HQ.out.2.2, HR.out.2] at h
            exact absurd h HX.out.2
          · rw [HQ.out.2.2, HR.out.2]; exact HX.out.1
end Go.Proofs.YtghjlekdibcjdaaGreatDoor
