/- The contracts of fdct and of the encoder's writeBlock. -/
import Derived.Test.YtghjlekdibcjdaaGreatDoorBlockLaw
import Derived.Test.YtghjlekdibcjdaaGreatDoorWalkfcol
import Derived.Test.YtghjlekdibcjdaaGreatDoorWalkfrow
import Derived.Deep.RegionHeld3
namespace Go.Proofs.YtghjlekdibcjdaaGreatDoor
open Go.Deep Go.RowKit
set_option linter.unusedVariables false
theorem fdct_any (b : Nat) (T : TypeId) (f : Nat → Int) (w : World) (h : w.rowIs b T 64 (ints .i32 f)) :
    Calls Tryz.prog 71 #[.pointer (some ⟨b, 0, none⟩)] w fun e w' => e = .returned (.tuple #[]) ∧ Kept (fun k => k ≠ b) w w' ∧ w'.rowIs b T 64 (ints .i32 (coef f)) := by
  go_enter Tryz.func71, Tryz.ntmps71
  go_wp2_with fail
  refine (fcol_any b T f w h).mono ?_
  rintro e w1 ⟨rfl, k1, r1⟩
  go_wp2_with fail
  refine (frow_any b T _ w1 r1).mono ?_
  rintro e w2 ⟨rfl, k2, r2⟩
  go_wp2_with fail
  go_end0
  exact ⟨rfl, k1.trans k2, r2⟩
/-- The listed variable unzig. -/
def ZigAt (w : World) : Prop := ∀ k, k < 64 → w.cell? ⟨2, k, none⟩ = some (.int .i64 (zN k : Int))
/-- What the scan reads and never turns. -/
structure Env (z : Ids) (eb : Nat) (Q L : Nat → Nat) (f : Nat → Value) (w : World) : Prop where
  tabs : Tabs z eb Q L f w
  bits : BitsAt w
  zig : ZigAt w
theorem Env.fr {z : Ids} {eb : Nat} {Q L : Nat → Nat} {f : Nat → Value} {S : Nat → Prop} {w w' : World} (h : Env z eb Q L f w) (k : Fr z.B S w w') (hS : ∀ h, h < 4 → ¬ S (L h)) (hB : ∀ i, i < z.B → ¬ S i) : Env z eb Q L f w' := by
  have hl := h.tabs.low.1
  refine ⟨⟨h.tabs.quant, h.tabs.qpos, h.tabs.lut, h.tabs.far, fun i hi => k.row (h.tabs.row i hi) (hS i hi) (.inr (by decide)), h.tabs.low⟩, fun i hi => k.cellLow (h.bits i hi) (hB _ (by show 3 < z.B; omega)) (by show 3 < z.B; omega), fun i hi => k.cellLow (h.zig i hi) (hB _ (by show 2 < z.B; omega)) (by show 2 < z.B; omega)⟩
theorem Env.all {z : Ids} {eb : Nat} {Q L : Nat → Nat} {f : Nat → Value} {w w' : World} (h : Env z eb Q L f w) (k : Fr z.B (z.all eb) w w') : Env z eb Q L f w' := h.fr k h.tabs.far fun i hi => h.tabs.low_far hi
/-- Blocks that are no sink's, no encoder's and no table's. -/
def Plain (T : TypeId) : Prop := T ≠ 94 ∧ T ≠ 67 ∧ T ≠ 166 ∧ T ≠ 5 ∧ T ≠ 76
theorem Env.keptOne {z : Ids} {eb : Nat} {Q L : Nat → Nat} {f : Nat → Value} {b : Nat} {T : TypeId} {n : Nat} {g : Nat → Value} {w w' : World} (h : Env z eb Q L f w) (k : Kept (fun i => i ≠ b) w w') (hr : w.rowIs b T n g) (hT : Plain T) (hb : z.B ≤ b) : Env z eb Q L f w' := by
  have hl := h.tabs.low.1
  exact ⟨h.tabs.kept k fun i c fz hi => type_ne hi (rowIs_heap hr) (Ne.symm hT.2.2.2.2), fun i hi => k.cellOf (h.bits i hi) (by show 3 ≠ b; omega), fun i hi => k.cellOf (h.zig i hi) (by show 2 ≠ b; omega)⟩
theorem EncS.drew {z : Ids} {eb : Nat} {f : Nat → Value} {s : Bw} {w : World} (h : EncS z eb f s w) : EncS z eb f s w.drew := EncIs.drew h
theorem EncS.keptOne {z : Ids} {eb : Nat} {f : Nat → Value} {s : Bw} {b : Nat} {T : TypeId} {n : Nat} {g : Nat → Value} {w w' : World} (h : EncS z eb f s w) (k : Kept (fun i => i ≠ b) w w') (hr : w.rowIs b T n g) (hT : Plain T) : EncS z eb f s w' :=
  EncIs.kept h k fun i c t fz hi ht => type_ne hi (rowIs_heap hr) (by
    obtain ⟨h1, h2, h3, h4, h5⟩ := hT
    rcases ht with rfl | rfl | rfl | rfl
    · exact Ne.symm h1
    · exact Ne.symm h2
    · exact Ne.symm h3
    · exact Ne.symm h4)
/-- What holds at the head of writeBlock's loop. -/
structure BkS (z : Ids) (eb : Nat) (Q L : Nat → Nat) (f : Nat → Value) (b : Nat) (T : TypeId) (c : Nat → Int) (w : World) (s : Bw) (wr : World) : Prop where
  enc : EncS z eb f s wr
  ok : BwOk s
  env : Env z eb Q L f wr
  row : wr.rowIs b T 64 (ints .i32 c)
  fr : Fr z.B (z.all eb) w wr
theorem BkS.next {z : Ids} {eb : Nat} {Q L : Nat → Nat} {f : Nat → Value} {b : Nat} {T : TypeId} {c : Nat → Int} {w wr w2 : World} {s s2 : Bw} (h : BkS z eb Q L f b T c w s wr) (hT : Plain T) (hb : ¬ z.all eb b) (he : EncS z eb f s2 w2) (hk : BwOk s2) (hf : Fr z.B (z.all eb) wr w2) : BkS z eb Q L f b T c w s2 w2 :=
  ⟨he, hk, h.env.all hf, hf.row h.row hb (.inr hT.2.2.2.1), h.fr.trans hf⟩
theorem BkS.drew {z : Ids} {eb : Nat} {Q L : Nat → Nat} {f : Nat → Value} {b : Nat} {T : TypeId} {c : Nat → Int} {w wr : World} {s : Bw} (h : BkS z eb Q L f b T c w s wr) (hT : Plain T) (hb : z.B ≤ b) : BkS z eb Q L f b T c w s wr.drew :=
  ⟨h.enc.drew, h.ok, h.env.keptOne ((Kept.refl _ _).drew) h.row hT hb, h.row, h.fr.drew⟩
theorem quantCell {z : Ids} {eb : Nat} {Q L : Nat → Nat} {f : Nat → Value} {s : Bw} {w : World} (hE : EncS z eb f s w) (hV : Env z eb Q L f w) (j : Nat) (hj : j < 128) : w.cell? ⟨eb, 20 + j, none⟩ = some (.int .u8 (Q j : Int)) := by
  rw [EncIs.cell hE (20 + j) (by omega) (by omega)]
  unfold encR
  rw [if_neg (by omega), if_neg (by omega), hV.tabs.quant j hj]
set_option maxHeartbeats 800000 in
set_option maxRecDepth 100000 in
theorem writeBlock_any (z : Ids) (eb : Nat) (Q L : Nat → Nat) (f : Nat → Value) (s : Bw) (q b : Nat) (T : TypeId) (S : Nat → Int) (prev : Int) (w : World) (hE : EncS z eb f s w) (hV : Env z eb Q L f w) (hs : BwOk s) (hq : q < 2)
    (hr : w.rowIs b T 64 (ints .i32 S)) (hS : IsSamples S) (hp : -1024 ≤ prev ∧ prev ≤ 1016) (hT : Plain T) (hb : ¬ z.all eb b) (hbB : z.B ≤ b) (hl : s.1.length + 2400 ≤ 1099511627776) :
    Calls Tryz.prog 57 #[.pointer (some ⟨eb, 0, none⟩), .pointer (some ⟨b, 0, none⟩), .int .i64 (q : Int), .int .i32 prev] w fun e w' => e = .returned (.int .i32 (dcAt Q q (coef S))) ∧ EncS z eb f (blockN Q q (coef S) prev s) w' ∧ w'.rowIs b T 64 (ints .i32 (coef S)) ∧ Fr z.B (fun k => z.all eb k ∨ k = b) w w' := by
  have hQ : ∀ j, 1 ≤ Q j := fun j => (hV.tabs.qpos j).1
  have hc := coefOk hS
  obtain ⟨c, hcc⟩ : ∃ c, coef S = c := ⟨_, rfl⟩
  have CF := Lib.hid (fdct_any b T S w hr)
  rw [hcc] at hc CF ⊢
  clear hcc
  have HS := Lib.hid fun (w1 : World) (k : Kept (fun i => i ≠ b) w w1) => And.intro (hE.keptOne k hr hT) (hV.keptOne k hr hT hbB)
  clear hE hr
  have hd := dcAt_in hQ hc q
  have hfit := dc_fits (q := q) (v := dcAt Q q c - prev) hq (by omega)
  have hQ0 := hV.tabs.qpos (64 * q)
  obtain ⟨dc, hdc⟩ : ∃ dc, dcAt Q q c = dc := ⟨_, rfl⟩
  obtain ⟨F, hF⟩ : ∃ F, blockN Q q c prev s = F := ⟨_, rfl⟩
  clear hV
  rw [hdc] at hd hfit ⊢
  rw [hF]
  have hdc := Lib.hid hdc
  have hF := Lib.hid hF
  go_enter Tryz.func57, Tryz.ntmps57
  go_wp2_with (go_at_call 71; (with_reducible refine CF.out.mono ?_); rintro e w1 ⟨rfl, k1, r1⟩; have K1 := Lib.hid (And.intro k1 r1); clear k1 r1)
  obtain ⟨hE1, hV1⟩ := HS.out w1 K1.out.1
  clear HS CF
  have c0 : w1.cell? ⟨b, 0, none⟩ = some (.int .i32 (c 0)) := K1.out.2.cell (by omega)
  have c1 : w1.cell? ⟨eb, 20 + q * 64, none⟩ = some (.int .u8 (Q (64 * q) : Int)) := by rw [Nat.mul_comm q 64]; exact quantCell hE1 hV1 (64 * q) (by omega)
  have hc0 := hc.dc
  have CD : Hid (∀ W, Calls Tryz.prog 72 #[.int .i32 (c 0), .int .i32 (8 * (Q (64 * q) : Int))] W fun e w' => e = .returned (.int .i32 (dcAt Q q c)) ∧ W = w') := Lib.hid fun W => div_any (c 0) (8 * (Q (64 * q) : Int)) W (by omega) (by omega) (by omega) (by omega)
  have HE := Lib.hid (And.intro hE1 hV1)
  clear hE1 hV1
  rw [hdc.out] at CD
  obtain ⟨q0, hq0⟩ : ∃ q0, Q (64 * q) = q0 := ⟨_, rfl⟩
  rw [hq0] at c1 hQ0 CD
  obtain ⟨x0, hx0⟩ : ∃ x0, c 0 = x0 := ⟨_, rfl⟩
  rw [hx0] at c0 CD
  have hqi : (q : Int) < 2 := by omega
  have ew8 : IntKind.i32.wrap (8 * (q0 : Int)) = 8 * (q0 : Int) := IntWalk.i32_in _ ⟨by omega, by omega⟩
  have ew1 : IntKind.i32.wrap (q0 : Int) = (q0 : Int) := IntWalk.i32_in _ ⟨by omega, by omega⟩
  clear hc0 hx0 hq0
  go_region_held3 (fun w' => w'.cell? ⟨b, 0, none⟩ = some (.int .i32 x0) ∧ w'.cell? ⟨eb, 20 + q * 64, none⟩ = some (.int .u8 (q0 : Int)))
    (first | go_keep | (go_split_ands; refine ⟨?_, ?_⟩ <;> assumption))
    (first
      | (go_at_call 72; (with_reducible refine (CD.out _).mono ?_); rintro e w2 ⟨rfl, rfl⟩))
  clear c0 c1 ew8 ew1 CD
  have hE2 := HE.out.1.drew
  have hV2 : Env z eb Q L f w1.drew := HE.out.2.keptOne ((Kept.refl _ _).drew) K1.out.2 hT hbB
  obtain ⟨s1, hs1⟩ : ∃ s1, rleN (2 * q) 0 (dc - prev) s = s1 := ⟨_, rfl⟩
  have CR0 := rle_any z eb Q L f s (2 * q) 0 (dc - prev) w1.drew hV2.tabs hV2.bits hE2 hs (by omega) (by omega) (by omega) hfit.1 (by omega)
  have hk1 := rleN_ok (run := 0) (v := dc - prev) hs (show 2 * q < 4 by omega) hfit.1 (by omega)
  have hl1 := rleN_len (2 * q) 0 (dc - prev) s
  rw [hs1] at CR0 hk1 hl1
  obtain ⟨d, hd2⟩ : ∃ d, 2 * q = d := ⟨_, rfl⟩
  rw [hd2] at CR0
  have CR : Hid (Calls Tryz.prog 73 #[.pointer (some ⟨eb, 0, none⟩), .int .i64 (d : Int), .int .i32 0, .int .i32 (dc - prev)] w1.drew fun e w' => e = .returned (.tuple #[]) ∧ EncS z eb f s1 w' ∧ Fr z.B (z.all eb) w1.drew w') := Lib.hid CR0
  have e1 : 2 * (q : Int) = (d : Int) := by omega
  obtain ⟨a, ha⟩ : ∃ a, 2 * q + 1 = a := ⟨_, rfl⟩
  have e2 : (d : Int) + 1 = (a : Int) := by omega
  have ewd : wrap32 (dc - prev) = dc - prev := IntWalk.wrap32_in _ ⟨by omega, by omega⟩
  have HID := Lib.hid (And.intro hs1 (And.intro hd2 ha))
  have HK := Lib.hid (And.intro hk1 hl1)
  have HA := Lib.hid ha
  have hB0 : Hid (∀ w2, EncS z eb f s1 w2 → Fr z.B (z.all eb) w1.drew w2 → BkS z eb Q L f b T c w1 s1 w2) := Lib.hid fun w2 h1 h2 => ⟨h1, hk1, hV2.all h2, h2.row (show w1.drew.rowIs b T 64 _ from K1.out.2) hb (.inr hT.2.2.2.1), ⟨h2.os, h2.tape, h2.output, h2.size, h2.block⟩⟩
  clear CR0 hs1 hd2 hk1 hl1 ha
  clear hE2 hV2
  go_wp2_with (go_at_call 73; (with_reducible refine CR.out.mono ?_); rintro e w2 ⟨rfl, k1, k2⟩; have P := Lib.hid (And.intro k1 k2); clear k1 k2)
  have hBk := hB0.out _ P.out.1 P.out.2
  clear hB0 CR P HE
  have HFIT := Lib.hid (And.intro hd (And.intro hfit (And.intro hp hl)))
  clear hd hfit hp hl ewd e1 hQ0
  go_loopg [11, 12] 63 (fun k s11 s12 wr => ∃ i : Nat, i ≤ 63 ∧ k = 63 - i ∧ s11 = .int .i32 ((acs Q q c s1 i).2 : Int) ∧ s12 = .int .i64 ((i + 1 : Nat) : Int) ∧ BkS z eb Q L f b T c w1 (acs Q q c s1 i).1 wr)
  case atStart => exact ⟨0, by omega, by omega, rfl, rfl, hBk⟩
  case round =>
    clear hBk
    obtain ⟨i, hi, rfl, rfl, rfl, hS⟩ := hrel
    have hrun := acs_run Q q c s1 i
    have hlen := acs_len Q q c s1 i hi
    have hstep : acs Q q c s1 (i + 1) = acStep q (acAt Q q c (i + 1)) (acs Q q c s1 i) := rfl
    obtain ⟨n, hn⟩ : ∃ n, i + 1 = n := ⟨_, rfl⟩
    rw [hn] at hstep ⊢
    by_cases hlt : i < 63
    · obtain ⟨zz, hzz⟩ : ∃ zz, zN n = zz := ⟨_, rfl⟩
      have hz64 : zz < 64 := by rw [← hzz]; exact zN_lt _ (by omega)
      have c0 : wr.cell? ⟨2, n, none⟩ = some (.int .i64 (zz : Int)) := by rw [← hzz]; exact hS.env.zig n (by omega)
      have c1 : wr.cell? ⟨b, zz, none⟩ = some (.int .i32 (c zz)) := hS.row.cell hz64
      have c2 : wr.cell? ⟨eb, 20 + q * 64 + n, none⟩ = some (.int .u8 (Q (64 * q + n) : Int)) := by rw [Nat.mul_comm q 64, Nat.add_assoc]; exact quantCell hS.enc hS.env (64 * q + n) (by omega)
      have hQ0 := hS.env.tabs.qpos (64 * q + n)
      have hcz : -8187 ≤ c zz ∧ c zz ≤ 8187 := hc.ac zz (by rw [← hzz]; exact zN_pos _ (by omega) (by omega)) hz64
      have hv := acAt_in hQ hc q n (by omega) (by omega)
      have CD : Hid (∀ W, Calls Tryz.prog 72 #[.int .i32 (c zz), .int .i32 (8 * (Q (64 * q + n) : Int))] W fun e w' => e = .returned (.int .i32 (acAt Q q c n)) ∧ W = w') := Lib.hid fun W => by
        have := div_any (c zz) (8 * (Q (64 * q + n) : Int)) W (by omega) (by omega) (by omega) (by omega)
        unfold acAt
        rw [hzz]
        exact this
      obtain ⟨v, hvv⟩ : ∃ v, acAt Q q c n = v := ⟨_, rfl⟩
      obtain ⟨q0, hq0⟩ : ∃ q0, Q (64 * q + n) = q0 := ⟨_, rfl⟩
      obtain ⟨x0, hx0⟩ : ∃ x0, c zz = x0 := ⟨_, rfl⟩
      obtain ⟨t, ht⟩ : ∃ t, (acs Q q c s1 i).1 = t := ⟨_, rfl⟩
      obtain ⟨r, hr2⟩ : ∃ r, (acs Q q c s1 i).2 = r := ⟨_, rfl⟩
      have htr : acs Q q c s1 i = (t, r) := Prod.ext ht hr2
      rw [hvv, htr] at hstep
      rw [hvv] at hv CD
      rw [hq0] at c2 hQ0 CD
      rw [hx0] at c1 CD
      rw [ht] at hS hlen
      rw [hr2] at hrun ⊢
      have j0 : (0 : Int) ≤ (n : Int) := by omega
      have j1 : (n : Int) < 64 := by omega
      have j2 : (0 : Int) ≤ (zz : Int) := by omega
      have j3 : (zz : Int) < 64 := by omega
      have ew8 : IntKind.i32.wrap (8 * (q0 : Int)) = 8 * (q0 : Int) := IntWalk.i32_in _ ⟨by omega, by omega⟩
      have ew1 : IntKind.i32.wrap (q0 : Int) = (q0 : Int) := IntWalk.i32_in _ ⟨by omega, by omega⟩
      have HH := Lib.hid (And.intro hS (And.intro hlen (And.intro hstep hn)))
      clear hS hlen hstep ht hr2 htr hzz hvv hq0 hx0 hcz
      go_wp2_with fail
      go_region_held3 (fun w' => w'.cell? ⟨2, n, none⟩ = some (.int .i64 (zz : Int)) ∧ w'.cell? ⟨b, zz, none⟩ = some (.int .i32 x0) ∧ w'.cell? ⟨eb, 20 + q * 64 + n, none⟩ = some (.int .u8 (q0 : Int)))
        (first | go_keep | (go_split_ands; refine ⟨?_, ?_, ?_⟩ <;> assumption))
        (first
          | (go_at_call 72; (with_reducible refine (CD.out _).mono ?_); rintro e w2 ⟨rfl, rfl⟩))
      clear c0 c1 c2 ew8 ew1 CD hQ0
      by_cases hv0 : v = 0
      · subst hv0
        go_wp2_with fail
        go_roundg (63 - n)
        case measure => go_light; have := HH.out.2.2.2; omega
        case rel =>
          go_light
          obtain ⟨hS, _, hstep, _⟩ := HH.out
          refine ⟨n, by omega, rfl, ?_, rfl, ?_⟩
          · rw [hstep]; unfold acStep; rw [if_pos rfl]; go_num
          · rw [hstep]; unfold acStep; rw [if_pos rfl]; exact hS.drew hT hbB
      · have hvb : ((v : Int) == 0) = false := by simp; exact hv0
        have hzd : decide ((n : Int) < 64) = true := by simp; omega
        have hBk : BkS z eb Q L f b T c w1 t wr.drew := HH.out.1.drew hT hbB
        have hrm : r % 16 + 16 * (r / 16) = r := by omega
        have HV := Lib.hid (And.intro hv0 hv)
        clear hv0 hv
        go_wp2_with fail
        go_loopg [11] (r / 16) (fun k s11 wr2 => ∃ (m : Nat) (s2 : Bw), m ≤ r / 16 ∧ k = 0 + m ∧ s11 = .int .i32 ((r % 16 + 16 * m : Nat) : Int) ∧ Hid (zrl a m s2 = zrl a (r / 16) t) ∧ BkS z eb Q L f b T c w1 s2 wr2 ∧ s2.1.length + 6 * m ≤ s1.1.length + 36 * i + 24)
        case atStart => exact ⟨r / 16, t, by omega, by omega, by rw [hrm], Lib.hid rfl, hBk, by have := HH.out.2.1; omega⟩
        case round =>
          clear hBk
          obtain ⟨m, s2, hm, rfl, rfl, hz, hB2, hl2⟩ := hrel
          by_cases hm0 : 0 < m
          · obtain ⟨m, rfl⟩ : ∃ m', m = m' + 1 := ⟨m - 1, by omega⟩
            have hal : 240 < lutLen a := by rw [← HA.out]; rw [ac_len q hq]; omega
            have hCE := emitHuff_any z eb Q L f s2 a 240 wr hB2.env.tabs hB2.enc hB2.ok (by have := HA.out; omega) hal (by have := HFIT.out.2.2.2; have := HK.out.2; omega)
            have CE : Hid (Calls Tryz.prog 74 #[.pointer (some ⟨eb, 0, none⟩), .int .i64 (a : Int), .int .i32 240] wr fun e w' => e = .returned (.tuple #[]) ∧ EncS z eb f (huffN a 240 s2) w' ∧ Fr z.B (z.all eb) wr w') := Lib.hid hCE
            have hok2 : BwOk (huffN a 240 s2) := huffN_ok hB2.ok (by have := HA.out; omega) hal
            have hhl := huffN_len a 240 s2
            have HB := Lib.hid (And.intro hB2 (And.intro hok2 hz))
            have e16 : ((r % 16 + 16 * (m + 1) : Nat) : Int) = ((r % 16 + 16 * m : Nat) : Int) + 16 := by omega
            rw [e16]
            obtain ⟨y, hy⟩ : ∃ y, r % 16 + 16 * m = y := ⟨_, rfl⟩
            rw [hy]
            have y1 : (y : Int) + 16 ≤ 100 := by omega
            have y2 : (15 : Int) < (y : Int) + 16 := by omega
            clear hCE hB2 hok2 hz hal e16
            go_wp2_with (go_at_call 74; (with_reducible refine CE.out.mono ?_); rintro e w3 ⟨rfl, k1, k2⟩; have P := Lib.hid (And.intro k1 k2); clear k1 k2)
            go_roundg (0 + m)
            case measure => go_light; omega
            case rel =>
              go_light
              exact ⟨m, huffN a 240 s2, by omega, rfl, by go_num, HB.out.2.2, HB.out.1.next hT hb P.out.1 HB.out.2.1 P.out.2, by omega⟩
          · obtain rfl : m = 0 := by omega
            simp only [zrl] at hz
            have hf := ac_fits (r := r % 16) hq HV.out.2 (by omega)
            have hla : 2 * q + 1 = a := HA.out
            rw [hla] at hf
            have hvl := HV.out.2
            have hCR := rle_any z eb Q L f s2 a (r % 16) v wr hB2.env.tabs hB2.env.bits hB2.enc hB2.ok (by omega) (by omega) (by omega) hf.1 (by have := HFIT.out.2.2.2; have := HK.out.2; omega)
            have hok2 := rleN_ok (run := r % 16) (v := v) hB2.ok (show a < 4 by omega) hf.1 (by omega)
            obtain ⟨s3, hs3⟩ : ∃ s3, rleN a (r % 16) v s2 = s3 := ⟨_, rfl⟩
            rw [hs3] at hCR hok2
            have hacs : acs Q q c s1 n = (s3, 0) := by
              rw [HH.out.2.2.1]
              unfold acStep
              rw [if_neg HV.out.1, hla, ← hz.out, hs3]
            have hy16 : ((r % 16 + 16 * 0 : Nat) : Int) = ((r % 16 : Nat) : Int) := by omega
            rw [hy16]
            obtain ⟨y, hy⟩ : ∃ y, r % 16 = y := ⟨_, rfl⟩
            rw [hy] at hCR ⊢
            have y2 : ¬ (15 : Int) < (y : Int) := by omega
            have CR := Lib.hid hCR
            have HB := Lib.hid (And.intro hB2 (And.intro hok2 (And.intro hacs HH.out.2.2.2)))
            clear hCR hB2 hok2 hz hs3 hy16 hacs hf hvl hla
            go_wp2_with (go_at_call 73; (with_reducible refine CR.out.mono ?_); rintro e w3 ⟨rfl, k1, k2⟩; have P := Lib.hid (And.intro k1 k2); clear k1 k2)
            go_roundg (63 - n)
            case measure => go_light; have := HH.out.2.2.2; omega
            case rel =>
              go_light
              refine ⟨n, by omega, rfl, ?_, rfl, ?_⟩
              · rw [HB.out.2.2.1]; rfl
              · rw [HB.out.2.2.1]; exact HB.out.1.next hT hb P.out.1 HB.out.2.1 P.out.2
    · obtain rfl : i = 63 := by omega
      have hrn : ∃ r, (acs Q q c s1 63).2 = r := ⟨_, rfl⟩
      obtain ⟨r, hr2⟩ := hrn
      obtain ⟨t, ht⟩ : ∃ t, (acs Q q c s1 63).1 = t := ⟨_, rfl⟩
      rw [hr2] at hrun ⊢
      rw [ht] at hS hlen
      have htr : acs Q q c s1 63 = (t, r) := Prod.ext ht hr2
      have hB : F = if 0 < r then huffN a 0 t else t := by
        rw [← hF.out, ← HA.out]
        unfold blockN
        rw [hdc.out, HID.out.1, htr]
      have nn : ¬ ((n : Int) < 64) := by omega
      have hal : 0 < lutLen a := by rw [← HA.out]; rw [ac_len q hq]; omega
      have hCE := emitHuff_any z eb Q L f t a 0 wr hS.env.tabs hS.enc hS.ok (by have := HA.out; omega) hal (by have := HFIT.out.2.2.2; have := HK.out.2; omega)
      have CE : Hid (Calls Tryz.prog 74 #[.pointer (some ⟨eb, 0, none⟩), .int .i64 (a : Int), .int .i32 0] wr fun e w' => e = .returned (.tuple #[]) ∧ EncS z eb f (huffN a 0 t) w' ∧ Fr z.B (z.all eb) wr w') := Lib.hid hCE
      have HB := Lib.hid (And.intro hB hS)
      clear hCE hS hB htr ht hr2 hlen hal hstep
      have hfin : ∀ w2, Fr z.B (z.all eb) w1 w2 → Fr z.B (fun k => z.all eb k ∨ k = b) w w2 := fun w2 h => (Fr.ofKept (K1.out.1.mono fun i _ h e => h (.inr e))).trans (h.mono fun i h => .inl h)
      have HFIN := Lib.hid hfin
      clear hfin
      by_cases hr0 : 0 < r
      · have hri : (0 : Int) < (r : Int) := by omega
        go_wp2_with (go_at_call 74; (with_reducible refine CE.out.mono ?_); rintro e w3 ⟨rfl, k1, k2⟩; have P := Lib.hid (And.intro k1 k2); clear k1 k2)
        go_ret
        rw [HB.out.1, if_pos hr0]
        exact ⟨rfl, P.out.1, P.out.2.row HB.out.2.row hb (.inr hT.2.2.2.1), HFIN.out _ (HB.out.2.fr.trans P.out.2)⟩
      · have hri : ¬ (0 : Int) < (r : Int) := by omega
        go_wp2_with fail
        go_ret
        rw [HB.out.1, if_neg hr0]
        exact ⟨rfl, HB.out.2.enc, HB.out.2.row, HFIN.out _ HB.out.2.fr⟩
end Go.Proofs.YtghjlekdibcjdaaGreatDoor
