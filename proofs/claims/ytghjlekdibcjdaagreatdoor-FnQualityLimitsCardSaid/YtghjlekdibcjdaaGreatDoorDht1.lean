/- The contract of writeDHT with 2 tables (printed by dht.py). -/
import Derived.Test.YtghjlekdibcjdaaGreatDoorDhtA
import Derived.Deep.LoopGhost
namespace Go.Proofs.YtghjlekdibcjdaaGreatDoor
open Go.Deep Go.RowKit
set_option linter.unusedVariables false
set_option maxHeartbeats 4000000 in
set_option maxRecDepth 100000 in
theorem dht_hd1 (z : Ids) (eb : Nat) (g : Nat → Value) (T : List Nat) (w : World) (h : EncG z eb g T w) (hT : T.length + 424 ≤ 4096) :
    Calls Tryz.prog 42 #[.pointer (some ⟨eb, 0, none⟩), .int .i64 1] w fun e w' => e = .returned (.tuple #[]) ∧ (∃ g', (∀ j, j < 2 ∨ 6 ≤ j → g' j = g j) ∧ EncG z eb g' (T ++ (mkr 196 210 ++ dhts 2)) w') ∧ Kept (z.hd eb) w w' := by
  have CS := Lib.hid (specs_any w)
  have HE := Lib.hid h
  have hlt : eb < w.heap.size ∧ z.bb < w.heap.size ∧ z.fb < w.heap.size := by
    obtain ⟨_, hr, _⟩ := h.buf.row
    exact ⟨h.row.lt, (Array.getElem?_eq_some_iff.1 h.buf.bw).1, hr.lt⟩
  clear h
  go_enter Tryz.func42, Tryz.ntmps42
  go_wp2_with (first
    | (go_at_call 48; (with_reducible refine CS.out.mono ?_); rintro e w1 ⟨b, rfl, hs, hb, hk⟩; obtain ⟨H, hH⟩ : ∃ H, w1.heap.size = H := ⟨_, rfl⟩; have hA0 : DA z eb g T b H w w1 := ⟨HE.out.all hk, hs, fun h hh => (by have := (hs h hh).lt; omega), hk.mono fun _ _ _ => trivial⟩; have hrz : (w1.alloc (.cells (agg 68 specZ) 120)).rowIs H 120 68 specZ := (by rw [← hH]; exact rowIs_agg w1 120 68 specZ); have hbd : ∀ h, h < 4 → z.hd eb (b h) := fun h hh => (by have := hb h hh; exact ⟨by omega, by omega, by omega⟩); have hHd : z.hd eb H := (by have := hk.size; exact ⟨by omega, by omega, by omega⟩); have HA0 := Lib.hid (And.intro hA0 hrz); have HBD := Lib.hid (And.intro hbd hHd); clear hA0 hrz hs hb hk hbd hHd)
    | ((with_reducible refine wpList_alloc_agg (op := ⟨some 5, .alloc 120, _, _, _, _⟩) ?_ 120 (agg 68 specZ) H ?_ ?_ ?_); (· rfl); (· exact hH); (· kernel_rfl))
    | ((with_reducible refine wpList_store_new (op := ⟨none, .store 120 (.tmp 5) (.tmp 11), _, _, _, _⟩) ?_ 120 (.tmp 5) (.tmp 11) ?_ H 68 (g := specsF b) ?_ ?_ HA0.out.2 ?_ ?_ ?_); (· rfl); (· rfl); (· rfl); (· rfl); (· exact size120); (· exact specsF_one _); (intro v0 k2 s2 r2; have hs0 : v0.heap.size = H + 1 := (by have := s2.out; simp at this; omega); have P0 := Lib.hid (And.intro (HA0.out.1.new hH k2) r2); clear k2 s2 r2)))
  clear CS HA0
  go_loopg [4, 19] 2 (fun k s4 s19 wr => ∃ i : Nat, i ≤ 2 ∧ k = 2 - i ∧ s4 = .int .i64 (mlen i : Int) ∧ s19 = .int .i64 (i : Int) ∧ DA z eb g T b H w wr ∧ wr.rowIs H 120 68 (specsF b))
  case atStart => exact ⟨0, by omega, rfl, rfl, rfl, P0.out⟩
  case round =>
    obtain ⟨i, hi, rfl, rfl, rfl, hA, hrow⟩ := hrel
    clear P0
    by_cases hlt : i < 2
    · obtain ⟨H2, hH2⟩ : ∃ H2, wr.heap.size = H2 := ⟨_, rfl⟩
      have hr2 : (wr.alloc (.cells (agg 17 specZ) 119)).rowIs H2 119 17 specZ := by rw [← hH2]; exact rowIs_agg wr 119 17 specZ
      have hvl := valLen_in i (by omega)
      have hml := mlen_in i (by omega)
      have hsl : specsF b (i * 17 + 16) = .slice (some ⟨b i, 0, none⟩) (valLen i) (valLen i) := by rw [Nat.mul_comm, specs_row b i 16 (by omega)]; rfl
      have hmn : (mlen (i + 1) : Int) = (mlen i : Int) + (17 + (valLen i : Int)) := by simp only [mlen]; omega
      have HM := Lib.hid hmn
      obtain ⟨vl, hvv⟩ : ∃ vl, valLen i = vl := ⟨_, rfl⟩
      obtain ⟨ml, hmm⟩ : ∃ ml, mlen i = ml := ⟨_, rfl⟩
      rw [hvv] at hvl hsl
      rw [hmm] at hml ⊢
      have j0 : (0 : Int) ≤ (i : Int) := by omega
      have j1 : (i : Int) < 2 := by omega
      have HN := Lib.hid (And.intro hA (And.intro hrow (And.intro hr2 (And.intro hvv hmm))))
      clear hA hrow hr2 hvv hmm hmn
      go_wp2_with (first
        | ((with_reducible refine wpList_load_rowIs (op := ⟨some 22, .load 119 (.tmp 21), _, _, _, _⟩) ?_ 119 (.tmp 21) ?_ H (i * 17) 17 ?_ HN.out.2.1 ?_ Tryz.underlying119 ?_ ?_ ?_); (· rfl); (· rfl); (· rfl); (· omega); (· rfl); (· exact size119))
        | ((with_reducible refine wpList_alloc_agg (op := ⟨some 8, .alloc 119, _, _, _, _⟩) ?_ 119 (agg 17 specZ) H2 ?_ ?_ ?_); (· rfl); (· exact hH2); (· kernel_rfl))
        | ((with_reducible refine wpList_store_new (op := ⟨none, .store 119 (.tmp 8) (.tmp 22), _, _, _, _⟩) ?_ 119 (.tmp 8) (.tmp 22) ?_ H2 17 (g := fun j => specsF b (i * 17 + j)) ?_ ?_ HN.out.2.2.1 ?_ ?_ ?_); (· rfl); (· rfl); (· rfl); (· rfl); (· exact size119); (· exact fun j => specsF_one b _); (intro w2 k2 s2 r2; have d0 : w2.cell? ⟨H2, 16, none⟩ = some (.slice (some ⟨b i, 0, none⟩) vl vl) := (by rw [r2.cell (by omega), hsl]); have P2 := Lib.hid (And.intro k2 r2); clear k2 s2 r2)))
      go_roundg (2 - (i + 1))
      case measure => go_light; omega
      case rel =>
        go_light
        have hk : Kept (fun k => k ≠ H2) wr w2 := ((Kept.refl (fun k => k ≠ H2) wr).alloc _).trans P2.out.1
        refine ⟨i + 1, by omega, rfl, ?_, by go_num, HN.out.1.new hH2 P2.out.1, hk.row HN.out.2.1 (by have := HN.out.2.1.lt; omega)⟩
        rw [HM.out, HN.out.2.2.2.1, HN.out.2.2.2.2]
    · obtain rfl : i = 2 := by omega
      have CM : Hid (Calls Tryz.prog 51 #[.pointer (some ⟨eb, 0, none⟩), .int .u8 196, .int .i64 210] wr fun e w' => e = .returned (.tuple #[]) ∧ (∃ g', (∀ j, j < 2 ∨ 6 ≤ j → g' j = g j) ∧ EncG z eb g' (T ++ mkr 196 210) w') ∧ Kept (z.hd eb) wr w') := Lib.hid (marker_hd z eb g T 196 210 wr hA.enc (by omega) (by omega))
      have hml : (mlen 2 : Int) = 210 := rfl
      have HN := Lib.hid (And.intro hA hrow)
      clear hA hrow
      go_wp2_with (go_at_call 51; (with_reducible refine CM.out.mono ?_); rintro e w1 ⟨rfl, ⟨g1, hg1, k1⟩, k2⟩; have P := Lib.hid (And.intro hg1 (And.intro (HN.out.1.hd k1 HBD.out.1 k2) (k2.row HN.out.2 HBD.out.2))); clear hg1 k1 k2)
      clear CM HN
      go_loopg [35] 2 (fun k s35 wr => ∃ i : Nat, i ≤ 2 ∧ k = 2 - i ∧ s35 = .int .i64 (i : Int) ∧ DA z eb g1 (T ++ (mkr 196 210 ++ dhts i)) b H w wr ∧ wr.rowIs H 120 68 (specsF b))
      case atStart => exact ⟨0, by omega, rfl, rfl, by simpa [dhts] using P.out.2.1, P.out.2.2⟩
      case round =>
        obtain ⟨i, hi, rfl, rfl, hA, hrow⟩ := hrel
        by_cases hlt : i < 2
        · obtain ⟨H2, hH2⟩ : ∃ H2, wr.heap.size = H2 := ⟨_, rfl⟩
          have hr2 : (wr.alloc (.cells (agg 17 specZ) 119)).rowIs H2 119 17 specZ := by rw [← hH2]; exact rowIs_agg wr 119 17 specZ
          have hsl : specsF b (i * 17 + 16) = .slice (some ⟨b i, 0, none⟩) (valLen i) (valLen i) := by rw [Nat.mul_comm, specs_row b i 16 (by omega)]; rfl
          have hstr : ∀ W, (Instr.index 9 (.string ⟨#[0, 16, 1, 17]⟩) (.int .i64 (i : Int))).run Tryz.prog W = .ok (.int .u8 (dhtMark i : Int)) W := fun W => by
            obtain rfl | rfl : i = 0 ∨ i = 1 := by omega
            · kernel_rfl
            · kernel_rfl
          have hlen : (T ++ (mkr 196 210 ++ dhts (i + 1))).length ≤ 4096 := by
            have := dhts_len (i + 1) (by omega)
            simp only [List.length_append, mkr_len] at this ⊢
            omega
          have hlen2 : (T ++ (mkr 196 210 ++ dhts (i + 1))).length = (T ++ (mkr 196 210 ++ dhts i)).length + 1 + 16 + (valL i).length := by
            simp only [dhts, List.length_append, mkr_len, cntL_len i (by omega), List.length_singleton]; omega
          have hv0 := (good_all i (by omega)).2
          have hvl := valL_len i (by omega)
          have hH2d : z.hd eb H2 := by
            have hk := hA.enc
            obtain ⟨_, hr, _⟩ := hk.buf.row
            have h1 := hk.row.lt
            have h2 := (Array.getElem?_eq_some_iff.1 hk.buf.bw).1
            have h3 := hr.lt
            exact ⟨by omega, by omega, by omega⟩
          obtain ⟨vl, hvv⟩ : ∃ vl, valLen i = vl := ⟨_, rfl⟩
          rw [hvv] at hsl hvl hv0
          have CB := Lib.hid fun (W : World) (k : EncG z eb g1 (T ++ (mkr 196 210 ++ dhts i)) W) => writeByte_hd z eb g1 (T ++ (mkr 196 210 ++ dhts i)) (dhtMark i) W k (by omega)
          have CC := Lib.hid fun (W : World) (k : EncG z eb g1 (T ++ (mkr 196 210 ++ dhts i) ++ [dhtMark i]) W) (hrw : W.rowIs H2 119 17 (fun j => specsF b (i * 17 + j))) => write_hd z eb g1 _ (cntL i) H2 0 16 16 (cntL_len i (by omega)) W k (by
            intro j hj
            rw [cntL_len i (by omega)] at hj
            rw [Nat.zero_add, hrw.cell (by omega), Nat.mul_comm, specs_row b i j (by omega)]
            unfold specF cntN
            rw [if_pos hj]) (by rw [cntL_len i (by omega)]; simp only [List.length_append, List.length_singleton] at hlen hlen2 ⊢; omega) (by rw [cntL_len i (by omega)]; omega)
          have CV := Lib.hid fun (W : World) (k : EncG z eb g1 (T ++ (mkr 196 210 ++ dhts i) ++ [dhtMark i] ++ cntL i) W) (hrw : W.rowIs (b i) 5 (valLen i) (ints .u8 fun q => (valN i q : Int))) => write_hd z eb g1 _ (valL i) (b i) 0 vl vl hvl W k (by
            intro j hj
            rw [hvl, ← hvv] at hj
            rw [Nat.zero_add, hrw.cell hj]
            rfl) (by simp only [List.length_append, List.length_singleton, cntL_len i (show i < 4 by omega)] at hlen hlen2 ⊢; omega) (by omega)
          have j0 : (0 : Int) ≤ (i : Int) := by omega
          have j1 : (i : Int) < 2 := by omega
          have HN := Lib.hid (And.intro hA (And.intro hrow (And.intro hr2 hH2d)))
          clear hA hrow hr2 hH2d hlen hlen2 hv0 hvl hvv
          go_wp2_with (first
            | ((with_reducible refine wpList_load_rowIs (op := ⟨some 39, .load 119 (.tmp 38), _, _, _, _⟩) ?_ 119 (.tmp 38) ?_ H (i * 17) 17 ?_ HN.out.2.1 ?_ Tryz.underlying119 ?_ ?_ ?_); (· rfl); (· rfl); (· rfl); (· omega); (· rfl); (· exact size119))
            | ((with_reducible refine wpList_alloc_agg (op := ⟨some 10, .alloc 119, _, _, _, _⟩) ?_ 119 (agg 17 specZ) H2 ?_ ?_ ?_); (· rfl); (· exact hH2); (· kernel_rfl))
            | ((with_reducible refine wpList_store_new (op := ⟨none, .store 119 (.tmp 10) (.tmp 39), _, _, _, _⟩) ?_ 119 (.tmp 10) (.tmp 39) ?_ H2 17 (g := fun j => specsF b (i * 17 + j)) ?_ ?_ HN.out.2.2.1 ?_ ?_ ?_); (· rfl); (· rfl); (· rfl); (· rfl); (· exact size119); (· exact fun j => specsF_one b _); (intro w2 k2 s2 r2; have hA2 := HN.out.1.new hH2 k2; have hk2 : Kept (fun k => k ≠ H2) wr w2 := ((Kept.refl (fun k => k ≠ H2) wr).alloc _).trans k2; have hr2 := hk2.row HN.out.2.1 (by have := HN.out.2.1.lt; omega); have P2 := Lib.hid (And.intro hA2 (And.intro hr2 r2)); clear k2 s2 r2 hA2 hr2 hk2))
            | (go_at_call 52; (with_reducible refine (CB.out _ P2.out.1.enc).mono ?_); rintro e w3 ⟨rfl, k1, k2⟩; have P3 := Lib.hid (And.intro (P2.out.1.hd k1 HBD.out.1 k2) (And.intro (k2.row P2.out.2.1 HBD.out.2) (k2.row P2.out.2.2 HN.out.2.2.2))); clear k1 k2)
            | (go_at_call 38; first
              | ((with_reducible refine (CC.out _ P3.out.1.enc P3.out.2.2).mono ?_); rintro e w4 ⟨rfl, k1, k2⟩; have d0 : w4.cell? ⟨H2, 16, none⟩ = some (.slice (some ⟨b i, 0, none⟩) vl vl) := (by rw [(k2.row P3.out.2.2 HN.out.2.2.2).cell (by omega), hsl]); have P4 := Lib.hid (And.intro (P3.out.1.hd k1 HBD.out.1 k2) (k2.row P3.out.2.1 HBD.out.2)); clear k1 k2)
              | ((with_reducible refine (CV.out _ P4.out.1.enc (P4.out.1.specs i (by omega))).mono ?_); rintro e w5 ⟨rfl, k1, k2⟩; have P5 := Lib.hid (And.intro (P4.out.1.hd k1 HBD.out.1 k2) (k2.row P4.out.2 HBD.out.2)); clear k1 k2)))
          refine (CV.out _ P4.out.1.enc (P4.out.1.specs i (by omega))).mono ?_
          rintro e w5 ⟨rfl, k1, k2⟩
          have P5 := Lib.hid (And.intro (P4.out.1.hd k1 HBD.out.1 k2) (k2.row P4.out.2 HBD.out.2))
          go_wp2_with fail
          go_roundg (2 - (i + 1))
          case measure => go_light; omega
          case rel =>
            go_light
            refine ⟨i + 1, by omega, rfl, by go_num, ?_, P5.out.2⟩
            have h := P5.out.1
            simp only [dhts]
            simp only [List.append_assoc] at h ⊢
            exact h
        · obtain rfl : i = 2 := by omega
          have HN := Lib.hid hA
          clear hA hrow
          go_wp2_with fail
          go_end0
          exact ⟨rfl, ⟨g1, P.out.1, HN.out.enc⟩, HN.out.kept⟩
end Go.Proofs.YtghjlekdibcjdaaGreatDoor
