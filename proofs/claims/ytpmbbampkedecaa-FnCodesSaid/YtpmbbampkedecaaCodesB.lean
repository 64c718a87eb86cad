/- Contracts of the functions that FnCodes calls: spec.Codes. -/
import Derived.Test.YtpmbbampkedecaaCodesA
import Derived.Test.YtpmbbampkedecaaCodesLaw
namespace Go.Proofs.Ytpmbbampkedecaa
open Go.Deep Go.RowKit

def zeros64 (n : Nat) : Array Value := Array.replicate n (.int .i64 0)
theorem rowIs_zeros64 (W : World) (t : TypeId) (n : Nat) : (W.alloc (.cells (zeros64 n) t)).rowIs W.heap.size t n (ints .i64 fun _ => 0) := rowIs_replicate W t n (.int .i64 0)
theorem info34 : (Try.prog.info? 34).map (fun i => (i.zero, i.size)) = some (some (.agg (zeros64 512)), 512) := by kernel_rfl
theorem size34 : (Try.prog.info? 34).map (·.size) = some 512 := by kernel_rfl
theorem size5 : (Try.prog.info? 5).map (·.size) = some 1 := by kernel_rfl
theorem size33 : (Try.prog.info? 33).map (·.size) = some 2 := by kernel_rfl

/-- What holds inside spec.Codes when j codes of i + 1 bits are entered. -/
structure SC (w wr : World) (c sym : Nat → Nat) (i j n : Nat) : Prop where
  kept : Kept (fun _ => True) w wr
  res : wr.rowIs (w.heap.size + 1) 34 512 (ints .i64 fun _ => 0)
  out : wr.rowIs (w.heap.size + 1 + 1) 34 512 (ints .i64 (codeCells (tb c sym i j)))
  room : cnt c i + j ≤ n
  less : ∀ p, p < i → ∀ q, q < c p → cd c p + q < 2 ^ (p + 1) - 1
  here : ∀ q, q < j → cd c i + q < 2 ^ (i + 1) - 1
theorem SC.start (w : World) (c sym : Nat → Nat) (n : Nat) (A : Array Value) : SC w (((w.alloc (.cells A 29)).alloc (.cells (zeros64 512) 34)).alloc (.cells (zeros64 512) 34)) c sym 0 0 n := by
  have h1 := rowIs_zeros64 (w.alloc (.cells A 29)) 34 512
  have h2 := rowIs_zeros64 ((w.alloc (.cells A 29)).alloc (.cells (zeros64 512) 34)) 34 512
  simp only [World.size_alloc] at h1 h2
  exact ⟨(((Kept.refl _ _).alloc _).alloc _).alloc _, h1.alloc _, h2.congr fun q _ => by simp [ints, codeCells, tb, fill, tab], by simp [cnt], fun p hp => by omega, fun q hq => by omega⟩

theorem SC.step {w wr : World} {c sym : Nat → Nat} {i j n sv : Nat} (h : SC w wr c sym i j n) (hs : sym (cnt c i + j) = sv) (hr : cnt c i + j < n) (hm : cd c i + j < 2 ^ (i + 1) - 1) :
    SC w ((wr.setCell ⟨w.heap.size + 1 + 1, sv * 2, none⟩ (.int .i64 ((i : Int) + 1))).setCell ⟨w.heap.size + 1 + 1, sv * 2 + 1, none⟩ (.int .i64 ((cd c i : Int) + j))) c sym i (j + 1) n := by
  refine ⟨(h.kept.setCell (fun h => by simp at h; omega) _).setCell (fun h => by simp at h; omega) _, (h.res.setOther (by simp) _).setOther (by simp) _, ((h.out.set _ _).set _ _).congr fun q hq => ?_, by omega, h.less, fun q hq => ?_⟩
  · simp only [ints, codeCells, tb_step, hs]
    by_cases e1 : q = sv * 2 + 1
    · rw [if_pos e1, if_neg (by omega), if_pos (by omega)]; simp
    · rw [if_neg e1]
      by_cases e0 : q = sv * 2
      · rw [if_pos e0, if_pos (by omega), if_pos (by omega)]; simp
      · rw [if_neg e0, if_neg (show ¬ q / 2 = sv by omega)]
  · by_cases e : q = j
    · subst e; exact hm
    · exact h.here q (by omega)
theorem SC.next {w wr : World} {c sym : Nat → Nat} {i n : Nat} (h : SC w wr c sym i (c i) n) : SC w wr c sym (i + 1) 0 n :=
  ⟨h.kept, h.res, h.out, h.room, fun p hp q hq => by
    by_cases e : p = i
    · subst e; exact h.here q hq
    · exact h.less p (by omega) q hq, fun q hq => by omega⟩
theorem pow_small {i : Nat} (hi : i < 16) : ∃ p : Nat, ((2 : Int) ^ (i + 1) = (p : Int)) ∧ 2 ^ (i + 1) = p ∧ 2 ≤ p ∧ p ≤ 65536 := by
  refine ⟨2 ^ (i + 1), by simp, rfl, ?_, ?_⟩
  · have : 2 ^ 1 ≤ 2 ^ (i + 1) := Nat.pow_le_pow_right (by omega) (by omega)
    omega
  · have : 2 ^ (i + 1) ≤ 2 ^ 16 := Nat.pow_le_pow_right (by omega) (by omega)
    omega

/-- What spec.Codes hands back. -/
def SpecPost (w : World) (c sym : Nat → Nat) (n : Nat) (e : Ending) (w' : World) : Prop :=
  Kept (fun _ => True) w w' ∧ ((∃ f, e = .returned (.tuple #[.agg (agg 512 (ints .i64 f)), .bool false])) ∨ (Good c n ∧ e = .returned (.tuple #[.agg (agg 512 (ints .i64 (codeCells (tab c sym 16)))), .bool true])))

set_option maxHeartbeats 1000000 in
set_option maxRecDepth 100000 in
theorem spec_codes_any (a : Option Addr) (len cap : Nat) (z : List Int) (c : Nat → Nat) (hc : ∀ i, c i ≤ 255) (w : World) (h : IsRow .u8 w a len cap z) :
    Calls Try.prog 10 #[.agg (agg 16 (ints .u8 fun i => c i)), .slice a len cap] w (SpecPost w c (fun k => (z.getD k 0).toNat) len) := by
  have hlen := h.len_le
  have HH := Lib.hid h
  clear h
  have hz34 := (zero_of_info info34).1
  have HC := Lib.hid hc
  clear hc
  go_enter Try.func10, Try.ntmps10
  go_wp2_with (((with_reducible refine wpList_load_all (w := ((w.alloc (.cells (agg 16 (ints .u8 fun i => c i)) 29)).alloc (.cells (zeros64 512) 34)).alloc (.cells (zeros64 512) 34)) (op := ⟨some 12, .load 29 (.tmp 2), _, _, _, _⟩) ?_ 29 (.tmp 2) ?_ w.heap.size 16 ?_ (((rowIs_agg w 29 16 _).alloc _).alloc _) ?_ Try.underlying29 ?_ ?_ ?_); (· rfl); (· rfl); (· rfl); (· omega); (· rfl); (· exact size29)))
  go_loopg [7, 8, 13] 16 (fun k s7 s8 s13 wr => ∃ i : Nat, i ≤ 16 ∧ k = 16 - i ∧ s7 = .int .i64 (cd c i : Int) ∧ s8 = .int .i64 (cnt c i : Int) ∧ s13 = .int .i64 i ∧ SC w wr c (fun k => (z.getD k 0).toNat) i 0 len)
  case atStart => exact ⟨0, by omega, rfl, rfl, rfl, rfl, SC.start w c _ len _⟩
  case round =>
    obtain ⟨i, hi, rfl, rfl, rfl, rfl, hs⟩ := hrel
    clear hz34
    by_cases hlt : i < 16
    · have hltd : decide ((i : Int) < 16) = true := by simp; omega
      have hidx : ∀ wx, (Instr.index 29 (.agg (agg 16 (ints .u8 fun i => (c i : Int)))) (.int .i64 (i : Int))).run Try.prog wx = .ok (.int .u8 (c i : Int)) wx := run_index_one (P := Try.prog) (t := 29) (e := 5) (n := 16) Try.underlying29 Try.underlying5 rfl size5 (ints .u8 fun i => c i) i hlt
      have hci := HC.out i
      have hcd := cd_small HC.out (i := i) (by omega)
      have hcn := cnt_le HC.out i
      go_wp2
      clear hidx
      go_loopg [7, 8, 20] (c i) (fun k s7 s8 s20 wr => ∃ j : Nat, j ≤ c i ∧ k = c i - j ∧ s7 = .int .i64 ((cd c i : Int) + j) ∧ s8 = .int .i64 ((cnt c i : Int) + j) ∧ s20 = .int .u8 j ∧ SC w wr c (fun k => (z.getD k 0).toNat) i j len)
      case atStart => exact ⟨0, by omega, rfl, by simp, by simp, rfl, hs⟩
      case round =>
        obtain ⟨j, hj, rfl, rfl, rfl, rfl, hs⟩ := hrel
        have hres := hs.res
        have hout := hs.out
        have hroom := hs.room
        have hkept := hs.kept
        by_cases hjc : j < c i
        · have hjd : decide ((j : Int) < (c i : Int)) = true := by simp; omega
          by_cases hat : cnt c i + j = len
          · have hatb : ((cnt c i : Int) + j == (len : Int)) = true := by simp; omega
            have HA := Lib.hid hat
            clear hat
            go_wp2_with (first | ((with_reducible refine wpList_load_all (w := wr) (op := ⟨some 43, .load 34 (.tmp 6), _, _, _, _⟩) ?_ 34 (.tmp 6) ?_ (w.heap.size + 1 + 1) 512 ?_ hout ?_ Try.underlying34 ?_ ?_ ?_); (· rfl); (· rfl); (· rfl); (· omega); (· rfl); (· exact size34)) | ((with_reducible refine wpList_store_rowIs (w := wr) (op := ⟨none, .store 34 (.tmp 4) (.tmp 43), _, _, _, _⟩) ?_ 34 (.tmp 4) (.tmp 43) ?_ (w.heap.size + 1) 0 512 (g := ints .i64 (codeCells (tb c (fun k => (z.getD k 0).toNat) i j))) ?_ ?_ hres ?_ ?_ ?_ ?_); (· rfl); (· rfl); (· rfl); (· rfl); (· omega); (· exact size34); (· exact fun _ => rfl)))
            exact bodyPost_ret (v := .tuple #[.agg (agg 512 (ints .i64 (codeCells (tb c (fun k => (z.getD k 0).toNat) i j)))), .bool false]) (results_rowIs_tmp Try.results10 (rowIs_lay_all hres _) rfl rfl Try.underlying34 rfl size34) rfl ⟨hkept.lay _ _ _ _ (fun h => by omega), .inl ⟨_, rfl⟩⟩
          · have hatb : ((cnt c i : Int) + j == (len : Int)) = false := by simp; omega
            have hlt2 : cnt c i + j < len := by omega
            obtain ⟨b, off, rfl, hlc, _, hcell, _⟩ := HH.out.cells (by omega)
            obtain ⟨sv, hsv⟩ : ∃ sv : Nat, (z.getD (cnt c i + j) 0).toNat = sv := ⟨_, rfl⟩
            have hsb := HH.out.u8 (cnt c i + j)
            have hs255 : sv ≤ 255 := by omega
            have hsz : z.getD (cnt c i + j) 0 = (sv : Int) := by omega
            have c0 : wr.cell? ⟨b, off + (cnt c i + j), none⟩ = some (.int .u8 (sv : Int)) := by rw [← hsz]; exact hkept.cellOf (hcell _ (by omega)) trivial
            clear hcell hsb
            obtain ⟨L, hL⟩ : ∃ L, (tb c (fun k => (z.getD k 0).toNat) i j sv).1 = L := ⟨_, rfl⟩
            obtain ⟨M, hM⟩ : ∃ M, (tb c (fun k => (z.getD k 0).toNat) i j sv).2 = M := ⟨_, rfl⟩
            have c1 : wr.cell? ⟨w.heap.size + 1 + 1, sv * 2, none⟩ = some (.int .i64 (L : Int)) := by
              rw [hout.cell (by omega)]
              simp only [ints, codeCells]
              rw [if_pos (by omega), show sv * 2 / 2 = sv by omega, hL]
            have c2 : wr.cell? ⟨w.heap.size + 1 + 1, sv * 2 + 1, none⟩ = some (.int .i64 (M : Int)) := by
              rw [hout.cell (by omega)]
              simp only [ints, codeCells]
              rw [if_neg (by omega), show (sv * 2 + 1) / 2 = sv by omega, hM]
            have f1 : wr.frozen? ⟨w.heap.size + 1 + 1, sv * 2, none⟩ = false := hout.frozen _
            have f2 : wr.frozen? ⟨w.heap.size + 1 + 1, sv * 2 + 1, none⟩ = false := hout.frozen _
            have HSV := Lib.hid hsv
            clear hsv hsz hL hM
            by_cases hL0 : L = 0
            · have hLb : ((L : Int) != 0) = false := by simp; omega
              have HL := Lib.hid hL0
              clear hL0
              obtain ⟨p, hp, hpn, hp2, hp6⟩ := pow_small hlt
              have HP := Lib.hid hpn
              clear hpn
              by_cases hsm : cd c i + j < p - 1
              · go_wp2_with fail
                go_roundg (c i - (j + 1))
                case measure => go_light; omega
                case rel =>
                  go_light
                  exact ⟨j + 1, by omega, rfl, by go_num, by go_num, rfl, hs.step HSV.out hlt2 (by rw [HP.out]; exact hsm)⟩
              · go_wp2_with (first | ((with_reducible refine wpList_load_all (w := wr) (op := ⟨some 43, .load 34 (.tmp 6), _, _, _, _⟩) ?_ 34 (.tmp 6) ?_ (w.heap.size + 1 + 1) 512 ?_ hout ?_ Try.underlying34 ?_ ?_ ?_); (· rfl); (· rfl); (· rfl); (· omega); (· rfl); (· exact size34)) | ((with_reducible refine wpList_store_rowIs (w := wr) (op := ⟨none, .store 34 (.tmp 4) (.tmp 43), _, _, _, _⟩) ?_ 34 (.tmp 4) (.tmp 43) ?_ (w.heap.size + 1) 0 512 (g := ints .i64 (codeCells (tb c (fun k => (z.getD k 0).toNat) i j))) ?_ ?_ hres ?_ ?_ ?_ ?_); (· rfl); (· rfl); (· rfl); (· rfl); (· omega); (· exact size34); (· exact fun _ => rfl)))
                exact bodyPost_ret (v := .tuple #[.agg (agg 512 (ints .i64 (codeCells (tb c (fun k => (z.getD k 0).toNat) i j)))), .bool false]) (results_rowIs_tmp Try.results10 (rowIs_lay_all hres _) rfl rfl Try.underlying34 rfl size34) rfl ⟨hkept.lay _ _ _ _ (fun h => by omega), .inl ⟨_, rfl⟩⟩
            · have hLb : ((L : Int) != 0) = true := by simp; omega
              go_wp2_with (first | ((with_reducible refine wpList_load_all (w := wr) (op := ⟨some 43, .load 34 (.tmp 6), _, _, _, _⟩) ?_ 34 (.tmp 6) ?_ (w.heap.size + 1 + 1) 512 ?_ hout ?_ Try.underlying34 ?_ ?_ ?_); (· rfl); (· rfl); (· rfl); (· omega); (· rfl); (· exact size34)) | ((with_reducible refine wpList_store_rowIs (w := wr) (op := ⟨none, .store 34 (.tmp 4) (.tmp 43), _, _, _, _⟩) ?_ 34 (.tmp 4) (.tmp 43) ?_ (w.heap.size + 1) 0 512 (g := ints .i64 (codeCells (tb c (fun k => (z.getD k 0).toNat) i j))) ?_ ?_ hres ?_ ?_ ?_ ?_); (· rfl); (· rfl); (· rfl); (· rfl); (· omega); (· exact size34); (· exact fun _ => rfl)))
              exact bodyPost_ret (v := .tuple #[.agg (agg 512 (ints .i64 (codeCells (tb c (fun k => (z.getD k 0).toNat) i j)))), .bool false]) (results_rowIs_tmp Try.results10 (rowIs_lay_all hres _) rfl rfl Try.underlying34 rfl size34) rfl ⟨hkept.lay _ _ _ _ (fun h => by omega), .inl ⟨_, rfl⟩⟩
        · have ej : j = c i := by omega
          go_wp2
          go_roundg (16 - (i + 1))
          case measure => go_light; omega
          case rel =>
            go_light
            rw [ej] at hs
            exact ⟨i + 1, by omega, rfl, by simp only [cd]; congr 1; omega, by simp only [cnt]; congr 1; try omega, rfl, hs.next⟩
    · have hltd : decide ((i : Int) < 16) = false := by simp; omega
      have ei : i = 16 := by omega
      rw [ei] at hs
      have hres := hs.res
      have hout := hs.out
      have hroom := hs.room
      have hkept := hs.kept
      obtain ⟨atq, hatq⟩ : ∃ q : Nat, cnt c i = q := ⟨_, rfl⟩
      by_cases h1 : atq = len
      · have h1b : ((atq : Int) == (len : Int)) = true := by simp; omega
        by_cases h2 : 0 < atq
        · have good : Good c len := ⟨by rw [← ei]; omega, by omega, hs.less⟩
          rw [hatq]
          clear hatq h1
          go_wp2_with (first | ((with_reducible refine wpList_load_all (w := wr) (op := ⟨some 60, .load 34 (.tmp 6), _, _, _, _⟩) ?_ 34 (.tmp 6) ?_ (w.heap.size + 1 + 1) 512 ?_ hout ?_ Try.underlying34 ?_ ?_ ?_); (· rfl); (· rfl); (· rfl); (· omega); (· rfl); (· exact size34)) | ((with_reducible refine wpList_store_rowIs (w := wr) (op := ⟨none, .store 34 (.tmp 4) (.tmp 60), _, _, _, _⟩) ?_ 34 (.tmp 4) (.tmp 60) ?_ (w.heap.size + 1) 0 512 (g := ints .i64 (codeCells (tab c (fun k => (z.getD k 0).toNat) 16))) ?_ ?_ hres ?_ ?_ ?_ ?_); (· rfl); (· rfl); (· rfl); (· rfl); (· omega); (· exact size34); (· exact fun _ => rfl)))
          exact bodyPost_ret (v := .tuple #[.agg (agg 512 (ints .i64 (codeCells (tab c (fun k => (z.getD k 0).toNat) 16)))), .bool true]) (results_rowIs_tmp Try.results10 (rowIs_lay_all hres _) rfl rfl Try.underlying34 rfl size34) rfl ⟨hkept.lay _ _ _ _ (fun h => by omega), .inr ⟨good, rfl⟩⟩
        · rw [hatq]
          clear hatq h1
          go_wp2_with (first | ((with_reducible refine wpList_load_all (w := wr) (op := ⟨some 60, .load 34 (.tmp 6), _, _, _, _⟩) ?_ 34 (.tmp 6) ?_ (w.heap.size + 1 + 1) 512 ?_ hout ?_ Try.underlying34 ?_ ?_ ?_); (· rfl); (· rfl); (· rfl); (· omega); (· rfl); (· exact size34)) | ((with_reducible refine wpList_store_rowIs (w := wr) (op := ⟨none, .store 34 (.tmp 4) (.tmp 60), _, _, _, _⟩) ?_ 34 (.tmp 4) (.tmp 60) ?_ (w.heap.size + 1) 0 512 (g := ints .i64 (codeCells (tab c (fun k => (z.getD k 0).toNat) 16))) ?_ ?_ hres ?_ ?_ ?_ ?_); (· rfl); (· rfl); (· rfl); (· rfl); (· omega); (· exact size34); (· exact fun _ => rfl)))
          exact bodyPost_ret (v := .tuple #[.agg (agg 512 (ints .i64 (codeCells (tab c (fun k => (z.getD k 0).toNat) 16)))), .bool false]) (results_rowIs_tmp Try.results10 (rowIs_lay_all hres _) rfl rfl Try.underlying34 rfl size34) rfl ⟨hkept.lay _ _ _ _ (fun h => by omega), .inl ⟨_, rfl⟩⟩
      · have h1b : ((atq : Int) == (len : Int)) = false := by simp; omega
        rw [hatq]
        clear hatq h1
        go_wp2_with (first | ((with_reducible refine wpList_load_all (w := wr) (op := ⟨some 60, .load 34 (.tmp 6), _, _, _, _⟩) ?_ 34 (.tmp 6) ?_ (w.heap.size + 1 + 1) 512 ?_ hout ?_ Try.underlying34 ?_ ?_ ?_); (· rfl); (· rfl); (· rfl); (· omega); (· rfl); (· exact size34)) | ((with_reducible refine wpList_store_rowIs (w := wr) (op := ⟨none, .store 34 (.tmp 4) (.tmp 60), _, _, _, _⟩) ?_ 34 (.tmp 4) (.tmp 60) ?_ (w.heap.size + 1) 0 512 (g := ints .i64 (codeCells (tab c (fun k => (z.getD k 0).toNat) 16))) ?_ ?_ hres ?_ ?_ ?_ ?_); (· rfl); (· rfl); (· rfl); (· rfl); (· omega); (· exact size34); (· exact fun _ => rfl)))
        exact bodyPost_ret (v := .tuple #[.agg (agg 512 (ints .i64 (codeCells (tab c (fun k => (z.getD k 0).toNat) 16)))), .bool false]) (results_rowIs_tmp Try.results10 (rowIs_lay_all hres _) rfl rfl Try.underlying34 rfl size34) rfl ⟨hkept.lay _ _ _ _ (fun h => by omega), .inl ⟨_, rfl⟩⟩
end Go.Proofs.Ytpmbbampkedecaa
