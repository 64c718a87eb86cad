/- The walk of the law FnCodes. -/
import Derived.Test.YtpmbbampkedecaaCodesD
namespace Go.Proofs.Ytpmbbampkedecaa
open Go.Deep Go.RowKit

/-- An entry of the table, and what the law compares it to. -/
theorem entry {c sym : Nat → Nat} {n : Nat} (good : Good c n) (i : Nat) :
    ∃ l d v : Nat, l ≤ 16 ∧ d < 65535 ∧ v ≤ 300000000 ∧ codeCells (tab c sym 16) (i * 2 + 0) = l ∧ codeCells (tab c sym 16) (i * 2 + 1) = d ∧ enc (tab c sym 16) i = (v : Int) ∧ Value.int .i64 (bits BinOp.or IntKind.i64 ((l : Int) * 16777216) (d : Int)) = Value.int .i64 (v : Int) ∧ (greatest sym n < i → v = 0) := by
  have hs := tab_small (sym := sym) good 16 (Nat.le_refl _) i
  refine ⟨(tab c sym 16 i).1, (tab c sym 16 i).2, (tab c sym 16 i).1 * 16777216 + (tab c sym 16 i).2, hs.1, hs.2.1, by omega, ?_, ?_, rfl, ?_, ?_⟩
  · simp only [codeCells]; rw [if_pos (by omega), show (i * 2 + 0) / 2 = i by omega]
  · simp only [codeCells]; rw [if_neg (by omega), show (i * 2 + 1) / 2 = i by omega]
  · have := i64_or_nat ((tab c sym 16 i).1 * 16777216) (tab c sym 16 i).2 (by omega) (by omega)
    rw [nat_join 24 _ _ (by omega) (by omega)] at this
    rw [← this]
    rfl
  · intro hg
    have := tab_none (c := c) (sym := sym) (s := i) 16 (fun q hq => by
      have := greatest_le sym (n := n) (i := q) (by have := good.all; omega)
      omega)
    simp [this]

theorem vv (v : Nat) (h : v ≤ 300000000) : (wrap64 (v : Int) != (v : Int)) = false := by
  rw [IntWalk.wrap64_in (v : Int) ⟨by omega, by omega⟩]
  exact bne_self_eq_false _
theorem rowIs_lit2 (W : World) (t : TypeId) : (W.alloc (.cells #[Value.int .i64 0, Value.int .i64 0] t)).rowIs W.heap.size t 2 (ints .i64 fun _ => 0) := rowIs_replicate W t 2 (.int .i64 0)

/-- What holds at the head of the law's loop. -/
structure LC (w wr : World) (B m : Nat) (t : Nat → Nat × Nat) : Prop where
  kept : Kept (fun _ => True) w wr
  got : wr.rowIs B 39 (m + 1) (ints .u32 (enc t))
  size : B < wr.heap.size

/-- The two posts over a table that is not laid open. -/
def SpecPostT (w : World) (c : Nat → Nat) (t : Nat → Nat × Nat) (n : Nat) (e : Ending) (w' : World) : Prop :=
  Kept (fun _ => True) w w' ∧ ((∃ f, e = .returned (.tuple #[.agg (agg 512 (ints .i64 f)), .bool false])) ∨ (Good c n ∧ e = .returned (.tuple #[.agg (agg 512 (ints .i64 (codeCells t))), .bool true])))
def CodesPostT (w : World) (m : Nat) (t : Nat → Nat × Nat) (e : Ending) (w' : World) : Prop :=
  Kept (fun _ => True) w w' ∧ ∃ B, w.heap.size ≤ B ∧ e = .returned (.slice (some ⟨B, 0, none⟩) (m + 1) (m + 1)) ∧ w'.rowIs B 39 (m + 1) (ints .u32 (enc t))
/-- What the law asks of an entry. -/
def Entries (m : Nat) (t : Nat → Nat × Nat) : Prop := ∀ i : Nat, ∃ l d v : Nat, l ≤ 16 ∧ d < 65535 ∧ v ≤ 300000000 ∧ codeCells t (i * 2 + 0) = l ∧ codeCells t (i * 2 + 1) = d ∧ enc t i = (v : Int) ∧ Value.int .i64 (bits BinOp.or IntKind.i64 ((l : Int) * 16777216) (d : Int)) = Value.int .i64 (v : Int) ∧ (m < i → v = 0)

set_option maxHeartbeats 1000000 in
set_option maxRecDepth 100000 in
theorem codes_16 (a0 : Option Addr) (cap0 : Nat) (z0 : List Int) (a1 : Option Addr) (len1 cap1 : Nat) (z1 : List Int) (w : World) (h0 : IsRow .u8 w a0 16 cap0 z0) (h1 : IsRow .u8 w a1 len1 cap1 z1) (hl1 : len1 ≤ 2147483647) :
    Calls Try.prog 5 #[.slice a0 16 cap0, .slice a1 len1 cap1] w fun e w' => e = .returned (.bool true) ∧ Kept (fun _ => True) w w' := by
  obtain ⟨c, hc⟩ : ∃ c : Nat → Nat, ∀ i, firstOf z0 16 i = (c i : Int) := ⟨fun i => (firstOf z0 16 i).toNat, fun i => by
    have := h0.u8 i
    simp only [firstOf]
    split
    · omega
    · rfl⟩
  have hc255 : ∀ i, c i ≤ 255 := fun i => by
    have h := hc i
    have := h0.u8 i
    simp only [firstOf] at h
    split at h <;> omega
  have hcf : ints .u8 (firstOf z0 16) = ints .u8 fun i => (c i : Int) := by funext i; simp only [ints, hc i]
  have HC := Lib.hid hc255
  clear hc255 hc
  have HF := Lib.hid hcf
  clear hcf
  have hk1 : ∀ W, Kept (fun _ => True) w W → IsRow .u8 W a1 len1 cap1 z1 := fun W k => by
    rcases h1 with h | ⟨x, e, h1, h2, h3, h4, h5⟩
    · exact .inl h
    · exact .inr ⟨x, e, h1, h2, h3, fun i hi => k.cellOf (h4 i hi) trivial, h5⟩
  have HK := Lib.hid hk1
  clear hk1 h1
  have hgs : ∀ i, (fun k => (z1.getD k 0).toNat) i ≤ 255 := fun i => by have := (HK.out w (Kept.refl _ _)).u8 i; simp only; omega
  obtain ⟨t, m, hm255, E0, C10, C11⟩ : ∃ (t : Nat → Nat × Nat) (m : Nat), m ≤ 255 ∧ Hid (Good c len1 → Entries m t) ∧
      Hid (∀ W, Kept (fun _ => True) w W → Calls Try.prog 10 #[.agg (agg 16 (ints .u8 fun i => c i)), .slice a1 len1 cap1] W (SpecPostT W c t len1)) ∧
      Hid (∀ W, Kept (fun _ => True) w W → Good c len1 → Calls Try.prog 11 #[.agg (agg 16 (ints .u8 fun i => c i)), .slice a1 len1 cap1] W (CodesPostT W m t)) :=
    ⟨tab c (fun k => (z1.getD k 0).toNat) 16, greatest (fun k => (z1.getD k 0).toNat) len1, greatest_255 hgs _, Lib.hid fun g i => entry g i,
      Lib.hid fun W k => spec_codes_any a1 len1 cap1 z1 c HC.out W (HK.out W k), Lib.hid fun W k g => impl_codes_any a1 len1 cap1 z1 c HC.out W (HK.out W k) g⟩
  clear hgs HK
  have H0 := Lib.hid h0
  clear h0
  have hz34 := (zero_of_info info34).1
  go_enter Try.func5, Try.ntmps5
  go_wp2_with fail
  refine (counted_16 a0 16 cap0 z0 w H0.out rfl).mono ?_
  rintro e w1 ⟨rfl, k1⟩
  rw [show ints .u8 (firstOf z0 16) = _ from HF.out]
  have hnew := rowIs_lit16 w1 29
  go_wp2_with (first | ((with_reducible refine wpList_store_new (op := ⟨none, .store 29 (.tmp 5) (.tmp 23), _, _, _, _⟩) ?_ 29 (.tmp 5) (.tmp 23) ?_ w1.heap.size 16 (g := ints .u8 fun i => (c i : Int)) ?_ ?_ hnew ?_ ?_ ?_); (· rfl); (· rfl); (· rfl); (· rfl); (· exact size29); (· exact fun _ => rfl); (intro w2 k2 s2 r2)) | ((with_reducible refine wpList_load_all (op := ⟨some 28, .load 29 (.tmp 5), _, _, _, _⟩) ?_ 29 (.tmp 5) ?_ w1.heap.size 16 ?_ r2 ?_ Try.underlying29 ?_ ?_ ?_); (· rfl); (· rfl); (· rfl); (· omega); (· rfl); (· exact size29)))
  have k3 : Kept (fun _ => True) w w2 := (k1.alloc _).trans' k2 fun i hi _ => by have := k1.size; omega
  refine (C10.out w2 k3).mono ?_
  rintro e w3 ⟨k4, hp⟩
  have r4 := k4.row r2 trivial
  have k5 := k3.trans k4
  have hnew3 := rowIs_zeros64 w3 34 512
  have lt3 : w1.heap.size < w3.heap.size := by have := r4.lt; omega
  rcases hp with ⟨f, rfl⟩ | ⟨good, rfl⟩
  · go_wp2_with (((with_reducible refine wpList_store_new (op := ⟨none, .store 34 (.tmp 7) (.tmp 31), _, _, _, _⟩) ?_ 34 (.tmp 7) (.tmp 31) ?_ w3.heap.size 512 (g := ints .i64 f) ?_ ?_ hnew3 ?_ ?_ ?_); (· rfl); (· rfl); (· rfl); (· rfl); (· exact size34); (· exact fun _ => rfl); (intro w4 k6 s4 r5)))
    go_ret
    exact ⟨rfl, (k5.alloc _).trans' k6 fun i hi _ => by have := k5.size; omega⟩
  · go_wp2_with (first | ((with_reducible refine wpList_store_new (op := ⟨none, .store 34 (.tmp 7) (.tmp 31), _, _, _, _⟩) ?_ 34 (.tmp 7) (.tmp 31) ?_ w3.heap.size 512 (g := ints .i64 (codeCells t)) ?_ ?_ hnew3 ?_ ?_ ?_); (· rfl); (· rfl); (· rfl); (· rfl); (· exact size34); (· exact fun _ => rfl); (intro w4 k6 s4 r5)) | ((with_reducible refine wpList_load_all (op := ⟨some 35, .load 29 (.tmp 5), _, _, _, _⟩) ?_ 29 (.tmp 5) ?_ w1.heap.size 16 ?_ (k6.row (r4.alloc _) (by omega)) ?_ Try.underlying29 ?_ ?_ ?_); (· rfl); (· rfl); (· rfl); (· omega); (· rfl); (· exact size29)))
    have k7 : Kept (fun _ => True) w w4 := (k5.alloc _).trans' k6 fun i hi _ => by have := k5.size; omega
    refine (C11.out w4 k7 good).mono ?_
    rintro e w5 ⟨k8, B, hB, rfl, hgot⟩
    have r6 := k8.row r5 trivial
    have k9 := k7.trans k8
    have E1 := Lib.hid (E0.out good)
    clear hz34 E0 C10 C11
    go_wp2_with (((with_reducible refine wpList_load_all (op := ⟨some 38, .load 34 (.tmp 7), _, _, _, _⟩) ?_ 34 (.tmp 7) ?_ w3.heap.size 512 ?_ r6 ?_ Try.underlying34 ?_ ?_ ?_); (· rfl); (· rfl); (· rfl); (· omega); (· rfl); (· exact size34)))
    generalize hG : agg 512 (ints .i64 (codeCells t)) = G at *
    have HG := Lib.hid hG
    clear hG
    go_loopg [39] 256 (fun k s39 wr => ∃ i : Nat, i ≤ 256 ∧ k = 256 - i ∧ s39 = .int .i64 i ∧ LC w wr B m t)
    case atStart => exact ⟨0, by omega, rfl, rfl, k9, hgot, hgot.lt⟩
    case round =>
      obtain ⟨i, hi, rfl, rfl, hl⟩ := hrel
      by_cases hlt : i < 256
      · have hltd : decide ((i : Int) < 256) = true := by simp; omega
        obtain ⟨l, d, v, hl16, hd, hv3, e0, e1, e2, e3, e4⟩ := E1.out i
        have hidx : ∀ wx, (Instr.index 34 (.agg G) (.int .i64 (i : Int))).run Try.prog wx = .ok (.agg #[.int .i64 (l : Int), .int .i64 (d : Int)]) wx := fun wx => by
          rw [← show _ = G from HG.out]
          have := run_index_row (P := Try.prog) (t := 34) (e := 33) (n := 256) (m := 2) (N := 512) Try.underlying34 Try.underlying33 rfl size33 (ints .i64 (codeCells t)) i hlt (by omega) wx
          rw [this]
          simp only [agg, List.range, List.range.loop, List.map_cons, List.map_nil, ints, e0, e1]
        have hlB := hl.size
        have hkB := hl.kept
        have hgB := hl.got
        clear e0 e1
        have hkn := hkB.alloc (.cells #[.int .i64 (l : Int), .int .i64 (d : Int)] 33)
        have hgn := hgB.alloc (.cells #[.int .i64 (l : Int), .int .i64 (d : Int)] 33)
        have HE4 := Lib.hid e4
        clear e4
        by_cases him : i < m + 1
        · have himb : decide ((i : Int) < (m : Int) + 1) = true := by simp; omega
          have c0 : wr.cell? ⟨B, i, none⟩ = some (.int .u32 (v : Int)) := by rw [hgB.cell him]; simp only [ints, e2]
          clear e2 hl
          have hvv := vv v hv3
          go_wp2
          go_roundg (256 - (i + 1))
          case measure => go_light; omega
          case rel =>
            go_light
            exact ⟨i + 1, by omega, rfl, by go_num, hkn, hgn, by simp; omega⟩
        · have himb : decide ((i : Int) < (m : Int) + 1) = false := by simp; omega
          have hv0 : v = 0 := HE4.out (by omega)
          subst hv0
          clear e2 hl
          go_wp2
          go_roundg (256 - (i + 1))
          case measure => go_light; omega
          case rel =>
            go_light
            exact ⟨i + 1, by omega, rfl, by go_num, hkn, hgn, by simp; omega⟩
      · have hltd : decide ((i : Int) < 256) = false := by simp; omega
        go_wp2
        go_ret
        exact ⟨rfl, hl.kept⟩
end Go.Proofs.Ytpmbbampkedecaa
