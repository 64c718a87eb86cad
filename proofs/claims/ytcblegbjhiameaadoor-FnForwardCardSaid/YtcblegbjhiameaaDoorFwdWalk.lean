/- The walk of the law FnForward. -/
import Derived.Test.YtcblegbjhiameaaDoorForwardLaw
import Derived.Test.YtcblegbjhiameaaDoorSpecTop
import Derived.Test.YtcblegbjhiameaaDoorDctCallsDoor
namespace Go.Proofs.YtcblegbjhiameaaDoor
open Go.Deep Go.RowKit
theorem size_i32 : (Tryd.prog.info? 21).map (·.size) = some 1 := by kernel_rfl
def NearPost (g S : Nat → Int) : Prop := ∀ j, j < 64 → (-2199023255552 ≤ g j * 1099511627776 - 8 * S j ∧ g j * 1099511627776 - 8 * S j ≤ 2199023255552) ∧ -2251799813685248 ≤ S j ∧ S j ≤ 2251799813685248

set_option maxHeartbeats 1000000 in
set_option maxRecDepth 100000 in
theorem fwd_64 (a : Option Addr) (cap : Nat) (z : List Int) (w : World) (L : Laid zN bN w) (h : IsRow .u8 w a 64 cap z) :
    Calls Tryd.prog 3 #[.slice a 64 cap] w fun e w' => e = .returned (.bool true) ∧ Kept (fun _ => True) w w' := by
  have C1 := samples_64 a 64 cap z w h rfl
  have hfb : ∀ j, 0 ≤ firstOf z 64 j ∧ firstOf z 64 j ≤ 255 := fun j => by
    have := h.u8 j
    simp only [firstOf]
    split <;> omega
  obtain ⟨f, hf⟩ : ∃ f, firstOf z 64 = f := ⟨_, rfl⟩
  rw [hf] at C1 hfb
  clear hf h
  have HC1 := Lib.hid C1
  clear C1
  obtain ⟨g, S, HN, HF, HS⟩ : ∃ g S : Nat → Int, Hid (NearPost g S) ∧
      Hid (∀ W, Calls Tryd.prog 8 #[.agg (agg 64 (ints .i32 f))] W fun e w' => e = .returned (.agg (agg 64 (ints .i32 g))) ∧ Kept (fun _ => True) W w') ∧
      Hid (∀ W bb TT, Laid zN bN W → W.rowIs bb TT 64 (ints .i64 f) → Calls Tryd.prog 9 #[.pointer (some ⟨bb, 0, none⟩)] W fun e w' => e = .returned (.agg (agg 64 (ints .i64 S))) ∧ Kept (fun _ => True) W w') :=
    ⟨frows (fcols f), fwd zN bN f, Lib.hid (forward_near f hfb), Lib.hid (implForward_any f), Lib.hid fun W bb TT hL hr => specForward_any zN bN f bb TT W hL hr⟩
  clear hfb
  go_enter Tryd.func3, Tryd.ntmps3
  go_wp2_with fail
  refine HC1.out.mono ?_
  rintro e w1 ⟨rfl, k1⟩
  have hn1 := fun o => (rowIs_lit64 w1 23).alloc o
  have hn2 := fun o => rowIs_lit64i (w1.alloc o) 24
  simp only [World.size_alloc] at hn2
  have hsz := k1.size
  clear HC1
  go_wp2_with (first | ((with_reducible refine wpList_store_new (op := ⟨none, .store 23 (.tmp 3) (.tmp 16), _, _, _, _⟩) ?_ 23 (.tmp 3) (.tmp 16) ?_ w1.heap.size 64 (g := ints .i32 f) ?_ ?_ (hn1 _) ?_ ?_ ?_); (· rfl); (· rfl); (· rfl); (· rfl); (· exact sizeT); (· exact fun _ => rfl); (intro w2 k2 s2 r2)) | ((with_reducible refine wpList_store_new (op := ⟨none, .store 24 (.tmp 4) (.tmp 17), _, _, _, _⟩) ?_ 24 (.tmp 4) (.tmp 17) ?_ (w1.heap.size + 1) 64 (g := ints .i64 f) ?_ ?_ (k2.row (hn2 _) (by omega)) ?_ ?_ ?_); (· rfl); (· rfl); (· rfl); (· rfl); (· exact sizeU); (· exact fun _ => rfl); (intro w3 k3 s3 r3)) | ((with_reducible refine wpList_load_all (op := ⟨some 21, .load 23 (.tmp 3), _, _, _, _⟩) ?_ 23 (.tmp 3) ?_ w1.heap.size 64 ?_ (k3.row r2 (by omega)) ?_ Tryd.underlying23 ?_ ?_ ?_); (· rfl); (· rfl); (· rfl); (· omega); (· rfl); (· exact sizeT)))
  have K3 : Kept (fun _ => True) w w3 := (((k1.alloc _).alloc _).trans' k2 fun i hi _ => by omega).trans' k3 fun i hi _ => by omega
  clear hn1 hn2 k1 k2 k3 s2 s3 r2
  refine (HF.out w3).mono ?_
  rintro e w4 ⟨rfl, k4⟩
  have K4 := K3.trans k4
  have r4 := k4.row r3 trivial
  clear k4 K3 r3 HF
  go_wp2_with fail
  refine (HS.out w4 _ _ (L.kept K4) r4).mono ?_
  rintro e w5 ⟨rfl, k5⟩
  have K5 := K4.trans k5
  have hsz5 := K5.size
  clear k5 K4 r4 HS
  have hn1 := fun o => (rowIs_lit64 w5 23).alloc o
  have hn2 := fun o => rowIs_lit64i (w5.alloc o) 24
  simp only [World.size_alloc] at hn2
  go_wp2_with (first | ((with_reducible refine wpList_store_new (op := ⟨none, .store 23 (.tmp 6) (.tmp 22), _, _, _, _⟩) ?_ 23 (.tmp 6) (.tmp 22) ?_ w5.heap.size 64 (g := ints .i32 g) ?_ ?_ (hn1 _) ?_ ?_ ?_); (· rfl); (· rfl); (· rfl); (· rfl); (· exact sizeT); (· exact fun _ => rfl); (intro w6 k6 s6 r6)) | ((with_reducible refine wpList_store_new (op := ⟨none, .store 24 (.tmp 7) (.tmp 23), _, _, _, _⟩) ?_ 24 (.tmp 7) (.tmp 23) ?_ (w5.heap.size + 1) 64 (g := ints .i64 S) ?_ ?_ (k6.row (hn2 _) (by omega)) ?_ ?_ ?_); (· rfl); (· rfl); (· rfl); (· rfl); (· exact sizeU); (· exact fun _ => rfl); (intro w7 k7 s7 r7)) | ((with_reducible refine wpList_load_all (op := ⟨some 24, .load 23 (.tmp 6), _, _, _, _⟩) ?_ 23 (.tmp 6) ?_ w5.heap.size 64 ?_ (k7.row r6 (by omega)) ?_ Tryd.underlying23 ?_ ?_ ?_); (· rfl); (· rfl); (· rfl); (· omega); (· rfl); (· exact sizeT)))
  have K7 : Kept (fun _ => True) w w7 := (((K5.alloc _).alloc _).trans' k6 fun i hi _ => by omega).trans' k7 fun i hi _ => by omega
  clear hn1 hn2 k6 k7 s6 s7 r6 K5
  generalize hG : agg 64 (ints .i32 g) = G
  have HG := Lib.hid hG
  clear hG
  go_loopg [25] 64 (fun k s wr => ∃ i : Nat, i ≤ 64 ∧ k = 64 - i ∧ s = .int .i64 i ∧ Kept (fun _ => True) w wr ∧ wr.rowIs (w5.heap.size + 1) 24 64 (ints .i64 S))
  case atStart => exact ⟨0, by omega, rfl, rfl, K7, r7⟩
  case round =>
    clear K7 r7
    obtain ⟨i, hi, rfl, rfl, hk, hr⟩ := hrel
    by_cases hlt : i < 64
    · have hidx : ∀ wx, (Instr.index 23 (.agg G) (.int .i64 (i : Int))).run Tryd.prog wx = .ok (.int .i32 (g i)) wx := fun wx => by
        rw [← show _ = G from HG.out]
        exact run_index_one (P := Tryd.prog) Tryd.underlying23 Tryd.underlying21 rfl size_i32 (ints .i32 g) i hlt wx
      obtain ⟨⟨hn1, hn2⟩, hq1, hq2⟩ := HN.out i hlt
      obtain ⟨q, hq⟩ : ∃ q, S i = q := ⟨_, rfl⟩
      obtain ⟨v, hv⟩ : ∃ v, g i = v := ⟨_, rfl⟩
      rw [hv] at hidx
      rw [hq, hv] at hn1 hn2
      rw [hq] at hq1 hq2
      have d0 : wr.cell? ⟨w5.heap.size + 1, i, none⟩ = some (.int .i64 q) := by rw [← hq]; exact hr.cell (by omega)
      clear hq hv
      have hv1 : -20000 ≤ v := by omega
      have hv2 : v ≤ 20000 := by omega
      go_wp2_with fail
      refine (apart_no (v * 1099511627776) (8 * q) 2199023255552 _ ⟨by omega, by omega⟩ ⟨by omega, by omega⟩ (by omega) (by omega)).mono ?_
      rintro e w8 ⟨rfl, k8⟩
      go_wp2
      go_roundg (64 - (i + 1))
      case measure => go_light; omega
      case rel =>
        go_light
        exact ⟨i + 1, by omega, rfl, by go_num, hk.trans k8, k8.row hr trivial⟩
    · have ei : i = 64 := by omega
      subst ei
      go_wp2
      go_ret
      exact ⟨rfl, hk⟩

set_option maxHeartbeats 1000000 in
set_option maxRecDepth 100000 in
theorem fwd_less (a : Option Addr) (len cap : Nat) (z : List Int) (w : World) (h : IsRow .u8 w a len cap z) (hl : len < 64) :
    Calls Tryd.prog 3 #[.slice a len cap] w fun e w' => e = .returned (.bool true) ∧ Kept (fun _ => True) w w' := by
  have hlen := h.len_le
  have C1 := samples_less a len cap z w h hl
  obtain ⟨f, hf⟩ : ∃ f, firstOf z len = f := ⟨_, rfl⟩
  rw [hf] at C1
  clear hf h
  have HC1 := Lib.hid C1
  clear C1
  go_enter Tryd.func3, Tryd.ntmps3
  go_wp2_with fail
  refine HC1.out.mono ?_
  rintro e w1 ⟨rfl, k1⟩
  have hn1 := fun o => (rowIs_lit64 w1 23).alloc o
  have hn2 := fun o => rowIs_lit64i (w1.alloc o) 24
  simp only [World.size_alloc] at hn2
  have hsz := k1.size
  go_wp2_with (first | ((with_reducible refine wpList_store_new (op := ⟨none, .store 23 (.tmp 3) (.tmp 16), _, _, _, _⟩) ?_ 23 (.tmp 3) (.tmp 16) ?_ w1.heap.size 64 (g := ints .i32 f) ?_ ?_ (hn1 _) ?_ ?_ ?_); (· rfl); (· rfl); (· rfl); (· rfl); (· exact sizeT); (· exact fun _ => rfl); (intro w2 k2 s2 r2)) | ((with_reducible refine wpList_store_new (op := ⟨none, .store 24 (.tmp 4) (.tmp 17), _, _, _, _⟩) ?_ 24 (.tmp 4) (.tmp 17) ?_ (w1.heap.size + 1) 64 (g := ints .i64 f) ?_ ?_ (k2.row (hn2 _) (by omega)) ?_ ?_ ?_); (· rfl); (· rfl); (· rfl); (· rfl); (· exact sizeU); (· exact fun _ => rfl); (intro w3 k3 s3 r3)))
  go_ret
  exact ⟨rfl, (((k1.alloc _).alloc _).trans' k2 fun i hi _ => by omega).trans' k3 fun i hi _ => by omega⟩

set_option maxHeartbeats 1000000 in
set_option maxRecDepth 100000 in
theorem fwd_more (a : Option Addr) (len cap : Nat) (z : List Int) (w : World) (h : IsRow .u8 w a len cap z) (hl : 64 < len) (hb : ¬ 2147483647 < len) :
    Calls Tryd.prog 3 #[.slice a len cap] w fun e w' => e = .returned (.bool true) ∧ Kept (fun _ => True) w w' := by
  have hlen := h.len_le
  have C1 := samples_more a len cap z w h hl
  obtain ⟨f, hf⟩ : ∃ f, firstOf z 64 = f := ⟨_, rfl⟩
  rw [hf] at C1
  clear hf h
  have HC1 := Lib.hid C1
  clear C1
  go_enter Tryd.func3, Tryd.ntmps3
  go_wp2_with fail
  refine HC1.out.mono ?_
  rintro e w1 ⟨rfl, k1⟩
  have hn1 := fun o => (rowIs_lit64 w1 23).alloc o
  have hn2 := fun o => rowIs_lit64i (w1.alloc o) 24
  simp only [World.size_alloc] at hn2
  have hsz := k1.size
  go_wp2_with (first | ((with_reducible refine wpList_store_new (op := ⟨none, .store 23 (.tmp 3) (.tmp 16), _, _, _, _⟩) ?_ 23 (.tmp 3) (.tmp 16) ?_ w1.heap.size 64 (g := ints .i32 f) ?_ ?_ (hn1 _) ?_ ?_ ?_); (· rfl); (· rfl); (· rfl); (· rfl); (· exact sizeT); (· exact fun _ => rfl); (intro w2 k2 s2 r2)) | ((with_reducible refine wpList_store_new (op := ⟨none, .store 24 (.tmp 4) (.tmp 17), _, _, _, _⟩) ?_ 24 (.tmp 4) (.tmp 17) ?_ (w1.heap.size + 1) 64 (g := ints .i64 f) ?_ ?_ (k2.row (hn2 _) (by omega)) ?_ ?_ ?_); (· rfl); (· rfl); (· rfl); (· rfl); (· exact sizeU); (· exact fun _ => rfl); (intro w3 k3 s3 r3)))
  go_ret
  exact ⟨rfl, (((k1.alloc _).alloc _).trans' k2 fun i hi _ => by omega).trans' k3 fun i hi _ => by omega⟩

theorem fwd_huge (a : Option Addr) (len cap : Nat) (w : World) (hlen : len ≤ 9223372036854775807) (hl : 2147483647 < len) :
    Calls Tryd.prog 3 #[.slice a len cap] w fun e w' => e = .returned (.bool true) ∧ Kept (fun _ => True) w w' := by
  go_enter Tryd.func3, Tryd.ntmps3
  go_wp2
  go_ret
  exact ⟨rfl, Kept.refl _ _⟩
end Go.Proofs.YtcblegbjhiameaaDoor
