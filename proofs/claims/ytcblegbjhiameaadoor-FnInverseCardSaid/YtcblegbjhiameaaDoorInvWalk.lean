/- The walk of the law FnInverse. -/
import Derived.Test.YtcblegbjhiameaaDoorOneLaw
import Derived.Test.YtcblegbjhiameaaDoorInvEq
import Derived.Test.YtcblegbjhiameaaDoorCoef
import Derived.Test.YtcblegbjhiameaaDoorSpecTop
import Derived.Test.YtcblegbjhiameaaDoorDctCallsDoor
namespace Go.Proofs.YtcblegbjhiameaaDoor
open Go.Deep Go.RowKit
theorem size_i32i : (Tryd.prog.info? 21).map (·.size) = some 1 := by kernel_rfl
def NearInv (g S : Nat → Int) : Prop := ∀ j, j < 64 → (-1099511627776 ≤ g j * 1099511627776 - S j ∧ g j * 1099511627776 - S j ≤ 1099511627776) ∧ -422212465065984 ≤ S j ∧ S j ≤ 421112953438208

set_option maxHeartbeats 1000000 in
set_option maxRecDepth 100000 in
theorem fi_any (a : Option Addr) (len cap : Nat) (z : List Int) (w : World) (L : Laid zN bN w) (h : IsRow .i64 w a len cap z) (hb : ¬ 2147483647 < len) :
    Calls Tryd.prog 4 #[.slice a len cap] w fun e w' => e = .returned (.bool true) ∧ Kept (fun _ => True) w w' := by
  have hlen := h.len_le
  have HC1 := Lib.hid (coef_any a len cap z w h)
  clear h
  go_enter Tryd.func4, Tryd.ntmps4
  go_wp2_with fail
  refine HC1.out.mono ?_
  rintro e w1 ⟨f, ok, rfl, hok, k1⟩
  have hn1 := fun o => (rowIs_lit64 w1 23).alloc o
  have hn2 := fun o => rowIs_lit64i (w1.alloc o) 24
  simp only [World.size_alloc] at hn2
  have hsz := k1.size
  clear HC1
  cases ok
  · clear hok
    go_wp2_with (first | ((with_reducible refine wpList_store_new (op := ⟨none, .store 23 (.tmp 3) (.tmp 15), _, _, _, _⟩) ?_ 23 (.tmp 3) (.tmp 15) ?_ w1.heap.size 64 (g := ints .i32 f) ?_ ?_ (hn1 _) ?_ ?_ ?_); (· rfl); (· rfl); (· rfl); (· rfl); (· exact sizeT); (· exact fun _ => rfl); (intro w2 k2 s2 r2)) | ((with_reducible refine wpList_store_new (op := ⟨none, .store 24 (.tmp 4) (.tmp 16), _, _, _, _⟩) ?_ 24 (.tmp 4) (.tmp 16) ?_ (w1.heap.size + 1) 64 (g := ints .i64 f) ?_ ?_ (k2.row (hn2 _) (by omega)) ?_ ?_ ?_); (· rfl); (· rfl); (· rfl); (· rfl); (· exact sizeU); (· exact fun _ => rfl); (intro w3 k3 s3 r3)))
    go_ret
    exact ⟨rfl, (((k1.alloc _).alloc _).trans' k2 fun i hi _ => by omega).trans' k3 fun i hi _ => by omega⟩
  · have Hok := Lib.hid (hok rfl)
    clear hok
    go_wp2_with (first | ((with_reducible refine wpList_store_new (op := ⟨none, .store 23 (.tmp 3) (.tmp 15), _, _, _, _⟩) ?_ 23 (.tmp 3) (.tmp 15) ?_ w1.heap.size 64 (g := ints .i32 f) ?_ ?_ (hn1 _) ?_ ?_ ?_); (· rfl); (· rfl); (· rfl); (· rfl); (· exact sizeT); (· exact fun _ => rfl); (intro w2 k2 s2 r2)) | ((with_reducible refine wpList_store_new (op := ⟨none, .store 24 (.tmp 4) (.tmp 16), _, _, _, _⟩) ?_ 24 (.tmp 4) (.tmp 16) ?_ (w1.heap.size + 1) 64 (g := ints .i64 f) ?_ ?_ (k2.row (hn2 _) (by omega)) ?_ ?_ ?_); (· rfl); (· rfl); (· rfl); (· rfl); (· exact sizeU); (· exact fun _ => rfl); (intro w3 k3 s3 r3)))
    have r4 := k3.row r2 (by omega)
    have K3 : Kept (fun _ => True) w w3 := (((k1.alloc _).alloc _).trans' k2 fun i hi _ => by omega).trans' k3 fun i hi _ => by omega
    clear hn1 hn2 k1 k2 k3 s2 s3 r2
    refine (specInverse_any zN bN f (w1.heap.size + 1) 24 w3 (L.kept K3) r3).mono ?_
    rintro e w4 ⟨rfl, k4⟩
    have K4 := K3.trans k4
    have r5 := k4.row r4 trivial
    have lt5 := r5.lt
    have hsz4 := K4.size
    clear k4 K3 r4 r3
    obtain ⟨S, hS⟩ : ∃ S, inv zN bN f = S := ⟨_, rfl⟩
    rw [hS]
    have HS := Lib.hid hS
    clear hS
    have hnew := rowIs_lit64i w4 24
    go_wp2_with (((with_reducible refine wpList_store_new (op := ⟨none, .store 24 (.tmp 6) (.tmp 20), _, _, _, _⟩) ?_ 24 (.tmp 6) (.tmp 20) ?_ w4.heap.size 64 (g := ints .i64 S) ?_ ?_ hnew ?_ ?_ ?_); (· rfl); (· rfl); (· rfl); (· rfl); (· exact sizeU); (· exact fun _ => rfl); (intro w5 k5 s5 q5)))
    have K5 : Kept (fun _ => True) w w5 := (K4.alloc _).trans' k5 fun i hi _ => by omega
    have r6 := k5.row (r5.alloc _) (by omega)
    clear k5 s5 K4 r5 hnew
    refine (within_any S w4.heap.size 24 w5 q5).mono ?_
    rintro e w6 ⟨b, rfl, hin, k6⟩
    have K6 := K5.trans k6
    have r7 := k6.row r6 trivial
    have q7 := k6.row q5 trivial
    clear k6 K5 r6 q5
    cases b
    · clear hin
      go_wp2_with fail
      go_ret
      exact ⟨rfl, K6⟩
    · have HN : Hid (NearInv (icols (irows f)) S) := Lib.hid fun j hj => ⟨by
          have := inverse_one f (fun j _ => Hok.out j) (by rw [HS.out]; exact hin rfl) j hj
          rw [HS.out] at this
          exact this, (hin rfl j hj).1, (hin rfl j hj).2⟩
      have HF := Lib.hid (implInverse_any f)
      have HE := Lib.hid fun W => (implInverse_any (lone 64) W)
      clear hin HS Hok
      go_wp2_with (((with_reducible refine wpList_load_all (op := ⟨some 23, .load 23 (.tmp 3), _, _, _, _⟩) ?_ 23 (.tmp 3) ?_ w1.heap.size 64 ?_ r7 ?_ Tryd.underlying23 ?_ ?_ ?_); (· rfl); (· rfl); (· rfl); (· omega); (· rfl); (· exact sizeT)))
      refine (HF.out w6).mono ?_
      rintro e w7 ⟨rfl, k7⟩
      have K7 := K6.trans k7
      have q8 := k7.row q7 trivial
      clear k7 K6 r7 q7 HF
      generalize icols (irows f) = g at HN
      generalize hG : agg 64 (ints .i32 g) = G
      have HG := Lib.hid hG
      clear hG
      go_wp2_with fail
      go_loopg [25] 64 (fun k s wr => ∃ i : Nat, i ≤ 64 ∧ k = 64 - i ∧ s = .int .i64 i ∧ Kept (fun _ => True) w wr ∧ wr.rowIs w4.heap.size 24 64 (ints .i64 S))
      case atStart => exact ⟨0, by omega, rfl, rfl, K7, q8⟩
      case round =>
        clear K7 q8
        obtain ⟨i, hi, rfl, rfl, hk, hr⟩ := hrel
        by_cases hlt : i < 64
        · have hidx : ∀ wx, (Instr.index 23 (.agg G) (.int .i64 (i : Int))).run Tryd.prog wx = .ok (.int .i32 (g i)) wx := fun wx => by
            rw [← show _ = G from HG.out]
            exact run_index_one (P := Tryd.prog) Tryd.underlying23 Tryd.underlying21 rfl size_i32i (ints .i32 g) i hlt wx
          obtain ⟨⟨hn1, hn2⟩, hq1, hq2⟩ := HN.out i hlt
          obtain ⟨q, hq⟩ : ∃ q, S i = q := ⟨_, rfl⟩
          obtain ⟨v, hv⟩ : ∃ v, g i = v := ⟨_, rfl⟩
          rw [hv] at hidx
          rw [hq, hv] at hn1 hn2
          rw [hq] at hq1 hq2
          have d0 : wr.cell? ⟨w4.heap.size, i, none⟩ = some (.int .i64 q) := by rw [← hq]; exact hr.cell (by omega)
          clear hq hv
          have hv1 : -20000 ≤ v := by omega
          have hv2 : v ≤ 20000 := by omega
          go_wp2_with fail
          refine (apart_no (v * 1099511627776) q 1099511627776 _ ⟨by omega, by omega⟩ ⟨by omega, by omega⟩ (by omega) (by omega)).mono ?_
          rintro e w8 ⟨rfl, k8⟩
          go_wp2
          go_roundg (64 - (i + 1))
          case measure => go_light; omega
          case rel =>
            go_light
            exact ⟨i + 1, by omega, rfl, by go_num, hk.trans k8, k8.row hr trivial⟩
        · have ei : i = 64 := by omega
          subst ei
          clear HG HN hr
          go_wp2_with fail
          refine (HE.out wr).mono ?_
          rintro e w8 ⟨rfl, k8⟩
          rw [agg_congr (f := ints .i32 (icols (irows (lone 64)))) (g := ints .i32 fun _ => 8) fun j _ => by simp only [ints]; rw [show (64 : Int) = 8 * 8 from rfl, inverse_lone 8 (by omega) (by omega) j]]
          have hidx : ∀ wx, (Instr.index 23 (.agg (agg 64 (ints .i32 (fun _ => 8)))) (.int .i64 0)).run Tryd.prog wx = .ok (.int .i32 8) wx := run_index_one (P := Tryd.prog) Tryd.underlying23 Tryd.underlying21 rfl size_i32i (ints .i32 fun _ => 8) 0 (by omega)
          have K8 := hk.trans k8
          clear hk k8
          generalize hG : agg 64 (ints .i32 fun _ => 8) = G2 at hidx
          clear hG
          go_wp2_with fail
          go_ret
          exact ⟨rfl, K8⟩
theorem fi_huge (a : Option Addr) (len cap : Nat) (w : World) (hlen : len ≤ 9223372036854775807) (hl : 2147483647 < len) :
    Calls Tryd.prog 4 #[.slice a len cap] w fun e w' => e = .returned (.bool true) ∧ Kept (fun _ => True) w w' := by
  go_enter Tryd.func4, Tryd.ntmps4
  go_wp2
  go_ret
  exact ⟨rfl, Kept.refl _ _⟩
end Go.Proofs.YtcblegbjhiameaaDoor
