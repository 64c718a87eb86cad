/- The walk of the law FnThereAndBack. -/
import Derived.Test.YtcblegbjhiameaaDoorBoundsWalk
import Derived.Test.YtcblegbjhiameaaDoorOneLaw
import Derived.Test.YtcblegbjhiameaaDoorSamples
import Derived.Test.YtcblegbjhiameaaDoorSpecTop
import Derived.Test.YtcblegbjhiameaaDoorDctCallsDoor
import Derived.StillTailTactics
namespace Go.Proofs.YtcblegbjhiameaaDoor
open Go.Deep Go.RowKit
set_option linter.unusedVariables false
theorem div_any (a b : Int) (w : World) (h1 : -1610612735 ≤ a) (h2 : a ≤ 1610612735) (h3 : 1 ≤ b) (h4 : b ≤ 1073741824) :
    Calls Tryd.prog 33 #[.int .i32 a, .int .i32 b] w fun e w' => e = .returned (.int .i32 (rnd a b)) ∧ w' = w := by
  by_cases h : 0 ≤ a
  · have hq := quo_le (x := a + b / 2) (b := b) (by omega) h3
    have e := rnd_pos (b := b) h
    have E := Lib.hid e
    clear e
    go_enter Tryd.func33, Tryd.ntmps33
    go_wp2
    go_ret
    exact ⟨by rw [E.out]; rfl, rfl⟩
  · have h' : a < 0 := by omega
    have hq := quo_le (x := -a + b / 2) (b := b) (by omega) h3
    have hr : -2147483648 ≤ -((-a + b / 2) / b) := by omega
    have e := rnd_neg (b := b) h'
    have E := Lib.hid e
    clear e
    go_enter Tryd.func33, Tryd.ntmps33
    go_wp2
    go_ret
    exact ⟨by rw [E.out]; rfl, rfl⟩
theorem zdiv_any (a b : Int) (w : World) (h1 : -1610612735 ≤ a) (h2 : a ≤ 1610612735) (h3 : 1 ≤ b) (h4 : b ≤ 1073741824) :
    Calls Tryd.prog 28 #[.int .i32 a, .int .i32 b] w fun e w' => e = .returned (.int .i32 (rnd a b)) ∧ w' = w := by
  go_enter Tryd.func28, Tryd.ntmps28
  go_wp2_with (go_at_call 33; refine (div_any _ _ _ h1 h2 h3 h4).mono ?_; rintro e w2 ⟨rfl, rfl⟩)
  go_ret
  exact ⟨rfl, rfl⟩
theorem impl_div_any (a b : Int) (w : World) (h1 : -1610612735 ≤ a) (h2 : a ≤ 1610612735) (h3 : 1 ≤ b) (h4 : b ≤ 1073741824) :
    Calls Tryd.prog 18 #[.int .i32 a, .int .i32 b] w fun e w' => e = .returned (.int .i32 (rnd a b)) ∧ w' = w := by
  go_enter Tryd.func18, Tryd.ntmps18
  go_wp2_with (go_at_call 28; refine (zdiv_any _ _ _ h1 h2 h3 h4).mono ?_; rintro e w2 ⟨rfl, rfl⟩)
  go_ret
  exact ⟨rfl, rfl⟩
theorem zigzag_any (z : Nat → Nat) (bs : Nat → Int) (k : Nat) (w : World) (L : Laid z bs w) (hk : k < 64) :
    Calls Tryd.prog 17 #[.int .i64 k] w fun e w' => e = .returned (.int .i64 (z k)) ∧ w = w' := by
  have d0 := L.zig k hk
  go_enter Tryd.func17, Tryd.ntmps17
  go_wp2
  go_ret
  exact ⟨rfl, rfl⟩
theorem apart_same (a b m : Int) (w : World) (ha : -2305843009213693952 ≤ a ∧ a ≤ 2305843009213693952) (hb : -2305843009213693952 ≤ b ∧ b ≤ 2305843009213693952) (h1 : a - b ≤ m) (h2 : b - a ≤ m) :
    Calls Tryd.prog 10 #[.int .i64 a, .int .i64 b, .int .i64 m] w fun e w' => e = .returned (.bool false) ∧ w' = w := by
  obtain ⟨ha1, ha2⟩ := ha
  obtain ⟨hb1, hb2⟩ := hb
  go_enter Tryd.func10, Tryd.ntmps10
  go_wp2
  all_goals
    go_ret
    exact ⟨by simp; omega, rfl⟩
theorem size_i32t : (Tryd.prog.info? 21).map (·.size) = some 1 := by kernel_rfl
set_option maxHeartbeats 1000000 in
set_option maxRecDepth 100000 in
theorem tb_huge (a0 : Option Addr) (len0 cap0 : Nat) (z0 : List Int) (a1 : Option Addr) (len1 cap1 : Nat) (z1 : List Int) (w : World) (hl0 : len0 ≤ 9223372036854775807) (hl : 2147483647 < len0) : Calls Tryd.prog 6 #[.slice a0 len0 cap0, .slice a1 len1 cap1] w fun e w' => e = .returned (.bool true) ∧ Kept (fun _ => True) w w' := by
  go_enter Tryd.func6, Tryd.ntmps6
  go_wp2
  go_ret
  exact ⟨rfl, Kept.refl _ _⟩
set_option maxHeartbeats 1000000 in
set_option maxRecDepth 100000 in
theorem tb_huge2 (a0 : Option Addr) (len0 cap0 : Nat) (z0 : List Int) (a1 : Option Addr) (len1 cap1 : Nat) (z1 : List Int) (w : World) (hl0 : len1 ≤ 9223372036854775807) (hl1 : len0 ≤ 2147483647) (hl : 2147483647 < len1) : Calls Tryd.prog 6 #[.slice a0 len0 cap0, .slice a1 len1 cap1] w fun e w' => e = .returned (.bool true) ∧ Kept (fun _ => True) w w' := by
  go_enter Tryd.func6, Tryd.ntmps6
  go_wp2
  go_ret
  exact ⟨rfl, Kept.refl _ _⟩
set_option maxHeartbeats 1000000 in
set_option maxRecDepth 100000 in
theorem tb_less (a0 : Option Addr) (len0 cap0 : Nat) (z0 : List Int) (a1 : Option Addr) (len1 cap1 : Nat) (z1 : List Int) (w : World) (h : IsRow .u8 w a0 len0 cap0 z0) (hl0 : len1 ≤ 2147483647) (hl1 : len0 ≤ 2147483647) (hl : len0 < 64) : Calls Tryd.prog 6 #[.slice a0 len0 cap0, .slice a1 len1 cap1] w fun e w' => e = .returned (.bool true) ∧ Kept (fun _ => True) w w' := by
  have C1 := samples_less a0 len0 cap0 z0 w h hl
  obtain ⟨f, hf⟩ : ∃ f, firstOf z0 len0 = f := ⟨_, rfl⟩
  rw [hf] at C1
  clear hf h
  have HC1 := Lib.hid C1
  clear C1
  go_enter Tryd.func6, Tryd.ntmps6
  go_wp2_with fail
  refine HC1.out.mono ?_
  rintro e w1 ⟨rfl, k1⟩
  have hn1 := fun o => (rowIs_lit64 w1 23).alloc o
  have hn2 := fun o => rowIs_lit64i (w1.alloc o) 24
  simp only [World.size_alloc] at hn2
  have hsz := k1.size
  clear HC1
  go_wp2_with (first | ((with_reducible refine wpList_store_new (op := ⟨none, .store 23 (.tmp 5) (.tmp 30), _, _, _, _⟩) ?_ 23 (.tmp 5) (.tmp 30) ?_ w1.heap.size 64 (g := ints .i32 f) ?_ ?_ (hn1 _) ?_ ?_ ?_); (· rfl); (· rfl); (· rfl); (· rfl); (· exact sizeT); (· exact fun _ => rfl); (intro w2 k2 s2 r2)) | ((with_reducible refine wpList_store_new (op := ⟨none, .store 24 (.tmp 6) (.tmp 31), _, _, _, _⟩) ?_ 24 (.tmp 6) (.tmp 31) ?_ (w1.heap.size + 1) 64 (g := ints .i64 f) ?_ ?_ (k2.row (hn2 _) (by omega)) ?_ ?_ ?_); (· rfl); (· rfl); (· rfl); (· rfl); (· exact sizeU); (· exact fun _ => rfl); (intro w3 k3 s3 r3)))
  go_ret
  exact ⟨rfl, (((k1.alloc _).alloc _).trans' k2 fun i hi _ => by omega).trans' k3 fun i hi _ => by omega⟩
set_option maxHeartbeats 1000000 in
set_option maxRecDepth 100000 in
theorem tb_more (a0 : Option Addr) (len0 cap0 : Nat) (z0 : List Int) (a1 : Option Addr) (len1 cap1 : Nat) (z1 : List Int) (w : World) (h : IsRow .u8 w a0 len0 cap0 z0) (hl0 : len1 ≤ 2147483647) (hl1 : len0 ≤ 2147483647) (hl : 64 < len0) : Calls Tryd.prog 6 #[.slice a0 len0 cap0, .slice a1 len1 cap1] w fun e w' => e = .returned (.bool true) ∧ Kept (fun _ => True) w w' := by
  have C1 := samples_more a0 len0 cap0 z0 w h hl
  obtain ⟨f, hf⟩ : ∃ f, firstOf z0 64 = f := ⟨_, rfl⟩
  rw [hf] at C1
  clear hf h
  have HC1 := Lib.hid C1
  clear C1
  go_enter Tryd.func6, Tryd.ntmps6
  go_wp2_with fail
  refine HC1.out.mono ?_
  rintro e w1 ⟨rfl, k1⟩
  have hn1 := fun o => (rowIs_lit64 w1 23).alloc o
  have hn2 := fun o => rowIs_lit64i (w1.alloc o) 24
  simp only [World.size_alloc] at hn2
  have hsz := k1.size
  clear HC1
  go_wp2_with (first | ((with_reducible refine wpList_store_new (op := ⟨none, .store 23 (.tmp 5) (.tmp 30), _, _, _, _⟩) ?_ 23 (.tmp 5) (.tmp 30) ?_ w1.heap.size 64 (g := ints .i32 f) ?_ ?_ (hn1 _) ?_ ?_ ?_); (· rfl); (· rfl); (· rfl); (· rfl); (· exact sizeT); (· exact fun _ => rfl); (intro w2 k2 s2 r2)) | ((with_reducible refine wpList_store_new (op := ⟨none, .store 24 (.tmp 6) (.tmp 31), _, _, _, _⟩) ?_ 24 (.tmp 6) (.tmp 31) ?_ (w1.heap.size + 1) 64 (g := ints .i64 f) ?_ ?_ (k2.row (hn2 _) (by omega)) ?_ ?_ ?_); (· rfl); (· rfl); (· rfl); (· rfl); (· exact sizeU); (· exact fun _ => rfl); (intro w3 k3 s3 r3)))
  go_ret
  exact ⟨rfl, (((k1.alloc _).alloc _).trans' k2 fun i hi _ => by omega).trans' k3 fun i hi _ => by omega⟩
set_option maxHeartbeats 1000000 in
set_option maxRecDepth 100000 in
theorem tb_short (a0 : Option Addr) (len0 cap0 : Nat) (z0 : List Int) (a1 : Option Addr) (len1 cap1 : Nat) (z1 : List Int) (w : World) (h : IsRow .u8 w a0 len0 cap0 z0) (hl0 : len1 ≤ 2147483647) (hl : len0 = 64) (hl1 : len1 ≠ 64) : Calls Tryd.prog 6 #[.slice a0 len0 cap0, .slice a1 len1 cap1] w fun e w' => e = .returned (.bool true) ∧ Kept (fun _ => True) w w' := by
  subst hl
  have C1 := samples_64 a0 64 cap0 z0 w h rfl
  have hne : ((len1 : Int) == 64) = false := by simp; omega
  obtain ⟨f, hf⟩ : ∃ f, firstOf z0 64 = f := ⟨_, rfl⟩
  rw [hf] at C1
  clear hf h
  have HC1 := Lib.hid C1
  clear C1
  go_enter Tryd.func6, Tryd.ntmps6
  go_wp2_with fail
  refine HC1.out.mono ?_
  rintro e w1 ⟨rfl, k1⟩
  have hn1 := fun o => (rowIs_lit64 w1 23).alloc o
  have hn2 := fun o => rowIs_lit64i (w1.alloc o) 24
  simp only [World.size_alloc] at hn2
  have hsz := k1.size
  clear HC1
  go_wp2_with (first | ((with_reducible refine wpList_store_new (op := ⟨none, .store 23 (.tmp 5) (.tmp 30), _, _, _, _⟩) ?_ 23 (.tmp 5) (.tmp 30) ?_ w1.heap.size 64 (g := ints .i32 f) ?_ ?_ (hn1 _) ?_ ?_ ?_); (· rfl); (· rfl); (· rfl); (· rfl); (· exact sizeT); (· exact fun _ => rfl); (intro w2 k2 s2 r2)) | ((with_reducible refine wpList_store_new (op := ⟨none, .store 24 (.tmp 6) (.tmp 31), _, _, _, _⟩) ?_ 24 (.tmp 6) (.tmp 31) ?_ (w1.heap.size + 1) 64 (g := ints .i64 f) ?_ ?_ (k2.row (hn2 _) (by omega)) ?_ ?_ ?_); (· rfl); (· rfl); (· rfl); (· rfl); (· exact sizeU); (· exact fun _ => rfl); (intro w3 k3 s3 r3)))
  go_ret
  exact ⟨rfl, (((k1.alloc _).alloc _).trans' k2 fun i hi _ => by omega).trans' k3 fun i hi _ => by omega⟩
/-- The coefficients behind i steps: those that are divided and multiplied, the others as they were. -/
def cAt (F V : Nat → Int) (i j : Nat) : Int := if izN j < i then V j else F j
theorem cAt_step {k : IntKind} (F V : Nat → Int) (i : Nat) (hi : i < 64) (j : Nat) (hj : j < 64) {p : Nat} {x : Int} (hp : zN i = p) (hx : V p = x) :
    (if j = p then Value.int k x else ints k (cAt F V i) j) = ints k (cAt F V (i + 1)) j := by
  subst hp hx
  simp only [ints, cAt]
  by_cases e : j = zN i
  · subst e; rw [if_pos rfl, izN_z i hi, if_pos (by omega)]
  · rw [if_neg e]
    have : izN j ≠ i := fun h => e (by rw [← h]; exact (izN_lt j hj).2.symm)
    by_cases d : izN j < i
    · rw [if_pos d, if_pos (by omega)]
    · rw [if_neg d, if_neg (by omega)]
theorem cAt_at (F V : Nat → Int) (i : Nat) (hi : i < 64) : cAt F V i (zN i) = F (zN i) := by
  simp only [cAt]
  rw [izN_z i hi, if_neg (by omega)]
theorem cAt_zero (F V : Nat → Int) (j : Nat) : cAt F V 0 j = F j := by simp [cAt]
theorem cAt_end (F V : Nat → Int) (j : Nat) (hj : j < 64) : cAt F V 64 j = V j := by
  simp only [cAt]
  rw [if_pos (izN_lt j hj).1]
/-- What the table is known to hold. -/
def TabIn (q : Nat → Int) (n : Nat) : Prop := ∀ j, j < n → 1 ≤ q j ∧ q j ≤ 255
/-- What is known of the coefficients of the first transform. -/
def FIn (F : Nat → Int) : Prop := ∀ j, j < 64 → -16500 ≤ F j ∧ F j ≤ 16500
def VIn (V : Nat → Int) : Prop := ∀ j, j < 64 → -32768 ≤ V j ∧ V j ≤ 32768
theorem V_in (F q : Nat → Int) (hF : FIn F) (hq : TabIn q 64) : VIn (qC F q) := fun j hj => by
  have h1 := hq (izN j) (izN_lt j hj).1
  have h2 := qC_near F q j h1.1
  have h3 := hF j hj
  omega
theorem rnd_in (a t : Int) (h1 : -16500 ≤ a ∧ a ≤ 16500) (h2 : 1 ≤ t ∧ t ≤ 255) : (-20000 ≤ rnd a (8 * t) ∧ rnd a (8 * t) ≤ 20000) ∧ -20000 ≤ rnd a (8 * t) * t ∧ rnd a (8 * t) * t ≤ 20000 := by
  have h := rnd_near a (8 * t) (by omega)
  rw [Int.mul_left_comm] at h
  have hp : -20000 ≤ rnd a (8 * t) * t ∧ rnd a (8 * t) * t ≤ 20000 := by
    generalize rnd a (8 * t) * t = p at *
    omega
  refine ⟨?_, hp⟩
  generalize rnd a (8 * t) = r at *
  refine ⟨?_, ?_⟩
  · by_cases hr : 0 ≤ r
    · omega
    · have := Int.mul_le_mul_of_nonneg_left h2.1 (c := -r) (by omega)
      rw [Int.neg_mul, Int.neg_mul] at this
      omega
  · by_cases hr : 0 ≤ r
    · have := Int.mul_le_mul_of_nonneg_left h2.1 hr
      omega
    · omega
/-- What the last loop knows of its numbers. -/
def EndIn (g f B : Nat → Int) : Prop := ∀ j, j < 64 → (-20000 ≤ g j ∧ g j ≤ 20000) ∧ (0 ≤ f j ∧ f j ≤ 255) ∧ (g j + 128) * 1099511627776 - f j * 1099511627776 ≤ B j ∧ f j * 1099511627776 - (g j + 128) * 1099511627776 ≤ B j
theorem end_in (f q : Nat → Int) (hf : ∀ j, 0 ≤ f j ∧ f j ≤ 255) (hq : TabIn q 64) (c : Nat → Int) (hc : c = qC (frows (fcols f)) q) (hV : VIn c) (hS : ∀ j, j < 64 → -422212465065984 ≤ inv zN bN c j ∧ inv zN bN c j ≤ 421112953438208) :
    EndIn (icols (irows c)) f (bndN q) := fun j hj => by
  have h1 := inverse_one c hV hS j hj
  have h2 := there_near f q hf hq (j / 8) (j % 8) (by omega) (by omega)
  have h3 := inv_eq c hV (j / 8) (j % 8) (by omega) (by omega)
  have h4 := hS j hj
  have h5 := hf j
  rw [show 8 * (j / 8) + j % 8 = j by omega] at h2 h3
  rw [← hc, ← h3] at h2
  unfold bndN
  clear h3 hc hV hS hq hf
  generalize sumTo (bT q (j / 8) (j % 8)) 64 = W at *
  generalize inv zN bN c j = S at *
  generalize icols (irows c) j = g at *
  generalize f j = x at *
  refine ⟨⟨by omega, by omega⟩, h5, by omega, by omega⟩
end Go.Proofs.YtcblegbjhiameaaDoor
