/- The law FnCodes at the other lengths. -/
import Derived.Test.YtpmbbampkedecaaCodesE
namespace Go.Proofs.Ytpmbbampkedecaa
open Go.Deep Go.RowKit

set_option maxHeartbeats 1000000 in
set_option maxRecDepth 100000 in
theorem codes_less (a0 : Option Addr) (len0 cap0 : Nat) (z0 : List Int) (a1 : Option Addr) (len1 cap1 : Nat) (w : World) (h0 : IsRow .u8 w a0 len0 cap0 z0) (hh : len0 < 16) (hl1 : len1 ≤ 2147483647) :
    Calls Try.prog 5 #[.slice a0 len0 cap0, .slice a1 len1 cap1] w fun e w' => e = .returned (.bool true) ∧ Kept (fun _ => True) w w' := by
  have C1 := counted_less a0 len0 cap0 z0 w h0 hh
  obtain ⟨f, hf⟩ : ∃ f, firstOf z0 len0 = f := ⟨_, rfl⟩
  rw [hf] at C1
  have H1 := Lib.hid C1
  clear C1 hf h0
  go_enter Try.func5, Try.ntmps5
  go_wp2_with fail
  refine H1.out.mono ?_
  rintro e w1 ⟨rfl, k1⟩
  have hnew := rowIs_lit16 w1 29
  go_wp2_with (((with_reducible refine wpList_store_new (op := ⟨none, .store 29 (.tmp 5) (.tmp 23), _, _, _, _⟩) ?_ 29 (.tmp 5) (.tmp 23) ?_ w1.heap.size 16 (g := ints .u8 f) ?_ ?_ hnew ?_ ?_ ?_); (· rfl); (· rfl); (· rfl); (· rfl); (· exact size29); (· exact fun _ => rfl); (intro w2 k2 s2 r2)))
  go_ret
  exact ⟨rfl, (k1.alloc _).trans' k2 fun i hi _ => by have := k1.size; omega⟩

set_option maxHeartbeats 1000000 in
set_option maxRecDepth 100000 in
theorem codes_more (a0 : Option Addr) (len0 cap0 : Nat) (z0 : List Int) (a1 : Option Addr) (len1 cap1 : Nat) (w : World) (h0 : IsRow .u8 w a0 len0 cap0 z0) (hh : 16 < len0) (hb0 : len0 ≤ 2147483647) (hl1 : len1 ≤ 2147483647) :
    Calls Try.prog 5 #[.slice a0 len0 cap0, .slice a1 len1 cap1] w fun e w' => e = .returned (.bool true) ∧ Kept (fun _ => True) w w' := by
  have C1 := counted_more a0 len0 cap0 z0 w h0 hh
  obtain ⟨f, hf⟩ : ∃ f, firstOf z0 16 = f := ⟨_, rfl⟩
  rw [hf] at C1
  have H1 := Lib.hid C1
  clear C1 hf h0
  go_enter Try.func5, Try.ntmps5
  go_wp2_with fail
  refine H1.out.mono ?_
  rintro e w1 ⟨rfl, k1⟩
  have hnew := rowIs_lit16 w1 29
  go_wp2_with (((with_reducible refine wpList_store_new (op := ⟨none, .store 29 (.tmp 5) (.tmp 23), _, _, _, _⟩) ?_ 29 (.tmp 5) (.tmp 23) ?_ w1.heap.size 16 (g := ints .u8 f) ?_ ?_ hnew ?_ ?_ ?_); (· rfl); (· rfl); (· rfl); (· rfl); (· exact size29); (· exact fun _ => rfl); (intro w2 k2 s2 r2)))
  go_ret
  exact ⟨rfl, (k1.alloc _).trans' k2 fun i hi _ => by have := k1.size; omega⟩

theorem codes_huge0 (a0 : Option Addr) (len0 cap0 : Nat) (a1 : Option Addr) (len1 cap1 : Nat) (w : World) (hl0 : len0 ≤ 9223372036854775807) (hh : 2147483647 < len0) :
    Calls Try.prog 5 #[.slice a0 len0 cap0, .slice a1 len1 cap1] w fun e w' => e = .returned (.bool true) ∧ Kept (fun _ => True) w w' := by
  go_enter Try.func5, Try.ntmps5
  go_wp2
  go_ret
  exact ⟨rfl, Kept.refl _ _⟩

theorem codes_huge1 (a0 : Option Addr) (len0 cap0 : Nat) (a1 : Option Addr) (len1 cap1 : Nat) (w : World) (hl0 : len0 ≤ 9223372036854775807) (hl1 : len1 ≤ 9223372036854775807) (hh0 : ¬ 2147483647 < len0) (hh : 2147483647 < len1) :
    Calls Try.prog 5 #[.slice a0 len0 cap0, .slice a1 len1 cap1] w fun e w' => e = .returned (.bool true) ∧ Kept (fun _ => True) w w' := by
  go_enter Try.func5, Try.ntmps5
  go_wp2
  go_ret
  exact ⟨rfl, Kept.refl _ _⟩
end Go.Proofs.Ytpmbbampkedecaa
