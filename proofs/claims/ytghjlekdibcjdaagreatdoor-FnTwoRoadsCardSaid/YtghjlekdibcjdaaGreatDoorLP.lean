/- Texts of mine, united so that a claim holds fewer files: Sized, LawP. -/
import Derived.Test.YtghjlekdibcjdaaGreatDoorStream
import Derived.Test.YtghjlekdibcjdaaGreatDoorCR
/- Contracts of laws.sized for three and four bytes a pixel, and of laws.near. -/
namespace Go.Proofs.YtghjlekdibcjdaaGreatDoor
open Go.Deep Go.RowKit
set_option linter.unusedVariables false
set_option maxHeartbeats 4000000 in
set_option maxRecDepth 100000 in
theorem sized3_false (wide high q many p : Int) (w : World) (hp : wide * high = p) (hn : ¬ (1 ≤ wide ∧ 1 ≤ high ∧ wide ≤ 65535 ∧ high ≤ 65535 ∧ p ≤ 65536 ∧ 1 ≤ q ∧ q ≤ 100 ∧ many = p * 3)) :
    Calls Tryz.prog 9 #[.int .i64 wide, .int .i64 high, .int .i64 q, .int .i64 many, .int .i64 3] w fun e w' => e = .returned (.bool false) ∧ w = w' := by
  have h : wide < 1 ∨ (1 ≤ wide ∧ high < 1) ∨ (1 ≤ wide ∧ 1 ≤ high ∧ 65535 < wide) ∨ (1 ≤ wide ∧ 1 ≤ high ∧ wide ≤ 65535 ∧ 65535 < high) ∨ (1 ≤ wide ∧ 1 ≤ high ∧ wide ≤ 65535 ∧ high ≤ 65535 ∧ 65536 < p) ∨ (1 ≤ wide ∧ 1 ≤ high ∧ wide ≤ 65535 ∧ high ≤ 65535 ∧ p ≤ 65536 ∧ q < 1) ∨ (1 ≤ wide ∧ 1 ≤ high ∧ wide ≤ 65535 ∧ high ≤ 65535 ∧ p ≤ 65536 ∧ 1 ≤ q ∧ 100 < q) ∨ (1 ≤ wide ∧ 1 ≤ high ∧ wide ≤ 65535 ∧ high ≤ 65535 ∧ p ≤ 65536 ∧ 1 ≤ q ∧ q ≤ 100 ∧ many ≠ p * 3) := by omega
  have hpw : 1 ≤ wide → 1 ≤ high → wide ≤ 65535 → high ≤ 65535 → 0 ≤ p ∧ p ≤ 4294836225 := fun h1 h2 h3 h4 => by
    rw [← hp]
    exact ⟨Int.mul_nonneg (by omega) (by omega), by have := Int.mul_le_mul h3 h4 (by omega) (show (0 : Int) ≤ 65535 by omega); omega⟩
  clear hn
  rcases h with h | ⟨h1, h⟩ | ⟨h1, h2, h⟩ | ⟨h1, h2, h3, h⟩ | ⟨h1, h2, h3, h4, h⟩ | ⟨h1, h2, h3, h4, h5, h⟩ | ⟨h1, h2, h3, h4, h5, h6, h⟩ | ⟨h1, h2, h3, h4, h5, h6, h, k1⟩
  · clear hpw
    go_enter Tryz.func9, Tryz.ntmps9
    go_wp2_with fail
    go_ret
    exact ⟨rfl, rfl⟩
  · clear hpw
    go_enter Tryz.func9, Tryz.ntmps9
    go_wp2_with fail
    go_ret
    exact ⟨rfl, rfl⟩
  · clear hpw
    go_enter Tryz.func9, Tryz.ntmps9
    go_wp2_with fail
    go_ret
    exact ⟨rfl, rfl⟩
  · clear hpw
    go_enter Tryz.func9, Tryz.ntmps9
    go_wp2_with fail
    go_ret
    exact ⟨rfl, rfl⟩
  · have hpb := hpw h1 h2 h3 h4
    have ew : IntKind.i64.wrap p = p := IntWalk.i64_in _ ⟨by omega, by omega⟩
    clear hpw
    go_enter Tryz.func9, Tryz.ntmps9
    go_wp2_with fail
    go_ret
    exact ⟨rfl, rfl⟩
  · have hpb := hpw h1 h2 h3 h4
    have ew : IntKind.i64.wrap p = p := IntWalk.i64_in _ ⟨by omega, by omega⟩
    clear hpw
    go_enter Tryz.func9, Tryz.ntmps9
    go_wp2_with fail
    go_ret
    exact ⟨rfl, rfl⟩
  · have hpb := hpw h1 h2 h3 h4
    have ew : IntKind.i64.wrap p = p := IntWalk.i64_in _ ⟨by omega, by omega⟩
    clear hpw
    go_enter Tryz.func9, Tryz.ntmps9
    go_wp2_with fail
    go_ret
    exact ⟨rfl, rfl⟩
  · have hpb := hpw h1 h2 h3 h4
    have ew : IntKind.i64.wrap p = p := IntWalk.i64_in _ ⟨by omega, by omega⟩
    have k2 : (many == p * 3) = false := by simpa using k1
    clear hpw
    go_enter Tryz.func9, Tryz.ntmps9
    go_wp2_with fail
    go_ret
    exact ⟨rfl, rfl⟩
set_option maxHeartbeats 4000000 in
set_option maxRecDepth 100000 in
theorem sized3_true (wide high q many p : Int) (w : World) (hp : wide * high = p) (hn : 1 ≤ wide ∧ 1 ≤ high ∧ wide ≤ 65535 ∧ high ≤ 65535 ∧ p ≤ 65536 ∧ 1 ≤ q ∧ q ≤ 100 ∧ many = p * 3) :
    Calls Tryz.prog 9 #[.int .i64 wide, .int .i64 high, .int .i64 q, .int .i64 many, .int .i64 3] w fun e w' => e = .returned (.bool true) ∧ w = w' := by
  obtain ⟨h1, h2, h3, h4, h5, h6, h, k1⟩ := hn
  have hpb : 0 ≤ p := by rw [← hp]; exact Int.mul_nonneg (by omega) (by omega)
  have ew : IntKind.i64.wrap p = p := IntWalk.i64_in _ ⟨by omega, by omega⟩
  have k2 : (many == p * 3) = true := by simp [k1]
  go_enter Tryz.func9, Tryz.ntmps9
  go_wp2_with fail
  go_ret
  exact ⟨rfl, rfl⟩
set_option maxHeartbeats 4000000 in
set_option maxRecDepth 100000 in
theorem sized4_false (wide high q many p : Int) (w : World) (hp : wide * high = p) (hn : ¬ (1 ≤ wide ∧ 1 ≤ high ∧ wide ≤ 65535 ∧ high ≤ 65535 ∧ p ≤ 65536 ∧ 1 ≤ q ∧ q ≤ 100 ∧ many = p * 4)) :
    Calls Tryz.prog 9 #[.int .i64 wide, .int .i64 high, .int .i64 q, .int .i64 many, .int .i64 4] w fun e w' => e = .returned (.bool false) ∧ w = w' := by
  have h : wide < 1 ∨ (1 ≤ wide ∧ high < 1) ∨ (1 ≤ wide ∧ 1 ≤ high ∧ 65535 < wide) ∨ (1 ≤ wide ∧ 1 ≤ high ∧ wide ≤ 65535 ∧ 65535 < high) ∨ (1 ≤ wide ∧ 1 ≤ high ∧ wide ≤ 65535 ∧ high ≤ 65535 ∧ 65536 < p) ∨ (1 ≤ wide ∧ 1 ≤ high ∧ wide ≤ 65535 ∧ high ≤ 65535 ∧ p ≤ 65536 ∧ q < 1) ∨ (1 ≤ wide ∧ 1 ≤ high ∧ wide ≤ 65535 ∧ high ≤ 65535 ∧ p ≤ 65536 ∧ 1 ≤ q ∧ 100 < q) ∨ (1 ≤ wide ∧ 1 ≤ high ∧ wide ≤ 65535 ∧ high ≤ 65535 ∧ p ≤ 65536 ∧ 1 ≤ q ∧ q ≤ 100 ∧ many ≠ p * 4) := by omega
  have hpw : 1 ≤ wide → 1 ≤ high → wide ≤ 65535 → high ≤ 65535 → 0 ≤ p ∧ p ≤ 4294836225 := fun h1 h2 h3 h4 => by
    rw [← hp]
    exact ⟨Int.mul_nonneg (by omega) (by omega), by have := Int.mul_le_mul h3 h4 (by omega) (show (0 : Int) ≤ 65535 by omega); omega⟩
  clear hn
  rcases h with h | ⟨h1, h⟩ | ⟨h1, h2, h⟩ | ⟨h1, h2, h3, h⟩ | ⟨h1, h2, h3, h4, h⟩ | ⟨h1, h2, h3, h4, h5, h⟩ | ⟨h1, h2, h3, h4, h5, h6, h⟩ | ⟨h1, h2, h3, h4, h5, h6, h, k1⟩
  · clear hpw
    go_enter Tryz.func9, Tryz.ntmps9
    go_wp2_with fail
    go_ret
    exact ⟨rfl, rfl⟩
  · clear hpw
    go_enter Tryz.func9, Tryz.ntmps9
    go_wp2_with fail
    go_ret
    exact ⟨rfl, rfl⟩
  · clear hpw
    go_enter Tryz.func9, Tryz.ntmps9
    go_wp2_with fail
    go_ret
    exact ⟨rfl, rfl⟩
  · clear hpw
    go_enter Tryz.func9, Tryz.ntmps9
    go_wp2_with fail
    go_ret
    exact ⟨rfl, rfl⟩
  · have hpb := hpw h1 h2 h3 h4
    have ew : IntKind.i64.wrap p = p := IntWalk.i64_in _ ⟨by omega, by omega⟩
    clear hpw
    go_enter Tryz.func9, Tryz.ntmps9
    go_wp2_with fail
    go_ret
    exact ⟨rfl, rfl⟩
  · have hpb := hpw h1 h2 h3 h4
    have ew : IntKind.i64.wrap p = p := IntWalk.i64_in _ ⟨by omega, by omega⟩
    clear hpw
    go_enter Tryz.func9, Tryz.ntmps9
    go_wp2_with fail
    go_ret
    exact ⟨rfl, rfl⟩
  · have hpb := hpw h1 h2 h3 h4
    have ew : IntKind.i64.wrap p = p := IntWalk.i64_in _ ⟨by omega, by omega⟩
    clear hpw
    go_enter Tryz.func9, Tryz.ntmps9
    go_wp2_with fail
    go_ret
    exact ⟨rfl, rfl⟩
  · have hpb := hpw h1 h2 h3 h4
    have ew : IntKind.i64.wrap p = p := IntWalk.i64_in _ ⟨by omega, by omega⟩
    have k2 : (many == p * 4) = false := by simpa using k1
    clear hpw
    go_enter Tryz.func9, Tryz.ntmps9
    go_wp2_with fail
    go_ret
    exact ⟨rfl, rfl⟩
set_option maxHeartbeats 4000000 in
set_option maxRecDepth 100000 in
theorem sized4_true (wide high q many p : Int) (w : World) (hp : wide * high = p) (hn : 1 ≤ wide ∧ 1 ≤ high ∧ wide ≤ 65535 ∧ high ≤ 65535 ∧ p ≤ 65536 ∧ 1 ≤ q ∧ q ≤ 100 ∧ many = p * 4) :
    Calls Tryz.prog 9 #[.int .i64 wide, .int .i64 high, .int .i64 q, .int .i64 many, .int .i64 4] w fun e w' => e = .returned (.bool true) ∧ w = w' := by
  obtain ⟨h1, h2, h3, h4, h5, h6, h, k1⟩ := hn
  have hpb : 0 ≤ p := by rw [← hp]; exact Int.mul_nonneg (by omega) (by omega)
  have ew : IntKind.i64.wrap p = p := IntWalk.i64_in _ ⟨by omega, by omega⟩
  have k2 : (many == p * 4) = true := by simp [k1]
  go_enter Tryz.func9, Tryz.ntmps9
  go_wp2_with fail
  go_ret
  exact ⟨rfl, rfl⟩
set_option maxRecDepth 100000 in
theorem near_true (x : Int) (w : World) (h : -1048576 ≤ x ∧ x ≤ 1048576) :
    Calls Tryz.prog 11 #[.int .i64 x] w fun e w' => e = .returned (.bool true) ∧ w' = w := by
  obtain ⟨h1, h2⟩ := h
  go_enter Tryz.func11, Tryz.ntmps11
  go_wp2_with fail
  go_ret
  exact ⟨rfl, rfl⟩
set_option maxRecDepth 100000 in
theorem near_false (x : Int) (w : World) (h : ¬ (-1048576 ≤ x ∧ x ≤ 1048576)) :
    Calls Tryz.prog 11 #[.int .i64 x] w fun e w' => e = .returned (.bool false) ∧ w' = w := by
  have h : x < -1048576 ∨ (-1048576 ≤ x ∧ 1048576 < x) := by omega
  rcases h with h | ⟨h1, h⟩
  · go_enter Tryz.func11, Tryz.ntmps11
    go_wp2_with fail
    go_ret
    exact ⟨rfl, rfl⟩
  · have hd : decide (x ≤ 1048576) = false := by simp; omega
    go_enter Tryz.func11, Tryz.ntmps11
    go_wp2_with fail
    go_ret
    exact ⟨rfl, rfl⟩
end Go.Proofs.YtghjlekdibcjdaaGreatDoor
/- The law Placed: its walk. -/
namespace Go.Proofs.YtghjlekdibcjdaaGreatDoor
open Go.Deep Go.RowKit
set_option linter.unusedVariables false
set_option maxHeartbeats 1000000 in
set_option maxRecDepth 100000 in
theorem pl_huge (a : Option Addr) (len cap : Nat) (x y wide high q : Int) (w : World) (hl : len ≤ 9223372036854775807) (h : 2147483647 < len) :
    Calls Tryz.prog 6 #[.slice a len cap, .int .i64 x, .int .i64 y, .int .i64 wide, .int .i64 high, .int .i64 q] w fun e w' => e = .returned (.bool true) ∧ Kept (fun _ => True) w w' := by
  go_enter Tryz.func6, Tryz.ntmps6
  go_wp2
  go_ret
  exact ⟨rfl, Kept.refl _ _⟩
set_option maxHeartbeats 1000000 in
set_option maxRecDepth 100000 in
theorem pl_not (a : Option Addr) (len cap : Nat) (x y wide high q p : Int) (w : World) (hl : len ≤ 2147483647) (hp : wide * high = p) (hn : ¬ (1 ≤ wide ∧ 1 ≤ high ∧ wide ≤ 65535 ∧ high ≤ 65535 ∧ p ≤ 65536 ∧ 1 ≤ q ∧ q ≤ 100 ∧ (len : Int) = p * 4)) :
    Calls Tryz.prog 6 #[.slice a len cap, .int .i64 x, .int .i64 y, .int .i64 wide, .int .i64 high, .int .i64 q] w fun e w' => e = .returned (.bool true) ∧ Kept (fun _ => True) w w' := by
  have CS := Lib.hid (sized4_false wide high q len p w hp hn)
  clear hn hp
  go_enter Tryz.func6, Tryz.ntmps6
  go_wp2_with (go_at_call 9; (with_reducible refine CS.out.mono ?_); rintro e w2 ⟨rfl, rfl⟩)
  go_ret
  exact ⟨rfl, Kept.refl _ _⟩
set_option maxHeartbeats 1000000 in
set_option maxRecDepth 100000 in
theorem pl_far (a : Option Addr) (len cap : Nat) (x y wide high q p : Int) (w : World) (hl : len ≤ 2147483647) (hp : wide * high = p) (hn : 1 ≤ wide ∧ 1 ≤ high ∧ wide ≤ 65535 ∧ high ≤ 65535 ∧ p ≤ 65536 ∧ 1 ≤ q ∧ q ≤ 100 ∧ (len : Int) = p * 4) (hf : ¬ ((-1048576 ≤ x ∧ x ≤ 1048576) ∧ (-1048576 ≤ y ∧ y ≤ 1048576))) :
    Calls Tryz.prog 6 #[.slice a len cap, .int .i64 x, .int .i64 y, .int .i64 wide, .int .i64 high, .int .i64 q] w fun e w' => e = .returned (.bool true) ∧ Kept (fun _ => True) w w' := by
  have CS := Lib.hid (sized4_true wide high q len p w hp hn)
  clear hn hp
  by_cases hx : -1048576 ≤ x ∧ x ≤ 1048576
  · have CX := Lib.hid (near_true x w hx)
    have CY := Lib.hid (near_false y w (fun h => hf ⟨hx, h⟩))
    clear hx hf
    go_enter Tryz.func6, Tryz.ntmps6
    go_wp2_with (first
      | (go_at_call 9; (with_reducible refine CS.out.mono ?_); rintro e w2 ⟨rfl, rfl⟩)
      | (go_at_call 11; (with_reducible refine CX.out.mono ?_); rintro e w3 ⟨rfl, rfl⟩; clear CX)
      | (go_at_call 11; (with_reducible refine CY.out.mono ?_); rintro e w3 ⟨rfl, rfl⟩))
    go_ret
    exact ⟨rfl, Kept.refl _ _⟩
  · have CX := Lib.hid (near_false x w hx)
    clear hx hf
    go_enter Tryz.func6, Tryz.ntmps6
    go_wp2_with (first
      | (go_at_call 9; (with_reducible refine CS.out.mono ?_); rintro e w2 ⟨rfl, rfl⟩)
      | (go_at_call 11; (with_reducible refine CX.out.mono ?_); rintro e w3 ⟨rfl, rfl⟩))
    go_ret
    exact ⟨rfl, Kept.refl _ _⟩
/-- A call whose result is a row that is not empty. -/
def RowC (fn : Nat) (args : Array Value) (R : List Nat) (w : World) : Prop := ∀ W, Kept (fun _ => True) w W → Calls Tryz.prog fn args W fun e w' => ∃ g c, e = .returned (.tuple #[.slice (some ⟨g, 0, none⟩) R.length c, .int .i64 0]) ∧ w'.ownsRow W.heap.size 5 1 (.slice (some ⟨g, 0, none⟩) R.length c) R.length (cellsN R) ∧ Kept (fun _ => True) W w'
theorem rowC_of {fn : Nat} {args : Array Value} {R : List Nat} {w : World} (hR : 1 ≤ R.length) (h : ∀ W, Kept (fun _ => True) w W → Calls Tryz.prog fn args W fun e w' => ∃ v, e = .returned (.tuple #[v, .int .i64 0]) ∧ w'.ownsRow W.heap.size 5 1 v R.length (cellsN R) ∧ Kept (fun _ => True) W w') : RowC fn args R w := fun W hW => (h W hW).mono fun e w' ⟨v, he, ho, hk⟩ => by
  obtain ⟨g, c, rfl⟩ := ownsRow_some ho hR
  exact ⟨g, c, he, ho, hk⟩
set_option maxHeartbeats 4000000 in
set_option maxRecDepth 100000 in
theorem pl_ok (b off cap : Nat) (wd hg : Nat) (x y q : Int) (R S : List Nat) (w : World) (hx : -1048576 ≤ x ∧ x ≤ 1048576) (hy : -1048576 ≤ y ∧ y ≤ 1048576) (hlen : wd * hg ≤ 65536) (h1 : 1 ≤ wd) (h2 : 1 ≤ hg) (h3 : wd ≤ 65535) (h4 : hg ≤ 65535) (hq0 : 1 ≤ q) (hq1 : q ≤ 100) (hcap : 4 * wd * hg ≤ cap) (hR : 1 ≤ R.length) (hR2 : R.length ≤ 9223372036854775807) (hS : 1 ≤ S.length) (hS2 : S.length ≤ 9223372036854775807)
    (hA : RowC 12 #[.slice (some ⟨b, off, none⟩) (4 * wd * hg) cap, .int .i64 x, .int .i64 y, .int .i64 (wd : Int), .int .i64 (hg : Int), .int .i64 q] R w)
    (hB : RowC 12 #[.slice (some ⟨b, off, none⟩) (4 * wd * hg) cap, .int .i64 0, .int .i64 0, .int .i64 (wd : Int), .int .i64 (hg : Int), .int .i64 q] R w)
    (hC : RowC 10 #[.slice (some ⟨b, off, none⟩) (wd * hg) cap, .int .i64 x, .int .i64 y, .int .i64 (wd : Int), .int .i64 (hg : Int), .int .i64 q, .int .i64 (-1)] S w)
    (hD : RowC 10 #[.slice (some ⟨b, off, none⟩) (wd * hg) cap, .int .i64 0, .int .i64 0, .int .i64 (wd : Int), .int .i64 (hg : Int), .int .i64 q, .int .i64 (-1)] S w) :
    Calls Tryz.prog 6 #[.slice (some ⟨b, off, none⟩) (4 * wd * hg) cap, .int .i64 x, .int .i64 y, .int .i64 (wd : Int), .int .i64 (hg : Int), .int .i64 q] w fun e w' => e = .returned (.bool true) ∧ Kept (fun _ => True) w w' := by
  have hmul : ((wd : Nat) : Int) * ((hg : Nat) : Int) = ((wd * hg : Nat) : Int) := by simp
  rw [Nat.mul_assoc] at hA hB hcap ⊢
  generalize hN : wd * hg = N at hlen hA hB hC hD hmul hcap ⊢
  have CS := Lib.hid (sized4_true wd hg q (4 * (N : Int)) N w hmul (by omega))
  have CN := Lib.hid fun (v : Int) (W : World) (h : -1048576 ≤ v ∧ v ≤ 1048576) => near_true v W h
  have CA := Lib.hid hA
  have CB := Lib.hid hB
  have CC := Lib.hid hC
  have CD := Lib.hid hD
  clear hA hB hC hD hN
  have HSR : Hid (∀ {W : World} {B : Nat} {v : Value}, W.ownsRow B 5 1 v R.length (cellsN R) → (convert 22 9 v).run Tryz.prog W = .ok (.string (strN R)) W) := Lib.hid fun h => run_str_own h
  have HSS : Hid (∀ {W : World} {B : Nat} {v : Value}, W.ownsRow B 5 1 v S.length (cellsN S) → (convert 22 9 v).run Tryz.prog W = .ok (.string (strN S)) W) := Lib.hid fun h => run_str_own h
  generalize strN R = SR at HSR
  generalize strN S = SS at HSS
  unfold RowC at CA CB CC CD
  generalize R.length = LR at *
  generalize S.length = LS at *
  have n0 : (0 : Int) ≤ (N : Int) := by omega
  have n1 : (N : Int) ≤ (cap : Int) := by omega
  have n2 : (N : Int).toNat = N := by omega
  have ewn : IntKind.i64.wrap (N : Int) = (N : Int) := IntWalk.i64_in _ ⟨by omega, by omega⟩
  go_enter Tryz.func6, Tryz.ntmps6
  go_wp2_with (first
    | (go_at_call 9; (with_reducible refine CS.out.mono ?_); rintro e w2 ⟨rfl, rfl⟩)
    | (go_at_call 11; (with_reducible refine (CN.out _ _ hx).mono ?_); rintro e w2 ⟨rfl, rfl⟩)
    | (go_at_call 11; (with_reducible refine (CN.out _ _ hy).mono ?_); rintro e w2 ⟨rfl, rfl⟩)
    | (go_at_call 12; (with_reducible refine (CA.out _ (Kept.refl _ _)).mono ?_); rintro e w3 ⟨g1, c1, rfl, ho, hk⟩; have HA := Lib.hid (And.intro ho hk); clear ho hk CA)
    | (go_at_call 12; (with_reducible refine (CB.out _ HA.out.2).mono ?_); rintro e w4 ⟨g2, c2, rfl, ho, hk⟩; have HB := Lib.hid (And.intro (ownsRow_kept' HA.out.1 hk) (And.intro ho (HA.out.2.trans hk))); clear ho hk CB)
    | (go_at_call 10; (with_reducible refine (CC.out _ HB.out.2.2).mono ?_); rintro e w5 ⟨g3, c3, rfl, ho, hk⟩; have HC := Lib.hid (And.intro (ownsRow_kept' HB.out.1 hk) (And.intro (ownsRow_kept' HB.out.2.1 hk) (And.intro ho (HB.out.2.2.trans hk)))); clear ho hk CC)
    | (go_at_call 10; (with_reducible refine (CD.out _ HC.out.2.2.2).mono ?_); rintro e w6 ⟨g4, c4, rfl, ho, hk⟩; have hc1 := HSR.out (ownsRow_kept' HC.out.1 hk); have hc2 := HSR.out (ownsRow_kept' HC.out.2.1 hk); have hc3 := HSS.out (ownsRow_kept' HC.out.2.2.1 hk); have hc4 := HSS.out ho; have HD := Lib.hid (HC.out.2.2.2.trans hk); clear ho hk CD))

  go_ret
  exact ⟨rfl, HD.out⟩
/-- The law Placed. -/
theorem pl_law (a : Option Addr) (len cap : Nat) (z : List Int) (x y wide high q : Int) (U : Nat → Nat) (w : World) (h : IsRow .u8 w a len cap z) (hD : DoorAt U w) (hU : ∀ i, U i ≤ 255) (h4 : 4 ≤ w.heap.size) :
    Calls Tryz.prog 6 #[.slice a len cap, .int .i64 x, .int .i64 y, .int .i64 wide, .int .i64 high, .int .i64 q] w fun e w' => e = .returned (.bool true) ∧ Kept (fun _ => True) w w' := by
  by_cases hl : len ≤ 2147483647
  · by_cases hs : 1 ≤ wide ∧ 1 ≤ high ∧ wide ≤ 65535 ∧ high ≤ 65535 ∧ wide * high ≤ 65536 ∧ 1 ≤ q ∧ q ≤ 100 ∧ (len : Int) = wide * high * 4
    · by_cases hf : (-1048576 ≤ x ∧ x ≤ 1048576) ∧ (-1048576 ≤ y ∧ y ≤ 1048576)
      · obtain ⟨wd, rfl⟩ : ∃ wd : Nat, wide = (wd : Int) := ⟨wide.toNat, by omega⟩
        obtain ⟨hg, rfl⟩ : ∃ hg : Nat, high = (hg : Int) := ⟨high.toNat, by omega⟩
        obtain ⟨s1, s2, s3, s4, s5, s7, s8, s6⟩ := hs
        rw [← Int.natCast_mul] at s5 s6
        obtain rfl : len = 4 * wd * hg := by rw [Nat.mul_assoc]; omega
        have hp : 1 ≤ wd * hg := Nat.mul_pos (by omega) (by omega)
        have h4p : wd * hg ≤ 4 * wd * hg := by rw [Nat.mul_assoc]; omega
        obtain ⟨b, off, rfl, hcap, -, hcell, -⟩ := h.cells (by omega)
        have hsz : SizeOk x y wd hg := ⟨by omega, by omega, by omega, by omega, by omega, hf.1, hf.2⟩
        have hsz0 : SizeOk 0 0 wd hg := ⟨by omega, by omega, by omega, by omega, by omega, by omega, by omega⟩
        have hT := streamG_pos (quantOf U (scaleOf (qualOf q))) wd hg (pixN z)
        have hT2 := streamG_len (quantOf U (scaleOf (qualOf q))) (pixN z) (show 1 ≤ wd by omega) (show 1 ≤ hg by omega) (by omega)
        have hC := streamC_pos (quantOf U (scaleOf (qualOf q))) wd hg (planesOf fun c k => pixN z (4 * k + c))
        have hC2 := streamC_len (quantOf U (scaleOf (qualOf q))) (planesOf fun c k => pixN z (4 * k + c)) (show 1 ≤ wd by omega) (show 1 ≤ hg by omega) (by omega)
        refine pl_ok b off cap wd hg x y q (streamC (quantOf U (scaleOf (qualOf q))) wd hg (planesOf fun c k => pixN z (4 * k + c))) (streamG (quantOf U (scaleOf (qualOf q))) wd hg (pixN z)) w hf.1 hf.2 (by omega) (by omega) (by omega) (by omega) (by omega) s7 s8 hcap (by omega) (by omega) (by omega) (by omega) (rowC_of (by omega) fun W hW => ?_) (rowC_of (by omega) fun W hW => ?_) (rowC_of (by omega) fun W hW => ?_) (rowC_of (by omega) fun W hW => ?_)
        · exact implRgba_any b off cap z x y wd hg q U W (fun i hi => hW.cellOf (hcell i (by omega)) trivial) (fun i => h.u8 i) hcap hsz (hD.kept hW) hU (Nat.le_trans h4 hW.size) _ rfl
        · exact implRgba_any b off cap z 0 0 wd hg q U W (fun i hi => hW.cellOf (hcell i (by omega)) trivial) (fun i => h.u8 i) hcap hsz0 (hD.kept hW) hU (Nat.le_trans h4 hW.size) _ rfl
        · exact grayEnc_any 0 _ b off cap z x y wd hg q (-1) U W (fun i hi => hW.cellOf (hcell i (by omega)) trivial) (fun i => h.u8 i) (by omega) hsz (hD.kept hW) (Nat.le_trans h4 hW.size)
            fun bi bp V hG hV h8 => encoded_good bi bp x y wd hg (pixN z) q (-1) U _ rfl V hG hsz hV hU h8 (by decide) (.inl (by decide))
        · exact grayEnc_any 0 _ b off cap z 0 0 wd hg q (-1) U W (fun i hi => hW.cellOf (hcell i (by omega)) trivial) (fun i => h.u8 i) (by omega) hsz0 (hD.kept hW) (Nat.le_trans h4 hW.size)
            fun bi bp V hG hV h8 => encoded_good bi bp 0 0 wd hg (pixN z) q (-1) U _ rfl V hG hsz0 hV hU h8 (by decide) (.inl (by decide))
      · exact pl_far a len cap x y wide high q _ w hl rfl hs hf
    · exact pl_not a len cap x y wide high q _ w hl rfl hs
  · exact pl_huge a len cap x y wide high q w h.len_le (by omega)
end Go.Proofs.YtghjlekdibcjdaaGreatDoor
