/- Contracts of the functions that FnScale calls, and the walk of the law itself. -/
import Derived.Test.YtpmbbampkedecaaMem
import Derived.Test.YtpmbbampkedecaaRows
import Derived.WalkKit
import Derived.Deep.LoopGhost
import Derived.Deep.Light
import Derived.Deep.QuietTactic
import Derived.BigQuiet
import Derived.Lib.Hide
namespace Go.Proofs.Ytpmbbampkedecaa
open Go.Deep Go.RowKit

def scaled (g : Nat → Int) : Nat → Int := fun j =>
  let p := 64 * ((j / 32) * 2 + (j % 8) / 4) + 16 * ((j / 8) % 4) + 2 * (j % 4)
  (g p + g (p + 1) + g (p + 8) + g (p + 9) + 2) / 4
def ord (j : Nat) : Nat := 16 * ((j / 32) * 2 + (j % 8) / 4) + 4 * ((j / 8) % 4) + j % 4
def part (f g : Nat → Int) (o : Nat) : Nat → Int := fun j => if ord j < o then scaled g j else f j

theorem place_all : ∀ i, i < 4 → ∀ y, y < 4 → ∀ x, x < 4 → ∀ j, j < 64 → (ord j = 16 * i + 4 * y + x ↔ j = 8 * y + x + (32 * (i / 2) + 4 * (i % 2))) := by decide +kernel
theorem place_of {i y x j : Nat} (hi : i < 4) (hy : y < 4) (hx : x < 4) (hj : j < 64) :
    ord j = 16 * i + 4 * y + x ↔ j = 8 * y + x + (32 * (i / 2) + 4 * (i % 2)) := place_all i hi y hy x hx j hj
theorem from_all : ∀ i, i < 4 → ∀ y, y < 4 → ∀ x, x < 4 → 64 * (((8 * y + x + (32 * (i / 2) + 4 * (i % 2))) / 32) * 2 + ((8 * y + x + (32 * (i / 2) + 4 * (i % 2))) % 8) / 4) + 16 * (((8 * y + x + (32 * (i / 2) + 4 * (i % 2))) / 8) % 4) + 2 * ((8 * y + x + (32 * (i / 2) + 4 * (i % 2))) % 4) = i * 64 + (16 * y + 2 * x) := by decide +kernel
theorem scaled_at (g : Nat → Int) {i y x : Nat} (hi : i < 4) (hy : y < 4) (hx : x < 4) :
    scaled g (8 * y + x + (32 * (i / 2) + 4 * (i % 2))) = (g (i * 64 + (16 * y + 2 * x)) + g (i * 64 + (16 * y + 2 * x + 1)) + g (i * 64 + (16 * y + 2 * x + 8)) + g (i * 64 + (16 * y + 2 * x + 9)) + 2) / 4 := by
  simp only [scaled]
  rw [from_all i hi y hy x hx]
  rfl
theorem part_step (f g : Nat → Int) {i y x q j : Nat} (hi : i < 4) (hy : y < 4) (hx : x < 4) (hq : q = 32 * (i / 2) + 4 * (i % 2)) (hj : j < 64) :
    (if j = 8 * y + x + q then Value.int .i32 ((g (i * 64 + (16 * y + 2 * x)) + g (i * 64 + (16 * y + 2 * x + 1)) + g (i * 64 + (16 * y + 2 * x + 8)) + g (i * 64 + (16 * y + 2 * x + 9)) + 2) / 4)
      else ints .i32 (part f g (16 * i + 4 * y + x)) j) = ints .i32 (part f g (16 * i + 4 * y + (x + 1))) j := by
  subst hq
  have h := place_of hi hy hx hj
  by_cases e : j = 8 * y + x + (32 * (i / 2) + 4 * (i % 2))
  · rw [if_pos e, ← scaled_at g hi hy hx, ← e]
    have := h.2 e
    simp only [ints, part]
    rw [if_pos (by omega)]
  · rw [if_neg e]
    have : ord j ≠ 16 * i + 4 * y + x := fun k => e (h.1 k)
    simp only [ints, part]
    by_cases k : ord j < 16 * i + 4 * y + x
    · rw [if_pos k, if_pos (by omega)]
    · rw [if_neg k, if_neg (by omega)]

set_option maxHeartbeats 1000000 in
set_option maxRecDepth 100000 in
theorem scale_any (bd bs TD TS : Nat) (f g : Nat → Int) (w : World) (hne : bd ≠ bs) (hd : w.rowIs bd TD 64 (ints .i32 f)) (hs : w.rowIs bs TS 256 (ints .i32 g)) (hg : ∀ j, 0 ≤ g j ∧ g j ≤ 255) :
    Calls Try.prog 21 #[.pointer (some ⟨bd, 0, none⟩), .pointer (some ⟨bs, 0, none⟩)] w fun e w' => e = .returned (.tuple #[]) ∧ Kept (· ≠ bd) w w' ∧ w'.rowIs bd TD 64 (ints .i32 (scaled g)) := by
  go_enter Try.func21, Try.ntmps21
  go_wp2
  go_loopg [4] 4 (fun k si wr => ∃ i : Nat, i ≤ 4 ∧ k = 4 - i ∧ si = .int .i64 i ∧ Kept (· ≠ bd) w wr ∧ wr.rowIs bd TD 64 (ints .i32 (part f g (16 * i))))
  case atStart => exact ⟨0, by omega, rfl, rfl, Kept.refl _ _, hd.congr fun j _ => by simp [ints, part]⟩
  case round =>
    obtain ⟨i, hi, rfl, rfl, hk, hr⟩ := hrel
    by_cases hi4 : i < 4
    · have e2 : bits BinOp.and IntKind.i64 (i : Int) 2 = ((2 * (i / 2) : Nat) : Int) := by
        obtain rfl | rfl | rfl | rfl : i = 0 ∨ i = 1 ∨ i = 2 ∨ i = 3 := by omega
        all_goals decide +kernel
      have e1 : bits BinOp.and IntKind.i64 (i : Int) 1 = ((i % 2 : Nat) : Int) := by
        obtain rfl | rfl | rfl | rfl : i = 0 ∨ i = 1 ∨ i = 2 ∨ i = 3 := by omega
        all_goals decide +kernel
      obtain ⟨q, hq, hq36⟩ : ∃ q : Nat, Hid (q = 32 * (i / 2) + 4 * (i % 2)) ∧ q ≤ 36 := ⟨_, Lib.hid rfl, by omega⟩
      have e3 : bits BinOp.or IntKind.i64 (2 * ((i : Int) / 2) * 16) ((i : Int) % 2 * 4) = (q : Int) := by
        rw [hq.out]
        obtain rfl | rfl | rfl | rfl : i = 0 ∨ i = 1 ∨ i = 2 ∨ i = 3 := by omega
        all_goals decide +kernel
      go_wp2
      clear e1 e2 e3
      go_loopg [6] 4 (fun k sy wy => ∃ y : Nat, y ≤ 4 ∧ k = 4 - y ∧ sy = .int .i64 y ∧ Kept (· ≠ bd) w wy ∧ wy.rowIs bd TD 64 (ints .i32 (part f g (16 * i + 4 * y))))
      case atStart => exact ⟨0, by omega, rfl, rfl, hk, hr⟩
      case round =>
        obtain ⟨y, hy, rfl, rfl, hk, hr⟩ := hrel
        by_cases hy4 : y < 4
        · go_wp2
          go_loopg [7] 4 (fun k sx wx => ∃ x : Nat, x ≤ 4 ∧ k = 4 - x ∧ sx = .int .i64 x ∧ Kept (· ≠ bd) w wx ∧ wx.rowIs bd TD 64 (ints .i32 (part f g (16 * i + 4 * y + x))))
          case atStart => exact ⟨0, by omega, rfl, rfl, hk, hr⟩
          case round =>
            obtain ⟨x, hx, rfl, rfl, hk, hr⟩ := hrel
            by_cases hx4 : x < 4
            · have b0 : (0 : Int) ≤ 16 * (y : Int) + 2 * x := by omega
              have b1 : 16 * (y : Int) + 2 * x + 9 < 64 := by omega
              have c0 : wr.cell? ⟨bs, i * 64 + (16 * y + 2 * x), none⟩ = some (.int .i32 (g (i * 64 + (16 * y + 2 * x)))) := (hk.row hs hne.symm).cell (by omega)
              have c1 : wr.cell? ⟨bs, i * 64 + (16 * y + 2 * x + 1), none⟩ = some (.int .i32 (g (i * 64 + (16 * y + 2 * x + 1)))) := (hk.row hs hne.symm).cell (by omega)
              have c8 : wr.cell? ⟨bs, i * 64 + (16 * y + 2 * x + 8), none⟩ = some (.int .i32 (g (i * 64 + (16 * y + 2 * x + 8)))) := (hk.row hs hne.symm).cell (by omega)
              have c9 : wr.cell? ⟨bs, i * 64 + (16 * y + 2 * x + 9), none⟩ = some (.int .i32 (g (i * 64 + (16 * y + 2 * x + 9)))) := (hk.row hs hne.symm).cell (by omega)
              have g0 := hg (i * 64 + (16 * y + 2 * x))
              have g1 := hg (i * 64 + (16 * y + 2 * x + 1))
              have g8 := hg (i * 64 + (16 * y + 2 * x + 8))
              have g9 := hg (i * 64 + (16 * y + 2 * x + 9))
              have HG := Lib.hid hg
              clear hg
              have d0 : wr.cell? ⟨bd, 8 * y + x + q, none⟩ = some (.int .i32 (part f g (16 * i + 4 * y + x) (8 * y + x + q))) := hr.cell (by omega)
              have d1 : wr.frozen? ⟨bd, 8 * y + x + q, none⟩ = false := hr.frozen _
              go_wp2
              go_quiet (fail)
              go_wp2
              go_roundg (4 - (x + 1))
              case measure => go_light; omega
              case rel =>
                go_light
                exact ⟨x + 1, by omega, rfl, by go_num, (hk.drewN _).setCell (fun _ h => h rfl) _, (World.rowIs.set (show (wr.drewN _).rowIs bd TD 64 _ from hr) _ _).congr fun j hj => part_step f g hi4 hy4 hx4 hq.out hj⟩
            · go_wp2
              go_roundg (4 - (y + 1))
              case measure => go_light; omega
              case rel =>
                go_light
                obtain rfl : x = 4 := by omega
                exact ⟨y + 1, by omega, rfl, by go_num, hk, by rw [show 16 * i + 4 * (y + 1) = 16 * i + 4 * y + 4 by omega]; exact hr⟩
        · go_wp2
          go_roundg (4 - (i + 1))
          case measure => go_light; omega
          case rel =>
            go_light
            obtain rfl : y = 4 := by omega
            exact ⟨i + 1, by omega, rfl, by go_num, hk, by rw [show 16 * (i + 1) = 16 * i + 4 * 4 by omega]; exact hr⟩
    · go_wp2
      go_end0
      obtain rfl : i = 4 := by omega
      exact ⟨rfl, hk, hr.congr fun j hj => by simp only [ints, part]; rw [if_pos (by simp only [ord]; omega)]⟩
end Go.Proofs.Ytpmbbampkedecaa
