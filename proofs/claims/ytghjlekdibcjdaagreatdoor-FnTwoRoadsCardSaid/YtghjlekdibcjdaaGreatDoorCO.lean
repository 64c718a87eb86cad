/- Texts of mine, united so that a claim holds fewer files: ScaleW, RgbW, ColA, ColB, ColF. -/
import Derived.Test.YtghjlekdibcjdaaGreatDoorMem
import Derived.Test.YtghjlekdibcjdaaGreatDoorRows
import Derived.WalkKit
import Derived.Deep.LoopGhost
import Derived.Deep.Light
import Derived.Deep.QuietTactic
import Derived.BigQuiet
import Derived.Lib.Hide
import Derived.Test.YtghjlekdibcjdaaGreatDoorImgA
import Derived.Test.YtghjlekdibcjdaaGreatDoorScanB
/- The contract of scale. -/
namespace Go.Proofs.YtghjlekdibcjdaaGreatDoor
open Go.Deep Go.RowKit

def scaled (g : Nat → Int) : Nat → Int := fun j =>
  let p := 64 * ((j / 32) * 2 + (j % 8) / 4) + 16 * ((j / 8) % 4) + 2 * (j % 4)
  (g p + g (p + 1) + g (p + 8) + g (p + 9) + 2) / 4
def ord (j : Nat) : Nat := 16 * ((j / 32) * 2 + (j % 8) / 4) + 4 * ((j / 8) % 4) + j % 4
def part (f g : Nat → Int) (o : Nat) : Nat → Int := fun j => if ord j < o then scaled g j else f j

theorem place_all : ∀ i, i < 4 → ∀ y, y < 4 → ∀ x, x < 4 → ∀ j, j < 64 → (ord j = 16 * i + 4 * y + x ↔ j = 8 * y + x + (32 * (i / 2) + 4 * (i % 2))) := by decide +kernel
theorem place_of {i y x j : Nat} (hi : i < 4) (hy : y < 4) (hx : x < 4) (hj : j < 64) :
    ord j = 16 * i + 4 * y + x ↔ j = 8 * y + x + (32 * (i / 2) + 4 * (i % 2)) := place_all i hi y hy x hx j hj
theorem from_all : ∀ i, i < 4 → ∀ y, y < 4 → ∀ x, x < 4 → 64 * (((8 * y + x + (32 * (i / 2) + 4 * (i % 2))) / 32) * 2 + ((8 * y + x + (32 * (i / 2) + 4 * (i % 2))) % 8) / 4) + 16 * (((8 * y + x + (32 * (i / 2) + 4 * (i % 2))) / 8) % 4) + 2 * ((8 * y + x + (32 * (i / 2) + 4 * (i % 2))) % 4) = i * 64 + (16 * y + 2 * x) := by decide +kernel
theorem scaled_at (g : Nat → Int) {i y x : Nat} (hi : i < 4) (hy : y < 4) (hx : x < 4) :
    scaled g (8 * y + x + (32 * (i / 2) + 4 * (i % 2))) = (g (i * 64 + (16 * y + 2 * x)) + g (i * 64 + (16 * y + 2 * x + 1)) + g (i * 64 + (16 * y + 2 * x + 8)) + g (i * 64 + (16 * y + 2 * x + 9)) + 2) / 4 := by
  simp only [scaled]
  rw [from_all i hi y hy x hx]
  rfl
theorem part_step (f g : Nat → Int) {i y x q j : Nat} (hi : i < 4) (hy : y < 4) (hx : x < 4) (hq : q = 32 * (i / 2) + 4 * (i % 2)) (hj : j < 64) :
    (if j = 8 * y + x + q then Value.int .i32 ((g (i * 64 + (16 * y + 2 * x)) + g (i * 64 + (16 * y + 2 * x + 1)) + g (i * 64 + (16 * y + 2 * x + 8)) + g (i * 64 + (16 * y + 2 * x + 9)) + 2) / 4)
      else ints .i32 (part f g (16 * i + 4 * y + x)) j) = ints .i32 (part f g (16 * i + 4 * y + (x + 1))) j := by
  subst hq
  have h := place_of hi hy hx hj
  by_cases e : j = 8 * y + x + (32 * (i / 2) + 4 * (i % 2))
  · rw [if_pos e, ← scaled_at g hi hy hx, ← e]
    have := h.2 e
    simp only [ints, part]
    rw [if_pos (by omega)]
  · rw [if_neg e]
    have : ord j ≠ 16 * i + 4 * y + x := fun k => e (h.1 k)
    simp only [ints, part]
    by_cases k : ord j < 16 * i + 4 * y + x
    · rw [if_pos k, if_pos (by omega)]
    · rw [if_neg k, if_neg (by omega)]

set_option maxHeartbeats 1000000 in
set_option maxRecDepth 100000 in
theorem scale_any (bd bs TD TS : Nat) (f g : Nat → Int) (w : World) (hne : bd ≠ bs) (hd : w.rowIs bd TD 64 (ints .i32 f)) (hs : w.rowIs bs TS 256 (ints .i32 g)) (hg : ∀ j, 0 ≤ g j ∧ g j ≤ 255) :
    Calls Tryz.prog 61 #[.pointer (some ⟨bd, 0, none⟩), .pointer (some ⟨bs, 0, none⟩)] w fun e w' => e = .returned (.tuple #[]) ∧ Kept (· ≠ bd) w w' ∧ w'.rowIs bd TD 64 (ints .i32 (scaled g)) := by
  go_enter Tryz.func61, Tryz.ntmps61
  go_wp2
  go_loopg [4] 4 (fun k si wr => ∃ i : Nat, i ≤ 4 ∧ k = 4 - i ∧ si = .int .i64 i ∧ Kept (· ≠ bd) w wr ∧ wr.rowIs bd TD 64 (ints .i32 (part f g (16 * i))))
  case atStart => exact ⟨0, by omega, rfl, rfl, Kept.refl _ _, hd.congr fun j _ => by simp [ints, part]⟩
  case round =>
    obtain ⟨i, hi, rfl, rfl, hk, hr⟩ := hrel
    by_cases hi4 : i < 4
    · have e2 : bits BinOp.and IntKind.i64 (i : Int) 2 = ((2 * (i / 2) : Nat) : Int) := by
        obtain rfl | rfl | rfl | rfl : i = 0 ∨ i = 1 ∨ i = 2 ∨ i = 3 := by omega
        all_goals decide +kernel
      have e1 : bits BinOp.and IntKind.i64 (i : Int) 1 = ((i % 2 : Nat) : Int) := by
        obtain rfl | rfl | rfl | rfl : i = 0 ∨ i = 1 ∨ i = 2 ∨ i = 3 := by omega
        all_goals decide +kernel
      obtain ⟨q, hq, hq36⟩ : ∃ q : Nat, Hid (q = 32 * (i / 2) + 4 * (i % 2)) ∧ q ≤ 36 := ⟨_, Lib.hid rfl, by omega⟩
      have e3 : bits BinOp.or IntKind.i64 (2 * ((i : Int) / 2) * 16) ((i : Int) % 2 * 4) = (q : Int) := by
        rw [hq.out]
        obtain rfl | rfl | rfl | rfl : i = 0 ∨ i = 1 ∨ i = 2 ∨ i = 3 := by omega
        all_goals decide +kernel
      go_wp2
      clear e1 e2 e3
      go_loopg [6] 4 (fun k sy wy => ∃ y : Nat, y ≤ 4 ∧ k = 4 - y ∧ sy = .int .i64 y ∧ Kept (· ≠ bd) w wy ∧ wy.rowIs bd TD 64 (ints .i32 (part f g (16 * i + 4 * y))))
      case atStart => exact ⟨0, by omega, rfl, rfl, hk, hr⟩
      case round =>
        obtain ⟨y, hy, rfl, rfl, hk, hr⟩ := hrel
        by_cases hy4 : y < 4
        · go_wp2
          go_loopg [7] 4 (fun k sx wx => ∃ x : Nat, x ≤ 4 ∧ k = 4 - x ∧ sx = .int .i64 x ∧ Kept (· ≠ bd) w wx ∧ wx.rowIs bd TD 64 (ints .i32 (part f g (16 * i + 4 * y + x))))
          case atStart => exact ⟨0, by omega, rfl, rfl, hk, hr⟩
          case round =>
            obtain ⟨x, hx, rfl, rfl, hk, hr⟩ := hrel
            by_cases hx4 : x < 4
            · have b0 : (0 : Int) ≤ 16 * (y : Int) + 2 * x := by omega
              have b1 : 16 * (y : Int) + 2 * x + 9 < 64 := by omega
              have c0 : wr.cell? ⟨bs, i * 64 + (16 * y + 2 * x), none⟩ = some (.int .i32 (g (i * 64 + (16 * y + 2 * x)))) := (hk.row hs hne.symm).cell (by omega)
              have c1 : wr.cell? ⟨bs, i * 64 + (16 * y + 2 * x + 1), none⟩ = some (.int .i32 (g (i * 64 + (16 * y + 2 * x + 1)))) := (hk.row hs hne.symm).cell (by omega)
              have c8 : wr.cell? ⟨bs, i * 64 + (16 * y + 2 * x + 8), none⟩ = some (.int .i32 (g (i * 64 + (16 * y + 2 * x + 8)))) := (hk.row hs hne.symm).cell (by omega)
              have c9 : wr.cell? ⟨bs, i * 64 + (16 * y + 2 * x + 9), none⟩ = some (.int .i32 (g (i * 64 + (16 * y + 2 * x + 9)))) := (hk.row hs hne.symm).cell (by omega)
              have g0 := hg (i * 64 + (16 * y + 2 * x))
              have g1 := hg (i * 64 + (16 * y + 2 * x + 1))
              have g8 := hg (i * 64 + (16 * y + 2 * x + 8))
              have g9 := hg (i * 64 + (16 * y + 2 * x + 9))
              have HG := Lib.hid hg
              clear hg
              have d0 : wr.cell? ⟨bd, 8 * y + x + q, none⟩ = some (.int .i32 (part f g (16 * i + 4 * y + x) (8 * y + x + q))) := hr.cell (by omega)
              have d1 : wr.frozen? ⟨bd, 8 * y + x + q, none⟩ = false := hr.frozen _
              go_wp2
              go_quiet (fail)
              go_wp2
              go_roundg (4 - (x + 1))
              case measure => go_light; omega
              case rel =>
                go_light
                exact ⟨x + 1, by omega, rfl, by go_num, (hk.drewN _).setCell (fun _ h => h rfl) _, (World.rowIs.set (show (wr.drewN _).rowIs bd TD 64 _ from hr) _ _).congr fun j hj => part_step f g hi4 hy4 hx4 hq.out hj⟩
            · go_wp2
              go_roundg (4 - (y + 1))
              case measure => go_light; omega
              case rel =>
                go_light
                obtain rfl : x = 4 := by omega
                exact ⟨y + 1, by omega, rfl, by go_num, hk, by rw [show 16 * i + 4 * (y + 1) = 16 * i + 4 * y + 4 by omega]; exact hr⟩
        · go_wp2
          go_roundg (4 - (i + 1))
          case measure => go_light; omega
          case rel =>
            go_light
            obtain rfl : y = 4 := by omega
            exact ⟨i + 1, by omega, rfl, by go_num, hk, by rw [show 16 * (i + 1) = 16 * i + 4 * 4 by omega]; exact hr⟩
    · go_wp2
      go_end0
      obtain rfl : i = 4 := by omega
      exact ⟨rfl, hk, hr.congr fun j hj => by simp only [ints, part]; rw [if_pos (by simp only [ord]; omega)]⟩
end Go.Proofs.YtghjlekdibcjdaaGreatDoor
/- The contract of color.RGBToYCbCr. -/
namespace Go.Proofs.YtghjlekdibcjdaaGreatDoor
open Go.Deep Go.RowKit
set_option linter.unusedVariables false
/-- A color's luma, and one of its two chroma by a number of 24 bits. -/
def lumaOf (r g b : Nat) : Nat := (19595 * r + 38470 * g + 7471 * b + 32768) / 65536
def chr (v : Int) : Nat := if v < 16777216 then (v / 65536).toNat else 255
def cbOf (r g b : Nat) : Nat := chr (-11056 * (r : Int) - 21712 * g + 32768 * b + 8421376)
def crOf (r g b : Nat) : Nat := chr (32768 * (r : Int) - 27440 * g - 5328 * b + 8421376)
theorem lumaOf_le {r g b : Nat} (hr : r ≤ 255) (hg : g ≤ 255) (hb : b ≤ 255) : lumaOf r g b ≤ 255 := by unfold lumaOf; omega
theorem chr_le (v : Int) : chr v ≤ 255 := by unfold chr; split <;> omega
theorem and_hi (v : Nat) (h : v < 16777216) : v &&& 4278190080 = 0 := by
  apply Nat.eq_of_testBit_eq
  intro i
  rw [Nat.testBit_and, Nat.zero_testBit]
  by_cases hi : i < 24
  · have h2 : ∀ i, i < 24 → Nat.testBit 4278190080 i = false := by decide
    rw [h2 i hi, Bool.and_false]
  · have h3 : v < 2 ^ i := Nat.lt_of_lt_of_le h (Nat.pow_le_pow_right (n := 2) (by omega) (show 24 ≤ i by omega))
    rw [Nat.testBit_lt_two_pow h3, Bool.false_and]
theorem u32_hi (v : Int) (h0 : 0 ≤ v) (h : v < 16777216) : bits .and .u32 v 4278190080 = 0 := by
  obtain ⟨n, rfl⟩ : ∃ n : Nat, v = (n : Int) := ⟨v.toNat, by omega⟩
  show IntKind.u32.wrap ((BitVec.ofInt 32 (n : Int) &&& BitVec.ofInt 32 4278190080).toNat : Int) = _
  have e : (BitVec.ofInt 32 (n : Int)).toNat = n := by simp; omega
  have e2 : (BitVec.ofInt 32 4278190080).toNat = 4278190080 := by decide
  rw [BitVec.toNat_and, e, e2, and_hi n (by omega)]
  rfl
theorem u32_top : bits .and .u32 16777216 4278190080 = 16777216 := by decide
/-- What one chroma's branch comes to. -/
theorem chr_cases (v : Int) (h0 : 65536 ≤ v) (h1 : v ≤ 16777216) : (v = 16777216 ∧ chr v = 255) ∨ (65536 ≤ v ∧ v < 16777216 ∧ bits .and .u32 v 4278190080 = 0 ∧ v / 65536 = (chr v : Int) ∧ chr v ≤ 255) := by
  by_cases h : v < 16777216
  · refine .inr ⟨h0, h, u32_hi v (by omega) h, ?_, chr_le v⟩
    unfold chr
    rw [if_pos h]
    omega
  · exact .inl ⟨by omega, by unfold chr; rw [if_neg h]⟩
set_option maxHeartbeats 2000000 in
set_option maxRecDepth 100000 in
theorem rgb_any (r g b : Nat) (hr : r ≤ 255) (hg : g ≤ 255) (hb : b ≤ 255) (w : World) :
    Calls Tryz.prog 22 #[.int .u8 (r : Int), .int .u8 (g : Int), .int .u8 (b : Int)] w fun e w' => e = .returned (.tuple #[.int .u8 (lumaOf r g b : Int), .int .u8 (cbOf r g b : Int), .int .u8 (crOf r g b : Int)]) ∧ w' = w := by
  have hl : (19595 * (r : Int) + 38470 * g + 7471 * b + 32768) / 65536 = (lumaOf r g b : Int) := by unfold lumaOf; omega
  have hl2 := lumaOf_le hr hg hb
  have hcb := chr_cases (-11056 * (r : Int) - 21712 * g + 32768 * b + 8421376) (by omega) (by omega)
  have hcr := chr_cases (32768 * (r : Int) - 27440 * g - 5328 * b + 8421376) (by omega) (by omega)
  change ((_ ∧ cbOf r g b = _) ∨ (_ ∧ _ ∧ _ ∧ _ = ((cbOf r g b : Nat) : Int) ∧ cbOf r g b ≤ 255)) at hcb
  change ((_ ∧ crOf r g b = _) ∨ (_ ∧ _ ∧ _ ∧ _ = ((crOf r g b : Nat) : Int) ∧ crOf r g b ≤ 255)) at hcr
  generalize lumaOf r g b = Y at *
  generalize cbOf r g b = B at *
  generalize crOf r g b = R at *
  rcases hcb with ⟨k1, rfl⟩ | ⟨k1, k2, k3, k4, k5⟩ <;> rcases hcr with ⟨m1, rfl⟩ | ⟨m1, m2, m3, m4, m5⟩
  · exfalso; omega
  · obtain rfl : r = 0 := by omega
    obtain rfl : g = 0 := by omega
    obtain rfl : b = 255 := by omega
    have u := u32_top
    go_enter Tryz.func22, Tryz.ntmps22
    go_wp2_with fail
    exact bodyPost_ret (v := .tuple #[.int .u8 _, .int .u8 _, .int .u8 _]) (by simp [results, Tryz.results22, go_sem]; exact ⟨by omega, by decide, by omega⟩) rfl ⟨rfl, rfl⟩
  · obtain rfl : r = 255 := by omega
    obtain rfl : g = 0 := by omega
    obtain rfl : b = 0 := by omega
    have u := u32_top
    go_enter Tryz.func22, Tryz.ntmps22
    go_wp2_with fail
    exact bodyPost_ret (v := .tuple #[.int .u8 _, .int .u8 _, .int .u8 _]) (by simp [results, Tryz.results22, go_sem]; exact ⟨by omega, by omega, by decide⟩) rfl ⟨rfl, rfl⟩
  · go_enter Tryz.func22, Tryz.ntmps22
    go_wp2_with fail
    exact bodyPost_ret (v := .tuple #[.int .u8 _, .int .u8 _, .int .u8 _]) (by simp [results, Tryz.results22, go_sem]) rfl ⟨rfl, rfl⟩
end Go.Proofs.YtghjlekdibcjdaaGreatDoor
/- The scan of an image of three planes as plain functions. -/
namespace Go.Proofs.YtghjlekdibcjdaaGreatDoor
open Go.Deep Go.RowKit
set_option linter.unusedVariables false
/-- Four blocks of a plane, one behind the other. -/
def quadS (wd hg : Nat) (P : Nat → Nat) (bx by' : Nat) : Nat → Int := fun n => grayS wd hg P (bx + 8 * (n / 64 % 2)) (by' + 8 * (n / 64 / 2)) (n % 64)
theorem quadS_in {wd hg : Nat} {P : Nat → Nat} (hP : ∀ k, P k ≤ 255) (bx by' n : Nat) : 0 ≤ quadS wd hg P bx by' n ∧ quadS wd hg P bx by' n ≤ 255 := by
  have := hP (clampAt wd hg (bx + 8 * (n / 64 % 2)) (by' + 8 * (n / 64 / 2)) (n % 64))
  unfold quadS grayS
  omega
theorem quadS_at (wd hg : Nat) (P : Nat → Nat) (bx by' i j : Nat) (hj : j < 64) : quadS wd hg P bx by' (64 * i + j) = grayS wd hg P (bx + 8 * (i % 2)) (by' + 8 * (i / 2)) j := by
  unfold quadS
  rw [show (64 * i + j) / 64 = i by omega, show (64 * i + j) % 64 = j by omega]
theorem scaled_in {g : Nat → Int} (hg : ∀ j, 0 ≤ g j ∧ g j ≤ 255) : IsSamples (scaled g) := fun j => by
  simp only [scaled]
  generalize 64 * ((j / 32) * 2 + (j % 8) / 4) + 16 * ((j / 8) % 4) + 2 * (j % 4) = p
  have h0 := hg p
  have h1 := hg (p + 1)
  have h2 := hg (p + 8)
  have h3 := hg (p + 9)
  omega
/-- What has been written, and the three last first coefficients. -/
abbrev St3 := Bw × Int × Int × Int
def lumaN (Q : Nat → Nat) (wd hg : Nat) (P : Nat → Nat) (bx by' : Nat) (st : Bw × Int) : Nat → Bw × Int
  | 0 => st
  | i + 1 => stepG Q 0 (grayS wd hg P (bx + 8 * (i % 2)) (by' + 8 * (i / 2))) (lumaN Q wd hg P bx by' st i)
/-- Sixteen columns and rows of the image. -/
def mcuB (Q : Nat → Nat) (wd hg : Nat) (P : Nat → Nat → Nat) (bx by' : Nat) (t : St3) : Bw × Int := stepG Q 1 (scaled (quadS wd hg (P 1) bx by')) ((lumaN Q wd hg (P 0) bx by' (t.1, t.2.1) 4).1, t.2.2.1)
def mcuR (Q : Nat → Nat) (wd hg : Nat) (P : Nat → Nat → Nat) (bx by' : Nat) (t : St3) : Bw × Int := stepG Q 1 (scaled (quadS wd hg (P 2) bx by')) ((mcuB Q wd hg P bx by' t).1, t.2.2.2)
def mcuN (Q : Nat → Nat) (wd hg : Nat) (P : Nat → Nat → Nat) (bx by' : Nat) (t : St3) : St3 :=
  ((mcuR Q wd hg P bx by' t).1, (lumaN Q wd hg (P 0) bx by' (t.1, t.2.1) 4).2, (mcuB Q wd hg P bx by' t).2, (mcuR Q wd hg P bx by' t).2)
def colCols (Q : Nat → Nat) (wd hg : Nat) (P : Nat → Nat → Nat) (by' : Nat) (t : St3) : Nat → St3
  | 0 => t
  | i + 1 => mcuN Q wd hg P (16 * i) by' (colCols Q wd hg P by' t i)
def colRows (Q : Nat → Nat) (wd hg : Nat) (P : Nat → Nat → Nat) (t : St3) : Nat → St3
  | 0 => t
  | j + 1 => colCols Q wd hg P (16 * j) (colRows Q wd hg P t j) ((wd + 15) / 16)
def colScan (Q : Nat → Nat) (wd hg : Nat) (P : Nat → Nat → Nat) (s : Bw) : Bw := emitN (colRows Q wd hg P (s, 0, 0, 0) ((hg + 15) / 16)).1 127 7
theorem lumaN_len (Q : Nat → Nat) (wd hg : Nat) (P : Nat → Nat) (bx by' : Nat) (st : Bw × Int) : ∀ i, (lumaN Q wd hg P bx by' st i).1.1.length ≤ st.1.1.length + 2400 * i
  | 0 => by simp [lumaN]
  | i + 1 => by
    have h1 := lumaN_len Q wd hg P bx by' st i
    have h2 := stepG_len Q 0 (grayS wd hg P (bx + 8 * (i % 2)) (by' + 8 * (i / 2))) (lumaN Q wd hg P bx by' st i)
    show (stepG Q 0 (grayS wd hg P (bx + 8 * (i % 2)) (by' + 8 * (i / 2))) (lumaN Q wd hg P bx by' st i)).1.1.length ≤ _
    rw [Nat.mul_succ, ← Nat.add_assoc]
    exact Nat.le_trans h2 (Nat.add_le_add_right h1 2400)
theorem mcuN_len (Q : Nat → Nat) (wd hg : Nat) (P : Nat → Nat → Nat) (bx by' : Nat) (t : St3) : (mcuN Q wd hg P bx by' t).1.1.length ≤ t.1.1.length + 14400 := by
  have h1 : (lumaN Q wd hg (P 0) bx by' (t.1, t.2.1) 4).1.1.length ≤ t.1.1.length + 2400 * 4 := lumaN_len Q wd hg (P 0) bx by' (t.1, t.2.1) 4
  have h2 : (mcuB Q wd hg P bx by' t).1.1.length ≤ (lumaN Q wd hg (P 0) bx by' (t.1, t.2.1) 4).1.1.length + 2400 := stepG_len Q 1 (scaled (quadS wd hg (P 1) bx by')) ((lumaN Q wd hg (P 0) bx by' (t.1, t.2.1) 4).1, t.2.2.1)
  have h3 : (mcuR Q wd hg P bx by' t).1.1.length ≤ (mcuB Q wd hg P bx by' t).1.1.length + 2400 := stepG_len Q 1 (scaled (quadS wd hg (P 2) bx by')) ((mcuB Q wd hg P bx by' t).1, t.2.2.2)
  show (mcuR Q wd hg P bx by' t).1.1.length ≤ _
  omega
theorem colCols_len (Q : Nat → Nat) (wd hg : Nat) (P : Nat → Nat → Nat) (by' : Nat) (t : St3) : ∀ i, (colCols Q wd hg P by' t i).1.1.length ≤ t.1.1.length + 14400 * i
  | 0 => by simp [colCols]
  | i + 1 => by
    have h1 := colCols_len Q wd hg P by' t i
    have h2 := mcuN_len Q wd hg P (16 * i) by' (colCols Q wd hg P by' t i)
    show (mcuN Q wd hg P (16 * i) by' (colCols Q wd hg P by' t i)).1.1.length ≤ _
    rw [Nat.mul_succ, ← Nat.add_assoc]
    exact Nat.le_trans h2 (Nat.add_le_add_right h1 14400)
theorem colRows_len (Q : Nat → Nat) (wd hg : Nat) (P : Nat → Nat → Nat) (t : St3) : ∀ j, (colRows Q wd hg P t j).1.1.length ≤ t.1.1.length + 14400 * ((wd + 15) / 16 * j)
  | 0 => by simp [colRows]
  | j + 1 => by
    have h1 := colRows_len Q wd hg P t j
    have h2 := colCols_len Q wd hg P (16 * j) (colRows Q wd hg P t j) ((wd + 15) / 16)
    show (colCols Q wd hg P (16 * j) (colRows Q wd hg P t j) ((wd + 15) / 16)).1.1.length ≤ _
    rw [Nat.mul_succ, Nat.mul_add, ← Nat.add_assoc]
    exact Nat.le_trans h2 (Nat.add_le_add_right h1 _)
theorem mcus_le {wd hg : Nat} (h1 : 1 ≤ wd) (h2 : 1 ≤ hg) (h : wd * hg ≤ 65536) {j i : Nat} (hj : j < (hg + 15) / 16) (hi : i ≤ (wd + 15) / 16) : (wd + 15) / 16 * j + i ≤ 65536 := by
  have h3 : (wd + 15) / 16 ≤ wd := by omega
  have h4 : j + 1 ≤ hg := by omega
  have h5 : (wd + 15) / 16 * (j + 1) ≤ wd * hg := Nat.mul_le_mul h3 h4
  rw [Nat.mul_succ] at h5
  omega
theorem mcus_all {wd hg : Nat} (h1 : 1 ≤ wd) (h2 : 1 ≤ hg) (h : wd * hg ≤ 65536) {j : Nat} (hj : j ≤ (hg + 15) / 16) : (wd + 15) / 16 * j ≤ 65536 := by
  have h3 : (wd + 15) / 16 ≤ wd := by omega
  have h4 : j ≤ hg := by omega
  exact Nat.le_trans (Nat.mul_le_mul h3 h4) h
def dcIn (x : Int) : Prop := -1024 ≤ x ∧ x ≤ 1016
/-- What holds of a state of the scan. -/
def St3Ok (t : St3) : Prop := BwOk t.1 ∧ dcIn t.2.1 ∧ dcIn t.2.2.1 ∧ dcIn t.2.2.2
theorem lumaN_ok {Q : Nat → Nat} (hQ : ∀ j, 1 ≤ Q j) {wd hg : Nat} {P : Nat → Nat} (hP : ∀ k, P k ≤ 255) (bx by' : Nat) {st : Bw × Int} (h : StOk st) : ∀ i, StOk (lumaN Q wd hg P bx by' st i)
  | 0 => h
  | i + 1 => stepG_ok hQ (by omega) (grayS_ok hP _ _) (lumaN_ok hQ hP bx by' h i)
theorem mcuB_ok {Q : Nat → Nat} (hQ : ∀ j, 1 ≤ Q j) {wd hg : Nat} {P : Nat → Nat → Nat} (hP : ∀ c k, P c k ≤ 255) (bx by' : Nat) {t : St3} (h : St3Ok t) : StOk (mcuB Q wd hg P bx by' t) :=
  stepG_ok hQ (by omega) (scaled_in (quadS_in (hP 1) bx by')) ⟨(lumaN_ok hQ (hP 0) bx by' (st := (t.1, t.2.1)) ⟨h.1, h.2.1⟩ 4).1, h.2.2.1⟩
theorem mcuR_ok {Q : Nat → Nat} (hQ : ∀ j, 1 ≤ Q j) {wd hg : Nat} {P : Nat → Nat → Nat} (hP : ∀ c k, P c k ≤ 255) (bx by' : Nat) {t : St3} (h : St3Ok t) : StOk (mcuR Q wd hg P bx by' t) :=
  stepG_ok hQ (by omega) (scaled_in (quadS_in (hP 2) bx by')) ⟨(mcuB_ok hQ hP bx by' h).1, h.2.2.2⟩
theorem mcuN_ok {Q : Nat → Nat} (hQ : ∀ j, 1 ≤ Q j) {wd hg : Nat} {P : Nat → Nat → Nat} (hP : ∀ c k, P c k ≤ 255) (bx by' : Nat) {t : St3} (h : St3Ok t) : St3Ok (mcuN Q wd hg P bx by' t) :=
  ⟨(mcuR_ok hQ hP bx by' h).1, (lumaN_ok hQ (hP 0) bx by' (st := (t.1, t.2.1)) ⟨h.1, h.2.1⟩ 4).2, (mcuB_ok hQ hP bx by' h).2, (mcuR_ok hQ hP bx by' h).2⟩
theorem colCols_ok {Q : Nat → Nat} (hQ : ∀ j, 1 ≤ Q j) {wd hg : Nat} {P : Nat → Nat → Nat} (hP : ∀ c k, P c k ≤ 255) (by' : Nat) {t : St3} (h : St3Ok t) : ∀ i, St3Ok (colCols Q wd hg P by' t i)
  | 0 => h
  | i + 1 => mcuN_ok hQ hP _ _ (colCols_ok hQ hP by' h i)
theorem colRows_ok {Q : Nat → Nat} (hQ : ∀ j, 1 ≤ Q j) {wd hg : Nat} {P : Nat → Nat → Nat} (hP : ∀ c k, P c k ≤ 255) {t : St3} (h : St3Ok t) : ∀ j, St3Ok (colRows Q wd hg P t j)
  | 0 => h
  | j + 1 => colCols_ok hQ hP _ (colRows_ok hQ hP h j) _
end Go.Proofs.YtghjlekdibcjdaaGreatDoor
/- The contract of rgbaToYCbCr. -/
namespace Go.Proofs.YtghjlekdibcjdaaGreatDoor
open Go.Deep Go.RowKit
set_option linter.unusedVariables false
/-- An image of four bytes a pixel: its block, its type, its pixels' block, where its bounds begin, its size, its bytes. -/
structure PixAt (ty bi bp : Nat) (x0 y0 : Int) (wd hg : Nat) (V : Nat → Nat → Nat) (w : World) : Prop where
  img : w.heap[bi]? = some (.cells #[.slice (some ⟨bp, 0, none⟩) (4 * wd * hg) (4 * wd * hg), .int .i64 (4 * (wd : Int)), .int .i64 x0, .int .i64 y0, .int .i64 (x0 + wd), .int .i64 (y0 + hg)] ty (0, 0))
  pix : ∀ k, k < wd * hg → ∀ c, c < 4 → w.cell? ⟨bp, 4 * k + c, none⟩ = some (.int .u8 (V c k : Int))
  small : ∀ c k, V c k ≤ 255
theorem PixAt.kept {ty bi bp : Nat} {x0 y0 : Int} {wd hg : Nat} {V : Nat → Nat → Nat} {S : Nat → Prop} {w w' : World} (h : PixAt ty bi bp x0 y0 wd hg V w) (k : Kept S w w') (h1 : S bi) (h2 : S bp) : PixAt ty bi bp x0 y0 wd hg V w' :=
  ⟨(k.block bi (Array.getElem?_eq_some_iff.1 h.img).1 h1).trans h.img, fun i hi c hc => k.cellOf (h.pix i hi c hc) h2, h.small⟩
/-- The three planes of the colors. -/
def planesOf (V : Nat → Nat → Nat) (c k : Nat) : Nat := if c = 0 then lumaOf (V 0 k) (V 1 k) (V 2 k) else if c = 1 then cbOf (V 0 k) (V 1 k) (V 2 k) else crOf (V 0 k) (V 1 k) (V 2 k)
theorem planesOf_le {V : Nat → Nat → Nat} (h : ∀ c k, V c k ≤ 255) (c k : Nat) : planesOf V c k ≤ 255 := by
  unfold planesOf
  split
  · exact lumaOf_le (h _ _) (h _ _) (h _ _)
  · split
    · exact chr_le _
    · exact chr_le _
/-- A row that is filled from a place on. -/
def upAt (o n : Nat) (S f : Nat → Value) : Nat → Value := fun q => if o ≤ q ∧ q < o + n then S (q - o) else f q
theorem upAt_step (o n : Nat) (S f : Nat → Value) (v : Value) (hv : v = S n) (j : Nat) : (if j = o + n then v else upAt o n S f j) = upAt o (n + 1) S f j := by
  unfold upAt
  by_cases e : j = o + n
  · subst e; rw [if_pos rfl, if_pos (by omega), hv, show o + n - o = n by omega]
  · rw [if_neg e]
    by_cases e2 : o ≤ j ∧ j < o + n
    · rw [if_pos e2, if_pos (by omega)]
    · rw [if_neg e2, if_neg (by omega)]
theorem upAt_zero (o : Nat) (S f : Nat → Value) (j : Nat) : f j = upAt o 0 S f j := by
  unfold upAt; rw [if_neg (by omega)]
/-- A plane's samples as values. -/
def smp (wd hg : Nat) (P : Nat → Nat) (bx by' : Nat) : Nat → Value := ints .i32 (grayS wd hg P bx by')
/-- What holds in the loops: n samples are laid. -/
structure CY (w : World) (b cb cr o B0 RB : Nat) (u v r0 r1 r2 r3 : Value) (S : Nat → Nat → Value) (f fc fr : Nat → Value) (n : Nat) (wr : World) : Prop where
  kept : Kept (fun k => k ≠ b ∧ k ≠ cb ∧ k ≠ cr) w wr
  pt : wr.heap[B0]? = some (.cells #[u, v] 38 (0, 0))
  box : wr.heap[RB]? = some (.cells #[r0, r1, r2, r3] 40 (0, 0))
  row : wr.rowIs b 132 64 (upAt 0 n (S 0) f)
  rowb : wr.rowIs cb 133 256 (upAt o n (S 1) fc)
  rowr : wr.rowIs cr 133 256 (upAt o n (S 2) fr)
theorem two_cells {w : World} {k : Nat} {u a : Value} {t : TypeId} (hk : w.heap[k]? = some (.cells #[u, a] t (0, 0))) : w.cell? ⟨k, 0, none⟩ = some u ∧ w.cell? ⟨k, 1, none⟩ = some a :=
  ⟨by simp [World.cell?, hk], by simp [World.cell?, hk]⟩
theorem CY.step {w : World} {b cb cr o B0 RB : Nat} {u v r0 r1 r2 r3 : Value} {S : Nat → Nat → Value} {f fc fr : Nat → Value} {n : Nat} {wr w2 : World} (h : CY w b cb cr o B0 RB u v r0 r1 r2 r3 S f fc fr n wr) (k : Kept (fun _ => True) wr w2) (hcr : cb ≠ cr) (x y z : Value) (hx : x = S 0 n) (hy : y = S 1 n) (hz : z = S 2 n) :
    CY w b cb cr o B0 RB u v r0 r1 r2 r3 S f fc fr (n + 1) (((w2.setCell ⟨b, n, none⟩ x).setCell ⟨cb, o + n, none⟩ y).setCell ⟨cr, o + n, none⟩ z) := by
  have hbc : b ≠ cb := type_ne (rowIs_heap h.row) (rowIs_heap h.rowb) (by decide)
  have hbr : b ≠ cr := type_ne (rowIs_heap h.row) (rowIs_heap h.rowr) (by decide)
  have hk : Kept (fun k => k ≠ b ∧ k ≠ cb ∧ k ≠ cr) wr (((w2.setCell ⟨b, n, none⟩ x).setCell ⟨cb, o + n, none⟩ y).setCell ⟨cr, o + n, none⟩ z) :=
    (((k.mono fun _ _ _ => trivial).setCell (fun _ h => h.1 rfl) _).setCell (fun _ h => h.2.1 rfl) _).setCell (fun _ h => h.2.2 rfl) _
  refine ⟨h.kept.trans hk, (hk.block B0 (Array.getElem?_eq_some_iff.1 h.pt).1 ⟨?_, ?_, ?_⟩).trans h.pt, (hk.block RB (Array.getElem?_eq_some_iff.1 h.box).1 ⟨?_, ?_, ?_⟩).trans h.box, ?_, ?_, ?_⟩
  · exact type_ne h.pt (rowIs_heap h.row) (by decide)
  · exact type_ne h.pt (rowIs_heap h.rowb) (by decide)
  · exact type_ne h.pt (rowIs_heap h.rowr) (by decide)
  · exact type_ne h.box (rowIs_heap h.row) (by decide)
  · exact type_ne h.box (rowIs_heap h.rowb) (by decide)
  · exact type_ne h.box (rowIs_heap h.rowr) (by decide)
  · refine ((((k.row h.row trivial).set n x).setOther (a := ⟨cb, o + n, none⟩) hbc y).setOther (a := ⟨cr, o + n, none⟩) hbr z).congr fun j _ => ?_
    have := upAt_step 0 n (S 0) f x hx j
    rwa [Nat.zero_add] at this
  · exact ((((k.row h.rowb trivial).setOther (a := ⟨b, n, none⟩) (Ne.symm hbc) x).set (o + n) y).setOther (a := ⟨cr, o + n, none⟩) hcr z).congr fun j _ => upAt_step o n (S 1) fc y hy j
  · exact ((((k.row h.rowr trivial).setOther (a := ⟨b, n, none⟩) (Ne.symm hbr) x).setOther (a := ⟨cb, o + n, none⟩) (Ne.symm hcr) y).set (o + n) z).congr fun j _ => upAt_step o n (S 2) fr z hz j
theorem CY.drewN {w : World} {b cb cr o B0 RB : Nat} {u v r0 r1 r2 r3 : Value} {S : Nat → Nat → Value} {f fc fr : Nat → Value} {n : Nat} {wr : World} (h : CY w b cb cr o B0 RB u v r0 r1 r2 r3 S f fc fr n wr) (m : Nat) : CY w b cb cr o B0 RB u v r0 r1 r2 r3 S f fc fr n (wr.drewN m) :=
  ⟨h.kept.drewN m, h.pt, h.box, h.row, h.rowb, h.rowr⟩
set_option maxHeartbeats 4000000 in
set_option maxRecDepth 100000 in
theorem rgbaBlock_any (bi bp b cb cr o : Nat) (x0 y0 : Int) (wd hg : Nat) (V : Nat → Nat → Nat) (bx by' : Nat) (f fc fr : Nat → Value) (w : World) (hG : PixAt 48 bi bp x0 y0 wd hg V w) (hs : SizeOk x0 y0 wd hg) (hx : bx ≤ 131072) (hy : by' ≤ 131072) (hr : w.rowIs b 132 64 f) (hrb : w.rowIs cb 133 256 fc) (hrr : w.rowIs cr 133 256 fr) (ho : o + 64 ≤ 256) (hcr : cb ≠ cr) (hp : b ≠ bp ∧ cb ≠ bp ∧ cr ≠ bp) :
    Calls Tryz.prog 58 #[.pointer (some ⟨bi, 0, none⟩), .agg #[.int .i64 (x0 + bx), .int .i64 (y0 + by')], .pointer (some ⟨b, 0, none⟩), .pointer (some ⟨cb, o, none⟩), .pointer (some ⟨cr, o, none⟩)] w fun e w' => e = .returned (.tuple #[]) ∧ w'.rowIs b 132 64 (smp wd hg (planesOf V 0) bx by') ∧ w'.rowIs cb 133 256 (upAt o 64 (smp wd hg (planesOf V 1) bx by') fc) ∧ w'.rowIs cr 133 256 (upAt o 64 (smp wd hg (planesOf V 2) bx by') fr) ∧ Kept (fun k => k ≠ b ∧ k ≠ cb ∧ k ≠ cr) w w' := by
  obtain ⟨s1, s2, s3, s4, s5, ⟨s6, s7⟩, ⟨s8, s9⟩⟩ := hs
  have CB := Lib.hid (boundsRgba bi _ _ x0 y0 (x0 + wd) (y0 + hg) (w.alloc (.cells #[.int .i64 (x0 + bx), .int .i64 (y0 + by')] 38)) (((Kept.refl (fun _ => True) w).alloc _ |>.block bi (Array.getElem?_eq_some_iff.1 hG.img).1 trivial).trans hG.img))
  unfold rectV at CB
  have HG := Lib.hid (And.intro hG (And.intro hr (And.intro hrb hrr)))
  have HP := Lib.hid hp
  clear hG hr hrb hrr hp
  go_enter Tryz.func58, Tryz.ntmps58
  go_wp2_with (go_at_call 75; (with_reducible refine CB.out.mono ?_); rintro e w1 ⟨rfl, k1⟩; have K1 := Lib.hid k1; obtain ⟨RB, hRB⟩ : ∃ RB, w1.heap.size = RB := ⟨_, rfl⟩; have hbx : (w1.alloc (.cells #[.int .i64 x0, .int .i64 y0, .int .i64 (x0 + wd), .int .i64 (y0 + hg)] 40)).heap[RB]? = some (.cells #[.int .i64 x0, .int .i64 y0, .int .i64 (x0 + wd), .int .i64 (y0 + hg)] 40 (0, 0)) := (by rw [← hRB]; exact heap_alloc_new _ _); obtain ⟨r0, r1, r2, r3, r4⟩ := buf_cells hbx; have HBX := Lib.hid (And.intro hRB hbx); clear k1 hbx)
  clear r0 r1 r2 r3 r4 CB
  have hCY0 : CY w b cb cr o w.heap.size RB (.int .i64 (x0 + bx)) (.int .i64 (y0 + by')) (.int .i64 x0) (.int .i64 y0) (.int .i64 (x0 + wd)) (.int .i64 (y0 + hg)) (fun c => smp wd hg (planesOf V c) bx by') f fc fr 0 (w1.alloc (.cells #[.int .i64 x0, .int .i64 y0, .int .i64 (x0 + wd), .int .i64 (y0 + hg)] 40)) := by
    have hk0 : Kept (fun _ => True) w w1 := ((Kept.refl _ w).alloc _).trans K1.out
    have hk := hk0.alloc (.cells #[.int .i64 x0, .int .i64 y0, .int .i64 (x0 + wd), .int .i64 (y0 + hg)] 40)
    have hka : Kept (fun _ => True) w1 (w1.alloc (.cells #[.int .i64 x0, .int .i64 y0, .int .i64 (x0 + wd), .int .i64 (y0 + hg)] 40)) := (Kept.refl _ _).alloc _
    have hp1 := (K1.out.block w.heap.size (by simp) trivial).trans (heap_alloc_new w (.cells #[.int .i64 (x0 + bx), .int .i64 (y0 + by')] 38))
    exact ⟨hk.mono fun _ _ _ => trivial, (hka.block _ (Array.getElem?_eq_some_iff.1 hp1).1 trivial).trans hp1, HBX.out.2, (hk.row HG.out.2.1 trivial).congr fun j _ => upAt_zero _ _ _ j, (hk.row HG.out.2.2.1 trivial).congr fun j _ => upAt_zero _ _ _ j, (hk.row HG.out.2.2.2 trivial).congr fun j _ => upAt_zero _ _ _ j⟩
  obtain ⟨n, hn⟩ : ∃ n, wd * hg = n := ⟨_, rfl⟩
  have hn4 : 4 * wd * hg = 4 * n := by rw [Nat.mul_assoc, hn]
  rw [hn] at s5
  have HN := Lib.hid (And.intro hn hn4)
  clear hn hn4
  go_loopg [13] 8 (fun k s13 wr => ∃ j : Nat, j ≤ 8 ∧ k = 8 - j ∧ s13 = .int .i64 (j : Int) ∧ CY w b cb cr o w.heap.size RB (.int .i64 (x0 + bx)) (.int .i64 (y0 + by')) (.int .i64 x0) (.int .i64 y0) (.int .i64 (x0 + wd)) (.int .i64 (y0 + hg)) (fun c => smp wd hg (planesOf V c) bx by') f fc fr (8 * j) wr)
  case atStart => exact ⟨0, by omega, rfl, rfl, hCY0⟩
  case round =>
    clear hCY0 K1 HBX
    obtain ⟨j, hj, rfl, rfl, hS⟩ := hrel
    by_cases hlt : j < 8
    · have hjd : decide ((j : Int) < 8) = true := by simp; omega
      have hG := HG.out.1.kept hS.kept ⟨type_ne HG.out.1.img (rowIs_heap HG.out.2.1) (by decide), type_ne HG.out.1.img (rowIs_heap HG.out.2.2.1) (by decide), type_ne HG.out.1.img (rowIs_heap HG.out.2.2.2) (by decide)⟩ ⟨Ne.symm HP.out.1, Ne.symm HP.out.2.1, Ne.symm HP.out.2.2⟩
      obtain ⟨a0, a1⟩ := two_cells hS.pt
      obtain ⟨r0, r1, r2, r3, r4⟩ := buf_cells hS.box
      have i0 : wr.cell? ⟨bi, 0, none⟩ = some (.slice (some ⟨bp, 0, none⟩) (4 * n) (4 * n)) := by unfold World.cell?; simp only [hG.img, HN.out.2]; rfl
      have i1 : wr.cell? ⟨bi, 1, none⟩ = some (.int .i64 (4 * (wd : Int))) := by unfold World.cell?; simp only [hG.img]; rfl
      obtain ⟨c, hcc⟩ : ∃ c, min (by' + j) (hg - 1) = c := ⟨_, rfl⟩
      obtain ⟨m, hm⟩ : ∃ m, c * wd = m := ⟨_, rfl⟩
      have hmul : (c : Int) * (4 * (wd : Int)) = 4 * (m : Int) := by rw [← hm]; simp [Int.mul_left_comm]
      have hmn : m + wd ≤ n := by
        rw [← HN.out.1, ← hm, ← Nat.succ_mul, Nat.mul_comm wd hg]
        exact Nat.mul_le_mul_right _ (by omega)
      have HS := Lib.hid (And.intro hS (And.intro hG (And.intro hm hcc)))
      have hys : (by' + j ≤ hg - 1 ∧ c = by' + j) ∨ (hg ≤ by' + j ∧ c = hg - 1) := by omega
      clear hS hG hm hcc
      rcases hys with ⟨u3, u4⟩ | ⟨u3, u4⟩
      · have ew1 : (y0 + (by' : Int) + (j : Int) - y0) * (4 * (wd : Int)) = 4 * (m : Int) := by rw [← hmul, show y0 + (by' : Int) + (j : Int) - y0 = (c : Int) by omega]
        have ew2 : wrap64 (4 * (m : Int)) = 4 * (m : Int) := IntWalk.wrap64_in _ ⟨by omega, by omega⟩
        have ew4 : wrap64 (4 * (m : Int) - x0 * 4) = 4 * (m : Int) - x0 * 4 := IntWalk.wrap64_in _ ⟨by omega, by omega⟩
        clear hmul
        go_wp2_with fail
        go_quiet (fail)
        go_wp2_with fail
        clear ew1 ew2 ew4 r0 r1 r2 r3 r4 i1 a1 hjd i0 a0
        have hS0 : CY w b cb cr o w.heap.size RB (.int .i64 (x0 + bx)) (.int .i64 (y0 + by')) (.int .i64 x0) (.int .i64 y0) (.int .i64 (x0 + wd)) (.int .i64 (y0 + hg)) (fun c => smp wd hg (planesOf V c) bx by') f fc fr (8 * j + 0) (wr.drewN nq) := HS.out.1.drewN _
        go_loopg [16] 8 (fun k s16 wr => ∃ i : Nat, i ≤ 8 ∧ k = 8 - i ∧ s16 = .int .i64 (i : Int) ∧ CY w b cb cr o w.heap.size RB (.int .i64 (x0 + bx)) (.int .i64 (y0 + by')) (.int .i64 x0) (.int .i64 y0) (.int .i64 (x0 + wd)) (.int .i64 (y0 + hg)) (fun c => smp wd hg (planesOf V c) bx by') f fc fr (8 * j + i) wr)
        case atStart => exact ⟨0, by omega, rfl, rfl, hS0⟩
        case round =>
          obtain ⟨hm, hcc⟩ := HS.out.2.2
          have HMC := Lib.hid (And.intro hm hcc)
          clear hS0 HS hm hcc
          obtain ⟨i, hi, rfl, rfl, hS⟩ := hrel
          by_cases hlt2 : i < 8
          · have hid : decide ((i : Int) < 8) = true := by simp; omega
            have hG := HG.out.1.kept hS.kept ⟨type_ne HG.out.1.img (rowIs_heap HG.out.2.1) (by decide), type_ne HG.out.1.img (rowIs_heap HG.out.2.2.1) (by decide), type_ne HG.out.1.img (rowIs_heap HG.out.2.2.2) (by decide)⟩ ⟨Ne.symm HP.out.1, Ne.symm HP.out.2.1, Ne.symm HP.out.2.2⟩
            obtain ⟨a0, a1⟩ := two_cells hS.pt
            have i0 : wr.cell? ⟨bi, 0, none⟩ = some (.slice (some ⟨bp, 0, none⟩) (4 * n) (4 * n)) := by unfold World.cell?; simp only [hG.img, HN.out.2]; rfl
            have hca : clampAt wd hg bx by' (8 * j + i) = min (by' + j) (hg - 1) * wd + min (bx + i) (wd - 1) := by
              unfold clampAt
              rw [show (8 * j + i) / 8 = j by omega, show (8 * j + i) % 8 = i by omega]
            obtain ⟨a, ha⟩ : ∃ a, min (bx + i) (wd - 1) = a := ⟨_, rfl⟩
            rw [HMC.out.2, HMC.out.1, ha] at hca
            obtain ⟨q, hq⟩ : ∃ q, m + a = q := ⟨_, rfl⟩
            rw [hq] at hca
            have hqn : q < n := by omega
            have p0 := hG.pix q (by rw [HN.out.1]; exact hqn) 0 (by omega)
            have p1 := hG.pix q (by rw [HN.out.1]; exact hqn) 1 (by omega)
            have p2 := hG.pix q (by rw [HN.out.1]; exact hqn) 2 (by omega)
            rw [Nat.add_zero] at p0
            have CR := Lib.hid fun W => rgb_any (V 0 q) (V 1 q) (V 2 q) (hG.small 0 q) (hG.small 1 q) (hG.small 2 q) W
            have v0 : (lumaOf (V 0 q) (V 1 q) (V 2 q) : Int) ≤ 255 := by have := lumaOf_le (hG.small 0 q) (hG.small 1 q) (hG.small 2 q); omega
            have v1 : (cbOf (V 0 q) (V 1 q) (V 2 q) : Int) ≤ 255 := by have : cbOf (V 0 q) (V 1 q) (V 2 q) ≤ 255 := chr_le _; omega
            have v2 : (crOf (V 0 q) (V 1 q) (V 2 q) : Int) ≤ 255 := by have : crOf (V 0 q) (V 1 q) (V 2 q) ≤ 255 := chr_le _; omega
            have e0 : planesOf V 0 q = lumaOf (V 0 q) (V 1 q) (V 2 q) := rfl
            have e1 : planesOf V 1 q = cbOf (V 0 q) (V 1 q) (V 2 q) := rfl
            have e2 : planesOf V 2 q = crOf (V 0 q) (V 1 q) (V 2 q) := rfl
            have HV := Lib.hid (And.intro hS (And.intro hca (And.intro e0 (And.intro e1 e2))))
            obtain ⟨g0, hg0⟩ : ∃ g, V 0 q = g := ⟨_, rfl⟩
            obtain ⟨g1, hg1⟩ : ∃ g, V 1 q = g := ⟨_, rfl⟩
            obtain ⟨g2, hg2⟩ : ∃ g, V 2 q = g := ⟨_, rfl⟩
            rw [hg0, hg1, hg2] at CR v0 v1 v2 HV
            rw [hg0] at p0
            rw [hg1] at p1
            rw [hg2] at p2
            obtain ⟨yy, hyy⟩ : ∃ g, lumaOf g0 g1 g2 = g := ⟨_, rfl⟩
            obtain ⟨yb, hyb⟩ : ∃ g, cbOf g0 g1 g2 = g := ⟨_, rfl⟩
            obtain ⟨yr, hyr⟩ : ∃ g, crOf g0 g1 g2 = g := ⟨_, rfl⟩
            rw [hyy] at CR v0 HV
            rw [hyb] at CR v1 HV
            rw [hyr] at CR v2 HV
            have t0 : wr.cell? ⟨b, 8 * j + i, none⟩ = some (upAt 0 (8 * j + i) (smp wd hg (planesOf V 0) bx by') f (8 * j + i)) := hS.row.cell (by omega)
            have t1 : wr.cell? ⟨cb, o + (8 * j + i), none⟩ = some (upAt o (8 * j + i) (smp wd hg (planesOf V 1) bx by') fc (o + (8 * j + i))) := hS.rowb.cell (by omega)
            have t2 : wr.cell? ⟨cr, o + (8 * j + i), none⟩ = some (upAt o (8 * j + i) (smp wd hg (planesOf V 2) bx by') fr (o + (8 * j + i))) := hS.rowr.cell (by omega)
            have z0 : wr.frozen? ⟨b, 8 * j + i, none⟩ = false := hS.row.frozen _
            have z1 : wr.frozen? ⟨cb, o + (8 * j + i), none⟩ = false := hS.rowb.frozen _
            have z2 : wr.frozen? ⟨cr, o + (8 * j + i), none⟩ = false := hS.rowr.frozen _
            generalize upAt 0 (8 * j + i) (smp wd hg (planesOf V 0) bx by') f (8 * j + i) = old0 at t0
            generalize upAt o (8 * j + i) (smp wd hg (planesOf V 1) bx by') fc (o + (8 * j + i)) = old1 at t1
            generalize upAt o (8 * j + i) (smp wd hg (planesOf V 2) bx by') fr (o + (8 * j + i)) = old2 at t2
            have hbc : b ≠ cb := type_ne (rowIs_heap hS.row) (rowIs_heap hS.rowb) (by decide)
            have hbr : b ≠ cr := type_ne (rowIs_heap hS.row) (rowIs_heap hS.rowr) (by decide)
            have q2 : (0 : Int) ≤ 8 * (j : Int) + (i : Int) := by omega
            have q3 : 8 * (j : Int) + (i : Int) < 64 := by omega
            have q4 : (8 * (j : Int) + (i : Int)).toNat = 8 * j + i := by omega
            have hxs : (bx + i ≤ wd - 1 ∧ a = bx + i) ∨ (wd ≤ bx + i ∧ a = wd - 1) := by omega
            have qq0 : (0 : Int) ≤ ((4 * q : Nat) : Int) := by omega
            obtain ⟨ln, hln⟩ : ∃ ln, 4 * n - 4 * q = ln := ⟨_, rfl⟩
            have l0 : (0 : Int) < (ln : Int) := by omega
            have l0n : 0 < ln := by omega
            have l1 : (1 : Int) < (ln : Int) := by omega
            have l2 : (2 : Int) < (ln : Int) := by omega
            have qn4 : ((4 * q : Nat) : Int) ≤ ((4 * n : Nat) : Int) := by omega
            clear hS hG hca ha hg0 hg1 hg2 hyy hyb hyr e0 e1 e2
            rcases hxs with ⟨u1, u2⟩ | ⟨u1, u2⟩
            · have eo : 4 * (m : Int) - x0 * 4 + (x0 + (bx : Int) + (i : Int)) * 4 = ((4 * q : Nat) : Int) := by omega
              go_wp2_with fail
              go_quiet ((go_at_call 22; exact Calls.quiet_of_same (CR.out _)))
              go_wp2_with fail
              go_roundg (8 - (i + 1))
              case measure => go_light; omega
              case rel =>
                go_light
                obtain ⟨h1, h2, h3, h4, h5⟩ := HV.out
                refine ⟨i + 1, by omega, rfl, by go_num, ?_⟩
                exact h1.step ((Kept.refl _ wr).drewN _) hcr _ _ _ (by show _ = Value.int .i32 ((planesOf V 0 (clampAt wd hg bx by' (8 * j + i)) : Nat) : Int); rw [h2, h3]) (by show _ = Value.int .i32 ((planesOf V 1 (clampAt wd hg bx by' (8 * j + i)) : Nat) : Int); rw [h2, h4]) (by show _ = Value.int .i32 ((planesOf V 2 (clampAt wd hg bx by' (8 * j + i)) : Nat) : Int); rw [h2, h5])
            · have eo : 4 * (m : Int) - x0 * 4 + (x0 + (wd : Int) - 1) * 4 = ((4 * q : Nat) : Int) := by omega
              go_wp2_with fail
              go_quiet ((go_at_call 22; exact Calls.quiet_of_same (CR.out _)))
              go_wp2_with fail
              go_roundg (8 - (i + 1))
              case measure => go_light; omega
              case rel =>
                go_light
                obtain ⟨h1, h2, h3, h4, h5⟩ := HV.out
                refine ⟨i + 1, by omega, rfl, by go_num, ?_⟩
                exact h1.step ((Kept.refl _ wr).drewN _) hcr _ _ _ (by show _ = Value.int .i32 ((planesOf V 0 (clampAt wd hg bx by' (8 * j + i)) : Nat) : Int); rw [h2, h3]) (by show _ = Value.int .i32 ((planesOf V 1 (clampAt wd hg bx by' (8 * j + i)) : Nat) : Int); rw [h2, h4]) (by show _ = Value.int .i32 ((planesOf V 2 (clampAt wd hg bx by' (8 * j + i)) : Nat) : Int); rw [h2, h5])
          · obtain rfl : i = 8 := by omega
            have HSS := Lib.hid hS
            clear hS
            go_wp2_with fail
            go_roundg (8 - (j + 1))
            case measure => go_light; omega
            case rel =>
              go_light
              exact ⟨j + 1, by omega, rfl, by go_num, HSS.out⟩
      · have ew1 : (y0 + (hg : Int) - 1 - y0) * (4 * (wd : Int)) = 4 * (m : Int) := by rw [← hmul, show y0 + (hg : Int) - 1 - y0 = (c : Int) by omega]
        have ew2 : wrap64 (4 * (m : Int)) = 4 * (m : Int) := IntWalk.wrap64_in _ ⟨by omega, by omega⟩
        have ew4 : wrap64 (4 * (m : Int) - x0 * 4) = 4 * (m : Int) - x0 * 4 := IntWalk.wrap64_in _ ⟨by omega, by omega⟩
        clear hmul
        go_wp2_with fail
        go_quiet (fail)
        go_wp2_with fail
        clear ew1 ew2 ew4 r0 r1 r2 r3 r4 i1 a1 hjd i0 a0
        have hS0 : CY w b cb cr o w.heap.size RB (.int .i64 (x0 + bx)) (.int .i64 (y0 + by')) (.int .i64 x0) (.int .i64 y0) (.int .i64 (x0 + wd)) (.int .i64 (y0 + hg)) (fun c => smp wd hg (planesOf V c) bx by') f fc fr (8 * j + 0) (wr.drewN nq) := HS.out.1.drewN _
        go_loopg [16] 8 (fun k s16 wr => ∃ i : Nat, i ≤ 8 ∧ k = 8 - i ∧ s16 = .int .i64 (i : Int) ∧ CY w b cb cr o w.heap.size RB (.int .i64 (x0 + bx)) (.int .i64 (y0 + by')) (.int .i64 x0) (.int .i64 y0) (.int .i64 (x0 + wd)) (.int .i64 (y0 + hg)) (fun c => smp wd hg (planesOf V c) bx by') f fc fr (8 * j + i) wr)
        case atStart => exact ⟨0, by omega, rfl, rfl, hS0⟩
        case round =>
          obtain ⟨hm, hcc⟩ := HS.out.2.2
          have HMC := Lib.hid (And.intro hm hcc)
          clear hS0 HS hm hcc
          obtain ⟨i, hi, rfl, rfl, hS⟩ := hrel
          by_cases hlt2 : i < 8
          · have hid : decide ((i : Int) < 8) = true := by simp; omega
            have hG := HG.out.1.kept hS.kept ⟨type_ne HG.out.1.img (rowIs_heap HG.out.2.1) (by decide), type_ne HG.out.1.img (rowIs_heap HG.out.2.2.1) (by decide), type_ne HG.out.1.img (rowIs_heap HG.out.2.2.2) (by decide)⟩ ⟨Ne.symm HP.out.1, Ne.symm HP.out.2.1, Ne.symm HP.out.2.2⟩
            obtain ⟨a0, a1⟩ := two_cells hS.pt
            have i0 : wr.cell? ⟨bi, 0, none⟩ = some (.slice (some ⟨bp, 0, none⟩) (4 * n) (4 * n)) := by unfold World.cell?; simp only [hG.img, HN.out.2]; rfl
            have hca : clampAt wd hg bx by' (8 * j + i) = min (by' + j) (hg - 1) * wd + min (bx + i) (wd - 1) := by
              unfold clampAt
              rw [show (8 * j + i) / 8 = j by omega, show (8 * j + i) % 8 = i by omega]
            obtain ⟨a, ha⟩ : ∃ a, min (bx + i) (wd - 1) = a := ⟨_, rfl⟩
            rw [HMC.out.2, HMC.out.1, ha] at hca
            obtain ⟨q, hq⟩ : ∃ q, m + a = q := ⟨_, rfl⟩
            rw [hq] at hca
            have hqn : q < n := by omega
            have p0 := hG.pix q (by rw [HN.out.1]; exact hqn) 0 (by omega)
            have p1 := hG.pix q (by rw [HN.out.1]; exact hqn) 1 (by omega)
            have p2 := hG.pix q (by rw [HN.out.1]; exact hqn) 2 (by omega)
            rw [Nat.add_zero] at p0
            have CR := Lib.hid fun W => rgb_any (V 0 q) (V 1 q) (V 2 q) (hG.small 0 q) (hG.small 1 q) (hG.small 2 q) W
            have v0 : (lumaOf (V 0 q) (V 1 q) (V 2 q) : Int) ≤ 255 := by have := lumaOf_le (hG.small 0 q) (hG.small 1 q) (hG.small 2 q); omega
            have v1 : (cbOf (V 0 q) (V 1 q) (V 2 q) : Int) ≤ 255 := by have : cbOf (V 0 q) (V 1 q) (V 2 q) ≤ 255 := chr_le _; omega
            have v2 : (crOf (V 0 q) (V 1 q) (V 2 q) : Int) ≤ 255 := by have : crOf (V 0 q) (V 1 q) (V 2 q) ≤ 255 := chr_le _; omega
            have e0 : planesOf V 0 q = lumaOf (V 0 q) (V 1 q) (V 2 q) := rfl
            have e1 : planesOf V 1 q = cbOf (V 0 q) (V 1 q) (V 2 q) := rfl
            have e2 : planesOf V 2 q = crOf (V 0 q) (V 1 q) (V 2 q) := rfl
            have HV := Lib.hid (And.intro hS (And.intro hca (And.intro e0 (And.intro e1 e2))))
            obtain ⟨g0, hg0⟩ : ∃ g, V 0 q = g := ⟨_, rfl⟩
            obtain ⟨g1, hg1⟩ : ∃ g, V 1 q = g := ⟨_, rfl⟩
            obtain ⟨g2, hg2⟩ : ∃ g, V 2 q = g := ⟨_, rfl⟩
            rw [hg0, hg1, hg2] at CR v0 v1 v2 HV
            rw [hg0] at p0
            rw [hg1] at p1
            rw [hg2] at p2
            obtain ⟨yy, hyy⟩ : ∃ g, lumaOf g0 g1 g2 = g := ⟨_, rfl⟩
            obtain ⟨yb, hyb⟩ : ∃ g, cbOf g0 g1 g2 = g := ⟨_, rfl⟩
            obtain ⟨yr, hyr⟩ : ∃ g, crOf g0 g1 g2 = g := ⟨_, rfl⟩
            rw [hyy] at CR v0 HV
            rw [hyb] at CR v1 HV
            rw [hyr] at CR v2 HV
            have t0 : wr.cell? ⟨b, 8 * j + i, none⟩ = some (upAt 0 (8 * j + i) (smp wd hg (planesOf V 0) bx by') f (8 * j + i)) := hS.row.cell (by omega)
            have t1 : wr.cell? ⟨cb, o + (8 * j + i), none⟩ = some (upAt o (8 * j + i) (smp wd hg (planesOf V 1) bx by') fc (o + (8 * j + i))) := hS.rowb.cell (by omega)
            have t2 : wr.cell? ⟨cr, o + (8 * j + i), none⟩ = some (upAt o (8 * j + i) (smp wd hg (planesOf V 2) bx by') fr (o + (8 * j + i))) := hS.rowr.cell (by omega)
            have z0 : wr.frozen? ⟨b, 8 * j + i, none⟩ = false := hS.row.frozen _
            have z1 : wr.frozen? ⟨cb, o + (8 * j + i), none⟩ = false := hS.rowb.frozen _
            have z2 : wr.frozen? ⟨cr, o + (8 * j + i), none⟩ = false := hS.rowr.frozen _
            generalize upAt 0 (8 * j + i) (smp wd hg (planesOf V 0) bx by') f (8 * j + i) = old0 at t0
            generalize upAt o (8 * j + i) (smp wd hg (planesOf V 1) bx by') fc (o + (8 * j + i)) = old1 at t1
            generalize upAt o (8 * j + i) (smp wd hg (planesOf V 2) bx by') fr (o + (8 * j + i)) = old2 at t2
            have hbc : b ≠ cb := type_ne (rowIs_heap hS.row) (rowIs_heap hS.rowb) (by decide)
            have hbr : b ≠ cr := type_ne (rowIs_heap hS.row) (rowIs_heap hS.rowr) (by decide)
            have q2 : (0 : Int) ≤ 8 * (j : Int) + (i : Int) := by omega
            have q3 : 8 * (j : Int) + (i : Int) < 64 := by omega
            have q4 : (8 * (j : Int) + (i : Int)).toNat = 8 * j + i := by omega
            have hxs : (bx + i ≤ wd - 1 ∧ a = bx + i) ∨ (wd ≤ bx + i ∧ a = wd - 1) := by omega
            have qq0 : (0 : Int) ≤ ((4 * q : Nat) : Int) := by omega
            obtain ⟨ln, hln⟩ : ∃ ln, 4 * n - 4 * q = ln := ⟨_, rfl⟩
            have l0 : (0 : Int) < (ln : Int) := by omega
            have l0n : 0 < ln := by omega
            have l1 : (1 : Int) < (ln : Int) := by omega
            have l2 : (2 : Int) < (ln : Int) := by omega
            have qn4 : ((4 * q : Nat) : Int) ≤ ((4 * n : Nat) : Int) := by omega
            clear hS hG hca ha hg0 hg1 hg2 hyy hyb hyr e0 e1 e2
            rcases hxs with ⟨u1, u2⟩ | ⟨u1, u2⟩
            · have eo : 4 * (m : Int) - x0 * 4 + (x0 + (bx : Int) + (i : Int)) * 4 = ((4 * q : Nat) : Int) := by omega
              go_wp2_with fail
              go_quiet ((go_at_call 22; exact Calls.quiet_of_same (CR.out _)))
              go_wp2_with fail
              go_roundg (8 - (i + 1))
              case measure => go_light; omega
              case rel =>
                go_light
                obtain ⟨h1, h2, h3, h4, h5⟩ := HV.out
                refine ⟨i + 1, by omega, rfl, by go_num, ?_⟩
                exact h1.step ((Kept.refl _ wr).drewN _) hcr _ _ _ (by show _ = Value.int .i32 ((planesOf V 0 (clampAt wd hg bx by' (8 * j + i)) : Nat) : Int); rw [h2, h3]) (by show _ = Value.int .i32 ((planesOf V 1 (clampAt wd hg bx by' (8 * j + i)) : Nat) : Int); rw [h2, h4]) (by show _ = Value.int .i32 ((planesOf V 2 (clampAt wd hg bx by' (8 * j + i)) : Nat) : Int); rw [h2, h5])
            · have eo : 4 * (m : Int) - x0 * 4 + (x0 + (wd : Int) - 1) * 4 = ((4 * q : Nat) : Int) := by omega
              go_wp2_with fail
              go_quiet ((go_at_call 22; exact Calls.quiet_of_same (CR.out _)))
              go_wp2_with fail
              go_roundg (8 - (i + 1))
              case measure => go_light; omega
              case rel =>
                go_light
                obtain ⟨h1, h2, h3, h4, h5⟩ := HV.out
                refine ⟨i + 1, by omega, rfl, by go_num, ?_⟩
                exact h1.step ((Kept.refl _ wr).drewN _) hcr _ _ _ (by show _ = Value.int .i32 ((planesOf V 0 (clampAt wd hg bx by' (8 * j + i)) : Nat) : Int); rw [h2, h3]) (by show _ = Value.int .i32 ((planesOf V 1 (clampAt wd hg bx by' (8 * j + i)) : Nat) : Int); rw [h2, h4]) (by show _ = Value.int .i32 ((planesOf V 2 (clampAt wd hg bx by' (8 * j + i)) : Nat) : Int); rw [h2, h5])
          · obtain rfl : i = 8 := by omega
            have HSS := Lib.hid hS
            clear hS
            go_wp2_with fail
            go_roundg (8 - (j + 1))
            case measure => go_light; omega
            case rel =>
              go_light
              exact ⟨j + 1, by omega, rfl, by go_num, HSS.out⟩
    · obtain rfl : j = 8 := by omega
      have HS := Lib.hid hS
      clear hS
      go_wp2_with fail
      go_end0
      refine ⟨rfl, HS.out.row.congr fun j hj => ?_, HS.out.rowb, HS.out.rowr, HS.out.kept⟩
      unfold upAt; rw [if_pos (by omega), Nat.sub_zero]
end Go.Proofs.YtghjlekdibcjdaaGreatDoor
/- What holds on the walk of writeSOS over an image of three planes. -/
namespace Go.Proofs.YtghjlekdibcjdaaGreatDoor
open Go.Deep Go.RowKit
set_option linter.unusedVariables false
/-- The scan's header of an image of three components. -/
def sosC : List Nat := [255, 218, 0, 12, 3, 1, 0, 2, 17, 3, 17, 0, 63, 0]
theorem sosC_any (w : World) : Calls Tryz.prog 54 #[] w fun e w' => e = .returned (.slice (some ⟨w.heap.size, 0, none⟩) 14 14) ∧ w'.rowIs w.heap.size 5 14 (ints .u8 fun j => ((sosC.getD j 0 : Nat) : Int)) ∧ Kept (fun _ => True) w w' := by
  go_enter Tryz.func54, Tryz.ntmps54
  go_wp2
  go_ret
  exact ⟨rfl, rowIs_agg w 5 14 (ints .u8 fun j => ((sosC.getD j 0 : Nat) : Int)), (Kept.refl _ _).alloc _⟩
/-- A block's samples, laid by a call that looks at an image. -/
def BlockC (fn : Nat) (m : Value) (x0 y0 : Int) (wd hg : Nat) (P : Nat → Nat → Nat) (I : World → Prop) (B : Nat) : Prop :=
  ∀ (b cb cr o bx by' : Nat) (f fc fr : Nat → Value) (w : World), I w → bx ≤ 131072 → by' ≤ 131072 → B ≤ b → B ≤ cb → B ≤ cr → w.rowIs b 132 64 f → w.rowIs cb 133 256 fc → w.rowIs cr 133 256 fr → o + 64 ≤ 256 → cb ≠ cr →
    Calls Tryz.prog fn #[m, .agg #[.int .i64 (x0 + bx), .int .i64 (y0 + by')], .pointer (some ⟨b, 0, none⟩), .pointer (some ⟨cb, o, none⟩), .pointer (some ⟨cr, o, none⟩)] w fun e w' => e = .returned (.tuple #[]) ∧ w'.rowIs b 132 64 (smp wd hg (P 0) bx by') ∧ w'.rowIs cb 133 256 (upAt o 64 (smp wd hg (P 1) bx by') fc) ∧ w'.rowIs cr 133 256 (upAt o 64 (smp wd hg (P 2) bx by') fr) ∧ Kept (fun k => k ≠ b ∧ k ≠ cb ∧ k ≠ cr) w w'
/-- An image's bounds, read by a call. -/
def BoundsC (fn : Nat) (m : Value) (x0 y0 : Int) (wd hg : Nat) (I : World → Prop) : Prop :=
  ∀ w, I w → Calls Tryz.prog fn #[m] w fun e w' => e = .returned (rectV x0 y0 (x0 + wd) (y0 + hg)) ∧ Kept (fun _ => True) w w'
/-- What is known of the image lies below a block. -/
def LowC (I : World → Prop) (B : Nat) : Prop := ∀ w w', I w → Kept (fun k => k < B) w w' → I w'
/-- Four blocks of a plane, the first i of them laid. -/
def quadV (wd hg : Nat) (P : Nat → Nat) (bx by' : Nat) : Nat → Value := ints .i32 (quadS wd hg P bx by')
theorem quad_step (wd hg : Nat) (P : Nat → Nat) (bx by' i : Nat) (g : Nat → Value) (j : Nat) :
    upAt (i * 64) 64 (smp wd hg P (bx + 8 * (i % 2)) (by' + 8 * (i / 2))) (upAt 0 (i * 64) (quadV wd hg P bx by') g) j = upAt 0 ((i + 1) * 64) (quadV wd hg P bx by') g j := by
  unfold upAt
  by_cases h1 : i * 64 ≤ j ∧ j < i * 64 + 64
  · rw [if_pos h1, if_pos (by omega)]
    have h := quadS_at wd hg P bx by' i (j - i * 64) (by omega)
    rw [show 64 * i + (j - i * 64) = j by omega] at h
    unfold smp quadV ints
    rw [Nat.sub_zero, h]
  · rw [if_neg h1]
    by_cases h2 : 0 ≤ j ∧ j < 0 + i * 64
    · rw [if_pos h2, if_pos (by omega)]
    · rw [if_neg h2, if_neg (by omega)]
theorem quad_full (wd hg : Nat) (P : Nat → Nat) (bx by' : Nat) (g : Nat → Value) (j : Nat) (hj : j < 256) : upAt 0 (4 * 64) (quadV wd hg P bx by') g j = ints .i32 (quadS wd hg P bx by') j := by
  unfold upAt quadV
  rw [if_pos (by omega), Nat.sub_zero]
/-- What holds in the loops of the scan: b is the block of samples, cb and cr the blocks of the two chroma, rb the bounds' block. -/
structure GC (z : Ids) (eb : Nat) (Q L : Nat → Nat) (f : Nat → Value) (b cb cr rb : Nat) (x0 y0 x1 y1 : Int) (w0 : World) (s : Bw) (wr : World) : Prop where
  enc : EncS z eb f s wr
  env : Env z eb Q L f wr
  row : ∃ g, wr.rowIs b 132 64 (ints .i32 g)
  rowb : ∃ g, wr.rowIs cb 133 256 g
  rowr : ∃ g, wr.rowIs cr 133 256 g
  box : wr.heap[rb]? = some (.cells #[.int .i64 x0, .int .i64 y0, .int .i64 x1, .int .i64 y1] 40 (0, 0))
  fr : Fr z.B (fun k => z.all eb k ∨ k = b ∨ k = cb ∨ k = cr) w0 wr
namespace GC
variable {z : Ids} {eb : Nat} {Q L : Nat → Nat} {f : Nat → Value} {b cb cr rb : Nat} {x0 y0 x1 y1 : Int} {w0 wr w2 : World} {s s2 : Bw}
/-- Calls that make memory alone. -/
theorem calm (h : GC z eb Q L f b cb cr rb x0 y0 x1 y1 w0 s wr) (k : Kept (fun _ => True) wr w2) : GC z eb Q L f b cb cr rb x0 y0 x1 y1 w0 s w2 := by
  obtain ⟨g, hg⟩ := h.row
  obtain ⟨gb, hgb⟩ := h.rowb
  obtain ⟨gr, hgr⟩ := h.rowr
  refine ⟨EncIs.kept h.enc k fun _ _ _ _ _ _ => trivial, ?_, ⟨g, k.row hg trivial⟩, ⟨gb, k.row hgb trivial⟩, ⟨gr, k.row hgr trivial⟩, (k.block rb (Array.getElem?_eq_some_iff.1 h.box).1 trivial).trans h.box, h.fr.trans (Fr.ofKept (k.mono fun _ _ _ => trivial))⟩
  exact ⟨h.env.tabs.kept k fun _ _ _ _ => trivial, fun i hi => k.cellOf (h.env.bits i hi) trivial, fun i hi => k.cellOf (h.env.zig i hi) trivial⟩
/-- The samples are laid. -/
theorem samples {g : Nat → Int} {gb gr : Nat → Value} (h : GC z eb Q L f b cb cr rb x0 y0 x1 y1 w0 s wr) (k : Kept (fun i => i ≠ b ∧ i ≠ cb ∧ i ≠ cr) wr w2) (hr : w2.rowIs b 132 64 (ints .i32 g)) (hb : w2.rowIs cb 133 256 gb) (hc : w2.rowIs cr 133 256 gr) (h1 : z.B ≤ b) (h2 : z.B ≤ cb) (h3 : z.B ≤ cr) : GC z eb Q L f b cb cr rb x0 y0 x1 y1 w0 s w2 := by
  obtain ⟨g0, hg⟩ := h.row
  obtain ⟨g1, hg1⟩ := h.rowb
  obtain ⟨g2, hg2⟩ := h.rowr
  have hl := h.env.tabs.low.1
  have hne : ∀ (i : Nat) c t fz, wr.heap[i]? = some (Obj.cells c t fz) → t ≠ 132 → t ≠ 133 → i ≠ b ∧ i ≠ cb ∧ i ≠ cr := fun i c t fz hi n1 n2 => ⟨type_ne hi (rowIs_heap hg) n1, type_ne hi (rowIs_heap hg1) n2, type_ne hi (rowIs_heap hg2) n2⟩
  refine ⟨EncIs.kept h.enc k fun i c t fz hi ht => hne i c t fz hi (by rcases ht with rfl | rfl | rfl | rfl <;> decide) (by rcases ht with rfl | rfl | rfl | rfl <;> decide), ?_, ⟨g, hr⟩, ⟨gb, hb⟩, ⟨gr, hc⟩, (k.block rb (Array.getElem?_eq_some_iff.1 h.box).1 (hne _ _ _ _ h.box (by decide) (by decide))).trans h.box, h.fr.trans (Fr.ofKept (k.mono fun i _ h => ⟨fun e => h (.inr (.inl e)), fun e => h (.inr (.inr (.inl e))), fun e => h (.inr (.inr (.inr e)))⟩))⟩
  exact ⟨h.env.tabs.kept k fun i c fz hi => hne i c _ fz hi (by decide) (by decide), fun i hi => k.cellOf (h.env.bits i hi) ⟨by show 3 ≠ b; omega, by show 3 ≠ cb; omega, by show 3 ≠ cr; omega⟩, fun i hi => k.cellOf (h.env.zig i hi) ⟨by show 2 ≠ b; omega, by show 2 ≠ cb; omega, by show 2 ≠ cr; omega⟩⟩
/-- A block is scaled. -/
theorem scale {g : Nat → Int} (h : GC z eb Q L f b cb cr rb x0 y0 x1 y1 w0 s wr) (k : Kept (fun i => i ≠ b) wr w2) (hr : w2.rowIs b 132 64 (ints .i32 g)) (h1 : z.B ≤ b) : GC z eb Q L f b cb cr rb x0 y0 x1 y1 w0 s w2 := by
  obtain ⟨g0, hg⟩ := h.row
  obtain ⟨g1, hg1⟩ := h.rowb
  obtain ⟨g2, hg2⟩ := h.rowr
  refine ⟨h.enc.keptOne k hg plain132, h.env.keptOne k hg plain132 h1, ⟨g, hr⟩, ⟨g1, k.row hg1 (type_ne (rowIs_heap hg1) (rowIs_heap hg) (by decide))⟩, ⟨g2, k.row hg2 (type_ne (rowIs_heap hg2) (rowIs_heap hg) (by decide))⟩, (k.block rb (Array.getElem?_eq_some_iff.1 h.box).1 (type_ne h.box (rowIs_heap hg) (by decide))).trans h.box, h.fr.trans (Fr.ofKept (k.mono fun i _ h e => h (.inr (.inl e))))⟩
/-- A block is written. -/
theorem block (h : GC z eb Q L f b cb cr rb x0 y0 x1 y1 w0 s wr) (he : EncS z eb f s2 w2) (hr : ∃ g, w2.rowIs b 132 64 (ints .i32 g)) (k : Fr z.B (fun i => z.all eb i ∨ i = b) wr w2) (hcb : ¬ z.all eb cb) (hcr : ¬ z.all eb cr) (hrb : ¬ z.all eb rb) (hb : z.B ≤ b) : GC z eb Q L f b cb cr rb x0 y0 x1 y1 w0 s2 w2 := by
  obtain ⟨g0, hg⟩ := h.row
  obtain ⟨g1, hg1⟩ := h.rowb
  obtain ⟨g2, hg2⟩ := h.rowr
  refine ⟨he, h.env.fr k (fun i hi e => e.elim (h.env.tabs.far i hi) fun e => ?_) (fun i hi e => e.elim (h.env.tabs.low_far hi) fun e => by omega), hr, ⟨g1, k.row hg1 (fun e => e.elim hcb fun e => ?_) (.inr (by decide))⟩, ⟨g2, k.row hg2 (fun e => e.elim hcr fun e => ?_) (.inr (by decide))⟩, k.heap h.box (fun e => e.elim hrb fun e => ?_) (.inr (by simp)), h.fr.trans (k.mono fun i hi => hi.elim .inl fun e => .inr (.inl e))⟩
  · exact type_ne (rowIs_heap (h.env.tabs.row i hi)) (rowIs_heap hg) (by decide) e
  · exact type_ne (rowIs_heap hg1) (rowIs_heap hg) (by decide) e
  · exact type_ne (rowIs_heap hg2) (rowIs_heap hg) (by decide) e
  · exact type_ne h.box (rowIs_heap hg) (by decide) e
/-- A chroma's block behind a write. -/
theorem chroma {q : Nat} {g : Nat → Value} (h : GC z eb Q L f b cb cr rb x0 y0 x1 y1 w0 s wr) (k : Fr z.B (fun i => z.all eb i ∨ i = b) wr w2) (hq : wr.rowIs q 133 256 g) (hn : ¬ z.all eb q) : w2.rowIs q 133 256 g := by
  obtain ⟨g0, hg⟩ := h.row
  exact k.row hq (fun e => e.elim hn fun e => type_ne (rowIs_heap hq) (rowIs_heap hg) (by decide) e) (.inr (by decide))
theorem writeBlock {st : Bw × Int} (h : GC z eb Q L f b cb cr rb x0 y0 x1 y1 w0 st.1 wr) (q : Nat) (hq : q < 2) (G : Nat → Int) (hG : IsSamples G) (hr : wr.rowIs b 132 64 (ints .i32 G)) (ho : StOk st) (hB : z.B ≤ b) (hb : ¬ z.all eb b) (hcb : ¬ z.all eb cb) (hcr : ¬ z.all eb cr) (hrb : ¬ z.all eb rb) (hl : st.1.1.length + 2400 ≤ 1099511627776) :
    Calls Tryz.prog 57 #[.pointer (some ⟨eb, 0, none⟩), .pointer (some ⟨b, 0, none⟩), .int .i64 (q : Int), .int .i32 st.2] wr fun e w' => e = .returned (.int .i32 (stepG Q q G st).2) ∧ GC z eb Q L f b cb cr rb x0 y0 x1 y1 w0 (stepG Q q G st).1 w' ∧ ∀ i g, wr.rowIs i 133 256 g → ¬ z.all eb i → w'.rowIs i 133 256 g := by
  refine (writeBlock_any z eb Q L f st.1 q b 132 G st.2 wr h.enc h.env ho.1 hq hr hG ho.2 plain132 hb hB hl).mono ?_
  rintro e w' ⟨rfl, he, hr', hk⟩
  exact ⟨rfl, h.block he ⟨_, hr'⟩ hk hcb hcr hrb hB, fun i g hi hn => h.chroma hk hi hn⟩
theorem scaleCall {i : Nat} {g : Nat → Int} (h : GC z eb Q L f b cb cr rb x0 y0 x1 y1 w0 s wr) (hi : wr.rowIs i 133 256 (ints .i32 g)) (hg : ∀ j, 0 ≤ g j ∧ g j ≤ 255) (hB : z.B ≤ b) :
    Calls Tryz.prog 61 #[.pointer (some ⟨b, 0, none⟩), .pointer (some ⟨i, 0, none⟩)] wr fun e w' => e = .returned (.tuple #[]) ∧ w'.rowIs b 132 64 (ints .i32 (scaled g)) ∧ GC z eb Q L f b cb cr rb x0 y0 x1 y1 w0 s w' ∧ ∀ i g, wr.rowIs i 133 256 g → w'.rowIs i 133 256 g := by
  obtain ⟨g0, hg0⟩ := h.row
  refine (scale_any b i 132 133 g0 g wr (type_ne (rowIs_heap hg0) (rowIs_heap hi) (by decide)) hg0 hi hg).mono ?_
  rintro e w' ⟨rfl, hk, hr⟩
  exact ⟨rfl, hr, h.scale hk hr hB, fun i g hi => hk.row hi (type_ne (rowIs_heap hi) (rowIs_heap hg0) (by decide))⟩
end GC
/-- What holds within four blocks: the first i of the chroma's blocks are laid. -/
structure GQ (z : Ids) (eb : Nat) (Q L : Nat → Nat) (f : Nat → Value) (b cb cr rb : Nat) (x0 y0 x1 y1 : Int) (w0 : World) (wd hg : Nat) (P : Nat → Nat → Nat) (X Y : Nat) (s : Bw) (i : Nat) (wr : World) : Prop where
  gc : GC z eb Q L f b cb cr rb x0 y0 x1 y1 w0 s wr
  qb : ∃ g, wr.rowIs cb 133 256 (upAt 0 (i * 64) (quadV wd hg (P 1) X Y) g)
  qr : ∃ g, wr.rowIs cr 133 256 (upAt 0 (i * 64) (quadV wd hg (P 2) X Y) g)
theorem GC.start {z : Ids} {eb : Nat} {Q L : Nat → Nat} {f : Nat → Value} {b cb cr rb : Nat} {x0 y0 x1 y1 : Int} {w0 wr : World} {s : Bw} (h : GC z eb Q L f b cb cr rb x0 y0 x1 y1 w0 s wr) (wd hg : Nat) (P : Nat → Nat → Nat) (X Y : Nat) : GQ z eb Q L f b cb cr rb x0 y0 x1 y1 w0 wd hg P X Y s 0 wr := by
  obtain ⟨g1, hg1⟩ := h.rowb
  obtain ⟨g2, hg2⟩ := h.rowr
  exact ⟨h, ⟨g1, hg1.congr fun j _ => by rw [Nat.zero_mul]; exact upAt_zero _ _ _ j⟩, ⟨g2, hg2.congr fun j _ => by rw [Nat.zero_mul]; exact upAt_zero _ _ _ j⟩⟩
/-- A block's samples are laid by a call. -/
theorem GQ.lay {z : Ids} {eb : Nat} {Q L : Nat → Nat} {f : Nat → Value} {b cb cr rb : Nat} {x0 y0 x1 y1 : Int} {w0 wr : World} {s : Bw} {wd hg : Nat} {P : Nat → Nat → Nat} {X Y i fn : Nat} {m : Value} {I : World → Prop} (h : GQ z eb Q L f b cb cr rb x0 y0 x1 y1 w0 wd hg P X Y s i wr) (hC : BlockC fn m x0 y0 wd hg P I z.B) (hI : LowC I z.B) (h0 : I w0) (hi : i < 4) (hX : X ≤ 65600) (hY : Y ≤ 65600) (h1 : z.B ≤ b) (h2 : z.B ≤ cb) (h3 : z.B ≤ cr) (hcr : cb ≠ cr) (x y : Int) (hx : x = x0 + ((X + 8 * (i % 2) : Nat) : Int)) (hy : y = y0 + ((Y + 8 * (i / 2) : Nat) : Int)) :
    Calls Tryz.prog fn #[m, .agg #[.int .i64 x, .int .i64 y], .pointer (some ⟨b, 0, none⟩), .pointer (some ⟨cb, i * 64, none⟩), .pointer (some ⟨cr, i * 64, none⟩)] wr fun e w' => e = .returned (.tuple #[]) ∧ w'.rowIs b 132 64 (ints .i32 (grayS wd hg (P 0) (X + 8 * (i % 2)) (Y + 8 * (i / 2)))) ∧ GQ z eb Q L f b cb cr rb x0 y0 x1 y1 w0 wd hg P X Y s (i + 1) w' := by
  subst hx hy
  obtain ⟨g0, hg0⟩ := h.gc.row
  obtain ⟨g1, hg1⟩ := h.qb
  obtain ⟨g2, hg2⟩ := h.qr
  have hS : ∀ i, (z.all eb i ∨ i = b ∨ i = cb ∨ i = cr) → z.B ≤ i := fun i hi => by
    obtain ⟨_, l2, l3, l4⟩ := h.gc.env.tabs.low
    rcases hi with (e | e | e) | e | e | e <;> omega
  refine (hC b cb cr (i * 64) (X + 8 * (i % 2)) (Y + 8 * (i / 2)) _ _ _ wr (hI _ _ h0 (h.gc.fr.kept hS)) (by omega) (by omega) h1 h2 h3 hg0 hg1 hg2 (by omega) hcr).mono ?_
  rintro e w' ⟨rfl, r0, r1, r2, hk⟩
  exact ⟨rfl, r0, h.gc.samples hk r0 r1 r2 h1 h2 h3, ⟨g1, r1.congr fun j _ => quad_step wd hg (P 1) X Y i g1 j⟩, ⟨g2, r2.congr fun j _ => quad_step wd hg (P 2) X Y i g2 j⟩⟩
theorem GQ.calm {z : Ids} {eb : Nat} {Q L : Nat → Nat} {f : Nat → Value} {b cb cr rb : Nat} {x0 y0 x1 y1 : Int} {w0 wr w2 : World} {s : Bw} {wd hg : Nat} {P : Nat → Nat → Nat} {X Y i : Nat} (h : GQ z eb Q L f b cb cr rb x0 y0 x1 y1 w0 wd hg P X Y s i wr) (k : Kept (fun _ => True) wr w2) : GQ z eb Q L f b cb cr rb x0 y0 x1 y1 w0 wd hg P X Y s i w2 := by
  obtain ⟨g1, hg1⟩ := h.qb
  obtain ⟨g2, hg2⟩ := h.qr
  exact ⟨h.gc.calm k, ⟨g1, k.row hg1 trivial⟩, ⟨g2, k.row hg2 trivial⟩⟩
theorem GQ.write {z : Ids} {eb : Nat} {Q L : Nat → Nat} {f : Nat → Value} {b cb cr rb : Nat} {x0 y0 x1 y1 : Int} {w0 wr : World} {wd hg : Nat} {P : Nat → Nat → Nat} {X Y i : Nat} {st : Bw × Int} (h : GQ z eb Q L f b cb cr rb x0 y0 x1 y1 w0 wd hg P X Y st.1 i wr) (G : Nat → Int) (hG : IsSamples G) (hr : wr.rowIs b 132 64 (ints .i32 G)) (ho : StOk st) (hB : z.B ≤ b) (hb : ¬ z.all eb b) (hcb : ¬ z.all eb cb) (hcr : ¬ z.all eb cr) (hrb : ¬ z.all eb rb) (hl : st.1.1.length + 2400 ≤ 1099511627776) :
    Calls Tryz.prog 57 #[.pointer (some ⟨eb, 0, none⟩), .pointer (some ⟨b, 0, none⟩), .int .i64 0, .int .i32 st.2] wr fun e w' => e = .returned (.int .i32 (stepG Q 0 G st).2) ∧ GQ z eb Q L f b cb cr rb x0 y0 x1 y1 w0 wd hg P X Y (stepG Q 0 G st).1 i w' := by
  obtain ⟨g1, hg1⟩ := h.qb
  obtain ⟨g2, hg2⟩ := h.qr
  refine (h.gc.writeBlock 0 (by omega) G hG hr ho hB hb hcb hcr hrb hl).mono ?_
  rintro e w' ⟨rfl, h1, h2⟩
  exact ⟨rfl, h1, ⟨g1, h2 cb _ hg1 hcb⟩, ⟨g2, h2 cr _ hg2 hcr⟩⟩
end Go.Proofs.YtghjlekdibcjdaaGreatDoor
