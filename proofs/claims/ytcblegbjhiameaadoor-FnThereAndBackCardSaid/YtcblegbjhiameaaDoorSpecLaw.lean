/- What the functions of package spec compute of two tables: plain definitions, and the laws of their loops. -/
import Derived.Test.YtcblegbjhiameaaDoorMem
import Derived.Lib.Hide
namespace Go.Proofs.YtcblegbjhiameaaDoor
open Go.Deep Go.RowKit
/-- What is known of the two listed tables. -/
structure Laid (z : Nat → Nat) (bs : Nat → Int) (w : World) : Prop where
  lt : ∀ k, k < 64 → z k < 64
  zig : ∀ k, k < 64 → w.cell? ⟨0, k, none⟩ = some (.int .i64 (z k))
  bas : ∀ k, k < 64 → w.cell? ⟨1, k, none⟩ = some (.int .i64 (bs k))
theorem Laid.kept {z : Nat → Nat} {bs : Nat → Int} {w w' : World} (h : Laid z bs w) (k : Kept (fun _ => True) w w') : Laid z bs w' :=
  ⟨h.lt, fun i hi => k.cellOf (h.zig i hi) trivial, fun i hi => k.cellOf (h.bas i hi) trivial⟩
/-- A row that is filled at the places of a table. -/
def fill (z : Nat → Nat) (v : Nat → Int) : Nat → Nat → Int
  | 0, _ => 0
  | k + 1, j => if j = z k then v k else fill z v k j
theorem fill_step (z : Nat → Nat) (v : Nat → Int) (k j : Nat) {p : Nat} {x : Int} (hp : z k = p) (hx : v k = x) :
    (if j = p then Value.int .i64 x else ints .i64 (fill z v k) j) = ints .i64 (fill z v (k + 1)) j := by
  subst hp hx
  simp only [ints, fill]
  split <;> rfl
/-- The first numbers, nought behind them. -/
def upto (g : Nat → Int) (k : Nat) : Nat → Int := fun j => if j < k then g j else 0
theorem upto_step (g : Nat → Int) (k j : Nat) {x : Int} (hx : g k = x) :
    (if j = k then Value.int .i64 x else ints .i64 (upto g k) j) = ints .i64 (upto g (k + 1)) j := by
  subst hx
  simp only [ints, upto]
  by_cases e : j = k
  · subst e; rw [if_pos rfl, if_pos (by omega)]
  · rw [if_neg e]
    by_cases d : j < k
    · rw [if_pos d, if_pos (by omega)]
    · rw [if_neg d, if_neg (by omega)]
/-- A sum of products, as the code's arithmetic makes it. -/
def dot (c : Int) (a b : Nat → Int) : Nat → Int
  | 0 => c
  | u + 1 => wrap64 (dot c a b u + wrap64 (a u * b u))
/-- A block of such sums behind n steps, t of them begun. -/
def sums (c : Int) (a b : Nat → Nat → Int) (t n : Nat) : Nat → Int := fun j => if j < t then dot c (a j) (b j) (min 8 (n - 8 * j)) else 0
theorem sums_at (c : Int) (a b : Nat → Nat → Int) {t n j u : Nat} (hj : j < t) (hu : u ≤ 8) (hn : n = 8 * j + u) : sums c a b t n j = dot c (a j) (b j) u := by
  simp only [sums]
  rw [if_pos hj, show min 8 (n - 8 * j) = u by omega]
theorem sums_begin (c : Int) (a b : Nat → Nat → Int) (k j : Nat) {n : Nat} (hn : n = 8 * k) :
    (if j = k then Value.int .i64 c else ints .i64 (sums c a b k n) j) = ints .i64 (sums c a b (k + 1) n) j := by
  subst hn
  simp only [ints, sums]
  by_cases e : j = k
  · subst e; rw [if_pos rfl, if_pos (by omega), show min 8 (8 * j - 8 * j) = 0 by omega]; rfl
  · rw [if_neg e]
    by_cases d : j < k
    · rw [if_pos d, if_pos (by omega)]
    · rw [if_neg d, if_neg (by omega)]
theorem sums_step (c : Int) (a b : Nat → Nat → Int) {t k u n : Nat} (j : Nat) (hk : k < t) (hu : u < 8) (hn : n = 8 * k + u) {o p q : Int} (ho : sums c a b t n k = o) (hp : a k u = p) (hq : b k u = q) :
    (if j = k then Value.int .i64 (wrap64 (o + wrap64 (p * q))) else ints .i64 (sums c a b t n) j) = ints .i64 (sums c a b t (n + 1)) j := by
  subst hp hq
  rw [sums_at c a b hk (by omega) hn] at ho
  subst ho hn
  simp only [ints, sums]
  by_cases e : j = k
  · subst e
    rw [if_pos rfl, if_pos hk, show min 8 (8 * j + u + 1 - 8 * j) = u + 1 by omega]
    rfl
  · rw [if_neg e]
    by_cases d : j < t
    · rw [if_pos d, if_pos d, show min 8 (8 * k + u + 1 - 8 * j) = min 8 (8 * k + u - 8 * j) by omega]
    · rw [if_neg d, if_neg d]
theorem sums_end (c : Int) (a b : Nat → Nat → Int) (j : Nat) (hj : j < 64) : sums c a b 64 512 j = dot c (a j) (b j) 8 := by
  simp only [sums]
  rw [if_pos hj, show min 8 (512 - 8 * j) = 8 by omega]
theorem sums_none (a b : Nat → Nat → Int) (j : Nat) : sums 0 a b 64 0 j = 0 := by
  simp only [sums]
  split
  · rw [show min 8 (0 - 8 * j) = 0 by omega]; rfl
  · rfl
theorem sums_none0 (c : Int) (a b : Nat → Nat → Int) (j : Nat) : sums c a b 0 0 j = 0 := by
  simp only [sums]
  rw [if_neg (by omega)]

/-- spec.Samples. -/
def smpS (z : Nat → Nat) (f g : Nat → Int) : Nat → Int := fill z (fun k => wrap64 (f k * g k)) 64
def smpA (bs : Nat → Int) (j u : Nat) : Int := bs ((j % 8) * 8 + u)
def smpB (s : Nat → Int) (j u : Nat) : Int := s (8 * (j / 8) + u)
def smpH (bs s : Nat → Int) (j : Nat) : Int := dot 0 (smpA bs j) (smpB s j) 8
def smpC (bs : Nat → Int) (j v : Nat) : Int := bs ((j / 8) * 8 + v)
def smpD (h : Nat → Int) (j v : Nat) : Int := h (8 * v + j % 8)
def smpO (bs h : Nat → Int) (j : Nat) : Int := dot 140737488355328 (smpC bs j) (smpD h j) 8
def smp (z : Nat → Nat) (bs f g : Nat → Int) : Nat → Int := smpO bs (smpH bs (smpS z f g))
/-- spec.Coefficients. -/
def cofA (bs : Nat → Int) (j x : Nat) : Int := bs (x * 8 + j % 8)
def cofB (f : Nat → Int) (j x : Nat) : Int := wrap64 (f (8 * (j / 8) + x) - 128)
def cofH (bs f : Nat → Int) (j : Nat) : Int := dot 0 (cofA bs j) (cofB f j) 8
def cofC (bs : Nat → Int) (j y : Nat) : Int := bs (y * 8 + j / 8)
def cofD (h : Nat → Int) (j y : Nat) : Int := h (8 * y + j % 8)
def cofS (bs h : Nat → Int) (j : Nat) : Int := dot 0 (cofC bs j) (cofD h j) 8
def cof (z : Nat → Nat) (bs f : Nat → Int) : Nat → Int := fun k => cofS bs (cofH bs f) (z k)
/-- spec.Forward. -/
def fwd (z : Nat → Nat) (bs f : Nat → Int) : Nat → Int := fill z (cof z bs f) 64
/-- spec.Inverse. -/
def inv (z : Nat → Nat) (bs f : Nat → Int) : Nat → Int := fun j => wrap64 (smp z bs (fun k => f (z k)) (fun _ => 1) j - 140737488355328)
end Go.Proofs.YtcblegbjhiameaaDoor
