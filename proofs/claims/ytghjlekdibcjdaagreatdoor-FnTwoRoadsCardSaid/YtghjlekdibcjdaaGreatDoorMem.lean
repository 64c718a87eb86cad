/- Small laws on memory that the walks share: what is kept, and rows of cells by index. -/
import Derived.WalkKit
import Derived.Below
import Derived.Deep.OwnRows
import Derived.Deep.MidRow
import Derived.Deep.Draws
namespace Go.Proofs.YtghjlekdibcjdaaGreatDoor
open Go.Deep Go.RowKit

/-- The blocks of S are as they were; the outside world and the tape, too; no block has gone. -/
structure Kept (S : Nat → Prop) (w w' : World) : Prop where
  os : w'.os = w.os
  tape : w'.tape = w.tape
  output : w'.output = w.output
  size : w.heap.size ≤ w'.heap.size
  block : ∀ k, k < w.heap.size → S k → w'.heap[k]? = w.heap[k]?

namespace Kept
variable {S S' : Nat → Prop} {w w' w'' : World}
theorem refl (S : Nat → Prop) (w : World) : Kept S w w := ⟨rfl, rfl, rfl, Nat.le_refl _, fun _ _ _ => rfl⟩
theorem trans (h : Kept S w w') (k : Kept S w' w'') : Kept S w w'' :=
  ⟨k.os.trans h.os, k.tape.trans h.tape, k.output.trans h.output, Nat.le_trans h.size k.size, fun i hi hs => (k.block i (by have := h.size; omega) hs).trans (h.block i hi hs)⟩
/-- What is written later need not be kept if it was not there at the start. -/
theorem trans' (h : Kept S w w') (k : Kept S' w' w'') (hS : ∀ i, i < w.heap.size → S i → S' i) : Kept S w w'' :=
  ⟨k.os.trans h.os, k.tape.trans h.tape, k.output.trans h.output, Nat.le_trans h.size k.size, fun i hi hs => (k.block i (by have := h.size; omega) (hS i hi hs)).trans (h.block i hi hs)⟩
theorem mono (h : Kept S w w') (hS : ∀ i, i < w.heap.size → S' i → S i) : Kept S' w w' := ⟨h.os, h.tape, h.output, h.size, fun i hi hs => h.block i hi (hS i hi hs)⟩
theorem drew (h : Kept S w w') : Kept S w w'.drew := ⟨h.os, h.tape, h.output, h.size, h.block⟩
theorem drewN (h : Kept S w w') (n : Nat) : Kept S w (w'.drewN n) := ⟨h.os, h.tape, h.output, h.size, h.block⟩
theorem alloc (h : Kept S w w') (o : Obj) : Kept S w (w'.alloc o) :=
  ⟨h.os, h.tape, h.output, by rw [nblk_alloc]; have := h.size; omega, fun k hk hs => by rw [blk_alloc_lt _ _ _ (by have := h.size; omega)]; exact h.block k hk hs⟩
theorem setCell (h : Kept S w w') {a : Addr} (ha : a.block < w.heap.size → ¬ S a.block) (v : Value) : Kept S w (w'.setCell a v) :=
  ⟨h.os, h.tape, h.output, by rw [nblk_setCell]; exact h.size, fun k hk hs => by rw [blk_setCell_other _ _ _ _ (fun e => ha (e ▸ hk) (e ▸ hs))]; exact h.block k hk hs⟩
theorem setRow (h : Kept S w w') {b : Nat} (ha : b < w.heap.size → ¬ S b) (cs : Array Value) : Kept S w (w'.setRow b cs) :=
  ⟨h.os, h.tape, h.output, by rw [setRow_size]; exact h.size, fun k hk hs => by rw [setRow_other w' b k cs (fun e => ha (by rw [← e]; exact hk) (by rw [← e]; exact hs))]; exact h.block k hk hs⟩
theorem cell (h : Kept S w w') {a : Addr} (ha : a.block < w.heap.size) (hs : S a.block) : w'.cell? a = w.cell? a := World.cell?_of_block (w := w) (h.block _ ha hs)
theorem frozen (h : Kept S w w') {a : Addr} (ha : a.block < w.heap.size) (hs : S a.block) : w'.frozen? a = w.frozen? a := World.frozen?_of_block (w := w) (h.block _ ha hs)
theorem row {b : Nat} {t : TypeId} {n : Nat} {f : Nat → Value} (h : Kept S w w') (hr : w.rowIs b t n f) (hs : S b) : w'.rowIs b t n f := hr.of_block (h.block _ hr.lt hs)
theorem cellOf {a : Addr} {v : Value} (h : Kept S w w') (hc : w.cell? a = some v) (hs : S a.block) : w'.cell? a = some v :=
  (h.cell (block_lt_of_cell hc) hs).trans hc
theorem below (h : Kept S w w') (hS : ∀ k, k < w.heap.size → S k) : Below w.heap.size w w' := ⟨h.os, h.tape, h.output, h.size, fun k hk => h.block k hk (hS k hk)⟩
end Kept

/-- A row of integers. -/
def ints (k : IntKind) (f : Nat → Int) : Nat → Value := fun j => .int k (f j)

theorem rowIs_range {w : World} {b : Nat} {t : TypeId} {n : Nat} {f : Nat → Value} (h : w.rowIs b t n f) (o m : Nat) (hm : o + m ≤ n) :
    w.rangeAt b o ((List.range m).map fun j => f (o + j)) := by
  intro j v hv
  rw [List.getElem?_map] at hv
  obtain ⟨i, hi, rfl⟩ := Option.map_eq_some_iff.1 hv
  obtain ⟨hlt, hi'⟩ := List.getElem?_eq_some_iff.1 hi
  simp only [List.getElem_range] at hi'
  subst hi'
  simp only [List.length_range] at hlt
  exact h.cell (by omega)

theorem rowIs_there {w : World} {b : Nat} {t : TypeId} {n : Nat} {f : Nat → Value} (h : w.rowIs b t n f) (o m : Nat) (hm : o + m ≤ n) : w.there b o m :=
  fun j hj => ⟨by rw [h.cell (by omega)]; rfl, h.frozen _⟩

/-- Cells that are stored one behind the other into a row. -/
theorem rowIs_setCells {b : Nat} {t : TypeId} {n : Nat} : ∀ (vs : List Value) (o : Nat) {w : World} {f : Nat → Value}, w.rowIs b t n f →
    (w.setCells b o vs).rowIs b t n (fun j => if o ≤ j ∧ j < o + vs.length then vs.getD (j - o) undef else f j)
  | [], o, w, f, h => h.congr fun i _ => by rw [if_neg (by simp)]
  | v :: r, o, w, f, h => by
    rw [World.setCells]
    refine (rowIs_setCells r (o + 1) (h.set o v)).congr fun j hj => ?_
    by_cases e : j = o
    · subst e
      rw [if_neg (by omega), if_pos rfl, if_pos (by simp)]
      simp
    · by_cases h1 : o + 1 ≤ j ∧ j < o + 1 + r.length
      · rw [if_pos h1, if_pos (by simp; omega)]
        obtain ⟨q, rfl⟩ : ∃ q, j = o + 1 + q := ⟨j - (o + 1), by omega⟩
        rw [show o + 1 + q - (o + 1) = q by omega, show o + 1 + q - o = q + 1 by omega]
        simp
      · rw [if_neg h1, if_neg e, if_neg (by simp; omega)]
theorem Kept.setCells {S : Nat → Prop} {w : World} {b : Nat} (ha : b < w.heap.size → ¬ S b) : ∀ (vs : List Value) (o : Nat) {w' : World}, Kept S w w' → Kept S w (w'.setCells b o vs)
  | [], _, _, h => h
  | v :: r, o, _, h => by
    rw [World.setCells]
    exact Kept.setCells ha r (o + 1) (h.setCell (a := ⟨b, o, none⟩) ha v)
theorem rowIs_setCells_other {b b' : Nat} (hb : b ≠ b') {t : TypeId} {n : Nat} {f : Nat → Value} : ∀ (vs : List Value) (o : Nat) {w : World}, w.rowIs b t n f → (w.setCells b' o vs).rowIs b t n f
  | [], _, _, h => h
  | v :: r, o, _, h => by
    rw [World.setCells]
    exact rowIs_setCells_other hb r (o + 1) (h.setOther (a := ⟨b', o, none⟩) hb v)
theorem size_setCells (b : Nat) : ∀ (vs : List Value) (o : Nat) (w : World), (w.setCells b o vs).heap.size = w.heap.size
  | [], _, _ => rfl
  | v :: r, o, w => by rw [World.setCells, size_setCells b r]; simp

/-- Go's '|' on two numbers of type int that are not below nought. -/
theorem i64_or_nat (a b : Nat) (ha : a < 9223372036854775808) (hb : b < 9223372036854775808) : bits .or .i64 (a : Int) (b : Int) = ((a ||| b : Nat) : Int) := by
  have hx : a ||| b < 2 ^ 63 := Nat.or_lt_two_pow (by omega) (by omega)
  show IntKind.i64.wrap ((BitVec.ofInt 64 (a : Int) ||| BitVec.ofInt 64 (b : Int)).toNat : Int) = _
  rw [BitVec.toNat_or, ofInt_u64 a (by omega), ofInt_u64 b (by omega)]
  exact IntWalk.i64_in _ ⟨by omega, by omega⟩
/-! ### Whole arrays, their cells by index -/
/-- The cells of an array whose j-th cell is 'f j'. -/
def agg (n : Nat) (f : Nat → Value) : Array Value := ((List.range n).map f).toArray
theorem size_agg (n : Nat) (f : Nat → Value) : (agg n f).size = n := by simp [agg]
theorem at_agg (n : Nat) (f : Nat → Value) (i : Nat) (h : i < n) : (agg n f)[i]? = some (f i) := by simp [agg, h]
theorem agg_congr {n : Nat} {f g : Nat → Value} (h : ∀ i, i < n → f i = g i) : agg n f = agg n g := by
  unfold agg
  congr 1
  exact List.map_congr_left fun i hi => h i (List.mem_range.1 hi)
/-- The world behind a store of such an array at offset o of block b. -/
def lay (w : World) (b o m : Nat) (f : Nat → Value) : World := w.setCells b o ((List.range m).map f)
@[simp, go_sem] theorem size_lay (w : World) (b o m : Nat) (f : Nat → Value) : (lay w b o m f).heap.size = w.heap.size := size_setCells _ _ _ _
theorem Kept.lay {S : Nat → Prop} {w w' : World} (h : Kept S w w') (b o m : Nat) (f : Nat → Value) (ha : b < w.heap.size → ¬ S b) : Kept S w (lay w' b o m f) := Kept.setCells ha _ _ h
theorem rowIs_lay {w : World} {b : Nat} {t : TypeId} {n : Nat} {f : Nat → Value} (h : w.rowIs b t n f) (o m : Nat) (g : Nat → Value) :
    (lay w b o m g).rowIs b t n (fun j => if o ≤ j ∧ j < o + m then g (j - o) else f j) :=
  (rowIs_setCells _ _ h).congr fun j _ => by
    simp only [List.length_map, List.length_range]
    by_cases c : o ≤ j ∧ j < o + m
    · rw [if_pos c, if_pos c, List.getD_eq_getElem?_getD, List.getElem?_map, List.getElem?_range (by omega)]; rfl
    · rw [if_neg c, if_neg c]
theorem rowIs_lay_other {w : World} {b b' : Nat} (hb : b ≠ b') {t : TypeId} {n : Nat} {f : Nat → Value} (h : w.rowIs b t n f) (o m : Nat) (g : Nat → Value) : (lay w b' o m g).rowIs b t n f := rowIs_setCells_other hb _ _ h
/-- A whole row is laid anew. -/
theorem rowIs_lay_all {w : World} {b : Nat} {t : TypeId} {n : Nat} {f : Nat → Value} (h : w.rowIs b t n f) (g : Nat → Value) : (lay w b 0 n g).rowIs b t n g :=
  (rowIs_lay h 0 n g).congr fun j hj => by rw [if_pos (by omega)]; rfl
theorem rowIs_agg (w : World) (t : TypeId) (n : Nat) (f : Nat → Value) : (w.alloc (.cells (agg n f) t)).rowIs w.heap.size t n f := by
  have := World.rowIs_alloc w (agg n f) t f (fun i hi => at_agg _ _ _ (by rwa [size_agg] at hi))
  rwa [size_agg] at this

/-- What is known of a slice of integers that came in: it is nil; or it leads to a row of 'cap' cells, the numbers 'zs' (the first 'len' are its elements). -/
def IsRow (k : IntKind) (w : World) (a : Option Addr) (len cap : Nat) (zs : List Int) : Prop :=
  (a = none ∧ len = 0 ∧ cap = 0 ∧ zs = []) ∨
  ∃ x, a = some x ∧ len ≤ cap ∧ cap ≤ maxLen ∧ zs.length = cap ∧ (∀ i, i < zs.length → w.cell? (x.add i) = some (.int k (zs.getD i 0))) ∧ ∀ n ∈ zs, (Lit.int k n).wf = true
theorem IsRow.len_le {k : IntKind} {w : World} {a : Option Addr} {len cap : Nat} {zs : List Int} (h : IsRow k w a len cap zs) : len ≤ 9223372036854775807 := by
  rcases h with ⟨_, rfl, _⟩ | ⟨_, _, hl, hm, _⟩
  · omega
  · unfold maxLen at hm; omega
/-- A slice that is not empty leads to its cells. -/
theorem IsRow.cells {k : IntKind} {w : World} {a : Option Addr} {len cap : Nat} {zs : List Int} (h : IsRow k w a len cap zs) (hp : 0 < len) :
    ∃ b off, a = some ⟨b, off, none⟩ ∧ len ≤ cap ∧ zs.length = cap ∧ (∀ i, i < cap → w.cell? ⟨b, off + i, none⟩ = some (.int k (zs.getD i 0))) ∧ b < w.heap.size := by
  rcases h with ⟨_, rfl, _⟩ | ⟨x, rfl, hl, hm, hz, hcell, _⟩
  · omega
  · obtain ⟨b, off, spot⟩ := x
    have hc := hcell 0 (by omega)
    have hspot : spot = none := by simpa [Addr.add] using World.cell?_spot hc
    subst hspot
    have hall : ∀ i, i < cap → w.cell? ⟨b, off + i, none⟩ = some (.int k (zs.getD i 0)) := fun i hi => by
      have := hcell i (by omega)
      rwa [Addr.add_mid] at this
    exact ⟨b, off, rfl, hl, hz, hall, block_lt_of_cell (hall 0 (by omega))⟩
theorem wf_u8 {n : Int} (h : (Lit.int .u8 n).wf = true) : 0 ≤ n ∧ n ≤ 255 := by
  simp [Lit.wf, IntKind.min, IntKind.max, IntKind.bits, IntKind.signed] at h; omega
theorem wf_u32 {n : Int} (h : (Lit.int .u32 n).wf = true) : 0 ≤ n ∧ n ≤ 4294967295 := by
  simp [Lit.wf, IntKind.min, IntKind.max, IntKind.bits, IntKind.signed] at h; omega
theorem wf_i64 {n : Int} (h : (Lit.int .i64 n).wf = true) : -9223372036854775808 ≤ n ∧ n ≤ 9223372036854775807 := by
  simp [Lit.wf, IntKind.min, IntKind.max, IntKind.bits, IntKind.signed] at h; omega
theorem IsRow.u8 {w : World} {a : Option Addr} {len cap : Nat} {zs : List Int} (h : IsRow .u8 w a len cap zs) (i : Nat) : 0 ≤ zs.getD i 0 ∧ zs.getD i 0 ≤ 255 := by
  rw [List.getD_eq_getElem?_getD]
  cases e : zs[i]? with
  | none => simp
  | some n =>
    rcases h with ⟨_, _, _, rfl⟩ | ⟨_, _, _, _, _, _, hw⟩
    · simp at e
    · exact wf_u8 (hw n (List.mem_of_getElem? e))
theorem IsRow.u32 {w : World} {a : Option Addr} {len cap : Nat} {zs : List Int} (h : IsRow .u32 w a len cap zs) (i : Nat) : 0 ≤ zs.getD i 0 ∧ zs.getD i 0 ≤ 4294967295 := by
  rw [List.getD_eq_getElem?_getD]
  cases e : zs[i]? with
  | none => simp
  | some n =>
    rcases h with ⟨_, _, _, rfl⟩ | ⟨_, _, _, _, _, _, hw⟩
    · simp at e
    · exact wf_u32 (hw n (List.mem_of_getElem? e))
theorem IsRow.i64 {w : World} {a : Option Addr} {len cap : Nat} {zs : List Int} (h : IsRow .i64 w a len cap zs) (i : Nat) : -9223372036854775808 ≤ zs.getD i 0 ∧ zs.getD i 0 ≤ 9223372036854775807 := by
  rw [List.getD_eq_getElem?_getD]
  cases e : zs[i]? with
  | none => simp
  | some n =>
    rcases h with ⟨_, _, _, rfl⟩ | ⟨_, _, _, _, _, _, hw⟩
    · simp at e
    · exact wf_i64 (hw n (List.mem_of_getElem? e))

/-- n cells of nought. -/
def zeros (n : Nat) : Array Value := Array.replicate n (.int .i32 0)
theorem rowIs_zeros (W : World) (t : TypeId) (n : Nat) : (W.alloc (.cells (zeros n) t)).rowIs W.heap.size t n (ints .i32 fun _ => 0) := by
  have := World.rowIs_alloc W (zeros n) t (ints .i32 fun _ => 0) (fun i hi => by simp only [zeros, Array.size_replicate] at hi; simp [zeros, ints, hi])
  simpa [zeros] using this
theorem rowIs_lit64 (W : World) (t : TypeId) : (W.alloc (.cells #[Value.int .i32 0, Value.int .i32 0, Value.int .i32 0, Value.int .i32 0, Value.int .i32 0, Value.int .i32 0, Value.int .i32 0, Value.int .i32 0, Value.int .i32 0, Value.int .i32 0, Value.int .i32 0, Value.int .i32 0, Value.int .i32 0, Value.int .i32 0, Value.int .i32 0, Value.int .i32 0, Value.int .i32 0, Value.int .i32 0, Value.int .i32 0, Value.int .i32 0, Value.int .i32 0, Value.int .i32 0, Value.int .i32 0, Value.int .i32 0, Value.int .i32 0, Value.int .i32 0, Value.int .i32 0, Value.int .i32 0, Value.int .i32 0, Value.int .i32 0, Value.int .i32 0, Value.int .i32 0, Value.int .i32 0, Value.int .i32 0, Value.int .i32 0, Value.int .i32 0, Value.int .i32 0, Value.int .i32 0, Value.int .i32 0, Value.int .i32 0, Value.int .i32 0, Value.int .i32 0, Value.int .i32 0, Value.int .i32 0, Value.int .i32 0, Value.int .i32 0, Value.int .i32 0, Value.int .i32 0, Value.int .i32 0, Value.int .i32 0, Value.int .i32 0, Value.int .i32 0, Value.int .i32 0, Value.int .i32 0, Value.int .i32 0, Value.int .i32 0, Value.int .i32 0, Value.int .i32 0, Value.int .i32 0, Value.int .i32 0, Value.int .i32 0, Value.int .i32 0, Value.int .i32 0, Value.int .i32 0] t)).rowIs W.heap.size t 64 (ints .i32 fun _ => 0) := rowIs_zeros W t 64
theorem rowIs_replicate (W : World) (t : TypeId) (n : Nat) (v : Value) : (W.alloc (.cells (Array.replicate n v) t)).rowIs W.heap.size t n (fun _ => v) := by
  have := World.rowIs_alloc W (Array.replicate n v) t (fun _ => v) (fun i hi => by simp only [Array.size_replicate] at hi; simp [hi])
  simpa using this
theorem rowIs_lit16 (W : World) (t : TypeId) : (W.alloc (.cells #[Value.int .u8 0, Value.int .u8 0, Value.int .u8 0, Value.int .u8 0, Value.int .u8 0, Value.int .u8 0, Value.int .u8 0, Value.int .u8 0, Value.int .u8 0, Value.int .u8 0, Value.int .u8 0, Value.int .u8 0, Value.int .u8 0, Value.int .u8 0, Value.int .u8 0, Value.int .u8 0] t)).rowIs W.heap.size t 16 (ints .u8 fun _ => 0) := rowIs_replicate W t 16 (.int .u8 0)
section
variable {P : Program}
/-- A load of m cells out of a row. -/
theorem wpList_load_rowIs {ops : Array Oper} {rest : List Oper} {op : Oper} {a : Act} {w : World} {Q : Exit → Act → World → Prop} (hgd : op.guard = none) (ty : TypeId) (x : Operand) (ho : op.op = .load ty x)
    (b o m : Nat) (hx : a.eval x = .pointer (some ⟨b, o, none⟩)) {t : TypeId} {n : Nat} {f : Nat → Value} (hr : w.rowIs b t n f) (hm : o + m ≤ n) {d : TypeDesc}
    (hu : P.underlying ty = some d) (hd : d.isRow = true) (hi : (P.info? ty).map (·.size) = some m)
    (h : wpList P ops Q rest (a.put op.dst (.agg (agg m fun j => f (o + j)))) w) : wpList P ops Q (op :: rest) a w :=
  wpList_load_mid hgd ty x ho b o hx _ d (rowIs_range hr o m hm) hu hd (by simpa using hi) h
/-- A load of a whole row. -/
theorem wpList_load_all {ops : Array Oper} {rest : List Oper} {op : Oper} {a : Act} {w : World} {Q : Exit → Act → World → Prop} (hgd : op.guard = none) (ty : TypeId) (x : Operand) (ho : op.op = .load ty x)
    (b m : Nat) (hx : a.eval x = .pointer (some ⟨b, 0, none⟩)) {t : TypeId} {n : Nat} {f : Nat → Value} (hr : w.rowIs b t n f) (hm : m ≤ n) {d : TypeDesc}
    (hu : P.underlying ty = some d) (hd : d.isRow = true) (hi : (P.info? ty).map (·.size) = some m)
    (h : wpList P ops Q rest (a.put op.dst (.agg (agg m f))) w) : wpList P ops Q (op :: rest) a w :=
  wpList_load_rowIs hgd ty x ho b 0 m hx hr (by omega) hu hd hi (by rw [agg_congr (g := f) fun i _ => by rw [Nat.zero_add]]; exact h)
theorem oneCell_agg (n : Nat) {f : Nat → Value} (h : ∀ i, (f i).oneCell' = true) : (agg n f).all (·.oneCell') = true :=
  all_oneCell_toArray fun v hv => by
    obtain ⟨i, _, rfl⟩ := List.mem_map.1 hv
    exact h i
/-- A store of m cells into a row. -/
theorem wpList_store_rowIs {ops : Array Oper} {rest : List Oper} {op : Oper} {a : Act} {w : World} {Q : Exit → Act → World → Prop} (hgd : op.guard = none) (ty : TypeId) (x y : Operand) (ho : op.op = .store ty x y)
    (b o m : Nat) {g : Nat → Value} (hx : a.eval x = .pointer (some ⟨b, o, none⟩)) (hy : a.eval y = .agg (agg m g)) {t : TypeId} {n : Nat} {f : Nat → Value} (hr : w.rowIs b t n f) (hm : o + m ≤ n)
    (hi : (P.info? ty).map (·.size) = some m) (h1 : ∀ i, (g i).oneCell' = true)
    (h : wpList P ops Q rest (a.put op.dst undef) (lay w b o m g)) : wpList P ops Q (op :: rest) a w :=
  wpList_store_mid hgd ty x y ho b o (agg m g) hx hy (by rw [size_agg]; exact rowIs_there hr o m hm) (by rw [size_agg]; exact hi) (oneCell_agg m h1) h
/-- The same, the world behind the store under a name of its own. -/
theorem wpList_store_new {ops : Array Oper} {rest : List Oper} {op : Oper} {a : Act} {w : World} {Q : Exit → Act → World → Prop} (hgd : op.guard = none) (ty : TypeId) (x y : Operand) (ho : op.op = .store ty x y)
    (b m : Nat) {g : Nat → Value} (hx : a.eval x = .pointer (some ⟨b, 0, none⟩)) (hy : a.eval y = .agg (agg m g)) {t : TypeId} {f : Nat → Value} (hr : w.rowIs b t m f)
    (hi : (P.info? ty).map (·.size) = some m) (h1 : ∀ i, (g i).oneCell' = true)
    (h : ∀ W, Kept (fun k => k ≠ b) w W → Hid (W.heap.size = w.heap.size) → W.rowIs b t m g → wpList P ops Q rest (a.put op.dst undef) W) : wpList P ops Q (op :: rest) a w :=
  wpList_store_rowIs hgd ty x y ho b 0 m hx hy hr (by omega) hi h1
    (h _ ((Kept.refl _ _).lay _ _ _ _ (fun _ h => h rfl)) (size_lay _ _ _ _ _) (rowIs_lay_all hr g))
/-- A row is just the array of its cells. -/
theorem rowIs_heap {w : World} {b : Nat} {t : TypeId} {n : Nat} {f : Nat → Value} (h : w.rowIs b t n f) : w.heap[b]? = some (.cells (agg n f) t (0, 0)) := by
  obtain ⟨c, hb, hn, hc⟩ := h
  rw [hb]
  congr 2
  apply Array.ext_getElem?
  intro i
  by_cases hi : i < n
  · rw [hc i hi, at_agg _ _ _ hi]
  · rw [Array.getElem?_eq_none (by omega), Array.getElem?_eq_none (by rw [size_agg]; omega)]
/-- A result that lies in a row of the call's own. -/
theorem results_rowIs {fn : Func} {p : Tmp} {ty : TypeId} (h : fn.results = #[.cell p ty]) {tmps : Array Value} {w : World} {b : Nat} {t : TypeId} {n : Nat} {f : Nat → Value} {d : TypeDesc}
    (hr : w.rowIs b t n f) (hp : tmps.getD p undef = .pointer (some ⟨b, 0, none⟩))
    (hu : P.underlying ty = some d) (hd : d.isRow = true) (hi : (P.info? ty).map (·.size) = some n) :
    (results fn tmps).run P w = .ok (.agg (agg n f)) w :=
  results_cell_row h tmps w b t (agg n f) (0, 0) d hp (rowIs_heap hr) hu (by cases d <;> simp_all [TypeDesc.isRow]) (by rw [size_agg]; exact hi)
/-- Two results: a row of the call's own, and a slot. -/
theorem results_rowIs_tmp {fn : Func} {p q : Tmp} {ty : TypeId} (h : fn.results = #[.cell p ty, .tmp q]) {tmps : Array Value} {w : World} {b : Nat} {t : TypeId} {n : Nat} {f : Nat → Value} {d : TypeDesc} {v : Value}
    (hr : w.rowIs b t n f) (hp : tmps.getD p undef = .pointer (some ⟨b, 0, none⟩)) (hq : tmps.getD q undef = v)
    (hu : P.underlying ty = some d) (hd : d.isRow = true) (hi : (P.info? ty).map (·.size) = some n) :
    (results fn tmps).run P w = .ok (.tuple #[.agg (agg n f), v]) w := by
  have hp' : tmps[p]?.getD undef = .pointer (some ⟨b, 0, none⟩) := by simpa using hp
  have hq' : tmps[q]?.getD undef = v := by simpa using hq
  simp [results, h, hp', hq', asAddr, run_loadVar_row w b t ty (agg n f) (0, 0) d (rowIs_heap hr) hu (by cases d <;> simp_all [TypeDesc.isRow]) (by rw [size_agg]; exact hi)]
theorem extract_agg (n : Nat) (f : Nat → Value) (o m : Nat) (h : o + m ≤ n) : (agg n f).extract o (o + m) = agg m fun j => f (o + j) := by
  apply Array.ext_getElem?
  intro i
  rw [Array.getElem?_extract]
  by_cases hi : i < m
  · rw [if_pos (by rw [size_agg]; omega), at_agg _ _ _ (by omega), at_agg _ _ _ hi]
  · rw [if_neg (by rw [size_agg]; omega), Array.getElem?_eq_none (by rw [size_agg]; omega)]
/-- An element of an array by value: one cell. -/
theorem run_index_one {t e n : Nat} {d : TypeDesc} (hu : P.underlying t = some (.array n e)) (he : P.underlying e = some d) (hd : d.isRow = false) (hs : (P.info? e).map (·.size) = some 1)
    (f : Nat → Value) (i : Nat) (hi : i < n) (w : World) : (Instr.index t (.agg (agg n f)) (.int .i64 (i : Int))).run P w = .ok (f i) w := by
  have hc : (0 : Int) ≤ (i : Int) ∧ (i : Int) < (n : Int) := by omega
  have hagg : (isAgg e).run P w = .ok false w := by
    unfold isAgg
    rw [Sem.run_bind, run_underlying he w]
    cases d <;> simp_all [TypeDesc.isRow]
  cases hq : P.info? e with
  | none => simp [hq] at hs
  | some k =>
    have hk : k.size = 1 := by simpa [hq] using hs
    simp [Instr.index, run_underlying hu, asIntOf, hc, part, Sem.run_bind, hagg, sizeOf, typeInfo, hq, hk, at_agg _ _ _ hi, go_sem]
    omega
/-- An element of an array by value: a row of m cells. -/
theorem run_index_row {t e n m N : Nat} {d : TypeDesc} (hu : P.underlying t = some (.array n e)) (he : P.underlying e = some d) (hd : d.isRow = true) (hs : (P.info? e).map (·.size) = some m)
    (f : Nat → Value) (i : Nat) (hi : i < n) (hN : i * m + m ≤ N) (w : World) : (Instr.index t (.agg (agg N f)) (.int .i64 (i : Int))).run P w = .ok (.agg (agg m fun j => f (i * m + j))) w := by
  have hc : (0 : Int) ≤ (i : Int) ∧ (i : Int) < (n : Int) := by omega
  have hagg : (isAgg e).run P w = .ok true w := by
    unfold isAgg
    rw [Sem.run_bind, run_underlying he w]
    cases d <;> simp_all [TypeDesc.isRow]
  cases hq : P.info? e with
  | none => simp [hq] at hs
  | some k =>
    have hk : k.size = m := by simpa [hq] using hs
    simp [Instr.index, run_underlying hu, asIntOf, hc, part, Sem.run_bind, hagg, sizeOf, typeInfo, hq, hk, extract_agg _ _ _ _ hN, go_sem]
    omega
/-- A struct or an array built of parts, by what the build comes to. -/
theorem wpList_build {ops : Array Oper} {rest : List Oper} {op : Oper} {a : Act} {w : World} {Q : Exit → Act → World → Prop} (hgd : op.guard = none) (ty : TypeId) (parts : Array (Nat × Operand)) (ho : op.op = .build ty parts)
    (vs : Array (Nat × Value)) (hv : (parts.map fun (i, x) => (i, a.eval x)) = vs) (v : Value) (hrun : (Instr.build ty vs).run P w = .ok v w)
    (h : wpList P ops Q rest (a.put op.dst v) w) : wpList P ops Q (op :: rest) a w :=
  wpList_plain hgd fun K hK => by
    have hK' := hK _ _ h
    unfold Oper.wp execOp
    simp only [ho, hv, Sem.run_bind, Sem.run_pure, Result.andThen_ok, hrun]
    exact hK'
/-- Eight cells of an array behind a pointer, as a slice of their own capacity. -/
theorem run_slice8 {t e : TypeId} (hu : P.underlying t = some (.array 64 e)) (hs : (P.info? e).map (·.size) = some 1) (b i : Nat) (hi : i < 8) (w : World) :
    (Instr.sliceAt t (.pointer (some ⟨b, 0, none⟩)) (some (.int .i64 (8 * (i : Int)))) (some (.int .i64 (8 * (i : Int) + 8))) (some (.int .i64 (8 * (i : Int) + 8)))).run P w = .ok (.slice (some ⟨b, 8 * i, none⟩) 8 8) w := by
  cases hq : P.info? e with
  | none => simp [hq] at hs
  | some k =>
    have hk : k.size = 1 := by simpa [hq] using hs
    have a1 : (0 : Int) ≤ 8 * (i : Int) := by omega
    have a2 : (0 : Int) ≤ 8 * (i : Int) + 8 := by omega
    have a3 : 8 * (i : Int) + 8 ≤ 64 := by omega
    have a4 : 8 * (i : Int) ≤ 8 * (i : Int) + 8 := by omega
    have n1 : (8 * (i : Int)).toNat = 8 * i := by omega
    have n2 : (8 * (i : Int) + 8).toNat = 8 * i + 8 := by omega
    have n3 : (((8 * i + 8 : Nat) : Int)) = 8 * (i : Int) + 8 := by omega
    simp [Instr.sliceAt, Instr.sureAddr, run_underlying hu, Instr.sliceBounds, run_sliceBound, sizeOf, typeInfo, hq, hk, a1, a2, a3, n1, n2, Addr.add_mid, go_sem]
    omega
end
end Go.Proofs.YtghjlekdibcjdaaGreatDoor
