/- The bits of a stream, written by whole bytes as the package does it: plain laws. And which blocks a write to the sink leaves alone. -/
import Derived.Test.YtghjlekdibcjdaaGreatDoorCopy
import Derived.Deep.AppendLies
import Derived.Maps.AppendAt
namespace Go.Proofs.YtghjlekdibcjdaaGreatDoor
open Go.Deep Go.RowKit
set_option linter.unusedVariables false
/-- A byte, and a byte 0 behind it if it is 255. -/
def stuff (b : Nat) : List Nat := if b = 255 then [255, 0] else [b]
theorem stuff_len (b : Nat) : 1 ≤ (stuff b).length ∧ (stuff b).length ≤ 2 := by unfold stuff; split <;> simp
/-- What is written: the bytes, the register, how many of its bits wait. -/
abbrev Bw := List Nat × Nat × Nat
/-- A round of the encoder's loop: the register's highest byte is written. -/
def flS (s : Bw) : Bw := (s.1 ++ stuff (s.2.1 / 16777216), s.2.1 * 256 % 4294967296, s.2.2 - 8)
def fl : Nat → Bw → Bw
  | 0, s => s
  | k + 1, s => if 8 ≤ s.2.2 then fl k (flS s) else s
/-- What emit makes of a state. -/
def emitN (s : Bw) (v n : Nat) : Bw := fl 3 (s.1, (v * 2 ^ (32 - (n + s.2.2))) ||| s.2.1, n + s.2.2)
theorem fl_yes (k : Nat) (s : Bw) (h : 8 ≤ s.2.2) : fl (k + 1) s = fl k (flS s) := if_pos h
theorem fl_no (k : Nat) (s : Bw) (h : ¬ 8 ≤ s.2.2) : fl (k + 1) s = s := if_neg h
/-- What is known of a state: fewer than 8 bits wait, the register has 32 bits. -/
def BwOk (s : Bw) : Prop := s.2.2 < 8 ∧ s.2.1 < 4294967296
theorem fl_ok : ∀ (k : Nat) (s : Bw), s.2.2 < 8 * (k + 1) → s.2.1 < 4294967296 → BwOk (fl k s)
  | 0, s, h1, h2 => ⟨by show s.2.2 < 8; omega, h2⟩
  | k + 1, s, h1, h2 => by
    by_cases h : 8 ≤ s.2.2
    · rw [fl_yes k s h]
      exact fl_ok k _ (by simp only [flS]; omega) (Nat.mod_lt _ (by omega))
    · rw [fl_no k s h]
      exact ⟨by omega, h2⟩
theorem fl_len : ∀ (k : Nat) (s : Bw), (fl k s).1.length ≤ s.1.length + 2 * k
  | 0, s => by simp [fl]
  | k + 1, s => by
    by_cases h : 8 ≤ s.2.2
    · rw [fl_yes k s h]
      have h1 := fl_len k (flS s)
      have h2 := (stuff_len (s.2.1 / 16777216)).2
      simp only [flS, List.length_append] at h1 ⊢
      omega
    · rw [fl_no k s h]; omega
theorem shl_lt {v n m : Nat} (hv : v < 2 ^ n) (h : n + m ≤ 32) : v * 2 ^ (32 - (n + m)) < 4294967296 := by
  have h1 : v * 2 ^ (32 - (n + m)) < 2 ^ n * 2 ^ (32 - (n + m)) := Nat.mul_lt_mul_of_pos_right hv (Nat.two_pow_pos _)
  rw [← Nat.pow_add] at h1
  have h2 : 2 ^ (n + (32 - (n + m))) ≤ 2 ^ 32 := Nat.pow_le_pow_right (by omega) (by omega)
  omega
theorem emitN_ok {s : Bw} {v n : Nat} (h : BwOk s) (hn : n ≤ 16) (hv : v < 2 ^ n) : BwOk (emitN s v n) :=
  fl_ok 3 _ (by have := h.1; simp only; omega) (Nat.or_lt_two_pow (n := 32) (shl_lt hv (by have := h.1; omega)) h.2)
theorem emitN_len (s : Bw) (v n : Nat) : (emitN s v n).1.length ≤ s.1.length + 6 := fl_len 3 _
/-- Bytes as cells. -/
def cellsN (l : List Nat) : List Value := l.map fun (n : Nat) => Value.int .u8 (n : Int)
theorem cellsN_one (l : List Nat) : ∀ v ∈ cellsN l, v.oneCell' = true := by
  intro v hv
  obtain ⟨n, _, rfl⟩ := List.mem_map.1 hv
  rfl
theorem cellsN_len (l : List Nat) : (cellsN l).length = l.length := by simp [cellsN]
theorem cellsN_app (a b : List Nat) : cellsN (a ++ b) = cellsN a ++ cellsN b := by simp [cellsN]

/-- The blocks of S may turn, and so may the bytes' rows from block B on; all other blocks are as they were. -/
structure Fr (B : Nat) (S : Nat → Prop) (w w' : World) : Prop where
  os : w'.os = w.os
  tape : w'.tape = w.tape
  output : w'.output = w.output
  size : w.heap.size ≤ w'.heap.size
  block : ∀ k o, w.heap[k]? = some o → ¬ S k → (k < B ∨ ∀ c fz, o ≠ .cells c 5 fz) → w'.heap[k]? = some o
namespace Fr
variable {B : Nat} {S S' : Nat → Prop} {w w' w'' : World}
theorem refl (B : Nat) (S : Nat → Prop) (w : World) : Fr B S w w := ⟨rfl, rfl, rfl, Nat.le_refl _, fun _ _ h _ _ => h⟩
theorem trans (h : Fr B S w w') (k : Fr B S w' w'') : Fr B S w w'' :=
  ⟨k.os.trans h.os, k.tape.trans h.tape, k.output.trans h.output, Nat.le_trans h.size k.size, fun i o h1 h2 h3 => k.block i o (h.block i o h1 h2 h3) h2 h3⟩
theorem mono (h : Fr B S w w') (hS : ∀ i, S i → S' i) : Fr B S' w w' := ⟨h.os, h.tape, h.output, h.size, fun i o h1 h2 h3 => h.block i o h1 (fun h4 => h2 (hS i h4)) h3⟩
theorem lower {B' : Nat} (h : Fr B S w w') (hB : B' ≤ B) : Fr B' S w w' := ⟨h.os, h.tape, h.output, h.size, fun i o h1 h2 h3 => h.block i o h1 h2 (h3.imp (fun h4 => by omega) id)⟩
theorem drew (h : Fr B S w w') : Fr B S w w'.drew := ⟨h.os, h.tape, h.output, h.size, h.block⟩
theorem ofKept (h : Kept (fun k => ¬ S k) w w') : Fr B S w w' :=
  ⟨h.os, h.tape, h.output, h.size, fun k o h1 h2 _ => by
    have hlt : k < w.heap.size := (Array.getElem?_eq_some_iff.1 h1).1
    rw [h.block k hlt h2, h1]⟩
/-- What was made in between may turn. -/
theorem transNew (h : Fr B S w w') (k : Fr B S' w' w'') (hS : ∀ i, i < w.heap.size → S' i → S i) : Fr B S w w'' :=
  ⟨k.os.trans h.os, k.tape.trans h.tape, k.output.trans h.output, Nat.le_trans h.size k.size, fun i o h1 h2 h3 =>
    k.block i o (h.block i o h1 h2 h3) (fun h4 => h2 (hS i (Array.getElem?_eq_some_iff.1 h1).1 h4)) h3⟩
theorem setCell (h : Fr B S w w') {a : Addr} (ha : S a.block) (v : Value) : Fr B S w (w'.setCell a v) :=
  ⟨h.os, h.tape, h.output, by rw [nblk_setCell]; exact h.size, fun k o h1 h2 h3 => by
    rw [blk_setCell_other _ _ _ _ (fun (e : k = a.block) => h2 (by rw [e]; exact ha))]; exact h.block k o h1 h2 h3⟩
theorem alloc (h : Fr B S w w') (o : Obj) : Fr B S w (w'.alloc o) :=
  ⟨h.os, h.tape, h.output, by rw [nblk_alloc]; have := h.size; omega, fun k x h1 h2 h3 => by
    have h4 := h.block k x h1 h2 h3
    rw [blk_alloc_lt _ _ _ (Array.getElem?_eq_some_iff.1 h4).1]; exact h4⟩
/-- An append onto a row of bytes from block B on. -/
theorem grown {v : Value} {n : Nat} {xs : List Value} (h : Fr B S w w') (hg : w'.grownBy w'' v.ownBlock) (ho : w'.ownsRow B 5 1 v n xs) : Fr B S w w'' :=
  ⟨hg.os.trans h.os, hg.tape.trans h.tape, hg.output.trans h.output, Nat.le_trans h.size hg.size, fun k o h1 h2 h3 => by
    have h4 := h.block k o h1 h2 h3
    have hlt : k < w'.heap.size := (Array.getElem?_eq_some_iff.1 h4).1
    have hne : v.ownBlock ≠ some k := fun e => by
      rcases ho.2 with ⟨rfl, _⟩ | ⟨g, cap, cur, rfl, e2, e3, _⟩
      · simp [Value.ownBlock] at e
      · have : g = k := by simpa [Value.ownBlock] using e
        subst this
        rcases h3 with h3 | h3
        · omega
        · rw [h4] at e3
          injection e3 with e3
          exact h3 _ _ e3
    rw [hg.block k hlt (Ne.symm hne)]; exact h4⟩
theorem heap {k : Nat} {o : Obj} (h : Fr B S w w') (h1 : w.heap[k]? = some o) (h2 : ¬ S k) (h3 : k < B ∨ ∀ c fz, o ≠ .cells c 5 fz) : w'.heap[k]? = some o := h.block k o h1 h2 h3
theorem row {b : Nat} {t : TypeId} {n : Nat} {f : Nat → Value} (h : Fr B S w w') (hr : w.rowIs b t n f) (h2 : ¬ S b) (h3 : b < B ∨ t ≠ 5) : w'.rowIs b t n f :=
  hr.of_block ((h.block b _ (rowIs_heap hr) h2 (h3.imp id fun h4 c fz e => h4 (by injection e))).trans (rowIs_heap hr).symm)
/-- A cell of a block that may not turn. -/
theorem cell {a : Addr} {x : Value} {o : Obj} (h : Fr B S w w') (hc : w.cell? a = some x) (h1 : w.heap[a.block]? = some o) (h2 : ¬ S a.block) (h3 : a.block < B ∨ ∀ c fz, o ≠ .cells c 5 fz) : w'.cell? a = some x := by
  rw [← hc]
  exact World.cell?_of_block ((h.block _ o h1 h2 h3).trans h1.symm)
theorem cellLow {a : Addr} {x : Value} (h : Fr B S w w') (hc : w.cell? a = some x) (h2 : ¬ S a.block) (h3 : a.block < B) : w'.cell? a = some x := by
  have hlt := block_lt_of_cell hc
  exact h.cell hc (Array.getElem?_eq_getElem hlt) h2 (.inl h3)
theorem kept (h : Fr B S w w') (hS : ∀ k, S k → B ≤ k) : Kept (fun k => k < B) w w' :=
  ⟨h.os, h.tape, h.output, h.size, fun k hk hs => by
    rw [Array.getElem?_eq_getElem hk]
    exact h.block k _ (Array.getElem?_eq_getElem hk) (fun h4 => by have := hS k h4; omega) (.inl hs)⟩
end Fr
theorem heap_set {w : World} {k : Nat} {c : Array Value} {t : TypeId} {fz : Nat × Nat} (h : w.heap[k]? = some (.cells c t fz)) (i : Nat) (v : Value) :
    (w.setCell ⟨k, i, none⟩ v).heap[k]? = some (.cells (c.setIfInBounds i v) t fz) := by
  unfold World.setCell
  simp only [Array.getElem?_modify, if_true, h, Option.map_some]
  simp
theorem ownsRow_set {w : World} {B : Nat} {e : TypeId} {size : Nat} {v : Value} {n : Nat} {xs : List Value} {k : Nat} {c : Array Value} {t : TypeId} {fz : Nat × Nat} (h : w.ownsRow B e size v n xs) (hk : w.heap[k]? = some (.cells c t fz)) (ht : t ≠ e) (i : Nat) (x : Value) :
    (w.setCell ⟨k, i, none⟩ x).ownsRow B e size v n xs := by
  obtain ⟨h1, h2⟩ := h
  refine ⟨h1, ?_⟩
  rcases h2 with h2 | ⟨g, cap, cur, e1, e2, e3, e4⟩
  · exact .inl h2
  · have hg : g ≠ k := fun e => by
      subst e
      rw [hk] at e3
      injection e3 with e3
      injection e3 with _ e3
      exact ht e3
    exact .inr ⟨g, cap, cur, e1, e2, by rw [Below.heap_setCell _ _ _ _ hg]; exact e3, e4⟩
theorem ownBlock_ne {w : World} {B : Nat} {e : TypeId} {size : Nat} {v : Value} {n : Nat} {xs : List Value} {k : Nat} {c : Array Value} {t : TypeId} {fz : Nat × Nat} (h : w.ownsRow B e size v n xs) (hk : w.heap[k]? = some (.cells c t fz)) (ht : t ≠ e) :
    v.ownBlock ≠ some k := by
  obtain ⟨h1, h2⟩ := h
  rcases h2 with ⟨rfl, _⟩ | ⟨g, cap, cur, rfl, e2, e3, e4⟩
  · simp [Value.ownBlock]
  · intro hg
    have : g = k := by simpa [Value.ownBlock] using hg
    subst this
    rw [hk] at e3
    injection e3 with e3
    injection e3 with _ e3
    exact ht e3
/-- An owned row, where its own block and no other has turned. -/
theorem ownsRow_block {w w' : World} {B : Nat} {e : TypeId} {size : Nat} {v : Value} {n : Nat} {xs : List Value} (h : w.ownsRow B e size v n xs) (hb : ∀ g, v.ownBlock = some g → w'.heap[g]? = w.heap[g]?) : w'.ownsRow B e size v n xs := by
  obtain ⟨h1, h2⟩ := h
  refine ⟨h1, ?_⟩
  rcases h2 with h2 | ⟨g, cap, cur, rfl, e2, e3, e4⟩
  · exact .inl h2
  · exact .inr ⟨g, cap, cur, rfl, e2, (hb g rfl).trans e3, e4⟩
section
variable {P : Program} (w : World)
/-- An append at a step of a region that draws its order; what is appended may be nothing. -/
theorem step_append_at {ops : Array Oper} {o : Oper} {a : Act} {K : Act → World → Prop} {Q : Exit → Act → World → Prop} {E : Prop} (hgd : o.guard = none) (s x : Operand) (t : TypeId)
    (ho : o.op = .call { callee := .builtin .append, args := #[s, x], argTypes := #[t, t] })
    (base : Nat) (e : TypeId) (i : TypeInfo) (z : Value) (size bytes : Nat) (ht : P.underlying t = some (.slice e)) (hi : P.info? e = some i) (hz : i.zero = some z)
    (hsize : i.size = size) (hby : i.bytes = bytes) (hzs : z.cells.size = size) (hsz : 0 < size)
    (v : Value) (n : Nat) (xs : List Value) (hs : a.eval s = v) (hown : w.ownsRow base e size v n xs)
    (ad : Addr) (m c : Nat) (news : List Value) (hx : a.eval x = .slice (some ad) m c) (hl : news.length = m * size) (hnews : ∀ j u, news[j]? = some u → w.cell? (ad.add j) = some u) (h1 : ∀ u ∈ news, u.oneCell' = true)
    (h63 : n + m ≤ maxLen) (hbytes : (n + m) * bytes ≤ 140737488355328) (hbase : base ≤ w.heap.size) (H : Nat) (hH : w.heap.size = H)
    (h : ∀ v' w', w'.ownsRow base e size v' (n + m) (xs ++ news) → w.grownBy w' v.ownBlock → (v'.ownBlock = v.ownBlock ∨ v'.ownBlock = some H) → K (a.put o.dst v') w') :
    if Region.wanted o (yielded ops a.tmps) = true then Oper.wp P o a w K Q else E := by
  have hw : Region.wanted o (yielded ops a.tmps) = true := by simp [Region.wanted, hgd]
  rw [if_pos hw]
  obtain ⟨v', w', hr, h2, h3, _, h5⟩ := run_append_own_at (P := P) w base t o.type e i z size bytes ht hi hz hsize hby hzs hsz v n xs hown ad m c news hl hnews h1 h63 hbytes hbase
  unfold Oper.wp execOp
  simp only [ho, resolve, invoke, builtin, Sem.run_bind, Sem.run_pure, Result.andThen_ok, List.map_toArray, List.map_cons, List.map_nil, hs, hx, hr]
  exact h v' w' h2 h3 (by rw [← hH]; exact h5)
end
end Go.Proofs.YtghjlekdibcjdaaGreatDoor
