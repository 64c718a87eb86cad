/- Texts of mine, united so that a claim holds fewer files: NewW, SizeW, EncA. -/
import Derived.Test.YtghjlekdibcjdaaGreatDoorWrB
import Derived.Test.YtghjlekdibcjdaaGreatDoorImgA
import Derived.Test.YtghjlekdibcjdaaGreatDoorScanB
import Derived.Test.YtghjlekdibcjdaaGreatDoorEO
import Derived.Test.YtghjlekdibcjdaaGreatDoorLU
import Derived.Stop.Asserts
/- The contract of bufio.NewWriter over impl.writer. -/
namespace Go.Proofs.YtghjlekdibcjdaaGreatDoor
open Go.Deep Go.RowKit
set_option linter.unusedVariables false
set_option maxHeartbeats 1000000 in
set_option maxRecDepth 100000 in
theorem newWriter_any (wb : Nat) (w : World) :
    Calls Tryz.prog 37 #[.iface 65 (.pointer (some ⟨wb, 0, none⟩))] w fun e w' => e = .returned (.pointer (some ⟨w.heap.size + 1, 0, none⟩)) ∧ w'.rowIs w.heap.size 5 4096 (fun _ => .int .u8 0) ∧ w'.heap[w.heap.size + 1]? = some (.cells #[.nilIface, .slice (some ⟨w.heap.size, 0, none⟩) 4096 4096, .int .i64 0, .iface 65 (.pointer (some ⟨wb, 0, none⟩))] 166 (0, 0)) ∧ Kept (fun _ => True) w w' := by
  have hmk : ∀ W, (Instr.makeSlice 22 (.int .i64 4096) (.int .i64 4096)).run Tryz.prog W = .ok (.slice (some ⟨W.heap.size, 0, none⟩) 4096 4096) (W.alloc (.cells (madeCells #[.int .u8 0] 4096) 5)) := run_make_row' (P := Tryz.prog) 22 5 (.int .u8 0) 1 Tryz.underlying22 info5 rfl .i64 .i64 4096 (by omega) (by omega)
  have hta : ∀ W, (Instr.typeAssert (.iface 65 (.pointer (some ⟨wb, 0, none⟩))) 82 97 true).run Tryz.prog W = .ok (.tuple #[.pointer none, .bool false]) W := fun W => by kernel_rfl
  have CS : Hid (Calls Tryz.prog 50 #[.iface 65 (.pointer (some ⟨wb, 0, none⟩)), .int .i64 4096] w fun e w' => e = .returned (.pointer (some ⟨w.heap.size + 1, 0, none⟩)) ∧ w'.rowIs w.heap.size 5 4096 (fun _ => .int .u8 0) ∧ w'.heap[w.heap.size + 1]? = some (.cells #[.nilIface, .slice (some ⟨w.heap.size, 0, none⟩) 4096 4096, .int .i64 0, .iface 65 (.pointer (some ⟨wb, 0, none⟩))] 166 (0, 0)) ∧ Kept (fun _ => True) w w') := Lib.hid (by
    go_enter Tryz.func50, Tryz.ntmps50
    go_wp2_with fail
    go_ret
    have h := heap_alloc_new (w.alloc (.cells (madeCells #[.int .u8 0] 4096) 5)) (.cells #[.nilIface, .slice (some ⟨w.heap.size, 0, none⟩) 4096 4096, .int .i64 0, .iface 65 (.pointer (some ⟨wb, 0, none⟩))] 166)
    simp only [World.size_alloc] at h
    exact ⟨rfl, (World.rowIs_made _ _ _ _).alloc _, h, ((Kept.refl _ _).alloc _).alloc _⟩)
  go_enter Tryz.func37, Tryz.ntmps37
  go_wp2_with (go_at_call 50; (with_reducible refine CS.out.mono ?_); rintro e w1 ⟨rfl, k1⟩; have P := Lib.hid k1; clear k1)
  go_ret
  exact ⟨rfl, P.out⟩
end Go.Proofs.YtghjlekdibcjdaaGreatDoor
/- The contract of Rectangle's Size. -/
namespace Go.Proofs.YtghjlekdibcjdaaGreatDoor
open Go.Deep Go.RowKit
set_option linter.unusedVariables false
theorem size_any (x0 y0 : Int) (wd hg : Nat) (w : World) (h0 : -1048576 ≤ x0 ∧ x0 ≤ 1048576) (h1 : -1048576 ≤ y0 ∧ y0 ≤ 1048576) (hw : wd ≤ 1048576) (hh : hg ≤ 1048576) :
    Calls Tryz.prog 41 #[rectV x0 y0 (x0 + wd) (y0 + hg)] w fun e w' => e = .returned (.agg #[.int .i64 (wd : Int), .int .i64 (hg : Int)]) ∧ Kept (fun _ => True) w w' := by
  obtain ⟨a1, a2⟩ := h0
  obtain ⟨a3, a4⟩ := h1
  obtain ⟨x1, hx1⟩ : ∃ x1, x0 + (wd : Int) = x1 := ⟨_, rfl⟩
  obtain ⟨y1, hy1⟩ : ∃ y1, y0 + (hg : Int) = y1 := ⟨_, rfl⟩
  obtain ⟨dw, hdw⟩ : ∃ dw : Int, (wd : Int) = dw := ⟨_, rfl⟩
  obtain ⟨dh, hdh⟩ : ∃ dh : Int, (hg : Int) = dh := ⟨_, rfl⟩
  have ex : x1 - x0 = dw := by omega
  have ey : y1 - y0 = dh := by omega
  have ewx : IntKind.i64.wrap dw = dw := IntWalk.i64_in _ ⟨by omega, by omega⟩
  have ewy : IntKind.i64.wrap dh = dh := IntWalk.i64_in _ ⟨by omega, by omega⟩
  rw [hx1, hy1, hdw, hdh]
  unfold rectV
  clear hx1 hy1 hdw hdh hw hh
  go_enter Tryz.func41, Tryz.ntmps41
  go_wp2
  exact bodyPost_ret (v := .agg #[.int .i64 dw, .int .i64 dh]) (by simp [results, Tryz.results41, go_sem]) rfl ⟨rfl, ((Kept.refl _ _).alloc _).alloc _⟩
end Go.Proofs.YtghjlekdibcjdaaGreatDoor
/- The quality's tables and the stream of a gray image as plain functions; what holds on the walk of Encode. -/
namespace Go.Proofs.YtghjlekdibcjdaaGreatDoor
open Go.Deep Go.RowKit Go.Extern.Stop Go.Stop Go.Extern
set_option linter.unusedVariables false
/-- A quality within its limits, the factor that it stands for, an element of a quantization table. -/
def qualOf (q : Int) : Int := if q < 1 then 1 else if 100 < q then 100 else q
def scaleOf (q : Int) : Int := if q < 50 then 5000 / q else 200 - q * 2
def elemOf (u : Nat) (sc : Int) : Int := if ((u : Int) * sc + 50) / 100 < 1 then 1 else if 255 < ((u : Int) * sc + 50) / 100 then 255 else ((u : Int) * sc + 50) / 100
def quantOf (U : Nat → Nat) (sc : Int) (j : Nat) : Nat := (elemOf (U j) sc).toNat
theorem elemOf_in (u : Nat) (sc : Int) : 1 ≤ elemOf u sc ∧ elemOf u sc ≤ 255 := by
  unfold elemOf
  split
  · omega
  · split <;> omega
theorem quantOf_in (U : Nat → Nat) (sc : Int) (j : Nat) : 1 ≤ quantOf U sc j ∧ quantOf U sc j ≤ 255 := by
  have := elemOf_in (U j) sc
  unfold quantOf
  omega
theorem quantOf_int (U : Nat → Nat) (sc : Int) (j : Nat) : (quantOf U sc j : Int) = elemOf (U j) sc := by
  have := elemOf_in (U j) sc
  unfold quantOf
  omega
theorem scale_in (q : Int) : 0 ≤ scaleOf (qualOf q) ∧ scaleOf (qualOf q) ≤ 5000 := by
  have h : 1 ≤ qualOf q ∧ qualOf q ≤ 100 := by
    unfold qualOf
    split
    · omega
    · split <;> omega
  unfold scaleOf
  generalize qualOf q = x at *
  split
  · have h1 := Int.ediv_nonneg (show (0 : Int) ≤ 5000 by omega) (show 0 ≤ x by omega)
    have h2 := Int.ediv_le_self (a := 5000) x (by omega)
    omega
  · omega
/-- The headers of a gray image, and its stream. -/
def hdrG (Q : Nat → Nat) (wd hg : Nat) : List Nat := ((([255, 216] ++ (mkr 219 132 ++ qs Q 2)) ++ (mkr 192 11 ++ sofB wd hg 1)) ++ (mkr 196 210 ++ dhts 2))
def streamG (Q : Nat → Nat) (wd hg : Nat) (P : Nat → Nat) : List Nat := (grayScan Q wd hg P (hdrG Q wd hg ++ sosY, 0, 0)).1 ++ [255, 217]
theorem hdrG_len (Q : Nat → Nat) (wd hg : Nat) : (hdrG Q wd hg).length ≤ 600 := by
  have h := dhts_len 2 (by omega)
  unfold hdrG
  simp only [List.length_append, mkr_len, qs_len]
  have h2 : (sofB wd hg 1).length = 9 := rfl
  rw [h2]
  simp only [List.length_cons, List.length_nil]
  have h3 : (dhts 2).length = 208 := by decide +kernel
  omega
theorem grayScan_len (Q : Nat → Nat) {wd hg : Nat} (P : Nat → Nat) (h1 : 1 ≤ wd) (h2 : 1 ≤ hg) (h : wd * hg ≤ 65536) (s : Bw) (hs : s.1.length ≤ 4096) : (grayScan Q wd hg P s).1.length ≤ 200000000 := by
  have h3 := grayRows_len Q wd hg P (s, 0) ((hg + 7) / 8)
  have h4 := blocks_all h1 h2 h (Nat.le_refl ((hg + 7) / 8))
  have h5 := emitN_len (grayRows Q wd hg P (s, 0) ((hg + 7) / 8)).1 127 7
  unfold grayScan
  generalize (wd + 7) / 8 * ((hg + 7) / 8) = m at *
  generalize (emitN (grayRows Q wd hg P (s, 0) ((hg + 7) / 8)).1 127 7).1.length = l0 at *
  generalize (grayRows Q wd hg P (s, 0) ((hg + 7) / 8)).1.1.length = l1 at *
  simp only at h3
  generalize s.1.length = l2 at *
  omega
/-- The listed variable unscaledQuant. -/
def UAt (U : Nat → Nat) (w : World) : Prop := ∀ i, i < 128 → w.cell? ⟨0, i, none⟩ = some (.int .u8 (U i : Int))
/-- A new encoder's cells, and with its tables. -/
def encZ : Nat → Value := fun j => if j < 2 then .nilIface else if j < 18 then .int .u8 0 else if j < 20 then .int .u32 0 else if j < 148 then .int .u8 0 else .slice none 0 0
def encB (bb : Nat) (L : Nat → Nat) : Nat → Value := fun j => if j = 0 then .iface 97 (.pointer (some ⟨bb, 0, none⟩)) else if j = 1 then .nilIface else if j < 18 then .int .u8 0 else if j < 20 then .int .u32 0 else if j < 148 then .int .u8 0 else lutSl L (j - 148)
def encQ (bb : Nat) (L Q : Nat → Nat) (n : Nat) : Nat → Value := fun j => if 20 ≤ j ∧ j < 20 + n then .int .u8 (Q (j - 20) : Int) else encB bb L j
theorem encQ_step (bb : Nat) (L Q : Nat → Nat) (n : Nat) (v : Value) (hv : v = .int .u8 (Q n : Int)) (j : Nat) : (if j = 20 + n then v else encQ bb L Q n j) = encQ bb L Q (n + 1) j := by
  unfold encQ
  by_cases e : j = 20 + n
  · subst e
    rw [if_pos rfl, if_pos (by omega), hv, show 20 + n - 20 = n by omega]
  · rw [if_neg e]
    by_cases e2 : 20 ≤ j ∧ j < 20 + n
    · rw [if_pos e2, if_pos (by omega)]
    · rw [if_neg e2, if_neg (by omega)]
theorem lut_store (bb : Nat) (L : Nat → Nat) (j : Nat) (hj : j < 152) : (if j = 0 then Value.iface 97 (.pointer (some ⟨bb, 0, none⟩)) else if 148 ≤ j ∧ j < 148 + 4 then lutSl L (j - 148) else encZ j) = encB bb L j := by
  unfold encB encZ
  by_cases e0 : j = 0
  · rw [if_pos e0, if_pos e0]
  · rw [if_neg e0, if_neg e0]
    by_cases e1 : j = 1
    · subst e1; rfl
    · rw [if_neg e1]
      by_cases e2 : j < 18
      · rw [if_neg (by omega), if_neg (by omega), if_pos e2, if_pos e2]
      · rw [if_neg e2]
        by_cases e3 : j < 20
        · rw [if_neg (by omega), if_neg (by omega), if_neg e2, if_pos e3, if_pos e3]
        · rw [if_neg e3]
          by_cases e4 : j < 148
          · rw [if_neg (by omega), if_neg (by omega), if_neg e2, if_neg e3, if_pos e4, if_pos e4]
          · rw [if_pos (by omega), if_neg e2, if_neg e3, if_neg e4]
section
variable {P : Program}
/-- A store into the midst of a row, the world behind it under a name of its own. -/
theorem wpList_store_part {ops : Array Oper} {rest : List Oper} {op : Oper} {a : Act} {w : World} {Q : Exit → Act → World → Prop} (hgd : op.guard = none) (ty : TypeId) (x y : Operand) (ho : op.op = .store ty x y)
    (b o m : Nat) {g : Nat → Value} (hx : a.eval x = .pointer (some ⟨b, o, none⟩)) (hy : a.eval y = .agg (agg m g)) {t : TypeId} {n : Nat} {f : Nat → Value} (hr : w.rowIs b t n f) (hm : o + m ≤ n)
    (hi : (P.info? ty).map (·.size) = some m) (h1 : ∀ i, (g i).oneCell' = true)
    (h : ∀ W, Kept (fun k => k ≠ b) w W → W.rowIs b t n (fun j => if o ≤ j ∧ j < o + m then g (j - o) else f j) → wpList P ops Q rest (a.put op.dst undef) W) : wpList P ops Q (op :: rest) a w :=
  wpList_store_rowIs hgd ty x y ho b o m hx hy hr hm hi h1 (h _ ((Kept.refl _ _).lay _ _ _ _ (fun _ h => h rfl)) (rowIs_lay hr o m g))
end
theorem lutSl_one (L : Nat → Nat) (i : Nat) : (lutSl L i).oneCell' = true := rfl
theorem size94 : (Tryz.prog.info? 94).map (·.size) = some 152 := by kernel_rfl
theorem z_noWriter (v : Value) (w : World) : (Instr.typeAssert (.iface 65 v) 82 86 true).run Tryz.prog w = .ok (.tuple #[.nilIface, .bool false]) w := run_typeAssert_lacksB Tryz.underlying86 (by kernel_rfl) (by kernel_rfl) v 82 w
end Go.Proofs.YtghjlekdibcjdaaGreatDoor
