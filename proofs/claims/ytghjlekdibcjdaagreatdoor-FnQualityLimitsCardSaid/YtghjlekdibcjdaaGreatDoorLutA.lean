/- Contracts of the functions that FnCodes calls: the program's side. -/
import Derived.Test.YtghjlekdibcjdaaGreatDoorSpecs
import Derived.Test.YtghjlekdibcjdaaGreatDoorCodesLaw
import Derived.BigRegion
import Derived.Deep.OwnRows
namespace Go.Proofs.YtghjlekdibcjdaaGreatDoor
open Go.Deep Go.RowKit
/-- The cells of a huffmanSpec. -/
def specCells (c : Nat → Nat) (a : Option Addr) (len cap : Nat) : Nat → Value := fun j => if j < 16 then .int .u8 (c j) else .slice a len cap
theorem info76 : (Tryz.prog.info? 76).map (fun i => (i.zero, i.size, i.bytes)) = some (some (.int .u32 0), 1, 4) := by kernel_rfl

/-- The greatest of the first symbols. -/
def greatest (sym : Nat → Nat) : Nat → Nat
  | 0 => 0
  | i + 1 => max (greatest sym i) (sym i)
theorem greatest_le (sym : Nat → Nat) : ∀ {n i : Nat}, i < n → sym i ≤ greatest sym n
  | 0, _, h => by omega
  | n + 1, i, h => by
    simp only [greatest]
    by_cases e : i = n
    · subst e; omega
    · have := greatest_le sym (n := n) (i := i) (by omega); omega
theorem greatest_255 {sym : Nat → Nat} (h : ∀ i, sym i ≤ 255) : ∀ n, greatest sym n ≤ 255
  | 0 => by simp [greatest]
  | n + 1 => by have := greatest_255 h n; have := h n; simp only [greatest]; omega
/-- An entry of the compiled table. -/
def enc (t : Nat → Nat × Nat) : Nat → Int := fun s => (((t s).1 * 16777216 + (t s).2 : Nat) : Int)

/-- What holds in init's first loop. -/
structure IA (w wr : World) (hb hi nn : Nat) (gv : Nat → Value) (T : TypeId) (f : Nat → Value) : Prop where
  kept : Kept (fun k => k ≠ hb) w wr
  size : wr.heap.size = w.heap.size + 1
  spec : wr.rowIs w.heap.size 119 17 f
  var : wr.rowIs hb T nn gv
/-- What holds in init's other loops. -/
structure IB (w wr : World) (hb hi nn : Nat) (gv : Nat → Value) (T : TypeId) (f : Nat → Value) (m : Nat) (t : Nat → Nat × Nat) : Prop where
  kept : Kept (fun k => k ≠ hb) w wr
  spec : wr.rowIs w.heap.size 119 17 f
  var : wr.rowIs hb T nn fun j => if j = hi then .slice (some ⟨w.heap.size + 1, 0, none⟩) (m + 1) (m + 1) else gv j
  tab : wr.rowIs (w.heap.size + 1) 76 (m + 1) (ints .u32 (enc t))
theorem IA.make {w wr : World} {hb hi nn : Nat} {gv : Nat → Value} {T : TypeId} {f : Nat → Value} (h : IA w wr hb hi nn gv T f) (hbw : hb < w.heap.size) (m : Nat) (c sym : Nat → Nat) :
    IB w ((wr.alloc (.cells (madeCells #[.int .u32 0] (m + 1)) 76)).setCell ⟨hb, hi, none⟩ (.slice (some ⟨w.heap.size + 1, 0, none⟩) (m + 1) (m + 1))) hb hi nn gv T f m (tb c sym 0 0) := by
  have hmade := World.rowIs_made wr (.int .u32 0) (m + 1) 76
  rw [h.size] at hmade
  refine ⟨(h.kept.alloc _).setCell (fun _ h => h rfl) _, (h.spec.alloc _).setOther (by simp; omega) _, (h.var.alloc _).set hi _, (hmade.setOther (by simp; omega) _).congr fun j _ => by simp [ints, enc, tb, fill, YtghjlekdibcjdaaGreatDoor.tab]⟩
theorem IB.step {w wr : World} {hb hi nn : Nat} {gv : Nat → Value} {T : TypeId} {f : Nat → Value} {m : Nat} {c sym : Nat → Nat} {i j sv : Nat} {v : Int} (h : IB w wr hb hi nn gv T f m (tb c sym i j)) (hbw : hb < w.heap.size) (hs : sym (cnt c i + j) = sv)
    (hv : v = (((i + 1) * 16777216 + (cd c i + j) : Nat) : Int)) :
    IB w ((wr.setCell ⟨w.heap.size + 1, sv, none⟩ (.int .u32 v)).drew) hb hi nn gv T f m (tb c sym i (j + 1)) :=
  ⟨(h.kept.setCell (fun h => by simp at h; omega) _).drew, (h.spec.setOther (by simp) _).drew, (h.var.setOther (by simp; omega) _).drew, ((h.tab.set _ _).congr fun q _ => by
    simp only [ints, enc, tb_step, hs, hv]
    by_cases e : q = sv
    · rw [if_pos e, if_pos e]
    · rw [if_neg e, if_neg e]).drew⟩

set_option maxHeartbeats 1000000 in
set_option maxRecDepth 100000 in
theorem init_any (hb hi nn : Nat) (gv : Nat → Value) (hin : hi < nn) (hgv : gv hi = .slice none 0 0) (T : TypeId) (a : Option Addr) (len cap : Nat) (z : List Int) (c : Nat → Nat) (hc : ∀ i, c i ≤ 255) (w : World) (h : IsRow .u8 w a len cap z) (good : Good c len) (hx : ∀ b off, a = some ⟨b, off, none⟩ → b ≠ hb) (hh : w.rowIs hb T nn gv) :
    Calls Tryz.prog 49 #[.pointer (some ⟨hb, hi, none⟩), .agg (agg 17 (specCells c a len cap))] w fun e w' => e = .returned (.tuple #[]) ∧ Kept (fun k => k ≠ hb) w w' ∧
      ∃ B, w.heap.size ≤ B ∧ w'.rowIs hb T nn (fun j => if j = hi then .slice (some ⟨B, 0, none⟩) (greatest (fun k => (z.getD k 0).toNat) len + 1) (greatest (fun k => (z.getD k 0).toNat) len + 1) else gv j) ∧
        w'.rowIs B 76 (greatest (fun k => (z.getD k 0).toNat) len + 1) (ints .u32 (enc (tab c (fun k => (z.getD k 0).toNat) 16))) := by
  have hlen := h.len_le
  have HH := Lib.hid h
  clear h
  have HC := Lib.hid hc
  clear hc
  have hpos := good.pos
  obtain ⟨b, off, rfl, hlc, _, hcell, hbw⟩ := HH.out.cells hpos
  have HCELL := Lib.hid hcell
  have hne := hx b off rfl
  clear hx
  clear hcell
  have hspec := rowIs_agg w 119 17 (specCells c (some ⟨b, off, none⟩) len cap)
  have c16 : (w.alloc (.cells (agg 17 (specCells c (some ⟨b, off, none⟩) len cap)) 119)).cell? ⟨w.heap.size, 16, none⟩ = some (.slice (some ⟨b, off, none⟩) len cap) := hspec.cell (i := 16) (by omega)
  go_enter Tryz.func49, Tryz.ntmps49
  have hsym : ∀ i, (fun k => (z.getD k 0).toNat) i ≤ 255 := fun i => by have := HH.out.u8 i; simp only; omega
  have HS := Lib.hid hsym
  clear hsym
  have hbw2 := hh.lt
  go_wp2_with fail
  go_loopg [4, 15] len (fun k s4 s15 wr => ∃ i : Nat, i ≤ len ∧ k = len - i ∧ s4 = .int .i64 (greatest (fun k => (z.getD k 0).toNat) i : Int) ∧ s15 = .int .i64 i ∧ IA w wr hb hi nn gv T (specCells c (some ⟨b, off, none⟩) len cap))
  case atStart => exact ⟨0, by omega, rfl, rfl, rfl, (Kept.refl _ _).alloc _, by simp, hspec, hh.alloc _⟩
  case round =>
    obtain ⟨i, hi1, rfl, rfl, rfl, hs⟩ := hrel
    clear hspec c16
    have hg255 := greatest_255 HS.out i
    by_cases hlt : i < len
    · obtain ⟨sv, hsv⟩ : ∃ sv : Nat, (z.getD i 0).toNat = sv := ⟨_, rfl⟩
      have hsb := HH.out.u8 i
      have hs255 : sv ≤ 255 := by omega
      have hsz : z.getD i 0 = (sv : Int) := by omega
      have c0 : wr.cell? ⟨b, off + i, none⟩ = some (.int .u8 (sv : Int)) := by
        rw [← hsz]
        exact hs.kept.cellOf (HCELL.out i (by omega)) hne
      have hgs : greatest (fun k => (z.getD k 0).toNat) (i + 1) = max (greatest (fun k => (z.getD k 0).toNat) i) sv := by rw [← hsv]; rfl
      have HG := Lib.hid hgs
      clear hsv hsz hsb hgs
      generalize hgi : greatest (fun k => (z.getD k 0).toNat) i = gi at *
      by_cases hgt : gi < sv
      · go_wp2
        go_roundg (len - (i + 1))
        case measure => go_light; omega
        case rel => go_light; exact ⟨i + 1, by omega, rfl, by rw [HG.out, Nat.max_eq_right (by omega)], by go_num, hs⟩
      · go_wp2
        go_roundg (len - (i + 1))
        case measure => go_light; omega
        case rel => go_light; exact ⟨i + 1, by omega, rfl, by rw [HG.out, Nat.max_eq_left (by omega)], by go_num, hs⟩
    · have ei : i = len := by omega
      obtain ⟨m, hm⟩ : ∃ m, greatest (fun k => (z.getD k 0).toNat) len = m := ⟨_, rfl⟩
      rw [ei, hm] at hg255
      rw [ei, hm]
      have hmk := run_make_row' (P := Tryz.prog) 90 76 (.int .u32 0) 4 Tryz.underlying90 info76 rfl .i64 .i64 (m + 1) (by omega) (by omega)
      have ec : ((m + 1 : Nat) : Int) = (m : Int) + 1 := by omega
      rw [ec] at hmk
      have d0 : ∀ o, (wr.alloc o).cell? ⟨hb, hi, none⟩ = some (.slice none 0 0) := fun o => by rw [(hs.var.alloc o).cell hin, hgv]
      have d1 : ∀ o, (wr.alloc o).frozen? ⟨hb, hi, none⟩ = false := fun o => (hs.var.alloc o).frozen _
      clear ec ei
      go_wp2_with fail
      have hB := hs.make hbw2 m c (fun k => (z.getD k 0).toNat)
      rw [← hs.size] at hB
      have hsz := hs.size
      have HSZ := Lib.hid hsz
      clear hmk d0 d1 hsz hs
      have HM := Lib.hid hm
      clear hm
      go_loopg [7, 8, 9] 16 (fun k s7 s8 s9 wr => ∃ i : Nat, i ≤ 16 ∧ k = 16 - i ∧ s7 = .int .u32 (cd c i : Int) ∧ s8 = .int .i64 (cnt c i : Int) ∧ s9 = .int .i64 i ∧ IB w wr hb hi nn gv T (specCells c (some ⟨b, off, none⟩) len cap) m (tb c (fun k => (z.getD k 0).toNat) i 0))
      case atStart => exact ⟨0, by omega, rfl, rfl, rfl, rfl, by rw [HSZ.out] at hB ⊢; exact hB⟩
      case round =>
        obtain ⟨i, hi1, rfl, rfl, rfl, rfl, hs⟩ := hrel
        clear hB
        by_cases hlt : i < 16
        · have hltd : decide ((i : Int) < 16) = true := by simp; omega
          have hci := HC.out i
          have hcd := cd_small HC.out (i := i) (by omega)
          have hcn := cnt_le HC.out i
          go_wp2
          go_loopg [7, 8, 11] (c i) (fun k s7 s8 s11 wr => ∃ j : Nat, j ≤ c i ∧ k = c i - j ∧ s7 = .int .u32 ((cd c i : Int) + j) ∧ s8 = .int .i64 ((cnt c i : Int) + j) ∧ s11 = .int .u8 j ∧ IB w wr hb hi nn gv T (specCells c (some ⟨b, off, none⟩) len cap) m (tb c (fun k => (z.getD k 0).toNat) i j))
          case atStart => exact ⟨0, by omega, rfl, by simp, by simp, rfl, hs⟩
          case round =>
            obtain ⟨j, hj, rfl, rfl, rfl, rfl, hs⟩ := hrel
            have x0 : wr.cell? ⟨w.heap.size, i, none⟩ = some (.int .u8 (c i : Int)) := by rw [hs.spec.cell (by omega)]; simp only [specCells]; rw [if_pos hlt]
            have x1 : wr.cell? ⟨w.heap.size, 16, none⟩ = some (.slice (some ⟨b, off, none⟩) len cap) := hs.spec.cell (by omega)
            by_cases hjc : j < c i
            · have hjd : decide ((j : Int) < (c i : Int)) = true := by simp; omega
              have hk := good.lt hlt hjc
              have hco := good.code hlt hjc
              obtain ⟨sv, hsv⟩ : ∃ sv : Nat, (z.getD (cnt c i + j) 0).toNat = sv := ⟨_, rfl⟩
              have hsb := HH.out.u8 (cnt c i + j)
              have hs255 : sv ≤ 255 := by omega
              have hsm : sv ≤ m := by rw [← HM.out, ← hsv]; exact greatest_le (fun k => (z.getD k 0).toNat) hk
              have hsz : z.getD (cnt c i + j) 0 = (sv : Int) := by omega
              have c0 : wr.cell? ⟨b, off + (cnt c i + j), none⟩ = some (.int .u8 (sv : Int)) := by
                rw [← hsz]
                exact hs.kept.cellOf (HCELL.out _ (by omega)) hne
              obtain ⟨old, hold⟩ : ∃ old, enc (tb c (fun k => (z.getD k 0).toNat) i j) sv = old := ⟨_, rfl⟩
              have c1 : wr.cell? ⟨w.heap.size + 1, sv, none⟩ = some (.int .u32 old) := by rw [hs.tab.cell (by omega)]; simp only [ints, hold]
              have c2 : wr.frozen? ⟨w.heap.size + 1, sv, none⟩ = false := hs.tab.frozen _
              have c3 : wr.cell? ⟨hb, hi, none⟩ = some (.slice (some ⟨w.heap.size + 1, 0, none⟩) (m + 1) (m + 1)) := by rw [hs.var.cell hin, if_pos rfl]
              have HSV := Lib.hid hsv
              clear hsv hsz hsb hold
              obtain ⟨V, hV, hor⟩ : ∃ V : Int, V = (((i + 1) * 16777216 + (cd c i + j) : Nat) : Int) ∧ bits BinOp.or IntKind.u32 (((i : Int) + 1) * 16777216) ((cd c i : Int) + j) = V := ⟨_, rfl, by
                have := u32_or_nat ((i + 1) * 16777216) (cd c i + j) (by omega) (by omega)
                rw [nat_join 24 _ _ (by omega) (by omega)] at this
                rw [← this]
                congr 1⟩
              have HV := Lib.hid hV
              clear hV
              go_wp2_with fail
              go_region
              go_wp2
              go_roundg (c i - (j + 1))
              case measure => go_light; omega
              case rel =>
                go_light
                exact ⟨j + 1, by omega, rfl, by go_num, by go_num, rfl, hs.step hbw2 HSV.out HV.out⟩
            · have hjd : decide ((j : Int) < (c i : Int)) = false := by simp; omega
              have ej : j = c i := by omega
              rw [ej] at hs
              go_wp2
              go_roundg (16 - (i + 1))
              case measure => go_light; omega
              case rel =>
                go_light
                exact ⟨i + 1, by omega, rfl, by simp only [cd]; congr 1; omega, by simp only [cnt]; congr 1; try omega, rfl, hs⟩
        · have hltd : decide ((i : Int) < 16) = false := by simp; omega
          have ei : i = 16 := by omega
          rw [ei] at hs
          go_wp2
          go_end0
          exact ⟨rfl, hs.kept, w.heap.size + 1, by omega, by rw [HM.out]; exact hs.var, by rw [HM.out]; exact hs.tab⟩
end Go.Proofs.YtghjlekdibcjdaaGreatDoor
