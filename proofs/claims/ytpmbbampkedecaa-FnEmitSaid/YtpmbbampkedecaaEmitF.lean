/- The contract of spec.Coded. -/
import Derived.Test.YtpmbbampkedecaaEmitE
namespace Go.Proofs.Ytpmbbampkedecaa
open Go.Deep Go.RowKit
/-- What spec.Coded asks of one number. -/
def NumOk (z0 z1 : List Int) (j : Nat) : Prop := 1 ≤ (z1.getD j 0).toNat ∧ (z1.getD j 0).toNat ≤ 16 ∧ (z0.getD j 0).toNat < 2 ^ (z1.getD j 0).toNat
def nsOf (z : List Int) (j : Nat) : Nat := (z.getD j 0).toNat
/-- What spec.Coded answers. -/
def CodedPost (z0 z1 : List Int) (len0 len1 : Nat) (w : World) (e : Ending) (w' : World) : Prop :=
  ∃ (v : Value) (ok : Bool), e = .returned (.tuple #[v, .bool ok]) ∧ Below w.heap.size w w' ∧
    (ok = true → len0 = len1 ∧ (∀ j, j < len0 → NumOk z0 z1 j) ∧ w'.ownsRow w.heap.size 5 1 v (cellsN (fin (putAll (nsOf z0) (nsOf z1) len0))).length (cellsN (fin (putAll (nsOf z0) (nsOf z1) len0))))
theorem pow16 {l : Nat} (h : l ≤ 16) : 1 ≤ 2 ^ l ∧ 2 ^ l ≤ 65536 := by
  have h1 : 2 ^ l ≤ 2 ^ 16 := Nat.pow_le_pow_right (by omega) h
  have h2 := Nat.two_pow_pos l
  omega
set_option maxHeartbeats 1000000 in
set_option maxRecDepth 100000 in
theorem coded_any (a0 a1 : Option Addr) (len0 cap0 len1 cap1 : Nat) (z0 z1 : List Int) (w : World) (h0 : IsRow .u32 w a0 len0 cap0 z0) (h1 : IsRow .u32 w a1 len1 cap1 z1) (hl : len0 ≤ 2147483647) (hl1 : len1 ≤ 2147483647) :
    Calls Try.prog 12 #[.slice a0 len0 cap0, .slice a1 len1 cap1] w (CodedPost z0 z1 len0 len1 w) := by
  by_cases hne : len0 = len1
  case neg =>
    have hb : (((len0 : Nat) : Int) == ((len1 : Nat) : Int)) = false := by simp; omega
    have hb2 : (((len0 : Nat) : Int) != ((len1 : Nat) : Int)) = true := by simp; omega
    go_enter Try.func12, Try.ntmps12
    go_wp2_with fail
    go_ret2
    exact ⟨_, false, rfl, Below.refl _ _, fun h => by cases h⟩
  subst hne
  have H0 := Lib.hid h0
  have H1 := Lib.hid h1
  clear h0 h1
  have hb : (((len0 : Nat) : Int) == ((len0 : Nat) : Int)) = true := by simp
  have hb2 : (((len0 : Nat) : Int) != ((len0 : Nat) : Int)) = false := by simp
  have hs0 : SinkIs w.heap.size w.heap.size (putAll (nsOf z0) (nsOf z1) 0) (w.alloc (.cells #[.slice none 0 0, .int .i64 0, .int .i64 0] 48)) :=
    ⟨Nat.le_refl _, .slice none 0 0, heap_alloc_new w _, World.ownsRow_nil _ _ _ _⟩
  go_enter Try.func12, Try.ntmps12
  go_wp2_with fail
  go_loopg [18] len0 (fun q si wr => ∃ i : Nat, i ≤ len0 ∧ q = len0 - i ∧ si = .int .i64 i ∧ SinkIs w.heap.size w.heap.size (putAll (nsOf z0) (nsOf z1) i) wr ∧ Below w.heap.size w wr ∧ Hid (∀ j, j < i → NumOk z0 z1 j))
  case atStart => exact ⟨0, by omega, by omega, rfl, hs0, (Below.refl _ _).alloc (Nat.le_refl _) _, Lib.hid fun j hj => by omega⟩
  case round =>
    clear hs0
    obtain ⟨i, hi, rfl, rfl, hS, hBl, hN⟩ := hrel
    by_cases hlt : i < len0
    · obtain ⟨b0, off0, rfl, hlc0, _, hc0, hbw0⟩ := H0.out.cells (by omega)
      obtain ⟨b1, off1, rfl, hlc1, _, hc1, hbw1⟩ := H1.out.cells (by omega)
      have hx := H0.out.u32 i
      have hl0 := H1.out.u32 i
      obtain ⟨x, hxx⟩ : ∃ x : Nat, nsOf z0 i = x := ⟨_, rfl⟩
      obtain ⟨l, hll⟩ : ∃ l : Nat, nsOf z1 i = l := ⟨_, rfl⟩
      have ex : z0.getD i 0 = (x : Int) := by rw [← hxx]; unfold nsOf; omega
      have el : z1.getD i 0 = (l : Int) := by rw [← hll]; unfold nsOf; omega
      have c0 : wr.cell? ⟨b0, off0 + i, none⟩ = some (.int .u32 (x : Int)) := by rw [← ex]; exact (hBl.cell (p := ⟨b0, off0 + i, none⟩) hbw0).trans (hc0 i (by omega))
      have c1 : wr.cell? ⟨b1, off1 + i, none⟩ = some (.int .u32 (l : Int)) := by rw [← el]; exact (hBl.cell (p := ⟨b1, off1 + i, none⟩) hbw1).trans (hc1 i (by omega))
      rw [ex] at hx
      rw [el] at hl0
      have E := Lib.hid (And.intro hxx (And.intro hll (And.intro ex el)))
      clear hxx hll ex el hc0 hc1
      have HS := Lib.hid (And.intro hS hBl)
      clear hS hBl
      by_cases hA : l < 1
      · go_wp2_with fail
        go_ret2
        exact ⟨_, false, rfl, HS.out.2, fun h => by cases h⟩
      · by_cases hB : 16 < l
        · go_wp2_with fail
          go_ret2
          exact ⟨_, false, rfl, HS.out.2, fun h => by cases h⟩
        · have hp := pow16 (l := l) (by omega)
          have e2 : ((2 : Int) ^ l % 4294967296) = ((2 ^ l : Nat) : Int) := by
            have e3 : (2 : Int) ^ l = ((2 ^ l : Nat) : Int) := by simp
            rw [e3]
            omega
          by_cases hC : x < 2 ^ l
          · have hCi : (x : Int) < 2 ^ l % 4294967296 := by rw [e2]; omega
            have hlen := putAll_len (nsOf z0) (nsOf z1) i fun j hj => (hN.out j hj).2.1
            have CP := Lib.hid (put_any w.heap.size w.heap.size (putAll (nsOf z0) (nsOf z1) i) x l wr HS.out.1 (putAll_ok _ _ i) (by omega) (by omega) (by omega) (by have := HS.out.2.size; omega))
            have HC := Lib.hid hC
            clear e2 hC hp hlen
            go_wp2_with fail
            refine CP.out.mono ?_
            rintro e w1 ⟨rfl, hS1, hB1⟩
            go_wp2_with fail
            go_roundg (len0 - (i + 1))
            case measure => go_light; omega
            case rel =>
              go_light
              refine ⟨i + 1, by omega, rfl, by go_num, ?_, HS.out.2.trans hB1, Lib.hid fun j hj => ?_⟩
              · show SinkIs _ _ (putTo (putAll (nsOf z0) (nsOf z1) i) (nsOf z0 i) (nsOf z1 i) (nsOf z1 i)) _
                rw [E.out.1, E.out.2.1]
                exact hS1
              · by_cases ej : j = i
                · subst ej
                  have h1 := E.out.1
                  have h2 := E.out.2.1
                  have h3 := HC.out
                  unfold nsOf at h1 h2
                  unfold NumOk
                  rw [h1, h2]
                  exact ⟨by omega, by omega, h3⟩
                · exact hN.out j (by omega)
          · have hCi : 2 ^ l % 4294967296 ≤ (x : Int) := by rw [e2]; omega
            clear e2 hC hp
            go_wp2_with fail
            go_ret2
            exact ⟨_, false, rfl, HS.out.2, fun h => by cases h⟩
    · have ei : i = len0 := by omega
      subst ei
      have hlen := putAll_len (nsOf z0) (nsOf z1) i fun j hj => (hN.out j hj).2.1
      have CA := Lib.hid (align_any w.heap.size w.heap.size (putAll (nsOf z0) (nsOf z1) i) wr hS (putAll_ok _ _ i) (by omega) (Nat.le_trans (Nat.le_refl _) hBl.size))
      have HS := Lib.hid hBl
      clear hS hBl hlen
      go_wp2_with fail
      refine CA.out.mono ?_
      rintro e w1 ⟨rfl, hS1, hB1⟩
      obtain ⟨_, v, hk, ho⟩ := hS1
      simp only at hk ho
      obtain ⟨d0, _, _, _⟩ := sink_cells hk
      have HO := Lib.hid (And.intro ho hB1)
      clear hk ho hB1
      go_wp2_with fail
      go_ret2
      exact ⟨v, true, rfl, HS.out.trans HO.out.2, fun _ => ⟨rfl, hN.out, HO.out.1⟩⟩
end Go.Proofs.Ytpmbbampkedecaa
