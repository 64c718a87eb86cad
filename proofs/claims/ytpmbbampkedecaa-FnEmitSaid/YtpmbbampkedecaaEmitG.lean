/- The walk of the law FnEmit. -/
import Derived.Test.YtpmbbampkedecaaEmitF
import Derived.BigQuiet
import Derived.Deep.QuietTactic
namespace Go.Proofs.Ytpmbbampkedecaa
open Go.Deep Go.RowKit
/-- The string of some bytes. -/
def strN (l : List Nat) : ByteArray := (l.map Int.ofNat).foldl (fun r n => r.push (UInt8.ofNat n.toNat)) ByteArray.empty
theorem run_str_own {w : World} {B : Nat} {v : Value} {n : Nat} {l : List Nat} (h : w.ownsRow B 5 1 v n (cellsN l)) : (convert 24 9 v).run Try.prog w = .ok (.string (strN l)) w := by
  obtain ⟨h1, h2⟩ := h
  rcases h2 with ⟨rfl, rfl⟩ | ⟨g, cap, cur, rfl, e2, e3, e4, e5, e6, e7⟩
  · have hl : l = [] := by
      cases l with
      | nil => rfl
      | cons x r => simp [cellsN] at h1
    subst hl
    have e : ∀ W : World, (convert 24 9 (.slice none 0 0)).run Try.prog W = .ok (.string (strN [])) W := fun W => by kernel_rfl
    exact e w
  · rw [run_convert_bytes_string w 24 9 5 _ _ _ Try.underlying24 Try.underlying5 Try.underlying9]
    have hlen : (cellsN l).length = n := by omega
    have hc := run_loadCells_list (P := Try.prog) w ⟨g, 0, none⟩ (cellsN l) (fun j u hu => Lib.cells_of_row e3 n j u (by rw [show n = n * 1 by omega, e7]; exact hu))
    rw [hlen] at hc
    have e : (cellsN l).toArray = ((l.map Int.ofNat).map (Value.int .u8)).toArray := by simp [cellsN]
    rw [e] at hc
    exact run_bytesToString w _ n cap _ hc
theorem ownsRow_old {w w' : World} {B : Nat} {v : Value} {n : Nat} {xs : List Value} (h : w.ownsRow B 5 1 v n xs) (hb : Below w.heap.size w w') : w'.ownsRow B 5 1 v n xs := by
  obtain ⟨h1, h2⟩ := h
  refine ⟨h1, ?_⟩
  rcases h2 with h2 | ⟨g, cap, cur, e1, e2, e3, e4⟩
  · exact .inl h2
  · exact .inr ⟨g, cap, cur, e1, e2, by rw [hb.block g (Array.getElem?_eq_some_iff.1 e3).1]; exact e3, e4⟩
theorem isRow_below {k : IntKind} {w w' : World} {a : Option Addr} {len cap : Nat} {zs : List Int} (h : IsRow k w a len cap zs) (hb : Below w.heap.size w w') : IsRow k w' a len cap zs := by
  rcases h with h | ⟨x, rfl, hl, hm, hz, hcell, hw⟩
  · exact .inl h
  · refine .inr ⟨x, rfl, hl, hm, hz, fun i hi => ?_, hw⟩
    have hc := hcell i hi
    exact (hb.cell (p := x.add i) (World.block_lt_of_cell? w _ hc)).trans hc
theorem isRow_one {w : World} {b : Nat} {n : Int} (h : w.cell? ⟨b, 0, none⟩ = some (.int .u32 n)) (hn : (Lit.int .u32 n).wf = true) : IsRow .u32 w (some ⟨b, 0, none⟩) 1 1 [n] :=
  .inr ⟨_, rfl, by omega, by decide, rfl, fun i hi => by
    have : i = 0 := by simp at hi; omega
    subst this
    simpa [Addr.add] using h, by simpa using hn⟩
theorem emit_one (b0 b1 : Nat) (w : World) (c0 : w.cell? ⟨b0, 0, none⟩ = some (.int .u32 1)) (c1 : w.cell? ⟨b1, 0, none⟩ = some (.int .u32 8)) :
    Calls Try.prog 13 #[.slice (some ⟨b0, 0, none⟩) 1 1, .slice (some ⟨b1, 0, none⟩) 1 1] w fun e w' => ∃ g cap, e = .returned (.slice (some ⟨g, 0, none⟩) 1 cap) ∧ Below w.heap.size w w' := by
  refine (implEmit_any _ _ 1 1 1 [1] [8] w (isRow_one c0 (by decide)) (isRow_one c1 (by decide)) (by omega) (fun _ => 1) (fun _ => 8) (fun j hj => by
    have : j = 0 := by omega
    subst this
    exact ⟨rfl, rfl, by omega, by omega⟩)).mono fun e w' ⟨v, he, ho, hb⟩ => ?_
  have e1 : (cellsN (fin (putAll (fun _ => 1) (fun _ => 8) 1))).length = 1 := by decide
  obtain ⟨_, h2⟩ := ho
  rw [e1] at h2
  rcases h2 with ⟨_, h2⟩ | ⟨g, cap, cur, rfl, _⟩
  · omega
  · exact ⟨g, cap, he, hb⟩
theorem new_fst (w : World) (x y : Value) : ((w.alloc (.cells #[x] 39)).alloc (.cells #[y] 39)).cell? ⟨w.heap.size, 0, none⟩ = some x := by
  rw [World.cell?_alloc_past _ _ _ (by simp)]
  have h := heap_alloc_new w (.cells #[x] 39)
  unfold World.cell?
  simp only [h]
  rfl
theorem new_snd (w : World) (x y : Value) : ((w.alloc (.cells #[x] 39)).alloc (.cells #[y] 39)).cell? ⟨w.heap.size + 1, 0, none⟩ = some y := by
  have h := heap_alloc_new (w.alloc (.cells #[x] 39)) (.cells #[y] 39)
  simp only [World.size_alloc] at h
  unfold World.cell?
  simp only [h]
  rfl
/-- What is known behind the first call of Emit. -/
structure EmIs (w1 : World) (v g : Value) (S : ByteArray) (w' : World) : Prop where
  got : (convert 24 9 g).run Try.prog w' = .ok (.string S) w'
  want : (convert 24 9 v).run Try.prog w' = .ok (.string S) w'
  below : Below w1.heap.size w1 w'
set_option maxHeartbeats 1000000 in
set_option maxRecDepth 100000 in
theorem em_huge0 (a0 : Option Addr) (len0 cap0 : Nat) (a1 : Option Addr) (len1 cap1 : Nat) (w : World) (hl : len0 ≤ 9223372036854775807) (h : 2147483647 < len0) :
    Calls Try.prog 6 #[.slice a0 len0 cap0, .slice a1 len1 cap1] w fun e w' => e = .returned (.bool true) ∧ Below w.heap.size w w' := by
  go_enter Try.func6, Try.ntmps6
  go_wp2
  go_ret
  exact ⟨rfl, Below.refl _ _⟩
set_option maxHeartbeats 1000000 in
set_option maxRecDepth 100000 in
theorem em_huge1 (a0 : Option Addr) (len0 cap0 : Nat) (a1 : Option Addr) (len1 cap1 : Nat) (w : World) (hl : len1 ≤ 9223372036854775807) (h0 : len0 ≤ 2147483647) (h : 2147483647 < len1) :
    Calls Try.prog 6 #[.slice a0 len0 cap0, .slice a1 len1 cap1] w fun e w' => e = .returned (.bool true) ∧ Below w.heap.size w w' := by
  go_enter Try.func6, Try.ntmps6
  go_wp2
  go_ret
  exact ⟨rfl, Below.refl _ _⟩
set_option maxHeartbeats 6400000 in
set_option maxRecDepth 100000 in
theorem em_any (a0 : Option Addr) (len0 cap0 : Nat) (z0 : List Int) (a1 : Option Addr) (len1 cap1 : Nat) (z1 : List Int) (w : World) (h0 : IsRow .u32 w a0 len0 cap0 z0) (h1 : IsRow .u32 w a1 len1 cap1 z1) (hl : len0 ≤ 2147483647) (hl1 : len1 ≤ 2147483647) :
    Calls Try.prog 6 #[.slice a0 len0 cap0, .slice a1 len1 cap1] w fun e w' => e = .returned (.bool true) ∧ Below w.heap.size w w' := by
  have CC := Lib.hid (coded_any a0 a1 len0 cap0 len1 cap1 z0 z1 w h0 h1 hl hl1)
  have H0 := Lib.hid h0
  have H1 := Lib.hid h1
  clear h0 h1
  go_enter Try.func6, Try.ntmps6
  go_wp2_with fail
  refine CC.out.mono ?_
  rintro e w1 ⟨v, ok, rfl, hb, hok⟩
  have HB := Lib.hid hb
  clear hb CC
  cases ok
  · clear hok
    go_wp2_with fail
    go_quiet (fail)
    go_wp2_with fail
    go_ret
    exact ⟨rfl, have h := HB.out; ⟨h.os, h.tape, h.output, h.size, h.block⟩⟩
  · obtain ⟨rfl, hN, hown⟩ := hok rfl
    have HO := Lib.hid hown
    have HN := Lib.hid hN
    clear hok hown hN
    have CE : Hid (∀ W, Below w1.heap.size w1 W → Calls Try.prog 13 #[.slice a0 len0 cap0, .slice a1 len0 cap1] W fun e w' => ∃ g, e = .returned g ∧ EmIs w1 v g (strN (fin (putAll (nsOf z0) (nsOf z1) len0))) w') := Lib.hid fun W hW => by
      have r0 := isRow_below (isRow_below H0.out HB.out) hW
      have r1 := isRow_below (isRow_below H1.out HB.out) hW
      refine (implEmit_any _ _ len0 cap0 cap1 z0 z1 W r0 r1 hl (nsOf z0) (nsOf z1) fun j hj => ?_).mono fun e w' ⟨g, he, ho, hb⟩ => ⟨g, he, run_str_own ho, ?_, hW.trans (hb.mono hW.size)⟩
      · have h2 := H0.out.u32 j
        have h3 := H1.out.u32 j
        obtain ⟨n1, n2, n3⟩ := HN.out j hj
        unfold nsOf
        exact ⟨by omega, by omega, n2, n3⟩
      · exact run_str_own (ownsRow_old (ownsRow_old HO.out hW) hb)
    have hc0 : (convert 24 9 v).run Try.prog w1.drew = .ok (.string (strN (fin (putAll (nsOf z0) (nsOf z1) len0)))) w1.drew := run_str_own (show w1.drew.ownsRow _ 5 1 v _ _ from HO.out)
    have HL := Lib.hid (And.intro HN.out HO.out)
    generalize strN (fin (putAll (nsOf z0) (nsOf z1) len0)) = S at CE hc0
    clear HL HN HO H0 H1
    go_wp2_with fail
    have HBB := Lib.hid HB.out
    clear HB
    go_region_with (first | (go_at_call 13; (with_reducible refine (CE.out _ ((Below.refl _ _).drew)).mono ?_); rintro e w2 ⟨g, rfl, hE⟩; have hg := hE.got; have hv := hE.want; have HE := Lib.hid hE.below; clear hE) | (go_at_call 13; (first | (with_reducible refine (emit_one _ _ _ (new_fst _ _ _) (new_snd _ _ _)).mono ?_) | (with_reducible refine (emit_one _ _ _ (new_snd _ _ _) (new_fst _ _ _)).mono ?_)); rintro e w3 ⟨g3, cap3, rfl, hb3⟩))
    all_goals
      go_wp2
      go_ret
      refine ⟨rfl, ?_⟩
      have h1 := HBB.out.size
      have h2 := HE.out.size
      exact (((HBB.out.trans (HE.out.mono h1)).alloc (by omega) _).alloc (by simp; omega) _).trans (hb3.mono (by simp; omega))
end Go.Proofs.Ytpmbbampkedecaa
