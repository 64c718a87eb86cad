/- The contracts of spec.sink's put and align. -/
import Derived.Test.YtpmbbampkedecaaEmitC
import Derived.BigRegion
import Derived.Deep.RegionHeld3
import Derived.Deep.RegionLaw
import Derived.Deep.AppendLies
namespace Go.Proofs.Ytpmbbampkedecaa
open Go.Deep Go.RowKit
theorem implEmit_any (a0 a1 : Option Addr) (len cap0 cap1 : Nat) (z0 z1 : List Int) (w : World) (h0 : IsRow .u32 w a0 len cap0 z0) (h1 : IsRow .u32 w a1 len cap1 z1) (hl : len ≤ 2147483647)
    (ns ls : Nat → Nat) (hz : ∀ j, j < len → z0.getD j 0 = (ns j : Int) ∧ z1.getD j 0 = (ls j : Int) ∧ ls j ≤ 16 ∧ ns j < 2 ^ ls j) :
    Calls Try.prog 13 #[.slice a0 len cap0, .slice a1 len cap1] w fun e w' => ∃ v, e = .returned v ∧ w'.ownsRow w.heap.size 5 1 v (cellsN (fin (putAll ns ls len))).length (cellsN (fin (putAll ns ls len))) ∧ Below w.heap.size w w' := by
  have C := Lib.hid (zzEmit_any a0 a1 len cap0 cap1 z0 z1 w h0 h1 hl ns ls hz)
  clear h0 h1 hz
  go_enter Try.func13, Try.ntmps13
  go_wp2_with fail
  refine C.out.mono ?_
  rintro e w1 ⟨v, rfl, ho, hb⟩
  have HO := Lib.hid (And.intro ho hb)
  clear ho hb
  go_wp2_with fail
  go_ret
  exact ⟨v, rfl, HO.out⟩
/-- A sink of package spec: block k, what it holds. -/
structure SinkIs (B k : Nat) (s : Bw) (w : World) : Prop where
  le : B ≤ k
  ex : ∃ v, w.heap[k]? = some (.cells #[v, .int .i64 (s.2.1 : Int), .int .i64 (s.2.2 : Int)] 48 (0, 0)) ∧ w.ownsRow B 5 1 v (cellsN s.1).length (cellsN s.1)
theorem heap_set {w : World} {k : Nat} {c : Array Value} {t : TypeId} {fz : Nat × Nat} (h : w.heap[k]? = some (.cells c t fz)) (i : Nat) (v : Value) :
    (w.setCell ⟨k, i, none⟩ v).heap[k]? = some (.cells (c.setIfInBounds i v) t fz) := by
  unfold World.setCell
  simp only [Array.getElem?_modify, if_true, h, Option.map_some]
  simp
theorem ownsRow_set {w : World} {B : Nat} {e : TypeId} {size : Nat} {v : Value} {n : Nat} {xs : List Value} {k : Nat} {c : Array Value} {t : TypeId} {fz : Nat × Nat} (h : w.ownsRow B e size v n xs) (hk : w.heap[k]? = some (.cells c t fz)) (ht : t ≠ e) (i : Nat) (x : Value) :
    (w.setCell ⟨k, i, none⟩ x).ownsRow B e size v n xs := by
  obtain ⟨h1, h2⟩ := h
  refine ⟨h1, ?_⟩
  rcases h2 with h2 | ⟨g, cap, cur, e1, e2, e3, e4⟩
  · exact .inl h2
  · have hg : g ≠ k := fun e => by
      subst e
      rw [hk] at e3
      injection e3 with e3
      injection e3 with _ e3
      exact ht e3
    exact .inr ⟨g, cap, cur, e1, e2, by rw [Below.heap_setCell _ _ _ _ hg]; exact e3, e4⟩
theorem ownBlock_ne {w : World} {B : Nat} {e : TypeId} {size : Nat} {v : Value} {n : Nat} {xs : List Value} {k : Nat} {c : Array Value} {t : TypeId} {fz : Nat × Nat} (h : w.ownsRow B e size v n xs) (hk : w.heap[k]? = some (.cells c t fz)) (ht : t ≠ e) :
    v.ownBlock ≠ some k := by
  obtain ⟨h1, h2⟩ := h
  rcases h2 with ⟨rfl, _⟩ | ⟨g, cap, cur, rfl, e2, e3, e4⟩
  · simp [Value.ownBlock]
  · intro hg
    have : g = k := by simpa [Value.ownBlock] using hg
    subst this
    rw [hk] at e3
    injection e3 with e3
    injection e3 with _ e3
    exact ht e3
theorem sink_cells {w : World} {k : Nat} {u a b : Value} {t : TypeId} (hk : w.heap[k]? = some (.cells #[u, a, b] t (0, 0))) :
    w.cell? ⟨k, 0, none⟩ = some u ∧ w.cell? ⟨k, 1, none⟩ = some a ∧ w.cell? ⟨k, 2, none⟩ = some b ∧ ∀ j, w.frozen? ⟨k, j, none⟩ = false :=
  ⟨by simp [World.cell?, hk], by simp [World.cell?, hk], by simp [World.cell?, hk], fun j => by simp [World.frozen?, hk]⟩
theorem sink_grown {w w' w1 : World} {k : Nat} {x : Obj} {row : Option Nat} {o : Obj} (hk : w.heap[k]? = some x) (hg : w'.grownBy w1 row) (hW : w'.heap = (w.alloc o).heap) (hne : row ≠ some k) : w1.heap[k]? = some x := by
  have hlt : k < w.heap.size := (Array.getElem?_eq_some_iff.1 hk).1
  have h := hg.block k (by rw [hW]; simp; omega) (Ne.symm hne)
  rw [h, hW]
  exact (Below.heap_alloc w o k hlt).trans hk
/-- The store of the new slice and the two counters behind an append. -/
theorem sink_done {B k : Nat} {w1 : World} {u S : Value} {y : Nat} {a b : Value} {o : List Nat} {n : Nat} (hle : B ≤ k) (hk : w1.heap[k]? = some (.cells #[u, a, b] 48 (0, 0))) (hn : n = (cellsN (o ++ stuff y)).length) (ho : w1.ownsRow B 5 1 S n (cellsN (o ++ stuff y))) :
    SinkIs B k (o ++ stuff y, 0, 0) (((w1.setCell ⟨k, 0, none⟩ S).setCell ⟨k, 1, none⟩ (.int .i64 0)).setCell ⟨k, 2, none⟩ (.int .i64 0)) := by
  have h1 := heap_set hk 0 S
  have h2 := heap_set h1 1 (.int .i64 0)
  have h3 := heap_set h2 2 (.int .i64 0)
  have o1 := ownsRow_set ho hk (by decide) 0 S
  have o2 := ownsRow_set o1 h1 (by decide) 1 (.int .i64 0)
  have o3 := ownsRow_set o2 h2 (by decide) 2 (.int .i64 0)
  subst hn
  exact ⟨hle, S, by simpa using h3, o3⟩
theorem info5 : (Try.prog.info? 5).map (fun i => (i.zero, i.size, i.bytes)) = some (some (.int .u8 0), 1, 1) := by kernel_rfl
theorem ofInt_u64n (a : Nat) (h : a < 18446744073709551616) : (BitVec.ofInt 64 (a : Int)).toNat = a := by simp; omega
theorem i64_and_one (a : Nat) (ha : a < 9223372036854775808) : bits .and .i64 (a : Int) 1 = ((a % 2 : Nat) : Int) := by
  show IntKind.i64.wrap ((BitVec.ofInt 64 (a : Int) &&& BitVec.ofInt 64 1).toNat : Int) = _
  rw [BitVec.toNat_and, ofInt_u64n a (by omega), show (BitVec.ofInt 64 1).toNat = 1 from rfl, Nat.and_one_is_mod]
  exact IntWalk.i64_in _ ⟨by omega, by omega⟩
/-- One bit more behind the bits that wait. -/
theorem bit_or (x v r : Nat) (hx : x < 256) (hv : v < 65536) :
    bits BinOp.or IntKind.i64 ((x : Int) * 2) (bits BinOp.and IntKind.i64 ((v : Int) / 2 ^ r) 1) = ((2 * x + v / 2 ^ r % 2 : Nat) : Int) := by
  have e : ((v : Int) / 2 ^ r) = ((v / 2 ^ r : Nat) : Int) := by simp
  have hd : v / 2 ^ r ≤ v := Nat.div_le_self _ _
  rw [e, i64_and_one _ (by omega), show (x : Int) * 2 = ((x * 2 : Nat) : Int) by simp, i64_or_nat _ _ (by omega) (by omega)]
  have e2 : x * 2 ||| v / 2 ^ r % 2 = 2 * x + v / 2 ^ r % 2 := by
    have := Nat.two_pow_add_eq_or_of_lt (i := 1) (b := v / 2 ^ r % 2) (by omega) x
    rw [Nat.pow_one] at this
    rw [this, Nat.mul_comm]
  rw [e2]
set_option maxHeartbeats 1000000 in
set_option maxRecDepth 100000 in
theorem put_any (B k : Nat) (s : Bw) (v n : Nat) (w : World) (h : SinkIs B k s w) (hs : BwOk s) (hn : n ≤ 16) (hv : v < 65536) (hl : s.1.length + 64 ≤ 140737488355328) (hB : B ≤ w.heap.size) :
    Calls Try.prog 17 #[.pointer (some ⟨k, 0, none⟩), .int .i64 (v : Int), .int .i64 (n : Int)] w fun e w' => e = .returned (.tuple #[]) ∧ SinkIs B k (putTo s v n n) w' ∧ Below B w w' := by
  obtain ⟨i0, hi0, hz0, hz1, hz2⟩ := info_parts info5
  have HI := Lib.hid (And.intro hi0 (And.intro hz0 (And.intro hz1 hz2)))
  clear hi0 hz0 hz1 hz2
  have H := Lib.hid h
  clear h
  go_enter Try.func17, Try.ntmps17
  go_wp2_with fail
  go_loopg [6] n (fun q si wr => ∃ i : Nat, i ≤ n ∧ q = n - i ∧ si = .int .i64 ((n : Int) - 1 - i) ∧ SinkIs B k (putTo s v n i) wr ∧ Below B w wr)
  case atStart => exact ⟨0, by omega, by omega, by go_num, H.out, Below.refl _ _⟩
  case round =>
    obtain ⟨i, hi, rfl, rfl, hS, hBl⟩ := hrel
    by_cases hlt : i < n
    · have hok := putTo_ok v n hs i
      have hlen := (putTo_len s v n i).2
      have hstep : putTo s v n (i + 1) = put1 (putTo s v n i) (v / 2 ^ (n - 1 - i) % 2) := rfl
      obtain ⟨⟨o, x, m⟩, ht⟩ : ∃ t, putTo s v n i = t := ⟨_, rfl⟩
      rw [ht] at hS hok hlen hstep
      obtain ⟨hle, u, hk, hown⟩ := hS
      obtain ⟨hm8, hxm⟩ := hok
      simp only at hk hown hm8 hxm hlen
      have hx256 : x < 256 := Nat.lt_of_lt_of_le hxm (by
        have : 2 ^ m ≤ 2 ^ 7 := Nat.pow_le_pow_right (by omega) (by omega)
        omega)
      have e0 : ((n : Int) - 1 - (i : Int)) = ((n - 1 - i : Nat) : Int) := by omega
      obtain ⟨r, hr⟩ : ∃ r, n - 1 - i = r := ⟨_, rfl⟩
      have hr64 : r < 64 := by omega
      rw [hr] at e0 hstep
      rw [e0]
      have c0 : wr.cell? ⟨k, 0, none⟩ = some u := by simp [World.cell?, hk]
      have c1 : wr.cell? ⟨k, 1, none⟩ = some (.int .i64 (x : Int)) := by simp [World.cell?, hk]
      have c2 : wr.cell? ⟨k, 2, none⟩ = some (.int .i64 (m : Int)) := by simp [World.cell?, hk]
      have c3 : ∀ j, wr.frozen? ⟨k, j, none⟩ = false := fun j => by simp [World.frozen?, hk]
      have HK := Lib.hid hk
      have HO := Lib.hid hown
      have HT := Lib.hid (And.intro ht (And.intro hstep hr))
      have HB := Lib.hid hBl
      have HX := Lib.hid hxm
      clear hk hown ht hstep hr e0 hBl hxm
      have hy : bits BinOp.or IntKind.i64 ((x : Int) * 2) (bits BinOp.and IntKind.i64 ((v : Int) / 2 ^ r) 1) = ((2 * x + v / 2 ^ r % 2 : Nat) : Int) := bit_or x v r hx256 hv
      obtain ⟨y, hyy⟩ : ∃ y, 2 * x + v / 2 ^ r % 2 = y := ⟨_, rfl⟩
      rw [hyy] at hy
      have HY := Lib.hid hyy
      clear hyy
      have hyv : Value.int .i64 (bits BinOp.or IntKind.i64 ((x : Int) * 2) (bits BinOp.and IntKind.i64 ((v : Int) / 2 ^ r) 1)) = Value.int .i64 (y : Int) := by rw [hy]
      clear hy
      by_cases h7 : m = 7
      · subst h7
        have hy256 : y < 256 := by have := HX.out; have := HY.out; omega
        have HW8 := Lib.hid (show IntKind.u8.wrap (y : Int) = (y : Int) by simp only [IntKind.wrap_u8]; omega)
        go_wp2_with fail
        go_region
        go_wp2_with fail
        have hk1 := heap_set (heap_set HK.out 1 (.int .i64 (y : Int))) 2 (.int .i64 8)
        have ho1 := ownsRow_set (ownsRow_set HO.out HK.out (by decide) 1 (.int .i64 (y : Int))) (heap_set HK.out 1 _) (by decide) 2 (.int .i64 8)
        have hb1 : Below B w ((wr.setCell ⟨k, 1, none⟩ (.int .i64 (y : Int))).setCell ⟨k, 2, none⟩ (.int .i64 8)) := (HB.out.setCell (by simpa using hle) _).setCell (by simpa using hle) _
        clear hyv c0 c1 c2 c3
        generalize (wr.setCell ⟨k, 1, none⟩ (.int .i64 (y : Int))).setCell ⟨k, 2, none⟩ (.int .i64 8) = W at *
        simp at hk1
        have hne := ownBlock_ne ho1 hk1 (by decide)
        have d0 : W.cell? ⟨k, 0, none⟩ = some u := by simp [World.cell?, hk1]
        have d1 : W.cell? ⟨k, 1, none⟩ = some (.int .i64 (y : Int)) := by simp [World.cell?, hk1]
        have d2 : W.frozen? ⟨k, 0, none⟩ = false := by simp [World.frozen?, hk1]
        have n0 := World.new_ne W ⟨k, 0, none⟩ d0
        have hkl : k < W.heap.size := (Array.getElem?_eq_some_iff.1 hk1).1
        have d3 : ∀ o, (W.alloc o).frozen? ⟨k, 0, none⟩ = false := fun o => by rw [World.frozen?_alloc_past _ _ _ hkl]; exact d2
        have d3' : ∀ o, (W.alloc o).cell? ⟨k, 0, none⟩ = some u := fun o => by rw [World.cell?_alloc_past _ _ _ hkl]; exact d0
        have d4 : ∀ o, (W.alloc o).cell? ⟨k, 1, none⟩ = some (.int .i64 (y : Int)) := fun o => by rw [World.cell?_alloc_past _ _ _ hkl]; exact d1
        have HK1 := Lib.hid hk1
        have HO1 := Lib.hid ho1
        have HB1 := Lib.hid hb1
        have HN := Lib.hid hne
        obtain ⟨hi0, hz0, hz1, hz2⟩ := HI.out
        clear hk1 ho1 hb1 hne
        have hbW : B ≤ W.heap.size := by have := HB1.out.size; omega
        by_cases h255 : y = 255
        · have hyb : (((y : Nat) : Int) == 255) = true := by simp; omega
          have HY5 := Lib.hid h255
          clear h255
          have hw8 := HW8.out
          go_region_law ((refine step_append_lies _ (by rfl) _ _ _ (by rfl) B 5 i0 _ 1 1 Try.underlying24 hi0 hz0 hz1 hz2 rfl (by omega) u _ _ (by rfl) ((HO1.out.alloc _).drew) ⟨W.heap.size, 0, none⟩ 1 1 [.int .u8 (y : Int)] (by rfl) (by rfl) (World.news_of_block (cs := #[.int .u8 (y : Int)]) (t := 5) (fr := (0, 0)) (heap_alloc_new W _)) (by simp [Value.oneCell']) (by omega) (by rw [cellsN_len]; unfold maxLen; omega) (by rw [cellsN_len]; omega) (by have := HB1.out.size; simp; omega) (W.heap.size + 1) (by simp) ?_; intro gg cap w1 hown1 hgrow hat hlt; have qk := sink_grown HK1.out hgrow rfl HN.out; obtain ⟨q0, q1, q2, q3⟩ := sink_cells qk; have QK := Lib.hid qk; have QO := Lib.hid hown1; have QB := Lib.hid hgrow; clear qk hown1 hgrow hat hlt))
          all_goals
            clear hw8
            have hk2 := heap_set QK.out 0 (.slice (some ⟨gg, 0, none⟩) ((cellsN o).length + 1) cap)
            have ho2 := ownsRow_set QO.out QK.out (by decide) 0 (.slice (some ⟨gg, 0, none⟩) ((cellsN o).length + 1) cap)
            have hb2 : Below B w (w1.setCell ⟨k, 0, none⟩ (.slice (some ⟨gg, 0, none⟩) ((cellsN o).length + 1) cap)) := (Below.grown (Below.drew (Below.drew (Below.alloc HB1.out hbW _))) QB.out (by simp; omega) (fun j hj => (HO1.out.lt j hj).1)).setCell (by simpa using hle) _
            clear q0 q1 q2 q3 d0 d1 d2 d3 d3' d4 n0
            simp at hk2
            generalize w1.setCell ⟨k, 0, none⟩ (.slice (some ⟨gg, 0, none⟩) ((cellsN o).length + 1) cap) = W2 at *
            obtain ⟨p0, p1, p2, p3⟩ := sink_cells hk2
            have HN2 := Lib.hid (ownBlock_ne ho2 hk2 (by decide))
            have HK2 := Lib.hid hk2
            have HO2 := Lib.hid ho2
            have HB2 := Lib.hid hb2
            have hbW2 : B ≤ W2.heap.size := by have := hb2.size; omega
            clear hk2 ho2 hb2 QO QB QK HO1 HB1 HK1 HN
            go_wp2_with (at_builtin; refine wpList_append_lies _ rfl _ _ _ rfl B 5 i0 _ 1 1 Try.underlying24 hi0 hz0 hz1 hz2 rfl (by omega) (.slice (some ⟨gg, 0, none⟩) ((cellsN o).length + 1) cap) _ _ rfl (HO2.out.alloc _) ⟨W2.heap.size, 0, none⟩ 1 1 [.int .u8 0] rfl rfl (World.news_of_block (cs := #[.int .u8 0]) (t := 5) (fr := (0, 0)) (heap_alloc_new W2 _)) (by simp [Value.oneCell']) (by omega) (by rw [cellsN_len]; unfold maxLen; omega) (by rw [cellsN_len]; omega) (by simp; omega) (W2.heap.size + 1) (by simp) ?_; intro g2 cap2 w3 hown3 hgrow3 hat3 hlt3; have qk3 := sink_grown HK2.out hgrow3 rfl HN2.out; obtain ⟨r0, r1, r2, r3⟩ := sink_cells qk3; have QK := Lib.hid qk3; have QO := Lib.hid hown3; have QB := Lib.hid hgrow3; clear qk3 hown3 hgrow3 hat3 hlt3)
            go_roundg (n - (i + 1))
            case measure => go_light; omega
            case rel =>
              go_light
              refine ⟨i + 1, by omega, rfl, by have := HT.out.2.2; exact congrArg (Value.int .i64) (by omega), ?_, ?_⟩
              · rw [HT.out.2.1, put1_full, HY.out, HY5.out]
                exact sink_done (n := (cellsN o).length + 1 + 1) hle QK.out (by rw [cellsN_len, cellsN_len, List.length_append, stuff, if_pos rfl]; rfl) (by rw [cellsN_app, stuff, if_pos rfl]; have := QO.out; rw [HY5.out] at this; simpa [cellsN] using this)
              · exact (((Below.grown (Below.alloc HB2.out hbW2 _) QB.out (by simp; omega) (fun j hj => (HO2.out.lt j hj).1)).setCell (by simpa using hle) _).setCell (by simpa using hle) _).setCell (by simpa using hle) _
        · have hyb : (((y : Nat) : Int) == 255) = false := by simp; omega
          have hw8 := HW8.out
          go_region_law ((refine step_append_lies _ (by rfl) _ _ _ (by rfl) B 5 i0 _ 1 1 Try.underlying24 hi0 hz0 hz1 hz2 rfl (by omega) u _ _ (by rfl) ((HO1.out.alloc _).drew) ⟨W.heap.size, 0, none⟩ 1 1 [.int .u8 (y : Int)] (by rfl) (by rfl) (World.news_of_block (cs := #[.int .u8 (y : Int)]) (t := 5) (fr := (0, 0)) (heap_alloc_new W _)) (by simp [Value.oneCell']) (by omega) (by rw [cellsN_len]; unfold maxLen; omega) (by rw [cellsN_len]; omega) (by have := HB1.out.size; simp; omega) (W.heap.size + 1) (by simp) ?_; intro gg cap w1 hown1 hgrow hat hlt; have qk := sink_grown HK1.out hgrow rfl HN.out; obtain ⟨q0, q1, q2, q3⟩ := sink_cells qk; have QK := Lib.hid qk; have QO := Lib.hid hown1; have QB := Lib.hid hgrow; clear qk hown1 hgrow hat hlt))
          all_goals
            clear hw8
            go_wp2
            go_roundg (n - (i + 1))
            case measure => go_light; omega
            case rel =>
              go_light
              refine ⟨i + 1, by omega, rfl, by have := HT.out.2.2; exact congrArg (Value.int .i64) (by omega), ?_, ?_⟩
              · rw [HT.out.2.1, put1_full, HY.out]
                exact sink_done (n := (cellsN o).length + 1) hle QK.out (by rw [cellsN_len, cellsN_len, List.length_append, stuff, if_neg h255]; rfl) (by rw [cellsN_app, stuff, if_neg h255]; exact QO.out)
              · exact (((Below.grown (Below.drew (Below.drew (Below.alloc HB1.out hbW _))) QB.out (by simp; omega) (fun j hj => (HO1.out.lt j hj).1)).setCell (by simpa using hle) _).setCell (by simpa using hle) _).setCell (by simpa using hle) _
      · have hm7 : (((m : Nat) : Int) + 1 == 8) = false := by simp; omega
        go_wp2_with fail
        go_region
        go_wp2_with fail
        go_roundg (n - (i + 1))
        case measure => go_light; omega
        case rel =>
          go_light
          have h1 := heap_set HK.out 1 (.int .i64 (y : Int))
          have h2 := heap_set h1 2 (.int .i64 ((m : Int) + 1))
          have h3 : ((wr.setCell ⟨k, 1, none⟩ (.int .i64 (y : Int))).setCell ⟨k, 2, none⟩ (.int .i64 ((m : Int) + 1))).heap[k]? = some (.cells #[u, .int .i64 (y : Int), .int .i64 ((m + 1 : Nat) : Int)] 48 (0, 0)) := by simpa using h2
          refine ⟨i + 1, by omega, rfl, by have := HT.out.2.2; exact congrArg (Value.int .i64) (by omega), ?_, ?_⟩
          · rw [HT.out.2.1, put1_more o x m _ (by omega), HY.out]
            exact ⟨hle, u, h3, ownsRow_set (ownsRow_set HO.out HK.out (by decide) 1 _) h1 (by decide) 2 _⟩
          · exact ((HB.out.setCell (by simpa using hle) _).setCell (by simpa using hle) _).drew
    · have ei : i = n := by omega
      subst ei
      have HS := Lib.hid (And.intro hS hBl)
      clear hS hBl
      go_wp2_with fail
      go_end0
      exact ⟨rfl, HS.out⟩
end Go.Proofs.Ytpmbbampkedecaa
