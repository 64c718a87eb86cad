/- The contracts of spec.sink's align and of spec.Coded. -/
import Derived.Test.YtpmbbampkedecaaEmitD
import Derived.Test.YtpmbbampkedecaaRows
namespace Go.Proofs.Ytpmbbampkedecaa
open Go.Deep Go.RowKit
theorem fin_len (s : Bw) : s.1.length ≤ (fin s).length ∧ (fin s).length ≤ s.1.length + 2 := by
  have := stuff_len (s.2.1 * 2 ^ (8 - s.2.2) + 2 ^ (8 - s.2.2) - 1)
  unfold fin
  split <;> simp <;> omega
set_option maxHeartbeats 1000000 in
set_option maxRecDepth 100000 in
theorem align_any (B k : Nat) (s : Bw) (w : World) (h : SinkIs B k s w) (hs : BwOk s) (hl : s.1.length + 100 ≤ 140737488355328) (hB : B ≤ w.heap.size) :
    Calls Try.prog 18 #[.pointer (some ⟨k, 0, none⟩)] w fun e w' => e = .returned (.tuple #[]) ∧ SinkIs B k (fin s, 0, 0) w' ∧ Below B w w' := by
  have H := Lib.hid (And.intro h hs)
  clear h hs
  go_enter Try.func18, Try.ntmps18
  go_wp2_with fail
  go_loopg [] 8 (fun q wr => ∃ (i : Nat) (t : Bw), q = 0 + i ∧ SinkIs B k t wr ∧ BwOk t ∧ Hid (fin t = fin s) ∧ (t.2.2 = 0 ∨ 8 ≤ i + t.2.2) ∧ t.1.length ≤ (fin s).length ∧ Below B w wr)
  case atStart => exact ⟨8, s, rfl, H.out.1, H.out.2, Lib.hid rfl, by omega, (fin_len s).1, Below.refl _ _⟩
  case round =>
    obtain ⟨i, ⟨o, x, m⟩, rfl, hS, hok, hf, hi, htl, hBl⟩ := hrel
    simp only at hi htl
    obtain ⟨u, hk, _⟩ := hS.ex
    simp only at hk
    obtain ⟨c0, c1, c2, c3⟩ := sink_cells hk
    have hfl := (fin_len s).2
    have hm8 := hok.1
    simp only at hm8
    by_cases h0 : 0 < m
    · have CP := Lib.hid (put_any B k (o, x, m) 1 1 wr hS hok (by omega) (by omega) (by simp only; omega) (by have := hBl.size; omega))
      have HS := Lib.hid (And.intro hok (And.intro hf hBl))
      have hlen := put1_len (o, x, m) 1
      have hfl2 := fin_len (put1 (o, x, m) 1)
      clear hS hok hf hBl hk c0 c1 c3
      go_wp2_with fail
      refine CP.out.mono ?_
      rintro e w1 ⟨rfl, hS1, hB1⟩
      have e1 : putTo (o, x, m) 1 1 1 = put1 (o, x, m) 1 := rfl
      rw [e1] at hS1
      go_wp2_with fail
      go_roundg (0 + (i - 1))
      case measure => go_light; omega
      case rel =>
        go_light
        have hp := fin_put1 HS.out.1 h0
        refine ⟨i - 1, put1 (o, x, m) 1, rfl, hS1, put1_ok (by omega) HS.out.1, Lib.hid (hp.trans HS.out.2.1.out), ?_, ?_, HS.out.2.2.trans hB1⟩
        · by_cases h7 : m = 7
          · left; subst h7; rfl
          · right
            rw [put1_more o x m 1 (by omega)]
            show 8 ≤ i - 1 + (m + 1)
            omega
        · have h1 := (fin_len (put1 (o, x, m) 1)).1
          rw [hp, HS.out.2.1.out] at h1
          exact h1
    · obtain rfl : m = 0 := by omega
      have HS := Lib.hid (And.intro hS (And.intro hf hBl))
      have hx : x = 0 := by have := hok.2; simp at this; omega
      subst hx
      clear hS hf hBl hk c0 c1 c3 hok
      go_wp2_with fail
      go_end0
      have e : fin (o, 0, 0) = o := rfl
      rw [← HS.out.2.1.out, e]
      exact ⟨rfl, HS.out.1, HS.out.2.2⟩
end Go.Proofs.Ytpmbbampkedecaa
