/- The contracts of the encoder's writeByte and emit over a bytes.Buffer. -/
import Derived.Test.YtpmbbampkedecaaEmitLaw
import Derived.Test.YtpmbbampkedecaaShelf
import Derived.Test.YtpmbbampkedecaaMem
import Derived.Lib.BufferKept
import Derived.Lib.Hide
import Derived.Deep.LoopGhost
import Derived.Deep.Light
namespace Go.Proofs.Ytpmbbampkedecaa
open Go.Deep Go.RowKit
/-- Bytes as cells. -/
def cellsN (l : List Nat) : List Value := l.map fun (n : Nat) => Value.int .u8 (n : Int)
theorem cellsN_one (l : List Nat) : ∀ v ∈ cellsN l, v.oneCell' = true := by
  intro v hv
  obtain ⟨n, _, rfl⟩ := List.mem_map.1 hv
  rfl
theorem cellsN_len (l : List Nat) : (cellsN l).length = l.length := by simp [cellsN]
theorem cellsN_app (a b : List Nat) : cellsN (a ++ b) = cellsN a ++ cellsN b := by simp [cellsN]
theorem rowIs_type {w : World} {b : Nat} {t t' : TypeId} {n : Nat} {f : Nat → Value} {c : Array Value} {fz : Nat × Nat} (h : w.rowIs b t n f) (h' : w.heap[b]? = some (.cells c t' fz)) : t = t' := by
  have := (rowIs_heap h).symm.trans h'
  injection this with this
  injection this
theorem isBuffer_set {T e : TypeId} {B b be : Nat} {bs : List Value} {w : World} {t : TypeId} {n : Nat} {f : Nat → Value} (h : Lib.IsBuffer T e B b bs w) (hr : w.rowIs be t n f) (ht : t ≠ e) (hT : t ≠ T) (i : Nat) (v : Value) :
    Lib.IsBuffer T e B b bs (w.setCell ⟨be, i, none⟩ v) := by
  obtain ⟨hB, u, lr, hb, hrow, hne⟩ := h
  have hbe : b ≠ be := fun e => hT (by subst e; exact rowIs_type hr hb)
  refine ⟨hB, u, lr, ?_, ?_, hne⟩
  · rw [Below.heap_setCell _ _ _ _ hbe]; exact hb
  · obtain ⟨h1, h2⟩ := hrow
    refine ⟨h1, ?_⟩
    rcases h2 with h2 | ⟨g, cap, cur, e1, e2, e3, e4⟩
    · exact .inl h2
    · have hg : g ≠ be := fun e => ht (by subst e; exact rowIs_type hr e3)
      exact .inr ⟨g, cap, cur, e1, e2, by rw [Below.heap_setCell _ _ _ _ hg]; exact e3, e4⟩
/-- An encoder over a buffer: block be, the buffer in block b; what it has written, its register. -/
structure EncIs (B b be : Nat) (s : Bw) (w : World) : Prop where
  buf : Lib.IsBuffer 62 5 B b (cellsN s.1) w
  row : ∃ f, w.rowIs be 74 152 f ∧ f 0 = .iface 65 (.agg #[.pointer (some ⟨b, 0, none⟩)]) ∧ f 1 = .nilIface ∧ f 18 = .int .u32 (s.2.1 : Int) ∧ f 19 = .int .u32 (s.2.2 : Int)
  le : B ≤ be
set_option maxHeartbeats 1000000 in
set_option maxRecDepth 100000 in
theorem writeByte_any (B b be : Nat) (l : List Nat) (c : Int) (f : Nat → Value) (w : World) (hb : Lib.IsBuffer 62 5 B b (cellsN l) w) (hr : w.rowIs be 74 152 f) (f0 : f 0 = .iface 65 (.agg #[.pointer (some ⟨b, 0, none⟩)])) (f1 : f 1 = .nilIface) (hB : B ≤ be)
    (hl : l.length + 1 ≤ 140737488355328) :
    Calls Try.prog 25 #[.pointer (some ⟨be, 0, none⟩), .int .u8 c] w fun e w' => e = .returned (.tuple #[]) ∧ Lib.IsBuffer 62 5 B b (cellsN l ++ [.int .u8 c]) w' ∧ w'.rowIs be 74 152 f ∧ Below B w w' := by
  have hm : ∀ w : World, (method 206 65 (.agg #[.pointer (some ⟨b, 0, none⟩)]) "WriteByte").run Try.prog w = .ok (43, .pointer (some ⟨b, 0, none⟩)) w := fun _ => by kernel_rfl
  have hlt := hr.lt
  have CW := Lib.hid (Try.Buffer_WriteByte_k B b (cellsN l) c w hb (by omega) (cellsN_one l) (by rw [cellsN_len]; exact hl))
  have c0 : w.cell? ⟨be, 0, none⟩ = some (.iface 65 (.agg #[.pointer (some ⟨b, 0, none⟩)])) := by rw [← f0]; exact hr.cell (by omega)
  have c1 : w.cell? ⟨be, 1, none⟩ = some .nilIface := by rw [← f1]; exact hr.cell (by omega)
  have hbe : be ≠ b := fun e => by
    obtain ⟨_, u, lr, hbb, _⟩ := hb
    subst e
    exact absurd (rowIs_type hr hbb) (by decide)
  have HR := Lib.hid hr
  have F1 := Lib.hid f1
  clear hr f0 f1 hb
  go_enter Try.func25, Try.ntmps25
  go_wp2_with fail
  refine CW.out.mono ?_
  rintro e W2 ⟨rfl, hI, hB2, hk⟩
  clear CW
  have hr2 : W2.rowIs be 74 152 f := HR.out.of_block ((hk be _ (rowIs_heap HR.out) (by simpa using hbe) (by intro c fz h; injection h with _ h; exact absurd h (by decide))).trans (rowIs_heap HR.out).symm)
  have d1 : W2.cell? ⟨be, 1, none⟩ = some .nilIface := by rw [← F1.out]; exact hr2.cell (by omega)
  have d2 : W2.frozen? ⟨be, 1, none⟩ = false := hr2.frozen _
  have HI := Lib.hid (isBuffer_set hI hr2 (by decide) (by decide) 1 .nilIface)
  clear hI
  go_wp2_with fail
  go_end0
  exact ⟨rfl, HI.out, (hr2.set _ _).congr fun j _ => by
    by_cases e : j = 1
    · subst e; simp [F1.out]
    · simp [e], hB2.setCell (by simpa using hB) _⟩
end Go.Proofs.Ytpmbbampkedecaa
