import Derived.Test.YbulkhboFmtEdge
import Derived.ProofKit
import Derived.Deep.Slices
import Derived.Deep.Strs
namespace Go.Proofs.YbulkhboFmt
open Go.ChangeShapes Go.WideShapes Go.ChangeAt Go.RowKit Go.Deep
set_option linter.unusedVariables false

theorem cells26 : Ybaf.prog.cellsOf 26 = 3 := by kernel_rfl
theorem cells9 : Ybaf.prog.cellsOf 9 = 1 := by kernel_rfl
theorem cells3 : Ybaf.prog.cellsOf 3 = 1 := by kernel_rfl
theorem cells24 : Ybaf.prog.cellsOf 24 = 1 := by kernel_rfl

theorem cell_lt {w : World} {a : Addr} {v : Value} (h : w.cell? a = some v) : a.block < w.heap.size :=
  World.cells?_block (ChangeShapes.cells?_one (Nat.zero_le _) h) (by omega)

theorem add_plain' (b o j : Nat) : (⟨b, o, none⟩ : Addr).add j = ⟨b, o + j, none⟩ := by simp [Addr.add]

/-- The funds as the reader has read them, for the walk. -/
theorem open_funds {H : Type} {enc : TypeId × Value → H} {W : World} {fuel : Nat} {a0 : Option Addr} {n cap : Nat} {x : DataW H × List MemPlace}
    (h : DataW.trod enc Ybaf.prog W 0 (fun _ => true) true fuel 22 [.slice a0 n cap] = some x) :
    n = 0 ∨ ∃ b off code nav ca cl cc cs, a0 = some ⟨b, off, none⟩ ∧ Given W b off n code nav ca cl cc cs := by
  rcases open_slice Ybaf.underlying22 h with ⟨hcs, _⟩ | ⟨a, len, cap', m, k, D, Pl, hcs, _, hl, hm, hmm, _, hel⟩
  · simp at hcs
    exact .inl hcs.2.1
  simp only [List.cons.injEq, Value.slice.injEq, and_true] at hcs
  obtain ⟨rfl, rfl, rfl⟩ := hcs
  rcases Nat.eq_zero_or_pos n with h0 | h0
  · exact .inl h0
  right
  have hnm : n ≤ m := by simp at hmm; omega
  have each : ∀ i, i < n → ∃ z : (ByteArray × Int × Option Addr × Nat × Nat × (Nat → ByteArray)), W.cell? ((a.add (i * 3)).add 0) = some (.string z.1) ∧ W.cell? ((a.add (i * 3)).add 1) = some (.int .i64 z.2.1) ∧
      W.cell? ((a.add (i * 3)).add 2) = some (.slice z.2.2.1 z.2.2.2.1 z.2.2.2.2.1) ∧ StrsAt W z.2.2.1 z.2.2.2.1 z.2.2.2.2.2 ∧ z.1.size ≤ maxLen := by
    intro i hi
    obtain ⟨cs', hc, ht⟩ := hel i (by omega)
    rw [cells26] at hc
    obtain ⟨y0, y1, y2, k', _, hlen, t0, t1, t2⟩ := trod_struct3 Ybaf.underlying26 ht
    rw [cells26] at hlen
    obtain ⟨c0, c1, c2, rfl⟩ : ∃ c0 c1 c2, cs' = [c0, c1, c2] := by
      match cs', hlen with
      | [c0, c1, c2], _ => exact ⟨c0, c1, c2, rfl⟩
    obtain ⟨_, _, hcell⟩ := World.cells?_some hc
    simp only [cells9, cells3, cells24] at t0 t1 t2
    simp only [List.drop_zero, List.take_succ_cons, List.take_zero, List.drop_succ_cons] at t0 t1 t2
    obtain ⟨s, e0, _, hs⟩ := DataW.trod_string Ybaf.underlying9 t0
    obtain ⟨v, e1, _, _⟩ := DataW.trod_int Ybaf.underlying3 t1
    simp only [List.cons.injEq, and_true] at e0 e1
    subst e0 e1
    have g0 := hcell 0 (by omega)
    have g1 := hcell 1 (by omega)
    have g2 := hcell 2 (by omega)
    rcases open_strs Ybaf.underlying24 Ybaf.underlying9 cells9 t2 with ⟨e2, _⟩ | ⟨ad, len, cap, mm, Sx, e2, _, hll, _, hmmm, _, hS⟩
    · simp only [List.cons.injEq, and_true] at e2
      subst e2
      exact ⟨(s, v, none, 0, 0, fun _ => ByteArray.empty), by simpa using g0, by simpa using g1, by simpa using g2, .inl rfl, hs⟩
    · simp only [List.cons.injEq, and_true] at e2
      subst e2
      refine ⟨(s, v, some ad, len, cap, Sx), by simpa using g0, by simpa using g1, by simpa using g2, ?_, hs⟩
      rcases Nat.eq_zero_or_pos len with hz | hz
      · exact .inl hz
      right
      simp only [if_true] at hmmm
      have h00 := (hS 0 (by omega)).1
      have hsp := World.cell?_spot h00
      obtain ⟨bb, oo, sp⟩ := ad
      simp [Addr.add] at hsp
      subst hsp
      refine ⟨bb, oo, rfl, ?_, fun j hj => by rw [← add_plain']; exact (hS j (by have hj' : j < len := hj; omega)).1⟩
      have := cell_lt h00
      simpa [Addr.add] using this
  obtain ⟨f, hf⟩ := choose_lt each
  have h00 := (hf 0 h0).1
  have hsp := World.cell?_spot h00
  obtain ⟨bb, oo, sp⟩ := a
  simp [Addr.add] at hsp
  subst hsp
  refine ⟨bb, oo, fun i => (f i).1, fun i => (f i).2.1, fun i => (f i).2.2.1, fun i => (f i).2.2.2.1, fun i => (f i).2.2.2.2.1, fun i => (f i).2.2.2.2.2, rfl, ?_, ?_, ?_, ?_⟩
  · have := cell_lt h00
    simpa [Addr.add] using this
  · intro i hi
    obtain ⟨g0, g1, g2, _⟩ := hf i hi
    rw [add_plain'] at g0 g1 g2
    rw [add_plain'] at g0 g1 g2
    exact ⟨g0, g1, g2⟩
  · exact fun i hi => (hf i hi).2.2.2.1
  · exact fun i hi => (hf i hi).2.2.2.2
end Go.Proofs.YbulkhboFmt
