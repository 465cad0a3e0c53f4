import Derived.Test.YbulkhfiCTime
import Derived.Test.YbulkhfiATail
import Derived.OneCell
namespace Go.Proofs.Ybulkhfi.C
open Go.RowKit
set_option linter.unusedVariables false

def ptr (bs : Nat → Nat) (i : Nat) : Value := .pointer (some ⟨bs i, 0, none⟩)

/-- Block b holds instance i, that wakes at m. -/
def Ins (w : World) (b i : Nat) (m : Int) : Prop :=
  ∃ cur : Array Value, w.heap[b]? = some (.cells cur 61 (0, 0)) ∧ cur[0]? = some (.int .u64 i) ∧ cur[5]? = some (.int .u64 (wl m)) ∧ cur[6]? = some (.int .i64 (ex m)) ∧ cur[7]? = some (.pointer none) ∧ ∃ q, cur[8]? = some q

/-- The table in block T holds the queue l of n instances. -/
structure Que (w : World) (T n : Nat) (bs : Nat → Nat) (ms : Nat → Int) (v : Value) (l : List Nat) : Prop where
  tab : ∃ cur : Array Value, w.heap[T]? = some (.cells cur 72 (0, 0)) ∧ cur[7]? = some v
  own : w.ownsRow (T + 1) 53 1 v l.length (l.map (ptr bs))
  ins : ∀ i, i < n → Ins w (bs i) i (ms i)
  lt : ∀ i ∈ l, i < n
  low : ∀ i, i < n → T < bs i

/-- What a step of the queue's does: below T nothing turns, and of what lies above none but tables, queues and instances. -/
structure Stp (T : Nat) (w w' : World) : Prop where
  bel : Below T w w'
  oth : ∀ (k : Nat) cur t, w.heap[k]? = some (.cells cur t (0, 0)) → t ≠ 53 → t ≠ 61 → t ≠ 72 → w'.heap[k]? = some (.cells cur t (0, 0))

theorem Stp.refl (T : Nat) (w : World) : Stp T w w := ⟨Below.refl _ _, fun _ _ _ h _ _ _ => h⟩
theorem Stp.trans {T : Nat} {a b c : World} (h : Stp T a b) (k : Stp T b c) : Stp T a c := ⟨h.bel.trans k.bel, fun i cur t h1 h2 h3 h4 => k.oth i cur t (h.oth i cur t h1 h2 h3 h4) h2 h3 h4⟩
theorem Stp.of_below {T : Nat} {w w' : World} (h : Below w.heap.size w w') (hT : T ≤ w.heap.size) : Stp T w w' :=
  ⟨h.mono hT, fun i cur t h1 _ _ _ => (h.block i (Array.getElem?_eq_some_iff.1 h1).1).trans h1⟩
theorem Stp.set {T : Nat} {w : World} {b o : Nat} {cur : Array Value} {t : TypeId} (hb : w.heap[b]? = some (.cells cur t (0, 0))) (hT : T ≤ b) (ht : t = 53 ∨ t = 61 ∨ t = 72) (u : Value) : Stp T w (w.setCell ⟨b, o, none⟩ u) :=
  ⟨(Below.refl _ _).setCell hT u, fun i c t' h1 h2 h3 h4 => by
    rw [Below.heap_setCell _ _ _ _ (by rintro rfl; rw [hb] at h1; injection h1 with h1; injection h1 with _ h1; subst h1; rcases ht with h | h | h <;> contradiction)]
    exact h1⟩
theorem Stp.grown {T : Nat} {w w' : World} {v : Value} {n : Nat} {xs : List Value} (ho : w.ownsRow (T + 1) 53 1 v n xs) (hg : w.grownBy w' v.ownBlock) (hT : T ≤ w.heap.size) : Stp T w w' :=
  ⟨(Below.refl _ _).grown hg hT (fun k hk => by have := (ho.lt k hk).1; omega), fun i c t' h1 h2 h3 h4 => by
    rw [hg.block i (Array.getElem?_eq_some_iff.1 h1).1 (fun e => by
      rcases ho.2 with ⟨rfl, _⟩ | ⟨g, cap, cur, rfl, _, hh, _⟩
      · simp [Value.ownBlock] at e
      · simp [Value.ownBlock] at e
        subst e
        rw [hh] at h1
        injection h1 with h1; injection h1 with _ h1; subst h1; contradiction)]
    exact h1⟩

section
variable {w w' : World} {T n : Nat} {bs : Nat → Nat} {ms : Nat → Int} {v : Value} {l : List Nat}

theorem Ins.block {b i : Nat} {m : Int} (h : Ins w b i m) (hb : w'.heap[b]? = w.heap[b]?) : Ins w' b i m := by
  obtain ⟨cur, h1, r⟩ := h
  exact ⟨cur, hb.trans h1, r⟩
theorem Ins.lt {b i : Nat} {m : Int} (h : Ins w b i m) : b < w.heap.size := by
  obtain ⟨cur, h1, _⟩ := h
  exact (Array.getElem?_eq_some_iff.1 h1).1
theorem Ins.cells {b i : Nat} {m : Int} (h : Ins w b i m) : w.cell? ⟨b, 0, none⟩ = some (.int .u64 i) ∧ w.cell? ⟨b, 5, none⟩ = some (.int .u64 (wl m)) ∧ w.cell? ⟨b, 6, none⟩ = some (.int .i64 (ex m)) ∧ w.cell? ⟨b, 7, none⟩ = some (.pointer none) ∧ (∃ q, w.cell? ⟨b, 8, none⟩ = some q) ∧ w.frozen? ⟨b, 8, none⟩ = false := by
  obtain ⟨cur, h1, h2, h3, h4, h5, q, h6⟩ := h
  exact ⟨(cell_of_row w b 0 cur 61 (0, 0) h1).trans h2, (cell_of_row w b 5 cur 61 (0, 0) h1).trans h3, (cell_of_row w b 6 cur 61 (0, 0) h1).trans h4, (cell_of_row w b 7 cur 61 (0, 0) h1).trans h5, ⟨q, (cell_of_row w b 8 cur 61 (0, 0) h1).trans h6⟩, frozen_of_row w b 8 cur 61 h1⟩
theorem Ins.set {b i : Nat} {m : Int} (h : Ins w b i m) (u : Value) : Ins (w.setCell ⟨b, 8, none⟩ u) b i m := by
  obtain ⟨cur, h1, h2, h3, h4, h5, q, h6⟩ := h
  refine ⟨cur.setIfInBounds 8 u, heap_setCell_same w b 8 cur 61 u h1, ?_, ?_, ?_, ?_, u, ?_⟩
  · rw [Array.getElem?_setIfInBounds_ne (by omega)]; exact h2
  · rw [Array.getElem?_setIfInBounds_ne (by omega)]; exact h3
  · rw [Array.getElem?_setIfInBounds_ne (by omega)]; exact h4
  · rw [Array.getElem?_setIfInBounds_ne (by omega)]; exact h5
  · have := (Array.getElem?_eq_some_iff.1 h6).1
    simp [this]

theorem ownsRow_lt_block {base : Nat} {e : TypeId} {size k : Nat} {xs : List Value} (h : w.ownsRow base e size v k xs) (hb : ∀ i cur, w.heap[i]? = some (.cells cur e (0, 0)) → base ≤ i → w'.heap[i]? = w.heap[i]?) : w'.ownsRow base e size v k xs := by
  obtain ⟨h1, h2⟩ := h
  refine ⟨h1, ?_⟩
  rcases h2 with h2 | ⟨g, cap, cur, hv, hg, hh, r⟩
  · exact .inl h2
  · exact .inr ⟨g, cap, cur, hv, hg, (hb g cur hh hg).trans hh, r⟩

theorem Que.later (h : Que w T n bs ms v l) (hb : Below w.heap.size w w') : Que w' T n bs ms v l := by
  obtain ⟨cur, h1, h2⟩ := h.tab
  exact ⟨⟨cur, (hb.block T (Array.getElem?_eq_some_iff.1 h1).1).trans h1, h2⟩, ownsRow_lt_block h.own (fun i cur hi _ => hb.block i (Array.getElem?_eq_some_iff.1 hi).1), fun i hi => (h.ins i hi).block (hb.block _ (h.ins i hi).lt), h.lt, h.low⟩
theorem Que.tlt (h : Que w T n bs ms v l) : T < w.heap.size := by
  obtain ⟨cur, h1, h2⟩ := h.tab
  exact (Array.getElem?_eq_some_iff.1 h1).1
theorem Que.cell (h : Que w T n bs ms v l) : w.cell? ⟨T, 7, none⟩ = some v ∧ w.frozen? ⟨T, 7, none⟩ = false := by
  obtain ⟨cur, h1, h2⟩ := h.tab
  exact ⟨(cell_of_row w T 7 cur 72 (0, 0) h1).trans h2, frozen_of_row w T 7 cur 72 h1⟩
theorem Que.shape (h : Que w T n bs ms v l) : ∃ a cap, v = .slice a l.length cap := by
  rcases h.own.2 with ⟨rfl, e⟩ | ⟨g, cap, cur, rfl, _⟩
  · exact ⟨none, 0, by rw [e]⟩
  · exact ⟨_, _, rfl⟩
theorem Que.row (h : Que w T n bs ms v l) (hl : 0 < l.length) : ∃ g cap cur, v = .slice (some ⟨g, 0, none⟩) l.length cap ∧ T < g ∧ w.heap[g]? = some (.cells cur 53 (0, 0)) ∧ l.length ≤ cap ∧ cap ≤ maxLen := by
  rcases h.own.2 with ⟨rfl, e⟩ | ⟨g, cap, cur, rfl, hb, hh, h1, h2, _⟩
  · omega
  · exact ⟨g, cap, cur, rfl, hb, hh, h1, h2⟩
theorem Que.at {g cap : Nat} (h : Que w T n bs ms (.slice (some ⟨g, 0, none⟩) l.length cap) l) (i : Nat) (hi : i < l.length) : w.cell? ⟨g, i, none⟩ = some (ptr bs (l.getD i 0)) ∧ w.frozen? ⟨g, i, none⟩ = false ∧ l.getD i 0 < n := by
  refine ⟨?_, h.own.frozenAt i, ?_⟩
  · rw [h.own.cellAt i (by omega)]
    simp [hi]
  · apply h.lt
    simp [List.getD_eq_getElem?_getD, hi]

theorem Que.setQ (h : Que w T n bs ms v l) {i : Nat} (hi : i < n) (u : Value) : Que (w.setCell ⟨bs i, 8, none⟩ u) T n bs ms v l ∧ Stp T w (w.setCell ⟨bs i, 8, none⟩ u) := by
  obtain ⟨cur, h1, h2⟩ := h.tab
  obtain ⟨c, hc, _⟩ := h.ins i hi
  have hlow := h.low i hi
  refine ⟨⟨⟨cur, ?_, h2⟩, ownsRow_lt_block h.own (fun k c' hk _ => ?_), fun j hj => ?_, h.lt, h.low⟩, Stp.set hc (by omega) (.inr (.inl rfl)) u⟩
  · rw [Below.heap_setCell _ _ _ _ (by show T ≠ bs i; omega)]; exact h1
  · refine Below.heap_setCell _ _ _ _ ?_
    show k ≠ bs i
    rintro rfl
    rw [hc] at hk
    injection hk with hk; injection hk with _ hk; contradiction
  · by_cases e : bs j = bs i
    · have hI := (h.ins j hj).set u
      rw [e] at hI ⊢
      exact hI
    · exact (h.ins j hj).block (Below.heap_setCell _ _ _ _ e)

theorem Que.setAt {g cap : Nat} (h : Que w T n bs ms (.slice (some ⟨g, 0, none⟩) l.length cap) l) (j x : Nat) (hl : 0 < l.length) (hx : x < n) :
    Que (w.setCell ⟨g, j, none⟩ (ptr bs x)) T n bs ms (.slice (some ⟨g, 0, none⟩) l.length cap) (l.set j x) ∧ Stp T w (w.setCell ⟨g, j, none⟩ (ptr bs x)) := by
  obtain ⟨cur, h1, h2⟩ := h.tab
  obtain ⟨g', cap', cu, e, hTg, hg, _, _⟩ := h.row hl
  simp only [Value.slice.injEq, Option.some.injEq, Addr.mk.injEq, and_true, true_and] at e
  obtain ⟨rfl, rfl⟩ := e
  have st := (h.own.stored j (ptr bs x)).1
  refine ⟨⟨⟨cur, ?_, h2⟩, by simpa [List.map_set] using st, fun k hk => ?_, ?_, h.low⟩, Stp.set hg (by omega) (.inl rfl) _⟩
  · rw [Below.heap_setCell _ _ _ _ (by show T ≠ g; omega)]; exact h1
  · refine (h.ins k hk).block (Below.heap_setCell _ _ _ _ ?_)
    show bs k ≠ g
    rintro rfl
    obtain ⟨c, hc, _⟩ := h.ins k hk
    rw [hc] at hg
    injection hg with hg; injection hg with _ hg; contradiction
  · intro i hi
    rcases List.mem_or_eq_of_mem_set hi with h' | h'
    · exact h.lt i h'
    · rw [h']; exact hx
end
end Go.Proofs.Ybulkhfi.C
