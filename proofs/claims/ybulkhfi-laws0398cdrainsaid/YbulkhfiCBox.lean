import Derived.Test.YbulkhfiCDue
namespace Go.Proofs.Ybulkhfi.C
open Go.RowKit
set_option linter.unusedVariables false

/-- Block b holds the time m and nothing else. -/
def Box (w : World) (b : Nat) (m : Int) : Prop := w.heap[b]? = some (.cells #[.int .u64 (wl m), .int .i64 (ex m), .pointer none] 52 (0, 0))
/-- Block g holds N flags: those of p are set. -/
def Seen (w : World) (g N : Nat) (p : List Nat) : Prop := ∃ cur : Array Value, w.heap[g]? = some (.cells cur 4 (0, 0)) ∧ ∀ i, i < N → cur[i]? = some (.bool (decide (i ∈ p)))

section
variable {w w' : World} {T n : Nat} {bs : Nat → Nat} {ms : Nat → Int} {v : Value} {l : List Nat}

theorem Box.lt {b : Nat} {m : Int} (h : Box w b m) : b < w.heap.size := (Array.getElem?_eq_some_iff.1 h).1
theorem Box.below {b : Nat} {m : Int} (h : Box w b m) (hb : Below w.heap.size w w') : Box w' b m := (hb.block b h.lt).trans h
theorem Box.stp {b : Nat} {m : Int} (h : Box w b m) (hs : Stp T w w') : Box w' b m := hs.oth b _ _ h (by decide) (by decide) (by decide)
theorem Box.other {b : Nat} {m : Int} (h : Box w b m) {a : Addr} (ha : b ≠ a.block) (u : Value) : Box (w.setCell a u) b m := (Below.heap_setCell _ _ _ _ ha).trans h
theorem Box.cells {b : Nat} {m : Int} (h : Box w b m) : w.cell? ⟨b, 0, none⟩ = some (.int .u64 (wl m)) ∧ w.cell? ⟨b, 1, none⟩ = some (.int .i64 (ex m)) ∧ w.cell? ⟨b, 2, none⟩ = some (.pointer none) ∧ w.frozen? ⟨b, 0, none⟩ = false ∧ w.frozen? ⟨b, 1, none⟩ = false ∧ w.frozen? ⟨b, 2, none⟩ = false :=
  ⟨cell_of_row w b 0 _ 52 (0, 0) h, cell_of_row w b 1 _ 52 (0, 0) h, cell_of_row w b 2 _ 52 (0, 0) h, frozen_of_row w b 0 _ 52 h, frozen_of_row w b 1 _ 52 h, frozen_of_row w b 2 _ 52 h⟩
theorem Box.put {b : Nat} {m : Int} (h : Box w b m) (m' : Int) : Box (((w.setCell ⟨b, 0, none⟩ (.int .u64 (wl m'))).setCell ⟨b, 1, none⟩ (.int .i64 (ex m'))).setCell ⟨b, 2, none⟩ (.pointer none)) b m' := by
  have h1 := heap_setCell_same w b 0 _ 52 (.int .u64 (wl m')) h
  have h2 := heap_setCell_same _ b 1 _ 52 (.int .i64 (ex m')) h1
  exact heap_setCell_same _ b 2 _ 52 (.pointer none) h2
theorem box_new (w : World) (m : Int) : Box (w.alloc (.cells #[.int .u64 (wl m), .int .i64 (ex m), .pointer none] 52)) w.heap.size m := heap_alloc_new w _
theorem box_zero (w : World) : Box (w.alloc (.cells #[.int .u64 0, .int .i64 0, .pointer none] 52)) w.heap.size 0 := heap_alloc_new w _

theorem Seen.lt {g N : Nat} {p : List Nat} (h : Seen w g N p) : g < w.heap.size := by obtain ⟨c, h1, _⟩ := h; exact (Array.getElem?_eq_some_iff.1 h1).1
theorem Seen.below {g N : Nat} {p : List Nat} (h : Seen w g N p) (hb : Below w.heap.size w w') : Seen w' g N p := by obtain ⟨c, h1, h2⟩ := h; exact ⟨c, (hb.block g (Array.getElem?_eq_some_iff.1 h1).1).trans h1, h2⟩
theorem Seen.stp {g N : Nat} {p : List Nat} (h : Seen w g N p) (hs : Stp T w w') : Seen w' g N p := by obtain ⟨c, h1, h2⟩ := h; exact ⟨c, hs.oth g _ _ h1 (by decide) (by decide) (by decide), h2⟩
theorem Seen.other {g N : Nat} {p : List Nat} (h : Seen w g N p) {a : Addr} (ha : g ≠ a.block) (u : Value) : Seen (w.setCell a u) g N p := by obtain ⟨c, h1, h2⟩ := h; exact ⟨c, (Below.heap_setCell _ _ _ _ ha).trans h1, h2⟩
theorem Seen.cell {g N : Nat} {p : List Nat} (h : Seen w g N p) {i : Nat} (hi : i < N) : w.cell? ⟨g, i, none⟩ = some (.bool (decide (i ∈ p))) ∧ w.frozen? ⟨g, i, none⟩ = false := by
  obtain ⟨c, h1, h2⟩ := h
  exact ⟨(cell_of_row w g i c 4 (0, 0) h1).trans (h2 i hi), frozen_of_row w g i c 4 h1⟩
theorem Seen.put {g N : Nat} {p : List Nat} (h : Seen w g N p) {i : Nat} (hi : i < N) : Seen (w.setCell ⟨g, i, none⟩ (.bool true)) g N (p ++ [i]) := by
  obtain ⟨c, h1, h2⟩ := h
  refine ⟨c.setIfInBounds i (.bool true), heap_setCell_same w g i c 4 _ h1, fun j hj => ?_⟩
  by_cases e : i = j
  · subst e
    have := (Array.getElem?_eq_some_iff.1 (h2 i hi)).1
    simp [this]
  · rw [Array.getElem?_setIfInBounds_ne e, h2 j hj]
    have : (j ∈ p ++ [i]) ↔ j ∈ p := by simp [Ne.symm e]
    simp only [this]
theorem Box.ne_que {b : Nat} {m : Int} (h : Box w b m) {g N : Nat} {p : List Nat} (hs : Seen w g N p) : b ≠ g := by
  rintro rfl
  obtain ⟨c, h1, _⟩ := hs
  unfold Box at h
  rw [h1] at h
  injection h with h; injection h with _ h; contradiction

/-- A store into a block of a time or of flags leaves the queue as it was. -/
theorem Que.other (h : Que w T n bs ms v l) {b o : Nat} {cur : Array Value} {t : TypeId} (hb : w.heap[b]? = some (.cells cur t (0, 0))) (h1 : t ≠ 53) (h2 : t ≠ 61) (h3 : t ≠ 72) (u : Value) : Que (w.setCell ⟨b, o, none⟩ u) T n bs ms v l := by
  obtain ⟨c, c1, c2⟩ := h.tab
  refine ⟨⟨c, ?_, c2⟩, ownsRow_lt_block h.own (fun k c' hk _ => Below.heap_setCell _ _ _ _ ?_), fun j hj => ?_, h.lt, h.low⟩
  · rw [Below.heap_setCell _ _ _ _ ?_]; exact c1
    show T ≠ b
    rintro rfl
    rw [hb] at c1; injection c1 with c1; injection c1 with _ c1; exact h3 c1
  · show k ≠ b
    rintro rfl
    rw [hb] at hk; injection hk with hk; injection hk with _ hk; exact h1 hk
  · refine (h.ins j hj).block (Below.heap_setCell _ _ _ _ ?_)
    show bs j ≠ b
    rintro rfl
    obtain ⟨d, d1, _⟩ := h.ins j hj
    rw [hb] at d1; injection d1 with d1; injection d1 with _ d1; exact h2 d1

/-- One more instance is there. -/
theorem Que.more (h : Que w T n bs ms v l) (cur : Array Value) (c0 : cur[0]? = some (.int .u64 n)) (c5 : cur[5]? = some (.int .u64 (wl (ms n)))) (c6 : cur[6]? = some (.int .i64 (ex (ms n)))) (c7 : cur[7]? = some (.pointer none)) (c8 : ∃ q, cur[8]? = some q) :
    Que (w.alloc (.cells cur 61)) T (n + 1) (fun i => if i = n then w.heap.size else bs i) ms v l := by
  have hb : Below w.heap.size w (w.alloc (.cells cur 61)) := (Below.refl _ _).alloc (Nat.le_refl _) _
  have h' := h.later hb
  refine ⟨h'.tab, ?_, fun i hi => ?_, fun i hi => Nat.lt_succ_of_lt (h.lt i hi), fun i hi => ?_⟩
  · have e : l.map (ptr (fun i => if i = n then w.heap.size else bs i)) = l.map (ptr bs) := by
      apply List.map_congr_left
      intro i hi
      have := h.lt i hi
      simp only [ptr]
      rw [if_neg (by omega)]
    rw [e]
    exact h'.own
  · by_cases e : i = n
    · subst e
      simp only [if_pos]
      exact ⟨cur, heap_alloc_new w _, c0, c5, c6, c7, c8⟩
    · simp only [if_neg e]
      exact h'.ins i (by omega)
  · have := h.tlt
    by_cases e : i = n
    · simp only [if_pos e]; omega
    · simp only [if_neg e]; exact h.low i (by omega)
end

/-- How many of the first k wakes are due. -/
def cnt (z : Nat → Int) (now : Int) (k : Nat) : Nat := (List.range k).countP (fun i => decide (z i ≤ now))
theorem cnt_succ (z : Nat → Int) (now : Int) (k : Nat) : cnt z now (k + 1) = cnt z now k + (if z k ≤ now then 1 else 0) := by
  unfold cnt
  rw [List.range_succ, List.countP_append]
  by_cases h : z k ≤ now <;> simp [h]
theorem cnt_le (z : Nat → Int) (now : Int) (k : Nat) : cnt z now k ≤ k := by
  unfold cnt
  have := List.countP_le_length (p := fun i => decide (z i ≤ now)) (l := List.range k)
  simpa using this
theorem cnt_split {z : Nat → Int} {now : Int} {N : Nat} {p l : List Nat} (h : (p ++ l).Perm (List.range N)) (hp : ∀ i ∈ p, z i ≤ now) (hl : ∀ i ∈ l, now < z i) : cnt z now N = p.length := by
  unfold cnt
  rw [← h.countP_eq, List.countP_append]
  have e1 : p.countP (fun i => decide (z i ≤ now)) = p.length := List.countP_eq_length.2 (fun i hi => by simpa using hp i hi)
  have e2 : l.countP (fun i => decide (z i ≤ now)) = 0 := List.countP_eq_zero.2 (fun i hi => by have := hl i hi; simp; omega)
  omega
theorem hp_all {ms : Nat → Int} {l : List Nat} (h : Hp (fun k => ms (l.getD k 0)) l.length) : ∀ i ∈ l, ms (l.getD 0 0) ≤ ms i := by
  intro i hi
  obtain ⟨k, hk, rfl⟩ := List.getElem_of_mem hi
  have := h.min k hk
  simpa [hk] using this
end Go.Proofs.Ybulkhfi.C
