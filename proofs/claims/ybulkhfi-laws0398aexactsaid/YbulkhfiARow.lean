import Derived.Test.YbulkhfiALaw
namespace Go.Proofs.Ybulkhfi.A
open Go.RowKit
set_option linter.unusedVariables false

/-- What the build knows of one found set: where its vector, its liars and its entries lie. -/
structure Row where
  lb : Nat
  ub : Nat
  ha : Option Addr
  hc : Nat
  hs : List (Nat × Int)

structure RowOk (w : World) (alone : Bool) (g bv t : Nat) (mem : Nat → Nat) (lt : Nat → Int) (r : Row) : Prop where
  blb : bv < r.lb
  llb : r.lb < w.heap.size
  bub : bv < r.ub
  lub : r.ub < w.heap.size
  lie : ∀ i, i < g → w.cell? ⟨r.lb, i, none⟩ = some (.int .i64 (lt i))
  liar : w.cell? ⟨r.ub, 0, none⟩ = some (.int .u64 (t : Int))
  hld : r.hs = [] ∨ ∃ b, r.ha = some ⟨b, 0, none⟩ ∧ bv < b ∧ b < w.heap.size ∧ ∀ t, t < r.hs.length → w.cell? ⟨b, t * 2, none⟩ = some (.int .i64 ((r.hs.getD t (0, 0)).1 : Int)) ∧ w.cell? ⟨b, t * 2 + 1, none⟩ = some (.int .i64 (r.hs.getD t (0, 0)).2)
  ok : HoldsOk alone g mem lt r.hs
  few : r.hs.length ≤ g

theorem cell_block {w w' : World} {b o : Nat} (h : w'.heap[b]? = w.heap[b]?) : w'.cell? ⟨b, o, none⟩ = w.cell? ⟨b, o, none⟩ := World.cell?_of_block (w := w) (a := ⟨b, o, none⟩) h

theorem RowOk.keep {w w' : World} {alone : Bool} {g bv t : Nat} {mem : Nat → Nat} {lt : Nat → Int} {r : Row} (h : RowOk w alone g bv t mem lt r) (hsz : w.heap.size ≤ w'.heap.size) (hk : ∀ i, bv < i → i < w.heap.size → w'.heap[i]? = w.heap[i]?) : RowOk w' alone g bv t mem lt r where
  blb := h.blb
  llb := Nat.lt_of_lt_of_le h.llb hsz
  bub := h.bub
  lub := Nat.lt_of_lt_of_le h.lub hsz
  lie := fun i hi => (cell_block (hk _ h.blb h.llb)).trans (h.lie i hi)
  liar := (cell_block (hk _ h.bub h.lub)).trans h.liar
  hld := by
    rcases h.hld with h1 | ⟨b, h1, h2, h3, h4⟩
    · exact .inl h1
    · exact .inr ⟨b, h1, h2, Nat.lt_of_lt_of_le h3 hsz, fun t ht => ⟨(cell_block (hk _ h2 h3)).trans (h4 t ht).1, (cell_block (hk _ h2 h3)).trans (h4 t ht).2⟩⟩
  ok := h.ok
  few := h.few

def rowCells (g : Nat) (rs : List Row) : List Value := rs.flatMap (fun r => [.slice (some ⟨r.lb, 0, none⟩) g g, .slice (some ⟨r.ub, 0, none⟩) 1 1, .slice r.ha r.hs.length r.hc])
def vecCells (g : Nat) (rs : List Row) : List Value := rs.map (fun r => .slice (some ⟨r.lb, 0, none⟩) g g)
def heldCells (hs : List (Nat × Int)) : List Value := hs.flatMap (fun p => [.int .i64 (p.1 : Int), .int .i64 p.2])
def row0 : Row := ⟨0, 0, none, 0, []⟩

theorem rowCells_length (g : Nat) (rs : List Row) : (rowCells g rs).length = rs.length * 3 := by
  induction rs with
  | nil => rfl
  | cons r rs ih => simp [rowCells] at ih ⊢; omega

theorem rowCells_at (g : Nat) : ∀ (rs : List Row) (t : Nat), t < rs.length → (rowCells g rs)[t * 3]? = some (.slice (some ⟨(rs.getD t row0).lb, 0, none⟩) g g) ∧ (rowCells g rs)[t * 3 + 1]? = some (.slice (some ⟨(rs.getD t row0).ub, 0, none⟩) 1 1) ∧ (rowCells g rs)[t * 3 + 2]? = some (.slice (rs.getD t row0).ha (rs.getD t row0).hs.length (rs.getD t row0).hc)
  | [], t, h => by simp at h
  | x :: rs, 0, h => by simp [rowCells]
  | x :: rs, t + 1, h => by
    obtain ⟨h1, h2, h3⟩ := rowCells_at g rs t (by simpa using h)
    have e : ∀ o, (rowCells g (x :: rs))[t * 3 + o + 3]? = (rowCells g rs)[t * 3 + o]? := fun o => by simp [rowCells]
    refine ⟨?_, ?_, ?_⟩
    · rw [show (t + 1) * 3 = t * 3 + 0 + 3 from by omega, e 0]; simpa using h1
    · rw [show (t + 1) * 3 + 1 = t * 3 + 1 + 3 from by omega, e 1]; simpa using h2
    · rw [show (t + 1) * 3 + 2 = t * 3 + 2 + 3 from by omega, e 2]; simpa using h3

theorem vecCells_at (g : Nat) (rs : List Row) (t : Nat) (ht : t < rs.length) : (vecCells g rs)[t]? = some (.slice (some ⟨(rs.getD t row0).lb, 0, none⟩) g g) := by
  simp [vecCells, ht]

theorem heldCells_length (hs : List (Nat × Int)) : (heldCells hs).length = hs.length * 2 := by
  induction hs with
  | nil => rfl
  | cons r rs ih => simp [heldCells] at ih ⊢; omega

theorem heldCells_at : ∀ (hs : List (Nat × Int)) (t : Nat), t < hs.length → (heldCells hs)[t * 2]? = some (.int .i64 ((hs.getD t (0, 0)).1 : Int)) ∧ (heldCells hs)[t * 2 + 1]? = some (.int .i64 (hs.getD t (0, 0)).2)
  | [], t, h => by simp at h
  | x :: hs, 0, h => by simp [heldCells]
  | x :: hs, t + 1, h => by
    obtain ⟨h1, h2⟩ := heldCells_at hs t (by simpa using h)
    have e : ∀ o, (heldCells (x :: hs))[t * 2 + o + 2]? = (heldCells hs)[t * 2 + o]? := fun o => by simp [heldCells]
    refine ⟨?_, ?_⟩
    · rw [show (t + 1) * 2 = t * 2 + 0 + 2 from by omega, e 0]; simpa using h1
    · rw [show (t + 1) * 2 + 1 = t * 2 + 1 + 2 from by omega, e 1]; simpa using h2

/-- The entries, once built, as the row has them. -/
theorem held_of_owns {w : World} {B bv : Nat} {v : Value} {hs : List (Nat × Int)} (h : w.ownsRow B 85 2 v hs.length (heldCells hs)) (hb : bv < B) :
    ∃ (ao : Option Addr) (cap : Nat), v = .slice ao hs.length cap ∧ (hs = [] ∨ ∃ b, ao = some ⟨b, 0, none⟩ ∧ bv < b ∧ b < w.heap.size ∧ ∀ t, t < hs.length → w.cell? ⟨b, t * 2, none⟩ = some (.int .i64 ((hs.getD t (0, 0)).1 : Int)) ∧ w.cell? ⟨b, t * 2 + 1, none⟩ = some (.int .i64 (hs.getD t (0, 0)).2)) := by
  obtain ⟨ao, cap, hv, hc⟩ := owns_shape h
  refine ⟨ao, cap, hv, ?_⟩
  rcases Nat.eq_zero_or_pos hs.length with h0 | h0
  · exact .inl (List.eq_nil_of_length_eq_zero h0)
  · obtain ⟨b, h1, h2, h3, h4⟩ := hc h0
    refine .inr ⟨b, h1, by omega, h2, fun t ht => ?_⟩
    obtain ⟨e1, e2⟩ := heldCells_at hs t ht
    exact ⟨(h4 _ (by omega)).trans e1, (h4 _ (by omega)).trans e2⟩

/-- n cells of numbers from block L on, one every s, at offset c. -/
def Nums (w : World) (L s c n : Nat) (f : Nat → Int) : Prop := ∀ i, i < n → w.cell? ⟨L, i * s + c, none⟩ = some (.int .i64 (f i)) ∧ w.frozen? ⟨L, i * s + c, none⟩ = false

theorem Nums.set {w : World} {L s c n : Nat} {f : Nat → Int} (h : Nums w L s c n f) (hs : 0 < s) {m : Nat} (hm : m < n) (x : Int) : Nums (w.setCell ⟨L, m * s + c, none⟩ (.int .i64 x)) L s c n (fun i => if i = m then x else f i) := by
  intro u hu
  obtain ⟨cc, fz⟩ := h u hu
  refine ⟨?_, by rw [World.frozen?_setCell]; exact fz⟩
  by_cases e : u = m
  · subst e
    simp only [if_true]
    exact World.cell?_setCell_same _ _ _ cc
  · simp only [if_neg e]
    rw [World.cell?_setCell_other]
    · exact cc
    · intro e'
      simp only [Addr.mk.injEq] at e'
      have h1 : m * s = u * s := by omega
      exact e (Nat.eq_of_mul_eq_mul_right hs h1).symm
theorem Nums.congr {w : World} {L s c n : Nat} {f f' : Nat → Int} (h : Nums w L s c n f) (hf : ∀ i, i < n → f' i = f i) : Nums w L s c n f' := fun i hi => by rw [hf i hi]; exact h i hi
theorem Nums.block {w w' : World} {L s c n : Nat} {f : Nat → Int} (h : Nums w L s c n f) (hb : w'.heap[L]? = w.heap[L]?) : Nums w' L s c n f := fun i hi =>
  ⟨(cell_block hb).trans (h i hi).1, (World.frozen?_of_block (w := w) (a := ⟨L, i * s + c, none⟩) hb).trans (h i hi).2⟩

theorem made_at (z : Array Value) (n i : Nat) (hi : i < n) : (madeCells z n).toList[i]? = some (z[i % z.size]!) := by
  simp [madeCells, hi]

theorem nums_made (w : World) (base L g s c : Nat) (e : TypeId) (z : Array Value) (hown : w.ownsRow base e s (.slice (some ⟨L, 0, none⟩) g g) g (madeCells z (g * s)).toList) (hz : z.size = s) (hc : c < s) (hv : z[c]! = .int .i64 0) : Nums w L s c g (fun _ => 0) := by
  intro i hi
  have h1 : i * s + c < g * s := by
    have : (i + 1) * s ≤ g * s := Nat.mul_le_mul_right s (by omega)
    rw [Nat.add_mul] at this
    omega
  refine ⟨?_, hown.frozenAt _⟩
  rw [hown.cellAt _ h1, made_at _ _ _ h1, hz]
  have h2 : (i * s + c) % s = c := by
    rw [Nat.add_comm, Nat.add_mul_mod_self_right]
    exact Nat.mod_eq_of_lt hc
  rw [h2, hv]
end Go.Proofs.Ybulkhfi.A
