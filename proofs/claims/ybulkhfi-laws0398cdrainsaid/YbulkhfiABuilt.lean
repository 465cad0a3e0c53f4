import Derived.Test.YbulkhfiAPlain
import Derived.Test.YbulkhfiRows
import Derived.WalkKit
import Derived.WalkSpells
import Derived.WalkLawsBesides
namespace Go.Proofs.Ybulkhfi.A
open Go.RowKit
set_option linter.unusedVariables false

/-- What lies below B reads as before: the two rules for the walk. -/
theorem bcell {B : Nat} {W w1 : World} (hb : Below B W w1) : (∀ b o, b < B → w1.cell? ⟨b, o, none⟩ = W.cell? ⟨b, o, none⟩) ∧ (∀ b o, b < B → w1.frozen? ⟨b, o, none⟩ = W.frozen? ⟨b, o, none⟩) :=
  ⟨fun b o h => hb.cell (p := ⟨b, o, none⟩) h, fun b o h => hb.frozen (p := ⟨b, o, none⟩) h⟩

theorem below_drewN {B : Nat} {a w : World} (h : Below B a w) : ∀ n, Below B a (w.drewN n)
  | 0 => h
  | n + 1 => (below_drewN h n).drew

/-- A slice of held entries, as it lies. -/
def Held (w : World) (ao : Option Addr) (hs : List (Nat × Int)) : Prop :=
  hs = [] ∨ ∃ b, ao = some ⟨b, 0, none⟩ ∧ b < w.heap.size ∧ ∀ t, t < hs.length → w.cell? ⟨b, t * 2, none⟩ = some (.int .i64 ((hs.getD t (0, 0)).1 : Int)) ∧ w.cell? ⟨b, t * 2 + 1, none⟩ = some (.int .i64 (hs.getD t (0, 0)).2)

theorem Held.later {w w' : World} {ao : Option Addr} {hs : List (Nat × Int)} (h : Held w ao hs) (hb : Below w.heap.size w w') : Held w' ao hs := by
  rcases h with h | ⟨b, h1, h2, h3⟩
  · exact .inl h
  · exact .inr ⟨b, h1, Nat.lt_of_lt_of_le h2 hb.size, fun t ht => ⟨(hb.cell (by exact h2)).trans (h3 t ht).1, (hb.cell (by exact h2)).trans (h3 t ht).2⟩⟩

/-- What 'zzs0398abuild' leaves in memory. -/
structure Built (w : World) (alone : Bool) (g n : Nat) (mem : Nat → Nat) (l : Nat → Nat → Int) (hs : Nat → List (Nat × Int)) (bm bs bg bf bv : Nat) (lb ub : Nat → Nat) (ha : Nat → Option Addr) (hc : Nat → Nat) : Prop where
  lm : bm < w.heap.size
  ls : bs < w.heap.size
  lg : bg < w.heap.size
  lf : bf < w.heap.size
  lv : bv < w.heap.size
  llb : ∀ j, j < n → lb j < w.heap.size
  lub : ∀ j, j < n → ub j < w.heap.size
  cm : w.cell? ⟨bm, 5, none⟩ = some (.bool alone)
  cs0 : w.cell? ⟨bs, 0, none⟩ = some (.pointer (some ⟨bm, 0, none⟩))
  cs2 : w.cell? ⟨bs, 2, none⟩ = some (.slice (some ⟨bg, 0, none⟩) g g)
  cs7 : w.cell? ⟨bs, 7, none⟩ = some (.slice (some ⟨bf, 0, none⟩) n n)
  grp : ∀ i, i < g → w.cell? ⟨bg, i * 7 + 1, none⟩ = some (.int .i64 (mem i : Int))
  fnd : ∀ j, j < n → w.cell? ⟨bf, j * 3, none⟩ = some (.slice (some ⟨lb j, 0, none⟩) g g) ∧ w.cell? ⟨bf, j * 3 + 1, none⟩ = some (.slice (some ⟨ub j, 0, none⟩) 1 1) ∧ w.cell? ⟨bf, j * 3 + 2, none⟩ = some (.slice (ha j) (hs j).length (hc j))
  vec : ∀ j, j < n → w.cell? ⟨bv, j, none⟩ = some (.slice (some ⟨lb j, 0, none⟩) g g)
  lie : ∀ j, j < n → ∀ i, i < g → w.cell? ⟨lb j, i, none⟩ = some (.int .i64 (l j i))
  liar : ∀ j, j < n → w.cell? ⟨ub j, 0, none⟩ = some (.int .u64 (j : Int))
  hld : ∀ j, j < n → Held w (ha j) (hs j)
  ok : ∀ j, j < n → HoldsOk alone g mem (l j) (hs j)
  small : ∀ j, j < n → ∀ i, i < g → 0 ≤ l j i ∧ l j i ≤ 3
  mem4 : ∀ i, i < g → mem i < 4
  few : ∀ j, j < n → (hs j).length ≤ g
  g256 : g ≤ 256
  n256 : n ≤ 256

theorem Built.later {w w' : World} {alone : Bool} {g n : Nat} {mem : Nat → Nat} {l : Nat → Nat → Int} {hs : Nat → List (Nat × Int)} {bm bs bg bf bv : Nat} {lb ub : Nat → Nat} {ha : Nat → Option Addr} {hc : Nat → Nat}
    (h : Built w alone g n mem l hs bm bs bg bf bv lb ub ha hc) (hb : Below w.heap.size w w') : Built w' alone g n mem l hs bm bs bg bf bv lb ub ha hc where
  lm := Nat.lt_of_lt_of_le h.lm hb.size
  ls := Nat.lt_of_lt_of_le h.ls hb.size
  lg := Nat.lt_of_lt_of_le h.lg hb.size
  lf := Nat.lt_of_lt_of_le h.lf hb.size
  lv := Nat.lt_of_lt_of_le h.lv hb.size
  llb := fun j hj => Nat.lt_of_lt_of_le (h.llb j hj) hb.size
  lub := fun j hj => Nat.lt_of_lt_of_le (h.lub j hj) hb.size
  cm := (hb.cell (by exact h.lm)).trans h.cm
  cs0 := (hb.cell (by exact h.ls)).trans h.cs0
  cs2 := (hb.cell (by exact h.ls)).trans h.cs2
  cs7 := (hb.cell (by exact h.ls)).trans h.cs7
  grp := fun i hi => (hb.cell (by exact h.lg)).trans (h.grp i hi)
  fnd := fun j hj => ⟨(hb.cell (by exact h.lf)).trans (h.fnd j hj).1, (hb.cell (by exact h.lf)).trans (h.fnd j hj).2.1, (hb.cell (by exact h.lf)).trans (h.fnd j hj).2.2⟩
  vec := fun j hj => (hb.cell (by exact h.lv)).trans (h.vec j hj)
  lie := fun j hj i hi => (hb.cell (by exact h.llb j hj)).trans (h.lie j hj i hi)
  liar := fun j hj => (hb.cell (by exact h.lub j hj)).trans (h.liar j hj)
  hld := fun j hj => (h.hld j hj).later hb
  ok := h.ok
  small := h.small
  mem4 := h.mem4
  few := h.few
  g256 := h.g256
  n256 := h.n256
end Go.Proofs.Ybulkhfi.A
