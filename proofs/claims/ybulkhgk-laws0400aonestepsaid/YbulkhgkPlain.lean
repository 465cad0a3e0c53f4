import Derived.Test.YbulkhgkRows
import Derived.WalkKit
import Derived.WalkSpells
import Derived.WalkLawsBesides
import Derived.RegionTactic
import Derived.ChangeAlike
import Derived.Deep.QuietTactic
import Derived.BigQuiet
import Derived.Laws.StructEq
import Derived.Laws.CopyOwn
namespace Go.Proofs.Ybulkhgk.M
open Go.RowKit
set_option linter.unusedVariables false

theorem hid_mk {p : Prop} (h : p) : Hid p := h
theorem below_drewN {B : Nat} {a w : World} (h : Below B a w) : ∀ n, Below B a (w.drewN n)
  | 0 => h
  | n + 1 => (below_drewN h n).drew

/-- A mark: its change, its revision, how many it skips. -/
abbrev Mk := Int × Int × Int
def mk0 : Mk := (0, 0, 0)
def mc (m : Mk) : List Value := [.int .u64 m.1, .int .i64 m.2.1, .int .i64 m.2.2]
def mcs (L : List Mk) : List Value := L.flatMap mc
theorem mcs_append (L K : List Mk) : mcs (L ++ K) = mcs L ++ mcs K := by simp [mcs]
theorem mcs_length (L : List Mk) : (mcs L).length = L.length * 3 := by
  induction L with
  | nil => rfl
  | cons r rs ih => simp [mcs, mc] at ih ⊢; omega
theorem mcs_at : ∀ (L : List Mk) (t : Nat), t < L.length → (mcs L)[t * 3]? = some (.int .u64 (L.getD t mk0).1) ∧ (mcs L)[t * 3 + 1]? = some (.int .i64 (L.getD t mk0).2.1) ∧ (mcs L)[t * 3 + 2]? = some (.int .i64 (L.getD t mk0).2.2)
  | [], t, h => by simp at h
  | x :: rs, 0, h => by simp [mcs, mc]
  | x :: rs, t + 1, h => by
    obtain ⟨h1, h2, h3⟩ := mcs_at rs t (by simpa using h)
    have e : ∀ o, (mcs (x :: rs))[t * 3 + o + 3]? = (mcs rs)[t * 3 + o]? := fun o => by simp [mcs, mc]
    refine ⟨?_, ?_, ?_⟩
    · rw [show (t + 1) * 3 = t * 3 + 0 + 3 from by omega, e 0]; simpa using h1
    · rw [show (t + 1) * 3 + 1 = t * 3 + 1 + 3 from by omega, e 1]; simpa using h2
    · rw [show (t + 1) * 3 + 2 = t * 3 + 2 + 3 from by omega, e 2]; simpa using h3
theorem mcs_take (L : List Mk) (k : Nat) : (mcs L).take (k * 3) = mcs (L.take k) := by
  induction L generalizing k with
  | nil => simp [mcs]
  | cons r rs ih =>
    cases k with
    | zero => simp [mcs]
    | succ k =>
      have := ih k
      simp only [mcs, mc, List.flatMap_cons, List.take_succ_cons] at this ⊢
      rw [show (k + 1) * 3 = k * 3 + 1 + 1 + 1 from by omega]
      simp [this]
theorem mcs_drop (L : List Mk) (k : Nat) : (mcs L).drop (k * 3) = mcs (L.drop k) := by
  induction L generalizing k with
  | nil => simp [mcs]
  | cons r rs ih =>
    cases k with
    | zero => simp [mcs]
    | succ k =>
      have := ih k
      simp only [mcs, mc, List.flatMap_cons, List.drop_succ_cons] at this ⊢
      rw [show (k + 1) * 3 = k * 3 + 1 + 1 + 1 from by omega]
      simp [this]
theorem mc_one (m : Mk) : ∀ u ∈ mc m, u.oneCell' = true := by
  intro u hu
  simp [mc] at hu
  rcases hu with rfl | rfl | rfl <;> rfl
theorem mcs_one (L : List Mk) : ∀ u ∈ mcs L, u.oneCell' = true := by
  intro u hu
  simp only [mcs, List.mem_flatMap] at hu
  obtain ⟨m, _, h⟩ := hu
  exact mc_one m u h

/-- The slice v holds the marks L, in a row from block 'base' on. -/
abbrev Row (w : World) (base : Nat) (v : Value) (L : List Mk) : Prop := w.ownsRow base 30 3 v L.length (mcs L)

theorem Row.shape {w : World} {base : Nat} {v : Value} {L : List Mk} (h : Row w base v L) (hl : 0 < L.length) : ∃ g cap cur, v = .slice (some ⟨g, 0, none⟩) L.length cap ∧ base ≤ g ∧ g < w.heap.size ∧ w.heap[g]? = some (.cells cur 30 (0, 0)) ∧ L.length ≤ cap ∧ cap ≤ maxLen ∧ cur.size = cap * 3 := by
  rcases h.2 with ⟨_, e⟩ | ⟨g, cap, cur, rfl, hb, hh, h1, h2, h3, _⟩
  · omega
  · exact ⟨g, cap, cur, rfl, hb, (Array.getElem?_eq_some_iff.1 hh).1, hh, h1, h2, h3⟩
theorem Row.at {w : World} {base g cap : Nat} {L : List Mk} (h : Row w base (.slice (some ⟨g, 0, none⟩) L.length cap) L) {t : Nat} (ht : t < L.length) :
    w.cell? ⟨g, t * 3, none⟩ = some (.int .u64 (L.getD t mk0).1) ∧ w.cell? ⟨g, t * 3 + 1, none⟩ = some (.int .i64 (L.getD t mk0).2.1) ∧ w.cell? ⟨g, t * 3 + 2, none⟩ = some (.int .i64 (L.getD t mk0).2.2) := by
  obtain ⟨h1, h2, h3⟩ := mcs_at L t ht
  exact ⟨(h.cellAt _ (by omega)).trans h1, (h.cellAt _ (by omega)).trans h2, (h.cellAt _ (by omega)).trans h3⟩
theorem Row.block {w w' : World} {base : Nat} {v : Value} {L : List Mk} (h : Row w base v L) (hb : ∀ g, v.ownBlock = some g → w'.heap[g]? = w.heap[g]?) : Row w' base v L := by
  obtain ⟨h1, h2⟩ := h
  refine ⟨h1, ?_⟩
  rcases h2 with h2 | ⟨g, cap, cur, rfl, hg, hh, r⟩
  · exact .inl h2
  · exact .inr ⟨g, cap, cur, rfl, hg, (hb g rfl).trans hh, r⟩
theorem Row.later {w w' : World} {base : Nat} {v : Value} {L : List Mk} (h : Row w base v L) (hb : Below w.heap.size w w') : Row w' base v L :=
  h.block (fun g hg => hb.block g (h.lt g hg).2)

theorem info30 : (Yba.prog.info? 30).map (fun i => (i.zero, i.size, i.bytes)) = some (some (.agg #[.int .u64 0, .int .i64 0, .int .i64 0]), 3, 24) := by kernel_rfl

set_option maxRecDepth 100000 in
set_option maxHeartbeats 1000000 in
theorem eq_any (b1 b2 : Nat) (v1 v2 : Value) (L : List Mk) (w : World) (h1 : Row w b1 v1 L) (h2 : Row w b2 v2 L) (hl : 0 < L.length) (hm : L.length ≤ 2000) :
    Calls Yba.prog 8 #[v1, v2] w fun r w' => r = .returned (.bool true) ∧ Below w.heap.size w w' := by
  obtain ⟨g1, c1, _, rfl, _, l1, _⟩ := h1.shape hl
  obtain ⟨g2, c2, _, rfl, _, l2, _⟩ := h2.shape hl
  have H1 := hid_mk h1
  have H2 := hid_mk h2
  clear h1 h2
  go_enter Yba.func8, Yba.ntmps8
  go_wp2
  go_loopw [5] (fun i wr => ∃ k : Nat, k ≤ L.length ∧ i = .int .i64 k ∧ Below w.heap.size w wr) (fun i _ => L.length - (intOf i).toNat)
  case atStart => exact ⟨0, Nat.zero_le _, rfl, Below.refl _ _⟩
  case round =>
    obtain ⟨k, hk, rfl, hb⟩ := hrel
    by_cases hkn : k < L.length
    · obtain ⟨d0, d1, d2⟩ := (H1.out.later hb).at hkn
      obtain ⟨e0, e1, e2⟩ := (H2.out.later hb).at hkn
      have ik : (k : Int) < (L.length : Int) := by omega
      go_wp2_with fail
      go_quiet (fail)
      go_wp2
      go_roundw
      case rel => exact ⟨k + 1, by omega, by go_num, below_drewN hb _⟩
      case measure => simp [intOf]; omega
    · go_wp2
      go_ret
      exact ⟨rfl, hb⟩
end Go.Proofs.Ybulkhgk.M
