import Derived.Test.YbulkhfiABuilt
import Derived.Deep.LoopGhost
import Derived.RegionTactic
import Derived.ChangeAlike
import Derived.Deep.QuietTactic
import Derived.BigQuiet
import Derived.Deep.RegionHeld3
namespace Go.Proofs.Ybulkhfi.A
open Go.RowKit
set_option linter.unusedVariables false

theorem getD_mem {α : Type} {hs : List α} {m : Nat} {d : α} (h : m < hs.length) : hs.getD m d ∈ hs := by
  rw [List.getD_eq_getElem?_getD, List.getElem?_eq_getElem h]
  exact List.getElem_mem h

def eqM (a b : Nat) : Bool := ((a : Int) == (b : Int))
theorem eqM_iff (a b : Nat) : eqM a b = (a == b) := by
  unfold eqM
  rw [Bool.eq_iff_iff]
  simp
  omega

set_option maxHeartbeats 400000 in
/-- The innermost closure: is this entry's member u? -/
theorem mem_any (g bs bg p u i mm : Nat) (mem : Nat → Nat) (v : Int) (w : World) (hp : w.cell? ⟨p, 0, none⟩ = some (.pointer (some ⟨bs, 0, none⟩))) (hu : w.cell? ⟨u, 0, none⟩ = some (.int .i64 (mm : Int)))
    (hs : w.cell? ⟨bs, 2, none⟩ = some (.slice (some ⟨bg, 0, none⟩) g g)) (hi : i < g) (hg : g ≤ 256) (hm : w.cell? ⟨bg, i * 7 + 1, none⟩ = some (.int .i64 (mem i : Int)))
    (lp : p < w.heap.size) (lu : u < w.heap.size) (lbs : bs < w.heap.size) (lbg : bg < w.heap.size) :
    Calls Yba.prog 19 #[.agg #[.int .i64 (i : Int), .int .i64 v], .pointer (some ⟨p, 0, none⟩), .pointer (some ⟨u, 0, none⟩)] w fun e w' => e = .returned (.bool (eqM (mem i) mm)) ∧ Below w.heap.size w w' := by
  have h1 : (i : Int) < (g : Int) := by omega
  have h2 : (0 : Int) ≤ (i : Int) := by omega
  go_enter Yba.func19, Yba.ntmps19
  go_wp2
  go_quiet (fail)
  go_wp2
  go_ret
  exact ⟨rfl, below_drewN ((Below.refl _ _).alloc (Nat.le_refl _) _) _⟩

/-- What the searching closures see: the search behind p, its groups, the member behind u. -/
structure Seen (w : World) (g bs bg p u mm : Nat) (mem : Nat → Nat) : Prop where
  hp : w.cell? ⟨p, 0, none⟩ = some (.pointer (some ⟨bs, 0, none⟩))
  hu : w.cell? ⟨u, 0, none⟩ = some (.int .i64 (mm : Int))
  hs : w.cell? ⟨bs, 2, none⟩ = some (.slice (some ⟨bg, 0, none⟩) g g)
  hm : ∀ i, i < g → w.cell? ⟨bg, i * 7 + 1, none⟩ = some (.int .i64 (mem i : Int))
  hg : g ≤ 256
  lp : p < w.heap.size
  lu : u < w.heap.size
  lbs : bs < w.heap.size
  lbg : bg < w.heap.size

theorem Seen.later {w w' : World} {g bs bg p u mm : Nat} {mem : Nat → Nat} (h : Seen w g bs bg p u mm mem) (hb : Below w.heap.size w w') : Seen w' g bs bg p u mm mem where
  hp := (hb.cell (by exact h.lp)).trans h.hp
  hu := (hb.cell (by exact h.lu)).trans h.hu
  hs := (hb.cell (by exact h.lbs)).trans h.hs
  hm := fun i hi => (hb.cell (by exact h.lbg)).trans (h.hm i hi)
  hg := h.hg
  lp := Nat.lt_of_lt_of_le h.lp hb.size
  lu := Nat.lt_of_lt_of_le h.lu hb.size
  lbs := Nat.lt_of_lt_of_le h.lbs hb.size
  lbg := Nat.lt_of_lt_of_le h.lbg hb.size

set_option maxHeartbeats 400000 in
theorem index_no (g bs bg p u mm : Nat) (mem : Nat → Nat) (ao : Option Addr) (cap : Nat) (hs : List (Nat × Int)) (w : World) (hS : Seen w g bs bg p u mm mem) (hH : Held w ao hs) (hlt : ∀ q ∈ hs, q.1 < g) (hlen : hs.length ≤ 256)
    (hno : ∀ t, t < hs.length → eqM (mem (hs.getD t (0, 0)).1) mm = false) :
    Calls Yba.prog 27 #[.slice ao hs.length cap, .func (.func 19) #[] #[.pointer (some ⟨p, 0, none⟩), .pointer (some ⟨u, 0, none⟩)]] w fun e w' => e = .returned (.int .i64 (-1)) ∧ Below w.heap.size w w' := by
  have HS : Hid (Seen w g bs bg p u mm mem) := hS
  have HN : Hid (∀ t, t < hs.length → eqM (mem (hs.getD t (0, 0)).1) mm = false) := hno
  clear hS hno
  go_enter Yba.func27, Yba.ntmps27
  go_wp2
  go_loopw [8] (fun i wr => ∃ m : Nat, m ≤ hs.length ∧ i = .int .i64 m ∧ Below w.heap.size w wr) (fun i _ => hs.length - (intOf i).toNat)
  case atStart => exact ⟨0, Nat.zero_le _, rfl, Below.refl _ _⟩
  case round =>
    obtain ⟨m, hm, rfl, hbel⟩ := hrel
    by_cases hml : m < hs.length
    · obtain ⟨b, rfl, hb, hc⟩ : ∃ b, ao = some ⟨b, 0, none⟩ ∧ b < w.heap.size ∧ ∀ t, t < hs.length → w.cell? ⟨b, t * 2, none⟩ = some (.int .i64 ((hs.getD t (0, 0)).1 : Int)) ∧ w.cell? ⟨b, t * 2 + 1, none⟩ = some (.int .i64 (hs.getD t (0, 0)).2) := by
        rcases hH with rfl | h
        · simp at hml
        · exact h
      obtain ⟨c0, c1⟩ := hc m hml
      have hq : (hs.getD m (0, 0)).1 < g := by
        exact hlt _ (getD_mem hml)
      have he := HN.out m hml
      obtain ⟨q, hqd⟩ : ∃ q, q = hs.getD m (0, 0) := ⟨_, rfl⟩
      rw [← hqd] at c0 c1 hq he
      have d0 : wr.cell? ⟨b, m * 2, none⟩ = some (.int .i64 (q.1 : Int)) := (hbel.cell (by exact hb)).trans c0
      have d1 : wr.cell? ⟨b, m * 2 + 1, none⟩ = some (.int .i64 q.2) := (hbel.cell (by exact hb)).trans c1
      have S := HS.out.later hbel
      clear c0 c1 hc hqd hH hlt
      obtain ⟨i, v⟩ := q
      go_wp2_with (go_at_call 19; refine (mem_any g bs bg p u i mm mem v _ S.hp S.hu S.hs hq S.hg (S.hm i hq) S.lp S.lu S.lbs S.lbg).mono ?_; rintro e w1 ⟨rfl, hb1⟩)
      go_roundw
      case rel => exact ⟨m + 1, by omega, by go_num, hbel.trans (hb1.mono hbel.size)⟩
      case measure => simp [intOf]; omega
    · go_wp2
      go_ret
      exact ⟨rfl, hbel⟩

set_option maxHeartbeats 400000 in
theorem index_yes (g bs bg p u mm : Nat) (mem : Nat → Nat) (ao : Option Addr) (cap : Nat) (hs : List (Nat × Int)) (w : World) (hS : Seen w g bs bg p u mm mem) (hH : Held w ao hs) (hlt : ∀ q ∈ hs, q.1 < g) (hlen : hs.length ≤ 256)
    (hyes : ∃ t, t < hs.length ∧ eqM (mem (hs.getD t (0, 0)).1) mm = true) :
    Calls Yba.prog 27 #[.slice ao hs.length cap, .func (.func 19) #[] #[.pointer (some ⟨p, 0, none⟩), .pointer (some ⟨u, 0, none⟩)]] w fun e w' => ∃ m : Nat, e = .returned (.int .i64 m) ∧ Below w.heap.size w w' := by
  have HS : Hid (Seen w g bs bg p u mm mem) := hS
  obtain ⟨t0, ht0, hy⟩ := hyes
  have HN : Hid (eqM (mem (hs.getD t0 (0, 0)).1) mm = true) := hy
  clear hS hy
  go_enter Yba.func27, Yba.ntmps27
  go_wp2
  go_loopw [8] (fun i wr => ∃ m : Nat, m ≤ t0 ∧ i = .int .i64 m ∧ Below w.heap.size w wr) (fun i _ => hs.length - (intOf i).toNat)
  case atStart => exact ⟨0, Nat.zero_le _, rfl, Below.refl _ _⟩
  case round =>
    obtain ⟨m, hm, rfl, hbel⟩ := hrel
    have hml : m < hs.length := by omega
    · obtain ⟨b, rfl, hb, hc⟩ : ∃ b, ao = some ⟨b, 0, none⟩ ∧ b < w.heap.size ∧ ∀ t, t < hs.length → w.cell? ⟨b, t * 2, none⟩ = some (.int .i64 ((hs.getD t (0, 0)).1 : Int)) ∧ w.cell? ⟨b, t * 2 + 1, none⟩ = some (.int .i64 (hs.getD t (0, 0)).2) := by
        rcases hH with rfl | h
        · simp at hml
        · exact h
      obtain ⟨c0, c1⟩ := hc m hml
      have hq : (hs.getD m (0, 0)).1 < g := by
        exact hlt _ (getD_mem hml)
      have HY : Hid (m = t0 → eqM (mem (hs.getD m (0, 0)).1) mm = true) := fun h => by rw [h]; exact HN.out
      obtain ⟨q, hqd⟩ : ∃ q, q = hs.getD m (0, 0) := ⟨_, rfl⟩
      rw [← hqd] at c0 c1 hq HY
      have d0 : wr.cell? ⟨b, m * 2, none⟩ = some (.int .i64 (q.1 : Int)) := (hbel.cell (by exact hb)).trans c0
      have d1 : wr.cell? ⟨b, m * 2 + 1, none⟩ = some (.int .i64 q.2) := (hbel.cell (by exact hb)).trans c1
      have S := HS.out.later hbel
      clear c0 c1 hc hqd hH hlt
      obtain ⟨i, v⟩ := q
      cases he : eqM (mem i) mm
      · go_wp2_with (go_at_call 19; refine (mem_any g bs bg p u i mm mem v _ S.hp S.hu S.hs hq S.hg (S.hm i hq) S.lp S.lu S.lbs S.lbg).mono ?_; rintro e w1 ⟨rfl, hb1⟩)
        go_roundw
        case rel =>
          refine ⟨m + 1, ?_, by go_num, hbel.trans (hb1.mono hbel.size)⟩
          rcases Nat.lt_or_ge m t0 with h | h
          · exact h
          · have := HY.out (by omega)
            rw [he] at this
            cases this
        case measure => simp [intOf]; omega
      · go_wp2_with (go_at_call 19; refine (mem_any g bs bg p u i mm mem v _ S.hp S.hu S.hs hq S.hg (S.hm i hq) S.lp S.lu S.lbs S.lbg).mono ?_; rintro e w1 ⟨rfl, hb1⟩)
        go_ret
        exact ⟨m, rfl, hbel.trans (hb1.mono hbel.size)⟩

theorem any_getD {α : Type} {hs : List α} {f : α → Bool} {d : α} (h : hs.any f = true) : ∃ t, t < hs.length ∧ f (hs.getD t d) = true := by
  obtain ⟨x, hx, hf⟩ := List.any_eq_true.1 h
  obtain ⟨t, ht, rfl⟩ := List.mem_iff_getElem.1 hx
  refine ⟨t, ht, ?_⟩
  rw [List.getD_eq_getElem?_getD, List.getElem?_eq_getElem ht]
  exact hf

theorem contains_any (g bs bg p u mm : Nat) (mem : Nat → Nat) (ao : Option Addr) (cap : Nat) (hs : List (Nat × Int)) (w : World) (hS : Seen w g bs bg p u mm mem) (hH : Held w ao hs) (hlt : ∀ q ∈ hs, q.1 < g) (hlen : hs.length ≤ 256) :
    Calls Yba.prog 18 #[.slice ao hs.length cap, .func (.func 19) #[] #[.pointer (some ⟨p, 0, none⟩), .pointer (some ⟨u, 0, none⟩)]] w fun e w' => e = .returned (.bool (hs.any (fun q => eqM (mem q.1) mm))) ∧ Below w.heap.size w w' := by
  cases hx : hs.any (fun q => eqM (mem q.1) mm)
  · have hno : ∀ t, t < hs.length → eqM (mem (hs.getD t (0, 0)).1) mm = false := by
      intro t ht
      cases h : eqM (mem (hs.getD t (0, 0)).1) mm with
      | false => rfl
      | true =>
        have : hs.any (fun q => eqM (mem q.1) mm) = true := List.any_eq_true.2 ⟨_, getD_mem ht, h⟩
        rw [hx] at this
        cases this
    have HN : Hid (∀ t, t < hs.length → eqM (mem (hs.getD t (0, 0)).1) mm = false) := hno
    clear hno hx
    go_enter Yba.func18, Yba.ntmps18
    go_wp2_with (go_at_call 27; refine (index_no g bs bg p u mm mem ao cap hs _ hS hH hlt hlen HN.out).mono ?_; rintro e w1 ⟨rfl, hb1⟩)
    go_ret
    exact ⟨rfl, hb1⟩
  · have HN : Hid (∃ t, t < hs.length ∧ eqM (mem (hs.getD t (0, 0)).1) mm = true) := any_getD (f := fun q : Nat × Int => eqM (mem q.1) mm) (d := (0, 0)) hx
    clear hx
    go_enter Yba.func18, Yba.ntmps18
    go_wp2_with (go_at_call 27; refine (index_yes g bs bg p u mm mem ao cap hs _ hS hH hlt hlen HN.out).mono ?_; rintro e w1 ⟨m, rfl, hb1⟩)
    go_ret
    exact ⟨by simp, hb1⟩
end Go.Proofs.Ybulkhfi.A
