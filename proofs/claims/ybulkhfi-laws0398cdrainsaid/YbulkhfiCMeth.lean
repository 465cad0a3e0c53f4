import Derived.Test.YbulkhfiCState
import Derived.Deep.QuietTactic
import Derived.BigQuiet
import Derived.Test.YbulkhfiALaw
namespace Go.Proofs.Ybulkhfi.C
open Go.RowKit
open Go.Proofs.Ybulkhfi.A (wp_region_tail)
set_option linter.unusedVariables false

theorem hid_mk {p : Prop} (h : p) : Hid p := h
theorem mixed : Yba.prog.follows .mixedOrders = true := by kernel_rfl
section
variable {w : World} {T n : Nat} {bs : Nat → Nat} {ms : Nat → Int} {v : Value} {l : List Nat}

theorem len_any (a : Option Addr) (k cap : Nat) (w : World) : Calls Yba.prog 57 #[.slice a k cap] w fun r w' => r = .returned (.int .i64 k) ∧ w' = w := by
  go_enter Yba.func57, Yba.ntmps57
  go_wp2
  go_ret
  exact ⟨rfl, rfl⟩

set_option maxRecDepth 100000 in
set_option maxHeartbeats 1000000 in
theorem less_any (h : Que w T n bs ms v l) (hn : n ≤ 1024) (hll : l.length ≤ 1024) (i j : Nat) (hi : i < l.length) (hj : j < l.length) :
    Calls Yba.prog 58 #[v, .int .i64 i, .int .i64 j] w fun r w' => r = .returned (.bool (decide (ms (l.getD i 0) < ms (l.getD j 0)))) ∧ Below w.heap.size w w' := by
  obtain ⟨g, cap, cur, rfl, hT, hg, hc1, hc2⟩ := h.row (by omega)
  obtain ⟨c1, _, l1⟩ := h.at i hi
  obtain ⟨c2, _, l2⟩ := h.at j hj
  obtain ⟨_, d1, d2, d3, _⟩ := (h.ins _ l1).cells
  obtain ⟨_, e1, e2, e3, _⟩ := (h.ins _ l2).cells
  generalize l.getD i 0 = a at *
  generalize l.getD j 0 = b at *
  have HH : Hid (Que w T n bs ms (.slice (some ⟨g, 0, none⟩) l.length cap) l) := h
  have i1 : (i : Int) < (l.length : Int) := by omega
  have i2 : (j : Int) < (l.length : Int) := by omega
  clear h hg
  rw [ptr] at c1 c2
  go_enter Yba.func58, Yba.ntmps58
  go_wp2_with fail
  refine wp_region_tail 14 mixed (by kernel_rfl) ?_
  simp only [List.take_succ_cons, List.take_zero, List.drop_succ_cons, List.drop_zero]
  repeat (go_big_quiet_step (fail))
  refine wpQuiet_nil ?_
  go_wp2_with fail
  refine (before_ms (ms a) (ms b) _).mono ?_
  rintro _ w1 ⟨rfl, hb⟩
  go_wp2
  go_ret
  exact ⟨rfl, (Below.refl _ _).drew.trans hb⟩

def swp (l : List Nat) (i j : Nat) : List Nat := (l.set i (l.getD j 0)).set j (l.getD i 0)

set_option maxRecDepth 100000 in
set_option maxHeartbeats 1000000 in
theorem swap_any (h : Que w T n bs ms v l) (hn : n ≤ 1024) (hll : l.length ≤ 1024) (i j : Nat) (hi : i < l.length) (hj : j < l.length) :
    Calls Yba.prog 61 #[v, .int .i64 i, .int .i64 j] w fun r w' => r = .returned (.tuple #[]) ∧ Que w' T n bs ms v (swp l i j) ∧ Stp T w w' := by
  obtain ⟨g, cap, cur, rfl, hT, hg, hc1, hc2⟩ := h.row (by omega)
  obtain ⟨c1, f1, l1⟩ := h.at i hi
  obtain ⟨c2, f2, l2⟩ := h.at j hj
  have HH : Hid (Que w T n bs ms (.slice (some ⟨g, 0, none⟩) l.length cap) l) := h
  have i1 : (i : Int) < (l.length : Int) := by omega
  have i2 : (j : Int) < (l.length : Int) := by omega
  clear h hg
  rw [ptr] at c1 c2
  obtain ⟨a, ea⟩ : ∃ a, a = l.getD i 0 := ⟨_, rfl⟩
  obtain ⟨b, eb⟩ : ∃ b, b = l.getD j 0 := ⟨_, rfl⟩
  rw [← ea] at c1 l1
  rw [← eb] at c2 l2
  have EA : Hid (a = l.getD i 0) := ea
  have EB : Hid (b = l.getD j 0) := eb
  clear ea eb
  by_cases hij : i = j
  · subst hij
    obtain rfl : a = b := EA.out.trans EB.out.symm
    clear c2 f2 l2
    have c2 := c1
    have f2 := f1
    have l2 := l1
    go_enter Yba.func61, Yba.ntmps61
    go_wp2_with fail
    go_region
    obtain ⟨W, hW⟩ : ∃ W, W = ((w.setCell ⟨g, i, none⟩ (.pointer (some ⟨bs a, 0, none⟩))).setCell ⟨g, i, none⟩ (.pointer (some ⟨bs a, 0, none⟩))).drew := ⟨_, rfl⟩
    have q2 : Que W T n bs ms (.slice (some ⟨g, 0, none⟩) l.length cap) (swp l i i) ∧ Stp T w W := by
      have p1 := HH.out.setAt i a (by omega) l2
      have p2 := Que.setAt (l := l.set i a) (cap := cap) (g := g) (by simpa using p1.1) i a (by simp; omega) l1
      rw [hW]
      refine ⟨?_, ?_⟩
      · have p3 := p2.1.later ((Below.refl _ _).drew)
        rw [swp, ← EA.out]
        simpa [ptr] using p3
      · exact (p1.2.trans p2.2).trans (Stp.of_below ((Below.refl _ _).drew) (by have := HH.out.tlt; simp [World.setCell]; omega))
    obtain ⟨q2, s2⟩ := q2
    rw [← hW]
    clear hW c1 f1 c2 f2
    have hls : (swp l i i).length = l.length := by simp [swp]
    have q3 : Que W T n bs ms (.slice (some ⟨g, 0, none⟩) (swp l i i).length cap) (swp l i i) := by rw [hls]; exact q2
    obtain ⟨c1, _, m1⟩ := q3.at i (by omega)
    have HL : Hid (Que W T n bs ms (.slice (some ⟨g, 0, none⟩) l.length cap) (swp l i i)) := q2
    clear q3 q2 hls
    generalize (swp l i i).getD i 0 = x at *
    obtain ⟨_, _, _, _, ⟨u1, d1⟩, d2⟩ := (HL.out.ins x m1).cells
    rw [ptr] at c1
    go_wp2_with fail
    go_region
    go_end0
    refine ⟨rfl, ?_⟩
    have p1 := HL.out.setQ m1 (.int .i64 (i : Int))
    have p2 := p1.1.setQ m1 (.int .i64 (i : Int))
    exact ⟨p2.1.later ((Below.refl _ _).drew), ((s2.trans p1.2).trans p2.2).trans (Stp.of_below ((Below.refl _ _).drew) (by have := p2.1.tlt; omega))⟩
  · go_enter Yba.func61, Yba.ntmps61
    go_wp2_with fail
    go_region
    obtain ⟨W, hW⟩ : ∃ W, W = ((w.setCell ⟨g, i, none⟩ (.pointer (some ⟨bs b, 0, none⟩))).setCell ⟨g, j, none⟩ (.pointer (some ⟨bs a, 0, none⟩))).drew := ⟨_, rfl⟩
    have q2 : Que W T n bs ms (.slice (some ⟨g, 0, none⟩) l.length cap) (swp l i j) ∧ Stp T w W := by
      have p1 := HH.out.setAt i b (by omega) l2
      have p2 := Que.setAt (l := l.set i b) (cap := cap) (g := g) (by simpa using p1.1) j a (by simp; omega) l1
      rw [hW]
      refine ⟨?_, ?_⟩
      · have p3 := p2.1.later ((Below.refl _ _).drew)
        rw [swp, ← EA.out, ← EB.out]
        simpa [ptr] using p3
      · exact (p1.2.trans p2.2).trans (Stp.of_below ((Below.refl _ _).drew) (by have := HH.out.tlt; simp [World.setCell]; omega))
    obtain ⟨q2, s2⟩ := q2
    rw [← hW]
    clear hW c1 f1 c2 f2
    have hls : (swp l i j).length = l.length := by simp [swp]
    have q3 : Que W T n bs ms (.slice (some ⟨g, 0, none⟩) (swp l i j).length cap) (swp l i j) := by rw [hls]; exact q2
    obtain ⟨c1, _, m1⟩ := q3.at i (by omega)
    obtain ⟨c2, _, m2⟩ := q3.at j (by omega)
    have HL : Hid (Que W T n bs ms (.slice (some ⟨g, 0, none⟩) l.length cap) (swp l i j)) := q2
    clear q3 q2 hls
    generalize (swp l i j).getD i 0 = x at *
    generalize (swp l i j).getD j 0 = y at *
    obtain ⟨_, _, _, _, ⟨u1, d1⟩, d2⟩ := (HL.out.ins x m1).cells
    obtain ⟨_, _, _, _, ⟨u2, d3⟩, d4⟩ := (HL.out.ins y m2).cells
    rw [ptr] at c1 c2
    by_cases hxy : bs y = bs x
    · have HX : Hid (bs y = bs x) := hxy
      rw [hxy] at c2 d3 d4
      clear hxy
      go_wp2_with fail
      go_region
      go_end0
      refine ⟨rfl, ?_⟩
      have p1 := HL.out.setQ m1 (.int .i64 (i : Int))
      have p2 := p1.1.setQ m2 (.int .i64 (j : Int))
      rw [HX.out] at p2
      exact ⟨p2.1.later ((Below.refl _ _).drew), ((s2.trans p1.2).trans p2.2).trans (Stp.of_below ((Below.refl _ _).drew) (by have := p2.1.tlt; omega))⟩
    · go_wp2_with fail
      go_region
      go_end0
      refine ⟨rfl, ?_⟩
      have p1 := HL.out.setQ m1 (.int .i64 (i : Int))
      have p2 := p1.1.setQ m2 (.int .i64 (j : Int))
      exact ⟨p2.1.later ((Below.refl _ _).drew), ((s2.trans p1.2).trans p2.2).trans (Stp.of_below ((Below.refl _ _).drew) (by have := p2.1.tlt; omega))⟩


theorem ownsRow_shrink {w : World} {base : Nat} {e : TypeId} {g k k' cap : Nat} {xs : List Value} (h : w.ownsRow base e 1 (.slice (some ⟨g, 0, none⟩) k cap) k xs) (hk : k' ≤ k) : w.ownsRow base e 1 (.slice (some ⟨g, 0, none⟩) k' cap) k' (xs.take k') := by
  obtain ⟨h1, h2⟩ := h
  refine ⟨by simp; omega, ?_⟩
  rcases h2 with ⟨h2, _⟩ | ⟨g', cap', cur, hv, hg, hh, r1, r2, r3, r4⟩
  · cases h2
  · simp only [Value.slice.injEq, Option.some.injEq, Addr.mk.injEq, and_true, true_and] at hv
    obtain ⟨rfl, rfl⟩ := hv
    exact .inr ⟨g, cap, cur, rfl, hg, hh, by omega, r2, r3, by rw [← r4, List.take_take]; congr 1; omega⟩

/-- The table's queue turned: another slice of a row of its own. -/
theorem Que.put (h : Que w T n bs ms v l) {v' : Value} {l' : List Nat} (hown : w.ownsRow (T + 1) 53 1 v' l'.length (l'.map (ptr bs))) (hlt : ∀ i ∈ l', i < n) : Que (w.setCell ⟨T, 7, none⟩ v') T n bs ms v' l' ∧ Stp T w (w.setCell ⟨T, 7, none⟩ v') := by
  obtain ⟨cur, h1, h2⟩ := h.tab
  refine ⟨⟨⟨cur.setIfInBounds 7 v', heap_setCell_same w T 7 cur 72 v' h1, ?_⟩, ownsRow_setCell_below hown (by exact Nat.lt_succ_self T) v', fun i hi => (h.ins i hi).block (Below.heap_setCell _ _ _ _ ?_), hlt, h.low⟩, Stp.set h1 (Nat.le_refl _) (.inr (.inr rfl)) _⟩
  · have := (Array.getElem?_eq_some_iff.1 h2).1
    simp [this]
  · show bs i ≠ T
    have := h.low i hi
    omega

theorem Que.popped {g k cap : Nat} (h : Que w T n bs ms (.slice (some ⟨g, 0, none⟩) (k + 1) cap) l) (hk : l.length = k + 1) (u : Value) : Que ((w.setCell ⟨g, k, none⟩ u).setCell ⟨T, 7, none⟩ (.slice (some ⟨g, 0, none⟩) k cap)) T n bs ms (.slice (some ⟨g, 0, none⟩) k cap) (l.take k) ∧ Stp T w ((w.setCell ⟨g, k, none⟩ u).setCell ⟨T, 7, none⟩ (.slice (some ⟨g, 0, none⟩) k cap)) := by
  obtain ⟨cur, h1, h2⟩ := h.tab
  obtain ⟨g', cap', cu, e, hTg, hg, _, _⟩ := h.row (by omega)
  simp only [Value.slice.injEq, Option.some.injEq, Addr.mk.injEq, and_true] at e
  obtain ⟨rfl, _, rfl⟩ := e
  have ho := h.own
  rw [hk] at ho
  have st := ownsRow_shrink (ho.stored k u).1 (Nat.le_succ k)
  have hT1 : (w.setCell ⟨g, k, none⟩ u).heap[T]? = some (.cells cur 72 (0, 0)) := by
    rw [Below.heap_setCell _ _ _ _ (by show T ≠ g; omega)]; exact h1
  refine ⟨⟨⟨cur.setIfInBounds 7 _, heap_setCell_same _ T 7 cur 72 _ hT1, ?_⟩, ?_, fun i hi => ?_, fun i hi => h.lt i (List.mem_of_mem_take hi), h.low⟩, (Stp.set hg (by omega) (.inl rfl) _).trans (Stp.set hT1 (Nat.le_refl _) (.inr (.inr rfl)) _)⟩
  · have := (Array.getElem?_eq_some_iff.1 h2).1
    simp [this]
  · rw [show (l.take k).length = k from by simp; omega]
    refine ownsRow_setCell_below ?_ (by exact Nat.lt_succ_self T) _
    have e1 : ((l.map (ptr bs)).set k u).take k = (l.take k).map (ptr bs) := by
      rw [List.take_set_of_le (Nat.le_refl k), List.map_take]
    rw [← e1]
    exact st
  · have hI := h.ins i hi
    have hlow := h.low i hi
    refine (hI.block (w' := w.setCell ⟨g, k, none⟩ u) (Below.heap_setCell _ _ _ _ ?_)).block (Below.heap_setCell _ _ _ _ (by show bs i ≠ T; omega))
    show bs i ≠ g
    rintro rfl
    obtain ⟨c, hc, _⟩ := hI
    rw [hc] at hg
    injection hg with hg; injection hg with _ hg; contradiction

set_option maxRecDepth 100000 in
set_option maxHeartbeats 1000000 in
theorem pop_any (h : Que w T n bs ms v l) (hll : l.length ≤ 1024) (hl : 0 < l.length) :
    Calls Yba.prog 59 #[.pointer (some ⟨T, 7, none⟩)] w fun r w' => r = .returned (.iface 53 (ptr bs (l.getD (l.length - 1) 0))) ∧ ∃ v', Que w' T n bs ms v' (l.take (l.length - 1)) ∧ Stp T w w' := by
  obtain ⟨g, cap, cur, rfl, hT, hg, hc1, hc2⟩ := h.row (by omega)
  obtain ⟨t1, t2⟩ := h.cell
  obtain ⟨k, hk⟩ : ∃ k, l.length = k + 1 := ⟨l.length - 1, by omega⟩
  rw [hk] at h t1 hc1
  rw [show l.length - 1 = k from by omega]
  have h' : Que w T n bs ms (.slice (some ⟨g, 0, none⟩) l.length cap) l := by rw [hk]; exact h
  obtain ⟨c1, f1, l1⟩ := h'.at k (by omega)
  obtain ⟨_, _, _, _, ⟨u1, d1⟩, d2⟩ := (h.ins _ l1).cells
  have HH : Hid (Que w T n bs ms (.slice (some ⟨g, 0, none⟩) l.length cap) l) := h'
  have hlow := h.low _ l1
  have hne : g ≠ bs (l.getD k 0) := by
    rintro e
    obtain ⟨c, hc, _⟩ := h.ins _ l1
    rw [← e, hg] at hc
    injection hc with hc; injection hc with _ hc; contradiction
  have HK : Hid (l.length = k + 1) := hk
  clear h h' hk hg hl
  obtain ⟨a, ea⟩ : ∃ a, a = l.getD k 0 := ⟨_, rfl⟩
  rw [← ea] at c1 l1 d1 d2 hlow hne ⊢
  have EA : Hid (a = l.getD k 0) := ea
  clear ea
  rw [ptr] at c1 ⊢
  have hTg : T ≠ g := by omega
  have hTb : T ≠ bs a := by omega
  have hkc : (k : Int) ≤ (cap : Int) := by omega
  have hk0 : (k : Int) < (k : Int) + 1 := by omega
  have hk2 : k < 1024 := by have := HK.out; omega
  go_enter Yba.func59, Yba.ntmps59
  go_wp2
  go_ret
  have p1 := Que.popped (k := k) (cap := cap) (g := g) (by have := HH.out; rw [HK.out] at this; exact this) HK.out (.pointer none)
  have p2 := p1.1.setQ l1 (.int .i64 (-1))
  exact ⟨rfl, _, p2.1, p1.2.trans p2.2⟩

theorem Que.grow {w' : World} {v' : Value} {x : Nat} (h : Que w T n bs ms v l) (hg : w.grownBy w' v.ownBlock) (ho : w'.ownsRow (T + 1) 53 1 v' (l.length + 1) (l.map (ptr bs) ++ [ptr bs x])) (hx : x < n) :
    w'.cell? ⟨T, 7, none⟩ = some v ∧ w'.frozen? ⟨T, 7, none⟩ = false ∧ Que (w'.setCell ⟨T, 7, none⟩ v') T n bs ms v' (l ++ [x]) ∧ Stp T w (w'.setCell ⟨T, 7, none⟩ v') := by
  obtain ⟨cur, h1, h2⟩ := h.tab
  have hT1 : w'.heap[T]? = some (.cells cur 72 (0, 0)) := (hg.block T h.tlt (fun e => by have := (h.own.lt T e.symm).1; omega)).trans h1
  refine ⟨(cell_of_row w' T 7 cur 72 (0, 0) hT1).trans h2, frozen_of_row w' T 7 cur 72 hT1, ⟨⟨cur.setIfInBounds 7 v', heap_setCell_same w' T 7 cur 72 v' hT1, ?_⟩, ?_, fun i hi => ?_, fun i hi => ?_, h.low⟩, (Stp.grown h.own hg (Nat.le_of_lt h.tlt)).trans (Stp.set hT1 (Nat.le_refl _) (.inr (.inr rfl)) _)⟩
  · have := (Array.getElem?_eq_some_iff.1 h2).1
    simp [this]
  · refine ownsRow_setCell_below ?_ (by exact Nat.lt_succ_self T) _
    simpa using ho
  · have hI := h.ins i hi
    refine (hI.block (w' := w') (hg.block _ hI.lt (fun e => ?_))).block (Below.heap_setCell _ _ _ _ (by show bs i ≠ T; have := h.low i hi; omega))
    rcases h.own.2 with ⟨rfl, _⟩ | ⟨g, cap, cu, rfl, _, hh, _⟩
    · simp [Value.ownBlock] at e
    · simp [Value.ownBlock] at e
      obtain ⟨c, hc, _⟩ := hI
      rw [e, hh] at hc
      injection hc with hc; injection hc with _ hc; contradiction
  · rcases List.mem_append.1 hi with h' | h'
    · exact h.lt i h'
    · simp at h'; rw [h']; exact hx

theorem news1 (w : World) (a : Value) : ∀ j u, [a][j]? = some u → (w.alloc (.cells #[a] 53)).cell? ((⟨w.heap.size, 0, none⟩ : Addr).add j) = some u := by
  intro j u hj
  match j, hj with
  | 0, hj => simp at hj; subst hj; simp [Addr.add]

theorem ta53 (b : Nat) (w : World) : (Instr.typeAssert (.iface 53 (.pointer (some ⟨b, 0, none⟩))) 20 53 false).run Yba.prog w = .ok (.pointer (some ⟨b, 0, none⟩)) w := by kernel_rfl
theorem info53 : (Yba.prog.info? 53).map (fun i => (i.zero, i.size, i.bytes)) = some (some (.pointer none), 1, 8) := by kernel_rfl

set_option maxRecDepth 100000 in
set_option maxHeartbeats 1000000 in
theorem push_any (h : Que w T n bs ms v l) (hll : l.length < 1024) (x : Nat) (hx : x < n) :
    Calls Yba.prog 60 #[.pointer (some ⟨T, 7, none⟩), .iface 53 (ptr bs x)] w fun r w' => r = .returned (.tuple #[]) ∧ ∃ v', Que w' T n bs ms v' (l ++ [x]) ∧ Stp T w w' := by
  obtain ⟨i0, hi, hz0, hz1, hz2⟩ := info_parts info53
  obtain ⟨t1, t2⟩ := h.cell
  obtain ⟨a, cap, rfl⟩ := h.shape
  obtain ⟨_, _, _, _, ⟨u1, d1⟩, d2⟩ := (h.ins x hx).cells
  have HH : Hid (Que w T n bs ms (.slice a l.length cap) l) := h
  have hlow := h.low x hx
  have hne : T ≠ bs x := by omega
  have p1 := h.setQ hx (.int .i64 (l.length : Int))
  have p2 := p1.1.later (w' := (w.setCell ⟨bs x, 8, none⟩ (.int .i64 (l.length : Int))).alloc (.cells #[.pointer (some ⟨bs x, 0, none⟩)] 53)) ((Below.refl _ _).alloc (Nat.le_refl _) _)
  have s2 : Stp T w ((w.setCell ⟨bs x, 8, none⟩ (.int .i64 (l.length : Int))).alloc (.cells #[.pointer (some ⟨bs x, 0, none⟩)] 53)) := p1.2.trans (Stp.of_below ((Below.refl _ _).alloc (Nat.le_refl _) _) (Nat.le_of_lt p1.1.tlt))
  have nw := news1 (w.setCell ⟨bs x, 8, none⟩ (.int .i64 (l.length : Int))) (.pointer (some ⟨bs x, 0, none⟩))
  have hssz : (w.setCell ⟨bs x, 8, none⟩ (.int .i64 (l.length : Int))).heap.size = w.heap.size := by simp [World.setCell]
  have hTw : T < w.heap.size := h.tlt
  rw [hssz] at nw
  have HN := hid_mk nw
  have HP := hid_mk p2
  clear h nw p1 p2
  rw [ptr]
  have hta := ta53 (bs x) w
  go_enter Yba.func60, Yba.ntmps60
  go_wp2_with (at_builtin; refine wpList_append_own _ rfl _ _ 70 rfl (T + 1) 53 i0 (.pointer none) 1 8 Yba.underlying70 hi hz0 hz1 hz2 rfl (by decide) _ _ _ rfl HP.out.own ⟨w.heap.size, 0, none⟩ 1 1 [.pointer (some ⟨bs x, 0, none⟩)] rfl rfl HN.out (by intro u hu; simp at hu; subst hu; rfl) (by unfold maxLen; omega) (by omega) (by simp [World.setCell]; omega) ?_; intro v' w5 hown5 hgrow5 _; obtain ⟨ao, cp, rfl, _⟩ := Go.Proofs.Ybulkhfi.A.owns_shape hown5; obtain ⟨y1, y2, y3, y4⟩ := HP.out.grow hgrow5 hown5 hx)
  go_end0
  exact ⟨rfl, _, y3, s2.trans y4⟩
end
end Go.Proofs.Ybulkhfi.C
