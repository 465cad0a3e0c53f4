import Derived.Test.YbulkhfiCHeap
import Derived.Carry
namespace Go.Proofs.Ybulkhfi.C
open Go.RowKit
open Go.Proofs.Ybulkhfi.A (wp_region_tail)
set_option linter.unusedVariables false
section
variable {w : World} {T n : Nat} {bs : Nat → Nat} {ms : Nat → Int} {v : Value} {l : List Nat}

set_option maxRecDepth 100000 in
set_option maxHeartbeats 1000000 in
theorem next_none (h : Que w T n bs ms v []) :
    Calls Yba.prog 12 #[.pointer (some ⟨T, 0, none⟩)] w fun r w' => r = .returned (.tuple #[.agg #[.int .u64 0, .int .i64 0, .pointer none], .bool false]) ∧ Below w.heap.size w w' := by
  obtain ⟨c, _⟩ := h.cell
  obtain ⟨a, cap, rfl⟩ := h.shape
  have hT := h.tlt
  have hb : Below w.heap.size w (w.alloc (.cells #[.int .u64 0, .int .i64 0, .pointer none] 52)) := (Below.refl _ _).alloc (Nat.le_refl _) _
  clear h
  simp only [List.length_nil] at c
  go_enter Yba.func12, Yba.ntmps12
  go_wp2
  exact bodyPost_ret (v := .tuple #[.agg #[.int .u64 0, .int .i64 0, .pointer none], .bool false]) (by simp [results, Yba.results12, go_sem]) rfl ⟨rfl, hb⟩

set_option maxRecDepth 100000 in
set_option maxHeartbeats 1000000 in
theorem next_some (h : Que w T n bs ms v l) (hl : 0 < l.length) (hll : l.length ≤ 1024) :
    Calls Yba.prog 12 #[.pointer (some ⟨T, 0, none⟩)] w fun r w' => r = .returned (.tuple #[tm (ms (l.getD 0 0)), .bool true]) ∧ Below w.heap.size w w' := by
  obtain ⟨g, cap, cur, rfl, hT, hg, hc1, hc2⟩ := h.row hl
  obtain ⟨c, _⟩ := h.cell
  have hTl := h.tlt
  obtain ⟨c1, _, l1⟩ := h.at 0 hl
  obtain ⟨_, d1, d2, d3, _⟩ := (h.ins _ l1).cells
  have hgl : g < w.heap.size := (Array.getElem?_eq_some_iff.1 hg).1
  have hbl : bs (l.getD 0 0) < w.heap.size := (h.ins _ l1).lt
  obtain ⟨k, hk⟩ : ∃ k, l.length = k + 1 := ⟨l.length - 1, by omega⟩
  generalize l.getD 0 0 = a at *
  rw [hk] at c
  rw [ptr] at c1
  have hb : Below w.heap.size w (w.alloc (.cells #[.int .u64 (wl (ms a)), .int .i64 (ex (ms a)), .pointer none] 52)) := (Below.refl _ _).alloc (Nat.le_refl _) _
  have hne : ((k : Int) + 1 == 0) = false := by rw [beq_eq_false_iff_ne]; omega
  clear h hg hk hl
  go_enter Yba.func12, Yba.ntmps12
  go_wp2
  exact bodyPost_ret (v := .tuple #[.agg #[.int .u64 (wl (ms a)), .int .i64 (ex (ms a)), .pointer none], .bool true]) (by simp [results, Yba.results12, go_sem]) rfl ⟨rfl, hb⟩

set_option maxRecDepth 100000 in
set_option maxHeartbeats 1000000 in
theorem due_none (h : Que w T n bs ms v []) (now : Int) :
    Calls Yba.prog 13 #[.pointer (some ⟨T, 0, none⟩), tm now] w fun r w' => r = .returned (.tuple #[.pointer none, .bool false]) ∧ Below w.heap.size w w' := by
  obtain ⟨c, _⟩ := h.cell
  obtain ⟨a, cap, rfl⟩ := h.shape
  have hT := h.tlt
  have hb : Below w.heap.size w (w.alloc (.cells #[.int .u64 (wl now), .int .i64 (ex now), .pointer none] 52)) := (Below.refl _ _).alloc (Nat.le_refl _) _
  clear h
  simp only [List.length_nil] at c
  rw [tm]
  go_enter Yba.func13, Yba.ntmps13
  go_wp2_with fail
  go_quiet (fail)
  go_wp2
  go_ret2
  exact ⟨rfl, Go.Proofs.Ybulkhfi.A.below_drewN hb _⟩

def DueEnds (w : World) (T n : Nat) (bs : Nat → Nat) (ms : Nat → Int) (l : List Nat) (now : Int) (a : Nat) (r : Ending) (w' : World) : Prop :=
  (now < ms a → r = .returned (.tuple #[.pointer none, .bool false]) ∧ Below w.heap.size w w') ∧
  (¬ now < ms a → r = .returned (.tuple #[ptr bs a, .bool true]) ∧ ∃ v' l', Que w' T n bs ms v' l' ∧ (a :: l').Perm l ∧ Hp (fun k => ms (l'.getD k 0)) l'.length ∧ Stp T w w')

set_option maxRecDepth 100000 in
set_option maxHeartbeats 1000000 in
theorem due_some (h : Que w T n bs ms v l) (hl : 0 < l.length) (hll : l.length ≤ 1024) (hn : n ≤ 1024) (hh : Hp (fun k => ms (l.getD k 0)) l.length) (now : Int) :
    Calls Yba.prog 13 #[.pointer (some ⟨T, 0, none⟩), tm now] w fun r w' => DueEnds w T n bs ms l now (l.getD 0 0) r w' := by
  have HQ := hid_mk h
  have HH := hid_mk hh
  obtain ⟨g, cap, cur, rfl, hT, hg, hc1, hc2⟩ := h.row hl
  obtain ⟨c, _⟩ := h.cell
  have hTl := h.tlt
  obtain ⟨c1, _, l1⟩ := h.at 0 hl
  obtain ⟨_, d1, d2, d3, _⟩ := (h.ins _ l1).cells
  have hgl : g < w.heap.size := (Array.getElem?_eq_some_iff.1 hg).1
  have hbl : bs (l.getD 0 0) < w.heap.size := (h.ins _ l1).lt
  obtain ⟨k, hk⟩ : ∃ k, l.length = k + 1 := ⟨l.length - 1, by omega⟩
  obtain ⟨a, ea⟩ : ∃ a, a = l.getD 0 0 := ⟨_, rfl⟩
  rw [← ea] at c1 l1 d1 d2 d3 hbl ⊢
  have HA := hid_mk ea
  have HK := hid_mk hk
  rw [hk] at c
  rw [ptr] at c1
  have hbx : Below w.heap.size w (w.alloc (.cells #[.int .u64 (wl now), .int .i64 (ex now), .pointer none] 52)) := (Below.refl _ _).alloc (Nat.le_refl _) _
  have hne : ((k : Int) + 1 == 0) = false := by rw [beq_eq_false_iff_ne]; omega
  have i0 : (0 : Int) < (k : Int) + 1 := by omega
  have hT0 := h.low a l1
  clear h hg hk hl hh ea
  rw [tm]
  go_enter Yba.func13, Yba.ntmps13
  go_wp2_with fail
  refine wp_region_tail 17 mixed (by kernel_rfl) ?_
  simp only [List.take_succ_cons, List.take_zero, List.drop_succ_cons, List.drop_zero]
  repeat (go_big_quiet_step (fail))
  refine wpQuiet_nil ?_
  go_wp2_with fail
  refine (after_ms (ms a) now _).mono ?_
  rintro _ w1 ⟨rfl, hb⟩
  have hb1 : Below w.heap.size w w1 := hbx.drew.trans (hb.mono (by simp))
  by_cases hlt : now < ms a
  · have hd : decide (now < ms a) = true := decide_eq_true hlt
    have HLT := hid_mk hlt
    rw [hd]
    clear hlt hd
    go_wp2
    go_ret2
    exact ⟨fun _ => ⟨rfl, hb1⟩, fun h => absurd HLT.out h⟩
  · have hd : decide (now < ms a) = false := decide_eq_false hlt
    have HLT := hid_mk hlt
    rw [hd]
    clear hlt hd
    have hQ1 := hid_mk (HQ.out.later hb1)
    go_wp2_with fail
    refine (heapPop_any k hQ1.out HK.out (by have := HK.out; omega) hn HH.out).mono ?_
    rintro _ w2 ⟨rfl, v2, l2, hQ2, hP2, hH2, hS2⟩
    rw [← HA.out] at hP2 ⊢
    have hta := ta53 (bs a) w2
    have HP := hid_mk (And.intro hQ2 (And.intro hP2 hH2))
    clear hQ2 hP2 hH2
    rw [ptr]
    go_wp2_with fail
    go_ret2
    obtain ⟨q1, q2, q3⟩ := HP.out
    exact ⟨fun h => by have := HLT.out; omega, fun _ => ⟨rfl, v2, l2, q1, q2, q3, (Stp.of_below hb1 (by omega)).trans hS2⟩⟩
end

set_option maxRecDepth 100000 in
set_option maxHeartbeats 1000000 in
theorem table_any (w : World) : Calls Yba.prog 9 #[.pointer none, .nilFunc, .pointer none] w fun r w' => r = .returned (.pointer (some ⟨w.heap.size + 2, 0, none⟩)) ∧ Below w.heap.size w w' ∧ w'.heap.size = w.heap.size + 3 ∧ ∀ bs ms, Que w' (w.heap.size + 2) 0 bs ms (.slice none 0 0) [] := by
  have hm := fun (t : TypeId) (w : World) => run_makeMap (P := Yba.prog) t w
  go_enter Yba.func9, Yba.ntmps9
  go_wp2_with fail
  go_ret
  refine ⟨rfl, (((Below.refl _ _).alloc (Nat.le_refl _) _).alloc (by simp) _).alloc (by simp; omega) _, by simp, fun bs ms => ?_⟩
  have := heap_alloc_new ((w.alloc (.map #[] 0)).alloc (.map #[] 0)) (.cells #[.pointer none, .nilFunc, .pointer none, .map (some w.heap.size), .slice none 0 0, .int .u64 0, .map (some (w.heap.size + 1)), .slice none 0 0] 72)
  rw [show ((w.alloc (.map #[] 0)).alloc (.map #[] 0)).heap.size = w.heap.size + 2 from by simp] at this
  exact ⟨⟨_, this, rfl⟩, World.ownsRow_nil _ _ _ _, fun i hi => by omega, fun i hi => by simp at hi, fun i hi => by omega⟩
end Go.Proofs.Ybulkhfi.C
