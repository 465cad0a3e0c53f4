import Derived.Test.YbulkhfiAFind
import Derived.Deep.RegionWith
import Derived.Deep.DeepCutAuto
import Derived.BigRegion
import Derived.Test.YbulkhfiATail
namespace Go.Proofs.Ybulkhfi.A
open Go.RowKit
set_option linter.unusedVariables false

def passM (alone : Bool) (mem : Nat → Nat) (b : Nat → Int) (hb : List (Nat × Int)) (p : Nat × Int) : Bool :=
  if alone then decide (p.2 ≤ b p.1) else hb.any (fun q => eqM (mem q.1) (mem p.1))
theorem passM_eq (alone : Bool) (mem : Nat → Nat) (b : Nat → Int) (hb : List (Nat × Int)) : passM alone mem b hb = passB alone mem b hb := by
  funext p
  unfold passM passB
  simp only [eqM_iff]

theorem below_of_drew2 {B : Nat} {W w1 : World} (h : Below B W.drew.drew w1) : Below B W w1 := ⟨h.os, h.tape, h.output, h.size, h.block⟩
theorem mixed : Yba.prog.follows .mixedOrders = true := by kernel_rfl
theorem ret_bool {a b : Bool} (h : a = b) : Ending.returned (.bool a) = .returned (.bool b) := by rw [h]
theorem all_no {α : Type} {L : List α} {f : α → Bool} {d : α} {m : Nat} (hm : m < L.length) (h : f (L.getD m d) = false) : L.all f = false := by
  cases hx : L.all f with
  | false => rfl
  | true =>
    have := List.all_eq_true.1 hx _ (getD_mem (d := d) hm)
    rw [h] at this
    cases this
theorem all_yes {α : Type} {L : List α} {f : α → Bool} {d : α} (h : ∀ t, t < L.length → f (L.getD t d) = true) : L.all f = true := by
  rw [List.all_eq_true]
  intro x hx
  obtain ⟨t, ht, rfl⟩ := List.mem_iff_getElem.1 hx
  have := h t ht
  rwa [List.getD_eq_getElem?_getD, List.getElem?_eq_getElem ht] at this

set_option maxRecDepth 100000 in
set_option maxHeartbeats 1000000 in
theorem within_alone (g n : Nat) (mem : Nat → Nat) (l : Nat → Nat → Int) (hs : Nat → List (Nat × Int)) (bm bs bg bf bv : Nat) (lb ub : Nat → Nat) (ha : Nat → Option Addr) (hc : Nat → Nat) (f k p : Nat) (w : World)
    (hB : Built w true g n mem l hs bm bs bg bf bv lb ub ha hc) (hf : f < n) (hk : k < n) (hp : w.cell? ⟨p, 0, none⟩ = some (.pointer (some ⟨bs, 0, none⟩))) (lp : p < w.heap.size) :
    Calls Yba.prog 17 #[.agg #[.slice (some ⟨lb f, 0, none⟩) g g, .slice (some ⟨ub f, 0, none⟩) 1 1, .slice (ha f) (hs f).length (hc f)], .agg #[.slice (some ⟨lb k, 0, none⟩) g g, .slice (some ⟨ub k, 0, none⟩) 1 1, .slice (ha k) (hs k).length (hc k)], .pointer (some ⟨p, 0, none⟩)] w
      fun e w' => e = .returned (.bool ((hs f).all (passM true mem (l k) (hs k)))) ∧ Below w.heap.size w w' := by
  have HB : Hid (Built w true g n mem l hs bm bs bg bf bv lb ub ha hc) := hB
  have hHf := hB.hld f hf
  have hlen := hB.few f hf
  have hg := hB.g256
  obtain ⟨L, hL⟩ : ∃ L, L = hs f := ⟨_, rfl⟩
  obtain ⟨hf0, hhf0⟩ : ∃ x, x = ha f := ⟨_, rfl⟩
  rw [← hL] at hHf hlen ⊢
  rw [← hhf0] at hHf ⊢
  have HL : Hid (L = hs f) := hL
  have hb0 := ((Below.refl w.heap.size w).alloc (Nat.le_refl _) (.cells #[.slice (some ⟨lb f, 0, none⟩) g g, .slice (some ⟨ub f, 0, none⟩) 1 1, .slice hf0 L.length (hc f)] 44)).alloc (by simp) (.cells #[.slice (some ⟨lb k, 0, none⟩) g g, .slice (some ⟨ub k, 0, none⟩) 1 1, .slice (ha k) (hs k).length (hc k)] 44)
  have e0 : ((w.alloc (.cells #[.slice (some ⟨lb f, 0, none⟩) g g, .slice (some ⟨ub f, 0, none⟩) 1 1, .slice hf0 L.length (hc f)] 44)).alloc (.cells #[.slice (some ⟨lb k, 0, none⟩) g g, .slice (some ⟨ub k, 0, none⟩) 1 1, .slice (ha k) (hs k).length (hc k)] 44)).cell? ⟨w.heap.size + 1, 0, none⟩ = some (.slice (some ⟨lb k, 0, none⟩) g g) := by simp
  have esz : ((w.alloc (.cells #[.slice (some ⟨lb f, 0, none⟩) g g, .slice (some ⟨ub f, 0, none⟩) 1 1, .slice hf0 L.length (hc f)] 44)).alloc (.cells #[.slice (some ⟨lb k, 0, none⟩) g g, .slice (some ⟨ub k, 0, none⟩) 1 1, .slice (ha k) (hs k).length (hc k)] 44)).heap.size = w.heap.size + 2 := by simp
  clear hB hL hhf0
  go_enter Yba.func17, Yba.ntmps17
  go_wp2
  obtain ⟨W2, hW2⟩ : ∃ W, W = (w.alloc (.cells #[.slice (some ⟨lb f, 0, none⟩) g g, .slice (some ⟨ub f, 0, none⟩) 1 1, .slice hf0 L.length (hc f)] 44)).alloc (.cells #[.slice (some ⟨lb k, 0, none⟩) g g, .slice (some ⟨ub k, 0, none⟩) 1 1, .slice (ha k) (hs k).length (hc k)] 44) := ⟨_, rfl⟩
  rw [← hW2] at hb0 e0 esz ⊢
  clear hW2
  go_loopw [12] (fun i wr => ∃ m : Nat, m ≤ L.length ∧ i = .int .i64 m ∧ (∀ t, t < m → passM true mem (l k) (hs k) (L.getD t (0, 0)) = true) ∧ Below (w.heap.size + 2) W2 wr) (fun i _ => L.length - (intOf i).toNat)
  case atStart => exact ⟨0, Nat.zero_le _, rfl, fun t ht => by omega, Below.refl _ _⟩
  case round =>
    obtain ⟨m, hm, rfl, hpass, hbr⟩ := hrel
    have hbw : Below w.heap.size w wr := hb0.trans (hbr.mono (by omega))
    by_cases hml : m < L.length
    · obtain ⟨b, rfl, hb, hcc⟩ : ∃ b, hf0 = some ⟨b, 0, none⟩ ∧ b < w.heap.size ∧ ∀ t, t < L.length → w.cell? ⟨b, t * 2, none⟩ = some (.int .i64 ((L.getD t (0, 0)).1 : Int)) ∧ w.cell? ⟨b, t * 2 + 1, none⟩ = some (.int .i64 (L.getD t (0, 0)).2) := by
        rcases hHf with rfl | h
        · simp at hml
        · exact h
      obtain ⟨c0, c1⟩ := hcc m hml
      obtain ⟨q, hqd⟩ : ∃ q, q = L.getD m (0, 0) := ⟨_, rfl⟩
      have hq : q.1 < g := by
        rw [hqd]
        refine ((HB.out.ok f hf).sound _ ?_).1
        rw [← HL.out]
        exact getD_mem hml
      rw [← hqd] at c0 c1
      have HQ : Hid (q = L.getD m (0, 0)) := hqd
      have HP : Hid (∀ t, t < m → passM true mem (l k) (hs k) (L.getD t (0, 0)) = true) := hpass
      obtain ⟨i, v⟩ := q
      have B := HB.out.later hbw
      have d0 : wr.cell? ⟨b, m * 2, none⟩ = some (.int .i64 (i : Int)) := (hbw.cell (by exact hb)).trans c0
      have d1 : wr.cell? ⟨b, m * 2 + 1, none⟩ = some (.int .i64 v) := (hbw.cell (by exact hb)).trans c1
      have d2 : wr.cell? ⟨p, 0, none⟩ = some (.pointer (some ⟨bs, 0, none⟩)) := (hbw.cell (by exact lp)).trans hp
      have d3 := B.cs0
      have d4 := B.cs2
      have d5 := B.cm
      have d6 := B.grp i hq
      have d7 := B.lie k hk i hq
      have d8 : wr.cell? ⟨w.heap.size + 1, 0, none⟩ = some (.slice (some ⟨lb k, 0, none⟩) g g) := (hbr.cell (by show w.heap.size + 1 < _; omega)).trans e0
      have l1 := B.lm
      have l2 := B.ls
      have l3 := B.lg
      have l4 := B.llb k hk
      have l5 : p < wr.heap.size := Nat.lt_of_lt_of_le lp hbw.size
      have l6 : w.heap.size + 1 < wr.heap.size := by have := hbr.size; omega
      have l7 : w.heap.size < wr.heap.size := by omega
      have i1 : (i : Int) < (g : Int) := by omega
      have i2 : (0 : Int) ≤ (i : Int) := by omega
      clear hcc c0 c1 hpass hqd hHf B
      go_wp2_with fail
      by_cases hv : v ≤ l k i
      · have hd : decide (l k i < v) = false := decide_eq_false (by omega)
        go_region
        go_wp2_with fail
        go_quiet (fail)
        go_wp2
        go_roundw
        case rel =>
          refine ⟨m + 1, by omega, by go_num, fun t ht => ?_, below_drewN ((hbr.alloc (by omega) _).alloc (by simp; omega) _) _⟩
          rcases Nat.lt_or_ge t m with h | h
          · exact HP.out t h
          · obtain rfl : t = m := by omega
            rw [← HQ.out]
            simp [passM, hv]
        case measure => simp [intOf]; omega
      · have hd : l k i < v := by omega
        go_region
        go_wp2_with fail
        go_quiet (fail)
        go_wp2
        go_ret
        refine ⟨?_, ?_⟩
        · refine ret_bool (all_no (d := (0, 0)) hml ?_).symm
          rw [← HQ.out]
          simp [passM]
          omega
        · exact below_drewN (((hbw.alloc (by omega) _).alloc (by simp; omega) _).drew) _
    · go_wp2
      go_ret
      exact ⟨ret_bool (all_yes (fun t ht => hpass t (by omega))).symm, hbw⟩

set_option maxRecDepth 100000 in
set_option maxHeartbeats 1000000 in
theorem within_group (g n : Nat) (mem : Nat → Nat) (l : Nat → Nat → Int) (hs : Nat → List (Nat × Int)) (bm bs bg bf bv : Nat) (lb ub : Nat → Nat) (ha : Nat → Option Addr) (hc : Nat → Nat) (f k p : Nat) (w : World)
    (hB : Built w false g n mem l hs bm bs bg bf bv lb ub ha hc) (hf : f < n) (hk : k < n) (hp : w.cell? ⟨p, 0, none⟩ = some (.pointer (some ⟨bs, 0, none⟩))) (lp : p < w.heap.size) :
    Calls Yba.prog 17 #[.agg #[.slice (some ⟨lb f, 0, none⟩) g g, .slice (some ⟨ub f, 0, none⟩) 1 1, .slice (ha f) (hs f).length (hc f)], .agg #[.slice (some ⟨lb k, 0, none⟩) g g, .slice (some ⟨ub k, 0, none⟩) 1 1, .slice (ha k) (hs k).length (hc k)], .pointer (some ⟨p, 0, none⟩)] w
      fun e w' => e = .returned (.bool ((hs f).all (passM false mem (l k) (hs k)))) ∧ Below w.heap.size w w' := by
  have HB : Hid (Built w false g n mem l hs bm bs bg bf bv lb ub ha hc) := hB
  have hHf := hB.hld f hf
  have hlen := hB.few f hf
  have hg := hB.g256
  obtain ⟨L, hL⟩ : ∃ L, L = hs f := ⟨_, rfl⟩
  obtain ⟨hf0, hhf0⟩ : ∃ x, x = ha f := ⟨_, rfl⟩
  rw [← hL] at hHf hlen ⊢
  rw [← hhf0] at hHf ⊢
  have HL : Hid (L = hs f) := hL
  have hb0 := ((Below.refl w.heap.size w).alloc (Nat.le_refl _) (.cells #[.slice (some ⟨lb f, 0, none⟩) g g, .slice (some ⟨ub f, 0, none⟩) 1 1, .slice hf0 L.length (hc f)] 44)).alloc (by simp) (.cells #[.slice (some ⟨lb k, 0, none⟩) g g, .slice (some ⟨ub k, 0, none⟩) 1 1, .slice (ha k) (hs k).length (hc k)] 44)
  have e0 : ((w.alloc (.cells #[.slice (some ⟨lb f, 0, none⟩) g g, .slice (some ⟨ub f, 0, none⟩) 1 1, .slice hf0 L.length (hc f)] 44)).alloc (.cells #[.slice (some ⟨lb k, 0, none⟩) g g, .slice (some ⟨ub k, 0, none⟩) 1 1, .slice (ha k) (hs k).length (hc k)] 44)).cell? ⟨w.heap.size + 1, 0, none⟩ = some (.slice (some ⟨lb k, 0, none⟩) g g) := by simp
  have e2 : ((w.alloc (.cells #[.slice (some ⟨lb f, 0, none⟩) g g, .slice (some ⟨ub f, 0, none⟩) 1 1, .slice hf0 L.length (hc f)] 44)).alloc (.cells #[.slice (some ⟨lb k, 0, none⟩) g g, .slice (some ⟨ub k, 0, none⟩) 1 1, .slice (ha k) (hs k).length (hc k)] 44)).cell? ⟨w.heap.size + 1, 2, none⟩ = some (.slice (ha k) (hs k).length (hc k)) := by simp
  have esz : ((w.alloc (.cells #[.slice (some ⟨lb f, 0, none⟩) g g, .slice (some ⟨ub f, 0, none⟩) 1 1, .slice hf0 L.length (hc f)] 44)).alloc (.cells #[.slice (some ⟨lb k, 0, none⟩) g g, .slice (some ⟨ub k, 0, none⟩) 1 1, .slice (ha k) (hs k).length (hc k)] 44)).heap.size = w.heap.size + 2 := by simp
  clear hB hL hhf0
  go_enter Yba.func17, Yba.ntmps17
  go_wp2
  obtain ⟨W2, hW2⟩ : ∃ W, W = (w.alloc (.cells #[.slice (some ⟨lb f, 0, none⟩) g g, .slice (some ⟨ub f, 0, none⟩) 1 1, .slice hf0 L.length (hc f)] 44)).alloc (.cells #[.slice (some ⟨lb k, 0, none⟩) g g, .slice (some ⟨ub k, 0, none⟩) 1 1, .slice (ha k) (hs k).length (hc k)] 44) := ⟨_, rfl⟩
  rw [← hW2] at hb0 e0 e2 esz ⊢
  clear hW2
  go_loopw [12] (fun i wr => ∃ m : Nat, m ≤ L.length ∧ i = .int .i64 m ∧ (∀ t, t < m → passM false mem (l k) (hs k) (L.getD t (0, 0)) = true) ∧ Below (w.heap.size + 2) W2 wr) (fun i _ => L.length - (intOf i).toNat)
  case atStart => exact ⟨0, Nat.zero_le _, rfl, fun t ht => by omega, Below.refl _ _⟩
  case round =>
    obtain ⟨m, hm, rfl, hpass, hbr⟩ := hrel
    have hbw : Below w.heap.size w wr := hb0.trans (hbr.mono (by omega))
    by_cases hml : m < L.length
    · obtain ⟨b, rfl, hb, hcc⟩ : ∃ b, hf0 = some ⟨b, 0, none⟩ ∧ b < w.heap.size ∧ ∀ t, t < L.length → w.cell? ⟨b, t * 2, none⟩ = some (.int .i64 ((L.getD t (0, 0)).1 : Int)) ∧ w.cell? ⟨b, t * 2 + 1, none⟩ = some (.int .i64 (L.getD t (0, 0)).2) := by
        rcases hHf with rfl | h
        · simp at hml
        · exact h
      obtain ⟨c0, c1⟩ := hcc m hml
      obtain ⟨q, hqd⟩ : ∃ q, q = L.getD m (0, 0) := ⟨_, rfl⟩
      have hq : q.1 < g := by
        rw [hqd]
        refine ((HB.out.ok f hf).sound _ ?_).1
        rw [← HL.out]
        exact getD_mem hml
      rw [← hqd] at c0 c1
      have HQ : Hid (q = L.getD m (0, 0)) := hqd
      have HP : Hid (∀ t, t < m → passM false mem (l k) (hs k) (L.getD t (0, 0)) = true) := hpass
      obtain ⟨i, v⟩ := q
      have B := HB.out.later hbw
      have d0 : wr.cell? ⟨b, m * 2, none⟩ = some (.int .i64 (i : Int)) := (hbw.cell (by exact hb)).trans c0
      have d1 : wr.cell? ⟨b, m * 2 + 1, none⟩ = some (.int .i64 v) := (hbw.cell (by exact hb)).trans c1
      have d2 : wr.cell? ⟨p, 0, none⟩ = some (.pointer (some ⟨bs, 0, none⟩)) := (hbw.cell (by exact lp)).trans hp
      have d3 := B.cs0
      have d4 := B.cs2
      have d5 := B.cm
      have d6 := B.grp i hq
      have d7 := B.lie k hk i hq
      have d8 : wr.cell? ⟨w.heap.size + 1, 0, none⟩ = some (.slice (some ⟨lb k, 0, none⟩) g g) := (hbr.cell (by show w.heap.size + 1 < _; omega)).trans e0
      have d9 : wr.cell? ⟨w.heap.size + 1, 2, none⟩ = some (.slice (ha k) (hs k).length (hc k)) := (hbr.cell (by show w.heap.size + 1 < _; omega)).trans e2
      have l1 := B.lm
      have l2 := B.ls
      have l3 := B.lg
      have l4 := B.llb k hk
      have l5 : p < wr.heap.size := Nat.lt_of_lt_of_le lp hbw.size
      have l6 : w.heap.size + 1 < wr.heap.size := by have := hbr.size; omega
      have l7 : w.heap.size < wr.heap.size := by omega
      have i1 : (i : Int) < (g : Int) := by omega
      have i2 : (0 : Int) ≤ (i : Int) := by omega
      clear hcc c0 c1 hpass hqd hHf B
      go_wp2_with fail
      have hbX : Below wr.heap.size wr ((wr.alloc (.cells #[.int .i64 (i : Int), .int .i64 v] 85)).alloc (.cells #[.int .i64 (mem i : Int)] 3)) := ((Below.refl _ _).alloc (Nat.le_refl _) _).alloc (by simp) _
      have S : Seen ((wr.alloc (.cells #[.int .i64 (i : Int), .int .i64 v] 85)).alloc (.cells #[.int .i64 (mem i : Int)] 3)) g bs bg p (wr.heap.size + 1) (mem i) mem :=
        { hp := (hbX.cell (by exact l5)).trans d2, hu := by simp, hs := (hbX.cell (by exact l2)).trans d4, hm := fun j hj => (hbX.cell (by exact l3)).trans ((HB.out.later hbw).grp j hj), hg := hg, lp := by simp; omega, lu := by simp, lbs := by simp; omega, lbg := by simp; omega }
      have hHk := ((HB.out.later hbw).hld k hk).later hbX
      have hltk : ∀ q ∈ hs k, q.1 < g := fun q hq => ((HB.out.ok k hk).sound q hq).1
      have hlk : (hs k).length ≤ 256 := Nat.le_trans (HB.out.few k hk) hg
      have HS : Hid (Seen ((wr.alloc (.cells #[.int .i64 (i : Int), .int .i64 v] 85)).alloc (.cells #[.int .i64 (mem i : Int)] 3)) g bs bg p (wr.heap.size + 1) (mem i) mem ∧ Held ((wr.alloc (.cells #[.int .i64 (i : Int), .int .i64 v] 85)).alloc (.cells #[.int .i64 (mem i : Int)] 3)) (ha k) (hs k) ∧ ∀ q ∈ hs k, q.1 < g) := ⟨S, hHk, hltk⟩
      clear hbX S hHk hltk
      go_region
      go_wp2_with fail
      refine wp_region_tail 31 mixed (by kernel_rfl) ?_
      simp only [List.take_succ_cons, List.take_zero, List.drop_succ_cons, List.drop_zero]
      repeat (go_big_quiet_step (fail))
      refine wpQuiet_nil ?_
      go_wp2_with fail
      refine (contains_any g bs bg p (wr.heap.size + 1) (mem i) mem (ha k) (hc k) (hs k) _ (HS.out.1.later ((Below.refl _ _).drew.drew)) (HS.out.2.1.later ((Below.refl _ _).drew.drew)) HS.out.2.2 hlk).mono ?_
      rintro e w1 ⟨rfl, hb1⟩
      have hb2 : Below w.heap.size w w1 := ((hbw.alloc (by omega) (.cells #[.int .i64 (i : Int), .int .i64 v] 85)).alloc (by simp; omega) (.cells #[.int .i64 (mem i : Int)] 3)).trans (below_of_drew2 (hb1.mono (by simp; omega)))
      have hb3 : Below (w.heap.size + 2) W2 w1 := ((hbr.alloc (by omega) (.cells #[.int .i64 (i : Int), .int .i64 v] 85)).alloc (by simp; omega) (.cells #[.int .i64 (mem i : Int)] 3)).trans (below_of_drew2 (hb1.mono (by simp; omega)))
      cases hx : (hs k).any (fun q => eqM (mem q.1) (mem i))
      · go_wp2
        go_ret
        refine ⟨?_, hb2⟩
        refine ret_bool (all_no (d := (0, 0)) hml ?_).symm
        rw [← HQ.out]
        simpa [passM] using hx
      · go_wp2
        go_roundw
        case rel =>
          refine ⟨m + 1, by omega, by go_num, fun t ht => ?_, hb3⟩
          rcases Nat.lt_or_ge t m with h | h
          · exact HP.out t h
          · obtain rfl : t = m := by omega
            rw [← HQ.out]
            simpa [passM] using hx
        case measure => simp [intOf]; omega
    · go_wp2
      go_ret
      exact ⟨ret_bool (all_yes (fun t ht => hpass t (by omega))).symm, hbw⟩
end Go.Proofs.Ybulkhfi.A
