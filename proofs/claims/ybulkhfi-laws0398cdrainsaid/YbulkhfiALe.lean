import Derived.Test.YbulkhfiAWithin
namespace Go.Proofs.Ybulkhfi.A
open Go.RowKit
set_option linter.unusedVariables false

set_option maxHeartbeats 400000 in
theorem le_alone (g ba bb bg : Nat) (a b : Nat → Int) (w : World) (hg : g ≤ 256) (la : ba < w.heap.size) (lb : bb < w.heap.size) (ca : ∀ i, i < g → w.cell? ⟨ba, i, none⟩ = some (.int .i64 (a i))) (cb : ∀ i, i < g → w.cell? ⟨bb, i, none⟩ = some (.int .i64 (b i))) :
    Calls Yba.prog 8 #[.slice (some ⟨ba, 0, none⟩) g g, .slice (some ⟨bb, 0, none⟩) g g, .slice (some ⟨bg, 0, none⟩) g g, .bool true] w fun e w' => e = .returned (.bool ((List.range g).all (fun i => decide (a i ≤ b i)))) ∧ Below w.heap.size w w' := by
  go_enter Yba.func8, Yba.ntmps8
  go_wp2
  go_loopw [9] (fun i wr => ∃ m : Nat, m ≤ g ∧ i = .int .i64 m ∧ (∀ t, t < m → a t ≤ b t) ∧ Below w.heap.size w wr) (fun i _ => g - (intOf i).toNat)
  case atStart => exact ⟨0, Nat.zero_le _, rfl, fun t ht => by omega, Below.refl _ _⟩
  case round =>
    obtain ⟨m, hm, rfl, hle, hbel⟩ := hrel
    have HL : Hid (∀ t, t < m → a t ≤ b t) := hle
    clear hle
    by_cases hmg : m < g
    · have d0 : wr.cell? ⟨ba, m, none⟩ = some (.int .i64 (a m)) := (hbel.cell (by exact la)).trans (ca m hmg)
      have d1 : wr.cell? ⟨bb, m, none⟩ = some (.int .i64 (b m)) := (hbel.cell (by exact lb)).trans (cb m hmg)
      have i1 : (m : Int) < (g : Int) := by omega
      by_cases hv : b m < a m
      · go_wp2_with fail
        go_quiet (fail)
        go_wp2
        go_ret
        refine ⟨ret_bool ?_, below_drewN hbel _⟩
        symm
        cases hx : (List.range g).all (fun i => decide (a i ≤ b i)) with
        | false => rfl
        | true =>
          have := List.all_eq_true.1 hx m (List.mem_range.2 hmg)
          simp at this
          omega
      · go_wp2_with fail
        go_quiet (fail)
        go_wp2
        go_roundw
        case rel =>
          refine ⟨m + 1, by omega, by go_num, fun t ht => ?_, below_drewN hbel _⟩
          rcases Nat.lt_or_ge t m with h | h
          · exact HL.out t h
          · obtain rfl : t = m := by omega
            omega
        case measure => simp [intOf]; omega
    · go_wp2
      go_ret
      refine ⟨ret_bool ?_, hbel⟩
      symm
      rw [List.all_eq_true]
      intro i hi
      have := HL.out i (by have := List.mem_range.1 hi; omega)
      simpa using this

/-- Four flags in block A. -/
def Flags (w : World) (A : Nat) (f : Nat → Bool) : Prop := ∀ u, u < 4 → w.cell? ⟨A, u, none⟩ = some (.bool (f u)) ∧ w.frozen? ⟨A, u, none⟩ = false

def hasTo (mem : Nat → Nat) (a : Nat → Int) (k u : Nat) : Bool := (List.range k).any (fun i => decide (0 < a i) && mem i == u)

theorem hasTo_skip {mem : Nat → Nat} {a : Nat → Int} {k : Nat} (h : ¬ 0 < a k) (u : Nat) : hasTo mem a (k + 1) u = hasTo mem a k u := by
  simp [hasTo, List.range_succ, h]
theorem hasTo_put {mem : Nat → Nat} {a : Nat → Int} {k : Nat} (h : 0 < a k) (u : Nat) : hasTo mem a (k + 1) u = if u = mem k then true else hasTo mem a k u := by
  by_cases hu : u = mem k
  · simp [hasTo, List.range_succ, h, hu]
  · have : (mem k == u) = false := by simpa using fun e => hu e.symm
    simp [hasTo, List.range_succ, h, hu, this]

theorem Flags.set {w : World} {A : Nat} {f : Nat → Bool} (h : Flags w A f) {m : Nat} (hm : m < 4) : Flags (w.setCell ⟨A, m, none⟩ (.bool true)) A (fun u => if u = m then true else f u) := by
  intro u hu
  obtain ⟨c, fz⟩ := h u hu
  refine ⟨?_, by rw [World.frozen?_setCell]; exact fz⟩
  by_cases e : u = m
  · subst e
    simp only [if_true]
    exact World.cell?_setCell_same _ _ _ c
  · simp only [if_neg e]
    rw [World.cell?_setCell_other]
    · exact c
    · intro e'
      simp only [Addr.mk.injEq] at e'
      exact e e'.2.1.symm

theorem Flags.other {w : World} {A : Nat} {f : Nat → Bool} (h : Flags w A f) {p : Addr} (hp : A ≠ p.block) (v : Value) : Flags (w.setCell p v) A f := by
  intro u hu
  obtain ⟨c, fz⟩ := h u hu
  refine ⟨?_, by rw [World.frozen?_setCell]; exact fz⟩
  rw [World.cell?_setCell_other]
  · exact c
  · intro e
    exact hp (by rw [e])

theorem Flags.later {w w' : World} {A B : Nat} {f : Nat → Bool} (h : Flags w A f) (hb : Below B w w') (hA : A < B) : Flags w' A f := fun u hu =>
  ⟨(hb.cell (by exact hA)).trans (h u hu).1, (hb.frozen (by exact hA)).trans (h u hu).2⟩

theorem Flags.congr {w : World} {A : Nat} {f f' : Nat → Bool} (h : Flags w A f) (hf : ∀ u, f' u = f u) : Flags w A f' := fun u hu => by
  rw [hf u]; exact h u hu

def le4 (g : Nat) (mem : Nat → Nat) (a b : Nat → Int) : Bool := (List.range 4).all (fun u => !(hasTo mem a g u && !(hasTo mem b g u)))

theorem le_plain (g : Nat) (mem : Nat → Nat) (a b : Nat → Int) (h4 : ∀ i, i < g → mem i < 4) : le4 g mem a b = leB false g mem a b := by
  rw [Bool.eq_iff_iff]
  simp only [le4, leB, Bool.false_eq_true, if_false, List.all_eq_true, List.mem_range, hasTo]
  constructor
  · intro h i hi
    by_cases h0 : 0 < a i
    · have h1 := h (mem i) (h4 i hi)
      have h2 : ((List.range g).any fun j => decide (0 < a j) && mem j == mem i) = true := List.any_eq_true.2 ⟨i, List.mem_range.2 hi, by simp [h0]⟩
      rw [h2] at h1
      simpa [h0] using h1
    · simp [h0]
  · intro h u hu
    cases hx : ((List.range g).any fun j => decide (0 < a j) && mem j == u) with
    | false => rfl
    | true =>
      obtain ⟨i, hi, hp⟩ := List.any_eq_true.1 hx
      have hi := List.mem_range.1 hi
      simp only [Bool.and_eq_true, decide_eq_true_eq, beq_iff_eq] at hp
      have h1 := h i hi
      rw [hp.2] at h1
      simpa [hp.1] using h1

set_option maxHeartbeats 1000000 in
theorem le_group (g ba bb bg : Nat) (mem : Nat → Nat) (a b : Nat → Int) (w : World) (hg : g ≤ 256) (la : ba < w.heap.size) (lb : bb < w.heap.size) (lg : bg < w.heap.size) (ca : ∀ i, i < g → w.cell? ⟨ba, i, none⟩ = some (.int .i64 (a i))) (cb : ∀ i, i < g → w.cell? ⟨bb, i, none⟩ = some (.int .i64 (b i)))
    (cg : ∀ i, i < g → w.cell? ⟨bg, i * 7 + 1, none⟩ = some (.int .i64 (mem i : Int))) (h4 : ∀ i, i < g → mem i < 4) :
    Calls Yba.prog 8 #[.slice (some ⟨ba, 0, none⟩) g g, .slice (some ⟨bb, 0, none⟩) g g, .slice (some ⟨bg, 0, none⟩) g g, .bool false] w fun e w' => e = .returned (.bool (le4 g mem a b)) ∧ Below w.heap.size w w' := by
  have HG : Hid ((∀ i, i < g → w.cell? ⟨ba, i, none⟩ = some (.int .i64 (a i))) ∧ (∀ i, i < g → w.cell? ⟨bb, i, none⟩ = some (.int .i64 (b i))) ∧ (∀ i, i < g → w.cell? ⟨bg, i * 7 + 1, none⟩ = some (.int .i64 (mem i : Int)))) := ⟨ca, cb, cg⟩
  clear ca cb cg
  go_enter Yba.func8, Yba.ntmps8
  go_wp2
  go_loopw [12] (fun i wr => ∃ m : Nat, m ≤ g ∧ i = .int .i64 m ∧ Flags wr w.heap.size (hasTo mem a m) ∧ Flags wr (w.heap.size + 1) (hasTo mem b m) ∧ Below w.heap.size w wr ∧ w.heap.size + 1 < wr.heap.size) (fun i _ => g - (intOf i).toNat)
  case atStart =>
    refine ⟨0, Nat.zero_le _, rfl, fun u hu => ?_, fun u hu => ?_, ((Below.refl _ _).alloc (Nat.le_refl _) _).alloc (by simp) _, by simp⟩
    · match u, hu with
      | 0, _ => simp [hasTo]
      | 1, _ => simp [hasTo]
      | 2, _ => simp [hasTo]
      | 3, _ => simp [hasTo]
    · match u, hu with
      | 0, _ => simp [hasTo]
      | 1, _ => simp [hasTo]
      | 2, _ => simp [hasTo]
      | 3, _ => simp [hasTo]
  case round =>
    obtain ⟨m, hm, rfl, hfa, hfb, hbel, hsz⟩ := hrel
    by_cases hmg : m < g
    · have d0 : wr.cell? ⟨ba, m, none⟩ = some (.int .i64 (a m)) := (hbel.cell (by exact la)).trans (HG.out.1 m hmg)
      have d1 : wr.cell? ⟨bb, m, none⟩ = some (.int .i64 (b m)) := (hbel.cell (by exact lb)).trans (HG.out.2.1 m hmg)
      have d2 : wr.cell? ⟨bg, m * 7 + 1, none⟩ = some (.int .i64 (mem m : Int)) := (hbel.cell (by exact lg)).trans (HG.out.2.2 m hmg)
      have hm4 := h4 m hmg
      have i1 : (m : Int) < (g : Int) := by omega
      have i2 : (mem m : Int) < 4 := by omega
      obtain ⟨a0, a1⟩ := hfa (mem m) hm4
      obtain ⟨b0, b1⟩ := hfb (mem m) hm4
      have n1 : ¬ w.heap.size = bb := by omega
      have n2 : ¬ w.heap.size = bg := by omega
      by_cases h1 : 0 < a m
      · by_cases h2 : 0 < b m
        · go_wp2
          go_roundw
          case rel => exact ⟨m + 1, by omega, by go_num, ((hfa.set hm4).other (by simp) _).congr (hasTo_put h1), ((hfb.other (by simp) _).set hm4).congr (hasTo_put h2), (hbel.setCell (by simp) _).setCell (by simp) _, by simpa [World.setCell] using hsz⟩
          case measure => simp [intOf]; omega
        · go_wp2
          go_roundw
          case rel => exact ⟨m + 1, by omega, by go_num, (hfa.set hm4).congr (hasTo_put h1), (hfb.other (by simp) _).congr (hasTo_skip h2), hbel.setCell (by simp) _, by simpa [World.setCell] using hsz⟩
          case measure => simp [intOf]; omega
      · by_cases h2 : 0 < b m
        · go_wp2
          go_roundw
          case rel => exact ⟨m + 1, by omega, by go_num, (hfa.other (by simp) _).congr (hasTo_skip h1), (hfb.set hm4).congr (hasTo_put h2), hbel.setCell (by simp) _, by simpa [World.setCell] using hsz⟩
          case measure => simp [intOf]; omega
        · go_wp2
          go_roundw
          case rel => exact ⟨m + 1, by omega, by go_num, hfa.congr (hasTo_skip h1), hfb.congr (hasTo_skip h2), hbel, hsz⟩
          case measure => simp [intOf]; omega
    · obtain rfl : m = g := by omega
      go_wp2
      go_loop [13] (fun i => ∃ u : Nat, u ≤ 4 ∧ i = .int .i64 u ∧ ∀ t, t < u → (hasTo mem a m t && !(hasTo mem b m t)) = false) (fun i => 4 - (intOf i).toNat)
      case atStart => exact ⟨0, Nat.zero_le _, rfl, fun t ht => by omega⟩
      case round =>
        obtain ⟨u, hu, rfl, hall⟩ := hrel
        have HA : Hid (∀ t, t < u → (hasTo mem a m t && !(hasTo mem b m t)) = false) := hall
        clear hall
        by_cases hu4 : u < 4
        · obtain ⟨a0, a1⟩ := hfa u hu4
          obtain ⟨b0, b1⟩ := hfb u hu4
          have i1 : (u : Int) < 4 := by omega
          obtain ⟨x, hx⟩ : ∃ x, x = hasTo mem a m u := ⟨_, rfl⟩
          obtain ⟨y, hy⟩ : ∃ y, y = hasTo mem b m u := ⟨_, rfl⟩
          rw [← hx] at a0
          rw [← hy] at b0
          have HX : Hid (x = hasTo mem a m u) := hx
          have HY : Hid (y = hasTo mem b m u) := hy
          clear hx hy
          cases x
          · go_wp2
            go_round
            case rel =>
              refine ⟨u + 1, by omega, by go_num, fun t ht => ?_⟩
              rcases Nat.lt_or_ge t u with h | h
              · exact HA.out t h
              · obtain rfl : t = u := by omega
                rw [← HX.out]; rfl
            case measure => simp [intOf]; omega
          · cases y
            · go_wp2
              go_ret
              refine ⟨ret_bool ?_, hbel⟩
              symm
              cases hz : le4 m mem a b with
              | false => rfl
              | true =>
                have := List.all_eq_true.1 (show (List.range 4).all (fun u => !(hasTo mem a m u && !(hasTo mem b m u))) = true from hz) u (List.mem_range.2 hu4)
                rw [← HX.out, ← HY.out] at this
                cases this
            · go_wp2
              go_round
              case rel =>
                refine ⟨u + 1, by omega, by go_num, fun t ht => ?_⟩
                rcases Nat.lt_or_ge t u with h | h
                · exact HA.out t h
                · obtain rfl : t = u := by omega
                  rw [← HX.out, ← HY.out]; rfl
              case measure => simp [intOf]; omega
        · go_wp2
          go_ret
          refine ⟨ret_bool ?_, hbel⟩
          symm
          unfold le4
          rw [List.all_eq_true]
          intro t ht
          rw [HA.out t (by have := List.mem_range.1 ht; omega)]
          rfl

/-- 'zzs0398ale' at the vectors of two found sets. -/
theorem le_any {w : World} {alone : Bool} {g n : Nat} {mem : Nat → Nat} {l : Nat → Nat → Int} {hs : Nat → List (Nat × Int)} {bm bs bg bf bv : Nat} {lb ub : Nat → Nat} {ha : Nat → Option Addr} {hc : Nat → Nat}
    (hB : Built w alone g n mem l hs bm bs bg bf bv lb ub ha hc) (j k : Nat) (hj : j < n) (hk : k < n) :
    Calls Yba.prog 8 #[.slice (some ⟨lb j, 0, none⟩) g g, .slice (some ⟨lb k, 0, none⟩) g g, .slice (some ⟨bg, 0, none⟩) g g, .bool alone] w fun e w' => e = .returned (.bool (leB alone g mem (l j) (l k))) ∧ Below w.heap.size w w' := by
  cases alone with
  | true =>
    have h := le_alone g (lb j) (lb k) bg (l j) (l k) w hB.g256 (hB.llb j hj) (hB.llb k hk) (hB.lie j hj) (hB.lie k hk)
    have e : (List.range g).all (fun i => decide (l j i ≤ l k i)) = leB true g mem (l j) (l k) := by simp [leB]
    rwa [e] at h
  | false =>
    have h := le_group g (lb j) (lb k) bg mem (l j) (l k) w hB.g256 (hB.llb j hj) (hB.llb k hk) hB.lg (hB.lie j hj) (hB.lie k hk) hB.grp hB.mem4
    rwa [le_plain g mem (l j) (l k) hB.mem4] at h

/-- 'within' at two found sets. -/
theorem within_any {w : World} {alone : Bool} {g n : Nat} {mem : Nat → Nat} {l : Nat → Nat → Int} {hs : Nat → List (Nat × Int)} {bm bs bg bf bv : Nat} {lb ub : Nat → Nat} {ha : Nat → Option Addr} {hc : Nat → Nat}
    (hB : Built w alone g n mem l hs bm bs bg bf bv lb ub ha hc) (f k p : Nat) (hf : f < n) (hk : k < n) (hp : w.cell? ⟨p, 0, none⟩ = some (.pointer (some ⟨bs, 0, none⟩))) (lp : p < w.heap.size) :
    Calls Yba.prog 17 #[.agg #[.slice (some ⟨lb f, 0, none⟩) g g, .slice (some ⟨ub f, 0, none⟩) 1 1, .slice (ha f) (hs f).length (hc f)], .agg #[.slice (some ⟨lb k, 0, none⟩) g g, .slice (some ⟨ub k, 0, none⟩) 1 1, .slice (ha k) (hs k).length (hc k)], .pointer (some ⟨p, 0, none⟩)] w
      fun e w' => e = .returned (.bool (leB alone g mem (l f) (l k))) ∧ Below w.heap.size w w' := by
  rw [← pass_all (hB.ok f hf) (hB.ok k hk) (fun i hi => (hB.small k hk i hi).1), ← passM_eq]
  cases alone with
  | true => exact within_alone g n mem l hs bm bs bg bf bv lb ub ha hc f k p w hB hf hk hp lp
  | false => exact within_group g n mem l hs bm bs bg bf bv lb ub ha hc f k p w hB hf hk hp lp
end Go.Proofs.Ybulkhfi.A
