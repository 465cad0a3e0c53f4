import Derived.Test.YbulkhgkModel
namespace Go.Proofs.Ybulkhgk.M
open Go.RowKit
set_option linter.unusedVariables false

theorem splice {α : Type} (xs ys K : List α) (N p : Nat) (h : xs.take N = ys) (hN : N ≤ xs.length) (hp : p + K.length ≤ N) :
    (xs.take p ++ K ++ xs.drop (p + K.length)).take N = ys.take p ++ K ++ ys.drop (p + K.length) := by
  subst h
  have e1 : (xs.take N).take p = xs.take p := by rw [List.take_take]; congr 1; omega
  have e2 : (xs.take p ++ K).length = p + K.length := by simp; omega
  rw [e1, List.take_append, List.take_of_length_le (by rw [e2]; exact hp), e2, List.drop_take]

section
variable {w : World} {b g cap : Nat} {C : List Mk}

/-- append within the row's own length: the cells of K are laid over those behind the first k. -/
theorem run_append_over (ty : TypeId) (hR : Row w b (.slice (some ⟨g, 0, none⟩) C.length cap) C) (k : Nat) (K : List Mk) (hk : k + K.length ≤ C.length) (a : Addr) (m c : Nat) (hm : m = K.length) (hnews : ∀ j u, (mcs K)[j]? = some u → w.cell? (a.add j) = some u) :
    ∃ w', (Builtin.append_ #[26, 26] ty #[.slice (some ⟨g, 0, none⟩) k cap, .slice (some a) m c]).run Yba.prog w = .ok (.slice (some ⟨g, 0, none⟩) (k + m) cap) w' ∧
      Row w' b (.slice (some ⟨g, 0, none⟩) C.length cap) (C.take k ++ K ++ C.drop (k + K.length)) ∧ w.grownBy w' (some g) := by
  subst hm
  obtain ⟨i0, hi, hz0, hz1, hz2⟩ := info_parts info30
  rcases hR.2 with ⟨h', _⟩ | ⟨g', cap', cur, e, hb, hh, hc1, hc2, hcs, ht⟩
  · cases h'
  simp only [Value.slice.injEq, Option.some.injEq, Addr.mk.injEq, and_true, true_and] at e
  obtain ⟨rfl, rfl⟩ := e
  have hr := run_append_room (P := Yba.prog) w 26 ty 30 i0 Yba.underlying26 hi g k cap cur hh a K.length c (mcs K) (by rw [mcs_length, hz1]) hnews (mcs_one K) (by omega) (by rw [mcs_length, hz1, hcs]; omega)
  rw [hz1] at hr
  have hlen : (C.take k ++ K ++ C.drop (k + K.length)).length = C.length := by simp; omega
  refine ⟨_, hr, ⟨by rw [mcs_length], .inr ⟨g, cap, _, ?_, hb, setRow_heap w g cur _ 30 _ hh, by rw [hlen]; exact hc1, hc2, ?_, ?_⟩⟩, ⟨rfl, rfl, rfl, by simp, fun k' _ hk' => setRow_other w g k' _ (fun e => hk' (by rw [e]))⟩⟩
  · rw [hlen]
  · simp only [List.size_toArray, List.length_append, List.length_take, List.length_drop, Array.length_toList, mcs_length]
    omega
  · rw [hlen]
    show (cur.toList.take (k * 3) ++ mcs K ++ cur.toList.drop (k * 3 + (mcs K).length)).take (C.length * 3) = _
    rw [splice cur.toList (mcs C) (mcs K) (C.length * 3) (k * 3) ht (by have e : cur.toList.length = cur.size := Array.length_toList; omega) (by rw [mcs_length]; omega)]
    rw [mcs_append, mcs_append, mcs_take, mcs_length, ← Nat.add_mul, mcs_drop]

theorem wpList_append_over {ops : Array Oper} {rest : List Oper} {o : Oper} {a : Act} {Q : Exit → Act → World → Prop} (hgd : o.guard = none) (s x : Operand)
    (ho : o.op = .call { callee := .builtin .append, args := #[s, x], argTypes := #[26, 26] })
    (hR : Row w b (.slice (some ⟨g, 0, none⟩) C.length cap) C) (k : Nat) (K : List Mk) (hk : k + K.length ≤ C.length) (ad : Addr) (m c : Nat) (hm : m = K.length) (hnews : ∀ j u, (mcs K)[j]? = some u → w.cell? (ad.add j) = some u)
    (hs : a.eval s = .slice (some ⟨g, 0, none⟩) k cap) (hx : a.eval x = .slice (some ad) m c)
    (h : ∀ w', Row w' b (.slice (some ⟨g, 0, none⟩) C.length cap) (C.take k ++ K ++ C.drop (k + K.length)) → w.grownBy w' (some g) → wpList Yba.prog ops Q rest (a.put o.dst (.slice (some ⟨g, 0, none⟩) (k + m) cap)) w') : wpList Yba.prog ops Q (o :: rest) a w := by
  refine wpList_plain hgd fun K' hK => ?_
  obtain ⟨w', hr, h2, h3⟩ := run_append_over (ty := o.type) hR k K hk ad m c hm hnews
  unfold Oper.wp execOp
  simp only [ho, resolve, invoke, builtin, Sem.run_bind, Sem.run_pure, Result.andThen_ok, List.map_toArray, List.map_cons, List.map_nil, hs, hx, hr]
  exact hK _ _ (h w' h2 h3)
end

/-- The marks while they are thinned in place: the first k are out's even ones. -/
def evs (out : List Mk) (k : Nat) : List Mk := (List.range k).map (fun j => out.getD (2 * j) mk0)
def curK (out : List Mk) (k : Nat) : List Mk := evs out k ++ out.drop k
theorem evs_length (out : List Mk) (k : Nat) : (evs out k).length = k := by simp [evs]
theorem evs_succ (out : List Mk) (k : Nat) : evs out (k + 1) = evs out k ++ [out.getD (2 * k) mk0] := by simp [evs, List.range_succ]
theorem curK_length (out : List Mk) (k : Nat) (h : k ≤ out.length) : (curK out k).length = out.length := by simp [curK, evs_length]; omega
theorem curK_at (out : List Mk) (k t : Nat) (h : k ≤ t) : (curK out k).getD t mk0 = out.getD t mk0 := by
  simp only [curK, List.getD_eq_getElem?_getD]
  rw [List.getElem?_append_right (by rw [evs_length]; exact h), evs_length, List.getElem?_drop]
  congr 2
  omega
theorem curK_succ (out : List Mk) (k : Nat) (h : k + 1 ≤ out.length) : (curK out k).take k ++ [out.getD (2 * k) mk0] ++ (curK out k).drop (k + 1) = curK out (k + 1) := by
  have e1 : (curK out k).take k = evs out k := by
    unfold curK
    rw [List.take_append, List.take_of_length_le (by rw [evs_length]; exact Nat.le_refl _), evs_length, Nat.sub_self, List.take_zero, List.append_nil]
  have e2 : (curK out k).drop (k + 1) = out.drop (k + 1) := by
    unfold curK
    rw [List.drop_append, List.drop_of_length_le (by rw [evs_length]; omega), evs_length, List.nil_append, List.drop_drop]
    congr 1
    omega
  rw [e1, e2]
  unfold curK
  rw [evs_succ]
theorem curK_one (out : List Mk) (h : 0 < out.length) : curK out 1 = out := by
  cases out with
  | nil => simp at h
  | cons x xs => simp [curK, evs]

theorem filter_even : ∀ h : Nat, (List.range h).filter (fun j => decide (j % 2 = 0)) = (List.range ((h + 1) / 2)).map (fun j => 2 * j)
  | 0 => rfl
  | h + 1 => by
    rw [List.range_succ, List.filter_append, filter_even h]
    by_cases e : h % 2 = 0
    · have e1 : (h + 1 + 1) / 2 = (h + 1) / 2 + 1 := by omega
      rw [e1, List.range_succ, List.map_append]
      have e2 : 2 * ((h + 1) / 2) = h := by omega
      simp [e, e2]
    · have e1 : (h + 1 + 1) / 2 = (h + 1) / 2 := by omega
      rw [e1]
      simp [e]

theorem thin_eq (out : List Mk) (k : Nat) (hk : k = (out.length / 2 + 1) / 2) : thin out = evs out k ++ out.drop (out.length / 2) := by
  subst hk
  obtain ⟨h, hh⟩ : ∃ h, h = out.length / 2 := ⟨_, rfl⟩
  have hle : h ≤ out.length := by omega
  unfold thin thinTo
  have er : List.range out.length = List.range h ++ (List.range (out.length - h)).map (fun j => h + j) := by
    have := List.range_add (m := out.length - h) (n := h)
    rw [show h + (out.length - h) = out.length from by omega] at this
    simpa using this
  rw [er, List.filter_append, List.map_append, ← hh]
  congr 1
  · have e1 : (List.range h).filter (keeps out.length) = (List.range h).filter (fun j => decide (j % 2 = 0)) := by
      apply List.filter_congr
      intro j hj
      have := List.mem_range.1 hj
      unfold keeps
      rw [decide_eq_false (show ¬ out.length / 2 ≤ j by omega)]
      simp
    rw [e1, filter_even, List.map_map]
    rfl
  · have e1 : ((List.range (out.length - h)).map (fun j => h + j)).filter (keeps out.length) = (List.range (out.length - h)).map (fun j => h + j) := by
      apply List.filter_eq_self.2
      intro j hj
      obtain ⟨t, _, rfl⟩ := List.mem_map.1 hj
      unfold keeps
      rw [decide_eq_true (show out.length / 2 ≤ h + t by omega)]
      simp
    rw [e1, List.map_map]
    apply List.ext_getElem?
    intro t
    by_cases ht : t < out.length - h
    · have : h + t < out.length := by omega
      simp [ht, this]
    · rw [List.getElem?_eq_none (by simp; omega), List.getElem?_eq_none (by simp; omega)]
end Go.Proofs.Ybulkhgk.M
