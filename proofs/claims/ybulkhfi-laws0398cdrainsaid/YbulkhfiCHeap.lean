import Derived.Test.YbulkhfiCMeth
namespace Go.Proofs.Ybulkhfi.C
open Go.RowKit
set_option linter.unusedVariables false

/-! ### The plain law of the heap -/
theorem getD_app (l r : List Nat) (k : Nat) (h : k < l.length) : (l ++ r).getD k 0 = l.getD k 0 := by
  simp only [List.getD_eq_getElem?_getD, List.getElem?_append_left h]

theorem swp_length (l : List Nat) (i j : Nat) : (swp l i j).length = l.length := by simp [swp]

theorem swp_perm (l : List Nat) (i j : Nat) (hi : i < l.length) (hj : j < l.length) : (swp l i j).Perm l := by
  rw [List.perm_iff_count]
  intro b
  unfold swp
  have hx : l.getD i 0 = l[i] := by simp [hi]
  have hy : l.getD j 0 = l[j] := by simp [hj]
  rw [hx, hy, List.count_set (by simpa using hj), List.count_set hi]
  have e : (l.set i l[j])[j]'(by simpa using hj) = l[j] := by
    rw [List.getElem_set]
    split <;> rfl
  rw [e]
  have hp : (if (l[i] == b) = true then 1 else 0) ≤ l.count b := by
    split
    · rename_i h
      have h' : l[i] = b := by simpa using h
      have := List.count_pos_iff.2 (h' ▸ List.getElem_mem hi : b ∈ l)
      omega
    · omega
  omega

theorem swp_at (l : List Nat) (i j k : Nat) (hi : i < l.length) (hj : j < l.length) : (swp l i j).getD k 0 = if k = j then l.getD i 0 else if k = i then l.getD j 0 else l.getD k 0 := by
  unfold swp
  simp only [List.getD_eq_getElem?_getD, List.getElem?_set]
  by_cases h1 : k = j
  · subst h1; simp [hj]
  · by_cases h2 : k = i
    · subst h2; simp [h1, Ne.symm h1, hi]
    · simp [h1, h2, Ne.symm h1, Ne.symm h2]

/-- f is a heap on its first n places. -/
def Hp (f : Nat → Int) (n : Nat) : Prop := ∀ k, 0 < k → k < n → f ((k - 1) / 2) ≤ f k
def UpI (f : Nat → Int) (n j : Nat) : Prop := (∀ k, 0 < k → k < n → k ≠ j → f ((k - 1) / 2) ≤ f k) ∧ ∀ k, 0 < j → 0 < k → k < n → (k - 1) / 2 = j → f ((j - 1) / 2) ≤ f k
def DnI (f : Nat → Int) (n i : Nat) : Prop := (∀ k, 0 < k → k < n → (k - 1) / 2 ≠ i → f ((k - 1) / 2) ≤ f k) ∧ ∀ k, 0 < i → 0 < k → k < n → (k - 1) / 2 = i → f ((i - 1) / 2) ≤ f k

theorem UpI.step {f g : Nat → Int} {n j : Nat} (h : UpI f n j) (hj : 0 < j) (hn : j < n) (hlt : f j < f ((j - 1) / 2)) (g1 : g ((j - 1) / 2) = f j) (g2 : g j = f ((j - 1) / 2)) (g3 : ∀ k, k ≠ j → k ≠ (j - 1) / 2 → g k = f k) : UpI g n ((j - 1) / 2) := by
  obtain ⟨h1, h2⟩ := h
  obtain ⟨i, hi⟩ : ∃ i, i = (j - 1) / 2 := ⟨_, rfl⟩
  rw [← hi] at hlt g1 g2 g3 h2 ⊢
  have hij : i < j := by omega
  refine ⟨fun k k0 kn ki => ?_, fun k i0 k0 kn kp => ?_⟩
  · by_cases kj : k = j
    · subst kj; rw [← hi, g1, g2]; omega
    · rw [g3 k kj ki]
      have a1 := h1 k k0 kn kj
      by_cases pj : (k - 1) / 2 = j
      · rw [pj, g2]; exact h2 k hj k0 kn pj
      · by_cases pi : (k - 1) / 2 = i
        · rw [pi, g1]; rw [pi] at a1; omega
        · rw [g3 _ pj pi]; exact a1
  · rw [g3 ((i - 1) / 2) (by omega) (by omega)]
    have a0 := h1 i i0 (by omega) (by omega)
    by_cases kj : k = j
    · subst kj; rw [g2]; exact a0
    · have a1 := h1 k k0 kn kj
      rw [kp] at a1
      rw [g3 k kj (by omega)]; omega

theorem UpI.done {f : Nat → Int} {n j : Nat} (h : UpI f n j) (hj : 0 < j → f ((j - 1) / 2) ≤ f j) : Hp f n := by
  intro k k0 kn
  by_cases kj : k = j
  · subst kj; exact hj k0
  · exact h.1 k k0 kn kj

theorem DnI.step {f g : Nat → Int} {n i j : Nat} (h : DnI f n i) (hj0 : 0 < j) (hn : j < n) (hp : (j - 1) / 2 = i) (hmin : ∀ k, 0 < k → k < n → (k - 1) / 2 = i → f j ≤ f k) (hlt : f j < f i) (g1 : g i = f j) (g2 : g j = f i) (g3 : ∀ k, k ≠ j → k ≠ i → g k = f k) : DnI g n j := by
  obtain ⟨h1, h2⟩ := h
  have hij : i < j := by omega
  refine ⟨fun k k0 kn kp => ?_, fun k _ k0 kn kp => ?_⟩
  · by_cases pi : (k - 1) / 2 = i
    · rw [pi, g1]
      by_cases kj : k = j
      · subst kj; rw [g2]; omega
      · rw [g3 k kj (by omega)]; exact hmin k k0 kn pi
    · rw [g3 _ kp pi]
      by_cases ki : k = i
      · subst ki; rw [g1]; exact h2 j k0 hj0 hn hp
      · rw [g3 k (by intro e; subst e; exact pi hp) ki]; exact h1 k k0 kn pi
  · rw [hp, g1, g3 k (by omega) (by omega)]
    have := h1 k k0 kn (by omega)
    rw [kp] at this
    exact this

theorem DnI.done {f : Nat → Int} {n i : Nat} (h : DnI f n i) (hc : ∀ k, 0 < k → k < n → (k - 1) / 2 = i → f i ≤ f k) : Hp f n := by
  intro k k0 kn
  by_cases kp : (k - 1) / 2 = i
  · rw [kp]; exact hc k k0 kn kp
  · exact h.1 k k0 kn kp

theorem Hp.min {f : Nat → Int} {n : Nat} (h : Hp f n) : ∀ k, k < n → f 0 ≤ f k := by
  intro k
  induction k using Nat.strongRecOn with
  | ind k ih =>
    intro kn
    by_cases k0 : k = 0
    · subst k0; omega
    · have a1 := h k (by omega) kn
      have a2 := ih ((k - 1) / 2) (by omega) (by omega)
      omega

section
variable {w : World} {T n : Nat} {bs : Nat → Nat} {ms : Nat → Int} {v : Value} {l : List Nat}

theorem m_push (a : Addr) (w : World) : (method 355 63 (.pointer (some a)) "Push").run Yba.prog w = .ok (60, .pointer (some a)) w := by kernel_rfl
theorem m_pop (a : Addr) (w : World) : (method 355 63 (.pointer (some a)) "Pop").run Yba.prog w = .ok (59, .pointer (some a)) w := by kernel_rfl
theorem m_len0 (a : Addr) (w : World) : (method 355 63 (.pointer (some a)) "Len").run Yba.prog w = (do let v ← load a; pure ((57 : FuncId), v)).run Yba.prog w := by kernel_rfl
theorem m_less0 (a : Addr) (w : World) : (method 355 63 (.pointer (some a)) "Less").run Yba.prog w = (do let v ← load a; pure ((58 : FuncId), v)).run Yba.prog w := by kernel_rfl
theorem m_swap0 (a : Addr) (w : World) : (method 355 63 (.pointer (some a)) "Swap").run Yba.prog w = (do let v ← load a; pure ((61 : FuncId), v)).run Yba.prog w := by kernel_rfl
theorem m_len (h : Que w T n bs ms v l) : (method 355 63 (.pointer (some ⟨T, 7, none⟩)) "Len").run Yba.prog w = .ok (57, v) w := by
  obtain ⟨c, _⟩ := h.cell
  rw [m_len0]; simp [load, Sem.run, c]
theorem m_less (h : Que w T n bs ms v l) : (method 355 63 (.pointer (some ⟨T, 7, none⟩)) "Less").run Yba.prog w = .ok (58, v) w := by
  obtain ⟨c, _⟩ := h.cell
  rw [m_less0]; simp [load, Sem.run, c]
theorem m_swap (h : Que w T n bs ms v l) : (method 355 63 (.pointer (some ⟨T, 7, none⟩)) "Swap").run Yba.prog w = .ok (61, v) w := by
  obtain ⟨c, _⟩ := h.cell
  rw [m_swap0]; simp [load, Sem.run, c]

set_option maxRecDepth 100000 in
set_option maxHeartbeats 1000000 in
theorem up_any (h : Que w T n bs ms v l) (hll : l.length ≤ 1024) (hn : n ≤ 1024) (j : Nat) (hj : j < l.length) (hu : UpI (fun k => ms (l.getD k 0)) l.length j) :
    Calls Yba.prog 24 #[.iface 63 (.pointer (some ⟨T, 7, none⟩)), .int .i64 j] w fun r w' => r = .returned (.tuple #[]) ∧ ∃ l', Que w' T n bs ms v l' ∧ l'.Perm l ∧ Hp (fun k => ms (l'.getD k 0)) l'.length ∧ Stp T w w' := by
  have HQ := hid_mk h
  have HU := hid_mk hu
  clear h hu
  go_enter Yba.func24, Yba.ntmps24
  go_wp2_with fail
  go_loopw [1] (fun jv wr => ∃ (j : Nat) (l' : List Nat), jv = .int .i64 j ∧ j < l.length ∧ l'.length = l.length ∧ Que wr T n bs ms v l' ∧ l'.Perm l ∧ UpI (fun k => ms (l'.getD k 0)) l.length j ∧ Stp T w wr) (fun jv _ => (intOf jv).toNat)
  case atStart => exact ⟨j, l, rfl, hj, rfl, HQ.out, List.Perm.refl _, HU.out, Stp.refl _ _⟩
  case round =>
    obtain ⟨j, l', rfl, hj, hl', hQ, hP, hU, hS⟩ := hrel
    have HR : Hid (l'.length = l.length ∧ Que wr T n bs ms v l' ∧ l'.Perm l ∧ UpI (fun k => ms (l'.getD k 0)) l.length j ∧ Stp T w wr) := ⟨hl', hQ, hP, hU, hS⟩
    clear HQ HU hP hU hS
    by_cases hj0 : j = 0
    · subst hj0
      go_wp2
      go_end0
      obtain ⟨a1, a2, a3, a4, a5⟩ := HR.out
      exact ⟨rfl, l', a2, a3, by rw [a1]; exact a4.done (fun h => by omega), a5⟩
    · obtain ⟨i, hi⟩ : ∃ i, i = (j - 1) / 2 := ⟨_, rfl⟩
      have hq : ((j : Int) - 1).tdiv 2 = (i : Int) := by
        rw [show ((j : Int) - 1) = ((j - 1 : Nat) : Int) from by omega]
        rw [hi]; rfl
      have hne : ((i : Int) == (j : Int)) = false := by rw [beq_eq_false_iff_ne]; omega
      have hij : i < j := by omega
      have hmeth := m_less hQ
      have HI := hid_mk hi
      clear hi
      go_wp2_with fail
      refine (less_any hQ hn (by omega) j i (by omega) (by omega)).mono ?_
      rintro _ w1 ⟨rfl, hb1⟩
      have hQ1 := hQ.later hb1
      have hS1 : Stp T wr w1 := Stp.of_below hb1 (Nat.le_of_lt hQ.tlt)
      have hmeth1 := m_swap hQ1
      by_cases hlt : ms (l'.getD j 0) < ms (l'.getD i 0)
      · have hd : decide (ms (l'.getD j 0) < ms (l'.getD i 0)) = true := decide_eq_true hlt
        have HLT := hid_mk hlt
        rw [hd]
        clear hlt hd
        go_wp2_with fail
        refine (swap_any hQ1 hn (by omega) i j (by omega) (by omega)).mono ?_
        rintro _ w2 ⟨rfl, hQ2, hS2⟩
        go_wp2_with fail
        go_roundw
        case rel =>
          obtain ⟨a1, a2, a3, a4, a5⟩ := HR.out
          refine ⟨i, swp l' i j, rfl, by omega, by rw [swp_length, a1], hQ2, (swp_perm l' i j (by omega) (by omega)).trans a3, ?_, (a5.trans hS1).trans hS2⟩
          have hx := HI.out
          subst hx
          refine a4.step (by omega) (by omega) HLT.out ?_ ?_ ?_
          · show ms ((swp l' _ _).getD _ 0) = _
            rw [swp_at _ _ _ _ (by omega) (by omega), if_neg (by omega), if_pos rfl]
          · show ms ((swp l' _ _).getD _ 0) = _
            rw [swp_at _ _ _ _ (by omega) (by omega), if_pos rfl]
          · intro k k1 k2
            show ms ((swp l' _ _).getD _ 0) = _
            rw [swp_at _ _ _ _ (by omega) (by omega), if_neg k1, if_neg k2]
        case measure => simp [intOf]; omega
      · have hd : decide (ms (l'.getD j 0) < ms (l'.getD i 0)) = false := decide_eq_false hlt
        have HLT := hid_mk hlt
        rw [hd]
        clear hlt hd
        go_wp2
        go_end0
        obtain ⟨a1, a2, a3, a4, a5⟩ := HR.out
        exact ⟨rfl, l', hQ1, a3, by rw [a1]; exact a4.done (fun _ => by rw [← HI.out]; have := HLT.out; omega), a5.trans hS1⟩

set_option maxRecDepth 100000 in
set_option maxHeartbeats 1000000 in
theorem heapPush_any (h : Que w T n bs ms v l) (hll : l.length < 1024) (hn : n ≤ 1024) (hh : Hp (fun k => ms (l.getD k 0)) l.length) (x : Nat) (hx : x < n) :
    Calls Yba.prog 11 #[.iface 63 (.pointer (some ⟨T, 7, none⟩)), .iface 53 (ptr bs x)] w fun r w' => r = .returned (.tuple #[]) ∧ ∃ v' l', Que w' T n bs ms v' l' ∧ l'.Perm (l ++ [x]) ∧ Hp (fun k => ms (l'.getD k 0)) l'.length ∧ Stp T w w' := by
  have hmeth := m_push ⟨T, 7, none⟩ w
  have HQ := hid_mk h
  have HH := hid_mk hh
  clear h hh
  go_enter Yba.func11, Yba.ntmps11
  go_wp2_with fail
  refine (push_any HQ.out hll x hx).mono ?_
  rintro _ w1 ⟨rfl, v1, hQ1, hS1⟩
  have hm1 := m_len hQ1
  obtain ⟨a, cap, rfl⟩ := hQ1.shape
  go_wp2_with fail
  refine (len_any a (l.length + 1) cap w1).mono ?_
  rintro _ _ ⟨rfl, rfl⟩
  have e1 : Hid ((l ++ [x]).length = l.length + 1) := by show _ = _; simp
  have HQ1 := hid_mk hQ1
  clear hQ1
  go_wp2_with fail
  refine (up_any HQ1.out (by rw [e1.out]; omega) hn l.length (by rw [e1.out]; omega) ?_).mono ?_
  · rw [e1.out]
    refine ⟨fun k k0 kn kl => ?_, fun k _ _ kn kp => by omega⟩
    have := HH.out k k0 (by omega)
    show ms ((l ++ [x]).getD _ 0) ≤ ms ((l ++ [x]).getD _ 0)
    rw [getD_app _ _ _ (by omega), getD_app _ _ _ (by omega)]
    exact this
  · rintro _ w2 ⟨rfl, l', hQ2, hP, hH, hS2⟩
    go_wp2
    go_end0
    exact ⟨rfl, _, l', hQ2, hP, hH, hS1.trans hS2⟩

theorem less_at (h : Que w T n bs ms v l) (hn : n ≤ 1024) (hll : l.length ≤ 1024) (i j : Nat) (a b : Int) (ha : a = i) (hb : b = j) (hi : i < l.length) (hj : j < l.length) :
    Calls Yba.prog 58 #[v, .int .i64 a, .int .i64 b] w fun r w' => r = .returned (.bool (decide (ms (l.getD i 0) < ms (l.getD j 0)))) ∧ Below w.heap.size w w' := by
  subst ha hb
  exact less_any h hn hll i j hi hj
theorem swap_at (h : Que w T n bs ms v l) (hn : n ≤ 1024) (hll : l.length ≤ 1024) (i j : Nat) (a b : Int) (ha : a = i) (hb : b = j) (hi : i < l.length) (hj : j < l.length) :
    Calls Yba.prog 61 #[v, .int .i64 a, .int .i64 b] w fun r w' => r = .returned (.tuple #[]) ∧ Que w' T n bs ms v (swp l i j) ∧ Stp T w w' := by
  subst ha hb
  exact swap_any h hn hll i j hi hj

set_option maxRecDepth 100000 in
set_option maxHeartbeats 1000000 in
theorem down_any (m : Nat) (h : Que w T n bs ms v l) (hll : l.length = m + 1) (hm : m < 1024) (hn : n ≤ 1024) (hu : DnI (fun k => ms (l.getD k 0)) m 0) :
    Calls Yba.prog 28 #[.iface 63 (.pointer (some ⟨T, 7, none⟩)), .int .i64 0, .int .i64 m] w fun r w' => (∃ b, r = .returned (.bool b)) ∧ ∃ l', Que w' T n bs ms v l' ∧ l'.Perm l ∧ l'.getD m 0 = l.getD m 0 ∧ Hp (fun k => ms (l'.getD k 0)) m ∧ Stp T w w' := by
  have HQ := hid_mk h
  have HU := hid_mk hu
  clear h hu
  go_enter Yba.func28, Yba.ntmps28
  go_wp2_with fail
  go_loopw [7] (fun iv wr => ∃ (i : Nat) (l' : List Nat), iv = .int .i64 i ∧ i ≤ m ∧ l'.length = l.length ∧ Que wr T n bs ms v l' ∧ l'.Perm l ∧ DnI (fun k => ms (l'.getD k 0)) m i ∧ l'.getD m 0 = l.getD m 0 ∧ Stp T w wr) (fun iv _ => m - (intOf iv).toNat)
  case atStart => exact ⟨0, l, rfl, by omega, rfl, HQ.out, List.Perm.refl _, HU.out, rfl, Stp.refl _ _⟩
  case round =>
    obtain ⟨i, l', rfl, him, hl', hQ, hP, hU, hX, hS⟩ := hrel
    have HR : Hid (l'.length = l.length ∧ Que wr T n bs ms v l' ∧ l'.Perm l ∧ DnI (fun k => ms (l'.getD k 0)) m i ∧ l'.getD m 0 = l.getD m 0 ∧ Stp T w wr) := ⟨hl', hQ, hP, hU, hX, hS⟩
    have QR := hid_mk hQ
    clear HQ HU hP hU hS hX hQ
    by_cases h1 : 2 * i + 1 < m
    · have hge : decide ((m : Int) ≤ 2 * (i : Int) + 1) = false := decide_eq_false (by omega)
      have hl0 : decide (2 * (i : Int) + 1 < 0) = false := decide_eq_false (by omega)
      have hQ := QR.out
      have hS0 : Stp T wr wr := Stp.refl _ _
      by_cases h2 : 2 * i + 2 < m
      · have hge2 : decide (2 * (i : Int) + 1 + 1 < (m : Int)) = true := decide_eq_true (by omega)
        have hmeth := m_less hQ
        go_wp2_with fail
        refine (less_at hQ hn (by omega) (2 * i + 2) (2 * i + 1) _ _ (by omega) (by omega) (by omega) (by omega)).mono ?_
        rintro _ w1 ⟨rfl, hb1⟩
        have hQ1 := hQ.later hb1
        have hS1 : Stp T wr w1 := Stp.of_below hb1 (Nat.le_of_lt hQ.tlt)
        by_cases hlt : ms (l'.getD (2 * i + 2) 0) < ms (l'.getD (2 * i + 1) 0)
        · have hd : decide (ms (l'.getD (2 * i + 2) 0) < ms (l'.getD (2 * i + 1) 0)) = true := decide_eq_true hlt
          have HM : Hid (∀ k, 0 < k → k < m → (k - 1) / 2 = i → ms (l'.getD (2 * i + 2) 0) ≤ ms (l'.getD k 0)) := by
            intro k k0 kn kp
            rcases (by omega : k = 2 * i + 1 ∨ k = 2 * i + 2) with rfl | rfl
            · omega
            · exact Int.le_refl _
          rw [hd]
          clear hlt hd
          have hmX := m_less hQ1
          go_wp2_with fail
          refine (less_at hQ1 hn (by omega) (2 * i + 2) i _ _ (by omega) rfl (by omega) (by omega)).mono ?_
          rintro _ w3 ⟨rfl, hb3⟩
          have hQ3 := hQ1.later hb3
          have hS3 : Stp T wr w3 := hS1.trans (Stp.of_below hb3 (Nat.le_of_lt hQ1.tlt))
          have hmeth3 := m_swap hQ3
          by_cases hlt : ms (l'.getD (2 * i + 2) 0) < ms (l'.getD i 0)
          · have hd : decide (ms (l'.getD (2 * i + 2) 0) < ms (l'.getD i 0)) = true := decide_eq_true hlt
            have HLT := hid_mk hlt
            rw [hd]
            clear hlt hd
            go_wp2_with fail
            refine (swap_at hQ3 hn (by omega) i (2 * i + 2) _ _ rfl (by omega) (by omega) (by omega)).mono ?_
            rintro _ w4 ⟨rfl, hQ4, hS4⟩
            go_wp2_with fail
            go_roundw
            case rel =>
              obtain ⟨a1, a2, a3, a4, a5, a6⟩ := HR.out
              refine ⟨2 * i + 2, swp l' i (2 * i + 2), by go_num, by omega, by rw [swp_length, a1], hQ4, (swp_perm l' i (2 * i + 2) (by omega) (by omega)).trans a3, ?_, by rw [swp_at _ _ _ _ (by omega) (by omega), if_neg (by omega), if_neg (by omega)]; exact a5, (a6.trans hS3).trans hS4⟩
              refine a4.step (by omega) (by omega) (by omega) HM.out HLT.out ?_ ?_ ?_
              · show ms ((swp l' _ _).getD _ 0) = _
                rw [swp_at _ _ _ _ (by omega) (by omega), if_neg (by omega), if_pos rfl]
              · show ms ((swp l' _ _).getD _ 0) = _
                rw [swp_at _ _ _ _ (by omega) (by omega), if_pos rfl]
              · intro k k1 k2
                show ms ((swp l' _ _).getD _ 0) = _
                rw [swp_at _ _ _ _ (by omega) (by omega), if_neg k1, if_neg k2]
            case measure => simp [intOf]; omega
          · have hd : decide (ms (l'.getD (2 * i + 2) 0) < ms (l'.getD i 0)) = false := decide_eq_false hlt
            have HLT := hid_mk hlt
            rw [hd]
            clear hlt hd
            go_wp2
            go_ret
            obtain ⟨a1, a2, a3, a4, a5, a6⟩ := HR.out
            exact ⟨⟨_, rfl⟩, l', hQ3, a3, a5, a4.done (fun k k0 kn kp => by have := HM.out k k0 kn kp; have h9 := HLT.out; show ms _ ≤ ms _; have h8 : ms (l'.getD (2 * i + 2) 0) ≤ ms (l'.getD k 0) := this; omega), a6.trans hS3⟩
        · have hd : decide (ms (l'.getD (2 * i + 2) 0) < ms (l'.getD (2 * i + 1) 0)) = false := decide_eq_false hlt
          have HM : Hid (∀ k, 0 < k → k < m → (k - 1) / 2 = i → ms (l'.getD (2 * i + 1) 0) ≤ ms (l'.getD k 0)) := by
            intro k k0 kn kp
            rcases (by omega : k = 2 * i + 1 ∨ k = 2 * i + 2) with rfl | rfl
            · exact Int.le_refl _
            · omega
          rw [hd]
          clear hlt hd
          have hmX := m_less hQ1
          go_wp2_with fail
          refine (less_at hQ1 hn (by omega) (2 * i + 1) i _ _ (by omega) rfl (by omega) (by omega)).mono ?_
          rintro _ w3 ⟨rfl, hb3⟩
          have hQ3 := hQ1.later hb3
          have hS3 : Stp T wr w3 := hS1.trans (Stp.of_below hb3 (Nat.le_of_lt hQ1.tlt))
          have hmeth3 := m_swap hQ3
          by_cases hlt : ms (l'.getD (2 * i + 1) 0) < ms (l'.getD i 0)
          · have hd : decide (ms (l'.getD (2 * i + 1) 0) < ms (l'.getD i 0)) = true := decide_eq_true hlt
            have HLT := hid_mk hlt
            rw [hd]
            clear hlt hd
            go_wp2_with fail
            refine (swap_at hQ3 hn (by omega) i (2 * i + 1) _ _ rfl (by omega) (by omega) (by omega)).mono ?_
            rintro _ w4 ⟨rfl, hQ4, hS4⟩
            go_wp2_with fail
            go_roundw
            case rel =>
              obtain ⟨a1, a2, a3, a4, a5, a6⟩ := HR.out
              refine ⟨2 * i + 1, swp l' i (2 * i + 1), by go_num, by omega, by rw [swp_length, a1], hQ4, (swp_perm l' i (2 * i + 1) (by omega) (by omega)).trans a3, ?_, by rw [swp_at _ _ _ _ (by omega) (by omega), if_neg (by omega), if_neg (by omega)]; exact a5, (a6.trans hS3).trans hS4⟩
              refine a4.step (by omega) (by omega) (by omega) HM.out HLT.out ?_ ?_ ?_
              · show ms ((swp l' _ _).getD _ 0) = _
                rw [swp_at _ _ _ _ (by omega) (by omega), if_neg (by omega), if_pos rfl]
              · show ms ((swp l' _ _).getD _ 0) = _
                rw [swp_at _ _ _ _ (by omega) (by omega), if_pos rfl]
              · intro k k1 k2
                show ms ((swp l' _ _).getD _ 0) = _
                rw [swp_at _ _ _ _ (by omega) (by omega), if_neg k1, if_neg k2]
            case measure => simp [intOf]; omega
          · have hd : decide (ms (l'.getD (2 * i + 1) 0) < ms (l'.getD i 0)) = false := decide_eq_false hlt
            have HLT := hid_mk hlt
            rw [hd]
            clear hlt hd
            go_wp2
            go_ret
            obtain ⟨a1, a2, a3, a4, a5, a6⟩ := HR.out
            exact ⟨⟨_, rfl⟩, l', hQ3, a3, a5, a4.done (fun k k0 kn kp => by have := HM.out k k0 kn kp; have h9 := HLT.out; show ms _ ≤ ms _; have h8 : ms (l'.getD (2 * i + 1) 0) ≤ ms (l'.getD k 0) := this; omega), a6.trans hS3⟩
      · have hge2 : decide (2 * (i : Int) + 1 + 1 < (m : Int)) = false := decide_eq_false (by omega)
        have HM : Hid (∀ k, 0 < k → k < m → (k - 1) / 2 = i → ms (l'.getD (2 * i + 1) 0) ≤ ms (l'.getD k 0)) := by
          intro k k0 kn kp
          obtain rfl : k = 2 * i + 1 := by omega
          exact Int.le_refl _
        have hmX := m_less hQ
        go_wp2_with fail
        refine (less_at hQ hn (by omega) (2 * i + 1) i _ _ (by omega) rfl (by omega) (by omega)).mono ?_
        rintro _ w3 ⟨rfl, hb3⟩
        have hQ3 := hQ.later hb3
        have hS3 : Stp T wr w3 := hS0.trans (Stp.of_below hb3 (Nat.le_of_lt hQ.tlt))
        have hmeth3 := m_swap hQ3
        by_cases hlt : ms (l'.getD (2 * i + 1) 0) < ms (l'.getD i 0)
        · have hd : decide (ms (l'.getD (2 * i + 1) 0) < ms (l'.getD i 0)) = true := decide_eq_true hlt
          have HLT := hid_mk hlt
          rw [hd]
          clear hlt hd
          go_wp2_with fail
          refine (swap_at hQ3 hn (by omega) i (2 * i + 1) _ _ rfl (by omega) (by omega) (by omega)).mono ?_
          rintro _ w4 ⟨rfl, hQ4, hS4⟩
          go_wp2_with fail
          go_roundw
          case rel =>
            obtain ⟨a1, a2, a3, a4, a5, a6⟩ := HR.out
            refine ⟨2 * i + 1, swp l' i (2 * i + 1), by go_num, by omega, by rw [swp_length, a1], hQ4, (swp_perm l' i (2 * i + 1) (by omega) (by omega)).trans a3, ?_, by rw [swp_at _ _ _ _ (by omega) (by omega), if_neg (by omega), if_neg (by omega)]; exact a5, (a6.trans hS3).trans hS4⟩
            refine a4.step (by omega) (by omega) (by omega) HM.out HLT.out ?_ ?_ ?_
            · show ms ((swp l' _ _).getD _ 0) = _
              rw [swp_at _ _ _ _ (by omega) (by omega), if_neg (by omega), if_pos rfl]
            · show ms ((swp l' _ _).getD _ 0) = _
              rw [swp_at _ _ _ _ (by omega) (by omega), if_pos rfl]
            · intro k k1 k2
              show ms ((swp l' _ _).getD _ 0) = _
              rw [swp_at _ _ _ _ (by omega) (by omega), if_neg k1, if_neg k2]
          case measure => simp [intOf]; omega
        · have hd : decide (ms (l'.getD (2 * i + 1) 0) < ms (l'.getD i 0)) = false := decide_eq_false hlt
          have HLT := hid_mk hlt
          rw [hd]
          clear hlt hd
          go_wp2
          go_ret
          obtain ⟨a1, a2, a3, a4, a5, a6⟩ := HR.out
          exact ⟨⟨_, rfl⟩, l', hQ3, a3, a5, a4.done (fun k k0 kn kp => by have := HM.out k k0 kn kp; have h9 := HLT.out; show ms _ ≤ ms _; have h8 : ms (l'.getD (2 * i + 1) 0) ≤ ms (l'.getD k 0) := this; omega), a6.trans hS3⟩
    · have hge : decide ((m : Int) ≤ 2 * (i : Int) + 1) = true := decide_eq_true (by omega)
      go_wp2
      go_ret
      obtain ⟨a1, a2, a3, a4, a5, a6⟩ := HR.out
      exact ⟨⟨_, rfl⟩, l', a2, a3, a5, a4.done (fun k k0 kn kp => by omega), a6⟩

set_option maxRecDepth 100000 in
set_option maxHeartbeats 1000000 in
theorem heapPop_any (m : Nat) (h : Que w T n bs ms v l) (hll : l.length = m + 1) (hm : m < 1024) (hn : n ≤ 1024) (hh : Hp (fun k => ms (l.getD k 0)) l.length) :
    Calls Yba.prog 25 #[.iface 63 (.pointer (some ⟨T, 7, none⟩))] w fun r w' => r = .returned (.iface 53 (ptr bs (l.getD 0 0))) ∧ ∃ v' l', Que w' T n bs ms v' l' ∧ (l.getD 0 0 :: l').Perm l ∧ Hp (fun k => ms (l'.getD k 0)) l'.length ∧ Stp T w w' := by
  have hmeth := m_len h
  have HQ := hid_mk h
  have HH := hid_mk hh
  obtain ⟨a, cap, rfl⟩ := h.shape
  have HL := hid_mk hll
  rw [hll] at hmeth
  have hms := m_swap h
  rw [hll] at hms
  clear h hh hll
  go_enter Yba.func25, Yba.ntmps25
  go_wp2_with fail
  refine (len_any a (m + 1) cap w).mono ?_
  rintro _ w ⟨rfl, rfl⟩
  go_wp2_with fail
  have hq : Que w T n bs ms (.slice a (m + 1) cap) l := by have := HQ.out; rw [HL.out] at this; exact this
  refine (swap_at hq hn (by rw [HL.out]; omega) 0 m _ _ rfl (by omega) (by rw [HL.out]; omega) (by rw [HL.out]; omega)).mono ?_
  rintro _ w1 ⟨rfl, hQ1, hS1⟩
  have e1 : Hid ((swp l 0 m).length = m + 1) := by show _ = _; rw [swp_length, HL.out]
  have HQ1 := hid_mk hQ1
  clear hQ1 hq
  go_wp2_with fail
  refine (down_any m HQ1.out e1.out hm hn ?_).mono ?_
  · have hL := HL.out
    refine ⟨fun k k0 kn kp => ?_, fun k i0 _ _ _ => by omega⟩
    have := HH.out k k0 (by omega)
    show ms ((swp l 0 m).getD _ 0) ≤ ms ((swp l 0 m).getD _ 0)
    rw [swp_at _ _ _ _ (by omega) (by omega), swp_at _ _ _ _ (by omega) (by omega), if_neg (by omega), if_neg kp, if_neg (by omega), if_neg (by omega)]
    exact this
  · rintro _ w2 ⟨⟨b, rfl⟩, l2, hQ2, hP2, hX2, hH2, hS2⟩
    have hmp := m_pop ⟨T, 7, none⟩ w2
    have e2 : Hid (l2.length = m + 1) := by show _ = _; rw [hP2.length_eq, e1.out]
    have HP := hid_mk (And.intro hP2 (And.intro hX2 hH2))
    have HQ2 := hid_mk hQ2
    clear hQ2 hP2 hX2 hH2
    go_wp2_with fail
    refine (pop_any HQ2.out (by rw [e2.out]; omega) (by rw [e2.out]; omega)).mono ?_
    rintro _ w3 ⟨rfl, v3, hQ3, hS3⟩
    have HQ3 := hid_mk hQ3
    clear hQ3
    go_wp2_with fail
    go_ret
    obtain ⟨hP2, hX2, hH2⟩ := HP.out
    have hL := HL.out
    have e0 : l2.getD m 0 = l.getD 0 0 := by
      rw [hX2, swp_at _ _ _ _ (by omega) (by omega), if_pos rfl]
    have e2' := e2.out
    have e3 : l2.length - 1 = m := by omega
    refine ⟨?_, v3, l2.take m, ?_, ?_, ?_, (hS1.trans hS2).trans hS3⟩
    · show Ending.returned (Value.iface 53 (ptr bs (l2.getD (l2.length - 1) 0))) = _
      rw [e3, e0]
    · have := HQ3.out
      rw [e3] at this
      exact this
    · rw [← e0]
      have e4 : l2 = l2.take m ++ [l2.getD m 0] := by
        have hlt : m < l2.length := by omega
        rw [show l2.getD m 0 = l2[m] from by simp [hlt]]
        rw [List.take_append_getElem hlt]
        rw [List.take_of_length_le (by omega)]
      have p1 : (l2.getD m 0 :: l2.take m).Perm (l2.take m ++ [l2.getD m 0]) := (List.perm_append_singleton _ _).symm
      rw [← e4] at p1
      exact (p1.trans hP2).trans (swp_perm l 0 m (by omega) (by omega))
    · have e5 : (l2.take m).length = m := by simp; omega
      rw [e5]
      intro k k0 kn
      have := hH2 k k0 kn
      have g1 : ∀ j, j < m → (l2.take m).getD j 0 = l2.getD j 0 := fun j hj => by simp [List.getD_eq_getElem?_getD, hj]
      show ms ((l2.take m).getD _ 0) ≤ ms ((l2.take m).getD _ 0)
      rw [g1 _ (by omega), g1 _ kn]
      exact this
end
end Go.Proofs.Ybulkhfi.C
