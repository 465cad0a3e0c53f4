namespace Go.Proofs.Ybulkhfi.A

/-! THE PLAIN LAW: no Go in sight. g groups, group i is held by member 'mem i'; a vector a says how many lie in each group. -/

/-- 'zzs0398ale'. -/
def leB (alone : Bool) (g : Nat) (mem : Nat → Nat) (a b : Nat → Int) : Bool :=
  if alone then (List.range g).all (fun i => decide (a i ≤ b i))
  else (List.range g).all (fun i => !(decide (0 < a i)) || (List.range g).any (fun i' => decide (0 < b i') && mem i' == mem i))

/-- What a found set holds, up to group k: a list of (group, how many). -/
structure HoldsOk (alone : Bool) (k : Nat) (mem : Nat → Nat) (a : Nat → Int) (hs : List (Nat × Int)) : Prop where
  sound : ∀ p ∈ hs, p.1 < k ∧ p.2 = a p.1 ∧ 0 < a p.1
  full : alone = true → ∀ i, i < k → 0 < a i → (i, a i) ∈ hs
  covers : ∀ i, i < k → 0 < a i → ∃ p ∈ hs, mem p.1 = mem i

/-- Does the held entry p pass against b (its vector) and its own entries? -/
def passB (alone : Bool) (mem : Nat → Nat) (b : Nat → Int) (hb : List (Nat × Int)) (p : Nat × Int) : Bool :=
  if alone then decide (p.2 ≤ b p.1) else hb.any (fun q => mem q.1 == mem p.1)

theorem pass_all {alone : Bool} {g : Nat} {mem : Nat → Nat} {a b : Nat → Int} {ha hb : List (Nat × Int)} (ka : HoldsOk alone g mem a ha) (kb : HoldsOk alone g mem b hb) (nb : ∀ i, i < g → 0 ≤ b i) :
    ha.all (passB alone mem b hb) = leB alone g mem a b := by
  rw [Bool.eq_iff_iff]
  cases alone with
  | true =>
    simp only [leB, passB, if_true, List.all_eq_true, decide_eq_true_eq, List.mem_range]
    constructor
    · intro h i hi
      rcases Int.lt_or_le 0 (a i) with h0 | h0
      · exact h _ (ka.full rfl i hi h0)
      · have := nb i hi; omega
    · intro h p hp
      obtain ⟨h1, h2, _⟩ := ka.sound p hp
      rw [h2]
      exact h _ h1
  | false =>
    simp only [leB, passB, Bool.false_eq_true, if_false, List.all_eq_true, List.any_eq_true, beq_iff_eq, List.mem_range, Bool.or_eq_true, Bool.not_eq_true', decide_eq_false_iff_not, Bool.and_eq_true, decide_eq_true_eq]
    constructor
    · intro h i hi
      rcases Int.lt_or_le 0 (a i) with h0 | h0
      · right
        obtain ⟨p, hp, hpm⟩ := ka.covers i hi h0
        obtain ⟨q, hq, hqm⟩ := h p hp
        obtain ⟨h1, _, h3⟩ := kb.sound q hq
        exact ⟨q.1, h1, h3, hqm.trans hpm⟩
      · left; omega
    · intro h p hp
      obtain ⟨h1, _, h3⟩ := ka.sound p hp
      rcases h p.1 h1 with h4 | ⟨i', h5, h6, h7⟩
      · omega
      · obtain ⟨q, hq, hqm⟩ := kb.covers i' h5 h6
        exact ⟨q, hq, hqm.trans h7⟩

theorem HoldsOk.nil (alone : Bool) (mem : Nat → Nat) (a : Nat → Int) : HoldsOk alone 0 mem a [] := ⟨by simp, fun _ i h => by omega, fun i h => by omega⟩

/-- A group in which none lies. -/
theorem HoldsOk.skip {alone : Bool} {k : Nat} {mem : Nat → Nat} {a : Nat → Int} {hs : List (Nat × Int)} (h : HoldsOk alone k mem a hs) (h0 : ¬ 0 < a k) : HoldsOk alone (k + 1) mem a hs := by
  refine ⟨fun p hp => ?_, fun ha i hi hp => ?_, fun i hi hp => ?_⟩
  · obtain ⟨x, y⟩ := h.sound p hp
    exact ⟨by omega, y⟩
  · rcases Nat.lt_or_ge i k with h1 | h1
    · exact h.full ha i h1 hp
    · obtain rfl : i = k := by omega
      exact absurd hp h0
  · rcases Nat.lt_or_ge i k with h1 | h1
    · exact h.covers i h1 hp
    · obtain rfl : i = k := by omega
      exact absurd hp h0

/-- A group whose entry is put in. -/
theorem HoldsOk.put {alone : Bool} {k : Nat} {mem : Nat → Nat} {a : Nat → Int} {hs : List (Nat × Int)} (h : HoldsOk alone k mem a hs) (h0 : 0 < a k) : HoldsOk alone (k + 1) mem a (hs ++ [(k, a k)]) := by
  refine ⟨fun p hp => ?_, fun ha i hi hp => ?_, fun i hi hp => ?_⟩
  · rcases List.mem_append.1 hp with h1 | h1
    · obtain ⟨x, y⟩ := h.sound p h1
      exact ⟨by omega, y⟩
    · simp at h1
      subst h1
      exact ⟨by omega, rfl, h0⟩
  · rcases Nat.lt_or_ge i k with h1 | h1
    · exact List.mem_append.2 (.inl (h.full ha i h1 hp))
    · obtain rfl : i = k := by omega
      simp
  · rcases Nat.lt_or_ge i k with h1 | h1
    · obtain ⟨p, hp, hm⟩ := h.covers i h1 hp
      exact ⟨p, List.mem_append.2 (.inl hp), hm⟩
    · obtain rfl : i = k := by omega
      exact ⟨(i, a i), by simp, rfl⟩

/-- A group whose member was seen already (not alone). -/
theorem HoldsOk.seen {k : Nat} {mem : Nat → Nat} {a : Nat → Int} {hs : List (Nat × Int)} (h : HoldsOk false k mem a hs) (h0 : ∃ i, i < k ∧ 0 < a i ∧ mem i = mem k) : HoldsOk false (k + 1) mem a hs := by
  refine ⟨fun p hp => ?_, (fun ha => by cases ha), fun i hi hp => ?_⟩
  · obtain ⟨x, y⟩ := h.sound p hp
    exact ⟨by omega, y⟩
  · rcases Nat.lt_or_ge i k with h1 | h1
    · exact h.covers i h1 hp
    · obtain rfl : i = k := by omega
      obtain ⟨i', h2, h3, h4⟩ := h0
      obtain ⟨p, hp', hm⟩ := h.covers i' h2 h3
      exact ⟨p, hp', hm.trans h4⟩

/-- Is set j kept? 'dropB le j k': set k strikes set j out. -/
def dropB (le : Nat → Nat → Bool) (j k : Nat) : Bool := !(k == j) && (le k j && (!(le j k) || decide (k < j)))
def keepB (n : Nat) (le : Nat → Nat → Bool) (j : Nat) : Bool := (List.range n).all (fun k => !(dropB le j k))
/-- The sets that are kept among the first m. -/
def kept (n : Nat) (le : Nat → Nat → Bool) (m : Nat) : List Nat := (List.range m).filter (keepB n le)

theorem kept_succ_yes (n : Nat) (le : Nat → Nat → Bool) (m : Nat) (h : keepB n le m = true) : kept n le (m + 1) = kept n le m ++ [m] := by
  simp [kept, List.range_succ, List.filter_append, h]
theorem kept_succ_no (n : Nat) (le : Nat → Nat → Bool) (m : Nat) (h : keepB n le m = false) : kept n le (m + 1) = kept n le m := by
  simp [kept, List.range_succ, List.filter_append, h]
theorem kept_length (n : Nat) (le : Nat → Nat → Bool) (m : Nat) : (kept n le m).length ≤ m := by
  have := List.length_filter_le (keepB n le) (List.range m)
  simpa [kept] using this
theorem kept_lt (n : Nat) (le : Nat → Nat → Bool) (m : Nat) : ∀ x ∈ kept n le m, x < m := by
  intro x hx
  simp [kept] at hx
  exact hx.1
theorem keepB_true {n : Nat} {le : Nat → Nat → Bool} {j : Nat} (h : ∀ k, k < n → dropB le j k = false) : keepB n le j = true := by
  simp only [keepB, List.all_eq_true, List.mem_range]
  intro k hk
  rw [h k hk]; rfl
theorem keepB_false {n : Nat} {le : Nat → Nat → Bool} {j k : Nat} (hk : k < n) (h : dropB le j k = true) : keepB n le j = false := by
  cases hx : keepB n le j with
  | false => rfl
  | true =>
    simp only [keepB, List.all_eq_true, List.mem_range] at hx
    have := hx k hk
    rw [h] at this
    cases this
end Go.Proofs.Ybulkhfi.A
