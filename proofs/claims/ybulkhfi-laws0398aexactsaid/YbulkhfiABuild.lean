import Derived.Test.YbulkhfiARow
namespace Go.Proofs.Ybulkhfi.A
open Go.RowKit
set_option linter.unusedVariables false

theorem info82 : (Yba.prog.info? 82).map (fun i => (i.zero, i.size, i.bytes)) = some (some (.agg #[.slice none 0 0, .int .i64 0, .pointer none, .int .i64 0, .bool false, .slice none 0 0, .slice none 0 0]), 7, 104) := by kernel_rfl
theorem info30 : (Yba.prog.info? 30).map (fun i => (i.zero, i.size, i.bytes)) = some (some (.slice none 0 0), 1, 24) := by kernel_rfl
theorem info85 : (Yba.prog.info? 85).map (fun i => (i.zero, i.size, i.bytes)) = some (some (.agg #[.int .i64 0, .int .i64 0]), 2, 16) := by kernel_rfl

/-- A slice of bytes that came in. -/
def Bytes (w : World) (ao : Option Addr) (n : Nat) (z : Nat → Int) : Prop :=
  (n = 0 ∨ ∃ b o, ao = some ⟨b, o, none⟩ ∧ b < w.heap.size ∧ ∀ i, i < n → w.cell? ⟨b, o + i, none⟩ = some (.int .u8 (z i))) ∧ ∀ i, 0 ≤ z i ∧ z i ≤ 255
/-- A slice of slices of bytes that came in. -/
def Lies (w : World) (ao : Option Addr) (n : Nat) (ra : Nat → Option Addr) (rl rc : Nat → Nat) (z : Nat → Nat → Int) : Prop :=
  (n = 0 ∨ ∃ b o, ao = some ⟨b, o, none⟩ ∧ b < w.heap.size ∧ ∀ j, j < n → w.cell? ⟨b, o + j, none⟩ = some (.slice (ra j) (rl j) (rc j))) ∧ ∀ j, j < n → Bytes w (ra j) (rl j) (z j) ∧ rl j ≤ 9223372036854775807

def memOf (zg : Nat → Int) (i : Nat) : Nat := (zg i % 4).toNat
def lieOf (rl : Nat → Nat) (z : Nat → Nat → Int) (j i : Nat) : Int := if i < rl j then z j i % 4 else 0

theorem memOf_lt {zg : Nat → Int} (h : ∀ i, 0 ≤ zg i ∧ zg i ≤ 255) (i : Nat) : memOf zg i < 4 ∧ ((memOf zg i : Nat) : Int) = zg i % 4 := by
  have := h i
  unfold memOf
  omega
theorem lieOf_small (rl : Nat → Nat) {z : Nat → Nat → Int} (j i : Nat) : 0 ≤ lieOf rl z j i ∧ lieOf rl z j i ≤ 3 := by
  unfold lieOf
  split <;> omega

theorem news2 (w : World) (a b : Value) : ∀ j u, [a, b][j]? = some u → (w.alloc (.cells #[a, b] 85)).cell? ((⟨w.heap.size, 0, none⟩ : Addr).add j) = some u := by
  intro j u hj
  match j, hj with
  | 0, hj => simp at hj; subst hj; simp [Addr.add]
  | 1, hj => simp at hj; subst hj; simp [Addr.add]

theorem news3' (w : World) (a b c : Value) (q : Nat) (hq : q = w.heap.size) : ∀ j u, [a, b, c][j]? = some u → (w.alloc (.cells #[a, b, c] 44)).cell? ((⟨q, 0, none⟩ : Addr).add j) = some u := by
  subst hq
  exact news3 w a b c

theorem own_ne (b f j n : Nat) (h : b ≠ f) : (Value.slice (some ⟨b, 0, none⟩) j n).ownBlock ≠ some f := by
  simp [Value.ownBlock, h]
theorem news1 (w : World) (a : Value) : ∀ j u, [a][j]? = some u → (w.alloc (.cells #[a] 30)).cell? ((⟨w.heap.size, 0, none⟩ : Addr).add j) = some u := by
  intro j u hj
  match j, hj with
  | 0, hj => simp at hj; subst hj; simp [Addr.add]
theorem one1 (a1 : Option Addr) (b1 c1 : Nat) : ∀ u ∈ [Value.slice a1 b1 c1], u.oneCell' = true := by
  intro u hu
  simp at hu
  subst hu
  rfl

theorem getD_left {α : Type} {d : α} (l : List α) (x : α) {t : Nat} (h : t < l.length) : (l ++ [x]).getD t d = l.getD t d := by
  simp [List.getD_eq_getElem?_getD, List.getElem?_append_left h]
theorem getD_last {α : Type} {d : α} (l : List α) (x : α) {t : Nat} (h : l.length = t) : (l ++ [x]).getD t d = x := by
  subst h
  simp [List.getD_eq_getElem?_getD]

theorem hid_mk {p : Prop} (h : p) : Hid p := h

theorem built_of (alone : Bool) (g n : Nat) (zg : Nat → Int) (rl : Nat → Nat) (z : Nat → Nat → Int) (rs : List Row) (base bg bf bv : Nat) (wr : World) (hg : g ≤ 256) (hn : n ≤ 256) (hz : ∀ i, 0 ≤ zg i ∧ zg i ≤ 255) (h1 : bg < bf) (h2 : bf < bv) (h3 : bv < wr.heap.size)
    (hrow : wr.ownsRow base 44 3 (.slice (some ⟨bf, 0, none⟩) n n) n (rowCells g rs)) (hvec : wr.ownsRow base 30 1 (.slice (some ⟨bv, 0, none⟩) n n) n (vecCells g rs))
    (hok : ∀ t, t < n → RowOk wr alone g bv t (memOf zg) (lieOf rl z t) (rs.getD t row0)) (hN : Nums wr bg 7 1 g (fun i => (memOf zg i : Int))) (hl : rs.length = n) :
    Built ((wr.alloc (.cells #[.pointer none, .slice none 0 0, .slice none 0 0, .slice none 0 0, .slice none 0 0, .bool alone] 89)).alloc (.cells #[.pointer (some ⟨wr.heap.size, 0, none⟩), .pointer none, .slice (some ⟨bg, 0, none⟩) g g, .slice none 0 0, .int .i64 0, .int .i64 0, .bool false, .slice (some ⟨bf, 0, none⟩) n n, .map none, .slice none 0 0, .slice none 0 0, .slice none 0 0, .slice none 0 0, .slice none 0 0] 39))
      alone g n (memOf zg) (lieOf rl z) (fun t => (rs.getD t row0).hs) wr.heap.size (wr.heap.size + 1) bg bf bv (fun t => (rs.getD t row0).lb) (fun t => (rs.getD t row0).ub) (fun t => (rs.getD t row0).ha) (fun t => (rs.getD t row0).hc) := by
  have hbl : ∀ o1 o2, Below wr.heap.size wr ((wr.alloc o1).alloc o2) := fun o1 o2 => ((Below.refl _ _).alloc (Nat.le_refl _) _).alloc (by simp) _
  constructor
  · simp; omega
  · simp
  · simp; omega
  · simp; omega
  · simp; omega
  · intro j hj; exact Nat.lt_of_lt_of_le (hok j hj).llb (hbl _ _).size
  · intro j hj; exact Nat.lt_of_lt_of_le (hok j hj).lub (hbl _ _).size
  · simp
  · simp
  · simp
  · simp
  · intro i hi; exact ((hbl _ _).cell (by show bg < _; omega)).trans (hN i hi).1
  · intro j hj
    obtain ⟨e0, e1, e2⟩ := rowCells_at g rs j (by omega)
    exact ⟨((hbl _ _).cell (by show bf < _; omega)).trans ((hrow.cellAt _ (by omega)).trans e0), ((hbl _ _).cell (by show bf < _; omega)).trans ((hrow.cellAt _ (by omega)).trans e1), ((hbl _ _).cell (by show bf < _; omega)).trans ((hrow.cellAt _ (by omega)).trans e2)⟩
  · intro j hj
    exact ((hbl _ _).cell (by exact h3)).trans ((hvec.cellAt _ (by omega)).trans (vecCells_at g rs j (by omega)))
  · intro j hj i hi
    exact ((hbl _ _).cell (by exact (hok j hj).llb)).trans ((hok j hj).lie i hi)
  · intro j hj
    exact ((hbl _ _).cell (by exact (hok j hj).lub)).trans (hok j hj).liar
  · intro j hj
    have h : Held wr (rs.getD j row0).ha (rs.getD j row0).hs := by
      rcases (hok j hj).hld with h | ⟨b, q1, _, q3, q4⟩
      · exact .inl h
      · exact .inr ⟨b, q1, q3, q4⟩
    exact h.later (hbl _ _)
  · intro j hj; exact (hok j hj).ok
  · intro j hj i hi; exact lieOf_small rl j i
  · intro i hi; exact (memOf_lt hz i).1
  · intro j hj; exact (hok j hj).few
  · exact hg
  · exact hn

set_option maxRecDepth 100000 in
set_option maxHeartbeats 2000000 in
theorem build_any (alone : Bool) (a1 a2 : Option Addr) (g n cap1 cap2 : Nat) (zg : Nat → Int) (ra : Nat → Option Addr) (rl rc : Nat → Nat) (z : Nat → Nat → Int) (w : World) (hg : g ≤ 256) (hn : n ≤ 256) (h1 : Bytes w a1 g zg) (h2 : Lies w a2 n ra rl rc z) :
    Calls Yba.prog 6 #[.bool alone, .slice a1 g cap1, .slice a2 n cap2] w fun e w' => ∃ (mem : Nat → Nat) (l : Nat → Nat → Int) (hs : Nat → List (Nat × Int)) (bm bs bg bf bv : Nat) (lb ub : Nat → Nat) (ha : Nat → Option Addr) (hc : Nat → Nat),
      e = .returned (.tuple #[.pointer (some ⟨bs, 0, none⟩), .slice (some ⟨bv, 0, none⟩) n n]) ∧ Built w' alone g n mem l hs bm bs bg bf bv lb ub ha hc ∧ Below w.heap.size w w' := by
  obtain ⟨j0, hj, jz0, jz1, jz2⟩ := info_parts info82
  obtain ⟨f0, hf, fz0, fz1, fz2⟩ := info_parts info44
  obtain ⟨v0, hv, vz0, vz1, vz2⟩ := info_parts info30
  have H1 : Hid (Bytes w a1 g zg) := h1
  have H2 : Hid (Lies w a2 n ra rl rc z) := h2
  clear h1 h2
  go_enter Yba.func6, Yba.ntmps6
  go_wp2_with (at_make; refine wpList_make_full _ rfl _ _ 34 rfl w.heap.size 82 j0 (.agg #[.slice none 0 0, .int .i64 0, .pointer none, .int .i64 0, .bool false, .slice none 0 0, .slice none 0 0]) 7 Yba.underlying34 hj jz0 jz1 _ _ _ _ g rfl rfl rfl rfl (by rw [jz2]; omega) (by unfold maxLen; omega) (Nat.le_refl _) ?_; intro w1 hown1 hgrow1)
  have hN0 := nums_made w1 _ _ g 7 1 82 #[.slice none 0 0, .int .i64 0, .pointer none, .int .i64 0, .bool false, .slice none 0 0, .slice none 0 0] hown1 rfl (by omega) rfl
  have hb0 := (Below.refl w.heap.size w).grown hgrow1 (Nat.le_refl _) (fun k hk => by cases hk)
  have hlt0 : w.heap.size < w1.heap.size := (hown1.lt _ rfl).2
  clear hown1 hgrow1
  go_loopw [10] (fun i wr => ∃ k : Nat, k ≤ g ∧ i = .int .i64 k ∧ Nums wr w.heap.size 7 1 g (fun i => if i < k then (memOf zg i : Int) else 0) ∧ Below w.heap.size w wr ∧ w.heap.size < wr.heap.size) (fun i _ => g - (intOf i).toNat)
  case atStart => exact ⟨0, Nat.zero_le _, rfl, hN0.congr (fun i hi => by simp), hb0, hlt0⟩
  case round =>
    clear hN0 hb0 hlt0
    obtain ⟨k, hk, rfl, hN, hb, hlt⟩ := hrel
    by_cases hkg : k < g
    · obtain ⟨b1, o1, rfl, lb1, hc1⟩ : ∃ b o, a1 = some ⟨b, o, none⟩ ∧ b < w.heap.size ∧ ∀ i, i < g → w.cell? ⟨b, o + i, none⟩ = some (.int .u8 (zg i)) := by
        rcases H1.out.1 with h | h
        · omega
        · exact h
      have d0 : wr.cell? ⟨b1, o1 + k, none⟩ = some (.int .u8 (zg k)) := (hb.cell (by exact lb1)).trans (hc1 k hkg)
      obtain ⟨d1, d2⟩ := hN k hkg
      obtain ⟨z0, z1⟩ := H1.out.2 k
      have i1 : (k : Int) < (g : Int) := by omega
      clear hc1
      go_wp2
      go_roundw
      case rel =>
        refine ⟨k + 1, by omega, by go_num, ?_, hb.setCell (by simp) _, by simpa [World.setCell] using hlt⟩
        refine (hN.set (by omega) hkg _).congr (fun i hi => ?_)
        have e := (memOf_lt H1.out.2 k).2
        by_cases hik : i = k
        · subst hik
          simp [e]
        · rcases Nat.lt_or_ge i k with h | h
          · simp [hik, h, Nat.lt_succ_of_lt h]
          · simp [hik, show ¬ i < k from by omega, show ¬ i < k + 1 from by omega]
      case measure => simp [intOf]; omega
    · obtain rfl : g = k := by omega
      have hNg : Nums wr w.heap.size 7 1 g (fun i => (memOf zg i : Int)) := hN.congr (fun i hi => by simp [hi])
      clear hN hk hkg
      obtain ⟨wa, rfl⟩ : ∃ wa : World, wa = wr := ⟨_, rfl⟩
      go_wp2_with (first | (at_make; refine wpList_make_own _ rfl (.const (.int .i64 0)) (.tmp 42) 28 rfl w.heap.size 44 f0 (.agg #[.slice none 0 0, .slice none 0 0, .slice none 0 0]) 3 Yba.underlying28 hf fz0 fz1 _ _ _ n rfl rfl rfl (by rw [fz2]; omega) (by unfold maxLen; omega) (by omega) ?_; intro w2 hown2 hgrow2) | (at_make; refine wpList_make_own _ rfl (.const (.int .i64 0)) (.tmp 45) 25 rfl w.heap.size 30 v0 (.slice none 0 0) 1 Yba.underlying25 hv vz0 vz1 _ _ _ n rfl rfl rfl (by rw [vz2]; omega) (by unfold maxLen; omega) (by have := hgrow2.size; omega) ?_; intro w3 hown3 hgrow3))
      have hbf : wa.heap.size < w2.heap.size := (hown2.lt _ rfl).2
      have hbv : w2.heap.size < w3.heap.size := (hown3.lt _ rfl).2
      have hown2' := hown2.kept hgrow3 (Or.inr (by simp [Value.ownBlock]))
      have hb3 : Below w.heap.size w w3 := (hb.grown hgrow2 (by omega) (fun k hk => by cases hk)).grown hgrow3 (by omega) (fun k hk => by cases hk)
      have hN3 : Nums w3 w.heap.size 7 1 g (fun i => (memOf zg i : Int)) := hNg.block ((hgrow3.block _ (by omega) (by simp)).trans (hgrow2.block _ (by omega) (by simp)))
      have hord : w.heap.size < wa.heap.size := hlt
      obtain ⟨bf, hbfe⟩ : ∃ x, x = wa.heap.size := ⟨_, rfl⟩
      obtain ⟨bv, hbve⟩ : ∃ x, x = w2.heap.size := ⟨_, rfl⟩
      rw [← hbfe] at hown2' hbf hord ⊢
      rw [← hbve] at hown3 hbf hbv ⊢
      clear hown2 hgrow2 hgrow3 hNg hb hlt hbfe hbve
      go_loopw [11, 12, 49] (fun x y i wr => ∃ (j : Nat) (rs : List Row), rs.length = j ∧ j ≤ n ∧ i = .int .i64 j ∧ x = .slice (some ⟨bf, 0, none⟩) j n ∧ y = .slice (some ⟨bv, 0, none⟩) j n ∧
        wr.ownsRow w.heap.size 44 3 (.slice (some ⟨bf, 0, none⟩) j n) j (rowCells g rs) ∧ wr.ownsRow w.heap.size 30 1 (.slice (some ⟨bv, 0, none⟩) j n) j (vecCells g rs) ∧
        (∀ t, t < j → RowOk wr alone g bv t (memOf zg) (lieOf rl z t) (rs.getD t row0)) ∧ Nums wr w.heap.size 7 1 g (fun i => (memOf zg i : Int)) ∧ Below w.heap.size w wr ∧ bv < wr.heap.size) (fun _ _ i _ => n - (intOf i).toNat)
      case atStart => exact ⟨0, [], rfl, Nat.zero_le _, rfl, rfl, rfl, hown2', hown3, fun t ht => by omega, hN3, hb3, hbv⟩
      case round =>
        clear hown2' hown3 hN3 hb3 hbv
        obtain ⟨j, rs, hrl, hjn', rfl, rfl, rfl, hrow, hvec, hok, hN, hb, hbv⟩ := hrel
        by_cases hjn : j < n
        · obtain ⟨b2, o2, rfl, lb2, hc2⟩ : ∃ b o, a2 = some ⟨b, o, none⟩ ∧ b < w.heap.size ∧ ∀ j, j < n → w.cell? ⟨b, o + j, none⟩ = some (.slice (ra j) (rl j) (rc j)) := by
            rcases H2.out.1 with h | h
            · omega
            · exact h
          obtain ⟨hbytes, hrlj⟩ := H2.out.2 j hjn
          obtain ⟨raj, hraj⟩ : ∃ x, x = ra j := ⟨_, rfl⟩
          have d0 : wr.cell? ⟨b2, o2 + j, none⟩ = some (.slice raj (rl j) (rc j)) := by rw [hraj]; exact (hb.cell (by exact lb2)).trans (hc2 j hjn)
          rw [← hraj] at hbytes
          have HR : Hid (wr.ownsRow w.heap.size 44 3 (.slice (some ⟨bf, 0, none⟩) j n) j (rowCells g rs) ∧ wr.ownsRow w.heap.size 30 1 (.slice (some ⟨bv, 0, none⟩) j n) j (vecCells g rs) ∧ (∀ t, t < j → RowOk wr alone g bv t (memOf zg) (lieOf rl z t) (rs.getD t row0)) ∧ Nums wr w.heap.size 7 1 g (fun i => (memOf zg i : Int)) ∧ rs.length = j) := ⟨hrow, hvec, hok, hN, hrl⟩
          have HY : Hid (Bytes w raj (rl j) (z j)) := hbytes
          clear hraj hc2 hrow hvec hok hN hrl hbytes
          obtain ⟨i0, hi, hz0, hz1, hz2⟩ := info_parts info3
          obtain ⟨wo, rfl⟩ : ∃ wo : World, wo = wr := ⟨_, rfl⟩
          go_wp2_with (at_make; refine wpList_make_full _ rfl _ _ 30 rfl w.heap.size 3 i0 (.int .i64 0) 1 Yba.underlying30 hi hz0 hz1 _ _ _ _ g rfl rfl rfl rfl (by rw [hz2]; omega) (by unfold maxLen; omega) (by have := hb.size; omega) ?_; intro w4 hown4 hgrow4)
          have hL0 := nums_made w4 _ _ g 1 0 3 #[.int .i64 0] hown4 rfl (by omega) rfl
          have hb4 := (Below.refl wo.heap.size wo).grown hgrow4 (Nat.le_refl _) (fun k hk => by cases hk)
          have hlt4 : wo.heap.size < w4.heap.size := (hown4.lt _ rfl).2
          clear hown4 hgrow4
          go_loopw [16] (fun i wi => ∃ k : Nat, k ≤ g ∧ i = .int .i64 k ∧ Nums wi wo.heap.size 1 0 g (fun i => if i < k then lieOf rl z j i else 0) ∧ Below wo.heap.size wo wi ∧ wo.heap.size < wi.heap.size) (fun i _ => g - (intOf i).toNat)
          case atStart => exact ⟨0, Nat.zero_le _, rfl, hL0.congr (fun i hi => by simp), hb4, hlt4⟩
          case round =>
            clear hL0 hb4 hlt4
            obtain ⟨k, hk, rfl, hL, hbi, hlti⟩ := hrel
            by_cases hkg : k < g
            · obtain ⟨d1, d2⟩ := hL k hkg
              simp only [Nat.mul_one, Nat.add_zero] at d1 d2
              have i1 : (k : Int) < (g : Int) := by omega
              by_cases hkr : k < rl j
              · obtain ⟨b3, o3, rfl, lb3, hc3⟩ : ∃ b o, raj = some ⟨b, o, none⟩ ∧ b < w.heap.size ∧ ∀ i, i < rl j → w.cell? ⟨b, o + i, none⟩ = some (.int .u8 (z j i)) := by
                  rcases HY.out.1 with h | h
                  · omega
                  · exact h
                have hbiw : Below w.heap.size w wr := hb.trans (hbi.mono hb.size)
                have d3 : wr.cell? ⟨b3, o3 + k, none⟩ = some (.int .u8 (z j k)) := (hbiw.cell (by exact lb3)).trans (hc3 k hkr)
                obtain ⟨z0, z1⟩ := HY.out.2 k
                have i2 : (k : Int) < (rl j : Int) := by omega
                clear hc3
                go_wp2
                go_roundw
                case rel =>
                  refine ⟨k + 1, by omega, by go_num, ?_, hbi.setCell (by simp) _, by simpa [World.setCell] using hlti⟩
                  have hs := hL.set (by omega) hkg (z j k % 4)
                  simp only [Nat.mul_one, Nat.add_zero] at hs
                  refine hs.congr (fun i hi => ?_)
                  by_cases hik : i = k
                  · subst hik
                    simp [lieOf, hkr]
                  · rcases Nat.lt_or_ge i k with h | h
                    · simp [hik, h, Nat.lt_succ_of_lt h]
                    · simp [hik, show ¬ i < k from by omega, show ¬ i < k + 1 from by omega]
                case measure => simp [intOf]; omega
              · have i2 : ¬ (k : Int) < (rl j : Int) := by omega
                go_wp2
                go_roundw
                case rel =>
                  refine ⟨k + 1, by omega, by go_num, ?_, hbi, hlti⟩
                  refine hL.congr (fun i hi => ?_)
                  rcases Nat.lt_or_ge i k with h | h
                  · simp [h, Nat.lt_succ_of_lt h]
                  · by_cases hik : i = k
                    · subst hik
                      simp [lieOf, hkr]
                    · simp [show ¬ i < k from by omega, show ¬ i < k + 1 from by omega]
                case measure => simp [intOf]; omega
            · obtain rfl : g = k := by omega
              have hLg : Nums wr wo.heap.size 1 0 g (fun i => lieOf rl z j i) := hL.congr (fun i hi => by simp [hi])
              clear hL hk hkg
              obtain ⟨wb, rfl⟩ : ∃ wb : World, wb = wr := ⟨_, rfl⟩
              obtain ⟨h0, hh, hhz0, hhz1, hhz2⟩ := info_parts info85
              have hfl0 : Flags (wb.alloc (.cells #[.bool false, .bool false, .bool false, .bool false] 83)) wb.heap.size (hasTo (memOf zg) (lieOf rl z j) 0) := by
                intro u hu
                match u, hu with
                | 0, _ => simp [hasTo]
                | 1, _ => simp [hasTo]
                | 2, _ => simp [hasTo]
                | 3, _ => simp [hasTo]
              go_wp2_with fail
              go_loopw [18, 19] (fun v i wi => ∃ (k : Nat) (hs : List (Nat × Int)), k ≤ g ∧ i = .int .i64 k ∧ hs.length ≤ k ∧ wi.ownsRow (wb.heap.size + 1) 85 2 v hs.length (heldCells hs) ∧ HoldsOk alone k (memOf zg) (lieOf rl z j) hs ∧ (alone = false → Flags wi wb.heap.size (hasTo (memOf zg) (lieOf rl z j) k)) ∧ Below wb.heap.size wb wi ∧ wb.heap.size < wi.heap.size) (fun _ i _ => g - (intOf i).toNat)
              case atStart => exact ⟨0, [], Nat.zero_le _, rfl, Nat.zero_le _, World.ownsRow_nil _ _ _ _, HoldsOk.nil _ _ _, fun _ => hfl0, (Below.refl _ _).alloc (Nat.le_refl _) _, by simp⟩
              case round =>
                clear hfl0
                obtain ⟨k, hs, hk, rfl, hhs, hown, hok, hfl, hbk, hltk⟩ := hrel
                by_cases hkg : k < g
                · have HK : Hid (HoldsOk alone k (memOf zg) (lieOf rl z j) hs) := hok
                  have hszb : wo.heap.size ≤ wb.heap.size := hbi.size
                  have hszw : w.heap.size < wo.heap.size := by have := hb.size; omega
                  have d1 : wr.cell? ⟨w.heap.size, k * 7 + 1, none⟩ = some (.int .i64 (memOf zg k : Int)) := (hbk.cell (by show w.heap.size < _; omega)).trans ((hbi.cell (by show w.heap.size < _; omega)).trans (HR.out.2.2.2.1 k hkg).1)
                  have d2 : wr.cell? ⟨wo.heap.size, k, none⟩ = some (.int .i64 (lieOf rl z j k)) := (hbk.cell (by show wo.heap.size < _; omega)).trans (by simpa using (hLg k hkg).1)
                  have hm4 := (memOf_lt H1.out.2 k).1
                  have hls := lieOf_small rl (z := z) j k
                  obtain ⟨x, hx⟩ : ∃ x, x = lieOf rl z j k := ⟨_, rfl⟩
                  obtain ⟨m, hm⟩ : ∃ m, m = memOf zg k := ⟨_, rfl⟩
                  rw [← hx] at d2 hls
                  rw [← hm] at d1 hm4
                  have HX : Hid (x = lieOf rl z j k ∧ m = memOf zg k) := ⟨hx, hm⟩
                  clear hx hm hok
                  have i1 : (k : Int) < (g : Int) := by omega
                  have i2 : (m : Int) < 4 := by omega
                  by_cases hx0 : x = 0
                  · have e0 : (x == 0) = true := beq_iff_eq.2 hx0
                    have HX0 : Hid (x = 0) := hx0
                    clear hx0
                    go_wp2
                    go_roundw
                    case rel =>
                      have h3 : ¬ 0 < lieOf rl z j k := by rw [← HX.out.1, HX0.out]; omega
                      exact ⟨k + 1, hs, by omega, by go_num, by omega, hown, HK.out.skip h3, fun ha => (hfl ha).congr (hasTo_skip h3), hbk, hltk⟩
                    case measure => simp [intOf]; omega
                  · have e0 : (x == 0) = false := beq_eq_false_iff_ne.2 hx0
                    have hxp : 0 < x := by omega
                    have h3 : 0 < lieOf rl z j k := by rw [← HX.out.1]; exact hxp
                    have H3 : Hid (0 < lieOf rl z j k) := h3
                    clear hx0 h3
                    have hrow2 := hown.alloc (.cells #[.int .i64 (k : Int), .int .i64 x] 85)
                    cases alone with
                    | true =>
                      go_wp2_with (at_builtin; refine wpList_append_own _ rfl _ _ 42 rfl (wb.heap.size + 1) 85 h0 (.agg #[.int .i64 0, .int .i64 0]) 2 16 Yba.underlying42 hh hhz0 hhz1 hhz2 rfl (by decide) _ _ _ rfl hrow2 ⟨wr.heap.size, 0, none⟩ 1 1 [.int .i64 (k : Int), .int .i64 x] rfl rfl (news2 _ _ _) (ints_oneCell .i64 [(k : Int), x]) (by unfold maxLen; omega) (by omega) (by simp; omega) ?_; intro v' w5 hown5 hgrow5 _)
                      go_roundw
                      case rel =>
                        refine ⟨k + 1, hs ++ [(k, lieOf rl z j k)], by omega, by go_num, by simp; omega, ?_, HK.out.put H3.out, (fun ha => by cases ha), (hbk.alloc (by omega) _).grown hgrow5 (by simp; omega) (fun b hb => by have := (hrow2.lt b hb).1; omega), by have := hgrow5.size; simp at this; omega⟩
                        rw [← HX.out.1]
                        simpa [heldCells] using hown5
                      case measure => simp [intOf]; omega
                    | false =>
                      have hF := hfl rfl
                      obtain ⟨g0, g1⟩ := hF m hm4
                      obtain ⟨y, hy⟩ : ∃ y, y = hasTo (memOf zg) (lieOf rl z j) k m := ⟨_, rfl⟩
                      rw [← hy] at g0
                      have HYY : Hid (y = hasTo (memOf zg) (lieOf rl z j) k m) := hy
                      have HFF : Hid (Flags wr wb.heap.size (hasTo (memOf zg) (lieOf rl z j) k)) := hF
                      clear hy hF hfl
                      cases y with
                      | true =>
                        go_wp2
                        go_roundw
                        case rel =>
                          have hy := HYY.out
                          rw [HX.out.2] at hy
                          refine ⟨k + 1, hs, by omega, by go_num, by omega, hown, HK.out.seen ?_, fun _ => HFF.out.congr (fun u => ?_), hbk, hltk⟩
                          · obtain ⟨i, hi, hp⟩ := List.any_eq_true.1 hy.symm
                            simp only [Bool.and_eq_true, decide_eq_true_eq, beq_iff_eq] at hp
                            exact ⟨i, List.mem_range.1 hi, hp.1, hp.2⟩
                          · rw [hasTo_put H3.out]
                            split
                            · rename_i e; rw [e]; exact hy
                            · rfl
                        case measure => simp [intOf]; omega
                      | false =>
                        have hrow2 : ((wr.setCell ⟨wb.heap.size, m, none⟩ (.bool true)).alloc (.cells #[.int .i64 (k : Int), .int .i64 x] 85)).ownsRow (wb.heap.size + 1) 85 2 u18 hs.length (heldCells hs) := (ownsRow_setCell_below hown (a := ⟨wb.heap.size, m, none⟩) (by simp) (.bool true)).alloc _
                        have hssz : (wr.setCell ⟨wb.heap.size, m, none⟩ (.bool true)).heap.size = wr.heap.size := by simp [World.setCell]
                        have nw := news2 (wr.setCell ⟨wb.heap.size, m, none⟩ (.bool true)) (.int .i64 (k : Int)) (.int .i64 x)
                        rw [hssz] at nw
                        have HNW := hid_mk nw
                        clear nw
                        go_wp2_with (at_builtin; refine wpList_append_own _ rfl _ _ 42 rfl (wb.heap.size + 1) 85 h0 (.agg #[.int .i64 0, .int .i64 0]) 2 16 Yba.underlying42 hh hhz0 hhz1 hhz2 rfl (by decide) _ _ _ rfl hrow2 ⟨wr.heap.size, 0, none⟩ 1 1 [.int .i64 (k : Int), .int .i64 x] rfl rfl HNW.out (ints_oneCell .i64 [(k : Int), x]) (by unfold maxLen; omega) (by omega) (by simp [World.setCell]; omega) ?_; intro v' w5 hown5 hgrow5 _)
                        go_roundw
                        case rel =>
                          have hbs : Below wb.heap.size wb ((wr.setCell ⟨wb.heap.size, m, none⟩ (.bool true)).alloc (.cells #[.int .i64 (k : Int), .int .i64 x] 85)) := (hbk.setCell (by simp) _).alloc (by rw [hssz]; omega) _
                          refine ⟨k + 1, hs ++ [(k, lieOf rl z j k)], by omega, by go_num, by simp; omega, ?_, HK.out.put H3.out, fun _ => ?_, hbs.grown hgrow5 (by simp [World.setCell]; omega) (fun b hb => by have := (hrow2.lt b hb).1; omega), by have := hgrow5.size; simp [World.setCell] at this; omega⟩
                          · rw [← HX.out.1]
                            simpa [heldCells] using hown5
                          · have f1 := HFF.out.set hm4
                            have f2 : Flags ((wr.setCell ⟨wb.heap.size, m, none⟩ (.bool true)).alloc (.cells #[.int .i64 (k : Int), .int .i64 x] 85)) wb.heap.size _ := f1.later ((Below.refl (wb.heap.size + 1) _).alloc (by rw [hssz]; omega) (.cells #[.int .i64 (k : Int), .int .i64 x] 85)) (by omega)
                            have f3 : Flags w5 wb.heap.size _ := fun u hu => ⟨(cell_block (hgrow5.block wb.heap.size (by simp [World.setCell]; omega) (fun e => by have := (hrow2.lt _ e.symm).1; omega))).trans (f2 u hu).1, (World.frozen?_of_block (w := (wr.setCell ⟨wb.heap.size, m, none⟩ (.bool true)).alloc (.cells #[.int .i64 (k : Int), .int .i64 x] 85)) (a := ⟨wb.heap.size, u, none⟩) (hgrow5.block wb.heap.size (by simp [World.setCell]; omega) (fun e => by have := (hrow2.lt _ e.symm).1; omega))).trans (f2 u hu).2⟩
                            refine f3.congr (fun u => ?_)
                            rw [hasTo_put H3.out, HX.out.2]
                        case measure => simp [intOf]; omega
                · obtain rfl : g = k := by omega
                  clear hk hkg
                  have hszb : wo.heap.size < wb.heap.size := hlti
                  obtain ⟨ao, cp, hv18, hheld⟩ := held_of_owns (bv := bv) hown (by omega)
                  rw [hv18]
                  have hBr : Below wo.heap.size wo wr := hbi.trans (hbk.mono (by omega))
                  have hrow6 := ((ownsRow_block HR.out.1 (fun i h1 h2 => hBr.block i h2)).alloc (.cells #[.int .u64 (j : Int)] 45)).alloc (.cells #[.slice (some ⟨wo.heap.size, 0, none⟩) g g, .slice (some ⟨wr.heap.size, 0, none⟩) 1 1, .slice ao hs.length cp] 44)
                  have hvec6 := ownsRow_block HR.out.2.1 (fun i h1 h2 => hBr.block i h2)
                  have HV6 : Hid (wr.ownsRow w.heap.size 30 1 (.slice (some ⟨bv, 0, none⟩) j n) j (vecCells g rs)) := hvec6
                  have HHE := hid_mk hheld
                  have HOK := hid_mk hok
                  have nw3 := news3' (wr.alloc (.cells #[.int .u64 (j : Int)] 45)) (.slice (some ⟨wo.heap.size, 0, none⟩) g g) (.slice (some ⟨wr.heap.size, 0, none⟩) 1 1) (.slice ao hs.length cp) (wr.heap.size + 1) (by simp)
                  have HN3 := hid_mk nw3
                  clear hvec6 hheld hok nw3 hv18 hown hfl
                  go_wp2_with (first | (at_builtin; refine wpList_append_fits _ rfl (.tmp 114) (.tmp 121) 28 rfl w.heap.size 44 f0 3 Yba.underlying28 hf fz1 bf j n (rowCells g rs) rfl hrow6 ⟨wr.heap.size + 1, 0, none⟩ 1 1 [.slice (some ⟨wo.heap.size, 0, none⟩) g g, .slice (some ⟨wr.heap.size, 0, none⟩) 1 1, .slice ao hs.length cp] rfl rfl HN3.out (one3 _ _ _ _ _ _ _ _ _) (by omega) ?_; intro w5 hrow5 hgrow5; have hvec8 := (((HV6.out.alloc (.cells #[.int .u64 (j : Int)] 45)).alloc (.cells #[.slice (some ⟨wo.heap.size, 0, none⟩) g g, .slice (some ⟨wr.heap.size, 0, none⟩) 1 1, .slice ao hs.length cp] 44)).kept hgrow5 (Or.inr (own_ne _ _ _ _ (by omega)))).alloc (.cells #[.slice (some ⟨wo.heap.size, 0, none⟩) g g] 30)) | (at_builtin; refine wpList_append_fits _ rfl (.tmp 123) (.tmp 125) 25 rfl w.heap.size 30 v0 1 Yba.underlying25 hv vz1 bv j n (vecCells g rs) rfl hvec8 ⟨w5.heap.size, 0, none⟩ 1 1 [.slice (some ⟨wo.heap.size, 0, none⟩) g g] rfl rfl (news1 _ _) (one1 _ _ _) (by omega) ?_; intro w7 hvec7 hgrow7))
                  go_roundw
                  case rel =>
                    have hsz5 : wr.heap.size + 2 ≤ w5.heap.size := by have := hgrow5.size; simp at this; omega
                    have hsz7 : w5.heap.size + 1 ≤ w7.heap.size := by have := hgrow7.size; simp at this; omega
                    have hwr : wb.heap.size < wr.heap.size := hltk
                    have same : ∀ i, i < wr.heap.size + 1 → i ≠ bf → i ≠ bv → w7.heap[i]? = (wr.alloc (.cells #[.int .u64 (j : Int)] 45)).heap[i]? := by
                      intro i hi h1 h2
                      rw [hgrow7.block i (by simp; omega) (by simpa using h2), Below.heap_alloc _ _ _ (by omega), hgrow5.block i (by simp; omega) (by simpa using h1), Below.heap_alloc _ _ _ (by simp; omega)]
                    have sameo : ∀ i, i < wo.heap.size → i ≠ bf → i ≠ bv → w7.heap[i]? = wo.heap[i]? := by
                      intro i hi h1 h2
                      rw [same i (by omega) h1 h2, Below.heap_alloc _ _ _ (by omega)]
                      exact hBr.block i hi
                    have hrow7 := (hrow5.alloc (.cells #[.slice (some ⟨wo.heap.size, 0, none⟩) g g] 30)).kept hgrow7 (Or.inr (own_ne _ _ _ _ (by omega)))
                    have hBr' : Below w.heap.size w wr := hb.trans (hBr.mono hb.size)
                    have hb7 : Below w.heap.size w w7 := ((((hBr'.alloc (by omega) (.cells #[.int .u64 (j : Int)] 45)).alloc (by simp; omega) (.cells #[.slice (some ⟨wo.heap.size, 0, none⟩) g g, .slice (some ⟨wr.heap.size, 0, none⟩) 1 1, .slice ao hs.length cp] 44)).grown hgrow5 (by simp; omega) (fun k hk => by cases hk; omega)).alloc (by omega) (.cells #[.slice (some ⟨wo.heap.size, 0, none⟩) g g] 30)).grown hgrow7 (by simp; omega) (fun k hk => by cases hk; omega)
                    have hlen : rs.length = j := HR.out.2.2.2.2
                    refine ⟨j + 1, rs ++ [⟨wo.heap.size, wr.heap.size, ao, cp, hs⟩], by simp [hlen], by omega, by go_num, rfl, rfl, ?_, ?_, ?_, ?_, hb7, by omega⟩
                    · simpa [rowCells] using hrow7
                    · simpa [vecCells] using hvec7
                    · intro t ht
                      rcases Nat.lt_or_ge t j with h | h
                      · rw [getD_left _ _ (by omega)]
                        exact (HR.out.2.2.1 t h).keep (by omega) (fun i h1 h2 => sameo i h2 (by omega) (by omega))
                      · obtain rfl : t = j := by omega
                        rw [getD_last _ _ hlen]
                        have hro : RowOk (wr.alloc (.cells #[.int .u64 (t : Int)] 45)) alone g bv t (memOf zg) (lieOf rl z t) ⟨wo.heap.size, wr.heap.size, ao, cp, hs⟩ :=
                          { blb := hbv, llb := by simp; omega, bub := by show bv < wr.heap.size; omega, lub := by simp,
                             lie := fun i hi => (cell_block (Below.heap_alloc _ _ _ (by show wo.heap.size < _; omega))).trans ((hbk.cell (by exact hszb)).trans (by simpa using (hLg i hi).1)),
                             liar := by simp,
                             hld := by
                               rcases HHE.out with h | ⟨b, q1, q2, q3, q4⟩
                               · exact .inl h
                               · exact .inr ⟨b, q1, q2, by simp; omega, fun t ht => ⟨(cell_block (Below.heap_alloc _ _ _ q3)).trans (q4 t ht).1, (cell_block (Below.heap_alloc _ _ _ q3)).trans (q4 t ht).2⟩⟩,
                             ok := HOK.out, few := hhs }
                        exact hro.keep (by simp; omega) (fun i h1 h2 => same i (by simpa using h2) (by omega) (by omega))
                    · exact HR.out.2.2.2.1.block (sameo _ (by have := hb.size; omega) (by omega) (by omega))
                  case measure => simp [intOf]; omega
        · obtain rfl : j = n := by omega
          have HR : Hid (wr.ownsRow w.heap.size 44 3 (.slice (some ⟨bf, 0, none⟩) j j) j (rowCells g rs) ∧ wr.ownsRow w.heap.size 30 1 (.slice (some ⟨bv, 0, none⟩) j j) j (vecCells g rs) ∧ (∀ t, t < j → RowOk wr alone g bv t (memOf zg) (lieOf rl z t) (rs.getD t row0)) ∧ Nums wr w.heap.size 7 1 g (fun i => (memOf zg i : Int)) ∧ rs.length = j) := ⟨hrow, hvec, hok, hN, hrl⟩
          clear hrow hvec hok hN hrl
          go_wp2
          go_ret2
          refine ⟨memOf zg, lieOf rl z, fun t => (rs.getD t row0).hs, wr.heap.size, wr.heap.size + 1, w.heap.size, bf, bv, fun t => (rs.getD t row0).lb, fun t => (rs.getD t row0).ub, fun t => (rs.getD t row0).ha, fun t => (rs.getD t row0).hc, rfl, ?_, ?_⟩
          · obtain ⟨q1, q2, q3, q4, q5⟩ := HR.out
            exact built_of alone g j zg rl z rs w.heap.size w.heap.size bf bv wr hg hn H1.out.2 hord hbf hbv q1 q2 q3 q4 q5
          · exact (hb.alloc (by omega) _).alloc (by simp; omega) _
end Go.Proofs.Ybulkhfi.A
