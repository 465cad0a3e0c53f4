import Derived.Test.YbulkhfiAMin
namespace Go.Proofs.Ybulkhfi.A
open Go.RowKit
set_option linter.unusedVariables false

theorem info3 : (Yba.prog.info? 3).map (fun i => (i.zero, i.size, i.bytes)) = some (some (.int .i64 0), 1, 8) := by kernel_rfl

/-- What a slice that owns a row is. -/
theorem owns_shape {w : World} {base : Nat} {e : TypeId} {size : Nat} {v : Value} {n : Nat} {xs : List Value} (h : w.ownsRow base e size v n xs) :
    ∃ (ao : Option Addr) (cap : Nat), v = .slice ao n cap ∧ (0 < n → ∃ g, ao = some ⟨g, 0, none⟩ ∧ g < w.heap.size ∧ base ≤ g ∧ ∀ j, j < n * size → w.cell? ⟨g, j, none⟩ = xs[j]?) := by
  rcases h.2 with ⟨rfl, rfl⟩ | ⟨g, cap, cur, rfl, hb, hh, r⟩
  · exact ⟨none, 0, rfl, fun h => by omega⟩
  · exact ⟨_, _, rfl, fun _ => ⟨g, rfl, (Array.getElem?_eq_some_iff.1 hh).1, hb, fun j hj => h.cellAt j hj⟩⟩

def ints (K : List Nat) : List Value := K.map (fun j : Nat => Value.int .i64 (j : Int))

theorem ints_at (K : List Nat) (t : Nat) (ht : t < K.length) : (ints K)[t]? = some (.int .i64 ((K.getD t 0 : Nat) : Int)) := by
  simp [ints, ht]

theorem foundCells_at (g : Nat) (hs : Nat → List (Nat × Int)) (lb ub : Nat → Nat) (ha : Nat → Option Addr) (hc : Nat → Nat) : ∀ (K : List Nat) (t : Nat), t < K.length → (foundCells g hs lb ub ha hc K)[t * 3 + 1]? = some (.slice (some ⟨ub (K.getD t 0), 0, none⟩) 1 1)
  | [], t, h => by simp at h
  | x :: K, 0, h => by simp [foundCells, cells3]
  | x :: K, t + 1, h => by
    have ih := foundCells_at g hs lb ub ha hc K t (by simpa using h)
    have e : foundCells g hs lb ub ha hc (x :: K) = cells3 g hs lb ub ha hc x ++ foundCells g hs lb ub ha hc K := by simp [foundCells]
    rw [e, List.getElem?_append_right (by simp [cells3]; omega)]
    have e2 : (t + 1) * 3 + 1 - (cells3 g hs lb ub ha hc x).length = t * 3 + 1 := by simp [cells3]; omega
    rw [e2, ih]
    simp

set_option maxRecDepth 100000 in
set_option maxHeartbeats 1000000 in
theorem law_any (alone : Bool) (a1 a2 : Option Addr) (g n cap1 cap2 : Nat) (hg : g ≤ 256) (hn : n ≤ 256) (w : World)
    (h6 : Calls Yba.prog 6 #[.bool alone, .slice a1 g cap1, .slice a2 n cap2] w fun e w' => ∃ (mem : Nat → Nat) (l : Nat → Nat → Int) (hs : Nat → List (Nat × Int)) (bm bs bg bf bv : Nat) (lb ub : Nat → Nat) (ha : Nat → Option Addr) (hc : Nat → Nat),
      e = .returned (.tuple #[.pointer (some ⟨bs, 0, none⟩), .slice (some ⟨bv, 0, none⟩) n n]) ∧ Built w' alone g n mem l hs bm bs bg bf bv lb ub ha hc ∧ Below w.heap.size w w') :
    Calls Yba.prog 3 #[.bool alone, .slice a1 g cap1, .slice a2 n cap2] w fun e w' => e = .returned (.bool true) ∧ Below w.heap.size w w' := by
  obtain ⟨i0, hi, hz0, hz1, hz2⟩ := info_parts info3
  have H6 := h6
  have HH : Hid (Calls Yba.prog 6 #[.bool alone, .slice a1 g cap1, .slice a2 n cap2] w fun e w' => ∃ (mem : Nat → Nat) (l : Nat → Nat → Int) (hs : Nat → List (Nat × Int)) (bm bs bg bf bv : Nat) (lb ub : Nat → Nat) (ha : Nat → Option Addr) (hc : Nat → Nat),
      e = .returned (.tuple #[.pointer (some ⟨bs, 0, none⟩), .slice (some ⟨bv, 0, none⟩) n n]) ∧ Built w' alone g n mem l hs bm bs bg bf bv lb ub ha hc ∧ Below w.heap.size w w') := h6
  clear h6 H6
  go_enter Yba.func3, Yba.ntmps3
  go_wp2_with fail
  refine HH.out.mono ?_
  rintro e w1 ⟨mem, l, hs, bm, bs, bg, bf, bv, lb, ub, ha, hc, rfl, hB, hb1⟩
  have HB1 : Hid (Built w1 alone g n mem l hs bm bs bg bf bv lb ub ha hc) := hB
  clear hB HH
  go_wp2_with fail
  refine (min_any alone g n mem l hs bm bs bg bf bv lb ub ha hc _ HB1.out).mono ?_
  rintro e w2 ⟨v, rfl, hown, hb2⟩
  have HB2 : Hid (Built w2 alone g n mem l hs bm bs bg bf bv lb ub ha hc) := HB1.out.later hb2
  have hbw : Below w.heap.size w w2 := hb1.trans (hb2.mono hb1.size)
  obtain ⟨le, hle⟩ : ∃ le : Nat → Nat → Bool, le = fun j k => leB alone g mem (l j) (l k) := ⟨_, rfl⟩
  rw [← hle] at hown
  have HLE : Hid (le = fun j k => leB alone g mem (l j) (l k)) := hle
  have HO : Hid (w2.ownsRow w1.heap.size 44 3 v (kept n le n).length (foundCells g hs lb ub ha hc (kept n le n))) := hown
  clear HB1 hle hown hb1 hb2
  go_wp2_with fail
  go_loopw [10, 11] (fun x i wr => ∃ j : Nat, j ≤ n ∧ i = .int .i64 j ∧ wr.ownsRow w2.heap.size 3 1 x (kept n le j).length (ints (kept n le j)) ∧ Below w2.heap.size w2 wr) (fun _ i _ => n - (intOf i).toNat)
  case atStart => exact ⟨0, Nat.zero_le _, rfl, World.ownsRow_nil _ _ _ _, Below.refl _ _⟩
  case round =>
    obtain ⟨j, hj, rfl, hown, hbr⟩ := hrel
    by_cases hjn : j < n
    · have HOW : Hid (wr.ownsRow w2.heap.size 3 1 u10 (kept n le j).length (ints (kept n le j))) := hown
      clear hown
      obtain ⟨wo, rfl⟩ : ∃ wo : World, wo = wr := ⟨_, rfl⟩
      go_wp2_with fail
      go_loopw [12, 13] (fun mn i wi => ∃ k : Nat, k ≤ n ∧ i = .int .i64 k ∧ mn = .bool true ∧ (∀ t, t < k → dropB le j t = false) ∧ Below wo.heap.size wo wi) (fun _ i _ => n - (intOf i).toNat)
      case atStart => exact ⟨0, Nat.zero_le _, rfl, rfl, fun t ht => by omega, Below.refl _ _⟩
      case round =>
        obtain ⟨k, hk, rfl, rfl, hdrop, hbi⟩ := hrel
        have HD : Hid (∀ t, t < k → dropB le j t = false) := hdrop
        clear hdrop
        have hbi2 : Below w2.heap.size w2 wr := hbr.trans (hbi.mono hbr.size)
        by_cases hkn : k < n
        · have B := HB2.out.later hbi2
          have c0 := B.vec k hkn
          have c1 := B.vec j hjn
          have c2 := B.cs2
          have l1 := B.lv
          have l2 := B.ls
          have HBi : Hid (Built wr alone g n mem l hs bm bs bg bf bv lb ub ha hc) := B
          clear B
          have i1 : (k : Int) < (n : Int) := by omega
          have i2 : (j : Int) < (n : Int) := by omega
          by_cases hkj : k = j
          · have hne : ((k : Int) == (j : Int)) = true := by subst hkj; simp
            have HK : Hid (k = j) := hkj
            clear hkj
            go_wp2
            go_roundw
            case rel =>
              refine ⟨k + 1, by omega, by go_num, rfl, fun t ht => ?_, hbi⟩
              rcases Nat.lt_or_ge t k with h | h
              · exact HD.out t h
              · obtain rfl : t = k := by omega
                simp [dropB, HK.out]
            case measure => simp [intOf]; omega
          · have hne : ((k : Int) == (j : Int)) = false := by rw [beq_eq_false_iff_ne]; omega
            have HK : Hid (¬ k = j) := hkj
            clear hkj
            go_wp2_with fail
            refine wp_region_tail 13 mixed (by kernel_rfl) ?_
            simp only [List.take_succ_cons, List.take_zero, List.drop_succ_cons, List.drop_zero]
            repeat (go_big_quiet_step (fail))
            refine wpQuiet_nil ?_
            go_wp2_with fail
            refine (le_any (HBi.out.later ((Below.refl _ _).drew)) k j hkn hjn).mono ?_
            rintro e w3 ⟨rfl, hb3⟩
            have hbi3 : Below wo.heap.size wo w3 := hbi.drew.trans (hb3.mono hbi.size)
            have hb23 : Below w2.heap.size w2 w3 := hbi2.drew.trans (hb3.mono hbi2.size)
            have B3 := HB2.out.later hb23
            have f0 := B3.vec k hkn
            have f1 := B3.vec j hjn
            have f2 := B3.cs2
            have HB3 : Hid (Built w3 alone g n mem l hs bm bs bg bf bv lb ub ha hc) := B3
            clear B3 c0 c1 c2
            go_wp2_with fail
            refine wp_region_tail 13 mixed (by kernel_rfl) ?_
            simp only [List.take_succ_cons, List.take_zero, List.drop_succ_cons, List.drop_zero]
            repeat (go_big_quiet_step (fail))
            refine wpQuiet_nil ?_
            go_wp2_with fail
            refine (le_any (HB3.out.later ((Below.refl _ _).drew)) j k hjn hkn).mono ?_
            rintro e w4 ⟨rfl, hb4⟩
            have hbi4 : Below wo.heap.size wo w4 := hbi3.drew.trans (hb4.mono hbi3.size)
            have hb24 : Below w2.heap.size w2 w4 := hb23.drew.trans (hb4.mono hb23.size)
            clear f0 f1 f2
            cases hx : leB alone g mem (l k) (l j)
            · go_wp2
              go_roundw
              case rel =>
                refine ⟨k + 1, by omega, by go_num, rfl, fun t ht => ?_, hbi4⟩
                rcases Nat.lt_or_ge t k with h | h
                · exact HD.out t h
                · obtain rfl : t = k := by omega
                  simp [dropB, HLE.out, hx]
              case measure => simp [intOf]; omega

            · cases hy : leB alone g mem (l j) (l k)
              · go_wp2
                go_roundw
                case rel =>
                  have hkeep : keepB n le j = false := keepB_false hkn (by have h2 := HK.out; simp [dropB, HLE.out, hx, hy, h2])
                  refine ⟨j + 1, by omega, by go_num, ?_, hb24⟩
                  rw [kept_succ_no n le j hkeep]
                  exact ownsRow_block HOW.out (fun i h1 h2 => (hbi4).block i h2)
                case measure => simp [intOf]; omega

              · by_cases hlt : k < j
                · have hlt' : (k : Int) < (j : Int) := by omega
                  go_wp2
                  go_roundw
                  case rel =>
                    have hkeep : keepB n le j = false := keepB_false hkn (by have h2 := HK.out; simp [dropB, HLE.out, hx, hlt, h2])
                    refine ⟨j + 1, by omega, by go_num, ?_, hb24⟩
                    rw [kept_succ_no n le j hkeep]
                    exact ownsRow_block HOW.out (fun i h1 h2 => (hbi4).block i h2)
                  case measure => simp [intOf]; omega

                · have hlt' : ¬ (k : Int) < (j : Int) := by omega
                  go_wp2
                  go_roundw
                  case rel =>
                    refine ⟨k + 1, by omega, by go_num, rfl, fun t ht => ?_, hbi4⟩
                    rcases Nat.lt_or_ge t k with h | h
                    · exact HD.out t h
                    · obtain rfl : t = k := by omega
                      simp [dropB, HLE.out, hy, hlt]
                  case measure => simp [intOf]; omega

        · have hkeep : keepB n le j = true := keepB_true (fun t ht => HD.out t (by omega))
          have hown2 := (ownsRow_block HOW.out (fun i h1 h2 => hbi.block i h2)).alloc (.cells #[.int .i64 (j : Int)] 3)
          have hkl := kept_length n le j
          have HKE : Hid (keepB n le j = true) := hkeep
          have hsz2 : w2.heap.size ≤ wr.heap.size := hbi2.size
          clear hkeep
          go_wp2_with (at_builtin; refine wpList_append_own _ rfl _ _ 30 rfl w2.heap.size 3 i0 (.int .i64 0) 1 8 Yba.underlying30 hi hz0 hz1 hz2 rfl (by decide) _ _ _ rfl hown2 ⟨wr.heap.size, 0, none⟩ 1 1 [.int .i64 (j : Int)] rfl rfl (cell_one_new _ _ _) (ints_oneCell .i64 [(j : Int)]) (by unfold maxLen; omega) (by omega) (by simp; omega) ?_; intro v' w3 hown1 hgrow1 _)
          go_roundw
          case rel =>
            refine ⟨j + 1, by omega, by go_num, ?_, (hbi2.alloc (by omega) _).grown hgrow1 (by simp; omega) (fun k hk => (hown2.lt k hk).1)⟩
            rw [kept_succ_yes n le j HKE.out]
            simpa [ints] using hown1
          case measure => simp [intOf]; omega
    · obtain rfl : j = n := by omega
      have hbwr : Below w.heap.size w wr := hbw.trans (hbr.mono hbw.size)
      have hownv : wr.ownsRow w1.heap.size 44 3 v (kept j le j).length (foundCells g hs lb ub ha hc (kept j le j)) := ownsRow_block HO.out (fun i h1 h2 => hbr.block i h2)
      obtain ⟨ao, cp, rfl, hsv⟩ := owns_shape hownv
      obtain ⟨bo, cq, hu10, hsu⟩ := owns_shape hown
      rw [hu10]
      have HBr : Hid (Built wr alone g j mem l hs bm bs bg bf bv lb ub ha hc) := HB2.out.later hbr
      obtain ⟨K, hK⟩ : ∃ K, K = kept j le j := ⟨_, rfl⟩
      rw [← hK] at hsv hsu ⊢
      have hKl : K.length ≤ j := by rw [hK]; exact kept_length j le j
      have HKlt : Hid (∀ x ∈ K, x < j) := by rw [hK]; exact kept_lt j le j
      clear hK hownv hown hu10
      go_wp2_with fail
      obtain ⟨wo, rfl⟩ : ∃ wo : World, wo = wr := ⟨_, rfl⟩
      go_loopw [16] (fun i wi => ∃ t : Nat, t ≤ K.length ∧ i = .int .i64 t ∧ Below wo.heap.size wo wi) (fun i _ => K.length - (intOf i).toNat)
      case atStart => exact ⟨0, Nat.zero_le _, rfl, Below.refl _ _⟩
      case round =>
        obtain ⟨t, ht, rfl, hbt⟩ := hrel
        have hbwt : Below w.heap.size w wr := hbwr.trans (hbt.mono hbwr.size)
        by_cases htl : t < K.length
        · obtain ⟨gg, rfl, lgg, _, hcv⟩ := hsv (by omega)
          obtain ⟨gh, rfl, lgh, _, hcu⟩ := hsu (by omega)
          obtain ⟨q, hq⟩ : ∃ q, q = K.getD t 0 := ⟨_, rfl⟩
          have hqj : q < j := by rw [hq]; exact HKlt.out _ (getD_mem htl)
          have d0 : wr.cell? ⟨gg, t * 3 + 1, none⟩ = some (.slice (some ⟨ub q, 0, none⟩) 1 1) := by
            rw [hq]
            exact (hbt.cell (by exact lgg)).trans ((hcv _ (by omega)).trans (foundCells_at g hs lb ub ha hc K t htl))
          have d1 : wr.cell? ⟨gh, t, none⟩ = some (.int .i64 (q : Int)) := by
            rw [hq]
            exact (hbt.cell (by exact lgh)).trans ((hcu _ (by omega)).trans (ints_at K t htl))
          have d2 : wr.cell? ⟨ub q, 0, none⟩ = some (.int .u64 (q : Int)) := (HBr.out.later hbt).liar q hqj
          have i1 : (t : Int) < (K.length : Int) := by omega
          clear hcv hcu hq hsv hsu
          go_wp2_with fail
          go_quiet (fail)
          go_wp2
          go_roundw
          case rel => exact ⟨t + 1, by omega, by go_num, below_drewN hbt _⟩
          case measure => simp [intOf]; omega
        · go_wp2
          go_ret
          exact ⟨rfl, hbwt⟩
end Go.Proofs.Ybulkhfi.A
