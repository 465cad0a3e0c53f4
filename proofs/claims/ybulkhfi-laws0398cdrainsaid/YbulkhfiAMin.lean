import Derived.Test.YbulkhfiALe
namespace Go.Proofs.Ybulkhfi.A
open Go.RowKit
set_option linter.unusedVariables false

theorem info44 : (Yba.prog.info? 44).map (fun i => (i.zero, i.size, i.bytes)) = some (some (.agg #[.slice none 0 0, .slice none 0 0, .slice none 0 0]), 3, 72) := by kernel_rfl

/-- The three cells of found set j. -/
def cells3 (g : Nat) (hs : Nat → List (Nat × Int)) (lb ub : Nat → Nat) (ha : Nat → Option Addr) (hc : Nat → Nat) (j : Nat) : List Value :=
  [.slice (some ⟨lb j, 0, none⟩) g g, .slice (some ⟨ub j, 0, none⟩) 1 1, .slice (ha j) (hs j).length (hc j)]
def foundCells (g : Nat) (hs : Nat → List (Nat × Int)) (lb ub : Nat → Nat) (ha : Nat → Option Addr) (hc : Nat → Nat) (K : List Nat) : List Value := K.flatMap (cells3 g hs lb ub ha hc)

theorem ownsRow_block {w w' : World} {base : Nat} {e : TypeId} {size : Nat} {v : Value} {n : Nat} {xs : List Value} (h : w.ownsRow base e size v n xs) (hb : ∀ i, base ≤ i → i < w.heap.size → w'.heap[i]? = w.heap[i]?) : w'.ownsRow base e size v n xs := by
  obtain ⟨h1, h2⟩ := h
  refine ⟨h1, ?_⟩
  rcases h2 with h2 | ⟨g, cap, cur, hv, hg, hh, r⟩
  · exact .inl h2
  · exact .inr ⟨g, cap, cur, hv, hg, (hb g hg (Array.getElem?_eq_some_iff.1 hh).1).trans hh, r⟩

theorem news3 (w : World) (a b c : Value) : ∀ j u, [a, b, c][j]? = some u → (w.alloc (.cells #[a, b, c] 44)).cell? ((⟨w.heap.size, 0, none⟩ : Addr).add j) = some u := by
  intro j u hj
  match j, hj with
  | 0, hj => simp at hj; subst hj; simp [Addr.add]
  | 1, hj => simp at hj; subst hj; simp [Addr.add]
  | 2, hj => simp at hj; subst hj; simp [Addr.add]

theorem one3 (a1 : Option Addr) (b1 c1 : Nat) (a2 : Option Addr) (b2 c2 : Nat) (a3 : Option Addr) (b3 c3 : Nat) : ∀ u ∈ [Value.slice a1 b1 c1, .slice a2 b2 c2, .slice a3 b3 c3], u.oneCell' = true := by
  intro u hu
  simp at hu
  rcases hu with rfl | rfl | rfl <;> rfl

set_option maxRecDepth 100000 in
set_option maxHeartbeats 1000000 in
theorem min_any (alone : Bool) (g n : Nat) (mem : Nat → Nat) (l : Nat → Nat → Int) (hs : Nat → List (Nat × Int)) (bm bs bg bf bv : Nat) (lb ub : Nat → Nat) (ha : Nat → Option Addr) (hc : Nat → Nat) (w : World)
    (hB : Built w alone g n mem l hs bm bs bg bf bv lb ub ha hc) :
    Calls Yba.prog 7 #[.pointer (some ⟨bs, 0, none⟩)] w fun e w' => ∃ v, e = .returned v ∧ w'.ownsRow w.heap.size 44 3 v (kept n (fun j k => leB alone g mem (l j) (l k)) n).length (foundCells g hs lb ub ha hc (kept n (fun j k => leB alone g mem (l j) (l k)) n)) ∧ Below w.heap.size w w' := by
  obtain ⟨i0, hi, hz0, hz1, hz2⟩ := info_parts info44
  have HB : Hid (Built w alone g n mem l hs bm bs bg bf bv lb ub ha hc) := hB
  have d7 := hB.cs7
  have l2 := hB.ls
  have hn := hB.n256
  obtain ⟨le, hle⟩ : ∃ le : Nat → Nat → Bool, le = fun j k => leB alone g mem (l j) (l k) := ⟨_, rfl⟩
  rw [← hle]
  have HLE : Hid (le = fun j k => leB alone g mem (l j) (l k)) := hle
  clear hB hle
  have hbox := (Below.refl w.heap.size w).alloc (Nat.le_refl _) (.cells #[.pointer (some ⟨bs, 0, none⟩)] 24)
  have ebox : (w.alloc (.cells #[.pointer (some ⟨bs, 0, none⟩)] 24)).cell? ⟨w.heap.size, 0, none⟩ = some (.pointer (some ⟨bs, 0, none⟩)) := by simp
  have esz : (w.alloc (.cells #[.pointer (some ⟨bs, 0, none⟩)] 24)).heap.size = w.heap.size + 1 := by simp
  go_enter Yba.func7, Yba.ntmps7
  go_wp2
  obtain ⟨W1, hW1⟩ : ∃ W, W = w.alloc (.cells #[.pointer (some ⟨bs, 0, none⟩)] 24) := ⟨_, rfl⟩
  rw [← hW1] at hbox ebox esz ⊢
  clear hW1
  go_loopw [4, 16] (fun v i wr => ∃ j : Nat, j ≤ n ∧ i = .int .i64 j ∧ wr.ownsRow (w.heap.size + 1) 44 3 v (kept n le j).length (foundCells g hs lb ub ha hc (kept n le j)) ∧ Below (w.heap.size + 1) W1 wr) (fun _ i _ => n - (intOf i).toNat)
  case atStart => exact ⟨0, Nat.zero_le _, rfl, World.ownsRow_nil _ _ _ _, Below.refl _ _⟩
  case round =>
    obtain ⟨j, hj, rfl, hown, hbr⟩ := hrel
    have hbw : Below w.heap.size w wr := hbox.trans (hbr.mono (by omega))
    have hsr : w.heap.size + 1 ≤ wr.heap.size := by have := hbr.size; omega
    by_cases hjn : j < n
    · have B := HB.out.later hbw
      obtain ⟨c0, c1, c2⟩ := B.fnd j hjn
      have e7 := B.cs7
      have l3 := B.ls
      have l4 := B.lf
      have eb : wr.cell? ⟨w.heap.size, 0, none⟩ = some (.pointer (some ⟨bs, 0, none⟩)) := (hbr.cell (by show w.heap.size < _; omega)).trans ebox
      have l5 : w.heap.size < wr.heap.size := by omega
      have HO : Hid (wr.ownsRow (w.heap.size + 1) 44 3 u4 (kept n le j).length (foundCells g hs lb ub ha hc (kept n le j))) := hown
      clear B hown d7 l2
      obtain ⟨wo, rfl⟩ : ∃ wo : World, wo = wr := ⟨_, rfl⟩
      have hG := (Below.refl wo.heap.size wo).alloc (Nat.le_refl _) (.cells #[.slice (some ⟨lb j, 0, none⟩) g g, .slice (some ⟨ub j, 0, none⟩) 1 1, .slice (ha j) (hs j).length (hc j)] 44)
      have g0 : (wo.alloc (.cells #[.slice (some ⟨lb j, 0, none⟩) g g, .slice (some ⟨ub j, 0, none⟩) 1 1, .slice (ha j) (hs j).length (hc j)] 44)).cell? ⟨wo.heap.size, 0, none⟩ = some (.slice (some ⟨lb j, 0, none⟩) g g) := by simp
      have g1 : (wo.alloc (.cells #[.slice (some ⟨lb j, 0, none⟩) g g, .slice (some ⟨ub j, 0, none⟩) 1 1, .slice (ha j) (hs j).length (hc j)] 44)).cell? ⟨wo.heap.size, 1, none⟩ = some (.slice (some ⟨ub j, 0, none⟩) 1 1) := by simp
      have g2 : (wo.alloc (.cells #[.slice (some ⟨lb j, 0, none⟩) g g, .slice (some ⟨ub j, 0, none⟩) 1 1, .slice (ha j) (hs j).length (hc j)] 44)).cell? ⟨wo.heap.size, 2, none⟩ = some (.slice (ha j) (hs j).length (hc j)) := by simp
      have gsz : (wo.alloc (.cells #[.slice (some ⟨lb j, 0, none⟩) g g, .slice (some ⟨ub j, 0, none⟩) 1 1, .slice (ha j) (hs j).length (hc j)] 44)).heap.size = wo.heap.size + 1 := by simp
      go_wp2_with fail
      obtain ⟨W3, hW3⟩ : ∃ W, W = wo.alloc (.cells #[.slice (some ⟨lb j, 0, none⟩) g g, .slice (some ⟨ub j, 0, none⟩) 1 1, .slice (ha j) (hs j).length (hc j)] 44) := ⟨_, rfl⟩
      rw [← hW3] at hG g0 g1 g2 gsz ⊢
      clear hW3
      go_loopw [7, 26] (fun mn i wi => ∃ k : Nat, k ≤ n ∧ i = .int .i64 k ∧ mn = .bool true ∧ (∀ t, t < k → dropB le j t = false) ∧ Below (wo.heap.size + 1) W3 wi) (fun _ i _ => n - (intOf i).toNat)
      case atStart => exact ⟨0, Nat.zero_le _, rfl, rfl, fun t ht => by omega, Below.refl _ _⟩
      case round =>
        obtain ⟨k, hk, rfl, rfl, hdrop, hbi⟩ := hrel
        have HD : Hid (∀ t, t < k → dropB le j t = false) := hdrop
        clear hdrop
        have hbio : Below wo.heap.size wo wr := hG.trans (hbi.mono (by omega))
        have hbiw : Below w.heap.size w wr := hbw.trans (hbio.mono (by omega))
        have hb1w : Below (w.heap.size + 1) W1 wr := hbr.trans (hbio.mono hsr)
        have hszi : wo.heap.size < wr.heap.size := by have := hbi.size; omega
        clear c0 c1 c2 e7 l3 l4 eb
        have k0 : wr.cell? ⟨wo.heap.size, 0, none⟩ = some (.slice (some ⟨lb j, 0, none⟩) g g) := (hbi.cell (by show wo.heap.size < _; omega)).trans g0
        have k1 : wr.cell? ⟨wo.heap.size, 1, none⟩ = some (.slice (some ⟨ub j, 0, none⟩) 1 1) := (hbi.cell (by show wo.heap.size < _; omega)).trans g1
        have k2 : wr.cell? ⟨wo.heap.size, 2, none⟩ = some (.slice (ha j) (hs j).length (hc j)) := (hbi.cell (by show wo.heap.size < _; omega)).trans g2
        clear g0 g1 g2
        by_cases hkn : k < n
        · have B := HB.out.later hbiw
          obtain ⟨c0, c1, c2⟩ := B.fnd k hkn
          have l4 := B.lf
          have eb : wr.cell? ⟨w.heap.size, 0, none⟩ = some (.pointer (some ⟨bs, 0, none⟩)) := (hb1w.cell (by show w.heap.size < _; omega)).trans ebox
          have l6 : w.heap.size < wr.heap.size := by omega
          have HBi : Hid (Built wr alone g n mem l hs bm bs bg bf bv lb ub ha hc) := B
          clear B
          by_cases hkj : k = j
          · have hne : ((k : Int) != (j : Int)) = false := by subst hkj; simp
            have HK : Hid (k = j) := hkj
            clear hkj
            go_wp2
            go_roundw
            case rel =>
              refine ⟨k + 1, by omega, by go_num, rfl, fun t ht => ?_, hbi.alloc (by omega) _⟩
              rcases Nat.lt_or_ge t k with h | h
              · exact HD.out t h
              · obtain rfl : t = k := by omega
                simp [dropB, HK.out]
            case measure => simp [intOf]; omega
          · have hne : ((k : Int) != (j : Int)) = true := by rw [bne_iff_ne]; omega
            have HK : Hid (¬ k = j) := hkj
            clear hkj
            have hbF : Below wr.heap.size wr (wr.alloc (.cells #[.slice (some ⟨lb k, 0, none⟩) g g, .slice (some ⟨ub k, 0, none⟩) 1 1, .slice (ha k) (hs k).length (hc k)] 44)) := (Below.refl _ _).alloc (Nat.le_refl _) _
            have HB1 : Hid (Built (wr.alloc (.cells #[.slice (some ⟨lb k, 0, none⟩) g g, .slice (some ⟨ub k, 0, none⟩) 1 1, .slice (ha k) (hs k).length (hc k)] 44)) alone g n mem l hs bm bs bg bf bv lb ub ha hc) := HBi.out.later hbF
            have ebF : (wr.alloc (.cells #[.slice (some ⟨lb k, 0, none⟩) g g, .slice (some ⟨ub k, 0, none⟩) 1 1, .slice (ha k) (hs k).length (hc k)] 44)).cell? ⟨w.heap.size, 0, none⟩ = some (.pointer (some ⟨bs, 0, none⟩)) := (hbF.cell (by exact l6)).trans eb
            have szF : (wr.alloc (.cells #[.slice (some ⟨lb k, 0, none⟩) g g, .slice (some ⟨ub k, 0, none⟩) 1 1, .slice (ha k) (hs k).length (hc k)] 44)).heap.size = wr.heap.size + 1 := by simp
            go_wp2_with fail
            refine (within_any HB1.out k j w.heap.size hkn hjn ebF (by simp; omega)).mono ?_
            rintro e w1 ⟨rfl, hb1⟩
            obtain ⟨hcc, hff⟩ := bcell hb1
            have hbF1 : Below wr.heap.size wr w1 := hbF.trans (hb1.mono (by simp))
            have sz1 : wr.heap.size < w1.heap.size := by have := hb1.size; rw [szF] at this; omega
            have hble : Below (wo.heap.size + 1) W3 w1 := hbi.trans (hbF1.mono (by omega))
            have hblo : Below wo.heap.size wo w1 := hbio.trans (hbF1.mono (by omega))
            have hbl1 : Below (w.heap.size + 1) W1 w1 := hb1w.trans (hbF1.mono (by omega))
            cases hx : leB alone g mem (l k) (l j)
            · go_wp2
              go_roundw
              case rel =>
                refine ⟨k + 1, by omega, by go_num, rfl, fun t ht => ?_, hble⟩
                rcases Nat.lt_or_ge t k with h | h
                · exact HD.out t h
                · obtain rfl : t = k := by omega
                  simp [dropB, HLE.out, hx]
              case measure => simp [intOf]; omega

            · have HB2 : Hid (Built w1 alone g n mem l hs bm bs bg bf bv lb ub ha hc) := HB1.out.later hb1
              have eb1 : w1.cell? ⟨w.heap.size, 0, none⟩ = some (.pointer (some ⟨bs, 0, none⟩)) := (hb1.cell (by show w.heap.size < _; rw [szF]; omega)).trans ebF
              have HX : Hid (leB alone g mem (l k) (l j) = true) := hx
              clear hx ebF
              go_wp2_with fail
              refine (within_any HB2.out j k w.heap.size hjn hkn eb1 (by omega)).mono ?_
              rintro e w2 ⟨rfl, hb2⟩
              have hble2 : Below (wo.heap.size + 1) W3 w2 := hble.trans (hb2.mono (by omega))
              have hblo2 : Below wo.heap.size wo w2 := hblo.trans (hb2.mono (by omega))
              have hbl12 : Below (w.heap.size + 1) W1 w2 := hbl1.trans (hb2.mono (by omega))
              clear hcc hff
              cases hy : leB alone g mem (l j) (l k)
              · go_wp2
                go_roundw
                case rel =>
                  have hkeep : keepB n le j = false := keepB_false hkn (by have h1 := HX.out; have h2 := HK.out; simp [dropB, HLE.out, h1, hy, h2])
                  refine ⟨j + 1, by omega, by go_num, ?_, hbl12⟩
                  rw [kept_succ_no n le j hkeep]
                  exact ownsRow_block HO.out (fun i h1 h2 => (hblo2).block i h2)
                case measure => simp [intOf]; omega

              · by_cases hlt : k < j
                · have hlt' : (k : Int) < (j : Int) := by omega
                  go_wp2
                  go_roundw
                  case rel =>
                    have hkeep : keepB n le j = false := keepB_false hkn (by have h1 := HX.out; have h2 := HK.out; simp [dropB, HLE.out, h1, hlt, h2])
                    refine ⟨j + 1, by omega, by go_num, ?_, hbl12⟩
                    rw [kept_succ_no n le j hkeep]
                    exact ownsRow_block HO.out (fun i h1 h2 => (hblo2).block i h2)
                  case measure => simp [intOf]; omega

                · have hlt' : ¬ (k : Int) < (j : Int) := by omega
                  go_wp2
                  go_roundw
                  case rel =>
                    refine ⟨k + 1, by omega, by go_num, rfl, fun t ht => ?_, hble2⟩
                    rcases Nat.lt_or_ge t k with h | h
                    · exact HD.out t h
                    · obtain rfl : t = k := by omega
                      simp [dropB, HLE.out, hy, hlt]
                  case measure => simp [intOf]; omega

        · have hkeep : keepB n le j = true := keepB_true (fun t ht => HD.out t (by omega))
          have hown2 := (ownsRow_block HO.out (fun i h1 h2 => hbio.block i h2)).alloc (.cells #[.slice (some ⟨lb j, 0, none⟩) g g, .slice (some ⟨ub j, 0, none⟩) 1 1, .slice (ha j) (hs j).length (hc j)] 44)
          have hkl := kept_length n le j
          have HKE : Hid (keepB n le j = true) := hkeep
          clear hkeep
          go_wp2_with (at_builtin; refine wpList_append_own _ rfl _ _ 28 rfl (w.heap.size + 1) 44 i0 (.agg #[.slice none 0 0, .slice none 0 0, .slice none 0 0]) 3 72 Yba.underlying28 hi hz0 hz1 hz2 rfl (by decide) _ _ _ rfl hown2 ⟨wr.heap.size, 0, none⟩ 1 1 [.slice (some ⟨lb j, 0, none⟩) g g, .slice (some ⟨ub j, 0, none⟩) 1 1, .slice (ha j) (hs j).length (hc j)] rfl rfl (news3 _ _ _ _) (one3 _ _ _ _ _ _ _ _ _) (by unfold maxLen; omega) (by omega) (by simp; omega) ?_; intro v' w1 hown1 hgrow1 _)
          go_roundw
          case rel =>
            refine ⟨j + 1, by omega, by go_num, ?_, (hb1w.alloc (by omega) _).grown hgrow1 (by simp; omega) (fun k hk => (hown2.lt k hk).1)⟩
            rw [kept_succ_yes n le j HKE.out]
            simpa [foundCells, cells3, List.flatMap_append] using hown1
          case measure => simp [intOf]; omega
    · obtain rfl : j = n := by omega
      go_wp2
      go_ret
      refine ⟨_, rfl, ?_, hbw⟩
      obtain ⟨h1, h2⟩ := hown
      refine ⟨h1, ?_⟩
      rcases h2 with h2 | ⟨gg, cap, cur, hv, hg', r⟩
      · exact .inl h2
      · exact .inr ⟨gg, cap, cur, hv, by omega, r⟩
end Go.Proofs.Ybulkhfi.A
