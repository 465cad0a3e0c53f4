import Derived.Test.YbulkhgkPlain
namespace Go.Proofs.Ybulkhgk.M
open Go.RowKit
set_option linter.unusedVariables false

theorem eq_struct (a b : Mk) (w : World) : (binOp .eql 30 (.agg #[.int .u64 a.1, .int .i64 a.2.1, .int .i64 a.2.2]) (.agg #[.int .u64 b.1, .int .i64 b.2.1, .int .i64 b.2.2])).run Yba.prog w = .ok (.bool (decide (a = b))) w := by
  obtain ⟨a1, a2, a3⟩ := a
  obtain ⟨b1, b2, b3⟩ := b
  by_cases h1 : a1 = b1
  · by_cases h2 : a2 = b2
    · by_cases h3 : a3 = b3
      · subst h1 h2 h3
        go_simp
      · have e3 : (a3 == b3) = false := by simpa using h3
        subst h1 h2
        go_simp
    · have e3 : (a2 == b2) = false := by simpa using h2
      subst h1
      go_simp
  · have e3 : (a1 == b1) = false := by simpa using h1
    go_simp

/-- Where two marks part: a fact for the walk. -/
theorem mk_ne {a b : Mk} (h : a ≠ b) : (a.1 == b.1) = false ∨ ((a.1 == b.1) = true ∧ (a.2.1 == b.2.1) = false) ∨ ((a.1 == b.1) = true ∧ (a.2.1 == b.2.1) = true ∧ (a.2.2 == b.2.2) = false) := by
  obtain ⟨a1, a2, a3⟩ := a
  obtain ⟨b1, b2, b3⟩ := b
  by_cases h1 : a1 = b1
  · by_cases h2 : a2 = b2
    · by_cases h3 : a3 = b3
      · subst h1 h2 h3; exact absurd rfl h
      · exact .inr (.inr ⟨by simpa using h1, by simpa using h2, by simpa using h3⟩)
    · exact .inr (.inl ⟨by simpa using h1, by simpa using h2⟩)
  · exact .inl (by simpa using h1)

def keeps (n j : Nat) : Bool := decide (n / 2 ≤ j) || decide (j % 2 = 0)
def thinTo (out : List Mk) (k : Nat) : List Mk := ((List.range k).filter (keeps out.length)).map (fun j => out.getD j mk0)
def thin (out : List Mk) : List Mk := thinTo out out.length
def modelL (L : List Mk) (m : Mk) : List Mk := if L.getD (L.length - 1) mk0 = m then L else if L.length + 1 ≤ 64 then L ++ [m] else thin (L ++ [m])

theorem thinTo_succ (out : List Mk) (k : Nat) : thinTo out (k + 1) = if keeps out.length k = true then thinTo out k ++ [out.getD k mk0] else thinTo out k := by
  unfold thinTo
  rw [List.range_succ, List.filter_append, List.map_append]
  cases h : keeps out.length k <;> simp [h]
theorem thinTo_le (out : List Mk) (k : Nat) : (thinTo out k).length ≤ k := by
  unfold thinTo
  have := List.length_filter_le (keeps out.length) (List.range k)
  simpa using this

theorem news30 (w : World) (m : Mk) : ∀ j u, (mc m)[j]? = some u → (w.alloc (.cells #[.int .u64 m.1, .int .i64 m.2.1, .int .i64 m.2.2] 30)).cell? ((⟨w.heap.size, 0, none⟩ : Addr).add j) = some u := by
  intro j u hj
  match j, hj with
  | 0, hj => simp [mc] at hj; subst hj; simp [Addr.add]
  | 1, hj => simp [mc] at hj; subst hj; simp [Addr.add]
  | 2, hj => simp [mc] at hj; subst hj; simp [Addr.add]

theorem drewN_size (w : World) : ∀ n, (w.drewN n).heap.size = w.heap.size
  | 0 => rfl
  | n + 1 => drewN_size w n
theorem owns_slice {w : World} {base : Nat} {e : TypeId} {size : Nat} {v : Value} {n : Nat} {xs : List Value} (h : w.ownsRow base e size v n xs) : ∃ a cap, v = .slice a n cap := by
  rcases h.2 with ⟨rfl, rfl⟩ | ⟨g, cap, cur, rfl, _⟩
  · exact ⟨_, _, rfl⟩
  · exact ⟨_, _, rfl⟩
theorem ownsRow_weak {w : World} {base base' : Nat} {e : TypeId} {size : Nat} {v : Value} {n : Nat} {xs : List Value} (h : w.ownsRow base e size v n xs) (hb : base' ≤ base) : w.ownsRow base' e size v n xs := by
  obtain ⟨h1, h2⟩ := h
  refine ⟨h1, ?_⟩
  rcases h2 with h2 | ⟨g, cap, cur, hv, hg, r⟩
  · exact .inl h2
  · exact .inr ⟨g, cap, cur, hv, Nat.le_trans hb hg, r⟩
theorem take_succ_getD (L : List Mk) (k : Nat) (h : k < L.length) : L.take (k + 1) = L.take k ++ [L.getD k mk0] := by
  rw [show L.getD k mk0 = L[k] from by simp [h]]
  exact (List.take_append_getElem h).symm

set_option maxRecDepth 100000 in
set_option maxHeartbeats 1000000 in
theorem model_any (b : Nat) (v : Value) (L : List Mk) (m : Mk) (w : World) (h : Row w b v L) (hl : 0 < L.length) (hm : L.length ≤ 2000) :
    Calls Yba.prog 6 #[v, .agg #[.int .u64 m.1, .int .i64 m.2.1, .int .i64 m.2.2]] w fun r w' => ∃ v', r = .returned v' ∧ Row w' (w.heap.size + 1) v' (modelL L m) ∧ Below w.heap.size w w' := by
  obtain ⟨i0, hi, hz0, hz1, hz2⟩ := info_parts info30
  obtain ⟨g, cap, _, rfl, _, lg, _⟩ := h.shape hl
  have H := hid_mk h
  clear h
  have hbox := (Below.refl w.heap.size w).alloc (Nat.le_refl _) (.cells #[.int .u64 m.1, .int .i64 m.2.1, .int .i64 m.2.2] 30)
  go_enter Yba.func6, Yba.ntmps6
  go_wp2_with (at_make; refine wpList_make_own _ rfl _ _ 26 rfl (w.heap.size + 1) 30 i0 (.agg #[.int .u64 0, .int .i64 0, .int .i64 0]) 3 Yba.underlying26 hi hz0 hz1 _ _ _ (L.length + 1) rfl rfl rfl (by rw [hz2]; omega) (by unfold maxLen; omega) (by simp) ?_; intro w1 hown1 hgrow1)
  obtain ⟨Wb, hWb⟩ : ∃ W, W = w.alloc (.cells #[.int .u64 m.1, .int .i64 m.2.1, .int .i64 m.2.2] 30) := ⟨_, rfl⟩
  have hszb : Wb.heap.size = w.heap.size + 1 := by rw [hWb]; simp
  have hx0 : Wb.cell? ⟨w.heap.size, 0, none⟩ = some (.int .u64 m.1) := by rw [hWb]; simp
  have hx1 : Wb.cell? ⟨w.heap.size, 1, none⟩ = some (.int .i64 m.2.1) := by rw [hWb]; simp
  have hx2 : Wb.cell? ⟨w.heap.size, 2, none⟩ = some (.int .i64 m.2.2) := by rw [hWb]; simp
  rw [← hWb] at hbox hown1 hgrow1
  rw [hszb] at hown1
  have hb1 : Below (w.heap.size + 1) Wb w1 := (Below.refl _ _).grown hgrow1 (by omega) (fun k h => by cases h)
  have HX := hid_mk (And.intro hx0 (And.intro hx1 hx2))
  clear hWb hgrow1 hx0 hx1 hx2
  go_loopw [5, 6] (fun u i wr => ∃ k : Nat, k ≤ L.length ∧ i = .int .i64 k ∧ Row wr (w.heap.size + 1) u (L.take k) ∧ Below (w.heap.size + 1) Wb wr) (fun _ i _ => L.length - (intOf i).toNat)
  case atStart => exact ⟨0, Nat.zero_le _, rfl, hown1, hb1⟩
  case round =>
    obtain ⟨k, hk, rfl, hR, hb⟩ := hrel
    have hbw : Below w.heap.size w wr := hbox.trans (hb.mono (by omega))
    have hsz : w.heap.size + 1 ≤ wr.heap.size := by have := hb.size; omega
    clear hown1 hb1
    by_cases hkn : k < L.length
    · obtain ⟨d0, d1, d2⟩ := (H.out.later hbw).at hkn
      have ik : (k : Int) < (L.length : Int) := by omega
      have hlt : (L.take k).length = k := by simp; omega
      have HE := hid_mk (take_succ_getD L k hkn)
      generalize L.getD k mk0 = q at *
      have nw := news30 wr q
      have hR2 := (show wr.ownsRow (w.heap.size + 1) 30 3 u5 (L.take k).length (mcs (L.take k)) from hR).alloc (.cells #[.int .u64 q.1, .int .i64 q.2.1, .int .i64 q.2.2] 30)
      have HN := hid_mk (And.intro nw hR2)
      have hb2 : Below (w.heap.size + 1) Wb (wr.alloc (.cells #[.int .u64 q.1, .int .i64 q.2.1, .int .i64 q.2.2] 30)) := hb.alloc hsz _
      clear nw hR2
      go_wp2_with (at_builtin; refine wpList_append_own _ rfl _ _ 26 rfl (w.heap.size + 1) 30 i0 (.agg #[.int .u64 0, .int .i64 0, .int .i64 0]) 3 24 Yba.underlying26 hi hz0 hz1 hz2 rfl (by decide) _ _ _ rfl HN.out.2 ⟨wr.heap.size, 0, none⟩ 1 1 (mc q) rfl rfl HN.out.1 (mc_one q) (by unfold maxLen; omega) (by omega) (by simp; omega) ?_; intro v' w5 hown5 hgrow5 _)
      go_roundw
      case rel =>
        refine ⟨k + 1, by omega, by go_num, ?_, hb2.grown hgrow5 (by simp; omega) (fun g hg => (HN.out.2.lt g hg).1)⟩
        rw [HE.out]
        unfold Row
        rw [mcs_append]
        simpa [mcs] using hown5
      case measure => simp [intOf]; omega
    · obtain rfl : k = L.length := by omega
      rw [List.take_length] at hR
      have hx0 : wr.cell? ⟨w.heap.size, 0, none⟩ = some (.int .u64 m.1) := (hb.cell (by exact Nat.lt_succ_self _)).trans HX.out.1
      have hx1 : wr.cell? ⟨w.heap.size, 1, none⟩ = some (.int .i64 m.2.1) := (hb.cell (by exact Nat.lt_succ_self _)).trans HX.out.2.1
      have hx2 : wr.cell? ⟨w.heap.size, 2, none⟩ = some (.int .i64 m.2.2) := (hb.cell (by exact Nat.lt_succ_self _)).trans HX.out.2.2
      obtain ⟨g2, cap2, _, rfl, hg2, lg2, _⟩ := hR.shape hl
      have HR := hid_mk hR
      obtain ⟨n, hn⟩ : ∃ n, L.length = n + 1 := ⟨L.length - 1, by omega⟩
      obtain ⟨d0, d1, d2⟩ := hR.at (t := n) (by omega)
      clear hk hkn hR
      have HNN := hid_mk hn
      have in0 : (n : Int) < (L.length : Int) := by omega
      have in1 : (L.length : Int) - 1 = (n : Int) := by omega
      have hn2 : n ≤ 1999 := by omega
      have hw64 : IntKind.i64.wrap (n : Int) = (n : Int) := by rw [IntKind.wrap_i64]; omega
      clear hn
      by_cases he : L.getD n mk0 = m
      · have HE := hid_mk he
        rw [he] at d0 d1 d2
        clear he
        go_wp2_with fail
        go_quiet (fail)
        go_wp2
        go_ret
        refine ⟨_, rfl, ?_, below_drewN hbw _⟩
        have hE : modelL L m = L := by unfold modelL; rw [if_pos (by rw [show L.length - 1 = n from by have := HNN.out; omega]; exact HE.out)]
        rw [hE]
        exact HR.out.later (below_drewN (Below.refl _ _) _)
      · have HE := hid_mk he
        obtain ⟨q, hq⟩ : ∃ q, q = L.getD n mk0 := ⟨_, rfl⟩
        rw [← hq] at d0 d1 d2
        rw [← hq] at he
        have heq : ∀ w : World, (binOp .eql 30 (.agg #[.int .u64 q.1, .int .i64 q.2.1, .int .i64 q.2.2]) (.agg #[.int .u64 m.1, .int .i64 m.2.1, .int .i64 m.2.2])).run Yba.prog w = .ok (.bool false) w := fun w => by rw [eq_struct, decide_eq_false he]
        clear he hq
        go_wp2_with fail
        go_quiet (fail)
        have HR2 := hid_mk (HR.out.later (w' := wr.drewN nq) (below_drewN (Below.refl _ _) _))
        have hbD : Below (w.heap.size + 1) Wb (wr.drewN nq) := below_drewN hb _
        have hszD : (wr.drewN nq).heap.size = wr.heap.size := by have := below_drewN (Below.refl 0 wr) nq; exact (drewN_size wr nq)
        obtain ⟨W2, hW2⟩ : ∃ W, W = wr.drewN nq := ⟨_, rfl⟩
        rw [← hW2] at HR2 hbD hszD ⊢
        have hsz2 : w.heap.size + 1 ≤ W2.heap.size := by omega
        clear hW2 hx0 hx1 hx2 d0 d1 d2 heq hszD
        have hx0 : W2.cell? ⟨w.heap.size, 0, none⟩ = some (.int .u64 m.1) := (hbD.cell (by exact Nat.lt_succ_self _)).trans HX.out.1
        have hx1 : W2.cell? ⟨w.heap.size, 1, none⟩ = some (.int .i64 m.2.1) := (hbD.cell (by exact Nat.lt_succ_self _)).trans HX.out.2.1
        have hx2 : W2.cell? ⟨w.heap.size, 2, none⟩ = some (.int .i64 m.2.2) := (hbD.cell (by exact Nat.lt_succ_self _)).trans HX.out.2.2
        have nw := news30 W2 m
        have hR2 := (show W2.ownsRow (w.heap.size + 1) 30 3 (.slice (some ⟨g2, 0, none⟩) L.length cap2) L.length (mcs L) from HR2.out).alloc (.cells #[.int .u64 m.1, .int .i64 m.2.1, .int .i64 m.2.2] 30)
        have HN := hid_mk (And.intro nw hR2)
        have hb2 : Below (w.heap.size + 1) Wb (W2.alloc (.cells #[.int .u64 m.1, .int .i64 m.2.1, .int .i64 m.2.2] 30)) := hbD.alloc (by omega) _
        clear nw hR2
        have hne : L.getD (L.length - 1) mk0 ≠ m := by rw [show L.length - 1 = n from by have := HNN.out; omega]; exact HE.out
        by_cases h64 : L.length + 1 ≤ 64
        · have hd64 : decide ((L.length : Int) + 1 ≤ 64) = true := decide_eq_true (by omega)
          have HM : Hid (modelL L m = L ++ [m]) := by show _ = _; unfold modelL; rw [if_neg hne, if_pos h64]
          clear hne
          go_wp2_with (at_builtin; refine wpList_append_own _ rfl _ _ 26 rfl (w.heap.size + 1) 30 i0 (.agg #[.int .u64 0, .int .i64 0, .int .i64 0]) 3 24 Yba.underlying26 hi hz0 hz1 hz2 rfl (by decide) _ _ _ rfl HN.out.2 ⟨W2.heap.size, 0, none⟩ 1 1 (mc m) rfl rfl HN.out.1 (mc_one m) (by unfold maxLen; omega) (by omega) (by simp; omega) ?_; intro v' w5 hown5 hgrow5 _; obtain ⟨a5, cap5, rfl⟩ := (owns_slice hown5))
          go_ret
          refine ⟨_, rfl, ?_, hbox.trans ((hb2.mono (by omega)).trans (((Below.refl _ _).grown hgrow5 (by simp; omega) (fun g hg => (HN.out.2.lt g hg).1)).mono (Nat.le_succ w.heap.size)))⟩
          rw [HM.out]
          unfold Row
          rw [mcs_append]
          simpa [mcs] using hown5
        · have hd64 : decide ((L.length : Int) + 1 ≤ 64) = false := decide_eq_false (by omega)
          have HM : Hid (modelL L m = thin (L ++ [m])) := by show _ = _; unfold modelL; rw [if_neg hne, if_neg h64]
          clear hne
          go_wp2_with (first | (at_builtin; refine wpList_append_own _ rfl _ _ 26 rfl (w.heap.size + 1) 30 i0 (.agg #[.int .u64 0, .int .i64 0, .int .i64 0]) 3 24 Yba.underlying26 hi hz0 hz1 hz2 rfl (by decide) _ _ _ rfl HN.out.2 ⟨W2.heap.size, 0, none⟩ 1 1 (mc m) rfl rfl HN.out.1 (mc_one m) (by unfold maxLen; omega) (by omega) (by simp; omega) ?_; intro v' w5 hown5 hgrow5 _; obtain ⟨a5, cap5, rfl⟩ := (owns_slice hown5)) | (at_make; refine wpList_make_own _ rfl _ _ 26 rfl w5.heap.size 30 i0 (.agg #[.int .u64 0, .int .i64 0, .int .i64 0]) 3 Yba.underlying26 hi hz0 hz1 _ _ _ (L.length + 1) rfl rfl rfl (by rw [hz2]; omega) (by unfold maxLen; omega) (Nat.le_refl _) ?_; intro w6 hown6 hgrow6))
          have hb5 : Below w.heap.size w w5 := hbox.trans ((hb2.mono (by omega)).trans (((Below.refl _ _).grown hgrow5 (by simp; omega) (fun g hg => (HN.out.2.lt g hg).1)).mono (Nat.le_succ w.heap.size)))
          have hsz5 : w.heap.size + 1 ≤ w5.heap.size := by have := hgrow5.size; simp at this; omega
          obtain ⟨out, hout⟩ : ∃ out, out = L ++ [m] := ⟨_, rfl⟩
          have hlo : out.length = L.length + 1 := by rw [hout]; simp
          have hR5 : Row w5 (w.heap.size + 1) (.slice a5 (L.length + 1) cap5) out := by
            unfold Row
            rw [hlo, hout, mcs_append]
            simpa [mcs] using hown5
          rw [← hout] at HM
          obtain ⟨g5, cap5', _, e5, hg5, lg5, _⟩ := hR5.shape (by omega)
          rw [hlo] at e5
          obtain ⟨rfl, rfl⟩ : a5 = some ⟨g5, 0, none⟩ ∧ cap5 = cap5' := by simpa using e5
          have HR5 := hid_mk hR5
          clear hR5 hout e5 hown5 hgrow5 HN hb2 HR2 hx0 hx1 hx2
          have hb6 : Below w5.heap.size w5 w6 := (Below.refl _ _).grown hgrow6 (Nat.le_refl _) (fun k h => by cases h)
          clear hgrow6
          go_loopw [8, 9] (fun u i wx => ∃ k : Nat, k ≤ L.length + 1 ∧ i = .int .i64 k ∧ Row wx w5.heap.size u (thinTo out k) ∧ Below w5.heap.size w5 wx) (fun _ i _ => L.length + 1 - (intOf i).toNat)
          case atStart => exact ⟨0, Nat.zero_le _, rfl, hown6, hb6⟩
          case round =>
            obtain ⟨k, hk, rfl, hRk, hbk⟩ := hrel
            have hszk := hbk.size
            clear hown6 hb6
            by_cases hkn : k < L.length + 1
            · have HT := hid_mk (thinTo_succ out k)
              have htl := thinTo_le out k
              have ik : (k : Int) < (L.length : Int) + 1 := by omega
              have hR5k := HR5.out.later hbk
              have hR5k' : Row wr (w.heap.size + 1) (.slice (some ⟨g5, 0, none⟩) out.length cap5) out := by rw [hlo]; exact hR5k
              obtain ⟨d0, d1, d2⟩ := hR5k'.at (t := k) (by omega)
              clear hR5k hR5k'
              by_cases hhalf : (L.length + 1) / 2 ≤ k
              · have k1 : decide (((L.length : Int) + 1) / 2 ≤ (k : Int)) = true := decide_eq_true (by omega)
                have HKP : Hid (keeps out.length k = true) := by show _ = _; unfold keeps; rw [hlo, decide_eq_true hhalf]; rfl
                clear hhalf
                obtain ⟨q, hq⟩ : ∃ q, q = out.getD k mk0 := ⟨_, rfl⟩
                rw [← hq] at d0 d1 d2 HT
                clear hq
                have nw := news30 wr q
                have hR2 := (show wr.ownsRow w5.heap.size 30 3 u8 (thinTo out k).length (mcs (thinTo out k)) from hRk).alloc (.cells #[.int .u64 q.1, .int .i64 q.2.1, .int .i64 q.2.2] 30)
                have HN := hid_mk (And.intro nw hR2)
                have hb2 : Below w5.heap.size w5 (wr.alloc (.cells #[.int .u64 q.1, .int .i64 q.2.1, .int .i64 q.2.2] 30)) := hbk.alloc hszk _
                clear nw hR2
                go_wp2_with (at_builtin; refine wpList_append_own _ rfl _ _ 26 rfl w5.heap.size 30 i0 (.agg #[.int .u64 0, .int .i64 0, .int .i64 0]) 3 24 Yba.underlying26 hi hz0 hz1 hz2 rfl (by decide) _ _ _ rfl HN.out.2 ⟨wr.heap.size, 0, none⟩ 1 1 (mc q) rfl rfl HN.out.1 (mc_one q) (by unfold maxLen; omega) (by omega) (by simp; omega) ?_; intro v' w7 hown7 hgrow7 _)
                go_roundw
                case rel =>
                  refine ⟨k + 1, by omega, by go_num, ?_, hb2.grown hgrow7 (by simp; omega) (fun g hg => (HN.out.2.lt g hg).1)⟩
                  rw [HT.out, if_pos HKP.out]
                  unfold Row
                  rw [mcs_append]
                  simpa [mcs] using hown7
                case measure => simp [intOf]; omega
              · have k1 : decide (((L.length : Int) + 1) / 2 ≤ (k : Int)) = false := decide_eq_false (by omega)
                by_cases hev : k % 2 = 0
                · have k2 : ((k : Int) % 2 == 0) = true := by rw [beq_iff_eq]; omega
                  have HKP : Hid (keeps out.length k = true) := by show _ = _; unfold keeps; rw [decide_eq_true hev]; simp
                  clear hhalf hev
                  obtain ⟨q, hq⟩ : ∃ q, q = out.getD k mk0 := ⟨_, rfl⟩
                  rw [← hq] at d0 d1 d2 HT
                  clear hq
                  have nw := news30 wr q
                  have hR2 := (show wr.ownsRow w5.heap.size 30 3 u8 (thinTo out k).length (mcs (thinTo out k)) from hRk).alloc (.cells #[.int .u64 q.1, .int .i64 q.2.1, .int .i64 q.2.2] 30)
                  have HN := hid_mk (And.intro nw hR2)
                  have hb2 : Below w5.heap.size w5 (wr.alloc (.cells #[.int .u64 q.1, .int .i64 q.2.1, .int .i64 q.2.2] 30)) := hbk.alloc hszk _
                  clear nw hR2
                  go_wp2_with (at_builtin; refine wpList_append_own _ rfl _ _ 26 rfl w5.heap.size 30 i0 (.agg #[.int .u64 0, .int .i64 0, .int .i64 0]) 3 24 Yba.underlying26 hi hz0 hz1 hz2 rfl (by decide) _ _ _ rfl HN.out.2 ⟨wr.heap.size, 0, none⟩ 1 1 (mc q) rfl rfl HN.out.1 (mc_one q) (by unfold maxLen; omega) (by omega) (by simp; omega) ?_; intro v' w7 hown7 hgrow7 _)
                  go_roundw
                  case rel =>
                    refine ⟨k + 1, by omega, by go_num, ?_, hb2.grown hgrow7 (by simp; omega) (fun g hg => (HN.out.2.lt g hg).1)⟩
                    rw [HT.out, if_pos HKP.out]
                    unfold Row
                    rw [mcs_append]
                    simpa [mcs] using hown7
                  case measure => simp [intOf]; omega
                · have k2 : ((k : Int) % 2 == 0) = false := by rw [beq_eq_false_iff_ne]; omega
                  have HKP : Hid (¬ keeps out.length k = true) := by show ¬ _; unfold keeps; rw [hlo, decide_eq_false hhalf, decide_eq_false hev]; simp
                  clear hhalf hev
                  go_wp2_with fail
                  go_roundw
                  case rel =>
                    refine ⟨k + 1, by omega, by go_num, ?_, hbk⟩
                    rw [HT.out, if_neg HKP.out]
                    exact hRk
                  case measure => simp [intOf]; omega
            · obtain rfl : k = L.length + 1 := by omega
              go_wp2
              go_ret
              refine ⟨_, rfl, ?_, hb5.trans (hbk.mono (by omega))⟩
              rw [HM.out]
              unfold thin
              rw [hlo]
              exact ownsRow_weak hRk hsz5
end Go.Proofs.Ybulkhgk.M
