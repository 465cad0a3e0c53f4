import Derived.Test.YbulkhgkConv
namespace Go.Proofs.Ybulkhgk.M
open Go.RowKit
set_option linter.unusedVariables false

/-- The marks that the law lays: the origin, then the first k that came in. -/
def pre (D : Nat → Mk) (k : Nat) : List Mk := (0, 1, 0) :: (List.range k).map D
theorem pre_succ (D : Nat → Mk) (k : Nat) : pre D (k + 1) = pre D k ++ [D k] := by simp [pre, List.range_succ]
theorem pre_len (D : Nat → Mk) (k : Nat) : (pre D k).length = k + 1 := by simp [pre]

theorem size30 : (Yba.prog.info? 30).map (·.size) = some 3 := by kernel_rfl
/-- copy of the marks L over a row of as many. -/
theorem run_copy_marks {P : Program} {w : World} (dT sT ty elem : TypeId) (hu : P.underlying dT = some (.slice elem)) (hsz : (P.info? elem).map (·.size) = some 3)
    (B g : Nat) (xs : List Value) (b2 g2 c2 : Nat) (L : List Mk)
    (HD : w.ownsRow B 30 3 (.slice (some ⟨g, 0, none⟩) L.length L.length) L.length xs) (HS : Row w b2 (.slice (some ⟨g2, 0, none⟩) L.length c2) L) :
    ∃ w', (Builtin.copy_ #[dT, sT] ty #[.slice (some ⟨g, 0, none⟩) L.length L.length, .slice (some ⟨g2, 0, none⟩) L.length c2]).run P w = .ok (goInt L.length) w' ∧
      Row w' B (.slice (some ⟨g, 0, none⟩) L.length L.length) L ∧ Below B w w' := by
  rcases HD.2 with ⟨e, _⟩ | ⟨g', cap', cur, e, hB, hh, h1, h2, h3, h4⟩
  · simp at e
  · simp only [Value.slice.injEq, Option.some.injEq, Addr.mk.injEq, and_true, true_and] at e
    obtain ⟨rfl, rfl⟩ := e
    have hlen := mcs_length L
    have e0 : Nat.min L.length L.length = L.length := Nat.min_self _
    have hrun := run_copy_many P w dT sT ty elem g 0 L.length L.length ⟨g2, 0, none⟩ L.length c2 3 cur 30 (mcs L) hu hsz hh (by rw [hlen]; simp) (fun j v hj => by
      have hjl : j < (mcs L).length := (List.getElem?_eq_some_iff.1 hj).1
      have := HS.cellAt j (by omega)
      rw [show (⟨g2, 0, none⟩ : Addr).add j = ⟨g2, j, none⟩ from by simp [Addr.add]; omega, this]
      exact hj) (by rw [hlen]; omega) (mcs_one L)
    rw [e0] at hrun
    refine ⟨_, hrun, ⟨hlen, .inr ⟨g, L.length, _, rfl, hB, setRow_heap w g _ _ 30 _ hh, Nat.le_refl _, h2, ?_, ?_⟩⟩, below_setRow (Below.refl _ _) hB _⟩
    · simp [hlen]; omega
    · simp [← hlen]
theorem modelL_len2 (L : List Mk) (m : Mk) (h0 : 0 < L.length) : 0 < (modelL L m).length ∧ (modelL L m).length ≤ L.length + 1 := by
  unfold modelL
  split
  · exact ⟨h0, by omega⟩
  · split
    · simp
    · rw [thin_len]; simp; omega

set_option maxRecDepth 100000 in
set_option maxHeartbeats 4000000 in
theorem step_any (a0 : Option Addr) (N cap : Nat) (D : Nat → Mk) (m : Mk) (s : Int) (w : World) (hN : N ≤ 1024) (hs0 : 0 ≤ s) (hs1 : s ≤ 255)
    (hx : N = 0 ∨ ∃ b off, a0 = some ⟨b, off, none⟩ ∧ b < w.heap.size ∧ ∀ i, i < N → w.cell? ⟨b, off + i * 3, none⟩ = some (.int .u64 (D i).1) ∧ w.cell? ⟨b, off + i * 3 + 1, none⟩ = some (.int .i64 (D i).2.1) ∧ w.cell? ⟨b, off + i * 3 + 2, none⟩ = some (.int .i64 (D i).2.2)) :
    Calls Yba.prog 3 #[.slice a0 N cap, .agg #[.int .u64 m.1, .int .i64 m.2.1, .int .i64 m.2.2], .int .u8 s] w fun e w' => e = .returned (.bool true) ∧ Below w.heap.size w w' := by
  obtain ⟨i0, hi, hz0, hz1, hz2⟩ := info_parts info30
  have HX := hid_mk hx
  clear hx
  have hbox := (Below.refl w.heap.size w).alloc (Nat.le_refl _) (.cells #[.int .u64 m.1, .int .i64 m.2.1, .int .i64 m.2.2] 25)
  go_enter Yba.func3, Yba.ntmps3
  go_wp2_with (first | (at_make; refine wpList_make_own _ rfl _ _ 26 rfl (w.heap.size + 1) 30 i0 (.agg #[.int .u64 0, .int .i64 0, .int .i64 0]) 3 Yba.underlying26 hi hz0 hz1 _ _ _ (N + 1) rfl rfl rfl (by rw [hz2]; omega) (by unfold maxLen; omega) (by simp) ?_; intro w1 hown1 hgrow1; replace hown1 : w1.ownsRow (w.heap.size + 1) 30 3 (.slice (some ⟨w.heap.size + 1, 0, none⟩) 0 (N + 1)) 0 [] := (by simpa using hown1); have hsz1 : w.heap.size + 1 ≤ w1.heap.size := (by have := hgrow1.size; simp at this; omega)) | (at_builtin; refine wpList_append_own _ rfl _ _ 26 rfl (w.heap.size + 1) 30 i0 (.agg #[.int .u64 0, .int .i64 0, .int .i64 0]) 3 24 Yba.underlying26 hi hz0 hz1 hz2 rfl (by decide) _ _ _ rfl (hown1.alloc (.cells #[.int .u64 0, .int .i64 1, .int .i64 0] 30)) ⟨w1.heap.size, 0, none⟩ 1 1 (mc (0, 1, 0)) rfl rfl (news30 w1 (0, 1, 0)) (mc_one (0, 1, 0)) (by unfold maxLen; omega) (by omega) (by simp; omega) ?_; intro v2 w2 hown2 hgrow2 _))
  obtain ⟨Wb, hWb⟩ : ∃ W, W = w.alloc (.cells #[.int .u64 m.1, .int .i64 m.2.1, .int .i64 m.2.2] 25) := ⟨_, rfl⟩
  have hszb : Wb.heap.size = w.heap.size + 1 := by rw [hWb]; simp
  have hx0 : Wb.cell? ⟨w.heap.size, 0, none⟩ = some (.int .u64 m.1) := by rw [hWb]; simp
  have hx1 : Wb.cell? ⟨w.heap.size, 1, none⟩ = some (.int .i64 m.2.1) := by rw [hWb]; simp
  have hx2 : Wb.cell? ⟨w.heap.size, 2, none⟩ = some (.int .i64 m.2.2) := by rw [hWb]; simp
  rw [← hWb] at hbox hgrow1
  have hb1 : Below (w.heap.size + 1) Wb w1 := (Below.refl _ _).grown hgrow1 (by omega) (fun k h => by cases h)
  have hb2 : Below (w.heap.size + 1) Wb w2 := (hb1.alloc hsz1 _).grown hgrow2 (by simp; omega) (fun g hg => by cases hg; exact Nat.le_refl _)
  have hR2 : Row w2 (w.heap.size + 1) v2 (pre D 0) := by
    unfold Row pre
    simpa [mcs] using hown2
  have HB := hid_mk (And.intro hx0 (And.intro hx1 (And.intro hx2 (And.intro hbox hszb))))
  have H2 := hid_mk (And.intro hR2 hb2)
  clear hWb hgrow1 hgrow2 hx0 hx1 hx2 hbox hszb hown1 hown2 hb1 hb2 hR2
  go_loopw [7, 8] (fun u i wr => ∃ k : Nat, k ≤ N ∧ i = .int .i64 k ∧ Row wr (w.heap.size + 1) u (pre D k) ∧ Below (w.heap.size + 1) Wb wr) (fun _ i _ => N - (intOf i).toNat)
  case atStart => exact ⟨0, Nat.zero_le _, rfl, H2.out.1, H2.out.2⟩
  case round =>
    obtain ⟨k, hk, rfl, hR, hb⟩ := hrel
    have hbw : Below w.heap.size w wr := HB.out.2.2.2.1.trans (hb.mono (by omega))
    have hsz : w.heap.size + 1 ≤ wr.heap.size := by have := hb.size; have := HB.out.2.2.2.2; omega
    clear H2
    by_cases hkn : k < N
    · have HE := hid_mk (pre_succ D k)
      have hlk := pre_len D k
      obtain ⟨Lk, hLk⟩ : ∃ L, L = pre D k := ⟨_, rfl⟩
      rw [← hLk] at HE hlk hR
      have HR := hid_mk hR
      rcases HX.out with h0 | ⟨b, off, rfl, hbs, hel⟩
      · omega
      obtain ⟨d0, d1, d2⟩ := hel k hkn
      have e0 : wr.cell? ⟨b, off + k * 3, none⟩ = some (.int .u64 (D k).1) := (hbw.cell hbs).trans d0
      have e1 : wr.cell? ⟨b, off + k * 3 + 1, none⟩ = some (.int .i64 (D k).2.1) := (hbw.cell hbs).trans d1
      have e2 : wr.cell? ⟨b, off + k * 3 + 2, none⟩ = some (.int .i64 (D k).2.2) := (hbw.cell hbs).trans d2
      have ik : (k : Int) < (N : Int) := by omega
      clear hel d0 d1 d2 hR hLk
      generalize D k = q at *
      go_wp2_with fail
      refine (conv_any q wr).mono ?_
      rintro _ w3 ⟨rfl, hb3⟩
      have hR3 := (show w3.ownsRow (w.heap.size + 1) 30 3 u7 Lk.length (mcs Lk) from HR.out.later hb3).alloc (.cells #[.int .u64 q.1, .int .i64 q.2.1, .int .i64 q.2.2] 30)
      have hsz3 := hb3.size
      have hb4 : Below (w.heap.size + 1) Wb (w3.alloc (.cells #[.int .u64 q.1, .int .i64 q.2.1, .int .i64 q.2.2] 30)) := (hb.trans (hb3.mono hsz)).alloc (by omega) _
      have HN := hid_mk (And.intro (news30 w3 q) hR3)
      clear hR3 e0 e1 e2
      go_wp2_with (at_builtin; refine wpList_append_own _ rfl _ _ 26 rfl (w.heap.size + 1) 30 i0 (.agg #[.int .u64 0, .int .i64 0, .int .i64 0]) 3 24 Yba.underlying26 hi hz0 hz1 hz2 rfl (by decide) _ _ _ rfl HN.out.2 ⟨w3.heap.size, 0, none⟩ 1 1 (mc q) rfl rfl HN.out.1 (mc_one q) (by unfold maxLen; omega) (by omega) (by simp; omega) ?_; intro v' w5 hown5 hgrow5 _)
      go_roundw
      case rel =>
        refine ⟨k + 1, by omega, by go_num, ?_, hb4.grown hgrow5 (by simp; omega) (fun g hg => (HN.out.2.lt g hg).1)⟩
        rw [HE.out]
        unfold Row
        rw [mcs_append]
        simpa [mcs] using hown5
      case measure => simp [intOf]; omega
    · obtain rfl : k = N := by omega
      have hlk := pre_len D k
      obtain ⟨L, hL⟩ : ∃ L, L = pre D k := ⟨_, rfl⟩
      rw [← hL] at hlk hR
      clear hL HX
      have hx0 : wr.cell? ⟨w.heap.size, 0, none⟩ = some (.int .u64 m.1) := (hb.cell (by exact Nat.lt_succ_self _)).trans HB.out.1
      have hx1 : wr.cell? ⟨w.heap.size, 1, none⟩ = some (.int .i64 m.2.1) := (hb.cell (by exact Nat.lt_succ_self _)).trans HB.out.2.1
      have hx2 : wr.cell? ⟨w.heap.size, 2, none⟩ = some (.int .i64 m.2.2) := (hb.cell (by exact Nat.lt_succ_self _)).trans HB.out.2.2.1
      have hl0 : 0 < L.length := by omega
      have hl1 : L.length ≤ 1025 := by omega
      obtain ⟨g7, cap7, _, rfl, hg7, lg7, _⟩ := hR.shape hl0
      have HR := hid_mk hR
      clear hR HB hk hkn hb
      have HK := hid_mk hlk
      clear hlk
      go_wp2_with fail
      refine (conv_any m wr).mono ?_
      rintro _ w3 ⟨rfl, hb3⟩
      have hsz3 := hb3.size
      have hbw3 : Below w.heap.size w w3 := hbw.trans (hb3.mono (by omega))
      have hR3 := HR.out.later hb3
      have lg3 : g7 < w3.heap.size := by omega
      have hmod : s.tmod 3 = s % 3 := Int.tmod_eq_emod_of_nonneg hs0
      by_cases hs3 : s % 3 = 0
      · have h3 : (s % 3 == 0) = true := by rw [beq_iff_eq]; exact hs3
        obtain ⟨p, hp⟩ : ∃ p, L.length = p + 1 := ⟨L.length - 1, by omega⟩
        obtain ⟨d0, d1, d2⟩ := hR3.at (t := p) (by omega)
        obtain ⟨q, hq⟩ : ∃ q, q = L.getD p mk0 := ⟨_, rfl⟩
        rw [← hq] at d0 d1 d2
        have ip0 : (p : Int) < (L.length : Int) := by omega
        have ip1 : (L.length : Int) - 1 = (p : Int) := by omega
        have hp2 : p ≤ 1024 := by omega
        have hw64 : IntKind.i64.wrap (p : Int) = (p : Int) := by rw [IntKind.wrap_i64]; omega
        have HPP := hid_mk (And.intro hp (And.intro hq (And.intro hs3 hR3)))
        clear hp hq hs3 hx0 hx1 hx2 hR3
        go_wp2_with fail
        obtain ⟨Wn, hWn⟩ : ∃ W, W = w3.alloc (.cells #[.int .u64 q.1, .int .i64 q.2.1, .int .i64 q.2.2] 30) := ⟨_, rfl⟩
        have hszn : Wn.heap.size = w3.heap.size + 1 := by rw [hWn]; simp
        have hx0 : Wn.cell? ⟨w3.heap.size, 0, none⟩ = some (.int .u64 q.1) := by rw [hWn]; simp
        have hx1 : Wn.cell? ⟨w3.heap.size, 1, none⟩ = some (.int .i64 q.2.1) := by rw [hWn]; simp
        have hx2 : Wn.cell? ⟨w3.heap.size, 2, none⟩ = some (.int .i64 q.2.2) := by rw [hWn]; simp
        have hbn : Below w.heap.size w Wn := by rw [hWn]; exact hbw3.alloc (by omega) _
        have hRn : Row Wn (w.heap.size + 1) (.slice (some ⟨g7, 0, none⟩) L.length cap7) L := HPP.out.2.2.2.later (by rw [hWn]; exact (Below.refl _ _).alloc (Nat.le_refl _) _)
        rw [← hWn]
        clear hWn
        refine (model_any (w.heap.size + 1) _ L q Wn hRn hl0 (by omega)).mono ?_
        rintro _ w4 ⟨vm, rfl, hR4, hb4⟩
        obtain ⟨hM0, hM1⟩ := modelL_len2 L q hl0
        obtain ⟨M, hM⟩ : ∃ M, M = modelL L q := ⟨_, rfl⟩
        rw [← hM] at hM0 hM1 hR4
        have HM := hid_mk hM
        obtain ⟨gm, cm, _, rfl, hgm, lgm, _⟩ := hR4.shape hM0
        have hbn4 : Below w.heap.size w w4 := hbn.trans (hb4.mono hbn.size)
        have hsz4 := hb4.size
        have H4 := hid_mk (And.intro (hRn.later hb4) hR4)
        have HX4 := hid_mk (And.intro ((hb4.cell (by rw [hszn]; exact Nat.lt_succ_self _)).trans hx0) (And.intro ((hb4.cell (by rw [hszn]; exact Nat.lt_succ_self _)).trans hx1) ((hb4.cell (by rw [hszn]; exact Nat.lt_succ_self _)).trans hx2)))
        clear hM hRn hR4 hx0 hx1 hx2
        go_wp2_with (at_make; refine wpList_make_full _ rfl _ _ 26 rfl w4.heap.size 30 i0 (.agg #[.int .u64 0, .int .i64 0, .int .i64 0]) 3 Yba.underlying26 hi hz0 hz1 _ _ _ _ L.length rfl rfl rfl rfl (by rw [hz2]; omega) (by unfold maxLen; omega) (Nat.le_refl _) ?_; intro w5 hown5 hgrow5; have hb5 : Below w4.heap.size w4 w5 := (Below.refl _ _).grown hgrow5 (Nat.le_refl _) (fun k h => (by cases h)); have H5 := hid_mk hown5; clear hown5 hgrow5)
        obtain ⟨w6, hrun6, hR6, hb6⟩ := run_copy_marks 26 26 3 30 Yba.underlying26 size30 w4.heap.size w4.heap.size _ (w.heap.size + 1) g7 cap7 L H5.out (H4.out.1.later hb5)
        rw [hrun6]
        clear hrun6
        have hb46 : Below w4.heap.size w4 w6 := hb5.trans hb6
        have hsz6 := hb46.size
        have lx : w3.heap.size < w6.heap.size := by omega
        have x0 : w6.cell? ⟨w3.heap.size, 0, none⟩ = some (.int .u64 q.1) := (hb46.cell (show w3.heap.size < w4.heap.size from by omega)).trans HX4.out.1
        have x1 : w6.cell? ⟨w3.heap.size, 1, none⟩ = some (.int .i64 q.2.1) := (hb46.cell (show w3.heap.size < w4.heap.size from by omega)).trans HX4.out.2.1
        have x2 : w6.cell? ⟨w3.heap.size, 2, none⟩ = some (.int .i64 q.2.2) := (hb46.cell (show w3.heap.size < w4.heap.size from by omega)).trans HX4.out.2.2
        have H6 := hid_mk hR6
        clear hR6 H5
        go_wp2_with fail
        obtain ⟨W7, hW7⟩ : ∃ W, W = w6.alloc (.cells #[.int .i32 0, .int .u32 0, .int .u64 0, .int .u64 0, .slice none 0 0, .int .i64 0, .int .i64 0, .slice (some ⟨w4.heap.size, 0, none⟩) L.length L.length, .int .u64 0, .int .i64 0, .int .i64 0, .string ⟨#[]⟩] 43) := ⟨_, rfl⟩
        have hb67 : Below w6.heap.size w6 W7 := by rw [hW7]; exact (Below.refl _ _).alloc (Nat.le_refl _) _
        have hT7 : Trl W7 w6.heap.size (.slice (some ⟨w4.heap.size, 0, none⟩) L.length L.length) := by rw [hW7]; exact ⟨_, heap_alloc_new w6 _, rfl⟩
        rw [← hW7]
        clear hW7 x0 x1 x2
        have hb47 : Below w4.heap.size w4 W7 := hb46.trans (hb67.mono hsz6)
        have hR7 := H6.out.later hb67
        have hRm7 := H4.out.2.later hb47
        have hbn7 : Below w.heap.size w W7 := hbn4.trans (hb47.mono hbn4.size)
        have hsz7 := hb47.size
        have hszw := hbn4.size
        refine (mark_any w6.heap.size w4.heap.size _ L q W7 hT7 hR7 hsz7 hl0 (by omega)).mono ?_
        rintro _ w8 ⟨rfl, v8, hT8, hR8, hF8⟩
        rw [← HM.out] at hR8
        have hRm8 := hRm7.frm hF8 (hT7.ne hRm7) (by simp [Value.ownBlock]; omega)
        have hbn8 : Below w.heap.size w w8 := hbn7.trans ⟨hF8.os, hF8.tape, hF8.output, hF8.size, fun i hi => hF8.block i (by omega) (by omega) (by simp [Value.ownBlock]; omega)⟩
        obtain ⟨a8, cap8, rfl⟩ := owns_slice hR8
        obtain ⟨y1, _⟩ := hT8.cell
        have H8 := hid_mk (And.intro hR8 hRm8)
        clear hR8 hRm8 hF8 hT8 hT7 hR7 hRm7
        go_wp2_with fail
        refine (eq_any w4.heap.size (Wn.heap.size + 1) _ _ M w8 H8.out.1 H8.out.2 hM0 (by omega)).mono ?_
        rintro _ w9 ⟨rfl, hb9⟩
        go_wp2_with fail
        go_ret
        exact ⟨rfl, hbn8.trans (hb9.mono hbn8.size)⟩
      · have h3 : (s % 3 == 0) = false := by rw [beq_eq_false_iff_ne]; exact hs3
        have HPP := hid_mk (And.intro hs3 hR3)
        clear hs3 hx0 hx1 hx2 hR3
        go_wp2_with fail
        obtain ⟨Wn, hWn⟩ : ∃ W, W = w3.alloc (.cells #[.int .u64 m.1, .int .i64 m.2.1, .int .i64 m.2.2] 30) := ⟨_, rfl⟩
        have hszn : Wn.heap.size = w3.heap.size + 1 := by rw [hWn]; simp
        have hx0 : Wn.cell? ⟨w3.heap.size, 0, none⟩ = some (.int .u64 m.1) := by rw [hWn]; simp
        have hx1 : Wn.cell? ⟨w3.heap.size, 1, none⟩ = some (.int .i64 m.2.1) := by rw [hWn]; simp
        have hx2 : Wn.cell? ⟨w3.heap.size, 2, none⟩ = some (.int .i64 m.2.2) := by rw [hWn]; simp
        have hbn : Below w.heap.size w Wn := by rw [hWn]; exact hbw3.alloc (by omega) _
        have hRn : Row Wn (w.heap.size + 1) (.slice (some ⟨g7, 0, none⟩) L.length cap7) L := HPP.out.2.later (by rw [hWn]; exact (Below.refl _ _).alloc (Nat.le_refl _) _)
        rw [← hWn]
        clear hWn
        refine (model_any (w.heap.size + 1) _ L m Wn hRn hl0 (by omega)).mono ?_
        rintro _ w4 ⟨vm, rfl, hR4, hb4⟩
        obtain ⟨hM0, hM1⟩ := modelL_len2 L m hl0
        obtain ⟨M, hM⟩ : ∃ M, M = modelL L m := ⟨_, rfl⟩
        rw [← hM] at hM0 hM1 hR4
        have HM := hid_mk hM
        obtain ⟨gm, cm, _, rfl, hgm, lgm, _⟩ := hR4.shape hM0
        have hbn4 : Below w.heap.size w w4 := hbn.trans (hb4.mono hbn.size)
        have hsz4 := hb4.size
        have H4 := hid_mk (And.intro (hRn.later hb4) hR4)
        have HX4 := hid_mk (And.intro ((hb4.cell (by rw [hszn]; exact Nat.lt_succ_self _)).trans hx0) (And.intro ((hb4.cell (by rw [hszn]; exact Nat.lt_succ_self _)).trans hx1) ((hb4.cell (by rw [hszn]; exact Nat.lt_succ_self _)).trans hx2)))
        clear hM hRn hR4 hx0 hx1 hx2
        go_wp2_with (at_make; refine wpList_make_full _ rfl _ _ 26 rfl w4.heap.size 30 i0 (.agg #[.int .u64 0, .int .i64 0, .int .i64 0]) 3 Yba.underlying26 hi hz0 hz1 _ _ _ _ L.length rfl rfl rfl rfl (by rw [hz2]; omega) (by unfold maxLen; omega) (Nat.le_refl _) ?_; intro w5 hown5 hgrow5; have hb5 : Below w4.heap.size w4 w5 := (Below.refl _ _).grown hgrow5 (Nat.le_refl _) (fun k h => (by cases h)); have H5 := hid_mk hown5; clear hown5 hgrow5)
        obtain ⟨w6, hrun6, hR6, hb6⟩ := run_copy_marks 26 26 3 30 Yba.underlying26 size30 w4.heap.size w4.heap.size _ (w.heap.size + 1) g7 cap7 L H5.out (H4.out.1.later hb5)
        rw [hrun6]
        clear hrun6
        have hb46 : Below w4.heap.size w4 w6 := hb5.trans hb6
        have hsz6 := hb46.size
        have lx : w3.heap.size < w6.heap.size := by omega
        have x0 : w6.cell? ⟨w3.heap.size, 0, none⟩ = some (.int .u64 m.1) := (hb46.cell (show w3.heap.size < w4.heap.size from by omega)).trans HX4.out.1
        have x1 : w6.cell? ⟨w3.heap.size, 1, none⟩ = some (.int .i64 m.2.1) := (hb46.cell (show w3.heap.size < w4.heap.size from by omega)).trans HX4.out.2.1
        have x2 : w6.cell? ⟨w3.heap.size, 2, none⟩ = some (.int .i64 m.2.2) := (hb46.cell (show w3.heap.size < w4.heap.size from by omega)).trans HX4.out.2.2
        have H6 := hid_mk hR6
        clear hR6 H5
        go_wp2_with fail
        obtain ⟨W7, hW7⟩ : ∃ W, W = w6.alloc (.cells #[.int .i32 0, .int .u32 0, .int .u64 0, .int .u64 0, .slice none 0 0, .int .i64 0, .int .i64 0, .slice (some ⟨w4.heap.size, 0, none⟩) L.length L.length, .int .u64 0, .int .i64 0, .int .i64 0, .string ⟨#[]⟩] 43) := ⟨_, rfl⟩
        have hb67 : Below w6.heap.size w6 W7 := by rw [hW7]; exact (Below.refl _ _).alloc (Nat.le_refl _) _
        have hT7 : Trl W7 w6.heap.size (.slice (some ⟨w4.heap.size, 0, none⟩) L.length L.length) := by rw [hW7]; exact ⟨_, heap_alloc_new w6 _, rfl⟩
        rw [← hW7]
        clear hW7 x0 x1 x2
        have hb47 : Below w4.heap.size w4 W7 := hb46.trans (hb67.mono hsz6)
        have hR7 := H6.out.later hb67
        have hRm7 := H4.out.2.later hb47
        have hbn7 : Below w.heap.size w W7 := hbn4.trans (hb47.mono hbn4.size)
        have hsz7 := hb47.size
        have hszw := hbn4.size
        refine (mark_any w6.heap.size w4.heap.size _ L m W7 hT7 hR7 hsz7 hl0 (by omega)).mono ?_
        rintro _ w8 ⟨rfl, v8, hT8, hR8, hF8⟩
        rw [← HM.out] at hR8
        have hRm8 := hRm7.frm hF8 (hT7.ne hRm7) (by simp [Value.ownBlock]; omega)
        have hbn8 : Below w.heap.size w w8 := hbn7.trans ⟨hF8.os, hF8.tape, hF8.output, hF8.size, fun i hi => hF8.block i (by omega) (by omega) (by simp [Value.ownBlock]; omega)⟩
        obtain ⟨a8, cap8, rfl⟩ := owns_slice hR8
        obtain ⟨y1, _⟩ := hT8.cell
        have H8 := hid_mk (And.intro hR8 hRm8)
        clear hR8 hRm8 hF8 hT8 hT7 hR7 hRm7
        go_wp2_with fail
        refine (eq_any w4.heap.size (Wn.heap.size + 1) _ _ M w8 H8.out.1 H8.out.2 hM0 (by omega)).mono ?_
        rintro _ w9 ⟨rfl, hb9⟩
        go_wp2_with fail
        go_ret
        exact ⟨rfl, hbn8.trans (hb9.mono hbn8.size)⟩
end Go.Proofs.Ybulkhgk.M
