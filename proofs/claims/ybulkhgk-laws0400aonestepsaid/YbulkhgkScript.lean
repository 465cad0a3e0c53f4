import Derived.Test.YbulkhgkMark
namespace Go.Proofs.Ybulkhgk.M
open Go.RowKit
set_option linter.unusedVariables false

theorem thin_len (out : List Mk) : (thin out).length = (out.length / 2 + 1) / 2 + (out.length - out.length / 2) := by
  rw [thin_eq out _ rfl, List.length_append, evs_length, List.length_drop]
theorem modelL_len (L : List Mk) (m : Mk) (h0 : 0 < L.length) (h1 : L.length ≤ 64) : 0 < (modelL L m).length ∧ (modelL L m).length ≤ 64 := by
  unfold modelL
  split
  · exact ⟨h0, h1⟩
  · split
    · simp; omega
    · rw [thin_len]; simp; omega
theorem add_block (x : Addr) (k : Nat) : (x.add k).block = x.block := by unfold Addr.add; split <;> rfl

theorem Row.frm {w w' : World} {Tb b : Nat} {row : Option Nat} {v : Value} {L : List Mk} (h : Row w b v L) (hF : Frm Tb row w w') (h1 : v.ownBlock ≠ some Tb) (h2 : v.ownBlock ≠ row) : Row w' b v L :=
  h.block (fun g hg => hF.block g (h.lt g hg).2 (by rintro rfl; exact h1 hg) (by rw [← hg]; exact h2))

def first : List Mk := [(0, 1, 0)]

/-- Where the script stands: the trail in block Tb and the model hold the same marks. -/
structure Scr (w wr : World) (Tb : Nat) (vt vm : Value) (L : List Mk) : Prop where
  trl : Trl wr Tb vt
  rt : Row wr w.heap.size vt L
  rm : Row wr w.heap.size vm L
  ne : vm.ownBlock ≠ vt.ownBlock
  lo : 0 < L.length
  hi : L.length ≤ 64
  bel : Below w.heap.size w wr
  low : w.heap.size ≤ Tb
theorem Scr.later {w wr w' : World} {Tb : Nat} {vt vm : Value} {L : List Mk} (h : Scr w wr Tb vt vm L) (hb : Below wr.heap.size wr w') : Scr w w' Tb vt vm L :=
  ⟨h.trl.later hb, h.rt.later hb, h.rm.later hb, h.ne, h.lo, h.hi, h.bel.trans (hb.mono h.bel.size), h.low⟩
theorem scr_start (w : World) (cur : Array Value) (h7 : cur[7]? = some (.slice (some ⟨w.heap.size + 1, 0, none⟩) 1 1)) :
    Scr w (((w.alloc (.cells #[.int .u64 0, .int .i64 1, .int .i64 0] 30)).alloc (.cells #[.int .u64 0, .int .i64 1, .int .i64 0] 30)).alloc (.cells cur 43)) (w.heap.size + 1 + 1) (.slice (some ⟨w.heap.size + 1, 0, none⟩) 1 1) (.slice (some ⟨w.heap.size, 0, none⟩) 1 1) first := by
  have r1 : Row (w.alloc (.cells #[.int .u64 0, .int .i64 1, .int .i64 0] 30)) w.heap.size (.slice (some ⟨w.heap.size, 0, none⟩) 1 1) first := World.ownsRow_lit w _ 1 (Nat.le_refl _) (by decide) rfl
  have r2 := World.ownsRow_lit (base := w.heap.size) (e := 30) (size := 3) (w.alloc (.cells #[.int .u64 0, .int .i64 1, .int .i64 0] 30)) #[.int .u64 0, .int .i64 1, .int .i64 0] 1 (by simp) (by decide) rfl
  have e1 : (w.alloc (.cells #[.int .u64 0, .int .i64 1, .int .i64 0] 30)).heap.size = w.heap.size + 1 := by simp
  rw [e1] at r2
  have e2 : ((w.alloc (.cells #[.int .u64 0, .int .i64 1, .int .i64 0] 30)).alloc (.cells #[.int .u64 0, .int .i64 1, .int .i64 0] 30)).heap.size = w.heap.size + 1 + 1 := by simp
  have hT := heap_alloc_new ((w.alloc (.cells #[.int .u64 0, .int .i64 1, .int .i64 0] 30)).alloc (.cells #[.int .u64 0, .int .i64 1, .int .i64 0] 30)) (.cells cur 43)
  rw [e2] at hT
  exact ⟨⟨cur, hT, h7⟩, r2.alloc _, (r1.alloc _).alloc _, by simp [Value.ownBlock], by decide, by decide, (((Below.refl _ _).alloc (Nat.le_refl _) _).alloc (by simp) _).alloc (by simp; omega) _, by omega⟩

set_option maxRecDepth 100000 in
set_option maxHeartbeats 4000000 in
theorem script_zero (a0 : Option Addr) (cap : Nat) (n : Int) (w : World) (hn0 : 0 ≤ n) (hn1 : n ≤ 65535) :
    Calls Yba.prog 4 #[.int .u16 n, .slice a0 0 cap] w fun e w' => e = .returned (.bool true) ∧ Below w.heap.size w w' := by
  obtain ⟨S, hS⟩ : ∃ S : Nat, S = 64 + (n % 200).toNat := ⟨_, rfl⟩
  have hS1 : 64 + n % 200 = (S : Int) := by omega
  have hS2 : S ≤ 263 := by omega
  clear hS
  have hmod : n.tmod 200 = n % 200 := Int.tmod_eq_emod_of_nonneg hn0
  go_enter Yba.func4, Yba.ntmps4
  go_wp2_with fail
  try rw [hS1]
  clear hS1
  obtain ⟨W0, hW0⟩ : ∃ W, W = ((w.alloc (.cells #[.int .u64 0, .int .i64 1, .int .i64 0] 30)).alloc (.cells #[.int .u64 0, .int .i64 1, .int .i64 0] 30)).alloc (.cells #[.int .i32 0, .int .u32 0, .int .u64 0, .int .u64 0, .slice none 0 0, .int .i64 0, .int .i64 0, .slice (some ⟨w.heap.size + 1, 0, none⟩) 1 1, .int .u64 0, .int .i64 0, .int .i64 0, .string ⟨#[]⟩] 43) := ⟨_, rfl⟩
  have HS0 : Hid (Scr w W0 (w.heap.size + 1 + 1) (.slice (some ⟨w.heap.size + 1, 0, none⟩) 1 1) (.slice (some ⟨w.heap.size, 0, none⟩) 1 1) first) := by rw [hW0]; exact scr_start w _ rfl
  rw [← hW0]
  clear hW0 hmod
  go_loopw [6, 8] (fun vm i wr => ∃ (k : Nat) (vt : Value) (L : List Mk), k ≤ S ∧ i = .int .i64 k ∧ Scr w wr (w.heap.size + 1 + 1) vt vm L) (fun _ i _ => S - (intOf i).toNat)
  case atStart => exact ⟨0, _, first, Nat.zero_le _, rfl, HS0.out⟩
  case round =>
    obtain ⟨k, vt, L, hk, rfl, hC⟩ := hrel
    have HC := hid_mk hC
    clear hC HS0
    by_cases hkS : k < S
    · have ikS : (k : Int) < (S : Int) := by omega
      obtain ⟨gm, capm, _, em, _, lgm, _, hcm, _⟩ := HC.out.rm.shape HC.out.lo
      obtain ⟨p, hp⟩ : ∃ p, L.length = p + 1 := ⟨L.length - 1, by have := HC.out.lo; omega⟩
      have hRm := HC.out.rm
      rw [em] at hRm
      obtain ⟨d0, d1, d2⟩ := hRm.at (t := p) (by omega)
      have hp64 : p < 64 := by have := HC.out.hi; omega
      obtain ⟨q0, hq0⟩ : ∃ q, q = L.getD p mk0 := ⟨_, rfl⟩
      rw [← hq0] at d0 d1 d2
      have ip0 : (p : Int) < (L.length : Int) := by omega
      have ip1 : (L.length : Int) - 1 = (p : Int) := by omega
      have hw64 : IntKind.i64.wrap (p : Int) = (p : Int) := by rw [IntKind.wrap_i64]; omega
      have HPP := hid_mk (And.intro hp hq0)
      have hu6 : u6 = .slice (some ⟨gm, 0, none⟩) L.length capm := em
      subst hu6
      clear hp hq0 hRm
      go_wp2_with fail
      · have HB : Below wr.heap.size wr (wr.alloc (.cells #[.int .u64 q0.1, .int .i64 q0.2.1, .int .i64 q0.2.2] 30)) := (Below.refl _ _).alloc (Nat.le_refl _) _
        have HC1 := hid_mk (HC.out.later HB)
        have hTlt := HC.out.trl.lt
        have hnew := heap_alloc_new wr (.cells #[.int .u64 q0.1, .int .i64 q0.2.1, .int .i64 q0.2.2] 30)
        have HW := hid_mk (And.intro HB hnew)
        clear d0 d1 d2 HB hnew
        refine (mark_any (w.heap.size + 1 + 1) w.heap.size vt L q0 _ HC1.out.trl HC1.out.rt HC1.out.bel.size HC1.out.lo (by have := HC1.out.hi; omega)).mono ?_
        rintro _ w2 ⟨rfl, vt2, hT2, hR2, hF2⟩
        have hbox : w2.heap[wr.heap.size]? = some (.cells #[.int .u64 q0.1, .int .i64 q0.2.1, .int .i64 q0.2.2] 30 (0, 0)) := (hF2.block wr.heap.size (by simp) (by omega) (fun e => by have := (HC.out.rt.lt _ e.symm).2; omega)).trans HW.out.2
        have x0 : w2.cell? ⟨wr.heap.size, 0, none⟩ = some (.int .u64 q0.1) := cell_of_row w2 wr.heap.size 0 _ 30 (0, 0) hbox
        have x1 : w2.cell? ⟨wr.heap.size, 1, none⟩ = some (.int .i64 q0.2.1) := cell_of_row w2 wr.heap.size 1 _ 30 (0, 0) hbox
        have x2 : w2.cell? ⟨wr.heap.size, 2, none⟩ = some (.int .i64 q0.2.2) := cell_of_row w2 wr.heap.size 2 _ 30 (0, 0) hbox
        have hRm2 := HC1.out.rm.frm hF2 (HC1.out.trl.ne HC1.out.rm) HC1.out.ne
        have hbw2 : Below w.heap.size w w2 := HC1.out.bel.trans ⟨hF2.os, hF2.tape, hF2.output, hF2.size, fun i hi => hF2.block i (Nat.lt_of_lt_of_le hi HC1.out.bel.size) (by have := HC.out.low; omega) (fun e => by have := (HC.out.rt.lt _ e.symm).1; omega)⟩
        obtain ⟨hl0, hl1⟩ := modelL_len L q0 HC.out.lo HC.out.hi
        obtain ⟨M, hM⟩ : ∃ M, M = modelL L q0 := ⟨_, rfl⟩
        rw [← hM] at hl0 hl1 hR2
        have HM := hid_mk hM
        clear hM
        obtain ⟨g2, cap2, _, rfl, hg2, lg2, _⟩ := hR2.shape hl0
        have H2 := hid_mk (And.intro hT2 (And.intro hR2 hRm2))
        clear hT2 hR2 hRm2 hbox hF2
        go_wp2_with fail
        refine (model_any w.heap.size _ L q0 w2 H2.out.2.2 HC.out.lo (by have := HC.out.hi; omega)).mono ?_
        rintro _ w3 ⟨vm3, rfl, hR3, hb3⟩
        rw [← HM.out] at hR3
        have hT3 := H2.out.1.later hb3
        have hRt3 := H2.out.2.1.later hb3
        obtain ⟨y1, _⟩ := hT3.cell
        obtain ⟨a3, cap3, rfl⟩ := owns_slice hR3
        have H3 := hid_mk (And.intro hT3 (And.intro hRt3 hR3))
        clear hT3 hRt3 hR3 x0 x1 x2
        go_wp2_with fail
        refine (eq_any w.heap.size (w2.heap.size + 1) _ _ M w3 H3.out.2.1 H3.out.2.2 hl0 (by omega)).mono ?_
        rintro _ w4 ⟨rfl, hb4⟩
        have hT4 := H3.out.1.later hb4
        obtain ⟨y1, _⟩ := hT4.cell
        have hd64 : decide ((64 : Int) < (M.length : Int)) = false := decide_eq_false (by omega)
        go_wp2_with fail
        go_roundw
        case rel =>
          refine ⟨k + 1, _, M, by omega, by go_num, ⟨hT4, H3.out.2.1.later hb4, ownsRow_weak (H3.out.2.2.later hb4) (by have := hbw2.size; omega), ?_, hl0, hl1, hbw2.trans ((hb3.trans (hb4.mono hb3.size)).mono hbw2.size), HC.out.low⟩⟩
          intro e
          have := (H3.out.2.2.lt g2 (by rw [e]; rfl)).1
          omega
        case measure => simp [intOf]; omega
      · have HB : Below wr.heap.size wr (wr.alloc (.cells #[.int .u64 ((k : Int) + 1), .int .i64 ((k : Int) % 256), .int .i64 (k : Int)] 30)) := (Below.refl _ _).alloc (Nat.le_refl _) _
        have HC1 := hid_mk (HC.out.later HB)
        have hTlt := HC.out.trl.lt
        have hnew := heap_alloc_new wr (.cells #[.int .u64 ((k : Int) + 1), .int .i64 ((k : Int) % 256), .int .i64 (k : Int)] 30)
        have HW := hid_mk (And.intro HB hnew)
        clear d0 d1 d2 HB hnew
        refine (mark_any (w.heap.size + 1 + 1) w.heap.size vt L ((k : Int) + 1, (k : Int) % 256, (k : Int)) _ HC1.out.trl HC1.out.rt HC1.out.bel.size HC1.out.lo (by have := HC1.out.hi; omega)).mono ?_
        rintro _ w2 ⟨rfl, vt2, hT2, hR2, hF2⟩
        have hbox : w2.heap[wr.heap.size]? = some (.cells #[.int .u64 ((k : Int) + 1), .int .i64 ((k : Int) % 256), .int .i64 (k : Int)] 30 (0, 0)) := (hF2.block wr.heap.size (by simp) (by omega) (fun e => by have := (HC.out.rt.lt _ e.symm).2; omega)).trans HW.out.2
        have x0 : w2.cell? ⟨wr.heap.size, 0, none⟩ = some (.int .u64 ((k : Int) + 1)) := cell_of_row w2 wr.heap.size 0 _ 30 (0, 0) hbox
        have x1 : w2.cell? ⟨wr.heap.size, 1, none⟩ = some (.int .i64 ((k : Int) % 256)) := cell_of_row w2 wr.heap.size 1 _ 30 (0, 0) hbox
        have x2 : w2.cell? ⟨wr.heap.size, 2, none⟩ = some (.int .i64 (k : Int)) := cell_of_row w2 wr.heap.size 2 _ 30 (0, 0) hbox
        have hRm2 := HC1.out.rm.frm hF2 (HC1.out.trl.ne HC1.out.rm) HC1.out.ne
        have hbw2 : Below w.heap.size w w2 := HC1.out.bel.trans ⟨hF2.os, hF2.tape, hF2.output, hF2.size, fun i hi => hF2.block i (Nat.lt_of_lt_of_le hi HC1.out.bel.size) (by have := HC.out.low; omega) (fun e => by have := (HC.out.rt.lt _ e.symm).1; omega)⟩
        obtain ⟨hl0, hl1⟩ := modelL_len L ((k : Int) + 1, (k : Int) % 256, (k : Int)) HC.out.lo HC.out.hi
        obtain ⟨M, hM⟩ : ∃ M, M = modelL L ((k : Int) + 1, (k : Int) % 256, (k : Int)) := ⟨_, rfl⟩
        rw [← hM] at hl0 hl1 hR2
        have HM := hid_mk hM
        clear hM
        obtain ⟨g2, cap2, _, rfl, hg2, lg2, _⟩ := hR2.shape hl0
        have H2 := hid_mk (And.intro hT2 (And.intro hR2 hRm2))
        clear hT2 hR2 hRm2 hbox hF2
        go_wp2_with fail
        refine (model_any w.heap.size _ L ((k : Int) + 1, (k : Int) % 256, (k : Int)) w2 H2.out.2.2 HC.out.lo (by have := HC.out.hi; omega)).mono ?_
        rintro _ w3 ⟨vm3, rfl, hR3, hb3⟩
        rw [← HM.out] at hR3
        have hT3 := H2.out.1.later hb3
        have hRt3 := H2.out.2.1.later hb3
        obtain ⟨y1, _⟩ := hT3.cell
        obtain ⟨a3, cap3, rfl⟩ := owns_slice hR3
        have H3 := hid_mk (And.intro hT3 (And.intro hRt3 hR3))
        clear hT3 hRt3 hR3 x0 x1 x2
        go_wp2_with fail
        refine (eq_any w.heap.size (w2.heap.size + 1) _ _ M w3 H3.out.2.1 H3.out.2.2 hl0 (by omega)).mono ?_
        rintro _ w4 ⟨rfl, hb4⟩
        have hT4 := H3.out.1.later hb4
        obtain ⟨y1, _⟩ := hT4.cell
        have hd64 : decide ((64 : Int) < (M.length : Int)) = false := decide_eq_false (by omega)
        go_wp2_with fail
        go_roundw
        case rel =>
          refine ⟨k + 1, _, M, by omega, by go_num, ⟨hT4, H3.out.2.1.later hb4, ownsRow_weak (H3.out.2.2.later hb4) (by have := hbw2.size; omega), ?_, hl0, hl1, hbw2.trans ((hb3.trans (hb4.mono hb3.size)).mono hbw2.size), HC.out.low⟩⟩
          intro e
          have := (H3.out.2.2.lt g2 (by rw [e]; rfl)).1
          omega
        case measure => simp [intOf]; omega
    · obtain rfl : k = S := by omega
      go_wp2
      go_ret
      exact ⟨rfl, HC.out.bel⟩

set_option maxRecDepth 100000 in
set_option maxHeartbeats 4000000 in
theorem script_pos (a0 : Option Addr) (N cap : Nat) (z : Nat → Int) (n : Int) (w : World) (hN : N ≤ 1024) (hN0 : 0 < N) (hn0 : 0 ≤ n) (hn1 : n ≤ 65535)
    (hz : ∀ i, i < N → 0 ≤ z i ∧ z i ≤ 255)
    (hx : N = 0 ∨ ∃ x, a0 = some x ∧ x.block < w.heap.size ∧ ∀ i, i < N → w.cell? (x.add i) = some (.int .u8 (z i))) :
    Calls Yba.prog 4 #[.int .u16 n, .slice a0 N cap] w fun e w' => e = .returned (.bool true) ∧ Below w.heap.size w w' := by
  have HX := hid_mk (And.intro hz hx)
  clear hz hx
  obtain ⟨S, hS⟩ : ∃ S : Nat, S = 64 + (n % 200).toNat := ⟨_, rfl⟩
  have hS1 : 64 + n % 200 = (S : Int) := by omega
  have hS2 : S ≤ 263 := by omega
  clear hS
  have hmod : n.tmod 200 = n % 200 := Int.tmod_eq_emod_of_nonneg hn0
  go_enter Yba.func4, Yba.ntmps4
  go_wp2_with fail
  try rw [hS1]
  clear hS1
  obtain ⟨W0, hW0⟩ : ∃ W, W = ((w.alloc (.cells #[.int .u64 0, .int .i64 1, .int .i64 0] 30)).alloc (.cells #[.int .u64 0, .int .i64 1, .int .i64 0] 30)).alloc (.cells #[.int .i32 0, .int .u32 0, .int .u64 0, .int .u64 0, .slice none 0 0, .int .i64 0, .int .i64 0, .slice (some ⟨w.heap.size + 1, 0, none⟩) 1 1, .int .u64 0, .int .i64 0, .int .i64 0, .string ⟨#[]⟩] 43) := ⟨_, rfl⟩
  have HS0 : Hid (Scr w W0 (w.heap.size + 1 + 1) (.slice (some ⟨w.heap.size + 1, 0, none⟩) 1 1) (.slice (some ⟨w.heap.size, 0, none⟩) 1 1) first) := by rw [hW0]; exact scr_start w _ rfl
  rw [← hW0]
  clear hW0 hmod
  go_loopw [6, 8] (fun vm i wr => ∃ (k : Nat) (vt : Value) (L : List Mk), k ≤ S ∧ i = .int .i64 k ∧ Scr w wr (w.heap.size + 1 + 1) vt vm L) (fun _ i _ => S - (intOf i).toNat)
  case atStart => exact ⟨0, _, first, Nat.zero_le _, rfl, HS0.out⟩
  case round =>
    obtain ⟨k, vt, L, hk, rfl, hC⟩ := hrel
    have HC := hid_mk hC
    clear hC HS0
    by_cases hkS : k < S
    · have ikS : (k : Int) < (S : Int) := by omega
      obtain ⟨gm, capm, _, em, _, lgm, _, hcm, _⟩ := HC.out.rm.shape HC.out.lo
      obtain ⟨p, hp⟩ : ∃ p, L.length = p + 1 := ⟨L.length - 1, by have := HC.out.lo; omega⟩
      have hRm := HC.out.rm
      rw [em] at hRm
      obtain ⟨d0, d1, d2⟩ := hRm.at (t := p) (by omega)
      have hp64 : p < 64 := by have := HC.out.hi; omega
      obtain ⟨q0, hq0⟩ : ∃ q, q = L.getD p mk0 := ⟨_, rfl⟩
      rw [← hq0] at d0 d1 d2
      have ip0 : (p : Int) < (L.length : Int) := by omega
      have ip1 : (L.length : Int) - 1 = (p : Int) := by omega
      have hw64 : IntKind.i64.wrap (p : Int) = (p : Int) := by rw [IntKind.wrap_i64]; omega
      have HPP := hid_mk (And.intro hp hq0)
      have hu6 : u6 = .slice (some ⟨gm, 0, none⟩) L.length capm := em
      subst hu6
      clear hp hq0 hRm
      obtain ⟨j, hj⟩ : ∃ j, j = k % N := ⟨_, rfl⟩
      have hjN : j < N := by rw [hj]; exact Nat.mod_lt _ (by omega)
      have hj1 : (k : Int) % (N : Int) = (j : Int) := by rw [hj]; rfl
      have hj2 : (k : Int).tmod (N : Int) = (j : Int) := by rw [hj]; rfl
      obtain ⟨hz, hx⟩ := HX.out
      rcases hx with h0 | ⟨x, rfl, hxb, hxc⟩
      · omega
      have hzj := hz j hjN
      obtain ⟨z0, z1⟩ := hzj
      have c0 : wr.cell? (x.add j) = some (.int .u8 (z j)) := (HC.out.bel.cell (by rw [add_block]; exact hxb)).trans (hxc j hjN)
      have ij : (j : Int) < (N : Int) := by omega
      have iN : (0 : Int) < (N : Int) := by omega
      clear hz hxc hj
      go_wp2_with fail
      · have HB : Below wr.heap.size wr (wr.alloc (.cells #[.int .u64 q0.1, .int .i64 q0.2.1, .int .i64 q0.2.2] 30)) := (Below.refl _ _).alloc (Nat.le_refl _) _
        have HC1 := hid_mk (HC.out.later HB)
        have hTlt := HC.out.trl.lt
        have hnew := heap_alloc_new wr (.cells #[.int .u64 q0.1, .int .i64 q0.2.1, .int .i64 q0.2.2] 30)
        have HW := hid_mk (And.intro HB hnew)
        clear d0 d1 d2 HB hnew
        refine (mark_any (w.heap.size + 1 + 1) w.heap.size vt L q0 _ HC1.out.trl HC1.out.rt HC1.out.bel.size HC1.out.lo (by have := HC1.out.hi; omega)).mono ?_
        rintro _ w2 ⟨rfl, vt2, hT2, hR2, hF2⟩
        have hbox : w2.heap[wr.heap.size]? = some (.cells #[.int .u64 q0.1, .int .i64 q0.2.1, .int .i64 q0.2.2] 30 (0, 0)) := (hF2.block wr.heap.size (by simp) (by omega) (fun e => by have := (HC.out.rt.lt _ e.symm).2; omega)).trans HW.out.2
        have x0 : w2.cell? ⟨wr.heap.size, 0, none⟩ = some (.int .u64 q0.1) := cell_of_row w2 wr.heap.size 0 _ 30 (0, 0) hbox
        have x1 : w2.cell? ⟨wr.heap.size, 1, none⟩ = some (.int .i64 q0.2.1) := cell_of_row w2 wr.heap.size 1 _ 30 (0, 0) hbox
        have x2 : w2.cell? ⟨wr.heap.size, 2, none⟩ = some (.int .i64 q0.2.2) := cell_of_row w2 wr.heap.size 2 _ 30 (0, 0) hbox
        have hRm2 := HC1.out.rm.frm hF2 (HC1.out.trl.ne HC1.out.rm) HC1.out.ne
        have hbw2 : Below w.heap.size w w2 := HC1.out.bel.trans ⟨hF2.os, hF2.tape, hF2.output, hF2.size, fun i hi => hF2.block i (Nat.lt_of_lt_of_le hi HC1.out.bel.size) (by have := HC.out.low; omega) (fun e => by have := (HC.out.rt.lt _ e.symm).1; omega)⟩
        obtain ⟨hl0, hl1⟩ := modelL_len L q0 HC.out.lo HC.out.hi
        obtain ⟨M, hM⟩ : ∃ M, M = modelL L q0 := ⟨_, rfl⟩
        rw [← hM] at hl0 hl1 hR2
        have HM := hid_mk hM
        clear hM
        obtain ⟨g2, cap2, _, rfl, hg2, lg2, _⟩ := hR2.shape hl0
        have H2 := hid_mk (And.intro hT2 (And.intro hR2 hRm2))
        clear hT2 hR2 hRm2 hbox hF2
        go_wp2_with fail
        refine (model_any w.heap.size _ L q0 w2 H2.out.2.2 HC.out.lo (by have := HC.out.hi; omega)).mono ?_
        rintro _ w3 ⟨vm3, rfl, hR3, hb3⟩
        rw [← HM.out] at hR3
        have hT3 := H2.out.1.later hb3
        have hRt3 := H2.out.2.1.later hb3
        obtain ⟨y1, _⟩ := hT3.cell
        obtain ⟨a3, cap3, rfl⟩ := owns_slice hR3
        have H3 := hid_mk (And.intro hT3 (And.intro hRt3 hR3))
        clear hT3 hRt3 hR3 x0 x1 x2
        go_wp2_with fail
        refine (eq_any w.heap.size (w2.heap.size + 1) _ _ M w3 H3.out.2.1 H3.out.2.2 hl0 (by omega)).mono ?_
        rintro _ w4 ⟨rfl, hb4⟩
        have hT4 := H3.out.1.later hb4
        obtain ⟨y1, _⟩ := hT4.cell
        have hd64 : decide ((64 : Int) < (M.length : Int)) = false := decide_eq_false (by omega)
        go_wp2_with fail
        go_roundw
        case rel =>
          refine ⟨k + 1, _, M, by omega, by go_num, ⟨hT4, H3.out.2.1.later hb4, ownsRow_weak (H3.out.2.2.later hb4) (by have := hbw2.size; omega), ?_, hl0, hl1, hbw2.trans ((hb3.trans (hb4.mono hb3.size)).mono hbw2.size), HC.out.low⟩⟩
          intro e
          have := (H3.out.2.2.lt g2 (by rw [e]; rfl)).1
          omega
        case measure => simp [intOf]; omega
      · have HB : Below wr.heap.size wr (wr.alloc (.cells #[.int .u64 ((k : Int) + 1), .int .i64 (z j), .int .i64 (k : Int)] 30)) := (Below.refl _ _).alloc (Nat.le_refl _) _
        have HC1 := hid_mk (HC.out.later HB)
        have hTlt := HC.out.trl.lt
        have hnew := heap_alloc_new wr (.cells #[.int .u64 ((k : Int) + 1), .int .i64 (z j), .int .i64 (k : Int)] 30)
        have HW := hid_mk (And.intro HB hnew)
        clear d0 d1 d2 HB hnew
        refine (mark_any (w.heap.size + 1 + 1) w.heap.size vt L ((k : Int) + 1, z j, (k : Int)) _ HC1.out.trl HC1.out.rt HC1.out.bel.size HC1.out.lo (by have := HC1.out.hi; omega)).mono ?_
        rintro _ w2 ⟨rfl, vt2, hT2, hR2, hF2⟩
        have hbox : w2.heap[wr.heap.size]? = some (.cells #[.int .u64 ((k : Int) + 1), .int .i64 (z j), .int .i64 (k : Int)] 30 (0, 0)) := (hF2.block wr.heap.size (by simp) (by omega) (fun e => by have := (HC.out.rt.lt _ e.symm).2; omega)).trans HW.out.2
        have x0 : w2.cell? ⟨wr.heap.size, 0, none⟩ = some (.int .u64 ((k : Int) + 1)) := cell_of_row w2 wr.heap.size 0 _ 30 (0, 0) hbox
        have x1 : w2.cell? ⟨wr.heap.size, 1, none⟩ = some (.int .i64 (z j)) := cell_of_row w2 wr.heap.size 1 _ 30 (0, 0) hbox
        have x2 : w2.cell? ⟨wr.heap.size, 2, none⟩ = some (.int .i64 (k : Int)) := cell_of_row w2 wr.heap.size 2 _ 30 (0, 0) hbox
        have hRm2 := HC1.out.rm.frm hF2 (HC1.out.trl.ne HC1.out.rm) HC1.out.ne
        have hbw2 : Below w.heap.size w w2 := HC1.out.bel.trans ⟨hF2.os, hF2.tape, hF2.output, hF2.size, fun i hi => hF2.block i (Nat.lt_of_lt_of_le hi HC1.out.bel.size) (by have := HC.out.low; omega) (fun e => by have := (HC.out.rt.lt _ e.symm).1; omega)⟩
        obtain ⟨hl0, hl1⟩ := modelL_len L ((k : Int) + 1, z j, (k : Int)) HC.out.lo HC.out.hi
        obtain ⟨M, hM⟩ : ∃ M, M = modelL L ((k : Int) + 1, z j, (k : Int)) := ⟨_, rfl⟩
        rw [← hM] at hl0 hl1 hR2
        have HM := hid_mk hM
        clear hM
        obtain ⟨g2, cap2, _, rfl, hg2, lg2, _⟩ := hR2.shape hl0
        have H2 := hid_mk (And.intro hT2 (And.intro hR2 hRm2))
        clear hT2 hR2 hRm2 hbox hF2
        go_wp2_with fail
        refine (model_any w.heap.size _ L ((k : Int) + 1, z j, (k : Int)) w2 H2.out.2.2 HC.out.lo (by have := HC.out.hi; omega)).mono ?_
        rintro _ w3 ⟨vm3, rfl, hR3, hb3⟩
        rw [← HM.out] at hR3
        have hT3 := H2.out.1.later hb3
        have hRt3 := H2.out.2.1.later hb3
        obtain ⟨y1, _⟩ := hT3.cell
        obtain ⟨a3, cap3, rfl⟩ := owns_slice hR3
        have H3 := hid_mk (And.intro hT3 (And.intro hRt3 hR3))
        clear hT3 hRt3 hR3 x0 x1 x2
        go_wp2_with fail
        refine (eq_any w.heap.size (w2.heap.size + 1) _ _ M w3 H3.out.2.1 H3.out.2.2 hl0 (by omega)).mono ?_
        rintro _ w4 ⟨rfl, hb4⟩
        have hT4 := H3.out.1.later hb4
        obtain ⟨y1, _⟩ := hT4.cell
        have hd64 : decide ((64 : Int) < (M.length : Int)) = false := decide_eq_false (by omega)
        go_wp2_with fail
        go_roundw
        case rel =>
          refine ⟨k + 1, _, M, by omega, by go_num, ⟨hT4, H3.out.2.1.later hb4, ownsRow_weak (H3.out.2.2.later hb4) (by have := hbw2.size; omega), ?_, hl0, hl1, hbw2.trans ((hb3.trans (hb4.mono hb3.size)).mono hbw2.size), HC.out.low⟩⟩
          intro e
          have := (H3.out.2.2.lt g2 (by rw [e]; rfl)).1
          omega
        case measure => simp [intOf]; omega
    · obtain rfl : k = S := by omega
      go_wp2
      go_ret
      exact ⟨rfl, HC.out.bel⟩

theorem script_any (a0 : Option Addr) (N cap : Nat) (z : Nat → Int) (n : Int) (w : World) (hN : N ≤ 1024) (hn0 : 0 ≤ n) (hn1 : n ≤ 65535)
    (hz : ∀ i, i < N → 0 ≤ z i ∧ z i ≤ 255)
    (hx : N = 0 ∨ ∃ x, a0 = some x ∧ x.block < w.heap.size ∧ ∀ i, i < N → w.cell? (x.add i) = some (.int .u8 (z i))) :
    Calls Yba.prog 4 #[.int .u16 n, .slice a0 N cap] w fun e w' => e = .returned (.bool true) ∧ Below w.heap.size w w' := by
  by_cases h0 : N = 0
  · subst h0
    exact script_zero a0 cap n w hn0 hn1
  · exact script_pos a0 N cap z n w hN (by omega) hn0 hn1 hz hx
end Go.Proofs.Ybulkhgk.M
