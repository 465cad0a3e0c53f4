import Derived.Test.YbulkhfiCBox
namespace Go.Proofs.Ybulkhfi.C
open Go.RowKit
open Go.Proofs.Ybulkhfi.A (wp_region_tail)
set_option linter.unusedVariables false

theorem add_block (x : Addr) (k : Nat) : (x.add k).block = x.block := by unfold Addr.add; split <;> rfl
theorem info4 : (Yba.prog.info? 4).map (fun i => (i.zero, i.size, i.bytes)) = some (some (.bool false), 1, 1) := by kernel_rfl

/-- Where the drain stands: p has been popped, in this order; l is queued; m is the wake popped last. -/
structure Drn (w wr : World) (T N B10 g B16 : Nat) (bs : Nat → Nat) (z : Nat → Int) (now : Int) (p : List Nat) (v : Value) (l : List Nat) (m : Int) : Prop where
  que : Que wr T N bs z v l
  hp : Hp (fun q => z (l.getD q 0)) l.length
  perm : (p ++ l).Perm (List.range N)
  pst : ∀ i ∈ p, z i ≤ now
  nxt : p ≠ [] → ∀ i ∈ l, m ≤ z i
  nowB : Box wr B10 now
  lastB : Box wr B16 m
  seen : Seen wr g N p
  bel : Below w.heap.size w wr
  ne : B10 ≠ B16
  low : w.heap.size ≤ B16
  lowg : w.heap.size ≤ g

theorem Drn.later {w wr w' : World} {T N B10 g B16 : Nat} {bs : Nat → Nat} {z : Nat → Int} {now : Int} {p : List Nat} {v : Value} {l : List Nat} {m : Int} (h : Drn w wr T N B10 g B16 bs z now p v l m) (hb : Below wr.heap.size wr w') : Drn w w' T N B10 g B16 bs z now p v l m :=
  ⟨h.que.later hb, h.hp, h.perm, h.pst, h.nxt, h.nowB.below hb, h.lastB.below hb, h.seen.below hb, h.bel.trans (hb.mono h.bel.size), h.ne, h.low, h.lowg⟩
theorem Drn.len {w wr : World} {T N B10 g B16 : Nat} {bs : Nat → Nat} {z : Nat → Int} {now : Int} {p : List Nat} {v : Value} {l : List Nat} {m : Int} (h : Drn w wr T N B10 g B16 bs z now p v l m) : p.length + l.length = N := by
  have := h.perm.length_eq
  simpa using this

theorem Drn.fresh {w wr : World} {T N B10 g B16 : Nat} {bs : Nat → Nat} {z : Nat → Int} {now : Int} {p : List Nat} {v : Value} {l : List Nat} {m : Int} (h : Drn w wr T N B10 g B16 bs z now p v l m) {y : Nat} (hy : y ∈ l) : y ∉ p := by
  have hn : (p ++ l).Nodup := h.perm.nodup_iff.2 List.nodup_range
  intro hp
  exact (List.nodup_append.1 hn).2.2 y hp y hy rfl

theorem Drn.next {w wr w1 : World} {T N B10 g B16 : Nat} {bs : Nat → Nat} {z : Nat → Int} {now : Int} {p : List Nat} {v v2 : Value} {l l2 : List Nat} {m m1 : Int} (h : Drn w wr T N B10 g B16 bs z now p v l m) {y : Nat} (hy : y = l.getD 0 0) (hle : z y ≤ now) (hyN : y < N)
    (hP : (y :: l2).Perm l) (hH : Hp (fun q => z (l2.getD q 0)) l2.length) (hQ : Que w1 T N bs z v2 l2) (hS : Seen w1 g N (p ++ [y])) (h10 : Box w1 B10 now) (h16 : Box w1 B16 m1) (hb : Below w.heap.size w w1) :
    Drn w (((w1.setCell ⟨B16, 0, none⟩ (.int .u64 (wl (z y)))).setCell ⟨B16, 1, none⟩ (.int .i64 (ex (z y)))).setCell ⟨B16, 2, none⟩ (.pointer none)) T N B10 g B16 bs z now (p ++ [y]) v2 l2 (z y) := by
  have e1 := heap_setCell_same w1 B16 0 _ 52 (.int .u64 (wl (z y))) h16
  have e2 := heap_setCell_same _ B16 1 _ 52 (.int .i64 (ex (z y))) e1
  have hg : B16 ≠ g := h16.ne_que hS
  refine ⟨((hQ.other h16 (by decide) (by decide) (by decide) _).other e1 (by decide) (by decide) (by decide) _).other e2 (by decide) (by decide) (by decide) _, hH, ?_, ?_, ?_, ?_, h16.put (z y), ?_, ?_, h.ne, h.low, h.lowg⟩
  · rw [List.append_assoc]
    exact (List.Perm.append_left p hP).trans h.perm
  · intro i hi
    rcases List.mem_append.1 hi with h' | h'
    · exact h.pst i h'
    · simp at h'; rw [h']; exact hle
  · intro _ i hi
    have := hp_all h.hp i (hP.mem_iff.1 (List.mem_cons_of_mem _ hi))
    rw [← hy] at this
    exact this
  · exact ((h10.other (by exact h.ne) _).other (by exact h.ne) _).other (by exact h.ne) _
  · exact ((hS.other (by exact hg.symm) _).other (by exact hg.symm) _).other (by exact hg.symm) _
  · exact ((hb.setCell (by exact h.low) _).setCell (by exact h.low) _).setCell (by exact h.low) _

theorem seen_made {w6 : World} {base g N : Nat} (h : w6.ownsRow base 4 1 (.slice (some ⟨g, 0, none⟩) N N) N (madeCells (Value.bool false).cells (N * 1)).toList) : Seen w6 g N [] := by
  rcases h.2 with ⟨h', _⟩ | ⟨g', cap, cur, e, _, hh, _⟩
  · cases h'
  · simp only [Value.slice.injEq, Option.some.injEq, Addr.mk.injEq, and_true, true_and] at e
    obtain ⟨rfl, rfl⟩ := e
    refine ⟨cur, hh, fun i hi => ?_⟩
    have c := h.cellAt i (by omega)
    rw [cell_of_row w6 g i cur 4 (0, 0) hh] at c
    rw [c]
    show (madeCells #[.bool false] (N * 1)).toList[i]? = _
    rw [toList_madeCells_one]
    simp [hi]

set_option maxRecDepth 100000 in
set_option maxHeartbeats 4000000 in
theorem law_any (a0 : Option Addr) (N cap : Nat) (z : Nat → Int) (now : Int) (w : World) (hN : N ≤ 1024) (hn0 : -2147483648 ≤ now) (hn1 : now ≤ 2147483647)
    (hz : ∀ i, i < N → -2147483648 ≤ z i ∧ z i ≤ 2147483647)
    (hx : N = 0 ∨ ∃ x, a0 = some x ∧ x.block < w.heap.size ∧ ∀ i, i < N → w.cell? (x.add i) = some (.int .i32 (z i))) :
    Calls Yba.prog 5 #[.slice a0 N cap, .int .i32 now] w fun e w' => e = .returned (.bool true) ∧ Below w.heap.size w w' := by
  have HX := hid_mk (And.intro hz hx)
  clear hz hx
  go_enter Yba.func5, Yba.ntmps5
  go_wp2_with fail
  refine (table_any w).mono ?_
  rintro _ w1 ⟨rfl, hb1, hs1, hQ1⟩
  have HQ1 := hid_mk hQ1
  clear hQ1
  have hb2 : Below w.heap.size w (w1.alloc (.cells #[.int .u64 0, .int .i64 0, .pointer none] 52)) := hb1.alloc (by omega) _
  have hB2 := hid_mk (box_zero w1)
  have hQ2 : Hid (∀ bs ms, Que (w1.alloc (.cells #[.int .u64 0, .int .i64 0, .pointer none] 52)) (w.heap.size + 2) 0 bs ms (.slice none 0 0) []) := fun bs ms => (HQ1.out bs ms).later ((Below.refl _ _).alloc (Nat.le_refl _) _)
  have hs2 : (w1.alloc (.cells #[.int .u64 0, .int .i64 0, .pointer none] 52)).heap.size = w.heap.size + 4 := by simp [hs1]
  rw [hs1] at hB2
  go_wp2_with fail
  obtain ⟨W2, hW2⟩ : ∃ W, W = w1.alloc (.cells #[.int .u64 0, .int .i64 0, .pointer none] 52) := ⟨_, rfl⟩
  rw [← hW2] at hb2 hB2 hQ2 hs2 ⊢
  clear hW2 HQ1
  clear hb1 hs1
  go_loopw [32] (fun i wr => ∃ (k : Nat) (v : Value) (l : List Nat) (bs : Nat → Nat), k ≤ N ∧ i = .int .i64 k ∧ Que wr (w.heap.size + 2) k bs z v l ∧ l.Perm (List.range k) ∧ Hp (fun q => z (l.getD q 0)) l.length ∧ Box wr (w.heap.size + 3) 0 ∧ Below w.heap.size w wr) (fun i _ => N - (intOf i).toNat)
  case atStart => exact ⟨0, _, [], fun _ => 0, Nat.zero_le _, rfl, hQ2.out _ _, List.Perm.refl _, fun k _ hk => by simp at hk, hB2.out, hb2⟩
  case round =>
    obtain ⟨k, v, l, bs, hk, rfl, hQ, hP, hH, hB, hb⟩ := hrel
    have hlen : l.length = k := by rw [hP.length_eq, List.length_range]
    have HR := hid_mk (And.intro hP hH)
    have HQ := hid_mk hQ
    have HB := hid_mk hB
    have hTlt : w.heap.size + 3 < wr.heap.size := hB.lt
    have hb3c := hB.cells
    obtain ⟨b0, b1, b2, _⟩ := hb3c
    clear hQ hP hH hB hb2 hs2 hQ2 hB2
    have hwl : wl 0 = 0 := rfl
    have hex : ex 0 = 0 := rfl
    rw [hwl] at b0
    rw [hex] at b1
    by_cases hkN : k < N
    · obtain ⟨hz, hx⟩ := HX.out
      rcases hx with h0 | ⟨x, rfl, hxb, hxc⟩
      · omega
      obtain ⟨z0, z1⟩ := hz k hkN
      have c0 : wr.cell? (x.add k) = some (.int .i32 (z k)) := (hb.cell (by rw [add_block]; exact hxb)).trans (hxc k hkN)
      clear hz hxc
      have ik : (k : Int) < (N : Int) := by omega
      go_wp2_with fail
      refine (add_ms (z k) z0 z1 wr).mono ?_
      rintro _ w3 ⟨rfl, hb3⟩
      have HQ3 := hid_mk (HQ.out.later hb3)
      have HB3 := hid_mk (HB.out.below hb3)
      have hsz3 : wr.heap.size ≤ w3.heap.size := hb3.size
      have hbw3 : Below w.heap.size w w3 := hb.trans (hb3.mono (by omega))
      rw [tm]
      obtain ⟨cur, hcur⟩ : ∃ cur : Array Value, cur = #[.int .u64 (k : Int), .nilIface, .slice none 0 0, .string ⟨#[]⟩, .pointer none, .int .u64 (wl (z k)), .int .i64 (ex (z k)), .pointer none, .int .i64 (-1)] := ⟨_, rfl⟩
      have hM := HQ3.out.more cur (by rw [hcur]; rfl) (by rw [hcur]; rfl) (by rw [hcur]; rfl) (by rw [hcur]; rfl) ⟨_, by rw [hcur]; rfl⟩
      have hpush := heapPush_any hM (by omega) (by omega) HR.out.2 k (by omega)
      rw [show ptr (fun i => if i = k then w3.heap.size else bs i) k = .pointer (some ⟨w3.heap.size, 0, none⟩) from by simp [ptr], hcur] at hpush
      have HPU := hid_mk hpush
      have HB4 := hid_mk (HB3.out.below (w' := w3.alloc (.cells cur 61)) ((Below.refl _ _).alloc (Nat.le_refl _) _))
      have hbw4 : Below w.heap.size w (w3.alloc (.cells cur 61)) := hbw3.alloc (by omega) _
      rw [hcur] at HB4 hbw4
      clear hpush hM hcur
      go_wp2_with fail
      refine HPU.out.mono ?_
      rintro _ w5 ⟨rfl, v5, l5, hQ5, hP5, hH5, hS5⟩
      have HF := hid_mk (And.intro hQ5 (And.intro hP5 hH5))
      clear hQ5 hP5 hH5 HPU
      go_wp2_with fail
      go_roundw
      case rel =>
        obtain ⟨q1, q2, q3⟩ := HF.out
        refine ⟨k + 1, v5, l5, _, by omega, by go_num, q1, ?_, q3, HB4.out.stp hS5, hbw4.trans (hS5.bel.mono (by omega))⟩
        rw [List.range_succ]
        exact q2.trans (HR.out.1.append_right [k])
      case measure => simp [intOf]; omega
    · obtain rfl : N = k := by omega
      clear hkN hk
      go_wp2_with fail
      refine (add_ms now hn0 hn1 wr).mono ?_
      rintro _ w3 ⟨rfl, hb3⟩
      have HQ3 := hid_mk (HQ.out.later hb3)
      have hsz3 : wr.heap.size ≤ w3.heap.size := hb3.size
      have hbw3 : Below w.heap.size w w3 := hb.trans (hb3.mono (by omega))
      have HB4 := hid_mk (box_new w3 now)
      have HQ4 := hid_mk (HQ3.out.later (w' := w3.alloc (.cells #[.int .u64 (wl now), .int .i64 (ex now), .pointer none] 52)) ((Below.refl _ _).alloc (Nat.le_refl _) _))
      have hbw4 : Below w.heap.size w (w3.alloc (.cells #[.int .u64 (wl now), .int .i64 (ex now), .pointer none] 52)) := hbw3.alloc (by omega) _
      have hsz4 : (w3.alloc (.cells #[.int .u64 (wl now), .int .i64 (ex now), .pointer none] 52)).heap.size = w3.heap.size + 1 := by simp
      rw [tm]
      go_wp2_with fail
      obtain ⟨W4, hW4⟩ : ∃ W, W = w3.alloc (.cells #[.int .u64 (wl now), .int .i64 (ex now), .pointer none] 52) := ⟨_, rfl⟩
      rw [← hW4] at HB4 HQ4 hbw4 hsz4 ⊢
      clear hW4 b0 b1 b2 HB HQ HQ3
      go_loopw [11, 61] (fun c i wr => ∃ j : Nat, j ≤ N ∧ i = .int .i64 j ∧ c = .int .i64 (cnt z now j) ∧ wr = W4) (fun _ i _ => N - (intOf i).toNat)
      case atStart => exact ⟨0, Nat.zero_le _, rfl, rfl, rfl⟩
      case round =>
        obtain ⟨j, hj, rfl, rfl, rfl⟩ := hrel
        by_cases hjN : j < N
        · obtain ⟨hz, hx⟩ := HX.out
          rcases hx with h0 | ⟨x, rfl, hxb, hxc⟩
          · omega
          have c0 : wr.cell? (x.add j) = some (.int .i32 (z j)) := (hbw4.cell (by rw [add_block]; exact hxb)).trans (hxc j hjN)
          clear hz hxc
          have ij : (j : Int) < (N : Int) := by omega
          have hcl := cnt_le z now j
          have HC := hid_mk (cnt_succ z now j)
          by_cases hle : z j ≤ now
          · have hle' : decide (z j ≤ now) = true := decide_eq_true hle
            have HLE := hid_mk hle
            clear hle
            go_wp2_with fail
            go_roundw
            case rel => exact ⟨j + 1, by omega, by go_num, by rw [HC.out, if_pos HLE.out]; go_num, trivial⟩
            case measure => simp [intOf]; omega
          · have hle' : decide (z j ≤ now) = false := decide_eq_false hle
            have HLE := hid_mk hle
            clear hle
            go_wp2_with fail
            go_roundw
            case rel => exact ⟨j + 1, by omega, by go_num, by rw [HC.out, if_neg HLE.out]; go_num, trivial⟩
            case measure => simp [intOf]; omega
        · obtain rfl : N = j := by omega
          clear hjN hj
          obtain ⟨i0, hi, hi0, hi1, hi2⟩ := info_parts info4
          obtain ⟨wo, rfl⟩ : ∃ wo : World, wo = wr := ⟨_, rfl⟩
          go_wp2_with (at_make; refine wpList_make_full _ rfl _ _ 73 rfl w.heap.size 4 i0 (.bool false) 1 Yba.underlying73 hi hi0 hi1 _ _ _ _ N rfl rfl rfl rfl (by rw [hi2]; omega) (by unfold maxLen; omega) (by have := hbw4.size; omega) ?_; intro w6 hown6 hgrow6)
          have hbb : Below wo.heap.size wo w6 := (Below.refl _ _).grown hgrow6 (Nat.le_refl _) (fun k h => by cases h)
          have hseen := seen_made hown6
          have hbb7 : Below wo.heap.size wo (w6.alloc (.cells #[.int .u64 0, .int .i64 0, .pointer none] 52)) := hbb.alloc (by have := hbb.size; omega) _
          have hD : Drn w (w6.alloc (.cells #[.int .u64 0, .int .i64 0, .pointer none] 52)) (w.heap.size + 2) N w3.heap.size wo.heap.size w6.heap.size bs z now [] v l 0 :=
            ⟨HQ4.out.later hbb7, HR.out.2, HR.out.1, fun i hi => by simp at hi, fun h => absurd rfl h, HB4.out.below hbb7, box_zero w6, hseen.below ((Below.refl _ _).alloc (Nat.le_refl _) _), hbw4.trans (hbb7.mono hbw4.size), by have := hbb.size; omega, by have := hbb.size; have := hbw4.size; omega, hbw4.size⟩
          obtain ⟨W7, hW7⟩ : ∃ W, W = w6.alloc (.cells #[.int .u64 0, .int .i64 0, .pointer none] 52) := ⟨_, rfl⟩
          rw [← hW7] at hD ⊢
          rw [hsz4] at hD
          obtain ⟨B16, hB16⟩ : ∃ g, g = w6.heap.size := ⟨_, rfl⟩
          obtain ⟨B10, hB10⟩ : ∃ g, g = w3.heap.size := ⟨_, rfl⟩
          rw [← hB16, ← hB10] at hD
          rw [← hB16, ← hB10]
          have HD := hid_mk hD
          clear hW7 hbb7 hseen hbb hown6 hgrow6 HQ4 HB4 HR hD hB16 hB10 hbw4 hsz4 hsz3 hb hTlt hlen hb3
          go_loopw [15, 17, 18] (fun c hl i wr => ∃ (p : List Nat) (v : Value) (l : List Nat) (m : Int), c = .int .i64 p.length ∧ hl = .bool (decide (0 < p.length)) ∧ i = .int .i64 p.length ∧ Drn w wr (w.heap.size + 2) N B10 (B10 + 1) B16 bs z now p v l m) (fun _ _ i _ => N + 1 - (intOf i).toNat)
          case atStart => exact ⟨[], v, l, 0, rfl, rfl, rfl, HD.out⟩
          case round =>
            obtain ⟨p, v, l, m, rfl, rfl, rfl, hD⟩ := hrel
            clear HD
            have HD := hid_mk hD
            have hlen := hD.len
            clear hD
            have hpN : decide ((p.length : Int) ≤ (N : Int)) = true := decide_eq_true (by omega)
            rcases Nat.eq_zero_or_pos l.length with hl0 | hl0
            · obtain rfl : l = [] := List.eq_nil_of_length_eq_zero hl0
              go_wp2_with fail
              refine (next_none HD.out.que).mono ?_
              rintro _ w8 ⟨rfl, hb8⟩
              have HD8 := hid_mk (HD.out.later hb8)
              have HD9 := hid_mk (HD8.out.later (w' := w8.alloc (.cells #[.int .u64 0, .int .i64 0, .pointer none] 52)) ((Below.refl _ _).alloc (Nat.le_refl _) _))
              obtain ⟨n0, n1, n2, _⟩ := HD8.out.nowB.cells
              have nlt := HD8.out.nowB.lt
              go_wp2_with fail
              refine (due_none HD9.out.que now).mono ?_
              rintro _ w10 ⟨rfl, hb10⟩
              have HD10 := hid_mk (HD9.out.later hb10)
              obtain ⟨t1, _⟩ := HD10.out.que.cell
              obtain ⟨a, cp, rfl⟩ := HD10.out.que.shape
              have hcnt : cnt z now N = p.length := cnt_split HD10.out.perm HD10.out.pst (fun i hi => by simp at hi)
              have hsub : ((0 : Int) != (N : Int) - (p.length : Int)) = false := by rw [bne_eq_false_iff_eq]; omega
              simp only [List.length_nil] at t1
              clear n0 n1 n2
              go_wp2_with fail
              refine (next_none HD10.out.que).mono ?_
              rintro _ w11 ⟨rfl, hb11⟩
              have HD11 := hid_mk (HD10.out.later hb11)
              go_wp2
              go_ret
              exact ⟨rfl, HD11.out.bel.alloc HD11.out.bel.size _⟩
            · go_wp2_with fail
              refine (next_some HD.out.que hl0 (by omega)).mono ?_
              rintro _ w8 ⟨rfl, hb8⟩
              obtain ⟨y, hy⟩ : ∃ y, y = l.getD 0 0 := ⟨_, rfl⟩
              rw [← hy]
              have HY := hid_mk hy
              have hyN : y < N := by rw [hy]; exact HD.out.que.lt _ (by simp [List.getD_eq_getElem?_getD, hl0])
              have hyl : y ∈ l := by rw [hy]; simp [List.getD_eq_getElem?_getD, hl0]
              have HYL := hid_mk hyl
              clear hy hyl
              have HD8 := hid_mk (HD.out.later hb8)
              have HD9 := hid_mk (HD8.out.later (w' := w8.alloc (.cells #[.int .u64 (wl (z y)), .int .i64 (ex (z y)), .pointer none] 52)) ((Below.refl _ _).alloc (Nat.le_refl _) _))
              have HB9 := hid_mk (box_new w8 (z y))
              obtain ⟨n0, n1, n2, _⟩ := HD8.out.nowB.cells
              have nlt := HD8.out.nowB.lt
              rw [tm]
              go_wp2_with fail
              have hdue := due_some HD9.out.que hl0 (by omega) hN HD9.out.hp now
              rw [← HY.out] at hdue
              have hlr : ((l.length : Int) != (N : Int) - (p.length : Int)) = false := by rw [bne_eq_false_iff_eq]; omega
              by_cases hlt : now < z y
              · refine hdue.mono ?_
                rintro _ w10 hE
                obtain ⟨rfl, hb10⟩ := hE.1 hlt
                have HLT := hid_mk hlt
                have hd : decide (now < z y) = true := decide_eq_true hlt
                clear hE hdue hlt
                have HD10 := hid_mk (HD9.out.later hb10)
                obtain ⟨t1, _⟩ := HD10.out.que.cell
                obtain ⟨a, cp, rfl⟩ := HD10.out.que.shape
                have hcnt : cnt z now N = p.length := cnt_split HD10.out.perm HD10.out.pst (fun i hi => by have h1 := hp_all HD10.out.hp i hi; rw [← HY.out] at h1; have := HLT.out; omega)
                clear n0 n1 n2
                go_wp2_with fail
                refine (next_some HD10.out.que hl0 (by omega)).mono ?_
                rintro _ w11 ⟨rfl, hb11⟩
                rw [← HY.out]
                have HD11 := hid_mk (HD10.out.later hb11)
                obtain ⟨n0, n1, n2, _⟩ := HD11.out.nowB.cells
                have nlt := HD11.out.nowB.lt
                rw [tm]
                go_wp2_with fail
                refine (after_ms (z y) now _).mono ?_
                rintro _ w12 ⟨rfl, hb12⟩
                rw [hd]
                go_wp2
                go_ret
                exact ⟨rfl, (HD11.out.bel.alloc HD11.out.bel.size _).trans (hb12.mono (by have := HD11.out.bel.size; simp; omega))⟩
              · refine hdue.mono ?_
                rintro _ w10 hE
                obtain ⟨rfl, v2, l2, hQ2, hP2, hH2, hS2⟩ := hE.2 hlt
                have hle : z y ≤ now := by omega
                have HLE := hid_mk hle
                clear hE hdue hlt hle n0 n1 n2
                have hnp := HD.out.fresh HYL.out
                have hIn := hQ2.ins y hyN
                obtain ⟨d0, d5, d6, d7, _, _⟩ := hIn.cells
                have hS10 := HD9.out.seen.stp hS2
                obtain ⟨s0, s1⟩ := hS10.cell hyN
                have hfalse : decide (y ∈ p) = false := decide_eq_false hnp
                rw [hfalse] at s0
                have hlow := HD.out.lowg
                have hsz0 : w.heap.size + 2 ≤ w8.heap.size := by have := HD8.out.que.tlt; omega
                have hbw10 : Below w.heap.size w w10 := HD9.out.bel.trans (hS2.bel.mono (by omega))
                obtain ⟨x, rfl, hxb, hxc⟩ : ∃ x, a0 = some x ∧ x.block < w.heap.size ∧ w.cell? (x.add y) = some (.int .i32 (z y)) := by
                  rcases HX.out.2 with h0 | ⟨x, h1, h2, h3⟩
                  · omega
                  · exact ⟨x, h1, h2, h3 y hyN⟩
                have hbw11 : Below w.heap.size w (w10.setCell ⟨B10 + 1, y, none⟩ (.bool true)) := hbw10.setCell (by exact hlow) _
                have f1 : (w10.setCell ⟨B10 + 1, y, none⟩ (.bool true)).cell? (x.add y) = some (.int .i32 (z y)) := (hbw11.cell (by rw [add_block]; exact hxb)).trans hxc
                have hne : bs y ≠ B10 + 1 := by
                  intro e
                  obtain ⟨c1, h1, _⟩ := hIn
                  obtain ⟨c2, h2, _⟩ := hS10
                  rw [e, h2] at h1
                  injection h1 with h1; injection h1 with _ h1; contradiction
                have HQ11 : Hid (Que (w10.setCell ⟨B10 + 1, y, none⟩ (.bool true)) (w.heap.size + 2) N bs z v2 l2) := by
                  obtain ⟨c2, h2, _⟩ := hS10
                  exact hQ2.other h2 (by decide) (by decide) (by decide) _
                have HS11 := hid_mk (hS10.put hyN)
                have hB9 := HB9.out.stp hS2
                have hB16 := HD9.out.lastB.stp hS2
                have hB10 := HD9.out.nowB.stp hS2
                have HB9' := hid_mk (hB9.other (a := ⟨B10 + 1, y, none⟩) (by exact hB9.ne_que hS10) (.bool true))
                have HB16' := hid_mk (hB16.other (a := ⟨B10 + 1, y, none⟩) (by exact hB16.ne_que hS10) (.bool true))
                have HB10' := hid_mk (hB10.other (a := ⟨B10 + 1, y, none⟩) (by exact hB10.ne_que hS10) (.bool true))
                have HPH := hid_mk (And.intro hP2 hH2)
                clear hP2 hH2 hB9 hB16 hB10 hS10 hIn hQ2 hnp hfalse HX hbw10 d5 d6 d7 hxc
                have hge : decide ((N : Int) ≤ (y : Int)) = false := decide_eq_false (by omega)
                have hgt : decide (now < z y) = false := decide_eq_false (by have := HLE.out; omega)
                have iy : (y : Int) < (N : Int) := by omega
                rw [ptr]
                go_wp2_with fail
                obtain ⟨W11, hW11⟩ : ∃ W, W = w10.setCell ⟨B10 + 1, y, none⟩ (.bool true) := ⟨_, rfl⟩
                rw [← hW11] at hbw11 HQ11 HS11 HB9' HB16' HB10' ⊢
                clear hW11 f1 d0 s0 s1
                obtain ⟨_, d5, d6, d7, _, _⟩ := (HQ11.out.ins y hyN).cells
                obtain ⟨b0, b1, b2, _⟩ := HB9'.out.cells
                refine wp_region_tail 8 mixed (by kernel_rfl) ?_
                simp only [List.take_succ_cons, List.take_zero, List.drop_succ_cons, List.drop_zero]
                repeat (go_big_quiet_step (fail))
                refine wpQuiet_nil ?_
                go_wp2_with fail
                refine (equal_ms (z y) (z y) _).mono ?_
                rintro _ w12 ⟨rfl, hb12⟩
                have hbd : Below W11.heap.size W11 w12 := (Below.refl _ _).drew.trans hb12
                have HQ12 := hid_mk (HQ11.out.later hbd)
                have HS12 := hid_mk (HS11.out.below hbd)
                have HB16q := hid_mk (HB16'.out.below hbd)
                have HB10q := hid_mk (HB10'.out.below hbd)
                have hbw12 : Below w.heap.size w w12 := hbw11.trans (hbd.mono hbw11.size)
                rw [show decide (z y = z y) = true from decide_eq_true rfl]
                clear d5 d6 d7 b0 b1 b2 HQ11 HS11 HB16' HB10'
                obtain ⟨e0, e1, e2, _, _, _⟩ := HB16q.out.cells
                obtain ⟨_, d5, d6, d7, _, _⟩ := (HQ12.out.ins y hyN).cells
                by_cases hp0 : 0 < p.length
                · have hdp : decide (0 < p.length) = true := decide_eq_true hp0
                  have hm : m ≤ z y := HD.out.nxt (by intro e; rw [e] at hp0; simp at hp0) y HYL.out
                  have HM := hid_mk (decide_eq_false (by omega) : decide (z y < m) = false)
                  have HP0 := hid_mk hp0
                  rw [hdp]
                  clear hp0 hm hdp
                  go_wp2_with fail
                  refine wp_region_tail 7 mixed (by kernel_rfl) ?_
                  simp only [List.take_succ_cons, List.take_zero, List.drop_succ_cons, List.drop_zero]
                  repeat (go_big_quiet_step (fail))
                  refine wpQuiet_nil ?_
                  go_wp2_with fail
                  refine (before_ms (z y) m _).mono ?_
                  rintro _ w13 ⟨rfl, hb13⟩
                  rw [HM.out]
                  have hbe : Below w12.heap.size w12 w13 := (Below.refl _ _).drew.trans hb13
                  have WQ := HQ12.out.later hbe
                  have WS := HS12.out.below hbe
                  have WB := HB16q.out.below hbe
                  have WT := HB10q.out.below hbe
                  have WL : Below w.heap.size w w13 := hbw12.trans (hbe.mono hbw12.size)
                  clear e0 e1 e2 d5 d6 d7
                  obtain ⟨e0, e1, e2, e3, e4, e5⟩ := WB.cells
                  obtain ⟨_, d5, d6, d7, _, _⟩ := (WQ.ins y hyN).cells
                  go_wp2_with fail
                  go_roundw
                  case rel =>
                    refine ⟨p ++ [y], v2, l2, z y, by simp; try go_num, by simp, by simp; try go_num, HD.out.next HY.out HLE.out hyN HPH.out.1 HPH.out.2 WQ WS WT WB WL⟩
                  case measure => simp [intOf]; omega
                · have hdp : decide (0 < p.length) = false := decide_eq_false hp0
                  have HP0 := hid_mk hp0
                  rw [hdp]
                  clear hp0 hdp
                  go_wp2_with fail
                  go_quiet (fail)
                  have hbe : Below w12.heap.size w12 (w12.drewN nq) := Go.Proofs.Ybulkhfi.A.below_drewN (Below.refl _ _) _
                  have WQ := HQ12.out.later hbe
                  have WS := HS12.out.below hbe
                  have WB := HB16q.out.below hbe
                  have WT := HB10q.out.below hbe
                  have WL : Below w.heap.size w (w12.drewN nq) := hbw12.trans (hbe.mono hbw12.size)
                  clear e0 e1 e2 d5 d6 d7
                  obtain ⟨W13, hW13⟩ : ∃ W, W = w12.drewN nq := ⟨_, rfl⟩
                  rw [← hW13] at WQ WS WB WT WL ⊢
                  clear hW13 hbe
                  obtain ⟨e0, e1, e2, e3, e4, e5⟩ := WB.cells
                  obtain ⟨_, d5, d6, d7, _, _⟩ := (WQ.ins y hyN).cells
                  go_wp2_with fail
                  go_roundw
                  case rel =>
                    refine ⟨p ++ [y], v2, l2, z y, by simp; try go_num, by simp, by simp; try go_num, HD.out.next HY.out HLE.out hyN HPH.out.1 HPH.out.2 WQ WS WT WB WL⟩
                  case measure => simp [intOf]; omega
end Go.Proofs.Ybulkhfi.C
