import Derived.Test.YbulkhgkOver
import Derived.Deep.RegionLaw
import Derived.Maps.AppendAt
import Derived.OneCell
namespace Go.Proofs.Ybulkhgk.M
open Go.RowKit
set_option linter.unusedVariables false

section
variable {P : Program}
/-- append to a row of the call's own, as one step of a region that draws. -/
theorem step_append_at {ops : Array Oper} {o : Oper} {a : Act} {w : World} {K : Act → World → Prop} {Q : Exit → Act → World → Prop} {E : Prop}
    (hg : o.guard = none) (s x : Operand) (t : TypeId) (ho : o.op = Op.call { callee := Callee.builtin Builtin.append, args := #[s, x], argTypes := #[t, t] })
    (base : Nat) (e : TypeId) (i : TypeInfo) (z : Value) (size bytes : Nat) (ht : P.underlying t = some (.slice e)) (hi : P.info? e = some i) (hz : i.zero = some z)
    (hsize : i.size = size) (hby : i.bytes = bytes) (hzs : z.cells.size = size) (hsz : 0 < size)
    (v : Value) (n : Nat) (xs : List Value) (hs : a.eval s = v) (hown : w.ownsRow base e size v n xs)
    (ad : Addr) (m c : Nat) (news : List Value) (hx : a.eval x = .slice (some ad) m c) (hl : news.length = m * size) (hnews : ∀ j u, news[j]? = some u → w.cell? (ad.add j) = some u) (h1 : ∀ u ∈ news, u.oneCell' = true)
    (h63 : n + m ≤ maxLen) (hbytes : (n + m) * bytes ≤ 140737488355328) (hbase : base ≤ w.heap.size)
    (hK : ∀ v' w', w'.ownsRow base e size v' (n + m) (xs ++ news) → w.grownBy w' v.ownBlock → (v'.ownBlock = v.ownBlock ∨ v'.ownBlock = some w.heap.size) → K (a.put o.dst v') w') :
    if Region.wanted o (yielded ops a.tmps) = true then Oper.wp P o a w K Q else E := by
  have hw : Region.wanted o (yielded ops a.tmps) = true := by simp [Region.wanted, hg]
  rw [if_pos hw]
  obtain ⟨v', w', hr, h2, h3, h4, h5⟩ := run_append_own_at (P := P) w base t o.type e i z size bytes ht hi hz hsize hby hzs hsz v n xs hown ad m c news hl hnews h1 h63 hbytes hbase
  unfold Oper.wp execOp
  simp only [ho, resolve, invoke, builtin, Sem.run_bind, Sem.run_pure, Result.andThen_ok, List.map_toArray, List.map_cons, List.map_nil, hs, hx, hr]
  exact hK _ _ h2 h3 h5
end

theorem ownsRow_shrink3 {w : World} {base : Nat} {e : TypeId} {g k k' cap : Nat} {xs : List Value} (h : w.ownsRow base e 3 (.slice (some ⟨g, 0, none⟩) k cap) k xs) (hk : k' ≤ k) : w.ownsRow base e 3 (.slice (some ⟨g, 0, none⟩) k' cap) k' (xs.take (k' * 3)) := by
  obtain ⟨h1, h2⟩ := h
  refine ⟨by simp; omega, ?_⟩
  rcases h2 with ⟨h2, _⟩ | ⟨g', cap', cur, hv, hg, hh, r1, r2, r3, r4⟩
  · cases h2
  · simp only [Value.slice.injEq, Option.some.injEq, Addr.mk.injEq, and_true, true_and] at hv
    obtain ⟨rfl, rfl⟩ := hv
    exact .inr ⟨g, cap, cur, rfl, hg, hh, by omega, r2, r3, by rw [← r4, List.take_take]; congr 1; omega⟩

/-- Block Tb holds a trail whose marks are v. -/
def Trl (w : World) (Tb : Nat) (v : Value) : Prop := ∃ cur : Array Value, w.heap[Tb]? = some (.cells cur 43 (0, 0)) ∧ cur[7]? = some v
theorem Trl.lt {w : World} {Tb : Nat} {v : Value} (h : Trl w Tb v) : Tb < w.heap.size := by obtain ⟨c, h1, _⟩ := h; exact (Array.getElem?_eq_some_iff.1 h1).1
theorem Trl.block {w w' : World} {Tb : Nat} {v : Value} (h : Trl w Tb v) (hb : w'.heap[Tb]? = w.heap[Tb]?) : Trl w' Tb v := by obtain ⟨c, h1, h2⟩ := h; exact ⟨c, hb.trans h1, h2⟩
theorem Trl.later {w w' : World} {Tb : Nat} {v : Value} (h : Trl w Tb v) (hb : Below w.heap.size w w') : Trl w' Tb v := h.block (hb.block Tb h.lt)
theorem Trl.cell {w : World} {Tb : Nat} {v : Value} (h : Trl w Tb v) : w.cell? ⟨Tb, 7, none⟩ = some v ∧ w.frozen? ⟨Tb, 7, none⟩ = false := by
  obtain ⟨c, h1, h2⟩ := h
  exact ⟨(cell_of_row w Tb 7 c 43 (0, 0) h1).trans h2, frozen_of_row w Tb 7 c 43 h1⟩
theorem Trl.put {w : World} {Tb : Nat} {v : Value} (h : Trl w Tb v) (v' : Value) : Trl (w.setCell ⟨Tb, 7, none⟩ v') Tb v' := by
  obtain ⟨c, h1, h2⟩ := h
  refine ⟨c.setIfInBounds 7 v', heap_setCell_same w Tb 7 c 43 v' h1, ?_⟩
  have := (Array.getElem?_eq_some_iff.1 h2).1
  simp [this]

theorem Trl.ne {w : World} {Tb b n : Nat} {v u : Value} {xs : List Value} (h : Trl w Tb v) (hr : w.ownsRow b 30 3 u n xs) : u.ownBlock ≠ some Tb := by
  obtain ⟨c, h1, _⟩ := h
  rcases hr.2 with ⟨rfl, _⟩ | ⟨g, cap, cur, rfl, _, hh, _⟩
  · simp [Value.ownBlock]
  · simp only [Value.ownBlock, ne_eq, Option.some.injEq]
    rintro rfl
    rw [h1] at hh
    injection hh with hh; injection hh with _ hh; contradiction

/-- What a step on the trail may turn: the trail's own block, the row of its marks, and what is new. -/
structure Frm (Tb : Nat) (row : Option Nat) (w w' : World) : Prop where
  os : w'.os = w.os
  tape : w'.tape = w.tape
  output : w'.output = w.output
  size : w.heap.size ≤ w'.heap.size
  block : ∀ k, k < w.heap.size → k ≠ Tb → some k ≠ row → w'.heap[k]? = w.heap[k]?
theorem Frm.of_below {Tb : Nat} {row : Option Nat} {w w' : World} (h : Below w.heap.size w w') : Frm Tb row w w' := ⟨h.os, h.tape, h.output, h.size, fun k hk _ _ => h.block k hk⟩
theorem Frm.trans {Tb : Nat} {row row' : Option Nat} {a b c : World} (h : Frm Tb row a b) (k : Frm Tb row' b c) (hr : row' = row ∨ ∃ g, row' = some g ∧ a.heap.size ≤ g) : Frm Tb row a c :=
  ⟨k.os.trans h.os, k.tape.trans h.tape, k.output.trans h.output, Nat.le_trans h.size k.size, fun i hi h1 h2 => (k.block i (Nat.lt_of_lt_of_le hi h.size) h1 (by
    rcases hr with rfl | ⟨g, rfl, hg⟩
    · exact h2
    · intro e; injection e with e; omega)).trans (h.block i hi h1 h2)⟩
theorem Frm.grown {Tb : Nat} {row : Option Nat} {w w' : World} (h : w.grownBy w' row) : Frm Tb row w w' := ⟨h.os, h.tape, h.output, h.size, fun k hk _ h2 => h.block k hk h2⟩
theorem Frm.put {Tb : Nat} {row : Option Nat} (w : World) (o : Nat) (u : Value) : Frm Tb row w (w.setCell ⟨Tb, o, none⟩ u) := ⟨rfl, rfl, rfl, by simp [World.setCell], fun k _ h1 _ => Below.heap_setCell _ _ _ _ h1⟩

set_option maxRecDepth 100000 in
set_option maxHeartbeats 1000000 in
theorem mark_any (Tb b : Nat) (v : Value) (L : List Mk) (m : Mk) (w : World) (hT : Trl w Tb v) (h : Row w b v L) (hbw : b ≤ w.heap.size) (hl : 0 < L.length) (hm : L.length ≤ 2000) :
    Calls Yba.prog 7 #[.pointer (some ⟨Tb, 0, none⟩), .agg #[.int .u64 m.1, .int .i64 m.2.1, .int .i64 m.2.2]] w fun r w' => r = .returned (.tuple #[]) ∧ ∃ v', Trl w' Tb v' ∧ Row w' b v' (modelL L m) ∧ Frm Tb v.ownBlock w w' := by
  obtain ⟨i0, hi, hz0, hz1, hz2⟩ := info_parts info30
  obtain ⟨g, cap, _, rfl, hbg, lg, _⟩ := h.shape hl
  have hTl := hT.lt
  have hTg : Tb ≠ g := by have := hT.ne h; simp [Value.ownBlock] at this; omega
  obtain ⟨t1, t2⟩ := hT.cell
  have H := hid_mk h
  have HT := hid_mk hT
  obtain ⟨n, hn⟩ : ∃ n, L.length = n + 1 := ⟨L.length - 1, by omega⟩
  obtain ⟨d0, d1, d2⟩ := h.at (t := n) (by omega)
  have HNN := hid_mk hn
  have in0 : (n : Int) < (L.length : Int) := by omega
  have in1 : (L.length : Int) - 1 = (n : Int) := by omega
  have hn2 : n ≤ 1999 := by omega
  have hw64 : IntKind.i64.wrap (n : Int) = (n : Int) := by rw [IntKind.wrap_i64]; omega
  have hbb : Below w.heap.size w (w.alloc (.cells #[.int .u64 m.1, .int .i64 m.2.1, .int .i64 m.2.2] 30)) := (Below.refl _ _).alloc (Nat.le_refl _) _
  clear hn h hT
  by_cases he : L.getD n mk0 = m
  · have HE := hid_mk he
    rw [he] at d0 d1 d2
    clear he
    go_enter Yba.func7, Yba.ntmps7
    go_wp2_with fail
    go_quiet (fail)
    go_wp2
    have hE : modelL L m = L := by unfold modelL; rw [if_pos (by rw [show L.length - 1 = n from by have := HNN.out; omega]; exact HE.out)]
    have hbD := below_drewN hbb nq
    exact bodyPost_ret (results_none rfl _ _ _) rfl ⟨rfl, _, HT.out.later hbD, by rw [hE]; exact H.out.later hbD, Frm.of_below hbD⟩
  · have HE := hid_mk he
    obtain ⟨q, hq⟩ : ∃ q, q = L.getD n mk0 := ⟨_, rfl⟩
    rw [← hq] at d0 d1 d2 he
    have heq : ∀ w : World, (binOp .eql 30 (.agg #[.int .u64 q.1, .int .i64 q.2.1, .int .i64 q.2.2]) (.agg #[.int .u64 m.1, .int .i64 m.2.1, .int .i64 m.2.2])).run Yba.prog w = .ok (.bool false) w := fun w => by rw [eq_struct, decide_eq_false he]
    clear he hq
    go_enter Yba.func7, Yba.ntmps7
    go_wp2_with fail
    go_quiet (fail)
    have hbD : Below w.heap.size w ((w.alloc (.cells #[.int .u64 m.1, .int .i64 m.2.1, .int .i64 m.2.2] 30)).drewN nq) := below_drewN hbb nq
    have hbx : Below (w.heap.size + 1) (w.alloc (.cells #[.int .u64 m.1, .int .i64 m.2.1, .int .i64 m.2.2] 30)) ((w.alloc (.cells #[.int .u64 m.1, .int .i64 m.2.1, .int .i64 m.2.2] 30)).drewN nq) := below_drewN (Below.refl _ _) nq
    have x0 := (hbx.cell (p := ⟨w.heap.size, 0, none⟩) (by exact Nat.lt_succ_self _)).trans (show _ = some (.int .u64 m.1) by simp)
    have x1 := (hbx.cell (p := ⟨w.heap.size, 1, none⟩) (by exact Nat.lt_succ_self _)).trans (show _ = some (.int .i64 m.2.1) by simp)
    have x2 := (hbx.cell (p := ⟨w.heap.size, 2, none⟩) (by exact Nat.lt_succ_self _)).trans (show _ = some (.int .i64 m.2.2) by simp)
    have hszx : w.heap.size + 1 ≤ ((w.alloc (.cells #[.int .u64 m.1, .int .i64 m.2.1, .int .i64 m.2.2] 30)).drewN nq).heap.size := by rw [drewN_size]; simp
    obtain ⟨W2, hW2⟩ : ∃ W, W = (w.alloc (.cells #[.int .u64 m.1, .int .i64 m.2.1, .int .i64 m.2.2] 30)).drewN nq := ⟨_, rfl⟩
    rw [← hW2] at hbD x0 x1 x2 hszx ⊢
    clear hbx hW2 t1 t2 d0 d1 d2 heq hbb
    have HT2 := hid_mk (HT.out.later hbD)
    have H2 := hid_mk (H.out.later hbD)
    obtain ⟨t1, t2⟩ := HT2.out.cell
    have hTl2 := HT2.out.lt
    have nw := news30 W2 m
    have hR2 := (show W2.ownsRow b 30 3 (.slice (some ⟨g, 0, none⟩) L.length cap) L.length (mcs L) from H2.out).alloc (.cells #[.int .u64 m.1, .int .i64 m.2.1, .int .i64 m.2.2] 30)
    have HN := hid_mk (And.intro nw hR2)
    clear nw hR2
    go_wp2_with fail
    go_region_law (refine step_append_at rfl (.tmp 25) (.tmp 27) 26 rfl b 30 i0 (.agg #[.int .u64 0, .int .i64 0, .int .i64 0]) 3 24 Yba.underlying26 hi hz0 hz1 hz2 rfl (by decide) (.slice (some ⟨g, 0, none⟩) L.length cap) L.length (mcs L) (by simp [Act.eval]) HN.out.2 ⟨W2.heap.size, 0, none⟩ 1 1 (mc m) (by simp [Act.eval]) rfl HN.out.1 (mc_one m) (by unfold maxLen; omega) (by omega) (by simp; omega) ?_; intro v5 w5 hown5 hgrow5 hat5; obtain ⟨a5, cap5, rfl⟩ := (owns_slice hown5); have hT5 : Trl w5 Tb (.slice (some ⟨g, 0, none⟩) L.length cap) := (HT2.out.later (w' := W2.alloc (.cells #[.int .u64 m.1, .int .i64 m.2.1, .int .i64 m.2.2] 30)) ((Below.refl _ _).alloc (Nat.le_refl _) _)).block (hgrow5.block Tb (by simp; omega) (by simp [Value.ownBlock]; exact hTg)); obtain ⟨y1, y2⟩ := hT5.cell)
    all_goals clear y1 y2
    all_goals
      have hsz5 : w.heap.size + 1 ≤ w5.heap.size := by have := hgrow5.size; simp at this; omega
      have hF : Frm Tb (some g) w (w5.setCell ⟨Tb, 7, none⟩ (.slice a5 (L.length + 1) cap5)) :=
        ((Frm.of_below (Tb := Tb) (row := some g) ((hbD.alloc (by omega) (.cells #[.int .u64 m.1, .int .i64 m.2.1, .int .i64 m.2.2] 30)).drew)).trans (Frm.grown hgrow5) (.inl rfl)).trans (Frm.put _ _ _) (.inl rfl)
      have hT6 := hT5.put (.slice a5 (L.length + 1) cap5)
      obtain ⟨out, hout⟩ : ∃ out, out = L ++ [m] := ⟨_, rfl⟩
      have hlo : out.length = L.length + 1 := by rw [hout]; simp
      have hR6 : Row (w5.setCell ⟨Tb, 7, none⟩ (.slice a5 (L.length + 1) cap5)) b (.slice a5 (L.length + 1) cap5) out := by
        refine ownsRow_setCell_other ?_ (by exact hT5.ne hown5) _
        rw [hlo, hout, mcs_append]
        simpa [mcs] using hown5
      have hne : L.getD (L.length - 1) mk0 ≠ m := by rw [show L.length - 1 = n from by have := HNN.out; omega]; exact HE.out
      obtain ⟨g5, cap5', _, e5, hg5, lg5, _, hcp5, _⟩ := hR6.shape (by omega)
      rw [hlo] at e5 hcp5
      obtain ⟨rfl, rfl⟩ : a5 = some ⟨g5, 0, none⟩ ∧ cap5 = cap5' := by simpa using e5
      have hrow : some g5 = some g ∨ w.heap.size ≤ g5 := by
        rcases hat5 with h | h
        · exact .inl (by simpa [Value.ownBlock] using h)
        · right; simp [Value.ownBlock] at h; omega
      have hTg5 : Tb ≠ g5 := by have := hT6.ne hR6; simp [Value.ownBlock] at this; omega
      obtain ⟨W6, hW6⟩ : ∃ W, W = w5.setCell ⟨Tb, 7, none⟩ (.slice (some ⟨g5, 0, none⟩) (L.length + 1) cap5) := ⟨_, rfl⟩
      rw [← hW6] at hF hT6 hR6 lg5 ⊢
      have HT6 := hid_mk hT6
      have HR6 := hid_mk hR6
      have HF := hid_mk hF
      obtain ⟨y1, y2⟩ := hT6.cell
      have HO := hid_mk (And.intro hout hne)
      clear hW6 hT6 hR6 hF hT5 hown5 hgrow5 hat5 x0 x1 x2 t1 t2 HN H2 HT2 hout hne e5 hbD
      by_cases h64 : L.length + 1 ≤ 64
      · have hd64 : decide ((L.length : Int) + 1 ≤ 64) = true := decide_eq_true (by omega)
        go_wp2
        refine bodyPost_ret (results_none rfl _ _ _) rfl ⟨rfl, _, HT6.out, ?_, HF.out⟩
        have hE : modelL L m = out := by unfold modelL; rw [if_neg HO.out.2, if_pos h64, HO.out.1]
        rw [hE]
        unfold Row
        rw [hlo]
        have := HR6.out
        unfold Row at this
        rw [hlo] at this
        exact this
      · have hd64 : decide ((L.length : Int) + 1 ≤ 64) = false := decide_eq_false (by omega)
        have HM : Hid (modelL L m = thin out) := by show _ = _; unfold modelL; rw [if_neg HO.out.2, if_neg h64, HO.out.1]
        have hc1 : (1 : Int) ≤ (cap5 : Int) := by omega
        obtain ⟨hf, hhf⟩ : ∃ hf : Nat, hf = (L.length + 1) / 2 := ⟨_, rfl⟩
        have hhalf : ((L.length : Int) + 1) / 2 = (hf : Int) := by omega
        have hf1 : 2 ≤ hf := by omega
        have hf2 : hf ≤ L.length := by omega
        have HHF := hid_mk hhf
        clear hhf
        go_wp2_with fail
        try rw [hhalf]
        clear hhalf
        go_loopw [5, 6] (fun u i wr => ∃ k e : Nat, e = 2 * k ∧ 1 ≤ k ∧ 2 * k < hf + 2 ∧ i = .int .i64 e ∧ u = .slice (some ⟨g5, 0, none⟩) k cap5 ∧ Trl wr Tb (.slice (some ⟨g5, 0, none⟩) (L.length + 1) cap5) ∧ wr.ownsRow b 30 3 (.slice (some ⟨g5, 0, none⟩) (L.length + 1) cap5) (L.length + 1) (mcs (curK out k)) ∧ Frm Tb (some g5) W6 wr) (fun _ i _ => L.length + 3 - (intOf i).toNat)
        case atStart => exact ⟨1, 2, rfl, Nat.le_refl _, by omega, rfl, rfl, HT6.out, by rw [curK_one out (by omega)]; have := HR6.out; unfold Row at this; rw [hlo] at this; exact this, Frm.of_below (Below.refl _ _)⟩
        case round =>
          obtain ⟨k, e, he, hk1, hk2, rfl, rfl, hTk, hRk, hFk⟩ := hrel
          have hcl : (curK out k).length = L.length + 1 := by rw [curK_length out k (by omega), hlo]
          have hRk' : Row wr b (.slice (some ⟨g5, 0, none⟩) (curK out k).length cap5) (curK out k) := by unfold Row; rw [hcl]; exact hRk
          obtain ⟨z1, z2⟩ := hTk.cell
          have hlt5 : g5 < wr.heap.size := Nat.lt_of_lt_of_le lg5 hFk.size
          have hltT := hTk.lt
          have HK := hid_mk (And.intro hTk (And.intro hRk' hFk))
          have HEE := hid_mk he
          clear hTk hFk hRk
          by_cases hek : e < hf
          · have ie : (e : Int) < (hf : Int) := by omega
            have ie2 : (e : Int) < (L.length : Int) + 1 := by omega
            obtain ⟨c0, c1, c2⟩ := hRk'.at (t := e) (by omega)
            rw [curK_at out k e (by omega)] at c0 c1 c2
            obtain ⟨q, hq⟩ : ∃ q, q = out.getD e mk0 := ⟨_, rfl⟩
            rw [← hq] at c0 c1 c2
            have HQ := hid_mk hq
            have nw := news30 wr q
            have hR2 := (show Row (wr.alloc (.cells #[.int .u64 q.1, .int .i64 q.2.1, .int .i64 q.2.2] 30)) b (.slice (some ⟨g5, 0, none⟩) (curK out k).length cap5) (curK out k) from hRk'.later ((Below.refl _ _).alloc (Nat.le_refl _) _))
            have hT2 := HK.out.1.later (w' := wr.alloc (.cells #[.int .u64 q.1, .int .i64 q.2.1, .int .i64 q.2.2] 30)) ((Below.refl _ _).alloc (Nat.le_refl _) _)
            have hF2 := HK.out.2.2.trans (Frm.of_below (Tb := Tb) (row := some g5) (w' := wr.alloc (.cells #[.int .u64 q.1, .int .i64 q.2.1, .int .i64 q.2.2] 30)) ((Below.refl _ _).alloc (Nat.le_refl _) _)) (.inl rfl)
            have HN := hid_mk (And.intro nw (And.intro hR2 (And.intro hT2 hF2)))
            clear nw hR2 hT2 hF2 hq hRk' he
            go_wp2_with (at_builtin; refine wpList_append_over rfl _ _ rfl HN.out.2.1 k [q] (by simp; omega) ⟨wr.heap.size, 0, none⟩ 1 1 rfl (by simpa [mcs] using HN.out.1) rfl rfl ?_; intro w7 hown7 hgrow7)
            go_roundw
            case rel =>
              have he := HEE.out
              refine ⟨k + 1, e + 2, by omega, by omega, by omega, by go_num, rfl, HN.out.2.2.1.block (hgrow7.block Tb (by simp; omega) (by simp; omega)), ?_, HN.out.2.2.2.trans (Frm.grown hgrow7) (.inl rfl)⟩
              have e1 : (curK out k).take k ++ [q] ++ (curK out k).drop (k + [q].length) = curK out (k + 1) := by
                rw [HQ.out, he]
                exact curK_succ out k (by omega)
              rw [e1] at hown7
              have e2 : (curK out (k + 1)).length = L.length + 1 := by rw [curK_length out (k + 1) (by omega), hlo]
              unfold Row at hown7
              rw [e2, hcl] at hown7
              exact hown7
            case measure => simp [intOf]; omega
          · have ie : ¬ ((e : Int) < (hf : Int)) := by omega
            have ih1 : (hf : Int) ≤ (L.length : Int) + 1 := by omega
            have ih2 : (L.length : Int) + 1 ≤ (cap5 : Int) := by omega
            have hke : k = (hf + 1) / 2 := by omega
            have hdl : (out.drop hf).length = L.length + 1 - hf := by rw [List.length_drop, hlo]
            have hdrop : (curK out k).drop hf = out.drop hf := by
              unfold curK
              rw [List.drop_append, List.drop_of_length_le (by rw [evs_length]; omega), evs_length, List.nil_append, List.drop_drop]
              congr 1
              omega
            have hnews : ∀ j u, (mcs (out.drop hf))[j]? = some u → wr.cell? ((⟨g5, hf * 3, none⟩ : Addr).add j) = some u := by
              intro j u hj
              have hjl := (List.getElem?_eq_some_iff.1 hj).1
              rw [mcs_length, hdl] at hjl
              rw [← hdrop, ← mcs_drop, List.getElem?_drop] at hj
              have ha : (⟨g5, hf * 3, none⟩ : Addr).add j = ⟨g5, hf * 3 + j, none⟩ := by unfold Addr.add; split <;> simp_all
              rw [ha, HK.out.2.1.cellAt _ (by rw [hcl]; omega)]
              exact hj
            have HNW := hid_mk (And.intro hnews (And.intro hke hdl))
            clear hnews hke hdl hdrop hRk' he
            go_wp2_with (at_builtin; refine wpList_append_over rfl _ _ rfl HK.out.2.1 k (out.drop hf) (by rw [HNW.out.2.2, hcl]; omega) ⟨g5, hf * 3, none⟩ (L.length + 1 - hf) _ HNW.out.2.2.symm HNW.out.1 rfl rfl ?_; intro w7 hown7 hgrow7; have hT7 : Trl w7 Tb (.slice (some ⟨g5, 0, none⟩) (L.length + 1) cap5) := HK.out.1.block (hgrow7.block Tb hltT (by simp; omega)); obtain ⟨y1, y2⟩ := hT7.cell)
            go_end0
            refine ⟨rfl, _, hT7.put _, ?_, ?_⟩
            · have hke := HNW.out.2.1
              have hdl := HNW.out.2.2
              have e2 : ((curK out k).take k ++ out.drop hf ++ (curK out k).drop (k + (out.drop hf).length)).length = L.length + 1 := by
                simp only [List.length_append, List.length_take, List.length_drop, hcl, hlo]
                omega
              unfold Row at hown7
              rw [e2, hcl] at hown7
              have hsh := ownsRow_shrink3 hown7 (k' := k + (L.length + 1 - hf)) (by omega)
              have e3 : (curK out k).take k = evs out k := by
                unfold curK
                rw [List.take_append, List.take_of_length_le (by rw [evs_length]; exact Nat.le_refl _), evs_length, Nat.sub_self, List.take_zero, List.append_nil]
              have e4 : ((curK out k).take k ++ out.drop hf ++ (curK out k).drop (k + (out.drop hf).length)).take (k + (L.length + 1 - hf)) = thin out := by
                rw [thin_eq out k (by rw [hke, hlo, HHF.out]), e3, hlo, ← HHF.out, List.take_append, List.take_of_length_le (by simp [evs_length, hlo])]
                rw [show k + (L.length + 1 - hf) - (evs out k ++ out.drop hf).length = 0 from by simp [evs_length, hlo], List.take_zero, List.append_nil]
              rw [mcs_take, e4] at hsh
              have e5 : (thin out).length = k + (L.length + 1 - hf) := by
                rw [thin_eq out k (by rw [hke, hlo, HHF.out]), List.length_append, evs_length, List.length_drop, hlo, ← HHF.out]
              rw [HM.out]
              refine ownsRow_setCell_other ?_ (by simp [Value.ownBlock]; omega) _
              rw [e5]
              exact hsh
            · have hF7 : Frm Tb (some g5) W6 w7 := HK.out.2.2.trans (Frm.grown hgrow7) (.inl rfl)
              refine (HF.out.trans hF7 ?_).trans (Frm.put (row := some g) _ _ _) (.inl rfl)
              rcases hrow with h | h
              · exact .inl h
              · exact .inr ⟨g5, rfl, h⟩
end Go.Proofs.Ybulkhgk.M
