/-
  'Rows.LawS0400AOneStepSaid', PROVED.
-/
import Derived.Test.YbulkhgkStep
import Derived.Test.YbulkhgkRows
import Derived.WalkKit
import Derived.ProofKit
import Derived.OpenShut
import Derived.ShutString
import Derived.ChangeOld
import Derived.Below
import Derived.Deep.Slices
import Derived.Deep.Strs
namespace Go.Proofs.Ybulkhgk.lawS0400AOneStep
open Go.ChangeShapes Go.WideShapes Go.ChangeAt Go.RowKit Go.Deep
open Go.Proofs.Ybulkhgk.M (Mk mk0)
set_option linter.unusedVariables false

theorem own : ownKnob Yba.prog.godebug = none := by kernel_rfl
theorem laidOut : laidOutB Yba.prog = true := by kernel_rfl
theorem cells25 : Yba.prog.cellsOf 25 = 3 := by kernel_rfl
theorem cells23 : Yba.prog.cellsOf 23 = 1 := by kernel_rfl
theorem cells2 : Yba.prog.cellsOf 2 = 1 := by kernel_rfl
theorem cells3 : Yba.prog.cellsOf 3 = 1 := by kernel_rfl

theorem cell_lt {w : World} {a : Addr} {v : Value} (h : w.cell? a = some v) : a.block < w.heap.size :=
  World.cells?_block (ChangeShapes.cells?_one (Nat.zero_le _) h) (by omega)

theorem add_plain' (b o j : Nat) : (⟨b, o, none⟩ : Addr).add j = ⟨b, o + j, none⟩ := by simp [Addr.add]

/-- The three cells of a mark as the reader has read them. -/
theorem open_mark {H : Type} {enc : TypeId × Value → H} {W : World} {fuel : Nat} {cs : List Value} {x : DataW H × List MemPlace}
    (h : DataW.trod enc Yba.prog W 0 (fun _ => true) true fuel 25 cs = some x) : ∃ m : Mk, cs = [.int .u64 m.1, .int .i64 m.2.1, .int .i64 m.2.2] := by
  obtain ⟨y0, y1, y2, k', _, hlen, t0, t1, t2⟩ := trod_struct3 Yba.underlying25 h
  rw [cells25] at hlen
  obtain ⟨c0, c1, c2, rfl⟩ : ∃ c0 c1 c2, cs = [c0, c1, c2] := by
    match cs, hlen with
    | [c0, c1, c2], _ => exact ⟨c0, c1, c2, rfl⟩
  simp only [cells23, cells2, cells3] at t0 t1 t2
  simp only [List.drop_zero, List.take_succ_cons, List.take_zero, List.drop_succ_cons] at t0 t1 t2
  obtain ⟨v0, e0, _, _⟩ := DataW.trod_int Yba.underlying23 t0
  obtain ⟨v1, e1, _, _⟩ := DataW.trod_int Yba.underlying2 t1
  obtain ⟨v2, e2, _, _⟩ := DataW.trod_int Yba.underlying3 t2
  simp only [List.cons.injEq, and_true] at e0 e1 e2
  subst e0 e1 e2
  exact ⟨(v0, v1, v2), rfl⟩

/-- The marks that came in, for the walk. -/
def Lies (w : World) (a0 : Option Addr) (N : Nat) (D : Nat → Mk) : Prop :=
  N = 0 ∨ ∃ b off, a0 = some ⟨b, off, none⟩ ∧ b < w.heap.size ∧ ∀ i, i < N → w.cell? ⟨b, off + i * 3, none⟩ = some (.int .u64 (D i).1) ∧ w.cell? ⟨b, off + i * 3 + 1, none⟩ = some (.int .i64 (D i).2.1) ∧ w.cell? ⟨b, off + i * 3 + 2, none⟩ = some (.int .i64 (D i).2.2)

theorem open_marks {H : Type} {enc : TypeId × Value → H} {W : World} {fuel : Nat} {a0 : Option Addr} {n cap : Nat} {x : DataW H × List MemPlace}
    (h : DataW.trod enc Yba.prog W 0 (fun _ => true) true fuel 22 [.slice a0 n cap] = some x) : ∃ D, Lies W a0 n D := by
  rcases open_slice Yba.underlying22 h with ⟨hcs, _⟩ | ⟨a, len, cap', m, k, D, Pl, hcs, _, hl, hm, hmm, _, hel⟩
  · simp at hcs
    exact ⟨fun _ => mk0, .inl hcs.2.1⟩
  simp only [List.cons.injEq, Value.slice.injEq, and_true] at hcs
  obtain ⟨rfl, rfl, rfl⟩ := hcs
  rcases Nat.eq_zero_or_pos n with h0 | h0
  · exact ⟨fun _ => mk0, .inl h0⟩
  have hnm : n ≤ m := by simp at hmm; omega
  have each : ∀ i, ∃ z : Mk, i < n → W.cell? ((a.add (i * 3)).add 0) = some (.int .u64 z.1) ∧ W.cell? ((a.add (i * 3)).add 1) = some (.int .i64 z.2.1) ∧ W.cell? ((a.add (i * 3)).add 2) = some (.int .i64 z.2.2) := by
    intro i
    by_cases hi : i < n
    · obtain ⟨cs', hc, ht⟩ := hel i (by omega)
      rw [cells25] at hc
      obtain ⟨z, rfl⟩ := open_mark ht
      obtain ⟨_, _, hcell⟩ := World.cells?_some hc
      have g0 := hcell 0 (by omega)
      have g1 := hcell 1 (by omega)
      have g2 := hcell 2 (by omega)
      exact ⟨z, fun _ => ⟨by simpa using g0, by simpa using g1, by simpa using g2⟩⟩
    · exact ⟨mk0, fun h => absurd h hi⟩
  obtain ⟨z, hz⟩ : ∃ z : Nat → Mk, ∀ i, i < n → W.cell? ((a.add (i * 3)).add 0) = some (.int .u64 (z i).1) ∧ W.cell? ((a.add (i * 3)).add 1) = some (.int .i64 (z i).2.1) ∧ W.cell? ((a.add (i * 3)).add 2) = some (.int .i64 (z i).2.2) := ⟨fun i => (each i).choose, fun i => (each i).choose_spec⟩
  have h00 := (hz 0 h0).1
  have hsp := World.cell?_spot h00
  have hlt := cell_lt h00
  obtain ⟨b, o, sp⟩ := a
  simp [Addr.add] at hsp
  subst hsp
  refine ⟨z, .inr ⟨b, o, rfl, by simpa [Addr.add] using hlt, fun i hi => ?_⟩⟩
  obtain ⟨k0, k1, k2⟩ := hz i hi
  rw [add_plain', add_plain'] at k0 k1 k2
  exact ⟨k0, k1, k2⟩

set_option maxRecDepth 100000 in
theorem walk (a0 : Option Addr) (N cap : Nat) (D : Nat → Mk) (m : Mk) (s : Int) (w : World) (h0 : Lies w a0 N D) (h2 : (Lit.int .u8 s).wf = true) :
    Calls Yba.prog 3 #[.slice a0 N cap, .agg #[.int .u64 m.1, .int .i64 m.2.1, .int .i64 m.2.2], .int .u8 s] w fun e w' => e = .returned (.bool true) ∧ Below w.heap.size w w' := by
  have hs := bounds_u8 h2
  by_cases hN : N ≤ 1024
  · exact M.step_any a0 N cap D m s w hN hs.1 hs.2 h0
  · have hN' : decide ((1024 : Int) < (N : Int)) = true := decide_eq_true (by omega)
    clear h0
    go_enter Yba.func3, Yba.ntmps3
    go_wp2
    go_ret
    exact ⟨rfl, (Below.refl _ _).alloc (Nat.le_refl _) _⟩

set_option maxRecDepth 100000 in
theorem lifted (os : Os) (started : os.Started) (H : Type) (enc : TypeId × Value → H) :
    ReturnsInHanded {} Yba.checked os 3 .any (Rows.lawS0400AOneStepSpec.pre6 enc Yba.prog Yba.f3 Rows.lawS0400AOneStepRow.domain false) (Rows.lawS0400AOneStepSpec.post enc Yba.prog Yba.f3 false true false false) := by
  refine returnsInHanded_of_change (C := Yba.checked) own started (by kernel_rfl) Yba.func3
    (ChangeSpec.witness6 (enc := enc) (C := Yba.checked) false ⟨#[], #[.slice none 0 0, .agg #[.int .u64 0, .int .i64 0, .int .i64 0], .int .u8 0], []⟩ 8 (by kernel_rfl) (by kernel_rfl) (by kernel_rfl) (by kernel_rfl)) ?_
  intro W base args ds gs before hval0 hW hcnd _
  have hval : ∀ (j : Nat) t v, Yba.f3.params[j]? = some t → args[j]? = some v → Value.okWide Yba.prog W .any base t v := hval0
  have hW' := hW
  obtain ⟨p, q, hA0, hV, rfl, hfz, hnd⟩ := hW
  have hA : DataW.TrodAll enc Yba.prog W 0 (fun _ => true) true Yba.f3.params.toList args.toList ds p := hA0
  rw [Yba.params3] at hA hval
  obtain ⟨v0, vs0, d0, ds0, p0, q0, hargs, rfl, rfl, h0, r0⟩ := trodAll_cons hA
  obtain ⟨v1, vs1, d1, ds1, p1, q1, rfl, rfl, rfl, h1, r1⟩ := trodAll_cons r0
  obtain ⟨v2, vs2, d2, ds2, p2, q2, rfl, rfl, rfl, h2, r2⟩ := trodAll_cons r1
  obtain ⟨rfl, rfl, rfl⟩ := trodAll_nil r2
  obtain rfl : args = #[v0, v1, v2] := by cases args; simp_all
  obtain ⟨rfl, rfl⟩ := trodVars_none hV
  obtain ⟨a0, len0, cap0, rfl⟩ := okWide_slice Yba.underlying22 (hval 0 22 v0 rfl rfl)
  obtain ⟨cs1, rfl, hcs1⟩ := okWide_struct Yba.underlying25 (hval 1 25 v1 rfl rfl)
  obtain ⟨a2, rfl, rfl, rfl, w2⟩ := open_int Yba.underlying5 (hval 2 5 v2 rfl rfl) h2
  have k0 := h0
  have lt0 : ∀ x ∈ p0, x.block < W.heap.size := by obtain ⟨m, hm⟩ := k0; exact DataW.trod_lt m _ _ _ hm
  have k1 := h1
  have lt1 : ∀ x ∈ p1, x.block < W.heap.size := by obtain ⟨m, hm⟩ := k1; exact DataW.trod_lt m _ _ _ hm
  obtain ⟨D, hD⟩ : ∃ D, Lies W a0 len0 D := by
    obtain ⟨fuel, hf⟩ := h0
    exact open_marks hf
  obtain ⟨m, hm⟩ : ∃ m : Mk, cs1 = #[.int .u64 m.1, .int .i64 m.2.1, .int .i64 m.2.2] := by
    obtain ⟨fuel, hf⟩ := h1
    obtain ⟨m, hm⟩ := open_mark hf
    refine ⟨m, ?_⟩
    apply Array.toList_inj.1
    simpa [Value.cells] using hm
  subst hm
  clear hA0 hval0
  refine (walk a0 len0 cap0 D m a2 W hD w2).mono fun e W' ⟨he, bel⟩ => ?_
  subst he
  exact ⟨_, rfl, _, _, _, [], _, [], hW', trodAll_mk1 (shut_bool Yba.underlying4 _), (trodAll_cons_mk (Below.trod laidOut (by kernel_rfl) (of_decide_eq_true (by kernel_rfl)) k0 bel lt0) (trodAll_cons_mk (Below.trod laidOut (by kernel_rfl) (of_decide_eq_true (by kernel_rfl)) k1 bel lt1) (trodAll_cons_mk (shut_int Yba.underlying5 w2) trodAll_mk0))), rfl, bel.frame _, fun h => by cases h⟩

theorem over : Rows.lawS0400AOneStepRow.holds Yba.pinned (OpenSpec.ofChange Rows.lawS0400AOneStepSpec) :=
  OpenClaim.holds_of_wide 3 Yba.f3 rfl rfl rfl rfl rfl rfl rfl ⟨rfl, rfl, rfl, rfl, rfl⟩ rfl rfl rfl rfl rfl (by kernel_rfl) Yba.func3 (by kernel_rfl)
    (of_decide_eq_true (by kernel_rfl)) (by unfold Func.isWrapper; first | (rw [if_pos (by decide +kernel)]; kernel_rfl) | (rw [if_neg (by decide +kernel)]; exact ⟨rfl, rfl⟩))
    (fun os started H enc _ => lifted os started H enc)

/-- THE STATEMENT -/
theorem proved : Rows.LawS0400AOneStepSaid := over
#print axioms proved
end Go.Proofs.Ybulkhgk.lawS0400AOneStep
