/-
  'Rows.LawS0398AExactSaid', PROVED.
-/
import Derived.Test.YbulkhfiABuild
import Derived.ProofKit
import Derived.OpenShut
import Derived.ShutString
import Derived.ChangeOld
import Derived.Below
import Derived.Deep.Matrix
namespace Go.Proofs.Ybulkhfi.lawS0398AExact
open Go.ChangeShapes Go.WideShapes Go.ChangeAt Go.RowKit Go.Deep
open Go.Proofs.Ybulkhfi.A
set_option linter.unusedVariables false

theorem own : ownKnob Yba.prog.godebug = none := by kernel_rfl
theorem laidOut : laidOutB Yba.prog = true := by kernel_rfl
theorem cells5 : Yba.prog.cellsOf 5 = 1 := by kernel_rfl
theorem cells22 : Yba.prog.cellsOf 22 = 1 := by kernel_rfl

theorem cell_lt {w : World} {a : Addr} {v : Value} (h : w.cell? a = some v) : a.block < w.heap.size :=
  World.cells?_block (ChangeShapes.cells?_one (Nat.zero_le _) h) (by omega)
theorem add_plain' (b o j : Nat) : (⟨b, o, none⟩ : Addr).add j = ⟨b, o + j, none⟩ := by simp [Addr.add]

/-- Cells of bytes behind an address, for the walk. -/
theorem bytes_of {W : World} {ao : Option Addr} {n m : Nat} {zs : List Int} (hn : n ≤ m) (hz : zs.length = m) (hnone : ao = none → m = 0) (hw : ∀ x ∈ zs, (Lit.int .u8 x).wf = true) (hc : ∀ a, ao = some a → ∀ c, c < m → W.cell? (a.add c) = some (.int .u8 (zs.getD c 0))) :
    Bytes W ao n (fun i => zs.getD i 0) := by
  refine ⟨?_, fun i => ?_⟩
  · rcases Nat.eq_zero_or_pos n with h0 | h0
    · exact .inl h0
    right
    cases ao with
    | none => have := hnone rfl; omega
    | some a =>
      have h00 := hc a rfl 0 (by omega)
      have hsp := World.cell?_spot h00
      have hlt := cell_lt h00
      obtain ⟨b, o, sp⟩ := a
      simp [Addr.add] at hsp
      subst hsp
      refine ⟨b, o, rfl, by simpa [Addr.add] using hlt, fun i hi => ?_⟩
      rw [← add_plain']
      exact hc _ rfl i (by omega)
  · rcases Nat.lt_or_ge i zs.length with h | h
    · exact bounds_u8 (hw _ (getD_mem h))
    · have e : zs.getD i 0 = 0 := by simp [List.getD_eq_getElem?_getD, List.getElem?_eq_none h]
      simp only [e]
      omega

theorem law_many1 (alone : Bool) (a1 a2 : Option Addr) (g n cap1 cap2 : Nat) (hg : 256 < g) (w : World) :
    Calls Yba.prog 3 #[.bool alone, .slice a1 g cap1, .slice a2 n cap2] w fun e w' => e = .returned (.bool true) ∧ Below w.heap.size w w' := by
  go_enter Yba.func3, Yba.ntmps3
  go_wp2
  go_ret
  exact ⟨rfl, Below.refl _ _⟩
theorem law_many2 (alone : Bool) (a1 a2 : Option Addr) (g n cap1 cap2 : Nat) (hg : g ≤ 256) (hn : 256 < n) (w : World) :
    Calls Yba.prog 3 #[.bool alone, .slice a1 g cap1, .slice a2 n cap2] w fun e w' => e = .returned (.bool true) ∧ Below w.heap.size w w' := by
  go_enter Yba.func3, Yba.ntmps3
  go_wp2
  go_ret
  exact ⟨rfl, Below.refl _ _⟩

theorem walk (alone : Bool) (a1 a2 : Option Addr) (g n cap1 cap2 : Nat) (zg : Nat → Int) (ra : Nat → Option Addr) (rl rc : Nat → Nat) (z : Nat → Nat → Int) (w : World) (h1 : Bytes w a1 g zg) (h2 : Lies w a2 n ra rl rc z) :
    Calls Yba.prog 3 #[.bool alone, .slice a1 g cap1, .slice a2 n cap2] w fun e w' => e = .returned (.bool true) ∧ Below w.heap.size w w' := by
  rcases Nat.lt_or_ge 256 g with hg | hg
  · exact law_many1 alone a1 a2 g n cap1 cap2 hg w
  rcases Nat.lt_or_ge 256 n with hn | hn
  · exact law_many2 alone a1 a2 g n cap1 cap2 hg hn w
  exact law_any alone a1 a2 g n cap1 cap2 hg hn w (build_any alone a1 a2 g n cap1 cap2 zg ra rl rc z w hg hn h1 h2)

set_option maxRecDepth 100000 in
theorem lifted (os : Os) (started : os.Started) (H : Type) (enc : TypeId × Value → H) :
    ReturnsInHanded {} Yba.checked os 3 .any (Rows.lawS0398AExactSpec.pre6 enc Yba.prog Yba.f3 Rows.lawS0398AExactRow.domain false) (Rows.lawS0398AExactSpec.post enc Yba.prog Yba.f3 false true false false) := by
  refine returnsInHanded_of_change (C := Yba.checked) own started (by kernel_rfl) Yba.func3
    (ChangeSpec.witness6 (enc := enc) (C := Yba.checked) false ⟨#[], #[.bool false, .slice none 0 0, .slice none 0 0], []⟩ 8 (by kernel_rfl) (by kernel_rfl) (by kernel_rfl) (by kernel_rfl)) ?_
  intro W base args ds gs before hval0 hW hcnd _
  have hval : ∀ (j : Nat) t v, Yba.f3.params[j]? = some t → args[j]? = some v → Value.okWide Yba.prog W .any base t v := hval0
  have hW' := hW
  obtain ⟨p, q, hA0, hV, rfl, hfz, hnd⟩ := hW
  have hA : DataW.TrodAll enc Yba.prog W 0 (fun _ => true) true Yba.f3.params.toList args.toList ds p := hA0
  rw [Yba.params3] at hA hval
  obtain ⟨v0, vs0, d0, ds0, p0, q0, hargs, rfl, rfl, h0, r0⟩ := trodAll_cons hA
  obtain ⟨v1, vs1, d1, ds1, p1, q1, rfl, rfl, rfl, h1, r1⟩ := trodAll_cons r0
  obtain ⟨v2, vs2, d2, ds2, p2, q2, rfl, rfl, rfl, h2, r2⟩ := trodAll_cons r1
  obtain ⟨rfl, rfl, rfl⟩ := trodAll_nil r2
  obtain rfl : args = #[v0, v1, v2] := by cases args; simp_all
  obtain ⟨rfl, rfl⟩ := trodVars_none hV
  obtain ⟨a0, rfl, rfl, rfl⟩ := open_bool Yba.underlying4 (hval 0 4 v0 rfl rfl) h0
  obtain ⟨a1, len1, cap1, rfl⟩ := okWide_slice Yba.underlying22 (hval 1 22 v1 rfl rfl)
  obtain ⟨a2, len2, cap2, rfl⟩ := okWide_slice Yba.underlying23 (hval 2 23 v2 rfl rfl)
  have k1 := h1
  have lt1 : ∀ x ∈ p1, x.block < W.heap.size := by obtain ⟨m, hm⟩ := k1; exact DataW.trod_lt m _ _ _ hm
  have k2 := h2
  have lt2 : ∀ x ∈ p2, x.block < W.heap.size := by obtain ⟨m, hm⟩ := k2; exact DataW.trod_lt m _ _ _ hm
  obtain ⟨zg, hB⟩ : ∃ zg, Bytes W a1 len1 zg := by
    obtain ⟨fuel, hf⟩ := h1
    rcases open_ints Yba.underlying22 Yba.underlying5 cells5 hf with ⟨hcs, _⟩ | ⟨x, l, c, zs, hcs, _, hl, hm, hz, _, hcell, hwz⟩
    · simp [Value.cells] at hcs
      obtain ⟨rfl, rfl, rfl⟩ := hcs
      exact ⟨fun _ => 0, .inl rfl, fun _ => by simp⟩
    · simp [Value.cells] at hcs
      obtain ⟨rfl, rfl, rfl⟩ := hcs
      simp only [if_true] at hz
      exact ⟨fun i => zs.getD i 0, bytes_of hl hz (fun h => by cases h) hwz (fun a ha c hc => by cases ha; exact hcell c (by omega))⟩
  obtain ⟨ra, rl, rc, z, hLi⟩ : ∃ ra rl rc z, Lies W a2 len2 ra rl rc z := by
    obtain ⟨fuel, hf⟩ := h2
    rcases open_int_rows Yba.underlying23 Yba.underlying22 Yba.underlying5 cells22 cells5 hf with ⟨hcs, _⟩ | ⟨x, l, c, A, L, C, Z, hcs, _, hl, hm, _, hel⟩
    · simp [Value.cells] at hcs
      obtain ⟨rfl, rfl, rfl⟩ := hcs
      exact ⟨fun _ => none, fun _ => 0, fun _ => 0, fun _ _ => 0, .inl rfl, fun j hj => by omega⟩
    · simp [Value.cells] at hcs
      obtain ⟨rfl, rfl, rfl⟩ := hcs
      refine ⟨A, L, C, fun j i => (Z j).getD i 0, ?_, fun j hj => ?_⟩
      · rcases Nat.eq_zero_or_pos len2 with h0 | h0
        · exact .inl h0
        right
        have h00 := (hel 0 (by omega)).1
        have hsp := World.cell?_spot h00
        have hlt := cell_lt h00
        obtain ⟨b, o, sp⟩ := x
        simp [Addr.add] at hsp
        subst hsp
        refine ⟨b, o, rfl, by simpa [Addr.add] using hlt, fun j hj => ?_⟩
        rw [← add_plain']
        exact (hel j (by omega)).1
      · obtain ⟨_, e1, e2, e3, e4, e5, e6⟩ := hel j (by omega)
        refine ⟨bytes_of e1 e3 e5 e4 (fun a ha c hc => (e6 a ha).2 c hc), ?_⟩
        unfold maxLen at e2
        omega
  clear hA0 hval0
  refine (walk a0 a1 a2 len1 len2 cap1 cap2 zg ra rl rc z W hB hLi).mono fun e W' ⟨he, bel⟩ => ?_
  subst he
  exact ⟨_, rfl, _, _, _, [], _, [], hW', trodAll_mk1 (shut_bool Yba.underlying4 _), (trodAll_cons_mk (shut_bool Yba.underlying4 _) (trodAll_cons_mk (Below.trod laidOut (by kernel_rfl) (of_decide_eq_true (by kernel_rfl)) k1 bel lt1) (trodAll_cons_mk (Below.trod laidOut (by kernel_rfl) (of_decide_eq_true (by kernel_rfl)) k2 bel lt2) trodAll_mk0))), rfl, bel.frame _, fun h => by cases h⟩

theorem over : Rows.lawS0398AExactRow.holds Yba.pinned (OpenSpec.ofChange Rows.lawS0398AExactSpec) :=
  OpenClaim.holds_of_wide 3 Yba.f3 rfl rfl rfl rfl rfl rfl rfl ⟨rfl, rfl, rfl, rfl, rfl⟩ rfl rfl rfl rfl rfl (by kernel_rfl) Yba.func3 (by kernel_rfl)
    (of_decide_eq_true (by kernel_rfl)) (by unfold Func.isWrapper; first | (rw [if_pos (by decide +kernel)]; kernel_rfl) | (rw [if_neg (by decide +kernel)]; exact ⟨rfl, rfl⟩))
    (fun os started H enc _ => lifted os started H enc)

/-- THE STATEMENT -/
theorem proved : Rows.LawS0398AExactSaid := over
#print axioms proved
end Go.Proofs.Ybulkhfi.lawS0398AExact
