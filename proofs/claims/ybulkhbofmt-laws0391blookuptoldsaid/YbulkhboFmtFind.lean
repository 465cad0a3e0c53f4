import Derived.Test.YbulkhboFmtErr
import Derived.Deep.LoopGhost
namespace Go.Proofs.YbulkhboFmt
open Go.RowKit Go.Extern.Stop Go.Stop Go.Extern
set_option linter.unusedVariables false

/-- Go's '==' on strings. -/
def eqS (c k : ByteArray) : Bool := c.toList == k.toList

/-- The closure of 'CheckClass': is this class's code the captured one? -/
theorem eq_any (c k : ByteArray) (v1 v2 v3 : Value) (p : Nat) (w : World) (hp : w.cell? ⟨p, 0, none⟩ = some (.string k)) (hb : p < w.heap.size) :
    Calls Ybaf.prog 11 #[.agg #[.string c, v1, v2, v3], .pointer (some ⟨p, 0, none⟩)] w fun e w' => e = .returned (.bool (eqS c k)) ∧ Below w.heap.size w w' := by
  go_enter Ybaf.func11, Ybaf.ntmps11
  go_wp2
  go_ret
  exact ⟨rfl, ((Below.refl _ _).alloc (Nat.le_refl _) _)⟩

/-- Block g holds the classes of the codes 'cs', n of them. -/
def Classes (w : World) (g n : Nat) (cs : Nat → ByteArray) : Prop :=
  ∀ j, j < n → w.cell? ⟨g, j * 4, none⟩ = some (.string (cs j)) ∧ w.cell? ⟨g, j * 4 + 1, none⟩ = some (.int .i64 0) ∧ w.cell? ⟨g, j * 4 + 2, none⟩ = some (.pointer none) ∧ w.cell? ⟨g, j * 4 + 3, none⟩ = some (.int .i64 0)

set_option maxHeartbeats 400000 in
theorem index_no (g n cap : Nat) (cs : Nat → ByteArray) (k : ByteArray) (p : Nat) (w : World) (hn : n ≤ 256) (hg : g < w.heap.size) (hC : Classes w g n cs) (hp : w.cell? ⟨p, 0, none⟩ = some (.string k)) (hb : p < w.heap.size)
    (hno : ∀ j, j < n → eqS (cs j) k = false) :
    Calls Ybaf.prog 12 #[.slice (some ⟨g, 0, none⟩) n cap, .func (.func 11) #[] #[.pointer (some ⟨p, 0, none⟩)]] w fun e w' => e = .returned (.int .i64 (-1)) ∧ Below w.heap.size w w' := by
  go_enter Ybaf.func12, Ybaf.ntmps12
  go_wp2
  go_loopw [8] (fun i wr => ∃ m : Nat, m ≤ n ∧ i = .int .i64 m ∧ Below w.heap.size w wr) (fun i _ => n - (intOf i).toNat)
  case atStart => exact ⟨0, Nat.zero_le _, rfl, Below.refl _ _⟩
  case round =>
    obtain ⟨m, hm, rfl, hbel⟩ := hrel
    by_cases hlt : m < n
    · obtain ⟨c0, c1, c2, c3⟩ := hC m hlt
      have d0 : wr.cell? ⟨g, m * 4, none⟩ = some (.string (cs m)) := (hbel.cell (by exact hg)).trans c0
      have d1 : wr.cell? ⟨g, m * 4 + 1, none⟩ = some (.int .i64 0) := (hbel.cell (by exact hg)).trans c1
      have d2 : wr.cell? ⟨g, m * 4 + 2, none⟩ = some (.pointer none) := (hbel.cell (by exact hg)).trans c2
      have d3 : wr.cell? ⟨g, m * 4 + 3, none⟩ = some (.int .i64 0) := (hbel.cell (by exact hg)).trans c3
      have hp' : wr.cell? ⟨p, 0, none⟩ = some (.string k) := (hbel.cell (by exact hb)).trans hp
      have hb' : p < wr.heap.size := Nat.lt_of_lt_of_le hb hbel.size
      have he := hno m hlt
      clear c0 c1 c2 c3 hno hC
      go_wp2_with (go_at_call 11; refine (eq_any _ _ _ _ _ _ _ hp' hb').mono ?_; rintro e w1 ⟨rfl, hb1⟩)
      go_roundw
      case rel => exact ⟨m + 1, by omega, by go_num, hbel.trans (hb1.mono hbel.size)⟩
      case measure => simp [intOf]; omega
    · go_wp2
      go_ret
      exact ⟨rfl, hbel⟩

set_option maxHeartbeats 400000 in
theorem index_yes (g n cap : Nat) (cs : Nat → ByteArray) (k : ByteArray) (p : Nat) (w : World) (hn : n ≤ 256) (hg : g < w.heap.size) (hC : Classes w g n cs) (hp : w.cell? ⟨p, 0, none⟩ = some (.string k)) (hb : p < w.heap.size)
    (hyes : ∃ j, j < n ∧ eqS (cs j) k = true) :
    Calls Ybaf.prog 12 #[.slice (some ⟨g, 0, none⟩) n cap, .func (.func 11) #[] #[.pointer (some ⟨p, 0, none⟩)]] w fun e w' => ∃ m : Nat, e = .returned (.int .i64 m) ∧ Below w.heap.size w w' := by
  obtain ⟨j, hj, hjy⟩ := hyes
  go_enter Ybaf.func12, Ybaf.ntmps12
  go_wp2
  go_loopw [8] (fun i wr => ∃ m : Nat, m ≤ j ∧ i = .int .i64 m ∧ Below w.heap.size w wr) (fun i _ => n - (intOf i).toNat)
  case atStart => exact ⟨0, Nat.zero_le _, rfl, Below.refl _ _⟩
  case round =>
    obtain ⟨m, hm, rfl, hbel⟩ := hrel
    have hlt : m < n := by omega
    obtain ⟨c0, c1, c2, c3⟩ := hC m hlt
    have d0 : wr.cell? ⟨g, m * 4, none⟩ = some (.string (cs m)) := (hbel.cell (by exact hg)).trans c0
    have d1 : wr.cell? ⟨g, m * 4 + 1, none⟩ = some (.int .i64 0) := (hbel.cell (by exact hg)).trans c1
    have d2 : wr.cell? ⟨g, m * 4 + 2, none⟩ = some (.pointer none) := (hbel.cell (by exact hg)).trans c2
    have d3 : wr.cell? ⟨g, m * 4 + 3, none⟩ = some (.int .i64 0) := (hbel.cell (by exact hg)).trans c3
    have hp' : wr.cell? ⟨p, 0, none⟩ = some (.string k) := (hbel.cell (by exact hb)).trans hp
    have hb' : p < wr.heap.size := Nat.lt_of_lt_of_le hb hbel.size
    clear c0 c1 c2 c3 hC
    have HJ : Hid (eqS (cs j) k = true) := hjy
    clear hjy
    cases he : eqS (cs m) k
    · go_wp2_with (go_at_call 11; refine (eq_any _ _ _ _ _ _ _ hp' hb').mono ?_; rintro e w1 ⟨rfl, hb1⟩)
      go_roundw
      case rel =>
        refine ⟨m + 1, ?_, by go_num, hbel.trans (hb1.mono hbel.size)⟩
        rcases Nat.lt_or_ge m j with h | h
        · exact h
        · have : m = j := by omega
          subst this
          rw [HJ.out] at he
          cases he
      case measure => simp [intOf]; omega
    · go_wp2_with (go_at_call 11; refine (eq_any _ _ _ _ _ _ _ hp' hb').mono ?_; rintro e w1 ⟨rfl, hb1⟩)
      go_ret
      exact ⟨m, rfl, hbel.trans (hb1.mono hbel.size)⟩

/-- 'CheckClass' at a fund that has the class. -/
theorem contains_yes (g n cap : Nat) (cs : Nat → ByteArray) (k : ByteArray) (p : Nat) (w : World) (hn : n ≤ 256) (hg : g < w.heap.size) (hC : Classes w g n cs) (hp : w.cell? ⟨p, 0, none⟩ = some (.string k)) (hb : p < w.heap.size)
    (hyes : ∃ j, j < n ∧ eqS (cs j) k = true) :
    Calls Ybaf.prog 10 #[.slice (some ⟨g, 0, none⟩) n cap, .func (.func 11) #[] #[.pointer (some ⟨p, 0, none⟩)]] w fun e w' => e = .returned (.bool true) ∧ Below w.heap.size w w' := by
  go_enter Ybaf.func10, Ybaf.ntmps10
  go_wp2_with (go_at_call 12; refine (index_yes g n cap cs k p _ hn hg hC hp hb hyes).mono ?_; rintro e w1 ⟨m, rfl, hb1⟩)
  go_ret
  exact ⟨by simp, hb1⟩

theorem contains_no (g n cap : Nat) (cs : Nat → ByteArray) (k : ByteArray) (p : Nat) (w : World) (hn : n ≤ 256) (hg : g < w.heap.size) (hC : Classes w g n cs) (hp : w.cell? ⟨p, 0, none⟩ = some (.string k)) (hb : p < w.heap.size)
    (hno : ∀ j, j < n → eqS (cs j) k = false) :
    Calls Ybaf.prog 10 #[.slice (some ⟨g, 0, none⟩) n cap, .func (.func 11) #[] #[.pointer (some ⟨p, 0, none⟩)]] w fun e w' => e = .returned (.bool false) ∧ Below w.heap.size w w' := by
  have HN : Hid (∀ j, j < n → eqS (cs j) k = false) := hno
  clear hno
  go_enter Ybaf.func10, Ybaf.ntmps10
  go_wp2_with (go_at_call 12; refine (index_no g n cap cs k p _ hn hg hC hp hb HN.out).mono ?_; rintro e w1 ⟨rfl, hb1⟩)
  go_ret
  exact ⟨rfl, hb1⟩

/-- A fund as 'zzs0391bfunds' builds it. -/
def fundV (code : ByteArray) (nav : Int) (cls : Value) : Value :=
  .agg #[.string code, .string ⟨#[]⟩, .int .i64 nav, .int .i64 0, .pointer none, .int .i64 0, .pointer none, .int .i64 0, .pointer none, .int .i64 0, .int .i64 0, .pointer none, .int .i64 0, .int .i64 0, .pointer none, .int .i64 0, cls, .slice none 0 0]

theorem Classes.later {w w' : World} {B g n : Nat} {cs : Nat → ByteArray} (h : Classes w g n cs) (hb : Below B w w') (hg : g < B) : Classes w' g n cs := by
  intro j hj
  obtain ⟨c0, c1, c2, c3⟩ := h j hj
  exact ⟨(hb.cell (by exact hg)).trans c0, (hb.cell (by exact hg)).trans c1, (hb.cell (by exact hg)).trans c2, (hb.cell (by exact hg)).trans c3⟩

/-- What lies below B reads as before: the two rules for the walk. -/
theorem bcell {B : Nat} {W w1 : World} (hb : Below B W w1) : (∀ b o, b < B → w1.cell? ⟨b, o, none⟩ = W.cell? ⟨b, o, none⟩) ∧ (∀ b o, b < B → w1.frozen? ⟨b, o, none⟩ = W.frozen? ⟨b, o, none⟩) :=
  ⟨fun b o h => hb.cell (p := ⟨b, o, none⟩) h, fun b o h => hb.frozen (p := ⟨b, o, none⟩) h⟩

set_option maxHeartbeats 400000 in
theorem check_yes (code : ByteArray) (nav : Int) (g n cap : Nat) (cs : Nat → ByteArray) (k : ByteArray) (w : World) (hn : n ≤ 256) (hg : g < w.heap.size) (hC : Classes w g n cs)
    (hyes : ∃ j, j < n ∧ eqS (cs j) k = true) :
    Calls Ybaf.prog 7 #[fundV code nav (.slice (some ⟨g, 0, none⟩) n cap), .string k] w fun e w' => e = .returned .nilIface ∧ Below w.heap.size w w' := by
  unfold fundV
  go_enter Ybaf.func7, Ybaf.ntmps7
  go_wp2_with fail
  refine (contains_yes g n cap cs k (w.heap.size + 1) _ hn (by simp; omega) (hC.later (((Below.refl _ _).alloc (Nat.le_refl _) _).alloc (by simp) _) hg) (by simp) (by simp) hyes).mono ?_
  rintro e w1 ⟨rfl, hb1⟩
  go_wp2
  go_ret
  exact ⟨rfl, (((Below.refl _ _).alloc (Nat.le_refl _) _).alloc (by simp) _).trans (hb1.mono (by simp; omega))⟩

set_option maxHeartbeats 400000 in
theorem check_no (F : Interp) (code : ByteArray) (nav : Int) (g n cap : Nat) (cs : Nat → ByteArray) (k : ByteArray) (w : World) (hF : F.answers w.tape) (hn : n ≤ 256) (hg : g < w.heap.size) (hC : Classes w g n cs)
    (hno : ∀ j, j < n → eqS (cs j) k = false) :
    Calls Ybaf.prog 7 #[fundV code nav (.slice (some ⟨g, 0, none⟩) n cap), .string k] w fun e w' => ∃ b, e = .returned (.iface 53 (.pointer (some ⟨b, 0, none⟩))) ∧ Below w.heap.size w w' := by
  unfold fundV
  have HN : Hid (∀ j, j < n → eqS (cs j) k = false) := hno
  clear hno
  go_enter Ybaf.func7, Ybaf.ntmps7
  go_wp2_with fail
  refine (contains_no g n cap cs k (w.heap.size + 1) _ hn (by simp; omega) (hC.later (((Below.refl _ _).alloc (Nat.le_refl _) _).alloc (by simp) _) hg) (by simp) (by simp) HN.out).mono ?_
  rintro e w1 ⟨rfl, hb1⟩
  obtain ⟨hc, hf⟩ := bcell hb1
  have hz : w.heap.size + 1 < w1.heap.size := by have := hb1.size; simp at this; omega
  have hb0 := (((Below.refl w.heap.size w).alloc (Nat.le_refl _) (.cells #[.string code, .string ⟨#[]⟩, .int .i64 nav, .int .i64 0, .pointer none, .int .i64 0, .pointer none, .int .i64 0, .pointer none, .int .i64 0, .int .i64 0, .pointer none, .int .i64 0, .int .i64 0, .pointer none, .int .i64 0, .slice (some ⟨g, 0, none⟩) n cap, .slice none 0 0] 45)).alloc (by simp) (.cells #[.string k] 9)).trans (hb1.mono (by simp; omega))
  have HF : F.answers w1.tape := by rw [hb0.tape]; exact hF
  go_wp2_with fail
  refine (errorf1 F code k w1.heap.size _ (by exact HF) (by simp) (by simp) (by simp)).mono ?_
  rintro e w2 ⟨rfl, hb2⟩
  go_wp2
  go_ret
  exact ⟨_, rfl, (hb0.alloc hb0.size _).trans (hb2.mono (by have := hb0.size; simp; omega))⟩
end Go.Proofs.YbulkhboFmt
