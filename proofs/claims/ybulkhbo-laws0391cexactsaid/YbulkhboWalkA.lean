import Derived.Test.YbulkhboBits
import Derived.Test.YbulkhboRows
import Derived.WalkKit
import Derived.WalkSpells
import Derived.WalkLawsBesides
namespace Go.Proofs.Ybulkhbo
open Go.RowKit
set_option linter.unusedVariables false

theorem sign_no (a b s : Int) (ha : -9223372036854775808 ≤ a ∧ a ≤ 9223372036854775807) (hb : -9223372036854775808 ≤ b ∧ b ≤ 9223372036854775807) (hs : -9223372036854775808 ≤ s ∧ s ≤ 9223372036854775807)
    (h : ¬ ((a < 0 ↔ 0 ≤ s) ∧ (b < 0 ↔ 0 ≤ s))) : 0 ≤ bits .and .i64 (bits .xor .i64 a s) (bits .xor .i64 b s) := by
  have t := Bits.test_sign a b s ha hb hs
  by_cases h0 : bits .and .i64 (bits .xor .i64 a s) (bits .xor .i64 b s) < 0
  · exfalso
    rw [decide_eq_true h0] at t
    have t := t.symm
    by_cases h1 : s < 0 <;> by_cases h2 : a < 0 <;> by_cases h3 : b < 0 <;> simp [h1, h2, h3] at t <;> omega
  · omega

theorem sign_yes (a b s : Int) (ha : -9223372036854775808 ≤ a ∧ a ≤ 9223372036854775807) (hb : -9223372036854775808 ≤ b ∧ b ≤ 9223372036854775807) (hs : -9223372036854775808 ≤ s ∧ s ≤ 9223372036854775807)
    (h : (a < 0 ↔ 0 ≤ s) ∧ (b < 0 ↔ 0 ≤ s)) : bits .and .i64 (bits .xor .i64 a s) (bits .xor .i64 b s) < 0 := by
  have t := Bits.test_sign a b s ha hb hs
  by_cases h0 : bits .and .i64 (bits .xor .i64 a s) (bits .xor .i64 b s) < 0
  · exact h0
  · exfalso
    rw [decide_eq_false h0] at t
    have t := t.symm
    by_cases h1 : s < 0 <;> by_cases h2 : a < 0 <;> by_cases h3 : b < 0 <;> simp [h1, h2, h3] at t <;> omega

set_option maxHeartbeats 400000 in
theorem add_yes (a b : Int) (w : World) (ha : -9223372036854775808 ≤ a ∧ a ≤ 9223372036854775807) (hb : -9223372036854775808 ≤ b ∧ b ≤ 9223372036854775807) (h1 : -9223372036854775807 ≤ a + b) (h2 : a + b ≤ 9223372036854775807) :
    Calls Yba.prog 5 #[.int .i64 a, .int .i64 b] w fun e w' => e = .returned (.tuple #[.int .i64 (a + b), .bool true]) ∧ w' = w := by
  have hn := sign_no a b (a + b) ha hb (by omega) (by omega)
  have hm : (a + b == -9223372036854775808) = false := beq_eq_false_iff_ne.2 (by omega)
  go_enter Yba.func5, Yba.ntmps5
  go_wp2
  go_ret2
  exact ⟨rfl, rfl⟩

set_option maxHeartbeats 400000 in
theorem add_over (a b : Int) (w : World) (ha : -9223372036854775808 ≤ a ∧ a ≤ 9223372036854775807) (hb : -9223372036854775808 ≤ b ∧ b ≤ 9223372036854775807) (h : a + b < -9223372036854775808 ∨ 9223372036854775807 < a + b) :
    Calls Yba.prog 5 #[.int .i64 a, .int .i64 b] w fun e w' => e = .returned (.tuple #[.int .i64 0, .bool false]) ∧ w' = w := by
  have hs : -9223372036854775808 ≤ wrap64 (a + b) ∧ wrap64 (a + b) ≤ 9223372036854775807 := by unfold wrap64; omega
  have hn := sign_yes a b (wrap64 (a + b)) ha hb hs (by unfold wrap64; omega)
  go_enter Yba.func5, Yba.ntmps5
  go_wp2
  go_ret2
  exact ⟨rfl, rfl⟩

set_option maxHeartbeats 400000 in
theorem add_min (a b : Int) (w : World) (ha : -9223372036854775808 ≤ a ∧ a ≤ 9223372036854775807) (hb : -9223372036854775808 ≤ b ∧ b ≤ 9223372036854775807) (h : a + b = -9223372036854775808) :
    Calls Yba.prog 5 #[.int .i64 a, .int .i64 b] w fun e w' => e = .returned (.tuple #[.int .i64 0, .bool false]) ∧ w' = w := by
  have hn := sign_no a b (a + b) ha hb (by omega) (by omega)
  have hm : (a + b == -9223372036854775808) = true := beq_iff_eq.2 h
  have h1 : -9223372036854775808 ≤ a + b := by omega
  have h2 : a + b ≤ 9223372036854775807 := by omega
  clear h
  go_enter Yba.func5, Yba.ntmps5
  go_wp2
  go_ret2
  exact ⟨rfl, rfl⟩

theorem add_no (a b : Int) (w : World) (ha : -9223372036854775808 ≤ a ∧ a ≤ 9223372036854775807) (hb : -9223372036854775808 ≤ b ∧ b ≤ 9223372036854775807) (h : a + b < -9223372036854775807 ∨ 9223372036854775807 < a + b) :
    Calls Yba.prog 5 #[.int .i64 a, .int .i64 b] w fun e w' => e = .returned (.tuple #[.int .i64 0, .bool false]) ∧ w' = w := by
  by_cases hm : a + b = -9223372036854775808
  · exact add_min a b w ha hb hm
  · exact add_over a b w ha hb (by omega)

set_option maxHeartbeats 400000 in
theorem fits_yes (a b : Int) (w : World) (ha : -9223372036854775808 ≤ a ∧ a ≤ 9223372036854775807) (hb : -9223372036854775808 ≤ b ∧ b ≤ 9223372036854775807) (h1 : -9223372036854775807 ≤ a + b) (h2 : a + b ≤ 9223372036854775807) :
    Calls Yba.prog 6 #[.int .i64 a, .int .i64 b] w fun e w' => e = .returned (.bool true) ∧ w' = w := by
  by_cases hp : 0 < b
  · have h3 : a ≤ 9223372036854775807 - b := by omega
    go_enter Yba.func6, Yba.ntmps6
    go_wp2
    go_ret
    simp_all
  · by_cases hq : b < 0
    · have h3 : -9223372036854775807 - b ≤ a := by omega
      go_enter Yba.func6, Yba.ntmps6
      go_wp2
      go_ret
      simp_all
    · have h3 : (a != -9223372036854775808) = true := by rw [bne_iff_ne]; omega
      go_enter Yba.func6, Yba.ntmps6
      go_wp2
      go_ret
      simp_all

set_option maxHeartbeats 400000 in
theorem fits_no (a b : Int) (w : World) (ha : -9223372036854775808 ≤ a ∧ a ≤ 9223372036854775807) (hb : -9223372036854775808 ≤ b ∧ b ≤ 9223372036854775807) (h : a + b < -9223372036854775807 ∨ 9223372036854775807 < a + b) :
    Calls Yba.prog 6 #[.int .i64 a, .int .i64 b] w fun e w' => e = .returned (.bool false) ∧ w' = w := by
  by_cases hp : 0 < b
  · have h3 : ¬ a ≤ 9223372036854775807 - b := by omega
    go_enter Yba.func6, Yba.ntmps6
    go_wp2
    go_ret
    simp_all
  · by_cases hq : b < 0
    · have h3 : ¬ -9223372036854775807 - b ≤ a := by omega
      go_enter Yba.func6, Yba.ntmps6
      go_wp2
      go_ret
      simp_all
    · have h3 : (a != -9223372036854775808) = false := by
        have : a = -9223372036854775808 := by omega
        subst this; rfl
      go_enter Yba.func6, Yba.ntmps6
      go_wp2
      go_ret
      simp_all
end Go.Proofs.Ybulkhbo
