import Derived.Test.YbulkhfiABuilt
import Derived.RegionTactic
import Derived.ChangeAlike
import Derived.BigRegion
import Derived.Laws.Bits64b
namespace Go.Proofs.Ybulkhfi.C
open Go.RowKit
set_option linter.unusedVariables false

theorem and_low (n : Int) (h0 : 0 ≤ n) (h1 : n < 1000000000) : bits .and .u64 n 1073741823 = n := by
  obtain ⟨k, rfl⟩ : ∃ k : Nat, n = k := ⟨n.toNat, by omega⟩
  have h := bits_and_u64_nat k 1073741823 (by omega) (by omega)
  rw [show ((1073741823 : Nat) : Int) = 1073741823 from rfl] at h
  rw [h, show (1073741823 : Nat) = 2 ^ 30 - 1 from rfl, Nat.and_two_pow_sub_one_eq_mod]
  omega
theorem and_top (n : Int) (h0 : 0 ≤ n) (h1 : n < 9223372036854775808) : bits .and .u64 n 9223372036854775808 = 0 := by
  obtain ⟨k, rfl⟩ : ∃ k : Nat, n = k := ⟨n.toNat, by omega⟩
  have h := bits_and_u64_nat k 9223372036854775808 (by omega) (by omega)
  rw [show ((9223372036854775808 : Nat) : Int) = 9223372036854775808 from rfl] at h
  rw [h, show (9223372036854775808 : Nat) = 2 ^ 63 from rfl]
  have : k &&& 2 ^ 63 = 0 := by
    apply Nat.eq_of_testBit_eq
    intro i
    rw [Nat.testBit_and, Nat.testBit_two_pow, Nat.zero_testBit]
    by_cases hi : 63 = i
    · subst hi
      rw [Nat.testBit_lt_two_pow (by omega)]; rfl
    · simp [hi]
  omega
theorem and_both (n m : Int) (h0 : 0 ≤ n) (h1 : n < 1000000000) (h2 : 0 ≤ m) (h3 : m < 1000000000) : bits .and .u64 (bits .and .u64 n m) 9223372036854775808 = 0 := by
  obtain ⟨k, rfl⟩ : ∃ k : Nat, n = k := ⟨n.toNat, by omega⟩
  obtain ⟨l, rfl⟩ : ∃ k : Nat, m = k := ⟨m.toNat, by omega⟩
  rw [bits_and_u64_nat k l (by omega) (by omega)]
  have : k &&& l ≤ k := Nat.and_le_left
  exact and_top _ (by omega) (by omega)
theorem or_zero (n : Int) (h0 : 0 ≤ n) (h1 : n < 1000000000) : bits .or .u64 0 n = n := by
  obtain ⟨k, rfl⟩ : ∃ k : Nat, n = k := ⟨n.toNat, by omega⟩
  have h := bits_or_u64_nat 0 k (by omega) (by omega)
  rw [show ((0 : Nat) : Int) = 0 from rfl] at h
  rw [h]; simp

theorem nsec_any (x : Nat) (n : Int) (h0 : 0 ≤ n) (h1 : n < 1000000000) (w : World) (c : w.cell? ⟨x, 0, none⟩ = some (.int .u64 n)) :
    Calls Yba.prog 21 #[.pointer (some ⟨x, 0, none⟩)] w fun e w' => e = .returned (.int .i32 n) ∧ w' = w := by
  have hl := and_low n h0 h1
  have hw : wrap32 n = n := by simp only [wrap32]; omega
  go_enter Yba.func21, Yba.ntmps21
  go_wp2
  go_ret
  refine ⟨?_, rfl⟩
  first | rfl | simp [hl] | simp [hw] | simp [hl, hw]

theorem sec_any (x : Nat) (n e : Int) (h0 : 0 ≤ n) (h1 : n < 1000000000) (w : World) (c : w.cell? ⟨x, 0, none⟩ = some (.int .u64 n)) (d : w.cell? ⟨x, 1, none⟩ = some (.int .i64 e)) :
    Calls Yba.prog 26 #[.pointer (some ⟨x, 0, none⟩)] w fun r w' => r = .returned (.int .i64 e) ∧ w' = w := by
  have hl := and_top n h0 (by omega)
  go_enter Yba.func26, Yba.ntmps26
  go_wp2
  go_ret
  exact ⟨rfl, rfl⟩


set_option maxRecDepth 100000 in
set_option maxHeartbeats 1000000 in
theorem after_any (n1 e1 n2 e2 : Int) (a0 : 0 ≤ n1) (a1 : n1 < 1000000000) (b0 : 0 ≤ n2) (b1 : n2 < 1000000000) (w : World) :
    Calls Yba.prog 16 #[.agg #[.int .u64 n1, .int .i64 e1, .pointer none], .agg #[.int .u64 n2, .int .i64 e2, .pointer none]] w fun r w' => r = .returned (.bool (decide (e2 < e1 ∨ (e1 = e2 ∧ n2 < n1)))) ∧ Below w.heap.size w w' := by
  have hl := and_both n1 n2 a0 a1 b0 b1
  have hb : Below w.heap.size w ((w.alloc (.cells #[.int .u64 n1, .int .i64 e1, .pointer none] 52)).alloc (.cells #[.int .u64 n2, .int .i64 e2, .pointer none] 52)) := ((Below.refl _ _).alloc (Nat.le_refl _) _).alloc (by simp) _
  have c1 : ((w.alloc (.cells #[.int .u64 n1, .int .i64 e1, .pointer none] 52)).alloc (.cells #[.int .u64 n2, .int .i64 e2, .pointer none] 52)).cell? ⟨w.heap.size, 0, none⟩ = some (.int .u64 n1) := by simp
  have c2 : ((w.alloc (.cells #[.int .u64 n1, .int .i64 e1, .pointer none] 52)).alloc (.cells #[.int .u64 n2, .int .i64 e2, .pointer none] 52)).cell? ⟨w.heap.size, 1, none⟩ = some (.int .i64 e1) := by simp
  have c3 : ((w.alloc (.cells #[.int .u64 n1, .int .i64 e1, .pointer none] 52)).alloc (.cells #[.int .u64 n2, .int .i64 e2, .pointer none] 52)).cell? ⟨w.heap.size + 1, 0, none⟩ = some (.int .u64 n2) := by simp
  have c4 : ((w.alloc (.cells #[.int .u64 n1, .int .i64 e1, .pointer none] 52)).alloc (.cells #[.int .u64 n2, .int .i64 e2, .pointer none] 52)).cell? ⟨w.heap.size + 1, 1, none⟩ = some (.int .i64 e2) := by simp
  go_enter Yba.func16, Yba.ntmps16
  go_wp2_with fail
  refine (sec_any _ n1 e1 a0 a1 _ c1 c2).mono ?_
  rintro _ _ ⟨rfl, rfl⟩
  go_wp2_with fail
  refine (sec_any _ n2 e2 b0 b1 _ c3 c4).mono ?_
  rintro _ _ ⟨rfl, rfl⟩
  rcases Int.lt_trichotomy e1 e2 with h | h | h
  · have hd : Hid (decide (e2 < e1 ∨ (e1 = e2 ∧ n2 < n1)) = false) := by show _ = _; rw [decide_eq_false_iff_not]; omega
    have k1 : decide (e1 < e2) = true := by rw [decide_eq_true_iff]; omega
    have k2 : (e1 == e2) = false := by rw [beq_eq_false_iff_ne]; omega
    have k3 : decide (e2 < e1) = false := by rw [decide_eq_false_iff_not]; omega
    clear h
    go_wp2
    go_ret
    first | exact ⟨rfl, hb⟩ | exact ⟨(congrArg (fun b => Ending.returned (.bool b)) hd.out.symm), hb⟩ | exact ⟨by simp, hb⟩
  · subst h
    have hd : Hid (decide (e1 < e1 ∨ (e1 = e1 ∧ n2 < n1)) = decide (n2 < n1)) := decide_eq_decide.2 (by omega)
    have k1 : decide (e1 < e1) = false := by rw [decide_eq_false_iff_not]; omega
    go_wp2_with fail
    refine (nsec_any _ n1 a0 a1 _ c1).mono ?_
    rintro _ _ ⟨rfl, rfl⟩
    go_wp2_with fail
    refine (nsec_any _ n2 b0 b1 _ c3).mono ?_
    rintro _ _ ⟨rfl, rfl⟩
    go_wp2
    go_ret
    first | exact ⟨rfl, hb⟩ | exact ⟨(congrArg (fun b => Ending.returned (.bool b)) hd.out.symm), hb⟩ | exact ⟨by simp, hb⟩
  · have hd : Hid (decide (e2 < e1 ∨ (e1 = e2 ∧ n2 < n1)) = true) := by show _ = _; rw [decide_eq_true_iff]; omega
    have k1 : decide (e1 < e2) = false := by rw [decide_eq_false_iff_not]; omega
    have k2 : (e1 == e2) = false := by rw [beq_eq_false_iff_ne]; omega
    have k3 : decide (e2 < e1) = true := by rw [decide_eq_true_iff]; omega
    clear h
    go_wp2
    go_ret
    first | exact ⟨rfl, hb⟩ | exact ⟨(congrArg (fun b => Ending.returned (.bool b)) hd.out.symm), hb⟩ | exact ⟨by simp, hb⟩

set_option maxRecDepth 100000 in
set_option maxHeartbeats 1000000 in
theorem before_any (n1 e1 n2 e2 : Int) (a0 : 0 ≤ n1) (a1 : n1 < 1000000000) (b0 : 0 ≤ n2) (b1 : n2 < 1000000000) (w : World) :
    Calls Yba.prog 15 #[.agg #[.int .u64 n1, .int .i64 e1, .pointer none], .agg #[.int .u64 n2, .int .i64 e2, .pointer none]] w fun r w' => r = .returned (.bool (decide (e1 < e2 ∨ (e1 = e2 ∧ n1 < n2)))) ∧ Below w.heap.size w w' := by
  have hl := and_both n1 n2 a0 a1 b0 b1
  have hb : Below w.heap.size w ((w.alloc (.cells #[.int .u64 n1, .int .i64 e1, .pointer none] 52)).alloc (.cells #[.int .u64 n2, .int .i64 e2, .pointer none] 52)) := ((Below.refl _ _).alloc (Nat.le_refl _) _).alloc (by simp) _
  have c1 : ((w.alloc (.cells #[.int .u64 n1, .int .i64 e1, .pointer none] 52)).alloc (.cells #[.int .u64 n2, .int .i64 e2, .pointer none] 52)).cell? ⟨w.heap.size, 0, none⟩ = some (.int .u64 n1) := by simp
  have c2 : ((w.alloc (.cells #[.int .u64 n1, .int .i64 e1, .pointer none] 52)).alloc (.cells #[.int .u64 n2, .int .i64 e2, .pointer none] 52)).cell? ⟨w.heap.size, 1, none⟩ = some (.int .i64 e1) := by simp
  have c3 : ((w.alloc (.cells #[.int .u64 n1, .int .i64 e1, .pointer none] 52)).alloc (.cells #[.int .u64 n2, .int .i64 e2, .pointer none] 52)).cell? ⟨w.heap.size + 1, 0, none⟩ = some (.int .u64 n2) := by simp
  have c4 : ((w.alloc (.cells #[.int .u64 n1, .int .i64 e1, .pointer none] 52)).alloc (.cells #[.int .u64 n2, .int .i64 e2, .pointer none] 52)).cell? ⟨w.heap.size + 1, 1, none⟩ = some (.int .i64 e2) := by simp
  go_enter Yba.func15, Yba.ntmps15
  go_wp2_with fail
  refine (sec_any _ n1 e1 a0 a1 _ c1 c2).mono ?_
  rintro _ _ ⟨rfl, rfl⟩
  go_wp2_with fail
  refine (sec_any _ n2 e2 b0 b1 _ c3 c4).mono ?_
  rintro _ _ ⟨rfl, rfl⟩
  rcases Int.lt_trichotomy e1 e2 with h | h | h
  · have hd : Hid (decide (e1 < e2 ∨ (e1 = e2 ∧ n1 < n2)) = true) := by show _ = _; rw [decide_eq_true_iff]; omega
    have k1 : decide (e1 < e2) = true := by rw [decide_eq_true_iff]; omega
    have k2 : (e1 == e2) = false := by rw [beq_eq_false_iff_ne]; omega
    have k3 : decide (e2 < e1) = false := by rw [decide_eq_false_iff_not]; omega
    clear h
    go_wp2
    go_ret
    first | exact ⟨rfl, hb⟩ | exact ⟨(congrArg (fun b => Ending.returned (.bool b)) hd.out.symm), hb⟩ | exact ⟨by simp, hb⟩
  · subst h
    have hd : Hid (decide (e1 < e1 ∨ (e1 = e1 ∧ n1 < n2)) = decide (n1 < n2)) := decide_eq_decide.2 (by omega)
    have k1 : decide (e1 < e1) = false := by rw [decide_eq_false_iff_not]; omega
    go_wp2_with fail
    refine (nsec_any _ n1 a0 a1 _ c1).mono ?_
    rintro _ _ ⟨rfl, rfl⟩
    go_wp2_with fail
    refine (nsec_any _ n2 b0 b1 _ c3).mono ?_
    rintro _ _ ⟨rfl, rfl⟩
    go_wp2
    go_ret
    first | exact ⟨rfl, hb⟩ | exact ⟨(congrArg (fun b => Ending.returned (.bool b)) hd.out.symm), hb⟩ | exact ⟨by simp, hb⟩
  · have hd : Hid (decide (e1 < e2 ∨ (e1 = e2 ∧ n1 < n2)) = false) := by show _ = _; rw [decide_eq_false_iff_not]; omega
    have k1 : decide (e1 < e2) = false := by rw [decide_eq_false_iff_not]; omega
    have k2 : (e1 == e2) = false := by rw [beq_eq_false_iff_ne]; omega
    have k3 : decide (e2 < e1) = true := by rw [decide_eq_true_iff]; omega
    clear h
    go_wp2
    go_ret
    first | exact ⟨rfl, hb⟩ | exact ⟨(congrArg (fun b => Ending.returned (.bool b)) hd.out.symm), hb⟩ | exact ⟨by simp, hb⟩

set_option maxRecDepth 100000 in
set_option maxHeartbeats 1000000 in
theorem equal_any (n1 e1 n2 e2 : Int) (a0 : 0 ≤ n1) (a1 : n1 < 1000000000) (b0 : 0 ≤ n2) (b1 : n2 < 1000000000) (w : World) :
    Calls Yba.prog 14 #[.agg #[.int .u64 n1, .int .i64 e1, .pointer none], .agg #[.int .u64 n2, .int .i64 e2, .pointer none]] w fun r w' => r = .returned (.bool (decide (e1 = e2 ∧ n1 = n2))) ∧ Below w.heap.size w w' := by
  have hl := and_both n1 n2 a0 a1 b0 b1
  have hb : Below w.heap.size w ((w.alloc (.cells #[.int .u64 n1, .int .i64 e1, .pointer none] 52)).alloc (.cells #[.int .u64 n2, .int .i64 e2, .pointer none] 52)) := ((Below.refl _ _).alloc (Nat.le_refl _) _).alloc (by simp) _
  have c1 : ((w.alloc (.cells #[.int .u64 n1, .int .i64 e1, .pointer none] 52)).alloc (.cells #[.int .u64 n2, .int .i64 e2, .pointer none] 52)).cell? ⟨w.heap.size, 0, none⟩ = some (.int .u64 n1) := by simp
  have c2 : ((w.alloc (.cells #[.int .u64 n1, .int .i64 e1, .pointer none] 52)).alloc (.cells #[.int .u64 n2, .int .i64 e2, .pointer none] 52)).cell? ⟨w.heap.size, 1, none⟩ = some (.int .i64 e1) := by simp
  have c3 : ((w.alloc (.cells #[.int .u64 n1, .int .i64 e1, .pointer none] 52)).alloc (.cells #[.int .u64 n2, .int .i64 e2, .pointer none] 52)).cell? ⟨w.heap.size + 1, 0, none⟩ = some (.int .u64 n2) := by simp
  have c4 : ((w.alloc (.cells #[.int .u64 n1, .int .i64 e1, .pointer none] 52)).alloc (.cells #[.int .u64 n2, .int .i64 e2, .pointer none] 52)).cell? ⟨w.heap.size + 1, 1, none⟩ = some (.int .i64 e2) := by simp
  go_enter Yba.func14, Yba.ntmps14
  go_wp2_with fail
  refine (sec_any _ n1 e1 a0 a1 _ c1 c2).mono ?_
  rintro _ _ ⟨rfl, rfl⟩
  go_wp2_with fail
  refine (sec_any _ n2 e2 b0 b1 _ c3 c4).mono ?_
  rintro _ _ ⟨rfl, rfl⟩
  by_cases h : e1 = e2
  · subst h
    have k2 : (e1 == e1) = true := by simp
    have hd : Hid (decide (e1 = e1 ∧ n1 = n2) = (n1 == n2)) := by show decide _ = _; by_cases hh : n1 = n2 <;> simp [hh]
    go_wp2_with fail
    refine (nsec_any _ n1 a0 a1 _ c1).mono ?_
    rintro _ _ ⟨rfl, rfl⟩
    go_wp2_with fail
    refine (nsec_any _ n2 b0 b1 _ c3).mono ?_
    rintro _ _ ⟨rfl, rfl⟩
    go_wp2
    go_ret
    first | exact ⟨rfl, hb⟩ | exact ⟨(congrArg (fun b => Ending.returned (.bool b)) hd.out.symm), hb⟩ | exact ⟨by simp, hb⟩
  · have k2 : (e1 == e2) = false := by rw [beq_eq_false_iff_ne]; omega
    have hd : Hid (decide (e1 = e2 ∧ n1 = n2) = false) := by show _ = _; rw [decide_eq_false_iff_not]; omega
    clear h
    go_wp2
    go_ret
    first | exact ⟨rfl, hb⟩ | exact ⟨(congrArg (fun b => Ending.returned (.bool b)) hd.out.symm), hb⟩ | exact ⟨by simp, hb⟩

/-- The time that m milliseconds behind the zero time is. -/
def wl (m : Int) : Int := m % 1000 * 1000000
def ex (m : Int) : Int := m / 1000
def tm (m : Int) : Value := .agg #[.int .u64 (wl m), .int .i64 (ex m), .pointer none]
theorem wl0 (m : Int) : 0 ≤ wl m := by unfold wl; omega
theorem wl1 (m : Int) : wl m < 1000000000 := by unfold wl; omega
theorem tm_lt (a b : Int) : (ex a < ex b ∨ (ex a = ex b ∧ wl a < wl b)) ↔ a < b := by unfold ex wl; omega
theorem tm_eq (a b : Int) : (ex a = ex b ∧ wl a = wl b) ↔ a = b := by unfold ex wl; omega

theorem after_ms (a b : Int) (w : World) : Calls Yba.prog 16 #[tm a, tm b] w fun r w' => r = .returned (.bool (decide (b < a))) ∧ Below w.heap.size w w' := by
  have h := after_any (wl a) (ex a) (wl b) (ex b) (wl0 a) (wl1 a) (wl0 b) (wl1 b) w
  rw [show decide (ex b < ex a ∨ (ex a = ex b ∧ wl b < wl a)) = decide (b < a) from decide_eq_decide.2 (by rw [← tm_lt b a]; omega)] at h
  exact h
theorem before_ms (a b : Int) (w : World) : Calls Yba.prog 15 #[tm a, tm b] w fun r w' => r = .returned (.bool (decide (a < b))) ∧ Below w.heap.size w w' := by
  have h := before_any (wl a) (ex a) (wl b) (ex b) (wl0 a) (wl1 a) (wl0 b) (wl1 b) w
  rw [show decide (ex a < ex b ∨ (ex a = ex b ∧ wl a < wl b)) = decide (a < b) from decide_eq_decide.2 (tm_lt a b)] at h
  exact h
theorem equal_ms (a b : Int) (w : World) : Calls Yba.prog 14 #[tm a, tm b] w fun r w' => r = .returned (.bool (decide (a = b))) ∧ Below w.heap.size w w' := by
  have h := equal_any (wl a) (ex a) (wl b) (ex b) (wl0 a) (wl1 a) (wl0 b) (wl1 b) w
  rw [show decide (ex a = ex b ∧ wl a = wl b) = decide (a = b) from decide_eq_decide.2 (tm_eq a b)] at h
  exact h

set_option maxRecDepth 100000 in
set_option maxHeartbeats 1000000 in
theorem addSec_any (x : Nat) (n s : Int) (h0 : 0 ≤ n) (h1 : n < 1000000000) (s0 : -10000000 ≤ s) (s1 : s ≤ 10000000) (w : World) (c : w.cell? ⟨x, 0, none⟩ = some (.int .u64 n)) (d : w.cell? ⟨x, 1, none⟩ = some (.int .i64 0)) (f : w.frozen? ⟨x, 1, none⟩ = false) :
    Calls Yba.prog 22 #[.pointer (some ⟨x, 0, none⟩), .int .i64 s] w fun r w' => r = .returned (.tuple #[]) ∧ w' = w.setCell ⟨x, 1, none⟩ (.int .i64 s) := by
  have hl := and_top n h0 (by omega)
  go_enter Yba.func22, Yba.ntmps22
  go_wp2
  go_end0
  exact ⟨rfl, rfl⟩

theorem quo_rem (m : Int) (h0 : -2147483648 ≤ m) (h1 : m ≤ 2147483647) : ∃ q r, (m * 1000000).tdiv 1000000000 = q ∧ (m * 1000000).tmod 1000000000 = r ∧ -10000000 < q ∧ q < 10000000 ∧ -1000000000 < r ∧ r < 1000000000 ∧
    (r < 0 ∧ wl m = r + 1000000000 ∧ ex m = q - 1 ∨ 0 ≤ r ∧ wl m = r ∧ ex m = q) := by
  refine ⟨_, _, rfl, rfl, ?_⟩
  unfold wl ex
  by_cases h : 0 ≤ m
  · rw [Int.tdiv_eq_ediv_of_nonneg (by omega), Int.tmod_eq_emod_of_nonneg (by omega)]
    omega
  · rw [show m * 1000000 = -((-m) * 1000000) from by omega, Int.neg_tdiv, Int.neg_tmod, Int.tdiv_eq_ediv_of_nonneg (by omega), Int.tmod_eq_emod_of_nonneg (by omega)]
    omega

set_option maxRecDepth 100000 in
set_option maxHeartbeats 1000000 in
theorem add_ms (m : Int) (h0 : -2147483648 ≤ m) (h1 : m ≤ 2147483647) (w : World) :
    Calls Yba.prog 10 #[.agg #[.int .u64 0, .int .i64 0, .pointer none], .int .i64 (m * 1000000)] w fun r w' => r = .returned (tm m) ∧ Below w.heap.size w w' := by
  obtain ⟨q, r, hq, hr, q0, q1, r0, r1, hm⟩ := quo_rem m h0 h1
  have w1 : wrap32 r = r := by simp only [wrap32]; omega
  have han : bits .andNot .u64 0 1073741823 = 0 := by decide +kernel
  rcases hm with ⟨hn, e1, e2⟩ | ⟨hn, e1, e2⟩
  · have hor := or_zero (r + 1000000000) (by omega) (by omega)
    have w2 : wrap32 (r + 1000000000) = r + 1000000000 := by simp only [wrap32]; omega
    have htop := and_top (r + 1000000000) (by omega) (by omega)
    have hE : Hid (tm m = .agg #[.int .u64 (r + 1000000000), .int .i64 (q - 1), .pointer none]) := by show tm m = _; unfold tm; rw [e1, e2]
    clear e1 e2
    go_enter Yba.func10, Yba.ntmps10
    go_wp2_with fail
    refine (nsec_any _ 0 (by omega) (by omega) _ (by simp)).mono ?_
    rintro _ _ ⟨rfl, rfl⟩
    go_wp2_with fail
    refine (addSec_any _ (r + 1000000000) (q - 1) (by omega) (by omega) (by omega) (by omega) _ (by simp) (by simp) (by simp)).mono ?_
    rintro _ _ ⟨rfl, rfl⟩
    go_wp2_with fail
    refine bodyPost_ret (v := .agg #[.int .u64 (r + 1000000000), .int .i64 (q - 1), .pointer none]) (by simp [results, Yba.results10, go_sem]) rfl ⟨by rw [hE.out], ?_⟩
    exact ((Below.refl _ _).alloc (Nat.le_refl _) _).alloc (by simp) _

  · have hor := or_zero r (by omega) (by omega)
    have htop := and_top r (by omega) (by omega)
    have hE : Hid (tm m = .agg #[.int .u64 r, .int .i64 q, .pointer none]) := by show tm m = _; unfold tm; rw [e1, e2]
    clear e1 e2
    go_enter Yba.func10, Yba.ntmps10
    go_wp2_with fail
    refine (nsec_any _ 0 (by omega) (by omega) _ (by simp)).mono ?_
    rintro _ _ ⟨rfl, rfl⟩
    go_wp2_with fail
    refine (addSec_any _ (r) (q) (by omega) (by omega) (by omega) (by omega) _ (by simp) (by simp) (by simp)).mono ?_
    rintro _ _ ⟨rfl, rfl⟩
    go_wp2_with fail
    refine bodyPost_ret (v := .agg #[.int .u64 (r), .int .i64 (q), .pointer none]) (by simp [results, Yba.results10, go_sem]) rfl ⟨by rw [hE.out], ?_⟩
    exact ((Below.refl _ _).alloc (Nat.le_refl _) _).alloc (by simp) _

end Go.Proofs.Ybulkhfi.C
