import Derived.Laws.Bits64
import Derived.WalkKit
namespace Go.Proofs.Ybulkhbo.Bits

/-! The sign of 'x & y' and of 'x ^ y' on int64: no program in sight. -/
theorem wrap_toNat_i64 (v : BitVec 64) : IntKind.i64.wrap (v.toNat : Int) = v.toInt := by
  rw [IntKind.wrap_i64, BitVec.toInt_eq_toNat_cond]
  have := v.isLt
  split <;> omega

theorem toInt_in (x : Int) (h1 : -9223372036854775808 ≤ x) (h2 : x ≤ 9223372036854775807) : (BitVec.ofInt 64 x).toInt = x := by
  rw [BitVec.toInt_ofInt]
  exact Int.bmod_eq_of_le (by omega) (by omega)

theorem neg_and (x y : Int) (h1 : -9223372036854775808 ≤ x) (h2 : x ≤ 9223372036854775807) (h3 : -9223372036854775808 ≤ y) (h4 : y ≤ 9223372036854775807) :
    decide (bits .and .i64 x y < 0) = (decide (x < 0) && decide (y < 0)) := by
  show decide (IntKind.i64.wrap ((BitVec.ofInt 64 x &&& BitVec.ofInt 64 y).toNat : Int) < 0) = _
  rw [wrap_toNat_i64, ← BitVec.msb_eq_toInt, BitVec.msb_and, BitVec.msb_eq_toInt, BitVec.msb_eq_toInt, toInt_in x h1 h2, toInt_in y h3 h4]

theorem neg_xor (x y : Int) (h1 : -9223372036854775808 ≤ x) (h2 : x ≤ 9223372036854775807) (h3 : -9223372036854775808 ≤ y) (h4 : y ≤ 9223372036854775807) :
    decide (bits .xor .i64 x y < 0) = (decide (x < 0) ^^ decide (y < 0)) := by
  show decide (IntKind.i64.wrap ((BitVec.ofInt 64 x ^^^ BitVec.ofInt 64 y).toNat : Int) < 0) = _
  rw [wrap_toNat_i64, ← BitVec.msb_eq_toInt, BitVec.msb_xor, BitVec.msb_eq_toInt, BitVec.msb_eq_toInt, toInt_in x h1 h2, toInt_in y h3 h4]

theorem bits_in (op : BinOp) (x y : Int) : -9223372036854775808 ≤ bits op .i64 x y ∧ bits op .i64 x y ≤ 9223372036854775807 := by
  unfold bits
  simp only
  rw [IntKind.wrap_i64]
  omega

/-- The test of 'add64' on the signs, for a sum s. -/
theorem test_sign (a b s : Int) (ha : -9223372036854775808 ≤ a ∧ a ≤ 9223372036854775807) (hb : -9223372036854775808 ≤ b ∧ b ≤ 9223372036854775807) (hs : -9223372036854775808 ≤ s ∧ s ≤ 9223372036854775807) :
    decide (bits .and .i64 (bits .xor .i64 a s) (bits .xor .i64 b s) < 0) = ((decide (a < 0) ^^ decide (s < 0)) && (decide (b < 0) ^^ decide (s < 0))) := by
  have x := bits_in .xor a s
  have y := bits_in .xor b s
  rw [neg_and _ _ x.1 x.2 y.1 y.2, neg_xor a s ha.1 ha.2 hs.1 hs.2, neg_xor b s hb.1 hb.2 hs.1 hs.2]
end Go.Proofs.Ybulkhbo.Bits
