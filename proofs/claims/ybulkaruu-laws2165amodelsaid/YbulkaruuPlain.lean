/-
  The plain arithmetic of 'LawS2165AModel': no Go text in sight. 'ov p': the exact value p lies outside int64's range.
-/
import Derived.WalkKit
import Derived.Laws.Bits64b
import Derived.Laws.BitsAllLaws
namespace Go.Proofs.Ybulkaruu.lawS2165AModel
set_option linter.unusedVariables false
open Go.RowKit

/-- p lies outside int64. -/
def ov (p : Int) : Bool := decide (p < -9223372036854775808 ∨ 9223372036854775807 < p)

theorem wrap_toNat (r : BitVec 64) : IntKind.i64.wrap (r.toNat : Int) = r.toInt := by
  rw [IntKind.wrap_i64, BitVec.toInt_eq_toNat_cond]
  have := r.isLt
  split <;> omega

theorem and_bits (x y : Int) : bits .and .i64 x y = (BitVec.ofInt 64 x &&& BitVec.ofInt 64 y).toInt := by
  show IntKind.i64.wrap ((BitVec.ofInt 64 x &&& BitVec.ofInt 64 y).toNat : Int) = _
  exact wrap_toNat _

theorem xor_bits (x y : Int) : bits .xor .i64 x y = (BitVec.ofInt 64 x ^^^ BitVec.ofInt 64 y).toInt := by
  show IntKind.i64.wrap ((BitVec.ofInt 64 x ^^^ BitVec.ofInt 64 y).toNat : Int) = _
  exact wrap_toNat _

theorem ofInt_msb (x : Int) (h1 : -9223372036854775808 ≤ x) (h2 : x ≤ 9223372036854775807) : (BitVec.ofInt 64 x).msb = decide (x < 0) := by
  rw [BitVec.msb_eq_toInt, BitVec.toInt_ofInt]
  have e : x.bmod (2 ^ 64) = x := by
    rw [Int.bmod_def]
    split <;> omega
  rw [e]

/-- The sign of '(a^c)&(b^d)' is told by the four signs. -/
theorem signs (a b c d : Int) (ha1 : -9223372036854775808 ≤ a) (ha2 : a ≤ 9223372036854775807) (hb1 : -9223372036854775808 ≤ b) (hb2 : b ≤ 9223372036854775807)
    (hc1 : -9223372036854775808 ≤ c) (hc2 : c ≤ 9223372036854775807) (hd1 : -9223372036854775808 ≤ d) (hd2 : d ≤ 9223372036854775807) :
    decide (bits .and .i64 (bits .xor .i64 a c) (bits .xor .i64 b d) < 0) = ((decide (a < 0) != decide (c < 0)) && (decide (b < 0) != decide (d < 0))) := by
  rw [and_bits, ← BitVec.msb_eq_toInt, BitVec.msb_and, xor_bits, xor_bits, BitVec.ofInt_toInt, BitVec.ofInt_toInt, BitVec.msb_xor, BitVec.msb_xor,
    ofInt_msb a ha1 ha2, ofInt_msb b hb1 hb2, ofInt_msb c hc1 hc2, ofInt_msb d hd1 hd2]

theorem wrap64_bd (n : Int) : -9223372036854775808 ≤ wrap64 n ∧ wrap64 n ≤ 9223372036854775807 := by
  unfold wrap64
  omega

theorem add_ov (a b : Int) (ha1 : -9223372036854775808 ≤ a) (ha2 : a ≤ 9223372036854775807) (hb1 : -9223372036854775808 ≤ b) (hb2 : b ≤ 9223372036854775807) :
    decide (bits .and .i64 (bits .xor .i64 a (wrap64 (a + b))) (bits .xor .i64 b (wrap64 (a + b))) < 0) = ov (a + b) := by
  obtain ⟨h1, h2⟩ := wrap64_bd (a + b)
  rw [signs a b _ _ ha1 ha2 hb1 hb2 h1 h2 h1 h2]
  have e : wrap64 (a + b) = (a + b + 9223372036854775808) % 18446744073709551616 - 9223372036854775808 := by unfold wrap64; rfl
  generalize wrap64 (a + b) = v at *
  unfold ov
  rw [Bool.eq_iff_iff]
  simp
  omega

theorem sub_ov (a b : Int) (ha1 : -9223372036854775808 ≤ a) (ha2 : a ≤ 9223372036854775807) (hb1 : -9223372036854775808 ≤ b) (hb2 : b ≤ 9223372036854775807) :
    decide (bits .and .i64 (bits .xor .i64 a b) (bits .xor .i64 a (wrap64 (a - b))) < 0) = ov (a - b) := by
  obtain ⟨h1, h2⟩ := wrap64_bd (a - b)
  rw [signs a a _ _ ha1 ha2 ha1 ha2 hb1 hb2 h1 h2]
  have e : wrap64 (a - b) = (a - b + 9223372036854775808) % 18446744073709551616 - 9223372036854775808 := by unfold wrap64; rfl
  generalize wrap64 (a - b) = v at *
  unfold ov
  rw [Bool.eq_iff_iff]
  simp
  omega

theorem wrap64_of_in (p : Int) (h1 : -9223372036854775808 ≤ p) (h2 : p ≤ 9223372036854775807) : wrap64 p = p := by
  unfold wrap64
  omega

/-- |tdiv| is no more than the dividend's size, and less by half unless the divisor is 1 or -1. -/
theorem tdiv_bd (v a : Int) (ha : a ≠ 0) (hv1 : -9223372036854775808 ≤ v) (hv2 : v ≤ 9223372036854775807) (h : ¬ (a = -1)) :
    -9223372036854775808 ≤ v.tdiv a ∧ v.tdiv a ≤ 9223372036854775807 := by
  have hle := Int.natAbs_tdiv_le_natAbs v a
  by_cases h1 : a = 1
  · subst h1
    rw [Int.tdiv_one]
    omega
  · by_cases hm : v = -9223372036854775808
    · have e : (v.tdiv a).natAbs = v.natAbs / a.natAbs := Int.natAbs_tdiv v a
      have h2 : 2 ≤ a.natAbs := by omega
      have : v.natAbs / a.natAbs ≤ v.natAbs / 2 := Nat.div_le_div_left h2 (by omega)
      omega
    · omega

/-- THE PRODUCT's TEST, at a ≠ 0, where the first test says that nothing parts: there is no overflow, but at -1 and the least. -/
theorem mul_same (a b : Int) (ha1 : -9223372036854775808 ≤ a) (ha2 : a ≤ 9223372036854775807) (_hb1 : -9223372036854775808 ≤ b) (hb2 : b ≤ 9223372036854775807) (ha : ¬ a = 0) (hn : ¬ a = -1)
    (h : wrap64 ((wrap64 (a * b)).tdiv a) = b) : ov (a * b) = false := by
  obtain ⟨v1, v2⟩ := wrap64_bd (a * b)
  have e : wrap64 (a * b) = (a * b + 9223372036854775808) % 18446744073709551616 - 9223372036854775808 := by unfold wrap64; rfl
  generalize wrap64 (a * b) = v at *
  obtain ⟨d1, d2⟩ := tdiv_bd v a ha v1 v2 hn
  rw [wrap64_of_in _ d1 d2] at h
  have hm := Int.mul_tdiv_add_tmod v a
  have hl : (v.tmod a).natAbs < a.natAbs := by
    rw [Int.natAbs_tmod]
    exact Nat.mod_lt _ (by omega)
  rw [h] at hm
  unfold ov
  simp only [decide_eq_false_iff_not]
  generalize a * b = p at *
  generalize v.tmod a = r at *
  omega

theorem mul_parts (a b : Int) (_ha1 : -9223372036854775808 ≤ a) (_ha2 : a ≤ 9223372036854775807) (hb1 : -9223372036854775808 ≤ b) (hb2 : b ≤ 9223372036854775807) (ha : ¬ a = 0)
    (h : ¬ wrap64 ((wrap64 (a * b)).tdiv a) = b) : ov (a * b) = true := by
  unfold ov
  simp only [decide_eq_true_eq]
  apply Decidable.byContradiction
  intro hc
  apply h
  rw [wrap64_of_in (a * b) (by omega) (by omega), Int.mul_tdiv_cancel_left b ha]
  exact wrap64_of_in b hb1 hb2

theorem mul_zero_ov (b : Int) : ov (0 * b) = false := by
  rw [Int.zero_mul]
  rfl

theorem mul_neg_ov (b : Int) (_hb1 : -9223372036854775808 ≤ b) (hb2 : b ≤ 9223372036854775807) : ov (-1 * b) = (b == -9223372036854775808) := by
  unfold ov
  rw [Bool.eq_iff_iff]
  simp
  omega

/-- |x| as uint64 reckons it: 'ua := uint64(a); if a < 0 { ua = -ua }'. -/
def mag (a : Int) : Nat := a.natAbs

theorem mag_lt (a : Int) (h1 : -9223372036854775808 ≤ a) (h2 : a ≤ 9223372036854775807) : mag a < 18446744073709551616 := by
  unfold mag
  omega

theorem mag_neg (a : Int) (h1 : -9223372036854775808 ≤ a) (_h2 : a ≤ 9223372036854775807) (h : a < 0) : IntKind.u64.wrap (-(IntKind.u64.wrap a)) = (mag a : Int) := by
  unfold mag
  rw [IntKind.wrap_u64, IntKind.wrap_u64]
  omega

theorem mag_pos (a : Int) (_h1 : -9223372036854775808 ≤ a) (h2 : a ≤ 9223372036854775807) (h : ¬ a < 0) : IntKind.u64.wrap a = (mag a : Int) := by
  unfold mag
  rw [IntKind.wrap_u64]
  omega

theorem mag_mul (a b : Int) : ((mag a * mag b : Nat) : Int) = if (a < 0) ↔ (b < 0) then a * b else -(a * b) := by
  unfold mag
  rw [← Int.natAbs_mul]
  by_cases ha : a < 0 <;> by_cases hb : b < 0
  · have := Int.mul_pos_of_neg_of_neg ha hb
    simp [ha, hb]; omega
  · have := Int.mul_nonpos_of_nonpos_of_nonneg (a := a) (b := b) (by omega) (by omega)
    simp [ha, hb]; omega
  · have := Int.mul_nonpos_of_nonneg_of_nonpos (a := a) (b := b) (by omega) (by omega)
    simp [ha, hb]; omega
  · have := Int.mul_nonneg (a := a) (b := b) (by omega) (by omega)
    simp [ha, hb]; omega

theorem ov_hi (a b : Int) (h : mag a * mag b / 18446744073709551616 ≠ 0) : ov (a * b) = true := by
  have e := mag_mul a b
  unfold ov
  simp only [decide_eq_true_eq]
  generalize mag a * mag b = p at *
  generalize a * b = q at *
  split at e <;> omega

theorem ov_unlike (a b : Int) (h : mag a * mag b / 18446744073709551616 = 0) (hs : ¬ ((a < 0) ↔ (b < 0))) : decide ((9223372036854775808 : Int) < ((mag a * mag b % 18446744073709551616 : Nat) : Int)) = ov (a * b) := by
  have e := mag_mul a b
  rw [if_neg hs] at e
  unfold ov
  generalize mag a * mag b = p at *
  generalize a * b = q at *
  rw [Bool.eq_iff_iff]
  simp
  omega

theorem ov_like (a b : Int) (h : mag a * mag b / 18446744073709551616 = 0) (hs : (a < 0) ↔ (b < 0)) : decide ((9223372036854775807 : Int) < ((mag a * mag b % 18446744073709551616 : Nat) : Int)) = ov (a * b) := by
  have e := mag_mul a b
  rw [if_pos hs] at e
  unfold ov
  generalize mag a * mag b = p at *
  generalize a * b = q at *
  rw [Bool.eq_iff_iff]
  simp
  omega

/-! 'int64(uint64(a) + uint64(b))' and its like: the wrapped result. -/
theorem add_back (a b : Int) : IntKind.i64.wrap (IntKind.u64.wrap (IntKind.u64.wrap a + IntKind.u64.wrap b)) = wrap64 (a + b) := by
  rw [IntKind.wrap_i64, IntKind.wrap_u64, IntKind.wrap_u64, IntKind.wrap_u64]
  unfold wrap64
  omega

theorem sub_back (a b : Int) : IntKind.i64.wrap (IntKind.u64.wrap (IntKind.u64.wrap a - IntKind.u64.wrap b)) = wrap64 (a - b) := by
  rw [IntKind.wrap_i64, IntKind.wrap_u64, IntKind.wrap_u64, IntKind.wrap_u64]
  unfold wrap64
  omega

theorem mul_back (a b : Int) : IntKind.i64.wrap (IntKind.u64.wrap (IntKind.u64.wrap a * IntKind.u64.wrap b)) = wrap64 (a * b) := by
  rw [IntKind.wrap_i64, IntKind.wrap_u64, IntKind.wrap_u64, IntKind.wrap_u64]
  unfold wrap64
  have e : (a % 18446744073709551616) * (b % 18446744073709551616) % 18446744073709551616 = a * b % 18446744073709551616 := (Int.mul_emod a b 18446744073709551616).symm
  generalize (a % 18446744073709551616) * (b % 18446744073709551616) = x at *
  generalize a * b = y at *
  omega

end Go.Proofs.Ybulkaruu.lawS2165AModel
