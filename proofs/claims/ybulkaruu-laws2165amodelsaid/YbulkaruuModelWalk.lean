/-
  The walks of 'LawS2165AModel': arith64, bits.Mul64 (the library's own text, by the school method's arithmetic of Derived/Lib/Mul64), the law's own overflow test, the law.
-/
import Derived.Test.YbulkaruuRows
import Derived.Test.YbulkaruuPlain
import Derived.WalkKit
import Derived.Lib.Mul64
namespace Go.Proofs.Ybulkaruu.lawS2165AModel
set_option linter.unusedVariables false
open Go.RowKit Go.Lib

theorem ret_bool {a b : Bool} (h : a = b) : Ending.returned (.bool a) = .returned (.bool b) := by rw [h]
theorem ret_two {a b : Int} {c d : Bool} (h : a = b) (h2 : c = d) : Ending.returned (.tuple #[.int .i64 a, .bool c]) = .returned (.tuple #[.int .i64 b, .bool d]) := by rw [h, h2]

theorem arith_add (a b : Int) (ha1 : -9223372036854775808 ≤ a) (ha2 : a ≤ 9223372036854775807) (hb1 : -9223372036854775808 ≤ b) (hb2 : b ≤ 9223372036854775807) (w : World) :
    Calls Yba.prog 5 #[.int .i64 9, .int .i64 a, .int .i64 b] w fun e w' => e = .returned (.tuple #[.int .i64 (wrap64 (a + b)), .bool (ov (a + b))]) ∧ w' = w := by
  go_enter Yba.func5, Yba.ntmps5
  go_wp2
  go_ret2
  exact ⟨ret_two rfl (add_ov a b ha1 ha2 hb1 hb2), rfl⟩

theorem arith_sub (a b : Int) (ha1 : -9223372036854775808 ≤ a) (ha2 : a ≤ 9223372036854775807) (hb1 : -9223372036854775808 ≤ b) (hb2 : b ≤ 9223372036854775807) (w : World) :
    Calls Yba.prog 5 #[.int .i64 10, .int .i64 a, .int .i64 b] w fun e w' => e = .returned (.tuple #[.int .i64 (wrap64 (a - b)), .bool (ov (a - b))]) ∧ w' = w := by
  go_enter Yba.func5, Yba.ntmps5
  go_wp2
  go_ret2
  exact ⟨ret_two rfl (sub_ov a b ha1 ha2 hb1 hb2), rfl⟩

theorem arith_mul (o a b : Int) (h9 : (o == 9) = false) (h10 : (o == 10) = false) (ha1 : -9223372036854775808 ≤ a) (ha2 : a ≤ 9223372036854775807) (hb1 : -9223372036854775808 ≤ b) (hb2 : b ≤ 9223372036854775807) (w : World) :
    Calls Yba.prog 5 #[.int .i64 o, .int .i64 a, .int .i64 b] w fun e w' => e = .returned (.tuple #[.int .i64 (wrap64 (a * b)), .bool (ov (a * b))]) ∧ w' = w := by
  by_cases ha : a = 0
  · subst ha
    go_enter Yba.func5, Yba.ntmps5
    go_wp2
    go_ret2
    exact ⟨ret_two (by rw [Int.zero_mul]; exact (wrap64_of_in 0 (by omega) (by omega)).symm) (mul_zero_ov b).symm, rfl⟩
  · by_cases hd : wrap64 ((wrap64 (a * b)).tdiv a) = b
    · by_cases hn : a = -1
      · subst hn
        have hz := mul_neg_ov b hb1 hb2
        have HZ : Hid (ov (-1 * b) = (b == -9223372036854775808)) := hz
        have hd' : wrap64 (-wrap64 (-b)) = b := by unfold wrap64; omega
        clear hz hd
        go_enter Yba.func5, Yba.ntmps5
        go_wp2
        go_ret2
        exact ⟨ret_two (by rw [Int.neg_one_mul]) HZ.out.symm, rfl⟩
      · go_enter Yba.func5, Yba.ntmps5
        go_wp2
        go_ret2
        exact ⟨ret_two rfl (mul_same a b ha1 ha2 hb1 hb2 ha hn hd).symm, rfl⟩
    · go_enter Yba.func5, Yba.ntmps5
      go_wp2
      go_ret2
      exact ⟨ret_two rfl (by rw [mul_parts a b ha1 ha2 hb1 hb2 ha hd]; simp [ha]), rfl⟩

namespace Halves
theorem maskN (a : Nat) (ha : a < 18446744073709551616) : bits .and .u64 (a : Int) 4294967295 = ((a % 4294967296 : Nat) : Int) := by
  have h := bits_and_u64_nat a 4294967295 ha (by omega)
  have e : a &&& 4294967295 = a % 4294967296 := Nat.and_two_pow_sub_one_eq_mod a 32
  rw [e] at h
  exact h
theorem divN (a : Nat) : (a : Int) / 4294967296 = ((a / 4294967296 : Nat) : Int) := by omega
theorem mulN (a b : Nat) : (a : Int) * (b : Int) = ((a * b : Nat) : Int) := (Int.natCast_mul a b).symm
theorem addN (a b : Nat) : (a : Int) + (b : Int) = ((a + b : Nat) : Int) := (Int.natCast_add a b).symm
theorem wrapN (a : Nat) (ha : a < 18446744073709551616) : IntKind.u64.wrap (a : Int) = (a : Int) := by rw [IntKind.wrap_u64]; omega
theorem wrapM (a : Nat) : IntKind.u64.wrap (a : Int) = ((a % 18446744073709551616 : Nat) : Int) := by rw [IntKind.wrap_u64]; omega
end Halves

set_option maxHeartbeats 1000000 in
/-- math/bits.Mul64: the two words of the product. -/
theorem mul64 (x y : Nat) (hx : x < 18446744073709551616) (hy : y < 18446744073709551616) (w : World) :
    Calls Yba.prog 7 #[.int .u64 x, .int .u64 y] w fun e w' => e = .returned (.tuple #[.int .u64 ((x * y / 18446744073709551616 : Nat) : Int), .int .u64 ((x * y % 18446744073709551616 : Nat) : Int)]) ∧ w' = w := by
  obtain ⟨bd, bt, bw, hhi⟩ := Lib.mul64_hi x y hx hy
  have ba := Lib.half_mul_le (a := x / 4294967296) (b := y / 4294967296) (by omega) (by omega)
  have bb := Lib.half_mul_le (a := x / 4294967296) (b := y % 4294967296) (by omega) (by omega)
  have bc := Lib.half_mul_le (a := x % 4294967296) (b := y / 4294967296) (by omega) (by omega)
  have ba' : x / 4294967296 * (y / 4294967296) < 18446744073709551616 := by omega
  have bb' : x / 4294967296 * (y % 4294967296) < 18446744073709551616 := by omega
  have bc' : x % 4294967296 * (y / 4294967296) < 18446744073709551616 := by omega
  have bh1 : x / 4294967296 * (y / 4294967296) + (x / 4294967296 * (y % 4294967296) + x % 4294967296 * (y % 4294967296) / 4294967296) / 4294967296 < 18446744073709551616 := by omega
  have bh : x / 4294967296 * (y / 4294967296) + (x / 4294967296 * (y % 4294967296) + x % 4294967296 * (y % 4294967296) / 4294967296) / 4294967296 + ((x / 4294967296 * (y % 4294967296) + x % 4294967296 * (y % 4294967296) / 4294967296) % 4294967296 + x % 4294967296 * (y / 4294967296)) / 4294967296 < 18446744073709551616 := by omega
  go_enter Yba.func7, Yba.ntmps7
  go_wp2
  simp only [Halves.maskN x hx, Halves.maskN y hy, Halves.divN, Halves.mulN, Halves.addN, Halves.wrapN _ bd, Halves.wrapN _ bb', Halves.wrapN _ bt, Halves.maskN _ bt, Halves.wrapN _ bc', Halves.wrapN _ bw, Halves.wrapN _ ba', Halves.wrapN _ bh1, Halves.wrapN _ bh, Halves.wrapM (x * y)]
  rw [hhi]
  go_ret2
  exact ⟨rfl, rfl⟩

/-- .. the two words under names. -/
theorem mul64_named (x y : Nat) (hx : x < 18446744073709551616) (hy : y < 18446744073709551616) (w : World) :
    Calls Yba.prog 7 #[.int .u64 x, .int .u64 y] w fun e w' => ∃ hi lo : Int, e = .returned (.tuple #[.int .u64 hi, .int .u64 lo]) ∧ w = w' ∧ Hid (hi = ((x * y / 18446744073709551616 : Nat) : Int) ∧ lo = ((x * y % 18446744073709551616 : Nat) : Int)) :=
  (mul64 x y hx hy w).mono fun e w' ⟨h1, h2⟩ => ⟨_, _, h1, h2.symm, ⟨rfl, rfl⟩⟩

theorem mulov_any (a b : Int) (ha1 : -9223372036854775808 ≤ a) (ha2 : a ≤ 9223372036854775807) (hb1 : -9223372036854775808 ≤ b) (hb2 : b ≤ 9223372036854775807) (w : World) :
    Calls Yba.prog 6 #[.int .i64 a, .int .i64 b] w fun e w' => e = .returned (.bool (ov (a * b))) ∧ w' = w := by
  have la := mag_lt a ha1 ha2
  have lb := mag_lt b hb1 hb2
  by_cases ha : a < 0
  · have ea := mag_neg a ha1 ha2 ha
    by_cases hb : b < 0
    · have eb := mag_neg b hb1 hb2 hb
      go_enter Yba.func6, Yba.ntmps6
      go_wp2_with fail
      refine (mul64_named _ _ la lb _).mono ?_
      rintro e w' ⟨hi, lo, rfl, rfl, hh⟩
      by_cases hz : hi = 0
      · go_wp2
        go_ret
        exact ⟨ret_bool (by rw [hh.out.2]; exact ov_like a b (by have := hh.out.1; omega) (by omega)), rfl⟩
      · go_wp2
        go_ret
        exact ⟨ret_bool (ov_hi a b (by have := hh.out.1; omega)).symm, rfl⟩
    · have eb := mag_pos b hb1 hb2 hb
      have db : decide (b < 0) = false := decide_eq_false hb
      go_enter Yba.func6, Yba.ntmps6
      go_wp2_with fail
      refine (mul64_named _ _ la lb _).mono ?_
      rintro e w' ⟨hi, lo, rfl, rfl, hh⟩
      by_cases hz : hi = 0
      · go_wp2
        go_ret
        exact ⟨ret_bool (by rw [hh.out.2]; exact ov_unlike a b (by have := hh.out.1; omega) (by omega)), rfl⟩
      · go_wp2
        go_ret
        exact ⟨ret_bool (ov_hi a b (by have := hh.out.1; omega)).symm, rfl⟩
  · have ea := mag_pos a ha1 ha2 ha
    have da : decide (a < 0) = false := decide_eq_false ha
    by_cases hb : b < 0
    · have eb := mag_neg b hb1 hb2 hb
      go_enter Yba.func6, Yba.ntmps6
      go_wp2_with fail
      refine (mul64_named _ _ la lb _).mono ?_
      rintro e w' ⟨hi, lo, rfl, rfl, hh⟩
      by_cases hz : hi = 0
      · go_wp2
        go_ret
        exact ⟨ret_bool (by rw [hh.out.2]; exact ov_unlike a b (by have := hh.out.1; omega) (by omega)), rfl⟩
      · go_wp2
        go_ret
        exact ⟨ret_bool (ov_hi a b (by have := hh.out.1; omega)).symm, rfl⟩
    · have eb := mag_pos b hb1 hb2 hb
      have db : decide (b < 0) = false := decide_eq_false hb
      go_enter Yba.func6, Yba.ntmps6
      go_wp2_with fail
      refine (mul64_named _ _ la lb _).mono ?_
      rintro e w' ⟨hi, lo, rfl, rfl, hh⟩
      by_cases hz : hi = 0
      · go_wp2
        go_ret
        exact ⟨ret_bool (by rw [hh.out.2]; exact ov_like a b (by have := hh.out.1; omega) (by omega)), rfl⟩
      · go_wp2
        go_ret
        exact ⟨ret_bool (ov_hi a b (by have := hh.out.1; omega)).symm, rfl⟩

end Go.Proofs.Ybulkaruu.lawS2165AModel
