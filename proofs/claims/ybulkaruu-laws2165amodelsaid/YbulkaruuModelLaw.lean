/-
  The law 'LawS2165AModel' itself, out of its callees' contracts.
-/
import Derived.Test.YbulkaruuModelWalk
namespace Go.Proofs.Ybulkaruu.lawS2165AModel
set_option linter.unusedVariables false
open Go.RowKit Go.Lib

theorem ov_t (p : Int) (h : p < -9223372036854775808 ∨ 9223372036854775807 < p) : ov p = true := by unfold ov; simpa using h
theorem ov_f (p : Int) (h1 : -9223372036854775808 ≤ p) (h2 : p ≤ 9223372036854775807) : ov p = false := by unfold ov; simp; omega

/-- The same sums and differences in each spelling that the walk comes to. -/
theorem backs (f : Int → Int → Int) (hf : f = (· + ·) ∨ f = (· - ·) ∨ f = (· * ·)) (a b : Int) :
    wrap64 (IntKind.u64.wrap (f (IntKind.u64.wrap a) (IntKind.u64.wrap b))) = wrap64 (f a b) ∧ wrap64 (IntKind.u64.wrap (f (IntKind.u64.wrap a) b)) = wrap64 (f a b) ∧
    wrap64 (IntKind.u64.wrap (f a (IntKind.u64.wrap b))) = wrap64 (f a b) ∧ wrap64 (IntKind.u64.wrap (f a b)) = wrap64 (f a b) ∧
    wrap64 (f (IntKind.u64.wrap a) (IntKind.u64.wrap b)) = wrap64 (f a b) ∧ wrap64 (f (IntKind.u64.wrap a) b) = wrap64 (f a b) ∧ wrap64 (f a (IntKind.u64.wrap b)) = wrap64 (f a b) := by
  have key : ∀ x y : Int, x % 18446744073709551616 = y % 18446744073709551616 → wrap64 x = wrap64 y := by
    intro x y h
    unfold wrap64
    omega
  have w : ∀ x : Int, IntKind.u64.wrap x % 18446744073709551616 = x % 18446744073709551616 := fun x => by rw [IntKind.wrap_u64]; omega
  have c : ∀ x y x' y' : Int, x % 18446744073709551616 = x' % 18446744073709551616 → y % 18446744073709551616 = y' % 18446744073709551616 → f x y % 18446744073709551616 = f x' y' % 18446744073709551616 := by
    intro x y x' y' hx hy
    rcases hf with rfl | rfl | rfl
    · show (x + y) % _ = (x' + y') % _; omega
    · show (x - y) % _ = (x' - y') % _; omega
    · show (x * y) % _ = (x' * y') % _; rw [Int.mul_emod, hx, hy, ← Int.mul_emod]
  exact ⟨key _ _ ((w _).trans (c _ _ _ _ (w a) (w b))), key _ _ ((w _).trans (c _ _ _ _ (w a) rfl)), key _ _ ((w _).trans (c _ _ _ _ rfl (w b))), key _ _ (w _), key _ _ (c _ _ _ _ (w a) (w b)), key _ _ (c _ _ _ _ (w a) rfl), key _ _ (c _ _ _ _ rfl (w b))⟩

theorem law_add (s a b : Int) (hs : s % 13 = 9) (h0 : 0 ≤ s) (h255 : s ≤ 255) (ha1 : -9223372036854775808 ≤ a) (ha2 : a ≤ 9223372036854775807) (hb1 : -9223372036854775808 ≤ b) (hb2 : b ≤ 9223372036854775807) (w : World) :
    Calls Yba.prog 3 #[.int .u8 s, .int .i64 a, .int .i64 b] w fun e w' => e = .returned (.bool true) ∧ w' = w := by
  obtain ⟨b1, b2, b3, b4, b5, b6, b7⟩ := backs (fun x y => x + y) (Or.inl rfl) a b
  by_cases hb : 0 < b
  · by_cases hc : 9223372036854775807 - b < a
    · have ho := ov_t (a + b) (by omega)
      go_enter Yba.func3, Yba.ntmps3
      go_wp2_with fail
      refine (arith_add _ _ ha1 ha2 hb1 hb2 _).mono ?_
      rintro e w' ⟨rfl, rfl⟩
      go_wp2
      go_ret
      exact ⟨rfl, rfl⟩
    · have ho := ov_f (a + b) (by omega) (by omega)
      have hd : decide (9223372036854775807 - b < a) = false := decide_eq_false hc
      go_enter Yba.func3, Yba.ntmps3
      go_wp2_with fail
      refine (arith_add _ _ ha1 ha2 hb1 hb2 _).mono ?_
      rintro e w' ⟨rfl, rfl⟩
      go_wp2
      go_ret
      exact ⟨rfl, rfl⟩
  · have d1 : decide (0 < b) = false := decide_eq_false hb
    by_cases hn : b < 0
    · by_cases hc : a < -9223372036854775808 - b
      · have ho := ov_t (a + b) (by omega)
        go_enter Yba.func3, Yba.ntmps3
        go_wp2_with fail
        refine (arith_add _ _ ha1 ha2 hb1 hb2 _).mono ?_
        rintro e w' ⟨rfl, rfl⟩
        go_wp2
        go_ret
        exact ⟨rfl, rfl⟩
      · have ho := ov_f (a + b) (by omega) (by omega)
        have hd : decide (a < -9223372036854775808 - b) = false := decide_eq_false hc
        go_enter Yba.func3, Yba.ntmps3
        go_wp2_with fail
        refine (arith_add _ _ ha1 ha2 hb1 hb2 _).mono ?_
        rintro e w' ⟨rfl, rfl⟩
        go_wp2
        go_ret
        exact ⟨rfl, rfl⟩
    · have ho := ov_f (a + b) (by omega) (by omega)
      have d2 : decide (b < 0) = false := decide_eq_false hn
      go_enter Yba.func3, Yba.ntmps3
      go_wp2_with fail
      refine (arith_add _ _ ha1 ha2 hb1 hb2 _).mono ?_
      rintro e w' ⟨rfl, rfl⟩
      go_wp2
      go_ret
      exact ⟨rfl, rfl⟩

theorem law_sub (s a b : Int) (hs : s % 13 = 10) (h0 : 0 ≤ s) (h255 : s ≤ 255) (ha1 : -9223372036854775808 ≤ a) (ha2 : a ≤ 9223372036854775807) (hb1 : -9223372036854775808 ≤ b) (hb2 : b ≤ 9223372036854775807) (w : World) :
    Calls Yba.prog 3 #[.int .u8 s, .int .i64 a, .int .i64 b] w fun e w' => e = .returned (.bool true) ∧ w' = w := by
  obtain ⟨b1, b2, b3, b4, b5, b6, b7⟩ := backs (fun x y => x - y) (Or.inr (Or.inl rfl)) a b
  by_cases hn : b < 0
  · by_cases hc : 9223372036854775807 + b < a
    · have ho := ov_t (a - b) (by omega)
      go_enter Yba.func3, Yba.ntmps3
      go_wp2_with fail
      refine (arith_sub _ _ ha1 ha2 hb1 hb2 _).mono ?_
      rintro e w' ⟨rfl, rfl⟩
      go_wp2
      go_ret
      exact ⟨rfl, rfl⟩
    · have ho := ov_f (a - b) (by omega) (by omega)
      have hd : decide (9223372036854775807 + b < a) = false := decide_eq_false hc
      go_enter Yba.func3, Yba.ntmps3
      go_wp2_with fail
      refine (arith_sub _ _ ha1 ha2 hb1 hb2 _).mono ?_
      rintro e w' ⟨rfl, rfl⟩
      go_wp2
      go_ret
      exact ⟨rfl, rfl⟩
  · have d1 : decide (b < 0) = false := decide_eq_false hn
    by_cases hb : 0 < b
    · by_cases hc : a < -9223372036854775808 + b
      · have ho := ov_t (a - b) (by omega)
        go_enter Yba.func3, Yba.ntmps3
        go_wp2_with fail
        refine (arith_sub _ _ ha1 ha2 hb1 hb2 _).mono ?_
        rintro e w' ⟨rfl, rfl⟩
        go_wp2
        go_ret
        exact ⟨rfl, rfl⟩
      · have ho := ov_f (a - b) (by omega) (by omega)
        have hd : decide (a < -9223372036854775808 + b) = false := decide_eq_false hc
        go_enter Yba.func3, Yba.ntmps3
        go_wp2_with fail
        refine (arith_sub _ _ ha1 ha2 hb1 hb2 _).mono ?_
        rintro e w' ⟨rfl, rfl⟩
        go_wp2
        go_ret
        exact ⟨rfl, rfl⟩
    · have ho := ov_f (a - b) (by omega) (by omega)
      have d2 : decide (0 < b) = false := decide_eq_false hb
      go_enter Yba.func3, Yba.ntmps3
      go_wp2_with fail
      refine (arith_sub _ _ ha1 ha2 hb1 hb2 _).mono ?_
      rintro e w' ⟨rfl, rfl⟩
      go_wp2
      go_ret
      exact ⟨rfl, rfl⟩

theorem law_mul (s a b : Int) (h9 : (s % 13 == 9) = false) (h10 : (s % 13 == 10) = false) (h0 : 0 ≤ s) (h255 : s ≤ 255) (ha1 : -9223372036854775808 ≤ a) (ha2 : a ≤ 9223372036854775807) (hb1 : -9223372036854775808 ≤ b) (hb2 : b ≤ 9223372036854775807) (w : World) :
    Calls Yba.prog 3 #[.int .u8 s, .int .i64 a, .int .i64 b] w fun e w' => e = .returned (.bool true) ∧ w' = w := by
  obtain ⟨b1, b2, b3, b4, b5, b6, b7⟩ := backs (fun x y => x * y) (Or.inr (Or.inr rfl)) a b
  go_enter Yba.func3, Yba.ntmps3
  go_wp2_with fail
  refine (arith_mul _ _ _ h9 h10 ha1 ha2 hb1 hb2 _).mono ?_
  rintro e w' ⟨rfl, rfl⟩
  go_wp2_with fail
  refine (mulov_any _ _ ha1 ha2 hb1 hb2 _).mono ?_
  rintro e w' ⟨rfl, rfl⟩
  go_wp2
  go_ret
  exact ⟨rfl, rfl⟩
end Go.Proofs.Ybulkaruu.lawS2165AModel
