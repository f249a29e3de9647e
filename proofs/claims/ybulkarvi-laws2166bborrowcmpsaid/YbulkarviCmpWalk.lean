/-
  The walk of the law BorrowCmp on Uint128. Its last statement draws its order and holds a call: one walk for each order, in three cases.
-/
import Derived.Test.YbulkarviBWalks
namespace Go.Proofs.Ybulkarvi.words
set_option linter.unusedVariables false
open Go.RowKit

theorem cmp_sub (uh ul vh vl : Int) (h1 : Word uh) (h2 : Word ul) (h3 : Word vh) (h4 : Word vl) : subB uh ul vh vl = decide (cmpI uh ul vh vl < 0) := by
  rw [subB_iff uh ul vh vl h1 h2 h3 h4]
  unfold cmpI
  rw [Bool.eq_iff_iff]
  simp
  split
  · simp; assumption
  · split <;> simp <;> omega
theorem zero_sub (uh ul vh vl : Int) (h1 : Word uh) (h2 : Word ul) (h3 : Word vh) (h4 : Word vl) : isZ (subH uh ul vh vl) (dif ul vl 0) = decide (uh = vh ∧ ul = vl) := by
  unfold isZ
  rw [Bool.eq_iff_iff]
  unfold subH dif bor Word at *
  simp
  split <;> omega

set_option maxHeartbeats 4000000 in
theorem cmp_same (uh ul : Int) (h1 : Word uh) (h2 : Word ul) (h3 : Word uh) (h4 : Word ul) (w : World) :
    Calls Yba.prog 6 #[.int .u64 uh, .int .u64 ul, .int .u64 uh, .int .u64 ul] w fun e w' => e = .returned (.bool true) ∧ Grown w w' := by
  have e1 := cmp_sub uh ul uh ul h1 h2 h3 h4
  have e3 : isZ (subH uh ul uh ul) (dif ul ul 0) = true := by rw [zero_sub uh ul uh ul h1 h2 h3 h4]; simp
  go_enter Yba.func6, Yba.ntmps6
  go_wp2_with fail
  refine (sub_any _ _ _ _ h1 h2 h3 h4 _).mono ?_
  rintro e w' ⟨rfl, c1, c2, c3, rfl⟩
  go_wp2_with fail
  refine (cmp_any _ _ _ _ _).mono ?_
  rintro e w' ⟨rfl, d1, d2, rfl⟩
  go_wp2_with fail
  go_region_with (go_at_call 13; refine (zero_any _ _ _).mono ?_; rintro e w' ⟨rfl, x1, rfl⟩)
  all_goals (try go_wp2)
  all_goals go_ret
  all_goals exact ⟨rfl, by repeat (first | exact Grown.refl _ | apply Grown.drew | apply Grown.alloc)⟩

set_option maxHeartbeats 4000000 in
theorem cmp_lows (uh ul vl : Int) (h1 : Word uh) (h2 : Word ul) (h3 : Word uh) (h4 : Word vl) (g : (ul == vl) = false) (w : World) :
    Calls Yba.prog 6 #[.int .u64 uh, .int .u64 ul, .int .u64 uh, .int .u64 vl] w fun e w' => e = .returned (.bool true) ∧ Grown w w' := by
  have e1 := cmp_sub uh ul uh vl h1 h2 h3 h4
  have e3 : isZ (subH uh ul uh vl) (dif ul vl 0) = false := by rw [zero_sub uh ul uh vl h1 h2 h3 h4]; simpa using g
  go_enter Yba.func6, Yba.ntmps6
  go_wp2_with fail
  refine (sub_any _ _ _ _ h1 h2 h3 h4 _).mono ?_
  rintro e w' ⟨rfl, c1, c2, c3, rfl⟩
  go_wp2_with fail
  refine (cmp_any _ _ _ _ _).mono ?_
  rintro e w' ⟨rfl, d1, d2, rfl⟩
  go_wp2_with fail
  go_region_with (go_at_call 13; refine (zero_any _ _ _).mono ?_; rintro e w' ⟨rfl, x1, rfl⟩)
  all_goals (try go_wp2)
  all_goals go_ret
  all_goals exact ⟨rfl, by repeat (first | exact Grown.refl _ | apply Grown.drew | apply Grown.alloc)⟩

set_option maxHeartbeats 4000000 in
theorem cmp_highs (uh ul vh vl : Int) (h1 : Word uh) (h2 : Word ul) (h3 : Word vh) (h4 : Word vl) (g : (uh == vh) = false) (w : World) :
    Calls Yba.prog 6 #[.int .u64 uh, .int .u64 ul, .int .u64 vh, .int .u64 vl] w fun e w' => e = .returned (.bool true) ∧ Grown w w' := by
  have e1 := cmp_sub uh ul vh vl h1 h2 h3 h4
  have e3 : isZ (subH uh ul vh vl) (dif ul vl 0) = false := by rw [zero_sub uh ul vh vl h1 h2 h3 h4]; simp at g; simp [g]
  go_enter Yba.func6, Yba.ntmps6
  go_wp2_with fail
  refine (sub_any _ _ _ _ h1 h2 h3 h4 _).mono ?_
  rintro e w' ⟨rfl, c1, c2, c3, rfl⟩
  go_wp2_with fail
  refine (cmp_any _ _ _ _ _).mono ?_
  rintro e w' ⟨rfl, d1, d2, rfl⟩
  go_wp2_with fail
  go_region_with (go_at_call 13; refine (zero_any _ _ _).mono ?_; rintro e w' ⟨rfl, x1, rfl⟩)
  all_goals (try go_wp2)
  all_goals go_ret
  all_goals exact ⟨rfl, by repeat (first | exact Grown.refl _ | apply Grown.drew | apply Grown.alloc)⟩

theorem borrowCmp_any (uh ul vh vl : Int) (h1 : Word uh) (h2 : Word ul) (h3 : Word vh) (h4 : Word vl) (w : World) :
    Calls Yba.prog 6 #[.int .u64 uh, .int .u64 ul, .int .u64 vh, .int .u64 vl] w fun e w' => e = .returned (.bool true) ∧ Grown w w' := by
  by_cases g1 : uh = vh
  · subst g1
    by_cases g2 : ul = vl
    · subst g2
      exact cmp_same uh ul h1 h2 h3 h4 w
    · exact cmp_lows uh ul vl h1 h2 h3 h4 (by simpa using g2) w
  · exact cmp_highs uh ul vh vl h1 h2 h3 h4 (by simpa using g1) w
end Go.Proofs.Ybulkarvi.words
