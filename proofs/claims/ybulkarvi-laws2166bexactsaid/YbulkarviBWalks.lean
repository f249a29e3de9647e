/-
  The walks of the three laws on Uint128: Exact, AddBack, BorrowCmp.
-/
import Derived.Test.YbulkarviWords
import Derived.Deep.RegionWith
namespace Go.Proofs.Ybulkarvi.words
set_option linter.unusedVariables false
open Go.RowKit

/-! ### the plain laws -/
theorem subB_iff (uh ul vh vl : Int) (h1 : Word uh) (h2 : Word ul) (h3 : Word vh) (h4 : Word vl) : subB uh ul vh vl = decide (uh < vh ∨ (uh = vh ∧ ul < vl)) := by
  unfold subB bor
  rw [Bool.eq_iff_iff]
  simp
  split <;> omega
theorem subB_t (uh ul vh vl : Int) (h1 : Word uh) (h2 : Word ul) (h3 : Word vh) (h4 : Word vl) (h : uh < vh ∨ (uh = vh ∧ ul < vl)) : subB uh ul vh vl = true := by
  rw [subB_iff uh ul vh vl h1 h2 h3 h4]; simpa using h
theorem subB_f (uh ul vh vl : Int) (h1 : Word uh) (h2 : Word ul) (h3 : Word vh) (h4 : Word vl) (h : ¬ (uh < vh ∨ (uh = vh ∧ ul < vl))) : subB uh ul vh vl = false := by
  rw [subB_iff uh ul vh vl h1 h2 h3 h4]; exact decide_eq_false h

theorem dif_lo (ul vl : Int) : dif ul vl 0 = IntKind.u64.wrap (ul - vl) := by
  unfold dif
  rw [IntKind.wrap_u64]
  omega
theorem subH_b (uh ul vh vl : Int) (h : ul < vl) : subH uh ul vh vl = IntKind.u64.wrap (IntKind.u64.wrap (uh - vh) - 1) := by
  unfold subH dif bor
  rw [if_pos h, IntKind.wrap_u64, IntKind.wrap_u64]
  omega
theorem subH_n (uh ul vh vl : Int) (h : ¬ ul < vl) : subH uh ul vh vl = IntKind.u64.wrap (uh - vh) := by
  unfold subH dif bor
  rw [if_neg h, IntKind.wrap_u64]
  omega

set_option maxHeartbeats 800000 in
theorem exact_any (uh ul vh vl : Int) (h1 : Word uh) (h2 : Word ul) (h3 : Word vh) (h4 : Word vl) (w : World) :
    Calls Yba.prog 4 #[.int .u64 uh, .int .u64 ul, .int .u64 vh, .int .u64 vl] w fun e w' => e = .returned (.bool true) ∧ Grown w w' := by
  have hl := dif_lo ul vl
  by_cases g : ul < vl
  · have hh := subH_b uh ul vh vl g
    by_cases g1 : uh < vh
    · have hb := subB_t uh ul vh vl h1 h2 h3 h4 (Or.inl g1)
      go_enter Yba.func4, Yba.ntmps4
      go_wp2_with fail
      refine (sub_any _ _ _ _ h1 h2 h3 h4 _).mono ?_
      rintro e w' ⟨rfl, c1, c2, c3, rfl⟩
      go_wp2
      go_ret
      exact ⟨rfl, by repeat (first | exact Grown.refl _ | apply Grown.drew | apply Grown.alloc)⟩
    · have d1 : decide (uh < vh) = false := decide_eq_false g1
      by_cases g2 : uh = vh
      · subst g2
        have hb := subB_t uh ul uh vl h1 h2 h3 h4 (Or.inr ⟨rfl, g⟩)
        go_enter Yba.func4, Yba.ntmps4
        go_wp2_with fail
        refine (sub_any _ _ _ _ h1 h2 h3 h4 _).mono ?_
        rintro e w' ⟨rfl, c1, c2, c3, rfl⟩
        go_wp2
        go_ret
        exact ⟨rfl, by repeat (first | exact Grown.refl _ | apply Grown.drew | apply Grown.alloc)⟩
      · have hb := subB_f uh ul vh vl h1 h2 h3 h4 (by omega)
        go_enter Yba.func4, Yba.ntmps4
        go_wp2_with fail
        refine (sub_any _ _ _ _ h1 h2 h3 h4 _).mono ?_
        rintro e w' ⟨rfl, c1, c2, c3, rfl⟩
        go_wp2
        go_ret
        exact ⟨rfl, by repeat (first | exact Grown.refl _ | apply Grown.drew | apply Grown.alloc)⟩
  · have hh := subH_n uh ul vh vl g
    have d0 : decide (ul < vl) = false := decide_eq_false g
    by_cases g1 : uh < vh
    · have hb := subB_t uh ul vh vl h1 h2 h3 h4 (Or.inl g1)
      go_enter Yba.func4, Yba.ntmps4
      go_wp2_with fail
      refine (sub_any _ _ _ _ h1 h2 h3 h4 _).mono ?_
      rintro e w' ⟨rfl, c1, c2, c3, rfl⟩
      go_wp2
      go_ret
      exact ⟨rfl, by repeat (first | exact Grown.refl _ | apply Grown.drew | apply Grown.alloc)⟩
    · have d1 : decide (uh < vh) = false := decide_eq_false g1
      by_cases g2 : uh = vh
      · subst g2
        have hb := subB_f uh ul uh vl h1 h2 h3 h4 (by omega)
        go_enter Yba.func4, Yba.ntmps4
        go_wp2_with fail
        refine (sub_any _ _ _ _ h1 h2 h3 h4 _).mono ?_
        rintro e w' ⟨rfl, c1, c2, c3, rfl⟩
        go_wp2
        go_ret
        exact ⟨rfl, by repeat (first | exact Grown.refl _ | apply Grown.drew | apply Grown.alloc)⟩
      · have hb := subB_f uh ul vh vl h1 h2 h3 h4 (by omega)
        go_enter Yba.func4, Yba.ntmps4
        go_wp2_with fail
        refine (sub_any _ _ _ _ h1 h2 h3 h4 _).mono ?_
        rintro e w' ⟨rfl, c1, c2, c3, rfl⟩
        go_wp2
        go_ret
        exact ⟨rfl, by repeat (first | exact Grown.refl _ | apply Grown.drew | apply Grown.alloc)⟩

theorem back_lo (ul vl : Int) (h2 : Word ul) (h4 : Word vl) : sum (dif ul vl 0) vl 0 = ul := by
  unfold sum dif Word at *
  omega
theorem back_hi (uh ul vh vl : Int) (h1 : Word uh) (h2 : Word ul) (h3 : Word vh) (h4 : Word vl) : addH (subH uh ul vh vl) (dif ul vl 0) vh vl = uh := by
  unfold addH subH sum dif car bor Word at *
  split <;> omega
theorem back_b (uh ul vh vl : Int) (h1 : Word uh) (h2 : Word ul) (h3 : Word vh) (h4 : Word vl) : addO (subH uh ul vh vl) (dif ul vl 0) vh vl = subB uh ul vh vl := by
  rw [subB_iff uh ul vh vl h1 h2 h3 h4]
  unfold addO subH dif car bor Word at *
  rw [Bool.eq_iff_iff]
  simp
  split <;> omega

theorem addBack_any (uh ul vh vl : Int) (h1 : Word uh) (h2 : Word ul) (h3 : Word vh) (h4 : Word vl) (w : World) :
    Calls Yba.prog 5 #[.int .u64 uh, .int .u64 ul, .int .u64 vh, .int .u64 vl] w fun e w' => e = .returned (.bool true) ∧ Grown w w' := by
  have e1 := back_lo ul vl h2 h4
  have e2 := back_hi uh ul vh vl h1 h2 h3 h4
  have e3 := back_b uh ul vh vl h1 h2 h3 h4
  go_enter Yba.func5, Yba.ntmps5
  go_wp2_with fail
  refine (sub_any _ _ _ _ h1 h2 h3 h4 _).mono ?_
  rintro e w' ⟨rfl, c1, c2, c3, rfl⟩
  go_wp2_with fail
  refine (add_any _ _ _ _ (subH_word uh ul vh vl) (dif_word ul vl 0) h3 h4 _).mono ?_
  rintro e w' ⟨rfl, d1, d2, d3, rfl⟩
  go_wp2
  go_ret
  exact ⟨rfl, by repeat (first | exact Grown.refl _ | apply Grown.drew | apply Grown.alloc)⟩

end Go.Proofs.Ybulkarvi.words
