/-
  (*ByMode[int]).Ref.
-/
import Derived.Test.YbulkaryaCheck2
import Derived.Deep.RegionHeldLaw
import Derived.Deep.RegionLaw
import Derived.OwnWalk
namespace Go.Proofs.Ybulkarya.script
set_option linter.unusedVariables false
set_option linter.unusedSimpArgs false
open Go.RowKit Go.Proofs.Ybulkarya.forget

/-- The same, where there are values, their row named. -/
def BMg (w : World) (BB LB : Nat) (H : Nat → Bool) (V : Nat → Int) (g : Nat) : Prop :=
  ∃ cap f, w.heap[BB]? = some (.cells #[.int .u64 (mask H 64), .slice (some ⟨g, 0, none⟩) (cn H 64) cap] 56 (0, 0)) ∧ LB < g ∧ cn H 64 ≤ cap ∧ cap ≤ maxLen ∧ Rw w g 3 cap f ∧ (∀ i, i < cn H 64 → ∃ x : Int, f i = .int .i64 x) ∧ ∀ q, q < 64 → H q = true → f (cn H q) = .int .i64 (V q)

theorem BMg.bm {w : World} {BB LB g : Nat} {H : Nat → Bool} {V : Nat → Int} (h : BMg w BB LB H V g) : BM w BB LB H V := by
  obtain ⟨cap, f, h1, h2, h3, h4, h5, h6, h7⟩ := h
  have hx : ∀ i, ∃ x : Int, i < cn H 64 → f i = .int .i64 x := fun i => by
    by_cases hi : i < cn H 64
    · obtain ⟨x, hx⟩ := h6 i hi
      exact ⟨x, fun _ => hx⟩
    · exact ⟨0, fun h => absurd h hi⟩
  refine ⟨_, fun i => Classical.choose (hx i), h1, .inr ⟨g, cap, f, rfl, h2, h3, h4, h5, fun i hi => Classical.choose_spec (hx i) hi⟩, fun q hq hH => ?_⟩
  have e1 := Classical.choose_spec (hx (cn H q)) (cn_lt H q 64 hq hH)
  have e2 := h7 q hq hH
  have e3 := e1.symm.trans e2
  simpa using e3
theorem BM.row {w : World} {BB LB q : Nat} {H : Nat → Bool} {V : Nat → Int} (h : BM w BB LB H V) (hq : q < 64) (hH : H q = true) : ∃ g, BMg w BB LB H V g := by
  obtain ⟨v, F, h1, h2, h3⟩ := h
  have := cn_lt H q 64 hq hH
  rcases h2 with ⟨rfl, h0⟩ | ⟨g, cap, f, rfl, a1, a2, a3, a4, a5⟩
  · omega
  · exact ⟨g, cap, f, h1, a1, a2, a3, a4, fun i hi => ⟨_, a5 i hi⟩, fun q hq hH => by rw [a5 _ (cn_lt H q 64 hq hH), h3 q hq hH]⟩
theorem BMg.write {w : World} {BB LB g q : Nat} {H : Nat → Bool} {V : Nat → Int} (h : BMg w BB LB H V g) (hB : BB ≤ LB) (hq : q < 64) (hH : H q = true) (x : Int) : BMg (w.setCell ⟨g, cn H q, none⟩ (.int .i64 x)) BB LB H (up V q x) g := by
  obtain ⟨cap, f, h1, h2, h3, h4, h5, h6, h7⟩ := h
  have hlt := cn_lt H q 64 hq hH
  refine ⟨cap, _, (Below.heap_setCell _ _ _ _ (by show BB ≠ g; omega)).trans h1, h2, h3, h4, h5.set _ _, fun i hi => ?_, fun q' hq' hH' => ?_⟩
  · by_cases e : i = cn H q
    · subst e; rw [upd_same]; exact ⟨x, rfl⟩
    · rw [upd_other _ _ _ _ e]; exact h6 i hi
  · by_cases e : q' = q
    · subst e; rw [upd_same, up_same]
    · rw [upd_other _ _ _ _ (fun e2 => e (cn_inj H q' q hH' hH e2)), up_other _ _ _ _ e]; exact h7 q' hq' hH'
theorem BMg.drewN {w : World} {BB LB g : Nat} {H : Nat → Bool} {V : Nat → Int} (h : BMg w BB LB H V g) (m : Nat) : BMg (w.drewN m) BB LB H V g := by
  obtain ⟨cap, f, h1, h2, h3, h4, h5, h6, h7⟩ := h
  exact ⟨cap, f, h1, h2, h3, h4, h5.same rfl, h6, h7⟩
theorem BMg.at {w : World} {BB LB g q : Nat} {H : Nat → Bool} {V : Nat → Int} (h : BMg w BB LB H V g) (hq : q < 64) (hH : H q = true) : w.cell? ⟨g, cn H q, none⟩ = some (.int .i64 (V q)) ∧ w.frozen? ⟨g, cn H q, none⟩ = false ∧ LB < g := by
  obtain ⟨cap, f, h1, h2, h3, h4, h5, h6, h7⟩ := h
  have hlt := cn_lt H q 64 hq hH
  exact ⟨by rw [h5.cell (by omega), h7 q hq hH], h5.free _, h2⟩

theorem ref_some (BB LB q g : Nat) (H : Nat → Bool) (V : Nat → Int) (hq : q < 64) (hH : H q = true) (w : World) (bm : BMg w BB LB H V g) :
    Calls Yba.prog 8 #[.pointer (some ⟨BB, 0, none⟩), .int .i64 q] w fun e w' => e = .returned (.pointer (some ⟨g, cn H q, none⟩)) ∧ ∃ m, w' = w.drewN m := by
  obtain ⟨cap, f, b1, b2, b3, b4, b5, b6, b7⟩ := bm
  have c0 : w.cell? ⟨BB, 0, none⟩ = some (.int .u64 (mask H 64)) := by rw [cell_of_row _ _ _ _ _ _ b1]; rfl
  have c1 : w.cell? ⟨BB, 1, none⟩ = some (.slice (some ⟨g, 0, none⟩) (cn H 64) cap) := by rw [cell_of_row _ _ _ _ _ _ b1]; rfl
  have hlt := cn_lt H q 64 hq hH
  have hN := cn_le H 64
  have RK := rank_any BB q H hq w c0
  obtain ⟨T, R, X, Y, M, hM, e1, e2, e3, e4, h1, h2, h3, h4, h5, h6⟩ := bits_q H q hq
  rw [← hM] at c0
  have hY : ¬ (Y : Int) = 0 := by have := h4 hH; omega
  have k1 : (q : Int) < 64 := by omega
  clear hM h1 h2 h3 h4 h5 h6 e2 e3 b1 b2 b3 b4 b5 b6 b7
  generalize cn H q = C at *
  generalize cn H 64 = n at *
  have k2 : (C : Int) < (n : Int) := by omega
  go_enter Yba.func8, Yba.ntmps8
  go_wp2_with fail
  refine RK.mono ?_
  rintro e w' ⟨rfl, m1, rfl⟩
  have d0 : (w.drewN m1).cell? ⟨BB, 0, none⟩ = some (.int .u64 M) := c0
  have d1 : (w.drewN m1).cell? ⟨BB, 1, none⟩ = some (.slice (some ⟨g, 0, none⟩) n cap) := c1
  have HW : Hid (∀ k, ∃ m, (w.drewN m1).drewN k = w.drewN m) := fun k => ⟨m1 + k, by simp⟩
  clear c0 c1 RK
  generalize w.drewN m1 = w2 at *
  go_wp2_with fail
  go_quiet (fail)
  go_wp2
  go_ret
  exact ⟨rfl, HW.out _⟩
end Go.Proofs.Ybulkarya.script
