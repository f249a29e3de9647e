/-
  rank, Get, Modes.
-/
import Derived.Test.YbulkaryaBM
import Derived.Deep.QuietTactic
import Derived.BigQuiet
import Derived.LoopTactic
namespace Go.Proofs.Ybulkarya.script
set_option linter.unusedVariables false
set_option linter.unusedSimpArgs false
open Go.RowKit Go.Proofs.Ybulkarya.forget

theorem two_q (q : Nat) (hq : q < 64) : 2 ^ q < 18446744073709551616 := by
  have := Nat.pow_lt_pow_right (a := 2) (by omega) hq
  omega
/-- '1 << q', q below 64. -/
theorem shl_q (q : Nat) (hq : q < 64) : IntKind.u64.wrap ((2 : Int) ^ q) = ((2 ^ q : Nat) : Int) := by
  have h := two_q q hq
  have e : ((2 : Int) ^ q) = ((2 ^ q : Nat) : Int) := by simp
  rw [e]
  exact wr64 _ h
/-- What the walk meets of '1 << q' and of the word: letters, and what they are. -/
theorem bits_q (H : Nat → Bool) (q : Nat) (hq : q < 64) : ∃ T R X Y M : Nat, M = mask H 64 ∧ IntKind.u64.wrap ((2 : Int) ^ q) = (T : Int) ∧ IntKind.u64.wrap ((T : Int) - 1) = (R : Int) ∧ bits .and .u64 (M : Int) (R : Int) = (X : Int) ∧ bits .and .u64 (M : Int) (T : Int) = (Y : Int) ∧
    X < 18446744073709551616 ∧ pc X 64 = cn H q ∧ (H q = false → Y = 0) ∧ (H q = true → Y ≠ 0) ∧ bits .or .u64 (M : Int) (T : Int) = ((mask (up H q true) 64 : Nat) : Int) ∧ bits .andNot .u64 (M : Int) (T : Int) = ((mask (up H q false) 64 : Nat) : Int) := by
  have h := two_q q hq
  have hp := Nat.two_pow_pos q
  have hm : mask H 64 < 18446744073709551616 := mask_lt H 64
  refine ⟨2 ^ q, 2 ^ q - 1, mask H 64 &&& (2 ^ q - 1), mask H 64 &&& 2 ^ q, mask H 64, rfl, shl_q q hq, ?_, bits_and_u64_nat _ _ hm (by omega), bits_and_u64_nat _ _ hm h, Nat.lt_of_le_of_lt Nat.and_le_left hm, rank_is H q (by omega), mask_none q H hq, mask_some q H hq, ?_, ?_⟩
  · have e : (((2 ^ q : Nat) : Int) - 1) = ((2 ^ q - 1 : Nat) : Int) := by omega
    rw [e]
    exact wr64 _ (by omega)
  · rw [bits_or_u64_nat _ _ hm h, mask_set q H hq]
  · rw [bits_andNot_u64 _ _ hm h, mask_clear q H hq]

theorem rank_any (BB q : Nat) (H : Nat → Bool) (hq : q < 64) (w : World) (c0 : w.cell? ⟨BB, 0, none⟩ = some (.int .u64 (mask H 64))) : Calls Yba.prog 10 #[.pointer (some ⟨BB, 0, none⟩), .int .i64 q] w fun e w' => e = .returned (.int .i64 (cn H q)) ∧ ∃ m, w' = w.drewN m := by
  obtain ⟨T, R, X, Y, M, hM, e1, e2, e3, e4, h1, h2, h3, h4, h5, h6⟩ := bits_q H q hq
  rw [← hM] at c0
  have k1 : (q : Int) < 64 := by omega
  have ho : ∀ w, Calls Yba.prog 13 #[.int .u64 X] w fun e w' => e = .returned (.int .i64 (pc X 64)) ∧ w' = w := fun w => ones_any X h1 w
  rw [h2] at ho
  clear hM h1 h2 h3 h4 h5 h6 e4
  generalize cn H q = C at *
  go_enter Yba.func10, Yba.ntmps10
  go_wp2_with fail
  go_quiet ((go_at_call 13; exact Calls.quiet_of_same (ho _)))
  go_wp2
  go_ret
  exact ⟨rfl, _, rfl⟩

theorem modes_any (BB : Nat) (x : Int) (w : World) (c0 : w.cell? ⟨BB, 0, none⟩ = some (.int .u64 x)) : Calls Yba.prog 12 #[.pointer (some ⟨BB, 0, none⟩)] w fun e w' => e = .returned (.int .u64 x) ∧ w' = w := by
  go_enter Yba.func12, Yba.ntmps12
  go_wp2
  go_ret
  exact ⟨rfl, rfl⟩

/-- Get of a mode that is not there. -/
theorem get_none (BB q : Nat) (H : Nat → Bool) (hq : q < 64) (hH : H q = false) (w : World) (c0 : w.cell? ⟨BB, 0, none⟩ = some (.int .u64 (mask H 64))) : Calls Yba.prog 11 #[.pointer (some ⟨BB, 0, none⟩), .int .i64 q] w fun e w' => e = .returned (.int .i64 0) ∧ ∃ m, w' = w.drewN m := by
  obtain ⟨T, R, X, Y, M, hM, e1, e2, e3, e4, h1, h2, h3, h4, h5, h6⟩ := bits_q H q hq
  rw [← hM] at c0
  rw [h3 hH] at e4
  have k1 : (q : Int) < 64 := by omega
  clear hM h1 h2 h3 h4 h5 h6 e2 e3
  go_enter Yba.func11, Yba.ntmps11
  go_wp2_with fail
  go_quiet (fail)
  go_wp2
  go_ret
  exact ⟨rfl, _, rfl⟩

theorem get_some (BB q g n cap : Nat) (x : Int) (H : Nat → Bool) (hq : q < 64) (hH : H q = true) (w : World) (c0 : w.cell? ⟨BB, 0, none⟩ = some (.int .u64 (mask H 64))) (c1 : w.cell? ⟨BB, 1, none⟩ = some (.slice (some ⟨g, 0, none⟩) n cap)) (hn : cn H q < n) (hn64 : n ≤ 64) (c2 : w.cell? ⟨g, cn H q, none⟩ = some (.int .i64 x)) :
    Calls Yba.prog 11 #[.pointer (some ⟨BB, 0, none⟩), .int .i64 q] w fun e w' => e = .returned (.int .i64 x) ∧ ∃ m, w' = w.drewN m := by
  have hr : Hid (∀ (wx : World) (k : Nat), wx.cell? ⟨BB, 0, none⟩ = w.cell? ⟨BB, 0, none⟩ → Calls Yba.prog 10 #[.pointer (some ⟨BB, 0, none⟩), .int .i64 q] (wx.drewN k) fun e w' => e = .returned (.int .i64 (cn H q)) ∧ ∃ m, w' = wx.drewN m) := fun wx k h => (rank_any BB q H hq (wx.drewN k) (h.trans c0)).mono (fun e w' ⟨h1, m, h2⟩ => ⟨h1, k + m, by rw [h2]; simp⟩)
  obtain ⟨T, R, X, Y, M, hM, e1, e2, e3, e4, h1, h2, h3, h4, h5, h6⟩ := bits_q H q hq
  rw [← hM] at c0
  have hY : ¬ (Y : Int) = 0 := by have := h4 hH; omega
  have k1 : (q : Int) < 64 := by omega
  clear hM h1 h2 h3 h4 h5 h6 e2 e3
  generalize cn H q = C at *
  have k2 : (C : Int) < (n : Int) := by omega
  go_enter Yba.func11, Yba.ntmps11
  go_wp2_with fail
  go_quiet (fail)
  have d1 : (w.drewN nq).cell? ⟨BB, 1, none⟩ = some (.slice (some ⟨g, 0, none⟩) n cap) := c1
  have d2 : (w.drewN nq).cell? ⟨g, C, none⟩ = some (.int .i64 x) := c2
  have hr2 := fun k => hr.out (w.drewN nq) k rfl
  have HW : Hid (∀ k, ∃ m, (w.drewN nq).drewN k = w.drewN m) := fun k => ⟨nq + k, by simp⟩
  clear hr c0 c1 c2
  generalize w.drewN nq = w2 at *
  go_wp2_with fail
  go_quiet ((go_at_call 10; exact hr2 _))
  go_wp2
  go_ret
  exact ⟨rfl, HW.out _⟩
end Go.Proofs.Ybulkarya.script
