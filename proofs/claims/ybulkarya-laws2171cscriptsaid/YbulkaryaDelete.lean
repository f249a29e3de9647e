/-
  (*ByMode[int]).Delete.
-/
import Derived.Test.YbulkaryaRefNew
namespace Go.Proofs.Ybulkarya.script
set_option linter.unusedVariables false
set_option linter.unusedSimpArgs false
open Go.RowKit Go.Proofs.Ybulkarya.forget

/-- Delete of a mode that has no value: nothing. -/
theorem delete_none (BB q : Nat) (H : Nat → Bool) (hq : q < 64) (hH : H q = false) (w : World) (c0 : w.cell? ⟨BB, 0, none⟩ = some (.int .u64 (mask H 64))) :
    Calls Yba.prog 7 #[.pointer (some ⟨BB, 0, none⟩), .int .i64 q] w fun e w' => e = .returned (.tuple #[]) ∧ ∃ m, w' = w.drewN m := by
  obtain ⟨T, R, X, Y, M, hM, e1, e2, e3, e4, h1, h2, h3, h4, h5, h6⟩ := bits_q H q hq
  rw [← hM] at c0
  rw [h3 hH] at e4
  have k1 : (q : Int) < 64 := by omega
  clear hM h1 h2 h3 h4 h5 h6 e2 e3
  go_enter Yba.func7, Yba.ntmps7
  go_wp2_with fail
  go_quiet (fail)
  go_wp2
  refine bodyPost_ret (results_none rfl _ _ _) rfl ?_
  exact ⟨rfl, _, rfl⟩

/-- The row behind the removal at place C. -/
theorem del_done {w8 : World} {BB LB q g cap n C : Nat} {H : Nat → Bool} {V : Nat → Int} {f : Nat → Value} (hq : q < 64) (hH : H q = true) (hC : cn H q = C) (hn : cn H 64 = n + 1) (g1 : LB < g) (g2 : n + 1 ≤ cap) (g3 : cap ≤ maxLen) (hf : ∀ i, i < n + 1 → ∃ x : Int, f i = .int .i64 x) (hv : ∀ q, q < 64 → H q = true → f (cn H q) = .int .i64 (V q))
    (hb : w8.heap[BB]? = some (.cells #[.int .u64 (mask (up H q false) 64), .slice (some ⟨g, 0, none⟩) n cap] 56 (0, 0))) (hr : Rw w8 g 3 cap (upd (fun i => if C ≤ i ∧ i < C + (n - C) then f (C + 1 + (i - C)) else f i) n (.int .i64 0))) (x : Int) : BMg w8 BB LB (up H q false) (up V q x) g := by
  have hCn : C ≤ n := by have := cn_lt H q 64 hq hH; omega
  have e64 : cn (up H q false) 64 = n := by have := cn_del H q hH 64; rw [if_pos hq] at this; omega
  refine ⟨cap, _, by rw [e64]; exact hb, g1, by rw [e64]; omega, g3, hr, fun i hi => ?_, fun q' hq' hH' => ?_⟩
  · rw [e64] at hi
    rw [upd_other _ _ _ _ (by omega)]
    split
    · exact hf _ (by omega)
    · exact hf _ (by omega)
  · by_cases e : q' = q
    · subst e
      rw [up_same] at hH'
      cases hH'
    · have hHq : H q' = true := by rw [up_other _ _ _ _ e] at hH'; exact hH'
      have hl := cn_lt H q' 64 hq' hHq
      have hd := cn_del H q hH q'
      rw [up_other _ _ _ _ e, ← hv q' hq' hHq]
      by_cases l : q < q'
      · have hm := cn_lt H q q' l hH
        rw [if_pos l] at hd
        rw [upd_other _ _ _ _ (by omega), if_pos (by omega)]
        congr 1
        omega
      · have hm : cn H q' < C := by rw [← hC]; exact cn_lt H q' q (by omega) hHq
        rw [if_neg l] at hd
        rw [upd_other _ _ _ _ (by omega), if_neg (by omega)]
        congr 1

theorem hid_of2 {p : Prop} (h : p) : Hid p := h

set_option maxHeartbeats 2000000 in
set_option maxRecDepth 100000 in
theorem delete_some (BB LB q g : Nat) (H : Nat → Bool) (V : Nat → Int) (hq : q < 64) (hH : H q = true) (w : World) (hB : BB ≤ LB) (hL : LB < w.heap.size) (bm : BMg w BB LB H V g) (x : Int) :
    Calls Yba.prog 7 #[.pointer (some ⟨BB, 0, none⟩), .int .i64 q] w fun e w' => e = .returned (.tuple #[]) ∧ BMg w' BB LB (up H q false) (up V q x) g ∧ Fr w w' BB LB := by
  obtain ⟨cap, f, b1, b2, b3, b4, b5, b6, b7⟩ := bm
  have c0 : w.cell? ⟨BB, 0, none⟩ = some (.int .u64 (mask H 64)) := by rw [cell_of_row _ _ _ _ _ _ b1]; rfl
  have hlt := cn_lt H q 64 hq hH
  have hN := cn_le H 64
  obtain ⟨n, hn⟩ : ∃ n, cn H 64 = n + 1 := ⟨cn H 64 - 1, by omega⟩
  have RKA : Hid (∀ (wx : World) (k : Nat), wx.cell? ⟨BB, 0, none⟩ = w.cell? ⟨BB, 0, none⟩ → Calls Yba.prog 10 #[.pointer (some ⟨BB, 0, none⟩), .int .i64 q] (wx.drewN k) fun e w' => e = .returned (.int .i64 (cn H q)) ∧ ∃ m, w' = wx.drewN m) := fun wx k h => (rank_any BB q H hq (wx.drewN k) (h.trans c0)).mono (fun e w' ⟨h1, m, h2⟩ => ⟨h1, k + m, by rw [h2]; simp⟩)
  obtain ⟨T, R, X, Y, M, hM, e1, e2, e3, e4, h1, h2, h3, h4, h5, h6⟩ := bits_q H q hq
  have hY : ¬ (Y : Int) = 0 := by have := h4 hH; omega
  have k1 : (q : Int) < 64 := by omega
  rw [← hM] at c0 b1
  have H6 : Hid (bits .andNot .u64 (M : Int) (T : Int) = ((mask (up H q false) 64 : Nat) : Int)) := h6
  clear hM h1 h2 h3 h4 h5 h6 e2 e3
  rw [hn] at b1 b3 b6 hlt hN
  have HN : Hid (cn H 64 = n + 1) := hn
  have B7 : Hid (∀ q, q < 64 → H q = true → f (cn H q) = .int .i64 (V q)) := b7
  have B6 : Hid (∀ i, i < n + 1 → ∃ x : Int, f i = .int .i64 x) := b6
  clear hn b7 b6
  generalize hC : cn H q = C at *
  have HC : Hid (cn H q = C) := hC
  clear hC
  have n1 : (C : Int) ≤ (n : Int) := by omega
  have n2 : (n : Int) < 64 := by omega
  have n3 : (n : Int) + 1 ≤ (cap : Int) := by omega
  go_enter Yba.func7, Yba.ntmps7
  go_wp2_with fail
  go_quiet (fail)
  have fr2 : Fr w (w.drewN nq) BB LB := ⟨rfl, rfl, rfl, Nat.le_refl _, fun _ _ _ => rfl⟩
  have B2 : (w.drewN nq).heap[BB]? = some (.cells #[.int .u64 M, .slice (some ⟨g, 0, none⟩) (n + 1) cap] 56 (0, 0)) := b1
  have R2 : Rw (w.drewN nq) g 3 cap f := b5.same rfl
  have RK := fun k => RKA.out (w.drewN nq) k rfl
  clear RKA c0 b1 b5
  generalize w.drewN nq = w2 at *
  have x1 : w2.cell? ⟨BB, 1, none⟩ = some (.slice (some ⟨g, 0, none⟩) (n + 1) cap) := by rw [cell_of_row _ _ _ _ _ _ B2]; rfl
  go_wp2_with fail
  go_quiet ((go_at_call 10; exact RK _))
  have fr3 : Fr w (w2.drewN nq) BB LB := fr2.trans ⟨rfl, rfl, rfl, Nat.le_refl _, fun _ _ _ => rfl⟩
  have B3 : (w2.drewN nq).heap[BB]? = some (.cells #[.int .u64 M, .slice (some ⟨g, 0, none⟩) (n + 1) cap] 56 (0, 0)) := B2
  have R3 : Rw (w2.drewN nq) g 3 cap f := R2.same rfl
  clear RK B2 R2 fr2 x1
  generalize w2.drewN nq = w5 at *
  have x1 : w5.cell? ⟨BB, 1, none⟩ = some (.slice (some ⟨g, 0, none⟩) (n + 1) cap) := by rw [cell_of_row _ _ _ _ _ _ B3]; rfl
  have RD : Hid (Rw w5.drew g 3 cap f) := R3.same rfl
  have HO : Hid (∀ i, i < n - C → (f (C + 1 + i)).oneCell' = true) := fun i hi => by
    obtain ⟨x, hx⟩ := B6.out (C + 1 + i) (by omega)
    rw [hx]; rfl
  have K6 : Hid (∀ w6, w5.drew.grownBy w6 (some g) → w6.heap[BB]? = some (.cells #[.int .u64 M, .slice (some ⟨g, 0, none⟩) (n + 1) cap] 56 (0, 0)) ∧ Fr w w6 BB LB) := by
    intro w6 h6
    have hl : BB < w5.drew.heap.size := lt_of_block B3
    have hl2 : LB < w5.drew.heap.size := by have := R3.lt; show LB < w5.heap.size; omega
    exact ⟨(h6.block BB hl (fun e => by simp at e; omega)).trans B3, (fr3.trans ⟨rfl, rfl, rfl, Nat.le_refl _, fun _ _ _ => rfl⟩ : Fr w w5.drew BB LB).trans (Fr.grown h6 hl2 (.inr b2))⟩
  have HMN : Hid (n - C = Nat.min (n - C) (n + 1 - C)) := by show _ = _; simp only [Nat.min_def]; split <;> omega
  clear B3 R3 fr3
  have n7 : ¬ cap = 0 := by omega
  by_cases hcap : cap = C + 1
  · obtain rfl : n = C := by omega
    subst hcap
    have hc2 : ¬ n + 1 = n := by omega
    have n5 : (0 : Int) ≤ (n : Int) + 1 := by omega
    have n6 : IntKind.i64.wrap ((n : Int) + 1) = (n : Int) + 1 := by rw [IntKind.wrap_i64]; omega
    go_wp2_with fail
    go_region_held_law (fun w' => w'.cell? ⟨BB, 1, none⟩ = some (.slice (some ⟨g, 0, none⟩) (n + 1) (n + 1))) (first | go_keep | assumption) ((refine step_copy rfl (.tmp 29) (.tmp 36) rfl _ _ _ _ _ _ rfl rfl g n (n + 1) (n - n) (n + 1) f RD.out (by simp) (fun h => by omega) (by omega) (by omega) HO.out ?_; intro w6 hr6 hg6; obtain ⟨B6', fr6⟩ := K6.out w6 hg6; have x6 : w6.cell? ⟨BB, 1, none⟩ = some (.slice (some ⟨g, 0, none⟩) (n + 1) (n + 1)) := (by rw [cell_of_row _ _ _ _ _ _ B6']; rfl)))
    have y6 := hr6.cell (show n < (n + 1) by omega)
    have z6 := hr6.free n
    have z61 : w6.frozen? ⟨BB, 1, none⟩ = false := by simp [World.frozen?, B6']
    have R7 := hr6.set n (.int .i64 0)
    have hne : ¬ BB = g := by omega
    have B7' : ((w6.setCell ⟨g, n, none⟩ (.int .i64 0)).setCell ⟨BB, 1, none⟩ (.slice (some ⟨g, 0, none⟩) n (n + 1))).heap[BB]? = some (.cells #[.int .u64 M, .slice (some ⟨g, 0, none⟩) n (n + 1)] 56 (0, 0)) := set_blk ((Below.heap_setCell _ _ _ _ (by show BB ≠ g; omega)).trans B6') 1 _
    have fr7 : Fr w ((w6.setCell ⟨g, n, none⟩ (.int .i64 0)).setCell ⟨BB, 1, none⟩ (.slice (some ⟨g, 0, none⟩) n (n + 1))) BB LB := (fr6.trans (Fr.set (j := n) _ (.inr b2) _)).trans (Fr.set (j := 1) _ (.inl rfl) _)
    have R7' := R7.other (b' := BB) (j := 1) (by omega) (.slice (some ⟨g, 0, none⟩) n (n + 1))
    clear hr6 hg6 B6' fr6
    go_wp2_with fail
    have R8 := hid_of2 R7'
    clear R7 R7' y6 z6 x6 z61
    generalize (w6.setCell ⟨g, n, none⟩ (.int .i64 0)).setCell ⟨BB, 1, none⟩ (.slice (some ⟨g, 0, none⟩) n (n + 1)) = w7 at *
    have x0 : w7.cell? ⟨BB, 0, none⟩ = some (.int .u64 M) := by rw [cell_of_row _ _ _ _ _ _ B7']; rfl
    have f0 : w7.frozen? ⟨BB, 0, none⟩ = false := by simp [World.frozen?, B7']
    have H6' := H6.out
    generalize hM1 : mask (up H q false) 64 = M1 at *
    clear hc2
    go_region
    go_wp2
    go_end0
    refine ⟨rfl, del_done hq hH HC.out HN.out b2 b3 b4 B6.out B7.out (by rw [hM1]; exact set_blk B7' 0 _) (R8.out.other (by omega) _) x, (fr7.trans (Fr.set (j := 0) _ (.inl rfl) _)).trans ⟨rfl, rfl, rfl, Nat.le_refl _, fun _ _ _ => rfl⟩⟩
  · have hc1 : ¬ (cap : Int) = (C : Int) + 1 := by omega
    have hc2 : ¬ cap = C := by omega
    have n5 : (0 : Int) ≤ (C : Int) + 1 := by omega
    have n6 : IntKind.i64.wrap ((C : Int) + 1) = (C : Int) + 1 := by rw [IntKind.wrap_i64]; omega
    go_wp2_with fail
    go_region_held_law (fun w' => w'.cell? ⟨BB, 1, none⟩ = some (.slice (some ⟨g, 0, none⟩) (n + 1) cap)) (first | go_keep | assumption) ((refine step_copy rfl (.tmp 29) (.tmp 36) rfl _ _ _ _ _ _ rfl rfl g C (C + 1) (n - C) cap f RD.out HMN.out (fun _ => ⟨rfl, rfl⟩) (by omega) (by omega) HO.out ?_; intro w6 hr6 hg6; obtain ⟨B6', fr6⟩ := K6.out w6 hg6; have x6 : w6.cell? ⟨BB, 1, none⟩ = some (.slice (some ⟨g, 0, none⟩) (n + 1) cap) := (by rw [cell_of_row _ _ _ _ _ _ B6']; rfl)))
    have y6 := hr6.cell (show n < cap by omega)
    have z6 := hr6.free n
    have z61 : w6.frozen? ⟨BB, 1, none⟩ = false := by simp [World.frozen?, B6']
    have R7 := hr6.set n (.int .i64 0)
    have hne : ¬ BB = g := by omega
    have B7' : ((w6.setCell ⟨g, n, none⟩ (.int .i64 0)).setCell ⟨BB, 1, none⟩ (.slice (some ⟨g, 0, none⟩) n cap)).heap[BB]? = some (.cells #[.int .u64 M, .slice (some ⟨g, 0, none⟩) n cap] 56 (0, 0)) := set_blk ((Below.heap_setCell _ _ _ _ (by show BB ≠ g; omega)).trans B6') 1 _
    have fr7 : Fr w ((w6.setCell ⟨g, n, none⟩ (.int .i64 0)).setCell ⟨BB, 1, none⟩ (.slice (some ⟨g, 0, none⟩) n cap)) BB LB := (fr6.trans (Fr.set (j := n) _ (.inr b2) _)).trans (Fr.set (j := 1) _ (.inl rfl) _)
    have R7' := R7.other (b' := BB) (j := 1) (by omega) (.slice (some ⟨g, 0, none⟩) n cap)
    clear hr6 hg6 B6' fr6
    go_wp2_with fail
    have R8 := hid_of2 R7'
    clear R7 R7' y6 z6 x6 z61
    generalize (w6.setCell ⟨g, n, none⟩ (.int .i64 0)).setCell ⟨BB, 1, none⟩ (.slice (some ⟨g, 0, none⟩) n cap) = w7 at *
    have x0 : w7.cell? ⟨BB, 0, none⟩ = some (.int .u64 M) := by rw [cell_of_row _ _ _ _ _ _ B7']; rfl
    have f0 : w7.frozen? ⟨BB, 0, none⟩ = false := by simp [World.frozen?, B7']
    have H6' := H6.out
    generalize hM1 : mask (up H q false) 64 = M1 at *
    clear hcap hc1 hc2
    go_region
    go_wp2
    go_end0
    refine ⟨rfl, del_done hq hH HC.out HN.out b2 b3 b4 B6.out B7.out (by rw [hM1]; exact set_blk B7' 0 _) (R8.out.other (by omega) _) x, (fr7.trans (Fr.set (j := 0) _ (.inl rfl) _)).trans ⟨rfl, rfl, rfl, Nat.le_refl _, fun _ _ _ => rfl⟩⟩
end Go.Proofs.Ybulkarya.script
