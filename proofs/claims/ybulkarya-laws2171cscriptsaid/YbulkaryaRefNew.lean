/-
  (*ByMode[int]).Ref of a mode that has no value yet.
-/
import Derived.Test.YbulkaryaRef
namespace Go.Proofs.Ybulkarya.script
set_option linter.unusedVariables false
set_option linter.unusedSimpArgs false
open Go.RowKit Go.Proofs.Ybulkarya.forget

theorem hid_of1 {p : Prop} (h : p) : Hid p := h
theorem Vals.shape {w : World} {LB n : Nat} {v : Value} {F : Nat → Int} (h : Vals w LB v n F) : ∃ sp cap, v = .slice sp n cap ∧ ∀ b, v.ownBlock = some b → LB < b := by
  rcases h with ⟨rfl, rfl⟩ | ⟨g, cap, f, rfl, h1, _⟩
  · exact ⟨none, 0, rfl, fun b h => by simp [Value.ownBlock] at h⟩
  · exact ⟨_, cap, rfl, fun b h => by simp [Value.ownBlock] at h; omega⟩
theorem Vals.same {w w' : World} {LB n : Nat} {v : Value} {F : Nat → Int} (h : Vals w LB v n F) (e : ∀ b, b < w.heap.size → w'.heap[b]? = w.heap[b]?) : Vals w' LB v n F := by
  rcases h with h | ⟨g, cap, f, h0, h1, h2, h3, h4, h5⟩
  · exact .inl h
  · exact .inr ⟨g, cap, f, h0, h1, h2, h3, h4.same (e g h4.lt), h5⟩

/-- The row behind the insertion at place C. -/
theorem ins_done {w8 : World} {BB LB q g cap n C : Nat} {H : Nat → Bool} {V F : Nat → Int} {f : Nat → Value} (hq : q < 64) (hH : H q = false) (hC : cn H q = C) (hn : cn H 64 = n) (b3 : ∀ q, q < 64 → H q = true → F (cn H q) = V q) (g1 : LB < g) (g2 : n + 1 ≤ cap) (g3 : cap ≤ maxLen) (hf2 : ∀ i, i < n + 1 → f i = .int .i64 (up F n 0 i))
    (hb : w8.heap[BB]? = some (.cells #[.int .u64 (mask (up H q true) 64), .slice (some ⟨g, 0, none⟩) (n + 1) cap] 56 (0, 0))) (hr : Rw w8 g 3 cap (upd (fun i => if C + 1 ≤ i ∧ i < C + 1 + (n - C) then f (C + (i - (C + 1))) else f i) C (.int .i64 0))) : BMg w8 BB LB (up H q true) (up V q 0) g := by
  have hCn : C ≤ n := by rw [← hC, ← hn]; exact cn_mono H q 64 (by omega)
  have e64 : cn (up H q true) 64 = n + 1 := by rw [cn_add H q hH 64, if_pos hq, hn]
  refine ⟨cap, _, by rw [e64]; exact hb, g1, by rw [e64]; exact g2, g3, hr, fun i hi => ?_, fun q' hq' hH' => ?_⟩
  · rw [e64] at hi
    by_cases e : i = C
    · subst e; rw [upd_same]; exact ⟨0, rfl⟩
    · rw [upd_other _ _ _ _ e]
      split
      · exact ⟨_, hf2 _ (by omega)⟩
      · exact ⟨_, hf2 _ (by omega)⟩
  · by_cases e : q' = q
    · subst e
      rw [cn_add H q' hH q', if_neg (by omega), hC, up_same]
      show upd _ (C + 0) _ (C + 0) = _
      rw [Nat.add_zero, upd_same]
    · have hHq : H q' = true := by rw [up_other _ _ _ _ e] at hH'; exact hH'
      have hl := cn_lt H q' 64 hq' hHq
      rw [cn_add H q hH q', up_other _ _ _ _ e, ← b3 q' hq' hHq]
      by_cases l : q < q'
      · have hm : C ≤ cn H q' := by rw [← hC]; exact cn_mono H q q' (by omega)
        rw [if_pos l, upd_other _ _ _ _ (by omega), if_pos (by omega), hf2 _ (by omega), up_other _ _ _ _ (by omega)]
        congr 2
        omega
      · have hm : cn H q' < C := by rw [← hC]; exact cn_lt H q' q (by omega) hHq
        rw [if_neg l, upd_other _ _ _ _ (by omega), if_neg (by omega), hf2 _ (by omega), up_other _ _ _ _ (by omega)]
        exact rfl

set_option maxHeartbeats 2000000 in
set_option maxRecDepth 100000 in
theorem ref_none (BB LB q : Nat) (H : Nat → Bool) (V : Nat → Int) (hq : q < 64) (hH : H q = false) (w : World) (hB : BB ≤ LB) (hL : LB < w.heap.size) (bm : BM w BB LB H V) (b0 : Nat) (hb0 : b0 < w.heap.size) (hbB : b0 ≠ BB) (hbo : ∀ v, w.cell? ⟨BB, 1, none⟩ = some v → v.ownBlock ≠ some b0) :
    Calls Yba.prog 8 #[.pointer (some ⟨BB, 0, none⟩), .int .i64 q] w fun e w' => ∃ g, e = .returned (.pointer (some ⟨g, cn H q, none⟩)) ∧ BMg w' BB LB (up H q true) (up V q 0) g ∧ Fr w w' BB LB ∧ w'.heap[b0]? = w.heap[b0]? := by
  obtain ⟨v, F, b1, b2, b3⟩ := bm
  have hbo' := hbo v (by rw [cell_of_row _ _ _ _ _ _ b1]; rfl)
  clear hbo
  obtain ⟨sp, cap0, rfl, hob⟩ := b2.shape
  obtain ⟨i3, hi3, hz3, hs3, hb3⟩ := info_parts info3
  have c0 : w.cell? ⟨BB, 0, none⟩ = some (.int .u64 (mask H 64)) := by rw [cell_of_row _ _ _ _ _ _ b1]; rfl
  have hN := cn_room H q 64 hq hH
  have hiN := cn_mono H q 64 (by omega)
  have RK := rank_any BB q H hq w c0
  obtain ⟨T, R, X, Y, M, hM, e1, e2, e3, e4, h1, h2, h3, h4, h5, h6⟩ := bits_q H q hq
  rw [h3 hH] at e4
  have k1 : (q : Int) < 64 := by omega
  have HM : Hid (M = mask H 64) := hM
  rw [← hM] at c0
  clear hM h1 h2 h3 h4 h6 e2 e3
  have H5 : Hid (bits .or .u64 (M : Int) (T : Int) = ((mask (up H q true) 64 : Nat) : Int)) := h5
  clear h5
  generalize hC : cn H q = C at *
  generalize hn : cn H 64 = n at *
  have HC : Hid (cn H q = C) := hC
  have HNN : Hid (cn H 64 = n) := hn
  clear hC hn
  go_enter Yba.func8, Yba.ntmps8
  go_wp2_with fail
  refine RK.mono ?_
  rintro e w' ⟨rfl, m1, rfl⟩
  have d0 : (w.drewN m1).cell? ⟨BB, 0, none⟩ = some (.int .u64 M) := c0
  have Hh1 : (w.drewN m1).heap = w.heap := rfl
  have fr1 : Fr w (w.drewN m1) BB LB := ⟨rfl, rfl, rfl, Nat.le_refl _, fun _ _ _ => rfl⟩
  clear RK c0
  generalize w.drewN m1 = w1 at *
  have Hh2 : Hid (w1.heap = w.heap) := Hh1
  clear Hh1
  go_wp2_with fail
  go_quiet (fail)
  have Hh : ∀ b : Nat, (w1.drewN nq).heap[b]? = w.heap[b]? := fun b => by show w1.heap[b]? = _; rw [Hh2.out]
  have Hs : (w1.drewN nq).heap.size = w.heap.size := by show w1.heap.size = _; rw [Hh2.out]
  have fr2 : Fr w (w1.drewN nq) BB LB := fr1.trans ⟨rfl, rfl, rfl, Nat.le_refl _, fun _ _ _ => rfl⟩
  clear d0 Hh2 fr1
  generalize w1.drewN nq = w2 at *
  have B1 : w2.heap[BB]? = some (.cells #[.int .u64 M, .slice sp n cap0] 56 (0, 0)) := by rw [Hh, b1, HM.out]
  have va : Vals w2 LB (.slice sp n cap0) n F := b2.same (fun b _ => Hh b)
  have d1 : w2.cell? ⟨BB, 1, none⟩ = some (.slice sp n cap0) := by rw [cell_of_row _ _ _ _ _ _ B1]; rfl
  have va3 : Vals (w2.alloc (.cells #[.int .i64 0] 3)) LB (.slice sp n cap0) n F := va.same (fun b hb => Below.heap_alloc _ _ _ hb)
  have own3 := va3.own
  have fr3 : Fr w (w2.alloc (.cells #[.int .i64 0] 3)) BB LB := fr2.trans (Fr.alloc _ (by omega) _)
  have hs3' : LB + 1 ≤ (w2.alloc (.cells #[.int .i64 0] 3)).heap.size := by have := fr3.size; omega
  have B3 : (w2.alloc (.cells #[.int .i64 0] 3)).heap[BB]? = some (.cells #[.int .u64 M, .slice sp n cap0] 56 (0, 0)) := (Below.heap_alloc _ _ _ (by omega)).trans B1
  have hnews : ∀ j u, [Value.int .i64 0][j]? = some u → (w2.alloc (.cells #[.int .i64 0] 3)).cell? ((⟨w2.heap.size, 0, none⟩ : Addr).add j) = some u := by
    intro j u hu
    rw [Addr.add_lit, cell_of_row _ w2.heap.size _ #[.int .i64 0] 3 (0, 0) (by show (w2.heap.push _)[w2.heap.size]? = _; rw [Array.getElem?_push_size])]
    simpa using hu
  have hone1 : ∀ u ∈ [Value.int .i64 0], u.oneCell' = true := by intro u hu; simp at hu; subst hu; rfl
  have hzs : (Value.int .i64 0).cells.size = 1 := rfl
  have hA1 : n + 1 ≤ maxLen := by unfold maxLen; omega
  have hA2 : (n + 1) * 8 ≤ 140737488355328 := by omega
  have HSZ : Hid (w2.heap.size = w.heap.size) := Hs
  have KB3 : Hid ((w2.alloc (.cells #[.int .i64 0] 3)).heap[b0]? = w.heap[b0]?) := (Below.heap_alloc _ _ _ (by omega)).trans (Hh b0)
  have KS3 : Hid (b0 < (w2.alloc (.cells #[.int .i64 0] 3)).heap.size) := by have := fr3.size; show b0 < _; omega
  have HBO : Hid ((Value.slice sp n cap0).ownBlock ≠ some b0) := hbo'
  clear va va3 b1 b2 Hh Hs
  go_wp2_with (at_builtin; refine wpList_append_lies _ rfl _ _ 26 rfl (LB + 1) 3 i3 (.int .i64 0) 1 8 Yba.underlying26 hi3 hz3 hs3 hb3 hzs (by omega) _ n _ rfl own3 ⟨w2.heap.size, 0, none⟩ 1 1 [.int .i64 0] rfl rfl hnews hone1 (by omega) hA1 hA2 hs3' _ rfl ?_; intro g cap w4 own4 hg4 hor hlt4; have fr4 : Fr w w4 BB LB := fr3.trans ⟨hg4.os, hg4.tape, hg4.output, hg4.size, fun b h1 h2 => hg4.block b (by have := hs3'; omega) (fun e => by have := hob b e.symm; omega)⟩; have B4 : w4.heap[BB]? = some (.cells #[.int .u64 M, .slice sp n cap0] 56 (0, 0)) := (hg4.block BB (by have := hs3'; omega) (fun e => by have := hob BB e.symm; omega)).trans B3; have x1 : w4.cell? ⟨BB, 1, none⟩ = some (.slice sp n cap0) := (by rw [cell_of_row _ _ _ _ _ _ B4]; rfl); have y1 : w4.frozen? ⟨BB, 1, none⟩ = false := (by simp [World.frozen?, B4]); have KB4 : Hid (w4.heap[b0]? = w.heap[b0]?) := (hg4.block b0 KS3.out (fun e => HBO.out e.symm)).trans KB3.out; have KG : Hid (b0 ≠ g) := (fun e => by subst e; rcases hor with h | h; exact HBO.out h; have := KS3.out; omega); clear own3 hnews B3 fr3 d1 hg4 hor hbo')
  obtain ⟨g1, g2, g3, f, hf1, hf2⟩ := grown_row own4
  have B5 : (w4.setCell ⟨BB, 1, none⟩ (.slice (some ⟨g, 0, none⟩) (n + 1) cap)).heap[BB]? = some (.cells #[.int .u64 M, .slice (some ⟨g, 0, none⟩) (n + 1) cap] 56 (0, 0)) := set_blk B4 1 _
  have R5 : Rw (w4.setCell ⟨BB, 1, none⟩ (.slice (some ⟨g, 0, none⟩) (n + 1) cap)) g 3 cap f := hf1.other (by omega) _
  have fr5 : Fr w (w4.setCell ⟨BB, 1, none⟩ (.slice (some ⟨g, 0, none⟩) (n + 1) cap)) BB LB := fr4.trans (Fr.set _ (.inl rfl) _)
  have KB5 : Hid ((w4.setCell ⟨BB, 1, none⟩ (.slice (some ⟨g, 0, none⟩) (n + 1) cap)).heap[b0]? = w.heap[b0]?) := (Below.heap_setCell _ _ _ _ hbB).trans KB4.out
  clear own4 hf1 fr4 B4 x1 y1 hlt4 B1 hs3' fr2 hob hone1 hzs hA1 hA2
  generalize w4.setCell ⟨BB, 1, none⟩ (.slice (some ⟨g, 0, none⟩) (n + 1) cap) = w5 at *
  have x1 : w5.cell? ⟨BB, 1, none⟩ = some (.slice (some ⟨g, 0, none⟩) (n + 1) cap) := by rw [cell_of_row _ _ _ _ _ _ B5]; rfl
  have RD : Hid (Rw w5.drew g 3 cap f) := R5.same rfl
  have HO : Hid (∀ i, i < n - C → (f (C + i)).oneCell' = true) := fun i hi => by rw [hf2 _ (by omega)]; rfl
  have HF2 : Hid (∀ i, i < n + 1 → f i = .int .i64 (up F n 0 i)) := hf2
  clear hf2
  have K6 : Hid (∀ w6, w5.drew.grownBy w6 (some g) → w6.heap[BB]? = some (.cells #[.int .u64 M, .slice (some ⟨g, 0, none⟩) (n + 1) cap] 56 (0, 0)) ∧ Fr w w6 BB LB ∧ w6.heap[b0]? = w.heap[b0]?) := by
    intro w6 h6
    have hl : BB < w5.drew.heap.size := lt_of_block B5
    have hl2 : LB < w5.drew.heap.size := by have := R5.lt; show LB < w5.heap.size; omega
    have hl3 : b0 < w5.drew.heap.size := by have := fr5.size; show b0 < w5.heap.size; omega
    exact ⟨(h6.block BB hl (fun e => by simp at e; omega)).trans B5, (fr5.trans ⟨rfl, rfl, rfl, Nat.le_refl _, fun _ _ _ => rfl⟩ : Fr w w5.drew BB LB).trans (Fr.grown h6 hl2 (.inr g1)), (h6.block b0 hl3 (fun e => KG.out (by simpa using e))).trans KB5.out⟩
  have n1 : (C : Int) ≤ (n : Int) := by omega
  have n2 : (n : Int) < 64 := by omega
  have n3 : (n : Int) + 1 ≤ (cap : Int) := by omega
  have HMN : Hid (n - C = Nat.min (n + 1 - C) (n - C)) := by show _ = _; simp only [Nat.min_def]; split <;> omega
  clear B5 R5 fr5
  by_cases hcap : cap = C + 1
  · obtain rfl : n = C := by omega
    subst hcap
    have hc2 : ¬ n + 1 = n := by omega
    have n5 : (0 : Int) ≤ (n : Int) + 1 := by omega
    have n6 : IntKind.i64.wrap ((n : Int) + 1) = (n : Int) + 1 := by rw [IntKind.wrap_i64]; omega
    go_region_held_law (fun w' => w'.cell? ⟨BB, 1, none⟩ = some (.slice (some ⟨g, 0, none⟩) (n + 1) (n + 1))) (first | go_keep | assumption) ((refine step_copy rfl (.tmp 34) (.tmp 40) rfl _ _ _ _ _ _ rfl rfl g (n + 1) n (n - n) (n + 1) f RD.out (by simp) (fun h => by omega) (by omega) (by omega) HO.out ?_; intro w6 hr6 hg6; obtain ⟨B6, fr6, kb6⟩ := K6.out w6 hg6; have KB6 := hid_of1 kb6; clear kb6; have x6 : w6.cell? ⟨BB, 1, none⟩ = some (.slice (some ⟨g, 0, none⟩) (n + 1) (n + 1)) := (by rw [cell_of_row _ _ _ _ _ _ B6]; rfl)))
    have y6 := hr6.cell (show n < (n + 1) by omega)
    have z6 := hr6.free n
    have R7 := hr6.set n (.int .i64 0)
    have B7 : (w6.setCell ⟨g, n, none⟩ (.int .i64 0)).heap[BB]? = some (.cells #[.int .u64 M, .slice (some ⟨g, 0, none⟩) (n + 1) (n + 1)] 56 (0, 0)) := (Below.heap_setCell _ _ _ _ (by show BB ≠ g; omega)).trans B6
    have fr7 : Fr w (w6.setCell ⟨g, n, none⟩ (.int .i64 0)) BB LB := fr6.trans (Fr.set _ (.inr g1) _)
    have KB7 : Hid ((w6.setCell ⟨g, n, none⟩ (.int .i64 0)).heap[b0]? = w.heap[b0]?) := (Below.heap_setCell _ _ _ _ KG.out).trans KB6.out
    clear hr6 hg6 B6 fr6
    go_wp2_with fail
    have R7' : Hid (Rw (w6.setCell ⟨g, n, none⟩ (.int .i64 0)) g 3 (n + 1) _) := R7
    clear R7 y6 z6 x6
    generalize w6.setCell ⟨g, n, none⟩ (.int .i64 0) = w7 at *
    have x0 : w7.cell? ⟨BB, 0, none⟩ = some (.int .u64 M) := by rw [cell_of_row _ _ _ _ _ _ B7]; rfl
    have x1 : w7.cell? ⟨BB, 1, none⟩ = some (.slice (some ⟨g, 0, none⟩) (n + 1) (n + 1)) := by rw [cell_of_row _ _ _ _ _ _ B7]; rfl
    have f0 : w7.frozen? ⟨BB, 0, none⟩ = false := by simp [World.frozen?, B7]
    have H5' := H5.out
    generalize hM1 : mask (up H q true) 64 = M1 at *
    clear hc2
    go_region
    go_wp2
    go_ret
    refine ⟨g, rfl, ins_done hq hH HC.out HNN.out b3 g1 g2 g3 HF2.out (by rw [hM1]; exact set_blk B7 0 _) (R7'.out.other (by omega) _), (fr7.trans (Fr.set (j := 0) _ (.inl rfl) _)).trans ⟨rfl, rfl, rfl, Nat.le_refl _, fun _ _ _ => rfl⟩, (Below.heap_setCell w7 ⟨BB, 0, none⟩ _ _ hbB).trans KB7.out⟩
  · have hc1 : ¬ (cap : Int) = (C : Int) + 1 := by omega
    have hc2 : ¬ cap = C := by omega
    have n5 : (0 : Int) ≤ (C : Int) + 1 := by omega
    have n6 : IntKind.i64.wrap ((C : Int) + 1) = (C : Int) + 1 := by rw [IntKind.wrap_i64]; omega
    go_region_held_law (fun w' => w'.cell? ⟨BB, 1, none⟩ = some (.slice (some ⟨g, 0, none⟩) (n + 1) cap)) (first | go_keep | assumption) ((refine step_copy rfl (.tmp 34) (.tmp 40) rfl _ _ _ _ _ _ rfl rfl g (C + 1) C (n - C) cap f RD.out HMN.out (fun _ => ⟨rfl, rfl⟩) (by omega) (by omega) HO.out ?_; intro w6 hr6 hg6; obtain ⟨B6, fr6, kb6⟩ := K6.out w6 hg6; have KB6 := hid_of1 kb6; clear kb6; have x6 : w6.cell? ⟨BB, 1, none⟩ = some (.slice (some ⟨g, 0, none⟩) (n + 1) cap) := (by rw [cell_of_row _ _ _ _ _ _ B6]; rfl)))
    have y6 := hr6.cell (show C < cap by omega)
    have z6 := hr6.free C
    have R7 := hr6.set C (.int .i64 0)
    have B7 : (w6.setCell ⟨g, C, none⟩ (.int .i64 0)).heap[BB]? = some (.cells #[.int .u64 M, .slice (some ⟨g, 0, none⟩) (n + 1) cap] 56 (0, 0)) := (Below.heap_setCell _ _ _ _ (by show BB ≠ g; omega)).trans B6
    have fr7 : Fr w (w6.setCell ⟨g, C, none⟩ (.int .i64 0)) BB LB := fr6.trans (Fr.set _ (.inr g1) _)
    have KB7 : Hid ((w6.setCell ⟨g, C, none⟩ (.int .i64 0)).heap[b0]? = w.heap[b0]?) := (Below.heap_setCell _ _ _ _ KG.out).trans KB6.out
    clear hr6 hg6 B6 fr6
    go_wp2_with fail
    have R7' : Hid (Rw (w6.setCell ⟨g, C, none⟩ (.int .i64 0)) g 3 cap _) := R7
    clear R7 y6 z6 x6
    generalize w6.setCell ⟨g, C, none⟩ (.int .i64 0) = w7 at *
    have x0 : w7.cell? ⟨BB, 0, none⟩ = some (.int .u64 M) := by rw [cell_of_row _ _ _ _ _ _ B7]; rfl
    have x1 : w7.cell? ⟨BB, 1, none⟩ = some (.slice (some ⟨g, 0, none⟩) (n + 1) cap) := by rw [cell_of_row _ _ _ _ _ _ B7]; rfl
    have f0 : w7.frozen? ⟨BB, 0, none⟩ = false := by simp [World.frozen?, B7]
    have H5' := H5.out
    generalize hM1 : mask (up H q true) 64 = M1 at *
    clear hcap hc1 hc2
    go_region
    go_wp2
    go_ret
    refine ⟨g, rfl, ins_done hq hH HC.out HNN.out b3 g1 g2 g3 HF2.out (by rw [hM1]; exact set_blk B7 0 _) (R7'.out.other (by omega) _), (fr7.trans (Fr.set (j := 0) _ (.inl rfl) _)).trans ⟨rfl, rfl, rfl, Nat.le_refl _, fun _ _ _ => rfl⟩, (Below.heap_setCell w7 ⟨BB, 0, none⟩ _ _ hbB).trans KB7.out⟩
end Go.Proofs.Ybulkarya.script
