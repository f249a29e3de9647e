/-
  The walk of 'LawS2171AForget'.
-/
import Derived.Test.YbulkaryaAfter
namespace Go.Proofs.Ybulkarya.forget
set_option linter.unusedVariables false
set_option linter.unusedSimpArgs false
open Go.RowKit

theorem hid_of {p : Prop} (h : p) : Hid p := h

set_option maxHeartbeats 40000000 in
set_option maxRecDepth 100000 in
theorem law_walk (n capA Ab Ao : Nat) (G : Nat → Bool) (at' : Nat) (b : Bool) (w : World) (hn : n ≤ 1024) (hpos : 0 < n) (hAb : Ab < w.heap.size) (hAc : ∀ i, i < n → w.cell? ⟨Ab, Ao + i, none⟩ = some (.bool (G i))) (hat : at' < 18446744073709551616) :
    Calls Yba.prog 3 #[.slice (some ⟨Ab, Ao, none⟩) n capA, .int .u64 at', .bool b] w fun e w' => e = .returned (.bool true) ∧ Below w.heap.size w w' := by
  obtain ⟨i27, hi27, hz27, hs27, hb27⟩ := info_parts info27'
  obtain ⟨i41, hi41, hz41, hs41, hb41⟩ := info_parts info41
  obtain ⟨i3, hi3, hz3, hs3, hb3⟩ := info_parts info3
  obtain ⟨i35, hi35, hz35, hs35, hb35⟩ := info_parts info35
  have n1 : ¬ (1024 : Int) < (n : Int) := by omega
  have d1 : decide ((1024 : Int) < (n : Int)) = false := decide_eq_false n1
  have n2 : ¬ (n : Int) = 0 := by omega
  have n3 : ¬ n = 0 := by omega
  have d2 : decide ((n : Int) = 0) = false := decide_eq_false n2
  go_enter Yba.func3, Yba.ntmps3
  go_wp2_with (at_make; first
    | (refine wpList_make_full _ rfl (.tmp 42) (.tmp 42) 24 rfl 0 27 i27 (.pointer none) 1 Yba.underlying24 hi27 hz27 hs27 .i64 .i64 _ _ n rfl rfl (by omega) (by omega) (by rw [hb27]; omega) (by unfold maxLen; omega) (Nat.zero_le _) ?_; intro wa howna hga)
    | (refine wpList_make_full _ rfl (.tmp 44) (.tmp 44) 25 rfl 0 41 i41 (.agg #[.pointer none, .int .i32 0]) 2 Yba.underlying25 hi41 hz41 hs41 .i64 .i64 _ _ n rfl rfl (by omega) (by omega) (by rw [hb41]; omega) (by unfold maxLen; omega) (Nat.zero_le _) ?_; intro wb hownb hgb)
    | (refine wpList_make_own _ rfl _ (.tmp 46) 26 rfl 0 3 i3 (.int .i64 0) 1 Yba.underlying26 hi3 hz3 hs3 .i64 .i64 _ n rfl rfl (by omega) (by rw [hb3]; omega) (by unfold maxLen; omega) (Nat.zero_le _) ?_; intro wc hownc hgc))
  have BD0 : ∃ f, Rw wa w.heap.size 27 n f := by
    obtain ⟨cur, h1, h2, h3⟩ := row_made howna
    exact ⟨_, cur, h1, by omega, fun i hi => h3 i (by omega)⟩
  have BH0 : Rw wb wa.heap.size 41 (2 * n) (plc (fun _ => 0) (fun s => if s < 0 then P0 G s else none)) := by
    obtain ⟨cur, h1, h2, h3⟩ := row_made hownb
    refine ⟨cur, h1, by omega, fun i hi => (h3 i (by omega)).trans ?_⟩
    unfold plc noPlace
    simp [Value.cells]
    rcases Nat.mod_two_eq_zero_or_one i with e | e <;> simp [e]
  obtain ⟨fl, BL0⟩ := row_room hownc
  obtain ⟨fr, BR0⟩ := BD0
  have o2 : w.heap.size < wa.heap.size := BR0.lt
  have o3 : wa.heap.size < wb.heap.size := BH0.lt
  have o4 : wb.heap.size < wc.heap.size := BL0.lt
  have BD : Bd w wc n G (fun _ => 0) (fun _ => 0) w.heap.size wa.heap.size wb.heap.size 0 := by
    refine ⟨⟨fr, (BR0.grown hgb (by simp)).grown hgc (by simp), fun i hi => by omega⟩, BH0.grown hgc (by simp), ⟨fl, BL0, fun i hi => by omega⟩, fun i hi => by omega, fun i hi => by omega, fun i i' _ h => by omega, (((Below.refl _ w).grown hga (Nat.le_refl _) (fun j hj => by cases hj)).grown hgb (by omega) (fun j hj => by cases hj)).grown hgc (by omega) (fun j hj => by cases hj)⟩
  clear BL0 BR0 BH0 howna hownb hownc hga hgb hgc
  have oB : wb.heap.size < wc.heap.size := o4
  clear o4
  generalize hRB : w.heap.size = RB at *
  generalize wa.heap.size = HB at *
  generalize wb.heap.size = LB at *
  go_loopw [10, 11, 12] (fun v10 v11 v wr => ∃ (j : Nat) (pr ph : Nat → Nat), j ≤ n ∧ v = .int .i64 j ∧ v11 = .int .i64 ((j : Int) - (kc G j : Int)) ∧ v10 = .slice (some ⟨LB, 0, none⟩) (kc G j) n ∧ Bd w wr n G pr ph RB HB LB j ∧ LB < wr.heap.size) (fun _ _ v _ => n - (intOf v).toNat)
  case atStart => exact ⟨0, _, _, by omega, rfl, rfl, rfl, BD, oB⟩
  case round =>
    obtain ⟨j, pr, ph, hj, rfl, rfl, rfl, bd, hsz⟩ := hrel
    clear BD oB
    have hkc := kc_le G j
    by_cases hlt : j < n
    · have k2 : (j : Int) < (n : Int) := by omega
      have cA : wr.cell? ⟨Ab, Ao + j, none⟩ = some (.bool (G j)) := (bd.bel.cell (p := ⟨Ab, Ao + j, none⟩) (by show Ab < w.heap.size; omega)).trans (hAc j hlt)
      cases hG : G j with
      | true =>
        rw [hG] at cA
        have e : kc G (j + 1) = kc G j := by simp [kc, hG]
        have bd2 := bd.gap hG
        clear hG bd
        generalize hkj : kc G j = kj at *
        have b1 : (kj : Int) ≤ (j : Int) := by omega
        have b2 : (j : Int) ≤ 1024 := by omega
        go_wp2
        go_roundw
        case rel => exact ⟨j + 1, pr, ph, by omega, by simp, by rw [e]; congr 1; omega, by rw [e], bd2, hsz⟩
        case measure => simp [intOf]; omega
      | false =>
        rw [hG] at cA
        have ek : kc G (j + 1) = kc G j + 1 := by simp [kc, hG]
        have hkn : kc G j < n := by omega
        have HG : Hid (G j = false) := hG
        clear hG
        have b2 : (j : Int) ≤ 1024 := by omega
        have e1 : (j : Int).tmod 3 = ((j % 3 : Nat) : Int) := by rw [Int.tmod_eq_emod_of_nonneg (by omega)]; omega
        have e3 : (j : Int) % 3 = ((j % 3 : Nat) : Int) := by omega
        have k3 : ((j % 3 : Nat) : Int) < 3 := by omega
        have hlr : j % 3 < 3 := by omega
        have hai : ai j < 1 + j % 3 := ai_lt j
        have ba : (ai j : Int) < 1 + ((j % 3 : Nat) : Int) := by omega
        have FA : Hid (∀ (w2 : World) (cs hs : Array Value), w2.heap[wr.heap.size]? = some (.cells cs 38 (0, 0)) → cs.size = 9 → w2.heap[wr.heap.size + 1]? = some (.cells hs 35 (0, 0)) → hs.size = (1 + j % 3) * 5 → Below wr.heap.size wr w2 →
            (∃ v, w2.cell? ⟨wr.heap.size, 1, none⟩ = some v) ∧ w2.frozen? ⟨wr.heap.size, 1, none⟩ = false ∧ (∃ v, w2.cell? ⟨wr.heap.size + 1, ai j * 5 + 3, none⟩ = some v) ∧ w2.frozen? ⟨wr.heap.size + 1, ai j * 5 + 3, none⟩ = false ∧ (∃ v, w2.cell? ⟨RB, j, none⟩ = some v) ∧ w2.frozen? ⟨RB, j, none⟩ = false ∧
            (∃ v, w2.cell? ⟨HB, j * 2, none⟩ = some v) ∧ w2.frozen? ⟨HB, j * 2, none⟩ = false ∧ (∃ v, w2.cell? ⟨HB, j * 2 + 1, none⟩ = some v) ∧ w2.frozen? ⟨HB, j * 2 + 1, none⟩ = false) := fun w2 cs hs h1 h2 h3 h4 h5 => bd.facts hlt o2 o3 hsz rfl h1 h2 h3 h4 h5
        have ST : Hid (∀ (w2 : World) (cs hs : Array Value) (o : Obj), w2.heap[wr.heap.size]? = some (.cells cs 38 (0, 0)) → cs.size = 9 → w2.heap[wr.heap.size + 1]? = some (.cells hs 35 (0, 0)) → hs.size = (1 + j % 3) * 5 → Below wr.heap.size wr w2 →
            ∃ f, Rw ((built w2 wr.heap.size (wr.heap.size + 1) RB HB j).alloc o) LB 3 n f ∧ ∀ w8, Rw w8 LB 3 n (upd f (kc G j) (.int .i64 j)) → ((built w2 wr.heap.size (wr.heap.size + 1) RB HB j).alloc o).grownBy w8 (some LB) → Bd w w8 n G (upd pr j wr.heap.size) (upd ph j (wr.heap.size + 1)) RB HB LB (j + 1) ∧ LB < w8.heap.size) :=
          fun w2 cs hs o h1 h2 h3 h4 h5 => bd.step hlt HG.out (by omega) o2 o3 hsz rfl h1 h2 h3 h4 h5
        clear bd
        unfold built at ST
        generalize hkj : kc G j = kj at *
        generalize hAI : ai j = A at *
        generalize hR : j % 3 = r at *
        have hr3 : (r : Int) < 3 := by omega
        have q1 : (RB = wr.heap.size) = False := eq_false (by omega)
        have q2 : (RB = wr.heap.size + 1) = False := eq_false (by omega)
        have q3 : (HB = wr.heap.size) = False := eq_false (by omega)
        have q4 : (HB = wr.heap.size + 1) = False := eq_false (by omega)
        have q5 : (HB = RB) = False := eq_false (by omega)
        have ba2 : (A : Int) < ((1 + r : Nat) : Int) := by omega
        have ba3 : (A : Int) ≤ 3 := by omega
        go_wp2_with (at_make; refine wpList_make_full _ rfl (.tmp 64) (.tmp 64) 28 rfl 0 35 i35 (.agg #[.pointer none, .int .u64 0, .int .u64 0, .int .i32 0, .int .i32 0]) 5 Yba.underlying28 hi35 hz35 hs35 .i64 .i64 _ _ (1 + r) rfl rfl (by omega) (by omega) (by rw [hb35]; omega) (by unfold maxLen; omega) (Nat.zero_le _) ?_; intro w2 hown2 hg2; obtain ⟨m1, ⟨hs, m2, m3⟩, m4⟩ := made_facts hown2 hg2; obtain ⟨⟨v1, x1⟩, y1, ⟨v2, x2⟩, y2, ⟨v3, x3⟩, y3, ⟨v4, x4⟩, y4, ⟨v5, x5⟩, y5⟩ := FA.out w2 _ hs m1 rfl m2 m3 m4; have HS := hid_of (ST.out w2 _ hs (.cells #[.int .i64 j] 3) m1 rfl m2 m3 m4); clear hown2 hg2 m1 m2 m3 m4 FA ST)
        refine (ai_any j _ (by omega)).mono ?_
        rintro e w' ⟨rfl, rfl⟩
        rw [hAI]
        go_wp2_with (at_builtin; obtain ⟨f, hrw, hnext⟩ := HS.out; refine wpList_append_int _ rfl _ _ rfl LB kj n f rfl hrw hkn _ _ 3 (0, 0) rfl (alloc_at _ _ _ (by simp [World.setCell])) rfl ?_; intro w8 hr8 hg8; obtain ⟨bd8, hs8⟩ := hnext w8 hr8 hg8; clear hnext hrw hr8 hg8 HS)
        go_roundw
        case rel => exact ⟨j + 1, _, _, by omega, by simp, by rw [ek]; congr 1; omega, by rw [ek], bd8, hs8⟩
        case measure => simp [intOf]; omega
    · obtain rfl : n = j := by omega
      have k2 : ¬ (n : Int) < (n : Int) := by omega
      by_cases hm0 : kc G n = 0
      · rw [hm0]
        go_wp2
        go_ret
        exact ⟨rfl, by rw [← hRB]; exact bd.bel⟩
      · have hi : at' % kc G n < kc G n := Nat.mod_lt _ (by omega)
        obtain ⟨a, han, hGa, hka⟩ := kc_surj G _ n hi
        obtain ⟨g, hg⟩ : ∃ g : Nat, n = kc G n + g := ⟨n - kc G n, by omega⟩
        have hgv : (n : Int) - (kc G n : Int) = (g : Int) := by omega
        have hg10 : g ≤ 1024 := by omega
        have cL : wr.cell? ⟨LB, at' % kc G n, none⟩ = some (.int .i64 a) := by
          obtain ⟨f, h1, h2⟩ := bd.live
          rw [h1.cell (by omega), ← hka, h2 a han hGa]
        have cR : wr.cell? ⟨RB, a, none⟩ = some (.pointer (some ⟨pr a, 0, none⟩)) := by
          obtain ⟨f, h1, h2⟩ := bd.res
          rw [h1.cell han, h2 a han hGa]
        rw [hgv]
        have HK : Hid (kc G a = at' % kc G n) := hka
        have HGA : Hid (G a = false) := hGa
        clear hka hGa hgv
        have mz : ¬ ((kc G n : Nat) : Int) = 0 := by omega
        have r1 : (at' : Int) % ((kc G n : Nat) : Int) = ((at' % kc G n : Nat) : Int) := (Int.natCast_emod _ _).symm
        have r2 : (at' : Int).tmod ((kc G n : Nat) : Int) = ((at' % kc G n : Nat) : Int) := by rw [Int.tmod_eq_emod_of_nonneg (by omega)]; exact r1
        have hI : Hid (at' % kc G n = at' % kc G n) := rfl
        generalize hii : at' % kc G n = i at *
        generalize hmm : kc G n = m at *
        clear hii
        have HM : Hid (kc G n = m) := hmm
        have HGM : Hid (n = m + g) := hg
        clear hmm hg
        have u1 : (m : Int) ≤ 1024 := by omega
        have u2 : (i : Int) < (m : Int) := by omega
        have u3 : (a : Int) < (n : Int) := by omega
        have u4 : (g : Int) ≤ 1024 := by omega
        have hat2 : Hid (at' < 18446744073709551616) := hat
        clear hI hat
        have cRx : (wr.alloc (.cells #[.pointer none, .int .i64 0, .int .i64 0, .int .u8 0, .bool false, .int .i32 g, .slice (some ⟨HB, 0, none⟩) n n, .map none, .pointer none, .int .u64 0, .map none, .bool false, .bool false] 50)).cell? ⟨RB, a, none⟩ = some (.pointer (some ⟨pr a, 0, none⟩)) := (cell_same (Below.heap_alloc _ _ _ (by omega))).trans cR
        have bel1 : Below wr.heap.size wr (wr.alloc (.cells #[.pointer none, .int .i64 0, .int .i64 0, .int .u8 0, .bool false, .int .i32 g, .slice (some ⟨HB, 0, none⟩) n n, .map none, .pointer none, .int .u64 0, .map none, .bool false, .bool false] 50)) := (Below.refl _ wr).alloc (Nat.le_refl _) _
        have tx1 := tx_made wr g HB n
        cases b with
        | false =>
          go_wp2_with fail
          obtain ⟨S, fs1⟩ := bd.ready none o3 hsz rfl (fun _ h => by cases h) bel1
          obtain ⟨M, hM⟩ := S.inv
          by_cases hc : (g + 1) * 2 ≤ n
          · refine (forget_short (sz := 0) hn han HGA.out hg10 S fs1 tx1 (fun MB h => by cases h) hM hc).mono ?_
            rintro e w5 ⟨rfl, fs5, tx5, ix5, fr5⟩
            have af := bd.after (by omega) o2 o3 hsz rfl bel1 fr5 fs5 tx5 ix5
            clear fs5 tx5 ix5 fr5 fs1 tx1 bel1 bd cR cRx cL
            generalize upd M (pr a) none = M5 at *
            generalize 0 - 1 = sz5 at *
            have Q44 := q44 (none)
            obtain ⟨x1, x2⟩ := af.cHold han HGA.out
            have hai5 : ∀ w, Calls Yba.prog 5 #[.int .i64 a] w fun e w' => e = .returned (.int .i64 (ai a)) ∧ w' = w := fun w => ai_any a w (by omega)
            have hal : ai a < 1 + a % 3 := ai_lt a
            have ba1 : (ai a : Int) < ((1 + a % 3 : Nat) : Int) := by omega
            generalize 1 + a % 3 = L at *
            generalize ai a = A at *
            go_wp2_with fail
            go_quiet ((go_at_call 5; exact Calls.quiet_of_same (hai5 _)))
            have af1 := af.drewN nq
            clear af x1 x2 hai5
            generalize w5.drewN nq = w6 at *
            have c5 := af1.tx.c5
            have c6 := af1.tx.c6
            have c7 := af1.tx.c7
            have t1 : ((g : Int) + 1) * 2 ≤ (n : Int) := by omega
            have t2 : decide (((g : Int) + 1) * 2 ≤ (n : Int)) = true := decide_eq_true t1
            go_wp2_with fail
            clear c5 c6 c7
            generalize wr.heap.size = TB at *
            go_loopw [23] (fun v wr => ∃ j : Nat, j ≤ n ∧ v = .int .i64 j ∧ Af w wr n G pr ph RB HB LB TB (none) (P0 (upd G a true)) (fun j => (j : Int)) M5 sz5 ((g : Int) + 1) n) (fun v _ => n - (intOf v).toNat)
            case atStart => exact ⟨0, by omega, rfl, af1⟩
            case round =>
              obtain ⟨j, hj, rfl, af⟩ := hrel
              clear af1
              by_cases hlt : j < n
              · have k2 : (j : Int) < (n : Int) := by omega
                have b2 : (j : Int) ≤ 1024 := by omega
                have cA : wr.cell? ⟨Ab, Ao + j, none⟩ = some (.bool (G j)) := (af.bel.cell (p := ⟨Ab, Ao + j, none⟩) (by show Ab < w.heap.size; omega)).trans (hAc j hlt)
                have c6 := af.tx.c6
                have c7 := af.tx.c7
                have NN := neq_none
                by_cases hja : j = a
                · subst hja
                  obtain ⟨p0, p1⟩ := af.cGap hlt (by simp [P0, upd])
                  have AF : Hid (Af w wr n G pr ph RB HB LB TB (none) (P0 (upd G j true)) (fun j => (j : Int)) M5 sz5 ((g : Int) + 1) n) := af
                  clear af
                  go_wp2
                  go_roundw
                  case rel => exact ⟨j + 1, by omega, by simp, AF.out⟩
                  case measure => simp [intOf]; omega
                · have j1 : ¬ (j : Int) = (a : Int) := by omega
                  have j2 : decide ((j : Int) = (a : Int)) = false := decide_eq_false j1
                  cases hG' : G j with
                  | true =>
                    rw [hG'] at cA
                    obtain ⟨p0, p1⟩ := af.cGap hlt (by simp [P0, upd, hja, hG'])
                    clear hG'
                    go_wp2
                    go_roundw
                    case rel => exact ⟨j + 1, by omega, by simp, af⟩
                    case measure => simp [intOf]; omega
                  | false =>
                    rw [hG'] at cA
                    have hG : Hid (G j = false) := hG'
                    clear hG'
                    have hP : P0 (upd G a true) j = some j := by simp [P0, upd, hja, hG.out]
                    have hai5 : ∀ w, Calls Yba.prog 5 #[.int .i64 j] w fun e w' => e = .returned (.int .i64 (ai j)) ∧ w' = w := fun w => ai_any j w (by omega)
                    have hal : ai j < 1 + j % 3 := ai_lt j
                    have ba1 : (ai j : Int) < ((1 + j % 3 : Nat) : Int) := by omega
                    have ba2 : (ai j : Int) ≤ 3 := by omega
                    have CELLS : Hid (∀ wx, Af w wx n G pr ph RB HB LB TB (none) (P0 (upd G a true)) (fun j => (j : Int)) M5 sz5 ((g : Int) + 1) n → wx.cell? ⟨TB, 6, none⟩ = some (.slice (some ⟨HB, 0, none⟩) n n) ∧ wx.cell? ⟨TB, 7, none⟩ = some (.map (none)) ∧ wx.cell? ⟨HB, j * 2, none⟩ = some (.pointer (some ⟨pr j, 0, none⟩)) ∧ wx.cell? ⟨HB, j * 2 + 1, none⟩ = some (.int .i32 (ai j)) ∧ wx.cell? ⟨RB, j, none⟩ = some (.pointer (some ⟨pr j, 0, none⟩)) ∧ wx.cell? ⟨pr j, 1, none⟩ = some (.slice (some ⟨ph j, 0, none⟩) (1 + j % 3) (1 + j % 3)) ∧ wx.cell? ⟨ph j, ai j * 5 + 3, none⟩ = some (.int .i32 (j : Int))) :=
                      fun wx h => ⟨h.tx.c6, h.tx.c7, (h.cPlace hlt hP).1, (h.cPlace hlt hP).2, h.cRes hlt hG.out, (h.cHold hlt hG.out).1, (h.cHold hlt hG.out).2⟩
                    clear hP c6 c7
                    generalize 1 + j % 3 = L at *
                    generalize ai j = A at *
                    obtain ⟨c6, c7, p0, p1, r0, h0, h1⟩ := CELLS.out _ af
                    have NS := fun w => neq_same w (pr j) (A : Int)
                    unfold ptr at NS
                    go_wp2_with fail
                    refine (hai5 _).mono ?_
                    rintro e w' ⟨rfl, rfl⟩
                    go_wp2_with fail
                    go_quiet (fail)
                    have af3 := af.drewN nq
                    clear af c6 c7 p0 p1 r0 h0 h1
                    generalize w'.drewN nq = w7 at *
                    obtain ⟨c6, c7, p0, p1, r0, h0, h1⟩ := CELLS.out _ af3
                    have Q := True.intro
                    go_wp2_with fail
                    go_roundw
                    case rel => exact ⟨j + 1, by omega, by simp, af3⟩
                    case measure => simp [intOf]; omega
              · obtain rfl : n = j := by omega
                have k2 : ¬ (n : Int) < (n : Int) := by omega
                go_wp2
                go_ret
                exact ⟨rfl, by rw [← hRB]; exact af.bel⟩
          · skip
            refine (forget_pack (sz := 0) hn han HGA.out hg10 S fs1 tx1 (fun MB h => by cases h) hM hc).mono ?_
            rintro e w5 ⟨rfl, P, At, M5, fs5, hPk, hPn, hAt, tx5, ix5, hMk, hMa, fr5⟩
            obtain ⟨m1, rfl⟩ : ∃ m1, m = m1 + 1 := ⟨m - 1, by omega⟩
            have hkn : kc (upd G a true) n = m1 := by rw [kc_upd G a HGA.out n, if_neg (by omega), HM.out]; omega
            rw [hkn] at tx5
            have HKN : Hid (kc (upd G a true) n = m1) := hkn
            clear hkn
            have af := bd.after (by omega) o2 o3 hsz rfl bel1 fr5 fs5 tx5 ix5
            clear fs5 tx5 ix5 fr5 fs1 tx1 bel1 bd cR cRx cL
            generalize 0 - 1 = sz5 at *
            have Q44 := q44 (none)
            obtain ⟨x1, x2⟩ := af.cHold han HGA.out
            have eAt : At a = (a : Int) := by rw [hAt a han HGA.out, upd_same]; simp
            rw [eAt] at x2
            have hai5 : ∀ w, Calls Yba.prog 5 #[.int .i64 a] w fun e w' => e = .returned (.int .i64 (ai a)) ∧ w' = w := fun w => ai_any a w (by omega)
            have hal : ai a < 1 + a % 3 := ai_lt a
            have ba1 : (ai a : Int) < ((1 + a % 3 : Nat) : Int) := by omega
            generalize 1 + a % 3 = L at *
            generalize ai a = A at *
            go_wp2_with fail
            go_quiet ((go_at_call 5; exact Calls.quiet_of_same (hai5 _)))
            have af1 := af.drewN nq
            clear af x1 x2 hai5
            generalize w5.drewN nq = w6 at *
            have c5 := af1.tx.c5
            have c6 := af1.tx.c6
            have c7 := af1.tx.c7
            have t1 : ¬ ((g : Int) + 1) * 2 ≤ (n : Int) := by omega
            have t2 : decide (((g : Int) + 1) * 2 ≤ (n : Int)) = false := decide_eq_false t1
            go_wp2_with fail
            clear c5 c6 c7
            generalize wr.heap.size = TB at *
            go_loopw [27, 302] (fun v27 v wr => ∃ q : Nat, q ≤ m1 + 1 ∧ v = .int .i64 q ∧ v27 = .int .i64 ((if q ≤ i then q else q - 1 : Nat) : Int) ∧ Af w wr n G pr ph RB HB LB TB (none) P At M5 sz5 0 m1) (fun _ v _ => m1 + 1 - (intOf v).toNat)
            case atStart => exact ⟨0, by omega, rfl, by simp, af1⟩
            case round =>
              obtain ⟨q, hq, rfl, rfl, af⟩ := hrel
              clear af1
              by_cases hlt : q < m1 + 1
              · obtain ⟨j, hjn, hGj', hkj⟩ := kc_surj G q n (by rw [HM.out]; exact hlt)
                have k2 : (q : Int) < (m1 : Int) + 1 := by omega
                have b2 : (j : Int) ≤ 1024 := by omega
                have b3 : (j : Int) < (n : Int) := by omega
                have cL : wr.cell? ⟨LB, q, none⟩ = some (.int .i64 j) := by have := af.cLive hjn hGj'; rwa [hkj] at this
                have c6 := af.tx.c6
                have c7 := af.tx.c7
                by_cases hja : j = a
                · have eq : q = i := by rw [← hkj, hja, HK.out]
                  have e1 : (if q ≤ i then q else q - 1) = q := if_pos (by omega)
                  have e2 : (if q + 1 ≤ i then q + 1 else q + 1 - 1) = q := by rw [if_neg (by omega)]; omega
                  subst hja
                  clear hGj' hkj eq
                  rw [e1]
                  generalize hE : (if q + 1 ≤ i then q + 1 else q + 1 - 1) = E at *
                  subst e2
                  go_wp2
                  go_roundw
                  case rel => exact ⟨E + 1, by omega, by simp, by rw [hE], af⟩
                  case measure => simp [intOf]; omega
                · have j1 : ¬ (j : Int) = (a : Int) := by omega
                  have j2 : decide ((j : Int) = (a : Int)) = false := decide_eq_false j1
                  have hG : Hid (G j = false) := hGj'
                  have hG2 : upd G a true j = false := by rw [upd_other _ _ _ _ hja]; exact hG.out
                  have hku := kc_upd G a HGA.out j
                  have hka := HK.out
                  have hks := kc_lt (upd G a true) j n hjn hG2
                  rw [HKN.out] at hks
                  have hks2 : j < a → q < i := fun h => by have := kc_lt G j a h hG.out; omega
                  have hks3 : a < j → i < q := fun h => by have := kc_lt G a j h HGA.out; omega
                  obtain ⟨s, hs, hs1, hs2⟩ : ∃ s : Nat, kc (upd G a true) j = s ∧ (if q ≤ i then q else q - 1) = s ∧ (if q + 1 ≤ i then q + 1 else q + 1 - 1) = s + 1 := by
                    refine ⟨_, rfl, ?_, ?_⟩
                    · rw [hku]
                      by_cases l : j ≤ a
                      · rw [if_pos l, if_pos (by have := hks2 (by omega); omega), hkj]
                      · rw [if_neg l, if_neg (by have := hks3 (by omega); omega), hkj]
                    · rw [hku]
                      by_cases l : j ≤ a
                      · rw [if_pos l, if_pos (by have := hks2 (by omega); omega), hkj]
                      · have := hks3 (by omega)
                        rw [if_neg l, if_neg (by omega), hkj]
                        omega
                  rw [hs] at hks
                  rw [hs1]
                  have HS2 : Hid ((if q + 1 ≤ i then q + 1 else q + 1 - 1) = s + 1) := hs2
                  have hP : P s = some j := by rw [← hs]; exact hPk j hjn hG2
                  have hAj : At j = (s : Int) := by rw [hAt j hjn hG.out, hG2, hs]; simp
                  have hMj : M5 (pr j) = some (s : Int) := by rw [hMk j hjn hG2, hs]
                  have hsn : s < n := by omega
                  have v1 : (s : Int) < (m1 : Int) := by omega
                  have v2 : (s : Int) ≤ 1024 := by omega
                  have hai5 : ∀ w, Calls Yba.prog 5 #[.int .i64 j] w fun e w' => e = .returned (.int .i64 (ai j)) ∧ w' = w := fun w => ai_any j w (by omega)
                  have hal : ai j < 1 + j % 3 := ai_lt j
                  have ba1 : (ai j : Int) < ((1 + j % 3 : Nat) : Int) := by omega
                  have ba2 : (ai j : Int) ≤ 3 := by omega
                  have CELLS : Hid (∀ wx, Af w wx n G pr ph RB HB LB TB (none) P At M5 sz5 0 m1 → wx.cell? ⟨TB, 6, none⟩ = some (.slice (some ⟨HB, 0, none⟩) m1 n) ∧ wx.cell? ⟨TB, 7, none⟩ = some (.map (none)) ∧ wx.cell? ⟨HB, s * 2, none⟩ = some (.pointer (some ⟨pr j, 0, none⟩)) ∧ wx.cell? ⟨HB, s * 2 + 1, none⟩ = some (.int .i32 (ai j)) ∧ wx.cell? ⟨RB, j, none⟩ = some (.pointer (some ⟨pr j, 0, none⟩)) ∧ wx.cell? ⟨pr j, 1, none⟩ = some (.slice (some ⟨ph j, 0, none⟩) (1 + j % 3) (1 + j % 3)) ∧ wx.cell? ⟨ph j, ai j * 5 + 3, none⟩ = some (.int .i32 (s : Int))) :=
                    fun wx h => ⟨h.tx.c6, h.tx.c7, (h.cPlace hsn hP).1, (h.cPlace hsn hP).2, h.cRes hjn hG.out, (h.cHold hjn hG.out).1, by rw [← hAj]; exact (h.cHold hjn hG.out).2⟩
                  have HMJ : Hid (M5 (pr j) = some (s : Int)) := hMj
                  clear hP c6 c7 hGj' hG2 hku hka hks2 hks3 hs hs1 hs2 hAj hMj hkj
                  generalize 1 + j % 3 = L at *
                  generalize ai j = A at *
                  obtain ⟨c6, c7, p0, p1, r0, h0, h1⟩ := CELLS.out _ af
                  have NS := fun w => neq_same w (pr j) (A : Int)
                  unfold ptr at NS
                  go_wp2_with fail
                  refine (hai5 _).mono ?_
                  rintro e w' ⟨rfl, rfl⟩
                  go_wp2_with fail
                  go_quiet (fail)
                  have af3 := af.drewN nq
                  clear af c6 c7 p0 p1 r0 h0 h1
                  generalize w'.drewN nq = w7 at *
                  obtain ⟨c6, c7, p0, p1, r0, h0, h1⟩ := CELLS.out _ af3
                  have Q := True.intro
                  go_wp2_with fail
                  go_roundw
                  case rel => exact ⟨q + 1, by omega, by simp, by rw [HS2.out]; simp, af3⟩
                  case measure => simp [intOf]; omega
              · obtain rfl : q = m1 + 1 := by omega
                have k2 : ¬ (m1 : Int) + 1 < (m1 : Int) + 1 := by omega
                have AF4 : Hid (Af w wr n G pr ph RB HB LB TB (none) P At M5 sz5 0 m1) := af
                clear af
                go_wp2_with fail
                go_loopw [33] (fun v wr => ∃ s : Nat, m1 ≤ s ∧ s ≤ n ∧ v = .int .i64 s ∧ Af w wr n G pr ph RB HB LB TB (none) P At M5 sz5 0 m1) (fun v _ => n - (intOf v).toNat)
                case atStart => exact ⟨m1, Nat.le_refl _, by omega, by simp, AF4.out⟩
                case round =>
                  obtain ⟨s, hs0, hs, rfl, af⟩ := hrel
                  by_cases hlt : s < n
                  · have k3 : (s : Int) < (n : Int) := by omega
                    have b2 : (s : Int) ≤ 1024 := by omega
                    obtain ⟨p0, p1⟩ := af.cGap hlt (hPn s (by rw [HKN.out]; exact hs0) hlt)
                    have NN := neq_none
                    have AF5 : Hid (Af w wr n G pr ph RB HB LB TB (none) P At M5 sz5 0 m1) := af
                    clear af
                    go_wp2
                    go_roundw
                    case rel => exact ⟨s + 1, by omega, by omega, by simp, AF5.out⟩
                    case measure => simp [intOf]; omega
                  · obtain rfl : n = s := by omega
                    have k3 : ¬ (n : Int) < (n : Int) := by omega
                    go_wp2
                    go_ret
                    exact ⟨rfl, by rw [← hRB]; exact af.bel⟩
        | true =>
          have MK := mk44 (n : Int)
          generalize hwz : wr = wz at *
          clear hwz
          have wzs : (wz.alloc (.cells #[.pointer none, .int .i64 0, .int .i64 0, .int .u8 0, .bool false, .int .i32 g, .slice (some ⟨HB, 0, none⟩) n n, .map none, .pointer none, .int .u64 0, .map none, .bool false, .bool false] 50)).heap.size = wz.heap.size + 1 := by show (wz.heap.push _).size = _; exact Array.size_push _
          have c7a := tx1.c7
          have f7a := tx1.free 7
          go_wp2_with fail
          obtain ⟨tx2, mb2, bel3⟩ := txw_facts wz g HB n
          obtain ⟨S, fsy⟩ := bd.ready (some (wz.heap.size + 1)) o3 hsz rfl (fun MB h => by simp at h; omega) bel3
          have ib0 : Ib (txw wz g HB n) (txw wz g HB n) n G pr (wz.heap.size + 1) 0 := Ib.start mb2
          have hTM : wz.heap.size < wz.heap.size + 1 := by omega
          clear c7a f7a MK wzs tx1 bel1 cRx cL mb2
          have RES : Hid (∀ j, j < n → G j = false → (txw wz g HB n).cell? ⟨RB, j, none⟩ = some (.pointer (some ⟨pr j, 0, none⟩)) ∧ (txw wz g HB n).cell? ⟨LB, kc G j, none⟩ = some (.int .i64 j)) := by
            intro j hj hG
            obtain ⟨f, h1, h2⟩ := bd.res
            obtain ⟨f', h3, h4⟩ := bd.live
            have := kc_le G j
            exact ⟨by rw [bel3.cell (p := ⟨RB, j, none⟩) (by show RB < wz.heap.size; omega), h1.cell hj, h2 j hj hG], by rw [bel3.cell (p := ⟨LB, kc G j, none⟩) (by show LB < wz.heap.size; omega), h3.cell (by omega), h4 j hj hG]⟩
          show Code.wp Yba.prog _ _ _ (txw wz g HB n)
          generalize txw wz g HB n = wy at *
          generalize hMB : wz.heap.size + 1 = MB at *
          go_loopw [119] (fun v wr => ∃ q : Nat, q ≤ m ∧ v = .int .i64 q ∧ Ib wy wr n G pr MB q) (fun v _ => m - (intOf v).toNat)
          case atStart => exact ⟨0, by omega, rfl, ib0⟩
          case round =>
            obtain ⟨q, hq, rfl, ib⟩ := hrel
            clear ib0
            by_cases hlt : q < m
            · obtain ⟨j, hjn, hGj', hkj⟩ := kc_surj G q n (by rw [HM.out]; exact hlt)
              have k2 : (q : Int) < (m : Int) := by omega
              have b2 : (j : Int) ≤ 1024 := by omega
              have b3 : (j : Int) < (n : Int) := by omega
              obtain ⟨y1, y2⟩ := RES.out j hjn hGj'
              have cR2 := (ib.1.cell (p := ⟨RB, j, none⟩) (by show RB < MB; omega)).trans y1
              have cL2 := (ib.1.cell (p := ⟨LB, kc G j, none⟩) (by show LB < MB; omega)).trans y2
              rw [hkj] at cL2
              have c7 := (ib.1.cell (p := ⟨wz.heap.size, 7, none⟩) (by show wz.heap.size < MB; omega)).trans tx2.c7
              obtain ⟨wC, hmu, ib2⟩ := ib.step S hjn hGj' hkj (fsy.rs j hjn hGj').cells
              have d0 := (ib2.1.cell (p := ⟨RB, j, none⟩) (by show RB < MB; omega)).trans y1
              have d7 := (ib2.1.cell (p := ⟨wz.heap.size, 7, none⟩) (by show wz.heap.size < MB; omega)).trans tx2.c7
              clear ib hGj' hkj y1 y2 cR
              go_wp2_with fail
              go_region_held_law (fun w' => w'.cell? ⟨wz.heap.size, 7, none⟩ = some (.map (some MB)) ∧ w'.cell? ⟨RB, j, none⟩ = some (.pointer (some ⟨pr j, 0, none⟩))) (first | go_keep | exact ⟨d7, d0⟩) (fail)
              go_wp2
              go_roundw
              case rel => exact ⟨q + 1, by omega, by simp, ib2⟩
              case measure => simp [intOf]; omega
            · obtain rfl : m = q := by omega
              have k2 : ¬ (m : Int) < (m : Int) := by omega
              obtain ⟨bel4, M, hpm, hMq⟩ := ib
              have bel2 : Below wz.heap.size wz wr := bel3.trans (bel4.mono (by omega))
              have tx1 : Tx wr wz.heap.size (g : Int) HB n n (some MB) := tx2.same (bel4.block _ (by omega))
              have ix1 : Ix wr (some MB) M m := fun MB' h => by simp at h; subst h; exact hpm
              have hM : ∀ j, j < n → G j = false → M (pr j) = some (j : Int) := fun j hj hG => by rw [hMq j hj hG, if_pos (by rw [← HM.out]; exact kc_lt G j n hj hG)]
              obtain ⟨_, fs1⟩ := bd.ready (some MB) o3 hsz rfl (fun MB' h => by simp at h; omega) bel2
              have cR4 := (bel4.cell (p := ⟨RB, a, none⟩) (by show RB < MB; omega)).trans (RES.out a han HGA.out).1
              clear hpm hMq tx2 fsy RES bel3 bel4
              go_wp2_with fail
              by_cases hc : (g + 1) * 2 ≤ n
              · skip
                obtain ⟨m1, rfl⟩ : ∃ m1, m = m1 + 1 := ⟨m - 1, by omega⟩
                refine (forget_short (sz := m1 + 1) hn han HGA.out hg10 S fs1 tx1 ix1 hM hc).mono ?_
                rintro e w5 ⟨rfl, fs5, tx5, ix5, fr5⟩
                rw [Nat.add_sub_cancel] at ix5
                have hMk : ∀ j, j < n → G j = false → ¬ j = a → upd M (pr a) none (pr j) = some (j : Int) := fun j hj hG hja => by rw [upd_other _ _ _ _ (S.pr_ne hj han hG HGA.out hja).1]; exact hM j hj hG
                have hM5a : upd M (pr a) none (pr a) = none := upd_same _ _ _
                generalize upd M (pr a) none = M5 at *
                have af := bd.after (by omega) o2 o3 hsz rfl bel2 fr5 fs5 tx5 ix5
                clear fs5 tx5 ix5 fr5 fs1 tx1 bel2 bd cR ix1 hM
                have Q44 := q44 (some MB)
                obtain ⟨x1, x2⟩ := af.cHold han HGA.out
                have hai5 : ∀ w, Calls Yba.prog 5 #[.int .i64 a] w fun e w' => e = .returned (.int .i64 (ai a)) ∧ w' = w := fun w => ai_any a w (by omega)
                have hal : ai a < 1 + a % 3 := ai_lt a
                have ba1 : (ai a : Int) < ((1 + a % 3 : Nat) : Int) := by omega
                generalize 1 + a % 3 = L at *
                generalize ai a = A at *
                go_wp2_with fail
                go_quiet ((go_at_call 5; exact Calls.quiet_of_same (hai5 _)))
                have af1 := af.drewN nq
                clear af x1 x2 hai5
                generalize w5.drewN nq = w6 at *
                have c5 := af1.tx.c5
                have c6 := af1.tx.c6
                have c7 := af1.tx.c7
                have hl0 := (af1.ix MB rfl).look_none ((af1.fs.rs a han HGA.out).cells) hM5a
                unfold ptr at hl0
                have hln := fun ty => (af1.ix MB rfl).len ty
                have t1 : ((g : Int) + 1) * 2 ≤ (n : Int) := by omega
                have t2 : decide (((g : Int) + 1) * 2 ≤ (n : Int)) = true := decide_eq_true t1
                go_wp2_with fail
                clear c5 c6 c7
                generalize wz.heap.size = TB at *
                go_loopw [23] (fun v wr => ∃ j : Nat, j ≤ n ∧ v = .int .i64 j ∧ Af w wr n G pr ph RB HB LB TB (some MB) (P0 (upd G a true)) (fun j => (j : Int)) M5 m1 ((g : Int) + 1) n) (fun v _ => n - (intOf v).toNat)
                case atStart => exact ⟨0, by omega, rfl, af1⟩
                case round =>
                  obtain ⟨j, hj, rfl, af⟩ := hrel
                  clear af1
                  by_cases hlt : j < n
                  · have k2 : (j : Int) < (n : Int) := by omega
                    have b2 : (j : Int) ≤ 1024 := by omega
                    have cA : wr.cell? ⟨Ab, Ao + j, none⟩ = some (.bool (G j)) := (af.bel.cell (p := ⟨Ab, Ao + j, none⟩) (by show Ab < w.heap.size; omega)).trans (hAc j hlt)
                    have c6 := af.tx.c6
                    have c7 := af.tx.c7
                    have NN := neq_none
                    by_cases hja : j = a
                    · subst hja
                      obtain ⟨p0, p1⟩ := af.cGap hlt (by simp [P0, upd])
                      have AF : Hid (Af w wr n G pr ph RB HB LB TB (some MB) (P0 (upd G j true)) (fun j => (j : Int)) M5 m1 ((g : Int) + 1) n) := af
                      clear af
                      go_wp2
                      go_roundw
                      case rel => exact ⟨j + 1, by omega, by simp, AF.out⟩
                      case measure => simp [intOf]; omega
                    · have j1 : ¬ (j : Int) = (a : Int) := by omega
                      have j2 : decide ((j : Int) = (a : Int)) = false := decide_eq_false j1
                      cases hG' : G j with
                      | true =>
                        rw [hG'] at cA
                        obtain ⟨p0, p1⟩ := af.cGap hlt (by simp [P0, upd, hja, hG'])
                        clear hG'
                        go_wp2
                        go_roundw
                        case rel => exact ⟨j + 1, by omega, by simp, af⟩
                        case measure => simp [intOf]; omega
                      | false =>
                        rw [hG'] at cA
                        have hG : Hid (G j = false) := hG'
                        clear hG'
                        have hP : P0 (upd G a true) j = some j := by simp [P0, upd, hja, hG.out]
                        have hai5 : ∀ w, Calls Yba.prog 5 #[.int .i64 j] w fun e w' => e = .returned (.int .i64 (ai j)) ∧ w' = w := fun w => ai_any j w (by omega)
                        have hal : ai j < 1 + j % 3 := ai_lt j
                        have ba1 : (ai j : Int) < ((1 + j % 3 : Nat) : Int) := by omega
                        have ba2 : (ai j : Int) ≤ 3 := by omega
                        have CELLS : Hid (∀ wx, Af w wx n G pr ph RB HB LB TB (some MB) (P0 (upd G a true)) (fun j => (j : Int)) M5 m1 ((g : Int) + 1) n → wx.cell? ⟨TB, 6, none⟩ = some (.slice (some ⟨HB, 0, none⟩) n n) ∧ wx.cell? ⟨TB, 7, none⟩ = some (.map (some MB)) ∧ wx.cell? ⟨HB, j * 2, none⟩ = some (.pointer (some ⟨pr j, 0, none⟩)) ∧ wx.cell? ⟨HB, j * 2 + 1, none⟩ = some (.int .i32 (ai j)) ∧ wx.cell? ⟨RB, j, none⟩ = some (.pointer (some ⟨pr j, 0, none⟩)) ∧ wx.cell? ⟨pr j, 1, none⟩ = some (.slice (some ⟨ph j, 0, none⟩) (1 + j % 3) (1 + j % 3)) ∧ wx.cell? ⟨ph j, ai j * 5 + 3, none⟩ = some (.int .i32 (j : Int))) :=
                          fun wx h => ⟨h.tx.c6, h.tx.c7, (h.cPlace hlt hP).1, (h.cPlace hlt hP).2, h.cRes hlt hG.out, (h.cHold hlt hG.out).1, (h.cHold hlt hG.out).2⟩
                        clear hP c6 c7
                        generalize 1 + j % 3 = L at *
                        generalize ai j = A at *
                        obtain ⟨c6, c7, p0, p1, r0, h0, h1⟩ := CELLS.out _ af
                        have NS := fun w => neq_same w (pr j) (A : Int)
                        unfold ptr at NS
                        go_wp2_with fail
                        refine (hai5 _).mono ?_
                        rintro e w' ⟨rfl, rfl⟩
                        go_wp2_with fail
                        go_quiet (fail)
                        have af3 := af.drewN nq
                        clear af c6 c7 p0 p1 r0 h0 h1
                        generalize w'.drewN nq = w7 at *
                        obtain ⟨c6, c7, p0, p1, r0, h0, h1⟩ := CELLS.out _ af3
                        have af4 := af3.drew
                        have hlk0 := (af3.ix MB rfl).look ((af3.fs.rs j hlt hG.out).cells) (hMk j hlt hG.out hja)
                        have hlk := (af4.ix MB rfl).look ((af4.fs.rs j hlt hG.out).cells) (hMk j hlt hG.out hja)
                        unfold ptr at hlk hlk0
                        go_wp2_with fail
                        go_region_held_law (fun w' => w'.cell? ⟨TB, 7, none⟩ = some (.map (some MB)) ∧ w'.cell? ⟨RB, j, none⟩ = some (.pointer (some ⟨pr j, 0, none⟩))) (go_keep) (fail)
                        go_wp2
                        go_roundw
                        case rel => exact ⟨j + 1, by omega, by simp, af4⟩
                        case measure => simp [intOf]; omega
                  · obtain rfl : n = j := by omega
                    have k2 : ¬ (n : Int) < (n : Int) := by omega
                    go_wp2
                    go_ret
                    exact ⟨rfl, by rw [← hRB]; exact af.bel⟩
              · skip
                refine (forget_pack (sz := m) hn han HGA.out hg10 S fs1 tx1 ix1 hM hc).mono ?_
                rintro e w5 ⟨rfl, P, At, M5, fs5, hPk, hPn, hAt, tx5, ix5, hMk, hM5a, fr5⟩
                obtain ⟨m1, rfl⟩ : ∃ m1, m = m1 + 1 := ⟨m - 1, by omega⟩
                have hkn : kc (upd G a true) n = m1 := by rw [kc_upd G a HGA.out n, if_neg (by omega), HM.out]; omega
                rw [hkn] at tx5
                have HKN : Hid (kc (upd G a true) n = m1) := hkn
                clear hkn
                rw [Nat.add_sub_cancel] at ix5
                have af := bd.after (by omega) o2 o3 hsz rfl bel2 fr5 fs5 tx5 ix5
                clear fs5 tx5 ix5 fr5 fs1 tx1 bel2 bd cR ix1 hM
                have Q44 := q44 (some MB)
                obtain ⟨x1, x2⟩ := af.cHold han HGA.out
                have eAt : At a = (a : Int) := by rw [hAt a han HGA.out, upd_same]; simp
                rw [eAt] at x2
                have hai5 : ∀ w, Calls Yba.prog 5 #[.int .i64 a] w fun e w' => e = .returned (.int .i64 (ai a)) ∧ w' = w := fun w => ai_any a w (by omega)
                have hal : ai a < 1 + a % 3 := ai_lt a
                have ba1 : (ai a : Int) < ((1 + a % 3 : Nat) : Int) := by omega
                generalize 1 + a % 3 = L at *
                generalize ai a = A at *
                go_wp2_with fail
                go_quiet ((go_at_call 5; exact Calls.quiet_of_same (hai5 _)))
                have af1 := af.drewN nq
                clear af x1 x2 hai5
                generalize w5.drewN nq = w6 at *
                have c5 := af1.tx.c5
                have c6 := af1.tx.c6
                have c7 := af1.tx.c7
                have hl0 := (af1.ix MB rfl).look_none ((af1.fs.rs a han HGA.out).cells) hM5a
                unfold ptr at hl0
                have hln := fun ty => (af1.ix MB rfl).len ty
                have t1 : ¬ ((g : Int) + 1) * 2 ≤ (n : Int) := by omega
                have t2 : decide (((g : Int) + 1) * 2 ≤ (n : Int)) = false := decide_eq_false t1
                go_wp2_with fail
                clear c5 c6 c7
                generalize wz.heap.size = TB at *
                go_loopw [27, 302] (fun v27 v wr => ∃ q : Nat, q ≤ m1 + 1 ∧ v = .int .i64 q ∧ v27 = .int .i64 ((if q ≤ i then q else q - 1 : Nat) : Int) ∧ Af w wr n G pr ph RB HB LB TB (some MB) P At M5 m1 0 m1) (fun _ v _ => m1 + 1 - (intOf v).toNat)
                case atStart => exact ⟨0, by omega, rfl, by simp, af1⟩
                case round =>
                  obtain ⟨q, hq, rfl, rfl, af⟩ := hrel
                  clear af1
                  by_cases hlt : q < m1 + 1
                  · obtain ⟨j, hjn, hGj', hkj⟩ := kc_surj G q n (by rw [HM.out]; exact hlt)
                    have k2 : (q : Int) < (m1 : Int) + 1 := by omega
                    have b2 : (j : Int) ≤ 1024 := by omega
                    have b3 : (j : Int) < (n : Int) := by omega
                    have cL : wr.cell? ⟨LB, q, none⟩ = some (.int .i64 j) := by have := af.cLive hjn hGj'; rwa [hkj] at this
                    have c6 := af.tx.c6
                    have c7 := af.tx.c7
                    by_cases hja : j = a
                    · have eq : q = i := by rw [← hkj, hja, HK.out]
                      have e1 : (if q ≤ i then q else q - 1) = q := if_pos (by omega)
                      have e2 : (if q + 1 ≤ i then q + 1 else q + 1 - 1) = q := by rw [if_neg (by omega)]; omega
                      subst hja
                      clear hGj' hkj eq
                      rw [e1]
                      generalize hE : (if q + 1 ≤ i then q + 1 else q + 1 - 1) = E at *
                      subst e2
                      go_wp2
                      go_roundw
                      case rel => exact ⟨E + 1, by omega, by simp, by rw [hE], af⟩
                      case measure => simp [intOf]; omega
                    · have j1 : ¬ (j : Int) = (a : Int) := by omega
                      have j2 : decide ((j : Int) = (a : Int)) = false := decide_eq_false j1
                      have hG : Hid (G j = false) := hGj'
                      have hG2 : upd G a true j = false := by rw [upd_other _ _ _ _ hja]; exact hG.out
                      have hku := kc_upd G a HGA.out j
                      have hka := HK.out
                      have hks := kc_lt (upd G a true) j n hjn hG2
                      rw [HKN.out] at hks
                      have hks2 : j < a → q < i := fun h => by have := kc_lt G j a h hG.out; omega
                      have hks3 : a < j → i < q := fun h => by have := kc_lt G a j h HGA.out; omega
                      obtain ⟨s, hs, hs1, hs2⟩ : ∃ s : Nat, kc (upd G a true) j = s ∧ (if q ≤ i then q else q - 1) = s ∧ (if q + 1 ≤ i then q + 1 else q + 1 - 1) = s + 1 := by
                        refine ⟨_, rfl, ?_, ?_⟩
                        · rw [hku]
                          by_cases l : j ≤ a
                          · rw [if_pos l, if_pos (by have := hks2 (by omega); omega), hkj]
                          · rw [if_neg l, if_neg (by have := hks3 (by omega); omega), hkj]
                        · rw [hku]
                          by_cases l : j ≤ a
                          · rw [if_pos l, if_pos (by have := hks2 (by omega); omega), hkj]
                          · have := hks3 (by omega)
                            rw [if_neg l, if_neg (by omega), hkj]
                            omega
                      rw [hs] at hks
                      rw [hs1]
                      have HS2 : Hid ((if q + 1 ≤ i then q + 1 else q + 1 - 1) = s + 1) := hs2
                      have hP : P s = some j := by rw [← hs]; exact hPk j hjn hG2
                      have hAj : At j = (s : Int) := by rw [hAt j hjn hG.out, hG2, hs]; simp
                      have hMj : M5 (pr j) = some (s : Int) := by rw [hMk j hjn hG2, hs]
                      have hsn : s < n := by omega
                      have v1 : (s : Int) < (m1 : Int) := by omega
                      have v2 : (s : Int) ≤ 1024 := by omega
                      have hai5 : ∀ w, Calls Yba.prog 5 #[.int .i64 j] w fun e w' => e = .returned (.int .i64 (ai j)) ∧ w' = w := fun w => ai_any j w (by omega)
                      have hal : ai j < 1 + j % 3 := ai_lt j
                      have ba1 : (ai j : Int) < ((1 + j % 3 : Nat) : Int) := by omega
                      have ba2 : (ai j : Int) ≤ 3 := by omega
                      have CELLS : Hid (∀ wx, Af w wx n G pr ph RB HB LB TB (some MB) P At M5 m1 0 m1 → wx.cell? ⟨TB, 6, none⟩ = some (.slice (some ⟨HB, 0, none⟩) m1 n) ∧ wx.cell? ⟨TB, 7, none⟩ = some (.map (some MB)) ∧ wx.cell? ⟨HB, s * 2, none⟩ = some (.pointer (some ⟨pr j, 0, none⟩)) ∧ wx.cell? ⟨HB, s * 2 + 1, none⟩ = some (.int .i32 (ai j)) ∧ wx.cell? ⟨RB, j, none⟩ = some (.pointer (some ⟨pr j, 0, none⟩)) ∧ wx.cell? ⟨pr j, 1, none⟩ = some (.slice (some ⟨ph j, 0, none⟩) (1 + j % 3) (1 + j % 3)) ∧ wx.cell? ⟨ph j, ai j * 5 + 3, none⟩ = some (.int .i32 (s : Int))) :=
                        fun wx h => ⟨h.tx.c6, h.tx.c7, (h.cPlace hsn hP).1, (h.cPlace hsn hP).2, h.cRes hjn hG.out, (h.cHold hjn hG.out).1, by rw [← hAj]; exact (h.cHold hjn hG.out).2⟩
                      have HMJ : Hid (M5 (pr j) = some (s : Int)) := hMj
                      clear hP c6 c7 hGj' hG2 hku hka hks2 hks3 hs hs1 hs2 hAj hMj hkj
                      generalize 1 + j % 3 = L at *
                      generalize ai j = A at *
                      obtain ⟨c6, c7, p0, p1, r0, h0, h1⟩ := CELLS.out _ af
                      have NS := fun w => neq_same w (pr j) (A : Int)
                      unfold ptr at NS
                      go_wp2_with fail
                      refine (hai5 _).mono ?_
                      rintro e w' ⟨rfl, rfl⟩
                      go_wp2_with fail
                      go_quiet (fail)
                      have af3 := af.drewN nq
                      clear af c6 c7 p0 p1 r0 h0 h1
                      generalize w'.drewN nq = w7 at *
                      obtain ⟨c6, c7, p0, p1, r0, h0, h1⟩ := CELLS.out _ af3
                      have af4 := af3.drew
                      have hlk0 := (af3.ix MB rfl).look ((af3.fs.rs j hjn hG.out).cells) HMJ.out
                      have hlk := (af4.ix MB rfl).look ((af4.fs.rs j hjn hG.out).cells) HMJ.out
                      unfold ptr at hlk hlk0
                      go_wp2_with fail
                      go_region_held_law (fun w' => w'.cell? ⟨TB, 7, none⟩ = some (.map (some MB)) ∧ w'.cell? ⟨RB, j, none⟩ = some (.pointer (some ⟨pr j, 0, none⟩))) (go_keep) (fail)
                      go_wp2
                      go_roundw
                      case rel => exact ⟨q + 1, by omega, by simp, by rw [HS2.out]; simp, af4⟩
                      case measure => simp [intOf]; omega
                  · obtain rfl : q = m1 + 1 := by omega
                    have k2 : ¬ (m1 : Int) + 1 < (m1 : Int) + 1 := by omega
                    have AF4 : Hid (Af w wr n G pr ph RB HB LB TB (some MB) P At M5 m1 0 m1) := af
                    clear af
                    go_wp2_with fail
                    go_loopw [33] (fun v wr => ∃ s : Nat, m1 ≤ s ∧ s ≤ n ∧ v = .int .i64 s ∧ Af w wr n G pr ph RB HB LB TB (some MB) P At M5 m1 0 m1) (fun v _ => n - (intOf v).toNat)
                    case atStart => exact ⟨m1, Nat.le_refl _, by omega, by simp, AF4.out⟩
                    case round =>
                      obtain ⟨s, hs0, hs, rfl, af⟩ := hrel
                      by_cases hlt : s < n
                      · have k3 : (s : Int) < (n : Int) := by omega
                        have b2 : (s : Int) ≤ 1024 := by omega
                        obtain ⟨p0, p1⟩ := af.cGap hlt (hPn s (by rw [HKN.out]; exact hs0) hlt)
                        have NN := neq_none
                        have AF5 : Hid (Af w wr n G pr ph RB HB LB TB (some MB) P At M5 m1 0 m1) := af
                        clear af
                        go_wp2
                        go_roundw
                        case rel => exact ⟨s + 1, by omega, by omega, by simp, AF5.out⟩
                        case measure => simp [intOf]; omega
                      · obtain rfl : n = s := by omega
                        have k3 : ¬ (n : Int) < (n : Int) := by omega
                        go_wp2
                        go_ret
                        exact ⟨rfl, by rw [← hRB]; exact af.bel⟩

end Go.Proofs.Ybulkarya.forget
