/-
  The walk of 'LawS2166AStores'.
-/
import Derived.Test.YbulkarviFlat
namespace Go.Proofs.Ybulkarvi.stores
set_option linter.unusedVariables false
open Go.RowKit Go.Maps

theorem info5 : (Yba.prog.info? 5).map (fun i => (i.zero, i.size, i.bytes)) = some (some (.int .u8 0), 1, 1) := by kernel_rfl

set_option maxHeartbeats 4000000 in
set_option maxRecDepth 100000 in
theorem law_walk (A : Option Addr) (N capA Ab Ao : Nat) (ids : Nat → Int) (Pa : Option Addr) (M capP Pb Po : Nat) (pre : Nat → Int) (per f m : Int) (w : World) (hN : N ≤ 1024) (hM : M ≤ 1024)
    (hA : 0 < N → A = some ⟨Ab, Ao, none⟩ ∧ Ab < w.heap.size) (hAc : ∀ i, i < N → w.cell? ⟨Ab, Ao + i, none⟩ = some (.int .u8 (ids i)))
    (hP : 0 < M → Pa = some ⟨Pb, Po, none⟩ ∧ Pb < w.heap.size) (hPc : ∀ i, i < M → w.cell? ⟨Pb, Po + i, none⟩ = some (.int .u8 (pre i)))
    (hids : ∀ i, i < N → 0 ≤ ids i ∧ ids i ≤ 255) (hpre : ∀ i, i < M → 0 ≤ pre i ∧ pre i ≤ 255)
    (p0 : 0 ≤ per) (p1 : per ≤ 255) (f0 : 0 ≤ f) (f1 : f ≤ 255) (m0 : 0 ≤ m) (m1 : m ≤ 255) :
    Calls Yba.prog 3 #[.slice A N capA, .slice Pa M capP, .int .u8 per, .int .u8 f, .int .u8 m] w fun e w' => e = .returned (.bool true) ∧ Below w.heap.size w w' := by
  obtain ⟨i5, hi5, hz0, hz1, hz2⟩ := info_parts info5
  have n1 : ¬ (1024 : Int) < (N : Int) := by omega
  have n2 : ¬ (1024 : Int) < (M : Int) := by omega
  have d1 : decide ((1024 : Int) < (N : Int)) = false := decide_eq_false n1
  have d2 : decide ((1024 : Int) < (M : Int)) = false := decide_eq_false n2
  go_enter Yba.func3, Yba.ntmps3
  go_wp2_with (at_make; refine wpList_make_full _ rfl (.tmp 40) (.tmp 40) 22 rfl w.heap.size 5 i5 (.int .u8 0) 1 Yba.underlying22 hi5 hz0 hz1 .i64 .i64 _ _ (N * 128) rfl rfl (by omega) (by omega) (by rw [hz2]; omega) (by unfold maxLen; omega) (Nat.le_refl _) ?_; intro wb hownb hgb)
  have flat0 : Flat wb w.heap.size (N * 128) (byteF ids 0) := Flat.of_own hownb (fun i hi => by rw [made_at _ _ (by omega)]; unfold byteF; rw [if_neg (by omega)])
  have bel0 : Below w.heap.size w wb := (Below.refl _ w).grown hgb (Nat.le_refl _) (fun j hj => by cases hj)
  clear hownb hgb
  go_loopw [44] (fun v wr => ∃ k : Nat, k ≤ N ∧ v = .int .i64 k ∧ Flat wr w.heap.size (N * 128) (byteF ids k) ∧ Below w.heap.size w wr) (fun v _ => N - (intOf v).toNat)
  case atStart => exact ⟨0, Nat.zero_le _, rfl, flat0, bel0⟩
  case round =>
    obtain ⟨k, hk, rfl, fl, bel⟩ := hrel
    clear flat0 bel0
    by_cases hlt : k < N
    · obtain ⟨rfl, hAb⟩ := hA (by omega)
      have cA : wr.cell? ⟨Ab, Ao + k, none⟩ = some (.int .u8 (ids k)) := (bel.cell (p := ⟨Ab, Ao + k, none⟩) hAb).trans (hAc k hlt)
      have cB := (fl.2 (k * 128) (by omega)).1
      have fB := (fl.2 (k * 128) (by omega)).2
      have k1 : (k : Int) < (N : Int) := by omega
      have k2 : (k : Int) * 128 < ((N * 128 : Nat) : Int) := by omega
      go_wp2
      go_roundw
      case rel => exact ⟨k + 1, by omega, by simp, (fl.set (k * 128) (by omega) _).congr (fun i _ => byteF_step ids k i), bel.setCell (Nat.le_refl _) _⟩
      case measure => simp [intOf]; omega
    · obtain rfl : k = N := by omega
      have k1 : ¬ (k : Int) < (k : Int) := by omega
      obtain ⟨p, hp⟩ : ∃ p : Nat, per % 4 + 1 = (p : Int) := ⟨(per % 4 + 1).toNat, by omega⟩
      obtain ⟨F, hF⟩ : ∃ F : Nat, f % ((k : Int) + 1) = (F : Int) := ⟨(f % ((k : Int) + 1)).toNat, by have := Int.emod_nonneg f (by omega : (k : Int) + 1 ≠ 0); omega⟩
      have hFk : F ≤ k := by have := Int.emod_lt_of_pos f (by omega : (0 : Int) < (k : Int) + 1); omega
      obtain ⟨n, hn⟩ : ∃ n : Nat, m % ((k : Int) - (F : Int) + 1) = (n : Int) := ⟨(m % ((k : Int) - (F : Int) + 1)).toNat, by have := Int.emod_nonneg m (by omega : (k : Int) - (F : Int) + 1 ≠ 0); omega⟩
      have hnk : F + n ≤ k := by have := Int.emod_lt_of_pos m (by omega : (0 : Int) < (k : Int) - (F : Int) + 1); omega
      have hp1 : 1 ≤ p := by omega
      have hp4 : p ≤ 4 := by omega
      go_wp2_with fail
      refine (take_any p w.heap.size k (p * 128) hp1 (by omega) (by omega) (by omega) hN wr fl.1).mono ?_
      rintro e w2 ⟨xa, xm, xc, ya, ym, yc, nc, rfl, hnc, hnn, own2, bel2⟩
      have fl2 := fl.below bel2 fl.1
      have belw2 := bel.trans (bel2.mono bel.size)
      have gwr := fl.1
      clear fl bel
      go_wp2_with fail
      refine (newIdx_any _).mono ?_
      rintro e w3 ⟨rfl, c36, rfl⟩
      go_wp2_with (first
        | (refine wpList_alloc_letter _ rfl 38 rfl zeros (alloc38 _) ?_; intro w4 hw4)
        | (refine wpList_alloc_letter _ rfl 39 rfl falses (alloc39 _) ?_; intro w5 hw5))
      have st := stage_start hp1 hp4 hN hnc hnn hw4.out hw5.out fl2 own2 belw2
      generalize w2.heap.size = T at *
      generalize w4.heap.size = HB at *
      clear hw4 hw5 fl2 own2 belw2 bel2
      go_loopw [80] (fun v wr => ∃ (j : Nat) (D : DataW Unit) (E : Nat → Int) (Hs : Nat → Bool), j ≤ M ∧ v = .int .i64 j ∧ Stage w wr (T + 1 + 1) (T + 1 + 1 + 1) (T + 1 + 1 + 1 + 1) HB T p w.heap.size k ids j D E Hs ∧ Agrees D E Hs) (fun v _ => M - (intOf v).toNat)
      case atStart => exact ⟨0, _, _, _, Nat.zero_le _, rfl, st, agrees_empty _⟩
      case round =>
        obtain ⟨j, D, E, Hs, hj, rfl, st1, ag⟩ := hrel
        by_cases hlt : j < M
        · obtain ⟨rfl, hPb⟩ := hP (by omega)
          obtain ⟨q0, q1⟩ := hpre j hlt
          have cP := (st1.bel.cell (p := ⟨Pb, Po + j, none⟩) hPb).trans (hPc j hlt)
          obtain ⟨v, hv⟩ : ∃ v : Nat, pre j = (v : Int) := ⟨(pre j).toNat, by omega⟩
          rw [hv] at cP
          have hv256 : v < 256 := by omega
          have cX := st1.x
          have k1 : (j : Int) < (M : Int) := by omega
          have k3 : (v : Int) < 256 := by omega
          have hown := st1.own
          have o4 := st1.o4
          have hkey : keyOf Yba.prog 31 (.agg #[.int .u64 0, .int .u64 (v : Int)]) = some (kl v) := key_at v (by omega) (by omega)
          go_wp2_with (at_mapUpdate; refine wpList_mapUpdate_own _ rfl _ _ _ 34 rfl 31 3 law31 Yba.underlying34 _ (T + 1 + 1) j _ rfl hown (by unfold maxLen; omega) _ _ _ rfl rfl hkey _ [] (plainElem_int Yba.underlying3 (WalkArith.wf_i64 (by omega))) ?_; intro w1 hown1 hgrow1; have st2 := st1.turn hgrow1 hown1; have ce := (st2.fe.2 v hv256).1; have fe := (st2.fe.2 v hv256).2; have ch := (st2.fh.2 v hv256).1; have fh := (st2.fh.2 v hv256).2)
          have ag2 := ag.put hv256 (-1 - (j : Int))
          have st3 := st2.mark hv256 (-1 - (j : Int))
          go_roundw
          case rel => exact ⟨j + 1, _, _, _, by omega, by simp, st3, ag2⟩
          case measure => simp [intOf]; omega
        · obtain rfl : j = M := by omega
          have k1 : ¬ (j : Int) < (j : Int) := by omega
          clear st
          go_wp2_with fail
          go_loopw [23] (fun v wr => ∃ i : Nat, F ≤ i ∧ i ≤ F + n ∧ v = .int .i64 i ∧ Stage w wr (T + 1 + 1) (T + 1 + 1 + 1) (T + 1 + 1 + 1 + 1) HB T p w.heap.size k ids j D (expTo E ids F (i - F)) (hasTo Hs ids F (i - F))) (fun v _ => F + n - (intOf v).toNat)
          case atStart => exact ⟨F, Nat.le_refl _, by omega, rfl, by rw [Nat.sub_self]; exact st1⟩
          case round =>
            obtain ⟨i, hi0, hi, rfl, st2⟩ := hrel
            have k4 : (F : Int) + (n : Int) ≤ 1024 := by omega
            by_cases hlt : i < F + n
            · obtain ⟨rfl, hAb⟩ := hA (by omega)
              obtain ⟨q0, q1⟩ := hids i (by omega)
              have cA := (st2.bel.cell (p := ⟨Ab, Ao + i, none⟩) hAb).trans (hAc i (by omega))
              obtain ⟨v, hv⟩ : ∃ v : Nat, ids i = (v : Int) := ⟨(ids i).toNat, by omega⟩
              rw [hv] at cA
              have hv256 : v < 256 := by omega
              have k2 : (i : Int) < (F : Int) + (n : Int) := by omega
              have k5 : (i : Int) < (k : Int) := by omega
              have k3 : (v : Int) < 256 := by omega
              have o4 := st2.o4
              have ce := (st2.fe.2 v hv256).1
              have fe := (st2.fe.2 v hv256).2
              have ch := (st2.fh.2 v hv256).1
              have fh := (st2.fh.2 v hv256).2
              have HV : Hid (ids i = (v : Int)) := hv
              clear hv
              go_wp2
              go_roundw
              case rel => exact ⟨i + 1, by omega, by omega, by simp, st2.run hi0 HV.out hv256⟩
              case measure => simp [intOf]; omega
            · obtain rfl : i = F + n := by omega
              have k2 : ¬ ((F + n : Nat) : Int) < (F : Int) + (n : Int) := by omega
              rw [Nat.add_sub_cancel_left] at st2
              have st3 := st2.alloc (.cells #[.int .i64 F, .int .i64 n, .int .u64 0, .int .u64 0, .int .u64 0, .int .u64 0] 33)
              have ag4 := agrees_run ag ids F n (fun x hx => hids (F + x) (by omega))
              have hXs : T + 1 + 1 + 1 < (wr.alloc (.cells #[.int .i64 F, .int .i64 n, .int .u64 0, .int .u64 0, .int .u64 0, .int .u64 0] 33)).heap.size := by have := st3.fe.1; omega
              go_wp2_with fail
              refine (put_any hp1 hp4 hN hnk (by omega) hids _ st3.recs hXs (by omega) st3.x st3.own _ _ _ _).mono ?_
              rintro e w6 ⟨rfl, own6, g6⟩
              have st4 := st3.turn g6 own6
              clear own6 g6 st3 hXs st2 st1 ag
              generalize putsTo D ids F n = D6 at *
              generalize expTo E ids F n = E6 at *
              generalize hasTo Hs ids F n = H6 at *
              go_wp2_with fail
              go_loop [26, 27] (fun c v => ∃ u : Nat, u ≤ 256 ∧ v = .int .i64 u ∧ c = .int .i64 (cnt H6 u)) (fun _ v => 256 - (intOf v).toNat)
              case atStart => exact ⟨0, by omega, rfl, rfl⟩
              case round =>
                obtain ⟨u, hu, rfl, rfl⟩ := hrel
                have cX := st4.x
                have cb := cnt_le H6 u
                by_cases hlt : u < 256
                · have k2 : (u : Int) < 256 := by omega
                  have ce : w6.cell? ⟨T + 1 + 1 + 1 + 1, u, none⟩ = some (.int .i64 (E6 u)) := (st4.fe.2 u hlt).1
                  have ch : w6.cell? ⟨HB, u, none⟩ = some (.bool (H6 u)) := (st4.fh.2 u hlt).1
                  cases hh : H6 u with
                  | false =>
                    rw [hh] at ch
                    have hc : cnt H6 (u + 1) = cnt H6 u := by simp [cnt, hh]
                    have HC : Hid (cnt H6 (u + 1) = cnt H6 u) := hc
                    clear hc
                    go_wp2
                    go_round
                    case rel => exact ⟨u + 1, by omega, by simp, by rw [HC.out]⟩
                    case measure => simp [intOf]; omega
                  | true =>
                    rw [hh] at ch
                    have hc : cnt H6 (u + 1) = cnt H6 u + 1 := by simp [cnt, hh]
                    have HC : Hid (cnt H6 (u + 1) = cnt H6 u + 1) := hc
                    clear hc
                    have hok := (ag4.has u hlt).trans hh
                    have hval := ag4.val u hlt hh
                    have HV : Hid (D6.atKey (kl u) (.lit (.int .i64 0)) = .lit (.int .i64 (E6 u))) := hval
                    clear hval
                    have hkey : keyOf Yba.prog 31 (.agg #[.int .u64 0, .int .u64 (u : Int)]) = some (kl u) := key_at u (by omega) (by omega)
                    have hown := st4.own
                    go_wp2_with (at_lookup; refine wpList_lookup_own_ok_int _ rfl _ _ 34 rfl 31 3 .i64 law31 Yba.underlying34 Yba.underlying3 (zero3 _) (T + 1 + 1) (j + n) _ rfl hown _ _ rfl hkey ?_; intro cc hat hwc; obtain rfl : cc = E6 u := (by have := HV.out.symm.trans hat; simpa using this.symm))
                    go_round
                    case rel => exact ⟨u + 1, by omega, by simp, by rw [HC.out]; simp⟩
                    case measure => simp [intOf]; omega
                · obtain rfl : u = 256 := by omega
                  have hsz : (Maps.size D6 : Int) = (cnt H6 256 : Int) := by rw [ag4.size]
                  have hown := st4.own
                  have hbel := st4.bel
                  go_wp2_with (at_len; refine wpList_len_own _ rfl _ 34 rfl 31 3 Yba.underlying34 _ (T + 1 + 1) (j + n) D6 rfl hown ?_)
                  go_ret
                  exact ⟨rfl, hbel⟩
theorem law_long1 (A : Option Addr) (N capA : Nat) (Pa : Option Addr) (M capP : Nat) (per f m : Int) (w : World) (hN : 1024 < N) :
    Calls Yba.prog 3 #[.slice A N capA, .slice Pa M capP, .int .u8 per, .int .u8 f, .int .u8 m] w fun e w' => e = .returned (.bool true) ∧ Below w.heap.size w w' := by
  have n1 : (1024 : Int) < (N : Int) := by omega
  go_enter Yba.func3, Yba.ntmps3
  go_wp2
  go_ret
  exact ⟨rfl, Below.refl _ _⟩

theorem law_long2 (A : Option Addr) (N capA : Nat) (Pa : Option Addr) (M capP : Nat) (per f m : Int) (w : World) (hN : N ≤ 1024) (hM : 1024 < M) :
    Calls Yba.prog 3 #[.slice A N capA, .slice Pa M capP, .int .u8 per, .int .u8 f, .int .u8 m] w fun e w' => e = .returned (.bool true) ∧ Below w.heap.size w w' := by
  have n1 : decide ((1024 : Int) < (N : Int)) = false := decide_eq_false (by omega)
  have n3 : ¬ (1024 : Int) < (N : Int) := by omega
  have n2 : (1024 : Int) < (M : Int) := by omega
  go_enter Yba.func3, Yba.ntmps3
  go_wp2
  go_ret
  exact ⟨rfl, Below.refl _ _⟩

end Go.Proofs.Ybulkarvi.stores
