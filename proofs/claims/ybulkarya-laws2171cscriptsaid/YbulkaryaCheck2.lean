/-
  zzs2171ccheck.
-/
import Derived.Test.YbulkaryaRank
namespace Go.Proofs.Ybulkarya.script
set_option linter.unusedVariables false
set_option linter.unusedSimpArgs false
open Go.RowKit Go.Proofs.Ybulkarya.forget

theorem BM.cells {w : World} {BB LB : Nat} {H : Nat → Bool} {V : Nat → Int} (h : BM w BB LB H V) : w.cell? ⟨BB, 0, none⟩ = some (.int .u64 (mask H 64)) ∧ ∃ sp cap, w.cell? ⟨BB, 1, none⟩ = some (.slice sp (cn H 64) cap) ∧ ∀ q, q < 64 → H q = true → ∃ g, sp = some ⟨g, 0, none⟩ ∧ w.cell? ⟨g, cn H q, none⟩ = some (.int .i64 (V q)) := by
  obtain ⟨v, F, h1, h2, h3⟩ := h
  refine ⟨by rw [cell_of_row _ _ _ _ _ _ h1]; rfl, ?_⟩
  have c1 : w.cell? ⟨BB, 1, none⟩ = some v := by rw [cell_of_row _ _ _ _ _ _ h1]; rfl
  rcases h2 with ⟨rfl, h0⟩ | ⟨g, cap, f, rfl, a1, a2, a3, a4, a5⟩
  · refine ⟨none, 0, by rw [h0]; exact c1, fun q hq hH => ?_⟩
    have := cn_lt H q 64 hq hH
    omega
  · refine ⟨_, cap, c1, fun q hq hH => ⟨g, rfl, ?_⟩⟩
    have := cn_lt H q 64 hq hH
    rw [a4.cell (by omega), a5 _ this, h3 q hq hH]

set_option maxHeartbeats 2000000 in
set_option maxRecDepth 100000 in
theorem check_any {w : World} {BB LB HV VV : Nat} {H : Nat → Bool} {V : Nat → Int} (bm : BM w BB LB H V) (hh : Rw w HV 57 64 (fun i => .bool (H i))) (hv : Rw w VV 58 64 (fun i => .int .i64 (V i))) :
    Calls Yba.prog 9 #[.pointer (some ⟨BB, 0, none⟩), .pointer (some ⟨HV, 0, none⟩), .pointer (some ⟨VV, 0, none⟩)] w fun e w' => e = .returned (.bool true) ∧ ∃ m, w' = w.drewN m := by
  obtain ⟨c0, sp, cap, c1, hget⟩ := bm.cells
  go_enter Yba.func9, Yba.ntmps9
  go_wp2_with fail
  go_loopw [7, 8, 9] (fun v7 v8 v9 wr => ∃ q : Nat, q ≤ 64 ∧ v9 = .int .i64 q ∧ v8 = .int .i64 (cn H q) ∧ v7 = .int .u64 (mask H q) ∧ ∃ m, wr = w.drewN m) (fun _ _ v _ => 64 - (intOf v).toNat)
  case atStart => exact ⟨0, by omega, rfl, rfl, rfl, 0, rfl⟩
  case round =>
    obtain ⟨q, hq, rfl, rfl, rfl, mm, hw⟩ := hrel
    have tr : ∀ a, wr.cell? a = w.cell? a := fun a => by rw [hw]; rfl
    have HW : Hid (∀ k, ∃ m, wr.drewN k = w.drewN m) := fun k => ⟨mm + k, by rw [hw]; simp⟩
    have HW0 : Hid (wr = w.drewN mm) := hw
    have C0 : wr.cell? ⟨BB, 0, none⟩ = some (.int .u64 (mask H 64)) := (tr _).trans c0
    have C1 : wr.cell? ⟨BB, 1, none⟩ = some (.slice sp (cn H 64) cap) := (tr _).trans c1
    have hN := cn_le H 64
    have hNq := cn_le H q
    by_cases hlt : q < 64
    · have k2 : (q : Int) < 64 := by omega
      have cH : wr.cell? ⟨HV, q, none⟩ = some (.bool (H q)) := (tr _).trans (hh.cell hlt)
      have cV : wr.cell? ⟨VV, q, none⟩ = some (.int .i64 (V q)) := (tr _).trans (hv.cell hlt)
      cases hHq : H q with
      | true =>
        rw [hHq] at cH
        obtain ⟨g, rfl, cg⟩ := hget q hlt hHq
        have G := get_some BB q g (cn H 64) cap (V q) H hlt hHq wr C0 C1 (cn_lt H q 64 hlt hHq) hN ((tr _).trans cg)
        have eM : mask H (q + 1) = mask H q ||| 2 ^ q := by show mask H q ||| (if H q then 2 ^ q else 0) = _; rw [hHq]; rfl
        have eC : cn H (q + 1) = cn H q + 1 := by rw [cn_succ, hHq]; rfl
        have e1 := shl_q q hlt
        have e2 : bits .or .u64 ((mask H q : Nat) : Int) ((2 ^ q : Nat) : Int) = ((mask H (q + 1) : Nat) : Int) := by
          rw [eM]
          exact bits_or_u64_nat _ _ (Nat.lt_of_lt_of_le (mask_lt H q) (Nat.le_of_lt (two_q q hlt))) (two_q q hlt)
        have GH : Hid (Calls Yba.prog 11 #[.pointer (some ⟨BB, 0, none⟩), .int .i64 q] wr fun e w' => e = .returned (.int .i64 (V q)) ∧ ∃ m, w' = wr.drewN m) := G
        clear tr hw hget G eM hHq cg C0 C1
        generalize hM1 : mask H (q + 1) = M1 at *
        generalize mask H q = M0 at *
        generalize 2 ^ q = T at *
        generalize cn H q = C at *
        have k3 : (C : Int) ≤ 64 := by omega
        go_wp2_with fail
        refine GH.out.mono ?_
        rintro e w' ⟨rfl, m2, rfl⟩
        go_wp2
        go_roundw
        case rel => exact ⟨q + 1, by omega, by simp, by rw [eC]; simp, by rw [hM1], HW.out _⟩
        case measure => simp [intOf]; omega
      | false =>
        rw [hHq] at cH
        have G := get_none BB q H hlt hHq wr C0
        have eM : mask H (q + 1) = mask H q := by show mask H q ||| (if H q then 2 ^ q else 0) = _; rw [hHq]; simp
        have eC : cn H (q + 1) = cn H q := by rw [cn_succ, hHq]; rfl
        have GH : Hid (Calls Yba.prog 11 #[.pointer (some ⟨BB, 0, none⟩), .int .i64 q] wr fun e w' => e = .returned (.int .i64 0) ∧ ∃ m, w' = wr.drewN m) := G
        clear tr hw hget G hHq C0 C1
        go_wp2_with fail
        refine GH.out.mono ?_
        rintro e w' ⟨rfl, m2, rfl⟩
        go_wp2
        go_roundw
        case rel => exact ⟨q + 1, by omega, by simp, by rw [eC], by rw [eM], HW.out _⟩
        case measure => simp [intOf]; omega
    · obtain rfl : q = 64 := by omega
      have G := modes_any BB (mask H 64) wr C0
      have GH : Hid (Calls Yba.prog 12 #[.pointer (some ⟨BB, 0, none⟩)] wr fun e w' => e = .returned (.int .u64 (mask H 64)) ∧ w' = wr) := G
      clear tr hw hget G
      generalize mask H 64 = M0 at *
      generalize cn H 64 = C at *
      go_wp2_with fail
      refine GH.out.mono ?_
      rintro e w' ⟨rfl, rfl⟩
      go_wp2
      go_ret
      exact ⟨rfl, mm, HW0.out⟩
end Go.Proofs.Ybulkarya.script
