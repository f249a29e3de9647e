/-
  (*transferIndex).putInOthers: the run's records go into the map, one after another.
-/
import Derived.Test.YbulkarviAt
import Derived.Test.YbulkarviMap
import Derived.LoopTactic
import Derived.Maps.AppendAt
namespace Go.Proofs.Ybulkarvi.stores
set_option linter.unusedVariables false
open Go.RowKit Go.Maps

theorem grown_below {w w' : World} {b : Nat} (h : w.grownBy w' (some b)) (hb : b ≤ w.heap.size) : Below b w w' :=
  ⟨h.os, h.tape, h.output, h.size, fun k hk => h.block k (by omega) (fun e => by simp at e; omega)⟩

theorem below_grown {w w' : World} (h : Below w.heap.size w w') (row : Option Nat) : w.grownBy w' row :=
  ⟨h.os, h.tape, h.output, h.size, fun k hk _ => h.block k hk⟩

theorem puts_step {D : DataW Unit} {ids : Nat → Int} {first k : Nat} (h : first ≤ k) : putsTo D ids first (k + 1 - first) = (putsTo D ids first (k - first)).put (kl (ids k)) (.lit (.int .i64 k)) := by
  have e : k + 1 - first = (k - first) + 1 := by omega
  have e2 : first + (k - first) = k := by omega
  rw [e, putsTo, e2]

theorem put_round {W wr w2 w3 : World} {bm m first k n : Nat} {ids : Nat → Int} {D : DataW Unit} (hk0 : first ≤ k) (hlt : k < first + n) (hg : W.grownBy wr (some bm)) (hb : Below wr.drew.heap.size wr.drew w2)
    (hown3 : w3.ownsMap Yba.prog 31 (plainElem Yba.prog 3) bm (m + (k - first) + 1) ((putsTo D ids first (k - first)).put (kl (ids k)) (.lit (.int .i64 k)))) (hg3 : w2.grownBy w3 (some bm)) :
    ∃ k1 : Nat, first ≤ k1 ∧ k1 ≤ first + n ∧ Value.int .i64 ((k : Int) + 1) = .int .i64 k1 ∧ w3.ownsMap Yba.prog 31 (plainElem Yba.prog 3) bm (m + (k1 - first)) (putsTo D ids first (k1 - first)) ∧ W.grownBy w3 (some bm) := by
  have g1 : wr.grownBy w2 (some bm) := ⟨hb.os, hb.tape, hb.output, hb.size, fun k hk _ => hb.block k hk⟩
  have e : m + (k + 1 - first) = m + (k - first) + 1 := by omega
  exact ⟨k + 1, by omega, by omega, by simp, by rw [puts_step hk0, e]; exact hown3, (hg.trans g1).trans hg3⟩

set_option maxHeartbeats 2000000 in
theorem put_any {bm X T p gb N m first n : Nat} {ids : Nat → Int} {D : DataW Unit} (hp : 1 ≤ p) (hp4 : p ≤ 4) (hN : N ≤ 1024) (hfn : first + n ≤ N) (hm : m ≤ 4096) (hids : ∀ i, i < N → 0 ≤ ids i ∧ ids i ≤ 255)
    (w : World) (R : Recs w bm T p gb N ids) (hXs : X < w.heap.size) (hXb : X ≠ bm) (hx : w.cell? ⟨X, 10, none⟩ = some (.map (some bm))) (hown : w.ownsMap Yba.prog 31 (plainElem Yba.prog 3) bm m D) (r2 r3 r4 r5 : Value) :
    Calls Yba.prog 9 #[.pointer (some ⟨X, 0, none⟩), .pointer (some ⟨T, 0, none⟩), .agg #[.int .i64 first, .int .i64 n, r2, r3, r4, r5]] w fun e w' =>
      e = .returned (.tuple #[]) ∧ w'.ownsMap Yba.prog 31 (plainElem Yba.prog 3) bm (m + n) (putsTo D ids first n) ∧ w.grownBy w' (some bm) := by
  have hbs := R.hB
  have hbl := hown.lt
  go_enter Yba.func9, Yba.ntmps9
  go_wp2
  go_loopw [6] (fun i wr => ∃ k : Nat, first ≤ k ∧ k ≤ first + n ∧ i = .int .i64 k ∧ wr.ownsMap Yba.prog 31 (plainElem Yba.prog 3) bm (m + (k - first)) (putsTo D ids first (k - first)) ∧ (w.alloc (.cells #[.int .i64 first, .int .i64 n, r2, r3, r4, r5] 33)).grownBy wr (some bm))
    (fun i _ => first + n - (intOf i).toNat)
  case atStart => exact ⟨first, Nat.le_refl _, by omega, rfl, by rw [Nat.sub_self]; exact hown.alloc _, World.grownBy.refl _ _⟩
  case round =>
    obtain ⟨k, hk0, hk, rfl, hownr, hg⟩ := hrel
    have cb0 : wr.cell? ⟨w.heap.size, 0, none⟩ = some (.int .i64 first) := hg.cell (World.cell?_alloc_at _ _ _ _ rfl) (by simp; omega)
    have cb1 : wr.cell? ⟨w.heap.size, 1, none⟩ = some (.int .i64 n) := hg.cell (World.cell?_alloc_at _ _ _ _ rfl) (by simp; omega)
    have k2 : (first : Int) + n ≤ 1024 := by omega
    by_cases hlt : k < first + n
    · have cx : wr.cell? ⟨X, 10, none⟩ = some (.map (some bm)) := hg.cell ((World.cell?_alloc_past _ _ _ hXs).trans hx) (by simpa using hXb)
      have Rr : Recs wr bm T p gb N ids := (R.below ((Below.refl bm w).alloc hbs _)).below (grown_below hg (by simp; omega))
      have k1 : (k : Int) < (first : Int) + n := by omega
      have hfk : k < N := by omega
      obtain ⟨i0, i255⟩ := hids k hfk
      have hbr : bm < wr.heap.size := hownr.lt
      have hXr : X < wr.heap.size := by have := hg.size; simp at this; omega
      have hkey : keyOf Yba.prog 31 (.agg #[.int .u64 0, .int .u64 (ids k)]) = some (kl (ids k)) := key_at _ i0 i255
      have hval : plainElem (H := Unit) Yba.prog 3 (.int .i64 k) = some (.lit (.int .i64 k), []) := plainElem_int Yba.underlying3 (WalkArith.wf_i64 (by omega))
      have hmm : m + (k - first) < maxLen := by unfold maxLen; omega
      have Rd := Rr.below (Below.refl bm wr).drew
      go_wp2_with fail
      go_region_with (go_at_call 15; refine (id_any hp hp4 hN k hfk i0 i255 _ Rd).mono ?_; rintro e w2 ⟨rfl, hb⟩; have cx2 : w2.cell? ⟨X, 10, none⟩ = some (.map (some bm)) := (hb.cell (p := ⟨X, 10, none⟩) hXr).trans cx; obtain ⟨w3, hrun, hown3, hg3⟩ := World.ownsMap.update (ownsMap_same hownr (hb.block bm hbr)) law31 Yba.underlying34 hmm hkey hval)
      all_goals (try go_wp2)
      all_goals go_roundw
      case rel => exact put_round hk0 hlt hg hb hown3 hg3
      case measure => simp [intOf]; omega
      case rel => exact put_round hk0 hlt hg hb hown3 hg3
      case measure => simp [intOf]; omega
    · have k3 : ¬ (k : Int) < (first : Int) + n := by omega
      obtain rfl : k = first + n := by omega
      rw [Nat.add_sub_cancel_left] at hownr
      go_wp2
      go_end0
      exact ⟨rfl, hownr, (World.grownBy_alloc w _ _).trans hg⟩
end Go.Proofs.Ybulkarvi.stores
