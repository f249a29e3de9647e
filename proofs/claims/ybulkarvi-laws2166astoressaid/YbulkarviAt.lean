/-
  (*records).at: the record's 128 bytes, in place.
-/
import Derived.Test.YbulkarviId
namespace Go.Proofs.Ybulkarvi.stores
set_option linter.unusedVariables false
open Go.RowKit

set_option maxHeartbeats 1000000 in
/-- One chunk's record, its number's quotient and rest under names. -/
theorem at_walk (T gc gb i p q r nc cc l o : Nat) (w : World) (hp : 1 ≤ p) (hp4 : p ≤ 4) (hi : i ≤ 1024) (hq : (i : Int) / (p : Int) = (q : Int)) (hr : (i : Int) % (p : Int) = (r : Int)) (hqn : q < nc) (hnc : nc ≤ 1024)
    (hrl : r * 128 + 128 ≤ l) (hl : l ≤ 512)
    (c0 : w.cell? ⟨T, 0, none⟩ = some (.int .i64 p)) (c1 : w.cell? ⟨T, 1, none⟩ = some (.slice (some ⟨gc, 0, none⟩) nc cc))
    (hc : w.cell? ⟨gc, q, none⟩ = some (.slice (some ⟨gb, o, none⟩) l l)) :
    Calls Yba.prog 19 #[.pointer (some ⟨T, 0, none⟩), .int .i64 i] w fun e w' => e = .returned (.slice (some ⟨gb, o + r * 128, none⟩) 128 (l - r * 128)) ∧ ∃ k, w' = w.drewN k := by
  have k1 : (q : Int) < (nc : Int) := by omega
  have k2 : (r : Int) * 128 ≤ (l : Int) := by omega
  have k3 : (r : Int) * 128 < (l : Int) := by omega
  have k4 : (128 : Int) ≤ ((l - r * 128 : Nat) : Int) := by omega
  have k5 : r * 128 < l := by omega
  have hp0 : ¬ (p : Int) = 0 := by omega
  go_enter Yba.func19, Yba.ntmps19
  go_wp2
  go_quiet (fail)
  go_wp2
  go_ret
  exact ⟨rfl, nq, rfl⟩

/-- WHAT THE RECORDS ARE GOOD FOR: block T holds the struct, block gb the bytes; record i's bytes open with its id, then fifteen noughts at least; its chunk is found at i / p. All blocks lie below B. -/
structure Recs (w : World) (B T p gb N : Nat) (ids : Nat → Int) : Prop where
  hT : T < B
  hgb : gb < B
  hB : B ≤ w.heap.size
  per : w.cell? ⟨T, 0, none⟩ = some (.int .i64 p)
  bytes : ∀ i, i < N → w.cell? ⟨gb, i * 128, none⟩ = some (.int .u8 (ids i)) ∧ ∀ j, 1 ≤ j → j < 128 → w.cell? ⟨gb, i * 128 + j, none⟩ = some (.int .u8 0)
  chunks : 0 < N → ∃ gc nc cc, gc < B ∧ w.cell? ⟨T, 1, none⟩ = some (.slice (some ⟨gc, 0, none⟩) nc cc) ∧ nc ≤ 1024 ∧
    ∀ i, i < N → i / p < nc ∧ ∃ l, w.cell? ⟨gc, i / p, none⟩ = some (.slice (some ⟨gb, i / p * (p * 128), none⟩) l l) ∧ i % p * 128 + 128 ≤ l ∧ l ≤ 512

theorem Recs.below {w w' : World} {B T p gb N : Nat} {ids : Nat → Int} (h : Recs w B T p gb N ids) (hb : Below B w w') : Recs w' B T p gb N ids where
  hT := h.hT
  hgb := h.hgb
  hB := Nat.le_trans h.hB hb.size
  per := (hb.cell (p := ⟨T, 0, none⟩) h.hT).trans h.per
  bytes := fun i hi => ⟨(hb.cell (p := ⟨gb, i * 128, none⟩) h.hgb).trans (h.bytes i hi).1, fun j h1 h2 => (hb.cell (p := ⟨gb, i * 128 + j, none⟩) h.hgb).trans ((h.bytes i hi).2 j h1 h2)⟩
  chunks := fun hN => by
    obtain ⟨gc, nc, cc, h1, h2, h3, h4⟩ := h.chunks hN
    refine ⟨gc, nc, cc, h1, (hb.cell (p := ⟨T, 1, none⟩) h.hT).trans h2, h3, fun i hi => ?_⟩
    obtain ⟨h5, l, h6, h7, h8⟩ := h4 i hi
    exact ⟨h5, l, (hb.cell (p := ⟨gc, i / p, none⟩) h1).trans h6, h7, h8⟩

theorem off_eq (i p : Nat) : i / p * (p * 128) + i % p * 128 = i * 128 := by
  have h := Nat.div_add_mod i p
  have e : i / p * (p * 128) = p * (i / p) * 128 := by rw [← Nat.mul_assoc, Nat.mul_comm (i / p) p]
  rw [e, ← Nat.add_mul, h]

/-- (*records).at: record i, in place. -/
theorem at_any {B T p gb N : Nat} {ids : Nat → Int} (hp : 1 ≤ p) (hp4 : p ≤ 4) (hN : N ≤ 1024) (i : Nat) (hi : i < N) (w : World) (R : Recs w B T p gb N ids) :
    Calls Yba.prog 19 #[.pointer (some ⟨T, 0, none⟩), .int .i64 i] w fun e w' => ∃ c, e = .returned (.slice (some ⟨gb, i * 128, none⟩) 128 c) ∧ 128 ≤ c ∧ c ≤ 512 ∧ ∃ k, w' = w.drewN k := by
  obtain ⟨gc, nc, cc, h1, h2, h3, h4⟩ := R.chunks (by omega)
  obtain ⟨h5, l, h6, h7, h8⟩ := h4 i hi
  refine (at_walk T gc gb i p (i / p) (i % p) nc cc l (i / p * (p * 128)) w hp hp4 (by omega) (by simp) (by simp) h5 h3 h7 h8 R.per h2 h6).mono ?_
  rintro e w' ⟨he, k, hk⟩
  rw [off_eq] at he
  exact ⟨l - i % p * 128, he, by omega, by omega, k, hk⟩

theorem bcell {W w1 : World} (hb : Below W.heap.size W w1) : (∀ b o, b < W.heap.size → w1.cell? ⟨b, o, none⟩ = W.cell? ⟨b, o, none⟩) ∧ (∀ b o, b < W.heap.size → w1.frozen? ⟨b, o, none⟩ = W.frozen? ⟨b, o, none⟩) :=
  ⟨fun b o h => hb.cell (p := ⟨b, o, none⟩) h, fun b o h => hb.frozen (p := ⟨b, o, none⟩) h⟩

theorem Recs.head {w : World} {B T p gb N : Nat} {ids : Nat → Int} (h : Recs w B T p gb N ids) {i : Nat} (hi : i < N) : Bytes8 w gb (i * 128) (ids i) :=
  ⟨Nat.lt_of_lt_of_le h.hgb h.hB, (h.bytes i hi).1, fun j h1 h2 => (h.bytes i hi).2 j h1 (by omega)⟩
theorem Recs.next {w : World} {B T p gb N : Nat} {ids : Nat → Int} (h : Recs w B T p gb N ids) {i : Nat} (hi : i < N) : Bytes8 w gb (i * 128 + 8) 0 :=
  ⟨Nat.lt_of_lt_of_le h.hgb h.hB, (h.bytes i hi).2 8 (by omega) (by omega), fun j h1 h2 => by rw [Nat.add_assoc]; exact (h.bytes i hi).2 (8 + j) (by omega) (by omega)⟩

set_option maxHeartbeats 1000000 in
/-- (*records).id: the id of record i. -/
theorem id_any {B T p gb N : Nat} {ids : Nat → Int} (hp : 1 ≤ p) (hp4 : p ≤ 4) (hN : N ≤ 1024) (i : Nat) (hi : i < N) (hid0 : 0 ≤ ids i) (hid : ids i ≤ 255) (w : World) (R : Recs w B T p gb N ids) :
    Calls Yba.prog 15 #[.pointer (some ⟨T, 0, none⟩), .int .i64 i] w fun e w' => e = .returned (.agg #[.int .u64 0, .int .u64 (ids i)]) ∧ Below w.heap.size w w' := by
  have hB := R.hB
  have hgb := R.hgb
  have R1 := R.below ((Below.refl B w).alloc hB (.cells #[.int .u64 0, .int .u64 0] 31))
  go_enter Yba.func15, Yba.ntmps15
  go_wp2_with fail
  refine (at_any hp hp4 hN i hi _ R1).mono ?_
  rintro e w' ⟨c, rfl, hc1, hc2, k, rfl⟩
  have m1 : (128 : Int) ≤ c := by omega
  have m2 : (0 : Int) < c := by omega
  have m3 : 0 < c := by omega
  have R2 := R1.below (below_drewN (Below.refl B _) k)
  go_wp2_with fail
  refine (fromBytes gb (i * 128) 128 c (ids i) hid0 hid (by omega) (by omega) (by omega) _ (R2.head hi) (R2.next hi)).mono ?_
  rintro e w2 ⟨rfl, hb⟩
  obtain ⟨hc, hf⟩ := bcell hb
  have hz : w.heap.size < w2.heap.size := by have := hb.size; simp at this; omega
  go_wp2
  have q := two_cells w2 w.heap.size (.int .u64 0) (.int .u64 (ids i)) (.int .u64 0) (.int .u64 0) (by rw [hc _ _ (by simp)]; exact World.cell?_alloc_at _ _ _ _ rfl) (by rw [hc _ _ (by simp)]; exact World.cell?_alloc_at _ _ _ _ rfl)
  refine bodyPost_ret (v := .agg #[.int .u64 0, .int .u64 (ids i)]) (by simp [results, Yba.results15, go_sem, q.1, q.2]) rfl ⟨rfl, ?_⟩
  exact (((below_drewN ((Below.refl _ w).alloc (Nat.le_refl _) _) k).trans (hb.mono (by simp))).setCell (Nat.le_refl _) _).setCell (Nat.le_refl _) _
end Go.Proofs.Ybulkarvi.stores
