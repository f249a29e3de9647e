/-
  Reading an id: binary.LittleEndian.Uint64, Uint128FromBytes, (*records).at, (*records).id, over records whose first byte is the id and whose next fifteen are nought.
-/
import Derived.Test.YbulkarviRows
import Derived.WalkKit
import Derived.WalkSpells
import Derived.Deep.QuietTactic
import Derived.BigQuiet
import Derived.Deep.RegionWith
import Derived.Laws.Bits64b
import Derived.WalkSmall
import Derived.Below
namespace Go.Proofs.Ybulkarvi.stores
set_option linter.unusedVariables false
open Go.RowKit

theorem or_zero (v : Int) (h0 : 0 ≤ v) (h : v ≤ 255) : bits .or .u64 v 0 = v := by
  obtain ⟨n, rfl⟩ := Int.eq_ofNat_of_zero_le h0
  have := bits_or_u64_nat n 0 (by omega) (by omega)
  simpa using this

set_option maxHeartbeats 1000000 in
theorem le64 (g o n c : Nat) (v : Int) (hv0 : 0 ≤ v) (hv : v ≤ 255) (w : World) (hn : 8 ≤ n)
    (c0 : w.cell? ⟨g, o, none⟩ = some (.int .u8 v)) (c1 : w.cell? ⟨g, o + 1, none⟩ = some (.int .u8 0)) (c2 : w.cell? ⟨g, o + 2, none⟩ = some (.int .u8 0))
    (c3 : w.cell? ⟨g, o + 3, none⟩ = some (.int .u8 0)) (c4 : w.cell? ⟨g, o + 4, none⟩ = some (.int .u8 0)) (c5 : w.cell? ⟨g, o + 5, none⟩ = some (.int .u8 0))
    (c6 : w.cell? ⟨g, o + 6, none⟩ = some (.int .u8 0)) (c7 : w.cell? ⟨g, o + 7, none⟩ = some (.int .u8 0)) (hg : g < w.heap.size) :
    Calls Yba.prog 20 #[.agg #[], .slice (some ⟨g, o, none⟩) n c] w fun e w' => e = .returned (.int .u64 v) ∧ ∃ k, w' = (w.alloc (.cells #[] 57)).drewN k := by
  have hor : bits .or .u64 v 0 = v := or_zero v hv0 hv
  have n0 : 0 < n := by omega
  have n1 : (1 : Int) < (n : Int) := by omega
  have n2 : (2 : Int) < (n : Int) := by omega
  have n3 : (3 : Int) < (n : Int) := by omega
  have n4 : (4 : Int) < (n : Int) := by omega
  have n5 : (5 : Int) < (n : Int) := by omega
  have n6 : (6 : Int) < (n : Int) := by omega
  have n7 : (7 : Int) < (n : Int) := by omega
  go_enter Yba.func20, Yba.ntmps20
  go_wp2
  go_quiet (fail)
  go_wp2
  go_ret
  exact ⟨rfl, nq, rfl⟩

/-- Eight bytes that spell v, the least first: v, then noughts. -/
def Bytes8 (w : World) (g o : Nat) (v : Int) : Prop :=
  g < w.heap.size ∧ w.cell? ⟨g, o, none⟩ = some (.int .u8 v) ∧ ∀ j, 1 ≤ j → j < 8 → w.cell? ⟨g, o + j, none⟩ = some (.int .u8 0)

theorem Bytes8.below {w w' : World} {g o : Nat} {v : Int} (h : Bytes8 w g o v) (hb : Below w.heap.size w w') : Bytes8 w' g o v :=
  ⟨Nat.lt_of_lt_of_le h.1 hb.size, (hb.cell (p := ⟨g, o, none⟩) h.1).trans h.2.1, fun j h1 h2 => (hb.cell (p := ⟨g, o + j, none⟩) h.1).trans (h.2.2 j h1 h2)⟩

theorem Bytes8.alloc {w : World} {g o : Nat} {v : Int} (h : Bytes8 w g o v) (x : Obj) : Bytes8 (w.alloc x) g o v := h.below ((Below.refl _ _).alloc (Nat.le_refl _) _)
theorem Bytes8.drew {w : World} {g o : Nat} {v : Int} (h : Bytes8 w g o v) : Bytes8 w.drew g o v := h.below (Below.refl _ _).drew
theorem Bytes8.drewN {w : World} {g o : Nat} {v : Int} (h : Bytes8 w g o v) (n : Nat) : Bytes8 (w.drewN n) g o v := h.below (below_drewN (Below.refl _ _) n)

theorem le64' (g o n c : Nat) (v : Int) (hv0 : 0 ≤ v) (hv : v ≤ 255) (hn : 8 ≤ n) (w : World) (hb : Bytes8 w g o v) :
    Calls Yba.prog 20 #[.agg #[], .slice (some ⟨g, o, none⟩) n c] w fun e w' => e = .returned (.int .u64 v) ∧ ∃ k, w' = (w.alloc (.cells #[] 57)).drewN k :=
  le64 g o n c v hv0 hv w hn hb.2.1 (hb.2.2 1 (by omega) (by omega)) (hb.2.2 2 (by omega) (by omega)) (hb.2.2 3 (by omega) (by omega)) (hb.2.2 4 (by omega) (by omega)) (hb.2.2 5 (by omega) (by omega)) (hb.2.2 6 (by omega) (by omega)) (hb.2.2 7 (by omega) (by omega)) hb.1

/-- The result's two cells behind the two stores. -/
theorem two_cells (w1 : World) (B : Nat) (x y u v : Value) (h0 : w1.cell? ⟨B, 0, none⟩ = some u) (h1 : w1.cell? ⟨B, 1, none⟩ = some v) :
    ((w1.setCell ⟨B, 0, none⟩ x).setCell ⟨B, 1, none⟩ y).cell? ⟨B, 0, none⟩ = some x ∧ ((w1.setCell ⟨B, 0, none⟩ x).setCell ⟨B, 1, none⟩ y).cell? ⟨B, 1, none⟩ = some y := by
  refine ⟨?_, ?_⟩
  · rw [World.cell?_setCell_other _ _ _ _ (by simp)]
    exact World.cell?_setCell_same _ _ _ h0
  · refine World.cell?_setCell_same _ _ _ (u := v) ?_
    rw [World.cell?_setCell_other _ _ _ _ (by simp)]
    exact h1
theorem cell_18 (w : World) (a b : Value) (k k' i : Nat) :
    (((((w.alloc (.cells #[a, b] 31)).alloc (.cells #[] 57)).drewN (1 + k)).alloc (.cells #[] 57)).drewN k').cell? ⟨w.heap.size, i, none⟩ = #[a, b][i]? := by
  rw [World.cell?_drewN, World.cell?_alloc_past _ _ _ (by simp; omega), World.cell?_drewN, World.cell?_alloc_past _ _ _ (by simp), World.cell?_alloc_at _ _ _ _ rfl]

set_option maxHeartbeats 1000000 in
/-- Uint128FromBytes at sixteen bytes that spell v. -/
theorem fromBytes (g o n c : Nat) (v : Int) (hv0 : 0 ≤ v) (hv : v ≤ 255) (hn : 16 ≤ n) (hc : n ≤ c) (hcm : c ≤ 1000000) (w : World) (b0 : Bytes8 w g o v) (b1 : Bytes8 w g (o + 8) 0) :
    Calls Yba.prog 18 #[.slice (some ⟨g, o, none⟩) n c] w fun e w' => e = .returned (.agg #[.int .u64 0, .int .u64 v]) ∧ Below w.heap.size w w' := by
  have k1 : (8 : Int) ≤ c := by omega
  have k2 : (16 : Int) ≤ c := by omega
  have k3 : (8 : Int) < c := by omega
  have k4 : 8 < c := by omega
  have z255 : (0 : Int) ≤ 255 := by decide
  go_enter Yba.func18, Yba.ntmps18
  go_wp2
  go_region_with (first
    | (go_at_call_of 20 (Value.slice (some { block := g, off := o }) 8 c); refine (le64' g o 8 c v hv0 hv (Nat.le_refl 8) _ ?_).mono ?_; (repeat (first | exact b0 | with_reducible apply Bytes8.drewN | with_reducible apply Bytes8.drew | with_reducible apply Bytes8.alloc)); rintro e w' ⟨rfl, k, rfl⟩)
    | (go_at_call 20; refine (le64' g (o + 8) 8 (c - 8) 0 (Int.le_refl 0) z255 (Nat.le_refl 8) _ ?_).mono ?_; (repeat (first | exact b1 | with_reducible apply Bytes8.drewN | with_reducible apply Bytes8.drew | with_reducible apply Bytes8.alloc)); rintro e w' ⟨rfl, k', rfl⟩))
  all_goals (try go_wp2)
  all_goals (have q := two_cells (((((w.alloc (.cells #[.int .u64 0, .int .u64 0] 31)).alloc (.cells #[] 57)).drewN (1 + k)).alloc (.cells #[] 57)).drewN k') w.heap.size (.int .u64 0) (.int .u64 v) _ _ (cell_18 w _ _ k k' 0) (cell_18 w _ _ k k' 1))
  all_goals (refine bodyPost_ret (v := .agg #[.int .u64 0, .int .u64 v]) (by simp [results, Yba.results18, go_sem, q.1, q.2]) rfl ⟨rfl, ?_⟩)
  all_goals (refine Below.setCell (Below.setCell (below_drewN (Below.alloc (below_drewN (Below.alloc (Below.alloc (Below.refl _ _) (Nat.le_refl _) _) (by simp) _) _) (by simp; omega) _) _) (Nat.le_refl _) _) (Nat.le_refl _) _)

end Go.Proofs.Ybulkarvi.stores
