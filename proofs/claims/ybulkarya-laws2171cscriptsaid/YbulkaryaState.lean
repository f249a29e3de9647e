/-
  The transaction's list of held places, the resources and their holds, the transaction, its index: what each is, and what each store does to it.
-/
import Derived.Test.YbulkaryaRw
namespace Go.Proofs.Ybulkarya.forget
set_option linter.unusedVariables false
set_option linter.unusedSimpArgs false
open Go.RowKit

/-- The hold's index that the law gives place j. -/
def ai (j : Nat) : Nat := j % (1 + j % 3)
theorem ai_lt (j : Nat) : ai j < 1 + j % 3 := Nat.mod_lt _ (by omega)

/-- The cells of the list of places: place s leads to resource P s, or is empty. -/
def plc (pr : Nat → Nat) (P : Nat → Option Nat) (i : Nat) : Value :=
  match P (i / 2) with
  | none => noPlace i
  | some j => if i % 2 = 0 then ptr (pr j) else .int .i32 (ai j)

theorem plc_even (pr : Nat → Nat) (P : Nat → Option Nat) (s j : Nat) (h : P s = some j) : plc pr P (s * 2) = .pointer (some ⟨pr j, 0, none⟩) := by
  have e : s * 2 / 2 = s := by omega
  unfold plc
  rw [e, h]
  simp [ptr]
theorem plc_odd (pr : Nat → Nat) (P : Nat → Option Nat) (s j : Nat) (h : P s = some j) : plc pr P (s * 2 + 1) = .int .i32 (ai j) := by
  have e : (s * 2 + 1) / 2 = s := by omega
  have e2 : (s * 2 + 1) % 2 = 1 := by omega
  unfold plc
  rw [e, h]
  simp [e2]
theorem plc_even_none (pr : Nat → Nat) (P : Nat → Option Nat) (s : Nat) (h : P s = none) : plc pr P (s * 2) = .pointer none := by
  have e : s * 2 / 2 = s := by omega
  unfold plc
  rw [e, h]
  simp [noPlace]
theorem plc_odd_none (pr : Nat → Nat) (P : Nat → Option Nat) (s : Nat) (h : P s = none) : plc pr P (s * 2 + 1) = .int .i32 0 := by
  have e : (s * 2 + 1) / 2 = s := by omega
  have e2 : (s * 2 + 1) % 2 = 1 := by omega
  unfold plc
  rw [e, h]
  simp [noPlace, e2]

theorem plc_upd (pr : Nat → Nat) (P : Nat → Option Nat) (s : Nat) (x : Option Nat) (v0 v1 : Value) (h0 : plc pr (upd P s x) (s * 2) = v0) (h1 : plc pr (upd P s x) (s * 2 + 1) = v1) (i : Nat) : upd (upd (plc pr P) (s * 2) v0) (s * 2 + 1) v1 i = plc pr (upd P s x) i := by
  by_cases e1 : i = s * 2 + 1
  · subst e1; rw [upd_same, h1]
  · rw [upd_other _ _ _ _ e1]
    by_cases e0 : i = s * 2
    · subst e0; rw [upd_same, h0]
    · rw [upd_other _ _ _ _ e0]
      unfold plc
      rw [upd_other _ _ _ _ (by omega : i / 2 ≠ s)]

/-- Resource j: its block, its holders' block, and where its hold says its place is. -/
structure Rsrc (w : World) (pr ph j : Nat) (at' : Int) : Prop where
  rb : ∃ cs, w.heap[pr]? = some (.cells cs 38 (0, 0)) ∧ cs[1]? = some (.slice (some ⟨ph, 0, none⟩) (1 + j % 3) (1 + j % 3))
  hb : ∃ hs, w.heap[ph]? = some (.cells hs 35 (0, 0)) ∧ hs[ai j * 5 + 3]? = some (.int .i32 at')

section
variable {w w' : World} {pr ph j : Nat} {x : Int}
theorem Rsrc.cells (h : Rsrc w pr ph j x) : Cells w pr := by obtain ⟨cs, h1, _⟩ := h.rb; exact ⟨cs, 38, h1⟩
theorem Rsrc.c1 (h : Rsrc w pr ph j x) : w.cell? ⟨pr, 1, none⟩ = some (.slice (some ⟨ph, 0, none⟩) (1 + j % 3) (1 + j % 3)) := by
  obtain ⟨cs, h1, h2⟩ := h.rb
  rw [cell_of_row w pr 1 cs 38 (0, 0) h1]
  exact h2
theorem Rsrc.c2 (h : Rsrc w pr ph j x) : w.cell? ⟨ph, ai j * 5 + 3, none⟩ = some (.int .i32 x) := by
  obtain ⟨hs, h1, h2⟩ := h.hb
  rw [cell_of_row w ph _ hs 35 (0, 0) h1]
  exact h2
theorem Rsrc.f2 (h : Rsrc w pr ph j x) (i : Nat) : w.frozen? ⟨ph, i, none⟩ = false := by
  obtain ⟨hs, h1, h2⟩ := h.hb
  simp [World.frozen?, h1]
theorem Rsrc.same (h : Rsrc w pr ph j x) (e1 : w'.heap[pr]? = w.heap[pr]?) (e2 : w'.heap[ph]? = w.heap[ph]?) : Rsrc w' pr ph j x := by
  obtain ⟨⟨cs, h1, h2⟩, ⟨hs, h3, h4⟩⟩ := h
  exact ⟨⟨cs, e1.trans h1, h2⟩, ⟨hs, e2.trans h3, h4⟩⟩
theorem Rsrc.set (h : Rsrc w pr ph j x) (hne : pr ≠ ph) (y : Int) : Rsrc (w.setCell ⟨ph, ai j * 5 + 3, none⟩ (.int .i32 y)) pr ph j y := by
  obtain ⟨⟨cs, h1, h2⟩, ⟨hs, h3, h4⟩⟩ := h
  refine ⟨⟨cs, (Below.heap_setCell w _ _ pr hne).trans h1, h2⟩, ⟨_, set_blk h3 _ _, ?_⟩⟩
  have hlt : ai j * 5 + 3 < hs.size := (Array.getElem?_eq_some_iff.1 h4).1
  simp [hlt]
end

/-- The transaction: how many places are empty, its list, its index. -/
def Tx (w : World) (TB : Nat) (u : Int) (HB hl n : Nat) (idx : Option Nat) : Prop :=
  ∃ cs, w.heap[TB]? = some (.cells cs 50 (0, 0)) ∧ 8 ≤ cs.size ∧ cs[5]? = some (.int .i32 u) ∧ cs[6]? = some (.slice (some ⟨HB, 0, none⟩) hl n) ∧ cs[7]? = some (.map idx)

section
variable {w w' : World} {TB HB hl n : Nat} {u : Int} {idx : Option Nat}
theorem Tx.c5 (h : Tx w TB u HB hl n idx) : w.cell? ⟨TB, 5, none⟩ = some (.int .i32 u) := by
  obtain ⟨cs, h1, _, h5, h6, h7⟩ := h
  rw [cell_of_row w TB 5 cs 50 (0, 0) h1]; exact h5
theorem Tx.c6 (h : Tx w TB u HB hl n idx) : w.cell? ⟨TB, 6, none⟩ = some (.slice (some ⟨HB, 0, none⟩) hl n) := by
  obtain ⟨cs, h1, _, h5, h6, h7⟩ := h
  rw [cell_of_row w TB 6 cs 50 (0, 0) h1]; exact h6
theorem Tx.c7 (h : Tx w TB u HB hl n idx) : w.cell? ⟨TB, 7, none⟩ = some (.map idx) := by
  obtain ⟨cs, h1, _, h5, h6, h7⟩ := h
  rw [cell_of_row w TB 7 cs 50 (0, 0) h1]; exact h7
theorem Tx.free (h : Tx w TB u HB hl n idx) (i : Nat) : w.frozen? ⟨TB, i, none⟩ = false := by
  obtain ⟨cs, h1, _⟩ := h
  simp [World.frozen?, h1]
theorem Tx.lt (h : Tx w TB u HB hl n idx) : TB < w.heap.size := by obtain ⟨cs, h1, _⟩ := h; exact lt_of_block h1
theorem Tx.same (h : Tx w TB u HB hl n idx) (e : w'.heap[TB]? = w.heap[TB]?) : Tx w' TB u HB hl n idx := by
  obtain ⟨cs, h1, h2⟩ := h
  exact ⟨cs, e.trans h1, h2⟩
theorem Tx.set5 (h : Tx w TB u HB hl n idx) (x : Int) : Tx (w.setCell ⟨TB, 5, none⟩ (.int .i32 x)) TB x HB hl n idx := by
  obtain ⟨cs, h1, h8, h5, h6, h7⟩ := h
  refine ⟨_, set_blk h1 5 _, by simpa using h8, ?_, ?_, ?_⟩
  · have hlt : 5 < cs.size := by omega
    simp [hlt]
  · rw [Array.getElem?_setIfInBounds_ne (by omega)]; exact h6
  · rw [Array.getElem?_setIfInBounds_ne (by omega)]; exact h7
theorem Tx.set6 (h : Tx w TB u HB hl n idx) (m : Nat) : Tx (w.setCell ⟨TB, 6, none⟩ (.slice (some ⟨HB, 0, none⟩) m n)) TB u HB m n idx := by
  obtain ⟨cs, h1, h8, h5, h6, h7⟩ := h
  refine ⟨_, set_blk h1 6 _, by simpa using h8, ?_, ?_, ?_⟩
  · rw [Array.getElem?_setIfInBounds_ne (by omega)]; exact h5
  · have hlt : 6 < cs.size := by omega
    simp [hlt]
  · rw [Array.getElem?_setIfInBounds_ne (by omega)]; exact h7
theorem Tx.set7 (h : Tx w TB u HB hl n idx) (x : Option Nat) : Tx (w.setCell ⟨TB, 7, none⟩ (.map x)) TB u HB hl n x := by
  obtain ⟨cs, h1, h8, h5, h6, h7⟩ := h
  refine ⟨_, set_blk h1 7 _, by simpa using h8, ?_, ?_, ?_⟩
  · rw [Array.getElem?_setIfInBounds_ne (by omega)]; exact h5
  · rw [Array.getElem?_setIfInBounds_ne (by omega)]; exact h6
  · have hlt : 7 < cs.size := by omega
    simp [hlt]
end

/-- The index, if there is one. -/
def Ix (w : World) (idx : Option Nat) (M : Nat → Option Int) (sz : Nat) : Prop := ∀ MB, idx = some MB → PMap w MB M sz

/-- Where all lies: the list's block and the others of the law's head at LB and below; then resource after resource, each ahead of its holders; then the transaction; then the index. -/
structure Sep (n : Nat) (G : Nat → Bool) (pr ph : Nat → Nat) (HB LB TB : Nat) (idx : Option Nat) : Prop where
  a1 : HB ≤ LB
  a2 : ∀ j, j < n → G j = false → LB < pr j ∧ pr j < ph j ∧ ph j < TB
  a3 : ∀ j j', j < j' → j' < n → G j = false → G j' = false → ph j < pr j'
  a4 : ∀ MB, idx = some MB → TB < MB
  a5 : LB < TB

/-- The list and the resources. -/
structure FS (w : World) (n : Nat) (G : Nat → Bool) (pr ph : Nat → Nat) (HB : Nat) (P : Nat → Option Nat) (At : Nat → Int) : Prop where
  held : Rw w HB 41 (2 * n) (plc pr P)
  rs : ∀ j, j < n → G j = false → Rsrc w (pr j) (ph j) j (At j)

/-- The law's head (but for the list's block) stays; nothing else of the world turns. -/
structure Fr (w w' : World) (HB LB : Nat) : Prop where
  os : w'.os = w.os
  tape : w'.tape = w.tape
  output : w'.output = w.output
  size : w.heap.size ≤ w'.heap.size
  block : ∀ b, b ≤ LB → b ≠ HB → w'.heap[b]? = w.heap[b]?

section
variable {w w1 w2 : World} {HB LB : Nat}
theorem Fr.refl (w : World) (HB LB : Nat) : Fr w w HB LB := ⟨rfl, rfl, rfl, Nat.le_refl _, fun _ _ _ => rfl⟩
theorem Fr.trans (h : Fr w w1 HB LB) (k : Fr w1 w2 HB LB) : Fr w w2 HB LB :=
  ⟨k.os.trans h.os, k.tape.trans h.tape, k.output.trans h.output, Nat.le_trans h.size k.size, fun b h1 h2 => (k.block b h1 h2).trans (h.block b h1 h2)⟩
theorem Fr.grown {row : Nat} (hg : w.grownBy w1 (some row)) (hs : LB < w.heap.size) (hr : row = HB ∨ LB < row) : Fr w w1 HB LB :=
  ⟨hg.os, hg.tape, hg.output, hg.size, fun b h1 h2 => hg.block b (by omega) (fun e => by simp at e; omega)⟩
theorem Fr.set {b j : Nat} (w : World) (hr : b = HB ∨ LB < b) (u : Value) : Fr w (w.setCell ⟨b, j, none⟩ u) HB LB :=
  ⟨rfl, rfl, rfl, by simp [World.setCell], fun b' h1 h2 => Below.heap_setCell w _ u b' (by show b' ≠ b; omega)⟩
theorem Fr.alloc (w : World) (hs : LB < w.heap.size) (o : Obj) : Fr w (w.alloc o) HB LB :=
  ⟨rfl, rfl, rfl, by simp, fun b' h1 h2 => Below.heap_alloc w o b' (by omega)⟩
end

/-- How many of the first k places are kept. -/
def kc (G : Nat → Bool) : Nat → Nat
  | 0 => 0
  | k + 1 => kc G k + if G k then 0 else 1
theorem kc_le (G : Nat → Bool) : ∀ k, kc G k ≤ k
  | 0 => Nat.le_refl 0
  | k + 1 => by have := kc_le G k; unfold kc; split <;> omega
theorem kc_mono (G : Nat → Bool) (j : Nat) : ∀ k, j ≤ k → kc G j ≤ kc G k
  | 0, h => by
    obtain rfl : j = 0 := by omega
    exact Nat.le_refl _
  | k + 1, h => by
    by_cases e : j = k + 1
    · subst e; exact Nat.le_refl _
    · have := kc_mono G j k (by omega)
      have e2 : kc G (k + 1) = kc G k + if G k then 0 else 1 := rfl
      omega
theorem kc_lt (G : Nat → Bool) (j k : Nat) (h : j < k) (hj : G j = false) : kc G j < kc G k := by
  have := kc_mono G (j + 1) k h
  have e : kc G (j + 1) = kc G j + 1 := by simp [kc, hj]
  omega
theorem kc_inj (G : Nat → Bool) (j k : Nat) (hj : G j = false) (hk : G k = false) (h : kc G j = kc G k) : j = k := by
  rcases Nat.lt_trichotomy j k with a | a | a
  · have := kc_lt G j k a hj; omega
  · exact a
  · have := kc_lt G k j a hk; omega

/-- Every live place holds its own resource. -/
def P0 (G : Nat → Bool) (j : Nat) : Option Nat := if G j then none else some j

/-- ONE MORE PLACE TAKEN OFF: the list, resources as before. -/
theorem FS.clear {w : World} {n a : Nat} {G : Nat → Bool} {pr ph : Nat → Nat} {HB LB TB : Nat} {idx : Option Nat} {P : Nat → Option Nat} {At : Nat → Int} (h : FS w n G pr ph HB P At) (S : Sep n G pr ph HB LB TB idx) :
    FS ((w.setCell ⟨HB, a * 2, none⟩ (.pointer none)).setCell ⟨HB, a * 2 + 1, none⟩ (.int .i32 0)) n G pr ph HB (upd P a none) At := by
  refine ⟨((h.held.set (a * 2) _).set (a * 2 + 1) _).congr (fun i _ => plc_upd pr P a none _ _ (plc_even_none _ _ _ (upd_same _ _ _)) (plc_odd_none _ _ _ (upd_same _ _ _)) i), fun j hj hG => ?_⟩
  have s1 := S.a1
  have s2 := S.a2 j hj hG
  exact ((h.rs j hj hG).same (Below.heap_setCell _ _ _ _ (by show pr j ≠ HB; omega)) (Below.heap_setCell _ _ _ _ (by show ph j ≠ HB; omega))).same (Below.heap_setCell _ _ _ _ (by show pr j ≠ HB; omega)) (Below.heap_setCell _ _ _ _ (by show ph j ≠ HB; omega))

theorem FS.same {w w' : World} {n : Nat} {G : Nat → Bool} {pr ph : Nat → Nat} {HB LB TB : Nat} {idx : Option Nat} {P : Nat → Option Nat} {At : Nat → Int} (h : FS w n G pr ph HB P At) (S : Sep n G pr ph HB LB TB idx) (e : ∀ b, b < TB → w'.heap[b]? = w.heap[b]?) : FS w' n G pr ph HB P At := by
  have s1 := S.a1; have s5 := S.a5
  refine ⟨h.held.same (e HB (by omega)), fun j hj hG => ?_⟩
  have s2 := S.a2 j hj hG
  exact (h.rs j hj hG).same (e _ (by omega)) (e _ (by omega))
end Go.Proofs.Ybulkarya.forget
