/-
  What stands behind the call of forget, and what the law's checks read of it.
-/
import Derived.Test.YbulkaryaBuild
namespace Go.Proofs.Ybulkarya.forget
set_option linter.unusedVariables false
set_option linter.unusedSimpArgs false
open Go.RowKit

structure Af (w wr : World) (n : Nat) (G : Nat → Bool) (pr ph : Nat → Nat) (RB HB LB TB : Nat) (idx : Option Nat) (P : Nat → Option Nat) (At : Nat → Int) (M : Nat → Option Int) (sz : Nat) (u : Int) (hl : Nat) : Prop where
  fs : FS wr n G pr ph HB P At
  tx : Tx wr TB u HB hl n idx
  ix : Ix wr idx M sz
  res : ∃ f, Rw wr RB 27 n f ∧ ∀ i, i < n → G i = false → f i = .pointer (some ⟨pr i, 0, none⟩)
  live : ∃ f, Rw wr LB 3 n f ∧ ∀ i, i < n → G i = false → f (kc G i) = .int .i64 i
  bel : Below w.heap.size w wr

section
variable {w wr : World} {n : Nat} {G : Nat → Bool} {pr ph : Nat → Nat} {RB HB LB TB : Nat} {idx : Option Nat} {P : Nat → Option Nat} {At : Nat → Int} {M : Nat → Option Int} {sz : Nat} {u : Int} {hl : Nat}
theorem Af.drewN (h : Af w wr n G pr ph RB HB LB TB idx P At M sz u hl) (m : Nat) : Af w (wr.drewN m) n G pr ph RB HB LB TB idx P At M sz u hl := by
  obtain ⟨h1, h2, h3, ⟨f, h4, h5⟩, ⟨f', h6, h7⟩, h8⟩ := h
  exact ⟨⟨h1.held.same rfl, fun j hj hG => (h1.rs j hj hG).same rfl rfl⟩, h2.same rfl, h3.kept (fun _ _ => rfl) (fun k hk => hk.same rfl), ⟨f, h4.same rfl, h5⟩, ⟨f', h6.same rfl, h7⟩, ⟨h8.os, h8.tape, h8.output, h8.size, h8.block⟩⟩
theorem Af.drew (h : Af w wr n G pr ph RB HB LB TB idx P At M sz u hl) : Af w wr.drew n G pr ph RB HB LB TB idx P At M sz u hl := by
  obtain ⟨h1, h2, h3, ⟨f, h4, h5⟩, ⟨f', h6, h7⟩, h8⟩ := h
  exact ⟨⟨h1.held.same rfl, fun j hj hG => (h1.rs j hj hG).same rfl rfl⟩, h2.same rfl, h3.kept (fun _ _ => rfl) (fun k hk => hk.same rfl), ⟨f, h4.same rfl, h5⟩, ⟨f', h6.same rfl, h7⟩, ⟨h8.os, h8.tape, h8.output, h8.size, h8.block⟩⟩
theorem Af.cRes (h : Af w wr n G pr ph RB HB LB TB idx P At M sz u hl) {j : Nat} (hj : j < n) (hG : G j = false) : wr.cell? ⟨RB, j, none⟩ = some (.pointer (some ⟨pr j, 0, none⟩)) := by
  obtain ⟨f, h1, h2⟩ := h.res
  rw [h1.cell hj, h2 j hj hG]
theorem Af.cLive (h : Af w wr n G pr ph RB HB LB TB idx P At M sz u hl) {j : Nat} (hj : j < n) (hG : G j = false) : wr.cell? ⟨LB, kc G j, none⟩ = some (.int .i64 j) := by
  obtain ⟨f, h1, h2⟩ := h.live
  have := kc_le G j
  rw [h1.cell (by omega), h2 j hj hG]
theorem Af.cHold (h : Af w wr n G pr ph RB HB LB TB idx P At M sz u hl) {j : Nat} (hj : j < n) (hG : G j = false) : wr.cell? ⟨pr j, 1, none⟩ = some (.slice (some ⟨ph j, 0, none⟩) (1 + j % 3) (1 + j % 3)) ∧ wr.cell? ⟨ph j, ai j * 5 + 3, none⟩ = some (.int .i32 (At j)) :=
  ⟨(h.fs.rs j hj hG).c1, (h.fs.rs j hj hG).c2⟩
theorem Af.cPlace (h : Af w wr n G pr ph RB HB LB TB idx P At M sz u hl) {s j : Nat} (hs : s < n) (hP : P s = some j) : wr.cell? ⟨HB, s * 2, none⟩ = some (.pointer (some ⟨pr j, 0, none⟩)) ∧ wr.cell? ⟨HB, s * 2 + 1, none⟩ = some (.int .i32 (ai j)) :=
  ⟨by rw [h.fs.held.cell (by omega), plc_even _ _ _ _ hP], by rw [h.fs.held.cell (by omega), plc_odd _ _ _ _ hP]⟩
theorem Af.cGap (h : Af w wr n G pr ph RB HB LB TB idx P At M sz u hl) {s : Nat} (hs : s < n) (hP : P s = none) : wr.cell? ⟨HB, s * 2, none⟩ = some (.pointer none) ∧ wr.cell? ⟨HB, s * 2 + 1, none⟩ = some (.int .i32 0) :=
  ⟨by rw [h.fs.held.cell (by omega), plc_even_none _ _ _ hP], by rw [h.fs.held.cell (by omega), plc_odd_none _ _ _ hP]⟩
end

/-- Behind the build: what forget asks for. -/
theorem Bd.ready {w wr wx : World} {n : Nat} {G : Nat → Bool} {pr ph : Nat → Nat} {RB HB LB TB : Nat} (idx : Option Nat) (h : Bd w wr n G pr ph RB HB LB n) (o3 : HB < LB) (o4 : LB < wr.heap.size) (hT : TB = wr.heap.size) (hM : ∀ MB, idx = some MB → TB < MB) (hx : Below TB wr wx) :
    Sep n G pr ph HB LB TB idx ∧ FS wx n G pr ph HB (P0 G) (fun j => (j : Int)) := by
  refine ⟨⟨by omega, fun j hj hG => ?_, fun j j' h1 h2 g g' => h.ord j j' h1 h2 g g', hM, by omega⟩, (h.held.same (hx.block HB (by omega))).congr (fun i hi => ?_), fun j hj hG => ?_⟩
  · have := h.at' j hj hG
    omega
  · have e : i / 2 < n := by omega
    have q : (fun s => if s < n then P0 G s else none) (i / 2) = P0 G (i / 2) := if_pos e
    unfold plc
    rw [q]
  · have := h.at' j hj hG
    exact (h.rs j hj hG).same (hx.block _ (by omega)) (hx.block _ (by omega))

theorem Sep.inv {n : Nat} {G : Nat → Bool} {pr ph : Nat → Nat} {HB LB TB : Nat} {idx : Option Nat} (S : Sep n G pr ph HB LB TB idx) : ∃ M : Nat → Option Int, ∀ j, j < n → G j = false → M (pr j) = some (j : Int) := by
  refine ⟨fun k => if h : ∃ j, j < n ∧ G j = false ∧ pr j = k then some ((Classical.choose h : Nat) : Int) else none, fun j hj hG => ?_⟩
  have h : ∃ j', j' < n ∧ G j' = false ∧ pr j' = pr j := ⟨j, hj, hG, rfl⟩
  show (if h : ∃ j', j' < n ∧ G j' = false ∧ pr j' = pr j then some ((Classical.choose h : Nat) : Int) else none) = _
  rw [dif_pos h]
  obtain ⟨h1, h2, h3⟩ := Classical.choose_spec h
  by_cases e : Classical.choose h = j
  · rw [e]
  · exact absurd h3 (S.pr_ne h1 hj h2 hG e).1
theorem tx_made (wr : World) (g : Int) (HB n : Nat) : Tx (wr.alloc (.cells #[.pointer none, .int .i64 0, .int .i64 0, .int .u8 0, .bool false, .int .i32 g, .slice (some ⟨HB, 0, none⟩) n n, .map none, .pointer none, .int .u64 0, .map none, .bool false, .bool false] 50)) wr.heap.size g HB n n none :=
  ⟨_, alloc_at _ _ _ rfl, by simp, rfl, rfl, rfl⟩

/-- The world behind the two new blocks: the transaction, its index. -/
def txw (wz : World) (g : Int) (HB n : Nat) : World := (wz.alloc (.cells #[.pointer none, .int .i64 0, .int .i64 0, .int .u8 0, .bool false, .int .i32 g, .slice (some ⟨HB, 0, none⟩) n n, .map (some (wz.heap.size + 1)), .pointer none, .int .u64 0, .map none, .bool false, .bool false] 50)).alloc (.map #[] 0)
theorem txw_facts (wz : World) (g : Int) (HB n : Nat) : Tx (txw wz g HB n) wz.heap.size g HB n n (some (wz.heap.size + 1)) ∧ (txw wz g HB n).heap[wz.heap.size + 1]? = some (.map #[] 0) ∧ Below wz.heap.size wz (txw wz g HB n) := by
  have hs : (wz.alloc (.cells #[.pointer none, .int .i64 0, .int .i64 0, .int .u8 0, .bool false, .int .i32 g, .slice (some ⟨HB, 0, none⟩) n n, .map (some (wz.heap.size + 1)), .pointer none, .int .u64 0, .map none, .bool false, .bool false] 50)).heap.size = wz.heap.size + 1 := by show (wz.heap.push _).size = _; exact Array.size_push _
  have t : Tx (wz.alloc (.cells #[.pointer none, .int .i64 0, .int .i64 0, .int .u8 0, .bool false, .int .i32 g, .slice (some ⟨HB, 0, none⟩) n n, .map (some (wz.heap.size + 1)), .pointer none, .int .u64 0, .map none, .bool false, .bool false] 50)) wz.heap.size g HB n n (some (wz.heap.size + 1)) := ⟨_, alloc_at _ _ _ rfl, by simp, rfl, rfl, rfl⟩
  exact ⟨t.same (Below.heap_alloc _ _ _ (by omega)), alloc_at _ _ _ hs, ((Below.refl _ wz).alloc (Nat.le_refl _) _).alloc (by omega) _⟩

/-- Behind forget. -/
theorem Bd.after {w wr wx wy : World} {n : Nat} {G : Nat → Bool} {pr ph : Nat → Nat} {RB HB LB TB : Nat} {idx : Option Nat} {P : Nat → Option Nat} {At : Nat → Int} {M : Nat → Option Int} {sz : Nat} {u : Int} {hl : Nat} (h : Bd w wr n G pr ph RB HB LB n) (o1 : w.heap.size ≤ RB) (o2 : RB < HB) (o3 : HB < LB) (o4 : LB < wr.heap.size) (hT : TB = wr.heap.size) (hx : Below TB wr wx) (hf : Fr wx wy HB LB)
    (fs : FS wy n G pr ph HB P At) (tx : Tx wy TB u HB hl n idx) (ix : Ix wy idx M sz) : Af w wy n G pr ph RB HB LB TB idx P At M sz u hl := by
  obtain ⟨f, r1, r2⟩ := h.res
  obtain ⟨f', l1, l2⟩ := h.live
  refine ⟨fs, tx, ix, ⟨f, r1.same ((hf.block RB (by omega) (by omega)).trans (hx.block RB (by omega))), r2⟩, ⟨f', l1.same ((hf.block LB (by omega) (by omega)).trans (hx.block LB (by omega))), l2⟩, ?_⟩
  have k := h.bel.trans (hx.mono (by omega))
  have := h.bel.size
  exact k.trans ⟨hf.os, hf.tape, hf.output, hf.size, fun b hb => hf.block b (by omega) (by omega)⟩

theorem mk44 (z : Int) (w : World) : (Instr.makeMap 44 (some (.int .i64 z))).run Yba.prog w = .ok (.map (some w.heap.size)) (w.alloc (.map #[] 0)) := by
  simp [Instr.makeMap, run_underlying Yba.underlying44, go_sem]

/-- The second loop stands at live place q. -/
def Ib (wy wr : World) (n : Nat) (G : Nat → Bool) (pr : Nat → Nat) (MB q : Nat) : Prop :=
  Below MB wy wr ∧ ∃ M, PMap wr MB M q ∧ ∀ j, j < n → G j = false → M (pr j) = if kc G j < q then some (j : Int) else none
theorem Ib.start {wy : World} {n : Nat} {G : Nat → Bool} {pr : Nat → Nat} {MB : Nat} (h : wy.heap[MB]? = some (.map #[] 0)) : Ib wy wy n G pr MB 0 :=
  ⟨Below.refl _ _, _, pmap_made wy MB h, fun j _ _ => by simp⟩
theorem Ib.step {wy wr : World} {n : Nat} {G : Nat → Bool} {pr ph : Nat → Nat} {HB LB TB MB q : Nat} (h : Ib wy wr n G pr MB q) (S : Sep n G pr ph HB LB TB (some MB)) {j : Nat} (hj : j < n) (hG : G j = false) (hk : kc G j = q) (hc : Cells wy (pr j)) :
    ∃ wc, (Instr.mapUpdate 44 (.map (some MB)) (.pointer (some ⟨pr j, 0, none⟩)) (.int .i64 j)).run Yba.prog wr.drew = .ok () wc ∧ Ib wy wc n G pr MB (q + 1) := by
  obtain ⟨h1, M, h2, h3⟩ := h
  have s2 := S.a2 j hj hG
  have s4 := S.a4 MB rfl
  have c1 : Cells wr.drew (pr j) := hc.same (h1.block (pr j) (by omega))
  have p1 : PMap wr.drew MB M q := h2.kept rfl (fun k v hk => (PMap.keys h2 k v hk).same rfl)
  obtain ⟨wc, e1, e2, e3⟩ := p1.store c1 (j : Int)
  have hn : M (pr j) = none := by rw [h3 j hj hG, if_neg (by omega)]
  rw [hn] at e2
  simp at e2
  have hl : MB < wr.drew.heap.size := p1.lt
  refine ⟨wc, e1, h1.drew.grown e3 (Nat.le_of_lt hl) (fun k e => by simp at e; omega), _, e2, fun j' hj' hG' => ?_⟩
  by_cases e : j' = j
  · subst e; rw [upd_same, if_pos (by omega)]
  · have ne := S.pr_ne hj' hj hG' hG e
    have nk : kc G j' ≠ q := fun e2 => e (kc_inj G j' j hG' hG (by omega))
    rw [upd_other _ _ _ _ ne.1, h3 j' hj' hG']
    have : kc G j' < q + 1 ↔ kc G j' < q := by omega
    simp only [this]

theorem kc_upd (G : Nat → Bool) (a : Nat) (hG : G a = false) : ∀ j, kc (upd G a true) j = if j ≤ a then kc G j else kc G j - 1
  | 0 => by simp [kc]
  | j + 1 => by
    have ih := kc_upd G a hG j
    have e1 : kc (upd G a true) (j + 1) = kc (upd G a true) j + if upd G a true j then 0 else 1 := rfl
    have e2 : kc G (j + 1) = kc G j + if G j then 0 else 1 := rfl
    rw [e1, e2, ih]
    by_cases e : j = a
    · subst e
      have l2 : ¬ j + 1 ≤ j := by omega
      simp [upd_same, hG]
    · rw [upd_other _ _ _ _ e]
      by_cases l : j ≤ a
      · have l2 : j + 1 ≤ a := by omega
        simp only [if_pos l, if_pos l2]
      · have l2 : ¬ j + 1 ≤ a := by omega
        have := kc_lt G a j (by omega) hG
        simp only [if_neg l, if_neg l2]
        split <;> omega
end Go.Proofs.Ybulkarya.forget
