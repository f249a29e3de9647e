/-
  (*Tx).forget.
-/
import Derived.Test.YbulkaryaState
import Derived.Deep.RegionHeldLaw
import Derived.Deep.RegionLaw
import Derived.Deep.QuietTactic
import Derived.BigQuiet
import Derived.LoopTactic
namespace Go.Proofs.Ybulkarya.forget
set_option linter.unusedVariables false
set_option linter.unusedSimpArgs false
open Go.RowKit

/-- delete as one step of a region that draws. -/
theorem step_delete {ops : Array Oper} {o : Oper} {a : Act} {w : World} {K : Act → World → Prop} {Q : Exit → Act → World → Prop} {E : Prop} (hgd : o.guard = none) (m x : Operand)
    (ho : o.op = .call { callee := .builtin .delete, args := #[m, x], argTypes := #[44, 27] }) (mv xv : Value) (hm : a.eval m = mv) (hx : a.eval x = xv) (w' : World)
    (hrun : (Builtin.delete_ #[44, 27] o.type #[mv, xv]).run Yba.prog w = .ok (.tuple #[]) w') (hK : K (a.put o.dst (.tuple #[])) w') :
    if Region.wanted o (yielded ops a.tmps) = true then Oper.wp Yba.prog o a w K Q else E := by
  have hw : Region.wanted o (yielded ops a.tmps) = true := by simp [Region.wanted, hgd]
  rw [if_pos hw]
  unfold Oper.wp
  simp [execOp, ho, resolve, invoke, builtin, hm, hx, hrun, Result.andThen]
  exact hK

/-- What the delete does, index or none. -/
theorem drop_any {w : World} {n a sz : Nat} {G : Nat → Bool} {pr ph : Nat → Nat} {HB LB TB : Nat} {idx : Option Nat} {M : Nat → Option Int} (S : Sep n G pr ph HB LB TB idx) (ha : Cells w (pr a)) (hx : Ix w idx M sz) (hM : ∃ v, M (pr a) = some v) :
    ∃ w1, (∀ ty, (Builtin.delete_ #[44, 27] ty #[.map idx, .pointer (some ⟨pr a, 0, none⟩)]).run Yba.prog w = .ok (.tuple #[]) w1) ∧ Ix w1 idx (upd M (pr a) none) (sz - 1) ∧ (∀ b, b ≤ TB → w1.heap[b]? = w.heap[b]?) ∧ w.heap.size ≤ w1.heap.size ∧ w1.os = w.os ∧ w1.tape = w.tape ∧ w1.output = w.output := by
  cases idx with
  | none => exact ⟨w, fun ty => drop_nil w (pr a) ty, (fun MB h => nomatch h : Ix w none _ _), fun _ _ => rfl, Nat.le_refl _, rfl, rfl, rfl⟩
  | some MB =>
    obtain ⟨v, hv⟩ := hM
    have hp := hx MB rfl
    obtain ⟨w1, h1, h2, h3⟩ := hp.drop ha hv 0
    have s4 := S.a4 MB rfl
    refine ⟨w1, fun ty => ?_, (fun MB' h => by simp at h; subst h; exact h2 : Ix w1 (some MB) _ _), fun b hb => ?_, h3.size, h3.os, h3.tape, h3.output⟩
    · exact h1
    · rcases Nat.lt_or_ge b w.heap.size with hlt | hge
      · exact h3.block b hlt (fun e => by simp at e; omega)
      · have := hp.lt; omega

theorem PMap.keys {w : World} {b n : Nat} {M : Nat → Option Int} (h : PMap w b M n) : ∀ k v, M k = some v → Cells w k := by
  intro k v hk
  obtain ⟨es, cl, h1, h2, h3, h4, h5, h6⟩ := h
  obtain ⟨e, he, ek, ev⟩ := h6 k v hk
  obtain ⟨k', v', a1, a2, a3⟩ := h3 e he
  obtain rfl := ptr_inj (ek.symm.trans a1)
  exact a3

theorem Ix.kept {w w' : World} {idx : Option Nat} {M : Nat → Option Int} {sz : Nat} (h : Ix w idx M sz) (hb : ∀ MB, idx = some MB → w'.heap[MB]? = w.heap[MB]?) (hc : ∀ k, Cells w k → Cells w' k) : Ix w' idx M sz :=
  fun MB e => (h MB e).kept (hb MB e) (fun k v hk => hc k ((h MB e).keys k v hk))
theorem Fr.drewN (w : World) (HB LB n : Nat) : Fr w (w.drewN n) HB LB := ⟨rfl, rfl, rfl, Nat.le_refl _, fun _ _ _ => rfl⟩

/-- The world behind the three stores that every way makes. -/
theorem base_world {w1 : World} {n a sz g : Nat} {G : Nat → Bool} {pr ph : Nat → Nat} {HB LB TB : Nat} {idx : Option Nat} {M : Nat → Option Int} (S : Sep n G pr ph HB LB TB idx) (fs1 : FS w1 n G pr ph HB (P0 G) (fun j => (j : Int))) (tx1 : Tx w1 TB (g : Int) HB n n idx) (ix1 : Ix w1 idx M sz) :
    FS (((w1.setCell ⟨HB, a * 2, none⟩ (.pointer none)).setCell ⟨HB, a * 2 + 1, none⟩ (.int .i32 0)).setCell ⟨TB, 5, none⟩ (.int .i32 ((g : Int) + 1))) n G pr ph HB (P0 (upd G a true)) (fun j => (j : Int)) ∧
    Tx (((w1.setCell ⟨HB, a * 2, none⟩ (.pointer none)).setCell ⟨HB, a * 2 + 1, none⟩ (.int .i32 0)).setCell ⟨TB, 5, none⟩ (.int .i32 ((g : Int) + 1))) TB ((g : Int) + 1) HB n n idx ∧
    Ix (((w1.setCell ⟨HB, a * 2, none⟩ (.pointer none)).setCell ⟨HB, a * 2 + 1, none⟩ (.int .i32 0)).setCell ⟨TB, 5, none⟩ (.int .i32 ((g : Int) + 1))) idx M sz := by
  have s1 := S.a1; have s5 := S.a5
  have eP : upd (P0 G) a none = P0 (upd G a true) := by
    funext j
    unfold upd P0
    by_cases e : j = a <;> simp [e]
  refine ⟨?_, ?_, ix1.kept (fun MB h => ?_) (fun k hk => ((hk.set _).set _).set _)⟩
  · have := fs1.clear (a := a) S
    rw [eP] at this
    exact this.same S (fun b hb => Below.heap_setCell _ _ _ b (by show b ≠ TB; omega))
  · exact ((tx1.same (Below.heap_setCell _ _ _ TB (by show TB ≠ HB; omega))).same (Below.heap_setCell _ _ _ TB (by show TB ≠ HB; omega))).set5 _
  · have s4 := S.a4 MB h
    rw [Below.heap_setCell _ _ _ MB (by show MB ≠ TB; omega), Below.heap_setCell _ _ _ MB (by show MB ≠ HB; omega), Below.heap_setCell _ _ _ MB (by show MB ≠ HB; omega)]

set_option maxHeartbeats 2000000 in
set_option maxRecDepth 100000 in
/-- No more than half are gaps: the place is emptied, no more. -/
theorem forget_short {w : World} {n a sz g : Nat} {G : Nat → Bool} {pr ph : Nat → Nat} {HB LB TB : Nat} {idx : Option Nat} {M : Nat → Option Int} (hn : n ≤ 1024) (han : a < n) (hGa : G a = false) (hg : g ≤ 1024)
    (S : Sep n G pr ph HB LB TB idx) (fs : FS w n G pr ph HB (P0 G) (fun j => (j : Int))) (tx : Tx w TB (g : Int) HB n n idx) (ix : Ix w idx M sz) (hM : ∀ j, j < n → G j = false → M (pr j) = some (j : Int)) (hc : (g + 1) * 2 ≤ n) :
    Calls Yba.prog 6 #[.pointer (some ⟨TB, 0, none⟩), .int .i64 a] w fun e w' => e = .returned (.tuple #[]) ∧ FS w' n G pr ph HB (P0 (upd G a true)) (fun j => (j : Int)) ∧ Tx w' TB ((g : Int) + 1) HB n n idx ∧ Ix w' idx (upd M (pr a) none) (sz - 1) ∧ Fr w w' HB LB := by
  obtain ⟨w1, hdel, ix1, same1, size1, os1, tape1, out1⟩ := drop_any (w := w.drew) S ((fs.rs a han hGa).cells) ix ⟨_, hM a han hGa⟩
  have c7 := tx.c7
  have c6 := tx.c6
  have hp : P0 G a = some a := by simp [P0, hGa]
  have ch : w.cell? ⟨HB, a * 2, none⟩ = some (.pointer (some ⟨pr a, 0, none⟩)) := by rw [fs.held.cell (by omega : a * 2 < 2 * n), plc_even pr (P0 G) a a hp]
  have k1 : (a : Int) < (n : Int) := by omega
  have tx1 : Tx w1 TB (g : Int) HB n n idx := tx.same (same1 TB (Nat.le_refl _))
  have fs1 := fs.same S (fun b hb => same1 b (Nat.le_of_lt hb))
  have c7' := tx1.c7
  have c6' := tx1.c6
  have c5' := tx1.c5
  have f5' := tx1.free 5
  have ch' : w1.cell? ⟨HB, a * 2, none⟩ = some (.pointer (some ⟨pr a, 0, none⟩)) := by rw [fs1.held.cell (by omega : a * 2 < 2 * n), plc_even pr (P0 G) a a hp]
  have ci' : w1.cell? ⟨HB, a * 2 + 1, none⟩ = some (.int .i32 (ai a)) := by rw [fs1.held.cell (by omega : a * 2 + 1 < 2 * n), plc_odd pr (P0 G) a a hp]
  have fh0 := fs1.held.free (a * 2)
  have fh1 := fs1.held.free (a * 2 + 1)
  have s1 := S.a1
  have s5 := S.a5
  have hne : ¬ HB = TB := by omega
  have hne' : ¬ TB = HB := by omega
  go_enter Yba.func6, Yba.ntmps6
  go_wp2_with fail
  go_region_held_law (fun w' => w'.cell? ⟨TB, 7, none⟩ = some (.map idx) ∧ w'.cell? ⟨TB, 6, none⟩ = some (.slice (some ⟨HB, 0, none⟩) n n) ∧ w'.cell? ⟨HB, a * 2, none⟩ = some (.pointer (some ⟨pr a, 0, none⟩))) (go_keep) (refine step_delete rfl (.tmp 10) (.tmp 18) rfl _ _ rfl rfl w1 (hdel _) ?_)
  have fr1 : Fr w w1 HB LB := ⟨os1, tape1, out1, size1, fun b hb _ => same1 b (by omega)⟩
  have fr2 : Fr w (((w1.setCell ⟨HB, a * 2, none⟩ (.pointer none)).setCell ⟨HB, a * 2 + 1, none⟩ (.int .i32 0)).setCell ⟨TB, 5, none⟩ (.int .i32 ((g : Int) + 1))) HB LB := ((fr1.trans (Fr.set _ (.inl rfl) _)).trans (Fr.set _ (.inl rfl) _)).trans (Fr.set _ (.inr s5) _)
  have BW := base_world (a := a) S fs1 tx1 ix1
  clear fs1 tx1 ix1
  go_wp2_with fail
  go_quiet (fail)
  go_wp2
  refine bodyPost_ret (results_none rfl _ _ _) rfl ?_
  obtain ⟨b1, b2, b3⟩ := BW
  exact ⟨rfl, b1.same S (fun _ _ => rfl), b2.same rfl, b3.kept (fun _ _ => rfl) (fun k hk => hk.same rfl), fr2.trans (Fr.drewN _ _ _ _)⟩

end Go.Proofs.Ybulkarya.forget
