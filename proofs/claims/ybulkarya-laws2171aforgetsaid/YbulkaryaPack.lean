/-
  (*Tx).forget where more than half are gaps: the list is packed.
-/
import Derived.Test.YbulkaryaForget
namespace Go.Proofs.Ybulkarya.forget
set_option linter.unusedVariables false
set_option linter.unusedSimpArgs false
open Go.RowKit

/-- The packing stands at place k of the list, ka of the holds, km of the index. -/
def Pk (w wr : World) (n a sz g : Nat) (G : Nat → Bool) (pr ph : Nat → Nat) (HB LB TB : Nat) (idx : Option Nat) (k ka km : Nat) : Prop :=
  ∃ P At M, FS wr n G pr ph HB P At ∧ (∀ j, j < k → upd G a true j = false → P (kc (upd G a true) j) = some j) ∧ (∀ s, k ≤ s → P s = P0 (upd G a true) s) ∧
    (∀ j, j < n → G j = false → At j = if j < ka ∧ upd G a true j = false then (kc (upd G a true) j : Int) else (j : Int)) ∧ Ix wr idx M (sz - 1) ∧
    (∀ j, j < n → upd G a true j = false → M (pr j) = some (if j < km then (kc (upd G a true) j : Int) else (j : Int))) ∧ M (pr a) = none ∧ Tx wr TB ((g : Int) + 1) HB n n idx ∧ Fr w wr HB LB

theorem q44 (m : Option Nat) (w : World) : (binOp .neq 44 (.map m) (.map none)).run Yba.prog w = .ok (.bool (!m.isNone)) w := by
  cases m <;> kernel_rfl
theorem wrap32 (n : Nat) (h : n ≤ 1024) : IntKind.i32.wrap (n : Int) = (n : Int) := by
  simp [IntKind.wrap, go_sem]
  omega
/-- 'clear(s[c:])' of a row of places. -/
theorem wpList_clear (w : World) {ops : Array Oper} {rest : List Oper} {o : Oper} {a : Act} {Q : Exit → Act → World → Prop} (hgd : o.guard = none) (s : Operand)
    (ho : o.op = .call { callee := .builtin .clear, args := #[s], argTypes := #[25] }) (g c m n cap : Nat) (f : Nat → Value) (hs : a.eval s = .slice (some ⟨g, c * 2, none⟩) m cap) (hrw : Rw w g 41 (2 * n) f) (hm : c + m = n)
    (h : ∀ w', Rw w' g 41 (2 * n) (fun i => if i < c * 2 then f i else noPlace i) → w.grownBy w' (some g) → wpList Yba.prog ops Q rest (a.put o.dst (.tuple #[])) w') : wpList Yba.prog ops Q (o :: rest) a w := by
  refine wpList_plain hgd fun K hK => ?_
  obtain ⟨w', hrun, h1, h2⟩ := run_clear w o.type g c m n cap _ f hrw hm (fun _ => rfl)
  unfold Oper.wp execOp
  simp only [ho, resolve, invoke, builtin, Sem.run_bind, Sem.run_pure, Result.andThen_ok, List.map_toArray, List.map_cons, List.map_nil, hs, hrun]
  exact hK _ _ (h _ h1 h2)
theorem kc_gap (G : Nat → Bool) (a n : Nat) (ha : a < n) (hG : G a = true) : kc G n < n := by
  have h1 : kc G (a + 1) = kc G a := by simp [kc, hG]
  have h2 := kc_le G a
  have h3 : ∀ m, kc G (a + 1 + m) ≤ kc G (a + 1) + m := by
    intro m
    induction m with
    | zero => exact Nat.le_refl _
    | succ m ih =>
      have : kc G (a + 1 + (m + 1)) = kc G (a + 1 + m) + if G (a + 1 + m) then 0 else 1 := rfl
      split at this <;> omega
  have := h3 (n - (a + 1))
  rw [show a + 1 + (n - (a + 1)) = n from by omega] at this
  omega
theorem cell_same {w w' : World} {b i : Nat} (h : w'.heap[b]? = w.heap[b]?) : w'.cell? ⟨b, i, none⟩ = w.cell? ⟨b, i, none⟩ := by simp [World.cell?, h]
theorem G_of {G : Nat → Bool} {a j : Nat} (h : upd G a true j = false) : j ≠ a ∧ G j = false := by
  unfold upd at h
  split at h
  · cases h
  · exact ⟨by assumption, h⟩
theorem Sep.pr_ne {n : Nat} {G : Nat → Bool} {pr ph : Nat → Nat} {HB LB TB : Nat} {idx : Option Nat} (S : Sep n G pr ph HB LB TB idx) {j j' : Nat} (hj : j < n) (hj' : j' < n) (g : G j = false) (g' : G j' = false) (h : j ≠ j') : pr j ≠ pr j' ∧ ph j ≠ ph j' ∧ pr j ≠ ph j' ∧ ph j ≠ pr j' := by
  have a := S.a2 j hj g
  have b := S.a2 j' hj' g'
  rcases Nat.lt_or_gt_of_ne h with l | l
  · have := S.a3 j j' l hj' g g'
    omega
  · have := S.a3 j' j l hj g' g
    omega

section
variable {w wr : World} {n a sz g : Nat} {G : Nat → Bool} {pr ph : Nat → Nat} {HB LB TB : Nat} {idx : Option Nat} {k ka km : Nat}
/-- A gap: on to the next. -/
theorem Pk.gap (h : Pk w wr n a sz g G pr ph HB LB TB idx k k k) (hk : upd G a true k = true) : Pk w wr n a sz g G pr ph HB LB TB idx (k + 1) (k + 1) (k + 1) := by
  obtain ⟨P, At, M, h1, h2, h3, h4, h5, h6, h7, h8, h9⟩ := h
  refine ⟨P, At, M, h1, fun j hj hg => ?_, fun s hs => h3 s (by omega), fun j hj hg => ?_, h5, fun j hj hg => ?_, h7, h8, h9⟩
  · by_cases e : j = k
    · subst e; rw [hk] at hg; cases hg
    · exact h2 j (by omega) hg
  · rw [h4 j hj hg]
    by_cases e : j = k
    · subst e; simp [hk]
    · have : j < k + 1 ↔ j < k := by omega
      simp only [this]
  · rw [h6 j hj hg]
    by_cases e : j = k
    · subst e; rw [hk] at hg; cases hg
    · have : j < k + 1 ↔ j < k := by omega
      simp only [this]
/-- A new block bears on nothing. -/
theorem Pk.alloc (h : Pk w wr n a sz g G pr ph HB LB TB idx k ka km) (S : Sep n G pr ph HB LB TB idx) (o : Obj) : Pk w (wr.alloc o) n a sz g G pr ph HB LB TB idx k ka km := by
  obtain ⟨P, At, M, h1, h2, h3, h4, h5, h6, h7, h8, h9⟩ := h
  have s5 := S.a5
  have hlt := h8.lt
  exact ⟨P, At, M, h1.same S (fun b hb => Below.heap_alloc _ _ _ (by omega)), h2, h3, h4, h5.kept (fun MB e => Below.heap_alloc _ _ _ (h5 MB e).lt) (fun k hk => hk.alloc _), h6, h7, h8.same (Below.heap_alloc _ _ _ hlt), h9.trans (Fr.alloc _ (by omega) _)⟩
theorem Pk.drewN (h : Pk w wr n a sz g G pr ph HB LB TB idx k ka km) (S : Sep n G pr ph HB LB TB idx) (m : Nat) : Pk w (wr.drewN m) n a sz g G pr ph HB LB TB idx k ka km := by
  obtain ⟨P, At, M, h1, h2, h3, h4, h5, h6, h7, h8, h9⟩ := h
  exact ⟨P, At, M, h1.same S (fun _ _ => rfl), h2, h3, h4, h5.kept (fun _ _ => rfl) (fun k hk => hk.same rfl), h6, h7, h8.same rfl, h9.trans (Fr.drewN _ _ _ _)⟩
theorem Pk.drew (h : Pk w wr n a sz g G pr ph HB LB TB idx k ka km) (S : Sep n G pr ph HB LB TB idx) : Pk w wr.drew n a sz g G pr ph HB LB TB idx k ka km := by
  obtain ⟨P, At, M, h1, h2, h3, h4, h5, h6, h7, h8, h9⟩ := h
  exact ⟨P, At, M, h1.same S (fun _ _ => rfl), h2, h3, h4, h5.kept (fun _ _ => rfl) (fun k hk => hk.same rfl), h6, h7, h8.same rfl, h9.trans ⟨rfl, rfl, rfl, Nat.le_refl _, fun _ _ _ => rfl⟩⟩
/-- What the round reads at place k. -/
theorem Pk.at (h : Pk w wr n a sz g G pr ph HB LB TB idx k k k) (S : Sep n G pr ph HB LB TB idx) (hk : k < n) (hg : upd G a true k = false) :
    wr.cell? ⟨HB, k * 2, none⟩ = some (.pointer (some ⟨pr k, 0, none⟩)) ∧ wr.cell? ⟨HB, k * 2 + 1, none⟩ = some (.int .i32 (ai k)) ∧ wr.cell? ⟨pr k, 1, none⟩ = some (.slice (some ⟨ph k, 0, none⟩) (1 + k % 3) (1 + k % 3)) ∧ wr.cell? ⟨ph k, ai k * 5 + 3, none⟩ = some (.int .i32 k) ∧ (∀ i, wr.frozen? ⟨ph k, i, none⟩ = false) ∧ wr.cell? ⟨TB, 7, none⟩ = some (.map idx) ∧ TB < wr.heap.size ∧ Cells wr (pr k) := by
  obtain ⟨P, At, M, h1, h2, h3, h4, h5, h6, h7, h8, h9⟩ := h
  have hp : P k = some k := by rw [h3 k (Nat.le_refl _)]; simp [P0, hg]
  have hr := h1.rs k hk (G_of hg).2
  have e : At k = (k : Int) := by rw [h4 k hk (G_of hg).2]; simp
  rw [e] at hr
  exact ⟨by rw [h1.held.cell (by omega : k * 2 < 2 * n), plc_even pr P k k hp], by rw [h1.held.cell (by omega : k * 2 + 1 < 2 * n), plc_odd pr P k k hp], hr.c1, hr.c2, hr.f2, h8.c7, h8.lt, hr.cells⟩
theorem Pk.at_gap (h : Pk w wr n a sz g G pr ph HB LB TB idx k k k) (hk : k < n) (hg : upd G a true k = true) : wr.cell? ⟨HB, k * 2, none⟩ = some (.pointer none) ∧ wr.cell? ⟨HB, k * 2 + 1, none⟩ = some (.int .i32 0) ∧ TB < wr.heap.size := by
  obtain ⟨P, At, M, h1, h2, h3, h4, h5, h6, h7, h8, h9⟩ := h
  have hp : P k = none := by rw [h3 k (Nat.le_refl _)]; simp [P0, hg]
  exact ⟨by rw [h1.held.cell (by omega : k * 2 < 2 * n), plc_even_none pr P k hp], by rw [h1.held.cell (by omega : k * 2 + 1 < 2 * n), plc_odd_none pr P k hp], h8.lt⟩
theorem Pk.cells (h : Pk w wr n a sz g G pr ph HB LB TB idx k ka km) {j : Nat} (hj : j < n) (hg : G j = false) : Cells wr (pr j) := by
  obtain ⟨P, At, M, h1, h2, h3, h4, h5, h6, h7, h8, h9⟩ := h
  exact (h1.rs j hj hg).cells
theorem Pk.c7 (h : Pk w wr n a sz g G pr ph HB LB TB idx k ka km) : wr.cell? ⟨TB, 7, none⟩ = some (.map idx) := by
  obtain ⟨P, At, M, h1, h2, h3, h4, h5, h6, h7, h8, h9⟩ := h
  exact h8.c7

/-- The hold is told its new place. -/
theorem Pk.hold (h : Pk w wr n a sz g G pr ph HB LB TB idx k k k) (S : Sep n G pr ph HB LB TB idx) (hk : k < n) (hg : upd G a true k = false) :
    Pk w (wr.setCell ⟨ph k, ai k * 5 + 3, none⟩ (.int .i32 (kc (upd G a true) k))) n a sz g G pr ph HB LB TB idx k (k + 1) k := by
  obtain ⟨P, At, M, h1, h2, h3, h4, h5, h6, h7, h8, h9⟩ := h
  have s1 := S.a1
  have s2 := S.a2 k hk (G_of hg).2
  refine ⟨P, upd At k (kc (upd G a true) k), M, ⟨h1.held.other (by omega) _, fun j hj hG => ?_⟩, h2, h3, fun j hj hG => ?_, h5.kept (fun MB e => ?_) (fun k hk => hk.set _), h6, h7, h8.same (Below.heap_setCell _ _ _ _ (by show TB ≠ ph k; omega)), h9.trans (Fr.set _ (.inr (by omega)) _)⟩
  · by_cases e : j = k
    · subst e; rw [upd_same]; exact (h1.rs j hj hG).set (by omega) _
    · rw [upd_other _ _ _ _ e]
      have := S.pr_ne hj hk hG (G_of hg).2 e
      exact (h1.rs j hj hG).same (Below.heap_setCell _ _ _ _ (by show pr j ≠ ph k; omega)) (Below.heap_setCell _ _ _ _ (by show ph j ≠ ph k; omega))
  · by_cases e : j = k
    · subst e; rw [upd_same]; simp [hg]
    · rw [upd_other _ _ _ _ e, h4 j hj hG]
      have : j < k + 1 ↔ j < k := by omega
      simp only [this]
  · have := S.a4 MB e
    exact Below.heap_setCell _ _ _ _ (by show MB ≠ ph k; omega)
/-- The index is told its new place. -/
theorem Pk.index {MB : Nat} (h : Pk w wr n a sz g G pr ph HB LB TB (some MB) k ka k) (S : Sep n G pr ph HB LB TB (some MB)) (hk : k < n) (hg : upd G a true k = false) (han : a < n) (hGa : G a = false) :
    ∃ w2, (Instr.mapUpdate 44 (.map (some MB)) (.pointer (some ⟨pr k, 0, none⟩)) (.int .i64 (kc (upd G a true) k))).run Yba.prog wr = .ok () w2 ∧ Pk w w2 n a sz g G pr ph HB LB TB (some MB) k ka (k + 1) ∧ wr.grownBy w2 (some MB) := by
  obtain ⟨P, At, M, h1, h2, h3, h4, h5, h6, h7, h8, h9⟩ := h
  have s1 := S.a1
  have s5 := S.a5
  have s4 := S.a4 MB rfl
  have hc := (h1.rs k hk (G_of hg).2).cells
  obtain ⟨w2, e1, e2, e3⟩ := (h5 MB rfl).store hc (kc (upd G a true) k)
  have hlt := (h5 MB rfl).lt
  have ek := h6 k hk hg
  rw [ek] at e2
  simp at e2
  refine ⟨w2, e1, ⟨P, At, upd M (pr k) (some (kc (upd G a true) k)), h1.same S (fun b hb => e3.block b (by omega) (fun e => by simp at e; omega)), h2, h3, h4, (fun MB' h => by simp at h; subst h; exact e2 : Ix w2 (some MB) _ _), fun j hj hG => ?_, ?_, h8.same (e3.block TB (by omega) (fun e => by simp at e; omega)), h9.trans (Fr.grown e3 (by omega) (.inr (by omega)))⟩, e3⟩
  · by_cases e : j = k
    · subst e; rw [upd_same]; simp
    · have := S.pr_ne hj hk (G_of hG).2 (G_of hg).2 e
      rw [upd_other _ _ _ _ this.1, h6 j hj hG]
      have : j < k + 1 ↔ j < k := by omega
      simp only [this]
  · have := S.pr_ne han hk hGa (G_of hg).2 (fun e => (G_of hg).1 e.symm)
    rw [upd_other _ _ _ _ this.1, h7]
theorem Pk.noIndex (h : Pk w wr n a sz g G pr ph HB LB TB none k ka k) (S : Sep n G pr ph HB LB TB none) (hk : k < n) (hg : upd G a true k = false) (han : a < n) (hGa : G a = false) : Pk w wr n a sz g G pr ph HB LB TB none k ka (k + 1) := by
  obtain ⟨P, At, M, h1, h2, h3, h4, h5, h6, h7, h8, h9⟩ := h
  refine ⟨P, At, upd M (pr k) (some (kc (upd G a true) k)), h1, h2, h3, h4, (fun MB h => nomatch h : Ix wr none _ _), fun j hj hG => ?_, ?_, h8, h9⟩
  · by_cases e : j = k
    · subst e; rw [upd_same]; simp
    · have := S.pr_ne hj hk (G_of hG).2 (G_of hg).2 e
      rw [upd_other _ _ _ _ this.1, h6 j hj hG]
      have : j < k + 1 ↔ j < k := by omega
      simp only [this]
  · have := S.pr_ne han hk hGa (G_of hg).2 (fun e => (G_of hg).1 e.symm)
    rw [upd_other _ _ _ _ this.1, h7]
/-- The place is appended. -/
theorem Pk.place (h : Pk w wr n a sz g G pr ph HB LB TB idx k ka km) (S : Sep n G pr ph HB LB TB idx) (hg : upd G a true k = false) :
    ∃ f, Rw wr HB 41 (2 * n) f ∧ ∀ w2, Rw w2 HB 41 (2 * n) (upd (upd f (kc (upd G a true) k * 2) (.pointer (some ⟨pr k, 0, none⟩))) (kc (upd G a true) k * 2 + 1) (.int .i32 (ai k))) → wr.grownBy w2 (some HB) → Pk w w2 n a sz g G pr ph HB LB TB idx (k + 1) ka km := by
  obtain ⟨P, At, M, h1, h2, h3, h4, h5, h6, h7, h8, h9⟩ := h
  have s1 := S.a1
  have s5 := S.a5
  have hT := h8.lt
  refine ⟨plc pr P, h1.held, fun w2 hr hw => ⟨upd P (kc (upd G a true) k) (some k), At, M, ⟨hr.congr (fun i _ => plc_upd pr P _ (some k) _ _ (plc_even _ _ _ _ (upd_same _ _ _)) (plc_odd _ _ _ _ (upd_same _ _ _)) i), fun j hj hG => ?_⟩, fun j hj hG => ?_, fun s hs => ?_, h4, h5.kept (fun MB e => ?_) (fun k hk => ?_), h6, h7, h8.same (hw.block TB hT (fun e => by simp at e; omega)), h9.trans (Fr.grown hw (by omega) (.inl rfl))⟩⟩
  · have s2 := S.a2 j hj hG
    exact (h1.rs j hj hG).same (hw.block _ (by omega) (fun e => by simp at e; omega)) (hw.block _ (by omega) (fun e => by simp at e; omega))
  · by_cases e : j = k
    · subst e; exact upd_same _ _ _
    · rw [upd_other _ _ _ _ (fun e2 => e (kc_inj _ _ _ hG hg e2))]
      exact h2 j (by omega) hG
  · have := kc_le (upd G a true) k
    rw [upd_other _ _ _ _ (by omega)]
    exact h3 s (by omega)
  · have := S.a4 MB e
    exact hw.block MB (h5 MB e).lt (fun e => by simp at e; omega)
  · by_cases e : k = HB
    · subst e; exact hr.cells
    · obtain ⟨c, t, hk⟩ := hk
      exact ⟨c, t, (hw.block k (lt_of_block hk) (fun e' => e (by simpa using e'))).trans hk⟩
/-- The rest is cleared, the list is stored. -/
theorem Pk.finish {wc : World} (h : Pk w wr n a sz g G pr ph HB LB TB idx n n n) (S : Sep n G pr ph HB LB TB idx) (f : Nat → Value) (hf : Rw wr HB 41 (2 * n) f) (hr : Rw wc HB 41 (2 * n) (fun i => if i < kc (upd G a true) n * 2 then f i else noPlace i)) (hw : wr.grownBy wc (some HB)) :
    ∃ P At M', FS ((wc.setCell ⟨TB, 6, none⟩ (.slice (some ⟨HB, 0, none⟩) (kc (upd G a true) n) n)).setCell ⟨TB, 5, none⟩ (.int .i32 0)) n G pr ph HB P At ∧ (∀ j, j < n → upd G a true j = false → P (kc (upd G a true) j) = some j) ∧ (∀ s, kc (upd G a true) n ≤ s → s < n → P s = none) ∧
      (∀ j, j < n → G j = false → At j = if upd G a true j then (j : Int) else (kc (upd G a true) j : Int)) ∧ Tx ((wc.setCell ⟨TB, 6, none⟩ (.slice (some ⟨HB, 0, none⟩) (kc (upd G a true) n) n)).setCell ⟨TB, 5, none⟩ (.int .i32 0)) TB 0 HB (kc (upd G a true) n) n idx ∧ Ix ((wc.setCell ⟨TB, 6, none⟩ (.slice (some ⟨HB, 0, none⟩) (kc (upd G a true) n) n)).setCell ⟨TB, 5, none⟩ (.int .i32 0)) idx M' (sz - 1) ∧ (∀ j, j < n → upd G a true j = false → M' (pr j) = some (kc (upd G a true) j : Int)) ∧ M' (pr a) = none ∧ Fr w ((wc.setCell ⟨TB, 6, none⟩ (.slice (some ⟨HB, 0, none⟩) (kc (upd G a true) n) n)).setCell ⟨TB, 5, none⟩ (.int .i32 0)) HB LB := by
  obtain ⟨P, At, M, h1, h2, h3, h4, h5, h6, h7, h8, h9⟩ := h
  have s1 := S.a1
  have s5 := S.a5
  have hT := h8.lt
  have e1 : Rw wc HB 41 (2 * n) (plc pr (fun s => if s < kc (upd G a true) n then P s else none)) := by
    refine hr.congr (fun i hi => ?_)
    have c1 := h1.held.cell hi
    have c2 := hf.cell hi
    rw [c1] at c2
    simp at c2
    by_cases e : i < kc (upd G a true) n * 2
    · have e' : i / 2 < kc (upd G a true) n := by omega
      rw [if_pos e, ← c2]
      have q : (fun s => if s < kc (upd G a true) n then P s else none) (i / 2) = P (i / 2) := if_pos e'
      unfold plc
      rw [q]
    · have e' : ¬ i / 2 < kc (upd G a true) n := by omega
      rw [if_neg e]
      have q : (fun s => if s < kc (upd G a true) n then P s else none) (i / 2) = none := if_neg e'
      unfold plc
      rw [q]
  have fsc : FS wc n G pr ph HB (fun s => if s < kc (upd G a true) n then P s else none) At := ⟨e1, fun j hj hG => by
    have s2 := S.a2 j hj hG
    exact (h1.rs j hj hG).same (hw.block _ (by omega) (fun e => by simp at e; omega)) (hw.block _ (by omega) (fun e => by simp at e; omega))⟩
  have txc : Tx wc TB ((g : Int) + 1) HB n n idx := h8.same (hw.block TB hT (fun e => by simp at e; omega))
  have ixc : Ix wc idx M (sz - 1) := h5.kept (fun MB e => hw.block MB (h5 MB e).lt (fun e' => by have := S.a4 MB e; simp at e'; omega)) (fun k hk => by
    by_cases e : k = HB
    · subst e; exact hr.cells
    · obtain ⟨c, t, hk⟩ := hk
      exact ⟨c, t, (hw.block k (lt_of_block hk) (fun e' => e (by simpa using e'))).trans hk⟩)
  refine ⟨_, At, M, (fsc.same S (fun b hb => Below.heap_setCell _ _ _ _ (by show b ≠ TB; omega))).same S (fun b hb => Below.heap_setCell _ _ _ _ (by show b ≠ TB; omega)), fun j hj hG => ?_, fun s hs _ => ?_, fun j hj hG => ?_, (txc.set6 _).set5 0, (ixc.kept (fun MB e => Below.heap_setCell _ _ _ _ (by have := S.a4 MB e; show MB ≠ TB; omega)) (fun k hk => hk.set _)).kept (fun MB e => Below.heap_setCell _ _ _ _ (by have := S.a4 MB e; show MB ≠ TB; omega)) (fun k hk => hk.set _), fun j hj hG => ?_, h7, ((h9.trans (Fr.grown hw (by omega) (.inl rfl))).trans (Fr.set _ (.inr s5) _)).trans (Fr.set _ (.inr s5) _)⟩
  · show (if kc (upd G a true) j < kc (upd G a true) n then P (kc (upd G a true) j) else none) = some j
    rw [if_pos (kc_lt _ _ _ hj hG)]
    exact h2 j hj hG
  · show (if s < kc (upd G a true) n then P s else none) = none
    rw [if_neg (by omega)]
  · rw [h4 j hj hG]
    cases h : upd G a true j <;> simp [hj]
  · rw [h6 j hj hG, if_pos hj]
end

set_option maxHeartbeats 2000000 in
set_option maxRecDepth 100000 in
/-- More than half are gaps: the list is packed. -/
theorem forget_pack {w : World} {n a sz g : Nat} {G : Nat → Bool} {pr ph : Nat → Nat} {HB LB TB : Nat} {idx : Option Nat} {M : Nat → Option Int} (hn : n ≤ 1024) (han : a < n) (hGa : G a = false) (hg : g ≤ 1024)
    (S : Sep n G pr ph HB LB TB idx) (fs : FS w n G pr ph HB (P0 G) (fun j => (j : Int))) (tx : Tx w TB (g : Int) HB n n idx) (ix : Ix w idx M sz) (hM : ∀ j, j < n → G j = false → M (pr j) = some (j : Int)) (hc : ¬ (g + 1) * 2 ≤ n) :
    Calls Yba.prog 6 #[.pointer (some ⟨TB, 0, none⟩), .int .i64 a] w fun e w' => e = .returned (.tuple #[]) ∧ ∃ P At M', FS w' n G pr ph HB P At ∧ (∀ j, j < n → upd G a true j = false → P (kc (upd G a true) j) = some j) ∧ (∀ s, kc (upd G a true) n ≤ s → s < n → P s = none) ∧
      (∀ j, j < n → G j = false → At j = if upd G a true j then (j : Int) else (kc (upd G a true) j : Int)) ∧ Tx w' TB 0 HB (kc (upd G a true) n) n idx ∧ Ix w' idx M' (sz - 1) ∧ (∀ j, j < n → upd G a true j = false → M' (pr j) = some (kc (upd G a true) j : Int)) ∧ M' (pr a) = none ∧ Fr w w' HB LB := by
  obtain ⟨w1, hdel, ix1, same1, size1, os1, tape1, out1⟩ := drop_any (w := w.drew) S ((fs.rs a han hGa).cells) ix ⟨_, hM a han hGa⟩
  have c7 := tx.c7
  have c6 := tx.c6
  have hp : P0 G a = some a := by simp [P0, hGa]
  have ch : w.cell? ⟨HB, a * 2, none⟩ = some (.pointer (some ⟨pr a, 0, none⟩)) := by rw [fs.held.cell (by omega : a * 2 < 2 * n), plc_even pr (P0 G) a a hp]
  have k1 : (a : Int) < (n : Int) := by omega
  have tx1 : Tx w1 TB (g : Int) HB n n idx := tx.same (same1 TB (Nat.le_refl _))
  have fs1 := fs.same S (fun b hb => same1 b (Nat.le_of_lt hb))
  have c7' := tx1.c7
  have c6' := tx1.c6
  have c5' := tx1.c5
  have f5' := tx1.free 5
  have ch' : w1.cell? ⟨HB, a * 2, none⟩ = some (.pointer (some ⟨pr a, 0, none⟩)) := by rw [fs1.held.cell (by omega : a * 2 < 2 * n), plc_even pr (P0 G) a a hp]
  have ci' : w1.cell? ⟨HB, a * 2 + 1, none⟩ = some (.int .i32 (ai a)) := by rw [fs1.held.cell (by omega : a * 2 + 1 < 2 * n), plc_odd pr (P0 G) a a hp]
  have fh0 := fs1.held.free (a * 2)
  have fh1 := fs1.held.free (a * 2 + 1)
  have s1 := S.a1
  have s5 := S.a5
  have hne : ¬ HB = TB := by omega
  have hne' : ¬ TB = HB := by omega
  go_enter Yba.func6, Yba.ntmps6
  go_wp2_with fail
  go_region_held_law (fun w' => w'.cell? ⟨TB, 7, none⟩ = some (.map idx) ∧ w'.cell? ⟨TB, 6, none⟩ = some (.slice (some ⟨HB, 0, none⟩) n n) ∧ w'.cell? ⟨HB, a * 2, none⟩ = some (.pointer (some ⟨pr a, 0, none⟩))) (go_keep) (refine step_delete rfl (.tmp 10) (.tmp 18) rfl _ _ rfl rfl w1 (hdel _) ?_)
  have fr1 : Fr w w1 HB LB := ⟨os1, tape1, out1, size1, fun b hb _ => same1 b (by omega)⟩
  have fr2 : Fr w (((w1.setCell ⟨HB, a * 2, none⟩ (.pointer none)).setCell ⟨HB, a * 2 + 1, none⟩ (.int .i32 0)).setCell ⟨TB, 5, none⟩ (.int .i32 ((g : Int) + 1))) HB LB := ((fr1.trans (Fr.set _ (.inl rfl) _)).trans (Fr.set _ (.inl rfl) _)).trans (Fr.set _ (.inr s5) _)
  have BW := base_world (a := a) S fs1 tx1 ix1
  clear fs1 tx1 ix1
  go_wp2_with fail
  go_quiet (fail)
  obtain ⟨b1, b2, b3⟩ := BW
  have fs2 := b1.same (w' := ((((w1.setCell ⟨HB, a * 2, none⟩ (.pointer none)).setCell ⟨HB, a * 2 + 1, none⟩ (.int .i32 0)).setCell ⟨TB, 5, none⟩ (.int .i32 ((g : Int) + 1))).drewN nq)) S (fun _ _ => rfl)
  have tx2 : Tx ((((w1.setCell ⟨HB, a * 2, none⟩ (.pointer none)).setCell ⟨HB, a * 2 + 1, none⟩ (.int .i32 0)).setCell ⟨TB, 5, none⟩ (.int .i32 ((g : Int) + 1))).drewN nq) TB ((g : Int) + 1) HB n n idx := b2.same rfl
  have ix2 : Ix ((((w1.setCell ⟨HB, a * 2, none⟩ (.pointer none)).setCell ⟨HB, a * 2 + 1, none⟩ (.int .i32 0)).setCell ⟨TB, 5, none⟩ (.int .i32 ((g : Int) + 1))).drewN nq) idx (upd M (pr a) none) (sz - 1) := b3.kept (fun _ _ => rfl) (fun k hk => hk.same rfl)
  have fr3 := fr2.trans (Fr.drewN _ HB LB nq)
  clear b1 b2 b3 fr2 fr1
  generalize ((((w1.setCell ⟨HB, a * 2, none⟩ (.pointer none)).setCell ⟨HB, a * 2 + 1, none⟩ (.int .i32 0)).setCell ⟨TB, 5, none⟩ (.int .i32 ((g : Int) + 1))).drewN nq) = w2 at *
  clear hdel same1 size1 os1 tape1 out1 c7 c6 ch c7' c6' c5' f5' ch' ci' fh0 fh1 fs tx ix
  have d6 := tx2.c6
  go_wp2_with fail
  have PK0 : Pk w w2 n a sz g G pr ph HB LB TB idx 0 0 0 := by
    refine ⟨_, _, _, fs2, fun j hj => absurd hj (by omega), fun s _ => rfl, fun j _ _ => by simp, ix2, fun j hj hG => ?_, upd_same _ _ _, tx2, fr3⟩
    have := S.pr_ne hj han (G_of hG).2 hGa (G_of hG).1
    rw [upd_other _ _ _ _ this.1, hM j hj (G_of hG).2]
    simp
  clear fs2 tx2 ix2 fr3 d6
  go_loopw [4, 55] (fun v4 v wr => ∃ k : Nat, k ≤ n ∧ v = .int .i64 k ∧ v4 = .slice (some ⟨HB, 0, none⟩) (kc (upd G a true) k) n ∧ Pk w wr n a sz g G pr ph HB LB TB idx k k k) (fun _ v _ => n - (intOf v).toNat)
  case atStart => exact ⟨0, by omega, rfl, rfl, PK0⟩
  case round =>
    obtain ⟨k, hk, rfl, rfl, pk⟩ := hrel
    clear PK0
    by_cases hlt : k < n
    · have k2 : (k : Int) < (n : Int) := by omega
      cases hg' : upd G a true k with
      | true =>
        obtain ⟨c0, c1, hsz⟩ := pk.at_gap hlt hg'
        have pk2 := (pk.gap hg').alloc S (.cells #[.pointer none, .int .i32 0] 41)
        have e : kc (upd G a true) (k + 1) = kc (upd G a true) k := by simp [kc, hg']
        have HG : Hid (upd G a true k = true) := hg'
        clear hg' pk
        go_wp2
        go_roundw
        case rel => exact ⟨k + 1, by omega, by simp, by rw [e], pk2⟩
        case measure => simp [intOf]; omega
      | false =>
        obtain ⟨c0, c1, _, _, _, _, hsz, _⟩ := pk.at S hlt hg'
        have pA := pk.alloc S (.cells #[.pointer (some ⟨pr k, 0, none⟩), .int .i32 (ai k)] 41)
        have hB : (wr.alloc (.cells #[.pointer (some ⟨pr k, 0, none⟩), .int .i32 (ai k)] 41)).heap[wr.heap.size]? = some (.cells #[.pointer (some ⟨pr k, 0, none⟩), .int .i32 (ai k)] 41 (0, 0)) := by
          show (wr.heap.push _)[wr.heap.size]? = _
          rw [Array.getElem?_push_size]
        have ek : kc (upd G a true) (k + 1) = kc (upd G a true) k + 1 := by simp [kc, hg']
        have HG : Hid (upd G a true k = false) := hg'
        have hkk := kc_le (upd G a true) k
        have PL : Hid (∀ wx, Pk w wx n a sz g G pr ph HB LB TB idx k (k + 1) (k + 1) → ∃ f, Rw wx HB 41 (2 * n) f ∧ ∀ w2, Rw w2 HB 41 (2 * n) (upd (upd f (kc (upd G a true) k * 2) (.pointer (some ⟨pr k, 0, none⟩))) (kc (upd G a true) k * 2 + 1) (.int .i32 (ai k))) → wx.grownBy w2 (some HB) → Pk w w2 n a sz g G pr ph HB LB TB idx (k + 1) (k + 1) (k + 1)) := fun wx h => h.place S hg'
        have PI : Hid (∀ wx MB, idx = some MB → Pk w wx n a sz g G pr ph HB LB TB idx k (k + 1) k → ∃ w2, (Instr.mapUpdate 44 (.map (some MB)) (.pointer (some ⟨pr k, 0, none⟩)) (.int .i64 (kc (upd G a true) k))).run Yba.prog wx = .ok () w2 ∧ Pk w w2 n a sz g G pr ph HB LB TB idx k (k + 1) (k + 1) ∧ wx.grownBy w2 (some MB)) := by
          intro wx MB e h
          subst e
          exact h.index S hlt hg' han hGa
        have PN : Hid (∀ wx, idx = none → Pk w wx n a sz g G pr ph HB LB TB idx k (k + 1) k → Pk w wx n a sz g G pr ph HB LB TB idx k (k + 1) (k + 1)) := by
          intro wx e h
          subst e
          exact h.noIndex S hlt hg' han hGa
        have PH : Hid (∀ wx, Pk w wx n a sz g G pr ph HB LB TB idx k k k → Pk w (wx.setCell ⟨ph k, ai k * 5 + 3, none⟩ (.int .i32 (kc (upd G a true) k))) n a sz g G pr ph HB LB TB idx k (k + 1) k) := fun wx h => h.hold S hlt hg'
        obtain ⟨a0, a1, a2, a3, a4, a7, hsz2, hcl⟩ := pA.at S hlt hg'
        clear hg' pk
        generalize kc (upd G a true) k = kk at *
        have s2 := S.a2 k hlt (G_of HG.out).2
        have hai : ai k < 1 + k % 3 := ai_lt k
        have hT : TB < wr.heap.size := hsz
        have b1 : (ai k : Int) < ((1 + k % 3 : Nat) : Int) := by omega
        have b2 : (ai k : Int) ≤ 3 := by omega
        have b3 : (kk : Int) ≤ 1024 := by omega
        have A4 := a4 (ai k * 5 + 3)
        go_wp2_with fail
        generalize hTT : wr.heap.size = T at *
        have hb0 : (wr.alloc (.cells #[.pointer (some ⟨pr k, 0, none⟩), .int .i32 (ai k)] 41)).cell? ⟨T, 0, none⟩ = some (.pointer (some ⟨pr k, 0, none⟩)) := by rw [cell_of_row _ _ _ _ _ _ hB]; rfl
        have hb1 : (wr.alloc (.cells #[.pointer (some ⟨pr k, 0, none⟩), .int .i32 (ai k)] 41)).cell? ⟨T, 1, none⟩ = some (.int .i32 (ai k)) := by rw [cell_of_row _ _ _ _ _ _ hB]; rfl
        have hsz3 : (wr.alloc (.cells #[.pointer (some ⟨pr k, 0, none⟩), .int .i32 (ai k)] 41)).heap.size = T + 1 := by
          show (wr.heap.push _).size = _
          rw [Array.size_push, hTT]
        generalize wr.alloc (.cells #[.pointer (some ⟨pr k, 0, none⟩), .int .i32 (ai k)] 41) = wA at *
        clear c0 c1
        generalize hL : 1 + k % 3 = L at *
        generalize hAI : ai k = A at *
        have n1 : ¬ T = ph k := by omega
        have n2 : ¬ pr k = ph k := by omega
        have n3 : ¬ TB = ph k := by omega
        have kc1 : ∀ v, (wA.setCell ⟨ph k, A * 5 + 3, none⟩ v).cell? ⟨T, 0, none⟩ = wA.cell? ⟨T, 0, none⟩ := fun v => cell_same (Below.heap_setCell _ _ _ _ n1)
        have kc2 : ∀ v, (wA.setCell ⟨ph k, A * 5 + 3, none⟩ v).cell? ⟨T, 1, none⟩ = wA.cell? ⟨T, 1, none⟩ := fun v => cell_same (Below.heap_setCell _ _ _ _ n1)
        have kc3 : ∀ v, (wA.setCell ⟨ph k, A * 5 + 3, none⟩ v).cell? ⟨pr k, 1, none⟩ = wA.cell? ⟨pr k, 1, none⟩ := fun v => cell_same (Below.heap_setCell _ _ _ _ n2)
        go_region_held_law (fun w' => w'.cell? ⟨T, 0, none⟩ = some (.pointer (some ⟨pr k, 0, none⟩)) ∧ w'.cell? ⟨T, 1, none⟩ = some (.int .i32 A) ∧ w'.cell? ⟨pr k, 1, none⟩ = some (.slice (some ⟨ph k, 0, none⟩) L L)) (first | go_keep | (refine ⟨(kc1 _).trans ?_, (kc2 _).trans ?_, (kc3 _).trans ?_⟩ <;> assumption)) (fail)
        rw [wrap32 kk (by omega)]
        have pB := (PH.out _ pA).drew S
        have hB2 : (wA.setCell ⟨ph k, A * 5 + 3, none⟩ (.int .i32 kk)).drew.heap[T]? = some (.cells #[.pointer (some ⟨pr k, 0, none⟩), .int .i32 A] 41 (0, 0)) := (Below.heap_setCell wA _ _ T n1).trans hB
        clear PH kc1 kc2 kc3 a0 a1 a2 a3 A4 a4 a7 hb0 hb1 hB pA hsz2 hcl
        generalize (wA.setCell ⟨ph k, A * 5 + 3, none⟩ (.int .i32 kk)).drew = wB at *
        have e0 : wB.cell? ⟨T, 0, none⟩ = some (.pointer (some ⟨pr k, 0, none⟩)) := by rw [cell_of_row _ _ _ _ _ _ hB2]; rfl
        have e1 : wB.cell? ⟨T, 1, none⟩ = some (.int .i32 A) := by rw [cell_of_row _ _ _ _ _ _ hB2]; rfl
        have e7 := pB.c7
        cases idx with
        | none =>
          have Q44 := q44 none
          have pC := PN.out wB rfl pB
          have pD := pC.alloc S (.cells #[.pointer (some ⟨pr k, 0, none⟩), .int .i32 A] 41)
          obtain ⟨f, hrw, hnext⟩ := PL.out _ pD
          have hnB : (wB.alloc (.cells #[.pointer (some ⟨pr k, 0, none⟩), .int .i32 A] 41)).heap[wB.heap.size]? = some (.cells #[.pointer (some ⟨pr k, 0, none⟩), .int .i32 A] 41 (0, 0)) := by
            show (wB.heap.push _)[wB.heap.size]? = _
            rw [Array.getElem?_push_size]
          have HN : Hid (∀ w2, Rw w2 HB 41 (2 * n) (upd (upd f (kk * 2) (.pointer (some ⟨pr k, 0, none⟩))) (kk * 2 + 1) (.int .i32 A)) → (wB.alloc (.cells #[.pointer (some ⟨pr k, 0, none⟩), .int .i32 A] 41)).grownBy w2 (some HB) → Pk w w2 n a sz g G pr ph HB LB TB none (k + 1) (k + 1) (k + 1)) := hnext
          clear PN PI PL hnext pB pC pD
          go_wp2_with (refine wpList_append_place _ rfl _ _ rfl HB kk n f rfl hrw (by omega) wB.heap.size _ _ 41 (0, 0) rfl hnB rfl rfl ?_; intro w3 hr3 hg3; have pE := HN.out w3 hr3 hg3; clear hr3 hg3 hrw hnB)
          go_roundw
          case rel => exact ⟨k + 1, by omega, by simp, by rw [ek], pE⟩
          case measure => simp [intOf]; omega
        | some MB =>
          have Q44 := q44 (some MB)
          have s4 := S.a4 MB rfl
          obtain ⟨wC, hmu, pC, hgr⟩ := PI.out wB.drew MB rfl (pB.drew S)
          have hB3 : wC.heap[T]? = some (.cells #[.pointer (some ⟨pr k, 0, none⟩), .int .i32 A] 41 (0, 0)) := (hgr.block T (lt_of_block hB2) (fun e => by simp at e; subst e; have := hgr; exact absurd hB2 (by obtain ⟨_, _, M, _, _, _, _, hx, _⟩ := pB; obtain ⟨es, cl, h1, _⟩ := hx _ rfl; rw [h1]; simp))).trans hB2
          have d0 : wC.cell? ⟨T, 0, none⟩ = some (.pointer (some ⟨pr k, 0, none⟩)) := by rw [cell_of_row _ _ _ _ _ _ hB3]; rfl
          have d1 : wC.cell? ⟨T, 1, none⟩ = some (.int .i32 A) := by rw [cell_of_row _ _ _ _ _ _ hB3]; rfl
          have d7 := pC.c7
          have pD := pC.alloc S (.cells #[.pointer (some ⟨pr k, 0, none⟩), .int .i32 A] 41)
          obtain ⟨f, hrw, hnext⟩ := PL.out _ pD
          have hnB : (wC.alloc (.cells #[.pointer (some ⟨pr k, 0, none⟩), .int .i32 A] 41)).heap[wC.heap.size]? = some (.cells #[.pointer (some ⟨pr k, 0, none⟩), .int .i32 A] 41 (0, 0)) := by
            show (wC.heap.push _)[wC.heap.size]? = _
            rw [Array.getElem?_push_size]
          have HN : Hid (∀ w2, Rw w2 HB 41 (2 * n) (upd (upd f (kk * 2) (.pointer (some ⟨pr k, 0, none⟩))) (kk * 2 + 1) (.int .i32 A)) → (wC.alloc (.cells #[.pointer (some ⟨pr k, 0, none⟩), .int .i32 A] 41)).grownBy w2 (some HB) → Pk w w2 n a sz g G pr ph HB LB TB (some MB) (k + 1) (k + 1) (k + 1)) := hnext
          clear PN PI PL hnext pB pC pD hgr
          go_wp2_with fail
          go_region_held_law (fun w' => w'.cell? ⟨TB, 7, none⟩ = some (.map (some MB)) ∧ w'.cell? ⟨T, 0, none⟩ = some (.pointer (some ⟨pr k, 0, none⟩))) (first | go_keep | exact ⟨d7, d0⟩) (fail)
          go_wp2_with (refine wpList_append_place _ rfl _ _ rfl HB kk n f rfl hrw (by omega) wC.heap.size _ _ 41 (0, 0) rfl hnB rfl rfl ?_; intro w3 hr3 hg3; have pE := HN.out w3 hr3 hg3; clear hr3 hg3 hrw hnB)
          go_roundw
          case rel => exact ⟨k + 1, by omega, by simp, by rw [ek], pE⟩
          case measure => simp [intOf]; omega
    · obtain rfl : k = n := by omega
      have k2 : ¬ (k : Int) < (k : Int) := by omega
      have c6 : wr.cell? ⟨TB, 6, none⟩ = some (.slice (some ⟨HB, 0, none⟩) k k) := by obtain ⟨P, At, M, h1, h2, h3, h4, h5, h6, h7, h8, h9⟩ := pk; exact h8.c6
      have hkk := kc_gap (upd G a true) a k han (upd_same _ _ _)
      have PE : Hid (Pk w wr k a sz g G pr ph HB LB TB idx k k k) := pk
      clear pk hlt hk
      have hp' := hp
      clear hp hM hp' hGa
      generalize hKK : kc (upd G a true) k = K at *
      have HK : Hid (kc (upd G a true) k = K) := hKK
      clear hKK
      have k3 : (K : Int) ≤ (k : Int) := by omega
      have k4 : ¬ k = K := by omega
      have c6b := c6
      obtain ⟨P, At, M', h1, h2, h3, h4, h5, h6, h7, h8, h9⟩ := PE.out
      have hrw := h1.held
      have RW0 : Hid (Rw wr HB 41 (2 * k) (plc pr P)) := hrw
      have T6 : Hid (Tx wr TB ((g : Int) + 1) HB k k idx) := h8
      have hsz := h8.lt
      have s1 := S.a1
      clear h1 h2 h3 h4 h5 h6 h7 h8 h9
      go_wp2_with (refine wpList_clear _ rfl _ rfl HB K (k - K) k _ _ rfl hrw (by omega) ?_; intro wc hrc hgc; have TC : Tx wc TB ((g : Int) + 1) HB k k idx := T6.out.same (hgc.block TB hsz (fun e => by simp at e; omega)); have x5 := TC.c5; have x6 := TC.c6; have fx5 := TC.free 5; have fx6 := TC.free 6; clear c6 c6b hrw)
      have FIN := PE.out.finish S _ RW0.out (by rw [HK.out]; exact hrc) hgc
      rw [HK.out] at FIN
      go_end0
      refine ⟨rfl, ?_⟩
      rw [HK.out]
      obtain ⟨P', At', M'', q1, q2, q3, q4, q5, q6, q7, q8, q9⟩ := FIN
      exact ⟨P', At', q1, q2, q3, q4, q5, M'', q6, q7, q8, q9⟩
end Go.Proofs.Ybulkarya.forget
