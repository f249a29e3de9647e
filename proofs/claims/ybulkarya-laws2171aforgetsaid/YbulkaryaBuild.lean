/-
  What the law builds ahead of the call: the resources, the list, the live places, the index.
-/
import Derived.Test.YbulkaryaPack
import Derived.OwnWalk
namespace Go.Proofs.Ybulkarya.forget
set_option linter.unusedVariables false
set_option linter.unusedSimpArgs false
open Go.RowKit

theorem row_made {w' : World} {base g size n : Nat} {e : TypeId} {zs : Array Value} (h : w'.ownsRow base e size (.slice (some ⟨g, 0, none⟩) n n) n (madeCells zs (n * size)).toList) :
    ∃ cur, w'.heap[g]? = some (.cells cur e (0, 0)) ∧ cur.size = n * size ∧ ∀ i, i < n * size → cur[i]? = some (zs[i % zs.size]!) := by
  rcases h.2 with ⟨h', _⟩ | ⟨g', cap, cur, h', hb, hg, h1, h2, h3, h4⟩
  · cases h'
  · cases h'
    refine ⟨cur, hg, h3, fun i hi => ?_⟩
    have : cur.toList[i]? = (madeCells zs (n * size)).toList[i]? := by rw [← h4, List.getElem?_take_of_lt hi]
    have e : cur[i]? = (madeCells zs (n * size))[i]? := by simpa using this
    rw [e]
    simp [madeCells, hi]
theorem row_room {w' : World} {base g n : Nat} {e : TypeId} (h : w'.ownsRow base e 1 (.slice (some ⟨g, 0, none⟩) 0 n) 0 []) : ∃ f, Rw w' g e n f := by
  rcases h.2 with ⟨h', _⟩ | ⟨g', cap, cur, h', hb, hg, h1, h2, h3, h4⟩
  · cases h'
  · cases h'
    refine ⟨fun i => cur[i]!, cur, hg, by omega, fun i hi => ?_⟩
    have hlt : i < cur.size := by omega
    simp [hlt]

/-- 'live = append(live, j)', with room. -/
theorem wpList_append_int (w : World) {ops : Array Oper} {rest : List Oper} {o : Oper} {a : Act} {Q : Exit → Act → World → Prop} (hgd : o.guard = none) (s x : Operand)
    (ho : o.op = .call { callee := .builtin .append, args := #[s, x], argTypes := #[26, 26] }) (g c n : Nat) (f : Nat → Value) (hs : a.eval s = .slice (some ⟨g, 0, none⟩) c n) (hrw : Rw w g 3 n f) (hc : c < n)
    (B : Nat) (v0 : Value) (t2 : TypeId) (fr : Nat × Nat) (hx : a.eval x = .slice (some ⟨B, 0, none⟩) 1 1) (hB : w.heap[B]? = some (.cells #[v0] t2 fr)) (h0 : v0.oneCell' = true)
    (h : ∀ w', Rw w' g 3 n (upd f c v0) → w.grownBy w' (some g) → wpList Yba.prog ops Q rest (a.put o.dst (.slice (some ⟨g, 0, none⟩) (c + 1) n)) w') : wpList Yba.prog ops Q (o :: rest) a w := by
  refine wpList_plain hgd fun K hK => ?_
  obtain ⟨i3, hi, hz, hsz, hb⟩ := info_parts info3
  obtain ⟨cur, hg, hn, hf⟩ := hrw
  have hnews : ∀ j u, [v0][j]? = some u → w.cell? ((⟨B, 0, none⟩ : Addr).add j) = some u := by
    intro j u hu
    rw [Addr.add_lit, cell_of_row w B _ #[v0] t2 fr hB]
    simpa using hu
  have hrun := run_append_room (P := Yba.prog) w 26 o.type 3 i3 Yba.underlying26 hi g c n cur hg ⟨B, 0, none⟩ 1 1 [v0] (by simp [hsz]) hnews (by simp [h0]) (by omega) (by simp [hsz, hn]; omega)
  unfold Oper.wp execOp
  simp only [ho, resolve, invoke, builtin, Sem.run_bind, Sem.run_pure, Result.andThen_ok, List.map_toArray, List.map_cons, List.map_nil, hs, hx, hrun]
  refine hK _ _ (h _ ?_ (setRow_grown _ _ _))
  rw [hsz, Nat.mul_one]
  refine rw_splice hg hn hf (by simp; omega) (fun i hi hh => ?_) (fun i hi => ?_)
  · simp at hh
    rw [upd_other _ _ _ _ (by omega)]
  · simp at hi
    subst hi
    simp [upd]

theorem kc_surj (G : Nat → Bool) (i : Nat) : ∀ n, i < kc G n → ∃ j, j < n ∧ G j = false ∧ kc G j = i
  | 0, h => by simp [kc] at h
  | n + 1, h => by
    by_cases e : i < kc G n
    · obtain ⟨j, h1, h2, h3⟩ := kc_surj G i n e
      exact ⟨j, by omega, h2, h3⟩
    · have e2 : kc G (n + 1) = kc G n + if G n then 0 else 1 := rfl
      cases hG : G n with
      | true => simp [hG] at e2; omega
      | false => simp [hG] at e2; exact ⟨n, by omega, hG, by omega⟩

/-- The small helper of the law. -/
theorem ai_any (j : Nat) (w : World) (hj : j ≤ 1024) : Calls Yba.prog 5 #[.int .i64 j] w fun e w' => e = .returned (.int .i64 (ai j)) ∧ w' = w := by
  have k1 : (j : Int) ≤ 1024 := by omega
  have e1 : (j : Int).tmod 3 = ((j % 3 : Nat) : Int) := by rw [Int.tmod_eq_emod_of_nonneg (by omega)]; omega
  have e2 : (j : Int).tmod (1 + ((j % 3 : Nat) : Int)) = ((ai j : Nat) : Int) := by
    rw [Int.tmod_eq_emod_of_nonneg (by omega)]
    show _ = ((j % (1 + j % 3) : Nat) : Int)
    rw [Int.natCast_emod j (1 + j % 3), Int.natCast_add 1 (j % 3)]
    rfl
  have k2 : ((j % 3 : Nat) : Int) < 3 := by omega
  have k3 : ¬ 1 + ((j % 3 : Nat) : Int) = 0 := by omega
  have e3 : (j : Int) % 3 = ((j % 3 : Nat) : Int) := by omega
  have e4 : (j : Int) % (1 + ((j % 3 : Nat) : Int)) = ((ai j : Nat) : Int) := by
    show _ = ((j % (1 + j % 3) : Nat) : Int)
    rw [Int.natCast_emod j (1 + j % 3), Int.natCast_add 1 (j % 3)]
    rfl
  generalize j % 3 = r at *
  go_enter Yba.func5, Yba.ntmps5
  go_wp2
  go_ret
  exact ⟨rfl, rfl⟩

theorem alloc_at (X : World) (o : Obj) (m : Nat) (h : X.heap.size = m) : (X.alloc o).heap[m]? = some o := by
  subst h
  show (X.heap.push o)[X.heap.size]? = _
  rw [Array.getElem?_push_size]
theorem made_facts {wr w2 : World} {cs zs : Array Value} {r : Nat} (hown : w2.ownsRow 0 35 5 (.slice (some ⟨(wr.alloc (.cells cs 38)).heap.size, 0, none⟩) (1 + r) (1 + r)) (1 + r) (madeCells zs ((1 + r) * 5)).toList) (hg : (wr.alloc (.cells cs 38)).grownBy w2 none) :
    w2.heap[wr.heap.size]? = some (.cells cs 38 (0, 0)) ∧ (∃ hs, w2.heap[wr.heap.size + 1]? = some (.cells hs 35 (0, 0)) ∧ hs.size = (1 + r) * 5) ∧ Below wr.heap.size wr w2 := by
  have hs : (wr.alloc (.cells cs 38)).heap.size = wr.heap.size + 1 := by show (wr.heap.push _).size = _; exact Array.size_push _
  obtain ⟨cur, h1, h2, h3⟩ := row_made hown
  rw [hs] at h1
  refine ⟨(hg.block _ (by omega) (by simp)).trans (alloc_at _ _ _ rfl), ⟨cur, h1, h2⟩, ((Below.refl _ wr).alloc (Nat.le_refl _) _).grown hg (by omega) (fun k e => by cases e)⟩

/-- The first loop stands at place j. -/
structure Bd (w wr : World) (n : Nat) (G : Nat → Bool) (pr ph : Nat → Nat) (RB HB LB j : Nat) : Prop where
  res : ∃ f, Rw wr RB 27 n f ∧ ∀ i, i < j → G i = false → f i = .pointer (some ⟨pr i, 0, none⟩)
  held : Rw wr HB 41 (2 * n) (plc pr (fun s => if s < j then P0 G s else none))
  live : ∃ f, Rw wr LB 3 n f ∧ ∀ i, i < j → G i = false → f (kc G i) = .int .i64 i
  rs : ∀ i, i < j → G i = false → Rsrc wr (pr i) (ph i) i i
  at' : ∀ i, i < j → G i = false → LB < pr i ∧ pr i < ph i ∧ ph i < wr.heap.size
  ord : ∀ i i', i < i' → i' < j → G i = false → G i' = false → ph i < pr i'
  bel : Below w.heap.size w wr

section
variable {w wr w2 : World} {n : Nat} {G : Nat → Bool} {pr ph : Nat → Nat} {RB HB LB j : Nat}
theorem Bd.gap (h : Bd w wr n G pr ph RB HB LB j) (hG : G j = true) : Bd w wr n G pr ph RB HB LB (j + 1) := by
  have lt : ∀ i, i < j + 1 → G i = false → i < j := fun i hi hg => by
    rcases Nat.lt_or_ge i j with h | h
    · exact h
    · obtain rfl : i = j := by omega
      rw [hG] at hg; cases hg
  refine ⟨?_, h.held.congr (fun i _ => ?_), ?_, fun i hi hg => h.rs i (lt i hi hg) hg, fun i hi hg => h.at' i (lt i hi hg) hg, fun i i' h1 h2 g g' => h.ord i i' h1 (lt i' h2 g') g g', h.bel⟩
  · obtain ⟨f, h1, h2⟩ := h.res
    exact ⟨f, h1, fun i hi hg => h2 i (lt i hi hg) hg⟩
  · have : (fun s => if s < j then P0 G s else none) = (fun s => if s < j + 1 then P0 G s else none) := by
      funext s
      by_cases e : s = j
      · subst e; simp [P0, hG]
      · have : s < j + 1 ↔ s < j := by omega
        simp only [this]
    rw [this]
  · obtain ⟨f, h1, h2⟩ := h.live
    exact ⟨f, h1, fun i hi hg => h2 i (lt i hi hg) hg⟩

theorem plc_build (pr : Nat → Nat) (G : Nat → Bool) (j p : Nat) (hG : G j = false) (i : Nat) :
    upd (upd (plc pr (fun s => if s < j then P0 G s else none)) (j * 2) (.pointer (some ⟨p, 0, none⟩))) (j * 2 + 1) (.int .i32 (ai j)) i = plc (upd pr j p) (fun s => if s < j + 1 then P0 G s else none) i := by
  have hj : (fun s => if s < j + 1 then P0 G s else none) j = some j := by simp [P0, hG]
  by_cases e1 : i = j * 2 + 1
  · subst e1; rw [upd_same, plc_odd _ _ _ _ hj]
  · rw [upd_other _ _ _ _ e1]
    by_cases e0 : i = j * 2
    · subst e0; rw [upd_same, plc_even _ _ _ _ hj, upd_same]
    · rw [upd_other _ _ _ _ e0]
      have ne : i / 2 ≠ j := by omega
      have this : i / 2 < j + 1 ↔ i / 2 < j := by omega
      unfold plc
      simp only [this]
      by_cases e : i / 2 < j
      · simp only [if_pos e]
        unfold P0
        cases G (i / 2) with
        | true => rfl
        | false =>
          show (if i % 2 = 0 then ptr (pr (i / 2)) else _) = (if i % 2 = 0 then ptr (upd pr j p (i / 2)) else _)
          rw [upd_other _ _ _ _ ne]
      · simp only [if_neg e]

/-- The world behind the round's stores, ahead of the append. -/
def built (w2 : World) (p q RB HB j : Nat) : World :=
  (((((w2.setCell ⟨p, 1, none⟩ (.slice (some ⟨q, 0, none⟩) (1 + j % 3) (1 + j % 3))).setCell ⟨q, ai j * 5 + 3, none⟩ (.int .i32 j)).setCell ⟨RB, j, none⟩ (.pointer (some ⟨p, 0, none⟩))).setCell ⟨HB, j * 2, none⟩ (.pointer (some ⟨p, 0, none⟩))).setCell ⟨HB, j * 2 + 1, none⟩ (.int .i32 (ai j)))

theorem built_other (w2 : World) (p q RB HB j b : Nat) (h1 : b ≠ p) (h2 : b ≠ q) (h3 : b ≠ RB) (h4 : b ≠ HB) : (built w2 p q RB HB j).heap[b]? = w2.heap[b]? := by
  unfold built
  rw [Below.heap_setCell _ _ _ _ (by exact h4), Below.heap_setCell _ _ _ _ (by exact h4), Below.heap_setCell _ _ _ _ (by exact h3), Below.heap_setCell _ _ _ _ (by exact h2), Below.heap_setCell _ _ _ _ (by exact h1)]

theorem Bd.facts {cs hs : Array Value} (h : Bd w wr n G pr ph RB HB LB j) (hj : j < n) (o2 : RB < HB) (o3 : HB < LB) (o4 : LB < wr.heap.size) {p : Nat} (hp : p = wr.heap.size)
    (hcs : w2.heap[p]? = some (.cells cs 38 (0, 0))) (h9 : cs.size = 9) (hhs : w2.heap[p + 1]? = some (.cells hs 35 (0, 0))) (hhn : hs.size = (1 + j % 3) * 5) (bel2 : Below p wr w2) :
    (∃ v, w2.cell? ⟨p, 1, none⟩ = some v) ∧ w2.frozen? ⟨p, 1, none⟩ = false ∧ (∃ v, w2.cell? ⟨p + 1, ai j * 5 + 3, none⟩ = some v) ∧ w2.frozen? ⟨p + 1, ai j * 5 + 3, none⟩ = false ∧ (∃ v, w2.cell? ⟨RB, j, none⟩ = some v) ∧ w2.frozen? ⟨RB, j, none⟩ = false ∧
      (∃ v, w2.cell? ⟨HB, j * 2, none⟩ = some v) ∧ w2.frozen? ⟨HB, j * 2, none⟩ = false ∧ (∃ v, w2.cell? ⟨HB, j * 2 + 1, none⟩ = some v) ∧ w2.frozen? ⟨HB, j * 2 + 1, none⟩ = false := by
  obtain ⟨fr, r1, r2⟩ := h.res
  have hai := ai_lt j
  have r1' := r1.same (bel2.block RB (by omega))
  have h1' := h.held.same (bel2.block HB (by omega))
  refine ⟨⟨cs[1], ?_⟩, by simp [World.frozen?, hcs], ⟨hs[ai j * 5 + 3], ?_⟩, by simp [World.frozen?, hhs], ⟨_, r1'.cell hj⟩, r1'.free _, ⟨_, h1'.cell (by omega)⟩, h1'.free _, ⟨_, h1'.cell (by omega)⟩, h1'.free _⟩
  · rw [cell_of_row _ _ _ _ _ _ hcs]
    simp
  · rw [cell_of_row _ _ _ _ _ _ hhs]
    simp

theorem Bd.step {cs hs : Array Value} {o : Obj} (h : Bd w wr n G pr ph RB HB LB j) (hj : j < n) (hG : G j = false) (o1 : w.heap.size ≤ RB) (o2 : RB < HB) (o3 : HB < LB) (o4 : LB < wr.heap.size) {p : Nat} (hp : p = wr.heap.size)
    (hcs : w2.heap[p]? = some (.cells cs 38 (0, 0))) (h9 : cs.size = 9) (hhs : w2.heap[p + 1]? = some (.cells hs 35 (0, 0))) (hhn : hs.size = (1 + j % 3) * 5) (bel2 : Below p wr w2) :
    ∃ f, Rw ((built w2 p (p + 1) RB HB j).alloc o) LB 3 n f ∧ ∀ w8, Rw w8 LB 3 n (upd f (kc G j) (.int .i64 j)) → ((built w2 p (p + 1) RB HB j).alloc o).grownBy w8 (some LB) → Bd w w8 n G (upd pr j p) (upd ph j (p + 1)) RB HB LB (j + 1) ∧ LB < w8.heap.size := by
  have hsz : p + 1 < w2.heap.size := lt_of_block hhs
  have bsz : (built w2 p (p + 1) RB HB j).heap.size = w2.heap.size := by unfold built; simp [World.setCell]
  obtain ⟨fl, l1, l2⟩ := h.live
  obtain ⟨fr, r1, r2⟩ := h.res
  have hai := ai_lt j
  have al : ∀ b, b < p + 1 + 1 → ((built w2 p (p + 1) RB HB j).alloc o).heap[b]? = (built w2 p (p + 1) RB HB j).heap[b]? := fun b hb => Below.heap_alloc _ _ _ (by omega)
  have old : ∀ b, b < p → b ≠ RB → b ≠ HB → ((built w2 p (p + 1) RB HB j).alloc o).heap[b]? = wr.heap[b]? := fun b hb n1 n2 => by
    rw [al b (by omega), built_other _ _ _ _ _ _ _ (by omega) (by omega) n1 n2, bel2.block b hb]
  refine ⟨fl, l1.same (old LB (by omega) (by omega) (by omega)), fun w8 hr hg => ?_⟩
  have asz : ((built w2 p (p + 1) RB HB j).alloc o).heap.size = w2.heap.size + 1 := by show ((built w2 p (p + 1) RB HB j).heap.push o).size = _; rw [Array.size_push, bsz]
  have gb : ∀ b, b < p + 1 + 1 → b ≠ LB → w8.heap[b]? = (built w2 p (p + 1) RB HB j).heap[b]? := fun b hb n1 => by
    rw [hg.block b (by omega) (fun e => n1 (by simpa using e)), al b hb]
  have gold : ∀ b, b < p → b ≠ RB → b ≠ HB → b ≠ LB → w8.heap[b]? = wr.heap[b]? := fun b hb n1 n2 n3 => by
    rw [hg.block b (by omega) (fun e => n3 (by simpa using e)), old b hb n1 n2]
  have s8 := hg.size
  rw [asz] at s8
  refine ⟨⟨⟨upd fr j (.pointer (some ⟨p, 0, none⟩)), ?_, fun i hi hg => ?_⟩, ?_, ⟨upd fl (kc G j) (.int .i64 j), hr, fun i hi hg => ?_⟩, fun i hi hg => ?_, fun i hi hg => ?_, fun i i' h1 h2 g g' => ?_, ?_⟩, by omega⟩
  · have : Rw (built w2 p (p + 1) RB HB j) RB 27 n (upd fr j (.pointer (some ⟨p, 0, none⟩))) := by
      unfold built
      exact ((((r1.same (bel2.block RB (by omega))).other (by omega) _).other (by omega) _).set j _ |>.other (by omega) _).other (by omega) _
    exact this.same (gb RB (by omega) (by omega))
  · by_cases e : i = j
    · subst e; rw [upd_same, upd_same]
    · rw [upd_other _ _ _ _ e, upd_other _ _ _ _ e]; exact r2 i (by omega) hg
  · have : Rw (built w2 p (p + 1) RB HB j) HB 41 (2 * n) (upd (upd (plc pr (fun s => if s < j then P0 G s else none)) (j * 2) (.pointer (some ⟨p, 0, none⟩))) (j * 2 + 1) (.int .i32 (ai j))) := by
      unfold built
      exact ((((h.held.same (bel2.block HB (by omega))).other (by omega) _).other (by omega) _).other (by omega) _ |>.set _ _).set _ _
    exact (this.same (gb HB (by omega) (by omega))).congr (fun i _ => plc_build pr G j p hG i)
  · by_cases e : i = j
    · subst e; rw [upd_same]
    · rw [upd_other _ _ _ _ (fun e2 => e (kc_inj _ _ _ hg hG e2))]; exact l2 i (by omega) hg
  · by_cases e : i = j
    · subst e
      rw [upd_same, upd_same]
      have e1 : (w2.setCell ⟨p, 1, none⟩ (.slice (some ⟨p + 1, 0, none⟩) (1 + i % 3) (1 + i % 3))).heap[p]? = some (.cells (cs.setIfInBounds 1 (.slice (some ⟨p + 1, 0, none⟩) (1 + i % 3) (1 + i % 3))) 38 (0, 0)) := set_blk hcs 1 _
      have e2 : (w2.setCell ⟨p, 1, none⟩ (.slice (some ⟨p + 1, 0, none⟩) (1 + i % 3) (1 + i % 3))).heap[p + 1]? = some (.cells hs 35 (0, 0)) := (Below.heap_setCell _ _ _ _ (by show p + 1 ≠ p; omega)).trans hhs
      have b1 : (built w2 p (p + 1) RB HB i).heap[p]? = some (.cells (cs.setIfInBounds 1 (.slice (some ⟨p + 1, 0, none⟩) (1 + i % 3) (1 + i % 3))) 38 (0, 0)) := by
        unfold built
        rw [Below.heap_setCell _ _ _ _ (by show p ≠ HB; omega), Below.heap_setCell _ _ _ _ (by show p ≠ HB; omega), Below.heap_setCell _ _ _ _ (by show p ≠ RB; omega), Below.heap_setCell _ _ _ _ (by show p ≠ p + 1; omega)]
        exact e1
      have b2 : (built w2 p (p + 1) RB HB i).heap[p + 1]? = some (.cells (hs.setIfInBounds (ai i * 5 + 3) (.int .i32 i)) 35 (0, 0)) := by
        unfold built
        rw [Below.heap_setCell _ _ _ _ (by show p + 1 ≠ HB; omega), Below.heap_setCell _ _ _ _ (by show p + 1 ≠ HB; omega), Below.heap_setCell _ _ _ _ (by show p + 1 ≠ RB; omega)]
        exact set_blk e2 _ _
      refine ⟨⟨_, (gb p (by omega) (by omega)).trans b1, ?_⟩, ⟨_, (gb (p + 1) (by omega) (by omega)).trans b2, ?_⟩⟩
      · have : 1 < cs.size := by omega
        simp [this]
      · have : ai i * 5 + 3 < hs.size := by omega
        simp [this]
    · rw [upd_other _ _ _ _ e, upd_other _ _ _ _ e]
      have a := h.at' i (by omega) hg
      exact (h.rs i (by omega) hg).same (gold _ (by omega) (by omega) (by omega) (by omega)) (gold _ (by omega) (by omega) (by omega) (by omega))
  · by_cases e : i = j
    · subst e; rw [upd_same, upd_same]; omega
    · rw [upd_other _ _ _ _ e, upd_other _ _ _ _ e]
      have a := h.at' i (by omega) hg
      omega
  · by_cases e : i' = j
    · subst e
      have a := h.at' i (by omega) g
      rw [upd_same, upd_other _ _ _ _ (by omega)]
      omega
    · rw [upd_other _ _ _ _ e, upd_other _ _ _ _ (by omega)]
      exact h.ord i i' h1 (by omega) g g'
  · have k1 : Below w.heap.size w w2 := h.bel.trans (bel2.mono (by omega))
    have k2 : Below w.heap.size w (built w2 p (p + 1) RB HB j) := by
      unfold built
      exact ((((k1.setCell (by show _ ≤ p; omega) _).setCell (by show _ ≤ p + 1; omega) _).setCell (by show _ ≤ RB; omega) _).setCell (by show _ ≤ HB; omega) _).setCell (by show _ ≤ HB; omega) _
    exact (k2.alloc (by omega) o).grown hg (by omega) (fun k e => by simp at e; omega)
end
end Go.Proofs.Ybulkarya.forget
