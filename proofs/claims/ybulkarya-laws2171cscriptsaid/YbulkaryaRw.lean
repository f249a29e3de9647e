/-
  Rows of cells told by a function of the index; append with room and clear on a row of two-cell elements; two equal places.
-/
import Derived.Test.YbulkaryaPtrMap
import Derived.Laws.StructEq
import Derived.Laws.CopyRow
import Derived.Laws.AppendOwn
namespace Go.Proofs.Ybulkarya.forget
set_option linter.unusedVariables false
set_option linter.unusedSimpArgs false
open Go.RowKit

/-- Block b is a row of n cells of type t, none frozen, that hold f 0 .. f (n - 1). -/
def Rw (w : World) (b : Nat) (t : TypeId) (n : Nat) (f : Nat → Value) : Prop :=
  ∃ cs, w.heap[b]? = some (.cells cs t (0, 0)) ∧ cs.size = n ∧ ∀ i, i < n → cs[i]? = some (f i)

section
variable {w w' : World} {b n : Nat} {t : TypeId} {f : Nat → Value}
theorem Rw.lt (h : Rw w b t n f) : b < w.heap.size := by obtain ⟨cs, h1, _⟩ := h; exact lt_of_block h1
theorem Rw.cells (h : Rw w b t n f) : Cells w b := by obtain ⟨cs, h1, _⟩ := h; exact ⟨cs, t, h1⟩
theorem Rw.cell (h : Rw w b t n f) {i : Nat} (hi : i < n) : w.cell? ⟨b, i, none⟩ = some (f i) := by
  obtain ⟨cs, h1, _, h3⟩ := h
  rw [cell_of_row w b i cs t (0, 0) h1]
  exact h3 i hi
theorem Rw.free (h : Rw w b t n f) (i : Nat) : w.frozen? ⟨b, i, none⟩ = false := by
  obtain ⟨cs, h1, _, h3⟩ := h
  simp [World.frozen?, h1]
theorem Rw.same (h : Rw w b t n f) (e : w'.heap[b]? = w.heap[b]?) : Rw w' b t n f := by
  obtain ⟨cs, h1, h2⟩ := h
  exact ⟨cs, e.trans h1, h2⟩
theorem Rw.congr {g : Nat → Value} (h : Rw w b t n f) (e : ∀ i, i < n → f i = g i) : Rw w b t n g := by
  obtain ⟨cs, h1, h2, h3⟩ := h
  exact ⟨cs, h1, h2, fun i hi => by rw [← e i hi]; exact h3 i hi⟩
theorem set_blk {cs : Array Value} (h : w.heap[b]? = some (.cells cs t (0, 0))) (i : Nat) (u : Value) : (w.setCell ⟨b, i, none⟩ u).heap[b]? = some (.cells (cs.setIfInBounds i u) t (0, 0)) := by
  have hlt := lt_of_block h
  have h' : w.heap[b] = .cells cs t (0, 0) := by simpa [Array.getElem?_eq_getElem hlt] using h
  show (w.heap.modify b _)[b]? = _
  rw [Array.getElem?_eq_getElem (by simpa using hlt), Array.getElem_modify_self, h']
  rfl
theorem Rw.set (h : Rw w b t n f) (j : Nat) (u : Value) : Rw (w.setCell ⟨b, j, none⟩ u) b t n (upd f j u) := by
  obtain ⟨cs, h1, h2, h3⟩ := h
  refine ⟨_, set_blk h1 j u, by simpa using h2, fun i hi => ?_⟩
  by_cases e : i = j
  · subst e
    rw [upd_same]
    simp [h2, hi]
  · rw [upd_other _ _ _ _ e, Array.getElem?_setIfInBounds_ne (fun h => e h.symm)]
    exact h3 i hi
theorem Rw.other {b' j : Nat} (h : Rw w b t n f) (hne : b ≠ b') (u : Value) : Rw (w.setCell ⟨b', j, none⟩ u) b t n f := h.same (Below.heap_setCell w _ u b hne)
theorem Rw.alloc (h : Rw w b t n f) (o : Obj) : Rw (w.alloc o) b t n f := h.same (Below.heap_alloc w o b h.lt)
theorem Rw.grown {row : Option Nat} (h : Rw w b t n f) (hg : w.grownBy w' row) (hne : some b ≠ row) : Rw w' b t n f := h.same (hg.block b h.lt hne)
theorem Rw.of_own {base cap : Nat} {xs : List Value} (h : w.ownsRow base t 1 (.slice (some ⟨b, 0, none⟩) n n) n xs) (hf : ∀ i, i < n → xs[i]? = some (f i)) : Rw w b t n f := by
  rcases h.2 with ⟨h', _⟩ | ⟨g, cap, cur, h', hb, hg, h1, h2, h3, h4⟩
  · cases h'
  · cases h'
    have h0 := h.1
    refine ⟨cur, hg, by omega, fun i hi => ?_⟩
    have : xs[i]? = cur.toList[i]? := by rw [← h4, List.getElem?_take_of_lt (by omega)]
    rw [← hf i hi, this]
    simp
theorem Cells.same {k : Nat} (h : Cells w k) (e : w'.heap[k]? = w.heap[k]?) : Cells w' k := by
  obtain ⟨c, t, h⟩ := h
  exact ⟨c, t, e.trans h⟩
theorem Cells.set {k b' j : Nat} (h : Cells w k) (u : Value) : Cells (w.setCell ⟨b', j, none⟩ u) k := by
  by_cases e : k = b'
  · subst e
    obtain ⟨c, t, h⟩ := h
    exact ⟨_, t, set_blk h j u⟩
  · exact h.same (Below.heap_setCell w _ u k e)
theorem Cells.alloc {k : Nat} (h : Cells w k) (o : Obj) : Cells (w.alloc o) k := by
  obtain ⟨c, t, h⟩ := h
  exact ⟨c, t, (Below.heap_alloc w o k (lt_of_block h)).trans h⟩
end

theorem info41 : (Yba.prog.info? 41).map (fun i => (i.zero, i.size, i.bytes)) = some (some (.agg #[.pointer none, .int .i32 0]), 2, 16) := by kernel_rfl
theorem info35 : (Yba.prog.info? 35).map (fun i => (i.zero, i.size, i.bytes)) = some (some (.agg #[.pointer none, .int .u64 0, .int .u64 0, .int .i32 0, .int .i32 0]), 5, 32) := by kernel_rfl
theorem info27' : (Yba.prog.info? 27).map (fun i => (i.zero, i.size, i.bytes)) = some (some (.pointer none), 1, 8) := by kernel_rfl
theorem info3 : (Yba.prog.info? 3).map (fun i => (i.zero, i.size, i.bytes)) = some (some (.int .i64 0), 1, 8) := by kernel_rfl

/-- The row behind 'cs' laid from place off on. -/
theorem rw_splice {w : World} {g n off : Nat} {t : TypeId} {cur : Array Value} {f f' : Nat → Value} {cs : List Value} (hg : w.heap[g]? = some (.cells cur t (0, 0))) (hn : cur.size = n) (hf : ∀ i, i < n → cur[i]? = some (f i))
    (hfit : off + cs.length ≤ n) (h1 : ∀ i, i < n → (i < off ∨ off + cs.length ≤ i) → f' i = f i) (h2 : ∀ i, i < cs.length → cs[i]? = some (f' (off + i))) :
    Rw (w.setRow g (cur.toList.take off ++ cs ++ cur.toList.drop (off + cs.length)).toArray) g t n f' := by
  have hl : cur.toList.length = n := by simpa using hn
  refine ⟨_, setRow_heap w g cur _ t (0, 0) hg, by simp [hl]; omega, fun i hi => ?_⟩
  simp only [List.getElem?_toArray]
  by_cases a : i < off
  · rw [List.append_assoc, List.getElem?_append_left (by simp [hl]; omega), List.getElem?_take_of_lt a, h1 i hi (.inl a), ← hf i hi]
    simp
  · by_cases b : i < off + cs.length
    · rw [List.append_assoc, List.getElem?_append_right (by simp [hl]; omega), List.getElem?_append_left (by simp [hl]; omega)]
      have e : i - (cur.toList.take off).length = i - off := by simp [hl]; omega
      rw [e, h2 (i - off) (by omega)]
      congr 2
      omega
    · rw [List.getElem?_append_right (by simp [hl]; omega), List.getElem?_drop, h1 i hi (.inr (by omega)), ← hf i hi]
      have e : off + cs.length + (i - (cur.toList.take off ++ cs).length) = i := by simp [hl]; omega
      rw [e]
      simp

theorem setRow_grown (w : World) (g : Nat) (cs : Array Value) : w.grownBy (w.setRow g cs) (some g) :=
  ⟨rfl, rfl, rfl, by simp [World.setRow], fun k _ hk => setRow_other w g k cs (fun e => hk (by rw [e]))⟩

/-- 'kept = append(kept, p)', with room: one two-cell element. -/
theorem wpList_append_place (w : World) {ops : Array Oper} {rest : List Oper} {o : Oper} {a : Act} {Q : Exit → Act → World → Prop} (hgd : o.guard = none) (s x : Operand)
    (ho : o.op = .call { callee := .builtin .append, args := #[s, x], argTypes := #[25, 25] }) (g c n : Nat) (f : Nat → Value) (hs : a.eval s = .slice (some ⟨g, 0, none⟩) c n) (hrw : Rw w g 41 (2 * n) f) (hc : c < n)
    (B : Nat) (v0 v1 : Value) (t2 : TypeId) (fr : Nat × Nat) (hx : a.eval x = .slice (some ⟨B, 0, none⟩) 1 1) (hB : w.heap[B]? = some (.cells #[v0, v1] t2 fr)) (h0 : v0.oneCell' = true) (h1 : v1.oneCell' = true)
    (h : ∀ w', Rw w' g 41 (2 * n) (upd (upd f (c * 2) v0) (c * 2 + 1) v1) → w.grownBy w' (some g) → wpList Yba.prog ops Q rest (a.put o.dst (.slice (some ⟨g, 0, none⟩) (c + 1) n)) w') : wpList Yba.prog ops Q (o :: rest) a w := by
  refine wpList_plain hgd fun K hK => ?_
  obtain ⟨i41, hi, hz, hsz, hb⟩ := info_parts info41
  obtain ⟨cur, hg, hn, hf⟩ := hrw
  have hnews : ∀ j u, [v0, v1][j]? = some u → w.cell? ((⟨B, 0, none⟩ : Addr).add j) = some u := by
    intro j u hu
    rw [Addr.add_lit, cell_of_row w B _ #[v0, v1] t2 fr hB]
    simpa using hu
  have hrun := run_append_room (P := Yba.prog) w 25 o.type 41 i41 Yba.underlying25 hi g c n cur hg ⟨B, 0, none⟩ 1 1 [v0, v1] (by simp [hsz]) hnews (by simp [h0, h1]) (by omega) (by simp [hsz, hn]; omega)
  unfold Oper.wp execOp
  simp only [ho, resolve, invoke, builtin, Sem.run_bind, Sem.run_pure, Result.andThen_ok, List.map_toArray, List.map_cons, List.map_nil, hs, hx, hrun]
  refine hK _ _ (h _ ?_ (setRow_grown _ _ _))
  rw [hsz]
  refine rw_splice hg hn hf (by simp; omega) (fun i hi hh => ?_) (fun i hi => ?_)
  · simp at hh
    rw [upd_other _ _ _ _ (by omega), upd_other _ _ _ _ (by omega)]
  · simp at hi
    match i, hi with
    | 0, _ => simp [upd]
    | 1, _ => simp [upd]

/-- The zero place's cells. -/
def noPlace (i : Nat) : Value := if i % 2 = 0 then .pointer none else .int .i32 0

theorem run_clear (w : World) (ty : TypeId) (g c m n cap : Nat) (sp : Option Addr) (f : Nat → Value) (hrw : Rw w g 41 (2 * n) f) (hm : c + m = n) (hsp : 0 < m → sp = some ⟨g, c * 2, none⟩) :
    ∃ w', (Builtin.clear_ #[25] ty #[.slice sp m cap]).run Yba.prog w = .ok (.tuple #[]) w' ∧ Rw w' g 41 (2 * n) (fun i => if i < c * 2 then f i else noPlace i) ∧ w.grownBy w' (some g) := by
  rcases Nat.eq_zero_or_pos m with rfl | hpos
  · refine ⟨w, ?_, hrw.congr (fun i hi => by rw [if_pos (by omega)]), World.grownBy.refl _ _⟩
    cases sp <;> simp [Builtin.clear_, run_underlying Yba.underlying25, Result.andThen]
  · obtain rfl := hsp hpos
    obtain ⟨k, rfl⟩ : ∃ k, m = k + 1 := ⟨m - 1, by omega⟩
    obtain ⟨cur, hg, hn, hf⟩ := hrw
    have hz : (zeroValue 41).run Yba.prog w = .ok (.agg #[.pointer none, .int .i32 0]) w := by kernel_rfl
    have hlen : (Builtin.zeroCells #[.pointer none, .int .i32 0] (k + 1)).toList.length = 2 * (k + 1) := by simp [Builtin.zeroCells]; omega
    have hat : ∀ i, i < 2 * (k + 1) → (Builtin.zeroCells #[.pointer none, .int .i32 0] (k + 1)).toList[i]? = some (noPlace i) := by
      intro i hi
      have hi' : i < (k + 1) * 2 := by omega
      simp [Builtin.zeroCells, hi', noPlace]
      rcases Nat.mod_two_eq_zero_or_one i with e | e <;> simp [e]
    have hst := run_storeCells_at Yba.prog g (c * 2) 41 (Builtin.zeroCells #[.pointer none, .int .i32 0] (k + 1)).toList 0 cur w hg (by rw [hlen, hn]; omega) (fun v hv => by
      obtain ⟨i, hi⟩ := List.getElem?_of_mem hv
      have hil : i < 2 * (k + 1) := by rw [← hlen]; exact (List.getElem?_eq_some_iff.1 hi).1
      rw [hat i hil] at hi
      simp at hi
      subst hi
      unfold noPlace
      split <;> rfl)
    rw [Nat.add_zero] at hst
    refine ⟨w.setRow g (cur.toList.take (c * 2) ++ (Builtin.zeroCells #[.pointer none, .int .i32 0] (k + 1)).toList ++ cur.toList.drop (c * 2 + (Builtin.zeroCells #[.pointer none, .int .i32 0] (k + 1)).toList.length)).toArray, ?_, ?_, setRow_grown w g _⟩
    · simp [Builtin.clear_, run_underlying Yba.underlying25, hz, Value.cells, hst, Result.andThen]
    · refine rw_splice hg hn hf (by rw [hlen]; omega) (fun i hi hh => ?_) (fun i hi => ?_)
      · rw [hlen] at hh
        rw [if_pos (by omega)]
      · rw [hlen] at hi
        have e : noPlace (c * 2 + i) = noPlace i := by
          unfold noPlace
          have : (c * 2 + i) % 2 = i % 2 := by omega
          rw [this]
        rw [hat i hi, if_neg (by omega), e]

theorem neq_none (w : World) : (binOp .neq 41 (.agg #[.pointer none, .int .i32 0]) (.agg #[.pointer none, .int .i32 0])).run Yba.prog w = .ok (.bool false) w := by kernel_rfl
theorem fields41 : Yba.prog.underlying 41 = some (.struct (Yba.prog.fieldsOf 41)) := by kernel_rfl
theorem stood41 : Yba.prog.stoodInHeld 41 = false := by kernel_rfl

theorem run_equalIn_ptr_same (d : Nat) (w : World) (k : Nat) : (Op.equalIn (d + 1) 27 (ptr k) (ptr k)).run Yba.prog w = .ok true w := by
  obtain ⟨i, hi, hs⟩ : ∃ i, Yba.prog.info? 38 = some i ∧ i.size = 9 := by
    have := info27
    rw [Option.map_eq_some_iff] at this
    obtain ⟨i, h1, h2⟩ := this
    exact ⟨i, h1, h2⟩
  simp [ptr, Op.equalIn, run_underlying Yba.underlying27, sizeOf, typeInfo, hi, hs, run_sameAddr_same]
theorem run_equalIn_i32 (d : Nat) (w : World) (i : Int) : (Op.equalIn (d + 1) 21 (.int .i32 i) (.int .i32 i)).run Yba.prog w = .ok true w := by
  simp [Op.equalIn, run_underlying Yba.underlying21]
theorem part0 (w : World) (a b : Value) : (part 27 #[a, b] 0).run Yba.prog w = .ok a w := by kernel_rfl
theorem part1 (w : World) (a b : Value) : (part 21 #[a, b] 1).run Yba.prog w = .ok b w := by kernel_rfl

theorem run_equalIn_place (d : Nat) (w : World) (k : Nat) (i : Int) : (Op.equalIn (d + 2) 41 (.agg #[ptr k, .int .i32 i]) (.agg #[ptr k, .int .i32 i])).run Yba.prog w = .ok true w := by
  rw [run_equalIn_struct w (d + 1) 41 _ _ fields41 stood41]
  simp [Program.fieldsOf, Yba.underlying41, Op.eqFields, part0, part1, run_equalIn_ptr_same, run_equalIn_i32]
theorem neq_same (w : World) (k : Nat) (i : Int) : (binOp .neq 41 (.agg #[ptr k, .int .i32 i]) (.agg #[ptr k, .int .i32 i])).run Yba.prog w = .ok (.bool false) w := by
  simp only [binOp]
  have h : (Op.equal 41 (.agg #[ptr k, .int .i32 i]) (.agg #[ptr k, .int .i32 i])).run Yba.prog w = .ok true w := run_equalIn_place 9998 w k i
  simp [h]
end Go.Proofs.Ybulkarya.forget
