/-
  A row of one-cell values of a block, told by a function of the index; and the law for a local array that is laid with its zero values, its block under a letter.
-/
import Derived.Test.YbulkarviPut
import Derived.Test.YbulkarviTake
namespace Go.Proofs.Ybulkarvi.stores
set_option linter.unusedVariables false
open Go.RowKit Go.Maps

/-- Block b's first n cells hold f 0 .. f (n - 1) and may be written. -/
def Flat (w : World) (b n : Nat) (f : Nat → Value) : Prop :=
  b < w.heap.size ∧ ∀ i, i < n → w.cell? ⟨b, i, none⟩ = some (f i) ∧ w.frozen? ⟨b, i, none⟩ = false

theorem Flat.same {w w' : World} {b n : Nat} {f : Nat → Value} (h : Flat w b n f) (e : w'.heap[b]? = w.heap[b]?) (hs : w.heap.size ≤ w'.heap.size) : Flat w' b n f :=
  ⟨Nat.lt_of_lt_of_le h.1 hs, fun i hi => ⟨(World.cell?_of_block (a := ⟨b, i, none⟩) e).trans (h.2 i hi).1, (World.frozen?_of_block (a := ⟨b, i, none⟩) e).trans (h.2 i hi).2⟩⟩
theorem Flat.alloc {w : World} {b n : Nat} {f : Nat → Value} (h : Flat w b n f) (o : Obj) : Flat (w.alloc o) b n f := h.same (Below.heap_alloc w o b h.1) (by simp)
theorem Flat.grown {w w' : World} {b n : Nat} {f : Nat → Value} {row : Option Nat} (h : Flat w b n f) (hg : w.grownBy w' row) (hne : some b ≠ row) : Flat w' b n f := h.same (hg.block b h.1 hne) hg.size
theorem Flat.below {w w' : World} {b n B : Nat} {f : Nat → Value} (h : Flat w b n f) (hb : Below B w w') (hB : b < B) : Flat w' b n f := h.same (hb.block b hB) hb.size
theorem Flat.other {w : World} {b n b' j : Nat} {f : Nat → Value} (h : Flat w b n f) (hne : b ≠ b') (u : Value) : Flat (w.setCell ⟨b', j, none⟩ u) b n f := h.same (Below.heap_setCell w _ u b hne) (by simp [World.setCell])
theorem Flat.set {w : World} {b n : Nat} {f : Nat → Value} (h : Flat w b n f) (j : Nat) (hj : j < n) (u : Value) : Flat (w.setCell ⟨b, j, none⟩ u) b n (upd f j u) := by
  refine ⟨by simpa [World.setCell] using h.1, fun i hi => ⟨?_, ?_⟩⟩
  · by_cases e : i = j
    · subst e
      rw [upd_same]
      exact World.cell?_setCell_same _ _ _ (h.2 i hi).1
    · rw [upd_other _ _ _ _ e, World.cell?_setCell_other _ _ _ _ (fun h => e (by simpa using h.symm))]
      exact (h.2 i hi).1
  · rw [World.frozen?_setCell]
    exact (h.2 i hi).2
theorem Flat.of_own {w : World} {base g n : Nat} {e : TypeId} {cap : Nat} {xs : List Value} {f : Nat → Value} (h : w.ownsRow base e 1 (.slice (some ⟨g, 0, none⟩) n cap) n xs) (hf : ∀ i, i < n → xs[i]? = some (f i)) : Flat w g n f := by
  refine ⟨(h.lt g rfl).2, fun i hi => ⟨?_, h.frozenAt i⟩⟩
  rw [h.cellAt i (by omega)]
  exact hf i hi
theorem Flat.new {w : World} {n : Nat} {t : TypeId} {cs : Array Value} {f : Nat → Value} (hf : ∀ i, i < n → cs[i]? = some (f i)) : Flat (w.alloc (.cells cs t)) w.heap.size n f :=
  ⟨by simp, fun i hi => ⟨(World.cell?_alloc_at _ _ _ _ rfl).trans (hf i hi), World.frozen?_alloc_at _ _ _ _ rfl⟩⟩
theorem Flat.congr {w : World} {b n : Nat} {f g : Nat → Value} (h : Flat w b n f) (e : ∀ i, i < n → f i = g i) : Flat w b n g := ⟨h.1, fun i hi => by rw [← e i hi]; exact h.2 i hi⟩

/-- 'var x [n]T': the block under a letter: what is laid is told by the block alone. -/
theorem wpList_alloc_letter {P : Program} (w : World) {ops : Array Oper} {rest : List Oper} {o : Oper} {a : Act} {Q : Exit → Act → World → Prop} (hg : o.guard = none) (t : TypeId) (hop : o.op = Op.alloc t)
    (cs : Array Value) (hrun : (Instr.alloc t true (.tuple #[])).run P w = .ok (.pointer (some ⟨w.heap.size, 0, none⟩)) (w.alloc (.cells cs t)))
    (hK : ∀ w', Hid (w' = w.alloc (.cells cs t)) → wpList P ops Q rest (a.put o.dst (.pointer (some ⟨w.heap.size, 0, none⟩))) w') :
    wpList P ops Q (o :: rest) a w := by
  refine wpList_plain hg fun K' hK' => ?_
  unfold Oper.wp
  simp [execOp, hop, hrun, Result.andThen]
  exact hK' _ _ (hK _ rfl)

def zeros : Array Value := Array.replicate 256 (.int .i64 0)
def falses : Array Value := Array.replicate 256 (.bool false)
theorem alloc38 (w : World) : (Instr.alloc 38 true (.tuple #[])).run Yba.prog w = .ok (.pointer (some ⟨w.heap.size, 0, none⟩)) (w.alloc (.cells zeros 38)) := by kernel_rfl
theorem alloc39 (w : World) : (Instr.alloc 39 true (.tuple #[])).run Yba.prog w = .ok (.pointer (some ⟨w.heap.size, 0, none⟩)) (w.alloc (.cells falses 39)) := by kernel_rfl
theorem zeros_at (i : Nat) (h : i < 256) : zeros[i]? = some (.int .i64 0) := by simp [zeros, h]
theorem falses_at (i : Nat) (h : i < 256) : falses[i]? = some (.bool false) := by simp [falses, h]

/-- newTransferIndex: an empty map. -/
theorem newIdx_any (w : World) : Calls Yba.prog 8 #[] w fun e w' =>
    e = .returned (.agg #[.slice none 0 0, .int .i64 0, .int .i64 0, .int .u64 0, .int .u64 0, .int .u64 0, .int .u64 0, .bool false, .int .u64 0, .int .u64 0, .map (some (w.heap.size + 1))]) ∧
    ∃ c, w' = (w.alloc (.cells c 36)).alloc (.map #[] 0) := by
  have hmm := @run_makeMap Yba.prog
  go_enter Yba.func8, Yba.ntmps8
  go_wp2
  exact bodyPost_ret (v := .agg #[.slice none 0 0, .int .i64 0, .int .i64 0, .int .u64 0, .int .u64 0, .int .u64 0, .int .u64 0, .bool false, .int .u64 0, .int .u64 0, .map (some (w.heap.size + 1))]) (by simp [results, Yba.results8, go_sem]) rfl ⟨rfl, _, rfl⟩

/-- The bytes behind k rounds of the first loop. -/
def byteF (ids : Nat → Int) (k i : Nat) : Value := .int .u8 (if i % 128 = 0 ∧ i / 128 < k then ids (i / 128) else 0)
theorem byteF_step (ids : Nat → Int) (k i : Nat) : upd (byteF ids k) (k * 128) (.int .u8 (ids k)) i = byteF ids (k + 1) i := by
  by_cases e : i = k * 128
  · subst e
    rw [upd_same]
    unfold byteF
    rw [if_pos ⟨by omega, by omega⟩]
    congr 2
    omega
  · rw [upd_other _ _ _ _ e]
    unfold byteF
    have : (i % 128 = 0 ∧ i / 128 < k) ↔ (i % 128 = 0 ∧ i / 128 < k + 1) := by omega
    simp only [this]
theorem byteF_head (ids : Nat → Int) (k i : Nat) (h : i < k) : byteF ids k (i * 128) = .int .u8 (ids i) := by
  unfold byteF
  rw [if_pos ⟨by omega, by omega⟩]
  congr 2
  omega
theorem byteF_tail (ids : Nat → Int) (k i j : Nat) (h1 : 1 ≤ j) (h2 : j < 128) : byteF ids k (i * 128 + j) = .int .u8 0 := by
  unfold byteF
  rw [if_neg (by omega)]

theorem made_at (n i : Nat) (h : i < n * 1) : (madeCells (Value.int .u8 0).cells (n * 1)).toList[i]? = some (.int .u8 0) := by
  have hn : i < n := by omega
  simp [madeCells, Value.cells, hn, Nat.mod_one]

/-! ### the chunks that takeRecords has cut, as 'Recs' asks them -/
theorem chunkList_at (gb N S : Nat) : ∀ (k j : Nat), j < k → (chunkList gb N S k)[j]? = some (chunkAt gb N S j)
  | k + 1, j, h => by
    have hl : ∀ k, (chunkList gb N S k).length = k := fun k => by
      induction k with
      | zero => rfl
      | succ k ih => simp [chunkList, ih]
    unfold chunkList
    by_cases e : j = k
    · subst e
      rw [List.getElem?_append_right (by rw [hl]; exact Nat.le_refl _), hl]
      simp
    · rw [List.getElem?_append_left (by rw [hl]; omega)]
      exact chunkList_at gb N S k j (by omega)

theorem chunk_ok (p N i : Nat) (hp : 1 ≤ p) (hp4 : p ≤ 4) (hi : i < N) : i % p * 128 + 128 ≤ min (p * 128) (N * 128 - i / p * (p * 128)) ∧ min (p * 128) (N * 128 - i / p * (p * 128)) ≤ 512 := by
  have h1 := Nat.div_add_mod i p
  have h2 := Nat.mod_lt i (by omega : 0 < p)
  have e : i / p * (p * 128) = p * (i / p) * 128 := by rw [← Nat.mul_assoc, Nat.mul_comm (i / p) p]
  rw [e]
  generalize p * (i / p) = q at *
  generalize i % p = r at *
  omega

theorem div_lt (p N nc i : Nat) (hp : 1 ≤ p) (hi : i < N) (hn : N * 128 ≤ nc * (p * 128)) : i / p < nc := by
  rw [Nat.div_lt_iff_lt_mul (by omega)]
  have e : nc * (p * 128) = nc * p * 128 := by rw [Nat.mul_assoc]
  rw [e] at hn
  omega

/-- The records, once the struct lies in block T. -/
theorem recs_of {wr : World} {B base T p gb N nc : Nat} {xa ya : Option Addr} {xm xc ym yc : Nat} {ids : Nat → Int} (hp : 1 ≤ p) (hp4 : p ≤ 4) (hN : N ≤ 1024) (hncN : nc ≤ N) (hn : N * 128 ≤ nc * (p * 128))
    (hT : T < B) (hgb : gb < B) (hB : B ≤ wr.heap.size) (hTb : wr.heap[T]? = some (.cells #[.int .i64 p, .slice xa xm xc, .slice ya ym yc, .int .i64 0] 26 (0, 0)))
    (fl : Flat wr gb (N * 128) (byteF ids N)) (own : wr.ownsRow base 22 1 (.slice xa xm xc) nc (chunkList gb N (p * 128) nc)) (hlt : ∀ g, (Value.slice xa xm xc).ownBlock = some g → g < B) : Recs wr B T p gb N ids where
  hT := hT
  hgb := hgb
  hB := hB
  per := by rw [cell_blk hTb 0]; rfl
  bytes := fun i hi => ⟨by rw [← byteF_head ids N i hi]; exact (fl.2 (i * 128) (by omega)).1, fun j h1 h2 => by rw [← byteF_tail ids N i j h1 h2]; exact (fl.2 (i * 128 + j) (by omega)).1⟩
  chunks := fun h0 => by
    obtain ⟨g, cap, hv, _, _⟩ := own.form (Nat.lt_of_le_of_lt (Nat.zero_le _) (div_lt p N nc 0 hp h0 hn))
    rw [hv] at own hTb hlt
    refine ⟨g, nc, cap, hlt g rfl, by rw [cell_blk hTb 1]; rfl, by omega, fun i hi => ?_⟩
    have hd := div_lt p N nc i hp hi hn
    refine ⟨hd, _, ?_, (chunk_ok p N i hp hp4 hi).1, (chunk_ok p N i hp hp4 hi).2⟩
    rw [own.cellAt _ (by omega), chunkList_at gb N (p * 128) nc (i / p) hd]
    rfl

/-- WHERE THE LAW STANDS: the records, the map (in the struct of block X), the two arrays of 256 cells. -/
structure Stage (w wr : World) (bm X EB HB T p gb N : Nat) (ids : Nat → Int) (n : Nat) (D : DataW Unit) (E : Nat → Int) (Hs : Nat → Bool) : Prop where
  recs : Recs wr bm T p gb N ids
  x : wr.cell? ⟨X, 10, none⟩ = some (.map (some bm))
  own : wr.ownsMap Yba.prog 31 (plainElem Yba.prog 3) bm n D
  fe : Flat wr EB 256 (fun i => .int .i64 (E i))
  fh : Flat wr HB 256 (fun i => .bool (Hs i))
  bel : Below w.heap.size w wr
  o1 : w.heap.size ≤ bm
  o2 : bm < X
  o3 : X < EB
  o4 : EB < HB

theorem upd_int (E : Nat → Int) (v : Nat) (x : Int) (i : Nat) : upd (fun i => Value.int .i64 (E i)) v (.int .i64 x) i = .int .i64 (upd E v x i) := by unfold upd; split <;> rfl
theorem upd_bool (E : Nat → Bool) (v : Nat) (x : Bool) (i : Nat) : upd (fun i => Value.bool (E i)) v (.bool x) i = .bool (upd E v x i) := by unfold upd; split <;> rfl

section
variable {w wr : World} {bm X EB HB T p gb N n : Nat} {ids : Nat → Int} {D : DataW Unit} {E : Nat → Int} {Hs : Nat → Bool}

/-- The two arrays' stores. -/
theorem Stage.mark (h : Stage w wr bm X EB HB T p gb N ids n D E Hs) {v : Nat} (hv : v < 256) (x : Int) :
    Stage w ((wr.setCell ⟨EB, v, none⟩ (.int .i64 x)).setCell ⟨HB, v, none⟩ (.bool true)) bm X EB HB T p gb N ids n D (upd E v x) (upd Hs v true) := by
  have o1 := h.o1; have o2 := h.o2; have o3 := h.o3; have o4 := h.o4
  have b1 : Below EB wr ((wr.setCell ⟨EB, v, none⟩ (.int .i64 x)).setCell ⟨HB, v, none⟩ (.bool true)) := ((Below.refl EB wr).setCell (Nat.le_refl _) _).setCell (Nat.le_of_lt h.o4) _
  refine ⟨h.recs.below (b1.mono (by omega)), (b1.cell (p := ⟨X, 10, none⟩) o3).trans h.x, ownsMap_same h.own (b1.block bm (by omega)), ?_, ?_, h.bel.trans (b1.mono (by omega)), o1, o2, o3, o4⟩
  · exact ((h.fe.set v hv _).other (by omega) _).congr (fun i _ => upd_int E v x i)
  · exact ((h.fh.other (by omega) _).set v hv _).congr (fun i _ => upd_bool Hs v true i)

/-- Whatever turns the map alone. -/
theorem Stage.turn {w' : World} {n' : Nat} {D' : DataW Unit} (h : Stage w wr bm X EB HB T p gb N ids n D E Hs) (hg : wr.grownBy w' (some bm)) (hown : w'.ownsMap Yba.prog 31 (plainElem Yba.prog 3) bm n' D') : Stage w w' bm X EB HB T p gb N ids n' D' E Hs := by
  have o1 := h.o1; have o2 := h.o2; have o3 := h.o3; have o4 := h.o4
  have b1 := grown_below hg (Nat.le_of_lt h.own.lt)
  exact ⟨h.recs.below b1, hg.cell h.x (by simp; omega), hown, h.fe.grown hg (by simp; omega), h.fh.grown hg (by simp; omega), h.bel.trans (b1.mono o1), o1, o2, o3, o4⟩
end

theorem heap_alloc_eq (w : World) (o : Obj) (k : Nat) : (w.alloc o).heap[k]? = if k = w.heap.size then some o else w.heap[k]? := by
  show (w.heap.push o)[k]? = _
  rw [Array.getElem?_push]

/-- Where the law stands once its variables are laid. -/
theorem stage_start {w w2 w4 w5 : World} {p N nc base xm xc ym yc : Nat} {xa ya : Option Addr} {ids : Nat → Int} {c36 : Array Value} (hp : 1 ≤ p) (hp4 : p ≤ 4) (hN : N ≤ 1024) (hncN : nc ≤ N) (hn : N * 128 ≤ nc * (p * 128))
    (hw4 : w4 = ((((w2.alloc (.cells #[.int .i64 p, .slice xa xm xc, .slice ya ym yc, .int .i64 0] 26)).alloc (.cells c36 36)).alloc (.map #[] 0)).alloc
      (.cells #[.slice none 0 0, .int .i64 0, .int .i64 0, .int .u64 0, .int .u64 0, .int .u64 0, .int .u64 0, .bool false, .int .u64 0, .int .u64 0, .map (some (w2.heap.size + 1 + 1))] 36)).alloc (.cells zeros 38))
    (hw5 : w5 = w4.alloc (.cells falses 39)) (fl2 : Flat w2 w.heap.size (N * 128) (byteF ids N)) (own2 : w2.ownsRow base 22 1 (.slice xa xm xc) nc (chunkList w.heap.size N (p * 128) nc)) (bel : Below w.heap.size w w2) :
    Stage w w5 (w2.heap.size + 1 + 1) (w2.heap.size + 1 + 1 + 1) (w2.heap.size + 1 + 1 + 1 + 1) w4.heap.size w2.heap.size p w.heap.size N ids 0 (.map []) (fun _ => 0) (fun _ => false) := by
  have s4 : w4.heap.size = w2.heap.size + 5 := by rw [hw4]; simp
  have s5 : w5.heap.size = w2.heap.size + 6 := by rw [hw5]; simp [s4]
  have hh : ∀ k, w5.heap[k]? = if k = w2.heap.size + 5 then some (.cells falses 39) else if k = w2.heap.size + 4 then some (.cells zeros 38) else if k = w2.heap.size + 3 then some (.cells #[.slice none 0 0, .int .i64 0, .int .i64 0, .int .u64 0, .int .u64 0, .int .u64 0, .int .u64 0, .bool false, .int .u64 0, .int .u64 0, .map (some (w2.heap.size + 1 + 1))] 36) else if k = w2.heap.size + 2 then some (.map #[] 0) else if k = w2.heap.size + 1 then some (.cells c36 36) else if k = w2.heap.size then some (.cells #[.int .i64 p, .slice xa xm xc, .slice ya ym yc, .int .i64 0] 26) else w2.heap[k]? := by
    intro k
    rw [hw5, heap_alloc_eq, s4, hw4, heap_alloc_eq, heap_alloc_eq, heap_alloc_eq, heap_alloc_eq, heap_alloc_eq]
    simp only [World.size_alloc, Nat.add_assoc, Nat.reduceAdd]
  have old : ∀ k, k < w2.heap.size → w5.heap[k]? = w2.heap[k]? := fun k hk => by
    rw [hh k, if_neg (by omega), if_neg (by omega), if_neg (by omega), if_neg (by omega), if_neg (by omega), if_neg (by omega)]
  have b5 : Below w2.heap.size w2 w5 := by
    rw [hw5, hw4]
    exact ((((((Below.refl _ w2).alloc (Nat.le_refl _) _).alloc (by simp) _).alloc (by simp; omega) _).alloc (by simp; omega) _).alloc (by simp; omega) _).alloc (by simp; omega) _
  have hsz := bel.size
  have hT : w5.heap[w2.heap.size]? = some (.cells #[.int .i64 p, .slice xa xm xc, .slice ya ym yc, .int .i64 0] 26 (0, 0)) := by
    rw [hh, if_neg (by omega), if_neg (by omega), if_neg (by omega), if_neg (by omega), if_neg (by omega), if_pos rfl]
  have hX : w5.heap[w2.heap.size + 1 + 1 + 1]? = some (.cells #[.slice none 0 0, .int .i64 0, .int .i64 0, .int .u64 0, .int .u64 0, .int .u64 0, .int .u64 0, .bool false, .int .u64 0, .int .u64 0, .map (some (w2.heap.size + 1 + 1))] 36 (0, 0)) := by
    rw [hh, if_neg (by omega), if_neg (by omega), if_pos rfl]
  have hE : w5.heap[w2.heap.size + 1 + 1 + 1 + 1]? = some (.cells zeros 38 (0, 0)) := by rw [hh, if_neg (by omega), if_pos rfl]
  have hH : w5.heap[w4.heap.size]? = some (.cells falses 39 (0, 0)) := by rw [hh, if_pos s4]
  have hM : w5.heap[w2.heap.size + 1 + 1]? = some (.map #[] 0) := by rw [hh, if_neg (by omega), if_neg (by omega), if_neg (by omega), if_pos rfl]
  have fl5 := fl2.below b5 fl2.1
  have own5 := own2.kept (below_grown b5 none) (by cases hv : (Value.slice xa xm xc).ownBlock <;> simp)
  refine ⟨recs_of hp hp4 hN hncN hn (by omega) (by have := fl2.1; omega) (by omega) hT fl5 own5 (fun g hg => by have := (own2.lt g hg).2; omega), ?_, ?_, ?_, ?_, bel.trans (b5.mono hsz), by omega, by omega, by omega, by omega⟩
  · rw [cell_blk hX 10]
    rfl
  · obtain ⟨es, cl, h1, h2, h3, h4⟩ := World.ownsMap_made w2 Yba.prog 31 (plainElem (H := Unit) Yba.prog 3)
    have h1' : some (Obj.map #[] 0) = some (Obj.map es cl) := by rw [← h1]; exact (heap_alloc_new w2 _).symm
    simp at h1'
    obtain ⟨rfl, rfl⟩ := h1'
    exact ⟨#[], 0, hM, h2, h3, h4⟩
  · exact ⟨by omega, fun i hi => ⟨by rw [cell_blk hE i]; exact zeros_at i hi, free_blk hE i⟩⟩
  · exact ⟨by omega, fun i hi => ⟨by rw [cell_blk hH i]; exact falses_at i hi, free_blk hH i⟩⟩

theorem Stage.alloc {w wr : World} {bm X EB HB T p gb N n : Nat} {ids : Nat → Int} {D : DataW Unit} {E : Nat → Int} {Hs : Nat → Bool} (h : Stage w wr bm X EB HB T p gb N ids n D E Hs) (o : Obj) : Stage w (wr.alloc o) bm X EB HB T p gb N ids n D E Hs :=
  h.turn (World.grownBy_alloc wr o _) (h.own.alloc o)

/-- One round of the third loop. -/
theorem Stage.run {w wr : World} {bm X EB HB T p gb N n F i v : Nat} {ids : Nat → Int} {D : DataW Unit} {E : Nat → Int} {Hs : Nat → Bool} (h : Stage w wr bm X EB HB T p gb N ids n D (expTo E ids F (i - F)) (hasTo Hs ids F (i - F))) (hF : F ≤ i) (hv : ids i = (v : Int)) (hv256 : v < 256) :
    Stage w ((wr.setCell ⟨EB, v, none⟩ (.int .i64 i)).setCell ⟨HB, v, none⟩ (.bool true)) bm X EB HB T p gb N ids n D (expTo E ids F (i + 1 - F)) (hasTo Hs ids F (i + 1 - F)) := by
  have e1 : i + 1 - F = (i - F) + 1 := by omega
  have e2 : F + (i - F) = i := by omega
  have e3 : (ids i).toNat = v := by omega
  have := h.mark hv256 (i : Int)
  rw [e1, expTo, hasTo, e2, e3]
  exact this
end Go.Proofs.Ybulkarvi.stores
