/-
  A map keyed by pointers (map[*resource]int) that the call itself has made: 'PMap w b M n': block b is a map of n entries; the entry at the pointer to block k holds M k. Each key points to the head of a block of cells. The kit's laws on maps speak of keys that are read as data; pointers are not: so the operations' runs are proved here.
-/
import Derived.Test.YbulkaryaRows
import Derived.WalkKit
import Derived.WalkSpells
import Derived.LaidEql
import Derived.Maps.OwnSet
namespace Go.Proofs.Ybulkarya.forget
set_option linter.unusedVariables false
set_option linter.unusedSimpArgs false
open Go.RowKit

/-- The pointer to block k's head. -/
def ptr (k : Nat) : Value := .pointer (some ⟨k, 0, none⟩)
theorem ptr_inj {a b : Nat} (h : ptr a = ptr b) : a = b := by simpa [ptr] using h

/-- Block k is a row of cells of which none is frozen. -/
def Cells (w : World) (k : Nat) : Prop := ∃ c t, w.heap[k]? = some (.cells c t (0, 0))

theorem info27 : (Yba.prog.info? 38).map (fun i => i.size) = some 9 := by kernel_rfl

theorem run_equalIn_ptr (d : Nat) (w : World) {a b : Nat} (ha : Cells w a) (hb : Cells w b) : (Op.equalIn (d + 1) 27 (ptr a) (ptr b)).run Yba.prog w = .ok (a == b) w := by
  obtain ⟨ca, ta, ha⟩ := ha
  obtain ⟨cb, tb, hb⟩ := hb
  obtain ⟨i, hi, hs⟩ : ∃ i, Yba.prog.info? 38 = some i ∧ i.size = 9 := by
    have := info27
    rw [Option.map_eq_some_iff] at this
    obtain ⟨i, h1, h2⟩ := this
    exact ⟨i, h1, h2⟩
  by_cases e : a = b
  · subst e
    simp [ptr, Op.equalIn, run_underlying Yba.underlying27, sizeOf, typeInfo, hi, hs, run_sameAddr_same]
  · have hne : (⟨a, 0, none⟩ : Addr) ≠ ⟨b, 0, none⟩ := fun h => e (congrArg Addr.block h)
    simp [ptr, Op.equalIn, run_underlying Yba.underlying27, sizeOf, typeInfo, hi, hs, run_sameAddr_other w hne ha hb, e]

theorem run_equal_ptr (w : World) {a b : Nat} (ha : Cells w a) (hb : Cells w b) : (Op.equal 27 (ptr a) (ptr b)).run Yba.prog w = .ok (a == b) w := run_equalIn_ptr 9999 w ha hb

/-- The list of entries as keys and numbers. -/
def AllPtr (w : World) (es : List MapEntry) : Prop := ∀ e ∈ es, ∃ k v, e.key = ptr k ∧ e.val = .int .i64 v ∧ Cells w k

theorem run_findAsking_ptr (w : World) {k : Nat} (hk : Cells w k) : ∀ (es : List MapEntry) (i : Nat), AllPtr w es →
    ((Instr.findAsking 27 (ptr k) es i).run Yba.prog w = .ok none w ∧ ∀ e ∈ es, e.key ≠ ptr k) ∨
    ∃ j e, (Instr.findAsking 27 (ptr k) es i).run Yba.prog w = .ok (some (i + j, e.val)) w ∧ es[j]? = some e ∧ e.key = ptr k
  | [], i, _ => .inl ⟨rfl, fun e h => by cases h⟩
  | e :: es, i, h => by
    obtain ⟨k', v, hkey, hval, hc⟩ := h e (by simp)
    by_cases he : k = k'
    · subst he
      refine .inr ⟨0, e, ?_, rfl, hkey⟩
      simp [Instr.findAsking, hkey, run_equal_ptr w hk hc]
    · rcases run_findAsking_ptr w hk es (i + 1) (fun x hx => h x (by simp [hx])) with ⟨h1, h2⟩ | ⟨j, e0, h1, h2, h3⟩
      · refine .inl ⟨?_, fun x hx => ?_⟩
        · simp [Instr.findAsking, hkey, run_equal_ptr w hk hc, he, h1]
        · rcases List.mem_cons.1 hx with rfl | hx
          · rw [hkey]; exact fun hh => he (ptr_inj hh).symm
          · exact h2 x hx
      · refine .inr ⟨j + 1, e0, ?_, by simpa using h2, h3⟩
        simp [Instr.findAsking, hkey, run_equal_ptr w hk hc, he, h1]
        omega

theorem run_findKey_ptr (w : World) {k : Nat} (hk : Cells w k) (es : List MapEntry) (h : AllPtr w es) :
    ((Instr.findKey 27 (ptr k) es).run Yba.prog w = .ok none w ∧ ∀ e ∈ es, e.key ≠ ptr k) ∨
    ∃ j e, (Instr.findKey 27 (ptr k) es).run Yba.prog w = .ok (some (j, e.val)) w ∧ es[j]? = some e ∧ e.key = ptr k := by
  cases es with
  | nil => exact .inl ⟨by simp [Instr.findKey, run_underlying Yba.underlying27, Instr.findNow], fun e h => by cases h⟩
  | cons e es =>
    have hn : Instr.findNow (.pointer 38) (ptr k) (e :: es) 0 = none := by
      simp [Instr.findNow, Instr.sameNow]
    rcases run_findAsking_ptr w hk (e :: es) 0 h with ⟨h1, h2⟩ | ⟨j, e0, h1, h2, h3⟩
    · exact .inl ⟨by simp [Instr.findKey, run_underlying Yba.underlying27, hn, h1], h2⟩
    · refine .inr ⟨j, e0, ?_, h2, h3⟩
      simp only [Nat.zero_add] at h1
      simp [Instr.findKey, run_underlying Yba.underlying27, hn, h1]

theorem run_checkKey_any (em : Bool) (n : Nat) (w : World) (k : Nat) : (Instr.checkKey em (n + 1) 27 (ptr k)).run Yba.prog w = .ok () w := by
  unfold Instr.checkKey
  simp only [Sem.run_bind, run_underlying Yba.underlying27, Result.andThen, ptr]
  rfl
theorem run_checkKey_ptr (w : World) (em : Bool) (k : Nat) : (Instr.checkKey em 10000 27 (ptr k)).run Yba.prog w = .ok () w := run_checkKey_any em 9999 w k

/-- BLOCK b IS A MAP OF n ENTRIES; AT THE POINTER TO BLOCK k IT HOLDS M k. -/
def PMap (w : World) (b : Nat) (M : Nat → Option Int) (n : Nat) : Prop :=
  ∃ es clock, w.heap[b]? = some (.map es clock) ∧ es.size = n ∧ AllPtr w es.toList ∧ (es.toList.map (·.key)).Nodup ∧
    (∀ e ∈ es.toList, ∀ k v, e.key = ptr k → e.val = .int .i64 v → M k = some v) ∧ ∀ k v, M k = some v → ∃ e ∈ es.toList, e.key = ptr k ∧ e.val = .int .i64 v

theorem PMap.lt {w : World} {b n : Nat} {M : Nat → Option Int} (h : PMap w b M n) : b < w.heap.size := by
  obtain ⟨es, cl, hb, _⟩ := h
  exact lt_of_block hb

theorem pmap_made (w : World) (b : Nat) (h : w.heap[b]? = some (.map #[] 0)) : PMap w b (fun _ => none) 0 :=
  ⟨#[], 0, h, rfl, fun e he => by simp at he, by simp, fun e he => by simp at he, fun k v h => by cases h⟩

/-- The map stays what it is where its block and its keys' blocks stay rows of cells. -/
theorem PMap.kept {w w' : World} {b n : Nat} {M : Nat → Option Int} (h : PMap w b M n) (hb : w'.heap[b]? = w.heap[b]?) (hc : ∀ k v, M k = some v → Cells w' k) : PMap w' b M n := by
  obtain ⟨es, cl, h1, h2, h3, h4, h5, h6⟩ := h
  refine ⟨es, cl, hb.trans h1, h2, fun e he => ?_, h4, h5, h6⟩
  obtain ⟨k, v, a1, a2, a3⟩ := h3 e he
  exact ⟨k, v, a1, a2, hc k v (h5 e he k v a1 a2)⟩

theorem zero3 (w : World) : (zeroValue 3).run Yba.prog w = .ok (.int .i64 0) w := by kernel_rfl

/-- 'v, ok := m[k]' at a key that is there. -/
theorem PMap.look {w : World} {b n k : Nat} {v : Int} {M : Nat → Option Int} (h : PMap w b M n) (hk : Cells w k) (hv : M k = some v) :
    (Instr.lookup 44 (.map (some b)) (ptr k) true).run Yba.prog w = .ok (.tuple #[.int .i64 v, .bool true]) w := by
  obtain ⟨es, cl, h1, h2, h3, h4, h5, h6⟩ := h
  rcases run_findKey_ptr w hk es.toList h3 with ⟨r1, r2⟩ | ⟨j, e, r1, r2, r3⟩
  · obtain ⟨e, he, ek, _⟩ := h6 k v hv
    exact absurd ek (r2 e he)
  · obtain ⟨k', v', a1, a2, _⟩ := h3 e (List.mem_of_getElem? r2)
    have := h5 e (List.mem_of_getElem? r2) k v' r3 a2
    rw [hv] at this
    obtain rfl : v = v' := by simpa using this
    simp [Instr.lookup, run_underlying Yba.underlying44, MapKept.run_getObj_map h1, run_checkKey_ptr, r1, a2, Result.andThen]

/-- 'v, ok := m[k]' at a key that is not there. -/
theorem PMap.look_none {w : World} {b n k : Nat} {M : Nat → Option Int} (h : PMap w b M n) (hk : Cells w k) (hv : M k = none) :
    (Instr.lookup 44 (.map (some b)) (ptr k) true).run Yba.prog w = .ok (.tuple #[.int .i64 0, .bool false]) w := by
  obtain ⟨es, cl, h1, h2, h3, h4, h5, h6⟩ := h
  rcases run_findKey_ptr w hk es.toList h3 with ⟨r1, r2⟩ | ⟨j, e, r1, r2, r3⟩
  · simp [Instr.lookup, run_underlying Yba.underlying44, MapKept.run_getObj_map h1, run_checkKey_ptr, r1, zero3, Result.andThen]
  · obtain ⟨k', v', a1, a2, _⟩ := h3 e (List.mem_of_getElem? r2)
    have := h5 e (List.mem_of_getElem? r2) k v' r3 a2
    rw [hv] at this
    cases this


/-- The world with block b's object turned. -/
def put (w : World) (b : Nat) (o : Obj) : World := { w with heap := w.heap.setIfInBounds b o }
theorem put_at {w : World} {b : Nat} {o : Obj} (h : b < w.heap.size) : (put w b o).heap[b]? = some o := by simp [put, h]
theorem put_other {w : World} {b k : Nat} {o : Obj} (h : k ≠ b) : (put w b o).heap[k]? = w.heap[k]? := by
  simp only [put]
  rw [Array.getElem?_setIfInBounds_ne (fun e => h e.symm)]
theorem put_grown (w : World) (b : Nat) (o : Obj) : w.grownBy (put w b o) (some b) :=
  ⟨rfl, rfl, rfl, by simp [put], fun k _ hk => put_other (fun e => hk (by rw [e]))⟩
theorem Cells.put {w : World} {b k : Nat} {o : Obj} (h : Cells w k) (hne : k ≠ b) : Cells (put w b o) k := by
  obtain ⟨c, t, h⟩ := h
  exact ⟨c, t, (put_other hne).trans h⟩
theorem PMap.keyNe {w : World} {b n k : Nat} {v : Int} {M : Nat → Option Int} (h : PMap w b M n) (hk : Cells w k) : k ≠ b := fun e => by
  subst e
  obtain ⟨es, cl, h1, _⟩ := h
  obtain ⟨c, t, h2⟩ := hk
  rw [h1] at h2
  simp at h2

/-- f, but x at v. -/
def upd {A : Type} (f : Nat → A) (v : Nat) (x : A) (u : Nat) : A := if u = v then x else f u
theorem upd_same {A : Type} (f : Nat → A) (v : Nat) (x : A) : upd f v x v = x := by simp [upd]
theorem upd_other {A : Type} (f : Nat → A) (v u : Nat) (x : A) (h : u ≠ v) : upd f v x u = f u := by simp [upd, h]

theorem sameBits_ptr (k : Nat) : Instr.sameBits 10000 (ptr k) (ptr k) = true := by simp [ptr, Instr.sameBits]
theorem run_stays (w : World) (k : Nat) : (Instr.keyThatStays (ptr k) (ptr k)).run Yba.prog w = .ok (ptr k) w := by
  simp [Instr.keyThatStays, sameBits_ptr]

/-- 'm[k] = v'. -/
theorem PMap.store {w : World} {b n k : Nat} {M : Nat → Option Int} (h : PMap w b M n) (hk : Cells w k) (v : Int) :
    ∃ w', (Instr.mapUpdate 44 (.map (some b)) (ptr k) (.int .i64 v)).run Yba.prog w = .ok () w' ∧ PMap w' b (upd M k (some v)) (if (M k).isSome then n else n + 1) ∧ w.grownBy w' (some b) := by
  have hkb := h.keyNe (v := v) hk
  have hlt := h.lt
  obtain ⟨es, cl, h1, h2, h3, h4, h5, h6⟩ := h
  rcases run_findKey_ptr w hk es.toList h3 with ⟨r1, r2⟩ | ⟨j, e, r1, r2, r3⟩
  · have hnone : M k = none := by
      cases hM : M k with
      | none => rfl
      | some x =>
        obtain ⟨e, he, ek, _⟩ := h6 k x hM
        exact absurd ek (r2 e he)
    refine ⟨put w b (.map (es.push { key := ptr k, val := .int .i64 v, born := cl }) (cl + 1)), ?_, ?_, put_grown _ _ _⟩
    · simp [Instr.mapUpdate, run_underlying Yba.underlying44, MapKept.run_getObj_map h1, run_checkKey_ptr, r1, MapKept.run_setObj_map _ h1, Result.andThen, put]
    · refine ⟨_, _, put_at hlt, by simp [h2, hnone], fun e he => ?_, ?_, fun e he k' v' ek ev => ?_, fun k' v' hM => ?_⟩
      · simp at he
        rcases he with he | rfl
        · obtain ⟨k1, v1, a1, a2, a3⟩ := h3 e (by simpa using he)
          exact ⟨k1, v1, a1, a2, a3.put (fun e' => by subst e'; obtain ⟨c, t, hc⟩ := a3; rw [h1] at hc; simp at hc)⟩
        · exact ⟨k, v, rfl, rfl, hk.put hkb⟩
      · simp only [Array.toList_push, List.map_append, List.map_cons, List.map_nil]
        rw [List.nodup_append]
        refine ⟨h4, by simp, fun x hx y hy => ?_⟩
        simp at hy
        subst hy
        obtain ⟨e, he, rfl⟩ := List.mem_map.1 hx
        exact r2 e he
      · simp at he
        rcases he with he | rfl
        · have hne : k' ≠ k := fun e' => by subst e'; exact r2 e (by simpa using he) ek
          rw [upd_other _ _ _ _ hne]
          exact h5 e (by simpa using he) k' v' ek ev
        · simp at ek ev
          obtain rfl := ptr_inj ek
          subst ev
          exact upd_same _ _ _
      · by_cases e' : k' = k
        · subst e'
          rw [upd_same] at hM
          exact ⟨{ key := ptr k', val := .int .i64 v, born := cl }, by simp, rfl, by simpa using hM⟩
        · rw [upd_other _ _ _ _ e'] at hM
          obtain ⟨e, he, a⟩ := h6 k' v' hM
          exact ⟨e, by simp; exact .inl (by simpa using he), a⟩
  · have hj : j < es.size := by simpa using (List.getElem?_eq_some_iff.1 r2).1
    have hej : es[j]? = some e := by simpa using r2
    have hmem := List.mem_of_getElem? r2
    obtain ⟨k1, v1, a1, a2, _⟩ := h3 e hmem
    have hMk : M k = some v1 := h5 e hmem k v1 r3 a2
    have hlj : j < es.toList.length := by simpa using hj
    have hL : ∀ x, x ∈ (es.modify j fun e => { e with key := ptr k, val := .int .i64 v }).toList → x = { e with key := ptr k, val := .int .i64 v } ∨ (x ∈ es.toList ∧ x.key ≠ ptr k) := by
      intro x hx
      rw [Array.toList_modify] at hx
      obtain ⟨i, hi⟩ := List.getElem?_of_mem hx
      rw [List.getElem?_modify] at hi
      by_cases e' : j = i
      · subst e'
        rw [r2] at hi
        simp at hi
        exact .inl hi.symm
      · simp [e'] at hi
        have hi' : es.toList[i]? = some x := by simpa using hi
        refine .inr ⟨List.mem_of_getElem? hi', fun hxk => ?_⟩
        have n1 : (es.toList.map (·.key))[i]? = some (ptr k) := by rw [List.getElem?_map, hi']; simp [hxk]
        have n2 : (es.toList.map (·.key))[j]? = some (ptr k) := by rw [List.getElem?_map, r2]; simp [r3]
        exact e' ((List.getElem?_inj (by simpa using hlj) h4).1 (n2.trans n1.symm))
    have hmem' : ({ e with key := ptr k, val := .int .i64 v } : MapEntry) ∈ (es.modify j fun e => { e with key := ptr k, val := .int .i64 v }).toList := by
      rw [Array.toList_modify]
      refine List.mem_of_getElem? (i := j) ?_
      rw [List.getElem?_modify, r2]
      simp
    refine ⟨put w b (.map (es.modify j fun e => { e with key := ptr k, val := .int .i64 v }) cl), ?_, ?_, put_grown _ _ _⟩
    · simp [Instr.mapUpdate, run_underlying Yba.underlying44, MapKept.run_getObj_map h1, run_checkKey_ptr, r1, hej, r3, run_stays, MapKept.run_setObj_map _ h1, Result.andThen, put]
    · refine ⟨_, _, put_at hlt, by simp [h2, hMk], fun x hx => ?_, ?_, fun x hx k' v' ek ev => ?_, fun k' v' hM => ?_⟩
      · rcases hL x hx with rfl | ⟨hx, _⟩
        · exact ⟨k, v, rfl, rfl, hk.put hkb⟩
        · obtain ⟨k2, v2, b1, b2, b3⟩ := h3 x hx
          exact ⟨k2, v2, b1, b2, b3.put (fun e' => by subst e'; obtain ⟨c, t, hc⟩ := b3; rw [h1] at hc; simp at hc)⟩
      · have ek : (es.modify j fun e => { e with key := ptr k, val := .int .i64 v }).toList.map (·.key) = es.toList.map (·.key) := by
          rw [Array.toList_modify]
          apply List.ext_getElem?
          intro i
          rw [List.getElem?_map, List.getElem?_map, List.getElem?_modify]
          by_cases e' : j = i
          · subst e'
            rw [r2]
            simp [r3]
          · simp [e']
        rw [ek]
        exact h4
      · rcases hL x hx with rfl | ⟨hx, hne⟩
        · simp at ek ev
          obtain rfl := ptr_inj ek
          subst ev
          exact upd_same _ _ _
        · rw [upd_other _ _ _ _ (fun e' => hne (by rw [← e']; exact ek))]
          exact h5 x hx k' v' ek ev
      · by_cases e' : k' = k
        · subst e'
          rw [upd_same] at hM
          exact ⟨_, hmem', rfl, by simpa using hM⟩
        · rw [upd_other _ _ _ _ e'] at hM
          obtain ⟨x, hx, xk, xv⟩ := h6 k' v' hM
          obtain ⟨i, hi⟩ := List.getElem?_of_mem hx
          refine ⟨x, ?_, xk, xv⟩
          rw [Array.toList_modify]
          refine List.mem_of_getElem? (i := i) ?_
          have hij : j ≠ i := fun h => by
            subst h
            rw [r2] at hi
            simp at hi
            subst hi
            exact e' (ptr_inj (xk.symm.trans r3))
          rw [List.getElem?_modify]
          simp [hij]
          simpa using hi

/-- 'delete(m, k)' at a key that is there. -/
theorem PMap.drop {w : World} {b n k : Nat} {v : Int} {M : Nat → Option Int} (h : PMap w b M n) (hk : Cells w k) (hv : M k = some v) (ty : TypeId) :
    ∃ w', (Builtin.delete_ #[44, 27] ty #[.map (some b), ptr k]).run Yba.prog w = .ok (.tuple #[]) w' ∧ PMap w' b (upd M k none) (n - 1) ∧ w.grownBy w' (some b) := by
  have hlt := h.lt
  obtain ⟨es, cl, h1, h2, h3, h4, h5, h6⟩ := h
  rcases run_findKey_ptr w hk es.toList h3 with ⟨r1, r2⟩ | ⟨j, e, r1, r2, r3⟩
  · obtain ⟨e, he, ek, _⟩ := h6 k v hv
    exact absurd ek (r2 e he)
  · have hj : j < es.size := by simpa using (List.getElem?_eq_some_iff.1 r2).1
    have hlj : j < es.toList.length := by simpa using hj
    have hte : (es.eraseIdxIfInBounds j).toList = es.toList.eraseIdx j := by simp [Array.eraseIdxIfInBounds, hj]
    have hL : ∀ x, x ∈ es.toList.eraseIdx j → x ∈ es.toList ∧ x.key ≠ ptr k := by
      intro x hx
      rw [List.mem_eraseIdx_iff_getElem?] at hx
      obtain ⟨i, hij, hi⟩ := hx
      refine ⟨List.mem_of_getElem? hi, fun hxk => ?_⟩
      have n1 : (es.toList.map (·.key))[i]? = some (ptr k) := by rw [List.getElem?_map, hi]; simp [hxk]
      have n2 : (es.toList.map (·.key))[j]? = some (ptr k) := by rw [List.getElem?_map, r2]; simp [r3]
      exact hij ((List.getElem?_inj (by simpa using hlj) h4).1 (n2.trans n1.symm)).symm
    refine ⟨put w b (.map (es.eraseIdxIfInBounds j) cl), ?_, ?_, put_grown _ _ _⟩
    · simp [Builtin.delete_, run_underlying Yba.underlying44, MapKept.run_getObj_map h1, run_checkKey_ptr, r1, MapKept.run_setObj_map _ h1, Result.andThen, put]
    · refine ⟨_, _, put_at hlt, ?_, fun x hx => ?_, ?_, fun x hx k' v' ek ev => ?_, fun k' v' hM => ?_⟩
      · rw [← h2, ← Array.length_toList, hte, List.length_eraseIdx_of_lt hlj]
        simp
      · rw [hte] at hx
        obtain ⟨k2, v2, b1, b2, b3⟩ := h3 x (hL x hx).1
        exact ⟨k2, v2, b1, b2, b3.put (fun e' => by subst e'; obtain ⟨c, t, hc⟩ := b3; rw [h1] at hc; simp at hc)⟩
      · rw [hte]
        exact h4.sublist ((List.eraseIdx_sublist _ _).map _)
      · rw [hte] at hx
        rw [upd_other _ _ _ _ (fun e' => (hL x hx).2 (by rw [← e']; exact ek))]
        exact h5 x (hL x hx).1 k' v' ek ev
      · by_cases e' : k' = k
        · subst e'
          rw [upd_same] at hM
          cases hM
        · rw [upd_other _ _ _ _ e'] at hM
          obtain ⟨x, hx, xk, xv⟩ := h6 k' v' hM
          obtain ⟨i, hi⟩ := List.getElem?_of_mem hx
          refine ⟨x, ?_, xk, xv⟩
          rw [hte, List.mem_eraseIdx_iff_getElem?]
          refine ⟨i, fun h => ?_, hi⟩
          subst h
          rw [r2] at hi
          simp at hi
          subst hi
          exact e' (ptr_inj (xk.symm.trans r3))

/-- 'delete(m, k)', m nil. -/
theorem drop_nil (w : World) (k : Nat) (ty : TypeId) : (Builtin.delete_ #[44, 27] ty #[.map none, ptr k]).run Yba.prog w = .ok (.tuple #[]) w := by
  simp [Builtin.delete_, run_underlying Yba.underlying44, run_checkKey_ptr, Result.andThen]

/-- 'len(m)'. -/
theorem PMap.len {w : World} {b n : Nat} {M : Nat → Option Int} (h : PMap w b M n) (ty : TypeId) : (Builtin.len_ #[44] ty #[.map (some b)]).run Yba.prog w = .ok (.int .i64 n) w := by
  obtain ⟨es, cl, h1, h2, h3, h4, h5, h6⟩ := h
  simp [Builtin.len_, run_underlying Yba.underlying44, MapKept.run_getObj_map h1, Result.andThen, goInt, h2]
end Go.Proofs.Ybulkarya.forget
