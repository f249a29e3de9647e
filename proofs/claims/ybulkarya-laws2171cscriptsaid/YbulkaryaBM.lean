/-
  A ByMode[int] in memory: its word of modes, its row of values; what append, copy and the stores do to it.
-/
import Derived.Test.YbulkaryaMask
import Derived.Test.YbulkaryaBits
import Derived.Test.YbulkaryaState
import Derived.Deep.AppendLies
namespace Go.Proofs.Ybulkarya.script
set_option linter.unusedVariables false
set_option linter.unusedSimpArgs false
open Go.RowKit Go.Proofs.Ybulkarya.forget

/-- 'v' is a slice of n ints F 0 .. F (n - 1): nil, or at the head of a row of its own behind LB. -/
def Vals (w : World) (LB : Nat) (v : Value) (n : Nat) (F : Nat → Int) : Prop :=
  (v = .slice none 0 0 ∧ n = 0) ∨ ∃ g cap f, v = .slice (some ⟨g, 0, none⟩) n cap ∧ LB < g ∧ n ≤ cap ∧ cap ≤ maxLen ∧ Rw w g 3 cap f ∧ ∀ i, i < n → f i = .int .i64 (F i)

theorem Vals.own {w : World} {LB n : Nat} {v : Value} {F : Nat → Int} (h : Vals w LB v n F) : w.ownsRow (LB + 1) 3 1 v n ((List.range n).map fun i => .int .i64 (F i)) := by
  refine ⟨by simp, ?_⟩
  rcases h with ⟨rfl, rfl⟩ | ⟨g, cap, f, rfl, h1, h2, h3, ⟨cur, h4, h5, h6⟩, h7⟩
  · exact .inl ⟨rfl, rfl⟩
  · refine .inr ⟨g, cap, cur, rfl, h1, h4, h2, h3, by omega, ?_⟩
    rw [Nat.mul_one]
    apply List.ext_getElem?
    intro i
    by_cases hi : i < n
    · rw [List.getElem?_take_of_lt hi]
      have e : cur.toList[i]? = cur[i]? := by simp
      rw [e, h6 i (by omega), h7 i hi]
      simp [hi]
    · rw [List.getElem?_eq_none (by simp; omega), List.getElem?_eq_none (by simp; omega)]

/-- Behind the append of a zero. -/
theorem grown_row {w : World} {LB n g cap : Nat} {F : Nat → Int} (h : w.ownsRow (LB + 1) 3 1 (.slice (some ⟨g, 0, none⟩) (n + 1) cap) (n + 1) (((List.range n).map fun i => .int .i64 (F i)) ++ [.int .i64 0])) :
    LB < g ∧ n + 1 ≤ cap ∧ cap ≤ maxLen ∧ ∃ f, Rw w g 3 cap f ∧ ∀ i, i < n + 1 → f i = .int .i64 (up F n 0 i) := by
  rcases h.2 with ⟨h', _⟩ | ⟨g', cap', cur, h', hb, hg, h1, h2, h3, h4⟩
  · cases h'
  · cases h'
    refine ⟨hb, h1, h2, fun i => cur[i]!, ⟨cur, hg, by omega, fun i hi => ?_⟩, fun i hi => ?_⟩
    · have : i < cur.size := by omega
      simp [this]
    · have hi' : i < cur.size := by omega
      have e : cur.toList[i]? = (((List.range n).map fun i => Value.int .i64 (F i)) ++ [.int .i64 0])[i]? := by
        rw [← h4, List.getElem?_take_of_lt (by omega)]
      have e2 : cur[i]? = (((List.range n).map fun i => Value.int .i64 (F i)) ++ [.int .i64 0])[i]? := by simpa using e
      have e3 : cur[i]! = (cur[i]?).getD default := by simp [hi']
      show cur[i]! = _
      rw [e3, e2]
      by_cases l : i < n
      · rw [List.getElem?_append_left (by simpa using l), up_other _ _ _ _ (by omega)]
        simp [l]
      · obtain rfl : i = n := by omega
        rw [List.getElem?_append_right (by simp), up_same]
        simp

/-- 'copy' within one row of ints, as one step of a region that draws. -/
theorem step_copy {ops : Array Oper} {o : Oper} {a : Act} {w : World} {K : Act → World → Prop} {Q : Exit → Act → World → Prop} {E : Prop} (hgd : o.guard = none) (d s : Operand)
    (ho : o.op = .call { callee := .builtin .copy, args := #[d, s], argTypes := #[26, 26] }) (dp sp : Option Addr) (dLen dCap sLen sCap : Nat) (hd : a.eval d = .slice dp dLen dCap) (hs : a.eval s = .slice sp sLen sCap)
    (g off so m cap : Nat) (f : Nat → Value) (hrw : Rw w g 3 cap f) (hm : m = Nat.min sLen dLen) (hpos : 0 < m → dp = some ⟨g, off, none⟩ ∧ sp = some ⟨g, so, none⟩) (hf1 : off + m ≤ cap) (hf2 : so + m ≤ cap) (hone : ∀ i, i < m → (f (so + i)).oneCell' = true)
    (h : ∀ w', Rw w' g 3 cap (fun i => if off ≤ i ∧ i < off + m then f (so + (i - off)) else f i) → w.grownBy w' (some g) → K (a.put o.dst (goInt m)) w') :
    if Region.wanted o (yielded ops a.tmps) = true then Oper.wp Yba.prog o a w K Q else E := by
  have hw : Region.wanted o (yielded ops a.tmps) = true := by simp [Region.wanted, hgd]
  rw [if_pos hw]
  have hsz : (Yba.prog.info? 3).map (·.size) = some 1 := by kernel_rfl
  by_cases h0 : m = 0
  · subst h0
    have hrun := run_copy_none (P := Yba.prog) w 26 26 o.type 3 dp sp dLen dCap sLen sCap Yba.underlying26 hsz hm.symm
    unfold Oper.wp
    simp [execOp, ho, resolve, invoke, builtin, hd, hs, hrun, Result.andThen]
    exact h w (hrw.congr (fun i _ => by rw [if_neg (by omega)])) (World.grownBy.refl _ _)
  · obtain ⟨rfl, rfl⟩ := hpos (by omega)
    obtain ⟨cur, hg, hn, hf⟩ := hrw
    have hrun := run_copy_row (P := Yba.prog) w 26 26 o.type 3 g off dLen dCap ⟨g, so, none⟩ sLen sCap cur 3 ((List.range m).map fun i => f (so + i)) Yba.underlying26 hsz hg (by simpa using hm) (fun j v hv => by
      have hj : j < m := by
        have := (List.getElem?_eq_some_iff.1 hv).1
        simpa using this
      simp [hj] at hv
      rw [Addr.add_lit, cell_of_row w g _ cur 3 (0, 0) hg, hf _ (by omega), hv]) (by simpa [hn] using hf1) (fun v hv => by
      simp at hv
      obtain ⟨i, hi, rfl⟩ := hv
      exact hone i hi)
    unfold Oper.wp
    simp only [execOp, ho, resolve, invoke, builtin, hd, hs, hrun, Sem.run_bind, Sem.run_pure, Result.andThen_ok, List.map_toArray, List.map_cons, List.map_nil]
    have e : ((List.range m).map fun i => f (so + i)).length = m := by simp
    rw [e]
    refine h _ ?_ (setRow_grown _ _ _)
    have := rw_splice (w := w) (f' := fun i => if off ≤ i ∧ i < off + m then f (so + (i - off)) else f i) (cs := (List.range m).map fun i => f (so + i)) (off := off) hg hn hf (by rw [e]; exact hf1) (fun i hi hh => by rw [e] at hh; rw [if_neg (by omega)]) (fun i hi => by
      rw [e] at hi
      rw [if_pos (by omega)]
      simp [hi])
    rw [e] at this
    exact this

/-- The ByMode at block BB holds the modes H, and for each its value V. -/
def BM (w : World) (BB LB : Nat) (H : Nat → Bool) (V : Nat → Int) : Prop :=
  ∃ v F, w.heap[BB]? = some (.cells #[.int .u64 (mask H 64), v] 56 (0, 0)) ∧ Vals w LB v (cn H 64) F ∧ ∀ q, q < 64 → H q = true → F (cn H q) = V q

theorem bits_andNot_u64 (a b : Nat) (ha : a < 18446744073709551616) (hb : b < 18446744073709551616) : bits .andNot .u64 (a : Int) (b : Int) = ((a &&& (2 ^ 64 - (b + 1)) : Nat) : Int) := by
  have hx : a &&& (2 ^ 64 - (b + 1)) < 2 ^ 64 := Nat.and_lt_two_pow _ (by omega)
  have h1 : (BitVec.ofInt 64 (a : Int)).toNat = a := by
    rw [BitVec.ofInt_natCast, BitVec.toNat_ofNat]; exact Nat.mod_eq_of_lt (by omega)
  have h2 : (BitVec.ofInt 64 (b : Int)).toNat = b := by
    rw [BitVec.ofInt_natCast, BitVec.toNat_ofNat]; exact Nat.mod_eq_of_lt (by omega)
  show IntKind.u64.wrap ((BitVec.ofInt 64 (a : Int) &&& ~~~ BitVec.ofInt 64 (b : Int)).toNat : Int) = _
  rw [BitVec.toNat_and, BitVec.toNat_not, h1, h2, IntKind.wrap_u64, show 2 ^ 64 - 1 - b = 2 ^ 64 - (b + 1) from by omega]
  omega
end Go.Proofs.Ybulkarya.script
