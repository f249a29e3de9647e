/-
  Delete and Ref, whatever the mode; the script's state.
-/
import Derived.Test.YbulkaryaDelete
namespace Go.Proofs.Ybulkarya.script
set_option linter.unusedVariables false
set_option linter.unusedSimpArgs false
open Go.RowKit Go.Proofs.Ybulkarya.forget

theorem up_self {A : Type} (f : Nat → A) (q : Nat) (x : A) (h : f q = x) : up f q x = f := by
  funext i
  by_cases e : i = q
  · subst e; rw [up_same, h]
  · rw [up_other _ _ _ _ e]

theorem BM.drewN {w : World} {BB LB : Nat} {H : Nat → Bool} {V : Nat → Int} (h : BM w BB LB H V) (m : Nat) : BM (w.drewN m) BB LB H V := by
  obtain ⟨v, F, h1, h2, h3⟩ := h
  exact ⟨v, F, h1, h2.same (fun _ _ => rfl), h3⟩
theorem BM.congr {w : World} {BB LB : Nat} {H : Nat → Bool} {V V' : Nat → Int} (h : BM w BB LB H V) (e : ∀ q, q < 64 → H q = true → V q = V' q) : BM w BB LB H V' := by
  obtain ⟨v, F, h1, h2, h3⟩ := h
  exact ⟨v, F, h1, h2, fun q hq hH => (h3 q hq hH).trans (e q hq hH)⟩
theorem BM.same {w w' : World} {BB LB : Nat} {H : Nat → Bool} {V : Nat → Int} (h : BM w BB LB H V) (hB : BB ≤ LB) (e1 : w'.heap[BB]? = w.heap[BB]?) (e2 : ∀ b, LB < b → b < w.heap.size → w'.heap[b]? = w.heap[b]?) : BM w' BB LB H V := by
  obtain ⟨v, F, h1, h2, h3⟩ := h
  refine ⟨v, F, e1.trans h1, ?_, h3⟩
  rcases h2 with h | ⟨g, cap, f, a0, a1, a2, a3, a4, a5⟩
  · exact .inl h
  · exact .inr ⟨g, cap, f, a0, a1, a2, a3, a4.same (e2 g a1 a4.lt), a5⟩

theorem delete_any (BB LB q : Nat) (H : Nat → Bool) (V : Nat → Int) (hq : q < 64) (w : World) (hB : BB ≤ LB) (hL : LB < w.heap.size) (bm : BM w BB LB H V) :
    Calls Yba.prog 7 #[.pointer (some ⟨BB, 0, none⟩), .int .i64 q] w fun e w' => e = .returned (.tuple #[]) ∧ BM w' BB LB (up H q false) (up V q 0) ∧ Fr w w' BB LB := by
  cases hH : H q with
  | true =>
    obtain ⟨g, bg⟩ := bm.row hq hH
    exact (delete_some BB LB q g H V hq hH w hB hL bg 0).mono (fun e w' ⟨h1, h2, h3⟩ => ⟨h1, h2.bm, h3⟩)
  | false =>
    refine (delete_none BB q H hq hH w bm.cells.1).mono (fun e w' ⟨h1, m, h2⟩ => ⟨h1, ?_, ?_⟩)
    · subst h2
      rw [up_self H q false hH]
      exact (bm.drewN m).congr (fun q' _ hH' => by rw [up_other _ _ _ _ (fun e => by rw [e, hH] at hH'; cases hH')])
    · subst h2
      exact ⟨rfl, rfl, rfl, Nat.le_refl _, fun _ _ _ => rfl⟩

/-- What Ref finds at mode q. -/
def want (H : Nat → Bool) (V : Nat → Int) (q : Nat) : Int := if H q then V q else 0

theorem ref_any (BB LB q : Nat) (H : Nat → Bool) (V : Nat → Int) (hq : q < 64) (w : World) (hB : BB ≤ LB) (hL : LB < w.heap.size) (bm : BM w BB LB H V) (b0 : Nat) (hb0 : b0 < w.heap.size) (hbB : b0 ≠ BB) (hbo : ∀ v, w.cell? ⟨BB, 1, none⟩ = some v → v.ownBlock ≠ some b0) :
    Calls Yba.prog 8 #[.pointer (some ⟨BB, 0, none⟩), .int .i64 q] w fun e w' => ∃ g, e = .returned (.pointer (some ⟨g, cn (up H q true) q, none⟩)) ∧ BMg w' BB LB (up H q true) (up V q (want H V q)) g ∧ Fr w w' BB LB ∧ w'.heap[b0]? = w.heap[b0]? := by
  have ec : cn (up H q true) q = cn H q := by
    cases hH : H q with
    | true => rw [up_self H q true hH]
    | false => rw [cn_add H q hH q, if_neg (by omega)]; rfl
  rw [ec]
  cases hH : H q with
  | true =>
    obtain ⟨g, bg⟩ := bm.row hq hH
    refine (ref_some BB LB q g H V hq hH w bg).mono (fun e w' ⟨h1, m, h2⟩ => ⟨g, h1, ?_, ?_, by subst h2; rfl⟩)
    · subst h2
      rw [up_self H q true hH, up_self V q _ (by simp [want, hH])]
      exact bg.drewN m
    · subst h2
      exact ⟨rfl, rfl, rfl, Nat.le_refl _, fun _ _ _ => rfl⟩
  | false =>
    have e : want H V q = 0 := by simp [want, hH]
    rw [e]
    exact ref_none BB LB q H V hq hH w hB hL bm b0 hb0 hbB hbo

/-- The script's three variables. -/
structure St (w wr : World) (BB HV VV : Nat) (H : Nat → Bool) (V : Nat → Int) : Prop where
  bm : BM wr BB VV H V
  hh : Rw wr HV 57 64 (fun i => .bool (H i))
  vv : Rw wr VV 58 64 (fun i => .int .i64 (V i))
  bel : Below w.heap.size w wr
end Go.Proofs.Ybulkarya.script
