/-
  The map's keys (Uint128, a struct of two words) and what the map holds against a plain model of 256 cells: 'Agrees D E Hs': the keys 0 .. 255 that are there, the element of each, how many there are.
-/
import Derived.Test.YbulkarviRows
import Derived.WalkKit
import Derived.Maps.OwnSet
import Derived.DeepKeys4
namespace Go.Proofs.Ybulkarvi.stores
set_option linter.unusedVariables false
open Go.RowKit Go.Maps

theorem laidOut : laidOutB Yba.prog = true := by kernel_rfl
theorem row31 : (31 : TypeId) < Yba.prog.types.size := of_decide_eq_true (by kernel_rfl)
theorem wide31 : (match Yba.prog.underlying 31 with | some (.array _ _) | some (.struct _) => true | _ => false) = true := by kernel_rfl
theorem law31 : Keyed Yba.prog 31 := Keyed.of_law (deep_law_laid laidOut (m := 2) (by omega) row31 (by kernel_rfl) wide31)
theorem cells31 : Yba.prog.cellsOf 31 = 2 := by kernel_rfl
theorem cells29 : Yba.prog.cellsOf 29 = 1 := by kernel_rfl
theorem keyType31 : Yba.prog.keyType 31 = true := by kernel_rfl
theorem zero3 (w : World) : (zeroValue 3).run Yba.prog w = .ok (.int .i64 0) w := by kernel_rfl

/-- The key {Lo: v}. -/
def keyV (v : Int) : Value := .agg #[.int .u64 0, .int .u64 v]
/-- .. as a datum. -/
def kl (v : Int) : Lit := .string (keyBytes [.int .u64 0, .int .u64 v])

theorem key_at (v : Int) (h0 : 0 ≤ v) (h : v ≤ 255) : keyOf Yba.prog 31 (keyV v) = some (kl v) := by
  have hw : (Lit.int .u64 v).wf = true := by simp [Lit.wf, IntKind.min, IntKind.max, IntKind.signed, IntKind.bits]; omega
  have hz : (Lit.int .u64 0).wf = true := by decide
  have hu := Yba.underlying31
  have hu9 := Yba.underlying29
  have hf : (keyV v).formed Yba.prog 31 = true := by
    unfold keyV
    simp [Value.formed, hu, cells31]
  obtain ⟨n, hn⟩ : ∃ n, Yba.prog.types.size + 1 = n + 2 := ⟨Yba.prog.types.size - 1, by have h31 : (31 : Nat) < Yba.prog.types.size := row31; omega⟩
  unfold keyOf
  rw [keyType31, hf, hn, hu]
  simp [keyV, Value.cells, Program.keyLits, hu, hu9, cells31, cells29, hw, hz, kl]

theorem kl_inj {u v : Nat} (hu : u < 256) (hv : v < 256) (h : kl (u : Int) = kl (v : Int)) : u = v := by
  have e := law31.inj (key_at u (by omega) (by omega)) (h ▸ key_at v (by omega) (by omega))
  unfold keyV at e
  simp at e
  omega
theorem kl_ne {u v : Nat} (hu : u < 256) (hv : v < 256) (h : u ≠ v) : kl (u : Int) ≠ kl (v : Int) := fun e => h (kl_inj hu hv e)
theorem kl_key (v : Nat) (hv : v < 256) : WideAt.IsKeyLit (kl (v : Int)) := law31.key (key_at v (by omega) (by omega))

/-- f, but x at v. -/
def upd {A : Type} (f : Nat → A) (v : Nat) (x : A) (u : Nat) : A := if u = v then x else f u
theorem upd_same {A : Type} (f : Nat → A) (v : Nat) (x : A) : upd f v x v = x := by simp [upd]
theorem upd_other {A : Type} (f : Nat → A) (v u : Nat) (x : A) (h : u ≠ v) : upd f v x u = f u := by simp [upd, h]

/-- How many of the first k are so. -/
def cnt (Hs : Nat → Bool) : Nat → Nat
  | 0 => 0
  | k + 1 => cnt Hs k + if Hs k then 1 else 0
theorem cnt_le (Hs : Nat → Bool) : ∀ k, cnt Hs k ≤ k
  | 0 => Nat.le_refl 0
  | k + 1 => by have := cnt_le Hs k; unfold cnt; split <;> omega
theorem cnt_upd (Hs : Nat → Bool) (v : Nat) : ∀ k, cnt (upd Hs v true) k = if v < k then (if Hs v then cnt Hs k else cnt Hs k + 1) else cnt Hs k
  | 0 => by simp [cnt]
  | k + 1 => by
    have ih := cnt_upd Hs v k
    unfold cnt
    rw [ih]
    by_cases h1 : v < k
    · have h2 : v < k + 1 := by omega
      have h3 : k ≠ v := by omega
      simp only [h1, h2, if_true, upd_other _ _ _ _ h3]
      cases Hs v <;> cases Hs k <;> simp
    · by_cases h2 : v = k
      · subst h2
        simp only [upd_same]
        cases hh : Hs v <;> simp
      · have h3 : k ≠ v := fun e => h2 e.symm
        have h4 : ¬ v < k + 1 := by omega
        simp only [h1, h4, if_false, upd_other _ _ _ _ h3]

/-- THE MAP HOLDS JUST WHAT THE PLAIN MODEL HOLDS. -/
structure Agrees (D : DataW Unit) (E : Nat → Int) (Hs : Nat → Bool) : Prop where
  tidy : Tidy D
  has : ∀ v : Nat, v < 256 → Maps.has D (kl v) = Hs v
  val : ∀ v : Nat, v < 256 → Hs v = true → D.atKey (kl v) (.lit (.int .i64 0)) = .lit (.int .i64 (E v))
  size : Maps.size D = cnt Hs 256

theorem cnt_false : ∀ k, cnt (fun _ => false) k = 0
  | 0 => rfl
  | k + 1 => by simp [cnt, cnt_false k]

theorem agrees_empty (E : Nat → Int) : Agrees (.map []) E (fun _ => false) where
  tidy := tidy_empty
  has := fun v hv => rfl
  val := fun v hv h => by cases h
  size := by rw [cnt_false]; rfl

theorem Agrees.put {D : DataW Unit} {E : Nat → Int} {Hs : Nat → Bool} (h : Agrees D E Hs) {v : Nat} (hv : v < 256) (x : Int) : Agrees (D.put (kl v) (.lit (.int .i64 x))) (upd E v x) (upd Hs v true) where
  tidy := h.tidy.put (kl_key v hv) _
  has := fun u hu => by
    by_cases e : u = v
    · subst e; rw [has_put_same h.tidy.isMap (kl_key u hu), upd_same]
    · rw [has_put_other (kl_ne hu hv e), upd_other _ _ _ _ e]; exact h.has u hu
  val := fun u hu hh => by
    by_cases e : u = v
    · subst e; rw [atKey_put_same h.tidy.isMap (kl_key u hu), upd_same]
    · rw [atKey_put_other (kl_ne hu hv e), upd_other _ _ _ _ e]
      rw [upd_other _ _ _ _ e] at hh
      exact h.val u hu hh
  size := by
    rw [size_put h.tidy, cnt_upd, if_pos hv, h.has v hv, h.size]

/-- The stores of the run: records first .. first + k - 1, in order. -/
def putsTo (D : DataW Unit) (ids : Nat → Int) (first : Nat) : Nat → DataW Unit
  | 0 => D
  | k + 1 => (putsTo D ids first k).put (kl (ids (first + k))) (.lit (.int .i64 ((first + k : Nat) : Int)))
def expTo (E : Nat → Int) (ids : Nat → Int) (first : Nat) : Nat → Nat → Int
  | 0 => E
  | k + 1 => upd (expTo E ids first k) (ids (first + k)).toNat ((first + k : Nat) : Int)
def hasTo (Hs : Nat → Bool) (ids : Nat → Int) (first : Nat) : Nat → Nat → Bool
  | 0 => Hs
  | k + 1 => upd (hasTo Hs ids first k) (ids (first + k)).toNat true

theorem agrees_run {D : DataW Unit} {E : Nat → Int} {Hs : Nat → Bool} (h : Agrees D E Hs) (ids : Nat → Int) (first : Nat) : ∀ k, (∀ j, j < k → 0 ≤ ids (first + j) ∧ ids (first + j) ≤ 255) →
    Agrees (putsTo D ids first k) (expTo E ids first k) (hasTo Hs ids first k)
  | 0, _ => h
  | k + 1, hb => by
    have ih := agrees_run h ids first k (fun j hj => hb j (by omega))
    have hk := hb k (by omega)
    have := ih.put (v := (ids (first + k)).toNat) (by omega) ((first + k : Nat) : Int)
    rw [Int.toNat_of_nonneg hk.1] at this
    exact this

theorem ownsMap_same {w w' : World} {P : Program} {k : TypeId} {R : Value → Option (DataW Unit × List MemPlace)} {b n : Nat} {D : DataW Unit} (h : w.ownsMap P k R b n D) (e : w'.heap[b]? = w.heap[b]?) : w'.ownsMap P k R b n D := by
  obtain ⟨es, clock, hb, F, hs, hD⟩ := h
  exact ⟨es, clock, e.trans hb, F, hs, hD⟩
end Go.Proofs.Ybulkarvi.stores
