/-
  A set of modes as a word: its bits, its count.
-/
import Derived.Test.YbulkaryaPop
namespace Go.Proofs.Ybulkarya.script
set_option linter.unusedVariables false
set_option linter.unusedSimpArgs false

/-- One place turned. -/
def up {A : Type} (f : Nat → A) (q : Nat) (x : A) (i : Nat) : A := if i = q then x else f i
theorem up_same {A : Type} (f : Nat → A) (q : Nat) (x : A) : up f q x q = x := by simp [up]
theorem up_other {A : Type} (f : Nat → A) (q i : Nat) (x : A) (h : i ≠ q) : up f q x i = f i := by simp [up, h]

def mask (H : Nat → Bool) : Nat → Nat
  | 0 => 0
  | n + 1 => mask H n ||| (if H n then 2 ^ n else 0)
theorem mask_bit (H : Nat → Bool) : ∀ (n i : Nat), (mask H n).testBit i = (decide (i < n) && H i)
  | 0, i => by simp [mask]
  | n + 1, i => by
    show (mask H n ||| (if H n then 2 ^ n else 0)).testBit i = _
    rw [Nat.testBit_or, mask_bit H n i]
    by_cases e : i = n
    · subst e
      cases h : H i <;> simp [h, Nat.testBit_two_pow]
    · have e2 : ¬ n = i := fun h => e h.symm
      have e3 : i < n + 1 ↔ i < n := by omega
      cases h : H n <;> simp [h, Nat.testBit_two_pow, e2, e3]
theorem mask_lt (H : Nat → Bool) : ∀ n, mask H n < 2 ^ n
  | 0 => by simp [mask]
  | n + 1 => by
    show mask H n ||| (if H n then 2 ^ n else 0) < 2 ^ (n + 1)
    have h1 := mask_lt H n
    have e : 2 ^ (n + 1) = 2 ^ n * 2 := Nat.pow_succ 2 n
    refine Nat.or_lt_two_pow (by omega) ?_
    split
    · have := Nat.two_pow_pos n; omega
    · have := Nat.two_pow_pos (n + 1); omega

theorem mask_none (q : Nat) (H : Nat → Bool) (hq : q < 64) (h : H q = false) : mask H 64 &&& 2 ^ q = 0 := by
  apply Nat.eq_of_testBit_eq
  intro i
  rw [Nat.testBit_and, mask_bit, Nat.testBit_two_pow, Nat.zero_testBit]
  by_cases e : q = i
  · subst e; simp [h]
  · simp [e]
theorem mask_some (q : Nat) (H : Nat → Bool) (hq : q < 64) (h : H q = true) : mask H 64 &&& 2 ^ q ≠ 0 := by
  intro e
  have := congrArg (fun x => Nat.testBit x q) e
  simp only [Nat.testBit_and, mask_bit, Nat.testBit_two_pow, Nat.zero_testBit] at this
  simp [h, hq] at this
theorem mask_set (q : Nat) (H : Nat → Bool) (hq : q < 64) : mask H 64 ||| 2 ^ q = mask (up H q true) 64 := by
  apply Nat.eq_of_testBit_eq
  intro i
  rw [Nat.testBit_or, mask_bit, mask_bit, Nat.testBit_two_pow]
  by_cases e : q = i
  · subst e; simp [up, hq]
  · have e2 : ¬ i = q := fun h => e h.symm
    simp [e, up, e2]
theorem mask_clear (q : Nat) (H : Nat → Bool) (hq : q < 64) : mask H 64 &&& (2 ^ 64 - (2 ^ q + 1)) = mask (up H q false) 64 := by
  apply Nat.eq_of_testBit_eq
  intro i
  have hlt : 2 ^ q < 2 ^ 64 := Nat.pow_lt_pow_right (by omega) hq
  rw [Nat.testBit_and, mask_bit, mask_bit, Nat.testBit_two_pow_sub_succ hlt, Nat.testBit_two_pow]
  by_cases e : q = i
  · subst e; simp [up]
  · have e2 : ¬ i = q := fun h => e h.symm
    by_cases l : i < 64 <;> simp [e, up, e2, l]

/-- How many of the first n modes are there. -/
def cn (H : Nat → Bool) : Nat → Nat
  | 0 => 0
  | n + 1 => cn H n + if H n then 1 else 0
theorem cn_succ (H : Nat → Bool) (n : Nat) : cn H (n + 1) = cn H n + if H n then 1 else 0 := rfl
theorem cn_le (H : Nat → Bool) : ∀ n, cn H n ≤ n
  | 0 => Nat.le_refl 0
  | n + 1 => by have := cn_le H n; rw [cn_succ]; split <;> omega
theorem cn_mono (H : Nat → Bool) (j : Nat) : ∀ k, j ≤ k → cn H j ≤ cn H k
  | 0, h => by
    obtain rfl : j = 0 := by omega
    exact Nat.le_refl _
  | k + 1, h => by
    by_cases e : j = k + 1
    · subst e; exact Nat.le_refl _
    · have := cn_mono H j k (by omega)
      rw [cn_succ]; omega
theorem cn_lt (H : Nat → Bool) (j k : Nat) (h : j < k) (hj : H j = true) : cn H j < cn H k := by
  have h1 := cn_mono H (j + 1) k h
  have e : cn H (j + 1) = cn H j + 1 := by rw [cn_succ, hj]; rfl
  omega
theorem cn_inj (H : Nat → Bool) (j k : Nat) (hj : H j = true) (hk : H k = true) (h : cn H j = cn H k) : j = k := by
  rcases Nat.lt_trichotomy j k with a | a | a
  · have := cn_lt H j k a hj; omega
  · exact a
  · have := cn_lt H k j a hk; omega
theorem cn_room (H : Nat → Bool) (q n : Nat) (hq : q < n) (h : H q = false) : cn H n < n := by
  have h1 : cn H (q + 1) = cn H q := by rw [cn_succ, h]; rfl
  have h2 := cn_le H q
  have h3 : ∀ m, cn H (q + 1 + m) ≤ cn H (q + 1) + m := by
    intro m
    induction m with
    | zero => exact Nat.le_refl _
    | succ m ih =>
      have : cn H (q + 1 + (m + 1)) = cn H (q + 1 + m) + if H (q + 1 + m) then 1 else 0 := rfl
      split at this <;> omega
  have := h3 (n - (q + 1))
  rw [show q + 1 + (n - (q + 1)) = n from by omega] at this
  omega
theorem cn_add (H : Nat → Bool) (q : Nat) (h : H q = false) : ∀ j, cn (up H q true) j = cn H j + if q < j then 1 else 0
  | 0 => by simp [cn]
  | j + 1 => by
    rw [cn_succ, cn_succ, cn_add H q h j]
    by_cases e : j = q
    · subst e; rw [up_same, h]; simp
    · rw [up_other _ _ _ _ e]
      have : q < j + 1 ↔ q < j := by omega
      simp only [this]
      omega
theorem cn_del (H : Nat → Bool) (q : Nat) (h : H q = true) : ∀ j, cn (up H q false) j + (if q < j then 1 else 0) = cn H j
  | 0 => by simp [cn]
  | j + 1 => by
    have ih := cn_del H q h j
    rw [cn_succ, cn_succ]
    by_cases e : j = q
    · subst e
      rw [up_same, h]
      simp at ih ⊢
      omega
    · rw [up_other _ _ _ _ e]
      have : q < j + 1 ↔ q < j := by omega
      simp only [this]
      omega

theorem pc_mask (H : Nat → Bool) (q : Nat) : ∀ n, n ≤ 64 → pc (mask H 64 &&& (2 ^ q - 1)) n = cn H (if n ≤ q then n else q)
  | 0, _ => by simp [pc, cn]
  | n + 1, hn => by
    show pc (mask H 64 &&& (2 ^ q - 1)) n + bt (mask H 64 &&& (2 ^ q - 1)) n = _
    rw [pc_mask H q n (by omega)]
    unfold bt
    rw [Nat.testBit_and, mask_bit, Nat.testBit_two_pow_sub_one]
    have hn' : n < 64 := by omega
    by_cases l : n < q
    · rw [if_pos (by omega), if_pos (by omega), cn_succ]
      cases H n <;> simp [hn', l]
    · rw [if_neg (by omega : ¬ n + 1 ≤ q)]
      have : (if n ≤ q then n else q) = q := by split <;> omega
      rw [this]
      simp [l]
theorem rank_is (H : Nat → Bool) (q : Nat) (hq : q ≤ 64) : pc (mask H 64 &&& (2 ^ q - 1)) 64 = cn H q := by
  rw [pc_mask H q 64 (Nat.le_refl _)]
  split
  · have : q = 64 := by omega
    rw [this]
  · rfl
end Go.Proofs.Ybulkarya.script
