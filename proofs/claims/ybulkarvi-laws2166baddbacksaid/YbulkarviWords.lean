/-
  Two-word numbers: math/bits.Sub64 and Add64 at this dump (the model's entries), and Uint128's Sub, Add, Cmp, IsZero by contracts. The plain arithmetic stands under names that the walk does not open.
-/
import Derived.Test.YbulkarviRows
import Derived.WalkKit
import Derived.WalkSpells
import Derived.RowKit3
import Derived.Laws.Externs
import Derived.Shelf.Spec.BitsCarry
namespace Go.Proofs.Ybulkarvi.words
set_option linter.unusedVariables false
open Go.RowKit

/-- A word. -/
def Word (x : Int) : Prop := 0 ≤ x ∧ x < 18446744073709551616

theorem sub64_nat (x y b : Nat) (hb : b ≤ 1) (w : World) : (callFunc 16 #[.int .u64 x, .int .u64 y, .int .u64 b]).run Yba.prog w =
    .ok (.value (.tuple #[.int .u64 (((x + 18446744073709551616 - y - b) % 18446744073709551616 : Nat) : Int), .int .u64 ((if x < y + b then 1 else 0 : Nat) : Int)])) w := by
  rw [run_callFunc_extern Yba.func16 (by kernel_rfl) (by kernel_rfl) (by kernel_rfl) (e := sub64Entry) (by kernel_rfl), run_sub64 x y b hb]
  rfl

theorem add64_nat (x y c : Nat) (hc : c ≤ 1) (w : World) : (callFunc 17 #[.int .u64 x, .int .u64 y, .int .u64 c]).run Yba.prog w =
    .ok (.value (.tuple #[.int .u64 (((x + y + c) % 18446744073709551616 : Nat) : Int), .int .u64 (((x + y + c) / 18446744073709551616 : Nat) : Int)])) w := by
  rw [run_callFunc_extern Yba.func17 (by kernel_rfl) (by kernel_rfl) (by kernel_rfl) (e := add64Entry) (by kernel_rfl), run_add64 x y c (by omega) (by omega) (by omega) (by omega)]
  simp only [Result.andThen]
  congr 5 <;> omega

/-- The borrow. -/
def bor (x y : Int) : Int := if x < y then 1 else 0
/-- The difference's word. -/
def dif (x y b : Int) : Int := (x - y - b) % 18446744073709551616
/-- The sum's word, the carry. -/
def sum (x y c : Int) : Int := (x + y + c) % 18446744073709551616
def car (x y c : Int) : Int := (x + y + c) / 18446744073709551616

theorem bor_01 (x y : Int) : 0 ≤ bor x y ∧ bor x y ≤ 1 := by unfold bor; split <;> omega
theorem dif_word (x y b : Int) : Word (dif x y b) := by unfold dif Word; omega
theorem sum_word (x y b : Int) : Word (sum x y b) := by unfold sum Word; omega
theorem car_01 (x y c : Int) (hx : Word x) (hy : Word y) (h0 : 0 ≤ c) (h1 : c ≤ 1) : 0 ≤ car x y c ∧ car x y c ≤ 1 := by unfold car Word at *; omega

theorem sub64 (x y b : Int) (hx : Word x) (hy : Word y) (hb0 : 0 ≤ b) (hb : b ≤ 1) (w : World) : (callFunc 16 #[.int .u64 x, .int .u64 y, .int .u64 b]).run Yba.prog w =
    .ok (.value (.tuple #[.int .u64 (dif x y b), .int .u64 (bor x (y + b))])) w := by
  obtain ⟨x, rfl⟩ := Int.eq_ofNat_of_zero_le hx.1
  obtain ⟨y, rfl⟩ := Int.eq_ofNat_of_zero_le hy.1
  obtain ⟨b, rfl⟩ := Int.eq_ofNat_of_zero_le hb0
  have hy' := hy.2
  have e1 : (((x + 18446744073709551616 - y - b) % 18446744073709551616 : Nat) : Int) = dif x y b := by unfold dif; omega
  have e2 : ((if x < y + b then 1 else 0 : Nat) : Int) = bor (x : Int) ((y : Int) + b) := by unfold bor; split <;> split <;> omega
  rw [← e1, ← e2]
  exact sub64_nat x y b (by omega) w
theorem add64 (x y c : Int) (hx : Word x) (hy : Word y) (hc0 : 0 ≤ c) (hc : c ≤ 1) (w : World) : (callFunc 17 #[.int .u64 x, .int .u64 y, .int .u64 c]).run Yba.prog w =
    .ok (.value (.tuple #[.int .u64 (sum x y c), .int .u64 (car x y c)])) w := by
  obtain ⟨x, rfl⟩ := Int.eq_ofNat_of_zero_le hx.1
  obtain ⟨y, rfl⟩ := Int.eq_ofNat_of_zero_le hy.1
  obtain ⟨c, rfl⟩ := Int.eq_ofNat_of_zero_le hc0
  have e1 : (((x + y + c) % 18446744073709551616 : Nat) : Int) = sum x y c := by unfold sum; omega
  have e2 : (((x + y + c) / 18446744073709551616 : Nat) : Int) = car x y c := by unfold car; omega
  rw [← e1, ← e2]
  exact add64_nat x y c (by omega) w

/-- The borrow out of both words; the high word; the overflow. -/
def subB (uh ul vh vl : Int) : Bool := (bor uh (vh + bor ul vl) != 0)
def subH (uh ul vh vl : Int) : Int := dif uh vh (bor ul vl)
def addO (uh ul vh vl : Int) : Bool := (car uh vh (car ul vl 0) != 0)
def addH (uh ul vh vl : Int) : Int := sum uh vh (car ul vl 0)

/-- Uint128.Sub. -/
theorem sub_any (uh ul vh vl : Int) (h1 : Word uh) (h2 : Word ul) (h3 : Word vh) (h4 : Word vl) (w : World) :
    Calls Yba.prog 10 #[.agg #[.int .u64 uh, .int .u64 ul], .agg #[.int .u64 vh, .int .u64 vl]] w fun e w' =>
      e = .returned (.tuple #[.agg #[.int .u64 (subH uh ul vh vl), .int .u64 (dif ul vl 0)], .bool (subB uh ul vh vl)]) ∧ ∃ c1 c2 c3 : Array Value, w' = ((w.alloc (.cells c1 31)).alloc (.cells c2 31)).alloc (.cells c3 31) := by
  have k0 := (bor_01 ul vl).1
  have k1 := (bor_01 ul vl).2
  have r1 := sub64 ul vl 0 h2 h4 (Int.le_refl 0) (by decide)
  rw [Int.add_zero] at r1
  have r2 := sub64 uh vh (bor ul vl) h1 h3 k0 k1
  go_enter Yba.func10, Yba.ntmps10
  go_wp2
  exact bodyPost_ret (v := .tuple #[.agg #[.int .u64 (subH uh ul vh vl), .int .u64 (dif ul vl 0)], .bool (subB uh ul vh vl)]) (by simp [results, Yba.results10, go_sem, subH, subB]) rfl ⟨rfl, _, _, _, rfl⟩

/-- Uint128.Add. -/
theorem add_any (uh ul vh vl : Int) (h1 : Word uh) (h2 : Word ul) (h3 : Word vh) (h4 : Word vl) (w : World) :
    Calls Yba.prog 11 #[.agg #[.int .u64 uh, .int .u64 ul], .agg #[.int .u64 vh, .int .u64 vl]] w fun e w' =>
      e = .returned (.tuple #[.agg #[.int .u64 (addH uh ul vh vl), .int .u64 (sum ul vl 0)], .bool (addO uh ul vh vl)]) ∧ ∃ c1 c2 c3 : Array Value, w' = ((w.alloc (.cells c1 31)).alloc (.cells c2 31)).alloc (.cells c3 31) := by
  have k0 := (car_01 ul vl 0 h2 h4 (Int.le_refl 0) (by decide)).1
  have k1 := (car_01 ul vl 0 h2 h4 (Int.le_refl 0) (by decide)).2
  have r1 := add64 ul vl 0 h2 h4 (Int.le_refl 0) (by decide)
  have r2 := add64 uh vh (car ul vl 0) h1 h3 k0 k1
  go_enter Yba.func11, Yba.ntmps11
  go_wp2
  exact bodyPost_ret (v := .tuple #[.agg #[.int .u64 (addH uh ul vh vl), .int .u64 (sum ul vl 0)], .bool (addO uh ul vh vl)]) (by simp [results, Yba.results11, go_sem, addH, addO]) rfl ⟨rfl, _, _, _, rfl⟩

/-- What Cmp answers. -/
def cmpI (uh ul vh vl : Int) : Int := if uh < vh ∨ (uh = vh ∧ ul < vl) then -1 else if uh = vh ∧ ul = vl then 0 else 1

/-- Uint128.Cmp. -/
theorem cmp_any (uh ul vh vl : Int) (w : World) :
    Calls Yba.prog 12 #[.agg #[.int .u64 uh, .int .u64 ul], .agg #[.int .u64 vh, .int .u64 vl]] w fun e w' =>
      e = .returned (.int .i64 (cmpI uh ul vh vl)) ∧ ∃ c1 c2 : Array Value, w' = (w.alloc (.cells c1 31)).alloc (.cells c2 31) := by
  by_cases g1 : uh < vh
  · have HE : Hid (cmpI uh ul vh vl = -1) := by unfold cmpI; rw [if_pos (Or.inl g1)]; trivial
    go_enter Yba.func12, Yba.ntmps12
    go_wp2
    go_ret
    exact ⟨by rw [HE.out]; rfl, _, _, rfl⟩
  · by_cases g2 : uh = vh
    · subst g2
      by_cases g3 : ul < vl
      · have HE : Hid (cmpI uh ul uh vl = -1) := by unfold cmpI; rw [if_pos (Or.inr ⟨rfl, g3⟩)]; trivial
        go_enter Yba.func12, Yba.ntmps12
        go_wp2
        go_ret
        exact ⟨by rw [HE.out]; rfl, _, _, rfl⟩
      · by_cases g4 : ul = vl
        · subst g4
          have HE : Hid (cmpI uh ul uh ul = 0) := by unfold cmpI; rw [if_neg (by omega), if_pos ⟨rfl, rfl⟩]; trivial
          go_enter Yba.func12, Yba.ntmps12
          go_wp2
          go_ret
          exact ⟨by rw [HE.out]; rfl, _, _, rfl⟩
        · have HE : Hid (cmpI uh ul uh vl = 1) := by unfold cmpI; rw [if_neg (by omega), if_neg (by omega)]; trivial
          go_enter Yba.func12, Yba.ntmps12
          go_wp2
          go_ret
          exact ⟨by rw [HE.out]; rfl, _, _, rfl⟩
    · have HE : Hid (cmpI uh ul vh vl = 1) := by unfold cmpI; rw [if_neg (by omega), if_neg (by omega)]; trivial
      go_enter Yba.func12, Yba.ntmps12
      go_wp2
      go_ret
      exact ⟨by rw [HE.out]; rfl, _, _, rfl⟩

/-- What IsZero answers. -/
def isZ (uh ul : Int) : Bool := decide (uh = 0 ∧ ul = 0)
theorem subH_word (uh ul vh vl : Int) : Word (subH uh ul vh vl) := dif_word _ _ _

/-- Uint128.IsZero. -/
theorem zero_any (uh ul : Int) (w : World) :
    Calls Yba.prog 13 #[.agg #[.int .u64 uh, .int .u64 ul]] w fun e w' =>
      e = .returned (.bool (isZ uh ul)) ∧ ∃ c1 : Array Value, w' = w.alloc (.cells c1 31) := by
  by_cases g1 : uh = 0
  · subst g1
    go_enter Yba.func13, Yba.ntmps13
    go_wp2
    go_ret
    exact ⟨by simp [isZ, Bool.beq_eq_decide_eq], _, rfl⟩
  · go_enter Yba.func13, Yba.ntmps13
    go_wp2
    go_ret
    exact ⟨by simp [isZ, g1], _, rfl⟩
end Go.Proofs.Ybulkarvi.words
