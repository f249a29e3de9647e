/-
  'LawS2171AForget' where there is nothing to check: no place, or more than 1024.
-/
import Derived.Test.YbulkaryaBuild
namespace Go.Proofs.Ybulkarya.forget
set_option linter.unusedVariables false
set_option linter.unusedSimpArgs false
open Go.RowKit

set_option maxRecDepth 100000 in
theorem law_zero (A : Option Addr) (cap : Nat) (x : Int) (b : Bool) (w : World) : Calls Yba.prog 3 #[.slice A 0 cap, .int .u64 x, .bool b] w fun e w' => e = .returned (.bool true) ∧ Below w.heap.size w w' := by
  go_enter Yba.func3, Yba.ntmps3
  go_wp2
  go_ret
  exact ⟨rfl, Below.refl _ _⟩

set_option maxRecDepth 100000 in
theorem law_long (A : Option Addr) (n cap : Nat) (x : Int) (b : Bool) (w : World) (hn : 1024 < n) : Calls Yba.prog 3 #[.slice A n cap, .int .u64 x, .bool b] w fun e w' => e = .returned (.bool true) ∧ Below w.heap.size w w' := by
  have n1 : (1024 : Int) < (n : Int) := by omega
  have n2 : ¬ (n : Int) = 0 := by omega
  have n3 : ¬ n = 0 := by omega
  have d2 : decide ((n : Int) = 0) = false := decide_eq_false n2
  go_enter Yba.func3, Yba.ntmps3
  go_wp2
  go_ret
  exact ⟨rfl, Below.refl _ _⟩
end Go.Proofs.Ybulkarya.forget
