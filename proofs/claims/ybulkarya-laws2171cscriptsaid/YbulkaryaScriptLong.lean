/-
  'LawS2171CScript' where there is nothing to check: more than 1024 steps.
-/
import Derived.Test.YbulkaryaScriptWalk
namespace Go.Proofs.Ybulkarya.script
set_option linter.unusedVariables false
set_option linter.unusedSimpArgs false
open Go.RowKit

set_option maxRecDepth 100000 in
theorem law_long (A : Option Addr) (n cap : Nat) (w : World) (hn : 1024 < n) : Calls Yba.prog 4 #[.slice A n cap] w fun e w' => e = .returned (.bool true) ∧ Below w.heap.size w w' := by
  have n1 : (1024 : Int) < (n : Int) := by omega
  go_enter Yba.func4, Yba.ntmps4
  go_wp2
  go_ret
  exact ⟨rfl, Below.refl _ _⟩
end Go.Proofs.Ybulkarya.script
