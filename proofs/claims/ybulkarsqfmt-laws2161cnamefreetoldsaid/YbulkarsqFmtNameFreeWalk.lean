/-
  The walk for 'LawS2161CNameFree': two sections that are not numbered and bear one key spell one text, the key. fmt is never asked on this road.
-/
import Derived.Test.YbulkarsqFmtRows
import Derived.WalkKit
import Derived.WalkSpells
import Derived.Deep.RegionWith
namespace Go.Proofs.YbulkarsqFmt.nameFree
open Go.RowKit

/-- A section that is not numbered spells its key. -/
theorem keys_plain (n k : ByteArray) (o : Bool) (w : World) :
    Calls Ybaf.prog 5 #[.agg #[.string n, .string k, .bool false, .bool o]] w fun e w' => e = .returned (.string k) ∧ w' = w.alloc (.cells #[.string n, .string k, .bool false, .bool o] 23) := by
  go_enter Ybaf.func5, Ybaf.ntmps5
  go_wp2
  go_ret
  exact ⟨rfl, rfl⟩

set_option maxHeartbeats 2000000 in
/-- THE WALK: the Go text returns true; nothing that was there is written. -/
theorem walk (a0 a1 a2 : ByteArray) (a3 a4 : Bool) (w : World) :
    Calls Ybaf.prog 4 #[.string a0, .string a1, .string a2, .bool a3, .bool a4] w fun e w' => e = .returned (.bool true) ∧ Grown w w' := by
  go_enter Ybaf.func4, Ybaf.ntmps4
  go_wp2
  go_region_with (go_at_call 5; refine (keys_plain _ _ _ _).mono ?_; rintro e w' ⟨rfl, rfl⟩)
  all_goals (try go_wp2)
  all_goals go_ret
  all_goals exact ⟨rfl, by repeat (first | exact Grown.refl _ | apply Grown.drew | apply Grown.alloc)⟩

end Go.Proofs.YbulkarsqFmt.nameFree
