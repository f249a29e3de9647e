/-
  No cell of these rows narrows 'for every input' (looked for: loops, veiled, ifaces, maps, wideKeys, modest, calm, conditions, laid).
  DERIVED. THE GIVEN ROWS OF THIS SEAT. 4 by the template 'for every input the law returns true; each argument reads behind the call as it read before'; 0 by the template 'total and deterministic' (their statements: YbulkarviTotals.lean).
  GIVEN WITH THE SEED: the statements are not yours to turn. If you find one false, say at which input.
  Laid BY PROGRAM, IN A SANDBOX (cutbox-rows.mjs): the forced cells as the released guide's own fill.sh prints them over the translation 66b965e67ce91a8d… (all of the seat's roots in one cut). By AI agents, Wed Nov 11 2026. No macro, syntax, notation, axiom, sorry.
-/
import Derived.Test.YbulkarviChecked
import GoSem.Claim
import GoSem.ClaimJoined
import GoSem.ClaimMapViews
import Derived.JoinedTies
import Derived.KernelRfl
namespace Go.Proofs.Ybulkarvi
/- THE CELL 'sum', in the pinned program and in every row, IS THE sha256 OF THE DUMP (.gsa) THAT YbulkarviProg.lean LOADS. Nothing in Lean hashes anything: it is a label: what it is worth is what the hold of that sum in a sandbox is worth. -/
noncomputable def Yba.pinned : Pinned := { name := "ybulkarvi", sum := "66b965e67ce91a8d2593fec0268770d434fc6125b434a2b09bdd25063282bb43", checked := Yba.checked }
namespace Rows
def none {H : Type} : Left H := { results := [], args := [] }

/-- 'ledger.LawS2166AStores': WHATEVER THE INPUT: true; the input reads as it did. -/
def lawS2166AStoresSpec : ChangeSpec := { name := "lawS2166AStores", fn := fun _ => fun
  | [d1, d2, d3, d4, d5] => { results := [.lit (.bool true)], args := [d1, d2, d3, d4, d5] }
  | _ => none }
def lawS2166AStoresRow : OpenClaim := { program := "ybulkarvi", sum := "66b965e67ce91a8d2593fec0268770d434fc6125b434a2b09bdd25063282bb43", func := "example.com/viewstead/viewstead/internal/ledger.LawS2166AStores", spec := "lawS2166AStores", named := ["encoding/binary.LittleEndian"], plainKeys := false, apart := false }
def LawS2166AStoresSaid : Prop := lawS2166AStoresRow.holds Yba.pinned (OpenSpec.ofChange lawS2166AStoresSpec)

/-- ITS FALSE NEIGHBOUR: 'it returns false'. Refute it at one input. -/
def lawS2166AStoresWrong : ChangeSpec := { name := "lawS2166AStores", fn := fun _ => fun
  | [d1, d2, d3, d4, d5] => { results := [.lit (.bool false)], args := [d1, d2, d3, d4, d5] }
  | _ => none }
def LawS2166AStoresWrongFalsely : Prop := lawS2166AStoresRow.holds Yba.pinned (OpenSpec.ofChange lawS2166AStoresWrong)

/-- 'viewstead.LawS2166BExact': WHATEVER THE INPUT: true; the input reads as it did. -/
def lawS2166BExactSpec : ChangeSpec := { name := "lawS2166BExact", fn := fun _ => fun
  | [d1, d2, d3, d4] => { results := [.lit (.bool true)], args := [d1, d2, d3, d4] }
  | _ => none }
def lawS2166BExactRow : OpenClaim := { program := "ybulkarvi", sum := "66b965e67ce91a8d2593fec0268770d434fc6125b434a2b09bdd25063282bb43", func := "example.com/viewstead/viewstead.LawS2166BExact", spec := "lawS2166BExact", inPlace := ["math/bits.Sub64"], plainKeys := false, apart := false }
def LawS2166BExactSaid : Prop := lawS2166BExactRow.holds Yba.pinned (OpenSpec.ofChange lawS2166BExactSpec)

/-- ITS FALSE NEIGHBOUR: 'it returns false'. Refute it at one input. -/
def lawS2166BExactWrong : ChangeSpec := { name := "lawS2166BExact", fn := fun _ => fun
  | [d1, d2, d3, d4] => { results := [.lit (.bool false)], args := [d1, d2, d3, d4] }
  | _ => none }
def LawS2166BExactWrongFalsely : Prop := lawS2166BExactRow.holds Yba.pinned (OpenSpec.ofChange lawS2166BExactWrong)

/-- 'viewstead.LawS2166BAddBack': WHATEVER THE INPUT: true; the input reads as it did. -/
def lawS2166BAddBackSpec : ChangeSpec := { name := "lawS2166BAddBack", fn := fun _ => fun
  | [d1, d2, d3, d4] => { results := [.lit (.bool true)], args := [d1, d2, d3, d4] }
  | _ => none }
def lawS2166BAddBackRow : OpenClaim := { program := "ybulkarvi", sum := "66b965e67ce91a8d2593fec0268770d434fc6125b434a2b09bdd25063282bb43", func := "example.com/viewstead/viewstead.LawS2166BAddBack", spec := "lawS2166BAddBack", inPlace := ["math/bits.Sub64", "math/bits.Add64"], plainKeys := false, apart := false }
def LawS2166BAddBackSaid : Prop := lawS2166BAddBackRow.holds Yba.pinned (OpenSpec.ofChange lawS2166BAddBackSpec)

/-- ITS FALSE NEIGHBOUR: 'it returns false'. Refute it at one input. -/
def lawS2166BAddBackWrong : ChangeSpec := { name := "lawS2166BAddBack", fn := fun _ => fun
  | [d1, d2, d3, d4] => { results := [.lit (.bool false)], args := [d1, d2, d3, d4] }
  | _ => none }
def LawS2166BAddBackWrongFalsely : Prop := lawS2166BAddBackRow.holds Yba.pinned (OpenSpec.ofChange lawS2166BAddBackWrong)

/-- 'viewstead.LawS2166BBorrowCmp': WHATEVER THE INPUT: true; the input reads as it did. -/
def lawS2166BBorrowCmpSpec : ChangeSpec := { name := "lawS2166BBorrowCmp", fn := fun _ => fun
  | [d1, d2, d3, d4] => { results := [.lit (.bool true)], args := [d1, d2, d3, d4] }
  | _ => none }
def lawS2166BBorrowCmpRow : OpenClaim := { program := "ybulkarvi", sum := "66b965e67ce91a8d2593fec0268770d434fc6125b434a2b09bdd25063282bb43", func := "example.com/viewstead/viewstead.LawS2166BBorrowCmp", spec := "lawS2166BBorrowCmp", inPlace := ["math/bits.Sub64"], plainKeys := false, apart := false }
def LawS2166BBorrowCmpSaid : Prop := lawS2166BBorrowCmpRow.holds Yba.pinned (OpenSpec.ofChange lawS2166BBorrowCmpSpec)

/-- ITS FALSE NEIGHBOUR: 'it returns false'. Refute it at one input. -/
def lawS2166BBorrowCmpWrong : ChangeSpec := { name := "lawS2166BBorrowCmp", fn := fun _ => fun
  | [d1, d2, d3, d4] => { results := [.lit (.bool false)], args := [d1, d2, d3, d4] }
  | _ => none }
def LawS2166BBorrowCmpWrongFalsely : Prop := lawS2166BBorrowCmpRow.holds Yba.pinned (OpenSpec.ofChange lawS2166BBorrowCmpWrong)

end Rows
end Go.Proofs.Ybulkarvi
