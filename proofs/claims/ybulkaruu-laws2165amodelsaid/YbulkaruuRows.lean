/-
  No cell of these rows narrows 'for every input' (looked for: loops, veiled, ifaces, maps, wideKeys, modest, calm, conditions, laid).
  DERIVED. THE GIVEN ROWS OF THIS SEAT. 2 by the template 'for every input the law returns true; each argument reads behind the call as it read before'; 0 by the template 'total and deterministic' (their statements: YbulkaruuTotals.lean).
  GIVEN WITH THE SEED: the statements are not yours to turn. If you find one false, say at which input.
  Laid BY PROGRAM, IN A SANDBOX (cutbox-rows.mjs): the forced cells as the released guide's own fill.sh prints them over the translation 25089964abd264c3… (all of the seat's roots in one cut). By AI agents, Wed Nov 11 2026. No macro, syntax, notation, axiom, sorry.
-/
import Derived.Test.YbulkaruuChecked
import GoSem.Claim
import GoSem.ClaimJoined
import GoSem.ClaimMapViews
import Derived.JoinedTies
import Derived.KernelRfl
namespace Go.Proofs.Ybulkaruu
/- THE CELL 'sum', in the pinned program and in every row, IS THE sha256 OF THE DUMP (.gsa) THAT YbulkaruuProg.lean LOADS. Nothing in Lean hashes anything: it is a label: what it is worth is what the hold of that sum in a sandbox is worth. -/
noncomputable def Yba.pinned : Pinned := { name := "ybulkaruu", sum := "25089964abd264c3ee839ab3f3fbf8b347afd967c416ebf286dfcd945b86f8ad", checked := Yba.checked }
namespace Rows
def none {H : Type} : Left H := { results := [], args := [] }

/-- 'syntax.LawS2165AModel': WHATEVER THE INPUT: true; the input reads as it did. -/
def lawS2165AModelSpec : ChangeSpec := { name := "lawS2165AModel", fn := fun _ => fun
  | [d1, d2, d3] => { results := [.lit (.bool true)], args := [d1, d2, d3] }
  | _ => none }
def lawS2165AModelRow : OpenClaim := { program := "ybulkaruu", sum := "25089964abd264c3ee839ab3f3fbf8b347afd967c416ebf286dfcd945b86f8ad", func := "example.com/pinion/pinion/syntax.LawS2165AModel", spec := "lawS2165AModel", apart := false }
def LawS2165AModelSaid : Prop := lawS2165AModelRow.holds Yba.pinned (OpenSpec.ofChange lawS2165AModelSpec)

/-- ITS FALSE NEIGHBOUR: 'it returns false'. Refute it at one input. -/
def lawS2165AModelWrong : ChangeSpec := { name := "lawS2165AModel", fn := fun _ => fun
  | [d1, d2, d3] => { results := [.lit (.bool false)], args := [d1, d2, d3] }
  | _ => none }
def LawS2165AModelWrongFalsely : Prop := lawS2165AModelRow.holds Yba.pinned (OpenSpec.ofChange lawS2165AModelWrong)

/-- 'syntax.LawS2165ACommutes': WHATEVER THE INPUT: true; the input reads as it did. -/
def lawS2165ACommutesSpec : ChangeSpec := { name := "lawS2165ACommutes", fn := fun _ => fun
  | [d1, d2, d3] => { results := [.lit (.bool true)], args := [d1, d2, d3] }
  | _ => none }
def lawS2165ACommutesRow : OpenClaim := { program := "ybulkaruu", sum := "25089964abd264c3ee839ab3f3fbf8b347afd967c416ebf286dfcd945b86f8ad", func := "example.com/pinion/pinion/syntax.LawS2165ACommutes", spec := "lawS2165ACommutes", apart := false }
def LawS2165ACommutesSaid : Prop := lawS2165ACommutesRow.holds Yba.pinned (OpenSpec.ofChange lawS2165ACommutesSpec)

/-- ITS FALSE NEIGHBOUR: 'it returns false'. Refute it at one input. -/
def lawS2165ACommutesWrong : ChangeSpec := { name := "lawS2165ACommutes", fn := fun _ => fun
  | [d1, d2, d3] => { results := [.lit (.bool false)], args := [d1, d2, d3] }
  | _ => none }
def LawS2165ACommutesWrongFalsely : Prop := lawS2165ACommutesRow.holds Yba.pinned (OpenSpec.ofChange lawS2165ACommutesWrong)

end Rows
end Go.Proofs.Ybulkaruu
