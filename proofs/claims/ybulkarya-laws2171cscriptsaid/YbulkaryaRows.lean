/-
  No cell of these rows narrows 'for every input' (looked for: loops, veiled, ifaces, maps, wideKeys, modest, calm, conditions, laid).
  DERIVED. THE GIVEN ROWS OF THIS SEAT. 2 by the template 'for every input the law returns true; each argument reads behind the call as it read before'; 0 by the template 'total and deterministic' (their statements: YbulkaryaTotals.lean).
  GIVEN WITH THE SEED: the statements are not yours to turn. If you find one false, say at which input.
  Laid BY PROGRAM, IN A SANDBOX (cutbox-rows.mjs): the forced cells as the released guide's own fill.sh prints them over the translation c333b275a590e907… (all of the seat's roots in one cut). By AI agents, Wed Nov 11 2026. No macro, syntax, notation, axiom, sorry.
-/
import Derived.Test.YbulkaryaChecked
import GoSem.Claim
import GoSem.ClaimJoined
import GoSem.ClaimMapViews
import Derived.JoinedTies
import Derived.KernelRfl
namespace Go.Proofs.Ybulkarya
/- THE CELL 'sum', in the pinned program and in every row, IS THE sha256 OF THE DUMP (.gsa) THAT YbulkaryaProg.lean LOADS. Nothing in Lean hashes anything: it is a label: what it is worth is what the hold of that sum in a sandbox is worth. -/
noncomputable def Yba.pinned : Pinned := { name := "ybulkarya", sum := "c333b275a590e90711a5cb9a62de0a6016a23a0bc94a2b970038d1a6edd77d98", checked := Yba.checked }
namespace Rows
def none {H : Type} : Left H := { results := [], args := [] }

/-- 'interlock.LawS2171AForget': WHATEVER THE INPUT: true; the input reads as it did. -/
def lawS2171AForgetSpec : ChangeSpec := { name := "lawS2171AForget", fn := fun _ => fun
  | [d1, d2, d3] => { results := [.lit (.bool true)], args := [d1, d2, d3] }
  | _ => none }
def lawS2171AForgetRow : OpenClaim := { program := "ybulkarya", sum := "c333b275a590e90711a5cb9a62de0a6016a23a0bc94a2b970038d1a6edd77d98", func := "example.com/interlock/interlock.LawS2171AForget", spec := "lawS2171AForget", apart := false }
def LawS2171AForgetSaid : Prop := lawS2171AForgetRow.holds Yba.pinned (OpenSpec.ofChange lawS2171AForgetSpec)

/-- ITS FALSE NEIGHBOUR: 'it returns false'. Refute it at one input. -/
def lawS2171AForgetWrong : ChangeSpec := { name := "lawS2171AForget", fn := fun _ => fun
  | [d1, d2, d3] => { results := [.lit (.bool false)], args := [d1, d2, d3] }
  | _ => none }
def LawS2171AForgetWrongFalsely : Prop := lawS2171AForgetRow.holds Yba.pinned (OpenSpec.ofChange lawS2171AForgetWrong)

/-- 'lockmodel.LawS2171CScript': WHATEVER THE INPUT: true; the input reads as it did. -/
def lawS2171CScriptSpec : ChangeSpec := { name := "lawS2171CScript", fn := fun _ => fun
  | [d] => { results := [.lit (.bool true)], args := [d] }
  | _ => none }
def lawS2171CScriptRow : OpenClaim := { program := "ybulkarya", sum := "c333b275a590e90711a5cb9a62de0a6016a23a0bc94a2b970038d1a6edd77d98", func := "example.com/interlock/interlock/internal/lockmodel.LawS2171CScript", spec := "lawS2171CScript", apart := false }
def LawS2171CScriptSaid : Prop := lawS2171CScriptRow.holds Yba.pinned (OpenSpec.ofChange lawS2171CScriptSpec)

/-- ITS FALSE NEIGHBOUR: 'it returns false'. Refute it at one input. -/
def lawS2171CScriptWrong : ChangeSpec := { name := "lawS2171CScript", fn := fun _ => fun
  | [d] => { results := [.lit (.bool false)], args := [d] }
  | _ => none }
def LawS2171CScriptWrongFalsely : Prop := lawS2171CScriptRow.holds Yba.pinned (OpenSpec.ofChange lawS2171CScriptWrong)

end Rows
end Go.Proofs.Ybulkarya
