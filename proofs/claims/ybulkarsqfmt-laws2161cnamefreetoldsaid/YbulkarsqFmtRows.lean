/-
  No cell of these rows narrows 'for every input' (looked for: loops, veiled, ifaces, maps, wideKeys, modest, calm, conditions, laid).
  DERIVED. THE GIVEN ROWS OF THIS SEAT. 2 by the template 'for every input the law returns true; each argument reads behind the call as it read before'; 0 by the template 'total and deterministic' (their statements: YbulkarsqFmtTotals.lean).
  GIVEN WITH THE SEED: the statements are not yours to turn. If you find one false, say at which input.
  Laid BY PROGRAM, IN A SANDBOX (cutbox-rows.mjs): the forced cells as the released guide's own fill.sh prints them over the translation e9f1cc19c1407254… (all of the seat's roots in one cut). By AI agents, Wed Nov 11 2026. No macro, syntax, notation, axiom, sorry.
-/
import Derived.Test.YbulkarsqFmtChecked
import GoSem.Claim
import GoSem.ClaimJoined
import GoSem.ClaimMapViews
import Derived.JoinedTies
import Derived.KernelRfl
namespace Go.Proofs.YbulkarsqFmt
/- THE CELL 'sum', in the pinned program and in every row, IS THE sha256 OF THE DUMP (.gsa) THAT YbulkarsqFmtProg.lean LOADS. Nothing in Lean hashes anything: it is a label: what it is worth is what the hold of that sum in a sandbox is worth. -/
noncomputable def Ybaf.pinned : Pinned := { name := "ybulkarsqfmt", sum := "e9f1cc19c14072549f90b4d867feb36cf5ed954075f0f1ee0a887a4a2d411245", checked := Ybaf.checked }
namespace Rows
def none {H : Type} : Left H := { results := [], args := [] }

/-- 'orderly-gate.LawS2161CPlain': WHATEVER THE INPUT: true; the input reads as it did. -/
def lawS2161CPlainSpec : ChangeSpec := { name := "lawS2161CPlain", fn := fun _ => fun
  | [d1, d2, d3, d4] => { results := [.lit (.bool true)], args := [d1, d2, d3, d4] }
  | _ => none }
def lawS2161CPlainRow : OpenClaim := { program := "ybulkarsqfmt", sum := "e9f1cc19c14072549f90b4d867feb36cf5ed954075f0f1ee0a887a4a2d411245", func := "example.com/orderly-gate/orderly-gate.LawS2161CPlain", spec := "lawS2161CPlain", stops := ["fmt.Sprintf"], inPlace := ["fmt.Sprintf"], apart := false }
/-- NO THEOREM (fmt's text is open here; it may be false): for the released tool's asking of the row's closed facts alone. THE STATEMENT IS 'LawS2161CPlainToldSaid' (YbulkarsqFmtCards.lean). -/
def LawS2161CPlainFormAsk : Prop := lawS2161CPlainRow.holds Ybaf.pinned (OpenSpec.ofChange lawS2161CPlainSpec)

/-- ITS FALSE NEIGHBOUR: 'it returns false'. Refute it at one input. -/
def lawS2161CPlainWrong : ChangeSpec := { name := "lawS2161CPlain", fn := fun _ => fun
  | [d1, d2, d3, d4] => { results := [.lit (.bool false)], args := [d1, d2, d3, d4] }
  | _ => none }
def LawS2161CPlainWrongFormAsk : Prop := lawS2161CPlainRow.holds Ybaf.pinned (OpenSpec.ofChange lawS2161CPlainWrong)

/-- 'orderly-gate.LawS2161CNameFree': WHATEVER THE INPUT: true; the input reads as it did. -/
def lawS2161CNameFreeSpec : ChangeSpec := { name := "lawS2161CNameFree", fn := fun _ => fun
  | [d1, d2, d3, d4, d5] => { results := [.lit (.bool true)], args := [d1, d2, d3, d4, d5] }
  | _ => none }
def lawS2161CNameFreeRow : OpenClaim := { program := "ybulkarsqfmt", sum := "e9f1cc19c14072549f90b4d867feb36cf5ed954075f0f1ee0a887a4a2d411245", func := "example.com/orderly-gate/orderly-gate.LawS2161CNameFree", spec := "lawS2161CNameFree", stops := ["fmt.Sprintf"], inPlace := ["fmt.Sprintf"], apart := false }
/-- NO THEOREM (fmt's text is open here; it may be false): for the released tool's asking of the row's closed facts alone. THE STATEMENT IS 'LawS2161CNameFreeToldSaid' (YbulkarsqFmtCards.lean). -/
def LawS2161CNameFreeFormAsk : Prop := lawS2161CNameFreeRow.holds Ybaf.pinned (OpenSpec.ofChange lawS2161CNameFreeSpec)

/-- ITS FALSE NEIGHBOUR: 'it returns false'. Refute it at one input. -/
def lawS2161CNameFreeWrong : ChangeSpec := { name := "lawS2161CNameFree", fn := fun _ => fun
  | [d1, d2, d3, d4, d5] => { results := [.lit (.bool false)], args := [d1, d2, d3, d4, d5] }
  | _ => none }
def LawS2161CNameFreeWrongFormAsk : Prop := lawS2161CNameFreeRow.holds Ybaf.pinned (OpenSpec.ofChange lawS2161CNameFreeWrong)

end Rows
end Go.Proofs.YbulkarsqFmt
