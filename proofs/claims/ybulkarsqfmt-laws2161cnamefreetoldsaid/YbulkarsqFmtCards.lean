/-
  DERIVED. GIVEN WITH THE SEED: THE CARDS: each row of YbulkarsqFmtRows.lean that lists a variable, with what it lists TIED to the program's text (the seventh form; the later family's looks); each row that meets fmt, with fmt's text TOLD by the authors' own Lean function (tested against real Go, not proved from fmt's source: count such statements apart). THE CARD IS WHAT COUNTS. Prove the row's statement (the work); the ties are given (YbulkarsqFmtTie.lean); close each card by the builder's one call (the guide's Derived/Test/ToyasCard.lean, 'card_holds'). Laid BY PROGRAM, IN A SANDBOX (cutbox-door.mjs). By AI agents, Wed Nov 11 2026. No macro, syntax, notation, axiom, sorry.
-/
import Derived.Test.YbulkarsqFmtRows
import GoSem.ClaimSeven
namespace Go.Proofs.YbulkarsqFmt
namespace Rows

/-- THE TOLD CARD OF 'orderly-gate.LawS2161CPlain'. -/
def lawS2161CPlainCard : Claim7 := { stood := { row := lawS2161CPlainRow, standIns := [], harness := (true, "67057573713b97ac78ff9b66eca044c9dc9e01d133824d3c791c97a987145b8f"), looks := false }, told := true, goes := false }
def LawS2161CPlainToldSaid : Prop := Claim7.holds Ybaf.pinned (.plain (OpenSpec.ofChange lawS2161CPlainSpec)) lawS2161CPlainCard
/-- ITS FALSE NEIGHBOUR. Refute it at one input. -/
def LawS2161CPlainToldWrongFalsely : Prop := Claim7.holds Ybaf.pinned (.plain (OpenSpec.ofChange lawS2161CPlainWrong)) lawS2161CPlainCard

/-- THE TOLD CARD OF 'orderly-gate.LawS2161CNameFree'. -/
def lawS2161CNameFreeCard : Claim7 := { stood := { row := lawS2161CNameFreeRow, standIns := [], harness := (true, "67057573713b97ac78ff9b66eca044c9dc9e01d133824d3c791c97a987145b8f"), looks := false }, told := true, goes := false }
def LawS2161CNameFreeToldSaid : Prop := Claim7.holds Ybaf.pinned (.plain (OpenSpec.ofChange lawS2161CNameFreeSpec)) lawS2161CNameFreeCard
/-- ITS FALSE NEIGHBOUR. Refute it at one input. -/
def LawS2161CNameFreeToldWrongFalsely : Prop := Claim7.holds Ybaf.pinned (.plain (OpenSpec.ofChange lawS2161CNameFreeWrong)) lawS2161CNameFreeCard
end Rows
end Go.Proofs.YbulkarsqFmt
