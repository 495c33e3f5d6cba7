/-
  DERIVED. GIVEN WITH THE SEED: THE CARDS: each row of YbulkebdmFmtRows.lean that lists a variable, with what it lists TIED to the program's text (the seventh form; the later family's looks); each row that meets fmt, with fmt's text TOLD by the authors' own Lean function (tested against real Go, not proved from fmt's source: count such statements apart). THE CARD IS WHAT COUNTS. Prove the row's statement (the work); the ties are given (YbulkebdmFmtTie.lean); close each card by the builder's one call (the guide's Derived/Test/ToyasCard.lean, 'card_holds'). Laid BY PROGRAM, IN A SANDBOX (cutbox-door.mjs). By AI agents, Wed Nov 11 2026. No macro, syntax, notation, axiom, sorry.
-/
import Derived.Test.YbulkebdmFmtRows
import GoSem.ClaimSeven
namespace Go.Proofs.YbulkebdmFmt
namespace Rows

/-- THE TOLD AND TIED CARD OF 'riffle.LawS6382BPart'. -/
def lawS6382BPartCard : Claim7 := { stood := { row := lawS6382BPartRow, standIns := [], harness := (true, "e45962e689c5371c3715ff1389c5ac367856736e487b473582d9feb13d59bf8e"), looks := false }, told := true, laidByText := true, laidKinds := [.widerDeep], laidTests := true, laidLooks := .later, goes := false }
def LawS6382BPartToldSaid : Prop := Claim7.holds Ybaf.pinned (.plain (OpenSpec.ofChange lawS6382BPartSpec)) lawS6382BPartCard
/-- ITS FALSE NEIGHBOUR. Refute it at one input. -/
def LawS6382BPartToldWrongFalsely : Prop := Claim7.holds Ybaf.pinned (.plain (OpenSpec.ofChange lawS6382BPartWrong)) lawS6382BPartCard
end Rows
end Go.Proofs.YbulkebdmFmt
