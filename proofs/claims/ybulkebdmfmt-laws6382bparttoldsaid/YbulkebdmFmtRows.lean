/-
  NARROWER THAN 'FOR EVERY INPUT', by the rows' own cells (each row's printed sentence says how): LawS6382BPart: laid.
  DERIVED. THE GIVEN ROWS OF THIS SEAT. 1 by the template 'for every input the law returns true; each argument reads behind the call as it read before'; 0 by the template 'total and deterministic' (their statements: YbulkebdmFmtTotals.lean).
  GIVEN WITH THE SEED: the statements are not yours to turn. If you find one false, say at which input.
  Laid BY PROGRAM, IN A SANDBOX (cutbox-rows.mjs): the forced cells as the released guide's own fill.sh prints them over the translation 9720759fa117b9b1… (all of the seat's roots in one cut). By AI agents, Wed Nov 11 2026. No macro, syntax, notation, axiom, sorry.
-/
import Derived.Test.YbulkebdmFmtChecked
import GoSem.Claim
import GoSem.ClaimJoined
import GoSem.ClaimMapViews
import Derived.JoinedTies
import Derived.KernelRfl
namespace Go.Proofs.YbulkebdmFmt
/- THE CELL 'sum', in the pinned program and in every row, IS THE sha256 OF THE DUMP (.gsa) THAT YbulkebdmFmtProg.lean LOADS. Nothing in Lean hashes anything: it is a label: what it is worth is what the hold of that sum in a sandbox is worth. -/
noncomputable def Ybaf.pinned : Pinned := { name := "ybulkebdmfmt", sum := "9720759fa117b9b163f335b83c3a3d638caf72546d2dc6d80f5fc39a33669643", checked := Ybaf.checked }
namespace Rows
def none {H : Type} : Left H := { results := [], args := [] }

/- WHAT THE LISTED PACKAGE-LEVEL VARIABLES READ AS WHEN THE CALL BEGINS. Each datum BY PROGRAM (the guide's laid-datum.mjs) off the statement by which the dump's own 'gosem.cut.vars' lays the variable. In a bare row this is a premise. The card (YbulkebdmFmtCards.lean) ties it to the program's text. -/
def laid_example_com_riffle_riffle_operatorNames {H : Type} : DataW H := .agg [.lit (.string [61]), .lit (.string [60, 62]), .lit (.string [60]), .lit (.string [60, 61]), .lit (.string [62]), .lit (.string [62, 61])]

/-- 'riffle.LawS6382BPart': WHATEVER THE INPUT: true; the input reads as it did. -/
def lawS6382BPartSpec : ChangeSpec := { name := "lawS6382BPart", vars := ["example.com/riffle/riffle.operatorNames"], fn := fun _ => fun
  | [d, g1] => { results := [.lit (.bool true)], args := [d], vars := [g1] }
  | _ => none }
def lawS6382BPartRow : OpenClaim := { program := "ybulkebdmfmt", sum := "9720759fa117b9b163f335b83c3a3d638caf72546d2dc6d80f5fc39a33669643", func := "example.com/riffle/riffle.LawS6382BPart", spec := "lawS6382BPart", stops := ["fmt.Sprintf"], inPlace := ["fmt.Sprintf"], named := ["example.com/riffle/riffle.operatorNames"], apart := false, laid := [("example.com/riffle/riffle.operatorNames", laid_example_com_riffle_riffle_operatorNames)] }
/-- NO THEOREM (fmt's text is open here; it may be false): for the released tool's asking of the row's closed facts alone. THE STATEMENT IS 'LawS6382BPartToldSaid' (YbulkebdmFmtCards.lean). -/
def LawS6382BPartFormAsk : Prop := lawS6382BPartRow.holds Ybaf.pinned (OpenSpec.ofChange lawS6382BPartSpec)

/-- ITS FALSE NEIGHBOUR: 'it returns false'. Refute it at one input. -/
def lawS6382BPartWrong : ChangeSpec := { name := "lawS6382BPart", vars := ["example.com/riffle/riffle.operatorNames"], fn := fun _ => fun
  | [d, g1] => { results := [.lit (.bool false)], args := [d], vars := [g1] }
  | _ => none }
def LawS6382BPartWrongFormAsk : Prop := lawS6382BPartRow.holds Ybaf.pinned (OpenSpec.ofChange lawS6382BPartWrong)

end Rows
end Go.Proofs.YbulkebdmFmt
