/-
  No cell of these rows narrows 'for every input' (looked for: loops, veiled, ifaces, maps, wideKeys, modest, calm, conditions, laid).
  DERIVED. THE GIVEN ROWS OF THIS SEAT. 2 by the template 'for every input the law returns true; each argument reads behind the call as it read before'; 0 by the template 'total and deterministic' (their statements: YbulkebfqTotals.lean).
  GIVEN WITH THE SEED: the statements are not yours to turn. If you find one false, say at which input.
  Laid BY PROGRAM, IN A SANDBOX (cutbox-rows.mjs): the forced cells as the released guide's own fill.sh prints them over the translation c494e4520af9bf9f… (all of the seat's roots in one cut). By AI agents, Wed Nov 11 2026. No macro, syntax, notation, axiom, sorry.
-/
import Derived.Test.YbulkebfqChecked
import GoSem.Claim
import GoSem.ClaimJoined
import GoSem.ClaimMapViews
import Derived.JoinedTies
import Derived.KernelRfl
namespace Go.Proofs.Ybulkebfq
/- THE CELL 'sum', in the pinned program and in every row, IS THE sha256 OF THE DUMP (.gsa) THAT YbulkebfqProg.lean LOADS. Nothing in Lean hashes anything: it is a label: what it is worth is what the hold of that sum in a sandbox is worth. -/
noncomputable def Yba.pinned : Pinned := { name := "ybulkebfq", sum := "c494e4520af9bf9fbdd24846f26a58d1c27527438df487d5804aff2930732e85", checked := Yba.checked }
namespace Rows
def none {H : Type} : Left H := { results := [], args := [] }

/-- 'holdfast.LawS6386AWhole': WHATEVER THE INPUT: true; the input reads as it did. -/
def lawS6386AWholeSpec : ChangeSpec := { name := "lawS6386AWhole", fn := fun _ => fun
  | [d1, d2, d3] => { results := [.lit (.bool true)], args := [d1, d2, d3] }
  | _ => none }
def lawS6386AWholeRow : OpenClaim := { program := "ybulkebfq", sum := "c494e4520af9bf9fbdd24846f26a58d1c27527438df487d5804aff2930732e85", func := "example.com/holdfast/holdfast.LawS6386AWhole", spec := "lawS6386AWhole", plainKeys := false, apart := false }
def LawS6386AWholeSaid : Prop := lawS6386AWholeRow.holds Yba.pinned (OpenSpec.ofChange lawS6386AWholeSpec)

/-- ITS FALSE NEIGHBOUR: 'it returns false'. Refute it at one input. -/
def lawS6386AWholeWrong : ChangeSpec := { name := "lawS6386AWhole", fn := fun _ => fun
  | [d1, d2, d3] => { results := [.lit (.bool false)], args := [d1, d2, d3] }
  | _ => none }
def LawS6386AWholeWrongFalsely : Prop := lawS6386AWholeRow.holds Yba.pinned (OpenSpec.ofChange lawS6386AWholeWrong)

/-- 'forensics.LawS6386CWhole': WHATEVER THE INPUT: true; the input reads as it did. -/
def lawS6386CWholeSpec : ChangeSpec := { name := "lawS6386CWhole", fn := fun _ => fun
  | [d1, d2, d3, d4, d5, d6, d7, d8, d9, d10, d11] => { results := [.lit (.bool true)], args := [d1, d2, d3, d4, d5, d6, d7, d8, d9, d10, d11] }
  | _ => none }
def lawS6386CWholeRow : OpenClaim := { program := "ybulkebfq", sum := "c494e4520af9bf9fbdd24846f26a58d1c27527438df487d5804aff2930732e85", func := "example.com/holdfast/holdfast/forensics.LawS6386CWhole", spec := "lawS6386CWhole", plainKeys := false, apart := false }
def LawS6386CWholeSaid : Prop := lawS6386CWholeRow.holds Yba.pinned (OpenSpec.ofChange lawS6386CWholeSpec)

/-- ITS FALSE NEIGHBOUR: 'it returns false'. Refute it at one input. -/
def lawS6386CWholeWrong : ChangeSpec := { name := "lawS6386CWhole", fn := fun _ => fun
  | [d1, d2, d3, d4, d5, d6, d7, d8, d9, d10, d11] => { results := [.lit (.bool false)], args := [d1, d2, d3, d4, d5, d6, d7, d8, d9, d10, d11] }
  | _ => none }
def LawS6386CWholeWrongFalsely : Prop := lawS6386CWholeRow.holds Yba.pinned (OpenSpec.ofChange lawS6386CWholeWrong)

end Rows
end Go.Proofs.Ybulkebfq
