/-
  No cell of these rows narrows 'for every input' (looked for: loops, veiled, ifaces, maps, wideKeys, modest, calm, conditions, laid).
  DERIVED. THE GIVEN ROWS OF THIS SEAT. 3 by the template 'for every input the law returns true; each argument reads behind the call as it read before'; 0 by the template 'total and deterministic' (their statements: YbulkebgsTotals.lean).
  GIVEN WITH THE SEED: the statements are not yours to turn. If you find one false, say at which input.
  Laid BY PROGRAM, IN A SANDBOX (cutbox-rows.mjs): the forced cells as the released guide's own fill.sh prints them over the translation dc70a94aed660820… (all of the seat's roots in one cut). By AI agents, Wed Nov 11 2026. No macro, syntax, notation, axiom, sorry.
-/
import Derived.Test.YbulkebgsChecked
import GoSem.Claim
import GoSem.ClaimJoined
import GoSem.ClaimMapViews
import Derived.JoinedTies
import Derived.KernelRfl
namespace Go.Proofs.Ybulkebgs
/- THE CELL 'sum', in the pinned program and in every row, IS THE sha256 OF THE DUMP (.gsa) THAT YbulkebgsProg.lean LOADS. Nothing in Lean hashes anything: it is a label: what it is worth is what the hold of that sum in a sandbox is worth. -/
noncomputable def Yba.pinned : Pinned := { name := "ybulkebgs", sum := "dc70a94aed660820eeb6d45f39912df0b477ddc0e9141a7cb4caa08b07d78501", checked := Yba.checked }
namespace Rows
def none {H : Type} : Left H := { results := [], args := [] }

/-- 'tickwright.LawS6388AWhole': WHATEVER THE INPUT: true; the input reads as it did. -/
def lawS6388AWholeSpec : ChangeSpec := { name := "lawS6388AWhole", fn := fun _ => fun
  | [d] => { results := [.lit (.bool true)], args := [d] }
  | _ => none }
def lawS6388AWholeRow : OpenClaim := { program := "ybulkebgs", sum := "dc70a94aed660820eeb6d45f39912df0b477ddc0e9141a7cb4caa08b07d78501", func := "example.com/tickwright/tickwright.LawS6388AWhole", spec := "lawS6388AWhole", apart := false }
def LawS6388AWholeSaid : Prop := lawS6388AWholeRow.holds Yba.pinned (OpenSpec.ofChange lawS6388AWholeSpec)

/-- ITS FALSE NEIGHBOUR: 'it returns false'. Refute it at one input. -/
def lawS6388AWholeWrong : ChangeSpec := { name := "lawS6388AWhole", fn := fun _ => fun
  | [d] => { results := [.lit (.bool false)], args := [d] }
  | _ => none }
def LawS6388AWholeWrongFalsely : Prop := lawS6388AWholeRow.holds Yba.pinned (OpenSpec.ofChange lawS6388AWholeWrong)

/-- 'tickwright.LawS6388AIdem': WHATEVER THE INPUT: true; the input reads as it did. -/
def lawS6388AIdemSpec : ChangeSpec := { name := "lawS6388AIdem", fn := fun _ => fun
  | [d] => { results := [.lit (.bool true)], args := [d] }
  | _ => none }
def lawS6388AIdemRow : OpenClaim := { program := "ybulkebgs", sum := "dc70a94aed660820eeb6d45f39912df0b477ddc0e9141a7cb4caa08b07d78501", func := "example.com/tickwright/tickwright.LawS6388AIdem", spec := "lawS6388AIdem", apart := false }
def LawS6388AIdemSaid : Prop := lawS6388AIdemRow.holds Yba.pinned (OpenSpec.ofChange lawS6388AIdemSpec)

/-- ITS FALSE NEIGHBOUR: 'it returns false'. Refute it at one input. -/
def lawS6388AIdemWrong : ChangeSpec := { name := "lawS6388AIdem", fn := fun _ => fun
  | [d] => { results := [.lit (.bool false)], args := [d] }
  | _ => none }
def LawS6388AIdemWrongFalsely : Prop := lawS6388AIdemRow.holds Yba.pinned (OpenSpec.ofChange lawS6388AIdemWrong)

/-- 'tickwright.LawS6388BWhole': WHATEVER THE INPUT: true; the input reads as it did. -/
def lawS6388BWholeSpec : ChangeSpec := { name := "lawS6388BWhole", fn := fun _ => fun
  | [d1, d2] => { results := [.lit (.bool true)], args := [d1, d2] }
  | _ => none }
def lawS6388BWholeRow : OpenClaim := { program := "ybulkebgs", sum := "dc70a94aed660820eeb6d45f39912df0b477ddc0e9141a7cb4caa08b07d78501", func := "example.com/tickwright/tickwright.LawS6388BWhole", spec := "lawS6388BWhole", apart := false }
def LawS6388BWholeSaid : Prop := lawS6388BWholeRow.holds Yba.pinned (OpenSpec.ofChange lawS6388BWholeSpec)

/-- ITS FALSE NEIGHBOUR: 'it returns false'. Refute it at one input. -/
def lawS6388BWholeWrong : ChangeSpec := { name := "lawS6388BWhole", fn := fun _ => fun
  | [d1, d2] => { results := [.lit (.bool false)], args := [d1, d2] }
  | _ => none }
def LawS6388BWholeWrongFalsely : Prop := lawS6388BWholeRow.holds Yba.pinned (OpenSpec.ofChange lawS6388BWholeWrong)

end Rows
end Go.Proofs.Ybulkebgs
