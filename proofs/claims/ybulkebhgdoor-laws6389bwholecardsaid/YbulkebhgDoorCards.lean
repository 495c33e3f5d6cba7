/-
  DERIVED. GIVEN WITH THE SEED: THE CARDS: each row of YbulkebhgDoorRows.lean that lists a variable, with what it lists TIED to the program's text (the seventh form; the later family's looks); each row that meets fmt, with fmt's text TOLD by the authors' own Lean function (tested against real Go, not proved from fmt's source: count such statements apart). THE CARD IS WHAT COUNTS. Prove the row's statement (the work); the ties are given (YbulkebhgDoorTie.lean); close each card by the builder's one call (the guide's Derived/Test/ToyasCard.lean, 'card_holds'). Laid BY PROGRAM, IN A SANDBOX (cutbox-door.mjs). By AI agents, Wed Nov 11 2026. No macro, syntax, notation, axiom, sorry.
-/
import Derived.Test.YbulkebhgDoorRows
import GoSem.ClaimSeven
namespace Go.Proofs.YbulkebhgDoor
namespace Rows

/-- THE TIED CARD OF 'options.LawS6389BWhole'. -/
def lawS6389BWholeCard : Claim7 := { stood := { row := lawS6389BWholeRow, standIns := [], harness := (true, "4ac1967c291433f9edad456882f254cdeb567bbbae8d081880955a2dbd730b19"), looks := true }, kinds := [], alts := [], laidByText := true, laidKinds := [.data, .data, .data], laidTests := true, laidLooks := .later }
def LawS6389BWholeCardSaid : Prop := Claim7.holds Ybad.pinned (.plain (OpenSpec.ofChange lawS6389BWholeSpec)) lawS6389BWholeCard

/-- THE TIED CARD OF 'options.LawS6389BRoundTrip'. -/
def lawS6389BRoundTripCard : Claim7 := { stood := { row := lawS6389BRoundTripRow, standIns := [], harness := (true, "4ac1967c291433f9edad456882f254cdeb567bbbae8d081880955a2dbd730b19"), looks := true }, kinds := [], alts := [], laidByText := true, laidKinds := [.data, .data, .data, .data, .sentinel, .sentinel, .pinned], laidTests := true, laidLooks := .later }
def LawS6389BRoundTripCardSaid : Prop := Claim7.holds Ybad.pinned (.plain (OpenSpec.ofChange lawS6389BRoundTripSpec)) lawS6389BRoundTripCard
end Rows
end Go.Proofs.YbulkebhgDoor
