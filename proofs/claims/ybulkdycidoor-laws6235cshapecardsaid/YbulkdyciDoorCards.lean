/-
  DERIVED. GIVEN WITH THE SEED: THE CARDS: each row of YbulkdyciDoorRows.lean that lists a variable, with what it lists TIED to the program's text (the seventh form; the later family's looks); each row that meets fmt, with fmt's text TOLD by the authors' own Lean function (tested against real Go, not proved from fmt's source: count such statements apart). THE CARD IS WHAT COUNTS. Prove the row's statement (the work); the ties are given (YbulkdyciDoorTie.lean); close each card by the builder's one call (the guide's Derived/Test/ToyasCard.lean, 'card_holds'). Laid BY PROGRAM, IN A SANDBOX (cutbox-door.mjs). By AI agents, Wed Nov 11 2026. No macro, syntax, notation, axiom, sorry.
-/
import Derived.Test.YbulkdyciDoorRows
import GoSem.ClaimSeven
namespace Go.Proofs.YbulkdyciDoor
namespace Rows

/-- THE TIED CARD OF 'peelwise.LawS6235CWhole'. -/
def lawS6235CWholeCard : Claim7 := { stood := { row := lawS6235CWholeRow, standIns := [], harness := (true, "55788a0c49c7cfc7f548988888db5ddb2f6962375dba446a80aa8fb14e06c828"), looks := false }, kinds := [], alts := [], laidByText := true, laidKinds := [.data, .data], laidTests := true, laidLooks := .later }
def LawS6235CWholeCardSaid : Prop := Claim7.holds Ybad.pinned (.plain (OpenSpec.ofChange lawS6235CWholeSpec)) lawS6235CWholeCard

/-- THE TIED CARD OF 'peelwise.LawS6235CShape'. -/
def lawS6235CShapeCard : Claim7 := { stood := { row := lawS6235CShapeRow, standIns := [], harness := (true, "55788a0c49c7cfc7f548988888db5ddb2f6962375dba446a80aa8fb14e06c828"), looks := false }, kinds := [], alts := [], laidByText := true, laidKinds := [.data, .data], laidTests := true, laidLooks := .later }
def LawS6235CShapeCardSaid : Prop := Claim7.holds Ybad.pinned (.plain (OpenSpec.ofChange lawS6235CShapeSpec)) lawS6235CShapeCard
end Rows
end Go.Proofs.YbulkdyciDoor
