/-
  No cell of these rows narrows 'for every input' (looked for: loops, veiled, ifaces, maps, wideKeys, modest, calm, conditions, laid).
  DERIVED. THE GIVEN ROWS OF THIS SEAT. 1 by the template 'for every input the law returns true; each argument reads behind the call as it read before'; 0 by the template 'total and deterministic' (their statements: YbulkdyciTotals.lean).
  GIVEN WITH THE SEED: the statements are not yours to turn. If you find one false, say at which input.
  Laid BY PROGRAM, IN A SANDBOX (cutbox-rows.mjs): the forced cells as the released guide's own fill.sh prints them over the translation ef765ae498d4c1ad… (all of the seat's roots in one cut). By AI agents, Wed Nov 11 2026. No macro, syntax, notation, axiom, sorry.
-/
import Derived.Test.YbulkdyciChecked
import GoSem.Claim
import GoSem.ClaimJoined
import GoSem.ClaimMapViews
import Derived.JoinedTies
import Derived.KernelRfl
namespace Go.Proofs.Ybulkdyci
/- THE CELL 'sum', in the pinned program and in every row, IS THE sha256 OF THE DUMP (.gsa) THAT YbulkdyciProg.lean LOADS. Nothing in Lean hashes anything: it is a label: what it is worth is what the hold of that sum in a sandbox is worth. -/
noncomputable def Yba.pinned : Pinned := { name := "ybulkdyci", sum := "ef765ae498d4c1ad3d4a5fe1409e7bdce40343140f5d178052369a61474e8b24", checked := Yba.checked }
namespace Rows
def none {H : Type} : Left H := { results := [], args := [] }

/-- 'peelwise.LawS6235BWhole': WHATEVER THE INPUT: true; the input reads as it did. -/
def lawS6235BWholeSpec : ChangeSpec := { name := "lawS6235BWhole", fn := fun _ => fun
  | [d1, d2, d3, d4, d5, d6] => { results := [.lit (.bool true)], args := [d1, d2, d3, d4, d5, d6] }
  | _ => none }
def lawS6235BWholeRow : OpenClaim := { program := "ybulkdyci", sum := "ef765ae498d4c1ad3d4a5fe1409e7bdce40343140f5d178052369a61474e8b24", func := "example.com/peelwise/peelwise.LawS6235BWhole", spec := "lawS6235BWhole", apart := false }
def LawS6235BWholeSaid : Prop := lawS6235BWholeRow.holds Yba.pinned (OpenSpec.ofChange lawS6235BWholeSpec)

/-- ITS FALSE NEIGHBOUR: 'it returns false'. Refute it at one input. -/
def lawS6235BWholeWrong : ChangeSpec := { name := "lawS6235BWhole", fn := fun _ => fun
  | [d1, d2, d3, d4, d5, d6] => { results := [.lit (.bool false)], args := [d1, d2, d3, d4, d5, d6] }
  | _ => none }
def LawS6235BWholeWrongFalsely : Prop := lawS6235BWholeRow.holds Yba.pinned (OpenSpec.ofChange lawS6235BWholeWrong)

end Rows
end Go.Proofs.Ybulkdyci
