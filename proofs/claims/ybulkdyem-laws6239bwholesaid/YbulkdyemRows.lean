/-
  No cell of these rows narrows 'for every input' (looked for: loops, veiled, ifaces, maps, wideKeys, modest, calm, conditions, laid).
  DERIVED. THE GIVEN ROWS OF THIS SEAT. 2 by the template 'for every input the law returns true; each argument reads behind the call as it read before'; 0 by the template 'total and deterministic' (their statements: YbulkdyemTotals.lean).
  GIVEN WITH THE SEED: the statements are not yours to turn. If you find one false, say at which input.
  Laid BY PROGRAM, IN A SANDBOX (cutbox-rows.mjs): the forced cells as the released guide's own fill.sh prints them over the translation 88c879e5a5cb9776… (all of the seat's roots in one cut). By AI agents, Wed Nov 11 2026. No macro, syntax, notation, axiom, sorry.
-/
import Derived.Test.YbulkdyemChecked
import GoSem.Claim
import GoSem.ClaimJoined
import GoSem.ClaimMapViews
import Derived.JoinedTies
import Derived.KernelRfl
namespace Go.Proofs.Ybulkdyem
/- THE CELL 'sum', in the pinned program and in every row, IS THE sha256 OF THE DUMP (.gsa) THAT YbulkdyemProg.lean LOADS. Nothing in Lean hashes anything: it is a label: what it is worth is what the hold of that sum in a sandbox is worth. -/
noncomputable def Yba.pinned : Pinned := { name := "ybulkdyem", sum := "88c879e5a5cb97760b9cdd04b238d10a1294796395a2378122febb76963eb9f5", checked := Yba.checked }
namespace Rows
def none {H : Type} : Left H := { results := [], args := [] }

/-- 'engine.LawS6239BWhole': WHATEVER THE INPUT: true; the input reads as it did. -/
def lawS6239BWholeSpec : ChangeSpec := { name := "lawS6239BWhole", fn := fun _ => fun
  | [d] => { results := [.lit (.bool true)], args := [d] }
  | _ => none }
def lawS6239BWholeRow : OpenClaim := { program := "ybulkdyem", sum := "88c879e5a5cb97760b9cdd04b238d10a1294796395a2378122febb76963eb9f5", func := "example.com/shardwright/shardwright/internal/engine.LawS6239BWhole", spec := "lawS6239BWhole", apart := false }
def LawS6239BWholeSaid : Prop := lawS6239BWholeRow.holds Yba.pinned (OpenSpec.ofChange lawS6239BWholeSpec)

/-- ITS FALSE NEIGHBOUR: 'it returns false'. Refute it at one input. -/
def lawS6239BWholeWrong : ChangeSpec := { name := "lawS6239BWhole", fn := fun _ => fun
  | [d] => { results := [.lit (.bool false)], args := [d] }
  | _ => none }
def LawS6239BWholeWrongFalsely : Prop := lawS6239BWholeRow.holds Yba.pinned (OpenSpec.ofChange lawS6239BWholeWrong)

/-- 'sqltext.LawS6239CWhole': WHATEVER THE INPUT: true; the input reads as it did. -/
def lawS6239CWholeSpec : ChangeSpec := { name := "lawS6239CWhole", fn := fun _ => fun
  | [d1, d2, d3, d4, d5] => { results := [.lit (.bool true)], args := [d1, d2, d3, d4, d5] }
  | _ => none }
def lawS6239CWholeRow : OpenClaim := { program := "ybulkdyem", sum := "88c879e5a5cb97760b9cdd04b238d10a1294796395a2378122febb76963eb9f5", func := "example.com/shardwright/shardwright/internal/sqltext.LawS6239CWhole", spec := "lawS6239CWhole", apart := false }
def LawS6239CWholeSaid : Prop := lawS6239CWholeRow.holds Yba.pinned (OpenSpec.ofChange lawS6239CWholeSpec)

/-- ITS FALSE NEIGHBOUR: 'it returns false'. Refute it at one input. -/
def lawS6239CWholeWrong : ChangeSpec := { name := "lawS6239CWhole", fn := fun _ => fun
  | [d1, d2, d3, d4, d5] => { results := [.lit (.bool false)], args := [d1, d2, d3, d4, d5] }
  | _ => none }
def LawS6239CWholeWrongFalsely : Prop := lawS6239CWholeRow.holds Yba.pinned (OpenSpec.ofChange lawS6239CWholeWrong)

end Rows
end Go.Proofs.Ybulkdyem
