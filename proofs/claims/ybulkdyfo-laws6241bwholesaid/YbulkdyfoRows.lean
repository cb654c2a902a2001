/-
  No cell of these rows narrows 'for every input' (looked for: loops, veiled, ifaces, maps, wideKeys, modest, calm, conditions, laid).
  DERIVED. THE GIVEN ROWS OF THIS SEAT. 3 by the template 'for every input the law returns true; each argument reads behind the call as it read before'; 0 by the template 'total and deterministic' (their statements: YbulkdyfoTotals.lean).
  GIVEN WITH THE SEED: the statements are not yours to turn. If you find one false, say at which input.
  Laid BY PROGRAM, IN A SANDBOX (cutbox-rows.mjs): the forced cells as the released guide's own fill.sh prints them over the translation 252516d1162e3ea2… (all of the seat's roots in one cut). By AI agents, Wed Nov 11 2026. No macro, syntax, notation, axiom, sorry.
-/
import Derived.Test.YbulkdyfoChecked
import GoSem.Claim
import GoSem.ClaimJoined
import GoSem.ClaimMapViews
import Derived.JoinedTies
import Derived.KernelRfl
namespace Go.Proofs.Ybulkdyfo
/- THE CELL 'sum', in the pinned program and in every row, IS THE sha256 OF THE DUMP (.gsa) THAT YbulkdyfoProg.lean LOADS. Nothing in Lean hashes anything: it is a label: what it is worth is what the hold of that sum in a sandbox is worth. -/
noncomputable def Yba.pinned : Pinned := { name := "ybulkdyfo", sum := "252516d1162e3ea27b24645921880710c10d5cff67b85e81b3a18186ff97a538", checked := Yba.checked }
namespace Rows
def none {H : Type} : Left H := { results := [], args := [] }

/-- 'delivery.LawS6241AWhole': WHATEVER THE INPUT: true; the input reads as it did. -/
def lawS6241AWholeSpec : ChangeSpec := { name := "lawS6241AWhole", fn := fun _ => fun
  | [d1, d2, d3, d4, d5, d6, d7] => { results := [.lit (.bool true)], args := [d1, d2, d3, d4, d5, d6, d7] }
  | _ => none }
def lawS6241AWholeRow : OpenClaim := { program := "ybulkdyfo", sum := "252516d1162e3ea27b24645921880710c10d5cff67b85e81b3a18186ff97a538", func := "example.com/anteroom/anteroom/internal/delivery.LawS6241AWhole", spec := "lawS6241AWhole", apart := false }
def LawS6241AWholeSaid : Prop := lawS6241AWholeRow.holds Yba.pinned (OpenSpec.ofChange lawS6241AWholeSpec)

/-- ITS FALSE NEIGHBOUR: 'it returns false'. Refute it at one input. -/
def lawS6241AWholeWrong : ChangeSpec := { name := "lawS6241AWhole", fn := fun _ => fun
  | [d1, d2, d3, d4, d5, d6, d7] => { results := [.lit (.bool false)], args := [d1, d2, d3, d4, d5, d6, d7] }
  | _ => none }
def LawS6241AWholeWrongFalsely : Prop := lawS6241AWholeRow.holds Yba.pinned (OpenSpec.ofChange lawS6241AWholeWrong)

/-- 'queue.LawS6241BWhole': WHATEVER THE INPUT: true; the input reads as it did. -/
def lawS6241BWholeSpec : ChangeSpec := { name := "lawS6241BWhole", fn := fun _ => fun
  | [d1, d2, d3] => { results := [.lit (.bool true)], args := [d1, d2, d3] }
  | _ => none }
def lawS6241BWholeRow : OpenClaim := { program := "ybulkdyfo", sum := "252516d1162e3ea27b24645921880710c10d5cff67b85e81b3a18186ff97a538", func := "example.com/anteroom/anteroom/internal/queue.LawS6241BWhole", spec := "lawS6241BWhole", apart := false }
def LawS6241BWholeSaid : Prop := lawS6241BWholeRow.holds Yba.pinned (OpenSpec.ofChange lawS6241BWholeSpec)

/-- ITS FALSE NEIGHBOUR: 'it returns false'. Refute it at one input. -/
def lawS6241BWholeWrong : ChangeSpec := { name := "lawS6241BWhole", fn := fun _ => fun
  | [d1, d2, d3] => { results := [.lit (.bool false)], args := [d1, d2, d3] }
  | _ => none }
def LawS6241BWholeWrongFalsely : Prop := lawS6241BWholeRow.holds Yba.pinned (OpenSpec.ofChange lawS6241BWholeWrong)

/-- 'delivery.LawS6241CWhole': WHATEVER THE INPUT: true; the input reads as it did. -/
def lawS6241CWholeSpec : ChangeSpec := { name := "lawS6241CWhole", fn := fun _ => fun
  | [d1, d2] => { results := [.lit (.bool true)], args := [d1, d2] }
  | _ => none }
def lawS6241CWholeRow : OpenClaim := { program := "ybulkdyfo", sum := "252516d1162e3ea27b24645921880710c10d5cff67b85e81b3a18186ff97a538", func := "example.com/anteroom/anteroom/internal/delivery.LawS6241CWhole", spec := "lawS6241CWhole", unfollowed := true, recurses := true, apart := false }
def LawS6241CWholeSaid : Prop := lawS6241CWholeRow.holds Yba.pinned (OpenSpec.ofChange lawS6241CWholeSpec)

/-- ITS FALSE NEIGHBOUR: 'it returns false'. Refute it at one input. -/
def lawS6241CWholeWrong : ChangeSpec := { name := "lawS6241CWhole", fn := fun _ => fun
  | [d1, d2] => { results := [.lit (.bool false)], args := [d1, d2] }
  | _ => none }
def LawS6241CWholeWrongFalsely : Prop := lawS6241CWholeRow.holds Yba.pinned (OpenSpec.ofChange lawS6241CWholeWrong)

end Rows
end Go.Proofs.Ybulkdyfo
