/-
  The tables that the two rows list: the door's own heap meets the condition; what the condition gives the walks.
-/
import Derived.Test.YbulkdyciDoorRows
import Derived.Test.YbulkdyciDoorZeros
import Derived.ProofKit
import Derived.LaidMore
import Derived.Stop.Joined
import Derived.Lib.LaidTab
namespace Go.Proofs.YbulkdyciDoor
open Go.ChangeShapes Go.WideShapes Go.ChangeAt Go.RowKit

theorem Ybad.own : ownKnob Ybad.prog.godebug = none := by kernel_rfl

/-- The door's own heap meets the condition. -/
theorem door_met (os : Os) (args : Array Value) : laidMetH Ybad.prog Rows.lawS6235CWholeRow.laid ((World.doorLaid Ybad.prog 19 os).forCall (fun _ _ => 0) ⟨#[], args, []⟩).memory :=
  laidMetH_of_parts3 (fuel := 8) (laidMet_of_run' 8 (by kernel_rfl) (by kernel_rfl)) (by kernel_rfl) (by kernel_rfl)

theorem tab64_is {H : Type} : (Rows.laid_math_bits_deBruijn64tab : DataW H) = Lib.tabData .u8 (Lib.deBruijn64tab.map fun (n : Nat) => (n : Int)) := rfl

/-- What the condition gives the walk: the second table's cells. -/
theorem of_laid {W : World} (h : laidMetH Ybad.prog Rows.lawS6235CWholeRow.laid W) : TabAt 1 Lib.deBruijn64tab W := by
  rw [MakeChecks.laidMetH_plain _ _ _ (by kernel_rfl)] at h
  obtain ⟨ps, ⟨g0, t0, cs0, f0, p0, q0, hg0, ht0, hv0, hd0, ⟨g1, t1, cs1, f1, p1, q1, hg1, ht1, hv1, hd1, _, _⟩, _⟩, _, _⟩ := h
  obtain rfl := Option.some.inj ((show Ybad.prog.globalNamed _ = some 1 by kernel_rfl).symm.trans hg1)
  obtain rfl := Option.some.inj ((show (Ybad.prog.globals[1]?).map (·.type) = some 34 by kernel_rfl).symm.trans ht1)
  rw [tab64_is] at hd1
  have hcs := Lib.cells_of_tab Ybad.underlying34 Ybad.underlying5 (by kernel_rfl) (by kernel_rfl) hd1
  have hcs' : cs1 = (List.map (fun z => Value.int .u8 z) (Lib.deBruijn64tab.map fun (n : Nat) => (n : Int))).toArray := by rw [← hcs]
  intro j hj
  rw [World.var?_cell hg1 hv1 j, hcs']
  simp [List.getElem?_eq_getElem hj, List.getD]

end Go.Proofs.YbulkdyciDoor
