import Derived.Test.YbulkdyfoRows
import Derived.Test.YbulkdyfoHeap
import Derived.Deep.QuietTactic
import Derived.BigQuiet
namespace Go.Proofs.Ybulkdyfo
open Go.RowKit

/-- An item of a queue: its key, its order, its value. -/
structure Itm where
  key : Int
  order : Int
  value : Int

/-- a comes before b. -/
def ltI (a b : Itm) : Bool := decide (a.key < b.key) || (a.key == b.key && decide (a.order < b.order))

set_option maxHeartbeats 400000 in
theorem before_any (ba oa bb ob : Nat) (x y : Itm) (w : World) (a0 : w.cell? ⟨ba, oa, none⟩ = some (.int .i64 x.key)) (a1 : w.cell? ⟨ba, oa + 1, none⟩ = some (.int .i64 x.order))
    (b0 : w.cell? ⟨bb, ob, none⟩ = some (.int .i64 y.key)) (b1 : w.cell? ⟨bb, ob + 1, none⟩ = some (.int .i64 y.order)) :
    Calls Yba.prog 15 #[.pointer (some ⟨ba, oa, none⟩), .pointer (some ⟨bb, ob, none⟩)] w fun e w' => e = .returned (.bool (ltI x y)) ∧ ∃ n, w' = w.drewN n := by
  obtain ⟨k1, o1, v1⟩ := x
  obtain ⟨k2, o2, v2⟩ := y
  simp only at a0 a1 b0 b1
  by_cases h1 : k1 < k2
  · have e : ltI ⟨k1, o1, v1⟩ ⟨k2, o2, v2⟩ = true := by simp [ltI, h1]
    rw [e]
    clear e
    go_enter Yba.func15, Yba.ntmps15
    go_wp2
    go_quiet (fail)
    go_wp2
    go_ret
    exact ⟨rfl, _, rfl⟩
  · have d1 : decide (k1 < k2) = false := by simpa using h1
    by_cases h2 : k1 = k2
    · subst h2
      have d2 : (k1 == k1) = true := by simp
      have e : ltI ⟨k1, o1, v1⟩ ⟨k1, o2, v2⟩ = decide (o1 < o2) := by simp [ltI]
      rw [e]
      clear e
      go_enter Yba.func15, Yba.ntmps15
      go_wp2
      go_quiet (fail)
      go_wp2
      go_ret
      exact ⟨rfl, _, rfl⟩
    · have d2 : (k1 == k2) = false := by simpa using h2
      have e : ltI ⟨k1, o1, v1⟩ ⟨k2, o2, v2⟩ = false := by simp [ltI, h1, h2]
      rw [e]
      clear e
      go_enter Yba.func15, Yba.ntmps15
      go_wp2
      go_quiet (fail)
      go_wp2
      go_ret
      exact ⟨rfl, _, rfl⟩
end Go.Proofs.Ybulkdyfo
