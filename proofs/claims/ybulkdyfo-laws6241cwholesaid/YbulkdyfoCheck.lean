import Derived.Test.YbulkdyfoCount
namespace Go.Proofs.Ybulkdyfo
open Go.RowKit

/-- What 'check' reads: the anteroom A, its rules R, its strands S and their four rows. -/
structure Reads (w : World) (A R S E L X K : Nat) : Prop where
  rules : w.cell? ⟨A, 0, none⟩ = some (.iface 66 (.pointer (some ⟨R, 0, none⟩)))
  strands : w.cell? ⟨A, 25, none⟩ = some (.pointer (some ⟨S, 0, none⟩))
  ended : w.cell? ⟨S, 0, none⟩ = some (.slice (some ⟨E, 0, none⟩) 3 3)
  left : w.cell? ⟨S, 1, none⟩ = some (.slice (some ⟨L, 0, none⟩) 3 3)
  earliest : w.cell? ⟨S, 5, none⟩ = some (.slice (some ⟨X, 0, none⟩) 3 3)
  stuck : w.cell? ⟨S, 6, none⟩ = some (.slice (some ⟨K, 0, none⟩) 3 3)

/-- Called at place j in world w, 'check' ends in such a world. -/
def ChecksTo (w : World) (A j : Nat) (Q : World → Prop) : Prop :=
  Calls Yba.prog 13 #[.pointer (some ⟨A, 0, none⟩), .int .i64 j] w fun e w' => e = .returned (.tuple #[]) ∧ Q w'

set_option maxHeartbeats 400000 in
theorem check_stuck (w : World) (A R S E L X K j : Nat) (hj : j < 3) (h : Reads w A R S E L X K) (hk : w.cell? ⟨K, j, none⟩ = some (.bool true)) :
    ChecksTo w A j fun w' => w' = w := by
  obtain ⟨_, h25, h0, h1, h5, h6⟩ := h
  unfold ChecksTo
  go_enter Yba.func13, Yba.ntmps13
  go_wp2
  (first | go_end0 | refine bodyPost_ret (results_none rfl _ _ _) rfl ?_)
  exact ⟨rfl, rfl⟩

set_option maxHeartbeats 400000 in
theorem check_ended (w : World) (A R S E L X K j : Nat) (hj : j < 3) (h : Reads w A R S E L X K) (hk : w.cell? ⟨K, j, none⟩ = some (.bool false)) (hf : w.frozen? ⟨K, j, none⟩ = false)
    (he : w.cell? ⟨E, j, none⟩ = some (.bool true)) (hl : w.cell? ⟨L, j, none⟩ = some (.int .i64 0)) :
    ChecksTo w A j fun w' => w' = w.setCell ⟨K, j, none⟩ (.bool true) := by
  obtain ⟨_, h25, h0, h1, h5, h6⟩ := h
  unfold ChecksTo
  go_enter Yba.func13, Yba.ntmps13
  go_wp2
  (first | go_end0 | refine bodyPost_ret (results_none rfl _ _ _) rfl ?_)
  exact ⟨rfl, rfl⟩

set_option maxHeartbeats 400000 in
theorem check_never (w : World) (A R S E L X K j : Nat) (en : Bool) (lf ow : Int) (hj : j < 3) (h : Reads w A R S E L X K) (hk : w.cell? ⟨K, j, none⟩ = some (.bool false)) 
    (he : w.cell? ⟨E, j, none⟩ = some (.bool en)) (hl : w.cell? ⟨L, j, none⟩ = some (.int .i64 lf)) (hne : en = false ∨ (lf == 0) = false)
    (hx0 : w.cell? ⟨X, j * 2, none⟩ = some (.int .i64 9223372036854775807)) (hx1 : w.cell? ⟨X, j * 2 + 1, none⟩ = some (.int .i64 ow)) :
    ChecksTo w A j fun w' => ∃ o n, w' = (w.alloc o).drewN n := by
  obtain ⟨_, h25, h0, h1, h5, h6⟩ := h
  unfold ChecksTo
  cases en
  · clear hne
    go_enter Yba.func13, Yba.ntmps13
    go_wp2
    go_quiet (fail)
    go_wp2
    (first | go_end0 | refine bodyPost_ret (results_none rfl _ _ _) rfl ?_)
    exact ⟨rfl, _, _, rfl⟩
  · replace hne : (lf == 0) = false := by simpa using hne
    go_enter Yba.func13, Yba.ntmps13
    go_wp2
    go_quiet (fail)
    go_wp2
    (first | go_end0 | refine bodyPost_ret (results_none rfl _ _ _) rfl ?_)
    exact ⟨rfl, _, _, rfl⟩
end Go.Proofs.Ybulkdyfo
