import Derived.Test.YbulkdyfoQueue
import Derived.Laws.StructEq
namespace Go.Proofs.Ybulkdyfo
open Go.RowKit

theorem Yba.fields59 : Yba.prog.underlying 59 = some (.struct (Yba.prog.fieldsOf 59)) := by kernel_rfl
theorem Yba.stood59 : Yba.prog.stoodInHeld 59 = false := by kernel_rfl
theorem Yba.guard59 : Yba.prog.eqGuardType Yba.prog.depth 59 = false := by kernel_rfl
theorem Yba.list59 : ((Yba.prog.fieldsOf 59).toList.map (fun f => (decide (f.name = "_"), f.type, f.offset))) = [(false, 2, 0), (false, 2, 1), (false, 3, 2)] := by kernel_rfl

theorem three {α : Type} (l : List α) (h : l.length = 3) : ∃ a b c, l = [a, b, c] := by
  cases l with
  | nil => simp at h
  | cons a l =>
    cases l with
    | nil => simp at h
    | cons b l =>
      cases l with
      | nil => simp at h
      | cons c l =>
        cases l with
        | nil => exact ⟨a, b, c, rfl⟩
        | cons d l => simp at h

theorem items_eq (a b c : Int) (u : World) : (Op.equalIn 10000 59 (.agg #[.int .i64 a, .int .i64 b, .int .i64 c]) (.agg #[.int .i64 a, .int .i64 b, .int .i64 c])).run Yba.prog u = .ok true u := by
  rw [show (10000 : Nat) = 9999 + 1 from rfl, run_equalIn_struct u 9999 59 _ _ Yba.fields59 Yba.stood59]
  have hl := Yba.list59
  generalize (Yba.prog.fieldsOf 59).toList = fs at hl
  obtain ⟨f0, f1, f2, rfl⟩ : ∃ f0 f1 f2, fs = [f0, f1, f2] := three _ (by simpa using congrArg List.length hl)
  simp at hl
  obtain ⟨⟨n0, t0, o0⟩, ⟨n1, t1, o1⟩, ⟨n2, t2, o2⟩⟩ := hl
  have e1 := run_equalIn_int (P := Yba.prog) u 9998 2 .i64 .i64 a a Yba.underlying2
  have e2 := run_equalIn_int (P := Yba.prog) u 9998 2 .i64 .i64 b b Yba.underlying2
  have e3 := run_equalIn_int (P := Yba.prog) u 9998 3 .i64 .i64 c c Yba.underlying3
  simp only [Nat.reduceAdd, beq_self_eq_true] at e1 e2 e3
  simp [Op.eqFields, n0, n1, n2, t0, t1, t2, o0, o1, o2, part, e1, e2, e3]

end Go.Proofs.Ybulkdyfo
