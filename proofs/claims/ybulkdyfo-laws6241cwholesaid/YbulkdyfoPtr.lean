import Derived.Test.YbulkdyfoCheck3
import Derived.LaidEql
namespace Go.Proofs.Ybulkdyfo
theorem Yba.size74 : (Yba.prog.info? 74).map (·.size) = some 12 := by kernel_rfl

/-- A pointer to the strands is not unlike itself. -/
theorem neq46 (b : Nat) (w : World) : (binOp .neq 46 (.pointer (some ⟨b, 0, none⟩)) (.pointer (some ⟨b, 0, none⟩))).run Yba.prog w = .ok (.bool false) w := by
  obtain ⟨i, hi, _⟩ := Option.map_eq_some_iff.1 Yba.size74
  have h : ∀ d : Nat, (Op.equalIn (d + 1) 46 (.pointer (some ⟨b, 0, none⟩)) (.pointer (some ⟨b, 0, none⟩))).run Yba.prog w = .ok true w := fun d => by
    simp [Op.equalIn, run_underlying Yba.underlying46, sizeOf, typeInfo, hi, sameAddr]
  simp only [binOp]
  simp [Op.equal, Op.maxDepth, h 9999]
end Go.Proofs.Ybulkdyfo
