/-
  LawS6239BWhole: the walk at whatever slice, and the row.
-/
import Derived.Test.YbulkdyemLawB1
import Derived.ProofKit
import Derived.OpenShut
namespace Go.Proofs.Ybulkdyem
open Go.ChangeShapes Go.WideShapes Go.ChangeAt Go.RowKit

theorem Yba.ownB : ownKnob Yba.prog.godebug = none := by kernel_rfl
theorem Yba.laidOutB : laidOutB Yba.prog = true := by kernel_rfl

/-- A slice of strings, as the walks ask for it. -/
def IsStrs (w : World) (ao : Option Addr) (len cap : Nat) : Prop :=
  (ao = none ∧ len = 0 ∧ cap = 0) ∨
  ∃ (a : Addr) (ss : List ByteArray), ao = some a ∧ len ≤ cap ∧ cap ≤ maxLen ∧ ss.length = cap ∧ ∀ i, i < ss.length → w.cell? (a.add i) = some (.string (ss.getD i ByteArray.empty))

theorem warnWalk (ao : Option Addr) (len cap : Nat) (w : World) (h : IsStrs w ao len cap) :
    Calls Yba.prog 3 #[.slice ao len cap] w fun e w' => e = .returned (.bool true) ∧ Below w.heap.size w w' := by
  rcases h with ⟨rfl, rfl, rfl⟩ | ⟨a, ss, rfl, hl, hm, hs, hc⟩
  · exact law_nil w
  · unfold maxLen at hm
    by_cases hlong : 1048576 < len
    · exact law_long _ len cap w hlong (by omega)
    · by_cases h0 : len = 0
      · subst h0
        exact law_empty a cap w
      · obtain ⟨b, off, spot⟩ := a
        have c0 := hc 0 (by omega)
        have hspot : spot = none := by simpa [Addr.add] using World.cell?_spot c0
        subst hspot
        have hcell : ∀ k, k < len → w.cell? ⟨b, off + k, none⟩ = some (.string ((ss.take len).getD k ByteArray.empty)) := by
          intro k hk
          have := hc k (by omega)
          rw [Go.WideShapes.add_plain] at this
          rw [this]
          simp [List.getD, hk]
        have hb : b < w.heap.size := World.block_lt_of_cell? w _ (hcell 0 (by omega))
        exact law_some b off len cap (ss.take len) w (by simp; omega) (by omega) (by omega) hb hcell

set_option maxRecDepth 100000 in
theorem warn_lifted (os : Os) (started : os.Started) (H : Type) (enc : TypeId × Value → H) :
    ReturnsInHanded {} Yba.checked os 3 .any (Rows.lawS6239BWholeSpec.pre6 enc Yba.prog Yba.f3 Rows.lawS6239BWholeRow.domain false) (Rows.lawS6239BWholeSpec.post enc Yba.prog Yba.f3 false true false false) := by
  refine returnsInHanded_of_change (C := Yba.checked) Yba.ownB started (by kernel_rfl) Yba.func3
    (ChangeSpec.witness6 (enc := enc) (C := Yba.checked) false ⟨#[], #[.slice none 0 0], []⟩ 8 (by kernel_rfl) (by kernel_rfl) (by kernel_rfl) (by kernel_rfl)) ?_
  intro W base args ds gs before hval0 hW hcnd _
  have hval : ∀ (j : Nat) t v, Yba.f3.params[j]? = some t → args[j]? = some v → Value.okWide Yba.prog W .any base t v := hval0
  have hW' := hW
  obtain ⟨p, q, hA0, hV, rfl, hfz, hnd⟩ := hW
  have hA : DataW.TrodAll enc Yba.prog W 0 (fun _ => true) true Yba.f3.params.toList args.toList ds p := hA0
  rw [Yba.params3] at hA hval
  obtain ⟨v0, vs0, d0, ds0, p0, q0, hargs, rfl, rfl, h0, r0⟩ := trodAll_cons hA
  obtain ⟨rfl, rfl, rfl⟩ := trodAll_nil r0
  obtain rfl : args = #[v0] := by cases args; simp_all
  obtain ⟨rfl, rfl⟩ := trodVars_none hV
  obtain ⟨a0, len0, cap0, rfl⟩ := okWide_slice Yba.underlying22 (hval 0 22 v0 rfl rfl)
  have k0 := h0
  have lt0 : ∀ x ∈ p0, x.block < W.heap.size := by obtain ⟨m, hm⟩ := k0; exact DataW.trod_lt m _ _ _ hm
  have w0 : IsStrs W a0 len0 cap0 := by
    obtain ⟨fuel, hf⟩ := h0
    rcases open_strings Yba.underlying22 Yba.underlying9 (by kernel_rfl) hf with ⟨hcs, _⟩ | ⟨x, l, c, ss, hcs, _, hl, hm, hz, _, hcell, _⟩
    · simp [Value.cells] at hcs
      obtain ⟨rfl, rfl, rfl⟩ := hcs
      exact .inl ⟨rfl, rfl, rfl⟩
    · simp [Value.cells] at hcs
      obtain ⟨rfl, rfl, rfl⟩ := hcs
      exact .inr ⟨_, ss, rfl, hl, hm, by simpa using hz, hcell⟩
  clear hA0 hval0
  refine (warnWalk a0 len0 cap0 W w0).mono fun e W' ⟨he, bel⟩ => ?_
  subst he
  exact ⟨_, rfl, _, _, _, [], _, [], hW', trodAll_mk1 (shut_bool Yba.underlying4 _), (trodAll_cons_mk (Below.trod Yba.laidOutB (by kernel_rfl) (of_decide_eq_true (by kernel_rfl)) k0 bel lt0) trodAll_mk0), rfl, bel.frame _, fun h => by cases h⟩

/-- THE STATEMENT. -/
theorem warnWhole_holds : Rows.LawS6239BWholeSaid :=
  OpenClaim.holds_of_wide 3 Yba.f3 rfl rfl rfl rfl rfl rfl rfl ⟨rfl, rfl, rfl, rfl, rfl⟩ rfl rfl rfl rfl rfl (by kernel_rfl) Yba.func3 (by kernel_rfl)
    (of_decide_eq_true (by kernel_rfl)) (by unfold Func.isWrapper; first | (rw [if_pos (by decide +kernel)]; kernel_rfl) | (rw [if_neg (by decide +kernel)]; exact ⟨rfl, rfl⟩))
    (fun os started H enc _ => warn_lifted os started H enc)
end Go.Proofs.Ybulkdyem
