/-
  The row of LawS6235CShape, and its tied card.
-/
import Derived.Test.YbulkdyciDoorTie
import Derived.Test.YbulkdyciDoorCards
import Derived.Test.YbulkdyciDoorShape
import Derived.Test.YbulkdyciDoorLaid
import Derived.SevenTiedAt
namespace Go.Proofs.YbulkdyciDoor
open Go.ChangeShapes Go.WideShapes Go.ChangeAt Go.RowKit

set_option maxRecDepth 100000 in
theorem shape_lifted (os : Os) (started : os.Started) (H : Type) (enc : TypeId × Value → H) :
    ReturnsInHanded {} Ybad.checked os 4 .any (fun w args => (Rows.lawS6235CShapeSpec.pre enc Ybad.prog Ybad.f4 [] false w args ∧ laidMetH Ybad.prog Rows.lawS6235CShapeRow.laid w) ∧ sizedMet enc Ybad.prog Ybad.f4 (OpenSpec.ofChange Rows.lawS6235CShapeSpec) false w args)
      (Rows.lawS6235CShapeSpec.post enc Ybad.prog Ybad.f4 false true false false) := by
  refine returnsInHanded_of_change_and (C := Ybad.checked) (X := fun w _ => laidMetH Ybad.prog Rows.lawS6235CShapeRow.laid w) (fun _ _ _ hh h => h.of_heap hh) Ybad.own started (by kernel_rfl) Ybad.func4
    (ChangeSpec.witness_shaped (enc := enc) (C := Ybad.checked) (os := os) (X := fun w _ => laidMetH Ybad.prog Rows.lawS6235CShapeRow.laid w) false (World.doorLaid Ybad.prog 19 os) #[.int .u32 0, .int .u8 0, .int .u16 0] 8 rfl (World.shaped_of_RefB (by kernel_rfl) (by kernel_rfl)) (by kernel_rfl) (by kernel_rfl) (by kernel_rfl) (door_met os _)) ?_
  intro W base args ds gs before hval0 hW _ _ hL _
  have hval : ∀ (j : Nat) t v, Ybad.f4.params[j]? = some t → args[j]? = some v → Value.okWide Ybad.prog W .any base t v := hval0
  have hW' := hW
  obtain ⟨p, q, hA0, hV, rfl, hfz, hnd⟩ := hW
  have hA : DataW.TrodAll enc Ybad.prog W 0 (fun _ => true) true Ybad.f4.params.toList args.toList ds p := hA0
  rw [Ybad.params4] at hA hval
  obtain ⟨v0, v1, v2, d0, d1, d2, p0, p1, p2, rfl, rfl, rfl, h0, h1, h2⟩ := trodAll_three hA
  obtain ⟨rfl, rfl⟩ := trodVars_none hV
  obtain ⟨a, rfl, rfl, rfl, wa⟩ := open_int Ybad.underlying25 (hval 0 25 v0 rfl rfl) h0
  obtain ⟨b, rfl, rfl, rfl, wb⟩ := open_int Ybad.underlying5 (hval 1 5 v1 rfl rfl) h1
  obtain ⟨c, rfl, rfl, rfl, wc⟩ := open_int Ybad.underlying26 (hval 2 26 v2 rfl rfl) h2
  have hT := of_laid hL
  clear hA0 hval0
  simp only [List.append_nil] at hW'
  have ba := wa
  have bb := wb
  have bc := wc
  simp [Lit.wf, IntKind.min, IntKind.max, IntKind.signed, IntKind.bits] at ba bb bc
  refine (shape_any a b c W ba.1 ba.2 bb.1 bb.2 bc.1 bc.2 hT).mono fun e W' ⟨he, n, hw⟩ => ?_
  subst he
  refine ⟨_, rfl, ChangeSpec.post_alike (post_of_same (pa := []) (pv := []) hW' (fun _ _ _ => trodAll_mk1 (shut_bool Ybad.underlying4 _)) (fun sp _ => trodAll_mk3 (shut_int Ybad.underlying25 wa) (shut_int Ybad.underlying5 wb) (shut_int Ybad.underlying26 wc)) (fun _ _ => rfl) rfl
    (World.keptBut_refl _ _) (fun _ => rfl) (ok_one (by kernel_rfl) rfl (okWide_bool_mk Ybad.underlying4 _))) ?_⟩
  rw [hw]
  exact World.drewN_alike _ _

theorem shape_holds : Rows.LawS6235CShapeSaid :=
  OpenClaim.holds_of_wide 4 Ybad.f4 rfl rfl rfl rfl rfl rfl rfl ⟨rfl, rfl, rfl, rfl, rfl⟩ rfl rfl rfl rfl rfl (by kernel_rfl) Ybad.func4 (by kernel_rfl)
    (of_decide_eq_true (by kernel_rfl)) (by unfold Func.isWrapper; first | (rw [if_pos (by decide +kernel)]; kernel_rfl) | (rw [if_neg (by decide +kernel)]; exact ⟨rfl, rfl⟩))
    (fun os started H enc _ => shape_lifted os started H enc)

/-- THE TIED CARD of LawS6235CShape. -/
theorem shape_card_holds : Rows.LawS6235CShapeCardSaid :=
  Claim7.holds_tied_plain_at .later [] [.data, .data] true Rows.lawS6235CShapeCard.stood.harness false
    shape_holds (fun _ h => by cases h) (by kernel_rfl) (fun _ h => by cases h) lawS6235CShape_row_tie rfl ⟨rfl, rfl⟩ (by kernel_rfl) rfl
    (fun f fn hf hfn => by
      obtain rfl : f = 4 := Option.some.inj ((show Ybad.prog.funcNamed Rows.lawS6235CShapeRow.func = some 4 by kernel_rfl).symm.trans hf) |>.symm
      obtain rfl : fn = Ybad.f4 := (Option.some.inj (Ybad.func4.symm.trans hfn)).symm
      exact ⟨by kernel_rfl, fun j t ht => by
        rw [Ybad.params4] at ht
        have hm : t ∈ [25, 5, 26] := by simpa using Array.mem_of_getElem? ht
        have hall : ([25, 5, 26].all fun u => !Ybad.prog.wantsStandIn u) = true := by kernel_rfl
        exact (show Ybad.prog.wantsStandIn t = false by simpa using List.all_eq_true.1 hall t hm)⟩)
    (by kernel_rfl)
end Go.Proofs.YbulkdyciDoor
