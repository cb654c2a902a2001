/-
  LawS6239CWhole: the walk, the row. The frame is the guide's skeleton for this function.
-/
import Derived.Test.YbulkdyemRows
import Derived.Test.YbulkdyemComment
import Derived.WalkKit
import Derived.ProofKit
import Derived.OpenShut
import Derived.ShutString
namespace Go.Proofs.Ybulkdyem
open Go.ChangeShapes Go.WideShapes Go.ChangeAt Go.RowKit
open Go.ChangeMaps (open_string shut_string)
set_option linter.unusedVariables false      -- a walk need not use every 'w<i>' (that an integer argument fits its kind)

theorem own : ownKnob Yba.prog.godebug = none := by kernel_rfl

set_option maxHeartbeats 400000 in
theorem walk_long (a0 : ByteArray) (a1 a2 a3 a4 : Int) (h : 1048576 < a0.size) (w0 : a0.size ≤ 9223372036854775807) (w : World) :
    Calls Yba.prog 4 #[.string a0, .int .u64 a1, .int .i64 a2, .int .i64 a3, .int .i64 a4] w fun e w' => e = .returned (.bool true) ∧ Grown w w' := by
  go_enter Yba.func4, Yba.ntmps4
  go_wp2
  go_ret
  exact ⟨rfl, Grown.refl _⟩

set_option maxHeartbeats 400000 in
theorem walk_short (a0 : ByteArray) (a1 a2 a3 a4 : Int) (p : Nat) (v : Bool) (h : a0.size ≤ 1048576) (b1 : 0 ≤ a1) (b2 : a1 ≤ 18446744073709551615) (hp : a1 % ((a0.size : Int) + 1) = (p : Int)) (hpl : p ≤ a0.size)
    (hans : Hid (Answers a0 p v)) (w : World) :
    Calls Yba.prog 4 #[.string a0, .int .u64 a1, .int .i64 a2, .int .i64 a3, .int .i64 a4] w fun e w' => e = .returned (.bool true) ∧ Grown w w' := by
  go_enter Yba.func4, Yba.ntmps4
  go_wp2_with fail
  refine (hans.out.2 w.heap.size _ (by simp) (by simp)).mono ?_
  rintro e w' ⟨rfl, n, rfl⟩
  go_wp2_with (go_at_call 7; refine (hans.out.1 _).mono ?_; rintro e w' ⟨rfl, rfl⟩)
  go_ret
  refine ⟨?_, ?_⟩
  · rfl
  · exact Grown.alloc (Grown.refl w) _ _

theorem walk (a0 : ByteArray) (a1 : Int) (a2 : Int) (a3 : Int) (a4 : Int) (w0 : a0.size ≤ maxLen) (w1 : (Lit.int .u64 a1).wf = true) (w : World) :
    Calls Yba.prog 4 #[.string a0, .int .u64 a1, .int .i64 a2, .int .i64 a3, .int .i64 a4] w fun e w' => e = .returned (.bool true) ∧ Grown w w' := by
  unfold maxLen at w0
  by_cases h : 1048576 < a0.size
  · exact walk_long a0 a1 a2 a3 a4 h (by omega) w
  · simp [Lit.wf, IntKind.min, IntKind.max, IntKind.signed, IntKind.bits] at w1
    obtain ⟨p, hp⟩ := Int.eq_ofNat_of_zero_le (show 0 ≤ a1 % ((a0.size : Int) + 1) from Int.emod_nonneg _ (by omega))
    have hlt := Int.emod_lt_of_pos a1 (show (0 : Int) < (a0.size : Int) + 1 by omega)
    obtain ⟨v, hv⟩ := answers a0 p (by omega) (by omega)
    exact walk_short a0 a1 a2 a3 a4 p v (by omega) w1.1 w1.2 hp (by omega) hv w

set_option maxRecDepth 100000 in
theorem lifted (os : Os) (started : os.Started) (H : Type) (enc : TypeId × Value → H) :
    ReturnsInHanded {} Yba.checked os 4 .any (Rows.lawS6239CWholeSpec.pre6 enc Yba.prog Yba.f4 Rows.lawS6239CWholeRow.domain false) (Rows.lawS6239CWholeSpec.post enc Yba.prog Yba.f4 false true false false) := by
  refine returnsInHanded_of_change (C := Yba.checked) own started (by kernel_rfl) Yba.func4
    (ChangeSpec.witness6 (enc := enc) (C := Yba.checked) false ⟨#[], #[.string ByteArray.empty, .int .u64 0, .int .i64 0, .int .i64 0, .int .i64 0], []⟩ 8 (by kernel_rfl) (by kernel_rfl) (by kernel_rfl) (by kernel_rfl)) ?_
  intro W base args ds gs before hval0 hW hcnd _
  have hval : ∀ (j : Nat) t v, Yba.f4.params[j]? = some t → args[j]? = some v → Value.okWide Yba.prog W .any base t v := hval0
  have hW' := hW
  obtain ⟨p, q, hA0, hV, rfl, hfz, hnd⟩ := hW
  have hA : DataW.TrodAll enc Yba.prog W 0 (fun _ => true) true Yba.f4.params.toList args.toList ds p := hA0
  rw [Yba.params4] at hA hval
  obtain ⟨v0, vs0, d0, ds0, p0, q0, hargs, rfl, rfl, h0, r0⟩ := trodAll_cons hA
  obtain ⟨v1, vs1, d1, ds1, p1, q1, rfl, rfl, rfl, h1, r1⟩ := trodAll_cons r0
  obtain ⟨v2, vs2, d2, ds2, p2, q2, rfl, rfl, rfl, h2, r2⟩ := trodAll_cons r1
  obtain ⟨v3, vs3, d3, ds3, p3, q3, rfl, rfl, rfl, h3, r3⟩ := trodAll_cons r2
  obtain ⟨v4, vs4, d4, ds4, p4, q4, rfl, rfl, rfl, h4, r4⟩ := trodAll_cons r3
  obtain ⟨rfl, rfl, rfl⟩ := trodAll_nil r4
  obtain rfl : args = #[v0, v1, v2, v3, v4] := by cases args; simp_all
  obtain ⟨rfl, rfl⟩ := trodVars_none hV
  obtain ⟨a0, rfl, rfl, rfl, w0⟩ := open_string Yba.underlying9 (hval 0 9 v0 rfl rfl) h0
  obtain ⟨a1, rfl, rfl, rfl, w1⟩ := open_int Yba.underlying32 (hval 1 32 v1 rfl rfl) h1
  obtain ⟨a2, rfl, rfl, rfl, w2⟩ := open_int Yba.underlying3 (hval 2 3 v2 rfl rfl) h2
  obtain ⟨a3, rfl, rfl, rfl, w3⟩ := open_int Yba.underlying3 (hval 3 3 v3 rfl rfl) h3
  obtain ⟨a4, rfl, rfl, rfl, w4⟩ := open_int Yba.underlying3 (hval 4 3 v4 rfl rfl) h4
  clear hA0 hval0
  simp only [List.append_nil] at hW'
  refine (walk a0 a1 a2 a3 a4 w0 w1 W).mono fun e W' ⟨he, hg⟩ => ?_
  subst he
  exact ⟨_, rfl, post_of_same (pa := []) (pv := []) hW' (fun _ _ _ => (trodAll_cons_mk (shut_bool Yba.underlying4 _) trodAll_mk0)) (fun sp _ => (trodAll_cons_mk (shut_string Yba.underlying9 w0) (trodAll_cons_mk (shut_int Yba.underlying32 w1) (trodAll_cons_mk (shut_int Yba.underlying3 w2) (trodAll_cons_mk (shut_int Yba.underlying3 w3) (trodAll_cons_mk (shut_int Yba.underlying3 w4) trodAll_mk0)))))) (fun _ _ => rfl) rfl
    (hg.frame _) hg.2.1 (ok_one (by kernel_rfl) rfl (okWide_bool_mk Yba.underlying4 _))⟩

theorem over : Rows.lawS6239CWholeRow.holds Yba.pinned (OpenSpec.ofChange Rows.lawS6239CWholeSpec) :=
  OpenClaim.holds_of_wide 4 Yba.f4 rfl rfl rfl rfl rfl rfl rfl ⟨rfl, rfl, rfl, rfl, rfl⟩ rfl rfl rfl rfl rfl (by kernel_rfl) Yba.func4 (by kernel_rfl)
    (of_decide_eq_true (by kernel_rfl)) (by unfold Func.isWrapper; first | (rw [if_pos (by decide +kernel)]; kernel_rfl) | (rw [if_neg (by decide +kernel)]; exact ⟨rfl, rfl⟩))
    (fun os started H enc _ => lifted os started H enc)

/-- ████ THE STATEMENT ████ -/
theorem commentWhole_holds : Rows.LawS6239CWholeSaid :=
  over
end Go.Proofs.Ybulkdyem
