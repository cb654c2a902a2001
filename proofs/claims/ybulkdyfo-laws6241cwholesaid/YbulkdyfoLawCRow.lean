/-
  LawS6241CWhole: the row.
-/
import Derived.Test.YbulkdyfoLawC
import Derived.ProofKit
import Derived.OpenShut
namespace Go.Proofs.Ybulkdyfo
open Go.ChangeShapes Go.WideShapes Go.ChangeAt Go.RowKit

theorem Yba.own : ownKnob Yba.prog.godebug = none := by kernel_rfl
theorem Yba.laidOut : laidOutB Yba.prog = true := by kernel_rfl
theorem Yba.cells64 : Yba.prog.cellsOf 64 = 7 := by kernel_rfl
theorem Yba.cells65 : Yba.prog.cellsOf 65 = 21 := by kernel_rfl
theorem Yba.cells3 : Yba.prog.cellsOf 3 = 1 := by kernel_rfl
theorem Yba.cells4 : Yba.prog.cellsOf 4 = 1 := by kernel_rfl

theorem at_one {l : List Value} {o : Nat} {v : Value} (h : (l.drop o).take 1 = [v]) : l[o]? = some v := by
  have := congrArg (fun x => x[0]?) h
  simpa using this

/-- One place's seven cells, out of its reading. -/
theorem place_of {H : Type} {enc : TypeId × Value → H} {W : World} {m : Nat} {l : List Value} {y : DataW H × List MemPlace} (h : DataW.trod enc Yba.prog W 0 (fun _ => true) true m 64 l = some y) :
    ∃ (st en nv : Bool) (lf lv ow ct : Int), l[0]? = some (.bool st) ∧ l[1]? = some (.bool en) ∧ l[2]? = some (.int .i64 lf) ∧ l[3]? = some (.bool nv) ∧ l[4]? = some (.int .i64 lv) ∧ l[5]? = some (.int .i64 ow) ∧ l[6]? = some (.int .i64 ct) := by
  obtain ⟨xs, n, _, _, _, hlen, hf⟩ := DataW.trod_struct Yba.underlying64 h
  have hx : ∀ i, i < 7 → ∃ y, xs[i]? = some y := fun i hi => ⟨xs[i]'(by rw [hlen]; simpa using hi), by simp⟩
  have cb : ∀ (i : Nat) (f : Field), i < 7 → f.type = 4 → DataW.trod enc Yba.prog W 0 (fun _ => true) true n f.type ((l.drop f.offset).take (Yba.prog.cellsOf f.type)) = xs[i]? → ∃ b, l[f.offset]? = some (.bool b) := by
    intro i f hi ht he
    obtain ⟨y, hy⟩ := hx i hi
    rw [hy, ht, Yba.cells4] at he
    obtain ⟨b, hb, _⟩ := DataW.trod_bool Yba.underlying4 he
    exact ⟨b, at_one hb⟩
  have ci : ∀ (i : Nat) (f : Field), i < 7 → f.type = 3 → DataW.trod enc Yba.prog W 0 (fun _ => true) true n f.type ((l.drop f.offset).take (Yba.prog.cellsOf f.type)) = xs[i]? → ∃ b, l[f.offset]? = some (.int .i64 b) := by
    intro i f hi ht he
    obtain ⟨y, hy⟩ := hx i hi
    rw [hy, ht, Yba.cells3] at he
    obtain ⟨b, hb, _⟩ := DataW.trod_int Yba.underlying3 he
    exact ⟨b, at_one hb⟩
  obtain ⟨st, h0⟩ := cb 0 _ (by decide) rfl (hf 0 _ rfl)
  obtain ⟨en, h1⟩ := cb 1 _ (by decide) rfl (hf 1 _ rfl)
  obtain ⟨lf, h2⟩ := ci 2 _ (by decide) rfl (hf 2 _ rfl)
  obtain ⟨nv, h3⟩ := cb 3 _ (by decide) rfl (hf 3 _ rfl)
  obtain ⟨lv, h4⟩ := ci 4 _ (by decide) rfl (hf 4 _ rfl)
  obtain ⟨ow, h5⟩ := ci 5 _ (by decide) rfl (hf 5 _ rfl)
  obtain ⟨ct, h6⟩ := ci 6 _ (by decide) rfl (hf 6 _ rfl)
  exact ⟨st, en, nv, lf, lv, ow, ct, h0, h1, h2, h3, h4, h5, h6⟩

def pick3 {α : Type} (x y z : α) (i : Nat) : α := if i = 0 then x else if i = 1 then y else z

theorem pick3_all {α : Type} {x y z : α} {P : Nat → α → Prop} (h0 : P 0 x) (h1 : P 1 y) (h2 : P 2 z) : ∀ i, i < 3 → P i (pick3 x y z i) := by
  intro i hi
  rcases (show i = 0 ∨ i = 1 ∨ i = 2 by omega) with rfl | rfl | rfl
  · exact h0
  · exact h1
  · exact h2

/-- The array's three places, out of its reading. -/
theorem places_of {H : Type} {enc : TypeId × Value → H} {W : World} {cP : Array Value} {d : DataW H} {p : List MemPlace} (h : DataW.Trod enc Yba.prog W 0 (fun _ => true) true 65 (.agg cP) d p) :
    ∃ (st en nv : Nat → Bool) (lf lv ow ct : Nat → Int), Places cP st en nv lf lv ow ct := by
  obtain ⟨fuel, hf⟩ := h
  obtain ⟨xs, m, _, _, _, hlen, hel⟩ := DataW.trod_array Yba.underlying65 hf
  have one : ∀ i, i < 3 → ∃ (st en nv : Bool) (lf lv ow ct : Int), cP[i * 7]? = some (.bool st) ∧ cP[i * 7 + 1]? = some (.bool en) ∧ cP[i * 7 + 2]? = some (.int .i64 lf) ∧ cP[i * 7 + 3]? = some (.bool nv) ∧ cP[i * 7 + 4]? = some (.int .i64 lv) ∧ cP[i * 7 + 5]? = some (.int .i64 ow) ∧ cP[i * 7 + 6]? = some (.int .i64 ct) := by
    intro i hi
    have he := hel i hi
    have hxi : xs[i]? = some (xs[i]'(by omega)) := by simp
    rw [hxi, Yba.cells64] at he
    obtain ⟨st, en, nv, lf, lv, ow, ct, h0, h1, h2, h3, h4, h5, h6⟩ := place_of he
    simp only [Value.cells, List.getElem?_take, List.getElem?_drop] at h0 h1 h2 h3 h4 h5 h6
    exact ⟨st, en, nv, lf, lv, ow, ct, by simpa using h0, by simpa using h1, by simpa using h2, by simpa using h3, by simpa using h4, by simpa using h5, by simpa using h6⟩
  obtain ⟨st0, en0, nv0, lf0, lv0, ow0, ct0, a0, a1, a2, a3, a4, a5, a6⟩ := one 0 (by decide)
  obtain ⟨st1, en1, nv1, lf1, lv1, ow1, ct1, b0, b1, b2, b3, b4, b5, b6⟩ := one 1 (by decide)
  obtain ⟨st2, en2, nv2, lf2, lv2, ow2, ct2, c0, c1, c2, c3, c4, c5, c6⟩ := one 2 (by decide)
  exact ⟨pick3 st0 st1 st2, pick3 en0 en1 en2, pick3 nv0 nv1 nv2, pick3 lf0 lf1 lf2, pick3 lv0 lv1 lv2, pick3 ow0 ow1 ow2, pick3 ct0 ct1 ct2,
    { st := pick3_all (P := fun i x => cP[i * 7]? = some (.bool x)) a0 b0 c0
      en := pick3_all (P := fun i x => cP[i * 7 + 1]? = some (.bool x)) a1 b1 c1
      lf := pick3_all (P := fun i x => cP[i * 7 + 2]? = some (.int .i64 x)) a2 b2 c2
      nv := pick3_all (P := fun i x => cP[i * 7 + 3]? = some (.bool x)) a3 b3 c3
      lv := pick3_all (P := fun i x => cP[i * 7 + 4]? = some (.int .i64 x)) a4 b4 c4
      ow := pick3_all (P := fun i x => cP[i * 7 + 5]? = some (.int .i64 x)) a5 b5 c5
      ct := pick3_all (P := fun i x => cP[i * 7 + 6]? = some (.int .i64 x)) a6 b6 c6 }⟩

def zeroP : Value := .agg #[.bool false, .bool false, .int .i64 0, .bool false, .int .i64 0, .int .i64 0, .int .i64 0, .bool false, .bool false, .int .i64 0, .bool false, .int .i64 0, .int .i64 0, .int .i64 0, .bool false, .bool false, .int .i64 0, .bool false, .int .i64 0, .int .i64 0, .int .i64 0]

set_option maxRecDepth 100000 in
theorem lawC_lifted (os : Os) (started : os.Started) (H : Type) (enc : TypeId × Value → H) :
    ReturnsInHanded {} Yba.checked os 5 .any (Rows.lawS6241CWholeSpec.pre6 enc Yba.prog Yba.f5 Rows.lawS6241CWholeRow.domain false) (Rows.lawS6241CWholeSpec.post enc Yba.prog Yba.f5 false true false false) := by
  refine returnsInHanded_of_change (C := Yba.checked) Yba.own started (by kernel_rfl) Yba.func5
    (ChangeSpec.witness6 (enc := enc) (C := Yba.checked) false ⟨#[], #[zeroP, .int .u8 0], []⟩ 8 (by kernel_rfl) (by kernel_rfl) (by kernel_rfl) (by kernel_rfl)) ?_
  intro W base args ds gs before hval0 hW hcnd _
  have hval : ∀ (j : Nat) t v, Yba.f5.params[j]? = some t → args[j]? = some v → Value.okWide Yba.prog W .any base t v := hval0
  have hW' := hW
  obtain ⟨p, q, hA0, hV, rfl, hfz, hnd⟩ := hW
  have hA : DataW.TrodAll enc Yba.prog W 0 (fun _ => true) true Yba.f5.params.toList args.toList ds p := hA0
  rw [Yba.params5] at hA hval
  obtain ⟨v0, vs0, d0, ds0, p0, q0, hargs, rfl, rfl, h0, r0⟩ := trodAll_cons hA
  obtain ⟨v1, vs1, d1, ds1, p1, q1, rfl, rfl, rfl, h1, r1⟩ := trodAll_cons r0
  obtain ⟨rfl, rfl, rfl⟩ := trodAll_nil r1
  obtain rfl : args = #[v0, v1] := by cases args; simp_all
  obtain ⟨rfl, rfl⟩ := trodVars_none hV
  have hok := hval 0 65 v0 rfl rfl
  simp only [Value.okWide, Yba.underlying65] at hok
  obtain ⟨cP, rfl, _, _⟩ := hok
  have k0 := h0
  have lt0 : ∀ x ∈ p0, x.block < W.heap.size := by obtain ⟨m, hm⟩ := k0; exact DataW.trod_lt m _ _ _ hm
  obtain ⟨st, en, nv, lf, lv, ow, ct, hpl⟩ := places_of h0
  obtain ⟨jx, rfl, rfl, rfl, wj⟩ := open_int Yba.underlying5 (hval 1 5 v1 rfl rfl) h1
  clear hA0 hval0
  have bj := wj
  simp [Lit.wf, IntKind.min, IntKind.max, IntKind.signed, IntKind.bits] at bj
  obtain ⟨j, hj⟩ := Int.eq_ofNat_of_zero_le (show 0 ≤ jx % 3 by omega)
  refine (lawC_walk cP jx W st en nv lf lv ow ct hpl bj.1 bj.2 j hj (by omega)).mono fun e W' ⟨he, bel⟩ => ?_
  subst he
  exact ⟨_, rfl, _, _, _, [], _, [], hW', trodAll_mk1 (shut_bool Yba.underlying4 _), (trodAll_cons_mk (Below.trod Yba.laidOut (by kernel_rfl) (of_decide_eq_true (by kernel_rfl)) k0 bel lt0) (trodAll_cons_mk (shut_int Yba.underlying5 wj) trodAll_mk0)), rfl, bel.frame _, fun h => by cases h⟩

/-- THE STATEMENT. -/
theorem checkWhole_holds : Rows.LawS6241CWholeSaid :=
  OpenClaim.holds_of_wide 5 Yba.f5 rfl rfl rfl rfl rfl rfl rfl ⟨rfl, rfl, rfl, rfl, rfl⟩ rfl rfl rfl rfl rfl (by kernel_rfl) Yba.func5 (by kernel_rfl)
    (of_decide_eq_true (by kernel_rfl)) (by unfold Func.isWrapper; first | (rw [if_pos (by decide +kernel)]; kernel_rfl) | (rw [if_neg (by decide +kernel)]; exact ⟨rfl, rfl⟩))
    (fun os started H enc _ => lawC_lifted os started H enc)
end Go.Proofs.Ybulkdyfo
