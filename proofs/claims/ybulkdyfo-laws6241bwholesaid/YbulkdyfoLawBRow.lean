/-
  LawS6241BWhole: the row.
-/
import Derived.Test.YbulkdyfoLawB
import Derived.ProofKit
import Derived.OpenShut
namespace Go.Proofs.Ybulkdyfo
open Go.ChangeShapes Go.WideShapes Go.ChangeAt Go.RowKit

theorem Yba.ownB : ownKnob Yba.prog.godebug = none := by kernel_rfl
theorem Yba.laidOutB : laidOutB Yba.prog = true := by kernel_rfl
theorem Yba.cellsB57 : Yba.prog.cellsOf 57 = 3 := by kernel_rfl
theorem Yba.cellsB5 : Yba.prog.cellsOf 5 = 1 := by kernel_rfl
theorem Yba.cellsB3 : Yba.prog.cellsOf 3 = 1 := by kernel_rfl
theorem Yba.cellsB2 : Yba.prog.cellsOf 2 = 1 := by kernel_rfl

theorem pickN {α : Type} [Inhabited α] {n : Nat} {P : Nat → α → Prop} (h : ∀ i, i < n → ∃ a, P i a) : ∃ f : Nat → α, ∀ i, i < n → P i (f i) :=
  ⟨fun i => if hi : i < n then (h i hi).choose else default, fun i hi => by simp only [dif_pos hi]; exact (h i hi).choose_spec⟩

theorem slice_at {H : Type} {enc : TypeId × Value → H} {W : World} {t e : TypeId} {n : Nat} {ao : Option Addr} {len cap fuel : Nat} {x : DataW H × List MemPlace} (ht : Yba.prog.underlying t = some (.slice e)) (hc : Yba.prog.cellsOf e = n) (hn : 0 < n)
    (h : DataW.trod enc Yba.prog W 0 (fun _ => true) true fuel t [.slice ao len cap] = some x) (hpos : 0 < len) :
    ∃ b off, ao = some ⟨b, off, none⟩ ∧ b < W.heap.size ∧ ∀ i, i < len → ∃ l m y, DataW.trod enc Yba.prog W 0 (fun _ => true) true m e l = some y ∧ ∀ j, j < n → W.cell? ⟨b, off + i * n + j, none⟩ = l[j]? := by
  rcases DataW.trod_slice ht h with ⟨h0, _⟩ | ⟨a, len', cap', elems, rest, m, _, hcs, _, hb, hl, hm, hlen, hel, _, _⟩
  · simp at h0; omega
  · simp at hcs
    obtain ⟨rfl, rfl, rfl⟩ := hcs
    have each : ∀ i, i < len → ∃ l y, W.cells? 0 (a.add (i * n)) n = some l ∧ DataW.trod enc Yba.prog W 0 (fun _ => true) true m e l = some y := by
      intro i hi
      have := hel i hi
      rw [hc, List.getElem?_eq_getElem (by omega), Option.bind_eq_some_iff] at this
      obtain ⟨l, h1, h2⟩ := this
      exact ⟨l, _, h1, h2⟩
    obtain ⟨b, off, spot⟩ := a
    have hs : spot = none := by
      obtain ⟨l, y, h1, _⟩ := each 0 hpos
      obtain ⟨_, hl, hc⟩ := World.cells?_some h1
      have h2 := hc 0 hn
      rw [List.getElem?_eq_getElem (by omega)] at h2
      simpa [Addr.add] using World.cell?_spot h2
    subst hs
    refine ⟨b, off, rfl, ?_, fun i hi => ?_⟩
    · obtain ⟨l, y, h1, _⟩ := each 0 hpos
      rw [Addr.add_lit] at h1
      exact World.cells?_block h1 hn
    · obtain ⟨l, y, h1, h2⟩ := each i hi
      obtain ⟨_, _, hc⟩ := World.cells?_some h1
      refine ⟨l, m, y, h2, fun j hj => ?_⟩
      have := hc j hj
      rwa [Addr.add_lit, Addr.add_lit] at this

theorem one_at {l : List Value} {o : Nat} {v : Value} (h : (l.drop o).take 1 = [v]) : l[o]? = some v := by
  have := congrArg (fun x => x[0]?) h
  simpa using this

/-- One step's three cells, out of its reading. -/
theorem step_of {H : Type} {enc : TypeId × Value → H} {W : World} {m : Nat} {l : List Value} {y : DataW H × List MemPlace} (h : DataW.trod enc Yba.prog W 0 (fun _ => true) true m 57 l = some y) :
    ∃ (q k v : Int), 0 ≤ q ∧ q ≤ 255 ∧ l[0]? = some (.int .u8 q) ∧ l[1]? = some (.int .i64 k) ∧ l[2]? = some (.int .i64 v) := by
  obtain ⟨xs, n, _, _, _, hlen, hf⟩ := DataW.trod_struct Yba.underlying57 h
  have hx : ∀ i, i < 3 → ∃ y, xs[i]? = some y := fun i hi => ⟨xs[i]'(by rw [hlen]; simpa using hi), by simp⟩
  have f0 : DataW.trod enc Yba.prog W 0 (fun _ => true) true n 5 ((l.drop 0).take (Yba.prog.cellsOf 5)) = xs[0]? := hf 0 _ rfl
  have f1 : DataW.trod enc Yba.prog W 0 (fun _ => true) true n 2 ((l.drop 1).take (Yba.prog.cellsOf 2)) = xs[1]? := hf 1 _ rfl
  have f2 : DataW.trod enc Yba.prog W 0 (fun _ => true) true n 3 ((l.drop 2).take (Yba.prog.cellsOf 3)) = xs[2]? := hf 2 _ rfl
  obtain ⟨y0, h0⟩ := hx 0 (by decide)
  obtain ⟨y1, h1⟩ := hx 1 (by decide)
  obtain ⟨y2, h2⟩ := hx 2 (by decide)
  rw [h0, Yba.cellsB5] at f0
  rw [h1, Yba.cellsB2] at f1
  rw [h2, Yba.cellsB3] at f2
  obtain ⟨q, hq, _, wq⟩ := DataW.trod_int Yba.underlying5 f0
  obtain ⟨k, hk, _⟩ := DataW.trod_int Yba.underlying2 f1
  obtain ⟨v, hv, _⟩ := DataW.trod_int Yba.underlying3 f2
  simp [Lit.wf, IntKind.min, IntKind.max, IntKind.signed, IntKind.bits] at wq
  exact ⟨q, k, v, wq.1, wq.2, one_at hq, one_at hk, one_at hv⟩

theorem argsB_of {H : Type} {enc : TypeId × Value → H} {W : World} {ap : Option Addr} {lp cp : Nat} {d1 : DataW H} {p1 : List MemPlace}
    (h1 : DataW.Trod enc Yba.prog W 0 (fun _ => true) true 55 (.slice ap lp cp) d1 p1) : ∃ po pk pv : Nat → Int, ArgsB W ap lp po pk pv := by
  obtain ⟨f1, h1⟩ := h1
  by_cases h0 : 0 < lp
  · obtain ⟨b, off, rfl, hb, he⟩ := slice_at Yba.underlying55 Yba.cellsB57 (by decide) h1 h0
    obtain ⟨f, hf⟩ := pickN (P := fun i (x : Int × Int × Int) => 0 ≤ x.1 ∧ x.1 ≤ 255 ∧ W.cell? ⟨b, off + i * 3, none⟩ = some (.int .u8 x.1) ∧ W.cell? ⟨b, off + i * 3 + 1, none⟩ = some (.int .i64 x.2.1) ∧ W.cell? ⟨b, off + i * 3 + 2, none⟩ = some (.int .i64 x.2.2)) (n := lp) (fun i hi => by
      obtain ⟨l, m, y, hy, hc⟩ := he i hi
      obtain ⟨q, k, v, b0, b1, c0, c1, c2⟩ := step_of hy
      exact ⟨(q, k, v), b0, b1, (hc 0 (by decide)).trans c0, (hc 1 (by decide)).trans c1, (hc 2 (by decide)).trans c2⟩)
    exact ⟨fun i => (f i).1, fun i => (f i).2.1, fun i => (f i).2.2, fun _ => ⟨b, off, rfl, hb, hf⟩⟩
  · exact ⟨fun _ => 0, fun _ => 0, fun _ => 0, fun e => absurd e h0⟩

set_option maxRecDepth 100000 in
theorem lawB_lifted (os : Os) (started : os.Started) (H : Type) (enc : TypeId × Value → H) :
    ReturnsInHanded {} Yba.checked os 4 .any (Rows.lawS6241BWholeSpec.pre6 enc Yba.prog Yba.f4 Rows.lawS6241BWholeRow.domain false) (Rows.lawS6241BWholeSpec.post enc Yba.prog Yba.f4 false true false false) := by
  refine returnsInHanded_of_change (C := Yba.checked) Yba.ownB started (by kernel_rfl) Yba.func4
    (ChangeSpec.witness6 (enc := enc) (C := Yba.checked) false ⟨#[], #[.slice none 0 0, .int .i64 0, .int .i64 0], []⟩ 8 (by kernel_rfl) (by kernel_rfl) (by kernel_rfl) (by kernel_rfl)) ?_
  intro W base args ds gs before hval0 hW hcnd _
  have hval : ∀ (j : Nat) t v, Yba.f4.params[j]? = some t → args[j]? = some v → Value.okWide Yba.prog W .any base t v := hval0
  have hW' := hW
  obtain ⟨p, q, hA0, hV, rfl, hfz, hnd⟩ := hW
  have hA : DataW.TrodAll enc Yba.prog W 0 (fun _ => true) true Yba.f4.params.toList args.toList ds p := hA0
  rw [Yba.params4] at hA hval
  obtain ⟨v0, vs0, d0, ds0, p0, q0, hargs, rfl, rfl, h0, r0⟩ := trodAll_cons hA
  obtain ⟨v1, vs1, d1, ds1, p1, q1, rfl, rfl, rfl, h1, r1⟩ := trodAll_cons r0
  obtain ⟨v2, vs2, d2, ds2, p2, q2, rfl, rfl, rfl, h2, r2⟩ := trodAll_cons r1
  obtain ⟨rfl, rfl, rfl⟩ := trodAll_nil r2
  obtain rfl : args = #[v0, v1, v2] := by cases args; simp_all
  obtain ⟨rfl, rfl⟩ := trodVars_none hV
  obtain ⟨ap, lp, cp, rfl⟩ := okWide_slice Yba.underlying55 (hval 0 55 v0 rfl rfl)
  obtain ⟨key, rfl, rfl, rfl, wk⟩ := open_int Yba.underlying2 (hval 1 2 v1 rfl rfl) h1
  obtain ⟨v, rfl, rfl, rfl, wv⟩ := open_int Yba.underlying3 (hval 2 3 v2 rfl rfl) h2
  have k0 := h0
  have lt0 : ∀ x ∈ p0, x.block < W.heap.size := by obtain ⟨m, hm⟩ := k0; exact DataW.trod_lt m _ _ _ hm
  obtain ⟨po, pk, pv, hargsB⟩ := argsB_of h0
  clear hA0 hval0
  refine (lawB_any W ap lp cp po pk pv hargsB key v).mono fun e W' ⟨he, bel⟩ => ?_
  subst he
  exact ⟨_, rfl, _, _, _, [], _, [], hW', trodAll_mk1 (shut_bool Yba.underlying4 _), (trodAll_cons_mk (Below.trod Yba.laidOutB (by kernel_rfl) (of_decide_eq_true (by kernel_rfl)) k0 bel lt0) (trodAll_cons_mk (shut_int Yba.underlying2 wk) (trodAll_cons_mk (shut_int Yba.underlying3 wv) trodAll_mk0))), rfl, bel.frame _, fun h => by cases h⟩

/-- THE STATEMENT. -/
theorem pushWhole_holds : Rows.LawS6241BWholeSaid :=
  OpenClaim.holds_of_wide 4 Yba.f4 rfl rfl rfl rfl rfl rfl rfl ⟨rfl, rfl, rfl, rfl, rfl⟩ rfl rfl rfl rfl rfl (by kernel_rfl) Yba.func4 (by kernel_rfl)
    (of_decide_eq_true (by kernel_rfl)) (by unfold Func.isWrapper; first | (rw [if_pos (by decide +kernel)]; kernel_rfl) | (rw [if_neg (by decide +kernel)]; exact ⟨rfl, rfl⟩))
    (fun os started H enc _ => lawB_lifted os started H enc)
end Go.Proofs.Ybulkdyfo
