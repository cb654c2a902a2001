/-
  LawS6235BWhole: the row.
-/
import Derived.Test.YbulkdyciLaw
import Derived.ProofKit
import Derived.OpenShut
namespace Go.Proofs.Ybulkdyci
open Go.ChangeShapes Go.WideShapes Go.ChangeAt Go.RowKit

theorem Yba.ownE : ownKnob Yba.prog.godebug = none := by kernel_rfl
theorem Yba.laidOutE : laidOutB Yba.prog = true := by kernel_rfl
theorem Yba.cellsE34 : Yba.prog.cellsOf 34 = 3 := by kernel_rfl
theorem Yba.cellsE24 : Yba.prog.cellsOf 24 = 1 := by kernel_rfl
theorem Yba.cellsE23 : Yba.prog.cellsOf 23 = 1 := by kernel_rfl
theorem Yba.cellsE25 : Yba.prog.cellsOf 25 = 1 := by kernel_rfl
theorem Yba.cellsE5 : Yba.prog.cellsOf 5 = 1 := by kernel_rfl

theorem pickN {α : Type} [Inhabited α] {n : Nat} {P : Nat → α → Prop} (h : ∀ i, i < n → ∃ a, P i a) : ∃ f : Nat → α, ∀ i, i < n → P i (f i) :=
  ⟨fun i => if hi : i < n then (h i hi).choose else default, fun i hi => by simp only [dif_pos hi]; exact (h i hi).choose_spec⟩

theorem slice_at {H : Type} {enc : TypeId × Value → H} {W : World} {t e : TypeId} {n : Nat} {ao : Option Addr} {len cap fuel : Nat} {x : DataW H × List MemPlace} (ht : Yba.prog.underlying t = some (.slice e)) (hc : Yba.prog.cellsOf e = n) (hn : 0 < n)
    (h : DataW.trod enc Yba.prog W 0 (fun _ => true) true fuel t [.slice ao len cap] = some x) (hpos : 0 < len) :
    ∃ b off, ao = some ⟨b, off, none⟩ ∧ b < W.heap.size ∧ ∀ i, i < len → ∃ l m y, DataW.trod enc Yba.prog W 0 (fun _ => true) true m e l = some y ∧ ∀ j, j < n → W.cell? ⟨b, off + i * n + j, none⟩ = l[j]? := by
  rcases DataW.trod_slice ht h with ⟨h0, _⟩ | ⟨a, len', cap', elems, rest, m, _, hcs, _, hb, hl, hm, hlen, hel, _, _⟩
  · simp at h0; omega
  · simp at hcs
    obtain ⟨rfl, rfl, rfl⟩ := hcs
    have each : ∀ i, i < len → ∃ l y, W.cells? 0 (a.add (i * n)) n = some l ∧ DataW.trod enc Yba.prog W 0 (fun _ => true) true m e l = some y := by
      intro i hi
      have := hel i hi
      rw [hc, List.getElem?_eq_getElem (by omega), Option.bind_eq_some_iff] at this
      obtain ⟨l, h1, h2⟩ := this
      exact ⟨l, _, h1, h2⟩
    obtain ⟨b, off, spot⟩ := a
    have hs : spot = none := by
      obtain ⟨l, y, h1, _⟩ := each 0 hpos
      obtain ⟨_, hl, hc⟩ := World.cells?_some h1
      have h2 := hc 0 hn
      rw [List.getElem?_eq_getElem (by omega)] at h2
      simpa [Addr.add] using World.cell?_spot h2
    subst hs
    refine ⟨b, off, rfl, ?_, fun i hi => ?_⟩
    · obtain ⟨l, y, h1, _⟩ := each 0 hpos
      rw [Addr.add_lit] at h1
      exact World.cells?_block h1 hn
    · obtain ⟨l, y, h1, h2⟩ := each i hi
      obtain ⟨_, _, hc⟩ := World.cells?_some h1
      refine ⟨l, m, y, h2, fun j hj => ?_⟩
      have := hc j hj
      rwa [Addr.add_lit, Addr.add_lit] at this

theorem one_at {l : List Value} {o : Nat} {v : Value} (h : (l.drop o).take 1 = [v]) : l[o]? = some v := by
  have := congrArg (fun x => x[0]?) h
  simpa using this

/-- A slice of words, out of its reading. -/
theorem words_of {H : Type} {enc : TypeId × Value → H} {W : World} {ao : Option Addr} {len cap fuel : Nat} {x : DataW H × List MemPlace} (h : DataW.trod enc Yba.prog W 0 (fun _ => true) true fuel 23 [.slice ao len cap] = some x) :
    ∃ l : List Int, l.length = len ∧ Reads W .u64 ao l ∧ (ao = none → len = 0 ∧ cap = 0) ∧ len ≤ 9223372036854775807 := by
  have hn : (ao = none → len = 0 ∧ cap = 0) ∧ len ≤ 9223372036854775807 := by
    rcases DataW.trod_slice Yba.underlying23 h with ⟨h0, _⟩ | ⟨a, len', cap', elems, rest, m, _, hcs, _, hb, hl, hm, _⟩
    · simp at h0
      obtain ⟨_, rfl, rfl⟩ := h0
      exact ⟨fun _ => ⟨rfl, rfl⟩, by omega⟩
    · simp at hcs
      obtain ⟨rfl, rfl, rfl⟩ := hcs
      unfold maxLen at hm
      exact ⟨(fun e => by cases e), by omega⟩
  by_cases h0 : 0 < len
  · obtain ⟨b, off, rfl, hb, he⟩ := slice_at Yba.underlying23 Yba.cellsE24 (by decide) h h0
    obtain ⟨f, hf⟩ := pickN (P := fun i (x : Int) => W.cell? ⟨b, off + i, none⟩ = some (.int .u64 x)) (n := len) (fun i hi => by
      obtain ⟨l, m, y, hy, hc⟩ := he i hi
      obtain ⟨v, rfl, _⟩ := DataW.trod_int Yba.underlying24 hy
      exact ⟨v, by simpa using hc 0 (by decide)⟩)
    refine ⟨(List.range len).map f, by simp, fun _ => ⟨b, off, rfl, fun i x hx => ?_⟩, hn⟩
    have hi : i < len := by have := (List.getElem?_eq_some_iff.1 hx).1; simpa using this
    have : x = f i := by simp [hi] at hx; exact hx.symm
    rw [this]
    exact hf i hi
  · exact ⟨[], by simp; omega, fun e => by simp at e, hn⟩

/-- One entry's three cells. -/
theorem entry_of {H : Type} {enc : TypeId × Value → H} {W : World} {m : Nat} {l : List Value} {y : DataW H × List MemPlace} (h : DataW.trod enc Yba.prog W 0 (fun _ => true) true m 34 l = some y) :
    ∃ (ao : Option Addr) (c : Nat) (ws : List Int) (f ct : Int), 0 ≤ f ∧ f ≤ 255 ∧ l[0]? = some (.slice ao ws.length c) ∧ l[1]? = some (.int .u8 f) ∧ l[2]? = some (.int .i8 ct) ∧ Reads W .u64 ao ws ∧ ws.length ≤ 9223372036854775807 := by
  obtain ⟨xs, n, _, _, hll, hlen, hf⟩ := DataW.trod_struct Yba.underlying34 h
  have hx : ∀ i, i < 3 → ∃ y, xs[i]? = some y := fun i hi => ⟨xs[i]'(by rw [hlen]; simpa using hi), by simp⟩
  have f0 : DataW.trod enc Yba.prog W 0 (fun _ => true) true n 23 ((l.drop 0).take (Yba.prog.cellsOf 23)) = xs[0]? := hf 0 _ rfl
  have f1 : DataW.trod enc Yba.prog W 0 (fun _ => true) true n 5 ((l.drop 1).take (Yba.prog.cellsOf 5)) = xs[1]? := hf 1 _ rfl
  have f2 : DataW.trod enc Yba.prog W 0 (fun _ => true) true n 25 ((l.drop 2).take (Yba.prog.cellsOf 25)) = xs[2]? := hf 2 _ rfl
  obtain ⟨y0, h0⟩ := hx 0 (by decide)
  obtain ⟨y1, h1⟩ := hx 1 (by decide)
  obtain ⟨y2, h2⟩ := hx 2 (by decide)
  rw [h0, Yba.cellsE23] at f0
  rw [h1, Yba.cellsE5] at f1
  rw [h2, Yba.cellsE25] at f2
  obtain ⟨q, hq, _, wq⟩ := DataW.trod_int Yba.underlying5 f1
  obtain ⟨k, hk, _⟩ := DataW.trod_int Yba.underlying25 f2
  simp [Lit.wf, IntKind.min, IntKind.max, IntKind.signed, IntKind.bits] at wq
  obtain ⟨ao, len, cap, hs⟩ : ∃ ao len cap, (l.drop 0).take 1 = [.slice ao len cap] := by
    rcases DataW.trod_slice Yba.underlying23 f0 with ⟨e, _⟩ | ⟨a, len', cap', elems, rest, m, _, hcs, _⟩
    · exact ⟨_, _, _, e⟩
    · exact ⟨_, _, _, hcs⟩
  rw [hs] at f0
  obtain ⟨ws, hwl, hr, _, hb⟩ := words_of f0
  subst hwl
  exact ⟨ao, cap, ws, q, k, wq.1, wq.2, one_at hs, one_at hq, one_at hk, hr, hb⟩

theorem argsE_of {H : Type} {enc : TypeId × Value → H} {W : World} {ap : Option Addr} {lp cp : Nat} {d1 : DataW H} {p1 : List MemPlace}
    (h1 : DataW.Trod enc Yba.prog W 0 (fun _ => true) true 22 (.slice ap lp cp) d1 p1) : ∃ (ea : Nat → Option Addr) (ec : Nat → Nat) (ew : Nat → List Int) (ef ect : Nat → Int), ArgsE W ap lp ea ec ew ef ect := by
  obtain ⟨f1, h1⟩ := h1
  by_cases h0 : 0 < lp
  · obtain ⟨b, off, rfl, hb, he⟩ := slice_at Yba.underlying22 Yba.cellsE34 (by decide) h1 h0
    obtain ⟨f, hf⟩ := pickN (P := fun i (x : Option Addr × Nat × List Int × Int × Int) => 0 ≤ x.2.2.2.1 ∧ x.2.2.2.1 ≤ 255 ∧ W.cell? ⟨b, off + i * 3, none⟩ = some (.slice x.1 x.2.2.1.length x.2.1) ∧ W.cell? ⟨b, off + i * 3 + 1, none⟩ = some (.int .u8 x.2.2.2.1) ∧
      W.cell? ⟨b, off + i * 3 + 2, none⟩ = some (.int .i8 x.2.2.2.2) ∧ Reads W .u64 x.1 x.2.2.1 ∧ x.2.2.1.length ≤ 9223372036854775807) (n := lp) (fun i hi => by
      obtain ⟨l, m, y, hy, hc⟩ := he i hi
      obtain ⟨ao, c, ws, q, k, b0, b1, c0, c1, c2, hr, hb⟩ := entry_of hy
      exact ⟨(ao, c, ws, q, k), b0, b1, (hc 0 (by decide)).trans c0, (hc 1 (by decide)).trans c1, (hc 2 (by decide)).trans c2, hr, hb⟩)
    exact ⟨fun i => (f i).1, fun i => (f i).2.1, fun i => (f i).2.2.1, fun i => (f i).2.2.2.1, fun i => (f i).2.2.2.2, fun _ => ⟨b, off, rfl, hb, hf⟩⟩
  · exact ⟨fun _ => none, fun _ => 0, fun _ => [], fun _ => 0, fun _ => 0, fun e => absurd e h0⟩

set_option maxRecDepth 100000 in
theorem lawE_lifted (os : Os) (started : os.Started) (H : Type) (enc : TypeId × Value → H) :
    ReturnsInHanded {} Yba.checked os 3 .any (Rows.lawS6235BWholeSpec.pre6 enc Yba.prog Yba.f3 Rows.lawS6235BWholeRow.domain false) (Rows.lawS6235BWholeSpec.post enc Yba.prog Yba.f3 false true false false) := by
  refine returnsInHanded_of_change (C := Yba.checked) Yba.ownE started (by kernel_rfl) Yba.func3
    (ChangeSpec.witness6 (enc := enc) (C := Yba.checked) false ⟨#[], #[.int .u8 0, .slice none 0 0, .int .u8 0, .slice none 0 0, .int .u64 0, .int .i8 0], []⟩ 8 (by kernel_rfl) (by kernel_rfl) (by kernel_rfl) (by kernel_rfl)) ?_
  intro W base args ds gs before hval0 hW hcnd _
  have hval : ∀ (j : Nat) t v, Yba.f3.params[j]? = some t → args[j]? = some v → Value.okWide Yba.prog W .any base t v := hval0
  have hW' := hW
  obtain ⟨p, q, hA0, hV, rfl, hfz, hnd⟩ := hW
  have hA : DataW.TrodAll enc Yba.prog W 0 (fun _ => true) true Yba.f3.params.toList args.toList ds p := hA0
  rw [Yba.params3] at hA hval
  obtain ⟨v0, vs0, d0, ds0, p0, q0, hargs, rfl, rfl, h0, r0⟩ := trodAll_cons hA
  obtain ⟨v1, vs1, d1, ds1, p1, q1, rfl, rfl, rfl, h1, r1⟩ := trodAll_cons r0
  obtain ⟨v2, vs2, d2, ds2, p2, q2, rfl, rfl, rfl, h2, r2⟩ := trodAll_cons r1
  obtain ⟨v3, vs3, d3, ds3, p3, q3, rfl, rfl, rfl, h3, r3⟩ := trodAll_cons r2
  obtain ⟨v4, vs4, d4, ds4, p4, q4, rfl, rfl, rfl, h4, r4⟩ := trodAll_cons r3
  obtain ⟨v5, vs5, d5, ds5, p5, q5, rfl, rfl, rfl, h5, r5⟩ := trodAll_cons r4
  obtain ⟨rfl, rfl, rfl⟩ := trodAll_nil r5
  obtain rfl : args = #[v0, v1, v2, v3, v4, v5] := by cases args; simp_all
  obtain ⟨rfl, rfl⟩ := trodVars_none hV
  obtain ⟨wx, rfl, rfl, rfl, ww⟩ := open_int Yba.underlying5 (hval 0 5 v0 rfl rfl) h0
  obtain ⟨ae, le, ce, rfl⟩ := okWide_slice Yba.underlying22 (hval 1 22 v1 rfl rfl)
  obtain ⟨pick, rfl, rfl, rfl, wp⟩ := open_int Yba.underlying5 (hval 2 5 v2 rfl rfl) h2
  obtain ⟨ak, nk, ck, rfl⟩ := okWide_slice Yba.underlying23 (hval 3 23 v3 rfl rfl)
  obtain ⟨hx, rfl, rfl, rfl, wh⟩ := open_int Yba.underlying24 (hval 4 24 v4 rfl rfl) h4
  obtain ⟨ct, rfl, rfl, rfl, wc⟩ := open_int Yba.underlying25 (hval 5 25 v5 rfl rfl) h5
  have k1 := h1
  have k3 := h3
  have lt1 : ∀ x ∈ p1, x.block < W.heap.size := by obtain ⟨m, hm⟩ := k1; exact DataW.trod_lt m _ _ _ hm
  have lt3 : ∀ x ∈ p3, x.block < W.heap.size := by obtain ⟨m, hm⟩ := k3; exact DataW.trod_lt m _ _ _ hm
  obtain ⟨ea, ec, ew, ef, ect, hargsE⟩ := argsE_of h1
  obtain ⟨kl, hkl, hkr, hkn, _⟩ : ∃ l : List Int, l.length = nk ∧ Reads W .u64 ak l ∧ (ak = none → nk = 0 ∧ ck = 0) ∧ nk ≤ 9223372036854775807 := by obtain ⟨fuel, hf⟩ := h3; exact words_of hf
  subst hkl
  clear hA0 hval0
  have bw := ww
  have bp := wp
  have bh := wh
  simp [Lit.wf, IntKind.min, IntKind.max, IntKind.signed, IntKind.bits] at bw bp bh
  refine (lawE_any W wx pick hx ct ae ak le ce ck ea ec ew ef ect kl hargsE hkr hkn bw.1 bw.2 bp.1 bp.2 bh.1 bh.2).mono fun e W' ⟨he, bel⟩ => ?_
  subst he
  exact ⟨_, rfl, _, _, _, [], _, [], hW', trodAll_mk1 (shut_bool Yba.underlying4 _), (trodAll_cons_mk (shut_int Yba.underlying5 ww) (trodAll_cons_mk (Below.trod Yba.laidOutE (by kernel_rfl) (of_decide_eq_true (by kernel_rfl)) k1 bel lt1) (trodAll_cons_mk (shut_int Yba.underlying5 wp) (trodAll_cons_mk (Below.trod Yba.laidOutE (by kernel_rfl) (of_decide_eq_true (by kernel_rfl)) k3 bel lt3) (trodAll_cons_mk (shut_int Yba.underlying24 wh) (trodAll_cons_mk (shut_int Yba.underlying25 wc) trodAll_mk0)))))), rfl, bel.frame _, fun h => by cases h⟩

/-- THE STATEMENT. -/
theorem findWhole_holds : Rows.LawS6235BWholeSaid :=
  OpenClaim.holds_of_wide 3 Yba.f3 rfl rfl rfl rfl rfl rfl rfl ⟨rfl, rfl, rfl, rfl, rfl⟩ rfl rfl rfl rfl rfl (by kernel_rfl) Yba.func3 (by kernel_rfl)
    (of_decide_eq_true (by kernel_rfl)) (by unfold Func.isWrapper; first | (rw [if_pos (by decide +kernel)]; kernel_rfl) | (rw [if_neg (by decide +kernel)]; exact ⟨rfl, rfl⟩))
    (fun os started H enc _ => lawE_lifted os started H enc)
end Go.Proofs.Ybulkdyci
