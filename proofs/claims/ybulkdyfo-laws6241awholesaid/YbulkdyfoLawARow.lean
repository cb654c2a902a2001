/-
  LawS6241AWhole: the row.
-/
import Derived.Test.YbulkdyfoLawA
import Derived.ProofKit
import Derived.OpenShut
import Derived.SizedLaws
namespace Go.Proofs.Ybulkdyfo
open Go.ChangeShapes Go.WideShapes Go.ChangeAt Go.RowKit

theorem Yba.ownA : ownKnob Yba.prog.godebug = none := by kernel_rfl
theorem Yba.laidOutA : laidOutB Yba.prog = true := by kernel_rfl
theorem Yba.cellsA28 : Yba.prog.cellsOf 28 = 3 := by kernel_rfl
theorem Yba.cellsA5 : Yba.prog.cellsOf 5 = 1 := by kernel_rfl
theorem Yba.cellsA4 : Yba.prog.cellsOf 4 = 1 := by kernel_rfl
theorem Yba.cellsA3 : Yba.prog.cellsOf 3 = 1 := by kernel_rfl
theorem Yba.cellsA2 : Yba.prog.cellsOf 2 = 1 := by kernel_rfl

theorem pickN {α : Type} [Inhabited α] {n : Nat} {P : Nat → α → Prop} (h : ∀ i, i < n → ∃ a, P i a) : ∃ f : Nat → α, ∀ i, i < n → P i (f i) :=
  ⟨fun i => if hi : i < n then (h i hi).choose else default, fun i hi => by simp only [dif_pos hi]; exact (h i hi).choose_spec⟩

theorem slice_at {H : Type} {enc : TypeId × Value → H} {W : World} {t e : TypeId} {n : Nat} {ao : Option Addr} {len cap fuel : Nat} {x : DataW H × List MemPlace} (ht : Yba.prog.underlying t = some (.slice e)) (hc : Yba.prog.cellsOf e = n) (hn : 0 < n)
    (h : DataW.trod enc Yba.prog W 0 (fun _ => true) true fuel t [.slice ao len cap] = some x) (hpos : 0 < len) :
    ∃ b off, ao = some ⟨b, off, none⟩ ∧ b < W.heap.size ∧ ∀ i, i < len → ∃ l m y, DataW.trod enc Yba.prog W 0 (fun _ => true) true m e l = some y ∧ ∀ j, j < n → W.cell? ⟨b, off + i * n + j, none⟩ = l[j]? := by
  rcases DataW.trod_slice ht h with ⟨h0, _⟩ | ⟨a, len', cap', elems, rest, m, _, hcs, _, hb, hl, hm, hlen, hel, _, _⟩
  · simp at h0; omega
  · simp at hcs
    obtain ⟨rfl, rfl, rfl⟩ := hcs
    have each : ∀ i, i < len → ∃ l y, W.cells? 0 (a.add (i * n)) n = some l ∧ DataW.trod enc Yba.prog W 0 (fun _ => true) true m e l = some y := by
      intro i hi
      have := hel i hi
      rw [hc, List.getElem?_eq_getElem (by omega), Option.bind_eq_some_iff] at this
      obtain ⟨l, h1, h2⟩ := this
      exact ⟨l, _, h1, h2⟩
    obtain ⟨b, off, spot⟩ := a
    have hs : spot = none := by
      obtain ⟨l, y, h1, _⟩ := each 0 hpos
      obtain ⟨_, hl, hc⟩ := World.cells?_some h1
      have h2 := hc 0 hn
      rw [List.getElem?_eq_getElem (by omega)] at h2
      simpa [Addr.add] using World.cell?_spot h2
    subst hs
    refine ⟨b, off, rfl, ?_, fun i hi => ?_⟩
    · obtain ⟨l, y, h1, _⟩ := each 0 hpos
      rw [Addr.add_lit] at h1
      exact World.cells?_block h1 hn
    · obtain ⟨l, y, h1, h2⟩ := each i hi
      obtain ⟨_, _, hc⟩ := World.cells?_some h1
      refine ⟨l, m, y, h2, fun j hj => ?_⟩
      have := hc j hj
      rwa [Addr.add_lit, Addr.add_lit] at this

theorem one_at {l : List Value} {o : Nat} {v : Value} (h : (l.drop o).take 1 = [v]) : l[o]? = some v := by
  have := congrArg (fun x => x[0]?) h
  simpa using this

/-- One push's three cells, out of its reading. -/
theorem push_of {H : Type} {enc : TypeId × Value → H} {W : World} {m : Nat} {l : List Value} {y : DataW H × List MemPlace} (h : DataW.trod enc Yba.prog W 0 (fun _ => true) true m 28 l = some y) :
    ∃ (q k v : Int), 0 ≤ q ∧ q ≤ 255 ∧ l[0]? = some (.int .u8 q) ∧ l[1]? = some (.int .i64 k) ∧ l[2]? = some (.int .i64 v) := by
  obtain ⟨xs, n, _, _, _, hlen, hf⟩ := DataW.trod_struct Yba.underlying28 h
  have hx : ∀ i, i < 3 → ∃ y, xs[i]? = some y := fun i hi => ⟨xs[i]'(by rw [hlen]; simpa using hi), by simp⟩
  have f0 : DataW.trod enc Yba.prog W 0 (fun _ => true) true n 5 ((l.drop 0).take (Yba.prog.cellsOf 5)) = xs[0]? := hf 0 _ rfl
  have f1 : DataW.trod enc Yba.prog W 0 (fun _ => true) true n 2 ((l.drop 1).take (Yba.prog.cellsOf 2)) = xs[1]? := hf 1 _ rfl
  have f2 : DataW.trod enc Yba.prog W 0 (fun _ => true) true n 3 ((l.drop 2).take (Yba.prog.cellsOf 3)) = xs[2]? := hf 2 _ rfl
  obtain ⟨y0, h0⟩ := hx 0 (by decide)
  obtain ⟨y1, h1⟩ := hx 1 (by decide)
  obtain ⟨y2, h2⟩ := hx 2 (by decide)
  rw [h0, Yba.cellsA5] at f0
  rw [h1, Yba.cellsA2] at f1
  rw [h2, Yba.cellsA3] at f2
  obtain ⟨q, hq, _, wq⟩ := DataW.trod_int Yba.underlying5 f0
  obtain ⟨k, hk, _⟩ := DataW.trod_int Yba.underlying2 f1
  obtain ⟨v, hv, _⟩ := DataW.trod_int Yba.underlying3 f2
  simp [Lit.wf, IntKind.min, IntKind.max, IntKind.signed, IntKind.bits] at wq
  exact ⟨q, k, v, wq.1, wq.2, one_at hq, one_at hk, one_at hv⟩

theorem args_of {H : Type} {enc : TypeId × Value → H} {W : World} {ap al ad : Option Addr} {lp cp ll cl ld cd : Nat} {d1 d2 d3 : DataW H} {p1 p2 p3 : List MemPlace}
    (h1 : DataW.Trod enc Yba.prog W 0 (fun _ => true) true 22 (.slice ap lp cp) d1 p1) (h2 : DataW.Trod enc Yba.prog W 0 (fun _ => true) true 23 (.slice al ll cl) d2 p2) (h3 : DataW.Trod enc Yba.prog W 0 (fun _ => true) true 24 (.slice ad ld cd) d3 p3) :
    ∃ (pq pk pv : Nat → Int) (lv : Nat → Bool) (dv : Nat → Int), ArgsA W ap lp pq pk pv al ll lv ad ld dv := by
  obtain ⟨f1, h1⟩ := h1
  obtain ⟨f2, h2⟩ := h2
  obtain ⟨f3, h3⟩ := h3
  have hp : ∃ f : Nat → Int × Int × Int, 0 < lp → ∃ b off, ap = some ⟨b, off, none⟩ ∧ b < W.heap.size ∧ ∀ i, i < lp → 0 ≤ (f i).1 ∧ (f i).1 ≤ 255 ∧ W.cell? ⟨b, off + i * 3, none⟩ = some (.int .u8 (f i).1) ∧ W.cell? ⟨b, off + i * 3 + 1, none⟩ = some (.int .i64 (f i).2.1) ∧ W.cell? ⟨b, off + i * 3 + 2, none⟩ = some (.int .i64 (f i).2.2) := by
    by_cases h0 : 0 < lp
    · obtain ⟨b, off, rfl, hb, he⟩ := slice_at Yba.underlying22 Yba.cellsA28 (by decide) h1 h0
      obtain ⟨f, hf⟩ := pickN (P := fun i (x : Int × Int × Int) => 0 ≤ x.1 ∧ x.1 ≤ 255 ∧ W.cell? ⟨b, off + i * 3, none⟩ = some (.int .u8 x.1) ∧ W.cell? ⟨b, off + i * 3 + 1, none⟩ = some (.int .i64 x.2.1) ∧ W.cell? ⟨b, off + i * 3 + 2, none⟩ = some (.int .i64 x.2.2)) (n := lp) (fun i hi => by
        obtain ⟨l, m, y, hy, hc⟩ := he i hi
        obtain ⟨q, k, v, b0, b1, c0, c1, c2⟩ := push_of hy
        exact ⟨(q, k, v), b0, b1, (hc 0 (by decide)).trans c0, (hc 1 (by decide)).trans c1, (hc 2 (by decide)).trans c2⟩)
      exact ⟨f, fun _ => ⟨b, off, rfl, hb, hf⟩⟩
    · exact ⟨fun _ => (0, 0, 0), fun e => absurd e h0⟩
  have hl : ∃ f : Nat → Bool, 0 < ll → ∃ b off, al = some ⟨b, off, none⟩ ∧ b < W.heap.size ∧ ∀ i, i < ll → W.cell? ⟨b, off + i, none⟩ = some (.bool (f i)) := by
    by_cases h0 : 0 < ll
    · obtain ⟨b, off, rfl, hb, he⟩ := slice_at Yba.underlying23 Yba.cellsA4 (by decide) h2 h0
      obtain ⟨f, hf⟩ := pickN (P := fun i (x : Bool) => W.cell? ⟨b, off + i, none⟩ = some (.bool x)) (n := ll) (fun i hi => by
        obtain ⟨l, m, y, hy, hc⟩ := he i hi
        obtain ⟨v, rfl, _⟩ := DataW.trod_bool Yba.underlying4 hy
        exact ⟨v, by simpa using hc 0 (by decide)⟩)
      exact ⟨f, fun _ => ⟨b, off, rfl, hb, hf⟩⟩
    · exact ⟨fun _ => false, fun e => absurd e h0⟩
  have hd : ∃ f : Nat → Int, 0 < ld → ∃ b off, ad = some ⟨b, off, none⟩ ∧ b < W.heap.size ∧ ∀ i, i < ld → W.cell? ⟨b, off + i, none⟩ = some (.int .i64 (f i)) := by
    by_cases h0 : 0 < ld
    · obtain ⟨b, off, rfl, hb, he⟩ := slice_at Yba.underlying24 Yba.cellsA3 (by decide) h3 h0
      obtain ⟨f, hf⟩ := pickN (P := fun i (x : Int) => W.cell? ⟨b, off + i, none⟩ = some (.int .i64 x)) (n := ld) (fun i hi => by
        obtain ⟨l, m, y, hy, hc⟩ := he i hi
        obtain ⟨v, rfl, _⟩ := DataW.trod_int Yba.underlying3 hy
        exact ⟨v, by simpa using hc 0 (by decide)⟩)
      exact ⟨f, fun _ => ⟨b, off, rfl, hb, hf⟩⟩
    · exact ⟨fun _ => 0, fun e => absurd e h0⟩
  obtain ⟨f, hp⟩ := hp
  obtain ⟨lv, hl⟩ := hl
  obtain ⟨dv, hd⟩ := hd
  exact ⟨fun i => (f i).1, fun i => (f i).2.1, fun i => (f i).2.2, lv, dv, hp, hl, hd⟩

/-- A slice's length, out of the reach. -/
theorem len_of {H : Type} {enc : TypeId × Value → H} {W : World} {t e : TypeId} {ao : Option Addr} {len cap : Nat} {d : DataW H} {p : List MemPlace} {k : Nat} (h : DataW.Trod enc Yba.prog W 0 (fun _ => true) true t (.slice ao len cap) d p)
    (ht : Yba.prog.underlying t = some (.slice e)) (hk : Yba.prog.bytesOf e = k + 1) (hs : ∀ elems spare, d = .slice elems spare → (elems.length + spare.length) * Yba.prog.bytesOf e ≤ reachBytes) : len ≤ 140737488351232 := by
  obtain ⟨fuel, h⟩ := h
  rcases DataW.trod_slice ht h with ⟨h0, _⟩ | ⟨a, len', cap', elems, rest, m, _, hcs, hx, hb, hl, hm, hlen, hel, _, _⟩
  · simp [Value.cells] at h0
    omega
  · simp [Value.cells] at hcs
    obtain ⟨rfl, rfl, rfl⟩ := hcs
    have := hs _ _ (congrArg Prod.fst hx)
    rw [hk] at this
    simp only [List.length_map, hlen, reachBytes, Nat.mul_add, Nat.add_mul] at this
    omega

set_option maxRecDepth 100000 in
theorem lawA_lifted (os : Os) (started : os.Started) (H : Type) (enc : TypeId × Value → H) :
    ReturnsInHanded {} Yba.checked os 3 .any (Rows.lawS6241AWholeSpec.pre6 enc Yba.prog Yba.f3 Rows.lawS6241AWholeRow.domain false) (Rows.lawS6241AWholeSpec.post enc Yba.prog Yba.f3 false true false false) := by
  refine returnsInHanded_of_change_sized (C := Yba.checked) Yba.ownA started (by kernel_rfl) Yba.func3
    (ChangeSpec.witness6 (enc := enc) (C := Yba.checked) false ⟨#[], #[.int .u8 0, .slice none 0 0, .slice none 0 0, .slice none 0 0, .int .i64 0, .int .u8 0, .int .i64 0], []⟩ 8 (by kernel_rfl) (by kernel_rfl) (by kernel_rfl) (by kernel_rfl)) ?_
  intro W base args ds gs before hval0 hW hcnd hsz0 _
  have hsz : (DataW.weightsEach Yba.prog (Yba.f3.params.toList ++ Rows.lawS6241AWholeSpec.plain.varTypes Yba.prog) (ds ++ gs)).all (· ≤ reachBytes) = true := hsz0
  have hval : ∀ (j : Nat) t v, Yba.f3.params[j]? = some t → args[j]? = some v → Value.okWide Yba.prog W .any base t v := hval0
  have hW' := hW
  obtain ⟨p, q, hA0, hV, rfl, hfz, hnd⟩ := hW
  have hA : DataW.TrodAll enc Yba.prog W 0 (fun _ => true) true Yba.f3.params.toList args.toList ds p := hA0
  rw [Yba.params3] at hA hval hsz
  obtain ⟨v0, vs0, d0, ds0, p0, q0, hargs, rfl, rfl, h0, r0⟩ := trodAll_cons hA
  obtain ⟨v1, vs1, d1, ds1, p1, q1, rfl, rfl, rfl, h1, r1⟩ := trodAll_cons r0
  obtain ⟨v2, vs2, d2, ds2, p2, q2, rfl, rfl, rfl, h2, r2⟩ := trodAll_cons r1
  obtain ⟨v3, vs3, d3, ds3, p3, q3, rfl, rfl, rfl, h3, r3⟩ := trodAll_cons r2
  obtain ⟨v4, vs4, d4, ds4, p4, q4, rfl, rfl, rfl, h4, r4⟩ := trodAll_cons r3
  obtain ⟨v5, vs5, d5, ds5, p5, q5, rfl, rfl, rfl, h5, r5⟩ := trodAll_cons r4
  obtain ⟨v6, vs6, d6, ds6, p6, q6, rfl, rfl, rfl, h6, r6⟩ := trodAll_cons r5
  obtain ⟨rfl, rfl, rfl⟩ := trodAll_nil r6
  obtain rfl : args = #[v0, v1, v2, v3, v4, v5, v6] := by cases args; simp_all
  obtain ⟨rfl, rfl⟩ := trodVars_none hV
  obtain ⟨nqx, rfl, rfl, rfl, wn⟩ := open_int Yba.underlying5 (hval 0 5 v0 rfl rfl) h0
  obtain ⟨ap, lp, cp, rfl⟩ := okWide_slice Yba.underlying22 (hval 1 22 v1 rfl rfl)
  obtain ⟨al, ll, cl, rfl⟩ := okWide_slice Yba.underlying23 (hval 2 23 v2 rfl rfl)
  obtain ⟨ad, ld, cd, rfl⟩ := okWide_slice Yba.underlying24 (hval 3 24 v3 rfl rfl)
  obtain ⟨slot, rfl, rfl, rfl, ws⟩ := open_int Yba.underlying3 (hval 4 3 v4 rfl rfl) h4
  obtain ⟨cx, rfl, rfl, rfl, wc⟩ := open_int Yba.underlying5 (hval 5 5 v5 rfl rfl) h5
  obtain ⟨at_, rfl, rfl, rfl, wa⟩ := open_int Yba.underlying3 (hval 6 3 v6 rfl rfl) h6
  have k1 := h1
  have k2 := h2
  have k3 := h3
  have lt1 : ∀ x ∈ p1, x.block < W.heap.size := by obtain ⟨m, hm⟩ := k1; exact DataW.trod_lt m _ _ _ hm
  have lt2 : ∀ x ∈ p2, x.block < W.heap.size := by obtain ⟨m, hm⟩ := k2; exact DataW.trod_lt m _ _ _ hm
  have lt3 : ∀ x ∈ p3, x.block < W.heap.size := by obtain ⟨m, hm⟩ := k3; exact DataW.trod_lt m _ _ _ hm
  obtain ⟨pq, pk, pv, lv, dv, hargsA⟩ := args_of h1 h2 h3
  have s1 : lp ≤ 140737488351232 := len_of (k := 23) h1 Yba.underlying22 (by kernel_rfl) fun elems spare e => by subst e; exact sized_slice hsz (j := 1) (t := 22) (e := 28) rfl rfl Yba.underlying22
  have s2 : ll ≤ 140737488351232 := len_of (k := 0) h2 Yba.underlying23 (by kernel_rfl) fun elems spare e => by subst e; exact sized_slice hsz (j := 2) (t := 23) (e := 4) rfl rfl Yba.underlying23
  have s3 : ld ≤ 140737488351232 := len_of (k := 7) h3 Yba.underlying24 (by kernel_rfl) fun elems spare e => by subst e; exact sized_slice hsz (j := 3) (t := 24) (e := 3) rfl rfl Yba.underlying24
  clear hA0 hval0
  have bn := wn
  have bc := wc
  simp [Lit.wf, IntKind.min, IntKind.max, IntKind.signed, IntKind.bits] at bn bc
  refine (lawA_any W nqx cx slot at_ ap al ad lp cp ll cl ld cd pq pk pv lv dv hargsA bn.1 bn.2 bc.1 bc.2 s1 s2 s3).mono fun e W' ⟨he, bel⟩ => ?_
  subst he
  exact ⟨_, rfl, _, _, _, [], _, [], hW', trodAll_mk1 (shut_bool Yba.underlying4 _), (trodAll_cons_mk (shut_int Yba.underlying5 wn) (trodAll_cons_mk (Below.trod Yba.laidOutA (by kernel_rfl) (of_decide_eq_true (by kernel_rfl)) k1 bel lt1) (trodAll_cons_mk (Below.trod Yba.laidOutA (by kernel_rfl) (of_decide_eq_true (by kernel_rfl)) k2 bel lt2) (trodAll_cons_mk (Below.trod Yba.laidOutA (by kernel_rfl) (of_decide_eq_true (by kernel_rfl)) k3 bel lt3) (trodAll_cons_mk (shut_int Yba.underlying3 ws) (trodAll_cons_mk (shut_int Yba.underlying5 wc) (trodAll_cons_mk (shut_int Yba.underlying3 wa) trodAll_mk0))))))), rfl, bel.frame _, fun h => by cases h⟩

/-- THE STATEMENT. -/
theorem waitWhole_holds : Rows.LawS6241AWholeSaid :=
  OpenClaim.holds_of_wide 3 Yba.f3 rfl rfl rfl rfl rfl rfl rfl ⟨rfl, rfl, rfl, rfl, rfl⟩ rfl rfl rfl rfl rfl (by kernel_rfl) Yba.func3 (by kernel_rfl)
    (of_decide_eq_true (by kernel_rfl)) (by unfold Func.isWrapper; first | (rw [if_pos (by decide +kernel)]; kernel_rfl) | (rw [if_neg (by decide +kernel)]; exact ⟨rfl, rfl⟩))
    (fun os started H enc _ => lawA_lifted os started H enc)
end Go.Proofs.Ybulkdyfo
