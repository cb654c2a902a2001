import Derived.Test.YbulkdyciAdd
import Derived.Maps.OwnSet
namespace Go.Proofs.Ybulkdyci
open Go.RowKit Go.Maps

theorem law24 : Keyed Yba.prog 24 := int_keyed Yba.underlying24
theorem zero21 (w : World) : (zeroValue 21).run Yba.prog w = .ok (.int .i32 0) w := by kernel_rfl

/-- The index: a map of u64 to i32. -/
def OwnM (w : World) (M n : Nat) (D : DataW Unit) : Prop := w.ownsMap Yba.prog 24 (plainElem Yba.prog 21) M n D

theorem OwnM.kept {bad : Nat → Prop} {w w' : World} {M n : Nat} {D : DataW Unit} (h : OwnM w M n D) (k : Keeps bad w w') (hb : ¬ bad M) : OwnM w' M n D := by
  have hlt := World.ownsMap.lt h
  obtain ⟨es, clock, h1, h2⟩ := h
  exact ⟨es, clock, (k.block M hlt hb).trans h1, h2⟩

theorem own1_free {w : World} {base : Nat} {e : TypeId} {g n c : Nat} {xs : List Value} (h : w.ownsRow base e 1 (.slice (some ⟨g, 0, none⟩) n c) n xs) (j : Nat) : w.frozen? ⟨g, j, none⟩ = false := by
  rcases h.2 with ⟨e1, _⟩ | ⟨g', cap', cur, e1, hb, hh, _⟩
  · cases e1
  · simp at e1
    obtain ⟨rfl, rfl⟩ := e1
    have : Blk w g cur e := hh
    exact this.free j

theorem own1_at {w : World} {base : Nat} {e : TypeId} {ao : Option Addr} {n c : Nat} {xs : List Value} (h : w.ownsRow base e 1 (.slice ao n c) n xs) (hp : 0 < n) : ∃ g, ao = some ⟨g, 0, none⟩ ∧ ∀ (j : Nat) v, xs[j]? = some v → w.cell? ⟨g, j, none⟩ = some v := by
  obtain ⟨g, cap, e, _⟩ := h.form hp
  simp at e
  obtain ⟨rfl, rfl⟩ := e
  refine ⟨g, rfl, fun j v hv => ?_⟩
  have := h.cells (g := g) rfl j v hv
  rwa [Addr.add_lit, Nat.zero_add] at this

theorem K5.notM {w : World} {K base W M : Nat} {cK : Array Value} {R : Nat → Row} (h : K5 w K base W cK R) (hM : M < base) (hMK : M ≠ K) : ¬ Of K R M := by
  rintro (e | ⟨j, hj, e⟩)
  · exact hMK e
  · have := h.lo hj e
    omega

/-- What 'link' leaves. -/
structure Linked (w w' : World) (K base W M n : Nat) (R : Nat → Row) (D : DataW Unit) (i : Nat) (fi : Int) (v : Int) : Prop where
  st : ∃ cK' R', K5 w' K base W cK' R' ∧ (R' 4).l = (R 4).l.set i (.int .i32 v) ∧ (∀ j, j < 4 → R' j = R j) ∧ ∀ j, j < 5 → ∀ b, (R' j).val.ownBlock = some b → (R j).val.ownBlock = some b ∨ w.heap.size ≤ b
  map : OwnM w' M (n + 1) (D.put (.int .u64 fi) (.lit (.int .i32 i)))
  keeps : Keeps (fun b => Of K R b ∨ b = M) w w'

theorem linked_of {w w2 w3 : World} {K base W M n i : Nat} {R R2 : Nat → Row} {D : DataW Unit} {fi v : Int} (hM : M < base) (hMK : M ≠ K) (t : Turned w w2 K base W R R2) (hl : (R2 4).l = (R 4).l.set i (.int .i32 v)) (ho : ∀ j, j < 4 → R2 j = R j)
    (hm : OwnM w3 M (n + 1) (D.put (.int .u64 fi) (.lit (.int .i32 i)))) (g : w2.grownBy w3 (some M)) : Linked w w3 K base W M n R D i fi v := by
  obtain ⟨cK', h2⟩ := t.st
  have k3 : Keeps (fun b => b = M) w2 w3 := Keeps.grown g (fun k e => by simpa using e.symm)
  refine ⟨⟨cK', R2, h2.kept k3 ?_, hl, ho, t.at_⟩, hm, (t.keeps.mono (fun _ _ e => .inl e)).trans (k3.mono (fun _ _ e => .inr e))⟩
  rintro b (e | ⟨j, hj, e⟩) e2
  · omega
  · have := h2.lo hj e; omega

set_option maxHeartbeats 1000000 in
set_option maxRecDepth 100000 in
theorem link_any (w : World) (K base W M n : Nat) (cK : Array Value) (R : Nat → Row) (hK : K5 w K base W cK R) (D : DataW Unit) (hm : OwnM w M n D) (hM : M < base) (hMK : M ≠ K) (hn : n ≤ 100000) (i : Nat) (hi : i ≤ 4096) (fi : Int) (f0 : 0 ≤ fi) (f1 : fi ≤ 3)
    (hf : (R 1).l[i]? = some (.int .u64 fi)) (hc : i < (R 4).l.length) (hl : ∀ j, j < 5 → (R j).l.length ≤ 100000) :
    Calls Yba.prog 6 #[.pointer (some ⟨K, 0, none⟩), .map (some M), .int .i64 i] w fun e w' => e = .returned (.tuple #[]) ∧ ∃ v, Linked w w' K base W M n R D i fi v ∧ (Maps.has D (.int .u64 fi) = false → v = -1) ∧ (Maps.has D (.int .u64 fi) = true → D.atKey (.int .u64 fi) (.lit (.int .i32 0)) = .lit (.int .i32 v)) := by
  have m1 : (R 1).l.length ≤ 100000 := hl 1 (by omega)
  have m4 : (R 4).l.length ≤ 100000 := hl 4 (by omega)
  have hif : i < (R 1).l.length := (List.getElem?_eq_some_iff.1 hf).1
  obtain ⟨g, hg, hcell⟩ := own1_at (hK.own 4 (by omega)) (by omega)
  have hgo : (R 4).ao = some ⟨g, 0, none⟩ := hg
  obtain ⟨u, hu⟩ : ∃ u, (R 4).l[i]? = some u := ⟨_, List.getElem?_eq_getElem hc⟩
  have c0 := hcell i u hu
  have d5 : w.cell? ⟨K, 5, none⟩ = some (.slice (R 4).ao (R 4).l.length (R 4).cap) := (hK.blk.cell 5).trans (hK.cs 4 (by omega))
  rw [hgo] at d5
  have fr : w.frozen? ⟨g, i, none⟩ = false := by
    have := hK.own 4 (by omega)
    simp only [Row.val, hgo] at this
    exact own1_free this i
  have t1 := hK.store 4 (by omega) g i hgo (.int .i32 (-1))
  have i1 : (0 : Int) ≤ (i : Int) := by omega
  have i2 : (i : Int) < ((R 4).l.length : Int) := by omega
  have i3 : (i : Int) < ((R 1).l.length : Int) := by omega
  have wff : (Lit.int .u64 fi).wf = true := by simp [Lit.wf, IntKind.min, IntKind.max, IntKind.signed, IntKind.bits]; omega
  have wfi : (Lit.int .i32 (i : Int)).wf = true := by simp [Lit.wf, IntKind.min, IntKind.max, IntKind.signed, IntKind.bits]; omega
  have hm1 : OwnM (w.setCell ⟨g, i, none⟩ (.int .i32 (-1))) M n D := hm.kept (t1.keeps) (hK.notM hM hMK)
  go_enter Yba.func6, Yba.ntmps6
  go_upto_region 1 with fail
  obtain ⟨w1, hw1⟩ : ∃ x, x = w.setCell ⟨g, i, none⟩ (.int .i32 (-1)) := ⟨_, rfl⟩
  rw [← hw1] at t1 hm1 ⊢
  clear hw1 c0 d5 fr hcell
  obtain ⟨R1, hR1⟩ : ∃ r, r = (fun j => if j = 4 then ⟨(R 4).ao, (R 4).cap, (R 4).l.set i (.int .i32 (-1))⟩ else R j : Nat → Row) := ⟨_, rfl⟩
  rw [← hR1] at t1
  have e4 : R1 4 = ⟨(R 4).ao, (R 4).cap, (R 4).l.set i (.int .i32 (-1))⟩ := by rw [hR1]; simp
  have ej : ∀ j, j < 4 → R1 j = R j := fun j hj => by rw [hR1]; simp; omega
  have e1 : R1 1 = R 1 := ej 1 (by omega)
  clear hR1
  obtain ⟨cK1, h1⟩ := t1.st
  have d2 := (h1.blk.cell 2).trans (h1.cs 1 (by omega))
  have o1 := h1.own 1 (by omega)
  rw [e1] at d2 o1
  simp only [Row.val] at d2 o1
  obtain ⟨gf, hgf, hcf⟩ := own1_at o1 (by omega)
  rw [hgf] at d2
  have cf := hcf i _ hf
  have d5 := (h1.blk.cell 5).trans (h1.cs 4 (by omega))
  have o4 := h1.own 4 (by omega)
  rw [e4] at d5 o4
  simp only [Row.val, List.length_set, hgo] at d5 o4
  have fr := own1_free o4 i
  obtain ⟨g', hg', hc4⟩ := own1_at o4 (by omega)
  simp at hg'
  subst hg'
  have c4 := hc4 i (.int .i32 (-1)) (by simp [hc])
  have hm1' : w1.ownsMap Yba.prog 24 (plainElem Yba.prog 21) M n D := hm1
  have hkf : g ≠ gf := fun e => h1.sep 4 1 (by omega) (by omega) (by omega) g (by simp [e4, Row.val, hgo, Value.ownBlock]) (by simp [e1, Row.val, hgf, Value.ownBlock, e])
  have hgK : g ≠ K := fun e => by have := h1.lo (i := 4) (b := g) (by omega) (by simp [e4, Row.val, hgo, Value.ownBlock]); have := h1.lt; omega
  have HJ : Hid (∀ j, j < 4 → R1 j = R j) := ej
  have HE4 : Hid (R1 4 = ⟨(R 4).ao, (R 4).cap, (R 4).l.set i (.int .i32 (-1))⟩) := e4
  clear hcf hc4 o1 o4 ej e1 hu hf hK hl
  cases hh : Maps.has D (.int .u64 fi)
  · have HL : Hid (∀ w3, OwnM w3 M (n + 1) (D.put (.int .u64 fi) (.lit (.int .i32 i))) → w1.grownBy w3 (some M) → Linked w w3 K base W M n R D i fi (-1)) := fun w3 hm3 g3 =>
      linked_of hM hMK t1 (by rw [HE4.out]) HJ.out hm3 g3
    clear h1 t1 e4 hg
    go_upto_region 2 with (at_lookup; refine wpList_lookup_own_ok_int _ rfl _ _ 32 rfl 24 21 .i32 law24 Yba.underlying32 Yba.underlying21 (zero21 _) M n D rfl hm1' _ _ rfl (keyOf_int_mk Yba.underlying24 wff) ?_; intro c hat hwc)
    clear hat
    go_upto_region 4 with fail
    go_wp2_with (at_mapUpdate; refine wpList_mapUpdate_own _ rfl _ _ _ 32 rfl 24 21 law24 Yba.underlying32 _ M n D rfl hm1' (by unfold maxLen; omega) _ _ _ rfl rfl (keyOf_int_mk Yba.underlying24 wff) _ [] (plainElem_int Yba.underlying21 wfi) ?_; intro w3 hm3 g3)
    (first | go_end0 | refine bodyPost_ret (results_none rfl _ _ _) rfl ?_)
    exact ⟨rfl, HL.out _ hm3 g3⟩
  · go_upto_region 2 with (at_lookup; refine wpList_lookup_own_ok_int _ rfl _ _ 32 rfl 24 21 .i32 law24 Yba.underlying32 Yba.underlying21 (zero21 _) M n D rfl hm1' _ _ rfl (keyOf_int_mk Yba.underlying24 wff) ?_; intro c hat hwc)
    have t2 := h1.store 4 (by omega) g i (by rw [e4]; exact hgo) (.int .i32 c)
    have hm2 : (w1.setCell ⟨g, i, none⟩ (.int .i32 c)).ownsMap Yba.prog 24 (plainElem Yba.prog 21) M n D := hm1.kept t2.keeps (h1.notM hM hMK)
    have HL : Hid (∀ w3, OwnM w3 M (n + 1) (D.put (.int .u64 fi) (.lit (.int .i32 i))) → (w1.setCell ⟨g, i, none⟩ (.int .i32 c)).grownBy w3 (some M) → Linked w w3 K base W M n R D i fi c) := fun w3 hm3 g3 =>
      linked_of hM hMK (t1.trans t2) (by simp [e4]) (fun j hj => by have := HJ.out j hj; simp only [show ¬ j = 4 by omega, if_false]; exact this) hm3 g3
    have HA : Hid (D.atKey (.int .u64 fi) (.lit (.int .i32 0)) = .lit (.int .i32 c)) := hat
    clear hat h1 t1 t2 e4 hg
    go_upto_region 4 with fail
    go_wp2_with (at_mapUpdate; refine wpList_mapUpdate_own _ rfl _ _ _ 32 rfl 24 21 law24 Yba.underlying32 _ M n D rfl hm2 (by unfold maxLen; omega) _ _ _ rfl rfl (keyOf_int_mk Yba.underlying24 wff) _ [] (plainElem_int Yba.underlying21 wfi) ?_; intro w3 hm3 g3)
    (first | go_end0 | refine bodyPost_ret (results_none rfl _ _ _) rfl ?_)
    exact ⟨rfl, c, HL.out _ hm3 g3, HA.out⟩
end Go.Proofs.Ybulkdyci
