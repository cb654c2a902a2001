import Derived.Test.YbulkdyfoLawB2
namespace Go.Proofs.Ybulkdyfo
open Go.RowKit

/-- The three cells of an item at place o of block g. -/
def At3 (w : World) (g o : Nat) (x : Itm) : Prop := w.cell? ⟨g, o, none⟩ = some (.int .i64 x.key) ∧ w.cell? ⟨g, o + 1, none⟩ = some (.int .i64 x.order) ∧ w.cell? ⟨g, o + 2, none⟩ = some (.int .i64 x.value)

theorem At3.kept {w w' : World} {g o : Nat} {x : Itm} (h : At3 w g o x) (k : Keeps (fun _ => False) w w') : At3 w' g o x := ⟨kcell k h.1 id, kcell k h.2.1 id, kcell k h.2.2 id⟩

structure B3 (w wq : World) (gH gh I : Nat) (x : Itm) (ch : Nat) (heap heap' : List Itm) : Prop where
  d2 : wq.cell? ⟨w.heap.size, 2, none⟩ = some (.slice (some ⟨gh, 0, none⟩) (heap.length + 1) ch)
  hp : ∀ i y, heap'[i]? = some y → At3 wq gh (i * 3) y
  ho : ∀ i y, heap[i]? = some y → At3 wq gH (i * 3) y
  it : At3 wq I 0 x
  below : Below w.heap.size w wq

theorem B3.kept {w wq wq' : World} {gH gh I ch : Nat} {x : Itm} {heap heap' : List Itm} (h : B3 w wq gH gh I x ch heap heap') (k : Keeps (fun _ => False) wq wq') : B3 w wq' gH gh I x ch heap heap' :=
  ⟨kcell k h.d2 id, fun i y hy => (h.hp i y hy).kept k, fun i y hy => (h.ho i y hy).kept k, h.it.kept k, h.below.trans (Keeps.below (k.mono (bad' := fun b => w.heap.size ≤ b) (fun _ _ e => e.elim)) h.below.size)⟩

theorem b3_of {w wq : World} {gR gH I : Nat} {key v : Int} {head pushed : Nat} {run heap : List Itm} {cQ : Array Value} {ar ah : Option Addr} {cr ch head' : Nat} {run' heap' : List Itm} (h : B2 w wq gR gH I key v head pushed run heap cQ ar ah cr ch head' run' heap') (hl : heap'.length = heap.length + 1) :
    ∃ gh, B3 w wq gH gh I ⟨key, pushed, v⟩ ch heap heap' := by
  obtain ⟨gh, rfl, hg⟩ := own_at h.st.ownH (by omega)
  have d2 := (h.st.blk.cell 2).trans h.st.c2
  rw [hl] at d2
  exact ⟨gh, d2, hg, fun i y hy => row_item h.bH i y hy, ⟨h.bI.cell 0, h.bI.cell 1, h.bI.cell 2⟩, h.below⟩

def num (q : Nat) : Value := .int .i64 q

/-- The way up in the making. -/
structure UpRel (w9 wq : World) (n : Nat) (done : List Nat) (j : Nat) (ao : Option Addr) (c : Nat) : Prop where
  own : wq.ownsRow w9.heap.size 3 1 (.slice ao done.length c) done.length (done.map num)
  path : pathUp n = done ++ pathUp j
  len : done.length + j ≤ n
  kept : Keeps (fun _ => False) w9 wq

theorem up_start (w9 : World) (n : Nat) : UpRel w9 w9 n [] n none 0 := ⟨⟨by simp, .inl ⟨rfl, rfl⟩⟩, rfl, by simp, Keeps.refl _ _⟩

theorem up_kept {w9 wq w' : World} {n j c : Nat} {done : List Nat} {ao : Option Addr} {ob : Obj} (h : UpRel w9 wq n done j ao c) (hg : (wq.alloc ob).grownBy w' (Value.slice ao done.length c).ownBlock) : Keeps (fun _ => False) w9 w' :=
  (h.kept.trans (Keeps.alloc _ _ ob)).then (Keeps.grown (bad := fun k => (Value.slice ao done.length c).ownBlock = some k) hg (fun k e => e)) (fun i hi e => by have := (h.own.lt _ e).1; omega)

theorem up_step {w9 wq w' : World} {n j c g cap : Nat} {done : List Nat} {ao : Option Addr} {ob : Obj} (h : UpRel w9 wq n done j ao c) (hj : j ≠ 0) (hg : (wq.alloc ob).grownBy w' (Value.slice ao done.length c).ownBlock)
    (own : w'.ownsRow w9.heap.size 3 1 (.slice (some ⟨g, 0, none⟩) (done.length + 1) cap) (done.length + 1) (done.map num ++ [num j])) : UpRel w9 w' n (done ++ [j]) ((j - 1) / 2) (some ⟨g, 0, none⟩) cap := by
  have hl := h.len
  refine ⟨by simpa using own, ?_, by simp; omega, up_kept h hg⟩
  rw [h.path, pathUp_pos hj]
  simp

/-- The way up, whole. -/
structure UpAll (w9 wq : World) (n gU cap : Nat) : Prop where
  up : ∀ i q, (rootFirst n)[i]? = some q → wq.cell? ⟨gU, (rootFirst n).length - 1 - i, none⟩ = some (num q)
  kept : Keeps (fun _ => False) w9 wq
  len : (rootFirst n).length ≤ n + 1

theorem up_end {w9 wq w' : World} {n c g cap : Nat} {done : List Nat} {ao : Option Addr} {ob : Obj} (h : UpRel w9 wq n done 0 ao c) (hg : (wq.alloc ob).grownBy w' (Value.slice ao done.length c).ownBlock)
    (own : w'.ownsRow w9.heap.size 3 1 (.slice (some ⟨g, 0, none⟩) (done.length + 1) cap) (done.length + 1) (done.map num ++ [num 0])) : UpAll w9 w' n g cap ∧ done.length + 1 = (rootFirst n).length := by
  have hl := h.len
  have hp : pathUp n = done ++ [0] := by rw [h.path, pathUp_zero]
  have hlen : (rootFirst n).length = done.length + 1 := by simp [rootFirst, hp]
  refine ⟨⟨fun i q hq => ?_, up_kept h hg, by omega⟩, hlen.symm⟩
  have hi := (List.getElem?_eq_some_iff.1 hq).1
  rw [rootFirst, List.getElem?_reverse (by simpa [rootFirst] using hi)] at hq
  have e : (done.map num ++ [num 0])[(rootFirst n).length - 1 - i]? = some (num q) := by
    rw [show done.map num ++ [num 0] = (pathUp n).map num by rw [hp]; simp, List.getElem?_map]
    rw [show (rootFirst n).length = (pathUp n).length by simp [rootFirst], hq]
    rfl
  have := own.cells (g := g) rfl _ _ e
  rwa [Addr.add_lit, Nat.zero_add] at this

theorem made_one (z : Value) (n i : Nat) (hi : i < n) : (madeCells #[z] (n * 1))[i]? = some z := by
  simp [madeCells, hi, Nat.mod_one]

theorem blk_made {w : World} {base e s g n : Nat} {xs : Array Value} (h : w.ownsRow base e s (.slice (some ⟨g, 0, none⟩) n n) n xs.toList) : Blk w g xs e := by
  rcases h.2 with ⟨e1, _⟩ | ⟨g', cap', cur, e1, hb, hh, hn, hm, hs, ht⟩
  · cases e1
  · simp at e1
    obtain ⟨rfl, rfl⟩ := e1
    rw [List.take_of_length_le (by simp [hs])] at ht
    have : cur = xs := Array.toList_inj.1 ht
    subst this
    exact hh

theorem kept_grown {w w' : World} (g : w.grownBy w' none) : Keeps (fun _ => False) w w' := Keeps.grown g (fun k e => by simp at e)

/-- 'rootFirst' in the making. -/
structure F6 (w9 wq : World) (n gU gF i : Nat) : Prop where
  up : ∀ i q, (rootFirst n)[i]? = some q → wq.cell? ⟨gU, (rootFirst n).length - 1 - i, none⟩ = some (num q)
  row : ∃ cF, Blk wq gF cF 3 ∧ cF.size = (rootFirst n).length ∧ ∀ j q, j < i → (rootFirst n)[j]? = some q → cF[j]? = some (num q)
  kept : Keeps (fun _ => False) w9 wq
  ne : gU < gF ∧ w9.heap.size ≤ gF

theorem f6_start {w9 wq w' : World} {n gU cap : Nat} (h : UpAll w9 wq n gU cap) (g : wq.grownBy w' none)
    (own : w'.ownsRow 0 3 1 (.slice (some ⟨wq.heap.size, 0, none⟩) (rootFirst n).length (rootFirst n).length) (rootFirst n).length (madeCells #[.int .i64 0] ((rootFirst n).length * 1)).toList) : F6 w9 w' n gU wq.heap.size 0 := by
  have k1 := kept_grown g
  have hlen := rootFirst_len n
  refine ⟨fun i q hq => kcell k1 (h.up i q hq) id, ⟨_, blk_made own, by simp [size_madeCells], fun j q hj => by omega⟩, h.kept.trans k1, ?_, h.kept.size⟩
  obtain ⟨q, hq⟩ : ∃ q, (rootFirst n)[0]? = some q := ⟨_, List.getElem?_eq_getElem hlen⟩
  exact World.block_lt_of_cell? wq _ (h.up 0 q hq)

theorem f6_step {w9 wq : World} {n gU gF i q : Nat} (h : F6 w9 wq n gU gF i) (hq : (rootFirst n)[i]? = some q) : F6 w9 (wq.setCell ⟨gF, i, none⟩ (num q)) n gU gF (i + 1) := by
  obtain ⟨cF, b, sz, v⟩ := h.row
  obtain ⟨n1, n2⟩ := h.ne
  have hi := (List.getElem?_eq_some_iff.1 hq).1
  have k1 : Keeps (fun b => b = gF) wq (wq.setCell ⟨gF, i, none⟩ (num q)) := Keeps.set _ _ _ (fun _ => rfl)
  refine ⟨fun j q' hq' => kcell k1 (h.up j q' hq') (by simp; omega), ⟨_, b.set_same _ _, by simpa using sz, fun j q' hj hq' => ?_⟩, h.kept.then k1 (fun b hb e => by omega), h.ne⟩
  by_cases e : j = i
  · subst e
    rw [hq] at hq'
    simp at hq'
    subst hq'
    rw [Array.getElem?_setIfInBounds_self_of_lt (by omega)]
  · rw [Array.getElem?_setIfInBounds_ne (Ne.symm e)]
    exact v j q' (by omega) hq'

/-- 'onPath' in the making. -/
structure F7 (w9 wq : World) (n gF gO i : Nat) : Prop where
  rf : ∀ i q, (rootFirst n)[i]? = some q → wq.cell? ⟨gF, i, none⟩ = some (num q)
  row : ∃ cO, Blk wq gO cO 4 ∧ ∀ q, q ≤ n → cO[q]? = some (.bool (decide (q ∈ (rootFirst n).take i)))
  kept : Keeps (fun _ => False) w9 wq
  ne : gF < gO ∧ w9.heap.size ≤ gO

theorem f7_start {w9 wq w' : World} {n gU gF i : Nat} (h : F6 w9 wq n gU gF i) (hi : (rootFirst n).length ≤ i) (g : wq.grownBy w' none)
    (own : w'.ownsRow 0 4 1 (.slice (some ⟨wq.heap.size, 0, none⟩) (n + 1) (n + 1)) (n + 1) (madeCells #[.bool false] ((n + 1) * 1)).toList) : F7 w9 w' n gF wq.heap.size 0 := by
  have k1 := kept_grown g
  obtain ⟨cF, b, sz, v⟩ := h.row
  refine ⟨fun j q hq => kcell k1 ((b.cell j).trans (v j q (by have := (List.getElem?_eq_some_iff.1 hq).1; omega) hq)) id, ⟨_, blk_made own, fun q hq => ?_⟩, h.kept.trans k1, b.lt, h.kept.size⟩
  rw [made_one _ _ _ (by omega)]
  simp

theorem f7_step {w9 wq : World} {n gF gO i q : Nat} (h : F7 w9 wq n gF gO i) (hq : (rootFirst n)[i]? = some q) : F7 w9 (wq.setCell ⟨gO, q, none⟩ (.bool true)) n gF gO (i + 1) := by
  obtain ⟨cO, b, v⟩ := h.row
  obtain ⟨n1, n2⟩ := h.ne
  have hqn := rootFirst_le hq
  have hsz : q < cO.size := (Array.getElem?_eq_some_iff.1 (v q hqn)).1
  have k1 : Keeps (fun b => b = gO) wq (wq.setCell ⟨gO, q, none⟩ (.bool true)) := Keeps.set _ _ _ (fun _ => rfl)
  refine ⟨fun j q' hq' => kcell k1 (h.rf j q' hq') (by simp; omega), ⟨_, b.set_same _ _, fun q' hq' => ?_⟩, h.kept.then k1 (fun b hb e => by omega), h.ne⟩
  have ht : (rootFirst n).take (i + 1) = (rootFirst n).take i ++ [q] := by rw [List.take_add_one, hq]; rfl
  by_cases e : q' = q
  · subst e
    rw [Array.getElem?_setIfInBounds_self_of_lt hsz, ht]
    simp
  · rw [Array.getElem?_setIfInBounds_ne (Ne.symm e), v q' hq', ht]
    simp [e]

/-- Both rows. -/
structure F8 (wq : World) (n gF gO : Nat) : Prop where
  rf : ∀ i q, (rootFirst n)[i]? = some q → wq.cell? ⟨gF, i, none⟩ = some (num q)
  on : ∀ q, q ≤ n → wq.cell? ⟨gO, q, none⟩ = some (.bool (decide (q ∈ rootFirst n)))

theorem F8.kept {wq w' : World} {n gF gO : Nat} (h : F8 wq n gF gO) (k : Keeps (fun _ => False) wq w') : F8 w' n gF gO :=
  ⟨fun i q hq => kcell k (h.rf i q hq) id, fun q hq => kcell k (h.on q hq) id⟩

theorem f8_of {w9 wq : World} {n gF gO i : Nat} (h : F7 w9 wq n gF gO i) (hi : (rootFirst n).length ≤ i) : F8 wq n gF gO := by
  obtain ⟨cO, b, v⟩ := h.row
  refine ⟨h.rf, fun q hq => ?_⟩
  have := (b.cell q).trans (v q hq)
  rwa [List.take_of_length_le hi] at this
end Go.Proofs.Ybulkdyfo
