import Derived.Test.YbulkdyfoLawB1
import Derived.Test.YbulkdyfoPath2
namespace Go.Proofs.Ybulkdyfo
open Go.RowKit

theorem B1.kept {w wr w1 : World} {k : Nat} {cQ : Array Value} {ar ah : Option Addr} {cr ch head pushed : Nat} {run heap : List Itm} (h : B1 w wr k cQ ar ah cr ch head pushed run heap) (k1 : Keeps (fun _ => False) wr w1) :
    B1 w w1 k cQ ar ah cr ch head pushed run heap :=
  ⟨h.st.kept k1, h.hh, h.lr, h.lh, h.lp, h.below.trans (Keeps.below (k1.mono (bad' := fun k => w.heap.size ≤ k) (fun _ _ e => e.elim)) h.below.size)⟩

theorem kept_copy {w w2 w3 : World} (g2 : w.grownBy w2 none) (k3 : Keeps (fun b => b = w.heap.size) w2 w3) : Keeps (fun _ => False) w w3 :=
  (Keeps.grown (bad := fun _ => False) g2 (fun k e => by simp at e)).then k3 (fun i hi e => by omega)

theorem cp_src {w : World} {base : Nat} {ao : Option Addr} {n c : Nat} {l : List Itm} (own : w.ownsRow base 59 3 (.slice ao n c) n (icells l)) (hp : 0 < n) : ∃ ad, ao = some ad ∧ ∀ j v, (icells l)[j]? = some v → w.cell? (ad.add j) = some v := by
  obtain ⟨g, cap, e, _⟩ := own.form hp
  simp at e
  obtain ⟨rfl, rfl⟩ := e
  refine ⟨_, rfl, fun j v hv => ?_⟩
  have := own_src own 0 j v (by simpa using hv)
  simpa using this

theorem splice_whole {cur cs : List Value} (h : cs.length = cur.length) : splice cur 0 cs = cs := by
  simp [splice, h]

/-- A row of items in a block of its own. -/
theorem row_item {w : World} {g : Nat} {l : List Itm} (h : Blk w g (icells l).toArray 59) (i : Nat) (x : Itm) (hx : l[i]? = some x) :
    w.cell? ⟨g, i * 3, none⟩ = some (.int .i64 x.key) ∧ w.cell? ⟨g, i * 3 + 1, none⟩ = some (.int .i64 x.order) ∧ w.cell? ⟨g, i * 3 + 2, none⟩ = some (.int .i64 x.value) := by
  obtain ⟨hi, rfl⟩ := List.getElem?_eq_some_iff.1 hx
  obtain ⟨h0, h1, h2⟩ := icells_at l i hi
  exact ⟨(h.cell _).trans (by simpa using h0), (h.cell _).trans (by simpa using h1), (h.cell _).trans (by simpa using h2)⟩

theorem row_own {w : World} {g : Nat} {l : List Itm} (h : Blk w g (icells l).toArray 59) (hm : l.length ≤ 2097152) : w.ownsRow 0 59 3 (.slice (some ⟨g, 0, none⟩) l.length l.length) l.length (icells l) :=
  own_of_blk h (Nat.zero_le _) (Nat.le_refl _) (by unfold maxLen; omega) (by simp [icells_len]) (by
    have e := icells_len l
    simp only [List.take_of_length_le (Nat.le_of_eq e)])

theorem own_at {w : World} {base : Nat} {ao : Option Addr} {n c : Nat} {l : List Itm} (own : w.ownsRow base 59 3 (.slice ao n c) n (icells l)) (hp : 0 < n) :
    ∃ g, ao = some ⟨g, 0, none⟩ ∧ ∀ i x, l[i]? = some x → w.cell? ⟨g, i * 3, none⟩ = some (.int .i64 x.key) ∧ w.cell? ⟨g, i * 3 + 1, none⟩ = some (.int .i64 x.order) ∧ w.cell? ⟨g, i * 3 + 2, none⟩ = some (.int .i64 x.value) := by
  obtain ⟨g, cap, e, _⟩ := own.form hp
  simp at e
  obtain ⟨rfl, rfl⟩ := e
  refine ⟨g, rfl, fun i x hx => ?_⟩
  obtain ⟨hi, rfl⟩ := List.getElem?_eq_some_iff.1 hx
  exact own_item own i hi

/-- What the law's checks read: the queue behind the push, and the copies of before it. -/
structure B2 (w wq : World) (gR gH I : Nat) (key v : Int) (head pushed : Nat) (run heap : List Itm) (cQ : Array Value) (ar ah : Option Addr) (cr ch head' : Nat) (run' heap' : List Itm) : Prop where
  st : QSt wq w.heap.size 0 (w.heap.size + 1) cQ ar ah cr ch head' (pushed + 1) run' heap'
  bR : Blk wq gR (icells run).toArray 59
  bH : Blk wq gH (icells heap).toArray 59
  bI : Blk wq I #[.int .i64 key, .int .i64 pushed, .int .i64 v] 59
  res : (ToRun head run key ∧ RunTo head run ⟨key, pushed, v⟩ head' run' ∧ heap' = heap) ∨ (¬ ToRun head run key ∧ head' = head ∧ run' = run ∧ heap' = siftUp heap.length (heap ++ [⟨key, pushed, v⟩]) heap.length ⟨key, pushed, v⟩)
  hh : head < run.length ∨ head = 0
  lr : run.length ≤ 4096
  lh : heap.length ≤ 4096
  lp : pushed ≤ 4096
  below : Below w.heap.size w wq

theorem b2_of {w wr w7 w8 : World} {gR gH I k : Nat} {key v : Int} {cQ : Array Value} {ar ah : Option Addr} {cr ch head pushed head' : Nat} {run heap run' heap' : List Itm} (h : B1 w wr k cQ ar ah cr ch head pushed run heap) (hk : k ≤ 4096) (k7 : Keeps (fun _ => False) wr w7)
    (bR : Blk w7 gR (icells run).toArray 59) (bH : Blk w7 gH (icells heap).toArray 59) (bI : Blk w7 I #[.int .i64 key, .int .i64 pushed, .int .i64 v] 59) (nR : wr.heap.size ≤ gR) (nH : wr.heap.size ≤ gH) (nI : wr.heap.size ≤ I)
    (hres : (ToRun head run key ∧ RunTo head run ⟨key, pushed, v⟩ head' run' ∧ heap' = heap) ∨ (¬ ToRun head run key ∧ head' = head ∧ run' = run ∧ heap' = siftUp heap.length (heap ++ [⟨key, pushed, v⟩]) heap.length ⟨key, pushed, v⟩))
    (hP : Pushed w7 w8 w.heap.size 0 (w.heap.size + 1) cQ (.slice ar run.length cr) (.slice ah heap.length ch) head' (pushed + 1) run' heap') :
    ∃ cQ' ar' ah' cr' ch', B2 w w8 gR gH I key v head pushed run heap cQ' ar' ah' cr' ch' head' run' heap' := by
  obtain ⟨cQ', ar', ah', cr', ch', hst, _, _, _⟩ := hP.st
  have hQ := h.st.blk.lt
  have nb : ∀ g, wr.heap.size ≤ g → ¬ (g = w.heap.size ∨ (Value.slice ar run.length cr).ownBlock = some g ∨ (Value.slice ah heap.length ch).ownBlock = some g) := by
    rintro g hg (e | e | e)
    · omega
    · have := h.st.ownR.lt _ e; omega
    · have := h.st.ownH.lt _ e; omega
  have h2 := h.lr
  have h3 := h.lh
  have h4 := h.lp
  exact ⟨cQ', ar', ah', cr', ch', hst, hP.keeps.blk bR (nb _ nR), hP.keeps.blk bH (nb _ nH), hP.keeps.blk bI (nb _ nI), hres, h.hh, by omega, by omega, by omega, b1_below h k7 hP⟩
end Go.Proofs.Ybulkdyfo
