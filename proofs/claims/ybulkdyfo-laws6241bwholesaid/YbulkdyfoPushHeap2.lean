import Derived.Test.YbulkdyfoPushHeap
namespace Go.Proofs.Ybulkdyfo
open Go.RowKit

theorem srel_start {w w1 w2 : World} {Q o base g cap I : Nat} {cQ1 : Array Value} {ar ah : Option Addr} {cr ch head pushed : Nat} {run heap : List Itm} {x : Itm} {ob : Obj}
    (hp : QSt w1 Q o base cQ1 ar ah cr ch head pushed run heap) (hI : Blk w1 I #[.int .i64 x.key, .int .i64 x.order, .int .i64 x.value] 59) (hIw : I = w.heap.size) (hbase : base ≤ w.heap.size)
    (hk : Keeps (fun k => k = Q ∨ (Value.slice ah heap.length ch).ownBlock = some k) w w1) (hlt : (Value.slice ah heap.length ch).ownBlock ≠ some I)
    (hown : w2.ownsRow base 59 3 (.slice (some ⟨g, 0, none⟩) (heap.length + 1) cap) (heap.length + 1) (icells heap ++ icell x)) (hg : (w1.alloc ob).grownBy w2 (Value.slice ah heap.length ch).ownBlock)
    (hat : (Value.slice ah heap.length ch).ownBlock = some g ∨ g = w1.heap.size + 1) :
    SRel w w2 Q o base g cap I cQ1 (.slice ah heap.length ch) heap.length heap x heap.length (heap ++ [x]) := by
  have hQI : Q ≠ I := by have := hp.lt; omega
  have hQlt := hp.blk.lt
  have hIlt := hI.lt
  have hsz := hk.size
  have hQH : some Q ≠ (Value.slice ah heap.length ch).ownBlock := fun e => by have := hp.ownH.lt _ e.symm; have := hp.lt; omega
  refine ⟨?_, by simp, rfl, ?_, ?_, ?_, ?_, ?_, ?_⟩
  · rw [icells_snoc]; exact hown
  · exact (hI.alloc ob).grown hg (Ne.symm hlt)
  · exact (hp.blk.alloc ob).grown hg hQH
  · exact (hk.trans (Keeps.alloc _ w1 ob)).trans (Keeps.grown hg (fun k e => .inr e))
  · rintro rfl
    rcases hat with e | e
    · exact hlt e
    · omega
  · rintro rfl
    rcases hat with e | e
    · exact hQH e.symm
    · omega
  · rcases hat with e | e
    · exact .inl e
    · exact .inr (by omega)

theorem srel_end {w wr : World} {Q o base g cap I : Nat} {cQ cQ1 : Array Value} {ar ah : Option Addr} {cr ch head pushed : Nat} {run heap : List Itm} {x : Itm} {i : Nat} {hs : List Itm}
    (h0 : QSt w Q o base cQ ar ah cr ch head pushed run heap) (hc1 : cQ1 = cQ.setIfInBounds (o + 3) (.int .i64 ((pushed : Int) + 1)))
    (h : SRel w wr Q o base g cap I cQ1 (.slice ah heap.length ch) heap.length heap x i hs) (him : i < heap.length + 1) (hst : siftUp i hs i x = hs.set i x) :
    Pushed w ((((wr.setCell ⟨g, i * 3, none⟩ (.int .i64 x.key)).setCell ⟨g, i * 3 + 1, none⟩ (.int .i64 x.order)).setCell ⟨g, i * 3 + 2, none⟩ (.int .i64 x.value)).setCell ⟨Q, o + 2, none⟩ (.slice (some ⟨g, 0, none⟩) (heap.length + 1) cap))
      Q o base cQ (.slice ar run.length cr) (.slice ah heap.length ch) head (pushed + 1) run (siftUp heap.length (heap ++ [x]) heap.length x) := by
  obtain ⟨s1, s2, s3, s4⟩ := h.set i him x
  rw [← hst, h.res] at s1
  have hsz : o + 3 < cQ.size := (Array.getElem?_eq_some_iff.1 h0.c3).1
  have hlen : (siftUp heap.length (heap ++ [x]) heap.length x).length = heap.length + 1 := by rw [siftUp_len]; simp
  have hgQ := h.gQ
  have hRQ : ∀ k, (Value.slice ar run.length cr).ownBlock = some k → ¬ (k = Q ∨ (Value.slice ah heap.length ch).ownBlock = some k) := fun k e => by
    rintro (rfl | e2)
    · have := h0.ownR.lt _ e; have := h0.lt; omega
    · exact h0.apart k e e2
  have k5 : Keeps (fun k => k = Q ∨ (Value.slice ah heap.length ch).ownBlock = some k) w ((((wr.setCell ⟨g, i * 3, none⟩ (.int .i64 x.key)).setCell ⟨g, i * 3 + 1, none⟩ (.int .i64 x.order)).setCell ⟨g, i * 3 + 2, none⟩ (.int .i64 x.value)).setCell ⟨Q, o + 2, none⟩ (.slice (some ⟨g, 0, none⟩) (heap.length + 1) cap)) :=
    s4.trans (Keeps.set _ _ _ (fun _ => .inl rfl))
  subst hc1
  refine ⟨⟨_, ar, some ⟨g, 0, none⟩, cr, cap, ⟨s3.set_same _ _, ?_, ?_, ?_, ?_, ?_, ?_, ?_, h0.lt, ?_⟩, ?_, fun k e => .inl e, ?_⟩, ?_⟩
  · rw [Array.getElem?_setIfInBounds_ne (by omega), Array.getElem?_setIfInBounds_ne (by omega)]; exact h0.c0
  · rw [Array.getElem?_setIfInBounds_ne (by omega), Array.getElem?_setIfInBounds_ne (by omega)]; exact h0.c1
  · rw [Array.getElem?_setIfInBounds_self_of_lt (by simp; omega), hlen]
  · rw [Array.getElem?_setIfInBounds_ne (by omega), Array.getElem?_setIfInBounds_self_of_lt hsz]; simp
  · exact k5.own h0.ownR hRQ
  · rw [hlen]
    exact ownsRow_set_other s1 (by simpa [Value.ownBlock] using hgQ) _
  · intro k e e2
    simp [Value.ownBlock] at e2
    subst e2
    rcases h.at_ with e3 | e3
    · exact h0.apart _ e e3
    · have := h0.ownR.lt _ e
      omega
  · have := k5.size; have := h0.hbase; omega
  · intro j hj
    rw [Array.getElem?_setIfInBounds_ne (by omega), Array.getElem?_setIfInBounds_ne (by omega)]
  · intro k e
    simp [Value.ownBlock] at e
    subst e
    exact h.at_
  · exact k5.mono (fun k _ e => e.imp id .inr)

theorem grown_plain {a b c : World} {row : Option Nat} (h : a.grownBy c row) (h1 : a.os = b.os) (h2 : a.tape = b.tape) (h3 : a.output = b.output) (h4 : a.heap = b.heap) : b.grownBy c row :=
  ⟨h.os.trans h1, h.tape.trans h2, h.output.trans h3, by rw [← h4]; exact h.size, by rw [← h4]; exact h.block⟩

theorem SRel.item {w wr : World} {Q o base g cap I : Nat} {cQ : Array Value} {vh : Value} {m : Nat} {heap : List Itm} {x : Itm} {i : Nat} {hs : List Itm} (h : SRel w wr Q o base g cap I cQ vh m heap x i hs) (j : Nat) (hj : j < m + 1) :
    ∃ p, hs[j]? = some p ∧ wr.cell? ⟨g, j * 3, none⟩ = some (.int .i64 p.key) ∧ wr.cell? ⟨g, j * 3 + 1, none⟩ = some (.int .i64 p.order) ∧ wr.cell? ⟨g, j * 3 + 2, none⟩ = some (.int .i64 p.value) := by
  have hl := h.len
  exact ⟨hs[j]'(by omega), by simp, own_item h.own j (by omega)⟩
end Go.Proofs.Ybulkdyfo
