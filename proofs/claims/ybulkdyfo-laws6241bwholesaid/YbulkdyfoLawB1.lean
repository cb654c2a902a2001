import Derived.Test.YbulkdyfoPushG
import Derived.Test.YbulkdyfoPop2
import Derived.Test.YbulkdyfoIsHeap
namespace Go.Proofs.Ybulkdyfo
open Go.RowKit

theorem QSt.keeps {bad : Nat → Prop} {w w' : World} {Q o base : Nat} {cQ : Array Value} {ar ah : Option Addr} {cr ch head pushed : Nat} {run heap : List Itm} (h : QSt w Q o base cQ ar ah cr ch head pushed run heap) (k : Keeps bad w w') (hQ : ¬ bad Q)
    (hR : ∀ b, (Value.slice ar run.length cr).ownBlock = some b → ¬ bad b) (hH : ∀ b, (Value.slice ah heap.length ch).ownBlock = some b → ¬ bad b) : QSt w' Q o base cQ ar ah cr ch head pushed run heap :=
  ⟨k.blk h.blk hQ, h.c0, h.c1, h.c2, h.c3, k.own h.ownR hR, k.own h.ownH hH, h.apart, h.lt, Nat.le_trans h.hbase k.size⟩

theorem QSt.kept {w w' : World} {Q o base : Nat} {cQ : Array Value} {ar ah : Option Addr} {cr ch head pushed : Nat} {run heap : List Itm} (h : QSt w Q o base cQ ar ah cr ch head pushed run heap) (k : Keeps (fun _ => False) w w') : QSt w' Q o base cQ ar ah cr ch head pushed run heap :=
  h.keeps k id (fun _ _ => id) (fun _ _ => id)

/-- The queue that the script builds, behind k steps. -/
structure B1 (w wq : World) (k : Nat) (cQ : Array Value) (ar ah : Option Addr) (cr ch head pushed : Nat) (run heap : List Itm) : Prop where
  st : QSt wq w.heap.size 0 (w.heap.size + 1) cQ ar ah cr ch head pushed run heap
  hh : head < run.length ∨ head = 0
  lr : run.length ≤ k
  lh : heap.length ≤ k
  lp : pushed ≤ k
  below : Below w.heap.size w wq

theorem b1_start (w : World) : B1 w (w.alloc (.cells #[.slice none 0 0, .int .i64 0, .slice none 0 0, .int .i64 0] 31)) 0 #[.slice none 0 0, .int .i64 0, .slice none 0 0, .int .i64 0] none none 0 0 0 0 [] [] :=
  ⟨⟨Blk.new _ _ _, rfl, rfl, rfl, rfl, ⟨by simp [icells], .inl ⟨rfl, rfl⟩⟩, ⟨by simp [icells], .inl ⟨rfl, rfl⟩⟩, by simp [Value.ownBlock], by omega, by simp⟩, .inr rfl, by simp, by simp, by simp, Keeps.below (Keeps.alloc _ _ _) (Nat.le_refl _)⟩

theorem b1_below {w wr w1 w4 : World} {k : Nat} {cQ : Array Value} {ar ah : Option Addr} {cr ch head pushed head' pushed' : Nat} {run heap run' heap' : List Itm} (h : B1 w wr k cQ ar ah cr ch head pushed run heap) (k1 : Keeps (fun _ => False) wr w1)
    (hP : Pushed w1 w4 w.heap.size 0 (w.heap.size + 1) cQ (.slice ar run.length cr) (.slice ah heap.length ch) head' pushed' run' heap') : Below w.heap.size w w4 := by
  refine h.below.trans (Keeps.below (Keeps.trans (k1.mono (bad' := fun k => w.heap.size ≤ k) (fun _ _ e => e.elim)) (hP.keeps.mono (fun b _ e => ?_))) h.below.size)
  rcases e with e | e | e
  · omega
  · have := h.st.ownR.lt _ e; omega
  · have := h.st.ownH.lt _ e; omega

theorem b1_push {w wr w1 w4 : World} {k : Nat} {cQ : Array Value} {ar ah : Option Addr} {cr ch head pushed head' : Nat} {run heap run' heap' : List Itm} {key v : Int} (h : B1 w wr k cQ ar ah cr ch head pushed run heap) (k1 : Keeps (fun _ => False) wr w1)
    (hres : (ToRun head run key ∧ RunTo head run ⟨key, pushed, v⟩ head' run' ∧ heap' = heap) ∨ (¬ ToRun head run key ∧ head' = head ∧ run' = run ∧ heap' = siftUp heap.length (heap ++ [⟨key, pushed, v⟩]) heap.length ⟨key, pushed, v⟩))
    (hP : Pushed w1 w4 w.heap.size 0 (w.heap.size + 1) cQ (.slice ar run.length cr) (.slice ah heap.length ch) head' (pushed + 1) run' heap') :
    ∃ cQ' ar' ah' cr' ch', B1 w w4 (k + 1) cQ' ar' ah' cr' ch' head' (pushed + 1) run' heap' := by
  obtain ⟨cQ', ar', ah', cr', ch', hst, _, _, _⟩ := hP.st
  have h1 := h.hh
  have h2 := h.lr
  have h3 := h.lh
  have h4 := h.lp
  refine ⟨cQ', ar', ah', cr', ch', hst, ?_, ?_, ?_, by omega, b1_below h k1 hP⟩
  · rcases hres with ⟨_, ⟨rfl, rfl⟩ | ⟨rfl, rfl⟩, _⟩ | ⟨_, rfl, rfl, _⟩
    · simp; omega
    · exact .inr rfl
    · exact h1
  · rcases hres with ⟨_, ⟨_, rfl⟩ | ⟨_, rfl⟩, _⟩ | ⟨_, _, rfl, _⟩
    · simp; omega
    · simp; omega
    · omega
  · rcases hres with ⟨_, _, rfl⟩ | ⟨_, _, _, rfl⟩
    · omega
    · rw [siftUp_len]; simp; omega

theorem b1_pop {w wr w1 w4 : World} {k : Nat} {cQ : Array Value} {ar ah : Option Addr} {cr ch head pushed : Nat} {run heap : List Itm} (h : B1 w wr k cQ ar ah cr ch head pushed run heap) (k1 : Keeps (fun _ => False) wr w1)
    (hP : Popped w1 w4 w.heap.size 0 (w.heap.size + 1) cQ (.slice ar run.length cr) (.slice ah heap.length ch) pushed run.length heap.length) :
    ∃ cQ' ar' ah' cr' ch' head' run' heap', B1 w w4 (k + 1) cQ' ar' ah' cr' ch' head' pushed run' heap' := by
  obtain ⟨head', run', heap', e1, e2, e3, hQ⟩ := hP.st
  obtain ⟨cQ', ar', ah', cr', ch', hst, _, _, _⟩ := hQ.st
  have h2 := h.lr
  have h3 := h.lh
  have h4 := h.lp
  exact ⟨cQ', ar', ah', cr', ch', head', run', heap', hst, e1, by omega, by omega, by omega, b1_below h k1 hQ⟩

theorem b1_skip {w wr w1 : World} {k : Nat} {cQ : Array Value} {ar ah : Option Addr} {cr ch head pushed : Nat} {run heap : List Itm} (h : B1 w wr k cQ ar ah cr ch head pushed run heap) (k1 : Keeps (fun _ => False) wr w1) :
    B1 w w1 (k + 1) cQ ar ah cr ch head pushed run heap := by
  have h2 := h.lr
  have h3 := h.lh
  have h4 := h.lp
  exact ⟨h.st.kept k1, h.hh, by omega, by omega, by omega, h.below.trans (Keeps.below (k1.mono (bad' := fun k => w.heap.size ≤ k) (fun _ _ e => e.elim)) h.below.size)⟩
end Go.Proofs.Ybulkdyfo
