import Derived.Test.YbulkdyfoAppend
import Derived.Test.YbulkdyfoSift
namespace Go.Proofs.Ybulkdyfo
open Go.RowKit

/-- How 'Push' leaves the queue. -/
structure Pushed (w w' : World) (Q o base : Nat) (cQ : Array Value) (vr vh : Value) (head pushed : Nat) (run heap : List Itm) : Prop where
  st : ∃ cQ' ar ah cr ch, QSt w' Q o base cQ' ar ah cr ch head pushed run heap ∧ (∀ i, i < o ∨ o + 4 ≤ i → cQ'[i]? = cQ[i]?) ∧
    (∀ k, (Value.slice ar run.length cr).ownBlock = some k → vr.ownBlock = some k ∨ w.heap.size ≤ k) ∧ (∀ k, (Value.slice ah heap.length ch).ownBlock = some k → vh.ownBlock = some k ∨ w.heap.size ≤ k)
  keeps : Keeps (fun k => k = Q ∨ vr.ownBlock = some k ∨ vh.ownBlock = some k) w w'

/-- The world behind the item's box and the counter's step. -/
theorem push_pre {w : World} {Q o base : Nat} {cQ : Array Value} {ar ah : Option Addr} {cr ch head pushed : Nat} {run heap : List Itm} (h : QSt w Q o base cQ ar ah cr ch head pushed run heap) (ob : Obj) (n : Nat) :
    QSt (((w.setCell ⟨Q, o + 3, none⟩ (.int .i64 ((pushed : Int) + 1))).alloc ob).drewN n) Q o base (cQ.setIfInBounds (o + 3) (.int .i64 ((pushed : Int) + 1))) ar ah cr ch head (pushed + 1) run heap := by
  have hQR : (Value.slice ar run.length cr).ownBlock ≠ some Q := fun e => by have := h.ownR.lt _ e; have := h.lt; omega
  have hQH : (Value.slice ah heap.length ch).ownBlock ≠ some Q := fun e => by have := h.ownH.lt _ e; have := h.lt; omega
  have hsz : o + 3 < cQ.size := (Array.getElem?_eq_some_iff.1 h.c3).1
  exact {
    blk := (h.blk.set_same (o + 3) _).alloc ob
    c0 := by rw [Array.getElem?_setIfInBounds_ne (by omega)]; exact h.c0
    c1 := by rw [Array.getElem?_setIfInBounds_ne (by omega)]; exact h.c1
    c2 := by rw [Array.getElem?_setIfInBounds_ne (by omega)]; exact h.c2
    c3 := by rw [Array.getElem?_setIfInBounds_self_of_lt hsz]; simp
    ownR := World.ownsRow.alloc (ownsRow_set_other h.ownR hQR _) ob
    ownH := World.ownsRow.alloc (ownsRow_set_other h.ownH hQH _) ob
    apart := h.apart
    lt := h.lt
    hbase := by simp [World.setCell]; have := h.hbase; omega }

theorem push_run_post {w w2 : World} {Q o base : Nat} {cQ : Array Value} {ar ah : Option Addr} {cr ch head pushed n : Nat} {run heap : List Itm} {ob : Obj} {x : Itm} (h : QSt w Q o base cQ ar ah cr ch head pushed run heap)
    (hA : Appended (((w.setCell ⟨Q, o + 3, none⟩ (.int .i64 ((pushed : Int) + 1))).alloc ob).drewN n) w2 Q o base (cQ.setIfInBounds (o + 3) (.int .i64 ((pushed : Int) + 1))) (.slice ar run.length cr) run x) :
    Pushed w w2 Q o base cQ (.slice ar run.length cr) (.slice ah heap.length ch) head (pushed + 1) (run ++ [x]) heap := by
  have hp := push_pre h ob n
  obtain ⟨g, cap, hb, hown, hat⟩ := hA.row
  have hsz : o + 3 < cQ.size := (Array.getElem?_eq_some_iff.1 h.c3).1
  have hs0 : (((w.setCell ⟨Q, o + 3, none⟩ (.int .i64 ((pushed : Int) + 1))).alloc ob).drewN n).heap.size = w.heap.size + 1 := by simp [World.setCell]
  rw [hs0] at hat
  have hHQ : ∀ k, (Value.slice ah heap.length ch).ownBlock = some k → ¬ (k = Q ∨ (Value.slice ar run.length cr).ownBlock = some k) := fun k e => by
    rintro (rfl | e2)
    · have := h.ownH.lt _ e; have := h.lt; omega
    · exact h.apart k e2 e
  refine ⟨⟨_, some ⟨g, 0, none⟩, ah, cap, ch, ⟨hb, ?_, ?_, ?_, ?_, ?_, ?_, ?_, h.lt, ?_⟩, ?_, ?_, fun k e => .inl e⟩, ?_⟩
  · rw [Array.getElem?_setIfInBounds_self_of_lt (by simp; omega)]; simp
  · rw [Array.getElem?_setIfInBounds_ne (by omega)]; exact hp.c1
  · rw [Array.getElem?_setIfInBounds_ne (by omega)]; exact hp.c2
  · rw [Array.getElem?_setIfInBounds_ne (by omega)]; exact hp.c3
  · simpa using hown
  · exact hA.keeps.own hp.ownH hHQ
  · intro k e
    simp [Value.ownBlock] at e
    subst e
    rcases hat with e2 | e2
    · exact h.apart _ e2
    · intro e3
      have := h.ownH.lt _ e3
      omega
  · have := hA.keeps.size; rw [hs0] at this; have := h.hbase; omega
  · intro i hi
    rw [Array.getElem?_setIfInBounds_ne (by omega), Array.getElem?_setIfInBounds_ne (by omega)]
  · intro k e
    simp [Value.ownBlock] at e
    subst e
    rcases hat with e2 | e2
    · exact .inl e2
    · exact .inr (by omega)
  · have k1 : Keeps (fun k => k = Q ∨ (Value.slice ar run.length cr).ownBlock = some k ∨ (Value.slice ah heap.length ch).ownBlock = some k) w (((w.setCell ⟨Q, o + 3, none⟩ (.int .i64 ((pushed : Int) + 1))).alloc ob).drewN n) :=
      ((Keeps.set _ _ _ (fun _ => .inl rfl)).trans (Keeps.alloc _ _ _)).trans (Keeps.drewN _ _ _)
    exact k1.then hA.keeps (fun i _ hi => hi.imp id .inl)

set_option maxHeartbeats 1000000 in
set_option maxRecDepth 100000 in
theorem push_run1 (w : World) (Q o base cr ch head pushed : Nat) (cQ : Array Value) (ar ah : Option Addr) (run heap : List Itm) (key v : Int) (h : QSt w Q o base cQ ar ah cr ch head pushed run heap)
    (hlen : run.length ≤ 2097152) (hpu : pushed ≤ 2097152) (hto : ((head : Int) == (run.length : Int)) = true) (hnc : ¬ (run.length = cr ∧ 0 < head ∧ run.length / 2 ≤ head)) :
    Calls Yba.prog 6 #[.pointer (some ⟨Q, o, none⟩), .int .i64 key, .int .i64 v] w fun e w' => e = .returned (.tuple #[]) ∧
      Pushed w w' Q o base cQ (.slice ar run.length cr) (.slice ah heap.length ch) head (pushed + 1) (run ++ [⟨key, pushed, v⟩]) heap := by
  have d0 := (h.blk.cell o).trans h.c0
  have d1 := (h.blk.cell (o + 1)).trans h.c1
  have d3 := (h.blk.cell (o + 3)).trans h.c3
  have f3 := h.blk.free (o + 3)
  have hQlt := h.blk.lt
  go_enter Yba.func6, Yba.ntmps6
  go_wp2
  go_quiet (fail)
  go_wp2_with fail
  have hp := push_pre h (.cells #[.int .i64 key, .int .i64 pushed, .int .i64 v] 59) nq
  refine (append_plain _ Q o base cr head _ _ run ⟨key, pushed, v⟩ hp.blk hp.c0 hp.c1 hp.ownR hp.lt hp.hbase hlen hnc).mono ?_
  rintro e w2 ⟨rfl, hA⟩
  have HP : Hid _ := push_run_post h hA
  clear hA hp
  go_wp2
  (first | go_end0 | refine bodyPost_ret (results_none rfl _ _ _) rfl ?_)
  exact ⟨rfl, HP.out⟩

set_option maxHeartbeats 1000000 in
set_option maxRecDepth 100000 in
theorem push_run2 (w : World) (Q o base cr ch head pushed : Nat) (cQ : Array Value) (ar ah : Option Addr) (run heap : List Itm) (key v : Int) (h : QSt w Q o base cQ ar ah cr ch head pushed run heap)
    (hlen : run.length ≤ 2097152) (hpu : pushed ≤ 2097152) (hto : ((head : Int) == (run.length : Int)) = false) (hpos : 0 < run.length) (kl : Int) (hlast : (run[run.length - 1]'(by omega)).key = kl) (hk : kl ≤ key) (hnc : ¬ (run.length = cr ∧ 0 < head ∧ run.length / 2 ≤ head)) :
    Calls Yba.prog 6 #[.pointer (some ⟨Q, o, none⟩), .int .i64 key, .int .i64 v] w fun e w' => e = .returned (.tuple #[]) ∧
      Pushed w w' Q o base cQ (.slice ar run.length cr) (.slice ah heap.length ch) head (pushed + 1) (run ++ [⟨key, pushed, v⟩]) heap := by
  have d0 := (h.blk.cell o).trans h.c0
  have d1 := (h.blk.cell (o + 1)).trans h.c1
  have d3 := (h.blk.cell (o + 3)).trans h.c3
  have f3 := h.blk.free (o + 3)
  have hQlt := h.blk.lt
  obtain ⟨g, hg⟩ : ∃ g, ar = some ⟨g, 0, none⟩ := by
    obtain ⟨g, cap, e, _⟩ := h.ownR.form (by omega)
    simp at e
    exact ⟨g, e.1⟩
  subst hg
  obtain ⟨l0, _, _⟩ := own_item h.ownR (run.length - 1) (by omega)
  rw [hlast] at l0
  have hgQ : g ≠ Q := fun e => by have := h.ownR.lt g rfl; have := h.lt; omega
  have hgW : g < w.heap.size := (h.ownR.lt g rfl).2
  have b1 : (0 : Int) ≤ (run.length : Int) - 1 := by omega
  have b2 : (run.length : Int) - 1 < (run.length : Int) := by omega
  go_enter Yba.func6, Yba.ntmps6
  go_wp2
  go_quiet (fail)
  go_wp2_with fail
  have hp := push_pre h (.cells #[.int .i64 key, .int .i64 pushed, .int .i64 v] 59) nq
  refine (append_plain _ Q o base cr head _ _ run ⟨key, pushed, v⟩ hp.blk hp.c0 hp.c1 hp.ownR hp.lt hp.hbase hlen hnc).mono ?_
  rintro e w2 ⟨rfl, hA⟩
  have HP : Hid _ := push_run_post h hA
  clear hA hp
  go_wp2
  (first | go_end0 | refine bodyPost_ret (results_none rfl _ _ _) rfl ?_)
  exact ⟨rfl, HP.out⟩

end Go.Proofs.Ybulkdyfo
