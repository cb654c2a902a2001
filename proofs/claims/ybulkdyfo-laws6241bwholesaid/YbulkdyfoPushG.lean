import Derived.Test.YbulkdyfoComp
import Derived.Test.YbulkdyfoPushHeap3
namespace Go.Proofs.Ybulkdyfo
open Go.RowKit

set_option maxHeartbeats 1000000 in
set_option maxRecDepth 100000 in
theorem push_runG1 (w : World) (Q o base cr ch head pushed : Nat) (cQ : Array Value) (ar ah : Option Addr) (run heap : List Itm) (key v : Int) (h : QSt w Q o base cQ ar ah cr ch head pushed run heap)
    (hlen : run.length ≤ 2097152) (hpu : pushed ≤ 2097152) (hto : ((head : Int) == (run.length : Int)) = true) (hh : head < run.length ∨ head = 0) :
    Calls Yba.prog 6 #[.pointer (some ⟨Q, o, none⟩), .int .i64 key, .int .i64 v] w fun e w' => e = .returned (.tuple #[]) ∧
      ∃ head' run', RunTo head run ⟨key, pushed, v⟩ head' run' ∧ Pushed w w' Q o base cQ (.slice ar run.length cr) (.slice ah heap.length ch) head' (pushed + 1) run' heap := by
  have d0 := (h.blk.cell o).trans h.c0
  have d1 := (h.blk.cell (o + 1)).trans h.c1
  have d3 := (h.blk.cell (o + 3)).trans h.c3
  have f3 := h.blk.free (o + 3)
  have hQlt := h.blk.lt
  go_enter Yba.func6, Yba.ntmps6
  go_wp2
  go_quiet (fail)
  go_wp2_with fail
  have hp := push_pre h (.cells #[.int .i64 key, .int .i64 pushed, .int .i64 v] 59) nq
  refine (append_any _ Q o base cr head _ _ run ⟨key, pushed, v⟩ hp.blk hp.c0 hp.c1 hp.ownR hp.lt hp.hbase hlen hh).mono ?_
  rintro e w2 ⟨rfl, head', run', hR, hA⟩
  have HP : Hid _ := push_run_postG h hA
  have HR : Hid _ := hR
  clear hR
  clear hA hp
  go_wp2
  (first | go_end0 | refine bodyPost_ret (results_none rfl _ _ _) rfl ?_)
  exact ⟨rfl, head', run', HR.out, HP.out⟩

set_option maxHeartbeats 1000000 in
set_option maxRecDepth 100000 in
theorem push_runG2 (w : World) (Q o base cr ch head pushed : Nat) (cQ : Array Value) (ar ah : Option Addr) (run heap : List Itm) (key v : Int) (h : QSt w Q o base cQ ar ah cr ch head pushed run heap)
    (hlen : run.length ≤ 2097152) (hpu : pushed ≤ 2097152) (hto : ((head : Int) == (run.length : Int)) = false) (hpos : 0 < run.length) (kl : Int) (hlast : (run[run.length - 1]'(by omega)).key = kl) (hk : kl ≤ key) (hh : head < run.length ∨ head = 0) :
    Calls Yba.prog 6 #[.pointer (some ⟨Q, o, none⟩), .int .i64 key, .int .i64 v] w fun e w' => e = .returned (.tuple #[]) ∧
      ∃ head' run', RunTo head run ⟨key, pushed, v⟩ head' run' ∧ Pushed w w' Q o base cQ (.slice ar run.length cr) (.slice ah heap.length ch) head' (pushed + 1) run' heap := by
  have d0 := (h.blk.cell o).trans h.c0
  have d1 := (h.blk.cell (o + 1)).trans h.c1
  have d3 := (h.blk.cell (o + 3)).trans h.c3
  have f3 := h.blk.free (o + 3)
  have hQlt := h.blk.lt
  obtain ⟨g, hg⟩ : ∃ g, ar = some ⟨g, 0, none⟩ := by
    obtain ⟨g, cap, e, _⟩ := h.ownR.form (by omega)
    simp at e
    exact ⟨g, e.1⟩
  subst hg
  obtain ⟨l0, _, _⟩ := own_item h.ownR (run.length - 1) (by omega)
  rw [hlast] at l0
  have hgQ : g ≠ Q := fun e => by have := h.ownR.lt g rfl; have := h.lt; omega
  have hgW : g < w.heap.size := (h.ownR.lt g rfl).2
  have b1 : (0 : Int) ≤ (run.length : Int) - 1 := by omega
  have b2 : (run.length : Int) - 1 < (run.length : Int) := by omega
  go_enter Yba.func6, Yba.ntmps6
  go_wp2
  go_quiet (fail)
  go_wp2_with fail
  have hp := push_pre h (.cells #[.int .i64 key, .int .i64 pushed, .int .i64 v] 59) nq
  refine (append_any _ Q o base cr head _ _ run ⟨key, pushed, v⟩ hp.blk hp.c0 hp.c1 hp.ownR hp.lt hp.hbase hlen hh).mono ?_
  rintro e w2 ⟨rfl, head', run', hR, hA⟩
  have HP : Hid _ := push_run_postG h hA
  have HR : Hid _ := hR
  clear hR
  clear hA hp
  go_wp2
  (first | go_end0 | refine bodyPost_ret (results_none rfl _ _ _) rfl ?_)
  exact ⟨rfl, head', run', HR.out, HP.out⟩


/-- Whether 'Push' lays the value into the run. -/
def ToRun (head : Nat) (run : List Itm) (key : Int) : Prop := head = run.length ∨ ∃ x, run[run.length - 1]? = some x ∧ x.key ≤ key

/-- 'Push', whatever the queue. -/
theorem push_all (w : World) (Q o base cr ch head pushed : Nat) (cQ : Array Value) (ar ah : Option Addr) (run heap : List Itm) (key v : Int) (h : QSt w Q o base cQ ar ah cr ch head pushed run heap)
    (hlen : run.length ≤ 2097152) (hlenh : heap.length ≤ 2097152) (hpu : pushed ≤ 2097152) (hh : head < run.length ∨ head = 0) :
    Calls Yba.prog 6 #[.pointer (some ⟨Q, o, none⟩), .int .i64 key, .int .i64 v] w fun e w' => e = .returned (.tuple #[]) ∧
      ∃ head' run' heap', ((ToRun head run key ∧ RunTo head run ⟨key, pushed, v⟩ head' run' ∧ heap' = heap) ∨ (¬ ToRun head run key ∧ head' = head ∧ run' = run ∧ heap' = siftUp heap.length (heap ++ [⟨key, pushed, v⟩]) heap.length ⟨key, pushed, v⟩)) ∧
        Pushed w w' Q o base cQ (.slice ar run.length cr) (.slice ah heap.length ch) head' (pushed + 1) run' heap' := by
  by_cases h1 : head = run.length
  · refine (push_runG1 w Q o base cr ch head pushed cQ ar ah run heap key v h hlen hpu (beq_iff_eq.2 (by omega)) hh).mono ?_
    rintro e w' ⟨rfl, head', run', hR, hP⟩
    exact ⟨rfl, head', run', heap, .inl ⟨.inl h1, hR, rfl⟩, hP⟩
  · have hto : ((head : Int) == (run.length : Int)) = false := beq_eq_false_iff_ne.2 (by omega)
    have hpos : 0 < run.length := by omega
    have hl : run[run.length - 1]? = some (run[run.length - 1]'(by omega)) := List.getElem?_eq_getElem _
    by_cases h2 : (run[run.length - 1]'(by omega)).key ≤ key
    · refine (push_runG2 w Q o base cr ch head pushed cQ ar ah run heap key v h hlen hpu hto hpos _ rfl h2 hh).mono ?_
      rintro e w' ⟨rfl, head', run', hR, hP⟩
      exact ⟨rfl, head', run', heap, .inl ⟨.inr ⟨_, hl, h2⟩, hR, rfl⟩, hP⟩
    · refine (push_heap w Q o base cr ch head pushed cQ ar ah run heap key v h hlenh hlen hpu hto hpos _ rfl (decide_eq_false h2)).mono ?_
      rintro e w' ⟨rfl, hP⟩
      refine ⟨rfl, head, run, _, .inr ⟨?_, rfl, rfl, rfl⟩, hP⟩
      rintro (e | ⟨x, hx, hk⟩)
      · exact h1 e
      · rw [hl] at hx
        simp at hx
        subst hx
        exact h2 hk
end Go.Proofs.Ybulkdyfo
