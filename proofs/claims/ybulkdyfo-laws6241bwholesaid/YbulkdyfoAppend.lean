import Derived.Test.YbulkdyfoQueue
import Derived.Deep.RegionLaw
namespace Go.Proofs.Ybulkdyfo
open Go.RowKit

theorem heap_new (X : World) (o : Obj) (k : Nat) (h : k = X.heap.size) : (X.alloc o).heap[k]? = some o := by rw [h]; exact heap_alloc_new X o
theorem own_drewN {w : World} {base : Nat} {e : TypeId} {size : Nat} {v : Value} {n : Nat} {xs : List Value} (h : w.ownsRow base e size v n xs) (m : Nat) : (w.drewN m).ownsRow base e size v n xs := h

theorem cell_alloc' {w : World} {a : Addr} {v : Value} (h : w.cell? a = some v) (o : Obj) : (w.alloc o).cell? a = some v :=
  (World.cell?_of_block (Below.heap_alloc w o a.block (World.block_lt_of_cell? w a h))).trans h
theorem free_alloc {w : World} {a : Addr} (hlt : a.block < w.heap.size) (h : w.frozen? a = false) (o : Obj) : (w.alloc o).frozen? a = false :=
  (World.frozen?_of_block (Below.heap_alloc w o a.block hlt)).trans h
theorem grown_free {w w' : World} {row : Option Nat} {a : Addr} (hg : w.grownBy w' row) (hlt : a.block < w.heap.size) (h : w.frozen? a = false) (hne : some a.block ≠ row) : w'.frozen? a = false :=
  (World.frozen?_of_block (hg.block a.block hlt hne)).trans h

theorem grown_undraw {w w' : World} {o1 o2 : Obj} {n : Nat} {row : Option Nat} (h : (((w.alloc o1).drewN n).alloc o2).grownBy w' row) : ((w.alloc o1).alloc o2).grownBy w' row :=
  ⟨h.os, h.tape, h.output, h.size, h.block⟩

/-- What 'append' leaves: the run is one item longer; nothing else of the queue has turned. -/
structure Appended (w w' : World) (Q o base : Nat) (cQ : Array Value) (v : Value) (run : List Itm) (x : Itm) : Prop where
  row : ∃ g cap, Blk w' Q (cQ.setIfInBounds o (.slice (some ⟨g, 0, none⟩) (run.length + 1) cap)) 31 ∧
    w'.ownsRow base 59 3 (.slice (some ⟨g, 0, none⟩) (run.length + 1) cap) (run.length + 1) (icells (run ++ [x])) ∧ (v.ownBlock = some g ∨ w.heap.size ≤ g)
  keeps : Keeps (fun k => k = Q ∨ v.ownBlock = some k) w w'

theorem appended_of {w w1 : World} {Q o base g cap : Nat} {cQ : Array Value} {v : Value} {run : List Itm} {x : Itm} {o1 o2 : Obj} (hQ : Blk w Q cQ 31) (hv : w.ownsRow base 59 3 v run.length (icells run)) (hlt : Q < base)
    (hown : w1.ownsRow base 59 3 (.slice (some ⟨g, 0, none⟩) (run.length + 1) cap) (run.length + 1) (icells run ++ icell x)) (hg : ((w.alloc o1).alloc o2).grownBy w1 v.ownBlock) (hat : v.ownBlock = some g ∨ g = w.heap.size + 2) :
    Appended w (w1.setCell ⟨Q, o, none⟩ (.slice (some ⟨g, 0, none⟩) (run.length + 1) cap)) Q o base cQ v run x := by
  have hQlt := hQ.lt
  have hne : some Q ≠ v.ownBlock := fun e => by have := hv.lt _ e.symm; omega
  have hQ1 : Blk w1 Q cQ 31 := ((hQ.alloc o1).alloc o2).grown hg hne
  have hgQ : g ≠ Q := by
    rcases hat with h | h
    · exact fun e => hne (by rw [h, e])
    · omega
  refine ⟨⟨g, cap, hQ1.set_same _ _, ?_, hat.imp id (by omega)⟩, ?_⟩
  · rw [icells_snoc]
    exact ownsRow_set_other hown (by simpa [Value.ownBlock] using hgQ) _
  · have k1 : Keeps (fun k => k = Q ∨ v.ownBlock = some k) w ((w.alloc o1).alloc o2) := (Keeps.alloc _ _ _).trans (Keeps.alloc _ _ _)
    have k2 : Keeps (fun k => k = Q ∨ v.ownBlock = some k) ((w.alloc o1).alloc o2) w1 := Keeps.grown hg (fun k e => .inr e)
    exact (k1.trans k2).trans (Keeps.set _ _ _ (fun _ => .inl rfl))

set_option maxHeartbeats 1000000 in
set_option maxRecDepth 100000 in
theorem append_a (w : World) (Q o base cr head : Nat) (cQ : Array Value) (ar : Option Addr) (run : List Itm) (x : Itm) (hQ : Blk w Q cQ 31) (c0 : cQ[o]? = some (.slice ar run.length cr)) (c1 : cQ[o + 1]? = some (.int .i64 head))
    (hown : w.ownsRow base 59 3 (.slice ar run.length cr) run.length (icells run)) (hlt : Q < base) (hbase : base ≤ w.heap.size) (hlen : run.length ≤ 2097152)
    (hne : ((run.length : Int) == (cr : Int)) = false) :
    Calls Yba.prog 14 #[.pointer (some ⟨Q, o, none⟩), .agg #[.int .i64 x.key, .int .i64 x.order, .int .i64 x.value]] w fun e w' => e = .returned (.tuple #[]) ∧ Appended w w' Q o base cQ (.slice ar run.length cr) run x := by
  obtain ⟨i0, hi, hz0, hz1, hz2⟩ := info_parts Yba.info59
  have h0 := (hQ.cell o).trans c0
  have h1 := (hQ.cell (o + 1)).trans c1
  have f0 := hQ.free o
  have hQlt := hQ.lt
  have k0 : ∀ (n : Nat) (o1 o2 : Obj), (((w.alloc o1).drewN n).alloc o2).cell? ⟨Q, o, none⟩ = some (.slice ar run.length cr) := fun n o1 o2 => cell_alloc' (w := (w.alloc o1).drewN n) (cell_alloc' h0 o1) o2
  have kf : ∀ (n : Nat) (o1 o2 : Obj), (((w.alloc o1).drewN n).alloc o2).frozen? ⟨Q, o, none⟩ = false := fun n o1 o2 => free_alloc (w := (w.alloc o1).drewN n) (by simp; omega) (free_alloc hQlt f0 o1) o2
  have k1 : ∀ (j n : Nat) (cs : Array Value) (v : Value) (o2 : Obj), cs[j]? = some v → (((w.alloc (.cells cs 59)).drewN n).alloc o2).cell? ⟨w.heap.size, j, none⟩ = some v := fun j n cs v o2 h => cell_alloc' (w := (w.alloc (.cells cs 59)).drewN n) (((Blk.new w cs 59).cell j).trans h) o2
  have h0' : ∀ ob, (w.alloc ob).cell? ⟨Q, o, none⟩ = some (.slice ar run.length cr) := fun ob => cell_alloc' h0 ob
  have f0' : ∀ ob, (w.alloc ob).frozen? ⟨Q, o, none⟩ = false := fun ob => free_alloc hQlt f0 ob
  have hvQ : some Q ≠ (Value.slice ar run.length cr).ownBlock := fun e => by have := hown.lt _ e.symm; omega
  have hvW : some w.heap.size ≠ (Value.slice ar run.length cr).ownBlock := fun e => by have := hown.lt _ e.symm; omega
  go_enter Yba.func14, Yba.ntmps14
  go_wp2
  go_quiet (fail)
  go_wp2
  go_region_law ((refine step_append_lies _ (by rfl) _ _ _ (by rfl) base 59 i0 _ 3 24 Yba.underlying29 hi hz0 hz1 hz2 rfl (by omega) (.slice ar run.length cr) run.length (icells run) (by rfl) (World.ownsRow.alloc (own_drewN (hown.alloc _) _) _) ⟨w.heap.size + 1, 0, none⟩ 1 1 [.int .i64 x.key, .int .i64 x.order, .int .i64 x.value] (by rfl) (by rfl) (World.news_of_block (cs := #[.int .i64 x.key, .int .i64 x.order, .int .i64 x.value]) (t := 59) (fr := (0, 0)) (heap_new _ _ _ (by simp))) (by simp [Value.oneCell']) (by omega) (by unfold maxLen; omega) (by omega) (by simp; omega) (w.heap.size + 2) (by simp) ?_; intro gg cap w1 hown1 hgrow hat hglt; have q1 := hgrow.cell (k0 _ _ _) hvQ; have q2 := grown_free hgrow (by simp; omega) (kf _ _ _) hvQ))
  all_goals
    go_end0
    exact ⟨rfl, appended_of hQ hown hlt hown1 (grown_undraw hgrow) hat⟩
set_option maxHeartbeats 1000000 in
set_option maxRecDepth 100000 in
theorem append_b (w : World) (Q o base cr head : Nat) (cQ : Array Value) (ar : Option Addr) (run : List Itm) (x : Itm) (hQ : Blk w Q cQ 31) (c0 : cQ[o]? = some (.slice ar run.length cr)) (c1 : cQ[o + 1]? = some (.int .i64 head))
    (hown : w.ownsRow base 59 3 (.slice ar run.length cr) run.length (icells run)) (hlt : Q < base) (hbase : base ≤ w.heap.size) (hlen : run.length ≤ 2097152)
    (hne : ((run.length : Int) == (cr : Int)) = true) (hh : head = 0) :
    Calls Yba.prog 14 #[.pointer (some ⟨Q, o, none⟩), .agg #[.int .i64 x.key, .int .i64 x.order, .int .i64 x.value]] w fun e w' => e = .returned (.tuple #[]) ∧ Appended w w' Q o base cQ (.slice ar run.length cr) run x := by
  subst hh
  obtain ⟨i0, hi, hz0, hz1, hz2⟩ := info_parts Yba.info59
  have h0 := (hQ.cell o).trans c0
  have h1 := (hQ.cell (o + 1)).trans c1
  have f0 := hQ.free o
  have hQlt := hQ.lt
  have k0 : ∀ (n : Nat) (o1 o2 : Obj), (((w.alloc o1).drewN n).alloc o2).cell? ⟨Q, o, none⟩ = some (.slice ar run.length cr) := fun n o1 o2 => cell_alloc' (w := (w.alloc o1).drewN n) (cell_alloc' h0 o1) o2
  have kf : ∀ (n : Nat) (o1 o2 : Obj), (((w.alloc o1).drewN n).alloc o2).frozen? ⟨Q, o, none⟩ = false := fun n o1 o2 => free_alloc (w := (w.alloc o1).drewN n) (by simp; omega) (free_alloc hQlt f0 o1) o2
  have k1 : ∀ (j n : Nat) (cs : Array Value) (v : Value) (o2 : Obj), cs[j]? = some v → (((w.alloc (.cells cs 59)).drewN n).alloc o2).cell? ⟨w.heap.size, j, none⟩ = some v := fun j n cs v o2 h => cell_alloc' (w := (w.alloc (.cells cs 59)).drewN n) (((Blk.new w cs 59).cell j).trans h) o2
  have h0' : ∀ ob, (w.alloc ob).cell? ⟨Q, o, none⟩ = some (.slice ar run.length cr) := fun ob => cell_alloc' h0 ob
  have f0' : ∀ ob, (w.alloc ob).frozen? ⟨Q, o, none⟩ = false := fun ob => free_alloc hQlt f0 ob
  have hvQ : some Q ≠ (Value.slice ar run.length cr).ownBlock := fun e => by have := hown.lt _ e.symm; omega
  have hvW : some w.heap.size ≠ (Value.slice ar run.length cr).ownBlock := fun e => by have := hown.lt _ e.symm; omega
  go_enter Yba.func14, Yba.ntmps14
  go_wp2
  go_quiet (fail)
  go_wp2
  go_region_law ((refine step_append_lies _ (by rfl) _ _ _ (by rfl) base 59 i0 _ 3 24 Yba.underlying29 hi hz0 hz1 hz2 rfl (by omega) (.slice ar run.length cr) run.length (icells run) (by rfl) (World.ownsRow.alloc (own_drewN (hown.alloc _) _) _) ⟨w.heap.size + 1, 0, none⟩ 1 1 [.int .i64 x.key, .int .i64 x.order, .int .i64 x.value] (by rfl) (by rfl) (World.news_of_block (cs := #[.int .i64 x.key, .int .i64 x.order, .int .i64 x.value]) (t := 59) (fr := (0, 0)) (heap_new _ _ _ (by simp))) (by simp [Value.oneCell']) (by omega) (by unfold maxLen; omega) (by omega) (by simp; omega) (w.heap.size + 2) (by simp) ?_; intro gg cap w1 hown1 hgrow hat hglt; have q1 := hgrow.cell (k0 _ _ _) hvQ; have q2 := grown_free hgrow (by simp; omega) (kf _ _ _) hvQ))
  all_goals
    go_end0
    exact ⟨rfl, appended_of hQ hown hlt hown1 (grown_undraw hgrow) hat⟩
set_option maxHeartbeats 1000000 in
set_option maxRecDepth 100000 in
theorem append_c (w : World) (Q o base cr head : Nat) (cQ : Array Value) (ar : Option Addr) (run : List Itm) (x : Itm) (hQ : Blk w Q cQ 31) (c0 : cQ[o]? = some (.slice ar run.length cr)) (c1 : cQ[o + 1]? = some (.int .i64 head))
    (hown : w.ownsRow base 59 3 (.slice ar run.length cr) run.length (icells run)) (hlt : Q < base) (hbase : base ≤ w.heap.size) (hlen : run.length ≤ 2097152)
    (hne : ((run.length : Int) == (cr : Int)) = true) (hh : 0 < head) (hh2 : head < run.length / 2) :
    Calls Yba.prog 14 #[.pointer (some ⟨Q, o, none⟩), .agg #[.int .i64 x.key, .int .i64 x.order, .int .i64 x.value]] w fun e w' => e = .returned (.tuple #[]) ∧ Appended w w' Q o base cQ (.slice ar run.length cr) run x := by
  have g1 : (0 : Int) < (head : Int) := by omega
  have g2 : decide ((run.length : Int) / 2 ≤ (head : Int)) = false := by simp; omega
  obtain ⟨i0, hi, hz0, hz1, hz2⟩ := info_parts Yba.info59
  have h0 := (hQ.cell o).trans c0
  have h1 := (hQ.cell (o + 1)).trans c1
  have f0 := hQ.free o
  have hQlt := hQ.lt
  have k0 : ∀ (n : Nat) (o1 o2 : Obj), (((w.alloc o1).drewN n).alloc o2).cell? ⟨Q, o, none⟩ = some (.slice ar run.length cr) := fun n o1 o2 => cell_alloc' (w := (w.alloc o1).drewN n) (cell_alloc' h0 o1) o2
  have kf : ∀ (n : Nat) (o1 o2 : Obj), (((w.alloc o1).drewN n).alloc o2).frozen? ⟨Q, o, none⟩ = false := fun n o1 o2 => free_alloc (w := (w.alloc o1).drewN n) (by simp; omega) (free_alloc hQlt f0 o1) o2
  have k1 : ∀ (j n : Nat) (cs : Array Value) (v : Value) (o2 : Obj), cs[j]? = some v → (((w.alloc (.cells cs 59)).drewN n).alloc o2).cell? ⟨w.heap.size, j, none⟩ = some v := fun j n cs v o2 h => cell_alloc' (w := (w.alloc (.cells cs 59)).drewN n) (((Blk.new w cs 59).cell j).trans h) o2
  have h0' : ∀ ob, (w.alloc ob).cell? ⟨Q, o, none⟩ = some (.slice ar run.length cr) := fun ob => cell_alloc' h0 ob
  have f0' : ∀ ob, (w.alloc ob).frozen? ⟨Q, o, none⟩ = false := fun ob => free_alloc hQlt f0 ob
  have hvQ : some Q ≠ (Value.slice ar run.length cr).ownBlock := fun e => by have := hown.lt _ e.symm; omega
  have hvW : some w.heap.size ≠ (Value.slice ar run.length cr).ownBlock := fun e => by have := hown.lt _ e.symm; omega
  go_enter Yba.func14, Yba.ntmps14
  go_wp2
  go_quiet (fail)
  go_wp2
  go_region_law ((refine step_append_lies _ (by rfl) _ _ _ (by rfl) base 59 i0 _ 3 24 Yba.underlying29 hi hz0 hz1 hz2 rfl (by omega) (.slice ar run.length cr) run.length (icells run) (by rfl) (World.ownsRow.alloc (own_drewN (hown.alloc _) _) _) ⟨w.heap.size + 1, 0, none⟩ 1 1 [.int .i64 x.key, .int .i64 x.order, .int .i64 x.value] (by rfl) (by rfl) (World.news_of_block (cs := #[.int .i64 x.key, .int .i64 x.order, .int .i64 x.value]) (t := 59) (fr := (0, 0)) (heap_new _ _ _ (by simp))) (by simp [Value.oneCell']) (by omega) (by unfold maxLen; omega) (by omega) (by simp; omega) (w.heap.size + 2) (by simp) ?_; intro gg cap w1 hown1 hgrow hat hglt; have q1 := hgrow.cell (k0 _ _ _) hvQ; have q2 := grown_free hgrow (by simp; omega) (kf _ _ _) hvQ))
  all_goals
    go_end0
    exact ⟨rfl, appended_of hQ hown hlt hown1 (grown_undraw hgrow) hat⟩
/-- 'append' where it need not move the run to the front. -/
theorem append_plain (w : World) (Q o base cr head : Nat) (cQ : Array Value) (ar : Option Addr) (run : List Itm) (x : Itm) (hQ : Blk w Q cQ 31) (c0 : cQ[o]? = some (.slice ar run.length cr)) (c1 : cQ[o + 1]? = some (.int .i64 head))
    (hown : w.ownsRow base 59 3 (.slice ar run.length cr) run.length (icells run)) (hlt : Q < base) (hbase : base ≤ w.heap.size) (hlen : run.length ≤ 2097152)
    (hnc : ¬ (run.length = cr ∧ 0 < head ∧ run.length / 2 ≤ head)) :
    Calls Yba.prog 14 #[.pointer (some ⟨Q, o, none⟩), .agg #[.int .i64 x.key, .int .i64 x.order, .int .i64 x.value]] w fun e w' => e = .returned (.tuple #[]) ∧ Appended w w' Q o base cQ (.slice ar run.length cr) run x := by
  by_cases h1 : run.length = cr
  · have e1 : ((run.length : Int) == (cr : Int)) = true := by simp [h1]
    by_cases h2 : head = 0
    · exact append_b w Q o base cr head cQ ar run x hQ c0 c1 hown hlt hbase hlen e1 h2
    · exact append_c w Q o base cr head cQ ar run x hQ c0 c1 hown hlt hbase hlen e1 (by omega) (by omega)
  · exact append_a w Q o base cr head cQ ar run x hQ c0 c1 hown hlt hbase hlen (by simp; omega)
end Go.Proofs.Ybulkdyfo
