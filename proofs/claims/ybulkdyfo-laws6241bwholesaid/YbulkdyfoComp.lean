import Derived.Test.YbulkdyfoPush
import Derived.Test.YbulkdyfoCopyK
import Derived.Deep.CutRange
namespace Go.Proofs.Ybulkdyfo
open Go.RowKit

theorem kcell {bad : Nat → Prop} {w w' : World} (h : Keeps bad w w') {a : Addr} {v : Value} (hc : w.cell? a = some v) (hn : ¬ bad a.block) : w'.cell? a = some v :=
  (World.cell?_of_block (h.block a.block (World.block_lt_of_cell? w a hc) hn)).trans hc

theorem kfree {bad : Nat → Prop} {w w' : World} (h : Keeps bad w w') {a : Addr} (hlt : a.block < w.heap.size) (hf : w.frozen? a = false) (hn : ¬ bad a.block) : w'.frozen? a = false :=
  (World.frozen?_of_block (h.block a.block hlt hn)).trans hf

theorem icells_one (l : List Itm) : ∀ v ∈ icells l, v.oneCell' = true := by
  intro v hv
  simp [icells, icell] at hv
  obtain ⟨x, _, h | h | h⟩ := hv <;> subst h <;> rfl

theorem icells_drop (l : List Itm) (k : Nat) : icells (l.drop k) = (icells l).drop (k * 3) := by
  induction k generalizing l with
  | zero => simp
  | succ k ih =>
    cases l with
    | nil => simp [icells]
    | cons x l =>
      have e : icells (x :: l) = .int .i64 x.key :: .int .i64 x.order :: .int .i64 x.value :: icells l := rfl
      rw [List.drop_succ_cons, ih, e, show (k + 1) * 3 = k * 3 + 1 + 1 + 1 by omega]
      simp

theorem own_src {w : World} {base : Nat} {g n cap : Nat} {l : List Itm} (h : w.ownsRow base 59 3 (.slice (some ⟨g, 0, none⟩) n cap) n (icells l)) (k : Nat) (j : Nat) (v : Value) (hv : (icells (l.drop k))[j]? = some v) :
    w.cell? ((⟨g, k * 3, none⟩ : Addr).add j) = some v := by
  rw [icells_drop, List.getElem?_drop] at hv
  have := h.cells (g := g) rfl _ _ hv
  rw [Addr.add_lit] at this ⊢
  simpa using this

theorem Yba.size59 : (Yba.prog.info? 59).map (·.size) = some 3 := by kernel_rfl

/-- What 'append' leaves, whether it moves the run to the front or not. -/
structure AppG (w w' : World) (Q o base : Nat) (cQ : Array Value) (v : Value) (head' : Nat) (run' : List Itm) : Prop where
  row : ∃ cQ' g cap, Blk w' Q cQ' 31 ∧ cQ'[o]? = some (.slice (some ⟨g, 0, none⟩) run'.length cap) ∧ cQ'[o + 1]? = some (.int .i64 head') ∧ (∀ i, i ≠ o → i ≠ o + 1 → cQ'[i]? = cQ[i]?) ∧
    w'.ownsRow base 59 3 (.slice (some ⟨g, 0, none⟩) run'.length cap) run'.length (icells run') ∧ (v.ownBlock = some g ∨ w.heap.size ≤ g)
  keeps : Keeps (fun k => k = Q ∨ v.ownBlock = some k) w w'

theorem appG_of {w w' : World} {Q o base head : Nat} {cQ : Array Value} {v : Value} {run : List Itm} {x : Itm} (h : Appended w w' Q o base cQ v run x) (c0 : ∃ u, cQ[o]? = some u) (c1 : cQ[o + 1]? = some (.int .i64 head)) : AppG w w' Q o base cQ v head (run ++ [x]) := by
  obtain ⟨g, cap, hb, hown, hat⟩ := h.row
  obtain ⟨u, c0⟩ := c0
  have hsz : o < cQ.size := (Array.getElem?_eq_some_iff.1 c0).1
  refine ⟨⟨_, g, cap, hb, ?_, ?_, ?_, by simpa using hown, hat⟩, h.keeps⟩
  · rw [Array.getElem?_setIfInBounds_self_of_lt hsz]; simp
  · rw [Array.getElem?_setIfInBounds_ne (by omega)]; exact c1
  · intro i h1 _
    rw [Array.getElem?_setIfInBounds_ne (Ne.symm h1)]

theorem appended_of1 {w w1 : World} {Q o base g cap : Nat} {cQ : Array Value} {v : Value} {run : List Itm} {x : Itm} {o2 : Obj} (hQ : Blk w Q cQ 31) (hv : w.ownsRow base 59 3 v run.length (icells run)) (hlt : Q < base)
    (hown : w1.ownsRow base 59 3 (.slice (some ⟨g, 0, none⟩) (run.length + 1) cap) (run.length + 1) (icells run ++ icell x)) (hg : (w.alloc o2).grownBy w1 v.ownBlock) (hat : v.ownBlock = some g ∨ g = w.heap.size + 1) :
    Appended w (w1.setCell ⟨Q, o, none⟩ (.slice (some ⟨g, 0, none⟩) (run.length + 1) cap)) Q o base cQ v run x := by
  have hQlt := hQ.lt
  have hne : some Q ≠ v.ownBlock := fun e => by have := hv.lt _ e.symm; omega
  have hQ1 : Blk w1 Q cQ 31 := (hQ.alloc o2).grown hg hne
  have hgQ : g ≠ Q := by
    rcases hat with h | h
    · exact fun e => hne (by rw [h, e])
    · omega
  refine ⟨⟨g, cap, hQ1.set_same _ _, ?_, hat.imp id (by omega)⟩, ?_⟩
  · rw [icells_snoc]
    exact ownsRow_set_other hown (by simpa [Value.ownBlock] using hgQ) _
  · have k1 : Keeps (fun k => k = Q ∨ v.ownBlock = some k) w (w.alloc o2) := Keeps.alloc _ _ _
    have k2 : Keeps (fun k => k = Q ∨ v.ownBlock = some k) (w.alloc o2) w1 := Keeps.grown hg (fun k e => .inr e)
    exact (k1.trans k2).trans (Keeps.set _ _ _ (fun _ => .inl rfl))

theorem grown_same {a b c : World} {row : Option Nat} (h : a.grownBy c row) (h1 : a.os = b.os) (h2 : a.tape = b.tape) (h3 : a.output = b.output) (h4 : a.heap = b.heap) : b.grownBy c row :=
  ⟨h.os.trans h1, h.tape.trans h2, h.output.trans h3, by rw [← h4]; exact h.size, by rw [← h4]; exact h.block⟩

/-- The run moved to the front, ahead of the append. -/
structure Moved (w w5 : World) (Q o base g : Nat) (cQ : Array Value) (n cap : Nat) (run' : List Itm) : Prop where
  blk : ∃ cQ', Blk w5 Q cQ' 31 ∧ cQ'[o]? = some (.slice (some ⟨g, 0, none⟩) n cap) ∧ cQ'[o + 1]? = some (.int .i64 0) ∧ (∀ i, i ≠ o → i ≠ o + 1 → cQ'[i]? = cQ[i]?)
  own : w5.ownsRow base 59 3 (.slice (some ⟨g, 0, none⟩) n cap) n (icells run')
  len : run'.length = n
  keeps : Keeps (fun k => k = Q ∨ k = g) w w5

theorem moved_of {w w1 w2 w3 : World} {Q o base g head n : Nat} {cQ cur cur3 : Array Value} {run : List Itm} (hQ : Blk w Q cQ 31) (c0 : ∃ u, cQ[o]? = some u) (c1 : ∃ u, cQ[o + 1]? = some u) (hn : run.length = head + n) (hbg : base ≤ g) (hm : run.length ≤ maxLen) (hQg : Q ≠ g) (hcs : cur.size = run.length * 3)
    (k1 : Keeps (fun _ => False) w w1) (k2 : Keeps (fun k => k = g) w1 w2) (k3 : Keeps (fun k => k = g) w2 w3)
    (h3 : Blk w3 g cur3 59 ∧ cur3.size = (splice cur.toList 0 (icells (run.drop head))).toArray.size ∧ cur3.toList.take (n * 3) = (splice cur.toList 0 (icells (run.drop head))).toArray.toList.take (n * 3)) :
    Moved w ((w3.setCell ⟨Q, o, none⟩ (.slice (some ⟨g, 0, none⟩) n (head + n))).setCell ⟨Q, o + 1, none⟩ (.int .i64 0)) Q o base g cQ n (head + n) (run.drop head) := by
  obtain ⟨u0, c0⟩ := c0
  obtain ⟨u1, c1⟩ := c1
  have hs0 : o < cQ.size := (Array.getElem?_eq_some_iff.1 c0).1
  have hs1 : o + 1 < cQ.size := (Array.getElem?_eq_some_iff.1 c1).1
  obtain ⟨b3, s3, t3⟩ := h3
  have hl : (icells (run.drop head)).length = n * 3 := by rw [icells_len]; simp; omega
  have hQ3 : Blk w3 Q cQ 31 := k3.blk (k2.blk (k1.blk hQ id) hQg) hQg
  have hz : cur3.size = (head + n) * 3 := by
    rw [s3]
    simp only [List.size_toArray]
    rw [length_splice _ _ _ (by rw [hl]; simp; omega)]
    simp; omega
  have ht : cur3.toList.take (n * 3) = icells (run.drop head) := by
    rw [t3]
    simp only [splice, List.take_zero, List.nil_append]
    rw [List.take_append_of_le_length (by omega), List.take_of_length_le (by omega)]
  have kk : Keeps (fun k => k = Q ∨ k = g) w w3 := ((k1.mono (fun _ _ e => e.elim)).trans (k2.mono (fun _ _ e => .inr e))).trans (k3.mono (fun _ _ e => .inr e))
  refine ⟨⟨_, (hQ3.set_same _ _).set_same _ _, ?_, ?_, ?_⟩, ?_, by simp; omega, (kk.trans (Keeps.set _ _ _ (fun _ => .inl rfl))).trans (Keeps.set _ _ _ (fun _ => .inl rfl))⟩
  · rw [Array.getElem?_setIfInBounds_ne (by omega), Array.getElem?_setIfInBounds_self_of_lt hs0]
  · rw [Array.getElem?_setIfInBounds_self_of_lt (by simpa using hs1)]
  · intro i h1 h2
    rw [Array.getElem?_setIfInBounds_ne (Ne.symm h2), Array.getElem?_setIfInBounds_ne (Ne.symm h1)]
  · exact own_of_blk ((b3.set_other (a := ⟨Q, o, none⟩) (Ne.symm hQg) _).set_other (a := ⟨Q, o + 1, none⟩) (Ne.symm hQg) _) hbg (by omega) (by omega) hz ht

theorem moved_app {w w5 w' : World} {Q o base g n cap : Nat} {cQ : Array Value} {run' : List Itm} {x : Itm} {len cr : Nat} (h : Moved w w5 Q o base g cQ n cap run') (cQ5 : Array Value) (hQ5 : Blk w5 Q cQ5 31) (hA : Appended w5 w' Q o base cQ5 (.slice (some ⟨g, 0, none⟩) n cap) run' x) :
    AppG w w' Q o base cQ (.slice (some ⟨g, 0, none⟩) len cr) 0 (run' ++ [x]) := by
  obtain ⟨cQ', b, e0, e1, e2⟩ := h.blk
  have e : cQ' = cQ5 := by
    have b' : w5.heap[Q]? = some (.cells cQ' 31 (0, 0)) := b
    have h' : w5.heap[Q]? = some (.cells cQ5 31 (0, 0)) := hQ5
    rw [b'] at h'
    simp at h'
    exact h'
  subst e
  obtain ⟨⟨cQ', g', cap', r1, r2, r3, r4, r5, r6⟩, kk⟩ := appG_of (head := 0) hA ⟨_, e0⟩ e1
  refine ⟨⟨cQ', g', cap', r1, r2, r3, fun i h1 h2 => (r4 i h1 h2).trans (e2 i h1 h2), r5, ?_⟩, ?_⟩
  · rcases r6 with r6 | r6
    · exact .inl (by simpa [Value.ownBlock] using r6)
    · exact .inr (Nat.le_trans h.keeps.size r6)
  · refine (h.keeps.mono (fun k _ e => ?_)).trans (kk.mono (fun k _ e => ?_))
    · rcases e with e | e
      · exact .inl e
      · exact .inr (by simp [Value.ownBlock, e])
    · rcases e with e | e
      · exact .inl e
      · exact .inr (by simpa [Value.ownBlock] using e)

theorem zeros_one (n : Nat) : ∀ v ∈ (Builtin.zeroCells (Value.agg #[.int .i64 0, .int .i64 0, .int .i64 0]).cells n).toList, v.oneCell' = true := by
  intro v hv
  simp [Builtin.zeroCells, Value.cells] at hv
  obtain ⟨i, _, rfl⟩ := hv
  rcases (show i % 3 = 0 ∨ i % 3 = 1 ∨ i % 3 = 2 by omega) with h | h | h <;> rw [h] <;> rfl

set_option maxHeartbeats 1000000 in
set_option maxRecDepth 100000 in
theorem append_comp (w : World) (Q o base cr head : Nat) (cQ : Array Value) (g : Nat) (run : List Itm) (x : Itm) (hQ : Blk w Q cQ 31) (c0 : cQ[o]? = some (.slice (some ⟨g, 0, none⟩) run.length cr)) (c1 : cQ[o + 1]? = some (.int .i64 head))
    (hown : w.ownsRow base 59 3 (.slice (some ⟨g, 0, none⟩) run.length cr) run.length (icells run)) (hlt : Q < base) (hlen : run.length ≤ 2097152)
    (hne : run.length = cr) (hh : 0 < head) (hh2 : run.length / 2 ≤ head) (hh3 : head < run.length) :
    Calls Yba.prog 14 #[.pointer (some ⟨Q, o, none⟩), .agg #[.int .i64 x.key, .int .i64 x.order, .int .i64 x.value]] w fun e w' => e = .returned (.tuple #[]) ∧ AppG w w' Q o base cQ (.slice (some ⟨g, 0, none⟩) run.length cr) 0 (run.drop head ++ [x]) := by
  subst hne
  obtain ⟨n, hn⟩ : ∃ n, run.length = head + n := ⟨run.length - head, by omega⟩
  have g1 : (0 : Int) < (head : Int) := by omega
  have g2 : decide (((head : Int) + (n : Int)) / 2 ≤ (head : Int)) = true := decide_eq_true (by omega)
  have g5 : ((head : Int) + (n : Int)) / 2 ≤ (head : Int) := by omega
  have g3 : (head : Int) ≤ (head : Int) + (n : Int) := by omega
  have g4 : ¬ n = 0 := by omega
  obtain ⟨i0, hi, hz0, hz1, hz2⟩ := info_parts Yba.info59
  have h0 := (hQ.cell o).trans c0
  have h1 := (hQ.cell (o + 1)).trans c1
  have f0 := hQ.free o
  have hQlt := hQ.lt
  obtain ⟨cur, hb, hbg, _, hcap, hcs, hct⟩ := own_blk hown
  have hgQ : Q ≠ g := by omega
  have hglt := hb.lt
  go_enter Yba.func14, Yba.ntmps14
  go_wp2
  go_quiet (fail)
  go_upto_region 2 with fail
  go_cut [4] from 36 to 49 (fun s wx => s = .int .i64 n ∧ Hid (wx.heap[g]? = some (.cells (splice cur.toList 0 (icells (run.drop head))).toArray 59 (0, 0))) ∧ Keeps (fun k => k = g) (w.alloc (.cells #[.int .i64 x.key, .int .i64 x.order, .int .i64 x.value] 59)) wx)
  case first =>
    go_region_law ((refine step_copyK rfl (.tmp 39) (.tmp 48) 29 29 rfl 59 3 Yba.underlying29 Yba.size59 _ _ _ _ _ _ rfl rfl g 0 cur.toList 59 (by simpa [Blk] using hb.alloc _) n (icells (run.drop head)) (by simp) (by rw [icells_len]; simp; omega) (fun _ => ⟨rfl, _, rfl, fun j v hv => own_src (hown.alloc _) head j v hv⟩) (by rw [icells_len]; simp; omega) (icells_one _) ?_; intro w2 h2 k2))
    all_goals
      go_simp
      go_wp2
      go_meet
      exact ⟨rfl, h2, (Keeps.drewN _ _ _).trans k2⟩
  case rest =>
    obtain ⟨rfl, h2, k2⟩ := hcut
    have d0 : wc.cell? ⟨Q, o, none⟩ = _ := kcell k2 (cell_alloc' h0 _) hgQ
    have d1 : wc.cell? ⟨Q, o + 1, none⟩ = _ := kcell k2 (cell_alloc' h1 _) hgQ
    have e0 : wc.frozen? ⟨Q, o, none⟩ = false := kfree k2 (by simp; omega) (free_alloc hQlt f0 _) hgQ
    have e1 : wc.frozen? ⟨Q, o + 1, none⟩ = false := kfree k2 (by simp; omega) (free_alloc hQlt (hQ.free (o + 1)) _) hgQ
    have g6 : (n : Int) ≤ (head : Int) + (n : Int) := by omega
    have g7 : ¬ head = 0 := by omega
    have g8 : (0 : Int) ≤ (n : Int) := by omega
    have t1 : n * 3 + (Builtin.zeroCells (Value.agg #[.int .i64 0, .int .i64 0, .int .i64 0]).cells head).size ≤ (splice cur.toList 0 (icells (run.drop head))).toArray.size := by
      simp only [List.size_toArray]
      rw [length_splice _ _ _ (by rw [icells_len]; simp; omega)]
      simp [Builtin.zeroCells, Value.cells]
      omega
    have t2 : ∀ v ∈ (Builtin.zeroCells (Value.agg #[.int .i64 0, .int .i64 0, .int .i64 0]).cells head).toList, v.oneCell' = true := zeros_one head
    have t3 : wc.heap[g]? = some (.cells (splice cur.toList 0 (icells (run.drop head))).toArray 59 (0, 0)) := h2.out
    go_upto_region 4 with (refine wpList_clearK rfl (.tmp 55) 29 rfl 59 _ i0 Yba.underlying29 hi hz0 g (n * 3) head head rfl hh _ 59 t3 t1 t2 ?_; intro w3 cur3 h3 k3)
    have hbm := moved_of hQ ⟨_, c0⟩ ⟨_, c1⟩ hn hbg hcap hgQ hcs (Keeps.alloc _ _ _) k2 k3 h3.out
    have q0 : w3.cell? ⟨Q, o, none⟩ = _ := kcell k3 d0 hgQ
    have q1 : w3.cell? ⟨Q, o + 1, none⟩ = _ := kcell k3 d1 hgQ
    have p0 : w3.frozen? ⟨Q, o, none⟩ = false := kfree k3 (World.block_lt_of_cell? wc _ d0) e0 hgQ
    have p1 : w3.frozen? ⟨Q, o + 1, none⟩ = false := kfree k3 (World.block_lt_of_cell? wc _ d1) e1 hgQ
    clear t1 t2 t3 d0 d1 e0 e1 h2 h3
    go_upto_region 6 with fail
    have nI : w.heap.size ≠ g := by omega
    have nI2 : w.heap.size ≠ Q := by omega
    have bI := ((k3.blk (k2.blk (Blk.new w #[.int .i64 x.key, .int .i64 x.order, .int .i64 x.value] 59) nI) nI).set_other (a := ⟨Q, o, none⟩) nI2 (.slice (some ⟨g, 0, none⟩) n (head + n))).set_other (a := ⟨Q, o + 1, none⟩) nI2 (.int .i64 0)
    obtain ⟨w5, hw5⟩ : ∃ w5, w5 = ((w3.setCell ⟨Q, o, none⟩ (.slice (some ⟨g, 0, none⟩) n (head + n))).setCell ⟨Q, o + 1, none⟩ (.int .i64 0)) := ⟨_, rfl⟩
    rw [← hw5] at hbm bI ⊢
    clear hw5 q0 q1 p0 p1 h0 h1 f0 k2 k3
    obtain ⟨cQ5, b5, z0, z1, _⟩ := hbm.blk
    have hown5 := hbm.own
    have y0 := (b5.cell o).trans z0
    have yf := b5.free o
    have hQ5 := b5.lt
    have x0 : w5.cell? ⟨w.heap.size, 0, none⟩ = some (.int .i64 x.key) := bI.cell 0
    have x1 : w5.cell? ⟨w.heap.size, 1, none⟩ = some (.int .i64 x.order) := bI.cell 1
    have x2 : w5.cell? ⟨w.heap.size, 2, none⟩ = some (.int .i64 x.value) := bI.cell 2
    have k0 : ∀ (m : Nat) (o2 : Obj), ((w5.drewN m).alloc o2).cell? ⟨Q, o, none⟩ = some (.slice (some ⟨g, 0, none⟩) n (head + n)) := fun m o2 => cell_alloc' (w := w5.drewN m) y0 o2
    have kf : ∀ (m : Nat) (o2 : Obj), ((w5.drewN m).alloc o2).frozen? ⟨Q, o, none⟩ = false := fun m o2 => free_alloc (w := w5.drewN m) hQ5 yf o2
    have k01 : ∀ (o2 : Obj), (w5.drew.alloc o2).cell? ⟨Q, o, none⟩ = some (.slice (some ⟨g, 0, none⟩) n (head + n)) := fun o2 => cell_alloc' (w := w5.drew) y0 o2
    have kf1 : ∀ (o2 : Obj), (w5.drew.alloc o2).frozen? ⟨Q, o, none⟩ = false := fun o2 => free_alloc (w := w5.drew) hQ5 yf o2
    have hvQ : some Q ≠ (Value.slice (some ⟨g, 0, none⟩) n (head + n)).ownBlock := fun e => hgQ (by simpa [Value.ownBlock] using e)
    have hb5 : base ≤ w5.heap.size := by have := hown5.lt g rfl; omega
    have hlr : (run.drop head).length = n := hbm.len
    obtain ⟨run', hr'⟩ : ∃ run', run' = run.drop head := ⟨_, rfl⟩
    rw [← hr'] at hbm hown5 hlr
    have HR : Hid (run' = run.drop head) := hr'
    clear hr'
    go_region_law ((refine step_append_lies _ (by rfl) _ _ _ (by rfl) base 59 i0 _ 3 24 Yba.underlying29 hi hz0 hz1 hz2 rfl (by omega) (.slice (some ⟨g, 0, none⟩) n (head + n)) n (icells run') (by rfl) (World.ownsRow.alloc (own_drewN hown5 _) _) ⟨w5.heap.size, 0, none⟩ 1 1 [.int .i64 x.key, .int .i64 x.order, .int .i64 x.value] (by rfl) (by rfl) (World.news_of_block (cs := #[.int .i64 x.key, .int .i64 x.order, .int .i64 x.value]) (t := 59) (fr := (0, 0)) (heap_new _ _ _ (by simp))) (by simp [Value.oneCell']) (by omega) (by unfold maxLen; omega) (by omega) (by simp; omega) (w5.heap.size + 1) (by simp) ?_; intro gg cap w6 hown1 hgrow hat hglt; have q1 := hgrow.cell (k0 _ _) hvQ; have q2 := grown_free hgrow (by simp; omega) (kf _ _) hvQ))
    all_goals
      go_end0
      rw [← HR.out]
      exact ⟨rfl, moved_app hbm cQ5 b5 (by subst hlr; exact appended_of1 b5 hown5 hlt hown1 (grown_same (b := w5.alloc _) hgrow rfl rfl rfl rfl) hat)⟩

/-- How the run may look behind an append. -/
def RunTo (head : Nat) (run : List Itm) (x : Itm) (head' : Nat) (run' : List Itm) : Prop := (head' = head ∧ run' = run ++ [x]) ∨ (head' = 0 ∧ run' = run.drop head ++ [x])

theorem append_any (w : World) (Q o base cr head : Nat) (cQ : Array Value) (ar : Option Addr) (run : List Itm) (x : Itm) (hQ : Blk w Q cQ 31) (c0 : cQ[o]? = some (.slice ar run.length cr)) (c1 : cQ[o + 1]? = some (.int .i64 head))
    (hown : w.ownsRow base 59 3 (.slice ar run.length cr) run.length (icells run)) (hlt : Q < base) (hbase : base ≤ w.heap.size) (hlen : run.length ≤ 2097152) (hh : head < run.length ∨ head = 0) :
    Calls Yba.prog 14 #[.pointer (some ⟨Q, o, none⟩), .agg #[.int .i64 x.key, .int .i64 x.order, .int .i64 x.value]] w fun e w' => e = .returned (.tuple #[]) ∧ ∃ head' run', RunTo head run x head' run' ∧ AppG w w' Q o base cQ (.slice ar run.length cr) head' run' := by
  by_cases hc : run.length = cr ∧ 0 < head ∧ run.length / 2 ≤ head
  · obtain ⟨h1, h2, h3⟩ := hc
    obtain ⟨g, hg⟩ : ∃ g, ar = some ⟨g, 0, none⟩ := by
      obtain ⟨g, cap, e, _⟩ := hown.form (by omega)
      simp at e
      exact ⟨g, e.1⟩
    subst hg
    refine (append_comp w Q o base cr head cQ g run x hQ c0 c1 hown hlt hlen h1 h2 h3 (by omega)).mono ?_
    rintro e w' ⟨rfl, h⟩
    exact ⟨rfl, 0, _, .inr ⟨rfl, rfl⟩, h⟩
  · refine (append_plain w Q o base cr head cQ ar run x hQ c0 c1 hown hlt hbase hlen hc).mono ?_
    rintro e w' ⟨rfl, h⟩
    exact ⟨rfl, head, _, .inl ⟨rfl, rfl⟩, appG_of h ⟨_, c0⟩ c1⟩

theorem push_run_postG {w w2 : World} {Q o base : Nat} {cQ : Array Value} {ar ah : Option Addr} {cr ch head pushed n head' : Nat} {run heap run' : List Itm} {ob : Obj} (h : QSt w Q o base cQ ar ah cr ch head pushed run heap)
    (hA : AppG (((w.setCell ⟨Q, o + 3, none⟩ (.int .i64 ((pushed : Int) + 1))).alloc ob).drewN n) w2 Q o base (cQ.setIfInBounds (o + 3) (.int .i64 ((pushed : Int) + 1))) (.slice ar run.length cr) head' run') :
    Pushed w w2 Q o base cQ (.slice ar run.length cr) (.slice ah heap.length ch) head' (pushed + 1) run' heap := by
  have hp := push_pre h ob n
  obtain ⟨cQ', g, cap, hb, e0, e1, e2, hown, hat⟩ := hA.row
  have hs0 : (((w.setCell ⟨Q, o + 3, none⟩ (.int .i64 ((pushed : Int) + 1))).alloc ob).drewN n).heap.size = w.heap.size + 1 := by simp [World.setCell]
  rw [hs0] at hat
  have hHQ : ∀ k, (Value.slice ah heap.length ch).ownBlock = some k → ¬ (k = Q ∨ (Value.slice ar run.length cr).ownBlock = some k) := fun k e => by
    rintro (rfl | e2)
    · have := h.ownH.lt _ e; have := h.lt; omega
    · exact h.apart k e2 e
  refine ⟨⟨cQ', some ⟨g, 0, none⟩, ah, cap, ch, ⟨hb, e0, e1, ?_, ?_, hown, ?_, ?_, h.lt, ?_⟩, ?_, ?_, fun k e => .inl e⟩, ?_⟩
  · rw [e2 _ (by omega) (by omega)]; exact hp.c2
  · rw [e2 _ (by omega) (by omega)]; exact hp.c3
  · exact hA.keeps.own hp.ownH hHQ
  · intro k e
    simp [Value.ownBlock] at e
    subst e
    rcases hat with e2 | e2
    · exact h.apart _ e2
    · intro e3
      have := h.ownH.lt _ e3
      omega
  · have := hA.keeps.size; rw [hs0] at this; have := h.hbase; omega
  · intro i hi
    rw [e2 _ (by omega) (by omega), Array.getElem?_setIfInBounds_ne (by omega)]
  · intro k e
    simp [Value.ownBlock] at e
    subst e
    rcases hat with e2 | e2
    · exact .inl e2
    · exact .inr (by omega)
  · have k1 : Keeps (fun k => k = Q ∨ (Value.slice ar run.length cr).ownBlock = some k ∨ (Value.slice ah heap.length ch).ownBlock = some k) w (((w.setCell ⟨Q, o + 3, none⟩ (.int .i64 ((pushed : Int) + 1))).alloc ob).drewN n) :=
      ((Keeps.set _ _ _ (fun _ => .inl rfl)).trans (Keeps.alloc _ _ _)).trans (Keeps.drewN _ _ _)
    exact k1.then hA.keeps (fun i _ hi => hi.imp id .inl)
end Go.Proofs.Ybulkdyfo
