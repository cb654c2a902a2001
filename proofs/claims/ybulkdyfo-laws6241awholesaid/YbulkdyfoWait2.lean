import Derived.Test.YbulkdyfoWait
namespace Go.Proofs.Ybulkdyfo
open Go.RowKit
theorem Yba.info3 : (Yba.prog.info? 3).map (fun i => (i.zero, i.size, i.bytes)) = some (some (.int .i64 0), 1, 8) := by kernel_rfl

theorem mid_set {w w1 : World} {A L Pb m cp Q n base c cnt : Nat} {mn at_ : Int} {cA cL cQ : Array Value} {xs : List Value} {S : Nat → QV} (h : Ante w A L Pb m cp Q n base cA cL cQ xs S) (hc : c < n)
    (hM : Mid w w1 A L Pb m cp Q n base c cnt mn at_ cA cL xs S) (k : Nat) :
    (∃ cQ' s', Qs ((w1.drewN k).setCell ⟨L, c, none⟩ (.bool true)) Q base n cQ' (fun j => if j = c then s' else S j) ∧ Inv s'.run s'.heap s'.pushed (cnt + 1) (newmin cnt mn at_) ∧ (∀ k, s'.owns k → (S c).owns k ∨ w.heap.size ≤ k)) ∧
    Blk ((w1.drewN k).setCell ⟨L, c, none⟩ (.bool true)) A cA 48 ∧ Blk ((w1.drewN k).setCell ⟨L, c, none⟩ (.bool true)) L (cL.setIfInBounds c (.bool true)) 4 ∧
    ((w1.drewN k).setCell ⟨L, c, none⟩ (.bool true)).ownsRow base 3 1 (.slice (some ⟨Pb, 0, none⟩) m cp) m xs ∧ Blk ((w1.drewN k).setCell ⟨L, c, none⟩ (.bool true)) w.heap.size #[.int .i64 c, .int .i64 at_] 51 ∧
    Keeps (fun k => k = Q ∨ (S c).owns k ∨ k = A ∨ k = L ∨ k = Pb) w ((w1.drewN k).setCell ⟨L, c, none⟩ (.bool true)) := by
  obtain ⟨nAQ, nAL, nAP, nLQ, nLP, nPQ⟩ := h.ne
  obtain ⟨cQ', s', q', hI, ho⟩ := hM.qs
  have hLlt := h.bL.lt
  have kk : Keeps (fun b => b = L) w1 ((w1.drewN k).setCell ⟨L, c, none⟩ (.bool true)) := (Keeps.drewN _ w1 k).trans (Keeps.set _ _ _ (fun _ => rfl))
  have hbk : Blk (w1.drewN k) L cL 4 := hM.bL
  refine ⟨⟨cQ', s', q'.keeps kk (Ne.symm nLQ) ?_, hI, ho⟩, kk.blk hM.bA nAL, hbk.set_same _ _, kk.own hM.own ?_, kk.blk hM.box (by omega), ?_⟩
  · rintro i hi b hb rfl
    by_cases hic : i = c
    · simp only [if_pos hic] at hb
      rcases ho _ hb with e | e
      · exact (h.sep c hc).2.1 e
      · omega
    · simp only [if_neg hic] at hb
      exact (h.sep i hi).2.1 hb
  · intro b e
    simp [Value.ownBlock] at e
    subst e
    exact Ne.symm nLP
  · exact (hM.keeps.mono (fun b _ e => e.imp id .inl)).then kk (fun i _ e => .inr (.inr (.inr (.inl e))))

theorem waited_false {w w2 w3 : World} {A L Pb m cp Q n base c cnt gg cap : Nat} {mn at_ : Int} {cA cL cQ : Array Value} {xs : List Value} {S : Nat → QV} {ob : Obj} (h : Ante w A L Pb m cp Q n base cA cL cQ xs S) (hc : c < n) (hcl : c < cL.size)
    (hqs : ∃ cQ' s', Qs w2 Q base n cQ' (fun j => if j = c then s' else S j) ∧ Inv s'.run s'.heap s'.pushed (cnt + 1) (newmin cnt mn at_) ∧ (∀ k, s'.owns k → (S c).owns k ∨ w.heap.size ≤ k))
    (hA : Blk w2 A cA 48) (hL : Blk w2 L (cL.setIfInBounds c (.bool true)) 4) (hk : Keeps (fun k => k = Q ∨ (S c).owns k ∨ k = A ∨ k = L ∨ k = Pb) w w2)
    (hown : w3.ownsRow base 3 1 (.slice (some ⟨gg, 0, none⟩) (m + 1) cap) (m + 1) (xs ++ [.int .i64 c])) (hg : (w2.alloc ob).grownBy w3 (some Pb)) (hat : some Pb = some gg ∨ gg = w2.heap.size + 1) :
    Waited w (w3.setCell ⟨A, 7, none⟩ (.slice (some ⟨gg, 0, none⟩) (m + 1) cap)) A L Pb m Q n base c cnt mn at_ cL xs S false := by
  obtain ⟨nAQ, nAL, nAP, nLQ, nLP, nPQ⟩ := h.ne
  obtain ⟨cQ', s', q', hI, ho⟩ := hqs
  have hAlt := h.bA.lt
  have hA2 := hA.lt
  have hPlt := (h.own.lt Pb rfl).2
  have kk : Keeps (fun b => b = Pb) w2 w3 := (Keeps.alloc _ w2 ob).trans (Keeps.grown hg (fun k e => (Option.some.inj e).symm))
  have k2 : Keeps (fun b => b = Pb ∨ b = A) w2 (w3.setCell ⟨A, 7, none⟩ (.slice (some ⟨gg, 0, none⟩) (m + 1) cap)) := (kk.mono (fun _ _ e => .inl e)).trans (Keeps.set _ _ _ (fun _ => .inr rfl))
  have hA3 : Blk w3 A cA 48 := kk.blk hA nAP
  have hsz : 8 < cA.size := (Array.getElem?_eq_some_iff.1 h.a8).1
  have hgA : gg ≠ A := by
    rintro rfl
    rcases hat with e | e
    · exact nAP (Option.some.inj e).symm
    · omega
  refine ⟨⟨cQ', s', q'.keeps k2 ?_ ?_, hI⟩, ⟨_, k2.blk hL ?_, ?_⟩, ⟨_, some ⟨gg, 0, none⟩, m + 1, cap, hA3.set_same _ _, ?_, ?_, ?_, rfl, ?_⟩, ?_⟩
  · rintro (e | e)
    · exact nPQ e.symm
    · exact nAQ e.symm
  · intro i hi b hb
    have key : ∀ X, X < w.heap.size → ¬ (S c).owns X → ¬ (S i).owns X → b ≠ X := by
      rintro X hX hcX hiX rfl
      by_cases hic : i = c
      · simp only [if_pos hic] at hb
        rcases ho _ hb with e | e
        · exact hcX e
        · omega
      · simp only [if_neg hic] at hb
        exact hiX hb
    rintro (e | e)
    · exact key Pb hPlt (h.sep c hc).2.2 (h.sep i hi).2.2 e
    · exact key A hAlt (h.sep c hc).1 (h.sep i hi).1 e
  · rintro (e | e)
    · exact nLP e
    · exact nAL e.symm
  · intro j _
    by_cases hj : j = c
    · subst hj
      rw [Array.getElem?_setIfInBounds_self_of_lt hcl, if_pos rfl]
    · rw [Array.getElem?_setIfInBounds_ne (Ne.symm hj), if_neg hj]
  · rw [Array.getElem?_setIfInBounds_ne (by omega)]; exact h.a4
  · rw [Array.getElem?_setIfInBounds_ne (by omega)]; exact h.a8
  · rw [Array.getElem?_setIfInBounds_self_of_lt (by omega)]
  · exact ownsRow_set_other hown (by simpa [Value.ownBlock] using hgA) _
  · refine hk.then k2 ?_
    rintro i _ (e | e)
    · exact .inr (.inr (.inr (.inr e)))
    · exact .inr (.inr (.inl e))

set_option maxHeartbeats 1000000 in
set_option maxRecDepth 100000 in
theorem wait_false (w : World) (A L Pb m cp Q n base c cnt : Nat) (mn slot at_ : Int) (cA cL cQ : Array Value) (xs : List Value) (S : Nat → QV) (h : Ante w A L Pb m cp Q n base cA cL cQ xs S) (hc : c < n)
    (hI : Inv (S c).run (S c).heap (S c).pushed cnt mn) (hcnt : cnt ≤ 2097152) (hb : cL[c]? = some (.bool false)) (hm : m ≤ 2097152) :
    Calls Yba.prog 7 #[.pointer (some ⟨A, 0, none⟩), .int .i64 slot, .agg #[.int .i64 c, .int .i64 at_]] w fun e w' => e = .returned (.tuple #[]) ∧ Waited w w' A L Pb m Q n base c cnt mn at_ cL xs S false := by
  obtain ⟨i0, hi, hz0, hz1, hz2⟩ := info_parts Yba.info3
  have d4 : w.cell? ⟨A, 4, none⟩ = some (.slice (some ⟨Q, 0, none⟩) n n) := (h.bA.cell 4).trans h.a4
  have hAlt := h.bA.lt
  have hLlt := h.bL.lt
  have c1 : (0 : Int) ≤ (c : Int) := by omega
  have c2 : (c : Int) < (n : Int) := by omega
  have hq : Qs (w.alloc (.cells #[.int .i64 c, .int .i64 at_] 51)).drew Q base n cQ S := h.qs.keeps (bad := fun _ => False) ((Keeps.alloc _ _ _).trans (Keeps.drew _ _)) id (fun _ _ _ _ => id)
  go_enter Yba.func7, Yba.ntmps7
  go_wp2
  go_region_held3 (fun w' => w'.cell? ⟨A, 4, none⟩ = some (.slice (some ⟨Q, 0, none⟩) n n) ∧ w'.cell? ⟨w.heap.size, 0, none⟩ = some (.int .i64 c) ∧ w'.cell? ⟨w.heap.size, 1, none⟩ = some (.int .i64 at_)) (first | go_keep | exact ⟨(hM.bA.cell 4).trans h.a4, hM.box.cell 0, hM.box.cell 1⟩)
    (first | (go_at_call 6; refine (push_any _ Q (c * 4) base _ _ _ cnt mn cQ _ _ _ _ at_ slot (hq.st c hc) hI hcnt).mono ?_; rintro e w1 ⟨rfl, run', heap', hP, hI'⟩; have hM := mid_of h hc hP hI'))
  have d7 : w1.cell? ⟨A, 7, none⟩ = some (.slice (some ⟨Pb, 0, none⟩) m cp) := (hM.bA.cell 7).trans h.a7
  have d8 : w1.cell? ⟨A, 8, none⟩ = some (.slice (some ⟨L, 0, none⟩) n n) := (hM.bA.cell 8).trans h.a8
  have dl : w1.cell? ⟨L, c, none⟩ = some (.bool false) := (hM.bL.cell c).trans hb
  have fl := hM.bL.free c
  have f7 := hM.bA.free 7
  have e0 : w1.cell? ⟨w.heap.size, 0, none⟩ = some (.int .i64 c) := hM.box.cell 0
  obtain ⟨nAQ, nAL, nAP, nLQ, nLP, nPQ⟩ := h.ne
  have nLB : L ≠ w.heap.size := by omega
  have nAB : A ≠ w.heap.size := by omega
  clear hP
  go_wp2
  go_quiet (fail)
  go_wp2
  go_region
  obtain ⟨hqs, bA, bL, own, box, hk⟩ := mid_set h hc hM (nq + 1)
  obtain ⟨w2, hw2⟩ : ∃ w2, w2 = (w1.drewN (nq + 1)).setCell ⟨L, c, none⟩ (.bool true) := ⟨_, rfl⟩
  rw [← hw2] at hqs bA bL own box hk ⊢
  clear hM d7 d8 dl fl f7 e0 hw2
  have g7 : w2.cell? ⟨A, 7, none⟩ = some (.slice (some ⟨Pb, 0, none⟩) m cp) := (bA.cell 7).trans h.a7
  have g0 : w2.cell? ⟨w.heap.size, 0, none⟩ = some (.int .i64 c) := box.cell 0
  have gf := bA.free 7
  have hA2 := bA.lt
  have k7 : ∀ (k : Nat) (o2 : Obj), ((w2.drewN k).alloc o2).cell? ⟨A, 7, none⟩ = some (.slice (some ⟨Pb, 0, none⟩) m cp) := fun k o2 => cell_alloc' (w := w2.drewN k) g7 o2
  have kf : ∀ (k : Nat) (o2 : Obj), ((w2.drewN k).alloc o2).frozen? ⟨A, 7, none⟩ = false := fun k o2 => free_alloc (w := w2.drewN k) (by simp; omega) gf o2
  have hbase := (h.qs.st c hc).hbase
  have hs2 := hk.size
  have hvA : some A ≠ (Value.slice (some ⟨Pb, 0, none⟩) m cp).ownBlock := fun e => nAP (Option.some.inj e)
  go_wp2
  go_region_law ((refine step_append_lies _ (by rfl) _ _ _ (by rfl) base 3 i0 _ 1 8 Yba.underlying24 hi hz0 hz1 hz2 rfl (by omega) (.slice (some ⟨Pb, 0, none⟩) m cp) m xs (by rfl) (World.ownsRow.alloc (own_drewN own _) _) ⟨w2.heap.size, 0, none⟩ 1 1 [.int .i64 c] (by rfl) (by rfl) (World.news_of_block (cs := #[.int .i64 c]) (t := 3) (fr := (0, 0)) (heap_new _ _ _ (by simp))) (by simp [Value.oneCell']) (by omega) (by unfold maxLen; omega) (by omega) (by simp; omega) (w2.heap.size + 1) (by simp) ?_; intro gg cap w3 hown1 hgrow hat hglt; have q1 := hgrow.cell (k7 _ _) hvA; have q2 := grown_free hgrow (by simp; omega) (kf _ _) hvA))
  all_goals
    go_end0
    exact ⟨rfl, waited_false h hc (Array.getElem?_eq_some_iff.1 hb).1 hqs bA bL hk hown1 (grown_plain (b := w2.alloc _) hgrow rfl rfl rfl rfl) hat⟩
end Go.Proofs.Ybulkdyfo
