import Derived.Test.YbulkdyfoDown
import Derived.Test.YbulkdyfoKey
namespace Go.Proofs.Ybulkdyfo
open Go.RowKit

/-- What 'Pop' leaves: a queue; no row is longer. -/
structure Popped (w w' : World) (Q o base : Nat) (cQ : Array Value) (vr vh : Value) (pushed lr lh : Nat) : Prop where
  st : ∃ head' run' heap', (head' < run'.length ∨ head' = 0) ∧ run'.length ≤ lr ∧ heap'.length ≤ lh ∧ Pushed w w' Q o base cQ vr vh head' pushed run' heap'

theorem Keeps.set3 {bad : Nat → Prop} {w u : World} (h : Keeps bad w u) {g : Nat} (hg : bad g) (a b c : Nat) (x y z : Value) : Keeps bad w (((u.setCell ⟨g, a, none⟩ x).setCell ⟨g, b, none⟩ y).setCell ⟨g, c, none⟩ z) := by
  have k1 : Keeps bad u (u.setCell ⟨g, a, none⟩ x) := Keeps.set _ _ _ (fun _ => hg)
  have k2 : Keeps bad (u.setCell ⟨g, a, none⟩ x) ((u.setCell ⟨g, a, none⟩ x).setCell ⟨g, b, none⟩ y) := Keeps.set _ _ _ (fun _ => hg)
  have k3 : Keeps bad ((u.setCell ⟨g, a, none⟩ x).setCell ⟨g, b, none⟩ y) (((u.setCell ⟨g, a, none⟩ x).setCell ⟨g, b, none⟩ y).setCell ⟨g, c, none⟩ z) := Keeps.set _ _ _ (fun _ => hg)
  exact ((h.trans k1).trans k2).trans k3

/-- The run's first item struck out. -/
theorem pop_run_a {w : World} {Q o base g : Nat} {cQ : Array Value} {ah : Option Addr} {cr ch head pushed m : Nat} {run heap : List Itm} (h : QSt w Q o base cQ (some ⟨g, 0, none⟩) ah cr ch head pushed run heap) (h1 : head < run.length) :
    QSt (((((w.drewN m).setCell ⟨g, head * 3, none⟩ (.int .i64 0)).setCell ⟨g, head * 3 + 1, none⟩ (.int .i64 0)).setCell ⟨g, head * 3 + 2, none⟩ (.int .i64 0)).setCell ⟨Q, o + 1, none⟩ (.int .i64 ((head : Int) + 1))) Q o base (cQ.setIfInBounds (o + 1) (.int .i64 ((head : Int) + 1))) (some ⟨g, 0, none⟩) ah cr ch (head + 1) pushed (run.set head ⟨0, 0, 0⟩) heap ∧
    Keeps (fun k => k = Q ∨ k = g) w (((((w.drewN m).setCell ⟨g, head * 3, none⟩ (.int .i64 0)).setCell ⟨g, head * 3 + 1, none⟩ (.int .i64 0)).setCell ⟨g, head * 3 + 2, none⟩ (.int .i64 0)).setCell ⟨Q, o + 1, none⟩ (.int .i64 ((head : Int) + 1))) := by
  have hgQ : g ≠ Q := fun e => by have := h.ownR.lt g rfl; have := h.lt; omega
  have hs1 : o + 1 < cQ.size := (Array.getElem?_eq_some_iff.1 h.c1).1
  have own' := own_set_item (own_drewN h.ownR m) head h1 ⟨0, 0, 0⟩
  have kk : Keeps (fun k => k = g) w ((((w.drewN m).setCell ⟨g, head * 3, none⟩ (.int .i64 0)).setCell ⟨g, head * 3 + 1, none⟩ (.int .i64 0)).setCell ⟨g, head * 3 + 2, none⟩ (.int .i64 0)) :=
    Keeps.set3 (bad := fun k => k = g) (Keeps.drewN _ w m) rfl _ _ _ _ _ _
  have k2 : Keeps (fun k => k = Q ∨ k = g) w (((((w.drewN m).setCell ⟨g, head * 3, none⟩ (.int .i64 0)).setCell ⟨g, head * 3 + 1, none⟩ (.int .i64 0)).setCell ⟨g, head * 3 + 2, none⟩ (.int .i64 0)).setCell ⟨Q, o + 1, none⟩ (.int .i64 ((head : Int) + 1))) :=
    (kk.mono (fun _ _ e => .inr e)).trans (Keeps.set _ _ _ (fun _ => .inl rfl))
  refine ⟨⟨(kk.blk h.blk (Ne.symm hgQ)).set_same _ _, ?_, ?_, ?_, ?_, ?_, ?_, ?_, h.lt, ?_⟩, k2⟩
  · rw [Array.getElem?_setIfInBounds_ne (by omega)]; simpa using h.c0
  · rw [Array.getElem?_setIfInBounds_self_of_lt hs1]; simp
  · rw [Array.getElem?_setIfInBounds_ne (by omega)]; exact h.c2
  · rw [Array.getElem?_setIfInBounds_ne (by omega)]; exact h.c3
  · simpa using ownsRow_set_other own' (a := ⟨Q, o + 1, none⟩) (by simpa [Value.ownBlock] using hgQ) _
  · refine k2.own h.ownH ?_
    rintro k e (rfl | rfl)
    · have := h.ownH.lt _ e; have := h.lt; omega
    · exact h.apart k rfl e
  · simpa using h.apart
  · have := k2.size; have := h.hbase; omega

theorem pop_run_b {w : World} {Q o base g : Nat} {cQ : Array Value} {ah : Option Addr} {cr ch head pushed m : Nat} {run heap : List Itm} (h : QSt w Q o base cQ (some ⟨g, 0, none⟩) ah cr ch head pushed run heap) :
    QSt (((w.drewN m).setCell ⟨Q, o, none⟩ (.slice (some ⟨g, 0, none⟩) 0 cr)).setCell ⟨Q, o + 1, none⟩ (.int .i64 0)) Q o base ((cQ.setIfInBounds o (.slice (some ⟨g, 0, none⟩) 0 cr)).setIfInBounds (o + 1) (.int .i64 0)) (some ⟨g, 0, none⟩) ah cr ch 0 pushed [] heap ∧
    Keeps (fun k => k = Q ∨ k = g) w (((w.drewN m).setCell ⟨Q, o, none⟩ (.slice (some ⟨g, 0, none⟩) 0 cr)).setCell ⟨Q, o + 1, none⟩ (.int .i64 0)) := by
  have hgQ : g ≠ Q := fun e => by have := h.ownR.lt g rfl; have := h.lt; omega
  have hs0 : o < cQ.size := (Array.getElem?_eq_some_iff.1 h.c0).1
  have hs1 : o + 1 < cQ.size := (Array.getElem?_eq_some_iff.1 h.c1).1
  obtain ⟨cur, hb, hbg, _, hcap, hcs, _⟩ := own_blk h.ownR
  have k1 : Keeps (fun k => k = Q ∨ k = g) w (w.drewN m) := Keeps.drewN _ _ _
  have k2 : Keeps (fun k => k = Q ∨ k = g) (w.drewN m) ((w.drewN m).setCell ⟨Q, o, none⟩ (.slice (some ⟨g, 0, none⟩) 0 cr)) := Keeps.set _ _ _ (fun _ => .inl rfl)
  have k3 : Keeps (fun k => k = Q ∨ k = g) ((w.drewN m).setCell ⟨Q, o, none⟩ (.slice (some ⟨g, 0, none⟩) 0 cr)) (((w.drewN m).setCell ⟨Q, o, none⟩ (.slice (some ⟨g, 0, none⟩) 0 cr)).setCell ⟨Q, o + 1, none⟩ (.int .i64 0)) := Keeps.set _ _ _ (fun _ => .inl rfl)
  have kk := (k1.trans k2).trans k3
  have hQ1 : Blk (w.drewN m) Q cQ 31 := h.blk
  have hb1 : Blk (w.drewN m) g cur 59 := hb
  refine ⟨⟨(hQ1.set_same _ _).set_same _ _, ?_, ?_, ?_, ?_, ?_, ?_, ?_, h.lt, ?_⟩, kk⟩
  · rw [Array.getElem?_setIfInBounds_ne (by omega), Array.getElem?_setIfInBounds_self_of_lt hs0]; rfl
  · rw [Array.getElem?_setIfInBounds_self_of_lt (by simpa using hs1)]; rfl
  · rw [Array.getElem?_setIfInBounds_ne (by omega), Array.getElem?_setIfInBounds_ne (by omega)]; exact h.c2
  · rw [Array.getElem?_setIfInBounds_ne (by omega), Array.getElem?_setIfInBounds_ne (by omega)]; exact h.c3
  · exact own_of_blk ((hb1.set_other (a := ⟨Q, o, none⟩) hgQ _).set_other (a := ⟨Q, o + 1, none⟩) hgQ _) hbg (by simp) hcap hcs (by simp [icells])
  · refine kk.own h.ownH ?_
    rintro k e (rfl | rfl)
    · have := h.ownH.lt _ e; have := h.lt; omega
    · exact h.apart k rfl e
  · intro k e
    exact h.apart k (by simpa [Value.ownBlock] using e)
  · have := kk.size; have := h.hbase; omega

set_option maxHeartbeats 1000000 in
set_option maxRecDepth 100000 in
theorem pop_run (w : World) (Q o base g cr ch head pushed : Nat) (cQ : Array Value) (ah : Option Addr) (run heap : List Itm) (h : QSt w Q o base cQ (some ⟨g, 0, none⟩) ah cr ch head pushed run heap)
    (hlr : run.length ≤ 2097152) (hlh : heap.length ≤ 2097152) (h1 : head < run.length) (hf : fromRun head run heap = true) :
    Calls Yba.prog 10 #[.pointer (some ⟨Q, o, none⟩)] w fun e w' => (∃ v, e = .returned (.int .i64 v)) ∧ Popped w w' Q o base cQ (.slice (some ⟨g, 0, none⟩) run.length cr) (.slice ah heap.length ch) pushed run.length heap.length := by
  have d0 := (h.blk.cell o).trans h.c0
  have d1 := (h.blk.cell (o + 1)).trans h.c1
  have f0 := h.blk.free o
  have f1 := h.blk.free (o + 1)
  have hQlt := h.blk.lt
  obtain ⟨q0, q1, q2⟩ := own_item h.ownR head h1
  have l0 := own_free h.ownR (head * 3)
  have l1 := own_free h.ownR (head * 3 + 1)
  have l2 := own_free h.ownR (head * 3 + 2)
  have hgQ : g ≠ Q := fun e => by have := h.ownR.lt g rfl; have := h.lt; omega
  have m1 : (0 : Int) ≤ (head : Int) := by omega
  have m2 : (head : Int) < (run.length : Int) := by omega
  go_enter Yba.func10, Yba.ntmps10
  go_wp2_with (go_at_call 16; refine (fromRun_any w Q o base cr ch head pushed cQ (some ⟨g, 0, none⟩) ah run heap h hlr hlh (by omega)).mono ?_; rintro e w4 ⟨rfl, n, rfl⟩; rw [hf])
  go_quiet (fail)
  go_wp2
  go_region
  go_upto_region 5 with fail
  obtain ⟨hP, hK⟩ := pop_run_a (m := n + nq + 1) h h1
  obtain ⟨w5, hw5⟩ : ∃ w5, w5 = (((((w.drewN (n + nq + 1)).setCell ⟨g, head * 3, none⟩ (.int .i64 0)).setCell ⟨g, head * 3 + 1, none⟩ (.int .i64 0)).setCell ⟨g, head * 3 + 2, none⟩ (.int .i64 0)).setCell ⟨Q, o + 1, none⟩ (.int .i64 ((head : Int) + 1))) := ⟨_, rfl⟩
  rw [← hw5] at hP hK ⊢
  clear hw5 d0 d1 f0 f1 q0 q1 q2 l0 l1 l2
  have d0 := (hP.blk.cell o).trans hP.c0
  have d1 := (hP.blk.cell (o + 1)).trans hP.c1
  have f0 := hP.blk.free o
  have f1 := hP.blk.free (o + 1)
  rw [List.length_set] at d0
  have kk : ∀ u, Keeps (fun k => k = Q ∨ k = g) w5 u → Keeps (fun k => k = Q ∨ (Value.slice (some ⟨g, 0, none⟩) run.length cr).ownBlock = some k ∨ (Value.slice ah heap.length ch).ownBlock = some k) w u := fun u ku =>
    (hK.trans ku).mono (fun k _ e => by
      rcases e with e | e
      · exact .inl e
      · exact .inr (.inl (by simp [Value.ownBlock, e])))
  have hout : ∀ i, i < o ∨ o + 4 ≤ i → (cQ.setIfInBounds (o + 1) (.int .i64 ((head : Int) + 1)))[i]? = cQ[i]? := fun i hi => by rw [Array.getElem?_setIfInBounds_ne (by omega)]
  by_cases he : head + 1 = run.length
  · have g1 : (((head : Int) + 1) == (run.length : Int)) = true := beq_iff_eq.2 (by omega)
    have HP : Hid (∀ m, Popped w (((w5.drewN m).setCell ⟨Q, o, none⟩ (.slice (some ⟨g, 0, none⟩) 0 cr)).setCell ⟨Q, o + 1, none⟩ (.int .i64 0)) Q o base cQ (.slice (some ⟨g, 0, none⟩) run.length cr) (.slice ah heap.length ch) pushed run.length heap.length) := fun m => by
      obtain ⟨hb, hkb⟩ := pop_run_b (m := m) hP
      refine ⟨0, [], heap, .inr rfl, by simp, Nat.le_refl _, ⟨_, _, _, _, _, hb, fun i hi => ?_, fun k e => .inl (by simpa [Value.ownBlock] using e), fun k e => .inl e⟩, kk _ hkb⟩
      rw [Array.getElem?_setIfInBounds_ne (by omega), Array.getElem?_setIfInBounds_ne (by omega)]
      exact hout i hi
    clear hP hK kk hout he h m2
    go_wp2
    go_quiet (fail)
    go_wp2
    go_ret
    exact ⟨⟨_, rfl⟩, HP.out _⟩
  · have g1 : (((head : Int) + 1) == (run.length : Int)) = false := beq_eq_false_iff_ne.2 (by omega)
    have HP : Hid (∀ m, Popped w (w5.drewN m) Q o base cQ (.slice (some ⟨g, 0, none⟩) run.length cr) (.slice ah heap.length ch) pushed run.length heap.length) := fun m =>
      ⟨head + 1, run.set head ⟨0, 0, 0⟩, heap, .inl (by simp; omega), by simp, Nat.le_refl _, ⟨_, _, _, _, _, ⟨hP.blk, hP.c0, hP.c1, hP.c2, hP.c3, hP.ownR, hP.ownH, hP.apart, hP.lt, hP.hbase⟩, hout, fun k e => .inl (by simpa [Value.ownBlock] using e), fun k e => .inl e⟩, kk _ (Keeps.drewN _ _ _)⟩
    clear hP hK kk hout he h m2
    go_wp2
    go_quiet (fail)
    go_wp2
    go_ret
    exact ⟨⟨_, rfl⟩, HP.out _⟩
end Go.Proofs.Ybulkdyfo
