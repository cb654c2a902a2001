import Derived.Test.YbulkdyfoPop
namespace Go.Proofs.Ybulkdyfo
open Go.RowKit

theorem QSt.drewN {w : World} {Q o base : Nat} {cQ : Array Value} {ar ah : Option Addr} {cr ch head pushed : Nat} {run heap : List Itm} (h : QSt w Q o base cQ ar ah cr ch head pushed run heap) (k : Nat) : QSt (w.drewN k) Q o base cQ ar ah cr ch head pushed run heap :=
  ⟨h.blk, h.c0, h.c1, h.c2, h.c3, h.ownR, h.ownH, h.apart, h.lt, h.hbase⟩

theorem Popped.undrew {w w' : World} {Q o base : Nat} {cQ : Array Value} {vr vh : Value} {pushed lr lh k : Nat} (h : Popped (w.drewN k) w' Q o base cQ vr vh pushed lr lh) : Popped w w' Q o base cQ vr vh pushed lr lh := by
  obtain ⟨head', run', heap', h1, h2, h3, h4⟩ := h.st
  exact ⟨head', run', heap', h1, h2, h3, h4.st, (Keeps.drewN _ _ _).trans h4.keeps⟩

/-- The heap's last item cut off. -/
theorem own_cut {w : World} {base g n cap : Nat} {l : List Itm} (h : w.ownsRow base 59 3 (.slice (some ⟨g, 0, none⟩) (n + 1) cap) (n + 1) (icells l)) : ∃ l' : List Itm, l'.length = n ∧ w.ownsRow base 59 3 (.slice (some ⟨g, 0, none⟩) n cap) n (icells l') := by
  obtain ⟨cur, hb, hbg, hc, hm, hs, ht⟩ := own_blk h
  have hl : l.length = n + 1 := by have := h.1; rw [icells_len] at this; omega
  refine ⟨l.take n, by simp; omega, own_of_blk hb hbg (by omega) hm hs ?_⟩
  have e : icells (l.take n) = (icells l).take (n * 3) := by
    have e2 : icells l = icells (l.take n) ++ icells (l.drop n) := by
      have : icells (l.take n ++ l.drop n) = icells (l.take n) ++ icells (l.drop n) := List.flatMap_append
      rwa [List.take_append_drop] at this
    have e3 : (icells (l.take n)).length = n * 3 := by rw [icells_len]; simp; omega
    have e4 := List.take_append_of_le_length (l₂ := icells (l.drop n)) (show n * 3 ≤ (icells (l.take n)).length by omega)
    have e5 := List.take_of_length_le (l := icells (l.take n)) (show (icells (l.take n)).length ≤ n * 3 by omega)
    rw [e2, e4, e5]
  rw [e, ← ht, List.take_take, Nat.min_eq_left (by omega)]

theorem pop_heap_end {w w6 : World} {Q o base g : Nat} {cQ : Array Value} {ar : Option Addr} {cr ch head pushed n : Nat} {run heap l : List Itm} (h : QSt w Q o base cQ ar (some ⟨g, 0, none⟩) cr ch head pushed run heap) (hh : head < run.length ∨ head = 0) (hn : heap.length = n + 1)
    (own : w6.ownsRow base 59 3 (.slice (some ⟨g, 0, none⟩) n ch) n (icells l)) (hl : l.length = n) (k6 : Keeps (fun k => k = g) w w6) :
    Popped w (w6.setCell ⟨Q, o + 2, none⟩ (.slice (some ⟨g, 0, none⟩) n ch)) Q o base cQ (.slice ar run.length cr) (.slice (some ⟨g, 0, none⟩) heap.length ch) pushed run.length heap.length := by
  have hgQ : g ≠ Q := fun e => by have := h.ownH.lt g rfl; have := h.lt; omega
  have hs2 : o + 2 < cQ.size := (Array.getElem?_eq_some_iff.1 h.c2).1
  have kk : Keeps (fun k => k = Q ∨ k = g) w (w6.setCell ⟨Q, o + 2, none⟩ (.slice (some ⟨g, 0, none⟩) n ch)) := (k6.mono (fun _ _ e => .inr e)).trans (Keeps.set _ _ _ (fun _ => .inl rfl))
  have hQ6 : Blk w6 Q cQ 31 := k6.blk h.blk (Ne.symm hgQ)
  subst hl
  refine ⟨head, run, l, hh, Nat.le_refl _, by omega, ⟨_, ar, some ⟨g, 0, none⟩, cr, ch, ⟨hQ6.set_same _ _, ?_, ?_, ?_, ?_, ?_, ?_, ?_, h.lt, ?_⟩, ?_, fun k e => .inl e, fun k e => .inl (by simpa [Value.ownBlock] using e)⟩, ?_⟩
  · rw [Array.getElem?_setIfInBounds_ne (by omega)]; exact h.c0
  · rw [Array.getElem?_setIfInBounds_ne (by omega)]; exact h.c1
  · rw [Array.getElem?_setIfInBounds_self_of_lt hs2]
  · rw [Array.getElem?_setIfInBounds_ne (by omega)]; exact h.c3
  · refine kk.own h.ownR ?_
    rintro k e (rfl | rfl)
    · have := h.ownR.lt _ e; have := h.lt; omega
    · exact h.apart k e rfl
  · exact ownsRow_set_other own (by simpa [Value.ownBlock] using hgQ) _
  · intro k e e2
    exact h.apart k e (by simpa [Value.ownBlock] using e2)
  · have := kk.size; have := h.hbase; omega
  · intro i hi
    rw [Array.getElem?_setIfInBounds_ne (by omega)]
  · refine kk.mono (fun k _ e => ?_)
    rcases e with e | e
    · exact .inl e
    · exact .inr (.inr (by simp [Value.ownBlock, e]))

set_option maxHeartbeats 1000000 in
set_option maxRecDepth 100000 in
theorem pop_heap (w : World) (Q o base g cr ch head pushed : Nat) (cQ : Array Value) (ar : Option Addr) (run heap : List Itm) (h : QSt w Q o base cQ ar (some ⟨g, 0, none⟩) cr ch head pushed run heap)
    (hlr : run.length ≤ 2097152) (hlh : heap.length ≤ 2097152) (h1 : head ≤ run.length) (hh : head < run.length ∨ head = 0) (n : Nat) (hn : heap.length = n + 1) (hf : fromRun head run heap = false) :
    Calls Yba.prog 10 #[.pointer (some ⟨Q, o, none⟩)] w fun e w' => (∃ v, e = .returned (.int .i64 v)) ∧ Popped w w' Q o base cQ (.slice ar run.length cr) (.slice (some ⟨g, 0, none⟩) heap.length ch) pushed run.length heap.length := by
  go_enter Yba.func10, Yba.ntmps10
  go_upto_region 9 with (go_at_call 16; refine (fromRun_any w Q o base cr ch head pushed cQ ar (some ⟨g, 0, none⟩) run heap h hlr hlh h1).mono ?_; rintro e w4 ⟨rfl, k, hk⟩; replace hk : Hid (w4 = w.drewN k) := hk; rw [hf])
  have HE : Hid (∀ w', Popped w4 w' Q o base cQ (.slice ar run.length cr) (.slice (some ⟨g, 0, none⟩) heap.length ch) pushed run.length heap.length → Popped w w' Q o base cQ (.slice ar run.length cr) (.slice (some ⟨g, 0, none⟩) heap.length ch) pushed run.length heap.length) := fun w' hp => by rw [hk.out] at hp; exact hp.undrew
  have h4 : QSt w4 Q o base cQ ar (some ⟨g, 0, none⟩) cr ch head pushed run heap := by rw [hk.out]; exact h.drewN k
  clear hk h hf
  have d2 := (h4.blk.cell (o + 2)).trans h4.c2
  have f2 := h4.blk.free (o + 2)
  have hQlt := h4.blk.lt
  obtain ⟨q0, q1, q2⟩ := own_item h4.ownH 0 (by omega)
  obtain ⟨p0, p1, p2⟩ := own_item h4.ownH n (by omega)
  generalize heap[n]'(by omega) = x at p0 p1 p2
  generalize heap[0]'(by omega) = y at q0 q1 q2
  have l0 := own_free h4.ownH (n * 3)
  have l1 := own_free h4.ownH (n * 3 + 1)
  have l2 := own_free h4.ownH (n * 3 + 2)
  have hgQ : g ≠ Q := fun e => by have := h4.ownH.lt g rfl; have := h4.lt; omega
  have hgw : g < w4.heap.size := (h4.ownH.lt g rfl).2
  have m1 : (0 : Int) ≤ (n : Int) := by omega
  have m2 : (n : Int) < (n : Int) + 1 := by omega
  have m3 : (0 : Int) < (n : Int) + 1 := by omega
  have m4 : (n : Int) ≤ (n : Int) + 1 := by omega
  have m5 : (n : Int) ≤ (ch : Int) := by
    obtain ⟨_, _, _, hcap, _⟩ := own_blk h4.ownH
    omega
  rw [hn] at d2
  go_upto_region 15 with fail
  have hown := own_set_item h4.ownH n (by omega) ⟨0, 0, 0⟩
  rw [hn] at hown
  obtain ⟨l', hl', own5⟩ := own_cut (hown.alloc (.cells #[.int .i64 x.key, .int .i64 x.order, .int .i64 x.value] 59))
  have k5 : Keeps (fun k => k = g) w4 ((((w4.setCell ⟨g, n * 3, none⟩ (.int .i64 0)).setCell ⟨g, n * 3 + 1, none⟩ (.int .i64 0)).setCell ⟨g, n * 3 + 2, none⟩ (.int .i64 0)).alloc (.cells #[.int .i64 x.key, .int .i64 x.order, .int .i64 x.value] 59)) :=
    (Keeps.set3 (bad := fun k => k = g) (Keeps.refl _ w4) rfl _ _ _ _ _ _).trans (Keeps.alloc _ _ _)
  have hI := Blk.new (((w4.setCell ⟨g, n * 3, none⟩ (.int .i64 0)).setCell ⟨g, n * 3 + 1, none⟩ (.int .i64 0)).setCell ⟨g, n * 3 + 2, none⟩ (.int .i64 0)) #[.int .i64 x.key, .int .i64 x.order, .int .i64 x.value] 59
  rw [show (((w4.setCell ⟨g, n * 3, none⟩ (.int .i64 0)).setCell ⟨g, n * 3 + 1, none⟩ (.int .i64 0)).setCell ⟨g, n * 3 + 2, none⟩ (.int .i64 0)).heap.size = w4.heap.size by simp [World.setCell]] at hI
  obtain ⟨w5, hw5⟩ : ∃ w5, w5 = ((((w4.setCell ⟨g, n * 3, none⟩ (.int .i64 0)).setCell ⟨g, n * 3 + 1, none⟩ (.int .i64 0)).setCell ⟨g, n * 3 + 2, none⟩ (.int .i64 0)).alloc (.cells #[.int .i64 x.key, .int .i64 x.order, .int .i64 x.value] 59)) := ⟨_, rfl⟩
  rw [← hw5] at own5 k5 hI ⊢
  have hQ5 : Blk w5 Q cQ 31 := k5.blk h4.blk (Ne.symm hgQ)
  clear hw5 hown d2 f2 q0 q1 q2 p0 p1 p2 l0 l1 l2
  by_cases hz : n = 0
  · have d2 := (hQ5.cell (o + 2)).trans h4.c2
    have f2 := hQ5.free (o + 2)
    have z1 : decide ((0 : Int) < (n : Int)) = false := decide_eq_false (by omega)
    have z2 : ¬ (0 : Int) < (n : Int) := by omega
    have HP : Hid _ := HE.out _ (pop_heap_end h4 hh hn own5 hl' k5)
    clear HE h4 own5 k5 hQ5 m1 m2 m3 m4 m5 hI hz
    go_wp2
    go_ret
    first | exact ⟨⟨_, rfl⟩, HP.out⟩ | exact ⟨⟨_, rfl⟩, by have := HP.out; rw [hn] at this; exact this⟩
  · have z1 : decide ((0 : Int) < (n : Int)) = true := decide_eq_true (by omega)
    have z2 : (0 : Int) < (n : Int) := by omega
    have e0 : w5.cell? ⟨w4.heap.size, 0, none⟩ = some (.int .i64 x.key) := hI.cell 0
    have e1 : w5.cell? ⟨w4.heap.size, 1, none⟩ = some (.int .i64 x.order) := hI.cell 1
    have e2 : w5.cell? ⟨w4.heap.size, 2, none⟩ = some (.int .i64 x.value) := hI.cell 2
    go_upto_region 17 with (go_at_call 17; refine (down_any w5 base g n ch l' x own5 hl' (by omega) (by omega)).mono ?_; rintro e w6 ⟨rfl, hs', hl6, own6, k6⟩)
    have k56 := k5.trans k6
    have hQ6 : Blk w6 Q cQ 31 := k6.blk hQ5 (Ne.symm hgQ)
    have d2 := (hQ6.cell (o + 2)).trans h4.c2
    have f2 := hQ6.free (o + 2)
    have HP : Hid _ := HE.out _ (pop_heap_end h4 hh hn own6 hl6 k56)
    clear HE h4 own5 own6 k5 k6 k56 hQ5 hQ6 hI e0 e1 e2
    go_wp2
    go_ret
    first | exact ⟨⟨_, rfl⟩, HP.out⟩ | exact ⟨⟨_, rfl⟩, by have := HP.out; rw [hn] at this; exact this⟩

/-- 'Pop' of a queue that is not empty. -/
theorem pop_any (w : World) (Q o base cr ch head pushed : Nat) (cQ : Array Value) (ar ah : Option Addr) (run heap : List Itm) (h : QSt w Q o base cQ ar ah cr ch head pushed run heap)
    (hlr : run.length ≤ 2097152) (hlh : heap.length ≤ 2097152) (hh : head < run.length ∨ head = 0) (hpos : head < run.length ∨ 0 < heap.length) :
    Calls Yba.prog 10 #[.pointer (some ⟨Q, o, none⟩)] w fun e w' => (∃ v, e = .returned (.int .i64 v)) ∧ Popped w w' Q o base cQ (.slice ar run.length cr) (.slice ah heap.length ch) pushed run.length heap.length := by
  cases hf : fromRun head run heap with
  | true =>
    have h1 : head < run.length := by
      by_cases e : head < run.length
      · exact e
      · rw [fromRun, List.getElem?_eq_none (by omega)] at hf
        simp at hf
    obtain ⟨g, hg⟩ : ∃ g, ar = some ⟨g, 0, none⟩ := by
      obtain ⟨g, cap, e, _⟩ := h.ownR.form (by omega)
      simp at e
      exact ⟨g, e.1⟩
    subst hg
    exact pop_run w Q o base g cr ch head pushed cQ ah run heap h hlr hlh h1 hf
  | false =>
    have hp : 0 < heap.length := by
      by_cases e : 0 < heap.length
      · exact e
      · have h1 : head < run.length := by omega
        rw [fromRun, List.getElem?_eq_getElem h1, List.getElem?_eq_none (by omega)] at hf
        simp at hf
    obtain ⟨g, hg⟩ : ∃ g, ah = some ⟨g, 0, none⟩ := by
      obtain ⟨g, cap, e, _⟩ := h.ownH.form hp
      simp at e
      exact ⟨g, e.1⟩
    subst hg
    exact pop_heap w Q o base g cr ch head pushed cQ ar run heap h hlr hlh (by omega) hh (heap.length - 1) (by omega) hf
end Go.Proofs.Ybulkdyfo
