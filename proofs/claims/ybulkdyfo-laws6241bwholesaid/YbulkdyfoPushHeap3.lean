import Derived.Test.YbulkdyfoPushHeap2
import Derived.Deep.CutRange
namespace Go.Proofs.Ybulkdyfo
open Go.RowKit

set_option maxHeartbeats 1000000 in
set_option maxRecDepth 100000 in
theorem push_heap (w : World) (Q o base cr ch head pushed : Nat) (cQ : Array Value) (ar ah : Option Addr) (run heap : List Itm) (key v : Int) (h : QSt w Q o base cQ ar ah cr ch head pushed run heap)
    (hlen : heap.length ≤ 2097152) (hlenr : run.length ≤ 2097152) (hpu : pushed ≤ 2097152) (hto : ((head : Int) == (run.length : Int)) = false) (hpos : 0 < run.length) (kl : Int) (hlast : (run[run.length - 1]'(by omega)).key = kl) (hk : decide (kl ≤ key) = false) :
    Calls Yba.prog 6 #[.pointer (some ⟨Q, o, none⟩), .int .i64 key, .int .i64 v] w fun e w' => e = .returned (.tuple #[]) ∧
      Pushed w w' Q o base cQ (.slice ar run.length cr) (.slice ah heap.length ch) head (pushed + 1) run (siftUp heap.length (heap ++ [⟨key, pushed, v⟩]) heap.length ⟨key, pushed, v⟩) := by
  obtain ⟨i0, hi, hz0, hz1, hz2⟩ := info_parts Yba.info59
  have d0 := (h.blk.cell o).trans h.c0
  have d1 := (h.blk.cell (o + 1)).trans h.c1
  have d3 := (h.blk.cell (o + 3)).trans h.c3
  have f3 := h.blk.free (o + 3)
  have hQlt := h.blk.lt
  obtain ⟨g, hg⟩ : ∃ g, ar = some ⟨g, 0, none⟩ := by
    obtain ⟨g, cap, e, _⟩ := h.ownR.form (by omega)
    simp at e
    exact ⟨g, e.1⟩
  subst hg
  obtain ⟨l0, _, _⟩ := own_item h.ownR (run.length - 1) (by omega)
  rw [hlast] at l0
  have hgQ : g ≠ Q := fun e => by have := h.ownR.lt g rfl; have := h.lt; omega
  have hgW : g < w.heap.size := (h.ownR.lt g rfl).2
  have b1 : (0 : Int) ≤ (run.length : Int) - 1 := by omega
  have b2 : (run.length : Int) - 1 < (run.length : Int) := by omega
  have hHW : (Value.slice ah heap.length ch).ownBlock ≠ some w.heap.size := fun e => by have := h.ownH.lt _ e; omega
  go_enter Yba.func6, Yba.ntmps6
  go_wp2
  go_quiet (fail)
  go_upto_region 4 with fail
  clear d0 d1 d3 f3 l0
  have hp := push_pre h (.cells #[.int .i64 key, .int .i64 pushed, .int .i64 v] 59) nq
  obtain ⟨w1, hw1⟩ : ∃ w1, w1 = ((w.setCell ⟨Q, o + 3, none⟩ (.int .i64 ((pushed : Int) + 1))).alloc (.cells #[.int .i64 key, .int .i64 pushed, .int .i64 v] 59)).drewN nq := ⟨_, rfl⟩
  rw [← hw1] at hp ⊢
  have hI : Blk w1 w.heap.size #[.int .i64 key, .int .i64 pushed, .int .i64 v] 59 := by
    rw [hw1]
    have := Blk.new (w.setCell ⟨Q, o + 3, none⟩ (.int .i64 ((pushed : Int) + 1))) #[.int .i64 key, .int .i64 pushed, .int .i64 v] 59
    rw [show (w.setCell ⟨Q, o + 3, none⟩ (.int .i64 ((pushed : Int) + 1))).heap.size = w.heap.size by simp [World.setCell]] at this
    exact this
  have hk1 : Keeps (fun k => k = Q ∨ (Value.slice ah heap.length ch).ownBlock = some k) w w1 := by
    rw [hw1]
    exact ((Keeps.set _ _ _ (fun _ => .inl rfl)).trans (Keeps.alloc _ _ _)).trans (Keeps.drewN _ _ _)
  have hs1 : w1.heap.size = w.heap.size + 1 := by rw [hw1]; simp [World.setCell]
  clear hw1
  have d2 := (hp.blk.cell (o + 2)).trans hp.c2
  have e0 : w1.cell? ⟨w.heap.size, 0, none⟩ = some (.int .i64 key) := hI.cell 0
  have e1 : w1.cell? ⟨w.heap.size, 1, none⟩ = some (.int .i64 pushed) := hI.cell 1
  have e2 : w1.cell? ⟨w.heap.size, 2, none⟩ = some (.int .i64 v) := hI.cell 2
  have hbase := h.hbase
  have hown := hp.ownH
  go_region_law ((refine step_append_lies _ (by rfl) _ _ _ (by rfl) base 59 i0 _ 3 24 Yba.underlying29 hi hz0 hz1 hz2 rfl (by omega) (.slice ah heap.length ch) heap.length (icells heap) (by rfl) (World.ownsRow.alloc (own_drewN hown _) _) ⟨w.heap.size + 1, 0, none⟩ 1 1 [.int .i64 key, .int .i64 pushed, .int .i64 v] (by rfl) (by rfl) (World.news_of_block (cs := #[.int .i64 key, .int .i64 pushed, .int .i64 v]) (t := 59) (fr := (0, 0)) (heap_new _ _ _ (by simp [hs1]))) (by simp [Value.oneCell']) (by omega) (by unfold maxLen; omega) (by omega) (by simp; omega) (w1.heap.size + 1) (by simp) ?_; intro gg cap w2 hown1 hgrow hat hglt))
  all_goals
    have hS := srel_start (x := ⟨key, pushed, v⟩) hp hI rfl hbase hk1 hHW hown1 (grown_plain (b := w1.alloc _) hgrow rfl rfl rfl rfl) hat
    clear hown1 hgrow hat hown hp hI hk1 d2 e0 e1 e2
    go_wp2
    go_loopw [8, 9] (fun s _ wq => ∃ (i : Nat) (hs : List Itm), i < heap.length + 1 ∧ s = .int .i64 i ∧ SRel w wq Q o base gg cap w.heap.size (cQ.setIfInBounds (o + 3) (.int .i64 ((pushed : Int) + 1))) (.slice ah heap.length ch) heap.length heap ⟨key, pushed, v⟩ i hs) (fun s _ _ => (intOf s).toNat)
    case atStart => exact ⟨heap.length, _, by omega, by go_num, hS⟩
    case round =>
      clear hS
      obtain ⟨i, hs, him, rfl, hS⟩ := hrel
      have e0 : wr.cell? ⟨w.heap.size, 0, none⟩ = some (.int .i64 key) := hS.box.cell 0
      have e1 : wr.cell? ⟨w.heap.size, 1, none⟩ = some (.int .i64 pushed) := hS.box.cell 1
      have e2 : wr.cell? ⟨w.heap.size, 2, none⟩ = some (.int .i64 v) := hS.box.cell 2
      by_cases hi0 : i = 0
      · subst hi0
        obtain ⟨p, _, p0, p1, p2⟩ := hS.item 0 (by omega)
        have f0 := own_free hS.own 0
        have f1 := own_free hS.own 1
        have f2 := own_free hS.own 2
        have fq := hS.blk.free (o + 2)
        have cq : ∃ u, wr.cell? ⟨Q, o + 2, none⟩ = some u := ⟨_, (hS.blk.cell (o + 2)).trans (by rw [Array.getElem?_setIfInBounds_ne (by omega)]; exact h.c2)⟩
        obtain ⟨u, cq⟩ := cq
        have hgQ' := hS.gQ
        have hgI' := hS.gI
        have HP : Hid _ := srel_end h rfl hS (by omega) (siftUp_stop (.inl rfl))
        clear hS
        go_wp2
        (first | go_end0 | refine bodyPost_ret (results_none rfl _ _ _) rfl ?_)
        exact ⟨rfl, HP.out⟩
      · obtain ⟨k, rfl⟩ : ∃ k, i = k + 1 := ⟨i - 1, by omega⟩
        obtain ⟨p, hp, p0, p1, p2⟩ := hS.item (k / 2) (by omega)
        go_upto_region 8 with fail
        rw [show ((k : Int) / 2) = ((k / 2 : Nat) : Int) by omega]
        obtain ⟨m, hm⟩ : ∃ m, m = k / 2 := ⟨_, rfl⟩
        rw [← hm] at hp p0 p1 p2 ⊢
        have m1 : (0 : Int) ≤ (m : Int) := by omega
        have m2 : (m : Int) < (heap.length : Int) + 1 := by omega
        have hd : hs.getD ((k + 1 - 1) / 2) ⟨key, pushed, v⟩ = p := by rw [Nat.add_sub_cancel, ← hm]; simp [List.getD, hp]
        have HM2 : Hid (m = k / 2) := hm
        have hm3 : Hid (m < k + 1) := (by omega : m < k + 1)
        clear hm
        cases hl : ltI ⟨key, pushed, v⟩ p
        · obtain ⟨q, _, t0, t1, t2⟩ := hS.item (k + 1) (by omega)
          have f0 := own_free hS.own ((k + 1) * 3)
          have f1 := own_free hS.own ((k + 1) * 3 + 1)
          have f2 := own_free hS.own ((k + 1) * 3 + 2)
          have fq := hS.blk.free (o + 2)
          have cq : ∃ u, wr.cell? ⟨Q, o + 2, none⟩ = some u := ⟨_, (hS.blk.cell (o + 2)).trans (by rw [Array.getElem?_setIfInBounds_ne (by omega)]; exact h.c2)⟩
          obtain ⟨u, cq⟩ := cq
          have hgQ' := hS.gQ
          have hgI' := hS.gI
          have HP : Hid (∀ n, _) := fun n => srel_end h rfl (hS.drewN n) (by omega) (siftUp_stop (.inr (by rw [hd]; exact hl)))
          clear hS hd
          go_upto_region 11 with (go_at_call 15; refine (before_any w.heap.size 0 gg (m * 3) ⟨key, pushed, v⟩ p _ (by simpa using e0) (by simpa using e1) p0 p1).mono ?_; rintro e w4 ⟨rfl, n, rfl⟩; rw [hl])
          go_wp2
          (first | go_end0 | refine bodyPost_ret (results_none rfl _ _ _) rfl ?_)
          exact ⟨rfl, HP.out _⟩
        · have f0 := own_free hS.own ((k + 1) * 3)
          have f1 := own_free hS.own ((k + 1) * 3 + 1)
          have f2 := own_free hS.own ((k + 1) * 3 + 2)
          obtain ⟨q, _, t0, t1, t2⟩ := hS.item (k + 1) (by omega)
          have HM : Hid (∀ n, _) := fun n => (hS.drewN n).move (by omega) (by omega) p (by rw [Nat.add_sub_cancel, ← HM2.out]; exact hp) hl
          clear hS hd
          go_wp2_with (go_at_call 15; refine (before_any w.heap.size 0 gg (m * 3) ⟨key, pushed, v⟩ p _ (by simpa using e0) (by simpa using e1) p0 p1).mono ?_; rintro e w4 ⟨rfl, n, rfl⟩; rw [hl])
          go_roundw
          case rel =>
            have := HM.out n
            rw [Nat.add_sub_cancel, ← HM2.out] at this
            exact ⟨m, _, by have := hm3.out; omega, rfl, this⟩
          case measure => have := hm3.out; simp [intOf]; omega
end Go.Proofs.Ybulkdyfo
