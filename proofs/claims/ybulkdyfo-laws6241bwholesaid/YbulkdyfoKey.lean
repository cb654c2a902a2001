import Derived.Test.YbulkdyfoPushHeap3
namespace Go.Proofs.Ybulkdyfo
open Go.RowKit

/-- 'Len'. -/
theorem len_any (w : World) (Q o base cr ch head pushed : Nat) (cQ : Array Value) (ar ah : Option Addr) (run heap : List Itm) (h : QSt w Q o base cQ ar ah cr ch head pushed run heap)
    (hlr : run.length ≤ 2097152) (hlh : heap.length ≤ 2097152) (hh : head ≤ run.length) :
    Calls Yba.prog 8 #[.pointer (some ⟨Q, o, none⟩)] w fun e w' => e = .returned (.int .i64 ((run.length : Int) - head + heap.length)) ∧ ∃ n, w' = w.drewN n := by
  have d0 := (h.blk.cell o).trans h.c0
  have d1 := (h.blk.cell (o + 1)).trans h.c1
  have d2 := (h.blk.cell (o + 2)).trans h.c2
  go_enter Yba.func8, Yba.ntmps8
  go_wp2
  go_quiet (fail)
  go_wp2
  go_ret
  exact ⟨rfl, _, rfl⟩

/-- Whether the first value is the run's. -/
def fromRun (head : Nat) (run heap : List Itm) : Bool :=
  match run[head]?, heap[0]? with
  | none, _ => false
  | some _, none => true
  | some a, some b => ltI a b

set_option maxHeartbeats 1000000 in
set_option maxRecDepth 100000 in
theorem fromRun_any (w : World) (Q o base cr ch head pushed : Nat) (cQ : Array Value) (ar ah : Option Addr) (run heap : List Itm) (h : QSt w Q o base cQ ar ah cr ch head pushed run heap)
    (hlr : run.length ≤ 2097152) (hlh : heap.length ≤ 2097152) (hh : head ≤ run.length) :
    Calls Yba.prog 16 #[.pointer (some ⟨Q, o, none⟩)] w fun e w' => e = .returned (.bool (fromRun head run heap)) ∧ ∃ n, w' = w.drewN n := by
  have d0 := (h.blk.cell o).trans h.c0
  have d1 := (h.blk.cell (o + 1)).trans h.c1
  have d2 := (h.blk.cell (o + 2)).trans h.c2
  by_cases h1 : head < run.length
  · have g1 : decide ((head : Int) < (run.length : Int)) = true := decide_eq_true (by omega)
    have g1' : (head : Int) < (run.length : Int) := by omega
    by_cases h2 : heap.length = 0
    · have g2 : ((heap.length : Int) == 0) = true := beq_iff_eq.2 (by omega)
      have e : fromRun head run heap = true := by
        have : heap = [] := List.length_eq_zero_iff.1 h2
        subst this
        simp [fromRun, List.getElem?_eq_getElem h1]
      rw [e]
      clear e
      go_enter Yba.func16, Yba.ntmps16
      go_wp2
      go_quiet (fail)
      go_wp2
      go_ret
      exact ⟨rfl, _, rfl⟩
    · have g2 : ((heap.length : Int) == 0) = false := beq_eq_false_iff_ne.2 (by omega)
      have g3 : (0 : Int) < (heap.length : Int) := by omega
      obtain ⟨gr, hgr⟩ : ∃ g, ar = some ⟨g, 0, none⟩ := by
        obtain ⟨g, cap, e, _⟩ := h.ownR.form (by omega)
        simp at e
        exact ⟨g, e.1⟩
      obtain ⟨gh, hgh⟩ : ∃ g, ah = some ⟨g, 0, none⟩ := by
        obtain ⟨g, cap, e, _⟩ := h.ownH.form (by omega)
        simp at e
        exact ⟨g, e.1⟩
      subst hgr hgh
      obtain ⟨p0, p1, _⟩ := own_item h.ownR head h1
      obtain ⟨q0, q1, _⟩ := own_item h.ownH 0 (by omega)
      rw [Nat.zero_mul] at q0 q1
      have g4 : 0 < heap.length := by omega
      have e : fromRun head run heap = ltI (run[head]'h1) (heap[0]'(by omega)) := by
        simp [fromRun, List.getElem?_eq_getElem h1, List.getElem?_eq_getElem (show 0 < heap.length by omega)]
      rw [e]
      clear e
      generalize run[head]'h1 = x at *
      generalize heap[0]'(by omega) = y at *
      go_enter Yba.func16, Yba.ntmps16
      go_wp2
      go_quiet ((go_at_call 15; exact Calls.quiet_of (before_any gr (head * 3) gh 0 x y _ p0 p1 q0 q1)))
      go_wp2
      go_ret
      exact ⟨rfl, _, rfl⟩
  · have g1 : decide ((head : Int) < (run.length : Int)) = false := decide_eq_false (by omega)
    have e : fromRun head run heap = false := by simp [fromRun, List.getElem?_eq_none (show run.length ≤ head by omega)]
    rw [e]
    clear e
    go_enter Yba.func16, Yba.ntmps16
    go_wp2
    go_quiet (fail)
    go_wp2
    go_ret
    exact ⟨rfl, _, rfl⟩

/-- The first value's key. -/
def qkey (head : Nat) (run heap : List Itm) : Int :=
  if fromRun head run heap then ((run[head]?).map Itm.key).getD 0 else ((heap[0]?).map Itm.key).getD 0

set_option maxHeartbeats 1000000 in
set_option maxRecDepth 100000 in
/-- 'Key' of a queue that is not empty. -/
theorem key_any (w : World) (Q o base cr ch head pushed : Nat) (cQ : Array Value) (ar ah : Option Addr) (run heap : List Itm) (h : QSt w Q o base cQ ar ah cr ch head pushed run heap)
    (hlr : run.length ≤ 2097152) (hlh : heap.length ≤ 2097152) (hh : head ≤ run.length) (hne : head < run.length ∨ 0 < heap.length) :
    Calls Yba.prog 9 #[.pointer (some ⟨Q, o, none⟩)] w fun e w' => e = .returned (.int .i64 (qkey head run heap)) ∧ ∃ n, w' = w.drewN n := by
  have d0 := (h.blk.cell o).trans h.c0
  have d1 := (h.blk.cell (o + 1)).trans h.c1
  have d2 := (h.blk.cell (o + 2)).trans h.c2
  cases hf : fromRun head run heap
  · have g4 : 0 < heap.length := by
      rcases hne with h1 | h1
      · rcases Nat.eq_zero_or_pos heap.length with h2 | h2
        · have : heap = [] := List.length_eq_zero_iff.1 h2
          subst this
          simp [fromRun, List.getElem?_eq_getElem h1] at hf
        · exact h2
      · exact h1
    have g3 : (0 : Int) < (heap.length : Int) := by omega
    obtain ⟨gh, hgh⟩ : ∃ g, ah = some ⟨g, 0, none⟩ := by
      obtain ⟨g, cap, e, _⟩ := h.ownH.form (by omega)
      simp at e
      exact ⟨g, e.1⟩
    subst hgh
    obtain ⟨q0, _, _⟩ := own_item h.ownH 0 (by omega)
    rw [Nat.zero_mul] at q0
    have e : qkey head run heap = (heap[0]'(by omega)).key := by simp [qkey, hf, List.getElem?_eq_getElem g4]
    rw [e]
    clear e
    go_enter Yba.func9, Yba.ntmps9
    go_wp2_with (go_at_call 16; refine (fromRun_any w Q o base cr ch head pushed cQ ar (some ⟨gh, 0, none⟩) run heap h hlr hlh hh).mono ?_; rintro e w4 ⟨rfl, n, rfl⟩; rw [hf])
    go_ret
    exact ⟨rfl, _, rfl⟩
  · have h1 : head < run.length := by
      rcases Nat.lt_or_ge head run.length with h1 | h1
      · exact h1
      · simp [fromRun, List.getElem?_eq_none h1] at hf
    have g3 : (head : Int) < (run.length : Int) := by omega
    obtain ⟨gr, hgr⟩ : ∃ g, ar = some ⟨g, 0, none⟩ := by
      obtain ⟨g, cap, e, _⟩ := h.ownR.form (by omega)
      simp at e
      exact ⟨g, e.1⟩
    subst hgr
    obtain ⟨q0, _, _⟩ := own_item h.ownR head h1
    have e : qkey head run heap = (run[head]'h1).key := by simp [qkey, hf, List.getElem?_eq_getElem h1]
    rw [e]
    clear e
    go_enter Yba.func9, Yba.ntmps9
    go_wp2_with (go_at_call 16; refine (fromRun_any w Q o base cr ch head pushed cQ (some ⟨gr, 0, none⟩) ah run heap h hlr hlh hh).mono ?_; rintro e w4 ⟨rfl, n, rfl⟩; rw [hf])
    go_quiet (fail)
    go_wp2
    go_ret
    exact ⟨rfl, _, World.drewN_drewN _ _ _⟩
end Go.Proofs.Ybulkdyfo
