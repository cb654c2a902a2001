/-
  The plain side of 'Push': what the sift computes; and stores into a row of items.
-/
import Derived.Test.YbulkdyfoQueue
namespace Go.Proofs.Ybulkdyfo
open Go.RowKit

/-- The item sifted up from place i. -/
def siftUp : Nat → List Itm → Nat → Itm → List Itm
  | 0, h, i, x => h.set i x
  | f + 1, h, i, x => if 0 < i ∧ ltI x (h.getD ((i - 1) / 2) x) = true then siftUp f (h.set i (h.getD ((i - 1) / 2) x)) ((i - 1) / 2) x else h.set i x

theorem siftUp_fuel : ∀ (f i : Nat) (h : List Itm) (x : Itm), i ≤ f → siftUp f h i x = siftUp i h i x := by
  intro f
  induction f using Nat.strongRecOn with
  | _ f ih =>
    intro i h x hif
    cases f with
    | zero => obtain rfl : i = 0 := by omega
              rfl
    | succ f =>
      cases i with
      | zero => simp [siftUp]
      | succ i =>
        simp only [siftUp]
        by_cases hc : 0 < i + 1 ∧ ltI x (h.getD ((i + 1 - 1) / 2) x) = true
        · rw [if_pos hc, if_pos hc, ih f (by omega) _ _ _ (by omega), ih i (by omega) _ _ _ (by omega)]
        · rw [if_neg hc, if_neg hc]

theorem siftUp_move {h : List Itm} {i : Nat} {x : Itm} (hi : 0 < i) (hl : ltI x (h.getD ((i - 1) / 2) x) = true) :
    siftUp i h i x = siftUp ((i - 1) / 2) (h.set i (h.getD ((i - 1) / 2) x)) ((i - 1) / 2) x := by
  obtain ⟨j, rfl⟩ : ∃ j, i = j + 1 := ⟨i - 1, by omega⟩
  simp only [siftUp]
  rw [if_pos ⟨hi, hl⟩, siftUp_fuel j _ _ _ (by omega)]

theorem siftUp_stop {h : List Itm} {i : Nat} {x : Itm} (hs : i = 0 ∨ ltI x (h.getD ((i - 1) / 2) x) = false) : siftUp i h i x = h.set i x := by
  cases i with
  | zero => rfl
  | succ i =>
    simp only [siftUp]
    rw [if_neg]
    rintro ⟨_, h2⟩
    rcases hs with h1 | h1
    · omega
    · rw [h1] at h2; cases h2

theorem siftUp_len : ∀ (f : Nat) (h : List Itm) (i : Nat) (x : Itm), (siftUp f h i x).length = h.length := by
  intro f
  induction f with
  | zero => intro h i x; simp [siftUp]
  | succ f ih =>
    intro h i x
    simp only [siftUp]
    split
    · rw [ih]; simp
    · simp

theorem icells_set : ∀ (l : List Itm) (i : Nat) (x : Itm), i < l.length → icells (l.set i x) = (((icells l).set (i * 3) (.int .i64 x.key)).set (i * 3 + 1) (.int .i64 x.order)).set (i * 3 + 2) (.int .i64 x.value)
  | [], i, x, h => by simp at h
  | y :: l, 0, x, _ => by simp [icells, icell]
  | y :: l, i + 1, x, h => by
    have ih := icells_set l i x (by simpa using h)
    have e : ∀ (z : Itm) (m : List Itm), icells (z :: m) = .int .i64 z.key :: .int .i64 z.order :: .int .i64 z.value :: icells m := fun _ _ => rfl
    rw [List.set_cons_succ, e, e, ih, show (i + 1) * 3 = i * 3 + 1 + 1 + 1 by omega]
    simp

/-- An owned row's block. -/
theorem own_blk {w : World} {base : Nat} {g n cap : Nat} {xs : List Value} (h : w.ownsRow base 59 3 (.slice (some ⟨g, 0, none⟩) n cap) n xs) :
    ∃ cur, Blk w g cur 59 ∧ base ≤ g ∧ n ≤ cap ∧ cap ≤ maxLen ∧ cur.size = cap * 3 ∧ cur.toList.take (n * 3) = xs := by
  rcases h.2 with ⟨e, _⟩ | ⟨g', cap', cur, e, hb, hh, r⟩
  · cases e
  · simp at e
    obtain ⟨rfl, rfl⟩ := e
    exact ⟨cur, hh, hb, r⟩

theorem own_of_blk {w : World} {base : Nat} {g n cap : Nat} {cur : Array Value} {xs : List Value} (h : Blk w g cur 59) (hb : base ≤ g) (hn : n ≤ cap) (hm : cap ≤ maxLen) (hs : cur.size = cap * 3) (ht : cur.toList.take (n * 3) = xs) :
    w.ownsRow base 59 3 (.slice (some ⟨g, 0, none⟩) n cap) n xs :=
  ⟨by rw [← ht]; simp; omega, .inr ⟨g, cap, cur, rfl, hb, h, hn, hm, hs, ht⟩⟩

theorem own_set_item {w : World} {base : Nat} {g n cap : Nat} {l : List Itm} (h : w.ownsRow base 59 3 (.slice (some ⟨g, 0, none⟩) n cap) n (icells l)) (i : Nat) (hi : i < l.length) (x : Itm) :
    (((w.setCell ⟨g, i * 3, none⟩ (.int .i64 x.key)).setCell ⟨g, i * 3 + 1, none⟩ (.int .i64 x.order)).setCell ⟨g, i * 3 + 2, none⟩ (.int .i64 x.value)).ownsRow base 59 3 (.slice (some ⟨g, 0, none⟩) n cap) n (icells (l.set i x)) := by
  obtain ⟨cur, hb, hbase, hn, hm, hs, ht⟩ := own_blk h
  have hlen : l.length * 3 = n * 3 := by
    have := h.1
    rw [icells_len] at this
    omega
  refine own_of_blk (((hb.set_same _ _).set_same _ _).set_same _ _) hbase hn hm (by simpa using hs) ?_
  rw [icells_set l i x hi, ← ht]
  simp only [Array.toList_setIfInBounds, List.take_set]

theorem own_free {w : World} {base : Nat} {g n cap : Nat} {xs : List Value} (h : w.ownsRow base 59 3 (.slice (some ⟨g, 0, none⟩) n cap) n xs) (j : Nat) : w.frozen? ⟨g, j, none⟩ = false := by
  obtain ⟨cur, hb, _⟩ := own_blk h
  exact hb.free j
end Go.Proofs.Ybulkdyfo
