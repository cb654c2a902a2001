/-
  Several queues in one block, each with its own rows.
-/
import Derived.Test.YbulkdyfoInv
namespace Go.Proofs.Ybulkdyfo
open Go.RowKit

/-- 'Push' on a queue with head 0. -/
theorem push_any (w : World) (Q o base cr ch pushed cnt : Nat) (mn : Int) (cQ : Array Value) (ar ah : Option Addr) (run heap : List Itm) (key v : Int) (h : QSt w Q o base cQ ar ah cr ch 0 pushed run heap)
    (hI : Inv run heap pushed cnt mn) (hc : cnt ≤ 2097152) :
    Calls Yba.prog 6 #[.pointer (some ⟨Q, o, none⟩), .int .i64 key, .int .i64 v] w fun e w' => e = .returned (.tuple #[]) ∧
      ∃ run' heap', Pushed w w' Q o base cQ (.slice ar run.length cr) (.slice ah heap.length ch) 0 (pushed + 1) run' heap' ∧ Inv run' heap' (pushed + 1) (cnt + 1) (newmin cnt mn key) := by
  have hlen := hI.len
  have hpu := hI.pu
  by_cases h0 : run.length = 0
  · have hr : run = [] := List.length_eq_zero_iff.1 h0
    refine (push_run1 w Q o base cr ch 0 pushed cQ ar ah run heap key v h (by omega) (by omega) (beq_iff_eq.2 (by omega)) (by omega)).mono ?_
    rintro e w' ⟨rfl, hp⟩
    exact ⟨rfl, _, _, hp, hI.toRun ⟨key, pushed, v⟩ (.inl hr)⟩
  · have hlast : run[run.length - 1]? = some (run[run.length - 1]'(by omega)) := List.getElem?_eq_getElem (by omega)
    by_cases hk : (run[run.length - 1]'(by omega)).key ≤ key
    · refine (push_run2 w Q o base cr ch 0 pushed cQ ar ah run heap key v h (by omega) (by omega) (beq_eq_false_iff_ne.2 (by omega)) (by omega) _ rfl hk (by omega)).mono ?_
      rintro e w' ⟨rfl, hp⟩
      exact ⟨rfl, _, _, hp, hI.toRun ⟨key, pushed, v⟩ (.inr ⟨_, hlast, hk⟩)⟩
    · refine (push_heap w Q o base cr ch 0 pushed cQ ar ah run heap key v h (by omega) (by omega) (by omega) (beq_eq_false_iff_ne.2 (by omega)) (by omega) _ rfl (decide_eq_false hk)).mono ?_
      rintro e w' ⟨rfl, hp⟩
      exact ⟨rfl, _, _, hp, hI.toHeap ⟨key, pushed, v⟩ _ hlast⟩

/-- A queue's rows and what lies in them. -/
structure QV where
  ar : Option Addr
  ah : Option Addr
  cr : Nat
  ch : Nat
  pushed : Nat
  run : List Itm
  heap : List Itm

def QV.vr (s : QV) : Value := .slice s.ar s.run.length s.cr
def QV.vh (s : QV) : Value := .slice s.ah s.heap.length s.ch
def QV.owns (s : QV) (k : Nat) : Prop := s.vr.ownBlock = some k ∨ s.vh.ownBlock = some k

structure Qs (w : World) (Q base n : Nat) (cQ : Array Value) (S : Nat → QV) : Prop where
  st : ∀ i, i < n → QSt w Q (i * 4) base cQ (S i).ar (S i).ah (S i).cr (S i).ch 0 (S i).pushed (S i).run (S i).heap
  sep : ∀ i j, i < n → j < n → i ≠ j → ∀ k, (S i).owns k → ¬ (S j).owns k

theorem Qs.lt {w : World} {Q base n : Nat} {cQ : Array Value} {S : Nat → QV} (h : Qs w Q base n cQ S) {i : Nat} (hi : i < n) {k : Nat} (hk : (S i).owns k) : base ≤ k ∧ k < w.heap.size := by
  rcases hk with e | e
  · exact (h.st i hi).ownR.lt _ e
  · exact (h.st i hi).ownH.lt _ e

theorem Qs.keeps {w w' : World} {Q base n : Nat} {cQ : Array Value} {S : Nat → QV} {bad : Nat → Prop} (h : Qs w Q base n cQ S) (k : Keeps bad w w') (hQ : ¬ bad Q) (ho : ∀ i, i < n → ∀ k, (S i).owns k → ¬ bad k) : Qs w' Q base n cQ S where
  st := fun i hi => by
    have q := h.st i hi
    exact ⟨k.blk q.blk hQ, q.c0, q.c1, q.c2, q.c3, k.own q.ownR (fun b e => ho i hi b (.inl e)), k.own q.ownH (fun b e => ho i hi b (.inr e)), q.apart, q.lt, Nat.le_trans q.hbase k.size⟩
  sep := h.sep

theorem Qs.push {w w' : World} {Q base n : Nat} {cQ : Array Value} {S : Nat → QV} (h : Qs w Q base n cQ S) {i : Nat} (hi : i < n) {p' : Nat} {run' heap' : List Itm}
    (hp : Pushed w w' Q (i * 4) base cQ (S i).vr (S i).vh 0 p' run' heap') :
    ∃ cQ' s', s'.pushed = p' ∧ s'.run = run' ∧ s'.heap = heap' ∧ Qs w' Q base n cQ' (fun j => if j = i then s' else S j) ∧ Keeps (fun k => k = Q ∨ (S i).owns k) w w' ∧ ∀ k, s'.owns k → (S i).owns k ∨ w.heap.size ≤ k := by
  obtain ⟨cQ', ar, ah, cr, ch, q', hoth, hr, hh⟩ := hp.st
  have hown : ∀ k, QV.owns ⟨ar, ah, cr, ch, p', run', heap'⟩ k → (S i).owns k ∨ w.heap.size ≤ k := by
    rintro k (e | e)
    · exact (hr k e).imp .inl id
    · exact (hh k e).imp .inr id
  refine ⟨cQ', ⟨ar, ah, cr, ch, p', run', heap'⟩, rfl, rfl, rfl, ⟨?_, ?_⟩, hp.keeps, hown⟩
  · intro j hj
    by_cases hji : j = i
    · subst hji
      simp only [if_pos]
      exact q'
    · simp only [if_neg hji]
      have q := h.st j hj
      have nb : ∀ k, (S j).owns k → ¬ (k = Q ∨ (S i).vr.ownBlock = some k ∨ (S i).vh.ownBlock = some k) := by
        rintro k hk (rfl | e)
        · have := h.lt hj hk; have := q.lt; omega
        · exact h.sep j i hj hi hji k hk e
      exact ⟨q'.blk, (hoth _ (by omega)).trans q.c0, (hoth _ (by omega)).trans q.c1, (hoth _ (by omega)).trans q.c2, (hoth _ (by omega)).trans q.c3,
        hp.keeps.own q.ownR (fun b e => nb b (.inl e)), hp.keeps.own q.ownH (fun b e => nb b (.inr e)), q.apart, q.lt, Nat.le_trans q.hbase hp.keeps.size⟩
  · intro a b ha hb hab k
    by_cases hai : a = i
    · subst hai
      simp only [if_pos, if_neg (Ne.symm hab)]
      intro hk hk2
      rcases hown k hk with e | e
      · exact h.sep a b ha hb hab k e hk2
      · have := h.lt hb hk2; omega
    · by_cases hbi : b = i
      · subst hbi
        simp only [if_pos, if_neg hai]
        intro hk hk2
        rcases hown k hk2 with e | e
        · exact h.sep a b ha hb hab k hk e
        · have := h.lt ha hk; omega
      · simp only [if_neg hai, if_neg hbi]
        exact h.sep a b ha hb hab k
end Go.Proofs.Ybulkdyfo
