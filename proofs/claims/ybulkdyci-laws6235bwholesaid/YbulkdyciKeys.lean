/-
  codedKeys in memory: a record of five rows.
-/
import Derived.Test.YbulkdyciLib
namespace Go.Proofs.Ybulkdyci
open Go.RowKit

structure Row where
  ao : Option Addr
  cap : Nat
  l : List Value

def Row.val (r : Row) : Value := .slice r.ao r.l.length r.cap

def tyOf (i : Nat) : TypeId := if i ≤ 1 then 24 else if i = 2 then 37 else if i = 3 then 25 else 21

structure K5 (w : World) (K base W : Nat) (cK : Array Value) (R : Nat → Row) : Prop where
  blk : Blk w K cK 31
  c0 : cK[0]? = some (.int .i64 W)
  cs : ∀ i, i < 5 → cK[i + 1]? = some (R i).val
  own : ∀ i, i < 5 → w.ownsRow base (tyOf i) 1 (R i).val (R i).l.length (R i).l
  sep : ∀ i j, i < 5 → j < 5 → i ≠ j → ∀ b, (R i).val.ownBlock = some b → (R j).val.ownBlock ≠ some b
  lt : K < base
  hbase : base ≤ w.heap.size

/-- The blocks of the record. -/
def Of (K : Nat) (R : Nat → Row) (b : Nat) : Prop := b = K ∨ ∃ i, i < 5 ∧ (R i).val.ownBlock = some b

theorem K5.kept {w w' : World} {K base W : Nat} {cK : Array Value} {R : Nat → Row} {bad : Nat → Prop} (h : K5 w K base W cK R) (k : Keeps bad w w') (hb : ∀ b, Of K R b → ¬ bad b) : K5 w' K base W cK R :=
  ⟨k.blk h.blk (hb _ (.inl rfl)), h.c0, h.cs, fun i hi => k.own (h.own i hi) (fun b e => hb b (.inr ⟨i, hi, e⟩)), h.sep, h.lt, Nat.le_trans h.hbase k.size⟩

theorem K5.free {w w' : World} {K base W : Nat} {cK : Array Value} {R : Nat → Row} (h : K5 w K base W cK R) (k : Keeps (fun _ => False) w w') : K5 w' K base W cK R := h.kept k (fun _ _ => id)

theorem K5.lo {w : World} {K base W : Nat} {cK : Array Value} {R : Nat → Row} (h : K5 w K base W cK R) {i b : Nat} (hi : i < 5) (e : (R i).val.ownBlock = some b) : base ≤ b ∧ b < w.heap.size := (h.own i hi).lt _ e

/-- The record, turned. -/
structure Turned (w w' : World) (K base W : Nat) (R R' : Nat → Row) : Prop where
  st : ∃ cK', K5 w' K base W cK' R'
  at_ : ∀ i, i < 5 → ∀ b, (R' i).val.ownBlock = some b → (R i).val.ownBlock = some b ∨ w.heap.size ≤ b
  keeps : Keeps (Of K R) w w'

theorem Turned.trans {w w1 w2 : World} {K base W : Nat} {R R1 R2 : Nat → Row} (h : Turned w w1 K base W R R1) (k : Turned w1 w2 K base W R1 R2) : Turned w w2 K base W R R2 := by
  have hs := h.keeps.size
  refine ⟨k.st, fun i hi b e => ?_, h.keeps.then k.keeps (fun b hb e => ?_)⟩
  · rcases k.at_ i hi b e with e | e
    · exact h.at_ i hi b e
    · exact .inr (by omega)
  · rcases e with e | ⟨i, hi, e⟩
    · exact .inl e
    · rcases h.at_ i hi b e with e | e
      · exact .inr ⟨i, hi, e⟩
      · omega

theorem Turned.of_kept {w w1 : World} {K base W : Nat} {cK : Array Value} {R : Nat → Row} (h : K5 w K base W cK R) (k : Keeps (fun _ => False) w w1) : Turned w w1 K base W R R :=
  ⟨⟨cK, h.free k⟩, fun _ _ _ e => .inl e, k.mono (fun _ _ e => e.elim)⟩

/-- A row that an append has turned. -/
theorem K5.push {w w1 w' : World} {K base W : Nat} {cK : Array Value} {R : Nat → Row} (h : K5 w K base W cK R) (i : Nat) (hi : i < 5) (r : Row) (k1 : Keeps (fun _ => False) w w1) (g : w1.grownBy w' (R i).val.ownBlock)
    (own' : w'.ownsRow base (tyOf i) 1 r.val r.l.length r.l) (hat : ∀ b, r.val.ownBlock = some b → (R i).val.ownBlock = some b ∨ w.heap.size ≤ b) :
    Turned w (w'.setCell ⟨K, i + 1, none⟩ r.val) K base W R (fun j => if j = i then r else R j) := by
  have hKlt := h.blk.lt
  have k2 : Keeps (fun b => (R i).val.ownBlock = some b) w w' := (k1.mono (fun _ _ e => e.elim)).trans (Keeps.grown g (fun k e => e))
  have hKn : (R i).val.ownBlock ≠ some K := fun e => by have := h.lo hi e; have := h.lt; omega
  have hrK : ∀ b, r.val.ownBlock = some b → b ≠ K := fun b e => by
    rcases hat b e with e2 | e2
    · intro e3; subst e3; exact hKn e2
    · omega
  have hQ' : Blk w' K cK 31 := k2.blk h.blk hKn
  have hsz : i + 1 < cK.size := (Array.getElem?_eq_some_iff.1 (h.cs i hi)).1
  refine ⟨⟨_, hQ'.set_same _ _, ?_, ?_, ?_, ?_, h.lt, ?_⟩, ?_, ?_⟩
  · rw [Array.getElem?_setIfInBounds_ne (by omega)]; exact h.c0
  · intro j hj
    by_cases e : j = i
    · subst e
      rw [Array.getElem?_setIfInBounds_self_of_lt hsz, if_pos rfl]
    · rw [Array.getElem?_setIfInBounds_ne (by omega), if_neg e]
      exact h.cs j hj
  · intro j hj
    by_cases e : j = i
    · subst e
      simp only [if_true]
      exact ownsRow_set_other own' (fun e2 => hrK K e2 rfl) _
    · simp only [if_neg e]
      refine ownsRow_set_other (k2.own (h.own j hj) (fun b e2 e3 => h.sep j i hj hi e b e2 e3)) (fun e2 => ?_) _
      have h9 : base ≤ K := (h.lo hj e2).1
      have := h.lt
      omega
  · intro j1 j2 h1 h2 hne b e1 e2
    have fresh : ∀ j, j < 5 → j ≠ i → (R j).val.ownBlock = some b → r.val.ownBlock = some b → False := fun j hj hji ea eb => by
      rcases hat b eb with e3 | e3
      · exact h.sep j i hj hi hji b ea e3
      · have := h.lo hj ea; omega
    by_cases ea : j1 = i
    · by_cases eb : j2 = i
      · omega
      · simp only [if_pos ea, if_neg eb] at e1 e2
        exact fresh j2 h2 eb e2 e1
    · by_cases eb : j2 = i
      · simp only [if_neg ea, if_pos eb] at e1 e2
        exact fresh j1 h1 ea e1 e2
      · simp only [if_neg ea, if_neg eb] at e1 e2
        exact h.sep j1 j2 h1 h2 hne b e1 e2
  · have := k2.size
    have := h.hbase
    simp [World.setCell]
    omega
  · intro j hj b e
    by_cases ej : j = i
    · subst ej
      simp only [if_true] at e
      exact hat b e
    · simp only [if_neg ej] at e
      exact .inl e
  · refine (k2.mono (fun b _ e => .inr ⟨i, hi, e⟩)).trans (Keeps.set _ _ _ (fun _ => .inl rfl))

/-- One cell of a row, stored anew. -/
theorem K5.store {w : World} {K base W : Nat} {cK : Array Value} {R : Nat → Row} (h : K5 w K base W cK R) (i : Nat) (hi : i < 5) (g p : Nat) (hg : (R i).ao = some ⟨g, 0, none⟩) (v : Value) :
    Turned w (w.setCell ⟨g, p, none⟩ v) K base W R (fun j => if j = i then ⟨(R i).ao, (R i).cap, (R i).l.set p v⟩ else R j) := by
  have hgo : (R i).val.ownBlock = some g := by simp [Row.val, Value.ownBlock, hg]
  have hgl := h.lo hi hgo
  have hlt := h.lt
  have hval : (⟨(R i).ao, (R i).cap, (R i).l.set p v⟩ : Row).val = (R i).val := by simp [Row.val]
  refine ⟨⟨cK, h.blk.set_other (a := ⟨g, p, none⟩) (by simp; omega) _, h.c0, ?_, ?_, ?_, h.lt, ?_⟩, ?_, ?_⟩
  · intro j hj
    by_cases e : j = i
    · subst e; simp only [if_true]; rw [hval]; exact h.cs j hj
    · simp only [if_neg e]; exact h.cs j hj
  · intro j hj
    by_cases e : j = i
    · subst e
      simp only [if_true]
      rw [hval]
      have ho := h.own j hj
      rcases ho.2 with ⟨e1, _⟩ | ⟨g', cap', cur, e1, hb, hh, hn, hm, hs, ht⟩
      · simp [Row.val, hg] at e1
      · simp [Row.val, hg] at e1
        obtain ⟨rfl, rfl⟩ := e1
        refine ⟨by simp, .inr ⟨g, (R j).cap, cur.setIfInBounds p v, by simp [Row.val, hg], hb, ?_, by simpa using hn, hm, by simpa using hs, ?_⟩⟩
        · have : Blk w g cur (tyOf j) := hh
          exact this.set_same p v
        · rw [Array.toList_setIfInBounds, List.take_set]
          simp only [List.length_set]
          rw [ht]
    · simp only [if_neg e]
      exact ownsRow_set_other (h.own j hj) (fun e2 => h.sep j i hj hi e g (by simpa using e2) hgo) _
  · intro j1 j2 h1 h2 hne b e1 e2
    have f : ∀ j, (if j = i then (⟨(R i).ao, (R i).cap, (R i).l.set p v⟩ : Row) else R j).val = (R j).val := fun j => by
      by_cases e : j = i
      · subst e; simp only [if_true]; exact hval
      · simp only [if_neg e]
    rw [f] at e1 e2
    exact h.sep j1 j2 h1 h2 hne b e1 e2
  · simp [World.setCell]; exact h.hbase
  · intro j hj b e
    by_cases ej : j = i
    · subst ej
      simp only [if_true] at e
      rw [hval] at e
      exact .inl e
    · simp only [if_neg ej] at e
      exact .inl e
  · exact Keeps.set _ _ _ (fun _ => .inr ⟨i, hi, hgo⟩)
end Go.Proofs.Ybulkdyci
