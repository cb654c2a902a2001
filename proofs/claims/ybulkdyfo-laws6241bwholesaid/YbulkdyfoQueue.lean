/-
  A queue in memory: four cells of a block, and two rows of items that the call owns.
-/
import Derived.Test.YbulkdyfoBefore
import Derived.Deep.AppendLies
import Derived.Deep.RegionHeld3
namespace Go.Proofs.Ybulkdyfo
open Go.RowKit

/-- An item's three cells. -/
def icell (x : Itm) : List Value := [.int .i64 x.key, .int .i64 x.order, .int .i64 x.value]
def icells (l : List Itm) : List Value := l.flatMap icell

theorem icells_len (l : List Itm) : (icells l).length = l.length * 3 := by
  unfold icells
  induction l with
  | nil => rfl
  | cons a l ih => simp [List.flatMap_cons, icell] at ih ⊢; omega

theorem icells_snoc (l : List Itm) (x : Itm) : icells (l ++ [x]) = icells l ++ icell x := by simp [icells]

theorem icells_at : ∀ (l : List Itm) (i : Nat) (h : i < l.length), (icells l)[i * 3]? = some (.int .i64 l[i].key) ∧ (icells l)[i * 3 + 1]? = some (.int .i64 l[i].order) ∧ (icells l)[i * 3 + 2]? = some (.int .i64 l[i].value)
  | [], i, h => by simp at h
  | x :: l, 0, _ => by simp [icells, icell]
  | x :: l, i + 1, h => by
    have ih := icells_at l i (by simpa using h)
    have e : icells (x :: l) = .int .i64 x.key :: .int .i64 x.order :: .int .i64 x.value :: icells l := rfl
    rw [e, show (i + 1) * 3 = i * 3 + 1 + 1 + 1 by omega]
    simpa using ih

/-- Of the blocks that lay in w only those that are 'bad' may have turned. -/
structure Keeps (bad : Nat → Prop) (w w' : World) : Prop where
  os : w'.os = w.os
  tape : w'.tape = w.tape
  output : w'.output = w.output
  size : w.heap.size ≤ w'.heap.size
  block : ∀ k, k < w.heap.size → ¬ bad k → w'.heap[k]? = w.heap[k]?

theorem Keeps.refl (bad : Nat → Prop) (w : World) : Keeps bad w w := ⟨rfl, rfl, rfl, Nat.le_refl _, fun _ _ _ => rfl⟩

theorem Keeps.trans {bad : Nat → Prop} {a b c : World} (h : Keeps bad a b) (k : Keeps bad b c) : Keeps bad a c :=
  ⟨k.os.trans h.os, k.tape.trans h.tape, k.output.trans h.output, Nat.le_trans h.size k.size, fun i hi hb => (k.block i (Nat.lt_of_lt_of_le hi h.size) hb).trans (h.block i hi hb)⟩

/-- .. where what the second step may turn is told for old blocks alone. -/
theorem Keeps.then {bad bad' : Nat → Prop} {a b c : World} (h : Keeps bad a b) (k : Keeps bad' b c) (hb : ∀ i, i < a.heap.size → bad' i → bad i) : Keeps bad a c :=
  ⟨k.os.trans h.os, k.tape.trans h.tape, k.output.trans h.output, Nat.le_trans h.size k.size, fun i hi hn => (k.block i (Nat.lt_of_lt_of_le hi h.size) (fun e => hn (hb i hi e))).trans (h.block i hi hn)⟩

theorem Keeps.mono {bad bad' : Nat → Prop} {a b : World} (h : Keeps bad a b) (hb : ∀ i, i < a.heap.size → bad i → bad' i) : Keeps bad' a b :=
  ⟨h.os, h.tape, h.output, h.size, fun i hi hn => h.block i hi (fun e => hn (hb i hi e))⟩

theorem Keeps.alloc (bad : Nat → Prop) (w : World) (o : Obj) : Keeps bad w (w.alloc o) := ⟨rfl, rfl, rfl, by simp, fun k hk _ => Below.heap_alloc w o k hk⟩

theorem Keeps.drewN (bad : Nat → Prop) (w : World) (n : Nat) : Keeps bad w (w.drewN n) := ⟨rfl, rfl, rfl, Nat.le_refl _, fun _ _ _ => rfl⟩

theorem Keeps.set {bad : Nat → Prop} (w : World) (a : Addr) (v : Value) (h : a.block < w.heap.size → bad a.block) : Keeps bad w (w.setCell a v) :=
  ⟨rfl, rfl, rfl, by simp [World.setCell], fun k hk hn => Below.heap_setCell _ _ _ _ (fun e => hn (e ▸ h (e ▸ hk)))⟩

theorem Keeps.grown {bad : Nat → Prop} {w w' : World} {row : Option Nat} (h : w.grownBy w' row) (hr : ∀ k, row = some k → bad k) : Keeps bad w w' :=
  ⟨h.os, h.tape, h.output, h.size, fun k hk hn => h.block k hk (fun e => hn (hr k e.symm))⟩

theorem Keeps.blk {bad : Nat → Prop} {w w' : World} (h : Keeps bad w w') {g : Nat} {cs : Array Value} {t : TypeId} (hb : Blk w g cs t) (hn : ¬ bad g) : Blk w' g cs t := by
  unfold Blk
  rw [h.block g hb.lt hn]
  exact hb

theorem Keeps.own {bad : Nat → Prop} {w w' : World} (h : Keeps bad w w') {base : Nat} {e : TypeId} {size : Nat} {v : Value} {n : Nat} {xs : List Value} (ho : w.ownsRow base e size v n xs) (hn : ∀ k, v.ownBlock = some k → ¬ bad k) : w'.ownsRow base e size v n xs := by
  refine ⟨ho.1, ?_⟩
  rcases ho.2 with hx | ⟨g, cap, cur, rfl, hb, hg, r⟩
  · exact .inl hx
  · exact .inr ⟨g, cap, cur, rfl, hb, (h.block g (Array.getElem?_eq_some_iff.1 hg).1 (hn g rfl)).trans hg, r⟩

theorem Keeps.below {B : Nat} {w w' : World} (h : Keeps (fun k => B ≤ k) w w') (hB : B ≤ w.heap.size) : Below B w w' :=
  ⟨h.os, h.tape, h.output, h.size, fun k hk => h.block k (by omega) (by omega)⟩

/-- A row of items is not shorter in its block than in its value. -/
theorem own_item {w : World} {base : Nat} {g n cap : Nat} {l : List Itm} (h : w.ownsRow base 59 3 (.slice (some ⟨g, 0, none⟩) n cap) n (icells l)) (i : Nat) (hi : i < l.length) :
    w.cell? ⟨g, i * 3, none⟩ = some (.int .i64 l[i].key) ∧ w.cell? ⟨g, i * 3 + 1, none⟩ = some (.int .i64 l[i].order) ∧ w.cell? ⟨g, i * 3 + 2, none⟩ = some (.int .i64 l[i].value) := by
  obtain ⟨h0, h1, h2⟩ := icells_at l i hi
  have c := h.cells (g := g) rfl
  have key : ∀ j u, (icells l)[j]? = some u → w.cell? ⟨g, j, none⟩ = some u := fun j u hu => by
    have := c j u hu
    rwa [Addr.add_lit, Nat.zero_add] at this
  exact ⟨key _ _ h0, key _ _ h1, key _ _ h2⟩

/-- The queue at place o of block Q. -/
structure QSt (w : World) (Q o base : Nat) (cQ : Array Value) (ar ah : Option Addr) (cr ch : Nat) (head pushed : Nat) (run heap : List Itm) : Prop where
  blk : Blk w Q cQ 31
  c0 : cQ[o]? = some (.slice ar run.length cr)
  c1 : cQ[o + 1]? = some (.int .i64 head)
  c2 : cQ[o + 2]? = some (.slice ah heap.length ch)
  c3 : cQ[o + 3]? = some (.int .i64 pushed)
  ownR : w.ownsRow base 59 3 (.slice ar run.length cr) run.length (icells run)
  ownH : w.ownsRow base 59 3 (.slice ah heap.length ch) heap.length (icells heap)
  apart : ∀ k, (Value.slice ar run.length cr).ownBlock = some k → (Value.slice ah heap.length ch).ownBlock ≠ some k
  lt : Q < base
  hbase : base ≤ w.heap.size

theorem Yba.info59 : (Yba.prog.info? 59).map (fun i => (i.zero, i.size, i.bytes)) = some (some (.agg #[.int .i64 0, .int .i64 0, .int .i64 0]), 3, 24) := by kernel_rfl
end Go.Proofs.Ybulkdyfo
