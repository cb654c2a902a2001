/-
  Small facts on blocks of cells, of no program.
-/
import Derived.WalkKit
import Derived.WalkSpells
import Derived.WalkLawsBesides
import Derived.Deep.AppendLies
import Derived.Deep.RegionHeld3
import Derived.Test.YbulkdyciRows
namespace Go.Proofs.Ybulkdyci
open Go.RowKit

/-- Block g is a block of cells, none of them frozen. -/
def Blk (w : World) (g : Nat) (cs : Array Value) (t : TypeId) : Prop := w.heap[g]? = some (.cells cs t (0, 0))

theorem Blk.lt {w : World} {g : Nat} {cs : Array Value} {t : TypeId} (h : Blk w g cs t) : g < w.heap.size := (Array.getElem?_eq_some_iff.1 h).1

theorem Blk.cell {w : World} {g : Nat} {cs : Array Value} {t : TypeId} (h : Blk w g cs t) (j : Nat) : w.cell? ⟨g, j, none⟩ = cs[j]? := cell_of_row w g j cs t (0, 0) h

theorem Blk.free {w : World} {g : Nat} {cs : Array Value} {t : TypeId} (h : Blk w g cs t) (j : Nat) : w.frozen? ⟨g, j, none⟩ = false := by
  simp [World.frozen?, show w.heap[g]? = _ from h]

theorem Blk.alloc {w : World} {g : Nat} {cs : Array Value} {t : TypeId} (h : Blk w g cs t) (o : Obj) : Blk (w.alloc o) g cs t := by
  unfold Blk
  rw [Below.heap_alloc _ _ _ h.lt]
  exact h

theorem Blk.new (w : World) (cs : Array Value) (t : TypeId) : Blk (w.alloc (.cells cs t)) w.heap.size cs t := heap_alloc_new w _

theorem Blk.drew {w : World} {g : Nat} {cs : Array Value} {t : TypeId} (h : Blk w g cs t) : Blk w.drew g cs t := h

theorem Blk.grown {w w' : World} {g : Nat} {cs : Array Value} {t : TypeId} {row : Option Nat} (h : Blk w g cs t) (hg : w.grownBy w' row) (hne : some g ≠ row) : Blk w' g cs t := by
  unfold Blk
  rw [hg.block g h.lt hne]
  exact h

theorem Blk.set_same {w : World} {g : Nat} {cs : Array Value} {t : TypeId} (h : Blk w g cs t) (j : Nat) (v : Value) : Blk (w.setCell ⟨g, j, none⟩ v) g (cs.setIfInBounds j v) t := by
  have h' : w.heap[g]? = some (.cells cs t (0, 0)) := h
  show (w.heap.modify g _)[g]? = _
  rw [Array.getElem?_modify, if_pos rfl, h']
  rfl

theorem Blk.set_other {w : World} {g : Nat} {cs : Array Value} {t : TypeId} (h : Blk w g cs t) {a : Addr} (hne : g ≠ a.block) (v : Value) : Blk (w.setCell a v) g cs t := by
  unfold Blk
  rw [Below.heap_setCell _ _ _ _ hne]
  exact h

theorem Blk.below {w w' : World} {g B : Nat} {cs : Array Value} {t : TypeId} (h : Blk w g cs t) (hb : Below B w w') (hg : g < B) : Blk w' g cs t := by
  unfold Blk
  rw [hb.block g hg]
  exact h

theorem own_shape {w : World} {base : Nat} {e : TypeId} {size : Nat} {v : Value} {n : Nat} {xs : List Value} (h : w.ownsRow base e size v n xs) : ∃ ao c, v = .slice ao n c := by
  rcases h.2 with ⟨rfl, rfl⟩ | ⟨g, cap, cur, rfl, _⟩
  · exact ⟨_, _, rfl⟩
  · exact ⟨_, _, rfl⟩

theorem ownsRow_set_other {w : World} {base : Nat} {e : TypeId} {size : Nat} {v : Value} {n : Nat} {xs : List Value} (h : w.ownsRow base e size v n xs) {a : Addr} (ha : v.ownBlock ≠ some a.block) (u : Value) : (w.setCell a u).ownsRow base e size v n xs := by
  obtain ⟨h1, h2⟩ := h
  refine ⟨h1, ?_⟩
  rcases h2 with h2 | ⟨g, cap, cur, rfl, hg, hh, r⟩
  · exact Or.inl h2
  · exact Or.inr ⟨g, cap, cur, rfl, hg, by rw [Below.heap_setCell _ _ _ _ (fun e => ha (by simp [Value.ownBlock, e]))]; exact hh, r⟩

/-- Of the blocks that lay in w only those that are 'bad' may have turned. -/
structure Keeps (bad : Nat → Prop) (w w' : World) : Prop where
  os : w'.os = w.os
  tape : w'.tape = w.tape
  output : w'.output = w.output
  size : w.heap.size ≤ w'.heap.size
  block : ∀ k, k < w.heap.size → ¬ bad k → w'.heap[k]? = w.heap[k]?

theorem Keeps.refl (bad : Nat → Prop) (w : World) : Keeps bad w w := ⟨rfl, rfl, rfl, Nat.le_refl _, fun _ _ _ => rfl⟩

theorem Keeps.trans {bad : Nat → Prop} {a b c : World} (h : Keeps bad a b) (k : Keeps bad b c) : Keeps bad a c :=
  ⟨k.os.trans h.os, k.tape.trans h.tape, k.output.trans h.output, Nat.le_trans h.size k.size, fun i hi hb => (k.block i (Nat.lt_of_lt_of_le hi h.size) hb).trans (h.block i hi hb)⟩

/-- .. where what the second step may turn is told for old blocks alone. -/
theorem Keeps.then {bad bad' : Nat → Prop} {a b c : World} (h : Keeps bad a b) (k : Keeps bad' b c) (hb : ∀ i, i < a.heap.size → bad' i → bad i) : Keeps bad a c :=
  ⟨k.os.trans h.os, k.tape.trans h.tape, k.output.trans h.output, Nat.le_trans h.size k.size, fun i hi hn => (k.block i (Nat.lt_of_lt_of_le hi h.size) (fun e => hn (hb i hi e))).trans (h.block i hi hn)⟩

theorem Keeps.mono {bad bad' : Nat → Prop} {a b : World} (h : Keeps bad a b) (hb : ∀ i, i < a.heap.size → bad i → bad' i) : Keeps bad' a b :=
  ⟨h.os, h.tape, h.output, h.size, fun i hi hn => h.block i hi (fun e => hn (hb i hi e))⟩

theorem Keeps.alloc (bad : Nat → Prop) (w : World) (o : Obj) : Keeps bad w (w.alloc o) := ⟨rfl, rfl, rfl, by simp, fun k hk _ => Below.heap_alloc w o k hk⟩

theorem Keeps.drewN (bad : Nat → Prop) (w : World) (n : Nat) : Keeps bad w (w.drewN n) := ⟨rfl, rfl, rfl, Nat.le_refl _, fun _ _ _ => rfl⟩

theorem Keeps.set {bad : Nat → Prop} (w : World) (a : Addr) (v : Value) (h : a.block < w.heap.size → bad a.block) : Keeps bad w (w.setCell a v) :=
  ⟨rfl, rfl, rfl, by simp [World.setCell], fun k hk hn => Below.heap_setCell _ _ _ _ (fun e => hn (e ▸ h (e ▸ hk)))⟩

theorem Keeps.grown {bad : Nat → Prop} {w w' : World} {row : Option Nat} (h : w.grownBy w' row) (hr : ∀ k, row = some k → bad k) : Keeps bad w w' :=
  ⟨h.os, h.tape, h.output, h.size, fun k hk hn => h.block k hk (fun e => hn (hr k e.symm))⟩

theorem Keeps.blk {bad : Nat → Prop} {w w' : World} (h : Keeps bad w w') {g : Nat} {cs : Array Value} {t : TypeId} (hb : Blk w g cs t) (hn : ¬ bad g) : Blk w' g cs t := by
  unfold Blk
  rw [h.block g hb.lt hn]
  exact hb

theorem Keeps.own {bad : Nat → Prop} {w w' : World} (h : Keeps bad w w') {base : Nat} {e : TypeId} {size : Nat} {v : Value} {n : Nat} {xs : List Value} (ho : w.ownsRow base e size v n xs) (hn : ∀ k, v.ownBlock = some k → ¬ bad k) : w'.ownsRow base e size v n xs := by
  refine ⟨ho.1, ?_⟩
  rcases ho.2 with hx | ⟨g, cap, cur, rfl, hb, hg, r⟩
  · exact .inl hx
  · exact .inr ⟨g, cap, cur, rfl, hb, (h.block g (Array.getElem?_eq_some_iff.1 hg).1 (hn g rfl)).trans hg, r⟩

theorem Keeps.below {B : Nat} {w w' : World} (h : Keeps (fun k => B ≤ k) w w') (hB : B ≤ w.heap.size) : Below B w w' :=
  ⟨h.os, h.tape, h.output, h.size, fun k hk => h.block k (by omega) (by omega)⟩


theorem heap_new (X : World) (o : Obj) (k : Nat) (h : k = X.heap.size) : (X.alloc o).heap[k]? = some o := by rw [h]; exact heap_alloc_new X o
theorem own_drewN {w : World} {base : Nat} {e : TypeId} {size : Nat} {v : Value} {n : Nat} {xs : List Value} (h : w.ownsRow base e size v n xs) (m : Nat) : (w.drewN m).ownsRow base e size v n xs := h

theorem cell_alloc' {w : World} {a : Addr} {v : Value} (h : w.cell? a = some v) (o : Obj) : (w.alloc o).cell? a = some v :=
  (World.cell?_of_block (Below.heap_alloc w o a.block (World.block_lt_of_cell? w a h))).trans h
theorem free_alloc {w : World} {a : Addr} (hlt : a.block < w.heap.size) (h : w.frozen? a = false) (o : Obj) : (w.alloc o).frozen? a = false :=
  (World.frozen?_of_block (Below.heap_alloc w o a.block hlt)).trans h
theorem grown_free {w w' : World} {row : Option Nat} {a : Addr} (hg : w.grownBy w' row) (hlt : a.block < w.heap.size) (h : w.frozen? a = false) (hne : some a.block ≠ row) : w'.frozen? a = false :=
  (World.frozen?_of_block (hg.block a.block hlt hne)).trans h


theorem kcell {bad : Nat → Prop} {w w' : World} (h : Keeps bad w w') {a : Addr} {v : Value} (hc : w.cell? a = some v) (hn : ¬ bad a.block) : w'.cell? a = some v :=
  (World.cell?_of_block (h.block a.block (World.block_lt_of_cell? w a hc) hn)).trans hc

theorem kfree {bad : Nat → Prop} {w w' : World} (h : Keeps bad w w') {a : Addr} (hlt : a.block < w.heap.size) (hf : w.frozen? a = false) (hn : ¬ bad a.block) : w'.frozen? a = false :=
  (World.frozen?_of_block (h.block a.block hlt hn)).trans hf


theorem grown_same {a b c : World} {row : Option Nat} (h : a.grownBy c row) (h1 : a.os = b.os) (h2 : a.tape = b.tape) (h3 : a.output = b.output) (h4 : a.heap = b.heap) : b.grownBy c row :=
  ⟨h.os.trans h1, h.tape.trans h2, h.output.trans h3, by rw [← h4]; exact h.size, by rw [← h4]; exact h.block⟩


theorem kept_grown {w w' : World} (g : w.grownBy w' none) : Keeps (fun _ => False) w w' := Keeps.grown g (fun k e => by simp at e)

theorem blk_made {w : World} {base e s g n : Nat} {xs : Array Value} (h : w.ownsRow base e s (.slice (some ⟨g, 0, none⟩) n n) n xs.toList) : Blk w g xs e := by
  rcases h.2 with ⟨e1, _⟩ | ⟨g', cap', cur, e1, hb, hh, hn, hm, hs, ht⟩
  · cases e1
  · simp at e1
    obtain ⟨rfl, rfl⟩ := e1
    rw [List.take_of_length_le (by simp [hs])] at ht
    have : cur = xs := Array.toList_inj.1 ht
    subst this
    exact hh

theorem made_one (z : Value) (n i : Nat) (hi : i < n) : (madeCells #[z] (n * 1))[i]? = some z := by
  simp [madeCells, hi, Nat.mod_one]

/-- A row of integers. -/
def ints (q : IntKind) (l : List Int) : List Value := l.map (.int q)

theorem ints_len (q : IntKind) (l : List Int) : (ints q l).length = l.length := by simp [ints]
theorem ints_one (q : IntKind) (l : List Int) : ∀ v ∈ ints q l, v.oneCell' = true := by
  intro v hv
  simp [ints] at hv
  obtain ⟨x, _, rfl⟩ := hv
  rfl
theorem ints_app (q : IntKind) (l m : List Int) : ints q (l ++ m) = ints q l ++ ints q m := by simp [ints]

/-- The cells that a slice of integers reads: as many as its length, wherever it lies. -/
def Reads (w : World) (q : IntKind) (ao : Option Addr) (l : List Int) : Prop := 0 < l.length → ∃ b off, ao = some ⟨b, off, none⟩ ∧ ∀ (i : Nat) x, l[i]? = some x → w.cell? ⟨b, off + i, none⟩ = some (.int q x)

theorem Reads.kept {bad : Nat → Prop} {w w' : World} {q : IntKind} {ao : Option Addr} {l : List Int} (h : Reads w q ao l) (k : Keeps bad w w') (hn : ∀ b off, ao = some ⟨b, off, none⟩ → ¬ bad b) : Reads w' q ao l := by
  intro hp
  obtain ⟨b, off, rfl, hc⟩ := h hp
  exact ⟨b, off, rfl, fun i x hx => kcell k (hc i x hx) (hn b off rfl)⟩

theorem reads_own {w : World} {base : Nat} {e : TypeId} {q : IntKind} {ao : Option Addr} {n c : Nat} {l : List Int} (h : w.ownsRow base e 1 (.slice ao n c) n (ints q l)) : Reads w q ao l := by
  intro hp
  have hl : l.length = n := by have := h.1; rw [ints_len] at this; omega
  obtain ⟨g, cap, e, _⟩ := h.form (by omega)
  simp at e
  obtain ⟨rfl, rfl⟩ := e
  refine ⟨g, 0, rfl, fun i x hx => ?_⟩
  have := h.cells (g := g) rfl i (.int q x) (by simp [ints, hx])
  rwa [Addr.add_lit] at this
end Go.Proofs.Ybulkdyci
