import Derived.Test.YbulkdyciFind
namespace Go.Proofs.Ybulkdyci
open Go.RowKit Go.Maps

/-- The keys that come in. -/
def ArgsE (w : World) (ae : Option Addr) (le : Nat) (ea : Nat → Option Addr) (ec : Nat → Nat) (ew : Nat → List Int) (ef ect : Nat → Int) : Prop :=
  0 < le → ∃ b off, ae = some ⟨b, off, none⟩ ∧ b < w.heap.size ∧ ∀ i, i < le → 0 ≤ ef i ∧ ef i ≤ 255 ∧ w.cell? ⟨b, off + i * 3, none⟩ = some (.slice (ea i) (ew i).length (ec i)) ∧ w.cell? ⟨b, off + i * 3 + 1, none⟩ = some (.int .u8 (ef i)) ∧
    w.cell? ⟨b, off + i * 3 + 2, none⟩ = some (.int .i8 (ect i)) ∧ Reads w .u64 (ea i) (ew i) ∧ (ew i).length ≤ 9223372036854775807

/-- The record and the index behind i keys. -/
structure L1 (w wq : World) (W i : Nat) (F C : Nat → Int) (P : Nat → List Int) (cK : Array Value) (R : Nat → Row) : Prop where
  k : K5 wq w.heap.size (w.heap.size + 2) W cK R
  full : Full R W i F C P
  map : OwnM wq (w.heap.size + 1) i (Dm F i)
  below : Below w.heap.size w wq

theorem L1.free {w wq w' : World} {W i : Nat} {F C : Nat → Int} {P : Nat → List Int} {cK : Array Value} {R : Nat → Row} (h : L1 w wq W i F C P cK R) (k : Keeps (fun _ => False) wq w') : L1 w w' W i F C P cK R :=
  ⟨h.k.free k, h.full, h.map.kept k id, h.below.trans (Keeps.below (k.mono (bad' := fun b => w.heap.size ≤ b) (fun _ _ e => e.elim)) h.below.size)⟩

theorem reads_below {w w' : World} {q : IntKind} {ao : Option Addr} {l : List Int} (h : Reads w q ao l) (hb : Below w.heap.size w w') : Reads w' q ao l := by
  intro hp
  obtain ⟨b, off, rfl, hc⟩ := h hp
  exact ⟨b, off, rfl, fun i x hx => by rw [hb.cell (p := ⟨b, off + i, none⟩) (World.block_lt_of_cell? w _ (hc i x hx))]; exact hc i x hx⟩

theorem reads_free {w w' : World} {q : IntKind} {ao : Option Addr} {l : List Int} (h : Reads w q ao l) (k : Keeps (fun _ => False) w w') : Reads w' q ao l := h.kept k (fun _ _ _ => id)

theorem reads_blk {w : World} {q : IntKind} {g : Nat} {e : TypeId} {l : List Int} (h : Blk w g (ints q l).toArray e) : Reads w q (some ⟨g, 0, none⟩) l := fun _ =>
  ⟨g, 0, rfl, fun i x hx => by rw [Nat.zero_add]; exact (h.cell i).trans (by simpa using ints_at (q := q) hx)⟩

theorem l1_start (w : World) (W : Nat) (F C : Nat → Int) (P : Nat → List Int) (hp : ∀ j, (P j).length = W) :
    L1 w ((w.alloc (.cells #[.int .i64 W, .slice none 0 0, .slice none 0 0, .slice none 0 0, .slice none 0 0, .slice none 0 0] 31)).alloc (.map #[] 0)) W 0 F C P #[.int .i64 W, .slice none 0 0, .slice none 0 0, .slice none 0 0, .slice none 0 0, .slice none 0 0] (fun _ => ⟨none, 0, []⟩) := by
  refine ⟨⟨(Blk.new _ _ _).alloc _, rfl, fun i hi => ?_, fun i hi => ⟨rfl, .inl ⟨rfl, rfl⟩⟩, fun i j _ _ _ b e => by simp [Row.val, Value.ownBlock] at e, by omega, by simp⟩, ⟨by simp [flat, ints], by simp [ints], by simp [ints], by simp [ints], by simp [ints], hp, fun _ => rfl⟩, ?_, ?_⟩
  · rcases (show i = 0 ∨ i = 1 ∨ i = 2 ∨ i = 3 ∨ i = 4 by omega) with rfl | rfl | rfl | rfl | rfl <;> rfl
  · have := World.ownsMap_made (H := Unit) (w.alloc (.cells #[.int .i64 W, .slice none 0 0, .slice none 0 0, .slice none 0 0, .slice none 0 0, .slice none 0 0] 31)) Yba.prog 24 (plainElem Yba.prog 21)
    simpa [OwnM, Dm] using this
  · exact Keeps.below ((Keeps.alloc _ _ _).trans (Keeps.alloc _ _ _)) (Nat.le_refl _)

/-- One key added and linked. -/
theorem l1_step {w wq w4 w5 w6 : World} {W i : Nat} {F C : Nat → Int} {P : Nat → List Int} {cK : Array Value} {R R1 : Nat → Row} {v : Int} (h : L1 w wq W i F C P cK R) (k4 : Keeps (fun _ => False) wq w4) (t : Turned w4 w5 w.heap.size (w.heap.size + 2) W R R1)
    (a : AddR R R1 W (P i) (F i) i (C i)) (l : Linked w5 w6 w.heap.size (w.heap.size + 2) W (w.heap.size + 1) i R1 (Dm F i) i (F i) v) (hv : v = lastF F (F i) i) : ∃ cK' R', L1 w w6 W (i + 1) F C P cK' R' := by
  obtain ⟨cK', R', h6, e4, ej, at6⟩ := l.st
  subst hv
  have h4 := h.k.free k4
  obtain ⟨cK5, h5⟩ := t.st
  refine ⟨cK', R', h6, full_step h.full a e4 ej, l.map, ?_⟩
  have low : ∀ b, Of w.heap.size R b → w.heap.size ≤ b := by
    rintro b (e | ⟨j, hj, e⟩)
    · omega
    · have := h4.lo hj e; omega
  have low1 : ∀ b, Of w.heap.size R1 b → w.heap.size ≤ b := by
    rintro b (e | ⟨j, hj, e⟩)
    · omega
    · have := h5.lo hj e; omega
  have kk : Keeps (fun b => w.heap.size ≤ b) wq w6 := ((k4.mono (fun _ _ e => e.elim)).trans (t.keeps.mono (fun b _ e => low b e))).trans (l.keeps.mono (fun b _ e => by
    rcases e with e | e
    · exact low1 b e
    · omega))
  exact h.below.trans (Keeps.below kk h.below.size)
end Go.Proofs.Ybulkdyci
