import Derived.Test.YbulkdyfoRound
namespace Go.Proofs.Ybulkdyfo
open Go.RowKit

theorem L1.drew {w wr : World} {cP : Array Value} {E L X K i : Nat} {st en nv : Nat → Bool} {lf lv ow ct : Nat → Int} {cR cV cE cL cX cK : Array Value} (h : L1 w wr cP E L X K i st en nv lf lv ow ct cR cV cE cL cX cK) :
    L1 w wr.drew cP E L X K i st en nv lf lv ow ct cR cV cE cL cX cK :=
  ⟨h.bS, h.bP, ⟨h.r.blk, h.r.size, h.r.done⟩, h.c4, ⟨h.v.blk, h.v.size, h.v.done⟩, ⟨h.e.blk, h.e.size, h.e.done⟩, ⟨h.l.blk, h.l.size, h.l.done⟩, ⟨h.x.blk, h.x.size, h.x.done⟩, ⟨h.k.blk, h.k.size, h.k.done⟩, h.below.drew⟩

/-- A round whose place's level stands. -/
theorem l1_plain {w wr : World} {cP : Array Value} {E L X K i : Nat} {st en nv : Nat → Bool} {lf lv ow ct : Nat → Int} {cR cV cE cL cX cK : Array Value} (hA : Apart w.heap.size E L X K) (hi : i < 3)
    (h : L1 w wr cP E L X K i st en nv lf lv ow ct cR cV cE cL cX cK) (hnv : nv i = false) :
    ∃ cR' cV' cE' cL' cX' cK', L1 w (stores w (wr.setCell ⟨w.heap.size + 7, i, none⟩ (.int .i64 (lv i))) E L X K i (en i) (st i) (lf i) (lv i) (ow i) (ct i)) cP E L X K (i + 1) st en nv lf lv ow ct cR' cV' cE' cL' cX' cK' := by
  have hl : lv i = lvl nv lv i := by simp [lvl, hnv]
  obtain ⟨cR', cE', cL', cX', cK', hh⟩ := l1_rest hA hi h (v_once h.v hi (v := .int .i64 (lv i)) (by rw [← hl])) (fun g hg => Below.heap_setCell _ _ _ _ (by simpa using hg)) (h.below.setCell (by simp) _) hl
  exact ⟨cR', _, cE', cL', cX', cK', hh⟩

/-- A round whose place's level is Never. -/
theorem l1_never {w wr : World} {cP : Array Value} {E L X K i : Nat} {st en nv : Nat → Bool} {lf lv ow ct : Nat → Int} {cR cV cE cL cX cK : Array Value} (hA : Apart w.heap.size E L X K) (hi : i < 3)
    (h : L1 w wr cP E L X K i st en nv lf lv ow ct cR cV cE cL cX cK) (hnv : nv i = true) :
    ∃ cR' cV' cE' cL' cX' cK', L1 w (stores w ((wr.setCell ⟨w.heap.size + 7, i, none⟩ (.int .i64 (lv i))).setCell ⟨w.heap.size + 7, i, none⟩ (.int .i64 9223372036854775807)) E L X K i (en i) (st i) (lf i) 9223372036854775807 (ow i) (ct i)) cP E L X K (i + 1) st en nv lf lv ow ct cR' cV' cE' cL' cX' cK' := by
  have hl : (9223372036854775807 : Int) = lvl nv lv i := by simp [lvl, hnv]
  obtain ⟨cR', cE', cL', cX', cK', hh⟩ := l1_rest hA hi h (v_twice h.v hi (u := .int .i64 (lv i)) (v := .int .i64 9223372036854775807) (by rw [← hl])) (fun g hg => (Below.heap_setCell _ _ _ _ (by simpa using hg)).trans (Below.heap_setCell _ _ _ _ (by simpa using hg))) ((h.below.setCell (by simp) _).setCell (by simp) _) hl
  exact ⟨cR', _, cE', cL', cX', cK', hh⟩

/-- The memory behind 'check'. -/
structure L2 (w w2 : World) (cP : Array Value) (A E L X K j : Nat) (st en nv : Nat → Bool) (lf lv ow ct : Nat → Int) (ws wc : Bool) : Prop where
  bS : Blk w2 (w.heap.size + 6) (strandsOf E L X K) 74
  bP : Blk w2 w.heap.size cP 65
  v : ∀ k, k < 3 → w2.cell? ⟨w.heap.size + 7, k, none⟩ = some (.int .i64 (lvl nv lv k))
  e : ∀ k, k < 3 → w2.cell? ⟨E, k, none⟩ = some (.bool (en k))
  l : ∀ k, k < 3 → w2.cell? ⟨L, k, none⟩ = some (.int .i64 (lf k))
  x0 : ∀ k, k < 3 → w2.cell? ⟨X, k * 2, none⟩ = some (.int .i64 (lvl nv lv k))
  x1 : ∀ k, k < 3 → w2.cell? ⟨X, k * 2 + 1, none⟩ = some (.int .i64 (ow k))
  k : ∀ k, k < 3 → w2.cell? ⟨K, k, none⟩ = some (.bool (if k = j then ws else st k))
  a25 : w2.cell? ⟨A, 25, none⟩ = some (.pointer (some ⟨w.heap.size + 6, 0, none⟩))
  yes : wc = true → ∃ g c, w2.cell? ⟨w.heap.size + 1, 4, none⟩ = some (.slice (some ⟨g, 0, none⟩) 1 c) ∧ w2.cell? ⟨g, 0, none⟩ = some (.int .i64 j)
  no : wc = false → w2.cell? ⟨w.heap.size + 1, 4, none⟩ = some (.slice none 0 0)
  below : Below w.heap.size w w2

section
variable {w w2 : World} {cP : Array Value} {A E L X K j : Nat} {st en nv : Nat → Bool} {lf lv ow ct : Nat → Int} {ws wc : Bool}
theorem L2.alloc (h : L2 w w2 cP A E L X K j st en nv lf lv ow ct ws wc) (o : Obj) : L2 w (w2.alloc o) cP A E L X K j st en nv lf lv ow ct ws wc where
  bS := h.bS.alloc o
  bP := h.bP.alloc o
  v := fun k hk => cell_alloc (h.v k hk) o
  e := fun k hk => cell_alloc (h.e k hk) o
  l := fun k hk => cell_alloc (h.l k hk) o
  x0 := fun k hk => cell_alloc (h.x0 k hk) o
  x1 := fun k hk => cell_alloc (h.x1 k hk) o
  k := fun k hk => cell_alloc (h.k k hk) o
  a25 := cell_alloc h.a25 o
  yes := fun e => by
    obtain ⟨g, c, h1, h2⟩ := h.yes e
    exact ⟨g, c, cell_alloc h1 o, cell_alloc h2 o⟩
  no := fun e => cell_alloc (h.no e) o
  below := h.below.alloc h.below.size o

theorem L2.drewN (h : L2 w w2 cP A E L X K j st en nv lf lv ow ct ws wc) (n : Nat) : L2 w (w2.drewN n) cP A E L X K j st en nv lf lv ow ct ws wc :=
  ⟨h.bS, h.bP, h.v, h.e, h.l, h.x0, h.x1, h.k, h.a25, h.yes, h.no, below_drewN h.below n⟩
end

/-- The anteroom's 26 cells. -/
def anteCells (R S : Nat) : Array Value :=
  #[.iface 66 (.pointer (some ⟨R, 0, none⟩)), .slice none 0 0, .slice none 0 0, .int .i64 0, .slice none 0 0, .nilIface, .slice none 0 0, .slice none 0 0, .slice none 0 0, .slice none 0 0, .slice none 0 0, .slice none 0 0, .slice none 0 0,
    .int .i64 0, .slice none 0 0, .slice none 0 0, .int .i64 0, .int .i64 0, .slice none 0 0, .slice none 0 0, .int .i64 0, .slice none 0 0, .slice none 0 0, .int .i64 0, .int .i64 0, .pointer (some ⟨S, 0, none⟩)]

/-- 'check' called behind the law's first loop. -/
theorem check_law {w wr : World} {cP : Array Value} {E L X K : Nat} {st en nv : Nat → Bool} {lf lv ow ct : Nat → Int} {cR cV cE cL cX cK : Array Value} (hA : Apart w.heap.size E L X K)
    (h : L1 w wr cP E L X K 3 st en nv lf lv ow ct cR cV cE cL cX cK) (j : Nat) (hj : j < 3) :
    ChecksTo (wr.alloc (.cells (anteCells (w.heap.size + 1) (w.heap.size + 6)) 48)) wr.heap.size j
      fun w2 => L2 w w2 cP wr.heap.size E L X K j st en nv lf lv ow ct (wantStuck (st j) (en j) (lf j) (lvl nv lv j) (ow j) (ct j)) (wantCall (st j) (en j) (lf j) (lvl nv lv j)) := by
  obtain ⟨⟨e1, e2⟩, ⟨l1, l2⟩, ⟨x1, x2⟩, ⟨k1, k2⟩, el, ex, ek, lx, lk, xk⟩ := hA
  have hlt := h.v.blk.lt
  have hcell : ∀ i, (wr.alloc (.cells (anteCells (w.heap.size + 1) (w.heap.size + 6)) 48)).cell? ⟨wr.heap.size, i, none⟩ = (anteCells (w.heap.size + 1) (w.heap.size + 6))[i]? := (Blk.new wr _ _).cell
  have bS := h.bS.alloc (.cells (anteCells (w.heap.size + 1) (w.heap.size + 6)) 48)
  have hx0 := h.x.done (j * 2) (by omega)
  have hx1 := h.x.done (j * 2 + 1) (by omega)
  have hk := h.k.done j hj
  have he := h.e.done j hj
  have hl := h.l.done j hj
  have hr := h.r.done j hj
  simp only [Nat.zero_add] at hx0 hx1 hk he hl
  rw [if_pos (by omega), show j * 2 / 2 = j by omega] at hx0
  rw [if_neg (by omega), show (j * 2 + 1) / 2 = j by omega] at hx1
  refine (check_any _ wr.heap.size (w.heap.size + 1) (w.heap.size + 6) E L X K j cR cK cE cL cX (st j) (en j) (lf j) (lvl nv lv j) (ow j) (ct j) hj
    ⟨hcell 0, hcell 25, bS.cell 0, bS.cell 1, bS.cell 5, bS.cell 6⟩ (h.k.blk.alloc _) (h.e.blk.alloc _) (h.l.blk.alloc _) (h.x.blk.alloc _) (h.r.blk.alloc _) hk he hl hx0 hx1 h.c4 hr (by omega) (by omega) (by omega)).mono ?_
  rintro e w2 ⟨rfl, hp⟩
  refine ⟨rfl, ?_⟩
  have keep : ∀ {g : Nat} {cs : Array Value} {t : TypeId}, Blk wr g cs t → g ≠ w.heap.size + 1 → g ≠ K → Blk w2 g cs t := fun hb h1 h2 => by
    unfold Blk
    rw [hp.block _ (Nat.lt_of_lt_of_le hb.lt (by simp)) h1 h2]
    exact hb.alloc _
  have row : ∀ {g n m : Nat} {t : TypeId} {f : Nat → Value} {c : Array Value}, Row wr g t n m 0 f c → g ≠ w.heap.size + 1 → g ≠ K → ∀ i, i < m → w2.cell? ⟨g, i, none⟩ = some (f i) := fun hr h1 h2 i hi => by
    rw [(keep hr.blk h1 h2).cell i]
    have := hr.done i hi
    rwa [Nat.zero_add] at this
  exact {
    bS := keep h.bS (by omega) (by omega)
    bP := keep h.bP (by omega) (by omega)
    v := row h.v (by omega) (by omega)
    e := row h.e (by omega) ek
    l := row h.l (by omega) lk
    x0 := fun i hi => by
      rw [row h.x (by omega) xk (i * 2) (by omega), if_pos (by omega), show i * 2 / 2 = i by omega]
    x1 := fun i hi => by
      rw [row h.x (by omega) xk (i * 2 + 1) (by omega), if_neg (by omega), show (i * 2 + 1) / 2 = i by omega]
    k := fun i hi => by
      rw [hp.mark.cell i]
      have hsz := h.k.size
      by_cases hij : i = j
      · subst hij
        rw [Array.getElem?_setIfInBounds_self_of_lt (by omega), if_pos rfl]
      · rw [Array.getElem?_setIfInBounds_ne (by omega), if_neg hij]
        have := h.k.done i hi
        rwa [Nat.zero_add] at this
    a25 := by
      rw [World.cell?_of_block (w := wr.alloc (.cells (anteCells (w.heap.size + 1) (w.heap.size + 6)) 48)) (hp.block wr.heap.size (by simp) (by omega) (by omega))]
      exact hcell 25
    yes := fun e => by
      obtain ⟨g, c, cur, b1, b2, b3⟩ := hp.yes e
      refine ⟨g, c, ?_, (b2.cell 0).trans b3⟩
      rw [b1.cell 4, Array.getElem?_setIfInBounds_self_of_lt (by have := h.r.size; omega)]
    no := fun e => ((hp.no e).cell 4).trans h.c4
    below := by
      have hb : Below w.heap.size w (wr.alloc (.cells (anteCells (w.heap.size + 1) (w.heap.size + 6)) 48)) := h.below.alloc (by omega) _
      exact hb.trans ⟨hp.os, hp.tape, hp.output, hp.size, fun k hk => hp.block k (by simp; omega) (by omega) (by omega)⟩ }
end Go.Proofs.Ybulkdyfo
