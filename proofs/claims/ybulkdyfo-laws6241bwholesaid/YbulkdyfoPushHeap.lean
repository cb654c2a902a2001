import Derived.Test.YbulkdyfoPush
namespace Go.Proofs.Ybulkdyfo
open Go.RowKit

/-- The sift in the making: the heap's row in block g, the hole at i; the item boxed in block I. -/
structure SRel (w wr : World) (Q o base g cap I : Nat) (cQ : Array Value) (vh : Value) (m : Nat) (heap : List Itm) (x : Itm) (i : Nat) (hs : List Itm) : Prop where
  own : wr.ownsRow base 59 3 (.slice (some ⟨g, 0, none⟩) (m + 1) cap) (m + 1) (icells hs)
  len : hs.length = m + 1
  res : siftUp i hs i x = siftUp m (heap ++ [x]) m x
  box : Blk wr I #[.int .i64 x.key, .int .i64 x.order, .int .i64 x.value] 59
  blk : Blk wr Q cQ 31
  keeps : Keeps (fun k => k = Q ∨ vh.ownBlock = some k) w wr
  gI : g ≠ I
  gQ : g ≠ Q
  at_ : vh.ownBlock = some g ∨ w.heap.size ≤ g

theorem SRel.drewN {w wr : World} {Q o base g cap I : Nat} {cQ : Array Value} {vh : Value} {m : Nat} {heap : List Itm} {x : Itm} {i : Nat} {hs : List Itm} (h : SRel w wr Q o base g cap I cQ vh m heap x i hs) (n : Nat) :
    SRel w (wr.drewN n) Q o base g cap I cQ vh m heap x i hs :=
  ⟨h.own, h.len, h.res, h.box, h.blk, h.keeps.trans (Keeps.drewN _ _ _), h.gI, h.gQ, h.at_⟩

theorem SRel.set {w wr : World} {Q o base g cap I : Nat} {cQ : Array Value} {vh : Value} {m : Nat} {heap : List Itm} {x : Itm} {i : Nat} {hs : List Itm} (h : SRel w wr Q o base g cap I cQ vh m heap x i hs) (j : Nat) (hj : j < m + 1) (y : Itm) :
    (((wr.setCell ⟨g, j * 3, none⟩ (.int .i64 y.key)).setCell ⟨g, j * 3 + 1, none⟩ (.int .i64 y.order)).setCell ⟨g, j * 3 + 2, none⟩ (.int .i64 y.value)).ownsRow base 59 3 (.slice (some ⟨g, 0, none⟩) (m + 1) cap) (m + 1) (icells (hs.set j y)) ∧
    Blk (((wr.setCell ⟨g, j * 3, none⟩ (.int .i64 y.key)).setCell ⟨g, j * 3 + 1, none⟩ (.int .i64 y.order)).setCell ⟨g, j * 3 + 2, none⟩ (.int .i64 y.value)) I #[.int .i64 x.key, .int .i64 x.order, .int .i64 x.value] 59 ∧
    Blk (((wr.setCell ⟨g, j * 3, none⟩ (.int .i64 y.key)).setCell ⟨g, j * 3 + 1, none⟩ (.int .i64 y.order)).setCell ⟨g, j * 3 + 2, none⟩ (.int .i64 y.value)) Q cQ 31 ∧
    Keeps (fun k => k = Q ∨ vh.ownBlock = some k) w (((wr.setCell ⟨g, j * 3, none⟩ (.int .i64 y.key)).setCell ⟨g, j * 3 + 1, none⟩ (.int .i64 y.order)).setCell ⟨g, j * 3 + 2, none⟩ (.int .i64 y.value)) := by
  have hl := h.len
  refine ⟨own_set_item h.own j (by omega) y, ((h.box.set_other (Ne.symm h.gI) _).set_other (Ne.symm h.gI) _).set_other (Ne.symm h.gI) _, ((h.blk.set_other (Ne.symm h.gQ) _).set_other (Ne.symm h.gQ) _).set_other (Ne.symm h.gQ) _, ?_⟩
  have key : ∀ (u : World) (a : Addr) (v : Value), a.block = g → Keeps (fun k => k = Q ∨ vh.ownBlock = some k) w u → Keeps (fun k => k = Q ∨ vh.ownBlock = some k) w (u.setCell a v) := by
    intro u a v ha hu
    refine hu.then (bad' := fun k => k = g) (Keeps.set _ _ _ (fun _ => ha)) ?_
    rintro k hk rfl
    rcases h.at_ with e | e
    · exact .inr e
    · omega
  exact key _ _ _ rfl (key _ _ _ rfl (key _ _ _ rfl h.keeps))

theorem SRel.move {w wr : World} {Q o base g cap I : Nat} {cQ : Array Value} {vh : Value} {m : Nat} {heap : List Itm} {x : Itm} {i : Nat} {hs : List Itm} (h : SRel w wr Q o base g cap I cQ vh m heap x i hs) (hi : 0 < i) (him : i < m + 1) (p : Itm) (hp : hs[(i - 1) / 2]? = some p)
    (hl : ltI x p = true) :
    SRel w (((wr.setCell ⟨g, i * 3, none⟩ (.int .i64 p.key)).setCell ⟨g, i * 3 + 1, none⟩ (.int .i64 p.order)).setCell ⟨g, i * 3 + 2, none⟩ (.int .i64 p.value)) Q o base g cap I cQ vh m heap x ((i - 1) / 2) (hs.set i p) := by
  obtain ⟨s1, s2, s3, s4⟩ := h.set i him p
  have hd : hs.getD ((i - 1) / 2) x = p := by simp [List.getD, hp]
  exact ⟨s1, by simpa using h.len, by rw [← h.res, siftUp_move hi (by rw [hd]; exact hl), hd], s2, s3, s4, h.gI, h.gQ, h.at_⟩
end Go.Proofs.Ybulkdyfo
