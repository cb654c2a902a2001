import Derived.Test.YbulkdyciBun
namespace Go.Proofs.Ybulkdyci
open Go.RowKit Go.Maps

/-- 'heads' in the making: laid at -1. -/
structure H3 (w17 wq : World) (G f : Nat) : Prop where
  row : ∃ cH, Blk wq G cH 44 ∧ ∀ t, t < 4 → cH[t]? = some (.int .i32 (if t < f then -1 else 0))
  kept : Keeps (fun _ => False) w17 wq
  lo : w17.heap.size ≤ G

theorem h3_start {w17 wE : World} (k : Keeps (fun _ => False) w17 wE) : H3 w17 (wE.alloc (.cells #[.int .i32 0, .int .i32 0, .int .i32 0, .int .i32 0] 44)) wE.heap.size 0 :=
  ⟨⟨_, Blk.new _ _ _, fun t ht => by rcases (show t = 0 ∨ t = 1 ∨ t = 2 ∨ t = 3 by omega) with rfl | rfl | rfl | rfl <;> rfl⟩, k.trans (Keeps.alloc _ _ _), k.size⟩

theorem h3_step {w17 wq : World} {G f : Nat} (h : H3 w17 wq G f) (hf : f < 4) : H3 w17 (wq.setCell ⟨G, f, none⟩ (.int .i32 (-1))) G (f + 1) := by
  obtain ⟨cH, b, v⟩ := h.row
  have hsz : f < cH.size := (Array.getElem?_eq_some_iff.1 (v f hf)).1
  refine ⟨⟨_, b.set_same _ _, fun t ht => ?_⟩, h.kept.then (Keeps.set (bad := fun b => b = G) _ _ _ (fun _ => rfl)) (fun i hi e => by have := h.lo; omega), h.lo⟩
  by_cases e : t = f
  · subst e
    rw [Array.getElem?_setIfInBounds_self_of_lt hsz, if_pos (by omega)]
  · rw [Array.getElem?_setIfInBounds_ne (Ne.symm e), v t ht]
    have : (t < f + 1) = (t < f) := by simp; omega
    simp only [this]

/-- 'heads' behind j keys. -/
structure H4 (w17 wq : World) (G : Nat) (F : Nat → Int) (j : Nat) : Prop where
  row : ∃ cH, Blk wq G cH 44 ∧ ∀ t : Nat, t < 4 → cH[t]? = some (.int .i32 (lastF F t j))
  kept : Keeps (fun _ => False) w17 wq
  lo : w17.heap.size ≤ G

theorem h4_start {w17 wq : World} {G : Nat} (F : Nat → Int) (h : H3 w17 wq G 4) : H4 w17 wq G F 0 := by
  obtain ⟨cH, b, v⟩ := h.row
  exact ⟨⟨cH, b, fun t ht => by rw [v t ht, if_pos ht]; rfl⟩, h.kept, h.lo⟩

theorem H4.free {w17 wq w' : World} {G : Nat} {F : Nat → Int} {j : Nat} (h : H4 w17 wq G F j) (k : Keeps (fun _ => False) wq w') : H4 w17 w' G F j := by
  obtain ⟨cH, b, v⟩ := h.row
  exact ⟨⟨cH, k.blk b id, v⟩, h.kept.trans k, h.lo⟩

theorem h4_step {w17 wq : World} {G : Nat} {F : Nat → Int} {j t : Nat} (h : H4 w17 wq G F j) (ht : t < 4) (hF : F j = (t : Int)) : H4 w17 (wq.setCell ⟨G, t, none⟩ (.int .i32 j)) G F (j + 1) := by
  obtain ⟨cH, b, v⟩ := h.row
  have hsz : t < cH.size := (Array.getElem?_eq_some_iff.1 (v t ht)).1
  refine ⟨⟨_, b.set_same _ _, fun s hs => ?_⟩, h.kept.then (Keeps.set (bad := fun b => b = G) _ _ _ (fun _ => rfl)) (fun i hi e => by have := h.lo; omega), h.lo⟩
  by_cases e : s = t
  · subst e
    rw [Array.getElem?_setIfInBounds_self_of_lt hsz]
    simp only [lastF]
    rw [if_pos hF]
  · rw [Array.getElem?_setIfInBounds_ne (Ne.symm e), v s hs]
    simp only [lastF]
    rw [if_neg (by rw [hF]; omega)]

theorem H4.cell {w17 wq : World} {G : Nat} {F : Nat → Int} {j t : Nat} (h : H4 w17 wq G F j) (ht : t < 4) : wq.cell? ⟨G, t, none⟩ = some (.int .i32 (lastF F t j)) ∧ wq.frozen? ⟨G, t, none⟩ = false := by
  obtain ⟨cH, b, v⟩ := h.row
  exact ⟨(b.cell t).trans (v t ht), b.free t⟩

theorem dist_succ (F : Nat → Int) (j : Nat) : dist F (j + 1) = dist F j + (if lastF F (F j) j < 0 then 1 else 0) := rfl
end Go.Proofs.Ybulkdyci
