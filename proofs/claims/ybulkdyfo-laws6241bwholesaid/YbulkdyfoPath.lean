/-
  The plain law of 'Push' into the heap: the sift, told as an insertion into the path from the leaf to the root.
-/
import Derived.Test.YbulkdyfoSift
import Derived.Test.YbulkdyfoIsHeap
namespace Go.Proofs.Ybulkdyfo

/-- The path from place j up to the root. -/
def pathUp (j : Nat) : List Nat := if h : j = 0 then [0] else j :: pathUp ((j - 1) / 2)
termination_by j
decreasing_by omega

theorem pathUp_zero : pathUp 0 = [0] := by rw [pathUp]; simp
theorem pathUp_pos {j : Nat} (h : j ≠ 0) : pathUp j = j :: pathUp ((j - 1) / 2) := by rw [pathUp]; simp [h]

theorem pathUp_le : ∀ (j q : Nat), q ∈ pathUp j → q ≤ j := by
  intro j
  induction j using Nat.strongRecOn with
  | _ j ih =>
    intro q hq
    by_cases h : j = 0
    · subst h
      rw [pathUp_zero] at hq
      simp at hq
      omega
    · rw [pathUp_pos h] at hq
      simp at hq
      rcases hq with rfl | hq
      · omega
      · have := ih ((j - 1) / 2) (by omega) q hq
        omega

theorem pathUp_cons (j : Nat) : pathUp j = j :: (pathUp j).tail := by
  by_cases h : j = 0
  · subst h; rw [pathUp_zero]; rfl
  · rw [pathUp_pos h]; rfl

theorem pathUp_tail_lt (j q : Nat) (h : q ∈ (pathUp j).tail) : q < j := by
  by_cases h0 : j = 0
  · subst h0; rw [pathUp_zero] at h; simp at h
  · rw [pathUp_pos h0] at h
    have := pathUp_le _ _ (by simpa using h)
    omega

/-- The items above place i, the nearest first. -/
def anc (h : List Itm) (x : Itm) (i : Nat) : List Itm := (pathUp i).tail.map (fun q => h.getD q x)

theorem anc_pos {h : List Itm} {x : Itm} {i : Nat} (hi : i ≠ 0) : anc h x i = h.getD ((i - 1) / 2) x :: anc h x ((i - 1) / 2) := by
  unfold anc
  rw [pathUp_pos hi, List.tail_cons]
  conv => lhs; rw [pathUp_cons]
  simp

theorem anc_set {h : List Itm} {x : Itm} {i j : Nat} (v : Itm) (hij : i ≤ j) : anc (h.set j v) x i = anc h x i := by
  unfold anc
  refine List.map_congr_left fun q hq => ?_
  have := pathUp_tail_lt _ _ hq
  simp [List.getD, List.getElem?_set_ne (show j ≠ q by omega)]

theorem sift_off : ∀ (i : Nat) (h : List Itm) (x : Itm) (q : Nat), q ∉ pathUp i → (siftUp i h i x)[q]? = h[q]? := by
  intro i
  induction i using Nat.strongRecOn with
  | _ i ih =>
    intro h x q hq
    have hiq : i ≠ q := by
      rintro rfl
      rw [pathUp_cons] at hq
      simp at hq
    by_cases hi : i = 0
    · subst hi
      rw [siftUp_stop (.inl rfl), List.getElem?_set_ne hiq]
    · cases hl : ltI x (h.getD ((i - 1) / 2) x)
      · rw [siftUp_stop (.inr hl), List.getElem?_set_ne hiq]
      · rw [siftUp_move (by omega) hl, ih ((i - 1) / 2) (by omega) _ x q ?_, List.getElem?_set_ne hiq]
        rw [pathUp_pos hi] at hq
        simp at hq
        exact hq.2

theorem sift_path : ∀ (i : Nat) (h : List Itm) (x : Itm), i < h.length →
    (pathUp i).map (fun q => (siftUp i h i x)[q]?) = ((anc h x i).takeWhile (ltI x ·) ++ x :: (anc h x i).dropWhile (ltI x ·)).map some := by
  intro i
  induction i using Nat.strongRecOn with
  | _ i ih =>
    intro h x hlt
    by_cases hi : i = 0
    · subst hi
      rw [siftUp_stop (.inl rfl), pathUp_zero]
      simp [anc, pathUp_zero, List.getElem?_set_self hlt]
    · have hp : (i - 1) / 2 < i := by omega
      cases hl : ltI x (h.getD ((i - 1) / 2) x)
      · rw [siftUp_stop (.inr hl), anc_pos hi, pathUp_pos hi]
        simp only [List.map_cons, List.takeWhile_cons, List.dropWhile_cons, hl, Bool.false_eq_true, if_false, List.nil_append, List.getElem?_set_self hlt]
        refine congrArg _ ?_
        conv => lhs; rw [pathUp_cons]
        simp only [List.map_cons, anc, List.map_map]
        refine congr (congrArg _ ?_) (List.map_congr_left fun q hq => ?_)
        · rw [List.getElem?_set_ne (by omega), List.getElem?_eq_getElem (show (i - 1) / 2 < h.length by omega)]
          simp [List.getD, List.getElem?_eq_getElem (show (i - 1) / 2 < h.length by omega)]
        · have hq' := pathUp_tail_lt _ _ hq
          rw [List.getElem?_set_ne (by omega)]
          simp [List.getD, List.getElem?_eq_getElem (show q < h.length by omega)]
      · rw [siftUp_move (by omega) hl, anc_pos hi, pathUp_pos hi]
        simp only [List.map_cons, List.takeWhile_cons, List.dropWhile_cons, hl, if_true, List.cons_append]
        refine congr (congrArg _ ?_) ?_
        · rw [sift_off _ _ _ _ (fun e => by have := pathUp_le _ _ e; omega), List.getElem?_set_self hlt]
        · rw [ih ((i - 1) / 2) hp (h.set i (h.getD ((i - 1) / 2) x)) x (by simp; omega), anc_set _ (by omega)]

theorem ltI_false_trans {a b c : Itm} (h1 : ltI a b = false) (h2 : ltI b c = false) : ltI a c = false := by
  simp only [ltI, Bool.or_eq_false_iff, Bool.and_eq_false_iff, decide_eq_false_iff_not, beq_eq_false_iff_ne] at h1 h2 ⊢
  omega

/-- Behind the first item that does not come behind x none does. -/
theorem anc_sorted {heap : List Itm} (hH : IsHeap heap) (x y : Itm) : ∀ i, i ≤ heap.length → ∀ z ∈ (anc (heap ++ [y]) x i).dropWhile (ltI x ·), ltI x z = false := by
  intro i
  induction i using Nat.strongRecOn with
  | _ i ih =>
    intro hlen z hz
    by_cases hi : i = 0
    · subst hi; simp [anc, pathUp_zero] at hz
    · rw [anc_pos hi, List.dropWhile_cons] at hz
      split at hz
      · exact ih ((i - 1) / 2) (by omega) (by omega) z hz
      · rename_i hl
        -- all of them
        have all : ∀ j, j < heap.length → ltI x ((heap ++ [y]).getD j x) = false → ∀ u ∈ anc (heap ++ [y]) x j, ltI x u = false := by
          intro j
          induction j using Nat.strongRecOn with
          | _ j ihj =>
            intro hj hx u hu
            by_cases hj0 : j = 0
            · subst hj0; simp [anc, pathUp_zero] at hu
            · rw [anc_pos hj0] at hu
              have hstep : ltI x ((heap ++ [y]).getD ((j - 1) / 2) x) = false := by
                have e1 : (heap ++ [y]).getD j x = heap[j] := by simp [List.getD, List.getElem?_append_left hj, List.getElem?_eq_getElem hj]
                have hp : (j - 1) / 2 < heap.length := by omega
                have e2 : (heap ++ [y]).getD ((j - 1) / 2) x = heap[(j - 1) / 2] := by simp [List.getD, List.getElem?_append_left hp, List.getElem?_eq_getElem hp]
                rw [e1] at hx
                rw [e2]
                exact ltI_false_trans hx (hH j (by omega) _ _ (List.getElem?_eq_getElem hj) (List.getElem?_eq_getElem hp))
              simp at hu
              rcases hu with rfl | hu
              · simpa [List.getD] using hstep
              · exact ihj ((j - 1) / 2) (by omega) (by omega) hstep u hu
        have hl' : ltI x ((heap ++ [y]).getD ((i - 1) / 2) x) = false := by simpa using hl
        simp only [List.mem_cons] at hz
        rcases hz with rfl | hz
        · exact hl'
        · exact all ((i - 1) / 2) (by omega) hl' z hz
end Go.Proofs.Ybulkdyfo
