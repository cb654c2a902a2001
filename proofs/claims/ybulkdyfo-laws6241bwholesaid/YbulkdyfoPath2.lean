import Derived.Test.YbulkdyfoPath
namespace Go.Proofs.Ybulkdyfo

def rootFirst (n : Nat) : List Nat := (pathUp n).reverse

def notAfter (heap : List Itm) (x : Itm) (q : Nat) : Bool := !ltI x (heap.getD q x)

def cntT (heap : List Itm) (x : Itm) (rf : List Nat) (i : Nat) : Nat := (rf.take i).countP (notAfter heap x)

theorem cntT_zero (heap : List Itm) (x : Itm) (rf : List Nat) : cntT heap x rf 0 = 0 := by simp [cntT]

theorem cntT_step {heap : List Itm} {x y : Itm} {rf : List Nat} {i q : Nat} (hq : rf[i]? = some q) (hy : heap[q]? = some y) : cntT heap x rf (i + 1) = cntT heap x rf i + (if ltI x y then 0 else 1) := by
  unfold cntT
  rw [List.take_add_one, hq, List.countP_append]
  cases hl : ltI x y <;> simp [notAfter, hy, hl]

theorem cntT_le (heap : List Itm) (x : Itm) (rf : List Nat) (i : Nat) : cntT heap x rf i ≤ i :=
  Nat.le_trans List.countP_le_length (by simp; omega)

theorem rootFirst_len (n : Nat) : 0 < (rootFirst n).length := by
  unfold rootFirst
  rw [List.length_reverse, pathUp_cons]
  simp

theorem rootFirst_le {n i q : Nat} (h : (rootFirst n)[i]? = some q) : q ≤ n := pathUp_le n q (by
  have := List.mem_of_getElem? h
  simpa [rootFirst] using this)

theorem rootFirst_take (n : Nat) : (rootFirst n).take ((rootFirst n).length - 1) = (pathUp n).tail.reverse := by
  unfold rootFirst
  conv => lhs; rw [pathUp_cons]
  simp

theorem rootFirst_lt {n i q : Nat} (h : (rootFirst n)[i]? = some q) (hi : i < (rootFirst n).length - 1) : q < n := by
  have h2 : ((rootFirst n).take ((rootFirst n).length - 1))[i]? = some q := by rw [List.getElem?_take_of_lt hi]; exact h
  rw [rootFirst_take] at h2
  exact pathUp_tail_lt n q (by simpa using List.mem_of_getElem? h2)

theorem path_main {heap : List Itm} (hH : IsHeap heap) (x : Itm) (i q : Nat) (hq : (rootFirst heap.length)[i]? = some q) :
    ∃ y, (siftUp heap.length (heap ++ [x]) heap.length x)[q]? = some y ∧
      (i < cntT heap x (rootFirst heap.length) ((rootFirst heap.length).length - 1) → heap[q]? = some y) ∧
      (i = cntT heap x (rootFirst heap.length) ((rootFirst heap.length).length - 1) → y = x) ∧
      (cntT heap x (rootFirst heap.length) ((rootFirst heap.length).length - 1) < i → ∃ q', (rootFirst heap.length)[i - 1]? = some q' ∧ heap[q']? = some y) := by
  have hv := sift_path heap.length (heap ++ [x]) x (by simp)
  obtain ⟨A, hA⟩ : ∃ A, A = anc (heap ++ [x]) x heap.length := ⟨_, rfl⟩
  have hs := anc_sorted hH x x heap.length (Nat.le_refl _)
  rw [← hA] at hv hs
  have hA2 : A = (pathUp heap.length).tail.map (fun q => heap.getD q x) := by
    rw [hA]
    refine List.map_congr_left fun q hq => ?_
    have := pathUp_tail_lt _ _ hq
    simp [List.getD, List.getElem?_append_left this]
  have hTD : A.takeWhile (ltI x ·) ++ A.dropWhile (ltI x ·) = A := List.takeWhile_append_dropWhile
  have hT : ∀ z ∈ A.takeWhile (ltI x ·), ltI x z = true := fun z hz => by
    have := List.all_takeWhile (l := A) (p := (ltI x ·))
    rw [List.all_eq_true] at this
    exact this z hz
  generalize A.takeWhile (ltI x ·) = T at hv hTD hT
  generalize A.dropWhile (ltI x ·) = D at hv hTD hs
  have ht : cntT heap x (rootFirst heap.length) ((rootFirst heap.length).length - 1) = D.length := by
    unfold cntT
    rw [rootFirst_take, List.countP_reverse]
    have e : (pathUp heap.length).tail.countP (notAfter heap x) = A.countP (fun z => !ltI x z) := by
      rw [hA2, List.countP_map]
      rfl
    rw [e, ← hTD, List.countP_append]
    have e1 : T.countP (fun z => !ltI x z) = 0 := by
      rw [List.countP_eq_zero]
      intro z hz
      simp [hT z hz]
    have e2 : D.countP (fun z => !ltI x z) = D.length := by
      rw [List.countP_eq_length]
      intro z hz
      simp [hs z hz]
    omega
  rw [ht]
  have hR : (rootFirst heap.length).map (fun q => (siftUp heap.length (heap ++ [x]) heap.length x)[q]?) = (D.reverse ++ x :: T.reverse).map some := by
    unfold rootFirst
    rw [List.map_reverse, hv]
    simp
  have hB : ((rootFirst heap.length).take ((rootFirst heap.length).length - 1)).map (fun q => heap.getD q x) = D.reverse ++ T.reverse := by
    rw [rootFirst_take, List.map_reverse, ← hA2, ← hTD]
    simp
  have hlen : (rootFirst heap.length).length = D.length + T.length + 1 := by
    have := congrArg List.length hR
    simp at this
    omega
  have hi : i < (rootFirst heap.length).length := (List.getElem?_eq_some_iff.1 hq).1
  have hRi := congrArg (fun l => l[i]?) hR
  simp only [List.getElem?_map, hq, Option.map_some] at hRi
  have get : ∀ j u, j < D.length + T.length → (D.reverse ++ T.reverse)[j]? = some u → ∃ q', (rootFirst heap.length)[j]? = some q' ∧ heap[q']? = some u := by
    intro j u hj hu
    have hj' : j < (rootFirst heap.length).length - 1 := by omega
    have hb := congrArg (fun l => l[j]?) hB
    simp only [List.getElem?_map] at hb
    rw [List.getElem?_take_of_lt hj', hu, List.getElem?_eq_getElem (show j < (rootFirst heap.length).length by omega)] at hb
    have hq' : (rootFirst heap.length)[j]? = some ((rootFirst heap.length)[j]'(by omega)) := List.getElem?_eq_getElem _
    have hlt := rootFirst_lt hq' hj'
    refine ⟨_, hq', ?_⟩
    simp [List.getD, List.getElem?_eq_getElem hlt] at hb
    rw [List.getElem?_eq_getElem hlt, hb]
  rcases Nat.lt_trichotomy i D.length with h | h | h
  · rw [List.getElem?_append_left (by simpa using h)] at hRi
    obtain ⟨u, hd⟩ : ∃ u, D.reverse[i]? = some u := ⟨_, List.getElem?_eq_getElem (by simpa using h)⟩
    rw [hd] at hRi
    refine ⟨u, by simpa using hRi, fun _ => ?_, fun e => by omega, fun e => by omega⟩
    obtain ⟨q', h1, h2⟩ := get i _ (by omega) (by rw [List.getElem?_append_left (by simpa using h)]; exact hd)
    rw [hq] at h1
    simp at h1
    subst h1
    exact h2
  · rw [List.getElem?_append_right (by simp; omega)] at hRi
    refine ⟨x, by simpa [h] using hRi, fun e => by omega, fun _ => rfl, fun e => by omega⟩
  · rw [List.getElem?_append_right (by simp; omega)] at hRi
    obtain ⟨m, hm⟩ : ∃ m, i - D.reverse.length = m + 1 := ⟨i - D.length - 1, by simp; omega⟩
    rw [hm, List.getElem?_cons_succ] at hRi
    have hmT : m < T.reverse.length := by simp at hm ⊢; omega
    obtain ⟨u, hd⟩ : ∃ u, T.reverse[m]? = some u := ⟨_, List.getElem?_eq_getElem hmT⟩
    rw [hd] at hRi
    refine ⟨u, by simpa using hRi, fun e => by omega, fun e => by omega, fun _ => ?_⟩
    refine get (i - 1) _ (by simp at hmT hm; omega) ?_
    rw [List.getElem?_append_right (by simp; omega), show i - 1 - D.reverse.length = m by simp at hm ⊢; omega]
    exact hd

theorem path_off (heap : List Itm) (x : Itm) (q : Nat) (hn : q < heap.length) (hq : q ∉ rootFirst heap.length) : (siftUp heap.length (heap ++ [x]) heap.length x)[q]? = heap[q]? := by
  rw [sift_off _ _ _ _ (by simpa [rootFirst] using hq), List.getElem?_append_left hn]
end Go.Proofs.Ybulkdyfo
