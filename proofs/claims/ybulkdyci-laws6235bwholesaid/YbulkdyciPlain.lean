import Derived.Test.YbulkdyciLink
namespace Go.Proofs.Ybulkdyci
open Go.RowKit Go.Maps

/-- The greatest place below i whose fold is f; -1 where there is none. -/
def lastF (F : Nat → Int) (f : Int) : Nat → Int
  | 0 => -1
  | i + 1 => if F i = f then (i : Int) else lastF F f i

theorem lastF_ge (F : Nat → Int) (f : Int) : ∀ i, -1 ≤ lastF F f i
  | 0 => by simp [lastF]
  | i + 1 => by
    simp only [lastF]
    split
    · omega
    · exact lastF_ge F f i

theorem lastF_lt (F : Nat → Int) (f : Int) : ∀ i : Nat, lastF F f i < i
  | 0 => by simp [lastF]
  | i + 1 => by
    have := lastF_lt F f i
    simp only [lastF]
    split
    · omega
    · omega

theorem lastF_fold (F : Nat → Int) (f : Int) : ∀ (i j : Nat), lastF F f i = (j : Int) → F j = f
  | 0, j, h => by simp only [lastF] at h; omega
  | i + 1, j, h => by
    simp only [lastF] at h
    split at h
    · rename_i e
      have : j = i := by omega
      rw [this]
      exact e
    · exact lastF_fold F f i j h

/-- The index behind i links. -/
def Dm (F : Nat → Int) : Nat → DataW Unit
  | 0 => .map []
  | i + 1 => (Dm F i).put (.int .u64 (F i)) (.lit (.int .i32 i))

theorem key_lit (f : Int) : WideAt.IsKeyLit (.int .u64 f) := by simp [WideAt.IsKeyLit]

theorem Dm_tidy (F : Nat → Int) : ∀ i, Tidy (Dm F i)
  | 0 => tidy_empty
  | i + 1 => (Dm_tidy F i).put (key_lit _) _

theorem Dm_has (F : Nat → Int) (f : Int) : ∀ i, Maps.has (Dm F i) (.int .u64 f) = decide (0 ≤ lastF F f i)
  | 0 => by simp [Dm, lastF, Maps.has]
  | i + 1 => by
    by_cases e : F i = f
    · have h1 : lastF F f (i + 1) = (i : Int) := by simp only [lastF]; rw [if_pos e]
      have h2 : Maps.has (Dm F (i + 1)) (.int .u64 f) = true := by rw [Dm, e]; exact has_put_same (Dm_tidy F i).isMap (key_lit _) _
      rw [h2, h1]
      simp
    · have h1 : lastF F f (i + 1) = lastF F f i := by simp only [lastF]; rw [if_neg e]
      have h2 : Maps.has (Dm F (i + 1)) (.int .u64 f) = Maps.has (Dm F i) (.int .u64 f) := by rw [Dm]; exact has_put_other (by simpa using fun h => e h.symm) _
      rw [h2, h1, Dm_has F f i]

theorem Dm_at (F : Nat → Int) (f : Int) (z : DataW Unit) : ∀ i, 0 ≤ lastF F f i → (Dm F i).atKey (.int .u64 f) z = .lit (.int .i32 (lastF F f i))
  | 0, h => by simp [lastF] at h
  | i + 1, h => by
    simp only [Dm, lastF] at h ⊢
    by_cases e : F i = f
    · rw [if_pos e, e, atKey_put_same (Dm_tidy F i).isMap (key_lit _)]
    · rw [if_neg e] at h ⊢
      rw [atKey_put_other (by simpa using fun h => e h.symm), Dm_at F f z i h]

/-- How many folds there are. -/
def dist (F : Nat → Int) : Nat → Nat
  | 0 => 0
  | i + 1 => dist F i + (if lastF F (F i) i < 0 then 1 else 0)

theorem dist_le (F : Nat → Int) : ∀ i, dist F i ≤ i
  | 0 => by simp [dist]
  | i + 1 => by
    have := dist_le F i
    simp only [dist]
    split <;> omega

theorem Dm_size (F : Nat → Int) : ∀ i, Maps.size (Dm F i) = dist F i
  | 0 => rfl
  | i + 1 => by
    simp only [Dm, dist]
    rw [size_put (Dm_tidy F i), Dm_has, Dm_size F i]
    by_cases e : 0 ≤ lastF F (F i) i
    · have e2 : ¬ lastF F (F i) i < 0 := by omega
      simp [e, e2]
    · have e2 : lastF F (F i) i < 0 := by omega
      simp [e, e2]

/-- What 'find' is to answer. -/
def findI (F C : Nat → Int) (P : Nat → List Int) (h ct : Int) (pr : List Int) : Nat → Int
  | 0 => -1
  | i + 1 => if F i = h ∧ C i = ct ∧ P i = pr then (i : Int) else findI F C P h ct pr i

theorem find_none (F C : Nat → Int) (P : Nat → List Int) (h ct : Int) (pr : List Int) : ∀ j, lastF F h j = -1 → findI F C P h ct pr j = -1
  | 0, _ => rfl
  | j + 1, e => by
    simp only [lastF] at e
    split at e
    · omega
    · rename_i hn
      simp only [findI]
      rw [if_neg (fun x => hn x.1), find_none F C P h ct pr j e]

theorem find_last (F C : Nat → Int) (P : Nat → List Int) (h ct : Int) (pr : List Int) : ∀ (j i : Nat), lastF F h j = (i : Int) → findI F C P h ct pr j = findI F C P h ct pr (i + 1)
  | 0, i, e => by simp only [lastF] at e; omega
  | j + 1, i, e => by
    simp only [lastF] at e
    split at e
    · have : i = j := by omega
      rw [this]
    · rename_i hn
      conv => lhs; simp only [findI]
      rw [if_neg (fun x => hn x.1), find_last F C P h ct pr j i e]

def flat (P : Nat → List Int) (n : Nat) : List Int := (List.range n).flatMap P

theorem flat_succ (P : Nat → List Int) (n : Nat) : flat P (n + 1) = flat P n ++ P n := by simp [flat, List.range_succ]

theorem flat_len (P : Nat → List Int) (W : Nat) (hp : ∀ j, (P j).length = W) : ∀ n, (flat P n).length = n * W
  | 0 => by simp [flat]
  | n + 1 => by rw [flat_succ, List.length_append, flat_len P W hp n, hp, Nat.add_mul]; omega

theorem flat_at (P : Nat → List Int) (W : Nat) (hp : ∀ j, (P j).length = W) (t : Nat) (ht : t < W) : ∀ n j, j < n → (flat P n)[j * W + t]? = (P j)[t]?
  | 0, j, h => by omega
  | n + 1, j, h => by
    have hl := flat_len P W hp n
    rw [flat_succ]
    by_cases e : j = n
    · subst e
      rw [List.getElem?_append_right (by omega), hl]
      congr 1
      omega
    · have hlt : j * W + t < n * W := by
        have : (j + 1) * W ≤ n * W := Nat.mul_le_mul_right W (by omega)
        rw [Nat.add_mul] at this
        omega
      rw [List.getElem?_append_left (by omega)]
      exact flat_at P W hp t ht n j (by omega)

/-- The record behind n keys. -/
structure Full (R : Nat → Row) (W n : Nat) (F C : Nat → Int) (P : Nat → List Int) : Prop where
  l0 : (R 0).l = ints .u64 (flat P n)
  l1 : (R 1).l = ints .u64 ((List.range n).map F)
  l2 : (R 2).l = ints .u32 ((List.range n).map (fun (j : Nat) => (j : Int)))
  l3 : (R 3).l = ints .i8 ((List.range n).map C)
  l4 : (R 4).l = ints .i32 ((List.range n).map (fun j => lastF F (F j) j))
  plen : ∀ j, (P j).length = W
  z : W = 0 → R 0 = ⟨none, 0, []⟩

theorem Full.lens {R : Nat → Row} {W n : Nat} {F C : Nat → Int} {P : Nat → List Int} (h : Full R W n F C P) (hW : W ≤ 3) (hn : n ≤ 4096) : ∀ i, i < 5 → (R i).l.length ≤ 100000 := by
  have hm : n * W ≤ n * 3 := Nat.mul_le_mul_left n hW
  intro i hi
  rcases (show i = 0 ∨ i = 1 ∨ i = 2 ∨ i = 3 ∨ i = 4 by omega) with rfl | rfl | rfl | rfl | rfl
  · rw [h.l0, ints_len, flat_len P W h.plen]; omega
  · rw [h.l1, ints_len]; simp; omega
  · rw [h.l2, ints_len]; simp; omega
  · rw [h.l3, ints_len]; simp; omega
  · rw [h.l4, ints_len]; simp; omega

theorem full_step {R R1 R2 : Nat → Row} {W n : Nat} {F C : Nat → Int} {P : Nat → List Int} (h : Full R W n F C P) (a : AddR R R1 W (P n) (F n) n (C n)) (e4 : (R2 4).l = (R1 4).l.set n (.int .i32 (lastF F (F n) n))) (ej : ∀ j, j < 4 → R2 j = R1 j) : Full R2 W (n + 1) F C P := by
  refine ⟨?_, ?_, ?_, ?_, ?_, h.plen, ?_⟩
  · rw [ej 0 (by omega), a.l0, h.l0, flat_succ, ints_app]
  · rw [ej 1 (by omega), a.l1, h.l1, List.range_succ]; simp [ints]
  · rw [ej 2 (by omega), a.l2, h.l2, List.range_succ]; simp [ints]
  · rw [ej 3 (by omega), a.l3, h.l3, List.range_succ]; simp [ints]
  · rw [e4, a.l4, h.l4, List.range_succ]
    have hl : (ints .i32 ((List.range n).map (fun j => lastF F (F j) j))).length = n := by simp [ints]
    rw [List.set_append_right _ _ (by omega), hl]
    simp [ints]
  · intro e
    rw [ej 0 (by omega)]
    exact a.z e

theorem link_val {F : Nat → Int} {n : Nat} {v : Int} (h0 : Maps.has (Dm F n) (.int .u64 (F n)) = false → v = -1) (h1 : Maps.has (Dm F n) (.int .u64 (F n)) = true → (Dm F n).atKey (.int .u64 (F n)) (.lit (.int .i32 0)) = .lit (.int .i32 v)) : v = lastF F (F n) n := by
  rw [Dm_has] at h0 h1
  have hge := lastF_ge F (F n) n
  by_cases e : 0 ≤ lastF F (F n) n
  · have := h1 (decide_eq_true e)
    rw [Dm_at F (F n) _ n e] at this
    simp at this
    exact this.symm
  · have := h0 (decide_eq_false e)
    omega
end Go.Proofs.Ybulkdyci
