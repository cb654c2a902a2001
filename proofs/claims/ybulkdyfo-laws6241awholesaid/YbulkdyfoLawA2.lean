import Derived.Test.YbulkdyfoLawA1
namespace Go.Proofs.Ybulkdyfo
open Go.RowKit

theorem LA.keeps {w wr w' : World} {C M n i : Nat} {S : Nat → QV} {cnt : Nat → Nat} {mn : Nat → Int} {cQ cC cM : Array Value} {bad : Nat → Prop} (h : LA w wr C M n i S cnt mn cQ cC cM) (k : Keeps bad wr w') (hM : ∀ b, bad b → M < b)
    (ho : ∀ j, j < n → ∀ b, (S j).owns b → ¬ bad b) : LA w w' C M n i S cnt mn cQ cC cM := by
  obtain ⟨o1, o2⟩ := h.ord
  have nb : ∀ b, b ≤ M → ¬ bad b := fun b hb e => by have := hM b e; omega
  exact ⟨h.qs.keeps k (nb _ (by omega)) ho, k.blk h.bC (nb _ (by omega)), h.vC, k.blk h.bM (nb _ (by omega)), h.vM, h.inv, h.le,
    h.below.trans ((k.mono (bad' := fun b => w.heap.size ≤ b) (fun b _ e => by have := hM b e; omega)).below h.below.size), h.ord⟩

/-- .. with the marks, and the copy of the marks. -/
structure LB (w wr : World) (C M L Z n i : Nat) (S : Nat → QV) (cnt : Nat → Nat) (mn : Nat → Int) (cQ cC cM : Array Value) (wv : Nat → Bool) (cL cZ : Array Value) : Prop where
  la : LA w wr C M n i S cnt mn cQ cC cM
  bL : Blk wr L cL 4
  vL : ∀ j, j < n → cL[j]? = some (.bool (wv j))
  bZ : Blk wr Z cZ 4
  vZ : ∀ j, j < n → cZ[j]? = some (.bool (wv j))
  ord : M < L ∧ L < Z
  own : ∀ j, j < n → ∀ k, (S j).owns k → k < L

theorem lb_start {w wr w4 w5 : World} {C M n i : Nat} {S : Nat → QV} {cnt : Nat → Nat} {mn : Nat → Int} {cQ cC cM : Array Value} (h : LA w wr C M n i S cnt mn cQ cC cM)
    (h4 : w4.ownsRow 0 4 1 (.slice (some ⟨wr.heap.size, 0, none⟩) n n) n (madeCells #[.bool false] (n * 1)).toList) (g4 : wr.grownBy w4 none)
    (h5 : w5.ownsRow 0 4 1 (.slice (some ⟨w4.heap.size, 0, none⟩) n n) n (madeCells #[.bool false] (n * 1)).toList) (g5 : w4.grownBy w5 none) :
    ∃ cL cZ, LB w w5 C M wr.heap.size w4.heap.size n i S cnt mn cQ cC cM (fun _ => false) cL cZ := by
  have b4 := blk_of_own h4
  have b5 := blk_of_own h5
  have l4 := b4.lt
  have kf : ∀ {a b : World}, a.grownBy b none → Keeps (fun _ => False) a b := fun g => Keeps.grown g (fun k e => by simp at e)
  have one : ∀ j, j < n → (madeCells #[.bool false] (n * 1))[j]? = some (.bool false) := fun j hj => by
    have := made_at #[.bool false] n 1 0 rfl (by omega) j hj
    rw [Nat.mul_one] at this ⊢
    simpa using this
  exact ⟨_, _, h.keeps ((kf g4).trans (kf g5)) (fun _ e => e.elim) (fun _ _ _ _ => id), (kf g5).blk b4 id, one, b5, one, ⟨h.bM.lt, l4⟩, fun j hj k hk => (h.qs.lt hj hk).2⟩

theorem lb_step {w wr : World} {C M L Z n i : Nat} {S : Nat → QV} {cnt : Nat → Nat} {mn : Nat → Int} {cQ cC cM : Array Value} {wv : Nat → Bool} {cL cZ : Array Value} (h : LB w wr C M L Z n i S cnt mn cQ cC cM wv cL cZ) (t : Nat) (ht : t < n) (v : Bool) :
    ∃ wv' cL' cZ', LB w ((wr.setCell ⟨L, t, none⟩ (.bool v)).setCell ⟨Z, t, none⟩ (.bool v)) C M L Z n i S cnt mn cQ cC cM wv' cL' cZ' := by
  obtain ⟨o1, o2⟩ := h.ord
  have kk : Keeps (fun b => b = L ∨ b = Z) wr ((wr.setCell ⟨L, t, none⟩ (.bool v)).setCell ⟨Z, t, none⟩ (.bool v)) := (Keeps.set _ _ _ (fun _ => .inl rfl)).trans (Keeps.set _ _ _ (fun _ => .inr rfl))
  have hl : t < cL.size := (Array.getElem?_eq_some_iff.1 (h.vL t ht)).1
  have hz : t < cZ.size := (Array.getElem?_eq_some_iff.1 (h.vZ t ht)).1
  refine ⟨fun j => if j = t then v else wv j, _, _, h.la.keeps kk (fun b e => by omega) (fun j hj b hb e => by have := h.own j hj b hb; omega), (h.bL.set_same _ _).set_other (by simp; omega) _, ?_, (h.bZ.set_other (a := ⟨L, t, none⟩) (by simp; omega) _).set_same _ _, ?_, h.ord, h.own⟩
  · intro j hj
    by_cases e : j = t
    · subst e
      rw [Array.getElem?_setIfInBounds_self_of_lt hl, if_pos rfl]
    · rw [Array.getElem?_setIfInBounds_ne (Ne.symm e), if_neg e]
      exact h.vL j hj
  · intro j hj
    by_cases e : j = t
    · subst e
      rw [Array.getElem?_setIfInBounds_self_of_lt hz, if_pos rfl]
    · rw [Array.getElem?_setIfInBounds_ne (Ne.symm e), if_neg e]
      exact h.vZ j hj

/-- Behind the copy of 'pend', and the anteroom's box. -/
theorem lb_ante {w wr w6 w7 : World} {C M L Z n i m : Nat} {S : Nat → QV} {cnt : Nat → Nat} {mn : Nat → Int} {cQ cC cM : Array Value} {wv : Nat → Bool} {cL cZ cA : Array Value} (h : LB w wr C M L Z n i S cnt mn cQ cC cM wv cL cZ)
    (hm : m ≤ maxLen) (g6 : wr.grownBy w6 none) (xs : List Value) (hx : xs.length = m) (h7 : w7.heap[wr.heap.size]? = some (.cells xs.toArray 3 (0, 0))) (b7 : Below wr.heap.size w6 w7)
    (a4 : cA[4]? = some (.slice (some ⟨w.heap.size, 0, none⟩) n n)) (a7 : cA[7]? = some (.slice (some ⟨wr.heap.size, 0, none⟩) m m)) (a8 : cA[8]? = some (.slice (some ⟨L, 0, none⟩) n n)) :
    LB w (w7.alloc (.cells cA 48)) C M L Z n i S cnt mn cQ cC cM wv cL cZ ∧ Ante (w7.alloc (.cells cA 48)) w7.heap.size L wr.heap.size m m w.heap.size n (M + 1) cA cL cQ xs S ∧ Z < wr.heap.size ∧ wr.heap.size < w7.heap.size := by
  obtain ⟨o1, o2⟩ := h.ord
  obtain ⟨o3, o4⟩ := h.la.ord
  have hZlt := h.bZ.lt
  have hLlt := h.bL.lt
  have k6 : Keeps (fun b => wr.heap.size ≤ b) wr w6 := (Keeps.grown (bad := fun _ => False) g6 (fun k e => by simp at e)).mono (fun _ _ e => e.elim)
  have k7 : Keeps (fun b => wr.heap.size ≤ b) w6 w7 := ⟨b7.os, b7.tape, b7.output, b7.size, fun k _ hk => b7.block k (by omega)⟩
  have kk : Keeps (fun b => wr.heap.size ≤ b) wr (w7.alloc (.cells cA 48)) := (k6.trans k7).trans (Keeps.alloc _ _ _)
  have hlt7 : wr.heap.size < w7.heap.size := (Array.getElem?_eq_some_iff.1 h7).1
  have hb : LB w (w7.alloc (.cells cA 48)) C M L Z n i S cnt mn cQ cC cM wv cL cZ :=
    ⟨h.la.keeps kk (fun b e => by omega) (fun j hj b hb e => by have := h.own j hj b hb; omega), kk.blk h.bL (by omega), h.vL, kk.blk h.bZ (by omega), h.vZ, h.ord, h.own⟩
  refine ⟨hb, ⟨hb.la.qs, Blk.new _ _ _, a4, a7, a8, hb.bL, ?_, ⟨by omega, by omega, by omega, by omega, by omega, by omega⟩, ?_⟩, hZlt, hlt7⟩
  · refine World.ownsRow.alloc ⟨by simp [hx], .inr ⟨_, m, xs.toArray, rfl, by omega, h7, Nat.le_refl _, hm, by simp [hx], ?_⟩⟩ _
    rw [Nat.mul_one, ← hx]
    simp
  · intro j hj
    refine ⟨fun e => ?_, fun e => ?_, fun e => ?_⟩
    · have := h.own j hj _ e; omega
    · have := h.own j hj _ e; omega
    · have := h.own j hj _ e; omega

/-- The memory that the law's checks read. -/
structure LC (w wr : World) (C M L Z A n m c i : Nat) (S : Nat → QV) (cnt : Nat → Nat) (mn : Nat → Int) (wv : Nat → Bool) (xs : List Value) : Prop where
  la : ∃ cQ cC cM, LA w wr C M n i S cnt mn cQ cC cM
  l : ∀ j, j < n → wr.cell? ⟨L, j, none⟩ = some (.bool (wv j || decide (j = c)))
  z : ∀ j, j < n → wr.cell? ⟨Z, j, none⟩ = some (.bool (wv j))
  a4 : wr.cell? ⟨A, 4, none⟩ = some (.slice (some ⟨w.heap.size, 0, none⟩) n n)
  a8 : wr.cell? ⟨A, 8, none⟩ = some (.slice (some ⟨L, 0, none⟩) n n)
  a7 : ∃ ao m' cp, wr.cell? ⟨A, 7, none⟩ = some (.slice ao m' cp) ∧ m' = (if wv c then m else m + 1) ∧ wr.ownsRow (M + 1) 3 1 (.slice ao m' cp) m' (if wv c then xs else xs ++ [.int .i64 c])

theorem newmin_go (cnt : Nat) (mn at_ : Int) : newmin cnt mn at_ = if 0 < cnt ∧ mn < at_ then mn else at_ := by
  unfold newmin
  split <;> split <;> omega

/-- What the stores behind 'wait' need. -/
structure LW (w w9 : World) (C M L Z A n m c i : Nat) (at_ : Int) (S : Nat → QV) (cnt : Nat → Nat) (mn : Nat → Int) (cC cM : Array Value) (wv : Nat → Bool) (xs : List Value) : Prop where
  qs : ∃ cQ' s', Qs w9 w.heap.size (M + 1) n cQ' (fun j => if j = c then s' else S j) ∧ Inv s'.run s'.heap s'.pushed (cnt c + 1) (newmin (cnt c) (mn c) at_)
  bC : Blk w9 C cC 3
  vC : ∀ j, j < n → cC[j]? = some (.int .i64 (cnt j))
  bM : Blk w9 M cM 2
  vM : ∀ j, j < n → cM[j]? = some (.int .i64 (mn j))
  inv : ∀ j, j < n → Inv (S j).run (S j).heap (S j).pushed (cnt j) (mn j)
  le : ∀ j, j < n → cnt j ≤ i
  below : Below w.heap.size w w9
  ord : w.heap.size < C ∧ C < M ∧ M < L ∧ L < Z ∧ Z < A
  l : ∃ cL', Blk w9 L cL' 4 ∧ ∀ j, j < n → cL'[j]? = some (.bool (wv j || decide (j = c)))
  z : ∃ cZ, Blk w9 Z cZ 4 ∧ ∀ j, j < n → cZ[j]? = some (.bool (wv j))
  a : ∃ cA ao m' cp, Blk w9 A cA 48 ∧ cA[4]? = some (.slice (some ⟨w.heap.size, 0, none⟩) n n) ∧ cA[8]? = some (.slice (some ⟨L, 0, none⟩) n n) ∧ cA[7]? = some (.slice ao m' cp) ∧ m' = (if wv c then m else m + 1) ∧
    w9.ownsRow (M + 1) 3 1 (.slice ao m' cp) m' (if wv c then xs else xs ++ [.int .i64 c])

theorem lw_of {w w8 w9 : World} {C M L Z A Pb n m c i : Nat} {at_ : Int} {S : Nat → QV} {cnt : Nat → Nat} {mn : Nat → Int} {cQ cC cM : Array Value} {wv : Nat → Bool} {cL cZ : Array Value} {xs : List Value} (h : LB w w8 C M L Z n i S cnt mn cQ cC cM wv cL cZ)
    (hZ : Z < Pb) (hPA : Pb < A) (hc : c < n) (b : Bool) (hb : wv c = b) (hW : Waited w8 w9 A L Pb m w.heap.size n (M + 1) c (cnt c) (mn c) at_ cL xs S b) :
    LW w w9 C M L Z A n m c i at_ S cnt mn cC cM wv xs := by
  subst hb
  obtain ⟨o1, o2⟩ := h.ord
  obtain ⟨o3, o4⟩ := h.la.ord
  have k := hW.keeps
  have nb : ∀ X, X ≠ w.heap.size → X ≠ A → X ≠ L → X ≠ Pb → ¬ (S c).owns X → ¬ (X = w.heap.size ∨ (S c).owns X ∨ X = A ∨ X = L ∨ X = Pb) := by
    rintro X h1 h2 h3 h4 h5 (e | e | e | e | e)
    · exact h1 e
    · exact h5 e
    · exact h2 e
    · exact h3 e
    · exact h4 e
  have lo : ∀ X, (S c).owns X → M + 1 ≤ X ∧ X < L := fun X e => ⟨(h.la.qs.lt hc e).1, h.own c hc X e⟩
  obtain ⟨cL', bL', vL'⟩ := hW.lst
  refine ⟨hW.qs, k.blk h.la.bC (nb _ (by omega) (by omega) (by omega) (by omega) (fun e => by have := lo _ e; omega)), h.la.vC, k.blk h.la.bM (nb _ (by omega) (by omega) (by omega) (by omega) (fun e => by have := lo _ e; omega)), h.la.vM, h.la.inv, h.la.le, ?_, ⟨o3, o4, o1, o2, by omega⟩, ⟨cL', bL', ?_⟩, ⟨cZ, k.blk h.bZ (nb _ (by omega) (by omega) (by omega) (by omega) (fun e => by have := lo _ e; omega)), h.vZ⟩, hW.ant⟩
  · refine h.la.below.trans ((k.mono (bad' := fun b => w.heap.size ≤ b) ?_).below h.la.below.size)
    rintro b _ (e | e | e | e | e)
    · omega
    · have := lo _ e; omega
    · omega
    · omega
    · omega
  · intro j hj
    rw [vL' j hj]
    by_cases e : j = c
    · simp [e]
    · rw [if_neg e, h.vL j hj]; simp [e]

theorem lw_end {w w9 : World} {C M L Z A n m c i : Nat} {at_ : Int} {S : Nat → QV} {cnt : Nat → Nat} {mn : Nat → Int} {cC cM : Array Value} {wv : Nat → Bool} {xs : List Value} (h : LW w w9 C M L Z A n m c i at_ S cnt mn cC cM wv xs) (hc : c < n) (key : Int) (hk : key = newmin (cnt c) (mn c) at_) :
    ∃ S' cnt' mn', LC w ((w9.setCell ⟨M, c, none⟩ (.int .i64 key)).setCell ⟨C, c, none⟩ (.int .i64 ((cnt c : Int) + 1))) C M L Z A n m c (i + 1) S' cnt' mn' wv xs := by
  obtain ⟨o1, o2, o3, o4, o5⟩ := h.ord
  obtain ⟨cQ', s', q', hI⟩ := h.qs
  subst hk
  have kk : Keeps (fun b => b = M ∨ b = C) w9 ((w9.setCell ⟨M, c, none⟩ (.int .i64 (newmin (cnt c) (mn c) at_))).setCell ⟨C, c, none⟩ (.int .i64 ((cnt c : Int) + 1))) := (Keeps.set _ _ _ (fun _ => .inl rfl)).trans (Keeps.set _ _ _ (fun _ => .inr rfl))
  have hsz : c < cC.size := (Array.getElem?_eq_some_iff.1 (h.vC c hc)).1
  have hsm : c < cM.size := (Array.getElem?_eq_some_iff.1 (h.vM c hc)).1
  obtain ⟨cL', bL, vL⟩ := h.l
  obtain ⟨cZ, bZ, vZ⟩ := h.z
  obtain ⟨cA, ao, m', cp, bA, a4, a8, a7, hm, own⟩ := h.a
  refine ⟨fun j => if j = c then s' else S j, fun j => if j = c then cnt c + 1 else cnt j, fun j => if j = c then newmin (cnt c) (mn c) at_ else mn j, ⟨cQ', _, _, q'.keeps kk (by omega) ?_, (h.bC.set_other (a := ⟨M, c, none⟩) (by simp; omega) _).set_same _ _, ?_, (h.bM.set_same _ _).set_other (by simp; omega) _, ?_, ?_, ?_, ?_, ⟨o1, o2⟩⟩, ?_, ?_, ?_, ?_, ⟨ao, m', cp, ?_, hm, ?_⟩⟩
  · rintro j hj b hb e
    have := q'.lt hj hb
    omega
  · intro j hj
    by_cases e : j = c
    · subst e
      rw [Array.getElem?_setIfInBounds_self_of_lt hsz, if_pos rfl]
      simp
    · rw [Array.getElem?_setIfInBounds_ne (Ne.symm e), if_neg e]
      exact h.vC j hj
  · intro j hj
    by_cases e : j = c
    · subst e
      rw [Array.getElem?_setIfInBounds_self_of_lt hsm, if_pos rfl]
    · rw [Array.getElem?_setIfInBounds_ne (Ne.symm e), if_neg e]
      exact h.vM j hj
  · intro j hj
    by_cases e : j = c
    · subst e
      simp only [if_pos]
      exact hI
    · simp only [if_neg e]
      exact h.inv j hj
  · intro j hj
    have := h.le j hj
    by_cases e : j = c
    · subst e; simp; omega
    · simp only [if_neg e]; omega
  · exact h.below.trans ((kk.mono (bad' := fun b => w.heap.size ≤ b) (fun b _ e => by omega)).below h.below.size)
  · exact fun j hj => kk.cell ((bL.cell j).trans (vL j hj)) (by simp; omega)
  · exact fun j hj => kk.cell ((bZ.cell j).trans (vZ j hj)) (by simp; omega)
  · exact kk.cell ((bA.cell 4).trans a4) (by simp; omega)
  · exact kk.cell ((bA.cell 8).trans a8) (by simp; omega)
  · exact kk.cell ((bA.cell 7).trans a7) (by simp; omega)
  · refine kk.own own ?_
    intro k e e2
    have := own.lt _ e
    omega

theorem la_len {w wr : World} {C M n i : Nat} {S : Nat → QV} {cnt : Nat → Nat} {mn : Nat → Int} {cQ cC cM : Array Value} (h : LA w wr C M n i S cnt mn cQ cC cM) (hi : i ≤ 2097152) (j : Nat) (hj : j < n) (k : Nat) :
    Calls Yba.prog 8 #[.pointer (some ⟨w.heap.size, j * 4, none⟩)] (wr.drewN k) fun e w' => e = .returned (.int .i64 (cnt j)) ∧ ∃ m, w' = (wr.drewN k).drewN m := by
  have q := (h.qs.keeps (bad := fun _ => False) (Keeps.drewN _ wr k) id (fun _ _ _ _ => id)).st j hj
  have hl := (h.inv j hj).len
  have hc := h.le j hj
  refine (len_any _ _ _ _ _ _ _ _ _ _ _ _ _ q (by omega) (by omega) (by omega)).mono ?_
  rintro e w' ⟨rfl, hw⟩
  exact ⟨by congr 2; omega, hw⟩

theorem la_key {w wr : World} {C M n i : Nat} {S : Nat → QV} {cnt : Nat → Nat} {mn : Nat → Int} {cQ cC cM : Array Value} (h : LA w wr C M n i S cnt mn cQ cC cM) (hi : i ≤ 2097152) (j : Nat) (hj : j < n) (hpos : 0 < cnt j) (k : Nat) :
    Calls Yba.prog 9 #[.pointer (some ⟨w.heap.size, j * 4, none⟩)] (wr.drewN k) fun e w' => e = .returned (.int .i64 (mn j)) ∧ ∃ m, w' = (wr.drewN k).drewN m := by
  have q := (h.qs.keeps (bad := fun _ => False) (Keeps.drewN _ wr k) id (fun _ _ _ _ => id)).st j hj
  have hv := h.inv j hj
  have hl := hv.len
  have hc := h.le j hj
  refine (key_any _ _ _ _ _ _ _ _ _ _ _ _ _ q (by omega) (by omega) (by omega) (by omega)).mono ?_
  rintro e w' ⟨rfl, hw⟩
  exact ⟨by rw [hv.key hpos], hw⟩

theorem LC.drewN {w wr : World} {C M L Z A n m c i : Nat} {S : Nat → QV} {cnt : Nat → Nat} {mn : Nat → Int} {wv : Nat → Bool} {xs : List Value} (h : LC w wr C M L Z A n m c i S cnt mn wv xs) (k : Nat) : LC w (wr.drewN k) C M L Z A n m c i S cnt mn wv xs := by
  obtain ⟨cQ, cC, cM, la⟩ := h.la
  exact ⟨⟨cQ, cC, cM, la.keeps (bad := fun _ => False) (Keeps.drewN _ wr k) (fun _ e => e.elim) (fun _ _ _ _ => id)⟩, h.l, h.z, h.a4, h.a8, h.a7⟩
end Go.Proofs.Ybulkdyfo
