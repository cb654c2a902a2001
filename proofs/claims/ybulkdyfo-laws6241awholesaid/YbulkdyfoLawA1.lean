/-
  LawS6241AWhole's memory: the queues, their counts, their first keys.
-/
import Derived.Test.YbulkdyfoWait2
import Derived.Laws.CopyOwn
namespace Go.Proofs.Ybulkdyfo
open Go.RowKit

structure LA (w wr : World) (C M n i : Nat) (S : Nat → QV) (cnt : Nat → Nat) (mn : Nat → Int) (cQ cC cM : Array Value) : Prop where
  qs : Qs wr w.heap.size (M + 1) n cQ S
  bC : Blk wr C cC 3
  vC : ∀ j, j < n → cC[j]? = some (.int .i64 (cnt j))
  bM : Blk wr M cM 2
  vM : ∀ j, j < n → cM[j]? = some (.int .i64 (mn j))
  inv : ∀ j, j < n → Inv (S j).run (S j).heap (S j).pushed (cnt j) (mn j)
  le : ∀ j, j < n → cnt j ≤ i
  below : Below w.heap.size w wr
  ord : w.heap.size < C ∧ C < M

/-- .. behind a round's 'Push'. -/
structure LM (w w' : World) (B C M n i q : Nat) (key : Int) (ob : Array Value) (S : Nat → QV) (cnt : Nat → Nat) (mn : Nat → Int) (cC cM : Array Value) : Prop where
  qs : ∃ cQ' s', Qs w' w.heap.size (M + 1) n cQ' (fun j => if j = q then s' else S j) ∧ Inv s'.run s'.heap s'.pushed (cnt q + 1) (newmin (cnt q) (mn q) key)
  bC : Blk w' C cC 3
  vC : ∀ j, j < n → cC[j]? = some (.int .i64 (cnt j))
  bM : Blk w' M cM 2
  vM : ∀ j, j < n → cM[j]? = some (.int .i64 (mn j))
  inv : ∀ j, j < n → Inv (S j).run (S j).heap (S j).pushed (cnt j) (mn j)
  le : ∀ j, j < n → cnt j ≤ i
  below : Below w.heap.size w w'
  ord : w.heap.size < C ∧ C < M
  box : Blk w' B ob 28

theorem la_push {w wr w' : World} {C M n i q p' : Nat} {key : Int} {ob : Array Value} {S : Nat → QV} {cnt : Nat → Nat} {mn : Nat → Int} {cQ cC cM : Array Value} (h : LA w wr C M n i S cnt mn cQ cC cM) (hq : q < n) {run' heap' : List Itm}
    (hP : Pushed (wr.alloc (.cells ob 28)).drew w' w.heap.size (q * 4) (M + 1) cQ (S q).vr (S q).vh 0 p' run' heap') (hI : Inv run' heap' p' (cnt q + 1) (newmin (cnt q) (mn q) key)) : LM w w' wr.heap.size C M n i q key ob S cnt mn cC cM := by
  obtain ⟨o1, o2⟩ := h.ord
  have k0 : ∀ bad, Keeps bad wr (wr.alloc (.cells ob 28)).drew := fun bad => (Keeps.alloc _ _ _).trans (Keeps.drew _ _)
  have hqs := h.qs.keeps (bad := fun _ => False) (k0 _) id (fun _ _ _ _ => id)
  obtain ⟨cQ', s', e1, e2, e3, q', k1, ho⟩ := hqs.push hq hP
  have hMlt := h.bM.lt
  have nb : ∀ k, k < M + 1 → k ≠ w.heap.size → ¬ (k = w.heap.size ∨ (S q).owns k) := by
    rintro k hk hne (e | e)
    · exact hne e
    · have := h.qs.lt hq e; omega
  refine ⟨⟨cQ', s', q', by rw [e1, e2, e3]; exact hI⟩, k1.blk ((k0 (fun _ => False)).blk h.bC id) (nb _ (by omega) (by omega)), h.vC, k1.blk ((k0 (fun _ => False)).blk h.bM id) (nb _ (by omega) (by omega)), h.vM, h.inv, h.le, ?_, h.ord, ?_⟩
  · refine h.below.trans (((k0 (fun k => w.heap.size ≤ k)).then k1 ?_).below h.below.size)
    rintro k _ (e | e)
    · omega
    · have := h.qs.lt hq e; omega
  · refine k1.blk (Blk.new wr ob 28).drew ?_
    rintro (e | e)
    · omega
    · have := h.qs.lt hq e; omega

theorem lm_end {w w' : World} {B C M n i q : Nat} {key : Int} {ob : Array Value} {S : Nat → QV} {cnt : Nat → Nat} {mn : Nat → Int} {cC cM : Array Value} (h : LM w w' B C M n i q key ob S cnt mn cC cM) (hq : q < n) (k : Nat) (hno : ¬ (cnt q = 0 ∨ key < mn q)) :
    ∃ S' cnt' mn' cQ' cC' cM', LA w ((w'.drewN k).setCell ⟨C, q, none⟩ (.int .i64 ((cnt q : Int) + 1))) C M n (i + 1) S' cnt' mn' cQ' cC' cM' := by
  obtain ⟨o1, o2⟩ := h.ord
  obtain ⟨cQ', s', q', hI⟩ := h.qs
  have hMlt := h.bM.lt
  have kk : Keeps (fun b => b = C) w' ((w'.drewN k).setCell ⟨C, q, none⟩ (.int .i64 ((cnt q : Int) + 1))) := (Keeps.drewN _ w' k).trans (Keeps.set _ _ _ (fun _ => rfl))
  have hC : Blk (w'.drewN k) C cC 3 := h.bC
  have hsz : q < cC.size := (Array.getElem?_eq_some_iff.1 (h.vC q hq)).1
  rw [newmin, if_neg hno] at hI
  refine ⟨fun j => if j = q then s' else S j, fun j => if j = q then cnt q + 1 else cnt j, mn, cQ', _, cM, q'.keeps kk (by omega) ?_, hC.set_same _ _, ?_, kk.blk h.bM (by omega), h.vM, ?_, ?_, ?_, h.ord⟩
  · rintro j hj b hb rfl
    have := q'.lt hj hb
    omega
  · intro j hj
    by_cases hjq : j = q
    · subst hjq
      rw [Array.getElem?_setIfInBounds_self_of_lt hsz, if_pos rfl]
      simp
    · rw [Array.getElem?_setIfInBounds_ne (Ne.symm hjq), if_neg hjq]
      exact h.vC j hj
  · intro j hj
    by_cases hjq : j = q
    · subst hjq
      simp only [if_pos]
      exact hI
    · simp only [if_neg hjq]
      exact h.inv j hj
  · intro j hj
    have := h.le j hj
    by_cases hjq : j = q
    · subst hjq; simp; omega
    · simp only [if_neg hjq]; omega
  · exact h.below.trans ((kk.mono (bad' := fun b => w.heap.size ≤ b) (fun b _ e => by omega)).below h.below.size)

theorem lm_end' {w w' : World} {B C M n i q : Nat} {key : Int} {ob : Array Value} {S : Nat → QV} {cnt : Nat → Nat} {mn : Nat → Int} {cC cM : Array Value} (h : LM w w' B C M n i q key ob S cnt mn cC cM) (hq : q < n) (k : Nat) (hyes : cnt q = 0 ∨ key < mn q) :
    ∃ S' cnt' mn' cQ' cC' cM', LA w (((w'.drewN k).setCell ⟨M, q, none⟩ (.int .i64 key)).setCell ⟨C, q, none⟩ (.int .i64 ((cnt q : Int) + 1))) C M n (i + 1) S' cnt' mn' cQ' cC' cM' := by
  obtain ⟨o1, o2⟩ := h.ord
  obtain ⟨cQ', s', q', hI⟩ := h.qs
  have hMlt := h.bM.lt
  have kk : Keeps (fun b => b = M ∨ b = C) w' (((w'.drewN k).setCell ⟨M, q, none⟩ (.int .i64 key)).setCell ⟨C, q, none⟩ (.int .i64 ((cnt q : Int) + 1))) :=
    ((Keeps.drewN _ w' k).trans (Keeps.set _ _ _ (fun _ => .inl rfl))).trans (Keeps.set _ _ _ (fun _ => .inr rfl))
  have hC : Blk (w'.drewN k) C cC 3 := h.bC
  have hM : Blk (w'.drewN k) M cM 2 := h.bM
  have hsz : q < cC.size := (Array.getElem?_eq_some_iff.1 (h.vC q hq)).1
  have hsm : q < cM.size := (Array.getElem?_eq_some_iff.1 (h.vM q hq)).1
  rw [newmin, if_pos hyes] at hI
  refine ⟨fun j => if j = q then s' else S j, fun j => if j = q then cnt q + 1 else cnt j, fun j => if j = q then key else mn j, cQ', _, _, q'.keeps kk (by omega) ?_, (hC.set_other (a := ⟨M, q, none⟩) (by simp; omega) _).set_same _ _, ?_, (hM.set_same _ _).set_other (by simp; omega) _, ?_, ?_, ?_, ?_, h.ord⟩
  · rintro j hj b hb e
    have := q'.lt hj hb
    omega
  · intro j hj
    by_cases hjq : j = q
    · subst hjq
      rw [Array.getElem?_setIfInBounds_self_of_lt hsz, if_pos rfl]
      simp
    · rw [Array.getElem?_setIfInBounds_ne (Ne.symm hjq), if_neg hjq]
      exact h.vC j hj
  · intro j hj
    by_cases hjq : j = q
    · subst hjq
      rw [Array.getElem?_setIfInBounds_self_of_lt hsm, if_pos rfl]
    · rw [Array.getElem?_setIfInBounds_ne (Ne.symm hjq), if_neg hjq]
      exact h.vM j hj
  · intro j hj
    by_cases hjq : j = q
    · subst hjq
      simp only [if_pos]
      exact hI
    · simp only [if_neg hjq]
      exact h.inv j hj
  · intro j hj
    have := h.le j hj
    by_cases hjq : j = q
    · subst hjq; simp; omega
    · simp only [if_neg hjq]; omega
  · exact h.below.trans ((kk.mono (bad' := fun b => w.heap.size ≤ b) (fun b _ e => by omega)).below h.below.size)

theorem made_at (z : Array Value) (n k j : Nat) (hz : z.size = k) (hk : j < k) (i : Nat) (hi : i < n) : (madeCells z (n * k))[i * k + j]? = some z[j]! := by
  have hlt : i * k + j < n * k := by
    have : (i + 1) * k ≤ n * k := Nat.mul_le_mul_right k hi
    rw [Nat.add_mul] at this
    omega
  have hm : (i * k + j) % k = j := by rw [Nat.add_comm, Nat.add_mul_mod_self_right, Nat.mod_eq_of_lt hk]
  simp [madeCells, hz, hm, hlt]

theorem blk_of_own {w : World} {base e s g n : Nat} {xs : Array Value} (h : w.ownsRow base e s (.slice (some ⟨g, 0, none⟩) n n) n xs.toList) : Blk w g xs e := by
  rcases h.2 with ⟨e1, _⟩ | ⟨g', cap', cur, e1, hb, hh, hn, hm, hs, ht⟩
  · cases e1
  · simp at e1
    obtain ⟨rfl, rfl⟩ := e1
    rw [List.take_of_length_le (by simp [hs])] at ht
    have : cur = xs := Array.toList_inj.1 ht
    subst this
    exact hh

theorem la_start {w w1 w2 w3 : World} {n : Nat} (h1 : w1.ownsRow 0 31 4 (.slice (some ⟨w.heap.size, 0, none⟩) n n) n (madeCells #[.slice none 0 0, .int .i64 0, .slice none 0 0, .int .i64 0] (n * 4)).toList) (g1 : w.grownBy w1 none)
    (h2 : w2.ownsRow 0 3 1 (.slice (some ⟨w1.heap.size, 0, none⟩) n n) n (madeCells #[.int .i64 0] (n * 1)).toList) (g2 : w1.grownBy w2 none)
    (h3 : w3.ownsRow 0 2 1 (.slice (some ⟨w2.heap.size, 0, none⟩) n n) n (madeCells #[.int .i64 0] (n * 1)).toList) (g3 : w2.grownBy w3 none) :
    ∃ cQ cC cM, LA w w3 w1.heap.size w2.heap.size n 0 (fun _ => ⟨none, none, 0, 0, 0, [], []⟩) (fun _ => 0) (fun _ => 0) cQ cC cM := by
  have b1 := blk_of_own h1
  have b2 := blk_of_own h2
  have b3 := blk_of_own h3
  have l1 := b1.lt
  have l2 := b2.lt
  have l3 := b3.lt
  have kf : ∀ {a b : World}, a.grownBy b none → Keeps (fun _ => False) a b := fun g => Keeps.grown g (fun k e => by simp at e)
  have t1 := ((kf g1).trans (kf g2)).trans (kf g3)
  have one : ∀ j, j < n → (madeCells #[.int .i64 0] (n * 1))[j]? = some (.int .i64 0) := fun j hj => by
    have := made_at #[.int .i64 0] n 1 0 rfl (by omega) j hj
    rw [Nat.mul_one] at this ⊢
    simpa using this
  refine ⟨madeCells #[.slice none 0 0, .int .i64 0, .slice none 0 0, .int .i64 0] (n * 4), _, _, ⟨?_, ?_⟩, (kf g3).blk b2 id, fun j hj => by simpa using one j hj, b3, fun j hj => one j hj, fun j hj => Inv.start, fun j hj => Nat.le_refl _, ?_, ⟨l1, l2⟩⟩
  · intro i hi
    have m0 := made_at #[.slice none 0 0, .int .i64 0, .slice none 0 0, .int .i64 0] n 4 0 rfl (by omega) i hi
    have m1 := made_at #[.slice none 0 0, .int .i64 0, .slice none 0 0, .int .i64 0] n 4 1 rfl (by omega) i hi
    have m2 := made_at #[.slice none 0 0, .int .i64 0, .slice none 0 0, .int .i64 0] n 4 2 rfl (by omega) i hi
    have m3 := made_at #[.slice none 0 0, .int .i64 0, .slice none 0 0, .int .i64 0] n 4 3 rfl (by omega) i hi
    refine ⟨((kf g2).trans (kf g3)).blk b1 id, by simpa using m0, by simpa using m1, by simpa using m2, by simpa using m3, ⟨rfl, .inl ⟨rfl, rfl⟩⟩, ⟨rfl, .inl ⟨rfl, rfl⟩⟩, fun k e => by simp [Value.ownBlock] at e, by omega, by omega⟩
  · intro i j _ _ _ k hk
    rcases hk with e | e <;> simp [QV.vr, QV.vh, Value.ownBlock] at e
  · exact (t1.mono (fun _ _ e => e.elim)).below (Nat.le_refl _)
end Go.Proofs.Ybulkdyfo
