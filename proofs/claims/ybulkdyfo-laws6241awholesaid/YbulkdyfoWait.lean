import Derived.Test.YbulkdyfoQs
namespace Go.Proofs.Ybulkdyfo
open Go.RowKit

theorem Keeps.cell {bad : Nat → Prop} {w w' : World} (h : Keeps bad w w') {a : Addr} {v : Value} (hc : w.cell? a = some v) (hn : ¬ bad a.block) : w'.cell? a = some v :=
  (World.cell?_of_block (h.block a.block (World.block_lt_of_cell? w a hc) hn)).trans hc

theorem Keeps.drew (bad : Nat → Prop) (w : World) : Keeps bad w w.drew := ⟨rfl, rfl, rfl, Nat.le_refl _, fun _ _ _ => rfl⟩

/-- The anteroom's three rows in memory. -/
structure Ante (w : World) (A L Pb m cp Q n base : Nat) (cA cL cQ : Array Value) (xs : List Value) (S : Nat → QV) : Prop where
  qs : Qs w Q base n cQ S
  bA : Blk w A cA 48
  a4 : cA[4]? = some (.slice (some ⟨Q, 0, none⟩) n n)
  a7 : cA[7]? = some (.slice (some ⟨Pb, 0, none⟩) m cp)
  a8 : cA[8]? = some (.slice (some ⟨L, 0, none⟩) n n)
  bL : Blk w L cL 4
  own : w.ownsRow base 3 1 (.slice (some ⟨Pb, 0, none⟩) m cp) m xs
  ne : A ≠ Q ∧ A ≠ L ∧ A ≠ Pb ∧ L ≠ Q ∧ L ≠ Pb ∧ Pb ≠ Q
  sep : ∀ i, i < n → ¬ (S i).owns A ∧ ¬ (S i).owns L ∧ ¬ (S i).owns Pb

/-- How 'wait' leaves the memory. -/
structure Waited (w w' : World) (A L Pb m Q n base c cnt : Nat) (mn at_ : Int) (cL : Array Value) (xs : List Value) (S : Nat → QV) (b : Bool) : Prop where
  qs : ∃ cQ' s', Qs w' Q base n cQ' (fun j => if j = c then s' else S j) ∧ Inv s'.run s'.heap s'.pushed (cnt + 1) (newmin cnt mn at_)
  lst : ∃ cL', Blk w' L cL' 4 ∧ ∀ j, j < n → cL'[j]? = if j = c then some (.bool true) else cL[j]?
  ant : ∃ cA' ao m' cp', Blk w' A cA' 48 ∧ cA'[4]? = some (.slice (some ⟨Q, 0, none⟩) n n) ∧ cA'[8]? = some (.slice (some ⟨L, 0, none⟩) n n) ∧ cA'[7]? = some (.slice ao m' cp') ∧ m' = (if b then m else m + 1) ∧
    w'.ownsRow base 3 1 (.slice ao m' cp') m' (if b then xs else xs ++ [.int .i64 c])
  keeps : Keeps (fun k => k = Q ∨ (S c).owns k ∨ k = A ∨ k = L ∨ k = Pb) w w'

/-- The memory behind the queue's 'Push'. -/
structure Mid (w w1 : World) (A L Pb m cp Q n base c cnt : Nat) (mn at_ : Int) (cA cL : Array Value) (xs : List Value) (S : Nat → QV) : Prop where
  qs : ∃ cQ' s', Qs w1 Q base n cQ' (fun j => if j = c then s' else S j) ∧ Inv s'.run s'.heap s'.pushed (cnt + 1) (newmin cnt mn at_) ∧ (∀ k, s'.owns k → (S c).owns k ∨ w.heap.size ≤ k)
  bA : Blk w1 A cA 48
  bL : Blk w1 L cL 4
  own : w1.ownsRow base 3 1 (.slice (some ⟨Pb, 0, none⟩) m cp) m xs
  box : Blk w1 w.heap.size #[.int .i64 c, .int .i64 at_] 51
  keeps : Keeps (fun k => k = Q ∨ (S c).owns k) w w1

theorem mid_of {w w1 : World} {A L Pb m cp Q n base c cnt p' : Nat} {mn at_ : Int} {cA cL cQ : Array Value} {xs : List Value} {S : Nat → QV} (h : Ante w A L Pb m cp Q n base cA cL cQ xs S) (hc : c < n) {run' heap' : List Itm}
    (hP : Pushed (w.alloc (.cells #[.int .i64 c, .int .i64 at_] 51)).drew w1 Q (c * 4) base cQ (S c).vr (S c).vh 0 p' run' heap') (hI : Inv run' heap' p' (cnt + 1) (newmin cnt mn at_)) : Mid w w1 A L Pb m cp Q n base c cnt mn at_ cA cL xs S := by
  have k0 : ∀ bad, Keeps bad w (w.alloc (.cells #[.int .i64 c, .int .i64 at_] 51)).drew := fun bad => (Keeps.alloc _ _ _).trans (Keeps.drew _ _)
  have hq := h.qs.keeps (bad := fun _ => False) (k0 _) id (fun _ _ _ _ => id)
  obtain ⟨cQ', s', e1, e2, e3, q', k1, ho⟩ := hq.push hc hP
  obtain ⟨nAQ, nAL, nAP, nLQ, nLP, nPQ⟩ := h.ne
  obtain ⟨sA, sL, sP⟩ := h.sep c hc
  have hQlt := (h.qs.st c hc).blk.lt
  refine ⟨⟨cQ', s', q', by rw [e1, e2, e3]; exact hI, fun k hk => (ho k hk).imp id (fun e => by simp [World.drew] at e; omega)⟩, ?_, ?_, ?_, ?_, ?_⟩
  · exact k1.blk ((k0 (fun _ => False)).blk h.bA id) (by rintro (e | e); exact nAQ e; exact sA e)
  · exact k1.blk ((k0 (fun _ => False)).blk h.bL id) (by rintro (e | e); exact nLQ e; exact sL e)
  · refine k1.own ((k0 (fun _ => False)).own h.own (fun _ _ => id)) ?_
    intro k e
    simp [Value.ownBlock] at e
    subst e
    rintro (e | e)
    · exact nPQ e
    · exact sP e
  · refine k1.blk (Blk.new w _ 51).drew ?_
    rintro (e | e)
    · omega
    · have := h.qs.lt hc e; omega
  · exact (k0 _).trans k1

theorem waited_true {w w1 : World} {A L Pb m cp Q n base c cnt : Nat} {mn at_ : Int} {cA cL cQ : Array Value} {xs : List Value} {S : Nat → QV} (h : Ante w A L Pb m cp Q n base cA cL cQ xs S) (hb : cL[c]? = some (.bool true))
    (hM : Mid w w1 A L Pb m cp Q n base c cnt mn at_ cA cL xs S) (k : Nat) : Waited w (w1.drewN k) A L Pb m Q n base c cnt mn at_ cL xs S true := by
  obtain ⟨cQ', s', q', hI, _⟩ := hM.qs
  refine ⟨⟨cQ', s', q'.keeps (bad := fun _ => False) (Keeps.drewN _ _ _) id (fun _ _ _ _ => id), hI⟩, ⟨cL, hM.bL, fun j _ => ?_⟩, ⟨cA, _, m, cp, hM.bA, h.a4, h.a8, h.a7, rfl, hM.own⟩, ?_⟩
  · split
    · rename_i e; rw [e]; exact hb
    · rfl
  · exact (hM.keeps.trans (Keeps.drewN _ _ _)).mono (fun k _ e => e.imp id .inl)

set_option maxHeartbeats 1000000 in
set_option maxRecDepth 100000 in
theorem wait_true (w : World) (A L Pb m cp Q n base c cnt : Nat) (mn slot at_ : Int) (cA cL cQ : Array Value) (xs : List Value) (S : Nat → QV) (h : Ante w A L Pb m cp Q n base cA cL cQ xs S) (hc : c < n)
    (hI : Inv (S c).run (S c).heap (S c).pushed cnt mn) (hcnt : cnt ≤ 2097152) (hb : cL[c]? = some (.bool true)) :
    Calls Yba.prog 7 #[.pointer (some ⟨A, 0, none⟩), .int .i64 slot, .agg #[.int .i64 c, .int .i64 at_]] w fun e w' => e = .returned (.tuple #[]) ∧ Waited w w' A L Pb m Q n base c cnt mn at_ cL xs S true := by
  have d4 : w.cell? ⟨A, 4, none⟩ = some (.slice (some ⟨Q, 0, none⟩) n n) := (h.bA.cell 4).trans h.a4
  have hAlt := h.bA.lt
  have c1 : (0 : Int) ≤ (c : Int) := by omega
  have c2 : (c : Int) < (n : Int) := by omega
  have hq : Qs (w.alloc (.cells #[.int .i64 c, .int .i64 at_] 51)).drew Q base n cQ S := h.qs.keeps (bad := fun _ => False) ((Keeps.alloc _ _ _).trans (Keeps.drew _ _)) id (fun _ _ _ _ => id)
  go_enter Yba.func7, Yba.ntmps7
  go_wp2
  go_region_held3 (fun w' => w'.cell? ⟨A, 4, none⟩ = some (.slice (some ⟨Q, 0, none⟩) n n) ∧ w'.cell? ⟨w.heap.size, 0, none⟩ = some (.int .i64 c) ∧ w'.cell? ⟨w.heap.size, 1, none⟩ = some (.int .i64 at_)) (first | go_keep | exact ⟨(hM.bA.cell 4).trans h.a4, hM.box.cell 0, hM.box.cell 1⟩)
    (first | (go_at_call 6; refine (push_any _ Q (c * 4) base _ _ _ cnt mn cQ _ _ _ _ at_ slot (hq.st c hc) hI hcnt).mono ?_; rintro e w1 ⟨rfl, run', heap', hP, hI'⟩; have hM := mid_of h hc hP hI'))
  have d8 : w1.cell? ⟨A, 8, none⟩ = some (.slice (some ⟨L, 0, none⟩) n n) := (hM.bA.cell 8).trans h.a8
  have dl : w1.cell? ⟨L, c, none⟩ = some (.bool true) := (hM.bL.cell c).trans hb
  have e0 : w1.cell? ⟨w.heap.size, 0, none⟩ = some (.int .i64 c) := hM.box.cell 0
  clear hP
  go_wp2
  go_quiet (fail)
  go_wp2
  (first | go_end0 | refine bodyPost_ret (results_none rfl _ _ _) rfl ?_)
  exact ⟨rfl, waited_true h hb hM _⟩
end Go.Proofs.Ybulkdyfo
