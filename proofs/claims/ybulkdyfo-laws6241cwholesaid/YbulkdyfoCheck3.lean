import Derived.Test.YbulkdyfoCheck2
namespace Go.Proofs.Ybulkdyfo
open Go.RowKit

/-- How 'check' leaves the world: block K's place j holds 'stuck'; the rules were called at j, or not; every other block is as it was. -/
structure CheckPost (w w' : World) (R K j : Nat) (cR cK : Array Value) (stuck called : Bool) : Prop where
  os : w'.os = w.os
  tape : w'.tape = w.tape
  output : w'.output = w.output
  size : w.heap.size ≤ w'.heap.size
  block : ∀ k, k < w.heap.size → k ≠ R → k ≠ K → w'.heap[k]? = w.heap[k]?
  mark : Blk w' K (cK.setIfInBounds j (.bool stuck)) 4
  yes : called = true → ∃ g c cur, Blk w' R (cR.setIfInBounds 4 (.slice (some ⟨g, 0, none⟩) 1 c)) 69 ∧ Blk w' g cur 3 ∧ cur[0]? = some (.int .i64 j)
  no : called = false → Blk w' R cR 69

theorem set_id {cK : Array Value} {j : Nat} {v : Value} (h : cK[j]? = some v) : cK.setIfInBounds j v = cK := by
  obtain ⟨hlt, he⟩ := Array.getElem?_eq_some_iff.1 h
  apply Array.ext_getElem?
  intro i
  by_cases hi : j = i
  · subst hi
    rw [Array.getElem?_setIfInBounds_self_of_lt hlt, h]
  · rw [Array.getElem?_setIfInBounds_ne hi]

theorem post_same {w : World} {R K j : Nat} {cR cK : Array Value} {b : Bool} (hR : Blk w R cR 69) (hK : Blk w K cK 4) (h : cK[j]? = some (.bool b)) : CheckPost w w R K j cR cK b false :=
  ⟨rfl, rfl, rfl, Nat.le_refl _, fun _ _ _ _ => rfl, by rw [set_id h]; exact hK, (fun e => by cases e), fun _ => hR⟩

theorem post_set {w : World} {R K j : Nat} {cR cK : Array Value} (hKR : K ≠ R) (hR : Blk w R cR 69) (hK : Blk w K cK 4) : CheckPost w (w.setCell ⟨K, j, none⟩ (.bool true)) R K j cR cK true false :=
  ⟨rfl, rfl, rfl, by simp [World.setCell], fun k _ _ h2 => Below.heap_setCell _ _ _ _ h2, hK.set_same j _, (fun e => by cases e), fun _ => hR.set_other (Ne.symm hKR) _⟩

theorem post_alloc {w : World} {R K j n : Nat} {cR cK : Array Value} {o : Obj} (hR : Blk w R cR 69) (hK : Blk w K cK 4) (h : cK[j]? = some (.bool false)) : CheckPost w ((w.alloc o).drewN n) R K j cR cK false false :=
  ⟨rfl, rfl, rfl, by simp, fun k hk _ _ => Below.heap_alloc w o k hk, by rw [set_id h]; exact hK.alloc o, (fun e => by cases e), fun _ => hR.alloc o⟩

theorem post_called {w w' : World} {R K j : Nat} {cR cK : Array Value} {o : Obj} (hKR : K ≠ R) (hK : Blk w K cK 4) (h : cK[j]? = some (.bool false)) (hC : Called (w.alloc o).drew w' R cR j) : CheckPost w w' R K j cR cK false true := by
  have hs := hC.kept.size
  have hb : ∀ k, k < w.heap.size → k ≠ R → w'.heap[k]? = w.heap[k]? := fun k hk h1 =>
    (hC.kept.block k (by simp; omega) (by simpa using h1)).trans (Below.heap_alloc w o k hk)
  obtain ⟨g, c, cur, h1, h2, h3, _⟩ := hC.row
  refine ⟨hC.kept.os, hC.kept.tape, hC.kept.output, by simp at hs; omega, fun k hk h1 _ => hb k hk h1, ?_, fun _ => ⟨g, c, cur, h1, h2, h3⟩, fun e => by cases e⟩
  rw [set_id h]
  unfold Blk
  rw [hb K hK.lt hKR]
  exact hK

theorem post_marked {w w1 : World} {R K j : Nat} {cR cK : Array Value} {o : Obj} (hKR : K ≠ R) (hK : Blk w K cK 4) (h : cK[j]? = some (.bool false)) (hC : Called (w.alloc o).drew w1 R cR j) :
    CheckPost w (w1.setCell ⟨K, j, none⟩ (.bool true)) R K j cR cK true true := by
  have hp := post_called hKR hK h hC
  obtain ⟨g, c, cur, h1, h2, h3, hg⟩ := hC.row
  have hKlt := hK.lt
  simp at hg
  have hK1 : Blk w1 K cK 4 := by have := hp.mark; rwa [set_id h] at this
  exact ⟨hp.os, hp.tape, hp.output, by have := hp.size; simp [World.setCell]; omega, fun k hk h1 h2 => (Below.heap_setCell _ _ _ _ h2).trans (hp.block k hk h1 h2), hK1.set_same j _,
    fun _ => ⟨g, c, cur, h1.set_other (Ne.symm hKR) _, h2.set_other (by simp; omega) _, h3⟩, fun e => by cases e⟩

def wantCall (st en : Bool) (lf lv : Int) : Bool := !st && !(en && lf == 0) && lv != 9223372036854775807
def wantStuck (st en : Bool) (lf lv ow cj : Int) : Bool := st || (en && lf == 0) || (wantCall st en lf lv && decide (ow ≤ cj))

/-- 'check', at whatever it reads. -/
theorem check_any (w : World) (A R S E L X K j : Nat) (cR cK cE cL cX : Array Value) (st en : Bool) (lf lv ow cj : Int) (hj : j < 3) (h : Reads w A R S E L X K)
    (bK : Blk w K cK 4) (bE : Blk w E cE 4) (bL : Blk w L cL 3) (bX : Blk w X cX 76) (bR : Blk w R cR 69)
    (vK : cK[j]? = some (.bool st)) (vE : cE[j]? = some (.bool en)) (vL : cL[j]? = some (.int .i64 lf)) (vX0 : cX[j * 2]? = some (.int .i64 lv)) (vX1 : cX[j * 2 + 1]? = some (.int .i64 ow))
    (hc4 : cR[4]? = some (.slice none 0 0)) (hcj : cR[1 + j]? = some (.int .i64 cj)) (hAR : A ≠ R) (hSR : S ≠ R) (hKR : K ≠ R) :
    ChecksTo w A j fun w' => CheckPost w w' R K j cR cK (wantStuck st en lf lv ow cj) (wantCall st en lf lv) := by
  have hk := (bK.cell j).trans vK
  have he := (bE.cell j).trans vE
  have hl := (bL.cell j).trans vL
  have hx0 := (bX.cell (j * 2)).trans vX0
  have hx1 := (bX.cell (j * 2 + 1)).trans vX1
  have hf := bK.free j
  cases st with
  | true =>
    refine (check_stuck w A R S E L X K j hj h hk).mono fun e w' ⟨he, hw⟩ => ⟨he, ?_⟩
    rw [hw]
    exact post_same bR bK vK
  | false =>
    by_cases hend : en = true ∧ lf = 0
    · obtain ⟨rfl, rfl⟩ := hend
      refine (check_ended w A R S E L X K j hj h hk hf he hl).mono fun e w' ⟨he, hw⟩ => ⟨he, ?_⟩
      rw [hw]
      exact post_set hKR bR bK
    · have hee : (en && lf == 0) = false := by
        cases en
        · rfl
        · simpa using hend
      by_cases hlv : lv = 9223372036854775807
      · have e1 : wantCall false en lf lv = false := by simp [wantCall, hlv]
        have e2 : wantStuck false en lf lv ow cj = false := by simp [wantStuck, hee, e1]
        rw [e1, e2]
        rw [hlv] at hx0
        refine (check_never w A R S E L X K j en lf ow hj h hk he hl (Bool.and_eq_false_iff.1 hee) hx0 hx1).mono fun e w' ⟨he, o, n, hw⟩ => ⟨he, ?_⟩
        rw [hw]
        exact post_alloc bR bK vK
      · have hlv' : (lv == 9223372036854775807) = false := by simpa using hlv
        have e1 : wantCall false en lf lv = true := by simp [wantCall, hee, bne, hlv']
        by_cases how : ow ≤ cj
        · have e2 : wantStuck false en lf lv ow cj = true := by simp [wantStuck, e1, how]
          rw [e1, e2]
          cases en with
          | false =>
            refine (check_marks1 w A R S E L X K j cR lf lv ow cj hj h hk hKR hf he hx0 hx1 hlv' bR hc4 hcj how hAR hSR).mono fun e w' ⟨he, o, w1, hw, hC⟩ => ⟨he, ?_⟩
            rw [hw]
            exact post_marked hKR bK vK hC
          | true =>
            refine (check_marks2 w A R S E L X K j cR lf lv ow cj hj h hk hKR hf he hl (by simpa using hee) hx0 hx1 hlv' bR hc4 hcj how hAR hSR).mono fun e w' ⟨he, o, w1, hw, hC⟩ => ⟨he, ?_⟩
            rw [hw]
            exact post_marked hKR bK vK hC
        · have e2 : wantStuck false en lf lv ow cj = false := by simp [wantStuck, hee, how]
          rw [e1, e2]
          cases en with
          | false =>
            exact (check_calls1 w A R S E L X K j cR lf lv ow cj hj h hk he hx0 hx1 hlv' bR hc4 hcj (by omega) hAR).mono fun e w' ⟨he, o, hC⟩ => ⟨he, post_called hKR bK vK hC⟩
          | true =>
            exact (check_calls2 w A R S E L X K j cR lf lv ow cj hj h hk he hl (by simpa using hee) hx0 hx1 hlv' bR hc4 hcj (by omega) hAR).mono fun e w' ⟨he, o, hC⟩ => ⟨he, post_called hKR bK vK hC⟩
end Go.Proofs.Ybulkdyfo
