import Derived.Test.YbulkdyfoInit
namespace Go.Proofs.Ybulkdyfo
open Go.RowKit

/-- The argument's cells: three places of seven. -/
structure Places (cP : Array Value) (st en nv : Nat → Bool) (lf lv ow ct : Nat → Int) : Prop where
  st : ∀ i, i < 3 → cP[i * 7]? = some (.bool (st i))
  en : ∀ i, i < 3 → cP[i * 7 + 1]? = some (.bool (en i))
  lf : ∀ i, i < 3 → cP[i * 7 + 2]? = some (.int .i64 (lf i))
  nv : ∀ i, i < 3 → cP[i * 7 + 3]? = some (.bool (nv i))
  lv : ∀ i, i < 3 → cP[i * 7 + 4]? = some (.int .i64 (lv i))
  ow : ∀ i, i < 3 → cP[i * 7 + 5]? = some (.int .i64 (ow i))
  ct : ∀ i, i < 3 → cP[i * 7 + 6]? = some (.int .i64 (ct i))

def lvl (nv : Nat → Bool) (lv : Nat → Int) (i : Nat) : Int := if nv i then 9223372036854775807 else lv i

/-- A row in the making: the first i of its n cells are what f says. -/
structure Row (wr : World) (g : Nat) (t : TypeId) (n i o : Nat) (f : Nat → Value) (c : Array Value) : Prop where
  blk : Blk wr g c t
  size : c.size = n
  done : ∀ k, k < i → c[o + k]? = some (f k)

theorem Row.step {wr : World} {g : Nat} {t : TypeId} {n i o : Nat} {f : Nat → Value} {c : Array Value} (h : Row wr g t n i o f c) {j : Nat} (hj : j = o + i) (hi : o + i < n) {v : Value} (hv : v = f i) :
    Row (wr.setCell ⟨g, j, none⟩ v) g t n (i + 1) o f (c.setIfInBounds j v) where
  blk := h.blk.set_same _ _
  size := by simpa using h.size
  done := fun k hk => by
    have := h.size
    subst hj
    by_cases hki : k = i
    · subst hki
      rw [Array.getElem?_setIfInBounds_self_of_lt (by omega), hv]
    · rw [Array.getElem?_setIfInBounds_ne (by omega)]
      exact h.done k (by omega)

theorem Row.other {wr : World} {g : Nat} {t : TypeId} {n i o : Nat} {f : Nat → Value} {c : Array Value} (h : Row wr g t n i o f c) {a : Addr} (ha : g ≠ a.block) (v : Value) :
    Row (wr.setCell a v) g t n i o f c := ⟨h.blk.set_other ha v, h.size, h.done⟩

theorem Row.cell {wr : World} {g : Nat} {t : TypeId} {n i o : Nat} {f : Nat → Value} {c : Array Value} (h : Row wr g t n i o f c) {k : Nat} (hk : k < n) : ∃ u, wr.cell? ⟨g, k, none⟩ = some u := by
  have := h.size
  exact ⟨c[k]'(by omega), by rw [h.blk.cell k]; simp⟩

/-- The memory at the head of round i of the law's first loop. -/
structure L1 (w wr : World) (cP : Array Value) (E L X K i : Nat) (st en nv : Nat → Bool) (lf lv ow ct : Nat → Int) (cR cV cE cL cX cK : Array Value) : Prop where
  bS : Blk wr (w.heap.size + 6) (strandsOf E L X K) 74
  bP : Blk wr w.heap.size cP 65
  r : Row wr (w.heap.size + 1) 69 5 i 1 (fun k => .int .i64 (ct k)) cR
  c4 : cR[4]? = some (.slice none 0 0)
  v : Row wr (w.heap.size + 7) 67 3 i 0 (fun k => .int .i64 (lvl nv lv k)) cV
  e : Row wr E 4 3 i 0 (fun k => .bool (en k)) cE
  l : Row wr L 3 3 i 0 (fun k => .int .i64 (lf k)) cL
  x : Row wr X 76 6 (i * 2) 0 (fun k => .int .i64 (if k % 2 = 0 then lvl nv lv (k / 2) else ow (k / 2))) cX
  k : Row wr K 4 3 i 0 (fun k => .bool (st k)) cK
  below : Below w.heap.size w wr

theorem l1_start {w wc : World} {cP : Array Value} {E L X K : Nat} (h : Init w wc cP E L X K) (st en nv : Nat → Bool) (lf lv ow ct : Nat → Int) :
    L1 w (wc.alloc (.cells #[.int .i64 0, .int .i64 0, .int .i64 0] 67)) cP E L X K 0 st en nv lf lv ow ct zeroR zeroI zeroB zeroI zeroX zeroB where
  bS := h.bS.alloc _
  bP := h.bP.alloc _
  r := ⟨h.bR.alloc _, rfl, fun k hk => by omega⟩
  c4 := rfl
  v := ⟨by have := Blk.new wc zeroI 67; rw [h.size] at this; exact this, rfl, fun k hk => by omega⟩
  e := ⟨h.bE.alloc _, rfl, fun k hk => by omega⟩
  l := ⟨h.bL.alloc _, rfl, fun k hk => by omega⟩
  x := ⟨h.bX.alloc _, rfl, fun k hk => by omega⟩
  k := ⟨h.bK.alloc _, rfl, fun k hk => by omega⟩
  below := h.below.alloc (by rw [h.size]; omega) _

/-- A round's stores, V's first. -/
def stores (w W : World) (E L X K i : Nat) (en st : Bool) (lf lvi ow ct : Int) : World :=
  ((((((W.setCell ⟨E, i, none⟩ (.bool en)).setCell ⟨L, i, none⟩ (.int .i64 lf)).setCell ⟨X, i * 2, none⟩ (.int .i64 lvi)).setCell ⟨X, i * 2 + 1, none⟩ (.int .i64 ow)).setCell ⟨K, i, none⟩ (.bool st)).setCell ⟨w.heap.size + 1, 1 + i, none⟩ (.int .i64 ct))

theorem l1_rest {w wr W : World} {cP : Array Value} {E L X K i : Nat} {st en nv : Nat → Bool} {lf lv ow ct : Nat → Int} {cR cV cE cL cX cK cV' : Array Value} (hA : Apart w.heap.size E L X K) (hi : i < 3)
    (h : L1 w wr cP E L X K i st en nv lf lv ow ct cR cV cE cL cX cK)
    (hV : Row W (w.heap.size + 7) 67 3 (i + 1) 0 (fun k => .int .i64 (lvl nv lv k)) cV') (hoth : ∀ g, g ≠ w.heap.size + 7 → W.heap[g]? = wr.heap[g]?) (hbel : Below w.heap.size w W) {lvi : Int} (hlv : lvi = lvl nv lv i) :
    ∃ cR' cE' cL' cX' cK', L1 w (stores w W E L X K i (en i) (st i) (lf i) lvi (ow i) (ct i)) cP E L X K (i + 1) st en nv lf lv ow ct cR' cV' cE' cL' cX' cK' := by
  obtain ⟨⟨e1, e2⟩, ⟨l1, l2⟩, ⟨x1, x2⟩, ⟨k1, k2⟩, el, ex, ek, lx, lk, xk⟩ := hA
  have keep : ∀ {g n m o : Nat} {t : TypeId} {f : Nat → Value} {c : Array Value}, Row wr g t n m o f c → g ≠ w.heap.size + 7 → Row W g t n m o f c := fun hr hg => ⟨by unfold Blk; rw [hoth _ hg]; exact hr.blk, hr.size, hr.done⟩
  have keepB : ∀ {g : Nat} {t : TypeId} {c : Array Value}, Blk wr g c t → g ≠ w.heap.size + 7 → Blk W g c t := fun hr hg => by unfold Blk; rw [hoth _ hg]; exact hr
  have rE := ((((((keep h.e (by omega)).step (j := i) (by omega) (by omega) (v := .bool (en i)) rfl).other (a := ⟨L, i, none⟩) (by simpa using el) (.int .i64 (lf i))).other (a := ⟨X, i * 2, none⟩) (by simpa using ex) (.int .i64 lvi)).other (a := ⟨X, i * 2 + 1, none⟩) (by simpa using ex) (.int .i64 (ow i))).other (a := ⟨K, i, none⟩) (by simpa using ek) (.bool (st i))).other (a := ⟨w.heap.size + 1, 1 + i, none⟩) (by simp; omega) (.int .i64 (ct i))
  have rL := ((((((keep h.l (by omega)).other (a := ⟨E, i, none⟩) (by simpa using Ne.symm el) (.bool (en i))).step (j := i) (by omega) (by omega) (v := .int .i64 (lf i)) rfl).other (a := ⟨X, i * 2, none⟩) (by simpa using lx) (.int .i64 lvi)).other (a := ⟨X, i * 2 + 1, none⟩) (by simpa using lx) (.int .i64 (ow i))).other (a := ⟨K, i, none⟩) (by simpa using lk) (.bool (st i))).other (a := ⟨w.heap.size + 1, 1 + i, none⟩) (by simp; omega) (.int .i64 (ct i))
  have rX := ((((((keep h.x (by omega)).other (a := ⟨E, i, none⟩) (by simpa using Ne.symm ex) (.bool (en i))).other (a := ⟨L, i, none⟩) (by simpa using Ne.symm lx) (.int .i64 (lf i))).step (j := i * 2) (by omega) (by omega) (v := .int .i64 lvi) (by rw [hlv]; simp)).step (j := i * 2 + 1) (by omega) (by omega) (v := .int .i64 (ow i)) (by rw [if_neg (by omega)]; congr 2; omega)).other (a := ⟨K, i, none⟩) (by simpa using xk) (.bool (st i))).other (a := ⟨w.heap.size + 1, 1 + i, none⟩) (by simp; omega) (.int .i64 (ct i))
  have rK := ((((((keep h.k (by omega)).other (a := ⟨E, i, none⟩) (by simpa using Ne.symm ek) (.bool (en i))).other (a := ⟨L, i, none⟩) (by simpa using Ne.symm lk) (.int .i64 (lf i))).other (a := ⟨X, i * 2, none⟩) (by simpa using Ne.symm xk) (.int .i64 lvi)).other (a := ⟨X, i * 2 + 1, none⟩) (by simpa using Ne.symm xk) (.int .i64 (ow i))).step (j := i) (by omega) (by omega) (v := .bool (st i)) rfl).other (a := ⟨w.heap.size + 1, 1 + i, none⟩) (by simp; omega) (.int .i64 (ct i))
  have rR := ((((((keep h.r (by omega)).other (a := ⟨E, i, none⟩) (by simp; omega) (.bool (en i))).other (a := ⟨L, i, none⟩) (by simp; omega) (.int .i64 (lf i))).other (a := ⟨X, i * 2, none⟩) (by simp; omega) (.int .i64 lvi)).other (a := ⟨X, i * 2 + 1, none⟩) (by simp; omega) (.int .i64 (ow i))).other (a := ⟨K, i, none⟩) (by simp; omega) (.bool (st i))).step (j := 1 + i) (by omega) (by omega) (v := .int .i64 (ct i)) rfl
  have rV := (((((hV.other (a := ⟨E, i, none⟩) (by simp; omega) (.bool (en i))).other (a := ⟨L, i, none⟩) (by simp; omega) (.int .i64 (lf i))).other (a := ⟨X, i * 2, none⟩) (by simp; omega) (.int .i64 lvi)).other (a := ⟨X, i * 2 + 1, none⟩) (by simp; omega) (.int .i64 (ow i))).other (a := ⟨K, i, none⟩) (by simp; omega) (.bool (st i))).other (a := ⟨w.heap.size + 1, 1 + i, none⟩) (by simp) (.int .i64 (ct i))
  have bS := (((((((keepB h.bS (by omega)).set_other (a := ⟨E, i, none⟩) (by simp; omega) (.bool (en i))).set_other (a := ⟨L, i, none⟩) (by simp; omega) (.int .i64 (lf i))).set_other (a := ⟨X, i * 2, none⟩) (by simp; omega) (.int .i64 lvi)).set_other (a := ⟨X, i * 2 + 1, none⟩) (by simp; omega) (.int .i64 (ow i))).set_other (a := ⟨K, i, none⟩) (by simp; omega) (.bool (st i))).set_other (a := ⟨w.heap.size + 1, 1 + i, none⟩) (by simp) (.int .i64 (ct i)))
  have bP := (((((((keepB h.bP (by omega)).set_other (a := ⟨E, i, none⟩) (by simp; omega) (.bool (en i))).set_other (a := ⟨L, i, none⟩) (by simp; omega) (.int .i64 (lf i))).set_other (a := ⟨X, i * 2, none⟩) (by simp; omega) (.int .i64 lvi)).set_other (a := ⟨X, i * 2 + 1, none⟩) (by simp; omega) (.int .i64 (ow i))).set_other (a := ⟨K, i, none⟩) (by simp; omega) (.bool (st i))).set_other (a := ⟨w.heap.size + 1, 1 + i, none⟩) (by simp) (.int .i64 (ct i)))
  have bel := (((((hbel.setCell (p := ⟨E, i, none⟩) (by simp; omega) (.bool (en i))).setCell (p := ⟨L, i, none⟩) (by simp; omega) (.int .i64 (lf i))).setCell (p := ⟨X, i * 2, none⟩) (by simp; omega) (.int .i64 lvi)).setCell (p := ⟨X, i * 2 + 1, none⟩) (by simp; omega) (.int .i64 (ow i))).setCell (p := ⟨K, i, none⟩) (by simp; omega) (.bool (st i))).setCell (p := ⟨w.heap.size + 1, 1 + i, none⟩) (by simp) (.int .i64 (ct i))
  rw [show i * 2 + 1 + 1 = (i + 1) * 2 by omega] at rX
  refine ⟨_, _, _, _, _, ⟨bS, bP, rR, ?_, rV, rE, rL, rX, rK, bel⟩⟩
  rw [Array.getElem?_setIfInBounds_ne (by omega)]
  exact h.c4

/-- A row that one store, or two at one place, have brought on. -/
theorem v_once {wr : World} {g : Nat} {i : Nat} {f : Nat → Value} {c : Array Value} (h : Row wr g 67 3 i 0 f c) (hi : i < 3) {v : Value} (hv : v = f i) :
    Row (wr.setCell ⟨g, i, none⟩ v) g 67 3 (i + 1) 0 f (c.setIfInBounds i v) := h.step (by omega) (by omega) hv

theorem v_twice {wr : World} {g : Nat} {i : Nat} {f : Nat → Value} {c : Array Value} (h : Row wr g 67 3 i 0 f c) (hi : i < 3) {u v : Value} (hv : v = f i) :
    Row ((wr.setCell ⟨g, i, none⟩ u).setCell ⟨g, i, none⟩ v) g 67 3 (i + 1) 0 f ((c.setIfInBounds i u).setIfInBounds i v) := by
  have h' : Row (wr.setCell ⟨g, i, none⟩ u) g 67 3 i 0 f (c.setIfInBounds i u) :=
    ⟨h.blk.set_same _ _, by simpa using h.size, fun k hk => by rw [Array.getElem?_setIfInBounds_ne (by omega)]; exact h.done k hk⟩
  exact h'.step (by omega) (by omega) hv
end Go.Proofs.Ybulkdyfo
