/-
  The law's third region makes four rows in an order that Go leaves open: whatever the order, the same memory but for the rows' places.
-/
import Derived.Test.YbulkdyfoInit
import Derived.RegionTactic
namespace Go.Proofs.Ybulkdyfo
open Go.RowKit

theorem mk23 (w : World) : (Instr.makeSlice 23 (.int .i64 3) (.int .i64 3)).run Yba.prog w = .ok (.slice (some ⟨w.heap.size, 0, none⟩) 3 3) (w.alloc (.cells zeroB 4)) := by kernel_rfl
theorem mk24 (w : World) : (Instr.makeSlice 24 (.int .i64 3) (.int .i64 3)).run Yba.prog w = .ok (.slice (some ⟨w.heap.size, 0, none⟩) 3 3) (w.alloc (.cells zeroI 3)) := by kernel_rfl
theorem mk70 (w : World) : (Instr.makeSlice 70 (.int .i64 3) (.int .i64 3)).run Yba.prog w = .ok (.slice (some ⟨w.heap.size, 0, none⟩) 3 3) (w.alloc (.cells zeroX 76)) := by kernel_rfl
theorem bld74 (E L X K : Nat) (w : World) : (Instr.build 74 #[(0, .slice (some ⟨E, 0, none⟩) 3 3), (1, .slice (some ⟨L, 0, none⟩) 3 3), (5, .slice (some ⟨X, 0, none⟩) 3 3), (6, .slice (some ⟨K, 0, none⟩) 3 3)]).run Yba.prog w = .ok (.agg (strandsOf E L X K)) w := by kernel_rfl
theorem box74 (cs : Array Value) (w : World) : (Instr.box 74 (.agg cs)).run Yba.prog w = .ok (.pointer (some ⟨w.heap.size, 0, none⟩)) (w.alloc (.cells cs 74)) := by kernel_rfl

def three : Operand := .const (.int .i64 3)

/-- The seven operations of that region; the places in the Go text are letters. -/
def mo0 (s : String) : Oper := { dst := some 22, op := .makeSlice 23 three three, type := 23, pos := s, after := #[], guard := none }
def mo1 (s : String) : Oper := { dst := some 23, op := .makeSlice 24 three three, type := 24, pos := s, after := #[], guard := none }
def mo2 (s : String) : Oper := { dst := some 24, op := .makeSlice 70 three three, type := 70, pos := s, after := #[], guard := none }
def mo3 (s : String) : Oper := { dst := some 25, op := .makeSlice 23 three three, type := 23, pos := s, after := #[], guard := none }
def mo4 (s : String) : Oper := { dst := some 26, op := .build 74 #[(0, .tmp 22), (1, .tmp 23), (5, .tmp 24), (6, .tmp 25)], type := 74, pos := s, after := #[{ on := 0, ground := .data }, { on := 1, ground := .data }, { on := 2, ground := .data }, { on := 3, ground := .data }], guard := none }
def mo5 (s : String) : Oper := { dst := some 27, op := .box 74 (.tmp 26), type := 46, pos := s, after := #[{ on := 4, ground := .data }], guard := none }
def mo6 (s : String) : Oper := { dst := some 7, op := .assign (.tmp 27), type := 46, pos := s, after := #[{ on := 5, ground := .data }, { on := 0, ground := .phase }, { on := 1, ground := .phase }, { on := 2, ground := .phase }, { on := 3, ground := .phase }, { on := 4, ground := .phase }, { on := 5, ground := .phase }], guard := none }

def makes (s0 s1 s2 s3 s4 s5 s6 : String) : Array Oper := #[mo0 s0, mo1 s1, mo2 s2, mo3 s3, mo4 s4, mo5 s5, mo6 s6]

/-- The frame with four slots laid. -/
def fr4 (a : Act) (x0 x1 x2 x3 : Value) : Act := ⟨(((a.tmps.setIfInBounds 22 x0).setIfInBounds 23 x1).setIfInBounds 24 x2).setIfInBounds 25 x3, a.defers⟩

theorem fr4_put0 (a : Act) (x0 x1 x2 x3 y : Value) : (fr4 a x0 x1 x2 x3).put (some 22) y = fr4 a y x1 x2 x3 := by
  simp only [fr4, Act.put, Act.mk.injEq, and_true]
  rw [Array.setIfInBounds_comm _ _ (by decide), Array.setIfInBounds_comm _ _ (show (24 : Nat) ≠ 22 by decide), Array.setIfInBounds_comm _ _ (show (23 : Nat) ≠ 22 by decide), Array.setIfInBounds_setIfInBounds]
theorem fr4_put1 (a : Act) (x0 x1 x2 x3 y : Value) : (fr4 a x0 x1 x2 x3).put (some 23) y = fr4 a x0 y x2 x3 := by
  simp only [fr4, Act.put, Act.mk.injEq, and_true]
  rw [Array.setIfInBounds_comm _ _ (by decide), Array.setIfInBounds_comm _ _ (show (24 : Nat) ≠ 23 by decide), Array.setIfInBounds_setIfInBounds]
theorem fr4_put2 (a : Act) (x0 x1 x2 x3 y : Value) : (fr4 a x0 x1 x2 x3).put (some 24) y = fr4 a x0 x1 y x3 := by
  simp only [fr4, Act.put, Act.mk.injEq, and_true]
  rw [Array.setIfInBounds_comm _ _ (by decide), Array.setIfInBounds_setIfInBounds]
theorem fr4_put3 (a : Act) (x0 x1 x2 x3 y : Value) : (fr4 a x0 x1 x2 x3).put (some 25) y = fr4 a x0 x1 x2 y := by
  simp only [fr4, Act.put, Act.mk.injEq, and_true]
  rw [Array.setIfInBounds_setIfInBounds]

theorem fr4_at (a : Act) (x0 x1 x2 x3 : Value) (h : 25 < a.tmps.size) :
    (fr4 a x0 x1 x2 x3).eval (.tmp 22) = x0 ∧ (fr4 a x0 x1 x2 x3).eval (.tmp 23) = x1 ∧ (fr4 a x0 x1 x2 x3).eval (.tmp 24) = x2 ∧ (fr4 a x0 x1 x2 x3).eval (.tmp 25) = x3 := by
  simp only [fr4, Act.eval, Array.getD_eq_getD_getElem?]
  refine ⟨?_, ?_, ?_, ?_⟩
  · rw [Array.getElem?_setIfInBounds_ne (by decide), Array.getElem?_setIfInBounds_ne (by decide), Array.getElem?_setIfInBounds_ne (by decide), Array.getElem?_setIfInBounds_self_of_lt (by omega)]; rfl
  · rw [Array.getElem?_setIfInBounds_ne (by decide), Array.getElem?_setIfInBounds_ne (by decide), Array.getElem?_setIfInBounds_self_of_lt (by simp; omega)]; rfl
  · rw [Array.getElem?_setIfInBounds_ne (by decide), Array.getElem?_setIfInBounds_self_of_lt (by simp; omega)]; rfl
  · rw [Array.getElem?_setIfInBounds_self_of_lt (by simp; omega)]; rfl

/-- The memory while the rows are being made: n of them lie. -/
structure Part (w wx : World) (cP : Array Value) (n : Nat) (E L X K : Option Nat) : Prop where
  bP : Blk wx w.heap.size cP 65
  bR : Blk wx (w.heap.size + 1) zeroR 69
  size : wx.heap.size = w.heap.size + 2 + n
  below : Below w.heap.size w wx
  e : ∀ g, E = some g → Blk wx g zeroB 4 ∧ w.heap.size + 2 ≤ g
  l : ∀ g, L = some g → Blk wx g zeroI 3 ∧ w.heap.size + 2 ≤ g
  x : ∀ g, X = some g → Blk wx g zeroX 76 ∧ w.heap.size + 2 ≤ g
  k : ∀ g, K = some g → Blk wx g zeroB 4 ∧ w.heap.size + 2 ≤ g
  el : ∀ g, E = some g → L ≠ some g
  ex : ∀ g, E = some g → X ≠ some g
  ek : ∀ g, E = some g → K ≠ some g
  lx : ∀ g, L = some g → X ≠ some g
  lk : ∀ g, L = some g → K ≠ some g
  xk : ∀ g, X = some g → K ≠ some g

section
variable {w wx : World} {cP : Array Value} {n : Nat} {E L X K : Option Nat}

theorem new_ne {o : Option Nat} {cs : Array Value} {t : TypeId} (h : ∀ g, o = some g → Blk wx g cs t ∧ w.heap.size + 2 ≤ g) : o ≠ some wx.heap.size := fun e => by
  have := (h _ e).1.lt
  omega

theorem keepO {o : Option Nat} {cs : Array Value} {t : TypeId} (h : ∀ g, o = some g → Blk wx g cs t ∧ w.heap.size + 2 ≤ g) (ob : Obj) : ∀ g, o = some g → Blk (wx.alloc ob) g cs t ∧ w.heap.size + 2 ≤ g :=
  fun g e => ⟨(h g e).1.alloc ob, (h g e).2⟩

theorem newO (hs : wx.heap.size = w.heap.size + 2 + n) (cs : Array Value) (t : TypeId) : ∀ g, some wx.heap.size = some g → Blk (wx.alloc (.cells cs t)) g cs t ∧ w.heap.size + 2 ≤ g := fun g e => by
  cases e
  exact ⟨Blk.new _ _ _, by omega⟩

theorem Part.makeE (h : Part w wx cP n none L X K) : Part w (wx.alloc (.cells zeroB 4)) cP (n + 1) (some wx.heap.size) L X K where
  bP := h.bP.alloc _
  bR := h.bR.alloc _
  size := by simp [h.size]; omega
  below := h.below.alloc (by rw [h.size]; omega) _
  e := newO h.size _ _
  l := keepO h.l _
  x := keepO h.x _
  k := keepO h.k _
  el := fun g e => by cases e; exact new_ne h.l
  ex := fun g e => by cases e; exact new_ne h.x
  ek := fun g e => by cases e; exact new_ne h.k
  lx := h.lx
  lk := h.lk
  xk := h.xk

theorem Part.makeL (h : Part w wx cP n E none X K) : Part w (wx.alloc (.cells zeroI 3)) cP (n + 1) E (some wx.heap.size) X K where
  bP := h.bP.alloc _
  bR := h.bR.alloc _
  size := by simp [h.size]; omega
  below := h.below.alloc (by rw [h.size]; omega) _
  e := keepO h.e _
  l := newO h.size _ _
  x := keepO h.x _
  k := keepO h.k _
  el := fun g e e' => by cases e'; exact new_ne h.e e
  ex := h.ex
  ek := h.ek
  lx := fun g e => by cases e; exact new_ne h.x
  lk := fun g e => by cases e; exact new_ne h.k
  xk := h.xk

theorem Part.makeX (h : Part w wx cP n E L none K) : Part w (wx.alloc (.cells zeroX 76)) cP (n + 1) E L (some wx.heap.size) K where
  bP := h.bP.alloc _
  bR := h.bR.alloc _
  size := by simp [h.size]; omega
  below := h.below.alloc (by rw [h.size]; omega) _
  e := keepO h.e _
  l := keepO h.l _
  x := newO h.size _ _
  k := keepO h.k _
  el := h.el
  ex := fun g e e' => by cases e'; exact new_ne h.e e
  ek := h.ek
  lx := fun g e e' => by cases e'; exact new_ne h.l e
  lk := h.lk
  xk := fun g e => by cases e; exact new_ne h.k

theorem Part.makeK (h : Part w wx cP n E L X none) : Part w (wx.alloc (.cells zeroB 4)) cP (n + 1) E L X (some wx.heap.size) where
  bP := h.bP.alloc _
  bR := h.bR.alloc _
  size := by simp [h.size]; omega
  below := h.below.alloc (by rw [h.size]; omega) _
  e := keepO h.e _
  l := keepO h.l _
  x := keepO h.x _
  k := newO h.size _ _
  el := h.el
  ex := h.ex
  ek := fun g e e' => by cases e'; exact new_ne h.e e
  lx := h.lx
  lk := fun g e e' => by cases e'; exact new_ne h.l e
  xk := fun g e e' => by cases e'; exact new_ne h.x e
end

theorem Part.full {w wx : World} {cP : Array Value} {E L X K : Nat} (h : Part w wx cP 4 (some E) (some L) (some X) (some K)) : Init w (wx.alloc (.cells (strandsOf E L X K) 74)) cP E L X K := by
  obtain ⟨be, ge⟩ := h.e E rfl
  obtain ⟨bl, gl⟩ := h.l L rfl
  obtain ⟨bx, gx⟩ := h.x X rfl
  obtain ⟨bk, gk⟩ := h.k K rfl
  have hs := h.size
  have le := be.lt
  have ll := bl.lt
  have lx := bx.lt
  have lk := bk.lt
  exact {
    bS := by have := Blk.new wx (strandsOf E L X K) 74; rw [hs] at this; exact this
    bP := h.bP.alloc _
    bR := h.bR.alloc _
    bE := be.alloc _
    bL := bl.alloc _
    bX := bx.alloc _
    bK := bk.alloc _
    size := by simp [hs]
    below := h.below.alloc (by rw [hs]; omega) _
    apart := ⟨by omega, by omega, by omega, by omega, fun e => h.el E rfl (by rw [e]), fun e => h.ex E rfl (by rw [e]), fun e => h.ek E rfl (by rw [e]), fun e => h.lx L rfl (by rw [e]), fun e => h.lk L rfl (by rw [e]), fun e => h.xk X rfl (by rw [e])⟩ }

/-- A slot that may hold a row made. -/
def sl (o : Option Nat) (d : Value) : Value := match o with
  | some g => .slice (some ⟨g, 0, none⟩) 3 3
  | none => d

section
variable {Q : Exit → Act → World → Prop} {s0 s1 s2 s3 s4 s5 s6 : String} {K : Act → World → Prop} {a : Act} {wx : World}

theorem op0 (h : K (a.put (some 22) (.slice (some ⟨wx.heap.size, 0, none⟩) 3 3)) (wx.alloc (.cells zeroB 4))) : wpOp Yba.prog (makes s0 s1 s2 s3 s4 s5 s6) Q 0 K a wx := by
  refine wpOp_step (o := mo0 s0) rfl fun K' hK => ?_
  rw [if_pos (show Region.wanted _ _ = true from rfl)]
  unfold Oper.wp
  simp [mo0, execOp, three, Act.eval, mk23]
  exact hK _ _ h

theorem op1 (h : K (a.put (some 23) (.slice (some ⟨wx.heap.size, 0, none⟩) 3 3)) (wx.alloc (.cells zeroI 3))) : wpOp Yba.prog (makes s0 s1 s2 s3 s4 s5 s6) Q 1 K a wx := by
  refine wpOp_step (o := mo1 s1) rfl fun K' hK => ?_
  rw [if_pos (show Region.wanted _ _ = true from rfl)]
  unfold Oper.wp
  simp [mo1, execOp, three, Act.eval, mk24]
  exact hK _ _ h

theorem op2 (h : K (a.put (some 24) (.slice (some ⟨wx.heap.size, 0, none⟩) 3 3)) (wx.alloc (.cells zeroX 76))) : wpOp Yba.prog (makes s0 s1 s2 s3 s4 s5 s6) Q 2 K a wx := by
  refine wpOp_step (o := mo2 s2) rfl fun K' hK => ?_
  rw [if_pos (show Region.wanted _ _ = true from rfl)]
  unfold Oper.wp
  simp [mo2, execOp, three, Act.eval, mk70]
  exact hK _ _ h

theorem op3 (h : K (a.put (some 25) (.slice (some ⟨wx.heap.size, 0, none⟩) 3 3)) (wx.alloc (.cells zeroB 4))) : wpOp Yba.prog (makes s0 s1 s2 s3 s4 s5 s6) Q 3 K a wx := by
  refine wpOp_step (o := mo3 s3) rfl fun K' hK => ?_
  rw [if_pos (show Region.wanted _ _ = true from rfl)]
  unfold Oper.wp
  simp [mo3, execOp, three, Act.eval, mk23]
  exact hK _ _ h

theorem op4 {E L X Kk : Nat} (e0 : a.eval (.tmp 22) = .slice (some ⟨E, 0, none⟩) 3 3) (e1 : a.eval (.tmp 23) = .slice (some ⟨L, 0, none⟩) 3 3) (e2 : a.eval (.tmp 24) = .slice (some ⟨X, 0, none⟩) 3 3) (e3 : a.eval (.tmp 25) = .slice (some ⟨Kk, 0, none⟩) 3 3)
    (h : K (a.put (some 26) (.agg (strandsOf E L X Kk))) wx) : wpOp Yba.prog (makes s0 s1 s2 s3 s4 s5 s6) Q 4 K a wx := by
  refine wpOp_step (o := mo4 s4) rfl fun K' hK => ?_
  rw [if_pos (show Region.wanted _ _ = true from rfl)]
  unfold Oper.wp
  simp only [mo4, execOp]
  simp [e0, e1, e2, e3, bld74]
  exact hK _ _ h

theorem op5 {cs : Array Value} (e0 : a.eval (.tmp 26) = .agg cs)
    (h : K (a.put (some 27) (.pointer (some ⟨wx.heap.size, 0, none⟩))) (wx.alloc (.cells cs 74))) : wpOp Yba.prog (makes s0 s1 s2 s3 s4 s5 s6) Q 5 K a wx := by
  refine wpOp_step (o := mo5 s5) rfl fun K' hK => ?_
  rw [if_pos (show Region.wanted _ _ = true from rfl)]
  unfold Oper.wp
  simp only [mo5, execOp]
  simp [e0, box74]
  exact hK _ _ h

theorem op6 {v : Value} (e0 : a.eval (.tmp 27) = v)
    (h : K (a.put (some 7) v) wx) : wpOp Yba.prog (makes s0 s1 s2 s3 s4 s5 s6) Q 6 K a wx := by
  refine wpOp_step (o := mo6 s6) rfl fun K' hK => ?_
  rw [if_pos (show Region.wanted _ _ = true from rfl)]
  unfold Oper.wp
  simp only [mo6, execOp]
  simp [e0]
  exact hK _ _ h

theorem put_at (a : Act) (d : Nat) (v : Value) (h : d < a.tmps.size) : (a.put (some d) v).eval (.tmp d) = v := by
  simp only [Act.put, Act.eval, Array.getD_eq_getD_getElem?]
  rw [Array.getElem?_setIfInBounds_self_of_lt h]; rfl

/-- What is ready while rows are being made. -/
def readyOf (b0 b1 b2 b3 : Bool) : List Nat := (if b0 then [] else [0]) ++ (if b1 then [] else [1]) ++ (if b2 then [] else [2]) ++ (if b3 then [] else [3])

theorem ready_part (b0 b1 b2 b3 : Bool) (h : (b0 && b1 && b2 && b3) = false) : Region.ready .any (makes s0 s1 s2 s3 s4 s5 s6) #[b0, b1, b2, b3, false, false, false] = readyOf b0 b1 b2 b3 := by
  cases b0 <;> cases b1 <;> cases b2 <;> cases b3 <;> first | (simp at h; done) | kernel_rfl

/-- Behind the four rows: the struct, its box, the variable. -/
theorem behind (w : World) (cP : Array Value) (a : Act) (hsz : 27 < a.tmps.size) (E L X Kk : Nat)
    (e0 : a.eval (.tmp 22) = .slice (some ⟨E, 0, none⟩) 3 3) (e1 : a.eval (.tmp 23) = .slice (some ⟨L, 0, none⟩) 3 3) (e2 : a.eval (.tmp 24) = .slice (some ⟨X, 0, none⟩) 3 3) (e3 : a.eval (.tmp 25) = .slice (some ⟨Kk, 0, none⟩) 3 3)
    (hp : Part w wx cP 4 (some E) (some L) (some X) (some Kk))
    (hQ : ∀ wy, Init w wy cP E L X Kk → Q .normal (((a.put (some 26) (.agg (strandsOf E L X Kk))).put (some 27) (.pointer (some ⟨w.heap.size + 6, 0, none⟩))).put (some 7) (.pointer (some ⟨w.heap.size + 6, 0, none⟩))) wy) :
    wpAny Yba.prog .any (makes s0 s1 s2 s3 s4 s5 s6) Q 3 #[true, true, true, true, false, false, false] a wx := by
  refine wpAny_all (rs := [4]) (by kernel_rfl) (by simp) fun i hi => ?_
  obtain rfl : i = 4 := by simpa using hi
  refine op4 e0 e1 e2 e3 ?_
  refine wpAny_all (rs := [5]) (by kernel_rfl) (by simp) fun i hi => ?_
  obtain rfl : i = 5 := by simpa using hi
  refine op5 (put_at _ _ _ (by omega)) ?_
  refine wpAny_all (rs := [6]) (by kernel_rfl) (by simp) fun i hi => ?_
  obtain rfl : i = 6 := by simpa using hi
  refine op6 (put_at _ _ _ (by simp [Act.put]; omega)) ?_
  refine wpAny_done (by kernel_rfl) ?_ 0
  have hs : wx.heap.size = w.heap.size + 6 := hp.size
  rw [hs]
  exact hQ _ hp.full
end

/-- Whatever the order from here on. -/
theorem makes_from (Q : Exit → Act → World → Prop) (s0 s1 s2 s3 s4 s5 s6 : String) (w : World) (cP : Array Value) (a : Act) (hsz : 27 < a.tmps.size)
    (hQ : ∀ E L X K wy, Init w wy cP E L X K → Q .normal ((((fr4 a (.slice (some ⟨E, 0, none⟩) 3 3) (.slice (some ⟨L, 0, none⟩) 3 3) (.slice (some ⟨X, 0, none⟩) 3 3) (.slice (some ⟨K, 0, none⟩) 3 3)).put (some 26) (.agg (strandsOf E L X K))).put (some 27) (.pointer (some ⟨w.heap.size + 6, 0, none⟩))).put (some 7) (.pointer (some ⟨w.heap.size + 6, 0, none⟩))) wy) :
    ∀ (m n : Nat) (E L X K : Option Nat) (x0 x1 x2 x3 : Value) (wx : World), m + n = 4 → (if E.isSome then 1 else 0) + (if L.isSome then 1 else 0) + (if X.isSome then 1 else 0) + (if K.isSome then 1 else 0) = n → Part w wx cP n E L X K →
      wpAny Yba.prog .any (makes s0 s1 s2 s3 s4 s5 s6) Q (m + 3) #[E.isSome, L.isSome, X.isSome, K.isSome, false, false, false] (fr4 a (sl E x0) (sl L x1) (sl X x2) (sl K x3)) wx
  | 0, n, E, L, X, K, x0, x1, x2, x3, wx, hm, hc, hp => by
    obtain rfl : n = 4 := by omega
    rcases E with _ | E
    · exfalso; cases L <;> cases X <;> cases K <;> simp at hc
    rcases L with _ | L
    · exfalso; cases X <;> cases K <;> simp at hc
    rcases X with _ | X
    · exfalso; cases K <;> simp at hc
    rcases K with _ | K
    · exfalso; simp at hc
    obtain ⟨f0, f1, f2, f3⟩ := fr4_at a (sl (some E) x0) (sl (some L) x1) (sl (some X) x2) (sl (some K) x3) (by omega)
    exact behind w cP _ (by simp [fr4]; omega) E L X K f0 f1 f2 f3 hp (hQ E L X K)
  | m + 1, n, E, L, X, K, x0, x1, x2, x3, wx, hm, hc, hp => by
    have hnot : (E.isSome && L.isSome && X.isSome && K.isSome) = false := by
      cases hE : E.isSome <;> cases hL : L.isSome <;> cases hX : X.isSome <;> cases hK : K.isSome <;> simp [hE, hL, hX, hK] at hc ⊢
      omega
    have hr := ready_part (s0 := s0) (s1 := s1) (s2 := s2) (s3 := s3) (s4 := s4) (s5 := s5) (s6 := s6) _ _ _ _ hnot
    have hne : readyOf E.isSome L.isSome X.isSome K.isSome ≠ [] := by
      cases hE : E.isSome <;> cases hL : L.isSome <;> cases hX : X.isSome <;> cases hK : K.isSome <;> simp [readyOf, hE, hL, hX, hK] at hnot ⊢
    refine wpAny_all (fuel := m + 3) hr hne fun i hi => ?_
    have hi' : (i = 0 ∧ E = none) ∨ (i = 1 ∧ L = none) ∨ (i = 2 ∧ X = none) ∨ (i = 3 ∧ K = none) := by
      revert hi
      cases E <;> cases L <;> cases X <;> cases K <;> simp [readyOf]
    rcases hi' with ⟨rfl, rfl⟩ | ⟨rfl, rfl⟩ | ⟨rfl, rfl⟩ | ⟨rfl, rfl⟩
    · refine op0 ?_
      rw [fr4_put0]
      exact makes_from Q s0 s1 s2 s3 s4 s5 s6 w cP a hsz hQ m (n + 1) (some wx.heap.size) L X K x0 x1 x2 x3 _ (by omega) (by simp at hc ⊢; omega) hp.makeE
    · refine op1 ?_
      rw [fr4_put1]
      exact makes_from Q s0 s1 s2 s3 s4 s5 s6 w cP a hsz hQ m (n + 1) E (some wx.heap.size) X K x0 x1 x2 x3 _ (by omega) (by simp at hc ⊢; omega) hp.makeL
    · refine op2 ?_
      rw [fr4_put2]
      exact makes_from Q s0 s1 s2 s3 s4 s5 s6 w cP a hsz hQ m (n + 1) E L (some wx.heap.size) K x0 x1 x2 x3 _ (by omega) (by simp at hc ⊢; omega) hp.makeX
    · refine op3 ?_
      rw [fr4_put3]
      exact makes_from Q s0 s1 s2 s3 s4 s5 s6 w cP a hsz hQ m (n + 1) E L X (some wx.heap.size) x0 x1 x2 x3 _ (by omega) (by simp at hc ⊢; omega) hp.makeK

/-- THE REGION. -/
theorem makes_any (Q : Exit → Act → World → Prop) (id : Nat) (s0 s1 s2 s3 s4 s5 s6 : String) (w : World) (cP : Array Value) (a : Act) (hsz : 27 < a.tmps.size)
    (hQ : ∀ E L X K wy, Init w wy cP E L X K → Q .normal ((((fr4 a (.slice (some ⟨E, 0, none⟩) 3 3) (.slice (some ⟨L, 0, none⟩) 3 3) (.slice (some ⟨X, 0, none⟩) 3 3) (.slice (some ⟨K, 0, none⟩) 3 3)).put (some 26) (.agg (strandsOf E L X K))).put (some 27) (.pointer (some ⟨w.heap.size + 6, 0, none⟩))).put (some 7) (.pointer (some ⟨w.heap.size + 6, 0, none⟩))) wy) :
    (Code.region id (makes s0 s1 s2 s3 s4 s5 s6) true).wp Yba.prog Q a ((w.alloc (.cells cP 65)).alloc (.cells zeroR 69)) := by
  refine wp_region_any (by kernel_rfl) ?_
  have hp : Part w ((w.alloc (.cells cP 65)).alloc (.cells zeroR 69)).drew cP 0 none none none none :=
    ⟨(Blk.new w cP 65).alloc _, by have := Blk.new (w.alloc (.cells cP 65)) zeroR 69; rw [World.size_alloc] at this; exact this, by simp, (((Below.refl _ _).alloc (Nat.le_refl _) _).alloc (by simp) _).drew,
      fun g e => (by cases e), fun g e => (by cases e), fun g e => (by cases e), fun g e => (by cases e), fun g e => (by cases e), fun g e => (by cases e), fun g e => (by cases e), fun g e => (by cases e), fun g e => (by cases e), fun g e => (by cases e)⟩
  have h := makes_from Q s0 s1 s2 s3 s4 s5 s6 w cP a hsz hQ 4 0 none none none none (a.tmps.getD 22 undef) (a.tmps.getD 23 undef) (a.tmps.getD 24 undef) (a.tmps.getD 25 undef) _ (by omega) (by simp) hp
  have ha : fr4 a (sl none (a.tmps.getD 22 undef)) (sl none (a.tmps.getD 23 undef)) (sl none (a.tmps.getD 24 undef)) (sl none (a.tmps.getD 25 undef)) = a := by
    have key : ∀ (t : Array Value) (d : Nat), d < t.size → t.setIfInBounds d (t.getD d undef) = t := fun t d hd => set_id (by rw [Array.getD_eq_getD_getElem?]; simp [hd])
    simp only [fr4, sl]
    rw [key _ 22 (by omega), key _ 23 (by omega), key _ 24 (by omega), key _ 25 (by omega)]
  rw [ha] at h
  exact h
end Go.Proofs.Ybulkdyfo
