import Derived.Test.YbulkdyfoCheck3
namespace Go.Proofs.Ybulkdyfo
open Go.RowKit

def zeroR : Array Value := #[.nilIface, .int .i64 0, .int .i64 0, .int .i64 0, .slice none 0 0]
def zeroB : Array Value := #[.bool false, .bool false, .bool false]
def zeroI : Array Value := #[.int .i64 0, .int .i64 0, .int .i64 0]
def zeroX : Array Value := #[.int .i64 0, .int .i64 0, .int .i64 0, .int .i64 0, .int .i64 0, .int .i64 0]
def strandsOf (E L X K : Nat) : Array Value :=
  #[.slice (some ⟨E, 0, none⟩) 3 3, .slice (some ⟨L, 0, none⟩) 3 3, .slice none 0 0, .slice none 0 0, .slice none 0 0, .slice (some ⟨X, 0, none⟩) 3 3, .slice (some ⟨K, 0, none⟩) 3 3,
    .slice none 0 0, .slice none 0 0, .slice none 0 0, .slice none 0 0, .slice none 0 0]

/-- Four rows, four places behind B + 1. -/
structure Apart (B E L X K : Nat) : Prop where
  e : B + 2 ≤ E ∧ E ≤ B + 5
  l : B + 2 ≤ L ∧ L ≤ B + 5
  x : B + 2 ≤ X ∧ X ≤ B + 5
  k : B + 2 ≤ K ∧ K ≤ B + 5
  el : E ≠ L
  ex : E ≠ X
  ek : E ≠ K
  lx : L ≠ X
  lk : L ≠ K
  xk : X ≠ K

/-- The memory that the law has made ahead of its first loop. -/
structure Init (w wx : World) (cP : Array Value) (E L X K : Nat) : Prop where
  bS : Blk wx (w.heap.size + 6) (strandsOf E L X K) 74
  bP : Blk wx w.heap.size cP 65
  bR : Blk wx (w.heap.size + 1) zeroR 69
  bE : Blk wx E zeroB 4
  bL : Blk wx L zeroI 3
  bX : Blk wx X zeroX 76
  bK : Blk wx K zeroB 4
  size : wx.heap.size = w.heap.size + 7
  below : Below w.heap.size w wx
  apart : Apart w.heap.size E L X K

/-- Six blocks laid one behind the other, then the strands'. -/
theorem init_of (w : World) (cP : Array Value) (o2 o3 o4 o5 : Obj) (E L X K : Nat) (hA : Apart w.heap.size E L X K)
    (hE : #[o2, o3, o4, o5][E - (w.heap.size + 2)]? = some (.cells zeroB 4)) (hL : #[o2, o3, o4, o5][L - (w.heap.size + 2)]? = some (.cells zeroI 3))
    (hX : #[o2, o3, o4, o5][X - (w.heap.size + 2)]? = some (.cells zeroX 76)) (hK : #[o2, o3, o4, o5][K - (w.heap.size + 2)]? = some (.cells zeroB 4)) :
    Init w (((((((w.alloc (.cells cP 65)).alloc (.cells zeroR 69)).alloc o2).alloc o3).alloc o4).alloc o5).alloc (.cells (strandsOf E L X K) 74)) cP E L X K := by
  have key : ∀ (g : Nat) (cs : Array Value) (t : TypeId), w.heap.size + 2 ≤ g → g ≤ w.heap.size + 5 → #[o2, o3, o4, o5][g - (w.heap.size + 2)]? = some (.cells cs t) →
      Blk (((((((w.alloc (.cells cP 65)).alloc (.cells zeroR 69)).alloc o2).alloc o3).alloc o4).alloc o5).alloc (.cells (strandsOf E L X K) 74)) g cs t := by
    intro g cs t h1 h2 h3
    show (((((((w.heap.push _).push _).push o2).push o3).push o4).push o5).push _)[g]? = _
    rcases (show g = w.heap.size + 2 ∨ g = w.heap.size + 3 ∨ g = w.heap.size + 4 ∨ g = w.heap.size + 5 by omega) with rfl | rfl | rfl | rfl
    all_goals
      simp only [Array.getElem?_push, Array.size_push]
      simp at h3
      rw [← h3]
      repeat (first | rw [if_pos trivial] | rw [if_pos (by omega)] | rw [if_neg (by omega)])
  exact {
    bS := by show (((((((w.heap.push _).push _).push o2).push o3).push o4).push o5).push _)[_]? = _; simp only [Array.getElem?_push, Array.size_push]; repeat (first | rw [if_pos trivial] | rw [if_pos (by omega)] | rw [if_neg (by omega)])
    bP := ((((((Blk.new w cP 65).alloc _).alloc _).alloc _).alloc _).alloc _).alloc _
    bR := by show (((((((w.heap.push _).push _).push o2).push o3).push o4).push o5).push _)[_]? = _; simp only [Array.getElem?_push, Array.size_push]; repeat (first | rw [if_pos trivial] | rw [if_pos (by omega)] | rw [if_neg (by omega)])
    bE := key E _ _ hA.e.1 hA.e.2 hE
    bL := key L _ _ hA.l.1 hA.l.2 hL
    bX := key X _ _ hA.x.1 hA.x.2 hX
    bK := key K _ _ hA.k.1 hA.k.2 hK
    size := by simp
    below := (((((((Below.refl _ _).alloc (Nat.le_refl _) _).alloc (by simp) _).alloc (by simp; omega) _).alloc (by simp; omega) _).alloc (by simp; omega) _).alloc (by simp; omega) _).alloc (by simp; omega) _
    apart := hA }

theorem apart_of (B e l x k : Nat) (h : (decide (e < 4 ∧ l < 4 ∧ x < 4 ∧ k < 4 ∧ e ≠ l ∧ e ≠ x ∧ e ≠ k ∧ l ≠ x ∧ l ≠ k ∧ x ≠ k)) = true) : Apart B (B + 2 + e) (B + 2 + l) (B + 2 + x) (B + 2 + k) := by
  have h := of_decide_eq_true h
  exact ⟨by omega, by omega, by omega, by omega, by omega, by omega, by omega, by omega, by omega, by omega⟩

/-- .. by four numbers below 4. -/
theorem init_by (w : World) (cP : Array Value) (o2 o3 o4 o5 : Obj) (e l x k : Nat) (h : (decide (e < 4 ∧ l < 4 ∧ x < 4 ∧ k < 4 ∧ e ≠ l ∧ e ≠ x ∧ e ≠ k ∧ l ≠ x ∧ l ≠ k ∧ x ≠ k)) = true)
    (hE : #[o2, o3, o4, o5][e]? = some (.cells zeroB 4)) (hL : #[o2, o3, o4, o5][l]? = some (.cells zeroI 3)) (hX : #[o2, o3, o4, o5][x]? = some (.cells zeroX 76)) (hK : #[o2, o3, o4, o5][k]? = some (.cells zeroB 4)) :
    Init w (((((((w.alloc (.cells cP 65)).alloc (.cells zeroR 69)).alloc o2).alloc o3).alloc o4).alloc o5).alloc (.cells (strandsOf (w.heap.size + 2 + e) (w.heap.size + 2 + l) (w.heap.size + 2 + x) (w.heap.size + 2 + k)) 74)) cP (w.heap.size + 2 + e) (w.heap.size + 2 + l) (w.heap.size + 2 + x) (w.heap.size + 2 + k) :=
  init_of w cP o2 o3 o4 o5 _ _ _ _ (apart_of _ e l x k h) (by rw [Nat.add_sub_cancel_left]; exact hE) (by rw [Nat.add_sub_cancel_left]; exact hL) (by rw [Nat.add_sub_cancel_left]; exact hX) (by rw [Nat.add_sub_cancel_left]; exact hK)

theorem Init.drew {w wx : World} {cP : Array Value} {E L X K : Nat} (h : Init w wx cP E L X K) : Init w wx.drew cP E L X K :=
  ⟨h.bS, h.bP, h.bR, h.bE, h.bL, h.bX, h.bK, h.size, h.below.drew, h.apart⟩
end Go.Proofs.Ybulkdyfo
