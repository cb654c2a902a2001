import Derived.Test.YbulkdyciLaw1
namespace Go.Proofs.Ybulkdyci
open Go.RowKit Go.Maps

theorem own_nil {w : World} {base : Nat} {e : TypeId} {size n c : Nat} {ao : Option Addr} {xs : List Value} (h : w.ownsRow base e size (.slice ao n c) n xs) (hn : ao = none) : n = 0 ∧ c = 0 := by
  subst hn
  rcases h.2 with ⟨e, rfl⟩ | ⟨g, cap, cur, e, _⟩
  · simp at e
    exact ⟨rfl, by omega⟩
  · cases e

/-- The five rows as the law reads them. -/
structure Bun (u : World) (K W : Nat) (a : Nat → Option Addr) (c : Nat → Nat) (L0 L1 L2 L3 L4 : List Int) : Prop where
  w : u.cell? ⟨K, 0, none⟩ = some (.int .i64 W)
  d0 : u.cell? ⟨K, 1, none⟩ = some (.slice (a 0) L0.length (c 0))
  r0 : Reads u .u64 (a 0) L0
  z0 : a 0 = none → L0.length = 0 ∧ c 0 = 0
  d1 : u.cell? ⟨K, 2, none⟩ = some (.slice (a 1) L1.length (c 1))
  r1 : Reads u .u64 (a 1) L1
  z1 : a 1 = none → L1.length = 0 ∧ c 1 = 0
  d2 : u.cell? ⟨K, 3, none⟩ = some (.slice (a 2) L2.length (c 2))
  r2 : Reads u .u32 (a 2) L2
  z2 : a 2 = none → L2.length = 0 ∧ c 2 = 0
  d3 : u.cell? ⟨K, 4, none⟩ = some (.slice (a 3) L3.length (c 3))
  r3 : Reads u .i8 (a 3) L3
  z3 : a 3 = none → L3.length = 0 ∧ c 3 = 0
  d4 : u.cell? ⟨K, 5, none⟩ = some (.slice (a 4) L4.length (c 4))
  r4 : Reads u .i32 (a 4) L4
  z4 : a 4 = none → L4.length = 0 ∧ c 4 = 0

theorem Bun.free {u u' : World} {K W : Nat} {a : Nat → Option Addr} {c : Nat → Nat} {L0 L1 L2 L3 L4 : List Int} (h : Bun u K W a c L0 L1 L2 L3 L4) (k : Keeps (fun _ => False) u u') : Bun u' K W a c L0 L1 L2 L3 L4 :=
  ⟨kcell k h.w id, kcell k h.d0 id, reads_free h.r0 k, h.z0, kcell k h.d1 id, reads_free h.r1 k, h.z1, kcell k h.d2 id, reads_free h.r2 k, h.z2, kcell k h.d3 id, reads_free h.r3 k, h.z3, kcell k h.d4 id, reads_free h.r4 k, h.z4⟩

theorem bun_of {w : World} {K base W n : Nat} {cK : Array Value} {R : Nat → Row} {F C : Nat → Int} {P : Nat → List Int} (h : K5 w K base W cK R) (f : Full R W n F C P) :
    Bun w K W (fun i => (R i).ao) (fun i => (R i).cap) (flat P n) ((List.range n).map F) ((List.range n).map (fun (j : Nat) => (j : Int))) ((List.range n).map C) ((List.range n).map (fun j => lastF F (F j) j)) := by
  have o0 : w.ownsRow base 24 1 (.slice (R 0).ao (R 0).l.length (R 0).cap) (R 0).l.length (R 0).l := h.own 0 (by omega)
  have d0 : w.cell? ⟨K, 1, none⟩ = some (.slice (R 0).ao (R 0).l.length (R 0).cap) := (h.blk.cell 1).trans (h.cs 0 (by omega))
  rw [f.l0, ints_len] at o0 d0
  have o1 : w.ownsRow base 24 1 (.slice (R 1).ao (R 1).l.length (R 1).cap) (R 1).l.length (R 1).l := h.own 1 (by omega)
  have d1 : w.cell? ⟨K, 2, none⟩ = some (.slice (R 1).ao (R 1).l.length (R 1).cap) := (h.blk.cell 2).trans (h.cs 1 (by omega))
  rw [f.l1, ints_len] at o1 d1
  have o2 : w.ownsRow base 37 1 (.slice (R 2).ao (R 2).l.length (R 2).cap) (R 2).l.length (R 2).l := h.own 2 (by omega)
  have d2 : w.cell? ⟨K, 3, none⟩ = some (.slice (R 2).ao (R 2).l.length (R 2).cap) := (h.blk.cell 3).trans (h.cs 2 (by omega))
  rw [f.l2, ints_len] at o2 d2
  have o3 : w.ownsRow base 25 1 (.slice (R 3).ao (R 3).l.length (R 3).cap) (R 3).l.length (R 3).l := h.own 3 (by omega)
  have d3 : w.cell? ⟨K, 4, none⟩ = some (.slice (R 3).ao (R 3).l.length (R 3).cap) := (h.blk.cell 4).trans (h.cs 3 (by omega))
  rw [f.l3, ints_len] at o3 d3
  have o4 : w.ownsRow base 21 1 (.slice (R 4).ao (R 4).l.length (R 4).cap) (R 4).l.length (R 4).l := h.own 4 (by omega)
  have d4 : w.cell? ⟨K, 5, none⟩ = some (.slice (R 4).ao (R 4).l.length (R 4).cap) := (h.blk.cell 5).trans (h.cs 4 (by omega))
  rw [f.l4, ints_len] at o4 d4
  exact ⟨(h.blk.cell 0).trans h.c0, d0, reads_own o0, own_nil o0, d1, reads_own o1, own_nil o1, d2, reads_own o2, own_nil o2, d3, reads_own o3, own_nil o3, d4, reads_own o4, own_nil o4⟩
end Go.Proofs.Ybulkdyci
