/-
  'copy' of elements of several cells, and 'clear' of a slice, as laws for the walk.
-/
import Derived.Test.YbulkdyfoQueue
import Derived.Laws.CopyOwn
namespace Go.Proofs.Ybulkdyfo
open Go.RowKit

variable {P : Program}

theorem run_copy_rowK (w : World) (dT sT ty elem : TypeId) (g o dLen dCap : Nat) (a : Addr) (sLen sCap : Nat) (cur : Array Value) (t : TypeId) (cs : List Value) (k n : Nat)
    (hu : P.underlying dT = some (.slice elem)) (hs : (P.info? elem).map (·.size) = some k)
    (hg : w.heap[g]? = some (.cells cur t (0, 0))) (hn : n = Nat.min sLen dLen) (hcs : cs.length = n * k)
    (hsrc : ∀ j v, cs[j]? = some v → w.cell? (a.add j) = some v) (hfit : o + cs.length ≤ cur.size) (h1 : ∀ v ∈ cs, v.oneCell' = true) :
    (Builtin.copy_ #[dT, sT] ty #[.slice (some ⟨g, o, none⟩) dLen dCap, .slice (some a) sLen sCap]).run P w =
      .ok (goInt n) (w.setRow g (cur.toList.take o ++ cs ++ cur.toList.drop (o + cs.length)).toArray) := by
  have hl := run_loadCells_list (P := P) w a cs hsrc
  have hst := run_storeCells_at P g o t cs 0 cur w hg (by simpa using hfit) h1
  cases hq : P.info? elem with
  | none => simp [hq] at hs
  | some i =>
    have hi : i.size = k := by simpa [hq] using hs
    rw [hcs] at hl
    simp [Builtin.copy_, run_underlying hu, Builtin.lenOf, Builtin.firstCells, sizeOf, typeInfo, hq, hi, ← hn, hl, hst]

theorem run_copy_noneK (w : World) (dT sT ty elem : TypeId) (dp sp : Option Addr) (dLen dCap sLen sCap k : Nat) (hu : P.underlying dT = some (.slice elem)) (hs : (P.info? elem).map (·.size) = some k) (hn : Nat.min sLen dLen = 0) :
    (Builtin.copy_ #[dT, sT] ty #[.slice dp dLen dCap, .slice sp sLen sCap]).run P w = .ok (goInt 0) w := by
  cases hq : P.info? elem with
  | none => simp [hq] at hs
  | some i =>
    cases sp <;> cases dp <;> simp [Builtin.copy_, run_underlying hu, Builtin.lenOf, Builtin.firstCells, sizeOf, typeInfo, hq, hn, storeCells, loadCells, loadCellsFrom]

theorem keeps_setRow (w : World) (g : Nat) (cs : Array Value) : Keeps (fun k => k = g) w (w.setRow g cs) :=
  ⟨rfl, rfl, rfl, by simp [World.setRow], fun k _ hk => setRow_other w g k cs hk⟩

theorem wpList_copyK {w : World} {ops : Array Oper} {rest : List Oper} {o : Oper} {a : Act} {Q : Exit → Act → World → Prop} (hgd : o.guard = none) (d s : Operand) (dT sT : TypeId)
    (ho : o.op = .call { callee := .builtin .copy, args := #[d, s], argTypes := #[dT, sT] }) (elem : TypeId) (k : Nat) (hu : P.underlying dT = some (.slice elem)) (hsz : (P.info? elem).map (·.size) = some k)
    (dp sp : Option Addr) (dLen dCap sLen sCap : Nat) (hd : a.eval d = .slice dp dLen dCap) (hs : a.eval s = .slice sp sLen sCap)
    (g off : Nat) (cur : List Value) (t : TypeId) (hg : w.heap[g]? = some (.cells cur.toArray t (0, 0))) (n : Nat) (cs : List Value) (hn : n = Nat.min sLen dLen) (hcs : cs.length = n * k)
    (hpos : 0 < n → dp = some ⟨g, off, none⟩ ∧ ∃ ad, sp = some ad ∧ ∀ j v, cs[j]? = some v → w.cell? (ad.add j) = some v)
    (hfit : off + cs.length ≤ cur.length) (h1 : ∀ v ∈ cs, v.oneCell' = true)
    (h : ∀ w', Hid (w'.heap[g]? = some (.cells (splice cur off cs).toArray t (0, 0))) → Keeps (fun k => k = g) w w' → wpList P ops Q rest (a.put o.dst (goInt n)) w') :
    wpList P ops Q (o :: rest) a w := by
  refine wpList_plain hgd fun K hK => ?_
  by_cases h0 : n = 0
  · subst h0
    obtain rfl : cs = [] := List.eq_nil_of_length_eq_zero (by simpa using hcs)
    have hrun := run_copy_noneK (P := P) w dT sT o.type elem dp sp dLen dCap sLen sCap k hu hsz hn.symm
    unfold Oper.wp
    simp [execOp, ho, resolve, invoke, builtin, hd, hs, hrun, Result.andThen]
    exact hK _ _ (h w (show _ = _ by simpa [splice] using hg) (Keeps.refl _ _))
  · obtain ⟨rfl, ad, rfl, hsrc⟩ := hpos (by omega)
    have hrun := run_copy_rowK (P := P) w dT sT o.type elem g off dLen dCap ad sLen sCap cur.toArray t cs k n hu hsz hg hn hcs hsrc (by simpa using hfit) h1
    unfold Oper.wp
    simp [execOp, ho, resolve, invoke, builtin, hd, hs, hrun, Result.andThen]
    exact hK _ _ (h _ (show _ = _ by simpa [splice] using setRow_heap w g _ _ t _ hg) (keeps_setRow _ _ _))

theorem step_copyK {ops : Array Oper} {o : Oper} {a : Act} {w : World} {K : Act → World → Prop} {Q : Exit → Act → World → Prop} {E : Prop} (hgd : o.guard = none) (d s : Operand) (dT sT : TypeId)
    (ho : o.op = .call { callee := .builtin .copy, args := #[d, s], argTypes := #[dT, sT] }) (elem : TypeId) (k : Nat) (hu : P.underlying dT = some (.slice elem)) (hsz : (P.info? elem).map (·.size) = some k)
    (dp sp : Option Addr) (dLen dCap sLen sCap : Nat) (hd : a.eval d = .slice dp dLen dCap) (hs : a.eval s = .slice sp sLen sCap)
    (g off : Nat) (cur : List Value) (t : TypeId) (hg : w.heap[g]? = some (.cells cur.toArray t (0, 0))) (n : Nat) (cs : List Value) (hn : n = Nat.min sLen dLen) (hcs : cs.length = n * k)
    (hpos : 0 < n → dp = some ⟨g, off, none⟩ ∧ ∃ ad, sp = some ad ∧ ∀ j v, cs[j]? = some v → w.cell? (ad.add j) = some v)
    (hfit : off + cs.length ≤ cur.length) (h1 : ∀ v ∈ cs, v.oneCell' = true)
    (h : ∀ w', Hid (w'.heap[g]? = some (.cells (splice cur off cs).toArray t (0, 0))) → Keeps (fun k => k = g) w w' → K (a.put o.dst (goInt n)) w') :
    if Region.wanted o (yielded ops a.tmps) = true then Oper.wp P o a w K Q else E := by
  have hw : Region.wanted o (yielded ops a.tmps) = true := by simp [Region.wanted, hgd]
  rw [if_pos hw]
  by_cases h0 : n = 0
  · subst h0
    obtain rfl : cs = [] := List.eq_nil_of_length_eq_zero (by simpa using hcs)
    have hrun := run_copy_noneK (P := P) w dT sT o.type elem dp sp dLen dCap sLen sCap k hu hsz hn.symm
    unfold Oper.wp
    simp [execOp, ho, resolve, invoke, builtin, hd, hs, hrun, Result.andThen]
    exact h w (show _ = _ by simpa [splice] using hg) (Keeps.refl _ _)
  · obtain ⟨rfl, ad, rfl, hsrc⟩ := hpos (by omega)
    have hrun := run_copy_rowK (P := P) w dT sT o.type elem g off dLen dCap ad sLen sCap cur.toArray t cs k n hu hsz hg hn hcs hsrc (by simpa using hfit) h1
    unfold Oper.wp
    simp [execOp, ho, resolve, invoke, builtin, hd, hs, hrun, Result.andThen]
    exact h _ (show _ = _ by simpa [splice] using setRow_heap w g _ _ t _ hg) (keeps_setRow _ _ _)

theorem run_clear_row (w : World) (T ty elem : TypeId) (g o n cap : Nat) (cur : Array Value) (t : TypeId) (z : Value) (i : TypeInfo) (hu : P.underlying T = some (.slice elem)) (hi : P.info? elem = some i) (hz : i.zero = some z)
    (hn : 0 < n) (hg : w.heap[g]? = some (.cells cur t (0, 0))) (hfit : o + (Builtin.zeroCells z.cells n).size ≤ cur.size) (h1 : ∀ v ∈ (Builtin.zeroCells z.cells n).toList, v.oneCell' = true) :
    (Builtin.clear_ #[T] ty #[.slice (some ⟨g, o, none⟩) n cap]).run P w =
      .ok (.tuple #[]) (w.setRow g (cur.toList.take o ++ (Builtin.zeroCells z.cells n).toList ++ cur.toList.drop (o + (Builtin.zeroCells z.cells n).size)).toArray) := by
  have hst := run_storeCells_at P g o t (Builtin.zeroCells z.cells n).toList 0 cur w hg (by simpa using hfit) h1
  obtain ⟨m, rfl⟩ : ∃ m, n = m + 1 := ⟨n - 1, by omega⟩
  simp [Builtin.clear_, run_underlying hu, zeroValue, typeInfo, hi, hz, hst]

theorem wpList_clearK {w : World} {ops : Array Oper} {rest : List Oper} {o : Oper} {a : Act} {Q : Exit → Act → World → Prop} (hgd : o.guard = none) (s : Operand) (T : TypeId)
    (ho : o.op = .call { callee := .builtin .clear, args := #[s], argTypes := #[T] }) (elem : TypeId) (z : Value) (i : TypeInfo) (hu : P.underlying T = some (.slice elem)) (hi : P.info? elem = some i) (hz : i.zero = some z)
    (g off n cap : Nat) (hs : a.eval s = .slice (some ⟨g, off, none⟩) n cap) (hn : 0 < n) (cur : Array Value) (t : TypeId) (hg : w.heap[g]? = some (.cells cur t (0, 0)))
    (hfit : off + (Builtin.zeroCells z.cells n).size ≤ cur.size) (h1 : ∀ v ∈ (Builtin.zeroCells z.cells n).toList, v.oneCell' = true)
    (h : ∀ w' cur', Hid (Blk w' g cur' t ∧ cur'.size = cur.size ∧ cur'.toList.take off = cur.toList.take off) → Keeps (fun k => k = g) w w' → wpList P ops Q rest (a.put o.dst (.tuple #[])) w') :
    wpList P ops Q (o :: rest) a w := by
  refine wpList_plain hgd fun K hK => ?_
  have hrun := run_clear_row (P := P) w T o.type elem g off n cap cur t z i hu hi hz hn hg hfit h1
  unfold Oper.wp
  simp [execOp, ho, resolve, invoke, builtin, hs, hrun, Result.andThen]
  refine hK _ _ (h _ _ ⟨setRow_heap w g _ _ t _ hg, ?_, ?_⟩ (keeps_setRow _ _ _))
  · simp at hfit ⊢
    omega
  · have hl : off ≤ cur.toList.length := by simp; omega
    rw [List.take_append_of_le_length (by simp; omega), List.take_take, Nat.min_self]
end Go.Proofs.Ybulkdyfo
