import Derived.Test.YbulkdyfoRows
import Derived.Test.YbulkdyfoHeap
import Derived.Deep.QuietTactic
import Derived.BigQuiet
import Derived.Deep.Cut
import Derived.Deep.DeepCutAuto
namespace Go.Proofs.Ybulkdyfo
open Go.RowKit

theorem Yba.info3 : (Yba.prog.info? 3).map (fun i => (i.zero, i.size, i.bytes)) = some (some (.int .i64 0), 1, 8) := by kernel_rfl

/-- The rules behind one call of Count: its one call is j. -/
structure Called (w w' : World) (R : Nat) (cR : Array Value) (j : Nat) : Prop where
  row : ∃ g c cur, Blk w' R (cR.setIfInBounds 4 (.slice (some ⟨g, 0, none⟩) 1 c)) 69 ∧ Blk w' g cur 3 ∧ cur[0]? = some (.int .i64 j) ∧ w.heap.size ≤ g
  kept : w.grownBy w' (some R)

theorem called_of {w w1 : World} {R j : Nat} {cR : Array Value} {v' : Value} (hR : Blk w R cR 69)
    (hown : w1.ownsRow w.heap.size 3 1 v' 1 [.int .i64 j]) (hg : (w.alloc (.cells #[.int .i64 j] 3)).grownBy w1 none) :
    ∃ g c, v' = .slice (some ⟨g, 0, none⟩) 1 c ∧ Blk w1 R cR 69 ∧ Called w (w1.setCell ⟨R, 4, none⟩ v') R cR j := by
  rcases hown.2 with ⟨_, e⟩ | ⟨g, c, cur, rfl, hb, hh, _, _, _, ht⟩
  · omega
  have hlt := hR.lt
  have hR1 : Blk w1 R cR 69 := (hR.alloc _).grown hg (by simp)
  refine ⟨g, c, rfl, hR1, ⟨⟨g, c, cur, hR1.set_same 4 (.slice (some ⟨g, 0, none⟩) 1 c), Blk.set_other hh (by simp; omega) _, ?_, hb⟩, ?_⟩⟩
  · have := congrArg (fun l => l[0]?) ht
    simpa using this
  · have hs := hg.size
    refine ⟨hg.os, hg.tape, hg.output, by simp [World.setCell] at hs ⊢; omega, fun k hk hne => ?_⟩
    rw [Below.heap_setCell _ _ _ _ (by simpa using hne), hg.block k (by simp; omega) (by simp), Below.heap_alloc _ _ _ hk]

set_option maxHeartbeats 400000 in
theorem count_any (R j : Nat) (cj : Int) (cR : Array Value) (w : World) (hj : j < 3) (hR : Blk w R cR 69) (hc4 : cR[4]? = some (.slice none 0 0)) (hcj : cR[1 + j]? = some (.int .i64 cj)) :
    Calls Yba.prog 34 #[.pointer (some ⟨R, 0, none⟩), .int .i64 j] w fun e w' => e = .returned (.int .i64 cj) ∧ Called w w' R cR j := by
  obtain ⟨i0, hi, hz0, hz1, hz2⟩ := info_parts Yba.info3
  have h4 : w.cell? ⟨R, 4, none⟩ = some (.slice none 0 0) := (hR.cell 4).trans hc4
  go_enter Yba.func34, Yba.ntmps34
  go_wp2_with (at_builtin; refine wpList_append_own _ rfl _ _ 24 rfl w.heap.size 3 i0 (.int .i64 0) 1 8 Yba.underlying24 hi hz0 hz1 hz2 rfl (by decide) _ _ _ rfl (World.ownsRow_nil _ _ _ _) ⟨w.heap.size, 0, none⟩ 1 1 [.int .i64 j] rfl rfl ?c1 ?c2 (by unfold maxLen; omega) (by omega) (by simp) ?_)
  case c1 =>
    intro j u hj
    match j, hj with
    | 0, hj => simp at hj; subst hj; simp [Addr.add]
  case c2 => intro u hu; simp at hu; subst hu; rfl
  intro v' w1 hown hg _
  obtain ⟨g, c, hv, hR1, hC⟩ := called_of hR hown hg
  rw [hv] at hC ⊢
  clear hv hown hg h4
  have h4 : w1.cell? ⟨R, 4, none⟩ = some (.slice none 0 0) := (hR1.cell 4).trans hc4
  have f4 : w1.frozen? ⟨R, 4, none⟩ = false := hR1.free 4
  have hj1 : w1.cell? ⟨R, 1 + j, none⟩ = some (.int .i64 cj) := (hR1.cell _).trans hcj
  clear hcj hc4 hR hR1
  have HC : Hid _ := hC
  clear hC
  rcases (show j = 0 ∨ j = 1 ∨ j = 2 by omega) with rfl | rfl | rfl
  all_goals
    go_wp2
    go_ret
    exact ⟨rfl, HC.out⟩
end Go.Proofs.Ybulkdyfo
