import Derived.Test.YbulkdyemWarned
import Derived.Deep.QuietTactic
import Derived.BigQuiet
namespace Go.Proofs.Ybulkdyem
open Go.RowKit

set_option maxHeartbeats 400000 in
theorem warned_none (ao : Option Addr) (cap : Nat) (w : World) :
    Calls Yba.prog 5 #[.slice ao 0 cap] w fun e w' => e = .returned (.agg #[.pointer none, .slice none 0 0]) ∧ Below w.heap.size w w' := by
  go_enter Yba.func5, Yba.ntmps5
  go_wp2
  refine wp_loop_rounds 1 ?_
  rw [rounds_succ]
  go_wp2
  exact bodyPost_ret (v := .agg #[.pointer none, .slice none 0 0]) (by simp [results, Yba.results5, go_sem]) rfl ⟨rfl, ((Below.refl _ _).alloc (Nat.le_refl _) _).alloc (by simp) _⟩

/-- The facts on '== nil' and '!= nil' that the law's walk meets. -/
theorem neq22 (w : World) (a : Option Addr) (n c : Nat) : (binOp .neq 22 (.slice a n c) (.slice none 0 0)).run Yba.prog w = .ok (.bool (!a.isNone)) w := run_neq_slice_nil_any w 22 9 a n c 0 0 Yba.underlying22
theorem neq24 (w : World) (a : Option Addr) (n c : Nat) : (binOp .neq 24 (.slice a n c) (.slice none 0 0)).run Yba.prog w = .ok (.bool (!a.isNone)) w := run_neq_slice_nil_any w 24 30 a n c 0 0 Yba.underlying24
theorem eql22 (w : World) (a : Option Addr) (n c : Nat) : (binOp .eql 22 (.slice a n c) (.slice none 0 0)).run Yba.prog w = .ok (.bool a.isNone) w := Lib.run_eql_slice_nil w 22 9 a n c 0 0 Yba.underlying22

set_option maxHeartbeats 400000 in
theorem law_nil (w : World) :
    Calls Yba.prog 3 #[.slice none 0 0] w fun e w' => e = .returned (.bool true) ∧ Below w.heap.size w w' := by
  have n1 := neq22; have n2 := neq24; have n3 := eql22
  go_enter Yba.func3, Yba.ntmps3
  go_wp2_with (go_at_call 5; refine (warned_none _ _ _).mono ?_; rintro e w1 ⟨rfl, hb⟩)
  refine wp_loop_rounds 1 ?_
  rw [rounds_succ]
  go_wp2
  go_ret
  exact ⟨rfl, hb.alloc hb.size _⟩

set_option maxHeartbeats 400000 in
theorem law_long (ao : Option Addr) (len cap : Nat) (w : World) (h : 1048576 < len) (hl : len ≤ 9223372036854775807) :
    Calls Yba.prog 3 #[.slice ao len cap] w fun e w' => e = .returned (.bool true) ∧ Below w.heap.size w w' := by
  go_enter Yba.func3, Yba.ntmps3
  go_wp2
  go_ret
  exact ⟨rfl, Below.refl _ _⟩

theorem Yba.info9 : (Yba.prog.info? 9).map (fun i => (i.zero, i.size, i.bytes)) = some (some (.string ByteArray.empty), 1, 16) := by kernel_rfl

set_option maxHeartbeats 400000 in
theorem law_empty (ad : Addr) (cap : Nat) (w : World) :
    Calls Yba.prog 3 #[.slice (some ad) 0 cap] w fun e w' => e = .returned (.bool true) ∧ Below w.heap.size w w' := by
  have n1 := neq22; have n2 := neq24; have n3 := eql22
  obtain ⟨i0, hi, hz0, hz1, hz2⟩ := info_parts Yba.info9
  go_enter Yba.func3, Yba.ntmps3
  go_wp2_with (at_make; refine wpList_make_full _ rfl _ _ 22 rfl w.heap.size 9 i0 (.string ByteArray.empty) 1 Yba.underlying22 hi hz0 hz1 _ _ _ _ 0 rfl rfl rfl rfl (by omega) (by unfold maxLen; omega) (Nat.le_refl _) ?_)
  intro w1 hown hgrow
  have hb1 := (Below.refl w.heap.size w).grown hgrow (Nat.le_refl _) (fun k e => by simp at e)
  clear hown hgrow
  go_wp2
  refine wp_loop_rounds 1 ?_
  rw [rounds_succ]
  go_wp2_with (go_at_call 5; refine (warned_none _ _ _).mono ?_; rintro e w2 ⟨rfl, hb⟩)
  refine wp_loop_rounds 1 ?_
  rw [rounds_succ]
  go_wp2
  go_ret
  exact ⟨rfl, hb1.trans ((hb.mono hb1.size).alloc (Nat.le_trans hb1.size hb.size) _)⟩
end Go.Proofs.Ybulkdyem
