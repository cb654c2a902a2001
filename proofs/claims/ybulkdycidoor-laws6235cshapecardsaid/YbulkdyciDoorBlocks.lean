import Derived.Test.YbulkdyciDoorModel
import Derived.Test.YbulkdyciDoorLen
import Derived.Test.YbulkdyciDoorZeros
namespace Go.Proofs.YbulkdyciDoor
open Go.RowKit

theorem tab_drewN {w : World} (h : TabAt 1 Lib.deBruijn64tab w) (n : Nat) : TabAt 1 Lib.deBruijn64tab (w.drewN n) := h

set_option maxHeartbeats 400000 in
theorem blocks_small (cells h : Int) (w : World) (b1 : -9223372036854775808 ≤ cells) (b2 : cells ≤ 9223372036854775807) (b3 : -9223372036854775808 ≤ h) (b4 : h ≤ 2305843009213693952)
    (hs : cells < 1024 ∨ cells < h + h) :
    Calls Ybad.prog 5 #[.int .i64 cells, .int .i64 h] w fun e w' => e = .returned (.tuple #[.int .i64 cells, .int .i64 1]) ∧ w' = w := by
  by_cases hh : 512 < h
  · have hlt : cells < h + h := by omega
    clear hs
    go_enter Ybad.func5, Ybad.ntmps5
    go_wp2
    go_ret2
    exact ⟨rfl, rfl⟩
  · have hlt : cells < 1024 := by omega
    clear hs
    go_enter Ybad.func5, Ybad.ntmps5
    go_wp2
    go_ret2
    exact ⟨rfl, rfl⟩

set_option maxHeartbeats 400000 in
theorem blocks_big (c l t z s : Nat) (h : Int) (w : World) (b2 : c ≤ 9223372036854775807) (b4 : l ≤ 2305843009213693952) (hh : 512 ≤ l) (hmax : max 512 h = (l : Int)) (hs : l + l ≤ c)
    (hT : TabAt 1 Lib.deBruijn64tab w) (ht : Lib.ctz 64 c = t) (hz : Lib.bitLen (c / l) = z + 1) (zb : z ≤ 62) (tb : t ≤ 62) (hm : min (t : Int) (z : Int) = (s : Int)) :
    Calls Ybad.prog 5 #[.int .i64 c, .int .i64 h] w fun e w' => e = .returned (.tuple #[.int .i64 ((c : Int) / 2 ^ s), .int .i64 (2 ^ s)]) ∧ ∃ n, w' = w.drewN n := by
  have hdv : (0 : Int) ≤ (c : Int) / l := Int.ediv_nonneg (by omega) (by omega)
  have hdw : (c : Int) / l ≤ c := Int.ediv_le_self _ (by omega)
  have hsb : s ≤ 62 := by omega
  go_enter Ybad.func5, Ybad.ntmps5
  go_wp2_with fail
  go_quiet ((first | (go_at_call 7; exact Calls.quiet_of_same (tz_any c (by omega) (by omega) _ (tab_drewN hT _))) | (go_at_call 8; exact Calls.quiet_of_same (Ybad.bits_Len _ _ (by omega) (by omega)))))
  go_wp2
  go_quiet (fail)
  go_wp2
  go_ret2
  exact ⟨ret2 rfl (wrap_pow s hsb), _, World.drewN_drewN _ _ _⟩
end Go.Proofs.YbulkdyciDoor
