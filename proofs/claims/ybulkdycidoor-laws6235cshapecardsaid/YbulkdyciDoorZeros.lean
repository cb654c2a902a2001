import Derived.Test.YbulkdyciDoorRows
import Derived.WalkKit
import Derived.WalkSpells
import Derived.WalkLawsBesides
import Derived.Laws.Bits64b
import Derived.Lib.TrailingZeros
import Derived.Shelf.Spec.TrailingZeros
namespace Go.Proofs.YbulkdyciDoor
open Go.RowKit

set_option maxHeartbeats 1000000 in
theorem tz64_core (x k idx : Nat) (w : World) (hx0 : ((x : Int) == 0) = false)
    (key : IntKind.u64.wrap (bits BinOp.and IntKind.u64 (x : Int) (IntKind.u64.wrap (-(x : Int))) * 285870213051353865) / 288230376151711744 = (idx : Int))
    (hi : idx < 64) (hk : k < 64) (hcell : w.cell? ⟨1, idx, none⟩ = some (.int .u8 k)) :
    Calls Ybad.prog 10 #[.int .u64 x] w fun e w' => e = .returned (.int .i64 k) ∧ w' = w := by
  go_enter Ybad.func10, Ybad.ntmps10
  go_wp2_with (simp only [key])
  go_ret
  exact ⟨rfl, rfl⟩

/-- TrailingZeros64 of a number that is not 0, its table in its variable. -/
theorem tz64_any (x : Nat) (hx : x < 18446744073709551616) (hx0 : x ≠ 0) (w : World) (hT : TabAt 1 Lib.deBruijn64tab w) :
    Calls Ybad.prog 10 #[.int .u64 x] w fun e w' => e = .returned (.int .i64 (Lib.ctz 64 x)) ∧ w' = w := by
  obtain ⟨hlow, hk⟩ := Lib.lowest_bit 64 x hx0 hx
  obtain ⟨hi, htab⟩ := Lib.deBruijn64_at _ hk
  have hcell := hT _ hi
  rw [htab] at hcell
  exact tz64_core x _ _ w (by simp; omega) (tz64_key x _ hx hx0 hlow) hi hk hcell

/-- TrailingZeros of a number that is not 0. -/
theorem tz_any (x : Nat) (hx : x < 18446744073709551616) (hx0 : x ≠ 0) (w : World) (hT : TabAt 1 Lib.deBruijn64tab w) :
    Calls Ybad.prog 7 #[.int .u64 x] w fun e w' => e = .returned (.int .i64 (Lib.ctz 64 x)) ∧ w' = w := by
  have c64 := tz64_any x hx hx0 w hT
  have hw : IntKind.u64.wrap (x : Int) = (x : Int) := by rw [IntKind.wrap_u64]; omega
  go_enter Ybad.func7, Ybad.ntmps7
  go_wp2_with (go_at_call 10; refine c64.mono ?_; rintro e w' ⟨rfl, hw'⟩; rw [hw'])
  go_ret
  exact ⟨rfl, rfl⟩
end Go.Proofs.YbulkdyciDoor
