import Derived.Test.YbulkdyciDoorRows
import Derived.Test.YbulkdyciDoorMath
import Derived.WalkKit
import Derived.WalkSpells
import Derived.WalkLawsBesides
import Derived.Deep.QuietTactic
import Derived.BigQuiet
namespace Go.Proofs.YbulkdyciDoor
open Go.RowKit

theorem pow_le_62 (k : Nat) (h : k ≤ 62) : (2 : Int) ^ k ≤ 4611686018427387904 := by
  have h1 : 2 ^ k ≤ 2 ^ 62 := Nat.pow_le_pow_right (by decide) h
  have h2 : ((2 ^ k : Nat) : Int) = (2 : Int) ^ k := by simp
  have h3 : (2 ^ 62 : Nat) = 4611686018427387904 := by decide
  omega

theorem wrap_pow (k : Nat) (h : k ≤ 62) : wrap64 ((2 : Int) ^ k) = 2 ^ k := by
  have h1 := pow_le_62 k h
  have h2 : (0 : Int) < 2 ^ k := Int.pow_pos (by decide)
  exact IntWalk.wrap64_in _ ⟨by omega, by omega⟩

theorem ret2 {a b a' b' : Int} (h1 : a = a') (h2 : b = b') : Ending.returned (.tuple #[.int .i64 a, .int .i64 b]) = .returned (.tuple #[.int .i64 a', .int .i64 b']) := by rw [h1, h2]

theorem div_mul_bds (c : Int) (k : Nat) (h : 0 ≤ c) : 0 ≤ c / 2 ^ (k + 1) * 2 ^ (k + 1) ∧ c / 2 ^ (k + 1) * 2 ^ (k + 1) ≤ c ∧ 0 ≤ c / 2 ^ (k + 1) := by
  have hp : (0 : Int) < 2 ^ (k + 1) := Int.pow_pos (by decide)
  have h1 : 0 ≤ c / 2 ^ (k + 1) := Int.ediv_nonneg h (Int.le_of_lt hp)
  exact ⟨Int.mul_nonneg h1 (Int.le_of_lt hp), Int.ediv_mul_le c (Int.ne_of_gt hp), h1⟩

set_option maxHeartbeats 400000 in
theorem model_small (cells h : Int) (w : World) (b1 : -9223372036854775808 ≤ cells) (b2 : cells ≤ 9223372036854775807) (b3 : -9223372036854775808 ≤ h) (b4 : h ≤ 2305843009213693952)
    (hs : cells < 1024 ∨ cells < h + h) :
    Calls Ybad.prog 6 #[.int .i64 cells, .int .i64 h] w fun e w' => e = .returned (.tuple #[.int .i64 cells, .int .i64 1]) ∧ w' = w := by
  by_cases hh : 512 < h
  · have hlt : cells < h + h := by omega
    clear hs
    go_enter Ybad.func6, Ybad.ntmps6
    go_wp2
    go_ret2
    exact ⟨rfl, rfl⟩
  · have hlt : cells < 1024 := by omega
    clear hs
    go_enter Ybad.func6, Ybad.ntmps6
    go_wp2
    go_ret2
    exact ⟨rfl, rfl⟩

set_option maxHeartbeats 400000 in
theorem model_big_h (cells h : Int) (w : World) (b2 : cells ≤ 9223372036854775807) (b4 : h ≤ 2305843009213693952) (hh : 512 < h) (hs : h + h ≤ cells) :
    Calls Ybad.prog 6 #[.int .i64 cells, .int .i64 h] w fun e w' => ∃ k : Nat, Stops cells h k ∧ e = .returned (.tuple #[.int .i64 (cells / 2 ^ k), .int .i64 (2 ^ k)]) ∧ ∃ n, w' = w.drewN n := by
  go_enter Ybad.func6, Ybad.ntmps6
  go_wp2
  go_loop [7] (fun t => ∃ k : Nat, k ≤ 62 ∧ t = .int .i64 k ∧ ∀ j, j < k → Good cells h j) (fun t => (62 - intOf t).toNat)
  case atStart => exact ⟨0, by omega, rfl, fun j hj => absurd hj (Nat.not_lt_zero j)⟩
  case round =>
    obtain ⟨k, hk, rfl, hg⟩ := hrel
    have HG : Hid (∀ j, j < k → Good cells h j) := hg
    clear hg
    obtain ⟨hb1, hb2, hb3⟩ := div_mul_bds cells k (by omega)
    have hp := pow_le_62 k hk
    by_cases hlt : k < 62
    · by_cases e1 : cells / 2 ^ (k + 1) * 2 ^ (k + 1) = cells
      · by_cases e2 : h ≤ cells / 2 ^ (k + 1)
        · have HS : Hid (Good cells h k) := ⟨e1, e2⟩
          have e1' : (cells / 2 ^ (k + 1) * 2 ^ (k + 1) != cells) = false := by simp [e1]
          clear e1
          go_wp2
          go_round
          case rel => exact ⟨k + 1, by omega, by go_num, fun j hj => by
            rcases Nat.lt_succ_iff_lt_or_eq.1 hj with h1 | h1
            · exact HG.out j h1
            · rw [h1]; exact HS.out⟩
          case measure => simp [intOf]; omega
        · have HS : Hid (Stops cells h k) := ⟨hk, HG.out, Or.inr fun hh => e2 hh.2⟩
          have e1' : (cells / 2 ^ (k + 1) * 2 ^ (k + 1) != cells) = false := by simp [e1]
          clear e1
          go_wp2
          go_quiet (fail)
          go_wp2
          go_ret2
          exact ⟨k, HS.out, ret2 rfl (wrap_pow k hk), _, rfl⟩
      · have HS : Hid (Stops cells h k) := ⟨hk, HG.out, Or.inr fun hh => e1 hh.1⟩
        have e1' : (cells / 2 ^ (k + 1) * 2 ^ (k + 1) != cells) = true := by simp [e1]
        clear e1
        go_wp2
        go_quiet (fail)
        go_wp2
        go_ret2
        exact ⟨k, HS.out, ret2 rfl (wrap_pow k hk), _, rfl⟩
    · have HS : Hid (Stops cells h k) := ⟨hk, HG.out, Or.inl (by omega)⟩
      go_wp2
      go_quiet (fail)
      go_wp2
      go_ret2
      exact ⟨k, HS.out, ret2 rfl (wrap_pow k hk), _, rfl⟩

set_option maxHeartbeats 400000 in
theorem model_big_512 (cells h : Int) (w : World) (b2 : cells ≤ 9223372036854775807) (b3 : -9223372036854775808 ≤ h) (hh : h ≤ 512) (hs : 512 + 512 ≤ cells) :
    Calls Ybad.prog 6 #[.int .i64 cells, .int .i64 h] w fun e w' => ∃ k : Nat, Stops cells 512 k ∧ e = .returned (.tuple #[.int .i64 (cells / 2 ^ k), .int .i64 (2 ^ k)]) ∧ ∃ n, w' = w.drewN n := by
  go_enter Ybad.func6, Ybad.ntmps6
  go_wp2
  go_loop [7] (fun t => ∃ k : Nat, k ≤ 62 ∧ t = .int .i64 k ∧ ∀ j, j < k → Good cells 512 j) (fun t => (62 - intOf t).toNat)
  case atStart => exact ⟨0, by omega, rfl, fun j hj => absurd hj (Nat.not_lt_zero j)⟩
  case round =>
    obtain ⟨k, hk, rfl, hg⟩ := hrel
    have HG : Hid (∀ j, j < k → Good cells 512 j) := hg
    clear hg
    obtain ⟨hb1, hb2, hb3⟩ := div_mul_bds cells k (by omega)
    have hp := pow_le_62 k hk
    by_cases hlt : k < 62
    · by_cases e1 : cells / 2 ^ (k + 1) * 2 ^ (k + 1) = cells
      · by_cases e2 : 512 ≤ cells / 2 ^ (k + 1)
        · have HS : Hid (Good cells 512 k) := ⟨e1, e2⟩
          have e1' : (cells / 2 ^ (k + 1) * 2 ^ (k + 1) != cells) = false := by simp [e1]
          clear e1
          go_wp2
          go_round
          case rel => exact ⟨k + 1, by omega, by go_num, fun j hj => by
            rcases Nat.lt_succ_iff_lt_or_eq.1 hj with h1 | h1
            · exact HG.out j h1
            · rw [h1]; exact HS.out⟩
          case measure => simp [intOf]; omega
        · have HS : Hid (Stops cells 512 k) := ⟨hk, HG.out, Or.inr fun hh => e2 hh.2⟩
          have e1' : (cells / 2 ^ (k + 1) * 2 ^ (k + 1) != cells) = false := by simp [e1]
          clear e1
          go_wp2
          go_quiet (fail)
          go_wp2
          go_ret2
          exact ⟨k, HS.out, ret2 rfl (wrap_pow k hk), _, rfl⟩
      · have HS : Hid (Stops cells 512 k) := ⟨hk, HG.out, Or.inr fun hh => e1 hh.1⟩
        have e1' : (cells / 2 ^ (k + 1) * 2 ^ (k + 1) != cells) = true := by simp [e1]
        clear e1
        go_wp2
        go_quiet (fail)
        go_wp2
        go_ret2
        exact ⟨k, HS.out, ret2 rfl (wrap_pow k hk), _, rfl⟩
    · have HS : Hid (Stops cells 512 k) := ⟨hk, HG.out, Or.inl (by omega)⟩
      go_wp2
      go_quiet (fail)
      go_wp2
      go_ret2
      exact ⟨k, HS.out, ret2 rfl (wrap_pow k hk), _, rfl⟩

end Go.Proofs.YbulkdyciDoor
