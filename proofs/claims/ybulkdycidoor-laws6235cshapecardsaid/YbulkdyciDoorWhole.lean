import Derived.Test.YbulkdyciDoorBlocks
namespace Go.Proofs.YbulkdyciDoor
open Go.RowKit

set_option maxHeartbeats 400000 in
theorem whole_huge (cells h : Int) (w : World) (hh : 2305843009213693952 < h) :
    Calls Ybad.prog 3 #[.int .i64 cells, .int .i64 h] w fun e w' => e = .returned (.bool true) ∧ ∃ n, w' = w.drewN n := by
  go_enter Ybad.func3, Ybad.ntmps3
  go_wp2
  go_ret
  exact ⟨rfl, 0, rfl⟩

set_option maxHeartbeats 400000 in
theorem whole_small (cells h : Int) (w : World) (b1 : -9223372036854775808 ≤ cells) (b2 : cells ≤ 9223372036854775807) (b3 : -9223372036854775808 ≤ h) (b4 : h ≤ 2305843009213693952)
    (hs : cells < 1024 ∨ cells < h + h) :
    Calls Ybad.prog 3 #[.int .i64 cells, .int .i64 h] w fun e w' => e = .returned (.bool true) ∧ ∃ n, w' = w.drewN n := by
  have c5 := blocks_small cells h w b1 b2 b3 b4 hs
  have c6 := model_small cells h w b1 b2 b3 b4 hs
  clear hs
  go_enter Ybad.func3, Ybad.ntmps3
  go_wp2_with (first | (go_at_call 5; refine c5.mono ?_; rintro e w' ⟨rfl, rfl⟩) | (go_at_call 6; refine c6.mono ?_; rintro e w' ⟨rfl, rfl⟩))
  go_ret
  exact ⟨rfl, 0, rfl⟩

set_option maxHeartbeats 400000 in
theorem whole_of (c h q p : Int) (w : World) (b4 : h ≤ 2305843009213693952)
    (c5 : Hid (Calls Ybad.prog 5 #[.int .i64 c, .int .i64 h] w fun e w' => e = .returned (.tuple #[.int .i64 q, .int .i64 p]) ∧ ∃ n, w' = w.drewN n))
    (c6 : Hid (∀ w, Calls Ybad.prog 6 #[.int .i64 c, .int .i64 h] w fun e w' => e = .returned (.tuple #[.int .i64 q, .int .i64 p]) ∧ ∃ n, w' = w.drewN n)) :
    Calls Ybad.prog 3 #[.int .i64 c, .int .i64 h] w fun e w' => e = .returned (.bool true) ∧ ∃ n, w' = w.drewN n := by
  go_enter Ybad.func3, Ybad.ntmps3
  go_wp2_with (first | (go_at_call 5; refine c5.out.mono ?_; rintro e w' ⟨rfl, n, rfl⟩) | (go_at_call 6; refine (c6.out _).mono ?_; rintro e w' ⟨rfl, m, rfl⟩))
  go_ret
  exact ⟨rfl, _, rfl⟩

/-- blocksOf and the model answer alike, where the cells are at least twice the least count. -/
theorem both_big (c l : Nat) (h : Int) (b2 : c ≤ 9223372036854775807) (b3 : -9223372036854775808 ≤ h) (b4 : h ≤ 2305843009213693952) (hmax : max 512 h = (l : Int)) (hs : l + l ≤ c) :
    ∃ s : Nat, s ≤ 62 ∧ Stops (c : Int) (l : Int) s ∧
      (∀ w, TabAt 1 Lib.deBruijn64tab w → Calls Ybad.prog 5 #[.int .i64 c, .int .i64 h] w fun e w' => e = .returned (.tuple #[.int .i64 ((c : Int) / 2 ^ s), .int .i64 (2 ^ s)]) ∧ ∃ n, w' = w.drewN n) ∧
      (∀ w, Calls Ybad.prog 6 #[.int .i64 c, .int .i64 h] w fun e w' => e = .returned (.tuple #[.int .i64 ((c : Int) / 2 ^ s), .int .i64 (2 ^ s)]) ∧ ∃ n, w' = w.drewN n) := by
  obtain ⟨t, z, m, ht, hz, zb, tb, hc, h1, h2⟩ := shift_is c l (by omega) hs b2
  refine ⟨min t z, by omega, ?_, fun w hT => blocks_big c l t z (min t z) h w b2 (by omega) (by omega) hmax hs hT ht hz zb tb (by omega), ?_⟩
  · refine ⟨by omega, fun j hj => (good_iff c l t m z j (by omega) hc h1 h2).2 ⟨by omega, by omega⟩, ?_⟩
    by_cases h62 : min t z = 62
    · exact Or.inl h62
    · exact Or.inr fun hg => by have := (good_iff c l t m z (min t z) (by omega) hc h1 h2).1 hg; omega
  · intro w
    by_cases hh : 512 < h
    · obtain rfl : h = (l : Int) := by omega
      refine (model_big_h (c : Int) (l : Int) w (by omega) b4 hh (by omega)).mono ?_
      rintro e w' ⟨k, hk, he, hw⟩
      rw [stops_eq c l t m z k (by omega) hc h1 h2 zb hk] at he
      exact ⟨he, hw⟩
    · have hl : l = 512 := by omega
      subst hl
      refine (model_big_512 (c : Int) h w (by omega) b3 (by omega) (by omega)).mono ?_
      rintro e w' ⟨k, hk, he, hw⟩
      rw [stops_eq c 512 t m z k (by omega) hc h1 h2 zb hk] at he
      exact ⟨he, hw⟩

/-- LawS6235CWhole, whatever the numbers. -/
theorem whole_any (c h : Int) (w : World) (b1 : -9223372036854775808 ≤ c) (b2 : c ≤ 9223372036854775807) (b3 : -9223372036854775808 ≤ h) (hT : TabAt 1 Lib.deBruijn64tab w) :
    Calls Ybad.prog 3 #[.int .i64 c, .int .i64 h] w fun e w' => e = .returned (.bool true) ∧ ∃ n, w' = w.drewN n := by
  by_cases b4 : h ≤ 2305843009213693952
  · by_cases hs : c < 1024 ∨ c < h + h
    · exact whole_small c h w b1 b2 b3 b4 hs
    · obtain ⟨C, rfl⟩ := Int.eq_ofNat_of_zero_le (show 0 ≤ c by omega)
      obtain ⟨l, hl⟩ := Int.eq_ofNat_of_zero_le (show 0 ≤ max 512 h by omega)
      obtain ⟨s, _, _, c5, c6⟩ := both_big C l h (by omega) b3 b4 hl (by omega)
      exact whole_of _ _ _ _ w b4 (c5 w hT) c6
  · exact whole_huge c h w (by omega)
end Go.Proofs.YbulkdyciDoor
