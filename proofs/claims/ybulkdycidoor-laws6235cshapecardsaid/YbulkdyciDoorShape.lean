import Derived.Test.YbulkdyciDoorWhole
namespace Go.Proofs.YbulkdyciDoor
open Go.RowKit

set_option maxHeartbeats 400000 in
theorem shape_of_g (m s h : Int) (w : World) (m0 : 0 ≤ m) (m1 : m ≤ 4294967295) (s0 : 0 ≤ s) (s1 : s ≤ 255) (h0 : 0 ≤ h) (h1 : h ≤ 65535)
    (k : Nat) (hk : s % 40 = (k : Int)) (a : Nat) (ha : m % 4096 = (a : Int)) (c : Nat) (hc : ((a : Int) + 1) * 2 ^ k = (c : Int)) (cb : c ≤ 4294967296000000) (g : Nat) (hg : h % 3000 = (g : Int)) (gs : 512 < g)
    (q p : Int) (q0 : 0 ≤ q) (q1 : q ≤ 4294967296000000) (p0 : 1 ≤ p) (p1 : p ≤ 4611686018427387904) (hqp : q * p = (c : Int)) (hbits : bits BinOp.and IntKind.i64 p (p - 1) = 0)
    (hB : (1 < p ∧ (g : Int) ≤ q) ∨ p = 1) (hC : q % 2 = 1 ∨ (q % 2 = 0 ∧ q < 2 * (g : Int)))
    (c5 : Hid (Calls Ybad.prog 5 #[.int .i64 c, .int .i64 g] w fun e w' => e = .returned (.tuple #[.int .i64 q, .int .i64 p]) ∧ ∃ n, w' = w.drewN n))
    (c6 : Hid (∀ w, Calls Ybad.prog 6 #[.int .i64 c, .int .i64 g] w fun e w' => e = .returned (.tuple #[.int .i64 q, .int .i64 p]) ∧ ∃ n, w' = w.drewN n)) :
    Calls Ybad.prog 4 #[.int .u32 m, .int .u8 s, .int .u16 h] w fun e w' => e = .returned (.bool true) ∧ ∃ n, w' = w.drewN n := by
  rcases hB with ⟨hB1, hB2⟩ | rfl <;> rcases hC with hC1 | ⟨hC1, hC2⟩
  all_goals
    go_enter Ybad.func4, Ybad.ntmps4
    go_wp2_with (first | (go_at_call 5; refine c5.out.mono ?_; rintro e w' ⟨rfl, n, rfl⟩) | (go_at_call 6; refine (c6.out _).mono ?_; rintro e w' ⟨rfl, m, rfl⟩))
    go_ret
    exact ⟨rfl, _, rfl⟩

set_option maxHeartbeats 400000 in
theorem shape_of_512 (m s h : Int) (w : World) (m0 : 0 ≤ m) (m1 : m ≤ 4294967295) (s0 : 0 ≤ s) (s1 : s ≤ 255) (h0 : 0 ≤ h) (h1 : h ≤ 65535)
    (k : Nat) (hk : s % 40 = (k : Int)) (a : Nat) (ha : m % 4096 = (a : Int)) (c : Nat) (hc : ((a : Int) + 1) * 2 ^ k = (c : Int)) (cb : c ≤ 4294967296000000) (g : Nat) (hg : h % 3000 = (g : Int)) (gs : g ≤ 512)
    (q p : Int) (q0 : 0 ≤ q) (q1 : q ≤ 4294967296000000) (p0 : 1 ≤ p) (p1 : p ≤ 4611686018427387904) (hqp : q * p = (c : Int)) (hbits : bits BinOp.and IntKind.i64 p (p - 1) = 0)
    (hB : (1 < p ∧ 512 ≤ q) ∨ p = 1) (hC : q % 2 = 1 ∨ (q % 2 = 0 ∧ q < 2 * 512))
    (c5 : Hid (Calls Ybad.prog 5 #[.int .i64 c, .int .i64 g] w fun e w' => e = .returned (.tuple #[.int .i64 q, .int .i64 p]) ∧ ∃ n, w' = w.drewN n))
    (c6 : Hid (∀ w, Calls Ybad.prog 6 #[.int .i64 c, .int .i64 g] w fun e w' => e = .returned (.tuple #[.int .i64 q, .int .i64 p]) ∧ ∃ n, w' = w.drewN n)) :
    Calls Ybad.prog 4 #[.int .u32 m, .int .u8 s, .int .u16 h] w fun e w' => e = .returned (.bool true) ∧ ∃ n, w' = w.drewN n := by
  rcases hB with ⟨hB1, hB2⟩ | rfl <;> rcases hC with hC1 | ⟨hC1, hC2⟩
  all_goals
    go_enter Ybad.func4, Ybad.ntmps4
    go_wp2_with (first | (go_at_call 5; refine c5.out.mono ?_; rintro e w' ⟨rfl, n, rfl⟩) | (go_at_call 6; refine (c6.out _).mono ?_; rintro e w' ⟨rfl, m, rfl⟩))
    go_ret
    exact ⟨rfl, _, rfl⟩

theorem bits_pow (s : Nat) (hs : s ≤ 62) : bits BinOp.and IntKind.i64 ((2 : Int) ^ s) ((2 : Int) ^ s - 1) = 0 := by
  have h1 : 2 ^ s ≤ 2 ^ 62 := Nat.pow_le_pow_right (by decide) hs
  have hp : 0 < 2 ^ s := Nat.pow_pos (by decide)
  have h62 : (2 : Nat) ^ 62 = 4611686018427387904 := by decide
  have e1 : ((2 : Int) ^ s) = ((2 ^ s : Nat) : Int) := by simp
  have e2 : ((2 : Int) ^ s) - 1 = ((2 ^ s - 1 : Nat) : Int) := by rw [e1]; omega
  have f1 : (BitVec.ofInt 64 ((2 ^ s : Nat) : Int)).toNat = 2 ^ s := by
    rw [BitVec.ofInt_natCast, BitVec.toNat_ofNat]; exact Nat.mod_eq_of_lt (by omega)
  have f2 : (BitVec.ofInt 64 ((2 ^ s - 1 : Nat) : Int)).toNat = 2 ^ s - 1 := by
    rw [BitVec.ofInt_natCast, BitVec.toNat_ofNat]; exact Nat.mod_eq_of_lt (by omega)
  rw [e2, e1]
  show IntKind.i64.wrap ((BitVec.ofInt 64 ((2 ^ s : Nat) : Int) &&& BitVec.ofInt 64 ((2 ^ s - 1 : Nat) : Int)).toNat : Int) = 0
  rw [BitVec.toNat_and, f1, f2, Nat.and_two_pow_sub_one_eq_mod, Nat.mod_self]
  decide

/-- What the law asks of the code's answer, where the cells are at least twice the least count. -/
theorem shape_facts (c l s : Nat) (hl : 512 ≤ l) (hs : l + l ≤ c) (cb : c ≤ 4294967296000000) (hst : Stops (c : Int) (l : Int) s) :
    0 ≤ (c : Int) / 2 ^ s ∧ (c : Int) / 2 ^ s ≤ c ∧ (c : Int) / 2 ^ s * 2 ^ s = (c : Int) ∧ ((1 < (2 : Int) ^ s ∧ (l : Int) ≤ (c : Int) / 2 ^ s) ∨ (2 : Int) ^ s = 1) ∧
      ((c : Int) / 2 ^ s % 2 = 1 ∨ ((c : Int) / 2 ^ s % 2 = 0 ∧ (c : Int) / 2 ^ s < 2 * (l : Int))) := by
  obtain ⟨s62, hall, hend⟩ := hst
  have hp : (0 : Int) < 2 ^ s := Int.pow_pos (by decide)
  have hnn : 0 ≤ (c : Int) / 2 ^ s := Int.ediv_nonneg (by omega) (by omega)
  have hself : (c : Int) / 2 ^ s ≤ c := Int.ediv_le_self _ (by omega)
  have hmul : (c : Int) / 2 ^ s * 2 ^ s = (c : Int) ∧ ((1 < (2 : Int) ^ s ∧ (l : Int) ≤ (c : Int) / 2 ^ s) ∨ (2 : Int) ^ s = 1) := by
    cases s with
    | zero => simp
    | succ j =>
      obtain ⟨g1, g2⟩ := hall j (by omega)
      refine ⟨g1, Or.inl ⟨?_, g2⟩⟩
      have hj : (0 : Int) < 2 ^ j := Int.pow_pos (by decide)
      rw [Int.pow_succ]; omega
  refine ⟨hnn, hself, hmul.1, hmul.2, ?_⟩
  by_cases he : (c : Int) / 2 ^ s % 2 = 0
  · right
    refine ⟨he, ?_⟩
    apply Int.lt_of_not_ge
    intro hge
    have hdd : (c : Int) / 2 ^ (s + 1) = (c : Int) / 2 ^ s / 2 := by
      rw [Int.pow_succ, Int.ediv_ediv_of_nonneg (by omega)]
    have hgood : Good (c : Int) (l : Int) s := by
      refine ⟨?_, by rw [hdd]; omega⟩
      rw [hdd, Int.pow_succ, Int.mul_comm (2 ^ s) 2, ← Int.mul_assoc]
      have : (c : Int) / 2 ^ s / 2 * 2 = (c : Int) / 2 ^ s := by omega
      rw [this]; exact hmul.1
    rcases hend with h | h
    · subst h
      have h62 : (2 : Int) ^ 62 = 4611686018427387904 := by decide
      have := hmul.1
      have h0 : (c : Int) / 2 ^ 62 = 0 := by rw [h62]; omega
      rw [h0] at this
      omega
    · exact h hgood
  · left; omega

/-- LawS6235CShape, whatever the numbers. -/
theorem shape_any (m s h : Int) (w : World) (m0 : 0 ≤ m) (m1 : m ≤ 4294967295) (s0 : 0 ≤ s) (s1 : s ≤ 255) (h0 : 0 ≤ h) (h1 : h ≤ 65535) (hT : TabAt 1 Lib.deBruijn64tab w) :
    Calls Ybad.prog 4 #[.int .u32 m, .int .u8 s, .int .u16 h] w fun e w' => e = .returned (.bool true) ∧ ∃ n, w' = w.drewN n := by
  obtain ⟨k, hk⟩ := Int.eq_ofNat_of_zero_le (show 0 ≤ s % 40 by omega)
  obtain ⟨a, ha⟩ := Int.eq_ofNat_of_zero_le (show 0 ≤ m % 4096 by omega)
  obtain ⟨g, hg⟩ := Int.eq_ofNat_of_zero_le (show 0 ≤ h % 3000 by omega)
  have kb : k ≤ 39 := by omega
  have ab : a + 1 ≤ 4096 := by omega
  have gb : g < 3000 := by omega
  obtain ⟨c, hcn⟩ : ∃ c, c = (a + 1) * 2 ^ k := ⟨_, rfl⟩
  have hc : ((a : Int) + 1) * 2 ^ k = (c : Int) := by rw [hcn]; simp
  have cb : c ≤ 4294967296000000 := by
    have h39 : 2 ^ k ≤ 2 ^ 39 := Nat.pow_le_pow_right (by decide) kb
    have := Nat.mul_le_mul ab h39
    rw [hcn]
    exact Nat.le_trans this (by decide)
  obtain ⟨l, hl⟩ : ∃ l : Nat, l = max 512 g := ⟨_, rfl⟩
  by_cases hs : c < l + l
  · have c5 : ∀ w, Calls Ybad.prog 5 #[.int .i64 c, .int .i64 g] w fun e w' => e = .returned (.tuple #[.int .i64 c, .int .i64 1]) ∧ ∃ n, w' = w.drewN n := fun w =>
      (blocks_small (c : Int) (g : Int) w (by omega) (by omega) (by omega) (by omega) (by omega)).mono fun _ _ ⟨e, hw⟩ => ⟨e, 0, hw⟩
    have c6 : ∀ w, Calls Ybad.prog 6 #[.int .i64 c, .int .i64 g] w fun e w' => e = .returned (.tuple #[.int .i64 c, .int .i64 1]) ∧ ∃ n, w' = w.drewN n := fun w =>
      (model_small (c : Int) (g : Int) w (by omega) (by omega) (by omega) (by omega) (by omega)).mono fun _ _ ⟨e, hw⟩ => ⟨e, 0, hw⟩
    by_cases gs : 512 < g
    · exact shape_of_g m s h w m0 m1 s0 s1 h0 h1 k hk a ha c hc cb g hg gs c 1 (by omega) (by omega) (by omega) (by omega) (by omega) (by decide) (Or.inr rfl) (by omega) (c5 w) c6
    · exact shape_of_512 m s h w m0 m1 s0 s1 h0 h1 k hk a ha c hc cb g hg (by omega) c 1 (by omega) (by omega) (by omega) (by omega) (by omega) (by decide) (Or.inr rfl) (by omega) (c5 w) c6
  · obtain ⟨z, hz, hst, c5, c6⟩ := both_big c l (g : Int) (by omega) (by omega) (by omega) (by omega) (by omega)
    obtain ⟨f1, f2, f3, f4, f5⟩ := shape_facts c l z (by omega) (by omega) cb hst
    have hp : (0 : Int) < 2 ^ z := Int.pow_pos (by decide)
    have hp2 := pow_le_62 z hz
    by_cases gs : 512 < g
    · obtain rfl : l = g := by omega
      exact shape_of_g m s h w m0 m1 s0 s1 h0 h1 k hk a ha c hc cb l hg gs _ _ f1 (by omega) (by omega) hp2 f3 (bits_pow z hz) f4 f5 (c5 w hT) c6
    · obtain rfl : l = 512 := by omega
      exact shape_of_512 m s h w m0 m1 s0 s1 h0 h1 k hk a ha c hc cb g hg (by omega) _ _ f1 (by omega) (by omega) hp2 f3 (bits_pow z hz) f4 f5 (c5 w hT) c6
end Go.Proofs.YbulkdyciDoor
