/-
  The plain law: no Go in sight. The model's search stops at min(trailing zeros, bit length of the quotient - 1), and what follows for the shape.
-/
import Derived.Lib.BitFns
import Derived.Lib.TrailingZeros
namespace Go.Proofs.YbulkdyciDoor

/-- One step of the model's search: 2^(k+1) divides c, and the quotient is at least l. -/
def Good (c l : Int) (k : Nat) : Prop := c / 2 ^ (k + 1) * 2 ^ (k + 1) = c ∧ l ≤ c / 2 ^ (k + 1)

/-- Where the model's search stops. -/
def Stops (c l : Int) (k : Nat) : Prop := k ≤ 62 ∧ (∀ j, j < k → Good c l j) ∧ (k = 62 ∨ ¬ Good c l k)

theorem bitLenAux_bds : ∀ (f x : Nat), 0 < x → x < 2 ^ f → ∃ z, Lib.bitLenAux f x = z + 1 ∧ 2 ^ z ≤ x ∧ x < 2 ^ (z + 1)
  | 0, x, h0, h => by simp at h; omega
  | f + 1, x, h0, h => by
    have hb : Lib.bitLenAux (f + 1) x = 1 + Lib.bitLenAux f (x / 2) := by
      simp only [Lib.bitLenAux]
      rw [if_neg (by omega)]
    by_cases hx : x / 2 = 0
    · have e0 : Lib.bitLenAux f 0 = 0 := by cases f <;> simp [Lib.bitLenAux]
      refine ⟨0, by rw [hb, hx, e0], by simp; omega, by simp; omega⟩
    · obtain ⟨z, e, h1, h2⟩ := bitLenAux_bds f (x / 2) (by omega) (by rw [Nat.pow_succ] at h; omega)
      refine ⟨z + 1, by rw [hb, e]; omega, ?_, ?_⟩
      · rw [Nat.pow_succ]; omega
      · rw [Nat.pow_succ]; omega

theorem pow_dvd_iff (t m j : Nat) : 2 ^ j ∣ 2 ^ t * (2 * m + 1) ↔ j ≤ t := by
  constructor
  · intro h
    apply Nat.le_of_not_lt
    intro hlt
    have h1 : 2 ^ (t + 1) ∣ 2 ^ t * (2 * m + 1) := Nat.dvd_trans (Nat.pow_dvd_pow 2 hlt) h
    rw [Nat.pow_succ] at h1
    have h2 : 2 ∣ 2 * m + 1 := Nat.dvd_of_mul_dvd_mul_left (Nat.pow_pos (by decide)) h1
    omega
  · intro h
    exact Nat.dvd_trans (Nat.pow_dvd_pow 2 h) (Nat.dvd_mul_right _ _)

theorem good_iff (c l t m z j : Nat) (hl : 0 < l) (hc : c = 2 ^ t * (2 * m + 1)) (h1 : 2 ^ z ≤ c / l) (h2 : c / l < 2 ^ (z + 1)) :
    Good (c : Int) (l : Int) j ↔ j + 1 ≤ t ∧ j + 1 ≤ z := by
  have e2 : ((2 : Int) ^ (j + 1)) = ((2 ^ (j + 1) : Nat) : Int) := by simp
  have hp : 0 < 2 ^ (j + 1) := Nat.pow_pos (by decide)
  have a1 : ((c : Int) / 2 ^ (j + 1) * 2 ^ (j + 1) = (c : Int)) ↔ j + 1 ≤ t := by
    rw [e2, ← pow_dvd_iff t m, ← hc]
    constructor
    · intro h
      have h' : c / 2 ^ (j + 1) * 2 ^ (j + 1) = c := by exact_mod_cast h
      exact ⟨c / 2 ^ (j + 1), by rw [Nat.mul_comm]; exact h'.symm⟩
    · intro h
      have h' := Nat.div_mul_cancel h
      exact_mod_cast h'
  have a2 : ((l : Int) ≤ (c : Int) / 2 ^ (j + 1)) ↔ j + 1 ≤ z := by
    rw [e2]
    have : ((l : Int) ≤ (c : Int) / ((2 ^ (j + 1) : Nat) : Int)) ↔ l ≤ c / 2 ^ (j + 1) := by
      constructor
      · intro h; exact_mod_cast h
      · intro h; exact_mod_cast h
    rw [this, Nat.le_div_iff_mul_le hp, Nat.mul_comm, ← Nat.le_div_iff_mul_le hl]
    constructor
    · intro h
      have : 2 ^ (j + 1) < 2 ^ (z + 1) := Nat.lt_of_le_of_lt h h2
      have := (Nat.pow_lt_pow_iff_right (by decide : 1 < 2)).1 this
      omega
    · intro h
      exact Nat.le_trans (Nat.pow_le_pow_right (by decide) h) h1
  unfold Good
  rw [a1, a2]

theorem stops_eq (c l t m z k : Nat) (hl : 0 < l) (hc : c = 2 ^ t * (2 * m + 1)) (h1 : 2 ^ z ≤ c / l) (h2 : c / l < 2 ^ (z + 1)) (hz : z ≤ 62)
    (hs : Stops (c : Int) (l : Int) k) : k = min t z := by
  obtain ⟨k62, hall, hend⟩ := hs
  have hle : k ≤ min t z := by
    cases k with
    | zero => omega
    | succ j =>
      have := (good_iff c l t m z j hl hc h1 h2).1 (hall j (by omega))
      omega
  have hge : min t z ≤ k := by
    rcases hend with h | h
    · omega
    · apply Nat.le_of_not_lt
      intro hlt
      exact h ((good_iff c l t m z k hl hc h1 h2).2 ⟨by omega, by omega⟩)
  omega

/-- What the code's shift is. -/
theorem shift_is (c l : Nat) (hl : 512 ≤ l) (hs : l + l ≤ c) (hc : c ≤ 9223372036854775807) :
    ∃ t z m, Lib.ctz 64 c = t ∧ Lib.bitLen (c / l) = z + 1 ∧ z ≤ 62 ∧ t ≤ 62 ∧ c = 2 ^ t * (2 * m + 1) ∧ 2 ^ z ≤ c / l ∧ c / l < 2 ^ (z + 1) := by
  obtain ⟨m, hm, hk⟩ := Lib.ctzFrom_spec 64 c (by omega) (by omega)
  have hq : 0 < c / l := Nat.div_pos (by omega) (by omega)
  have hq2 : c / l ≤ c := Nat.div_le_self _ _
  obtain ⟨z, e, h1, h2⟩ := bitLenAux_bds 64 (c / l) hq (by omega)
  have lt63 : ∀ n : Nat, 2 ^ n ≤ c → n ≤ 62 := by
    intro n hn
    apply Nat.le_of_not_lt
    intro hlt
    have : 2 ^ 63 ≤ 2 ^ n := Nat.pow_le_pow_right (by decide) hlt
    omega
  refine ⟨Lib.ctzFrom 64 c, z, m, by unfold Lib.ctz; rw [if_neg (by omega)], e, lt63 z (by omega), lt63 _ ?_, hm, h1, h2⟩
  have : 2 ^ Lib.ctzFrom 64 c ≤ 2 ^ Lib.ctzFrom 64 c * (2 * m + 1) := Nat.le_mul_of_pos_right _ (by omega)
  omega
end Go.Proofs.YbulkdyciDoor
