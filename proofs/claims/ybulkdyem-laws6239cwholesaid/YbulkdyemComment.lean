import Derived.Test.YbulkdyemRows
import Derived.WalkKit
import Derived.WalkSpells
import Derived.WalkLawsBesides
import Derived.Deep.QuietTactic
import Derived.BigQuiet
import Derived.Lib.Strings
import Derived.Lib.Slices
import Derived.Lib.Walk
namespace Go.Proofs.Ybulkdyem
open Go.RowKit

set_option maxHeartbeats 1000000 in
/-- strings.HasPrefix of this program: the shelf's template, filled. -/
theorem hasPrefix_any (s p : ByteArray) (w : World) :
    Calls Yba.prog 8 #[.string s, .string p] w fun e w' => e = .returned (.bool (Lib.hasPrefix s.data.toList p.data.toList)) ∧ w' = w := by
  rw [← Lib.hasPrefix_of_take, ← Lib.size_eq, ← Lib.size_eq]
  go_enter Yba.func8, Yba.ntmps8
  go_wp2
  · rename_i h
    go_ret
    refine ⟨?_, rfl⟩
    show Ending.returned (Value.bool ((s.extract 0 p.size).toList == p.toList)) = _
    rw [Lib.extract_toList, Lib.toList_data]
    simp [h]
  · rename_i h
    go_ret
    refine ⟨?_, rfl⟩
    show Ending.returned (Value.bool false) = _
    simp [h]

theorem take_drop_all (s : ByteArray) (p : Nat) : List.take (s.size - p) (List.drop p s.data.toList) = List.drop p s.data.toList := by
  apply List.take_of_length_le
  simp

theorem pre_short (s : ByteArray) (p : Nat) (h : s.size < p + 2) : Lib.hasPrefix (List.take (s.size - p) (List.drop p s.data.toList)) [45, 45] = false := by
  rw [take_drop_all, ← Lib.hasPrefix_of_take]
  simp
  intro h2
  omega

theorem pre_long (s : ByteArray) (p : Nat) (h : p + 2 ≤ s.size) :
    Lib.hasPrefix (List.take (s.size - p) (List.drop p s.data.toList)) [45, 45] = (s[p] == 45 && s[p + 1] == 45) := by
  rw [take_drop_all]
  have h1 : p < s.data.toList.length := by simp; omega
  have h2 : p + 1 < s.data.toList.length := by simp; omega
  rw [List.drop_eq_getElem_cons h1, List.drop_eq_getElem_cons h2]
  have e1 : s.data.toList[p] = s[p] := rfl
  have e2 : s.data.toList[p + 1] = s[p + 1] := rfl
  rw [e1, e2]
  unfold Lib.hasPrefix
  simp only [List.isPrefixOf, Bool.and_true]
  rw [Bool.beq_comm (a := (45 : UInt8)), Bool.beq_comm (a := (45 : UInt8))]

theorem byte_ne {x : UInt8} (h : x ≠ 45) : ¬ (x.toNat : Int) = 45 := by
  intro e
  apply h
  apply UInt8.toNat_inj.1
  have : x.toNat = 45 := by omega
  rw [this]; rfl

/-- The model and the method, each by what it answers at s, p: 'v'. -/
def Answers (s : ByteArray) (p : Nat) (v : Bool) : Prop :=
  (∀ w : World, Calls Yba.prog 7 #[.string s, .int .i64 p] w fun e w' => e = .returned (.bool v) ∧ w' = w) ∧
  (∀ (b : Nat) (w : World), w.cell? ⟨b, 0, none⟩ = some (.string s) → w.cell? ⟨b, 1, none⟩ = some (.int .i64 p) →
    Calls Yba.prog 6 #[.pointer (some ⟨b, 0, none⟩)] w fun e w' => e = .returned (.bool v) ∧ ∃ n, w' = w.drewN n)

set_option maxHeartbeats 400000 in
theorem ans_short (s : ByteArray) (p : Nat) (_hs : s.size ≤ 1048576) (hp : p ≤ s.size) (h : s.size < p + 2) : Answers s p false := by
  have hpre := pre_short s p h
  constructor
  · intro w
    go_enter Yba.func7, Yba.ntmps7
    go_wp2
    go_ret
    exact ⟨rfl, rfl⟩
  · intro b w hc0 hc1
    go_enter Yba.func6, Yba.ntmps6
    go_wp2_with fail
    go_quiet ((go_at_call 8; exact Calls.quiet_of_same (hasPrefix_any _ _ _)))
    go_wp2
    go_ret
    exact ⟨rfl, _, rfl⟩

set_option maxHeartbeats 400000 in
theorem ans_first (s : ByteArray) (p : Nat) (hs : s.size ≤ 1048576) (h : p + 2 ≤ s.size) (h1 : s[p] ≠ 45) : Answers s p false := by
  have hpre := pre_long s p h
  have h1' : (s[p] == 45) = false := by simpa using h1
  rw [h1', Bool.false_and] at hpre
  have h2 := byte_ne h1
  clear h1 h1'
  constructor
  · intro w
    go_enter Yba.func7, Yba.ntmps7
    go_wp2
    go_ret
    exact ⟨rfl, rfl⟩
  · intro b w hc0 hc1
    go_enter Yba.func6, Yba.ntmps6
    go_wp2_with fail
    go_quiet ((go_at_call 8; exact Calls.quiet_of_same (hasPrefix_any _ _ _)))
    go_wp2
    go_ret
    exact ⟨rfl, _, rfl⟩

set_option maxHeartbeats 400000 in
theorem ans_second (s : ByteArray) (p : Nat) (hs : s.size ≤ 1048576) (h : p + 2 ≤ s.size) (h1 : s[p] = 45) (h1b : s[p + 1] ≠ 45) : Answers s p false := by
  have hpre := pre_long s p h
  have h1' : (s[p + 1] == 45) = false := by simpa using h1b
  rw [h1', Bool.and_false] at hpre
  have h2 := byte_ne h1b
  have h3 : (s[p].toNat : Int) = 45 := by rw [h1]; rfl
  clear h1 h1' h1b
  constructor
  · intro w
    go_enter Yba.func7, Yba.ntmps7
    go_wp2
    go_ret
    exact ⟨rfl, rfl⟩
  · intro b w hc0 hc1
    go_enter Yba.func6, Yba.ntmps6
    go_wp2_with fail
    go_quiet ((go_at_call 8; exact Calls.quiet_of_same (hasPrefix_any _ _ _)))
    go_wp2
    go_ret
    exact ⟨rfl, _, rfl⟩

set_option maxHeartbeats 400000 in
theorem ans_end (s : ByteArray) (p : Nat) (hs : s.size ≤ 1048576) (g1 : p + 2 ≤ s.size) (g2 : s.size ≤ p + 2) (h1 : s[p] = 45) (h1b : s[p + 1] = 45) : Answers s p true := by
  have hpre := pre_long s p (by omega)
  have h1' : (s[p] == 45 && s[p + 1] == 45) = true := by simp [h1, h1b]
  rw [h1'] at hpre
  have h2 : (s[p].toNat : Int) = 45 := by rw [h1]; rfl
  have h3 : (s[p + 1].toNat : Int) = 45 := by rw [h1b]; rfl
  have g3 : ((p : Int) + 2 == (s.size : Int)) = true := by simp; omega
  clear h1 h1' h1b
  constructor
  · intro w
    go_enter Yba.func7, Yba.ntmps7
    go_wp2
    go_ret
    exact ⟨rfl, rfl⟩
  · intro b w hc0 hc1
    go_enter Yba.func6, Yba.ntmps6
    go_wp2_with fail
    go_quiet ((go_at_call 8; exact Calls.quiet_of_same (hasPrefix_any _ _ _)))
    go_wp2
    go_quiet (fail)
    go_wp2
    go_ret
    exact ⟨rfl, _, World.drewN_drewN _ _ _⟩

set_option maxHeartbeats 400000 in
theorem ans_third (s : ByteArray) (p : Nat) (hs : s.size ≤ 1048576) (h : p + 2 < s.size) (h1 : s[p] = 45) (h1b : s[p + 1] = 45) : Answers s p (decide ((s[p + 2].toNat : Int) ≤ 32)) := by
  have hpre := pre_long s p (by omega)
  have h1' : (s[p] == 45 && s[p + 1] == 45) = true := by simp [h1, h1b]
  rw [h1'] at hpre
  have h2 : (s[p].toNat : Int) = 45 := by rw [h1]; rfl
  have h3 : (s[p + 1].toNat : Int) = 45 := by rw [h1b]; rfl
  have g3 : ((p : Int) + 2 == (s.size : Int)) = false := by simp; omega
  have g4 : (0 : Int) ≤ (p : Int) + 2 := by omega
  have g5 : (p : Int) + 2 < (s.size : Int) := by omega
  clear h1 h1' h1b
  constructor
  · intro w
    go_enter Yba.func7, Yba.ntmps7
    go_wp2
    go_ret
    exact ⟨rfl, rfl⟩
  · intro b w hc0 hc1
    go_enter Yba.func6, Yba.ntmps6
    go_wp2_with fail
    go_quiet ((go_at_call 8; exact Calls.quiet_of_same (hasPrefix_any _ _ _)))
    go_wp2
    go_quiet (fail)
    go_wp2
    go_quiet (fail)
    go_wp2
    go_ret
    exact ⟨rfl, _, by rw [World.drewN_drewN, World.drewN_drewN]⟩

theorem answers (s : ByteArray) (p : Nat) (hs : s.size ≤ 1048576) (hp : p ≤ s.size) : ∃ v, Answers s p v := by
  by_cases h : s.size < p + 2
  · exact ⟨_, ans_short s p hs hp h⟩
  · have hl : p + 2 ≤ s.size := by omega
    by_cases h1 : s[p] = 45
    · by_cases h2 : s[p + 1] = 45
      · by_cases h3 : p + 2 = s.size
        · exact ⟨_, ans_end s p hs (by omega) (by omega) h1 h2⟩
        · exact ⟨_, ans_third s p hs (by omega) h1 h2⟩
      · exact ⟨_, ans_second s p hs hl h1 h2⟩
    · exact ⟨_, ans_first s p hs hl h1⟩

end Go.Proofs.Ybulkdyem
