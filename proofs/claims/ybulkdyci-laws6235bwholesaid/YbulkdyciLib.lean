import Derived.Test.YbulkdyciPad
import Derived.Laws.AppendOwn
import Derived.BigQuiet
namespace Go.Proofs.Ybulkdyci
open Go.RowKit

theorem Yba.info37 : (Yba.prog.info? 37).map (fun i => (i.zero, i.size, i.bytes)) = some (some (.int .u32 0), 1, 4) := by kernel_rfl
theorem Yba.info25 : (Yba.prog.info? 25).map (fun i => (i.zero, i.size, i.bytes)) = some (some (.int .i8 0), 1, 1) := by kernel_rfl
theorem Yba.info21 : (Yba.prog.info? 21).map (fun i => (i.zero, i.size, i.bytes)) = some (some (.int .i32 0), 1, 4) := by kernel_rfl

theorem eq_upto {l1 l2 : List Int} {i : Nat} (h : l1.take i = l2.take i) (h1 : l1.length ≤ i) (h2 : l2.length ≤ i) : l1 = l2 := by
  rwa [List.take_of_length_le h1, List.take_of_length_le h2] at h

theorem take_snoc {l1 l2 : List Int} {i : Nat} {x : Int} (h : l1.take i = l2.take i) (h1 : l1[i]? = some x) (h2 : l2[i]? = some x) : l1.take (i + 1) = l2.take (i + 1) := by
  rw [List.take_add_one, List.take_add_one, h, h1, h2]

set_option maxHeartbeats 400000 in
set_option maxRecDepth 100000 in
theorem equal_u64 (w : World) (a1 a2 : Option Addr) (c1 c2 : Nat) (l1 l2 : List Int) (h1 : Reads w .u64 a1 l1) (h2 : Reads w .u64 a2 l2) (b1 : l1.length ≤ 9223372036854775807) :
    Calls Yba.prog 11 #[.slice a1 l1.length c1, .slice a2 l2.length c2] w fun e w' => e = .returned (.bool (decide (l1 = l2))) ∧ ∃ m, w' = w.drewN m := by
  by_cases hl : l1.length = l2.length
  · have g0 : ((l1.length : Int) == (l2.length : Int)) = true := beq_iff_eq.2 (by omega)
    have HL : Hid (l1.length = l2.length) := hl
    rw [← hl]
    clear hl g0
    go_enter Yba.func11, Yba.ntmps11
    go_wp2
    go_loopw [5, 13] (fun _ s wq => ∃ i m : Nat, i ≤ l1.length ∧ s = .int .i64 i ∧ l1.take i = l2.take i ∧ wq = w.drewN m) (fun _ s _ => l1.length - (intOf s).toNat)
    case atStart => exact ⟨0, 0, by omega, rfl, by simp, rfl⟩
    case round =>
      obtain ⟨i, m, hi, rfl, ht, rfl⟩ := hrel
      by_cases hik : i < l1.length
      · have hl : l1.length = l2.length := HL.out
        obtain ⟨bb1, o1, rfl, r1⟩ := h1 (by omega)
        obtain ⟨bb2, o2, rfl, r2⟩ := h2 (by omega)
        obtain ⟨x, hx⟩ : ∃ x, l1[i]? = some x := ⟨_, List.getElem?_eq_getElem hik⟩
        obtain ⟨y, hy⟩ : ∃ y, l2[i]? = some y := ⟨_, List.getElem?_eq_getElem (by omega)⟩
        have p := r1 i x hx
        have q := r2 i y hy
        have i1 : (0 : Int) ≤ (i : Int) := by omega
        have i2 : (i : Int) < (l1.length : Int) := by omega
        have HX : Hid (l1[i]? = some x) := hx
        have HY : Hid (l2[i]? = some y) := hy
        have HT : Hid (l1.take i = l2.take i) := ht
        clear r1 r2 hl hx hy ht
        by_cases hxy : x = y
        · subst hxy
          go_wp2
          go_quiet (fail)
          go_wp2
          exact ⟨⟨i + 1, _, by omega, by go_num, take_snoc HT.out HX.out HY.out, rfl⟩, by simp [intOf]; omega⟩
        · have e : (x == y) = false := beq_eq_false_iff_ne.2 hxy
          have HN : Hid (¬ l1 = l2) := fun e => hxy (by have h1 : l1[i]? = some x := HX.out; have h2 : l2[i]? = some y := HY.out; rw [e, h2] at h1; simp at h1; exact h1.symm)
          go_wp2
          go_quiet (fail)
          go_wp2
          go_ret
          exact ⟨by rw [decide_eq_false HN.out]; rfl, _, World.drewN_drewN _ _ _⟩
      · have HE : Hid (l1 = l2) := eq_upto ht (by omega) (by have : l1.length = l2.length := HL.out; omega)
        clear ht
        go_wp2
        go_ret
        exact ⟨by rw [decide_eq_true HE.out]; rfl, _, rfl⟩
  · have g0 : ((l1.length : Int) == (l2.length : Int)) = false := beq_eq_false_iff_ne.2 (by omega)
    have g1 : ¬ (l1.length : Int) = (l2.length : Int) := by omega
    have HN : Hid (¬ l1 = l2) := fun e => hl (by rw [e])
    clear hl
    go_enter Yba.func11, Yba.ntmps11
    go_wp2
    go_ret
    exact ⟨by rw [decide_eq_false HN.out]; rfl, 0, rfl⟩

set_option maxHeartbeats 400000 in
set_option maxRecDepth 100000 in
theorem equal_u32 (w : World) (a1 a2 : Option Addr) (c1 c2 : Nat) (l1 l2 : List Int) (h1 : Reads w .u32 a1 l1) (h2 : Reads w .u32 a2 l2) (b1 : l1.length ≤ 9223372036854775807) :
    Calls Yba.prog 13 #[.slice a1 l1.length c1, .slice a2 l2.length c2] w fun e w' => e = .returned (.bool (decide (l1 = l2))) ∧ ∃ m, w' = w.drewN m := by
  by_cases hl : l1.length = l2.length
  · have g0 : ((l1.length : Int) == (l2.length : Int)) = true := beq_iff_eq.2 (by omega)
    have HL : Hid (l1.length = l2.length) := hl
    rw [← hl]
    clear hl g0
    go_enter Yba.func13, Yba.ntmps13
    go_wp2
    go_loopw [5, 13] (fun _ s wq => ∃ i m : Nat, i ≤ l1.length ∧ s = .int .i64 i ∧ l1.take i = l2.take i ∧ wq = w.drewN m) (fun _ s _ => l1.length - (intOf s).toNat)
    case atStart => exact ⟨0, 0, by omega, rfl, by simp, rfl⟩
    case round =>
      obtain ⟨i, m, hi, rfl, ht, rfl⟩ := hrel
      by_cases hik : i < l1.length
      · have hl : l1.length = l2.length := HL.out
        obtain ⟨bb1, o1, rfl, r1⟩ := h1 (by omega)
        obtain ⟨bb2, o2, rfl, r2⟩ := h2 (by omega)
        obtain ⟨x, hx⟩ : ∃ x, l1[i]? = some x := ⟨_, List.getElem?_eq_getElem hik⟩
        obtain ⟨y, hy⟩ : ∃ y, l2[i]? = some y := ⟨_, List.getElem?_eq_getElem (by omega)⟩
        have p := r1 i x hx
        have q := r2 i y hy
        have i1 : (0 : Int) ≤ (i : Int) := by omega
        have i2 : (i : Int) < (l1.length : Int) := by omega
        have HX : Hid (l1[i]? = some x) := hx
        have HY : Hid (l2[i]? = some y) := hy
        have HT : Hid (l1.take i = l2.take i) := ht
        clear r1 r2 hl hx hy ht
        by_cases hxy : x = y
        · subst hxy
          go_wp2
          go_quiet (fail)
          go_wp2
          exact ⟨⟨i + 1, _, by omega, by go_num, take_snoc HT.out HX.out HY.out, rfl⟩, by simp [intOf]; omega⟩
        · have e : (x == y) = false := beq_eq_false_iff_ne.2 hxy
          have HN : Hid (¬ l1 = l2) := fun e => hxy (by have h1 : l1[i]? = some x := HX.out; have h2 : l2[i]? = some y := HY.out; rw [e, h2] at h1; simp at h1; exact h1.symm)
          go_wp2
          go_quiet (fail)
          go_wp2
          go_ret
          exact ⟨by rw [decide_eq_false HN.out]; rfl, _, World.drewN_drewN _ _ _⟩
      · have HE : Hid (l1 = l2) := eq_upto ht (by omega) (by have : l1.length = l2.length := HL.out; omega)
        clear ht
        go_wp2
        go_ret
        exact ⟨by rw [decide_eq_true HE.out]; rfl, _, rfl⟩
  · have g0 : ((l1.length : Int) == (l2.length : Int)) = false := beq_eq_false_iff_ne.2 (by omega)
    have g1 : ¬ (l1.length : Int) = (l2.length : Int) := by omega
    have HN : Hid (¬ l1 = l2) := fun e => hl (by rw [e])
    clear hl
    go_enter Yba.func13, Yba.ntmps13
    go_wp2
    go_ret
    exact ⟨by rw [decide_eq_false HN.out]; rfl, 0, rfl⟩

set_option maxHeartbeats 400000 in
set_option maxRecDepth 100000 in
theorem equal_i8 (w : World) (a1 a2 : Option Addr) (c1 c2 : Nat) (l1 l2 : List Int) (h1 : Reads w .i8 a1 l1) (h2 : Reads w .i8 a2 l2) (b1 : l1.length ≤ 9223372036854775807) :
    Calls Yba.prog 14 #[.slice a1 l1.length c1, .slice a2 l2.length c2] w fun e w' => e = .returned (.bool (decide (l1 = l2))) ∧ ∃ m, w' = w.drewN m := by
  by_cases hl : l1.length = l2.length
  · have g0 : ((l1.length : Int) == (l2.length : Int)) = true := beq_iff_eq.2 (by omega)
    have HL : Hid (l1.length = l2.length) := hl
    rw [← hl]
    clear hl g0
    go_enter Yba.func14, Yba.ntmps14
    go_wp2
    go_loopw [5, 13] (fun _ s wq => ∃ i m : Nat, i ≤ l1.length ∧ s = .int .i64 i ∧ l1.take i = l2.take i ∧ wq = w.drewN m) (fun _ s _ => l1.length - (intOf s).toNat)
    case atStart => exact ⟨0, 0, by omega, rfl, by simp, rfl⟩
    case round =>
      obtain ⟨i, m, hi, rfl, ht, rfl⟩ := hrel
      by_cases hik : i < l1.length
      · have hl : l1.length = l2.length := HL.out
        obtain ⟨bb1, o1, rfl, r1⟩ := h1 (by omega)
        obtain ⟨bb2, o2, rfl, r2⟩ := h2 (by omega)
        obtain ⟨x, hx⟩ : ∃ x, l1[i]? = some x := ⟨_, List.getElem?_eq_getElem hik⟩
        obtain ⟨y, hy⟩ : ∃ y, l2[i]? = some y := ⟨_, List.getElem?_eq_getElem (by omega)⟩
        have p := r1 i x hx
        have q := r2 i y hy
        have i1 : (0 : Int) ≤ (i : Int) := by omega
        have i2 : (i : Int) < (l1.length : Int) := by omega
        have HX : Hid (l1[i]? = some x) := hx
        have HY : Hid (l2[i]? = some y) := hy
        have HT : Hid (l1.take i = l2.take i) := ht
        clear r1 r2 hl hx hy ht
        by_cases hxy : x = y
        · subst hxy
          go_wp2
          go_quiet (fail)
          go_wp2
          exact ⟨⟨i + 1, _, by omega, by go_num, take_snoc HT.out HX.out HY.out, rfl⟩, by simp [intOf]; omega⟩
        · have e : (x == y) = false := beq_eq_false_iff_ne.2 hxy
          have HN : Hid (¬ l1 = l2) := fun e => hxy (by have h1 : l1[i]? = some x := HX.out; have h2 : l2[i]? = some y := HY.out; rw [e, h2] at h1; simp at h1; exact h1.symm)
          go_wp2
          go_quiet (fail)
          go_wp2
          go_ret
          exact ⟨by rw [decide_eq_false HN.out]; rfl, _, World.drewN_drewN _ _ _⟩
      · have HE : Hid (l1 = l2) := eq_upto ht (by omega) (by have : l1.length = l2.length := HL.out; omega)
        clear ht
        go_wp2
        go_ret
        exact ⟨by rw [decide_eq_true HE.out]; rfl, _, rfl⟩
  · have g0 : ((l1.length : Int) == (l2.length : Int)) = false := beq_eq_false_iff_ne.2 (by omega)
    have g1 : ¬ (l1.length : Int) = (l2.length : Int) := by omega
    have HN : Hid (¬ l1 = l2) := fun e => hl (by rw [e])
    clear hl
    go_enter Yba.func14, Yba.ntmps14
    go_wp2
    go_ret
    exact ⟨by rw [decide_eq_false HN.out]; rfl, 0, rfl⟩

set_option maxHeartbeats 400000 in
set_option maxRecDepth 100000 in
theorem equal_i32 (w : World) (a1 a2 : Option Addr) (c1 c2 : Nat) (l1 l2 : List Int) (h1 : Reads w .i32 a1 l1) (h2 : Reads w .i32 a2 l2) (b1 : l1.length ≤ 9223372036854775807) :
    Calls Yba.prog 15 #[.slice a1 l1.length c1, .slice a2 l2.length c2] w fun e w' => e = .returned (.bool (decide (l1 = l2))) ∧ ∃ m, w' = w.drewN m := by
  by_cases hl : l1.length = l2.length
  · have g0 : ((l1.length : Int) == (l2.length : Int)) = true := beq_iff_eq.2 (by omega)
    have HL : Hid (l1.length = l2.length) := hl
    rw [← hl]
    clear hl g0
    go_enter Yba.func15, Yba.ntmps15
    go_wp2
    go_loopw [5, 13] (fun _ s wq => ∃ i m : Nat, i ≤ l1.length ∧ s = .int .i64 i ∧ l1.take i = l2.take i ∧ wq = w.drewN m) (fun _ s _ => l1.length - (intOf s).toNat)
    case atStart => exact ⟨0, 0, by omega, rfl, by simp, rfl⟩
    case round =>
      obtain ⟨i, m, hi, rfl, ht, rfl⟩ := hrel
      by_cases hik : i < l1.length
      · have hl : l1.length = l2.length := HL.out
        obtain ⟨bb1, o1, rfl, r1⟩ := h1 (by omega)
        obtain ⟨bb2, o2, rfl, r2⟩ := h2 (by omega)
        obtain ⟨x, hx⟩ : ∃ x, l1[i]? = some x := ⟨_, List.getElem?_eq_getElem hik⟩
        obtain ⟨y, hy⟩ : ∃ y, l2[i]? = some y := ⟨_, List.getElem?_eq_getElem (by omega)⟩
        have p := r1 i x hx
        have q := r2 i y hy
        have i1 : (0 : Int) ≤ (i : Int) := by omega
        have i2 : (i : Int) < (l1.length : Int) := by omega
        have HX : Hid (l1[i]? = some x) := hx
        have HY : Hid (l2[i]? = some y) := hy
        have HT : Hid (l1.take i = l2.take i) := ht
        clear r1 r2 hl hx hy ht
        by_cases hxy : x = y
        · subst hxy
          go_wp2
          go_quiet (fail)
          go_wp2
          exact ⟨⟨i + 1, _, by omega, by go_num, take_snoc HT.out HX.out HY.out, rfl⟩, by simp [intOf]; omega⟩
        · have e : (x == y) = false := beq_eq_false_iff_ne.2 hxy
          have HN : Hid (¬ l1 = l2) := fun e => hxy (by have h1 : l1[i]? = some x := HX.out; have h2 : l2[i]? = some y := HY.out; rw [e, h2] at h1; simp at h1; exact h1.symm)
          go_wp2
          go_quiet (fail)
          go_wp2
          go_ret
          exact ⟨by rw [decide_eq_false HN.out]; rfl, _, World.drewN_drewN _ _ _⟩
      · have HE : Hid (l1 = l2) := eq_upto ht (by omega) (by have : l1.length = l2.length := HL.out; omega)
        clear ht
        go_wp2
        go_ret
        exact ⟨by rw [decide_eq_true HE.out]; rfl, _, rfl⟩
  · have g0 : ((l1.length : Int) == (l2.length : Int)) = false := beq_eq_false_iff_ne.2 (by omega)
    have g1 : ¬ (l1.length : Int) = (l2.length : Int) := by omega
    have HN : Hid (¬ l1 = l2) := fun e => hl (by rw [e])
    clear hl
    go_enter Yba.func15, Yba.ntmps15
    go_wp2
    go_ret
    exact ⟨by rw [decide_eq_false HN.out]; rfl, 0, rfl⟩

set_option maxHeartbeats 400000 in
set_option maxRecDepth 100000 in
theorem equalWords_any (w : World) (a1 a2 : Option Addr) (c1 c2 : Nat) (l1 l2 : List Int) (h1 : Reads w .u64 a1 l1) (h2 : Reads w .u64 a2 l2) (b1 : l1.length ≤ 9223372036854775807) (hle : l1.length ≤ l2.length) :
    Calls Yba.prog 16 #[.slice a1 l1.length c1, .slice a2 l2.length c2] w fun e w' => e = .returned (.bool (decide (l1 = l2.take l1.length))) ∧ ∃ m, w' = w.drewN m := by
  go_enter Yba.func16, Yba.ntmps16
  go_wp2
  go_loopw [5, 8] (fun _ s wq => ∃ i m : Nat, i ≤ l1.length ∧ s = .int .i64 i ∧ l1.take i = l2.take i ∧ wq = w.drewN m) (fun _ s _ => l1.length - (intOf s).toNat)
  case atStart => exact ⟨0, 0, by omega, rfl, by simp, rfl⟩
  case round =>
    obtain ⟨i, m, hi, rfl, ht, rfl⟩ := hrel
    by_cases hik : i < l1.length
    · obtain ⟨bb1, o1, rfl, r1⟩ := h1 (by omega)
      obtain ⟨bb2, o2, rfl, r2⟩ := h2 (by omega)
      obtain ⟨x, hx⟩ : ∃ x, l1[i]? = some x := ⟨_, List.getElem?_eq_getElem hik⟩
      obtain ⟨y, hy⟩ : ∃ y, l2[i]? = some y := ⟨_, List.getElem?_eq_getElem (by omega)⟩
      have p := r1 i x hx
      have q := r2 i y hy
      have i1 : (0 : Int) ≤ (i : Int) := by omega
      have i2 : (i : Int) < (l1.length : Int) := by omega
      have i3 : (i : Int) < (l2.length : Int) := by omega
      have HX : Hid (l1[i]? = some x) := hx
      have HY : Hid (l2[i]? = some y) := hy
      have HT : Hid (l1.take i = l2.take i) := ht
      clear r1 r2 hx hy ht
      by_cases hxy : x = y
      · subst hxy
        go_wp2
        go_quiet (fail)
        go_wp2
        exact ⟨⟨i + 1, _, by omega, by go_num, take_snoc HT.out HX.out HY.out, rfl⟩, by simp [intOf]; omega⟩
      · have e : (x == y) = false := beq_eq_false_iff_ne.2 hxy
        have HN : Hid (¬ l1 = l2.take l1.length) := fun e => hxy (by have h1 : l1[i]? = some x := HX.out; have h2 : l2[i]? = some y := HY.out; rw [e, List.getElem?_take_of_lt hik, h2] at h1; simp at h1; exact h1.symm)
        go_wp2
        go_quiet (fail)
        go_wp2
        go_ret
        exact ⟨by rw [decide_eq_false HN.out]; rfl, _, World.drewN_drewN _ _ _⟩
    · have HE : Hid (l1 = l2.take l1.length) := by
        obtain rfl : i = l1.length := by omega
        rw [List.take_length] at ht
        exact ht
      clear ht
      go_wp2
      go_ret
      exact ⟨by rw [decide_eq_true HE.out]; rfl, _, rfl⟩

set_option maxHeartbeats 400000 in
set_option maxRecDepth 100000 in
theorem clone_u64 (w : World) (ao : Option Addr) (c : Nat) (l : List Int) (h : Reads w .u64 ao l) (hn : ao = none → l.length = 0 ∧ c = 0) (b1 : l.length ≤ 2097152) :
    Calls Yba.prog 7 #[.slice ao l.length c] w fun e w' => ∃ v', e = .returned v' ∧ w'.ownsRow w.heap.size 24 1 v' l.length (ints .u64 l) ∧ Keeps (fun _ => False) w w' := by
  obtain ⟨i0, hi, hz0, hz1, hz2⟩ := info_parts Yba.info24
  have hnil : ∀ (u : World) (a : Option Addr) (n c : Nat), (binOp .eql 23 (.slice a n c) (.slice none 0 0)).run Yba.prog u = .ok (.bool a.isNone) u := fun u a n c => Lib.run_eql_slice_nil u 23 24 a n c 0 0 Yba.underlying23
  cases ao with
  | none =>
    obtain ⟨hl, rfl⟩ := hn rfl
    obtain rfl : l = [] := List.eq_nil_of_length_eq_zero hl
    clear h hn hl
    go_enter Yba.func7, Yba.ntmps7
    go_wp2
    go_ret
    exact ⟨_, rfl, ⟨by simp [ints], .inl ⟨rfl, rfl⟩⟩, Keeps.refl _ _⟩
  | some ad =>
    have hs : ∀ (o2 : Obj) j u, (ints .u64 l)[j]? = some u → (w.alloc o2).cell? (ad.add j) = some u := by
      intro o2 j u hu
      have hj : j < l.length := by have := (List.getElem?_eq_some_iff.1 hu).1; simpa [ints] using this
      obtain ⟨b, off, e, hc⟩ := h (by omega)
      simp at e
      subst e
      rw [Addr.add_lit]
      have hx : l[j]? = some (l[j]'hj) := List.getElem?_eq_getElem _
      have : u = .int .u64 (l[j]'hj) := by simp [ints, hx] at hu; exact hu.symm
      rw [this]
      exact cell_alloc' (hc j _ hx) o2
    have ho : (w.alloc (.cells #[] 24)).ownsRow w.heap.size 24 1 (.slice (some ⟨w.heap.size, 0, none⟩) 0 0) 0 [] := ⟨rfl, .inr ⟨w.heap.size, 0, #[], rfl, Nat.le_refl _, heap_new _ _ _ rfl, Nat.le_refl _, Nat.zero_le _, rfl, rfl⟩⟩
    have HK : Hid (∀ u, (w.alloc (.cells #[] 24)).grownBy u (some w.heap.size) → Keeps (fun _ => False) w u) := fun u g => (Keeps.alloc _ _ _).then (Keeps.grown (bad := fun k => k = w.heap.size) g (fun k e => by simpa using e.symm)) (fun i hi e => by omega)
    clear h hn
    go_enter Yba.func7, Yba.ntmps7
    go_wp2_with (at_builtin; refine wpList_append_own _ rfl _ _ 23 rfl w.heap.size 24 i0 _ 1 8 Yba.underlying23 hi hz0 hz1 hz2 rfl (by decide) (.slice (some ⟨w.heap.size, 0, none⟩) 0 0) 0 [] rfl ho ad l.length c (ints .u64 l) rfl (by simp [ints]) (hs _) (ints_one _ _) (by unfold maxLen; omega) (by omega) (by simp) ?_; intro v' w2 own2 g2 n2; have HO : Hid (w2.ownsRow w.heap.size 24 1 v' l.length (ints .u64 l)) := (show w2.ownsRow w.heap.size 24 1 v' l.length (ints .u64 l) by simpa using own2); clear own2 n2)
    go_ret
    exact ⟨_, rfl, HO.out, HK.out _ g2⟩

set_option maxHeartbeats 400000 in
set_option maxRecDepth 100000 in
theorem clone_u32 (w : World) (ao : Option Addr) (c : Nat) (l : List Int) (h : Reads w .u32 ao l) (hn : ao = none → l.length = 0 ∧ c = 0) (b1 : l.length ≤ 2097152) :
    Calls Yba.prog 8 #[.slice ao l.length c] w fun e w' => ∃ v', e = .returned v' ∧ w'.ownsRow w.heap.size 37 1 v' l.length (ints .u32 l) ∧ Keeps (fun _ => False) w w' := by
  obtain ⟨i0, hi, hz0, hz1, hz2⟩ := info_parts Yba.info37
  have hnil : ∀ (u : World) (a : Option Addr) (n c : Nat), (binOp .eql 27 (.slice a n c) (.slice none 0 0)).run Yba.prog u = .ok (.bool a.isNone) u := fun u a n c => Lib.run_eql_slice_nil u 27 37 a n c 0 0 Yba.underlying27
  cases ao with
  | none =>
    obtain ⟨hl, rfl⟩ := hn rfl
    obtain rfl : l = [] := List.eq_nil_of_length_eq_zero hl
    clear h hn hl
    go_enter Yba.func8, Yba.ntmps8
    go_wp2
    go_ret
    exact ⟨_, rfl, ⟨by simp [ints], .inl ⟨rfl, rfl⟩⟩, Keeps.refl _ _⟩
  | some ad =>
    have hs : ∀ (o2 : Obj) j u, (ints .u32 l)[j]? = some u → (w.alloc o2).cell? (ad.add j) = some u := by
      intro o2 j u hu
      have hj : j < l.length := by have := (List.getElem?_eq_some_iff.1 hu).1; simpa [ints] using this
      obtain ⟨b, off, e, hc⟩ := h (by omega)
      simp at e
      subst e
      rw [Addr.add_lit]
      have hx : l[j]? = some (l[j]'hj) := List.getElem?_eq_getElem _
      have : u = .int .u32 (l[j]'hj) := by simp [ints, hx] at hu; exact hu.symm
      rw [this]
      exact cell_alloc' (hc j _ hx) o2
    have ho : (w.alloc (.cells #[] 37)).ownsRow w.heap.size 37 1 (.slice (some ⟨w.heap.size, 0, none⟩) 0 0) 0 [] := ⟨rfl, .inr ⟨w.heap.size, 0, #[], rfl, Nat.le_refl _, heap_new _ _ _ rfl, Nat.le_refl _, Nat.zero_le _, rfl, rfl⟩⟩
    have HK : Hid (∀ u, (w.alloc (.cells #[] 37)).grownBy u (some w.heap.size) → Keeps (fun _ => False) w u) := fun u g => (Keeps.alloc _ _ _).then (Keeps.grown (bad := fun k => k = w.heap.size) g (fun k e => by simpa using e.symm)) (fun i hi e => by omega)
    clear h hn
    go_enter Yba.func8, Yba.ntmps8
    go_wp2_with (at_builtin; refine wpList_append_own _ rfl _ _ 27 rfl w.heap.size 37 i0 _ 1 4 Yba.underlying27 hi hz0 hz1 hz2 rfl (by decide) (.slice (some ⟨w.heap.size, 0, none⟩) 0 0) 0 [] rfl ho ad l.length c (ints .u32 l) rfl (by simp [ints]) (hs _) (ints_one _ _) (by unfold maxLen; omega) (by omega) (by simp) ?_; intro v' w2 own2 g2 n2; have HO : Hid (w2.ownsRow w.heap.size 37 1 v' l.length (ints .u32 l)) := (show w2.ownsRow w.heap.size 37 1 v' l.length (ints .u32 l) by simpa using own2); clear own2 n2)
    go_ret
    exact ⟨_, rfl, HO.out, HK.out _ g2⟩

set_option maxHeartbeats 400000 in
set_option maxRecDepth 100000 in
theorem clone_i8 (w : World) (ao : Option Addr) (c : Nat) (l : List Int) (h : Reads w .i8 ao l) (hn : ao = none → l.length = 0 ∧ c = 0) (b1 : l.length ≤ 2097152) :
    Calls Yba.prog 9 #[.slice ao l.length c] w fun e w' => ∃ v', e = .returned v' ∧ w'.ownsRow w.heap.size 25 1 v' l.length (ints .i8 l) ∧ Keeps (fun _ => False) w w' := by
  obtain ⟨i0, hi, hz0, hz1, hz2⟩ := info_parts Yba.info25
  have hnil : ∀ (u : World) (a : Option Addr) (n c : Nat), (binOp .eql 28 (.slice a n c) (.slice none 0 0)).run Yba.prog u = .ok (.bool a.isNone) u := fun u a n c => Lib.run_eql_slice_nil u 28 25 a n c 0 0 Yba.underlying28
  cases ao with
  | none =>
    obtain ⟨hl, rfl⟩ := hn rfl
    obtain rfl : l = [] := List.eq_nil_of_length_eq_zero hl
    clear h hn hl
    go_enter Yba.func9, Yba.ntmps9
    go_wp2
    go_ret
    exact ⟨_, rfl, ⟨by simp [ints], .inl ⟨rfl, rfl⟩⟩, Keeps.refl _ _⟩
  | some ad =>
    have hs : ∀ (o2 : Obj) j u, (ints .i8 l)[j]? = some u → (w.alloc o2).cell? (ad.add j) = some u := by
      intro o2 j u hu
      have hj : j < l.length := by have := (List.getElem?_eq_some_iff.1 hu).1; simpa [ints] using this
      obtain ⟨b, off, e, hc⟩ := h (by omega)
      simp at e
      subst e
      rw [Addr.add_lit]
      have hx : l[j]? = some (l[j]'hj) := List.getElem?_eq_getElem _
      have : u = .int .i8 (l[j]'hj) := by simp [ints, hx] at hu; exact hu.symm
      rw [this]
      exact cell_alloc' (hc j _ hx) o2
    have ho : (w.alloc (.cells #[] 25)).ownsRow w.heap.size 25 1 (.slice (some ⟨w.heap.size, 0, none⟩) 0 0) 0 [] := ⟨rfl, .inr ⟨w.heap.size, 0, #[], rfl, Nat.le_refl _, heap_new _ _ _ rfl, Nat.le_refl _, Nat.zero_le _, rfl, rfl⟩⟩
    have HK : Hid (∀ u, (w.alloc (.cells #[] 25)).grownBy u (some w.heap.size) → Keeps (fun _ => False) w u) := fun u g => (Keeps.alloc _ _ _).then (Keeps.grown (bad := fun k => k = w.heap.size) g (fun k e => by simpa using e.symm)) (fun i hi e => by omega)
    clear h hn
    go_enter Yba.func9, Yba.ntmps9
    go_wp2_with (at_builtin; refine wpList_append_own _ rfl _ _ 28 rfl w.heap.size 25 i0 _ 1 1 Yba.underlying28 hi hz0 hz1 hz2 rfl (by decide) (.slice (some ⟨w.heap.size, 0, none⟩) 0 0) 0 [] rfl ho ad l.length c (ints .i8 l) rfl (by simp [ints]) (hs _) (ints_one _ _) (by unfold maxLen; omega) (by omega) (by simp) ?_; intro v' w2 own2 g2 n2; have HO : Hid (w2.ownsRow w.heap.size 25 1 v' l.length (ints .i8 l)) := (show w2.ownsRow w.heap.size 25 1 v' l.length (ints .i8 l) by simpa using own2); clear own2 n2)
    go_ret
    exact ⟨_, rfl, HO.out, HK.out _ g2⟩

set_option maxHeartbeats 400000 in
set_option maxRecDepth 100000 in
theorem clone_i32 (w : World) (ao : Option Addr) (c : Nat) (l : List Int) (h : Reads w .i32 ao l) (hn : ao = none → l.length = 0 ∧ c = 0) (b1 : l.length ≤ 2097152) :
    Calls Yba.prog 10 #[.slice ao l.length c] w fun e w' => ∃ v', e = .returned v' ∧ w'.ownsRow w.heap.size 21 1 v' l.length (ints .i32 l) ∧ Keeps (fun _ => False) w w' := by
  obtain ⟨i0, hi, hz0, hz1, hz2⟩ := info_parts Yba.info21
  have hnil : ∀ (u : World) (a : Option Addr) (n c : Nat), (binOp .eql 29 (.slice a n c) (.slice none 0 0)).run Yba.prog u = .ok (.bool a.isNone) u := fun u a n c => Lib.run_eql_slice_nil u 29 21 a n c 0 0 Yba.underlying29
  cases ao with
  | none =>
    obtain ⟨hl, rfl⟩ := hn rfl
    obtain rfl : l = [] := List.eq_nil_of_length_eq_zero hl
    clear h hn hl
    go_enter Yba.func10, Yba.ntmps10
    go_wp2
    go_ret
    exact ⟨_, rfl, ⟨by simp [ints], .inl ⟨rfl, rfl⟩⟩, Keeps.refl _ _⟩
  | some ad =>
    have hs : ∀ (o2 : Obj) j u, (ints .i32 l)[j]? = some u → (w.alloc o2).cell? (ad.add j) = some u := by
      intro o2 j u hu
      have hj : j < l.length := by have := (List.getElem?_eq_some_iff.1 hu).1; simpa [ints] using this
      obtain ⟨b, off, e, hc⟩ := h (by omega)
      simp at e
      subst e
      rw [Addr.add_lit]
      have hx : l[j]? = some (l[j]'hj) := List.getElem?_eq_getElem _
      have : u = .int .i32 (l[j]'hj) := by simp [ints, hx] at hu; exact hu.symm
      rw [this]
      exact cell_alloc' (hc j _ hx) o2
    have ho : (w.alloc (.cells #[] 21)).ownsRow w.heap.size 21 1 (.slice (some ⟨w.heap.size, 0, none⟩) 0 0) 0 [] := ⟨rfl, .inr ⟨w.heap.size, 0, #[], rfl, Nat.le_refl _, heap_new _ _ _ rfl, Nat.le_refl _, Nat.zero_le _, rfl, rfl⟩⟩
    have HK : Hid (∀ u, (w.alloc (.cells #[] 21)).grownBy u (some w.heap.size) → Keeps (fun _ => False) w u) := fun u g => (Keeps.alloc _ _ _).then (Keeps.grown (bad := fun k => k = w.heap.size) g (fun k e => by simpa using e.symm)) (fun i hi e => by omega)
    clear h hn
    go_enter Yba.func10, Yba.ntmps10
    go_wp2_with (at_builtin; refine wpList_append_own _ rfl _ _ 29 rfl w.heap.size 21 i0 _ 1 4 Yba.underlying29 hi hz0 hz1 hz2 rfl (by decide) (.slice (some ⟨w.heap.size, 0, none⟩) 0 0) 0 [] rfl ho ad l.length c (ints .i32 l) rfl (by simp [ints]) (hs _) (ints_one _ _) (by unfold maxLen; omega) (by omega) (by simp) ?_; intro v' w2 own2 g2 n2; have HO : Hid (w2.ownsRow w.heap.size 21 1 v' l.length (ints .i32 l)) := (show w2.ownsRow w.heap.size 21 1 v' l.length (ints .i32 l) by simpa using own2); clear own2 n2)
    go_ret
    exact ⟨_, rfl, HO.out, HK.out _ g2⟩
end Go.Proofs.Ybulkdyci
