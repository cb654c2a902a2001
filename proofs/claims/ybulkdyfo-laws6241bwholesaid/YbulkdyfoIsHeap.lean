import Derived.Test.YbulkdyfoComp
namespace Go.Proofs.Ybulkdyfo
open Go.RowKit

set_option maxHeartbeats 400000 in
theorem blt_any (x y : Itm) (w : World) : Calls Yba.prog 12 #[.agg #[.int .i64 x.key, .int .i64 x.order, .int .i64 x.value], .agg #[.int .i64 y.key, .int .i64 y.order, .int .i64 y.value]] w fun e w' => e = .returned (.bool (ltI x y)) ∧ Keeps (fun _ => False) w w' := by
  obtain ⟨k1, o1, v1⟩ := x
  obtain ⟨k2, o2, v2⟩ := y
  have HK : Hid (∀ a b, Keeps (fun _ => False) w ((w.alloc a).alloc b)) := fun a b => (Keeps.alloc _ _ _).trans (Keeps.alloc _ _ _)
  by_cases h : k1 = k2
  · subst h
    have e : ltI ⟨k1, o1, v1⟩ ⟨k1, o2, v2⟩ = decide (o1 < o2) := by simp [ltI]
    rw [e]
    clear e
    go_enter Yba.func12, Yba.ntmps12
    go_wp2
    go_ret
    exact ⟨rfl, HK.out _ _⟩
  · have e : ltI ⟨k1, o1, v1⟩ ⟨k2, o2, v2⟩ = decide (k1 < k2) := by simp [ltI, h]
    rw [e]
    clear e
    go_enter Yba.func12, Yba.ntmps12
    go_wp2
    go_ret
    exact ⟨rfl, HK.out _ _⟩

theorem wrap_small {x : Int} (h0 : 0 ≤ x) (h1 : x ≤ 2097152) : IntKind.i64.wrap x = x := by
  simp [IntKind.wrap, IntKind.bits, IntKind.signed]
  omega

/-- The rule of the heap. -/
def IsHeap (h : List Itm) : Prop := ∀ i, 0 < i → ∀ x y, h[i]? = some x → h[(i - 1) / 2]? = some y → ltI x y = false

open Classical in
/-- Whether it holds. -/
noncomputable def isHeapB (h : List Itm) : Bool := decide (IsHeap h)

theorem isHeapB_true {h : List Itm} (e : IsHeap h) : isHeapB h = true := by simp [isHeapB, e]
theorem isHeapB_false {h : List Itm} (e : ¬ IsHeap h) : isHeapB h = false := by simp [isHeapB, e]

theorem kown {w w' : World} (h : Keeps (fun _ => False) w w') {base : Nat} {e : TypeId} {size : Nat} {v : Value} {n : Nat} {xs : List Value} (ho : w.ownsRow base e size v n xs) : w'.ownsRow base e size v n xs := h.own ho (fun _ _ => id)

set_option maxHeartbeats 1000000 in
set_option maxRecDepth 100000 in
theorem isheap_any (w : World) (base g n cap : Nat) (hs : List Itm) (own : w.ownsRow base 59 3 (.slice (some ⟨g, 0, none⟩) n cap) n (icells hs)) (hlen : hs.length = n) (hn : n ≤ 2097152) :
    Calls Yba.prog 11 #[.slice (some ⟨g, 0, none⟩) n cap] w fun e w' => e = .returned (.bool (isHeapB hs)) ∧ Keeps (fun _ => False) w w' := by
  go_enter Yba.func11, Yba.ntmps11
  go_wp2
  go_loopw [3] (fun s wq => ∃ i : Nat, 1 ≤ i ∧ i ≤ n + 1 ∧ s = .int .i64 i ∧ (∀ j, 0 < j → j < i → ∀ x y, hs[j]? = some x → hs[(j - 1) / 2]? = some y → ltI x y = false) ∧ Keeps (fun _ => False) w wq) (fun s _ => n + 1 - (intOf s).toNat)
  case atStart => exact ⟨1, by omega, by omega, rfl, fun j h1 h2 => by omega, Keeps.refl _ _⟩
  case round =>
    obtain ⟨i, hi1, hi2, rfl, hok, hk⟩ := hrel
    obtain ⟨k, rfl⟩ : ∃ k, i = k + 1 := ⟨i - 1, by omega⟩
    by_cases hin : k + 1 < n
    · have own' := kown hk own
      obtain ⟨p0, p1, p2⟩ := own_item own' (k + 1) (by omega)
      obtain ⟨q0, q1, q2⟩ := own_item own' (k / 2) (by omega)
      have hx : hs[k + 1]? = some (hs[k + 1]'(by omega)) := List.getElem?_eq_getElem _
      have hy : hs[k / 2]? = some (hs[k / 2]'(by omega)) := List.getElem?_eq_getElem _
      generalize hs[k + 1]'(by omega) = x at hx p0 p1 p2
      generalize hs[k / 2]'(by omega) = y at hy q0 q1 q2
      have i1 : (0 : Int) ≤ (k : Int) + 1 := by omega
      have i2 : (k : Int) + 1 < (n : Int) := by omega
      have j1 : (0 : Int) ≤ (k : Int) / 2 := by omega
      have j2 : (k : Int) / 2 < (n : Int) := by omega
      have j3 : ((k : Int) / 2).toNat = k / 2 := by omega
      have j4 : IntKind.i64.wrap (k : Int) = (k : Int) := wrap_small (by omega) (by omega)
      have j5 : IntKind.i64.wrap ((k : Int).tdiv 2) = (k : Int) / 2 := by rw [Int.tdiv_eq_ediv_of_nonneg (by omega)]; exact wrap_small (by omega) (by omega)
      clear own'
      have j6 : IntKind.i64.wrap ((k : Int) / 2) = (k : Int) / 2 := wrap_small (by omega) (by omega)
      have HO : Hid (∀ j, 0 < j → j < k + 1 → ∀ x y, hs[j]? = some x → hs[(j - 1) / 2]? = some y → ltI x y = false) := hok
      clear hok
      go_upto_region 4 with fail
      cases hl : ltI x y
      · go_region_held3 (fun w' => w'.cell? ⟨g, (k + 1) * 3, none⟩ = some (.int .i64 x.key) ∧ w'.cell? ⟨g, (k + 1) * 3 + 1, none⟩ = some (.int .i64 x.order) ∧ w'.cell? ⟨g, (k + 1) * 3 + 2, none⟩ = some (.int .i64 x.value) ∧ w'.cell? ⟨g, k / 2 * 3, none⟩ = some (.int .i64 y.key) ∧ w'.cell? ⟨g, k / 2 * 3 + 1, none⟩ = some (.int .i64 y.order) ∧ w'.cell? ⟨g, k / 2 * 3 + 2, none⟩ = some (.int .i64 y.value)) (first | go_keep | exact ⟨kcell k4 p0 id, kcell k4 p1 id, kcell k4 p2 id, kcell k4 q0 id, kcell k4 q1 id, kcell k4 q2 id⟩) (first | (go_at_call 12; refine (blt_any x y _).mono ?_; rintro e w4 ⟨rfl, k4⟩; rw [hl]))
        go_wp2
        go_roundw
        case rel =>
          refine ⟨k + 2, by omega, by omega, by go_num, fun j hj hjk x' y' hx' hy' => ?_, hk.trans ((Keeps.drewN _ _ 1).trans k4)⟩
          by_cases e : j = k + 1
          · subst e
            rw [hx] at hx'
            rw [Nat.add_sub_cancel, hy] at hy'
            simp at hx' hy'
            subst hx' hy'
            exact hl
          · exact HO.out j hj (by omega) x' y' hx' hy'
        case measure => simp [intOf]; omega
      · go_region_held3 (fun w' => w'.cell? ⟨g, (k + 1) * 3, none⟩ = some (.int .i64 x.key) ∧ w'.cell? ⟨g, (k + 1) * 3 + 1, none⟩ = some (.int .i64 x.order) ∧ w'.cell? ⟨g, (k + 1) * 3 + 2, none⟩ = some (.int .i64 x.value) ∧ w'.cell? ⟨g, k / 2 * 3, none⟩ = some (.int .i64 y.key) ∧ w'.cell? ⟨g, k / 2 * 3 + 1, none⟩ = some (.int .i64 y.order) ∧ w'.cell? ⟨g, k / 2 * 3 + 2, none⟩ = some (.int .i64 y.value)) (first | go_keep | exact ⟨kcell k4 p0 id, kcell k4 p1 id, kcell k4 p2 id, kcell k4 q0 id, kcell k4 q1 id, kcell k4 q2 id⟩) (first | (go_at_call 12; refine (blt_any x y _).mono ?_; rintro e w4 ⟨rfl, k4⟩; rw [hl]))
        go_wp2
        go_ret
        rw [isHeapB_false (fun e => by have := e (k + 1) (by omega) x y hx (by rw [Nat.add_sub_cancel]; exact hy); rw [hl] at this; cases this)]
        exact ⟨rfl, hk.trans ((Keeps.drewN _ _ 1).trans k4)⟩
    · go_wp2
      go_ret
      rw [isHeapB_true (fun j hj x y h1 h2 => hok j hj (by have := (List.getElem?_eq_some_iff.1 h1).1; omega) x y h1 h2)]
      exact ⟨rfl, hk⟩
end Go.Proofs.Ybulkdyfo
