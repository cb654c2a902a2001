import Derived.Test.YbulkdyemLawB0
namespace Go.Proofs.Ybulkdyem
open Go.RowKit

/-- The copy in the making: block B holds len strings, the first k of them the warnings'. -/
structure CRel (ss : List ByteArray) (w wr : World) (len k : Nat) (cur : Array Value) : Prop where
  blk : Blk wr w.heap.size cur 9
  size : cur.size = len
  done : ∀ j, j < k → cur[j]? = some (.string (ss.getD j ByteArray.empty))
  below : Below w.heap.size w wr

theorem crel_start {ss : List ByteArray} {w w1 : World} {len : Nat} {xs : List Value} (h : w1.ownsRow w.heap.size 9 1 (.slice (some ⟨w.heap.size, 0, none⟩) len len) len xs) (hg : w.grownBy w1 none) :
    ∃ cur, CRel ss w w1 len 0 cur := by
  rcases h.2 with ⟨e, _⟩ | ⟨g, cap, cur, e, _, hh, _, _, hs, _⟩
  · simp at e
  · simp at e
    obtain ⟨rfl, rfl⟩ := e
    exact ⟨cur, hh, by omega, fun j hj => by omega, (Below.refl _ _).grown hg (Nat.le_refl _) (fun k e => by simp at e)⟩

theorem crel_step {ss : List ByteArray} {w wr : World} {len k : Nat} {cur : Array Value} {S : ByteArray} (h : CRel ss w wr len k cur) (hk : k < len) (hS : S = ss.getD k ByteArray.empty) :
    CRel ss w (wr.setCell ⟨w.heap.size, k, none⟩ (.string S)) len (k + 1) (cur.setIfInBounds k (.string S)) where
  blk := h.blk.set_same k _
  size := by simpa using h.size
  done := fun j hj => by
    have := h.size
    by_cases hjk : j = k
    · subst hjk
      rw [Array.getElem?_setIfInBounds_self_of_lt (by omega), hS]
    · rw [Array.getElem?_setIfInBounds_ne (by omega)]
      exact h.done j (by omega)
  below := h.below.setCell (Nat.le_refl _) _

theorem crel_cell {ss : List ByteArray} {w wr : World} {len k : Nat} {cur : Array Value} (h : CRel ss w wr len k cur) (hk : k < len) : ∃ u, wr.cell? ⟨w.heap.size, k, none⟩ = some u := by
  have := h.size
  exact ⟨cur[k]'(by omega), by rw [h.blk.cell k]; simp⟩

theorem cell_alloc {w : World} {a : Addr} {v : Value} (h : w.cell? a = some v) (o : Obj) : (w.alloc o).cell? a = some v :=
  (World.cell?_of_block (Below.heap_alloc w o a.block (World.block_lt_of_cell? w a h))).trans h

theorem diags_at : ∀ (ss : List ByteArray) (j : Nat), j < ss.length → (diags ss)[j * 2]? = some (.string warningB) ∧ (diags ss)[j * 2 + 1]? = some (.string (ss.getD j ByteArray.empty))
  | [], j, h => by simp at h
  | s :: ss, 0, _ => by simp [diags]
  | s :: ss, j + 1, h => by
    have ih := diags_at ss j (by simpa using h)
    have e : diags (s :: ss) = .string warningB :: .string s :: diags ss := rfl
    rw [e, show (j + 1) * 2 = j * 2 + 1 + 1 by omega, List.getElem?_cons_succ, List.getElem?_cons_succ, List.getElem?_cons_succ, List.getElem?_cons_succ]
    simpa using ih

/-- Behind the call of 'warned': what the law's later loops read. -/
structure DRel (ss : List ByteArray) (w wr : World) (b off len g c R : Nat) : Prop where
  wrn : ∀ j, j < len → wr.cell? ⟨b, off + j, none⟩ = some (.string (ss.getD j ByteArray.empty))
  bef : ∀ j, j < len → wr.cell? ⟨w.heap.size, j, none⟩ = some (.string (ss.getD j ByteArray.empty))
  lev : ∀ j, j < len → wr.cell? ⟨g, j * 2, none⟩ = some (.string warningB)
  msg : ∀ j, j < len → wr.cell? ⟨g, j * 2 + 1, none⟩ = some (.string (ss.getD j ByteArray.empty))
  fld : wr.cell? ⟨R, 1, none⟩ = some (.slice (some ⟨g, 0, none⟩) len c)
  below : Below w.heap.size w wr

theorem DRel.alloc {ss : List ByteArray} {w wr : World} {b off len g c R : Nat} (h : DRel ss w wr b off len g c R) (o : Obj) : DRel ss w (wr.alloc o) b off len g c R where
  wrn := fun j hj => cell_alloc (h.wrn j hj) o
  bef := fun j hj => cell_alloc (h.bef j hj) o
  lev := fun j hj => cell_alloc (h.lev j hj) o
  msg := fun j hj => cell_alloc (h.msg j hj) o
  fld := cell_alloc h.fld o
  below := h.below.alloc h.below.size o

theorem DRel.drewN {ss : List ByteArray} {w wr : World} {b off len g c R : Nat} (h : DRel ss w wr b off len g c R) (n : Nat) : DRel ss w (wr.drewN n) b off len g c R where
  wrn := h.wrn
  bef := h.bef
  lev := h.lev
  msg := h.msg
  fld := h.fld
  below := below_drewN h.below n

theorem drel_start {ss : List ByteArray} {w wr w2 : World} {b off len : Nat} {cur : Array Value} {v : Value} (hl : ss.length = len) (h0 : 0 < len) (hb : b < w.heap.size)
    (hc : ∀ k, k < len → w.cell? ⟨b, off + k, none⟩ = some (.string (ss.getD k ByteArray.empty))) (hr : CRel ss w wr len len cur) (hE : WEnd ss wr w2 len v) :
    ∃ g c, v = .slice (some ⟨g, 0, none⟩) len c ∧ DRel ss w (w2.alloc (.cells #[.pointer none, v] 26)) b off len g c w2.heap.size := by
  have hsz := hr.below.size
  have hlt := hr.blk.lt
  have hbel : Below w.heap.size w w2 := hr.below.trans (hE.below.mono hsz)
  rcases hE.own.2 with ⟨_, e⟩ | ⟨g, c, cur2, rfl, hg, hh, _, _, _, htake⟩
  · omega
  refine ⟨g, c, rfl, ?_⟩
  rw [show List.take len ss = ss from List.take_of_length_le (by omega)] at htake
  have hcell : ∀ i u, (diags ss)[i]? = some u → w2.cell? ⟨g, i, none⟩ = some u := by
    intro i u hu
    rw [cell_of_row w2 g i cur2 30 (0, 0) hh]
    rw [← htake, List.getElem?_take] at hu
    split at hu
    · simpa using hu
    · cases hu
  exact {
    wrn := fun j hj => cell_alloc (by rw [hbel.cell hb]; exact hc j hj) _
    bef := fun j hj => cell_alloc (by rw [hE.below.cell (show w.heap.size < wr.heap.size from hlt), hr.blk.cell]; exact hr.done j hj) _
    lev := fun j hj => cell_alloc (hcell _ _ (diags_at ss j (by omega)).1) _
    msg := fun j hj => cell_alloc (hcell _ _ (diags_at ss j (by omega)).2) _
    fld := by
      exact (Blk.new w2 #[.pointer none, .slice (some ⟨g, 0, none⟩) len c] 26).cell 1
    below := hbel.alloc hbel.size _ }

set_option maxHeartbeats 1000000 in
theorem law_some (b off len cap : Nat) (ss : List ByteArray) (w : World) (hl : ss.length = len) (hlen : len ≤ 1048576) (h0 : 0 < len) (hb : b < w.heap.size)
    (hc : ∀ k, k < len → w.cell? ⟨b, off + k, none⟩ = some (.string (ss.getD k ByteArray.empty))) :
    Calls Yba.prog 3 #[.slice (some ⟨b, off, none⟩) len cap] w fun e w' => e = .returned (.bool true) ∧ Below w.heap.size w w' := by
  have n1 := neq22; have n2 := neq24; have n3 := eql22
  obtain ⟨i0, hi, hz0, hz1, hz2⟩ := info_parts Yba.info9
  have HC : Hid (∀ k, k < len → w.cell? ⟨b, off + k, none⟩ = some (.string (ss.getD k ByteArray.empty))) := hc
  clear hc
  go_enter Yba.func3, Yba.ntmps3
  go_wp2_with (at_make; refine wpList_make_full _ rfl _ _ 22 rfl w.heap.size 9 i0 (.string ByteArray.empty) 1 Yba.underlying22 hi hz0 hz1 _ _ _ _ len rfl rfl rfl rfl (by rw [hz2]; omega) (by unfold maxLen; omega) (Nat.le_refl _) ?_)
  intro w1 hown hgrow
  obtain ⟨cur0, hcr0⟩ := crel_start (ss := ss) hown hgrow
  clear hown hgrow
  go_wp2
  go_loopw [4] (fun i wr => ∃ (k : Nat) (cur : Array Value), k ≤ len ∧ i = .int .i64 k ∧ CRel ss w wr len k cur) (fun i _ => len - (intOf i).toNat)
  case atStart => exact ⟨0, cur0, Nat.zero_le _, rfl, hcr0⟩
  case round =>
    obtain ⟨k, cur, hk, rfl, hr⟩ := hrel
    by_cases hlt : k < len
    · obtain ⟨S, hS⟩ : ∃ S, S = ss.getD k ByteArray.empty := ⟨_, rfl⟩
      have hcx : wr.cell? ⟨b, off + k, none⟩ = some (.string S) := by rw [hr.below.cell hb, HC.out k hlt, hS]
      have hst := crel_step hr hlt hS
      clear hS
      obtain ⟨u, hu⟩ := crel_cell hr hlt
      have hf := hr.blk.free k
      go_wp2
      go_roundw
      case rel => exact ⟨k + 1, _, by omega, by go_num, hst⟩
      case measure => simp [intOf]; omega
    · obtain rfl : k = len := by omega
      have hbw : b < wr.heap.size := Nat.lt_of_lt_of_le hb hr.below.size
      go_wp2_with fail
      refine (warned_some b off k cap ss wr hl hlen hbw (fun j hj => by rw [hr.below.cell hb]; exact HC.out j hj)).mono ?_
      rintro e w2 ⟨v, rfl, hE⟩
      obtain ⟨g, c, hv, hD⟩ := drel_start hl h0 hb HC.out hr hE
      rw [hv] at hD ⊢
      clear hE hr hv
      have hfld := hD.fld
      go_wp2
      clear hfld
      go_loopw [6] (fun i wq => ∃ (m : Nat), m ≤ k ∧ i = .int .i64 m ∧ DRel ss w wq b off k g c w2.heap.size) (fun i _ => k - (intOf i).toNat)
      case atStart => exact ⟨0, Nat.zero_le _, rfl, hD⟩
      case round =>
        obtain ⟨m, hm, rfl, hd⟩ := hrel
        have hfld := hd.fld
        by_cases hlt2 : m < k
        · obtain ⟨S, hS⟩ : ∃ S, S = ss.getD m ByteArray.empty := ⟨_, rfl⟩
          have hq1 : wr.cell? ⟨g, m * 2, none⟩ = some (.string { data := #[87, 97, 114, 110, 105, 110, 103] }) := hd.lev m hlt2
          have hq2 := hd.msg m hlt2
          have hq3 := hd.bef m hlt2
          rw [← hS] at hq2 hq3
          clear hS
          have hq4 : ∀ o, (wr.alloc o).cell? ⟨w.heap.size, m, none⟩ = some (.string S) := fun o => cell_alloc hq3 o
          go_wp2
          go_quiet (fail)
          go_wp2
          go_roundw
          case rel => exact ⟨m + 1, by omega, by go_num, (hd.alloc _).drewN _⟩
          case measure => simp [intOf]; omega
        · obtain rfl : m = k := by omega
          go_wp2
          go_loopw [8] (fun i wq => ∃ (m' : Nat), m' ≤ m ∧ i = .int .i64 m' ∧ DRel ss w wq b off m g c w2.heap.size) (fun i _ => m - (intOf i).toNat)
          case atStart => exact ⟨0, Nat.zero_le _, rfl, hd⟩
          case round =>
            clear hfld hd hD
            obtain ⟨m', hm', rfl, hd⟩ := hrel
            by_cases hlt3 : m' < m
            · obtain ⟨S, hS⟩ : ∃ S, S = ss.getD m' ByteArray.empty := ⟨_, rfl⟩
              have hq1 := hd.wrn m' hlt3
              have hq3 := hd.bef m' hlt3
              rw [← hS] at hq1 hq3
              clear hS
              go_wp2
              go_quiet (fail)
              go_wp2
              go_roundw
              case rel => exact ⟨m' + 1, by omega, by go_num, hd.drewN _⟩
              case measure => simp [intOf]; omega
            · go_wp2
              go_ret
              exact ⟨rfl, hd.below⟩
end Go.Proofs.Ybulkdyem
