import Derived.Test.YbulkdyemRows
import Derived.Test.YbulkdyemHeap
namespace Go.Proofs.Ybulkdyem
open Go.RowKit

def warningB : ByteArray := { data := #[87, 97, 114, 110, 105, 110, 103] }

/-- The cells of the diagnostics of these warnings. -/
def diags (ss : List ByteArray) : List Value := ss.flatMap fun s => [.string warningB, .string s]

theorem diags_len (ss : List ByteArray) : (diags ss).length = ss.length * 2 := by
  unfold diags
  induction ss with
  | nil => rfl
  | cons a l ih => simp [List.flatMap_cons] at ih ⊢; omega

theorem diags_snoc (ss : List ByteArray) (k : Nat) (h : k < ss.length) : diags (ss.take (k + 1)) = diags (ss.take k) ++ [.string warningB, .string (ss.getD k ByteArray.empty)] := by
  rw [List.take_succ_eq_append_getElem h]
  unfold diags
  rw [List.flatMap_append]
  simp [List.getD, h]

structure WRel (ss : List ByteArray) (w wr : World) (k : Nat) (v : Value) : Prop where
  res : Blk wr w.heap.size #[.pointer none, .slice none 0 0] 26
  var : Blk wr (w.heap.size + 1) #[.pointer none, v] 26
  own : wr.ownsRow (w.heap.size + 2) 30 2 v k (diags (ss.take k))
  nil : k = 0 → v = .slice none 0 0
  below : Below w.heap.size w wr

structure WEnd (ss : List ByteArray) (w wr : World) (k : Nat) (v : Value) : Prop where
  own : wr.ownsRow (w.heap.size + 2) 30 2 v k (diags (ss.take k))
  nil : k = 0 → v = .slice none 0 0
  below : Below w.heap.size w wr

theorem wrel_end {ss : List ByteArray} {w wr : World} {k : Nat} {v : Value} (h : WRel ss w wr k v) :
    WEnd ss w ((wr.setCell ⟨w.heap.size, 0, none⟩ (.pointer none)).setCell ⟨w.heap.size, 1, none⟩ v) k v where
  own := ownsRow_setCell_below (ownsRow_setCell_below h.own (by simp) _) (by simp) _
  nil := h.nil
  below := (h.below.setCell (by simp) _).setCell (by simp) _

theorem wrel_start (ss : List ByteArray) (w : World) : WRel ss w ((w.alloc (.cells #[.pointer none, .slice none 0 0] 26)).alloc (.cells #[.pointer none, .slice none 0 0] 26)) 0 (.slice none 0 0) where
  res := (Blk.new w _ _).alloc _
  var := by have := Blk.new (w.alloc (.cells #[.pointer none, .slice none 0 0] 26)) #[.pointer none, .slice none 0 0] 26; simpa using this
  own := by simpa [diags] using World.ownsRow_nil _ _ _ _
  nil := fun _ => rfl
  below := ((Below.refl _ _).alloc (Nat.le_refl _) _).alloc (by simp) _

theorem wrel_step {ss : List ByteArray} {w wr w1 : World} {k : Nat} {v v' : Value} {S : ByteArray} (h : WRel ss w wr k v) (hk : k < ss.length) (hS : S = ss.getD k ByteArray.empty)
    (hown : w1.ownsRow (w.heap.size + 2) 30 2 v' (k + 1) (diags (ss.take k) ++ [.string warningB, .string S])) (hg : (wr.alloc (.cells #[.string warningB, .string S] 30)).grownBy w1 v.ownBlock) :
    Blk w1 (w.heap.size + 1) #[.pointer none, v] 26 ∧ WRel ss w (w1.setCell ⟨w.heap.size + 1, 1, none⟩ v') (k + 1) v' := by
  have hb2 := h.own.lt
  have ne0 : some w.heap.size ≠ v.ownBlock := fun e => by have := hb2 _ e.symm; omega
  have ne1 : some (w.heap.size + 1) ≠ v.ownBlock := fun e => by have := hb2 _ e.symm; omega
  have hvar : Blk w1 (w.heap.size + 1) #[.pointer none, v] 26 := (h.var.alloc _).grown hg ne1
  refine ⟨hvar, ?_⟩
  have hlt := h.res.lt
  exact {
    res := ((h.res.alloc _).grown hg ne0).set_other (by simp) _
    var := by have := hvar.set_same 1 v'; simpa using this
    own := by
      rw [diags_snoc ss k hk, ← hS]
      exact ownsRow_setCell_below hown (by simp) _
    nil := fun e => by omega
    below := ((h.below.alloc (by omega) _).grown hg (by simp; omega) (fun j e => by have := hb2 _ e; omega)).setCell (by simp) _ }

theorem Yba.info30 : (Yba.prog.info? 30).map (fun i => (i.zero, i.size, i.bytes)) = some (some (.agg #[.string ByteArray.empty, .string ByteArray.empty]), 2, 32) := by kernel_rfl

set_option maxHeartbeats 400000 in
theorem warned_some (b off len cap : Nat) (ss : List ByteArray) (w : World) (hl : ss.length = len) (hlen : len ≤ 1048576) (hb : b < w.heap.size)
    (hc : ∀ k, k < len → w.cell? ⟨b, off + k, none⟩ = some (.string (ss.getD k ByteArray.empty))) :
    Calls Yba.prog 5 #[.slice (some ⟨b, off, none⟩) len cap] w fun e w' => ∃ v, e = .returned (.agg #[.pointer none, v]) ∧ WEnd ss w w' len v := by
  obtain ⟨i0, hi, hz0, hz1, hz2⟩ := info_parts Yba.info30
  have HC : Hid (∀ k, k < len → w.cell? ⟨b, off + k, none⟩ = some (.string (ss.getD k ByteArray.empty))) := hc
  clear hc
  go_enter Yba.func5, Yba.ntmps5
  go_wp2
  go_loopw [8] (fun i wr => ∃ (k : Nat) (ao : Option Addr) (c : Nat), k ≤ len ∧ i = .int .i64 k ∧ WRel ss w wr k (.slice ao k c)) (fun i _ => len - (intOf i).toNat)
  case atStart => exact ⟨0, none, 0, Nat.zero_le _, rfl, wrel_start ss w⟩
  case round =>
    obtain ⟨k, ao, c, hk, rfl, hr⟩ := hrel
    by_cases hlt : k < len
    · obtain ⟨S, hS⟩ : ∃ S, S = ss.getD k ByteArray.empty := ⟨_, rfl⟩
      have hcx : wr.cell? ⟨b, off + k, none⟩ = some (.string S) := by rw [hr.below.cell hb, HC.out k hlt, hS]
      have HS : Hid (S = ss.getD k ByteArray.empty) := hS
      clear hS
      have hv1 : wr.cell? ⟨w.heap.size + 1, 1, none⟩ = some (.slice ao k c) := hr.var.cell 1
      have hsz : w.heap.size + 1 < wr.heap.size := hr.var.lt
      go_wp2_with (at_builtin; refine wpList_append_own _ rfl _ _ 24 rfl (w.heap.size + 2) 30 i0 (.agg #[.string ByteArray.empty, .string ByteArray.empty]) 2 32 Yba.underlying24 hi hz0 hz1 hz2 rfl (by decide) _ _ _ rfl (hr.own.alloc _) ⟨wr.heap.size, 0, none⟩ 1 1 [.string warningB, .string S] rfl rfl ?c1 ?c2 ?c3 ?c4 ?c5 ?_)
      case c1 =>
        intro j u hj
        match j, hj with
        | 0, hj => simp at hj; subst hj; simp [Addr.add, warningB]
        | 1, hj => simp at hj; subst hj; simp [Addr.add]
      case c2 =>
        intro u hu
        simp at hu
        rcases hu with rfl | rfl <;> rfl
      case c3 => unfold maxLen; omega
      case c4 => omega
      case c5 => simp; omega
      · intro v' w1 hown' hgrow _
        obtain ⟨ao', c', hv'⟩ := own_shape hown'
        rw [hv'] at hown' ⊢
        clear hv'
        obtain ⟨hvar, hrel'⟩ := wrel_step hr (by omega) HS.out hown' hgrow
        have hv2 : w1.cell? ⟨w.heap.size + 1, 1, none⟩ = some (.slice ao k c) := hvar.cell 1
        have hv3 : w1.frozen? ⟨w.heap.size + 1, 1, none⟩ = false := hvar.free 1
        clear hown' hgrow hv1 hcx
        go_wp2
        go_roundw
        case rel => exact ⟨k + 1, ao', c', by omega, by go_num, hrel'⟩
        case measure => simp [intOf]; omega
    · obtain rfl : k = len := by omega
      have hv0 : wr.cell? ⟨w.heap.size + 1, 0, none⟩ = some (.pointer none) := hr.var.cell 0
      have hv1 : wr.cell? ⟨w.heap.size + 1, 1, none⟩ = some (.slice ao k c) := hr.var.cell 1
      have hr0 : wr.cell? ⟨w.heap.size, 0, none⟩ = some (.pointer none) := hr.res.cell 0
      have hr1 : wr.cell? ⟨w.heap.size, 1, none⟩ = some (.slice none 0 0) := hr.res.cell 1
      have hf0 : wr.frozen? ⟨w.heap.size, 0, none⟩ = false := hr.res.free 0
      have hf1 : wr.frozen? ⟨w.heap.size, 1, none⟩ = false := hr.res.free 1
      have hE := wrel_end hr
      have hz := (hr.res.set_same 0 (.pointer none)).set_same 1 (.slice ao k c)
      have hz0 := hz.cell 0
      have hz1 := hz.cell 1
      simp at hz0 hz1
      have Hz := And.intro hz0 hz1
      have HZ : Hid _ := Hz
      clear hz hz0 hz1 Hz
      go_wp2
      obtain ⟨hz0, hz1⟩ := HZ.out
      exact bodyPost_ret (v := .agg #[.pointer none, .slice ao k c]) (by simp [results, Yba.results5, go_sem, hz0, hz1]) rfl ⟨_, rfl, hE⟩
end Go.Proofs.Ybulkdyem
