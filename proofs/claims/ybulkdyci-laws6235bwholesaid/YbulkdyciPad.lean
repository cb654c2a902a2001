import Derived.Test.YbulkdyciHeap
import Derived.OwnWalk
import Derived.Deep.CutRange
namespace Go.Proofs.Ybulkdyci
open Go.RowKit

theorem Yba.info24 : (Yba.prog.info? 24).map (fun i => (i.zero, i.size, i.bytes)) = some (some (.int .u64 0), 1, 8) := by kernel_rfl

/-- The first n words, zeros behind the last. -/
def padL (src : List Int) (n : Nat) : List Int := (List.range n).map (fun i => src.getD i 0)

theorem padL_len (src : List Int) (n : Nat) : (padL src n).length = n := by simp [padL]

/-- The padded row in the making. -/
structure PRel (w wq : World) (g n : Nat) (src : List Int) (i : Nat) : Prop where
  row : ∃ cur, Blk wq g cur 24 ∧ cur.size = n ∧ ∀ j, j < n → cur[j]? = some (.int .u64 (if j < i then src.getD j 0 else 0))
  keeps : Keeps (fun b => b = g) w wq

theorem prel_start {w w1 : World} {n : Nat} {src : List Int} (h : w1.ownsRow 0 24 1 (.slice (some ⟨w.heap.size, 0, none⟩) n n) n (madeCells #[.int .u64 0] (n * 1)).toList) (g : w.grownBy w1 none) : PRel w w1 w.heap.size n src 0 :=
  ⟨⟨_, blk_made h, by simp [size_madeCells], fun j hj => by rw [made_one _ _ _ hj]; simp⟩, (kept_grown g).mono (fun _ _ e => e.elim)⟩

theorem prel_step {w wq : World} {g n i : Nat} {src : List Int} {x : Int} (h : PRel w wq g n src i) (hi : i < n) (hx : src[i]? = some x) : PRel w (wq.setCell ⟨g, i, none⟩ (.int .u64 x)) g n src (i + 1) := by
  obtain ⟨cur, b, sz, v⟩ := h.row
  refine ⟨⟨_, b.set_same _ _, by simpa using sz, fun j hj => ?_⟩, h.keeps.trans (Keeps.set _ _ _ (fun _ => rfl))⟩
  by_cases e : j = i
  · subst e
    rw [Array.getElem?_setIfInBounds_self_of_lt (by omega), if_pos (by omega)]
    simp [List.getD, hx]
  · rw [Array.getElem?_setIfInBounds_ne (Ne.symm e), v j hj]
    have : (j < i + 1) = (j < i) := by simp; omega
    simp only [this]

theorem prel_end {w wq : World} {g n i : Nat} {src : List Int} (h : PRel w wq g n src i) (hi : n ≤ i ∨ src.length ≤ i) : Blk wq g (ints .u64 (padL src n)).toArray 24 := by
  obtain ⟨cur, b, sz, v⟩ := h.row
  have : cur = (ints .u64 (padL src n)).toArray := by
    apply Array.ext_getElem?
    intro j
    by_cases hj : j < n
    · rw [v j hj]
      simp only [List.getElem?_toArray, ints, padL, List.map_map, List.getElem?_map, List.getElem?_range hj, Option.map_some, Function.comp]
      congr 2
      by_cases e : j < i
      · rw [if_pos e]
      · rw [if_neg e]
        simp [List.getD, List.getElem?_eq_none (show src.length ≤ j by omega)]
    · rw [Array.getElem?_eq_none (by omega), Array.getElem?_eq_none (by simp [ints, padL]; omega)]
  rw [← this]
  exact b

set_option maxHeartbeats 400000 in
set_option maxRecDepth 100000 in
theorem pad_any (w : World) (ao : Option Addr) (c n : Nat) (src : List Int) (h : Reads w .u64 ao src) (hl : src.length ≤ 9223372036854775807) (hn : n ≤ 4) :
    Calls Yba.prog 5 #[.slice ao src.length c, .int .i64 n] w fun e w' => e = .returned (.slice (some ⟨w.heap.size, 0, none⟩) n n) ∧ Blk w' w.heap.size (ints .u64 (padL src n)).toArray 24 ∧ Keeps (fun _ => False) w w' := by
  obtain ⟨i24, hi24, hz24, hs24, hb24⟩ := info_parts Yba.info24
  go_enter Yba.func5, Yba.ntmps5
  go_upto_region 2 with (at_make; refine wpList_make_full _ rfl _ _ 23 rfl 0 24 i24 _ 1 Yba.underlying23 hi24 hz24 hs24 _ _ _ _ n rfl rfl rfl rfl (by rw [hb24]; omega) (by unfold maxLen; omega) (Nat.zero_le _) ?_; intro w1 h1 g1)
  have hR := prel_start (src := src) h1 g1
  clear h1 g1
  go_wp2
  go_loopw [6] (fun s wq => ∃ i : Nat, i ≤ n ∧ i ≤ src.length ∧ s = .int .i64 i ∧ PRel w wq w.heap.size n src i) (fun s _ => n - (intOf s).toNat)
  case atStart => exact ⟨0, by omega, by omega, rfl, hR⟩
  case round =>
    clear hR
    obtain ⟨i, hin, his, rfl, hR⟩ := hrel
    have HK : Hid (∀ u, Keeps (fun b => b = w.heap.size) w u → Keeps (fun _ => False) w u) := fun u k => ⟨k.os, k.tape, k.output, k.size, fun j hj _ => k.block j hj (by omega)⟩
    by_cases h1 : i < n
    · have c1 : (i : Int) < (n : Int) := by omega
      have c1' : decide ((i : Int) < (n : Int)) = true := decide_eq_true c1
      by_cases h2 : i < src.length
      · have c2 : (i : Int) < (src.length : Int) := by omega
        have c2' : decide ((i : Int) < (src.length : Int)) = true := decide_eq_true c2
        obtain ⟨b, off, rfl, hc⟩ := h (by omega)
        have hx : src[i]? = some (src[i]'h2) := List.getElem?_eq_getElem _
        have z0 := hc i _ hx
        have hb : b < w.heap.size := World.block_lt_of_cell? w _ z0
        have z1 := kcell hR.keeps z0 (by simp; omega)
        obtain ⟨cur, bb, sz, vv⟩ := hR.row
        have v0 := (bb.cell i).trans (vv i h1)
        have vf := bb.free i
        have HS : Hid _ := prel_step hR h1 hx
        generalize src[i]'h2 = x at *
        have c0 : (0 : Int) ≤ (i : Int) := by omega
        clear hR bb vv hc hx z0
        go_wp2
        go_roundw
        case rel => exact ⟨i + 1, by omega, by omega, by go_num, HS.out⟩
        case measure => simp [intOf]; omega
      · have c2 : ¬ (i : Int) < (src.length : Int) := by omega
        have c2' : decide ((i : Int) < (src.length : Int)) = false := decide_eq_false c2
        have HE : Hid _ := prel_end hR (.inr (by omega))
        have hk := HK.out _ hR.keeps
        clear hR
        go_wp2
        go_ret
        exact ⟨rfl, HE.out, hk⟩
    · have c1 : ¬ (i : Int) < (n : Int) := by omega
      have c1' : decide ((i : Int) < (n : Int)) = false := decide_eq_false c1
      have HE : Hid _ := prel_end hR (.inl (by omega))
      have hk := HK.out _ hR.keeps
      clear hR
      go_wp2
      go_ret
      exact ⟨rfl, HE.out, hk⟩
end Go.Proofs.Ybulkdyci
