import Derived.Test.YbulkdyfoComp
import Derived.Test.YbulkdyfoPushHeap2
import Derived.Deep.CutRange
namespace Go.Proofs.Ybulkdyfo
open Go.RowKit

/-- The sift downwards in the making. -/
structure DRel (w wr : World) (base g cap I n : Nat) (x : Itm) (hs : List Itm) : Prop where
  own : wr.ownsRow base 59 3 (.slice (some ⟨g, 0, none⟩) n cap) n (icells hs)
  len : hs.length = n
  box : Blk wr I #[.int .i64 x.key, .int .i64 x.order, .int .i64 x.value] 59
  keeps : Keeps (fun k => k = g) w wr
  gI : g ≠ I

theorem DRel.drewN {w wr : World} {base g cap I n : Nat} {x : Itm} {hs : List Itm} (h : DRel w wr base g cap I n x hs) (m : Nat) : DRel w (wr.drewN m) base g cap I n x hs :=
  ⟨h.own, h.len, h.box, h.keeps.trans (Keeps.drewN _ _ _), h.gI⟩

theorem DRel.set {w wr : World} {base g cap I n : Nat} {x : Itm} {hs : List Itm} (h : DRel w wr base g cap I n x hs) (j : Nat) (hj : j < n) (y : Itm) :
    DRel w (((wr.setCell ⟨g, j * 3, none⟩ (.int .i64 y.key)).setCell ⟨g, j * 3 + 1, none⟩ (.int .i64 y.order)).setCell ⟨g, j * 3 + 2, none⟩ (.int .i64 y.value)) base g cap I n x (hs.set j y) := by
  have hl := h.len
  refine ⟨own_set_item h.own j (by omega) y, by simpa using hl, ((h.box.set_other (Ne.symm h.gI) _).set_other (Ne.symm h.gI) _).set_other (Ne.symm h.gI) _, ?_, h.gI⟩
  exact ((h.keeps.trans (Keeps.set _ _ _ (fun _ => rfl))).trans (Keeps.set _ _ _ (fun _ => rfl))).trans (Keeps.set _ _ _ (fun _ => rfl))

theorem DRel.item {w wr : World} {base g cap I n : Nat} {x : Itm} {hs : List Itm} (h : DRel w wr base g cap I n x hs) (j : Nat) (hj : j < n) :
    ∃ p : Itm, wr.cell? ⟨g, j * 3, none⟩ = some (.int .i64 p.key) ∧ wr.cell? ⟨g, j * 3 + 1, none⟩ = some (.int .i64 p.order) ∧ wr.cell? ⟨g, j * 3 + 2, none⟩ = some (.int .i64 p.value) := by
  have hl := h.len
  exact ⟨hs[j]'(by omega), own_item h.own j (by omega)⟩

theorem drel_start {w : World} {base g cap n : Nat} {hs : List Itm} (x : Itm) (h : w.ownsRow base 59 3 (.slice (some ⟨g, 0, none⟩) n cap) n (icells hs)) (hl : hs.length = n) :
    DRel w (w.alloc (.cells #[.int .i64 x.key, .int .i64 x.order, .int .i64 x.value] 59)) base g cap w.heap.size n x hs :=
  ⟨h.alloc _, hl, Blk.new _ _ _, Keeps.alloc _ _ _, by have := (h.lt g rfl).2; omega⟩

set_option maxHeartbeats 1000000 in
set_option maxRecDepth 100000 in
theorem down_any (w : World) (base g n cap : Nat) (hs : List Itm) (x : Itm) (own : w.ownsRow base 59 3 (.slice (some ⟨g, 0, none⟩) n cap) n (icells hs)) (hlen : hs.length = n) (hn : n ≤ 2097152) (hpos : 0 < n) :
    Calls Yba.prog 17 #[.slice (some ⟨g, 0, none⟩) n cap, .int .i64 0, .agg #[.int .i64 x.key, .int .i64 x.order, .int .i64 x.value]] w fun e w' => e = .returned (.tuple #[]) ∧
      ∃ hs' : List Itm, hs'.length = n ∧ w'.ownsRow base 59 3 (.slice (some ⟨g, 0, none⟩) n cap) n (icells hs') ∧ Keeps (fun k => k = g) w w' := by
  have hD := drel_start x own hlen
  clear own hlen
  go_enter Yba.func17, Yba.ntmps17
  go_wp2
  go_loopw [1, 7, 8] (fun s _ _ wq => ∃ (i : Nat) (hs : List Itm), i < n ∧ s = .int .i64 i ∧ DRel w wq base g cap w.heap.size n x hs) (fun s _ _ _ => n - (intOf s).toNat)
  case atStart => exact ⟨0, hs, hpos, rfl, hD⟩
  case round =>
    clear hD
    obtain ⟨i, hs, hi, rfl, hD⟩ := hrel
    have i1 : (0 : Int) ≤ (i : Int) := by omega
    have i2 : (i : Int) < (n : Int) := by omega
    have e0 : wr.cell? ⟨w.heap.size, 0, none⟩ = some (.int .i64 x.key) := hD.box.cell 0
    have e1 : wr.cell? ⟨w.heap.size, 1, none⟩ = some (.int .i64 x.order) := hD.box.cell 1
    have e2 : wr.cell? ⟨w.heap.size, 2, none⟩ = some (.int .i64 x.value) := hD.box.cell 2
    obtain ⟨pi, pi0, pi1, pi2⟩ := hD.item i hi
    have f0 := own_free hD.own (i * 3)
    have f1 := own_free hD.own (i * 3 + 1)
    have f2 := own_free hD.own (i * 3 + 2)
    have gI := hD.gI
    by_cases hc : 2 * i + 1 < n
    · have c1 : decide ((n : Int) ≤ 2 * (i : Int) + 1) = false := decide_eq_false (by omega)
      have c2 : ¬ (n : Int) ≤ 2 * (i : Int) + 1 := by omega
      go_upto_region 5 with fail
      obtain ⟨c, hcc⟩ : ∃ c : Nat, c = 2 * i + 1 := ⟨_, rfl⟩
      rw [show (2 * (i : Int) + 1) = (c : Int) by omega]
      have hcn : c < n := by omega
      have hic : Hid (i < c) := (by omega : i < c)
      clear c1 c2 hc hcc
      obtain ⟨pc, pc0, pc1, pc2⟩ := hD.item c hcn
      have m1 : (0 : Int) ≤ (c : Int) := by omega
      have m2 : (c : Int) < (n : Int) := by omega
      go_cut [30] from 19 to 29 (fun s wx => ∃ (b : Bool) (d : Nat), s = .bool b ∧ Hid (b = true → c + 1 < n) ∧ wx = wr.drewN d)
      case first =>
        by_cases hr : c + 1 < n
        · have r1 : decide ((c : Int) + 1 < (n : Int)) = true := decide_eq_true (by omega)
          have r2 : (c : Int) + 1 < (n : Int) := by omega
          have r3 : (0 : Int) ≤ (c : Int) + 1 := by omega
          obtain ⟨pr, pr0, pr1, pr2⟩ := hD.item (c + 1) hr
          cases hl : ltI pr pc
          · go_quiet ((go_at_call 15; exact Calls.quiet_of (by simpa [hl] using before_any g ((c + 1) * 3) g (c * 3) pr pc (wr.drewN _) pr0 pr1 pc0 pc1)))
            go_wp2
            go_meet
            exact ⟨false, _, rfl, (fun e => by cases e), rfl⟩
          · go_quiet ((go_at_call 15; exact Calls.quiet_of (by simpa [hl] using before_any g ((c + 1) * 3) g (c * 3) pr pc (wr.drewN _) pr0 pr1 pc0 pc1)))
            go_wp2
            go_meet
            exact ⟨true, _, rfl, fun _ => hr, rfl⟩
        · have r1 : decide ((c : Int) + 1 < (n : Int)) = false := decide_eq_false (by omega)
          have r2 : ¬ (c : Int) + 1 < (n : Int) := by omega
          go_quiet (fail)
          go_wp2
          go_meet
          exact ⟨false, _, rfl, (fun e => by cases e), rfl⟩
      case rest =>
        obtain ⟨b, d, rfl, hbr, hwx⟩ := hcut
        have hE : DRel w wc base g cap w.heap.size n x hs := by rw [hwx]; exact hD.drewN d
        clear hwx hD e0 e1 e2 pi0 pi1 pi2 pc0 pc1 pc2 f0 f1 f2 m1 m2
        obtain ⟨w2, hw2⟩ : ∃ w2, w2 = wc := ⟨_, rfl⟩
        rw [← hw2] at hE ⊢
        clear hw2
        go_upto_if 30 with fail
        go_cut [7] from 31 to 31 (fun s wx => ∃ c' : Nat, s = .int .i64 c' ∧ Hid (i < c') ∧ Hid (c' < n) ∧ wx = w2)
        case first =>
          cases b
          · go_wp2
            go_meet
            exact ⟨c, rfl, hic, hcn, rfl⟩
          · go_wp2
            go_meet
            exact ⟨c + 1, by go_num, Nat.lt_succ_of_lt hic.out, (show c + 1 < n by have := hbr.out; simpa using this), rfl⟩
        case rest =>
          obtain ⟨c', rfl, hic', hcn', hwx⟩ := hcut
          rw [hwx]
          clear hwx hic hcn hbr
          have e0 : w2.cell? ⟨w.heap.size, 0, none⟩ = some (.int .i64 x.key) := hE.box.cell 0
          have e1 : w2.cell? ⟨w.heap.size, 1, none⟩ = some (.int .i64 x.order) := hE.box.cell 1
          have e2 : w2.cell? ⟨w.heap.size, 2, none⟩ = some (.int .i64 x.value) := hE.box.cell 2
          obtain ⟨pi, pi0, pi1, pi2⟩ := hE.item i hi
          have f0 := own_free hE.own (i * 3)
          have f1 := own_free hE.own (i * 3 + 1)
          have f2 := own_free hE.own (i * 3 + 2)
          obtain ⟨pc, pc0, pc1, pc2⟩ := hE.item c' hcn'.out
          have m1 : (0 : Int) ≤ (c' : Int) := by omega
          have m2 : (c' : Int) < (n : Int) := by have : c' < n := hcn'.out; omega
          cases hl : ltI pc x
          · have HE : Hid (∀ k, DRel w _ base g cap w.heap.size n x (hs.set i x)) := fun k => (hE.drewN k).set i hi x
            clear hE
            go_wp2_with (go_at_call 15; refine (before_any g (c' * 3) w.heap.size 0 pc x _ pc0 pc1 (by simpa using e0) (by simpa using e1)).mono ?_; rintro e w4 ⟨rfl, n', rfl⟩; rw [hl])
            go_end0
            exact ⟨rfl, _, (HE.out n').len, (HE.out n').own, (HE.out n').keeps⟩
          · have HE : Hid (∀ k, DRel w _ base g cap w.heap.size n x (hs.set i pc)) := fun k => (hE.drewN k).set i hi pc
            clear hE
            go_wp2_with (go_at_call 15; refine (before_any g (c' * 3) w.heap.size 0 pc x _ pc0 pc1 (by simpa using e0) (by simpa using e1)).mono ?_; rintro e w4 ⟨rfl, n', rfl⟩; rw [hl])
            go_roundw
            case rel => exact ⟨c', _, hcn'.out, rfl, HE.out _⟩
            case measure => have h1 : i < c' := hic'.out; have h2 : c' < n := hcn'.out; simp [intOf]; omega
    · have c1 : decide ((n : Int) ≤ 2 * (i : Int) + 1) = true := decide_eq_true (by omega)
      have c2 : (n : Int) ≤ 2 * (i : Int) + 1 := by omega
      have hE := hD.set i hi x
      have HE : Hid _ := hE
      clear hD hE
      go_wp2
      go_end0
      exact ⟨rfl, _, HE.out.len, HE.out.own, HE.out.keeps⟩
end Go.Proofs.Ybulkdyfo
