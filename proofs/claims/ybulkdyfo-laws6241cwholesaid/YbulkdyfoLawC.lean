import Derived.Test.YbulkdyfoAfter
import Derived.Test.YbulkdyfoMakes
import Derived.Test.YbulkdyfoPtr
namespace Go.Proofs.Ybulkdyfo
open Go.RowKit

set_option maxRecDepth 100000 in
set_option maxHeartbeats 4000000 in
theorem lawC_walk (cP : Array Value) (jx : Int) (w : World) (st en nv : Nat → Bool) (lf lv ow ct : Nat → Int) (hpl : Places cP st en nv lf lv ow ct) (j0 : 0 ≤ jx) (j1 : jx ≤ 255) (j : Nat) (hj : jx % 3 = (j : Int)) (hj3 : j < 3) :
    Calls Yba.prog 5 #[.agg cP, .int .u8 jx] w fun e w' => e = .returned (.bool true) ∧ Below w.heap.size w w' := by
  go_enter Yba.func5, Yba.ntmps5
  go_upto_region 3 with fail
  refine makes_any _ _ _ _ _ _ _ _ _ w cP _ (by simp) ?_
  intro E L X K wc hI
  simp only [fr4, Act.put, List.setIfInBounds_toArray, List.set_cons_succ, List.set_cons_zero]
  have hA := hI.apart
  have hsz := hI.size
  have hst := l1_start hI st en nv lf lv ow ct
  clear hI
  go_wp2
  clear hsz
  go_loopw [9] (fun s wr => ∃ (i : Nat) (cR cV cE cL cX cK : Array Value), i ≤ 3 ∧ s = .int .i64 i ∧ L1 w wr cP E L X K i st en nv lf lv ow ct cR cV cE cL cX cK) (fun s _ => 3 - (intOf s).toNat)
  case atStart => exact ⟨0, _, _, _, _, _, _, by omega, rfl, hst⟩
  case round =>
    clear hst
    obtain ⟨i, cR, cV, cE, cL, cX, cK, hi, rfl, h⟩ := hrel
    by_cases hlt : i < 3
    · have p0 := (h.bP.cell (i * 7)).trans (hpl.st i hlt)
      have p1 := (h.bP.cell (i * 7 + 1)).trans (hpl.en i hlt)
      have p2 := (h.bP.cell (i * 7 + 2)).trans (hpl.lf i hlt)
      have p3 := (h.bP.cell (i * 7 + 3)).trans (hpl.nv i hlt)
      have p4 := (h.bP.cell (i * 7 + 4)).trans (hpl.lv i hlt)
      have p5 := (h.bP.cell (i * 7 + 5)).trans (hpl.ow i hlt)
      have p6 := (h.bP.cell (i * 7 + 6)).trans (hpl.ct i hlt)
      have s0 : wr.cell? ⟨w.heap.size + 6, 0, none⟩ = some (.slice (some ⟨E, 0, none⟩) 3 3) := h.bS.cell 0
      have s1 : wr.cell? ⟨w.heap.size + 6, 1, none⟩ = some (.slice (some ⟨L, 0, none⟩) 3 3) := h.bS.cell 1
      have s5 : wr.cell? ⟨w.heap.size + 6, 5, none⟩ = some (.slice (some ⟨X, 0, none⟩) 3 3) := h.bS.cell 5
      have s6 : wr.cell? ⟨w.heap.size + 6, 6, none⟩ = some (.slice (some ⟨K, 0, none⟩) 3 3) := h.bS.cell 6
      obtain ⟨uV, cv⟩ := h.v.cell (k := i) (by omega)
      obtain ⟨uE, ce⟩ := h.e.cell (k := i) (by omega)
      obtain ⟨uL, cl⟩ := h.l.cell (k := i) (by omega)
      obtain ⟨uX, cx⟩ := h.x.cell (k := i * 2) (by omega)
      obtain ⟨uY, cy⟩ := h.x.cell (k := i * 2 + 1) (by omega)
      obtain ⟨uK, ck⟩ := h.k.cell (k := i) (by omega)
      obtain ⟨uR, cr⟩ := h.r.cell (k := 1 + i) (by omega)
      have fv := h.v.blk.free i
      have fe := h.e.blk.free i
      have fl := h.l.blk.free i
      have fx := h.x.blk.free (i * 2)
      have fy := h.x.blk.free (i * 2 + 1)
      have fk := h.k.blk.free i
      have fr := h.r.blk.free (1 + i)
      have HS : Hid (Apart w.heap.size E L X K) := hA
      obtain ⟨⟨e1, e2⟩, ⟨l1, l2⟩, ⟨x1, x2⟩, ⟨k1, k2⟩, el, ex, ek, lx, lk, xk⟩ := hA
      cases hnv : nv i
      · obtain ⟨cR', cV', cE', cL', cX', cK', hh⟩ := l1_plain HS.out hlt h hnv
        rw [hnv] at p3
        clear h
        go_wp2
        go_region
        go_wp2
        go_region
        go_wp2
        go_region
        go_wp2
        go_region
        go_wp2
        go_region
        go_wp2
        go_roundw
        case rel => exact ⟨i + 1, cR', cV', cE', cL', cX', cK', by omega, by go_num, hh.drew.drew.drew.drew.drew⟩
        case measure => simp [intOf]; omega
      · obtain ⟨cR', cV', cE', cL', cX', cK', hh⟩ := l1_never HS.out hlt h hnv
        rw [hnv] at p3
        clear h
        go_wp2
        go_region
        go_wp2
        go_region
        go_wp2
        go_region
        go_wp2
        go_region
        go_wp2
        go_region
        go_wp2
        go_roundw
        case rel => exact ⟨i + 1, cR', cV', cE', cL', cX', cK', by omega, by go_num, hh.drew.drew.drew.drew.drew⟩
        case measure => simp [intOf]; omega
    · obtain rfl : i = 3 := by omega
      have hck := check_law hA h j hj3
      clear h
      go_upto_region 18 with (go_at_call 13; refine Calls.mono hck ?_; rintro e w2 ⟨rfl, h2⟩)
      clear hck
      have q0 := (h2.bP.cell (j * 7)).trans (hpl.st j hj3)
      have q1 := (h2.bP.cell (j * 7 + 1)).trans (hpl.en j hj3)
      have q2 := (h2.bP.cell (j * 7 + 2)).trans (hpl.lf j hj3)
      have q3 := (h2.bP.cell (j * 7 + 3)).trans (hpl.nv j hj3)
      have q4 := (h2.bP.cell (j * 7 + 4)).trans (hpl.lv j hj3)
      have q5 := (h2.bP.cell (j * 7 + 5)).trans (hpl.ow j hj3)
      have q6 := (h2.bP.cell (j * 7 + 6)).trans (hpl.ct j hj3)
      go_upto_region 19 with fail
      clear q0 q1 q2 q3 q4 q5 q6
      obtain ⟨w3, hw3⟩ : ∃ w3, w3 = w2.alloc (.cells #[.bool (st j), .bool (en j), .int .i64 (lf j), .bool (nv j), .int .i64 (lv j), .int .i64 (ow j), .int .i64 (ct j)] 64) := ⟨_, rfl⟩
      rw [← hw3]
      have h3 : L2 w w3 cP wr.heap.size E L X K j st en nv lf lv ow ct (wantStuck (st j) (en j) (lf j) (lvl nv lv j) (ow j) (ct j)) (wantCall (st j) (en j) (lf j) (lvl nv lv j)) := by rw [hw3]; exact h2.alloc _
      have bQ : Blk w3 w2.heap.size #[.bool (st j), .bool (en j), .int .i64 (lf j), .bool (nv j), .int .i64 (lv j), .int .i64 (ow j), .int .i64 (ct j)] 64 := by rw [hw3]; exact Blk.new _ _ _
      clear hw3 h2
      generalize w2.heap.size = Q at *
      generalize wr.heap.size = A at *
      have c0 : w3.cell? ⟨Q, 0, none⟩ = some (.bool (st j)) := bQ.cell 0
      have c1 : w3.cell? ⟨Q, 1, none⟩ = some (.bool (en j)) := bQ.cell 1
      have c2 : w3.cell? ⟨Q, 2, none⟩ = some (.int .i64 (lf j)) := bQ.cell 2
      have c5 : w3.cell? ⟨Q, 5, none⟩ = some (.int .i64 (ow j)) := bQ.cell 5
      have c6 : w3.cell? ⟨Q, 6, none⟩ = some (.int .i64 (ct j)) := bQ.cell 6
      have cv := h3.v j hj3
      clear bQ
      go_cut [12] from 106 to 115 (fun s wx => s = .bool (en j && lf j == 0) ∧ wx = w3)
      case first =>
        cases hen : en j
        · rw [hen] at c1
          go_wp2
          go_meet
          exact ⟨by rw [hen]; rfl, rfl⟩
        · rw [hen] at c1
          go_wp2
          go_meet
          exact ⟨by rw [hen]; rfl, rfl⟩
      case rest =>
        obtain ⟨rfl, hwx⟩ := hcut
        rw [hwx]
        clear hwx c1 c2
        obtain ⟨ee, hee⟩ : ∃ ee, ee = (en j && lf j == 0) := ⟨_, rfl⟩
        rw [← hee]
        have HE : Hid (ee = (en j && lf j == 0)) := hee
        clear hee
        go_upto_region 20 with fail
        go_cut [12, 13] from 116 to 128 (fun t s wx => t = .bool ee ∧ s = .bool (wantCall (st j) (en j) (lf j) (lvl nv lv j)) ∧ wx = w3)
        case first =>
          cases hst : st j
          · rw [hst] at c0
            cases hE : ee
            · go_wp2
              go_meet
              exact ⟨by rw [hE], by rw [hst]; simp only [wantCall, ← HE.out, hE]; rfl, rfl⟩
            · go_wp2
              go_meet
              exact ⟨by rw [hE], by rw [hst]; simp only [wantCall, ← HE.out, hE]; rfl, rfl⟩
          · rw [hst] at c0
            go_wp2
            go_meet
            exact ⟨rfl, by rw [hst]; simp only [wantCall, Bool.not_true, Bool.false_and], rfl⟩
        case rest =>
          obtain ⟨rfl, rfl, hwx⟩ := hcut
          rw [hwx]
          clear hwx
          obtain ⟨wc', hwc⟩ : ∃ b, b = wantCall (st j) (en j) (lf j) (lvl nv lv j) := ⟨_, rfl⟩
          obtain ⟨ws', hws⟩ : ∃ b, b = wantStuck (st j) (en j) (lf j) (lvl nv lv j) (ow j) (ct j) := ⟨_, rfl⟩
          rw [← hwc] at h3 ⊢
          rw [← hws] at h3
          have hws2 : ws' = (st j || ee || (wc' && decide (ow j ≤ ct j))) := by rw [hws, hwc, wantStuck, HE.out]
          have HW : Hid (ws' = (st j || ee || (wc' && decide (ow j ≤ ct j)))) := hws2
          clear hws hws2 hwc
          go_upto_region 21 with fail
          go_cut [12, 13, 14] from 129 to 143 (fun t r s wx => t = .bool ee ∧ r = .bool wc' ∧ s = .bool ws' ∧ wx = w3)
          case first =>
            cases hst : st j
            · rw [hst] at c0
              cases hE : ee
              · cases hwc : wc'
                · go_wp2
                  go_meet
                  exact ⟨by rw [hE], by rw [hwc], by rw [HW.out, hst, hE, hwc]; rfl, rfl⟩
                · go_wp2
                  go_meet
                  exact ⟨by rw [hE], by rw [hwc], by rw [HW.out, hst, hE, hwc]; rfl, rfl⟩
              · go_wp2
                go_meet
                exact ⟨by rw [hE], rfl, by rw [HW.out, hst, hE]; rfl, rfl⟩
            · rw [hst] at c0
              go_wp2
              go_meet
              exact ⟨rfl, rfl, by rw [HW.out, hst]; rfl, rfl⟩
          case rest =>
            obtain ⟨rfl, rfl, rfl, hwx⟩ := hcut
            rw [hwx]
            clear hwx HW HE c0 c5 c6 cv
            have s0 : w3.cell? ⟨w.heap.size + 6, 0, none⟩ = some (.slice (some ⟨E, 0, none⟩) 3 3) := h3.bS.cell 0
            have s1 : w3.cell? ⟨w.heap.size + 6, 1, none⟩ = some (.slice (some ⟨L, 0, none⟩) 3 3) := h3.bS.cell 1
            have s5 : w3.cell? ⟨w.heap.size + 6, 5, none⟩ = some (.slice (some ⟨X, 0, none⟩) 3 3) := h3.bS.cell 5
            have s6 : w3.cell? ⟨w.heap.size + 6, 6, none⟩ = some (.slice (some ⟨K, 0, none⟩) 3 3) := h3.bS.cell 6
            have a25 := h3.a25
            have hpp := neq46
            go_wp2
            go_loopw [15] (fun s wq => ∃ (m : Nat), m ≤ 3 ∧ s = .int .i64 m ∧ L2 w wq cP A E L X K j st en nv lf lv ow ct ws' wc') (fun s _ => 3 - (intOf s).toNat)
            case atStart => exact ⟨0, by omega, rfl, h3⟩
            case round =>
              clear s0 s1 s5 s6 a25 h3
              obtain ⟨m, hm, rfl, h4⟩ := hrel
              by_cases hlt2 : m < 3
              · have p0 := (h4.bP.cell (m * 7)).trans (hpl.st m hlt2)
                have p1 := (h4.bP.cell (m * 7 + 1)).trans (hpl.en m hlt2)
                have p2 := (h4.bP.cell (m * 7 + 2)).trans (hpl.lf m hlt2)
                have p5 := (h4.bP.cell (m * 7 + 5)).trans (hpl.ow m hlt2)
                have s0 : wr.cell? ⟨w.heap.size + 6, 0, none⟩ = some (.slice (some ⟨E, 0, none⟩) 3 3) := h4.bS.cell 0
                have s1 : wr.cell? ⟨w.heap.size + 6, 1, none⟩ = some (.slice (some ⟨L, 0, none⟩) 3 3) := h4.bS.cell 1
                have s5 : wr.cell? ⟨w.heap.size + 6, 5, none⟩ = some (.slice (some ⟨X, 0, none⟩) 3 3) := h4.bS.cell 5
                have s6 : wr.cell? ⟨w.heap.size + 6, 6, none⟩ = some (.slice (some ⟨K, 0, none⟩) 3 3) := h4.bS.cell 6
                have cv := h4.v m hlt2
                have ce := h4.e m hlt2
                have cl := h4.l m hlt2
                have cx := h4.x0 m hlt2
                have cy := h4.x1 m hlt2
                have ck := h4.k m hlt2
                by_cases hmj : m = j
                · rw [if_pos hmj] at ck
                  have hb : ((m : Int) == (j : Int)) = true := by simp [hmj]
                  clear hmj
                  go_wp2
                  go_quiet (fail)
                  go_wp2
                  go_quiet (fail)
                  go_wp2
                  go_roundw
                  case rel => first | exact ⟨m + 1, by omega, by go_num, (h4.drewN _).drewN _⟩ | exact ⟨m + 1, by omega, by go_num, h4.drewN _⟩
                  case measure => simp [intOf]; omega
                · rw [if_neg hmj] at ck
                  have hb : ((m : Int) == (j : Int)) = false := by simp; omega
                  clear hmj
                  go_wp2
                  go_quiet (fail)
                  go_wp2
                  go_quiet (fail)
                  go_wp2
                  go_roundw
                  case rel => first | exact ⟨m + 1, by omega, by go_num, (h4.drewN _).drewN _⟩ | exact ⟨m + 1, by omega, by go_num, h4.drewN _⟩
                  case measure => simp [intOf]; omega
              · cases hwc : wc'
                · have hn := h4.no hwc
                  go_wp2
                  go_ret
                  exact ⟨rfl, h4.below⟩
                · obtain ⟨g, c, hy1, hy2⟩ := h4.yes hwc
                  go_wp2
                  go_ret
                  exact ⟨rfl, h4.below⟩
end Go.Proofs.Ybulkdyfo
