import Derived.Test.YbulkdyfoLawA2
import Derived.Deep.CutRange
import Derived.OwnWalk
namespace Go.Proofs.Ybulkdyfo
open Go.RowKit
theorem Yba.info31 : (Yba.prog.info? 31).map (fun i => (i.zero, i.size, i.bytes)) = some (some (.agg #[.slice none 0 0, .int .i64 0, .slice none 0 0, .int .i64 0]), 4, 64) := by kernel_rfl
theorem Yba.info2 : (Yba.prog.info? 2).map (fun i => (i.zero, i.size, i.bytes)) = some (some (.int .i64 0), 1, 8) := by kernel_rfl
theorem Yba.info4 : (Yba.prog.info? 4).map (fun i => (i.zero, i.size, i.bytes)) = some (some (.bool false), 1, 1) := by kernel_rfl

/-- The slices that come in. -/
structure ArgsA (w : World) (ap : Option Addr) (lp : Nat) (pq pk pv : Nat → Int) (al : Option Addr) (ll : Nat) (lv : Nat → Bool) (ad : Option Addr) (ld : Nat) (dv : Nat → Int) : Prop where
  p : 0 < lp → ∃ b off, ap = some ⟨b, off, none⟩ ∧ b < w.heap.size ∧ ∀ i, i < lp → 0 ≤ pq i ∧ pq i ≤ 255 ∧ w.cell? ⟨b, off + i * 3, none⟩ = some (.int .u8 (pq i)) ∧ w.cell? ⟨b, off + i * 3 + 1, none⟩ = some (.int .i64 (pk i)) ∧ w.cell? ⟨b, off + i * 3 + 2, none⟩ = some (.int .i64 (pv i))
  l : 0 < ll → ∃ b off, al = some ⟨b, off, none⟩ ∧ b < w.heap.size ∧ ∀ i, i < ll → w.cell? ⟨b, off + i, none⟩ = some (.bool (lv i))
  d : 0 < ld → ∃ b off, ad = some ⟨b, off, none⟩ ∧ b < w.heap.size ∧ ∀ i, i < ld → w.cell? ⟨b, off + i, none⟩ = some (.int .i64 (dv i))

/-- The anteroom's cells. -/
def antArr (Q L Pb n m : Nat) : Array Value := #[.nilIface, .slice none 0 0, .slice none 0 0, .int .i64 0, .slice (some ⟨Q, 0, none⟩) n n, .nilIface, .slice none 0 0, .slice (some ⟨Pb, 0, none⟩) m m, .slice (some ⟨L, 0, none⟩) n n, .slice none 0 0, .slice none 0 0, .slice none 0 0, .slice none 0 0, .int .i64 0, .slice none 0 0, .slice none 0 0, .int .i64 0, .int .i64 0, .slice none 0 0, .slice none 0 0, .int .i64 0, .slice none 0 0, .slice none 0 0, .int .i64 0, .int .i64 0, .pointer none]

theorem wait_any (w : World) (A L Pb m cp Q n base c cnt : Nat) (mn slot at_ : Int) (cA cL cQ : Array Value) (xs : List Value) (S : Nat → QV) (h : Ante w A L Pb m cp Q n base cA cL cQ xs S) (hc : c < n)
    (hI : Inv (S c).run (S c).heap (S c).pushed cnt mn) (hcnt : cnt ≤ 2097152) (b : Bool) (hb : cL[c]? = some (.bool b)) (hm : m ≤ 2097152) :
    Calls Yba.prog 7 #[.pointer (some ⟨A, 0, none⟩), .int .i64 slot, .agg #[.int .i64 c, .int .i64 at_]] w fun e w' => e = .returned (.tuple #[]) ∧ Waited w w' A L Pb m Q n base c cnt mn at_ cL xs S b := by
  cases b
  · exact wait_false w A L Pb m cp Q n base c cnt mn slot at_ cA cL cQ xs S h hc hI hcnt hb hm
  · exact wait_true w A L Pb m cp Q n base c cnt mn slot at_ cA cL cQ xs S h hc hI hcnt hb

/-- The copied row. -/
def pendOf (dv : Nat → Int) (ld : Nat) : List Value := (List.range ld).map (fun i => .int .i64 (dv i))

theorem pend_src {w w6 : World} {ap al ad : Option Addr} {lp ll ld Pb : Nat} {pq pk pv : Nat → Int} {lv : Nat → Bool} {dv : Nat → Int} (h : ArgsA w ap lp pq pk pv al ll lv ad ld dv) (hb : Below w.heap.size w w6) (hpos : 0 < (pendOf dv ld).length) :
    (some (⟨Pb, 0, none⟩ : Addr)) = some ⟨Pb, 0, none⟩ ∧ ∃ a, ad = some a ∧ ∀ (j : Nat) v, (pendOf dv ld)[j]? = some v → w6.cell? (a.add j) = some v := by
  have hl : 0 < ld := by simpa [pendOf] using hpos
  obtain ⟨b, off, rfl, hbl, hc⟩ := h.d hl
  refine ⟨rfl, _, rfl, fun j v hv => ?_⟩
  rw [Addr.add_lit, hb.cell (p := ⟨b, off + j, none⟩) hbl]
  have hj : j < ld := by have := (List.getElem?_eq_some_iff.1 hv).1; simpa [pendOf] using this
  rw [hc j hj, ← hv]
  simp [pendOf, hj]

theorem splice_all {cur cs : List Value} (h : cs.length = cur.length) : splice cur 0 cs = cs := by
  simp [splice, h]

theorem own_ints {w : World} {base m cp : Nat} {ao : Option Addr} {xs : List Value} (h : w.ownsRow base 3 1 (.slice ao m cp) m xs) (hpos : 0 < m) : ∃ g, ao = some ⟨g, 0, none⟩ ∧ ∀ k v, xs[k]? = some v → w.cell? ⟨g, k, none⟩ = some v := by
  obtain ⟨g, cap, e, _⟩ := h.form hpos
  simp at e
  obtain ⟨rfl, rfl⟩ := e
  refine ⟨g, rfl, fun k v hv => ?_⟩
  have := h.cells (g := g) rfl k v hv
  rwa [Addr.add_lit, Nat.zero_add] at this

set_option maxHeartbeats 1000000 in
set_option maxRecDepth 100000 in
theorem lawA (w : World) (nqx cx slot at_ : Int) (ap al ad : Option Addr) (lp cp ll cl ld cd n0 : Nat) (pq pk pv : Nat → Int) (lv : Nat → Bool) (dv : Nat → Int) (hargs : ArgsA w ap lp pq pk pv al ll lv ad ld dv)
    (q0 : 0 ≤ nqx) (q1 : nqx ≤ 255) (x0 : 0 ≤ cx) (x1 : cx ≤ 255) (hn : nqx % 16 = (n0 : Int)) (hsum : lp + ll + ld ≤ 1048576) (c : Nat) (hcx : cx % ((n0 : Int) + 1) = (c : Int)) (hc : c < n0 + 1) :
    Calls Yba.prog 3 #[.int .u8 nqx, .slice ap lp cp, .slice al ll cl, .slice ad ld cd, .int .i64 slot, .int .u8 cx, .int .i64 at_] w fun e w' => e = .returned (.bool true) ∧ Below w.heap.size w w' := by
  obtain ⟨i31, hi31, hz31, hs31, hb31⟩ := info_parts Yba.info31
  obtain ⟨i3, hi3, hz3, hs3, hb3⟩ := info_parts Yba.info3
  obtain ⟨i2, hi2, hz2, hs2, hb2⟩ := info_parts Yba.info2
  obtain ⟨i4, hi4, hz4, hs4, hb4⟩ := info_parts Yba.info4
  go_enter Yba.func3, Yba.ntmps3
  go_upto_region 4 with fail
  go_upto_region 5 with (at_make; refine wpList_make_full _ rfl _ _ 25 rfl 0 31 i31 _ 4 Yba.underlying25 hi31 hz31 hs31 _ _ _ _ (n0 + 1) rfl rfl (by omega) (by omega) (by rw [hb31]; omega) (by unfold maxLen; omega) (Nat.zero_le _) ?_; intro w1 h1 g1)
  go_upto_region 6 with (at_make; refine wpList_make_full _ rfl _ _ 24 rfl 0 3 i3 _ 1 Yba.underlying24 hi3 hz3 hs3 _ _ _ _ (n0 + 1) rfl rfl (by omega) (by omega) (by rw [hb3]; omega) (by unfold maxLen; omega) (Nat.zero_le _) ?_; intro w2 h2 g2)
  go_upto_region 7 with (at_make; refine wpList_make_full _ rfl _ _ 26 rfl 0 2 i2 _ 1 Yba.underlying26 hi2 hz2 hs2 _ _ _ _ (n0 + 1) rfl rfl (by omega) (by omega) (by rw [hb2]; omega) (by unfold maxLen; omega) (Nat.zero_le _) ?_; intro w3 h3 g3)
  obtain ⟨cQ, cC, cM, hL⟩ := la_start h1 g1 h2 g2 h3 g3
  clear h1 h2 h3 g1 g2 g3
  generalize w1.heap.size = C at *
  generalize w2.heap.size = M at *
  go_wp2
  go_loopw [20, 21, 53] (fun _ _ s wq => ∃ (i : Nat) (S : Nat → QV) (cnt : Nat → Nat) (mn : Nat → Int) (cQ cC cM : Array Value), i ≤ lp ∧ s = .int .i64 i ∧ LA w wq C M (n0 + 1) i S cnt mn cQ cC cM) (fun _ _ s _ => lp - (intOf s).toNat)
  case atStart => exact ⟨0, _, _, _, _, _, _, by omega, rfl, hL⟩
  case round =>
    clear hL
    obtain ⟨i, S, cnt, mn, cQ, cC, cM, hilp, rfl, hL⟩ := hrel
    by_cases hlt : i < lp
    · obtain ⟨b, off, rfl, hb, hcell⟩ := hargs.p (by omega)
      obtain ⟨y0, y1, z0, z1, z2⟩ := hcell i hlt
      clear hcell
      rw [← hL.below.cell (p := ⟨b, off + i * 3, none⟩) hb] at z0
      rw [← hL.below.cell (p := ⟨b, off + i * 3 + 1, none⟩) hb] at z1
      rw [← hL.below.cell (p := ⟨b, off + i * 3 + 2, none⟩) hb] at z2
      obtain ⟨q, hq⟩ : ∃ q : Nat, pq i % ((n0 : Int) + 1) = (q : Int) := ⟨(pq i % ((n0 : Int) + 1)).toNat, by have := Int.emod_nonneg (pq i) (show (n0 : Int) + 1 ≠ 0 by omega); omega⟩
      have hqn : q < n0 + 1 := by have := Int.emod_lt_of_pos (pq i) (show (0 : Int) < (n0 : Int) + 1 by omega); omega
      generalize pq i = xq at *
      generalize pk i = xk at *
      generalize pv i = xv at *
      have m1 : (0 : Int) ≤ (q : Int) := by omega
      have m2 : (q : Int) < (n0 : Int) + 1 := by omega
      go_upto_region 11 with fail
      rw [hq]
      clear hq z0 z1 z2
      have hqs : Qs (wr.alloc (.cells #[.int .u8 xq, .int .i64 xk, .int .i64 xv] 28)).drew w.heap.size (M + 1) (n0 + 1) cQ S := hL.qs.keeps (bad := fun _ => False) ((Keeps.alloc _ _ _).trans (Keeps.drew _ _)) id (fun _ _ _ _ => id)
      have hcl := hL.le q hqn
      have HI : Hid (Inv (S q).run (S q).heap (S q).pushed (cnt q) (mn q)) := hL.inv q hqn
      go_region_held3 (fun w' => w'.cell? ⟨wr.heap.size, 1, none⟩ = some (.int .i64 xk) ∧ w'.cell? ⟨wr.heap.size, 2, none⟩ = some (.int .i64 xv)) (first | go_keep | exact ⟨hM.box.cell 1, hM.box.cell 2⟩)
        (first | (go_at_call 6; refine (push_any _ w.heap.size (q * 4) (M + 1) _ _ _ (cnt q) (mn q) cQ _ _ _ _ xk xv (hqs.st q hqn) HI.out (by omega)).mono ?_; rintro e w4 ⟨rfl, run', heap', hP, hI'⟩; have hM := la_push hL hqn hP hI'))
      have nMB : M ≠ wr.heap.size := by have := hL.bM.lt; omega
      clear hqs hP hI' hL HI
      have e1 : w4.cell? ⟨wr.heap.size, 1, none⟩ = some (.int .i64 xk) := hM.box.cell 1
      have vc := (hM.bC.cell q).trans (hM.vC q hqn)
      have vm := (hM.bM.cell q).trans (hM.vM q hqn)
      have fc := hM.bC.free q
      have fm := hM.bM.free q
      obtain ⟨o1, o2⟩ := hM.ord
      by_cases hz : cnt q = 0
      · have g1 : ((cnt q : Int) == 0) = true := beq_iff_eq.2 (by omega)
        have HE : Hid (∀ k, _) := fun k => lm_end' hM hqn k (.inl hz)
        clear hM hz
        go_wp2
        go_quiet (fail)
        go_wp2
        go_roundw
        case rel =>
          obtain ⟨S', cnt', mn', cQ', cC', cM', hL'⟩ := HE.out _
          exact ⟨i + 1, S', cnt', mn', cQ', cC', cM', by omega, by go_num, hL'⟩
        case measure => simp [intOf]; omega
      · have g1 : ((cnt q : Int) == 0) = false := beq_eq_false_iff_ne.2 (by omega)
        by_cases hk : xk < mn q
        · have g2 : decide (xk < mn q) = true := decide_eq_true hk
          have HE : Hid (∀ k, _) := fun k => lm_end' hM hqn k (.inr hk)
          clear hM hz
          go_wp2
          go_quiet (fail)
          go_wp2
          go_roundw
          case rel =>
            obtain ⟨S', cnt', mn', cQ', cC', cM', hL'⟩ := HE.out _
            exact ⟨i + 1, S', cnt', mn', cQ', cC', cM', by omega, by go_num, hL'⟩
          case measure => simp [intOf]; omega
        · have g2 : decide (xk < mn q) = false := decide_eq_false hk
          have HE : Hid (∀ k, _) := fun k => lm_end hM hqn k (by omega)
          clear hM hz
          go_wp2
          go_quiet (fail)
          go_wp2
          go_roundw
          case rel =>
            obtain ⟨S', cnt', mn', cQ', cC', cM', hL'⟩ := HE.out _
            exact ⟨i + 1, S', cnt', mn', cQ', cC', cM', by omega, by go_num, hL'⟩
          case measure => simp [intOf]; omega
    · obtain rfl : i = lp := by omega
      go_upto_region 16 with fail
      go_upto_region 17 with (at_make; refine wpList_make_full _ rfl _ _ 23 rfl 0 4 i4 _ 1 Yba.underlying23 hi4 hz4 hs4 _ _ _ _ (n0 + 1) rfl rfl (by omega) (by omega) (by rw [hb4]; omega) (by unfold maxLen; omega) (Nat.zero_le _) ?_; intro w4 h4 g4)
      go_upto_region 18 with (at_make; refine wpList_make_full _ rfl _ _ 23 rfl 0 4 i4 _ 1 Yba.underlying23 hi4 hz4 hs4 _ _ _ _ (n0 + 1) rfl rfl (by omega) (by omega) (by rw [hb4]; omega) (by unfold maxLen; omega) (Nat.zero_le _) ?_; intro w5 h5 g5)
      obtain ⟨cL, cZ, hB⟩ := lb_start hL h4 g4 h5 g5
      clear h4 h5 g4 g5 hL
      generalize wr.heap.size = L at *
      generalize w4.heap.size = Z at *
      go_upto_if 102 with fail
      go_cut [24] from 103 to 124 (fun _ wx => ∃ wv cL cZ, LB w wx C M L Z (n0 + 1) i S cnt mn cQ cC cM wv cL cZ)
      case first =>
        by_cases hl0 : ll = 0
        · subst hl0
          go_wp2
          go_meet
          exact ⟨_, cL, cZ, hB⟩
        · obtain ⟨b, off, rfl, hb, hcell⟩ := hargs.l (by omega)
          have hl1 : (0 : Int) < (ll : Int) := by omega
          go_wp2
          go_loopw [24] (fun s wq => ∃ (t : Nat) (wv : Nat → Bool) (cL cZ : Array Value), t ≤ n0 + 1 ∧ s = .int .i64 t ∧ LB w wq C M L Z (n0 + 1) i S cnt mn cQ cC cM wv cL cZ) (fun s _ => n0 + 1 - (intOf s).toNat)
          case atStart => exact ⟨0, _, cL, cZ, by omega, rfl, hB⟩
          case round =>
            clear hB
            obtain ⟨t, wv, cL, cZ, ht, rfl, hB⟩ := hrel
            by_cases htn : t < n0 + 1
            · obtain ⟨r, hm, hr⟩ : ∃ r : Nat, (t : Int) % (ll : Int) = (r : Int) ∧ r < ll := ⟨t % ll, by omega, Nat.mod_lt t (by omega)⟩
              have z0 := hcell r hr
              rw [← hB.la.below.cell (p := ⟨b, off + r, none⟩) hb] at z0
              generalize lv r = lvr at z0
              have r1 : (0 : Int) ≤ (r : Int) := by omega
              have r2 : (r : Int) < (ll : Int) := by omega
              have HM : Hid ((t : Int) % (ll : Int) = (r : Int)) := hm
              clear hm
              have vl := (hB.bL.cell t).trans (hB.vL t htn)
              have vz := (hB.bZ.cell t).trans (hB.vZ t htn)
              have fl := hB.bL.free t
              have fz := hB.bZ.free t
              have nLZ : L ≠ Z := by have := hB.ord; omega
              have HE : Hid (∀ v, _) := fun v => lb_step hB t htn v
              clear hB hcell
              go_wp2_with (rw [HM.out])
              go_roundw
              case rel =>
                obtain ⟨wv', cL', cZ', hB'⟩ := HE.out _
                exact ⟨t + 1, wv', cL', cZ', by omega, by go_num, hB'⟩
              case measure => simp [intOf]; omega
            · go_wp2
              go_meet
              exact ⟨wv, cL, cZ, hB⟩
      case rest =>
        clear hB
        obtain ⟨wv, cL, cZ, hB⟩ := hcut
        go_upto_region 25 with (at_make; refine wpList_make_full _ rfl _ _ 24 rfl 0 3 i3 _ 1 Yba.underlying24 hi3 hz3 hs3 _ _ _ _ ld rfl rfl rfl rfl (by rw [hb3]; omega) (by unfold maxLen; omega) (Nat.zero_le _) ?_; intro w6 h6 g6)
        have b6 := blk_of_own h6
        have hbel6 : Below w.heap.size w w6 := hB.la.below.grown g6 hB.la.below.size (fun k e => by simp at e)
        have hsrc : 0 < (pendOf dv ld).length → (some (⟨wc.heap.size, 0, none⟩ : Addr)) = some ⟨wc.heap.size, 0, none⟩ ∧ ∃ a, ad = some a ∧ ∀ (j : Nat) v, (pendOf dv ld)[j]? = some v → w6.cell? (a.add j) = some v := pend_src hargs hbel6
        clear h6
        have t1 : (Yba.prog.info? 3).map (·.size) = some 1 := by rw [hi3]; simp [hs3]
        have t2 : w6.heap[wc.heap.size]? = some (.cells (madeCells #[.int .i64 0] (ld * 1)).toList.toArray 3 (0, 0)) := b6
        have t3 : (pendOf dv ld).length = Nat.min ld ld := by simp [pendOf]
        have t4 : 0 + (pendOf dv ld).length ≤ (madeCells #[.int .i64 0] (ld * 1)).toList.length := by simp [pendOf, size_madeCells]
        have t5 : ∀ v ∈ pendOf dv ld, v.oneCell' = true := by simp [pendOf, Value.oneCell']
        go_upto_region 26 with (refine wpList_copy_splice rfl _ _ 24 24 rfl 3 Yba.underlying24 t1 _ _ _ _ _ _ rfl rfl wc.heap.size 0 (madeCells #[.int .i64 0] (ld * 1)).toList 3 t2 (pendOf dv ld) t3 hsrc t4 t5 wc.heap.size w6 (Below.refl _ _) (Nat.le_refl _) ?_; intro w7 h7 b7)
        clear t1 t2 t3 t4 t5
        have h8 := h7.out
        rw [splice_all (by simp [pendOf, size_madeCells])] at h8
        clear h7 b6 hsrc hbel6
        go_upto_region 28 with (rw [hcx])
        obtain ⟨hB8, hAn, hZP, hPA⟩ := lb_ante (cA := antArr w.heap.size L wc.heap.size (n0 + 1) ld) hB (by unfold maxLen; omega) g6 (pendOf dv ld) (by simp [pendOf]) h8 b7 rfl rfl rfl
        obtain ⟨w8, hw8⟩ : ∃ w8, w8 = w7.alloc (.cells (antArr w.heap.size L wc.heap.size (n0 + 1) ld) 48) := ⟨_, rfl⟩
        rw [show w7.alloc (.cells #[.nilIface, .slice none 0 0, .slice none 0 0, .int .i64 0, .slice (some ⟨w.heap.size, 0, none⟩) (n0 + 1) (n0 + 1), .nilIface, .slice none 0 0, .slice (some ⟨wc.heap.size, 0, none⟩) ld ld, .slice (some ⟨L, 0, none⟩) (n0 + 1) (n0 + 1), .slice none 0 0, .slice none 0 0, .slice none 0 0, .slice none 0 0, .int .i64 0, .slice none 0 0, .slice none 0 0, .int .i64 0, .int .i64 0, .slice none 0 0, .slice none 0 0, .int .i64 0, .slice none 0 0, .slice none 0 0, .int .i64 0, .int .i64 0, .pointer none] 48) = w8 from hw8.symm]
        rw [← hw8] at hB8 hAn
        clear hw8 h8 b7 g6 hB
        generalize w7.heap.size = A at *
        generalize wc.heap.size = Pb at *
        have hcl := hB8.la.le c hc
        have HI : Hid (Inv (S c).run (S c).heap (S c).pushed (cnt c) (mn c)) := hB8.la.inv c hc
        have HV : Hid (cL[c]? = some (.bool (wv c))) := hB8.vL c hc
        go_upto_region 29 with (go_at_call 7; refine (wait_any w8 A L Pb ld ld w.heap.size (n0 + 1) (M + 1) c (cnt c) (mn c) slot at_ (antArr w.heap.size L Pb (n0 + 1) ld) cL cQ (pendOf dv ld) S hAn hc HI.out (by omega) (wv c) HV.out (by omega)).mono ?_; rintro e w9 ⟨rfl, hW⟩)
        have hLW := lw_of hB8 hZP hPA hc _ rfl hW
        clear hW HI HV hAn hB8
        have vc := (hLW.bC.cell c).trans (hLW.vC c hc)
        have vm := (hLW.bM.cell c).trans (hLW.vM c hc)
        have fc := hLW.bC.free c
        have fm := hLW.bM.free c
        have nMC : C ≠ M := by have := hLW.ord; omega
        have d1 : (0 : Int) ≤ (c : Int) := by omega
        have d2 : (c : Int) < (n0 : Int) + 1 := by omega
        go_upto_region 30 with fail
        go_cut [159] from 147 to 158 (fun s wx => s = .bool (decide (0 < cnt c ∧ mn c < at_)) ∧ wx = w9)
        case first =>
          by_cases k1 : cnt c = 0
          · have j1 : decide ((0 : Int) < (cnt c : Int)) = false := decide_eq_false (by omega)
            have j2 : (cnt c : Int) = 0 := by omega
            go_wp2
            go_meet
            exact ⟨congrArg Value.bool (decide_eq_false (by omega)).symm, rfl⟩
          · have j1 : decide ((0 : Int) < (cnt c : Int)) = true := decide_eq_true (by omega)
            have j3 : (0 : Int) < (cnt c : Int) := by omega
            by_cases k2 : mn c < at_
            · have j2 : decide (mn c < at_) = true := decide_eq_true k2
              go_wp2
              go_meet
              exact ⟨congrArg Value.bool (decide_eq_true (p := 0 < cnt c ∧ mn c < at_) (by omega)).symm, rfl⟩
            · have j2 : decide (mn c < at_) = false := decide_eq_false k2
              go_wp2
              go_meet
              exact ⟨congrArg Value.bool (decide_eq_false (p := 0 < cnt c ∧ mn c < at_) (by omega)).symm, rfl⟩
        case rest =>
          obtain ⟨rfl, hwx⟩ := hcut
          rw [hwx]
          clear hwx
          go_upto_if 159 with fail
          go_cut [28] from 160 to 163 (fun s wx => s = .int .i64 (newmin (cnt c) (mn c) at_) ∧ wx = w9)
          case first =>
            by_cases hk : 0 < cnt c ∧ mn c < at_
            · have j1 : decide (0 < cnt c ∧ mn c < at_) = true := decide_eq_true hk
              go_wp2
              go_meet
              exact ⟨by rw [newmin_go, if_pos hk], rfl⟩
            · have j1 : decide (0 < cnt c ∧ mn c < at_) = false := decide_eq_false hk
              go_wp2
              go_meet
              exact ⟨by rw [newmin_go, if_neg hk], rfl⟩
          case rest =>
            obtain ⟨rfl, hwx⟩ := hcut
            rw [hwx]
            clear hwx
            obtain ⟨ky, hky⟩ : ∃ ky, ky = newmin (cnt c) (mn c) at_ := ⟨_, rfl⟩
            obtain ⟨S', cnt', mn', hC⟩ := lw_end hLW hc ky hky
            rw [← hky]
            clear hky hLW
            go_upto_region 34 with fail
            obtain ⟨w10, hw10⟩ : ∃ w10, w10 = (w9.setCell ⟨M, c, none⟩ (.int .i64 ky)).setCell ⟨C, c, none⟩ (.int .i64 ((cnt c : Int) + 1)) := ⟨_, rfl⟩
            rw [← hw10] at hC ⊢
            clear hw10 vc vm fc fm
            have a4 := hC.a4
            have a8 := hC.a8
            go_wp2
            go_loopw [29] (fun s wq => ∃ (t : Nat), t ≤ n0 + 1 ∧ s = .int .i64 t ∧ LC w wq C M L Z A (n0 + 1) ld c (i + 1) S' cnt' mn' wv (pendOf dv ld)) (fun s _ => n0 + 1 - (intOf s).toNat)
            case atStart => exact ⟨0, by omega, rfl, hC⟩
            case round =>
              clear a4 a8 hC
              obtain ⟨t, ht, rfl, hC⟩ := hrel
              have a4 := hC.a4
              have a8 := hC.a8
              by_cases htn : t < n0 + 1
              · obtain ⟨cQ', cC', cM', hLA⟩ := hC.la
                have v1 := (hLA.bC.cell t).trans (hLA.vC t htn)
                have v2 := (hLA.bM.cell t).trans (hLA.vM t htn)
                have e1 : (0 : Int) ≤ (t : Int) := by omega
                have e2 : (t : Int) < (n0 : Int) + 1 := by omega
                go_wp2
                go_quiet ((go_at_call 8; exact Calls.quiet_of (la_len hLA (by omega) t htn _)))
                go_wp2
                have hC2 := hC.drewN nq
                obtain ⟨w11, hw11⟩ : ∃ x, x = wr.drewN nq := ⟨_, rfl⟩
                rw [← hw11] at hC2 ⊢
                clear hw11 hLA v1 v2 a4 a8 hC
                obtain ⟨cQ', cC', cM', hLA⟩ := hC2.la
                have v1 := (hLA.bC.cell t).trans (hLA.vC t htn)
                have v2 := (hLA.bM.cell t).trans (hLA.vM t htn)
                have a4 := hC2.a4
                have a8 := hC2.a8
                have HC : Hid (∀ k, LC w (w11.drewN k) C M L Z A (n0 + 1) ld c (i + 1) S' cnt' mn' wv (pendOf dv ld)) := fun k => hC2.drewN k
                have hv : ∃ bl bz bt, w11.cell? ⟨L, t, none⟩ = some (.bool bl) ∧ w11.cell? ⟨Z, t, none⟩ = some (.bool bz) ∧ ((t : Int) == (c : Int)) = bt ∧ bl = (bz || bt) := by
                  refine ⟨_, _, _, hC2.l t htn, hC2.z t htn, rfl, ?_⟩
                  congr 1
                  by_cases h : t = c
                  · simp [h]
                  · simp [h]; omega
                clear hC2
                obtain ⟨bl, bz, bt, v3, v4, v5, v6⟩ := hv
                have hone : Hid (∀ k, 0 < cnt' t → _) := fun k hpos => la_key hLA (by omega) t htn hpos k
                clear hLA
                by_cases hz : cnt' t = 0
                · have g1 : decide ((0 : Int) < (cnt' t : Int)) = false := decide_eq_false (by omega)
                  go_quiet (fail)
                  go_wp2
                  cases bz <;> cases bt <;> simp at v6 <;> subst v6
                  all_goals
                    go_quiet (fail)
                    go_wp2
                    exact ⟨⟨t + 1, by omega, by go_num, HC.out _⟩, by simp [intOf]; omega⟩
                · have g1 : decide ((0 : Int) < (cnt' t : Int)) = true := decide_eq_true (by omega)
                  have g2 : (0 : Int) < (cnt' t : Int) := by omega
                  have g3 : 0 < cnt' t := by omega
                  go_quiet ((go_at_call 9; exact Calls.quiet_of (hone.out _ g3)))
                  go_wp2
                  cases bz <;> cases bt <;> simp at v6 <;> subst v6
                  all_goals
                    go_quiet (fail)
                    go_wp2
                    exact ⟨⟨t + 1, by omega, by go_num, HC.out _⟩, by simp [intOf]; omega⟩
              · have vzc := hC.z c hc
                obtain ⟨ao, m', cp', a7, hm', hown⟩ := hC.a7
                obtain ⟨cQ', cC', cM', hLA⟩ := hC.la
                have hbel := hLA.below
                clear hLA hC
                by_cases hwc : wv c = true
                · rw [hwc] at vzc
                  rw [hwc, if_pos rfl] at hm' hown
                  subst hm'
                  go_wp2
                  go_loopw [31] (fun s wq => ∃ (k d : Nat), k ≤ m' ∧ s = .int .i64 k ∧ wq = wr.drewN d) (fun s _ => m' - (intOf s).toNat)
                  case atStart => exact ⟨0, 0, by omega, rfl, rfl⟩
                  case round =>
                    obtain ⟨k, d, hk, rfl, rfl⟩ := hrel
                    by_cases hkl : k < m'
                    · obtain ⟨g, rfl, hg⟩ := own_ints hown (by omega)
                      obtain ⟨b, off, rfl, hb, hcell⟩ := hargs.d (by omega)
                      have y1 : wr.cell? ⟨g, k, none⟩ = some (.int .i64 (dv k)) := hg k _ (by simp [pendOf, hkl])
                      have y2 := hcell k hkl
                      rw [← hbel.cell (p := ⟨b, off + k, none⟩) hb] at y2
                      have e1 : (0 : Int) ≤ (k : Int) := by omega
                      have e2 : (k : Int) < (m' : Int) := by omega
                      clear hcell
                      go_wp2
                      go_quiet (fail)
                      go_wp2
                      exact ⟨⟨k + 1, _, by omega, by go_num, rfl⟩, by simp [intOf]; omega⟩
                    · obtain rfl : k = m' := by omega
                      go_wp2
                      go_ret
                      exact ⟨rfl, hbel.trans (Keeps.below (Keeps.drewN _ wr d) hbel.size)⟩
                · rw [Bool.eq_false_iff.2 hwc] at vzc
                  rw [if_neg hwc] at hm' hown
                  subst hm'
                  obtain ⟨g, rfl, hg⟩ := own_ints hown (by omega)
                  go_wp2
                  go_loopw [31] (fun s wq => ∃ (k d : Nat), k ≤ ld ∧ s = .int .i64 k ∧ wq = wr.drewN d) (fun s _ => ld - (intOf s).toNat)
                  case atStart => exact ⟨0, 0, by omega, rfl, rfl⟩
                  case round =>
                    obtain ⟨k, d, hk, rfl, rfl⟩ := hrel
                    by_cases hkl : k < ld
                    · obtain ⟨b, off, rfl, hb, hcell⟩ := hargs.d (by omega)
                      have y1 : wr.cell? ⟨g, k, none⟩ = some (.int .i64 (dv k)) := hg k _ (by rw [List.getElem?_append_left (by simpa [pendOf] using hkl)]; simp [pendOf, hkl])
                      have y2 := hcell k hkl
                      rw [← hbel.cell (p := ⟨b, off + k, none⟩) hb] at y2
                      have e1 : (0 : Int) ≤ (k : Int) := by omega
                      have e2 : (k : Int) < (ld : Int) := by omega
                      have e3 : (k : Int) < (ld : Int) + 1 := by omega
                      clear hcell
                      go_wp2
                      go_quiet (fail)
                      go_wp2
                      exact ⟨⟨k + 1, _, by omega, by go_num, rfl⟩, by simp [intOf]; omega⟩
                    · obtain rfl : k = ld := by omega
                      have y1 : wr.cell? ⟨g, k, none⟩ = some (.int .i64 c) := hg k _ (by rw [List.getElem?_append_right (by simp [pendOf])]; simp [pendOf])
                      have e1 : (0 : Int) ≤ (k : Int) := by omega
                      have e3 : (k : Int) < (k : Int) + 1 := by omega
                      go_wp2
                      go_ret
                      exact ⟨rfl, hbel.trans (Keeps.below (Keeps.drewN _ wr d) hbel.size)⟩

set_option maxHeartbeats 1000000 in
set_option maxRecDepth 100000 in
/-- The early return. -/
theorem lawA_big (w : World) (nqx cx slot at_ : Int) (ap al ad : Option Addr) (lp cp ll cl ld cd : Nat) (hsum : ¬ lp + ll + ld ≤ 1048576) (h1 : lp ≤ 140737488351232) (h2 : ll ≤ 140737488351232) (h3 : ld ≤ 140737488351232) :
    Calls Yba.prog 3 #[.int .u8 nqx, .slice ap lp cp, .slice al ll cl, .slice ad ld cd, .int .i64 slot, .int .u8 cx, .int .i64 at_] w fun e w' => e = .returned (.bool true) ∧ Below w.heap.size w w' := by
  have g1 : decide ((1048576 : Int) < (lp : Int) + (ll : Int) + (ld : Int)) = true := decide_eq_true (by omega)
  have g2 : (1048576 : Int) < (lp : Int) + (ll : Int) + (ld : Int) := by omega
  go_enter Yba.func3, Yba.ntmps3
  go_wp2
  go_ret
  exact ⟨rfl, Below.refl _ _⟩

theorem lawA_any (w : World) (nqx cx slot at_ : Int) (ap al ad : Option Addr) (lp cp ll cl ld cd : Nat) (pq pk pv : Nat → Int) (lv : Nat → Bool) (dv : Nat → Int) (hargs : ArgsA w ap lp pq pk pv al ll lv ad ld dv)
    (q0 : 0 ≤ nqx) (q1 : nqx ≤ 255) (x0 : 0 ≤ cx) (x1 : cx ≤ 255) (h1 : lp ≤ 140737488351232) (h2 : ll ≤ 140737488351232) (h3 : ld ≤ 140737488351232) :
    Calls Yba.prog 3 #[.int .u8 nqx, .slice ap lp cp, .slice al ll cl, .slice ad ld cd, .int .i64 slot, .int .u8 cx, .int .i64 at_] w fun e w' => e = .returned (.bool true) ∧ Below w.heap.size w w' := by
  by_cases hs : lp + ll + ld ≤ 1048576
  · obtain ⟨n0, hn⟩ := Int.eq_ofNat_of_zero_le (show 0 ≤ nqx % 16 by omega)
    obtain ⟨c, hc⟩ := Int.eq_ofNat_of_zero_le (Int.emod_nonneg cx (show (n0 : Int) + 1 ≠ 0 by omega))
    have hlt := Int.emod_lt_of_pos cx (show (0 : Int) < (n0 : Int) + 1 by omega)
    exact lawA w nqx cx slot at_ ap al ad lp cp ll cl ld cd n0 pq pk pv lv dv hargs q0 q1 x0 x1 hn hs c hc (by omega)
  · exact lawA_big w nqx cx slot at_ ap al ad lp cp ll cl ld cd hs h1 h2 h3
end Go.Proofs.Ybulkdyfo
