import Derived.Test.YbulkdyfoLawB3
import Derived.Test.YbulkdyfoItemEq
import Derived.Deep.CutRange
import Derived.OwnWalk
namespace Go.Proofs.Ybulkdyfo
open Go.RowKit

theorem Yba.infoB3 : (Yba.prog.info? 3).map (fun i => (i.zero, i.size, i.bytes)) = some (some (.int .i64 0), 1, 8) := by kernel_rfl
theorem Yba.infoB4 : (Yba.prog.info? 4).map (fun i => (i.zero, i.size, i.bytes)) = some (some (.bool false), 1, 1) := by kernel_rfl

/-- The script that comes in. -/
def ArgsB (w : World) (ap : Option Addr) (lp : Nat) (po pk pv : Nat → Int) : Prop :=
  0 < lp → ∃ b off, ap = some ⟨b, off, none⟩ ∧ b < w.heap.size ∧ ∀ i, i < lp → 0 ≤ po i ∧ po i ≤ 255 ∧ w.cell? ⟨b, off + i * 3, none⟩ = some (.int .u8 (po i)) ∧ w.cell? ⟨b, off + i * 3 + 1, none⟩ = some (.int .i64 (pk i)) ∧ w.cell? ⟨b, off + i * 3 + 2, none⟩ = some (.int .i64 (pv i))

theorem run_to {head head' n : Nat} {run run' : List Itm} {x : Itm} (h : RunTo head run x head' run') (hn : run.length = head + n) :
    run'.length = head' + n + 1 ∧ (∀ i, i < n → run'[head' + i]? = run[head + i]?) ∧ run'[head' + n]? = some x := by
  rcases h with ⟨rfl, rfl⟩ | ⟨rfl, rfl⟩
  · refine ⟨by simp [hn], fun i hi => by rw [List.getElem?_append_left (by omega)], ?_⟩
    rw [List.getElem?_append_right (by omega), hn]
    simp
  · refine ⟨by simp [hn], fun i hi => ?_, ?_⟩
    · rw [List.getElem?_append_left (by simp; omega), List.getElem?_drop, Nat.zero_add]
    · rw [List.getElem?_append_right (by simp; omega)]
      simp [hn]

theorem own_cap {w : World} {base : Nat} {e : TypeId} {size : Nat} {ao : Option Addr} {n c : Nat} {xs : List Value} (h : w.ownsRow base e size (.slice ao n c) n xs) : n ≤ c := by
  rcases h.2 with ⟨e, rfl⟩ | ⟨g, cap, cur, e, _, _, r, _⟩
  · simp at e; omega
  · simp at e
    obtain ⟨_, rfl⟩ := e
    exact r

set_option maxHeartbeats 8000000 in
set_option maxRecDepth 100000 in
theorem lawB (w : World) (ap : Option Addr) (lp cp : Nat) (po pk pv : Nat → Int) (hargs : ArgsB w ap lp po pk pv) (hlp : lp ≤ 4096) (key v : Int) :
    Calls Yba.prog 4 #[.slice ap lp cp, .int .i64 key, .int .i64 v] w fun e w' => e = .returned (.bool true) ∧ Below w.heap.size w w' := by
  obtain ⟨i59, hi59, hz59, hs59, hb59⟩ := info_parts Yba.info59
  obtain ⟨i3, hi3, hz3, hs3, hb3⟩ := info_parts Yba.infoB3
  obtain ⟨i4, hi4, hz4, hs4, hb4⟩ := info_parts Yba.infoB4
  have l1 : decide ((4096 : Int) < (lp : Int)) = false := decide_eq_false (by omega)
  have l2 : ¬ (4096 : Int) < (lp : Int) := by omega
  go_enter Yba.func4, Yba.ntmps4
  go_upto_region 4 with fail
  have hB := b1_start w
  go_wp2
  go_loopw [9, 39] (fun _ s wq => ∃ (k : Nat) (cQ : Array Value) (ar ah : Option Addr) (cr ch head pushed : Nat) (run heap : List Itm), k ≤ lp ∧ s = .int .i64 k ∧ B1 w wq k cQ ar ah cr ch head pushed run heap) (fun _ s _ => lp - (intOf s).toNat)
  case atStart => exact ⟨0, _, _, _, _, _, _, _, _, _, by omega, rfl, hB⟩
  case round =>
    clear hB
    obtain ⟨k, cQ, ar, ah, cr, ch, head, pushed, run, heap, hk, rfl, hB⟩ := hrel
    by_cases hlt : k < lp
    · obtain ⟨b, off, rfl, hb, hcell⟩ := hargs (by omega)
      obtain ⟨y0, y1, z0, z1, z2⟩ := hcell k hlt
      clear hcell
      rw [← hB.below.cell (p := ⟨b, off + k * 3, none⟩) hb] at z0
      rw [← hB.below.cell (p := ⟨b, off + k * 3 + 1, none⟩) hb] at z1
      rw [← hB.below.cell (p := ⟨b, off + k * 3 + 2, none⟩) hb] at z2
      generalize po k = xo at *
      generalize pk k = xk at *
      generalize pv k = xv at *
      go_upto_region 7 with fail
      have k1 : Keeps (fun _ => False) wr (wr.alloc (.cells #[.int .u8 xo, .int .i64 xk, .int .i64 xv] 57)) := Keeps.alloc _ _ _
      have hI := Blk.new wr #[.int .u8 xo, .int .i64 xk, .int .i64 xv] 57
      obtain ⟨w1, hw1⟩ : ∃ w1, w1 = wr.alloc (.cells #[.int .u8 xo, .int .i64 xk, .int .i64 xv] 57) := ⟨_, rfl⟩
      rw [← hw1] at k1 hI ⊢
      clear hw1 z0 z1 z2
      have hst := hB.st.kept k1
      have x0 : w1.cell? ⟨wr.heap.size, 0, none⟩ = some (.int .u8 xo) := hI.cell 0
      have x1 : w1.cell? ⟨wr.heap.size, 1, none⟩ = some (.int .i64 xk) := hI.cell 1
      have x2 : w1.cell? ⟨wr.heap.size, 2, none⟩ = some (.int .i64 xv) := hI.cell 2
      have lr := hB.lr
      have lh := hB.lh
      have lpu := hB.lp
      have hh := hB.hh
      have HB : Hid (B1 w wr k cQ ar ah cr ch head pushed run heap) := hB
      clear hI hB
      by_cases hm2 : xo % 3 = 2
      · have d0 := (hst.blk.cell 0).trans hst.c0
        have d1 := (hst.blk.cell 1).trans hst.c1
        have d2 := (hst.blk.cell 2).trans hst.c2
        by_cases hpos : head < run.length ∨ 0 < heap.length
        · have g1 : decide ((0 : Int) < (run.length : Int) - (head : Int) + (heap.length : Int)) = true := decide_eq_true (by omega)
          have g2 : (0 : Int) < (run.length : Int) - (head : Int) + (heap.length : Int) := by omega
          go_wp2_with (go_at_call 10; refine (pop_any w1 w.heap.size 0 (w.heap.size + 1) cr ch head pushed cQ ar ah run heap hst (by omega) (by omega) hh hpos).mono ?_; rintro e w4 ⟨⟨v', rfl⟩, hP⟩)
          go_roundw
          case rel =>
            obtain ⟨cQ', ar', ah', cr', ch', head', run', heap', hB'⟩ := b1_pop HB.out k1 hP
            exact ⟨k + 1, cQ', ar', ah', cr', ch', head', _, run', heap', by omega, by go_num, hB'⟩
          case measure => simp [intOf]; omega
        · have g1 : decide ((0 : Int) < (run.length : Int) - (head : Int) + (heap.length : Int)) = false := decide_eq_false (by omega)
          have g2 : ¬ (0 : Int) < (run.length : Int) - (head : Int) + (heap.length : Int) := by omega
          go_wp2
          go_roundw
          case rel => exact ⟨k + 1, cQ, ar, ah, cr, ch, head, _, run, heap, by omega, by go_num, b1_skip HB.out k1⟩
          case measure => simp [intOf]; omega
      · by_cases hm0 : xo % 3 = 0
        · go_wp2_with (go_at_call 6; refine (push_all w1 w.heap.size 0 (w.heap.size + 1) cr ch head pushed cQ ar ah run heap xk xv hst (by omega) (by omega) (by omega) hh).mono ?_; rintro e w4 ⟨rfl, head', run', heap', hres, hP⟩)
          go_roundw
          case rel =>
            obtain ⟨cQ', ar', ah', cr', ch', hB'⟩ := b1_push HB.out k1 hres hP
            exact ⟨k + 1, cQ', ar', ah', cr', ch', head', _, run', heap', by omega, by go_num, hB'⟩
          case measure => simp [intOf]; omega
        · have hm1 : xo % 3 = 1 := by omega
          go_wp2_with (go_at_call 6; refine (push_all w1 w.heap.size 0 (w.heap.size + 1) cr ch head pushed cQ ar ah run heap xk xv hst (by omega) (by omega) (by omega) hh).mono ?_; rintro e w4 ⟨rfl, head', run', heap', hres, hP⟩)
          go_roundw
          case rel =>
            obtain ⟨cQ', ar', ah', cr', ch', hB'⟩ := b1_push HB.out k1 hres hP
            exact ⟨k + 1, cQ', ar', ah', cr', ch', head', _, run', heap', by omega, by go_num, hB'⟩
          case measure => simp [intOf]; omega
    · obtain rfl : k = lp := by omega
      have hst := hB.st
      have d0 := (hst.blk.cell 0).trans hst.c0
      have lr := hB.lr
      have lh := hB.lh
      have lpu := hB.lp
      go_upto_region 15 with (at_make; refine wpList_make_full _ rfl _ _ 29 rfl 0 59 i59 _ 3 Yba.underlying29 hi59 hz59 hs59 _ _ _ _ run.length rfl rfl rfl rfl (by rw [hb59]; omega) (by unfold maxLen; omega) (Nat.zero_le _) ?_; intro w2 h2 g2)
      have hst2 := hst.kept (Keeps.grown (bad := fun _ => False) g2 (fun k e => by simp at e))
      have d02 := (hst2.blk.cell 0).trans hst2.c0
      obtain ⟨cur, b2, _, _, _, hcs, _⟩ := own_blk h2
      have t2 : w2.heap[wr.heap.size]? = some (.cells cur.toList.toArray 59 (0, 0)) := b2
      have t4 : (icells run).length = run.length * 3 := icells_len run
      have t5 : 0 < run.length → (some (⟨wr.heap.size, 0, none⟩ : Addr)) = some ⟨wr.heap.size, 0, none⟩ ∧ ∃ ad, ar = some ad ∧ ∀ j v, (icells run)[j]? = some v → w2.cell? (ad.add j) = some v := fun hp => ⟨rfl, cp_src hst2.ownR hp⟩
      have t6 : 0 + (icells run).length ≤ cur.toList.length := by simp [t4, hcs]
      clear h2 d0
      go_upto_region 16 with (refine wpList_copyK rfl (.tmp 71) (.tmp 73) 29 29 rfl 59 3 Yba.underlying29 Yba.size59 _ _ _ _ _ _ rfl rfl wr.heap.size 0 cur.toList 59 t2 run.length (icells run) (Nat.min_self _).symm t4 t5 t6 (icells_one run) ?_; intro w3 h3 k3)
      have bR : Blk w3 wr.heap.size (icells run).toArray 59 := by
        have := h3.out
        rwa [splice_whole (by simp [t4, hcs])] at this
      have k03 := kept_copy g2 k3
      have hB3 := hB.kept k03
      clear t2 t4 t5 t6 h3 k3 g2 hst2 d02 b2 hcs
      have hst3 := hB3.st
      have d1 := (hst3.blk.cell 1).trans hst3.c1
      have d2 := (hst3.blk.cell 2).trans hst3.c2
      go_upto_region 18 with (at_make; refine wpList_make_full _ rfl _ _ 29 rfl 0 59 i59 _ 3 Yba.underlying29 hi59 hz59 hs59 _ _ _ _ heap.length rfl rfl rfl rfl (by rw [hb59]; omega) (by unfold maxLen; omega) (Nat.zero_le _) ?_; intro w4 h4 g4)
      have hst4 := hst3.kept (Keeps.grown (bad := fun _ => False) g4 (fun k e => by simp at e))
      have d24 := (hst4.blk.cell 2).trans hst4.c2
      obtain ⟨cur, b4, _, _, _, hcs, _⟩ := own_blk h4
      have t2 : w4.heap[w3.heap.size]? = some (.cells cur.toList.toArray 59 (0, 0)) := b4
      have t4 : (icells heap).length = heap.length * 3 := icells_len heap
      have t5 : 0 < heap.length → (some (⟨w3.heap.size, 0, none⟩ : Addr)) = some ⟨w3.heap.size, 0, none⟩ ∧ ∃ ad, ah = some ad ∧ ∀ j v, (icells heap)[j]? = some v → w4.cell? (ad.add j) = some v := fun hp => ⟨rfl, cp_src hst4.ownH hp⟩
      have t6 : 0 + (icells heap).length ≤ cur.toList.length := by simp [t4, hcs]
      clear h4 d1 d2
      go_upto_region 19 with (refine wpList_copyK rfl (.tmp 81) (.tmp 83) 29 29 rfl 59 3 Yba.underlying29 Yba.size59 _ _ _ _ _ _ rfl rfl w3.heap.size 0 cur.toList 59 t2 heap.length (icells heap) (Nat.min_self _).symm t4 t5 t6 (icells_one heap) ?_; intro w5 h5 k5)
      have bH : Blk w5 w3.heap.size (icells heap).toArray 59 := by
        have := h5.out
        rwa [splice_whole (by simp [t4, hcs])] at this
      have k35 := kept_copy g4 k5
      have nH0 : wr.heap.size ≤ w3.heap.size := k03.size
      have hB5 := hB3.kept k35
      have bR5 := k35.blk bR id
      have k05 := k03.trans k35
      clear t2 t4 t5 t6 h5 k5 g4 hst4 d24 b4 hcs hst3 hB3 bR k35 k03
      have hst5 := hB5.st
      have d3 := (hst5.blk.cell 3).trans hst5.c3
      have hh := hB.hh
      have g1 : decide ((head : Int) < 0) = false := decide_eq_false (by omega)
      have g2 : decide ((run.length : Int) < (head : Int)) = false := decide_eq_false (by omega)
      have g3 : ¬ (run.length : Int) < (head : Int) := by omega
      go_upto_region 23 with fail
      have k57 : Keeps (fun _ => False) w5 (w5.alloc (.cells #[.int .i64 key, .int .i64 pushed, .int .i64 v] 59)) := Keeps.alloc _ _ _
      have bI := Blk.new w5 #[.int .i64 key, .int .i64 pushed, .int .i64 v] 59
      obtain ⟨w7, hw7⟩ : ∃ w7, w7 = w5.alloc (.cells #[.int .i64 key, .int .i64 pushed, .int .i64 v] 59) := ⟨_, rfl⟩
      rw [← hw7] at k57 bI ⊢
      have nI : wr.heap.size ≤ w5.heap.size := k05.size
      have nH : wr.heap.size ≤ w3.heap.size := nH0
      have bR7 := k57.blk bR5 id
      have bH7 := k57.blk bH id
      have k07 := k05.trans k57
      have hst7 := hst5.kept k57
      clear hw7 d3 g1 g2 g3 bR5 bH k05 k57 hst5 hB5 hst nH0
      go_upto_region 24 with (go_at_call 6; refine (push_all w7 w.heap.size 0 (w.heap.size + 1) cr ch head pushed cQ ar ah run heap key v hst7 (by omega) (by omega) (by omega) hh).mono ?_; rintro e w8 ⟨rfl, head', run', heap', hres, hP⟩)
      obtain ⟨cQ', ar', ah', cr', ch', hB2⟩ := b2_of hB hlp k07 bR7 bH7 bI (Nat.le_refl _) nH nI hres hP
      clear hres hP hB k07 bR7 bH7 bI nI nH hst7 lr lh lpu hh
      generalize wr.heap.size = gR at *
      generalize w3.heap.size = gH at *
      generalize w5.heap.size = I at *
      have d3 := (hB2.st.blk.cell 3).trans hB2.st.c3
      have lr := hB2.lr
      have lh := hB2.lh
      have lpu := hB2.lp
      have hh := hB2.hh
      go_upto_region 26 with fail
      go_cut [15] from 107 to 109 (fun s wx => ∃ off, s = .slice (some ⟨gR, off, none⟩) (run.length - head) (run.length - head) ∧ Hid (0 < run.length - head → off = head * 3) ∧ wx = w8)
      case first =>
        have g1 : (head : Int) ≤ (run.length : Int) := by omega
        by_cases hz : run.length - head = 0
        · go_wp2
          go_meet
          exact ⟨0, by rw [hz], fun e => by omega, rfl⟩
        · go_wp2
          go_meet
          exact ⟨head * 3, rfl, fun _ => rfl, rfl⟩
      case rest =>
        obtain ⟨off, rfl, hoff, hwx⟩ := hcut
        rw [hwx]
        clear hwx
        obtain ⟨n, hn⟩ : ∃ n, n = run.length - head := ⟨_, rfl⟩
        rw [← hn] at hoff ⊢
        have HN : Hid (run.length = head + n) := (by omega : run.length = head + n)
        have hhn : Hid (n = 0 → head = 0 ∧ run.length = 0) := (by omega : n = 0 → head = 0 ∧ run.length = 0)
        clear hn hh
        go_upto_region 27 with fail
        go_cut [16] from 110 to 123 (fun s wx => ∃ b, s = .bool b ∧ Hid (b = true ↔ ToRun head run key) ∧ wx = w8)
        case first =>
          by_cases hz : n = 0
          · have g1 : ((n : Int) == 0) = true := beq_iff_eq.2 (by omega)
            have HT : Hid (ToRun head run key) := .inl (by have := hhn.out hz; omega)
            clear hz
            go_wp2
            go_meet
            exact ⟨true, rfl, ⟨fun _ => HT.out, fun _ => rfl⟩, rfl⟩
          · obtain ⟨m, rfl⟩ : ∃ m, n = m + 1 := ⟨n - 1, by omega⟩
            have hN : run.length = head + (m + 1) := HN.out
            have hl : run[head + m]? = some (run[head + m]'(by omega)) := List.getElem?_eq_getElem _
            have c0 := (row_item hB2.bR _ _ hl).1
            have hoff' : off = head * 3 := hoff.out (by omega)
            have HT : Hid (ToRun head run key ↔ (run[head + m]'(by omega)).key ≤ key) := by
              constructor
              · rintro (e | ⟨x, hx, hk⟩)
                · omega
                · rw [show run.length - 1 = head + m by omega, hl] at hx
                  simp at hx
                  subst hx
                  exact hk
              · exact fun hk => .inr ⟨_, by rw [show run.length - 1 = head + m by omega]; exact hl, hk⟩
            generalize (run[head + m]'(by omega)) = xl at c0 HT hl
            rw [show (head + m) * 3 = off + m * 3 by omega] at c0
            have g1 : (0 : Int) ≤ (m : Int) := by omega
            have g2 : (m : Int) < (m : Int) + 1 := by omega
            have mb : m ≤ 4096 := by omega
            clear hN hoff' hl
            by_cases hk : xl.key ≤ key
            · have g3 : decide (xl.key ≤ key) = true := decide_eq_true hk
              go_wp2
              go_meet
              exact ⟨true, rfl, ⟨fun _ => HT.out.2 hk, fun _ => rfl⟩, rfl⟩
            · have g3 : decide (xl.key ≤ key) = false := decide_eq_false hk
              have HK : Hid (¬ xl.key ≤ key) := hk
              go_wp2
              go_meet
              exact ⟨false, rfl, ⟨(fun e => by cases e), (fun e => by have h1 := HT.out.1 e; have h2 := HK.out; omega)⟩, rfl⟩
        case rest =>
          obtain ⟨tb, rfl, HT, hwx⟩ := hcut
          rw [hwx]
          clear hwx
          have nb : n ≤ 4096 := by have : run.length = head + n := HN.out; omega
          cases tb
          · have hT : ¬ ToRun head run key := fun e => by have := HT.out.2 e; cases this
            obtain ⟨h1, h2, h3⟩ : head' = head ∧ run' = run ∧ heap' = siftUp heap.length (heap ++ [⟨key, pushed, v⟩]) heap.length ⟨key, pushed, v⟩ := by
              rcases hB2.res with ⟨h1, _⟩ | ⟨_, h1, h2, h3⟩
              · exact absurd h1 hT
              · exact ⟨h1, h2, h3⟩
            have hst := hB2.st
            have hl' : heap'.length = heap.length + 1 := by rw [h3, siftUp_len]; simp
            have H3 : Hid (heap' = siftUp heap.length (heap ++ [⟨key, pushed, v⟩]) heap.length ⟨key, pushed, v⟩) := h3
            subst h1
            subst h2
            have hq1 := items_eq
            have hq2 := Yba.guard59
            have d0 := (hst.blk.cell 0).trans hst.c0
            have d1 := (hst.blk.cell 1).trans hst.c1
            have d2 := (hst.blk.cell 2).trans hst.c2
            rw [hl'] at d2
            have HL : Hid (heap'.length = heap.length + 1) := hl'
            clear h3 hl' hT HT
            go_upto_region 51 with fail
            go_wp2
            go_loopw [20] (fun s wq => ∃ (t d : Nat), t ≤ run'.length ∧ s = .int .i64 t ∧ wq = w8.drewN d) (fun s _ => run'.length - (intOf s).toNat)
            case atStart => exact ⟨0, 0, by omega, rfl, rfl⟩
            case round =>
              obtain ⟨t, d, ht, rfl, rfl⟩ := hrel
              by_cases htl : t < run'.length
              · obtain ⟨gr, rfl, hg⟩ := own_at hst.ownR (by omega)
                have hx : run'[t]? = some (run'[t]'htl) := List.getElem?_eq_getElem _
                obtain ⟨p0, p1, p2⟩ := hg t _ hx
                obtain ⟨q0, q1, q2⟩ := row_item hB2.bR t _ hx
                generalize run'[t]'htl = x at hx p0 p1 p2 q0 q1 q2
                clear hg hx
                have t1 : (0 : Int) ≤ (t : Int) := by omega
                have t2 : (t : Int) < (run'.length : Int) := by omega
                go_wp2
                go_quiet (fail)
                go_wp2
                exact ⟨⟨t + 1, _, by omega, by go_num, rfl⟩, by simp [intOf]; omega⟩
              · obtain rfl : t = run'.length := by omega
                have HW : Hid (∀ u, Keeps (fun _ => False) w8 u → Below w.heap.size w u) := fun u ku => hB2.below.trans (Keeps.below (ku.mono (bad' := fun k => w.heap.size ≤ k) (fun _ _ e => e.elim)) hB2.below.size)
                by_cases hH : IsHeap heap
                · have hHB := isHeapB_true hH
                  go_upto_region 61 with (go_at_call 11; refine (isheap_any _ 0 gH heap.length heap.length heap (own_drewN (row_own hB2.bH (by omega)) _) rfl (by omega)).mono ?_; rintro e w9 ⟨rfl, k9⟩; rw [hHB])
                  have k89 := (Keeps.drewN (fun _ => False) w8 d).trans k9
                  obtain ⟨gh, hB30⟩ := b3_of hB2 HL.out
                  have hB3 := hB30.kept k89
                  have hU := up_start w9 heap.length
                  have HH : Hid (IsHeap heap) := hH
                  clear hB30 hHB hH k9 k89 hst d0 d1 d2 hB2 HW hoff HN hhn nb lr lpu htl ht d3
                  go_wp2
                  go_loopw [22, 23] (fun s1 s2 wq => ∃ (j : Nat) (done : List Nat) (ao : Option Addr) (c : Nat), s1 = .slice ao done.length c ∧ s2 = .int .i64 j ∧ UpRel w9 wq heap.length done j ao c) (fun _ s2 _ => (intOf s2).toNat)
                  case atStart => exact ⟨heap.length, [], none, 0, rfl, rfl, hU⟩
                  case round =>
                    clear hU
                    obtain ⟨j, done, ao, c, rfl, rfl, hU⟩ := hrel
                    have ul := hU.len
                    have uown := hU.own
                    have us := hU.kept.size
                    go_upto_region 64 with (at_builtin; refine wpList_append_lies _ rfl _ _ 24 rfl w9.heap.size 3 i3 _ 1 8 Yba.underlying24 hi3 hz3 hs3 hb3 rfl (by omega) (.slice ao done.length c) done.length (done.map num) rfl (uown.alloc _) ⟨wr.heap.size, 0, none⟩ 1 1 [.int .i64 j] rfl rfl (World.news_of_block (cs := #[.int .i64 j]) (t := 3) (fr := (0, 0)) (heap_new _ _ _ (by simp))) (by simp [Value.oneCell']) (by omega) (by unfold maxLen; omega) (by omega) (by simp; omega) (wr.heap.size + 1) (by simp) ?_; intro gU cU w10 own10 g10 at10 lt10)
                    by_cases hj : j = 0
                    · subst hj
                      obtain ⟨hA, hde⟩ := up_end hU g10 own10
                      have kl := hA.len
                      have kp := rootFirst_len heap.length
                      clear hU uown us own10 g10 at10 lt10
                      go_upto_region 66 with fail
                      rw [hde]
                      clear hde
                      go_upto_region 68 with (at_make; refine wpList_make_full _ rfl _ _ 24 rfl 0 3 i3 _ 1 Yba.underlying24 hi3 hz3 hs3 _ _ _ _ (rootFirst heap.length).length rfl rfl rfl rfl (by rw [hb3]; omega) (by unfold maxLen; omega) (Nat.zero_le _) ?_; intro w11 h11 g11)
                      have hF := f6_start hA g11 h11
                      clear h11 g11
                      generalize w10.heap.size = gF at *
                      go_wp2
                      go_loopw [26] (fun s wq => ∃ i : Nat, i ≤ (rootFirst heap.length).length ∧ s = .int .i64 i ∧ F6 w9 wq heap.length gU gF i) (fun s _ => (rootFirst heap.length).length - (intOf s).toNat)
                      case atStart => exact ⟨0, by omega, rfl, hF⟩
                      case round =>
                        clear hF
                        obtain ⟨i, hi, rfl, hF⟩ := hrel
                        by_cases hik : i < (rootFirst heap.length).length
                        · obtain ⟨q, hq⟩ : ∃ q, (rootFirst heap.length)[i]? = some q := ⟨_, List.getElem?_eq_getElem hik⟩
                          have u0 : wr.cell? _ = some (.int .i64 q) := hF.up i q hq
                          obtain ⟨m, hm⟩ : ∃ m, m = (rootFirst heap.length).length - 1 - i := ⟨_, rfl⟩
                          rw [← hm] at u0
                          have hmi : ((rootFirst heap.length).length : Int) - 1 - (i : Int) = (m : Int) := by omega
                          obtain ⟨cF, bF, sF, _⟩ := hF.row
                          obtain ⟨u, hu⟩ : ∃ u, cF[i]? = some u := ⟨_, Array.getElem?_eq_getElem (by omega)⟩
                          have v0 := (bF.cell i).trans hu
                          have vf := bF.free i
                          have i1 : (0 : Int) ≤ (i : Int) := by omega
                          have i2 : (i : Int) < ((rootFirst heap.length).length : Int) := by omega
                          have j1 : (0 : Int) ≤ (m : Int) := by omega
                          have j2 : (m : Int) < ((rootFirst heap.length).length : Int) := by omega
                          have HF : Hid _ := f6_step hF hq
                          clear hm hF bF sF hu hq
                          go_wp2
                          go_roundw
                          case rel => exact ⟨i + 1, by omega, by go_num, HF.out⟩
                          case measure => simp [intOf]; omega
                        · obtain rfl : i = (rootFirst heap.length).length := by omega
                          go_upto_region 73 with (at_make; refine wpList_make_full _ rfl _ _ 23 rfl 0 4 i4 _ 1 Yba.underlying23 hi4 hz4 hs4 _ _ _ _ (heap.length + 1) rfl rfl (by omega) (by omega) (by rw [hb4]; omega) (by unfold maxLen; omega) (Nat.zero_le _) ?_; intro w12 h12 g12)
                          have hF7 := f7_start hF (Nat.le_refl _) g12 h12
                          clear h12 g12 hF hA
                          generalize wr.heap.size = gO at *
                          go_wp2
                          go_loopw [28] (fun s wq => ∃ i : Nat, i ≤ (rootFirst heap.length).length ∧ s = .int .i64 i ∧ F7 w9 wq heap.length gF gO i) (fun s _ => (rootFirst heap.length).length - (intOf s).toNat)
                          case atStart => exact ⟨0, by omega, rfl, hF7⟩
                          case round =>
                            clear hF7
                            obtain ⟨i, hi, rfl, hF⟩ := hrel
                            by_cases hik : i < (rootFirst heap.length).length
                            · obtain ⟨q, hq⟩ : ∃ q, (rootFirst heap.length)[i]? = some q := ⟨_, List.getElem?_eq_getElem hik⟩
                              have u0 : wr.cell? _ = some (.int .i64 q) := hF.rf i q hq
                              have qn := rootFirst_le hq
                              obtain ⟨cO, bO, vO⟩ := hF.row
                              have v0 := (bO.cell q).trans (vO q qn)
                              have vf := bO.free q
                              have i1 : (0 : Int) ≤ (i : Int) := by omega
                              have i2 : (i : Int) < ((rootFirst heap.length).length : Int) := by omega
                              have j1 : (0 : Int) ≤ (q : Int) := by omega
                              have j2 : (q : Int) < (heap.length : Int) + 1 := by omega
                              have HF : Hid _ := f7_step hF hq
                              generalize decide (q ∈ (rootFirst heap.length).take i) = bb at v0
                              clear hF bO vO hq qn
                              go_wp2
                              go_roundw
                              case rel => exact ⟨i + 1, by omega, by go_num, HF.out⟩
                              case measure => simp [intOf]; omega
                            · obtain rfl : i = (rootFirst heap.length).length := by omega
                              have hF8 := f8_of hF (Nat.le_refl _)
                              have hB5 := hB3.kept hF.kept
                              obtain ⟨w13, hw13⟩ : ∃ x, x = wr := ⟨_, rfl⟩
                              rw [← hw13] at hF8 hB5 ⊢
                              clear hw13 hF hB3
                              go_wp2
                              go_loopw [29, 30] (fun s1 s2 wq => ∃ i : Nat, i ≤ (rootFirst heap.length).length - 1 ∧ s1 = .int .i64 (cntT heap ⟨key, pushed, v⟩ (rootFirst heap.length) i) ∧ s2 = .int .i64 i ∧ Keeps (fun _ => False) w13 wq) (fun _ s2 _ => (rootFirst heap.length).length - (intOf s2).toNat)
                              case atStart => exact ⟨0, by omega, by rw [cntT_zero]; rfl, rfl, Keeps.refl _ _⟩
                              case round =>
                                obtain ⟨i, hi, rfl, rfl, hk13⟩ := hrel
                                by_cases hik : i < (rootFirst heap.length).length - 1
                                · obtain ⟨q, hq⟩ : ∃ q, (rootFirst heap.length)[i]? = some q := ⟨_, List.getElem?_eq_getElem (by omega)⟩
                                  have qn := rootFirst_lt hq hik
                                  obtain ⟨y, hy⟩ : ∃ y, heap[q]? = some y := ⟨_, List.getElem?_eq_getElem qn⟩
                                  have u0 : wr.cell? _ = some (.int .i64 q) := (hF8.kept hk13).rf i q hq
                                  obtain ⟨a0, a1, a2⟩ := (hB5.kept hk13).ho q y hy
                                  obtain ⟨x0, x1, x2⟩ := (hB5.kept hk13).it
                                  have hct := cntT_step (x := ⟨key, pushed, v⟩) hq hy
                                  have HC : Hid (cntT heap ⟨key, pushed, v⟩ (rootFirst heap.length) (i + 1) = _) := hct
                                  have cl := cntT_le heap ⟨key, pushed, v⟩ (rootFirst heap.length) i
                                  generalize cntT heap ⟨key, pushed, v⟩ (rootFirst heap.length) i = ct at *
                                  have i1 : (0 : Int) ≤ (i : Int) := by omega
                                  have i2 : (i : Int) < ((rootFirst heap.length).length : Int) := by omega
                                  have i3 : (i : Int) < ((rootFirst heap.length).length : Int) - 1 := by omega
                                  have j1 : (0 : Int) ≤ (q : Int) := by omega
                                  have j2 : (q : Int) < (heap.length : Int) := by omega
                                  clear hct hq hy
                                  go_upto_region 81 with fail
                                  cases hl : ltI ⟨key, pushed, v⟩ y
                                  · go_region_held3 (fun w' => w'.cell? ⟨I, 0, none⟩ = some (.int .i64 key) ∧ w'.cell? ⟨I, 1, none⟩ = some (.int .i64 pushed) ∧ w'.cell? ⟨I, 2, none⟩ = some (.int .i64 v) ∧ w'.cell? ⟨gF, i, none⟩ = some (.int .i64 q) ∧ w'.cell? ⟨gH, q * 3, none⟩ = some (.int .i64 y.key) ∧ w'.cell? ⟨gH, q * 3 + 1, none⟩ = some (.int .i64 y.order) ∧ w'.cell? ⟨gH, q * 3 + 2, none⟩ = some (.int .i64 y.value)) (first | go_keep | exact ⟨kcell k4 x0 id, kcell k4 x1 id, kcell k4 x2 id, kcell k4 u0 id, kcell k4 a0 id, kcell k4 a1 id, kcell k4 a2 id⟩) (first | (go_at_call 12; refine (blt_any ⟨key, pushed, v⟩ y _).mono ?_; rintro e w4 ⟨rfl, k4⟩; rw [hl]))
                                    go_wp2
                                    go_roundw
                                    case rel =>
                                      refine ⟨i + 1, by omega, ?_, by go_num, hk13.trans ((Keeps.drewN _ _ 1).trans k4)⟩
                                      rw [HC.out, hl]
                                      simp
                                    case measure => simp [intOf]; omega
                                  · go_region_held3 (fun w' => w'.cell? ⟨I, 0, none⟩ = some (.int .i64 key) ∧ w'.cell? ⟨I, 1, none⟩ = some (.int .i64 pushed) ∧ w'.cell? ⟨I, 2, none⟩ = some (.int .i64 v) ∧ w'.cell? ⟨gF, i, none⟩ = some (.int .i64 q) ∧ w'.cell? ⟨gH, q * 3, none⟩ = some (.int .i64 y.key) ∧ w'.cell? ⟨gH, q * 3 + 1, none⟩ = some (.int .i64 y.order) ∧ w'.cell? ⟨gH, q * 3 + 2, none⟩ = some (.int .i64 y.value)) (first | go_keep | exact ⟨kcell k4 x0 id, kcell k4 x1 id, kcell k4 x2 id, kcell k4 u0 id, kcell k4 a0 id, kcell k4 a1 id, kcell k4 a2 id⟩) (first | (go_at_call 12; refine (blt_any ⟨key, pushed, v⟩ y _).mono ?_; rintro e w4 ⟨rfl, k4⟩; rw [hl]))
                                    go_wp2
                                    go_roundw
                                    case rel =>
                                      refine ⟨i + 1, by omega, ?_, by go_num, hk13.trans ((Keeps.drewN _ _ 1).trans k4)⟩
                                      rw [HC.out, hl]
                                      simp
                                    case measure => simp [intOf]; omega
                                · have hie : i = (rootFirst heap.length).length - 1 := by omega
                                  have cl := cntT_le heap ⟨key, pushed, v⟩ (rootFirst heap.length) i
                                  obtain ⟨T, hT⟩ : ∃ T, T = cntT heap ⟨key, pushed, v⟩ (rootFirst heap.length) i := ⟨_, rfl⟩
                                  rw [← hT] at cl ⊢
                                  have HT : Hid (T = cntT heap ⟨key, pushed, v⟩ (rootFirst heap.length) ((rootFirst heap.length).length - 1)) := by
                                    rw [hie] at hT
                                    exact hT
                                  have c1 : ¬ (i : Int) < ((rootFirst heap.length).length : Int) - 1 := by omega
                                  have hTl : T ≤ (rootFirst heap.length).length - 1 := by omega
                                  have hB6 := hB5.kept hk13
                                  have hF9 := hF8.kept hk13
                                  obtain ⟨w14, hw14⟩ : ∃ x, x = wr := ⟨_, rfl⟩
                                  rw [← hw14] at hB6 hF9 ⊢
                                  clear hw14 hT hie hk13 hB5 hF8 hi hik cl
                                  go_wp2
                                  go_loopw [31, 32] (fun s1 _ wq => ∃ i : Nat, i ≤ (rootFirst heap.length).length ∧ s1 = .int .i64 i ∧ Keeps (fun _ => False) w14 wq) (fun s1 _ _ => (rootFirst heap.length).length - (intOf s1).toNat)
                                  case atStart => exact ⟨0, by omega, rfl, Keeps.refl _ _⟩
                                  case round =>
                                    clear c1
                                    obtain ⟨i, hi, rfl, hk14⟩ := hrel
                                    by_cases hik : i < (rootFirst heap.length).length
                                    · obtain ⟨q, hq⟩ : ∃ q, (rootFirst heap.length)[i]? = some q := ⟨_, List.getElem?_eq_getElem hik⟩
                                      have qn := rootFirst_le hq
                                      obtain ⟨y, hy, y1, y2, y3⟩ := path_main HH.out ⟨key, pushed, v⟩ i q hq
                                      rw [← HT.out] at y1 y2 y3
                                      rw [← H3.out] at hy
                                      have u0 : wr.cell? _ = some (.int .i64 q) := (hF9.kept hk14).rf i q hq
                                      obtain ⟨p0, p1, p2⟩ := (hB6.kept hk14).hp q y hy
                                      have d2 := (hB6.kept hk14).d2
                                      have s1 : gF < wr.heap.size := World.block_lt_of_cell? wr _ u0
                                      have i1 : (0 : Int) ≤ (i : Int) := by omega
                                      have i2 : (i : Int) < ((rootFirst heap.length).length : Int) := by omega
                                      have j1 : (0 : Int) ≤ (q : Int) := by omega
                                      have j2 : (q : Int) < (heap.length : Int) + 1 := by omega
                                      rcases Nat.lt_trichotomy i T with hc | hc | hc
                                      · have hy' := y1 hc
                                        have hqh : q < heap.length := (List.getElem?_eq_some_iff.1 hy').1
                                        obtain ⟨a0, a1, a2⟩ := (hB6.kept hk14).ho q y hy'
                                        have s2 : gH < wr.heap.size := World.block_lt_of_cell? wr _ a0
                                        have j3 : (q : Int) < (heap.length : Int) := by omega
                                        have c3 : (i : Int) < (T : Int) := by omega
                                        clear y1 y2 y3 hy hy' hq qn hqh hc
                                        go_upto_region 92 with fail
                                        have k1 : Keeps (fun _ => False) wr (wr.alloc (.cells #[.int .i64 y.key, .int .i64 y.order, .int .i64 y.value] 59)) := Keeps.alloc _ _ _
                                        have bx := Blk.new wr #[.int .i64 y.key, .int .i64 y.order, .int .i64 y.value] 59
                                        obtain ⟨w15, hw15⟩ : ∃ x, x = wr.alloc (.cells #[.int .i64 y.key, .int .i64 y.order, .int .i64 y.value] 59) := ⟨_, rfl⟩
                                        rw [← hw15] at k1 bx ⊢
                                        have e0 : w15.cell? ⟨wr.heap.size, 0, none⟩ = some (.int .i64 y.key) := bx.cell 0
                                        have e1 : w15.cell? ⟨wr.heap.size, 1, none⟩ = some (.int .i64 y.order) := bx.cell 1
                                        have e2 : w15.cell? ⟨wr.heap.size, 2, none⟩ = some (.int .i64 y.value) := bx.cell 2
                                        have u0' := kcell k1 u0 id
                                        have d2' := kcell k1 d2 id
                                        have p0' := kcell k1 p0 id
                                        have p1' := kcell k1 p1 id
                                        have p2' := kcell k1 p2 id
                                        have HK : Hid (∀ m, Keeps (fun _ => False) w14 (w15.drewN m)) := fun m => (hk14.trans k1).trans (Keeps.drewN _ _ m)
                                        clear hw15 k1 bx u0 d2 p0 p1 p2
                                        go_quiet (fail)
                                        go_wp2
                                        exact ⟨⟨i + 1, by omega, by go_num, HK.out _⟩, by simp [intOf]; omega⟩
                                      · obtain rfl := y2 hc
                                        obtain ⟨x0, x1, x2⟩ := (hB6.kept hk14).it
                                        have c3 : ¬ (i : Int) < (T : Int) := by omega
                                        have c4 : ((i : Int) == (T : Int)) = true := beq_iff_eq.2 (by omega)
                                        have c5 : (i : Int) = (T : Int) := by omega
                                        have s2 : I < wr.heap.size := World.block_lt_of_cell? wr _ x0
                                        have HC5 : Hid ((i : Int) = (T : Int)) := c5
                                        clear y1 y3 hy hq qn hc c5
                                        go_upto_region 92 with fail
                                        have k1 : Keeps (fun _ => False) wr (wr.alloc (.cells #[.int .i64 key, .int .i64 pushed, .int .i64 v] 59)) := Keeps.alloc _ _ _
                                        have bx := Blk.new wr #[.int .i64 key, .int .i64 pushed, .int .i64 v] 59
                                        obtain ⟨w15, hw15⟩ : ∃ x, x = wr.alloc (.cells #[.int .i64 key, .int .i64 pushed, .int .i64 v] 59) := ⟨_, rfl⟩
                                        rw [← hw15] at k1 bx ⊢
                                        have e0 : w15.cell? ⟨wr.heap.size, 0, none⟩ = some (.int .i64 key) := bx.cell 0
                                        have e1 : w15.cell? ⟨wr.heap.size, 1, none⟩ = some (.int .i64 pushed) := bx.cell 1
                                        have e2 : w15.cell? ⟨wr.heap.size, 2, none⟩ = some (.int .i64 v) := bx.cell 2
                                        have u0' := kcell k1 u0 id
                                        have d2' := kcell k1 d2 id
                                        have p0' := kcell k1 p0 id
                                        have p1' := kcell k1 p1 id
                                        have p2' := kcell k1 p2 id
                                        have HK : Hid (∀ m, Keeps (fun _ => False) w14 (w15.drewN m)) := fun m => (hk14.trans k1).trans (Keeps.drewN _ _ m)
                                        clear hw15 k1 bx u0 d2 p0 p1 p2
                                        go_quiet (fail)
                                        go_wp2
                                        exact ⟨⟨i + 1, by omega, by go_num, HK.out _⟩, by simp [intOf]; omega⟩
                                      · obtain ⟨q', hq', hy'⟩ := y3 hc
                                        obtain ⟨m, hm⟩ : ∃ m, i = m + 1 := ⟨i - 1, by omega⟩
                                        subst hm
                                        rw [Nat.add_sub_cancel] at hq'
                                        have hqh : q' < heap.length := (List.getElem?_eq_some_iff.1 hy').1
                                        obtain ⟨a0, a1, a2⟩ := (hB6.kept hk14).ho q' y hy'
                                        have u1 : wr.cell? _ = some (.int .i64 q') := (hF9.kept hk14).rf m q' hq'
                                        have s2 : gH < wr.heap.size := World.block_lt_of_cell? wr _ a0
                                        have i3 : (0 : Int) ≤ (m : Int) := by omega
                                        have i4 : (m : Int) < ((rootFirst heap.length).length : Int) := by omega
                                        have j3 : (0 : Int) ≤ (q' : Int) := by omega
                                        have j4 : (q' : Int) < (heap.length : Int) := by omega
                                        have c3 : ¬ (m : Int) + 1 < (T : Int) := by omega
                                        have c4 : (((m : Int) + 1) == (T : Int)) = false := beq_eq_false_iff_ne.2 (by omega)
                                        have c5 : ¬ (m : Int) + 1 = (T : Int) := by omega
                                        clear y1 y2 y3 hy hy' hq hq' qn hqh hc
                                        go_upto_region 92 with fail
                                        have k1 : Keeps (fun _ => False) wr (wr.alloc (.cells #[.int .i64 y.key, .int .i64 y.order, .int .i64 y.value] 59)) := Keeps.alloc _ _ _
                                        have bx := Blk.new wr #[.int .i64 y.key, .int .i64 y.order, .int .i64 y.value] 59
                                        obtain ⟨w15, hw15⟩ : ∃ x, x = wr.alloc (.cells #[.int .i64 y.key, .int .i64 y.order, .int .i64 y.value] 59) := ⟨_, rfl⟩
                                        rw [← hw15] at k1 bx ⊢
                                        have e0 : w15.cell? ⟨wr.heap.size, 0, none⟩ = some (.int .i64 y.key) := bx.cell 0
                                        have e1 : w15.cell? ⟨wr.heap.size, 1, none⟩ = some (.int .i64 y.order) := bx.cell 1
                                        have e2 : w15.cell? ⟨wr.heap.size, 2, none⟩ = some (.int .i64 y.value) := bx.cell 2
                                        have u0' := kcell k1 u0 id
                                        have d2' := kcell k1 d2 id
                                        have p0' := kcell k1 p0 id
                                        have p1' := kcell k1 p1 id
                                        have p2' := kcell k1 p2 id
                                        have HK : Hid (∀ m, Keeps (fun _ => False) w14 (w15.drewN m)) := fun m => (hk14.trans k1).trans (Keeps.drewN _ _ m)
                                        clear hw15 k1 bx u0 d2 p0 p1 p2
                                        go_quiet (fail)
                                        go_wp2
                                        exact ⟨⟨m + 2, by omega, by go_num, HK.out _⟩, by simp [intOf]; omega⟩
                                    · obtain rfl : i = (rootFirst heap.length).length := by omega
                                      have hB8 := hB6.kept hk14
                                      have hF10 := hF9.kept hk14
                                      obtain ⟨w16, hw16⟩ : ∃ x, x = wr := ⟨_, rfl⟩
                                      rw [← hw16] at hB8 hF10 ⊢
                                      clear hw16 hk14 hB6 hF9
                                      go_wp2
                                      go_loopw [33] (fun s wq => ∃ i d : Nat, i ≤ heap.length ∧ s = .int .i64 i ∧ wq = w16.drewN d) (fun s _ => heap.length - (intOf s).toNat)
                                      case atStart => exact ⟨0, 0, by omega, rfl, rfl⟩
                                      case round =>
                                        obtain ⟨i, d, hi, rfl, rfl⟩ := hrel
                                        by_cases hin : i < heap.length
                                        · have u0 := hF10.on i (by omega)
                                          have i1 : (0 : Int) ≤ (i : Int) := by omega
                                          have i2 : (i : Int) < (heap.length : Int) := by omega
                                          have i3 : (i : Int) < (heap.length : Int) + 1 := by omega
                                          by_cases hm : i ∈ rootFirst heap.length
                                          · rw [decide_eq_true hm] at u0
                                            clear hm
                                            go_wp2
                                            go_quiet (fail)
                                            go_wp2
                                            exact ⟨⟨i + 1, _, by omega, by go_num, rfl⟩, by simp [intOf]; omega⟩
                                          · rw [decide_eq_false hm] at u0
                                            have hx : heap[i]? = some (heap[i]'hin) := List.getElem?_eq_getElem _
                                            have hy : heap'[i]? = heap[i]? := by rw [H3.out]; exact path_off heap _ i hin hm
                                            obtain ⟨p0, p1, p2⟩ := hB8.hp i _ (hy.trans hx)
                                            obtain ⟨q0, q1, q2⟩ := hB8.ho i _ hx
                                            have d2 := hB8.d2
                                            generalize heap[i]'hin = y at hx p0 p1 p2 q0 q1 q2
                                            clear hx hy hm
                                            go_wp2
                                            go_quiet (fail)
                                            go_wp2
                                            exact ⟨⟨i + 1, _, by omega, by go_num, rfl⟩, by simp [intOf]; omega⟩
                                        · have HW : Hid (∀ m, Below w.heap.size w (w16.drewN m)) := fun m => hB8.below.trans (Keeps.below (Keeps.drewN _ w16 m) hB8.below.size)
                                          go_wp2
                                          go_ret
                                          exact ⟨rfl, HW.out _⟩
                    · obtain ⟨m, rfl⟩ : ∃ m, j = m + 1 := ⟨j - 1, by omega⟩
                      have hV := up_step hU hj g10 own10
                      rw [Nat.add_sub_cancel] at hV
                      clear hU uown us own10 g10 at10 lt10
                      go_wp2
                      go_roundw
                      case rel => exact ⟨m / 2, done ++ [m + 1], some ⟨gU, 0, none⟩, cU, by simp, by simp, hV⟩
                      case measure => simp [intOf]; omega
                · have hHB := isHeapB_false hH
                  go_wp2_with (go_at_call 11; refine (isheap_any _ 0 gH heap.length heap.length heap (own_drewN (row_own hB2.bH (by omega)) _) rfl (by omega)).mono ?_; rintro e w9 ⟨rfl, k9⟩; rw [hHB])
                  go_ret
                  exact ⟨rfl, HW.out _ ((Keeps.drewN (fun _ => False) w8 d).trans k9)⟩
          · have hT : ToRun head run key := HT.out.1 rfl
            obtain ⟨hR, he⟩ : RunTo head run ⟨key, pushed, v⟩ head' run' ∧ heap' = heap := by
              rcases hB2.res with ⟨_, h1, h2⟩ | ⟨h1, _⟩
              · exact ⟨h1, h2⟩
              · exact absurd hT h1
            have hst := hB2.st
            rw [he] at hst
            clear hT HT
            have hq1 := items_eq
            have hq2 := Yba.guard59
            have d2 := (hst.blk.cell 2).trans hst.c2
            go_upto_region 31 with fail
            go_wp2
            go_loopw [17] (fun s wq => ∃ (t d : Nat), t ≤ heap.length ∧ s = .int .i64 t ∧ wq = w8.drewN d) (fun s _ => heap.length - (intOf s).toNat)
            case atStart => exact ⟨0, 0, by omega, rfl, rfl⟩
            case round =>
              obtain ⟨t, d, ht, rfl, rfl⟩ := hrel
              by_cases htl : t < heap.length
              · obtain ⟨gh, rfl, hg⟩ := own_at hst.ownH (by omega)
                have hx : heap[t]? = some (heap[t]'htl) := List.getElem?_eq_getElem _
                obtain ⟨p0, p1, p2⟩ := hg t _ hx
                obtain ⟨q0, q1, q2⟩ := row_item hB2.bH t _ hx
                generalize heap[t]'htl = x at hx p0 p1 p2 q0 q1 q2
                clear hg hx
                have t1 : (0 : Int) ≤ (t : Int) := by omega
                have t2 : (t : Int) < (heap.length : Int) := by omega
                go_wp2
                go_quiet (fail)
                go_wp2
                exact ⟨⟨t + 1, _, by omega, by go_num, rfl⟩, by simp [intOf]; omega⟩
              · obtain rfl : t = heap.length := by omega
                have hN : run.length = head + n := HN.out
                obtain ⟨r1, r2, r3⟩ : run'.length = head' + n + 1 ∧ (∀ i, i < n → run'[head' + i]? = run[head + i]?) ∧ run'[head' + n]? = some ⟨key, pushed, v⟩ := run_to hR hN
                have hst0 := hst.drewN d
                have d0 := (hst.blk.cell 0).trans hst.c0
                have d1 := (hst.blk.cell 1).trans hst.c1
                have hcap : run'.length ≤ cr' := own_cap hst.ownR
                obtain ⟨gr, rfl, hg⟩ := own_at hst.ownR (by omega)
                have hor : head' = head ∨ head' = 0 := by
                  rcases hR with ⟨h1, _⟩ | ⟨h1, _⟩
                  · exact .inl h1
                  · exact .inr h1
                have hs : run'.length - head' = n + 1 := by omega
                have R1 : Hid (run'.length = head' + n + 1) := r1
                have R2 : Hid (∀ i, i < n → run'[head' + i]? = run[head + i]?) := r2
                have R3 : Hid (∀ i x, run'[i]? = some x → w8.cell? ⟨gr, i * 3, none⟩ = some (.int .i64 x.key) ∧ w8.cell? ⟨gr, i * 3 + 1, none⟩ = some (.int .i64 x.order) ∧ w8.cell? ⟨gr, i * 3 + 2, none⟩ = some (.int .i64 x.value)) := hg
                obtain ⟨z0, z1, z2⟩ := hg _ _ r3
                rw [show (head' + n) * 3 = head' * 3 + n * 3 by omega] at z0 z1 z2
                have b0 : w8.cell? ⟨I, 0, none⟩ = some (.int .i64 key) := hB2.bI.cell 0
                have b1 : w8.cell? ⟨I, 1, none⟩ = some (.int .i64 pushed) := hB2.bI.cell 1
                have b2 : w8.cell? ⟨I, 2, none⟩ = some (.int .i64 v) := hB2.bI.cell 2
                have c1 : (head' : Int) ≤ (run'.length : Int) := by omega
                have c2 : ¬ cr' - head' = 0 := by omega
                have c3 : decide ((head' : Int) < 0) = false := decide_eq_false (by omega)
                have c4 : decide ((run'.length : Int) < (head' : Int)) = false := decide_eq_false (by omega)
                clear hst0 hR hN r1 r2 r3 hg
                go_upto_region 36 with fail
                go_cut [155] from 147 to 154 (fun s wx => s = .bool false ∧ wx = w8.drewN d)
                case first =>
                  clear hs
                  by_cases e1 : head' = head
                  · subst e1
                    go_wp2
                    go_meet
                    exact ⟨rfl, rfl⟩
                  · have e2 : head' = 0 := by omega
                    have g1 : ((0 : Int) == (head : Int)) = false := beq_eq_false_iff_ne.2 (by omega)
                    clear hor
                    subst e2
                    go_wp2
                    go_meet
                    exact ⟨rfl, rfl⟩
                case rest =>
                  obtain ⟨rfl, hwx⟩ := hcut
                  rw [hwx]
                  clear hwx hor
                  go_wp2
                  go_loopw [19] (fun s wq => ∃ (t d : Nat), t ≤ n ∧ s = .int .i64 t ∧ wq = w8.drewN d) (fun s _ => n - (intOf s).toNat)
                  case atStart => exact ⟨0, d, by omega, rfl, rfl⟩
                  case round =>
                    obtain ⟨t, d, ht, rfl, rfl⟩ := hrel
                    by_cases htl : t < n
                    · have hN : run.length = head + n := HN.out
                      have hx : run[head + t]? = some (run[head + t]'(by omega)) := List.getElem?_eq_getElem _
                      obtain ⟨p0, p1, p2⟩ := R3.out _ _ ((R2.out t htl).trans hx)
                      obtain ⟨q0, q1, q2⟩ := row_item hB2.bR _ _ hx
                      have ho : off = head * 3 := hoff.out (by omega)
                      rw [show (head + t) * 3 = off + t * 3 by omega] at q0 q1 q2
                      rw [show (head' + t) * 3 = head' * 3 + t * 3 by omega] at p0 p1 p2
                      generalize run[head + t]'(by omega) = x at hx p0 p1 p2 q0 q1 q2
                      have t1 : (0 : Int) ≤ (t : Int) := by omega
                      have t2 : (t : Int) < (n : Int) := by omega
                      have t3 : (t : Int) < (n : Int) + 1 := by omega
                      clear hN hx ho
                      go_wp2
                      go_quiet (fail)
                      go_wp2
                      exact ⟨⟨t + 1, _, by omega, by go_num, rfl⟩, by simp [intOf]; omega⟩
                    · obtain rfl : t = n := by omega
                      have t1 : (0 : Int) ≤ (t : Int) := by omega
                      have t3 : (t : Int) < (t : Int) + 1 := by omega
                      have HW : Hid (∀ m, Below w.heap.size w (w8.drewN m)) := fun m => hB2.below.trans (Keeps.below (Keeps.drewN _ w8 m) hB2.below.size)
                      go_wp2
                      go_quiet (fail)
                      go_wp2
                      go_ret
                      exact ⟨rfl, by rw [World.drewN_drewN]; exact HW.out _⟩

set_option maxHeartbeats 1000000 in
set_option maxRecDepth 100000 in
/-- The early return. -/
theorem lawB_big (w : World) (ap : Option Addr) (lp cp : Nat) (hlp : ¬ lp ≤ 4096) (key v : Int) :
    Calls Yba.prog 4 #[.slice ap lp cp, .int .i64 key, .int .i64 v] w fun e w' => e = .returned (.bool true) ∧ Below w.heap.size w w' := by
  have g1 : decide ((4096 : Int) < (lp : Int)) = true := decide_eq_true (by omega)
  have g2 : (4096 : Int) < (lp : Int) := by omega
  go_enter Yba.func4, Yba.ntmps4
  go_wp2
  go_ret
  exact ⟨rfl, Below.refl _ _⟩

theorem lawB_any (w : World) (ap : Option Addr) (lp cp : Nat) (po pk pv : Nat → Int) (hargs : ArgsB w ap lp po pk pv) (key v : Int) :
    Calls Yba.prog 4 #[.slice ap lp cp, .int .i64 key, .int .i64 v] w fun e w' => e = .returned (.bool true) ∧ Below w.heap.size w w' := by
  by_cases h : lp ≤ 4096
  · exact lawB w ap lp cp po pk pv hargs h key v
  · exact lawB_big w ap lp cp h key v
end Go.Proofs.Ybulkdyfo
