import Derived.Test.YbulkdyciHeads
import Derived.Deep.CutRange
namespace Go.Proofs.Ybulkdyci
open Go.RowKit Go.Maps

/-- What is asked for. -/
structure Probe (w0 wx : World) (W : Nat) (ao : Option Addr) (cap : Nat) (pr : List Int) (h : Int) : Prop where
  rd : Reads wx .u64 ao pr
  le : W ≤ pr.length
  len : pr.length ≤ 65540
  nil : ao = none → pr.length = 0 ∧ cap = 0
  h0 : 0 ≤ h
  h4 : h ≤ 4
  kept : Keeps (fun _ => False) w0 wx

/-- The five rows, each by itself. -/
theorem rows5 {w : World} {K base W : Nat} {cK : Array Value} {R : Nat → Row} (h : K5 w K base W cK R) :
    w.ownsRow base 24 1 (.slice (R 0).ao (R 0).l.length (R 0).cap) (R 0).l.length (R 0).l ∧ w.ownsRow base 24 1 (.slice (R 1).ao (R 1).l.length (R 1).cap) (R 1).l.length (R 1).l ∧ w.ownsRow base 37 1 (.slice (R 2).ao (R 2).l.length (R 2).cap) (R 2).l.length (R 2).l ∧
    w.ownsRow base 25 1 (.slice (R 3).ao (R 3).l.length (R 3).cap) (R 3).l.length (R 3).l ∧ w.ownsRow base 21 1 (.slice (R 4).ao (R 4).l.length (R 4).cap) (R 4).l.length (R 4).l :=
  ⟨h.own 0 (by omega), h.own 1 (by omega), h.own 2 (by omega), h.own 3 (by omega), h.own 4 (by omega)⟩

theorem own_capE {w : World} {base : Nat} {e : TypeId} {size : Nat} {ao : Option Addr} {n c : Nat} {xs : List Value} (h : w.ownsRow base e size (.slice ao n c) n xs) : n ≤ c := by
  rcases h.2 with ⟨e, rfl⟩ | ⟨g, cap, cur, e, _, _, r, _⟩
  · simp at e; omega
  · simp at e
    obtain ⟨_, rfl⟩ := e
    exact r

theorem equal_W (w : World) (a1 a2 : Option Addr) (c1 c2 n1 n2 : Nat) (l1 l2 : List Int) (e1 : l1.length = n1) (e2 : l2.length = n2) (h1 : Reads w .u64 a1 l1) (h2 : Reads w .u64 a2 l2) (b1 : n1 ≤ 9223372036854775807) :
    Calls Yba.prog 11 #[.slice a1 n1 c1, .slice a2 n2 c2] w fun e w' => e = .returned (.bool (decide (l1 = l2))) ∧ ∃ m, w' = w.drewN m := by
  subst e1 e2
  exact equal_u64 w a1 a2 c1 c2 l1 l2 h1 h2 b1

theorem same_u64 (w : World) (a1 a2 : Option Addr) (c1 c2 : Nat) (l : List Int) (h1 : Reads w .u64 a1 l) (h2 : Reads w .u64 a2 l) (b1 : l.length ≤ 9223372036854775807) :
    Calls Yba.prog 11 #[.slice a1 l.length c1, .slice a2 l.length c2] w fun e w' => e = .returned (.bool true) ∧ ∃ m, w' = w.drewN m := by
  have := equal_u64 w a1 a2 c1 c2 l l h1 h2 b1
  rwa [decide_eq_true rfl] at this

theorem same_u32 (w : World) (a1 a2 : Option Addr) (c1 c2 : Nat) (l : List Int) (h1 : Reads w .u32 a1 l) (h2 : Reads w .u32 a2 l) (b1 : l.length ≤ 9223372036854775807) :
    Calls Yba.prog 13 #[.slice a1 l.length c1, .slice a2 l.length c2] w fun e w' => e = .returned (.bool true) ∧ ∃ m, w' = w.drewN m := by
  have := equal_u32 w a1 a2 c1 c2 l l h1 h2 b1
  rwa [decide_eq_true rfl] at this

theorem same_i8 (w : World) (a1 a2 : Option Addr) (c1 c2 : Nat) (l : List Int) (h1 : Reads w .i8 a1 l) (h2 : Reads w .i8 a2 l) (b1 : l.length ≤ 9223372036854775807) :
    Calls Yba.prog 14 #[.slice a1 l.length c1, .slice a2 l.length c2] w fun e w' => e = .returned (.bool true) ∧ ∃ m, w' = w.drewN m := by
  have := equal_i8 w a1 a2 c1 c2 l l h1 h2 b1
  rwa [decide_eq_true rfl] at this

theorem same_i32 (w : World) (a1 a2 : Option Addr) (c1 c2 : Nat) (l : List Int) (h1 : Reads w .i32 a1 l) (h2 : Reads w .i32 a2 l) (b1 : l.length ≤ 9223372036854775807) :
    Calls Yba.prog 15 #[.slice a1 l.length c1, .slice a2 l.length c2] w fun e w' => e = .returned (.bool true) ∧ ∃ m, w' = w.drewN m := by
  have := equal_i32 w a1 a2 c1 c2 l l h1 h2 b1
  rwa [decide_eq_true rfl] at this

set_option maxHeartbeats 8000000 in
set_option maxRecDepth 100000 in
theorem lawE (w : World) (wx pick h count : Int) (ae ak : Option Addr) (le ce ck W : Nat) (ea : Nat → Option Addr) (ec : Nat → Nat) (ew : Nat → List Int) (ef ect : Nat → Int) (kl : List Int) (hargs : ArgsE w ae le ea ec ew ef ect)
    (hkey : Reads w .u64 ak kl) (hkn : ak = none → kl.length = 0 ∧ ck = 0) (w0 : 0 ≤ wx) (w1 : wx ≤ 255) (hW : wx % 4 = (W : Int)) (hW3 : W ≤ 3) (p0 : 0 ≤ pick) (p1 : pick ≤ 255) (h0 : 0 ≤ h) (h1 : h ≤ 18446744073709551615) (hle : le ≤ 4096) (hkl : kl.length ≤ 65536) :
    Calls Yba.prog 3 #[.int .u8 wx, .slice ae le ce, .int .u8 pick, .slice ak kl.length ck, .int .u64 h, .int .i8 count] w fun e w' => e = .returned (.bool true) ∧ Below w.heap.size w w' := by
  have hmm := @run_makeMap Yba.prog
  have g1 : decide ((4096 : Int) < (le : Int)) = false := decide_eq_false (by omega)
  have g2 : decide ((65536 : Int) < (kl.length : Int)) = false := decide_eq_false (by omega)
  have hS := l1_start w W (fun i => ef i % 4) ect (fun i => padL (ew i) W) (fun j => padL_len _ _)
  go_enter Yba.func3, Yba.ntmps3
  go_upto_region 6 with fail
  clear hmm g1 g2 hW
  obtain ⟨F, hF⟩ : ∃ F : Nat → Int, F = fun i => ef i % 4 := ⟨_, rfl⟩
  obtain ⟨P, hP⟩ : ∃ P : Nat → List Int, P = fun i => padL (ew i) W := ⟨_, rfl⟩
  rw [← hF, ← hP] at hS
  have HF : Hid (∀ i, F i = ef i % 4) := fun i => by rw [hF]
  have HP : Hid (∀ i, P i = padL (ew i) W) := fun i => by rw [hP]
  clear hF hP
  go_wp2
  go_loopw [16, 17, 58] (fun _ _ s wq => ∃ (i : Nat) (cK : Array Value) (R : Nat → Row), i ≤ le ∧ s = .int .i64 i ∧ L1 w wq W i F ect P cK R) (fun _ _ s _ => le - (intOf s).toNat)
  case atStart => exact ⟨0, _, _, by omega, rfl, hS⟩
  case round =>
    clear hS
    obtain ⟨i, cK, R, hi, rfl, hL⟩ := hrel
    by_cases hlt : i < le
    · obtain ⟨b, off, rfl, hb, hcell⟩ := hargs (by omega)
      obtain ⟨y0, y1, z0, z1, z2, hrd, hlen⟩ := hcell i hlt
      clear hcell
      rw [← hL.below.cell (p := ⟨b, off + i * 3, none⟩) hb] at z0
      rw [← hL.below.cell (p := ⟨b, off + i * 3 + 1, none⟩) hb] at z1
      rw [← hL.below.cell (p := ⟨b, off + i * 3 + 2, none⟩) hb] at z2
      have hfi : F i = ef i % 4 := HF.out i
      have hpi : P i = padL (ew i) W := HP.out i
      have hrd1 := reads_below hrd hL.below
      obtain ⟨sw, hsw⟩ : ∃ x, x = ew i := ⟨_, rfl⟩
      obtain ⟨sf, hsf⟩ : ∃ x, x = ef i := ⟨_, rfl⟩
      obtain ⟨sc, hsc⟩ : ∃ x, x = ect i := ⟨_, rfl⟩
      rw [← hsw] at z0 hpi hrd1 hlen
      rw [← hsf] at z1 hfi y0 y1
      rw [← hsc] at z2
      have HC : Hid (sc = ect i) := hsc
      generalize ea i = sa at *
      generalize ec i = sca at *
      clear hsw hsf hsc hrd
      have i1 : (0 : Int) ≤ (i : Int) := by omega
      have i2 : (i : Int) < (le : Int) := by omega
      go_upto_region 9 with fail
      have hI := Blk.new wr #[.slice sa sw.length sca, .int .u8 sf, .int .i8 sc] 34
      have k1 : Keeps (fun _ => False) wr (wr.alloc (.cells #[.slice sa sw.length sca, .int .u8 sf, .int .i8 sc] 34)) := Keeps.alloc _ _ _
      obtain ⟨w2, hw2⟩ : ∃ x, x = wr.alloc (.cells #[.slice sa sw.length sca, .int .u8 sf, .int .i8 sc] 34) := ⟨_, rfl⟩
      rw [← hw2] at hI k1 ⊢
      clear hw2 z0 z1 z2
      have hL2 := hL.free k1
      have hrd2 := reads_free hrd1 k1
      have x0 : w2.cell? ⟨wr.heap.size, 0, none⟩ = some (.slice sa sw.length sca) := hI.cell 0
      have x1 : w2.cell? ⟨wr.heap.size, 1, none⟩ = some (.int .u8 sf) := hI.cell 1
      have x2 : w2.cell? ⟨wr.heap.size, 2, none⟩ = some (.int .i8 sc) := hI.cell 2
      have WF4 : Hid (IntKind.u64.wrap (sf.tmod 4) = sf % 4) := by
        show _ = _
        rw [Int.tmod_eq_emod_of_nonneg y0]
        simp [IntKind.wrap, IntKind.bits, IntKind.signed]
        omega
      have WI : Hid (IntKind.u32.wrap (i : Int) = (i : Int)) := by
        show _ = _
        simp [IntKind.wrap, IntKind.bits, IntKind.signed]
        omega
      have hNB : ¬ Of w.heap.size R wr.heap.size := by
        rintro (e | ⟨j, hj, e⟩)
        · have := hL.k.blk.lt; omega
        · have := hL.k.lo hj e; omega
      have hrd3 : Reads w2.drew .u64 sa sw := hrd2
      have HK : Hid (K5 w2 w.heap.size (w.heap.size + 2) W cK R) := hL2.k
      have HFu : Hid (Full R W i F ect P) := hL2.full
      go_region_held3 (fun w' => w'.cell? ⟨wr.heap.size, 0, none⟩ = some (.slice sa sw.length sca) ∧ w'.cell? ⟨wr.heap.size, 1, none⟩ = some (.int .u8 sf) ∧ w'.cell? ⟨wr.heap.size, 2, none⟩ = some (.int .i8 sc)) (first | go_keep | exact ⟨kcell k4 x0 id, kcell k4 x1 id, kcell k4 x2 id⟩ | exact ⟨kcell hT.keeps (kcell k4 x0 id) hNB, kcell hT.keeps (kcell k4 x1 id) hNB, kcell hT.keeps (kcell k4 x2 id) hNB⟩)
        (first | (go_at_call 5; refine (pad_any w2.drew sa sca W sw hrd3 hlen (by omega)).mono ?_; rintro e w4 ⟨rfl, hb4, k4⟩) | (go_at_call 4; rw [WF4.out, WI.out]; refine (add_any w4 w.heap.size (w.heap.size + 2) W cK R (HK.out.free ((Keeps.drewN _ _ 1).trans k4)) _ W (padL sw W) (padL_len _ _) (reads_blk hb4) (sf % 4) i sc (HFu.out.lens hW3 (by omega)) (by omega) HFu.out.z).mono ?_; rintro e w5 ⟨rfl, R', hT, hA⟩))
      have hm5 : OwnM w5 (w.heap.size + 1) i (Dm F i) := (hL2.map.kept ((Keeps.drewN (fun _ => False) w2 1).trans k4) id).kept hT.keeps ((HK.out.free ((Keeps.drewN _ _ 1).trans k4)).notM (by omega) (by omega))
      obtain ⟨cK5, hK5⟩ := hT.st
      rw [← hfi, ← hpi] at hA
      have hA2 : AddR R R' W (P i) (F i) i (ect i) := by have e : sc = ect i := HC.out; rw [← e]; exact hA
      have l1 : (R' 1).l[i]? = some (.int .u64 (F i)) := by
        rw [hA.l1, HFu.out.l1, List.getElem?_append_right (by simp [ints])]
        simp [ints]
      have l4 : i < (R' 4).l.length := by rw [hA.l4, HFu.out.l4]; simp [ints]
      have ll : ∀ j, j < 5 → (R' j).l.length ≤ 100000 := by
        have hh := HFu.out.lens hW3 (show i ≤ 4096 by omega)
        have hq := HFu.out
        have hm : i * W ≤ i * 3 := Nat.mul_le_mul_left i hW3
        intro j hj
        rcases (show j = 0 ∨ j = 1 ∨ j = 2 ∨ j = 3 ∨ j = 4 by omega) with rfl | rfl | rfl | rfl | rfl
        · rw [hA.l0, hq.l0]; simp only [List.length_append, ints_len, flat_len P W hq.plen, hq.plen]; omega
        · rw [hA.l1, hq.l1]; simp [ints]; omega
        · rw [hA.l2, hq.l2]; simp [ints]; omega
        · rw [hA.l3, hq.l3]; simp [ints]; omega
        · rw [hA.l4, hq.l4]; simp [ints]; omega
      have fi0 : 0 ≤ F i := by omega
      have fi3 : F i ≤ 3 := by omega
      have HN : Hid (∀ w6 v, Linked w5 w6 w.heap.size (w.heap.size + 2) W (w.heap.size + 1) i R' (Dm F i) i (F i) v → v = lastF F (F i) i → ∃ cK' R'', L1 w w6 W (i + 1) F ect P cK' R'') := fun w6 v hl hv =>
        l1_step hL2 ((Keeps.drewN (fun _ => False) w2 1).trans k4) hT hA2 hl hv
      clear hA hA2 hL hL2 HK HFu hT k4 hb4 x0 x1 x2 hI k1 hrd1 hrd2 hrd3 hfi hpi
      go_wp2_with (go_at_call 6; refine (link_any w5 w.heap.size (w.heap.size + 2) W (w.heap.size + 1) i cK5 R' hK5 (Dm F i) hm5 (by omega) (by omega) (by omega) i (by omega) (F i) fi0 fi3 l1 l4 ll).mono ?_; rintro e w6 ⟨rfl, v, hLk, hv0, hv1⟩; have HX : Hid (∃ cK' R'', L1 w w6 W (i + 1) F ect P cK' R'') := HN.out w6 v hLk (link_val hv0 hv1); clear hLk hv0 hv1 HN hK5 hm5 l1 l4 ll)
      go_roundw
      case rel =>
        obtain ⟨cK', R'', hL'⟩ := HX.out
        exact ⟨i + 1, cK', R'', by omega, by go_num, hL'⟩
      case measure => simp [intOf]; omega
    · obtain rfl : i = le := by omega
      have hrk := reads_below hkey hL.below
      have HA : Hid (0 < i → ∃ b off, ae = some ⟨b, off, none⟩ ∧ ∀ j, j < i → 0 ≤ ef j ∧ ef j ≤ 255 ∧ wr.cell? ⟨b, off + j * 3, none⟩ = some (.slice (ea j) (ew j).length (ec j)) ∧ wr.cell? ⟨b, off + j * 3 + 1, none⟩ = some (.int .u8 (ef j)) ∧
          wr.cell? ⟨b, off + j * 3 + 2, none⟩ = some (.int .i8 (ect j)) ∧ Reads wr .u64 (ea j) (ew j) ∧ (ew j).length ≤ 9223372036854775807) := fun hp => by
        obtain ⟨b, off, rfl, hb, hc⟩ := hargs hp
        refine ⟨b, off, rfl, fun j hj => ?_⟩
        obtain ⟨y0, y1, z0, z1, z2, hr, hl⟩ := hc j hj
        rw [← hL.below.cell (p := ⟨b, off + j * 3, none⟩) hb] at z0
        rw [← hL.below.cell (p := ⟨b, off + j * 3 + 1, none⟩) hb] at z1
        rw [← hL.below.cell (p := ⟨b, off + j * 3 + 2, none⟩) hb] at z2
        exact ⟨y0, y1, z0, z1, z2, reads_below hr hL.below, hl⟩
      clear hargs hkey
      go_upto_region 16 with fail
      go_cut [90] from 84 to 89 (fun s wx => ∃ b, s = .bool b ∧ Hid (b = true → 0 < i) ∧ wx = wr)
      case first =>
        by_cases q1 : pick % 2 = 1
        · by_cases q2 : 0 < i
          · have q3 : decide ((0 : Int) < (i : Int)) = true := decide_eq_true (by omega)
            have q4 : (0 : Int) < (i : Int) := by omega
            go_wp2
            go_meet
            exact ⟨true, rfl, fun _ => q2, rfl⟩
          · have q3 : decide ((0 : Int) < (i : Int)) = false := decide_eq_false (by omega)
            have q4 : ¬ (0 : Int) < (i : Int) := by omega
            clear q2
            go_wp2
            go_meet
            exact ⟨_, rfl, (fun e => by simpa using e), rfl⟩
        · have q3 : (pick % 2 == 1) = false := beq_eq_false_iff_ne.2 q1
          go_wp2
          go_meet
          exact ⟨false, rfl, (fun e => by cases e), rfl⟩
      case rest =>
        obtain ⟨pb, rfl, hpb, hwx⟩ := hcut
        rw [hwx]
        clear hwx
        go_upto_if 90 with fail
        go_cut [19, 20, 21, 22] from 91 to 125 (fun s1 s2 s3 _ wx => ∃ ao cap pr ph pc, s1 = .slice ao (List.length pr) cap ∧ s2 = .int .u64 ph ∧ s3 = .int .i8 pc ∧ Probe wr wx W ao cap pr ph)
        case first =>
          cases pb
          · by_cases q1 : W ≤ kl.length
            · have q2 : decide ((W : Int) ≤ (kl.length : Int)) = true := decide_eq_true (by omega)
              have q3 : (W : Int) ≤ (kl.length : Int) := by omega
              go_wp2
              go_meet
              exact ⟨ak, ck, kl, h % 5, count, rfl, by congr 1, rfl, hrk, q1, by omega, hkn, by omega, by omega, Keeps.refl _ _⟩
            · have q2 : decide ((W : Int) ≤ (kl.length : Int)) = false := decide_eq_false (by omega)
              have q3 : ¬ (W : Int) ≤ (kl.length : Int) := by omega
              go_wp2_with (go_at_call 5; refine (pad_any wr ak ck W kl hrk (by omega) (by omega)).mono ?_; rintro e w4 ⟨rfl, hb4, k4⟩)
              go_meet
              exact ⟨some ⟨wr.heap.size, 0, none⟩, W, padL kl W, h % 5, count, by rw [padL_len], by congr 1, rfl, reads_blk hb4, by rw [padL_len]; exact Nat.le_refl _, by rw [padL_len]; omega, (fun e => by cases e), by omega, by omega, k4⟩
          · have q0 : 0 < i := by have := hpb.out; simpa using this
            obtain ⟨b, off, hae, hc⟩ := HA.out q0
            obtain ⟨j, hm, hj⟩ : ∃ j : Nat, (pick / 2) % (i : Int) = (j : Int) ∧ j < i := ⟨((pick / 2) % (i : Int)).toNat, by have := Int.emod_nonneg (pick / 2) (show (i : Int) ≠ 0 by omega); omega, by have := Int.emod_lt_of_pos (pick / 2) (show (0 : Int) < (i : Int) by omega); have := Int.emod_nonneg (pick / 2) (show (i : Int) ≠ 0 by omega); omega⟩
            obtain ⟨y0, y1, z0, z1, z2, hr, hl⟩ := hc j hj
            subst hae
            have HM : Hid ((pick / 2) % (i : Int) = (j : Int)) := hm
            generalize ew j = sw at *
            generalize ef j = sf at *
            generalize ect j = sc at *
            generalize ea j = sa at *
            generalize ec j = sca at *
            have j1 : (0 : Int) ≤ (j : Int) := by omega
            have j2 : (j : Int) < (i : Int) := by omega
            have j3 : (i : Int) ≠ 0 := by omega
            have j4 : ¬ (i : Int) = 0 := by omega
            have j5 : ¬ i = 0 := by omega
            clear hm hc hpb HA
            go_upto_region 18 with (rw [HM.out])
            have e : True := trivial
            go_wp2_with (first | (rw [HM.out]) | (go_at_call 5; refine (pad_any wr sa sca W sw hr hl (by omega)).mono ?_; rintro e w4 ⟨rfl, hb4, k4⟩; have z1' := kcell k4 z1 id; have z2' := kcell k4 z2 id))
            go_meet
            exact ⟨some ⟨wr.heap.size, 0, none⟩, W, padL sw W, sf % 4, sc, by rw [padL_len], by congr 1, rfl, reads_blk hb4, by rw [padL_len]; exact Nat.le_refl _, by rw [padL_len]; omega, (fun e => by cases e), by omega, by omega, k4⟩
        case rest =>
          obtain ⟨ap, cp, pr, ph, pc, rfl, rfl, rfl, hPr⟩ := hcut
          have hL3 := hL.free hPr.kept
          have hkc := reads_free hrk hPr.kept
          have HA3 : Hid (0 < i → ∃ b off, ae = some ⟨b, off, none⟩ ∧ ∀ j, j < i → 0 ≤ ef j ∧ ef j ≤ 255 ∧ wc.cell? ⟨b, off + j * 3, none⟩ = some (.slice (ea j) (ew j).length (ec j)) ∧ wc.cell? ⟨b, off + j * 3 + 1, none⟩ = some (.int .u8 (ef j)) ∧
              wc.cell? ⟨b, off + j * 3 + 2, none⟩ = some (.int .i8 (ect j)) ∧ Reads wc .u64 (ea j) (ew j) ∧ (ew j).length ≤ 9223372036854775807) := fun hp => by
            obtain ⟨b, off, e, hc⟩ := HA.out hp
            refine ⟨b, off, e, fun j hj => ?_⟩
            obtain ⟨y0, y1, z0, z1, z2, hr, hl⟩ := hc j hj
            exact ⟨y0, y1, kcell hPr.kept z0 id, kcell hPr.kept z1 id, kcell hPr.kept z2 id, reads_free hr hPr.kept, hl⟩
          clear hL hrk HA hpb
          have ple := hPr.le
          have plen := hPr.len
          have ph0 := hPr.h0
          have ph4 := hPr.h4
          have hBn := bun_of hL3.k hL3.full
          have lens := hL3.full.lens hW3 (by omega)
          have m0 : (flat P i).length ≤ 100000 := by have := lens 0 (by omega); rwa [hL3.full.l0, ints_len] at this
          have m1 : ((List.range i).map F).length ≤ 100000 := by simp; omega
          have m2 : ((List.range i).map (fun (j : Nat) => (j : Int))).length ≤ 100000 := by simp; omega
          have m3 : ((List.range i).map ect).length ≤ 100000 := by simp; omega
          have m4 : ((List.range i).map (fun j => lastF F (F j) j)).length ≤ 100000 := by simp; omega
          generalize flat P i = Z0 at hBn m0
          generalize (List.range i).map F = Z1 at hBn m1
          generalize ((List.range i).map (fun (j : Nat) => (j : Int))) = Z2 at hBn m2
          generalize (List.range i).map ect = Z3 at hBn m3
          generalize (List.range i).map (fun j => lastF F (F j) j) = Z4 at hBn m4
          generalize (fun i => (R i).ao) = ra at hBn
          generalize (fun i => (R i).cap) = rc at hBn
          have HL3 : Hid (L1 w wc W i F ect P cK R) := hL3
          have hprd := hPr.rd
          have hpn := hPr.nil
          clear hL3 hPr lens
          go_upto_region 27 with (go_at_call 7; refine (clone_u64 wc ak ck kl hkc hkn (by omega)).mono ?_; rintro e w11 ⟨v1, rfl, own11, k11⟩; obtain ⟨a11, c11, rfl⟩ := own_shape own11)
          have kk11 := k11
          go_upto_region 28 with (go_at_call 7; refine (clone_u64 w11 ap cp pr (reads_free hprd kk11) hpn (by omega)).mono ?_; rintro e w12 ⟨v1, rfl, own12, k12⟩; obtain ⟨a12, c12, rfl⟩ := own_shape own12)
          have kk12 := kk11.trans k12
          have q12 := own_nil own12
          have o11 := reads_free (reads_own own11) k12
          have o12 := reads_own own12
          have b13 := hBn.free kk12
          have e13 := b13.d0
          have s13 := b13.r0
          have t13 := b13.z0
          clear b13
          go_upto_region 29 with (go_at_call 7; refine (clone_u64 w12 (ra 0) (rc 0) Z0 s13 t13 (by omega)).mono ?_; rintro e w13 ⟨v1, rfl, own13, k13⟩; obtain ⟨a13, c13, rfl⟩ := own_shape own13)
          have kk13 := kk12.trans k13
          have o13 := reads_own own13
          clear e13 s13 t13 own13
          have b14 := hBn.free kk13
          have e14 := b14.d1
          have s14 := b14.r1
          have t14 := b14.z1
          clear b14
          go_upto_region 30 with (go_at_call 7; refine (clone_u64 w13 (ra 1) (rc 1) Z1 s14 t14 (by omega)).mono ?_; rintro e w14 ⟨v1, rfl, own14, k14⟩; obtain ⟨a14, c14, rfl⟩ := own_shape own14)
          have kk14 := kk13.trans k14
          have o14 := reads_own own14
          clear e14 s14 t14 own14
          have b15 := hBn.free kk14
          have e15 := b15.d2
          have s15 := b15.r2
          have t15 := b15.z2
          clear b15
          go_upto_region 31 with (go_at_call 8; refine (clone_u32 w14 (ra 2) (rc 2) Z2 s15 t15 (by omega)).mono ?_; rintro e w15 ⟨v1, rfl, own15, k15⟩; obtain ⟨a15, c15, rfl⟩ := own_shape own15)
          have kk15 := kk14.trans k15
          have o15 := reads_own own15
          clear e15 s15 t15 own15
          have b16 := hBn.free kk15
          have e16 := b16.d3
          have s16 := b16.r3
          have t16 := b16.z3
          clear b16
          go_upto_region 32 with (go_at_call 9; refine (clone_i8 w15 (ra 3) (rc 3) Z3 s16 t16 (by omega)).mono ?_; rintro e w16 ⟨v1, rfl, own16, k16⟩; obtain ⟨a16, c16, rfl⟩ := own_shape own16)
          have kk16 := kk15.trans k16
          have o16 := reads_own own16
          clear e16 s16 t16 own16
          have b17 := hBn.free kk16
          have e17 := b17.d4
          have s17 := b17.r4
          have t17 := b17.z4
          clear b17
          go_upto_region 33 with (go_at_call 10; refine (clone_i32 w16 (ra 4) (rc 4) Z4 s17 t17 (by omega)).mono ?_; rintro e w17 ⟨v1, rfl, own17, k17⟩; obtain ⟨a17, c17, rfl⟩ := own_shape own17)
          have kk17 := kk16.trans k17
          have o17 := reads_own own17
          clear e17 s17 t17 own17
          have o16' := reads_free o16 k17
          have o15' := reads_free o15 (k16.trans k17)
          have o14' := reads_free o14 (k15.trans (k16.trans k17))
          have o13' := reads_free o13 (k14.trans (k15.trans (k16.trans k17)))
          have o12' := reads_free o12 (k13.trans (k14.trans (k15.trans (k16.trans k17))))
          have o11' := reads_free o11 (k13.trans (k14.trans (k15.trans (k16.trans k17))))
          have hB17 := hBn.free kk17
          have hkey17 := reads_free hkc kk17
          have hprd17 := reads_free hprd kk17
          have HL17 : Hid (L1 w w17 W i F ect P cK R) := HL3.out.free kk17
          have HA17 : Hid (∀ u, Keeps (fun _ => False) w17 u → ∀ j, j < i → ∃ b off, ae = some ⟨b, off, none⟩ ∧ 0 ≤ ef j ∧ ef j ≤ 255 ∧ u.cell? ⟨b, off + j * 3, none⟩ = some (.slice (ea j) (ew j).length (ec j)) ∧ u.cell? ⟨b, off + j * 3 + 1, none⟩ = some (.int .u8 (ef j)) ∧
              u.cell? ⟨b, off + j * 3 + 2, none⟩ = some (.int .i8 (ect j)) ∧ Reads u .u64 (ea j) (ew j) ∧ (ew j).length ≤ 9223372036854775807) := fun u ku j hj => by
            obtain ⟨b, off, e, hc⟩ := HA3.out (by omega)
            obtain ⟨y0, y1, z0, z1, z2, hr, hl⟩ := hc j hj
            have kz := kk17.trans ku
            exact ⟨b, off, e, y0, y1, kcell kz z0 id, kcell kz z1 id, kcell kz z2 id, reads_free hr kz, hl⟩
          have hpre : Hid (Reads w17 .u64 a12 (pr.take W)) := fun hp => by
            have hp' : 0 < pr.length := by simp at hp; omega
            obtain ⟨b, off, e, hc⟩ := o12' hp'
            refine ⟨b, off, e, fun j x hx => hc j x ?_⟩
            have hj : j < W := by
              have := (List.getElem?_eq_some_iff.1 hx).1
              simp at this
              omega
            rwa [List.getElem?_take_of_lt hj] at hx
          have cap12 : pr.length ≤ c12 := own_capE own12
          clear HA3 HL3 hBn o11 o12 o13 o14 o15 o16 k11 k12 k13 k14 k15 k16 k17 kk11 kk12 kk13 kk14 kk15 kk16 kk17 own11 own12 hkc hprd
          go_wp2
          go_loopw [30, 31] (fun s1 s2 wq => ∃ j : Nat, j ≤ i ∧ s1 = .int .i64 (-1) ∧ s2 = .int .i64 ((j : Int) - 1) ∧ findI F ect P ph pc (pr.take W) i = findI F ect P ph pc (pr.take W) j ∧ Keeps (fun _ => False) w17 wq) (fun _ s2 _ => (intOf s2 + 1).toNat)
          case atStart => exact ⟨i, by omega, rfl, by go_num, rfl, Keeps.refl _ _⟩
          case round =>
            obtain ⟨j, hj, rfl, rfl, hfj, hkq⟩ := hrel
            by_cases hj0 : j = 0
            · subst hj0
              have HE : Hid (findI F ect P ph pc (pr.take W) i = -1) := hfj
              go_upto_region 39 with fail
              obtain ⟨wE, hwE⟩ : ∃ x, x = wr := ⟨_, rfl⟩
              rw [← hwE] at hkq ⊢
              have hkE := hkq
              clear hwE hkq hfj
              obtain ⟨G, hG⟩ : ∃ g, g = wE.heap.size := ⟨_, rfl⟩
              have hH := h3_start hkE
              rw [← hG] at hH
              go_upto_region 40 with fail
              rw [← hG]
              obtain ⟨wG, hwG⟩ : ∃ x, x = wE.alloc (.cells #[.int .i32 0, .int .i32 0, .int .i32 0, .int .i32 0] 44) := ⟨_, rfl⟩
              rw [← hwG] at hH ⊢
              clear hwG hG hkE
              go_wp2
              go_loopw [33] (fun s wq => ∃ f : Nat, f ≤ 4 ∧ s = .int .i64 f ∧ H3 w17 wq G f) (fun s _ => 4 - (intOf s).toNat)
              case atStart => exact ⟨0, by omega, rfl, hH⟩
              case round =>
                clear hH
                obtain ⟨f, hf, rfl, hH⟩ := hrel
                by_cases hf4 : f < 4
                · obtain ⟨cH, bH, vH⟩ := hH.row
                  have v0 := (bH.cell f).trans (vH f hf4)
                  have vf := bH.free f
                  have f1 : (0 : Int) ≤ (f : Int) := by omega
                  have f2 : (f : Int) < 4 := by omega
                  have HS : Hid _ := h3_step hH hf4
                  generalize (if f < f then (-1 : Int) else 0) = zz at v0
                  clear hH bH vH
                  go_wp2
                  go_roundw
                  case rel => exact ⟨f + 1, by omega, by go_num, HS.out⟩
                  case measure => simp [intOf]; omega
                · obtain rfl : f = 4 := by omega
                  have hH4 := h4_start F hH
                  clear hH
                  go_upto_region 45 with fail
                  go_wp2
                  go_loopw [34, 35, 36, 201] (fun s1 _ _ s4 wq => ∃ j : Nat, j ≤ i ∧ s1 = .int .i64 (dist F j) ∧ s4 = .int .i64 j ∧ H4 w17 wq G F j) (fun _ _ _ s4 _ => i - (intOf s4).toNat)
                  case atStart => exact ⟨0, by omega, rfl, rfl, hH4⟩
                  case round =>
                    clear hH4
                    obtain ⟨j, hj, rfl, rfl, hH4⟩ := hrel
                    have dl := dist_le F j
                    by_cases hji : j < i
                    · obtain ⟨b, off, hae, y0, y1, z0, z1, z2, _, _⟩ := HA17.out wr hH4.kept j hji
                      cases hae
                      have hfj : F j = ef j % 4 := HF.out j
                      obtain ⟨t, ht, ht4⟩ : ∃ t : Nat, ef j % 4 = (t : Int) ∧ t < 4 := ⟨(ef j % 4).toNat, by omega, by omega⟩
                      have hFt : F j = (t : Int) := by rw [hfj]; exact ht
                      have j1 : (0 : Int) ≤ (j : Int) := by omega
                      have j2 : (j : Int) < (i : Int) := by omega
                      have t1 : (0 : Int) ≤ (t : Int) := by omega
                      have t2 : (t : Int) < 4 := by omega
                      go_upto_region 48 with fail
                      have k1 : Keeps (fun _ => False) wr (wr.alloc (.cells #[.slice (ea j) (ew j).length (ec j), .int .u8 (ef j), .int .i8 (ect j)] 34)) := Keeps.alloc _ _ _
                      have bx := Blk.new wr #[.slice (ea j) (ew j).length (ec j), .int .u8 (ef j), .int .i8 (ect j)] 34
                      obtain ⟨wB, hwB⟩ : ∃ x, x = wr.alloc (.cells #[.slice (ea j) (ew j).length (ec j), .int .u8 (ef j), .int .i8 (ect j)] 34) := ⟨_, rfl⟩
                      rw [← hwB] at k1 bx ⊢
                      have hHB := hH4.free k1
                      have x1 : wB.cell? ⟨wr.heap.size, 1, none⟩ = some (.int .u8 (ef j)) := bx.cell 1
                      obtain ⟨u0, uf⟩ := hHB.cell ht4
                      have HS : Hid (H4 w17 (wB.setCell ⟨G, t, none⟩ (.int .i32 j)) G F (j + 1)) := h4_step hHB ht4 hFt
                      have HD : Hid (dist F (j + 1) = dist F j + (if lastF F t j < 0 then 1 else 0)) := by
                        have := dist_succ F j
                        rw [hFt] at this
                        exact this
                      have lz1 := lastF_ge F t j
                      have lz2 := lastF_lt F t j
                      obtain ⟨lz, hlz⟩ : ∃ x, x = lastF F t j := ⟨_, rfl⟩
                      rw [← hlz] at u0 HD lz1 lz2
                      obtain ⟨dj, hdj⟩ : ∃ x, x = dist F j := ⟨_, rfl⟩
                      rw [← hdj] at dl HD ⊢
                      clear hwB k1 bx hHB hH4 hfj hFt z0 z1 z2 hlz hdj
                      by_cases hn : lz < 0
                      · have n1 : decide (lz < 0) = true := decide_eq_true hn
                        rw [if_pos hn] at HD
                        go_wp2
                        go_roundw
                        case rel => exact ⟨j + 1, by omega, by rw [HD.out]; go_num, by go_num, HS.out⟩
                        case measure => simp [intOf]; omega
                      · have n1 : decide (lz < 0) = false := decide_eq_false hn
                        rw [if_neg hn] at HD
                        go_wp2
                        go_roundw
                        case rel => exact ⟨j + 1, by omega, by rw [HD.out]; rfl, by go_num, HS.out⟩
                        case measure => simp [intOf]; omega
                    · obtain rfl : j = i := by omega
                      have hLf := HL17.out.free hH4.kept
                      have hm5 := hLf.map
                      go_upto_region 53 with (go_at_call 12; refine (find_any wr w.heap.size (w.heap.size + 2) W (w.heap.size + 1) j j cK R hLf.k F ect P hLf.full hLf.map (by omega) hW3 ap cp pr (reads_free hprd17 hH4.kept) ple ph pc ph0 ph4).mono ?_; rintro e w20 ⟨rfl, mf, hw20⟩; replace hw20 : Hid (w20 = wr.drewN mf) := hw20; rw [HE.out])
                      have k20 : Keeps (fun _ => False) wr w20 := by rw [hw20.out]; exact Keeps.drewN _ _ _
                      have kF := hH4.kept.trans k20
                      have hH5 := hH4.free k20
                      have hBF := hB17.free kF
                      have hLF := hLf.free k20
                      have dw := hBF.w
                      have dd0 := hBF.d0
                      have dd1 := hBF.d1
                      have dd2 := hBF.d2
                      have dd3 := hBF.d3
                      have dd4 := hBF.d4
                      have HE0 : Hid (Calls Yba.prog 11 #[.slice (ra 0) Z0.length (rc 0), .slice a13 Z0.length c13] w20 fun e w' => e = .returned (.bool true) ∧ ∃ m, w' = w20.drewN m) := same_u64 w20 (ra 0) a13 (rc 0) c13 Z0 hBF.r0 (reads_free o13' kF) (by omega)
                      have HE1 : Hid (∀ k, Calls Yba.prog 11 #[.slice (ra 1) Z1.length (rc 1), .slice a14 Z1.length c14] (w20.drewN k) fun e w' => e = .returned (.bool true) ∧ ∃ m, w' = (w20.drewN k).drewN m) := fun k => same_u64 (w20.drewN k) (ra 1) a14 (rc 1) c14 Z1 (Reads.drewN hBF.r1 k) (Reads.drewN (reads_free o14' kF) k) (by omega)
                      have HE2 : Hid (∀ k, Calls Yba.prog 13 #[.slice (ra 2) Z2.length (rc 2), .slice a15 Z2.length c15] (w20.drewN k) fun e w' => e = .returned (.bool true) ∧ ∃ m, w' = (w20.drewN k).drewN m) := fun k => same_u32 (w20.drewN k) (ra 2) a15 (rc 2) c15 Z2 (Reads.drewN hBF.r2 k) (Reads.drewN (reads_free o15' kF) k) (by omega)
                      have HE3 : Hid (∀ k, Calls Yba.prog 14 #[.slice (ra 3) Z3.length (rc 3), .slice a16 Z3.length c16] (w20.drewN k) fun e w' => e = .returned (.bool true) ∧ ∃ m, w' = (w20.drewN k).drewN m) := fun k => same_i8 (w20.drewN k) (ra 3) a16 (rc 3) c16 Z3 (Reads.drewN hBF.r3 k) (Reads.drewN (reads_free o16' kF) k) (by omega)
                      have HE4 : Hid (∀ k, Calls Yba.prog 15 #[.slice (ra 4) Z4.length (rc 4), .slice a17 Z4.length c17] (w20.drewN k) fun e w' => e = .returned (.bool true) ∧ ∃ m, w' = (w20.drewN k).drewN m) := fun k => same_i32 (w20.drewN k) (ra 4) a17 (rc 4) c17 Z4 (Reads.drewN hBF.r4 k) (Reads.drewN (reads_free o17 kF) k) (by omega)
                      have HE5 : Hid (∀ k, Calls Yba.prog 11 #[.slice ak kl.length ck, .slice a11 kl.length c11] (w20.drewN k) fun e w' => e = .returned (.bool true) ∧ ∃ m, w' = (w20.drewN k).drewN m) := fun k => same_u64 (w20.drewN k) ak a11 ck c11 kl (Reads.drewN (reads_free hkey17 kF) k) (Reads.drewN (reads_free o11' kF) k) (by omega)
                      have HE6 : Hid (∀ k, Calls Yba.prog 11 #[.slice ap pr.length cp, .slice a12 pr.length c12] (w20.drewN k) fun e w' => e = .returned (.bool true) ∧ ∃ m, w' = (w20.drewN k).drewN m) := fun k => same_u64 (w20.drewN k) ap a12 cp c12 pr (Reads.drewN (reads_free hprd17 kF) k) (Reads.drewN (reads_free o12' kF) k) (by omega)
                      have hm6 : ∀ k, (w20.drewN k).ownsMap Yba.prog 24 (plainElem Yba.prog 21) (w.heap.size + 1) j (Dm F j) := fun k => hLF.map.kept (Keeps.drewN (fun _ => False) w20 k) id
                      have HM6 : Hid (∀ k, (w20.drewN k).ownsMap Yba.prog 24 (plainElem Yba.prog 21) (w.heap.size + 1) j (Dm F j)) := hm6
                      have hsz := Dm_size F j
                      have HW : Hid (∀ k, Below w.heap.size w (w20.drewN k)) := fun k => hLF.below.trans (Keeps.below (Keeps.drewN _ w20 k) hLF.below.size)
                      have dl' := dist_le F j
                      clear hm6 hBF hLF hLf hH4 hm5 HL17 hB17 HE
                      go_upto_region 57 with (first | (go_at_call 13; with_reducible show Calls Yba.prog 13 #[.slice (ra 2) _ _, _] _ _; refine Calls.mono (HE2.out _) ?_; rintro e u ⟨rfl, mm, rfl⟩) | (go_at_call 14; with_reducible show Calls Yba.prog 14 #[.slice (ra 3) _ _, _] _ _; refine Calls.mono (HE3.out _) ?_; rintro e u ⟨rfl, mm, rfl⟩) | (go_at_call 15; with_reducible show Calls Yba.prog 15 #[.slice (ra 4) _ _, _] _ _; refine Calls.mono (HE4.out _) ?_; rintro e u ⟨rfl, mm, rfl⟩) | (go_at_call 11; with_reducible show Calls Yba.prog 11 #[.slice (ra 0) _ _, _] _ _; refine Calls.mono HE0.out ?_; rintro e u ⟨rfl, mm, rfl⟩) | (go_at_call 11; with_reducible show Calls Yba.prog 11 #[.slice (ra 1) _ _, _] _ _; refine Calls.mono (HE1.out _) ?_; rintro e u ⟨rfl, mm, rfl⟩))
                      go_upto_region 59 with (first | (go_at_call 11; with_reducible show Calls Yba.prog 11 #[.slice ak _ _, _] _ _; refine Calls.mono (HE5.out _) ?_; rintro e u ⟨rfl, mm, rfl⟩) | (go_at_call 11; with_reducible show Calls Yba.prog 11 #[.slice ap _ _, _] _ _; refine Calls.mono (HE6.out _) ?_; rintro e u ⟨rfl, mm, rfl⟩))
                      go_upto_region 61 with (at_len; refine wpList_len_own _ rfl _ 32 rfl 24 21 Yba.underlying32 _ (w.heap.size + 1) j (Dm F j) rfl (HM6.out _) ?_; rw [hsz])
                      clear HE0 HE1 HE2 HE3 HE4 HE5 HE6 hsz dw dd0 dd1 dd2 dd3 dd4
                      go_wp2
                      go_loopw [38, 39, 40] (fun s _ _ wq => ∃ f k : Nat, f ≤ 4 ∧ s = .int .i64 f ∧ wq = w20.drewN k) (fun s _ _ _ => 4 - (intOf s).toNat)
                      case atStart => exact ⟨0, _, by omega, rfl, rfl⟩
                      case round =>
                        obtain ⟨f, k, hf, rfl, rfl⟩ := hrel
                        by_cases hf4 : f < 4
                        · have f1 : (0 : Int) ≤ (f : Int) := by omega
                          have f2 : (f : Int) < 4 := by omega
                          obtain ⟨u0, uf⟩ := hH5.cell hf4
                          have hhas := Dm_has F f j
                          have wff : (Lit.int .u64 (f : Int)).wf = true := by simp [Lit.wf, IntKind.min, IntKind.max, IntKind.signed, IntKind.bits]; omega
                          have own := HM6.out k
                          have lg := lastF_ge F f j
                          have lg2 := lastF_lt F f j
                          by_cases hp : 0 ≤ lastF F f j
                          · have hat := Dm_at F f (.lit (.int .i32 0)) j hp
                            rw [decide_eq_true hp] at hhas
                            have HAT : Hid ((Dm F j).atKey (.int .u64 f) (.lit (.int .i32 0)) = .lit (.int .i32 (lastF F f j))) := hat
                            clear hat
                            go_upto_region 65 with (at_lookup; refine wpList_lookup_own_ok_int _ rfl _ _ 32 rfl 24 21 .i32 law24 Yba.underlying32 Yba.underlying21 (zero21 _) (w.heap.size + 1) j (Dm F j) rfl own _ _ rfl (keyOf_int_mk Yba.underlying24 wff) ?_; intro c hatc hwc)
                            have hc : c = lastF F f j := by simpa using hatc.symm.trans HAT.out
                            subst hc
                            clear hatc HAT hwc hhas own
                            generalize lastF F f j = lz at *
                            have n1 : decide (lz < 0) = false := decide_eq_false (by omega)
                            have n2 : ¬ lz < 0 := by omega
                            go_wp2
                            go_roundw
                            case rel => exact ⟨f + 1, _, by omega, by go_num, rfl⟩
                            case measure => simp [intOf]; omega
                          · rw [decide_eq_false hp] at hhas
                            go_upto_region 65 with (at_lookup; refine wpList_lookup_own_ok_int _ rfl _ _ 32 rfl 24 21 .i32 law24 Yba.underlying32 Yba.underlying21 (zero21 _) (w.heap.size + 1) j (Dm F j) rfl own _ _ rfl (keyOf_int_mk Yba.underlying24 wff) ?_; intro c hatc hwc)
                            clear hatc hwc hhas own
                            generalize lastF F f j = lz at *
                            have n1 : decide (lz < 0) = true := decide_eq_true (by omega)
                            have n2 : lz < 0 := by omega
                            go_wp2
                            go_roundw
                            case rel => exact ⟨f + 1, _, by omega, by go_num, rfl⟩
                            case measure => simp [intOf]; omega
                        · go_wp2
                          go_ret
                          exact ⟨rfl, HW.out _⟩
            · obtain ⟨m, rfl⟩ : ∃ m, j = m + 1 := ⟨j - 1, by omega⟩
              obtain ⟨b, off, rfl, y0, y1, z0, z1, z2, hr, hl⟩ := HA17.out wr hkq m (by omega)
              have hfm : F m = ef m % 4 := HF.out m
              have hpm : P m = padL (ew m) W := HP.out m
              have j1 : (0 : Int) ≤ (m : Int) := by omega
              have j2 : (m : Int) < (i : Int) := by omega
              have WF4 : Hid (IntKind.u64.wrap ((ef m).tmod 4) = F m) := by
                show _ = _
                rw [Int.tmod_eq_emod_of_nonneg y0, hfm]
                simp [IntKind.wrap, IntKind.bits, IntKind.signed]
                omega
              have HMS : Hid (¬ (F m = ph ∧ ect m = pc ∧ P m = pr.take W) → findI F ect P ph pc (pr.take W) i = findI F ect P ph pc (pr.take W) m) := fun hn => by
                rw [hfj]
                simp only [findI]
                rw [if_neg hn]
              have HHT : Hid ((F m = ph ∧ ect m = pc ∧ P m = pr.take W) → findI F ect P ph pc (pr.take W) i = (m : Int)) := fun hn => by
                rw [hfj]
                simp only [findI]
                rw [if_pos hn]
              by_cases c1 : ef m % 4 = ph
              · by_cases c2 : ect m = pc
                · have hr3 : Reads wr.drew .u64 (ea m) (ew m) := hr
                  have g1 : (ef m % 4 == ph) = true := beq_iff_eq.2 c1
                  have g2 : (ect m == pc) = true := beq_iff_eq.2 c2
                  have q4 : IntKind.u64.wrap ((ef m).tmod 4) = ph := by have e := WF4.out; rw [hfm, c1] at e; exact e
                  have j3 : (W : Int) ≤ (c12 : Int) := by omega
                  have j4 : (0 : Int) ≤ (W : Int) := by omega
                  by_cases c3 : padL (ew m) W = pr.take W
                  · have hdec : decide (padL (ew m) W = pr.take W) = true := decide_eq_true c3
                    have HE : Hid (findI F ect P ph pc (pr.take W) i = (m : Int)) := HHT.out ⟨by rw [hfm]; exact c1, c2, by rw [hpm]; exact c3⟩
                    clear hfj hfm hpm c3 HMS HHT c1 c2
                    go_upto_region 37 with fail
                    go_region_held3 (fun w' => w'.cell? ⟨b, off + m * 3, none⟩ = some (.slice (ea m) (ew m).length (ec m)) ∧ w'.cell? ⟨b, off + m * 3 + 1, none⟩ = some (.int .u8 (ef m)) ∧ w'.cell? ⟨b, off + m * 3 + 2, none⟩ = some (.int .i8 (ect m))) (first | go_keep | exact ⟨kcell k4 z0 id, kcell k4 z1 id, kcell k4 z2 id⟩)
                      (first | (go_at_call 5; refine (pad_any wr.drew (ea m) (ec m) W (ew m) hr3 hl (by omega)).mono ?_; rintro e w4 ⟨rfl, hb4, k4⟩) | (go_at_call 11; refine (equal_W w4 _ _ _ _ W W (padL (ew m) W) (pr.take W) (padL_len _ _) (by simp; omega) (reads_blk hb4) (reads_free (reads_free hpre.out hkq) ((Keeps.drewN _ _ 1).trans k4)) (by omega)).mono ?_; rintro e w5 ⟨rfl, m5, rfl⟩; rw [hdec]))
                    go_upto_region 39 with fail
                    obtain ⟨wE, hwE⟩ : ∃ x, x = w4.drewN m5 := ⟨_, rfl⟩
                    have hkE : Keeps (fun _ => False) w17 wE := by rw [hwE]; exact (hkq.trans ((Keeps.drewN _ _ 1).trans k4)).trans (Keeps.drewN _ _ _)
                    rw [← hwE]
                    clear hwE hkq k4 hb4 z0 z1 z2 hr hr3 q4 g1 g2 j3 j4 hdec
                    obtain ⟨G, hG⟩ : ∃ g, g = wE.heap.size := ⟨_, rfl⟩
                    have hH := h3_start hkE
                    rw [← hG] at hH
                    go_upto_region 40 with fail
                    rw [← hG]
                    obtain ⟨wG, hwG⟩ : ∃ x, x = wE.alloc (.cells #[.int .i32 0, .int .i32 0, .int .i32 0, .int .i32 0] 44) := ⟨_, rfl⟩
                    rw [← hwG] at hH ⊢
                    clear hwG hG hkE
                    go_wp2
                    go_loopw [33] (fun s wq => ∃ f : Nat, f ≤ 4 ∧ s = .int .i64 f ∧ H3 w17 wq G f) (fun s _ => 4 - (intOf s).toNat)
                    case atStart => exact ⟨0, by omega, rfl, hH⟩
                    case round =>
                      clear hH
                      obtain ⟨f, hf, rfl, hH⟩ := hrel
                      by_cases hf4 : f < 4
                      · obtain ⟨cH, bH, vH⟩ := hH.row
                        have v0 := (bH.cell f).trans (vH f hf4)
                        have vf := bH.free f
                        have f1 : (0 : Int) ≤ (f : Int) := by omega
                        have f2 : (f : Int) < 4 := by omega
                        have HS : Hid _ := h3_step hH hf4
                        generalize (if f < f then (-1 : Int) else 0) = zz at v0
                        clear hH bH vH
                        go_wp2
                        go_roundw
                        case rel => exact ⟨f + 1, by omega, by go_num, HS.out⟩
                        case measure => simp [intOf]; omega
                      · obtain rfl : f = 4 := by omega
                        have hH4 := h4_start F hH
                        clear hH
                        go_upto_region 45 with fail
                        go_wp2
                        go_loopw [34, 35, 36, 201] (fun s1 _ _ s4 wq => ∃ j : Nat, j ≤ i ∧ s1 = .int .i64 (dist F j) ∧ s4 = .int .i64 j ∧ H4 w17 wq G F j) (fun _ _ _ s4 _ => i - (intOf s4).toNat)
                        case atStart => exact ⟨0, by omega, rfl, rfl, hH4⟩
                        case round =>
                          clear hH4
                          obtain ⟨j, hj, rfl, rfl, hH4⟩ := hrel
                          have dl := dist_le F j
                          by_cases hji : j < i
                          · obtain ⟨b, off, hae, y0, y1, z0, z1, z2, _, _⟩ := HA17.out wr hH4.kept j hji
                            cases hae
                            have hfj : F j = ef j % 4 := HF.out j
                            obtain ⟨t, ht, ht4⟩ : ∃ t : Nat, ef j % 4 = (t : Int) ∧ t < 4 := ⟨(ef j % 4).toNat, by omega, by omega⟩
                            have hFt : F j = (t : Int) := by rw [hfj]; exact ht
                            have j1 : (0 : Int) ≤ (j : Int) := by omega
                            have j2 : (j : Int) < (i : Int) := by omega
                            have t1 : (0 : Int) ≤ (t : Int) := by omega
                            have t2 : (t : Int) < 4 := by omega
                            go_upto_region 48 with fail
                            have k1 : Keeps (fun _ => False) wr (wr.alloc (.cells #[.slice (ea j) (ew j).length (ec j), .int .u8 (ef j), .int .i8 (ect j)] 34)) := Keeps.alloc _ _ _
                            have bx := Blk.new wr #[.slice (ea j) (ew j).length (ec j), .int .u8 (ef j), .int .i8 (ect j)] 34
                            obtain ⟨wB, hwB⟩ : ∃ x, x = wr.alloc (.cells #[.slice (ea j) (ew j).length (ec j), .int .u8 (ef j), .int .i8 (ect j)] 34) := ⟨_, rfl⟩
                            rw [← hwB] at k1 bx ⊢
                            have hHB := hH4.free k1
                            have x1 : wB.cell? ⟨wr.heap.size, 1, none⟩ = some (.int .u8 (ef j)) := bx.cell 1
                            obtain ⟨u0, uf⟩ := hHB.cell ht4
                            have HS : Hid (H4 w17 (wB.setCell ⟨G, t, none⟩ (.int .i32 j)) G F (j + 1)) := h4_step hHB ht4 hFt
                            have HD : Hid (dist F (j + 1) = dist F j + (if lastF F t j < 0 then 1 else 0)) := by
                              have := dist_succ F j
                              rw [hFt] at this
                              exact this
                            have lz1 := lastF_ge F t j
                            have lz2 := lastF_lt F t j
                            obtain ⟨lz, hlz⟩ : ∃ x, x = lastF F t j := ⟨_, rfl⟩
                            rw [← hlz] at u0 HD lz1 lz2
                            obtain ⟨dj, hdj⟩ : ∃ x, x = dist F j := ⟨_, rfl⟩
                            rw [← hdj] at dl HD ⊢
                            clear hwB k1 bx hHB hH4 hfj hFt z0 z1 z2 hlz hdj
                            by_cases hn : lz < 0
                            · have n1 : decide (lz < 0) = true := decide_eq_true hn
                              rw [if_pos hn] at HD
                              go_wp2
                              go_roundw
                              case rel => exact ⟨j + 1, by omega, by rw [HD.out]; go_num, by go_num, HS.out⟩
                              case measure => simp [intOf]; omega
                            · have n1 : decide (lz < 0) = false := decide_eq_false hn
                              rw [if_neg hn] at HD
                              go_wp2
                              go_roundw
                              case rel => exact ⟨j + 1, by omega, by rw [HD.out]; rfl, by go_num, HS.out⟩
                              case measure => simp [intOf]; omega
                          · obtain rfl : j = i := by omega
                            have hLf := HL17.out.free hH4.kept
                            have hm5 := hLf.map
                            go_upto_region 53 with (go_at_call 12; refine (find_any wr w.heap.size (w.heap.size + 2) W (w.heap.size + 1) j j cK R hLf.k F ect P hLf.full hLf.map (by omega) hW3 ap cp pr (reads_free hprd17 hH4.kept) ple ph pc ph0 ph4).mono ?_; rintro e w20 ⟨rfl, mf, hw20⟩; replace hw20 : Hid (w20 = wr.drewN mf) := hw20; rw [HE.out])
                            have k20 : Keeps (fun _ => False) wr w20 := by rw [hw20.out]; exact Keeps.drewN _ _ _
                            have kF := hH4.kept.trans k20
                            have hH5 := hH4.free k20
                            have hBF := hB17.free kF
                            have hLF := hLf.free k20
                            have dw := hBF.w
                            have dd0 := hBF.d0
                            have dd1 := hBF.d1
                            have dd2 := hBF.d2
                            have dd3 := hBF.d3
                            have dd4 := hBF.d4
                            have HE0 : Hid (Calls Yba.prog 11 #[.slice (ra 0) Z0.length (rc 0), .slice a13 Z0.length c13] w20 fun e w' => e = .returned (.bool true) ∧ ∃ m, w' = w20.drewN m) := same_u64 w20 (ra 0) a13 (rc 0) c13 Z0 hBF.r0 (reads_free o13' kF) (by omega)
                            have HE1 : Hid (∀ k, Calls Yba.prog 11 #[.slice (ra 1) Z1.length (rc 1), .slice a14 Z1.length c14] (w20.drewN k) fun e w' => e = .returned (.bool true) ∧ ∃ m, w' = (w20.drewN k).drewN m) := fun k => same_u64 (w20.drewN k) (ra 1) a14 (rc 1) c14 Z1 (Reads.drewN hBF.r1 k) (Reads.drewN (reads_free o14' kF) k) (by omega)
                            have HE2 : Hid (∀ k, Calls Yba.prog 13 #[.slice (ra 2) Z2.length (rc 2), .slice a15 Z2.length c15] (w20.drewN k) fun e w' => e = .returned (.bool true) ∧ ∃ m, w' = (w20.drewN k).drewN m) := fun k => same_u32 (w20.drewN k) (ra 2) a15 (rc 2) c15 Z2 (Reads.drewN hBF.r2 k) (Reads.drewN (reads_free o15' kF) k) (by omega)
                            have HE3 : Hid (∀ k, Calls Yba.prog 14 #[.slice (ra 3) Z3.length (rc 3), .slice a16 Z3.length c16] (w20.drewN k) fun e w' => e = .returned (.bool true) ∧ ∃ m, w' = (w20.drewN k).drewN m) := fun k => same_i8 (w20.drewN k) (ra 3) a16 (rc 3) c16 Z3 (Reads.drewN hBF.r3 k) (Reads.drewN (reads_free o16' kF) k) (by omega)
                            have HE4 : Hid (∀ k, Calls Yba.prog 15 #[.slice (ra 4) Z4.length (rc 4), .slice a17 Z4.length c17] (w20.drewN k) fun e w' => e = .returned (.bool true) ∧ ∃ m, w' = (w20.drewN k).drewN m) := fun k => same_i32 (w20.drewN k) (ra 4) a17 (rc 4) c17 Z4 (Reads.drewN hBF.r4 k) (Reads.drewN (reads_free o17 kF) k) (by omega)
                            have HE5 : Hid (∀ k, Calls Yba.prog 11 #[.slice ak kl.length ck, .slice a11 kl.length c11] (w20.drewN k) fun e w' => e = .returned (.bool true) ∧ ∃ m, w' = (w20.drewN k).drewN m) := fun k => same_u64 (w20.drewN k) ak a11 ck c11 kl (Reads.drewN (reads_free hkey17 kF) k) (Reads.drewN (reads_free o11' kF) k) (by omega)
                            have HE6 : Hid (∀ k, Calls Yba.prog 11 #[.slice ap pr.length cp, .slice a12 pr.length c12] (w20.drewN k) fun e w' => e = .returned (.bool true) ∧ ∃ m, w' = (w20.drewN k).drewN m) := fun k => same_u64 (w20.drewN k) ap a12 cp c12 pr (Reads.drewN (reads_free hprd17 kF) k) (Reads.drewN (reads_free o12' kF) k) (by omega)
                            have hm6 : ∀ k, (w20.drewN k).ownsMap Yba.prog 24 (plainElem Yba.prog 21) (w.heap.size + 1) j (Dm F j) := fun k => hLF.map.kept (Keeps.drewN (fun _ => False) w20 k) id
                            have HM6 : Hid (∀ k, (w20.drewN k).ownsMap Yba.prog 24 (plainElem Yba.prog 21) (w.heap.size + 1) j (Dm F j)) := hm6
                            have hsz := Dm_size F j
                            have HW : Hid (∀ k, Below w.heap.size w (w20.drewN k)) := fun k => hLF.below.trans (Keeps.below (Keeps.drewN _ w20 k) hLF.below.size)
                            have dl' := dist_le F j
                            clear hm6 hBF hLF hLf hH4 hm5 HL17 hB17 HE
                            go_upto_region 57 with (first | (go_at_call 13; with_reducible show Calls Yba.prog 13 #[.slice (ra 2) _ _, _] _ _; refine Calls.mono (HE2.out _) ?_; rintro e u ⟨rfl, mm, rfl⟩) | (go_at_call 14; with_reducible show Calls Yba.prog 14 #[.slice (ra 3) _ _, _] _ _; refine Calls.mono (HE3.out _) ?_; rintro e u ⟨rfl, mm, rfl⟩) | (go_at_call 15; with_reducible show Calls Yba.prog 15 #[.slice (ra 4) _ _, _] _ _; refine Calls.mono (HE4.out _) ?_; rintro e u ⟨rfl, mm, rfl⟩) | (go_at_call 11; with_reducible show Calls Yba.prog 11 #[.slice (ra 0) _ _, _] _ _; refine Calls.mono HE0.out ?_; rintro e u ⟨rfl, mm, rfl⟩) | (go_at_call 11; with_reducible show Calls Yba.prog 11 #[.slice (ra 1) _ _, _] _ _; refine Calls.mono (HE1.out _) ?_; rintro e u ⟨rfl, mm, rfl⟩))
                            go_upto_region 59 with (first | (go_at_call 11; with_reducible show Calls Yba.prog 11 #[.slice ak _ _, _] _ _; refine Calls.mono (HE5.out _) ?_; rintro e u ⟨rfl, mm, rfl⟩) | (go_at_call 11; with_reducible show Calls Yba.prog 11 #[.slice ap _ _, _] _ _; refine Calls.mono (HE6.out _) ?_; rintro e u ⟨rfl, mm, rfl⟩))
                            go_upto_region 61 with (at_len; refine wpList_len_own _ rfl _ 32 rfl 24 21 Yba.underlying32 _ (w.heap.size + 1) j (Dm F j) rfl (HM6.out _) ?_; rw [hsz])
                            clear HE0 HE1 HE2 HE3 HE4 HE5 HE6 hsz dw dd0 dd1 dd2 dd3 dd4
                            go_wp2
                            go_loopw [38, 39, 40] (fun s _ _ wq => ∃ f k : Nat, f ≤ 4 ∧ s = .int .i64 f ∧ wq = w20.drewN k) (fun s _ _ _ => 4 - (intOf s).toNat)
                            case atStart => exact ⟨0, _, by omega, rfl, rfl⟩
                            case round =>
                              obtain ⟨f, k, hf, rfl, rfl⟩ := hrel
                              by_cases hf4 : f < 4
                              · have f1 : (0 : Int) ≤ (f : Int) := by omega
                                have f2 : (f : Int) < 4 := by omega
                                obtain ⟨u0, uf⟩ := hH5.cell hf4
                                have hhas := Dm_has F f j
                                have wff : (Lit.int .u64 (f : Int)).wf = true := by simp [Lit.wf, IntKind.min, IntKind.max, IntKind.signed, IntKind.bits]; omega
                                have own := HM6.out k
                                have lg := lastF_ge F f j
                                have lg2 := lastF_lt F f j
                                by_cases hp : 0 ≤ lastF F f j
                                · have hat := Dm_at F f (.lit (.int .i32 0)) j hp
                                  rw [decide_eq_true hp] at hhas
                                  have HAT : Hid ((Dm F j).atKey (.int .u64 f) (.lit (.int .i32 0)) = .lit (.int .i32 (lastF F f j))) := hat
                                  clear hat
                                  go_upto_region 65 with (at_lookup; refine wpList_lookup_own_ok_int _ rfl _ _ 32 rfl 24 21 .i32 law24 Yba.underlying32 Yba.underlying21 (zero21 _) (w.heap.size + 1) j (Dm F j) rfl own _ _ rfl (keyOf_int_mk Yba.underlying24 wff) ?_; intro c hatc hwc)
                                  have hc : c = lastF F f j := by simpa using hatc.symm.trans HAT.out
                                  subst hc
                                  clear hatc HAT hwc hhas own
                                  generalize lastF F f j = lz at *
                                  have n1 : decide (lz < 0) = false := decide_eq_false (by omega)
                                  have n2 : ¬ lz < 0 := by omega
                                  go_wp2
                                  go_roundw
                                  case rel => exact ⟨f + 1, _, by omega, by go_num, rfl⟩
                                  case measure => simp [intOf]; omega
                                · rw [decide_eq_false hp] at hhas
                                  go_upto_region 65 with (at_lookup; refine wpList_lookup_own_ok_int _ rfl _ _ 32 rfl 24 21 .i32 law24 Yba.underlying32 Yba.underlying21 (zero21 _) (w.heap.size + 1) j (Dm F j) rfl own _ _ rfl (keyOf_int_mk Yba.underlying24 wff) ?_; intro c hatc hwc)
                                  clear hatc hwc hhas own
                                  generalize lastF F f j = lz at *
                                  have n1 : decide (lz < 0) = true := decide_eq_true (by omega)
                                  have n2 : lz < 0 := by omega
                                  go_wp2
                                  go_roundw
                                  case rel => exact ⟨f + 1, _, by omega, by go_num, rfl⟩
                                  case measure => simp [intOf]; omega
                              · go_wp2
                                go_ret
                                exact ⟨rfl, HW.out _⟩
                  · have hdec : decide (padL (ew m) W = pr.take W) = false := decide_eq_false c3
                    have HM : Hid (¬ (F m = ph ∧ ect m = pc ∧ P m = pr.take W)) := fun e => c3 (by rw [← hpm]; exact e.2.2)
                    clear hfj hfm hpm c3 HHT c1 c2
                    go_upto_region 37 with fail
                    go_region_held3 (fun w' => w'.cell? ⟨b, off + m * 3, none⟩ = some (.slice (ea m) (ew m).length (ec m)) ∧ w'.cell? ⟨b, off + m * 3 + 1, none⟩ = some (.int .u8 (ef m)) ∧ w'.cell? ⟨b, off + m * 3 + 2, none⟩ = some (.int .i8 (ect m))) (first | go_keep | exact ⟨kcell k4 z0 id, kcell k4 z1 id, kcell k4 z2 id⟩)
                      (first | (go_at_call 5; refine (pad_any wr.drew (ea m) (ec m) W (ew m) hr3 hl (by omega)).mono ?_; rintro e w4 ⟨rfl, hb4, k4⟩) | (go_at_call 11; refine (equal_W w4 _ _ _ _ W W (padL (ew m) W) (pr.take W) (padL_len _ _) (by simp; omega) (reads_blk hb4) (reads_free (reads_free hpre.out hkq) ((Keeps.drewN _ _ 1).trans k4)) (by omega)).mono ?_; rintro e w5 ⟨rfl, m5, rfl⟩; rw [hdec]))
                    go_wp2
                    exact ⟨⟨m, by omega, rfl, rfl, HMS.out HM.out, (hkq.trans ((Keeps.drewN _ _ 1).trans k4)).trans (Keeps.drewN _ _ _)⟩, by simp [intOf]⟩
                · have g2 : (ect m == pc) = false := beq_eq_false_iff_ne.2 c2
                  have HM : Hid (¬ (F m = ph ∧ ect m = pc ∧ P m = pr.take W)) := fun e => c2 e.2.1
                  have g1 : (ef m % 4 == ph) = true := beq_iff_eq.2 c1
                  clear hfj hfm hpm c2
                  go_wp2
                  go_quiet (fail)
                  go_wp2
                  exact ⟨⟨m, by omega, rfl, rfl, HMS.out HM.out, hkq.trans (Keeps.drewN _ _ _)⟩, by simp [intOf]⟩
              · have g1 : (ef m % 4 == ph) = false := beq_eq_false_iff_ne.2 c1
                have HM : Hid (¬ (F m = ph ∧ ect m = pc ∧ P m = pr.take W)) := fun e => c1 (by rw [← hfm]; exact e.1)
                clear hfj hfm hpm c1
                go_wp2
                go_quiet (fail)
                go_wp2
                exact ⟨⟨m, by omega, rfl, rfl, HMS.out HM.out, hkq.trans (Keeps.drewN _ _ _)⟩, by simp [intOf]⟩

set_option maxHeartbeats 1000000 in
set_option maxRecDepth 100000 in
/-- The early return. -/
theorem lawE_big (w : World) (wx pick h count : Int) (ae ak : Option Addr) (le ce nk ck : Nat) (hb : ¬ (le ≤ 4096 ∧ nk ≤ 65536)) :
    Calls Yba.prog 3 #[.int .u8 wx, .slice ae le ce, .int .u8 pick, .slice ak nk ck, .int .u64 h, .int .i8 count] w fun e w' => e = .returned (.bool true) ∧ Below w.heap.size w w' := by
  by_cases h1 : le ≤ 4096
  · have g1 : decide ((4096 : Int) < (le : Int)) = false := decide_eq_false (by omega)
    have g2 : decide ((65536 : Int) < (nk : Int)) = true := decide_eq_true (by omega)
    have g3 : ¬ (4096 : Int) < (le : Int) := by omega
    have g4 : (65536 : Int) < (nk : Int) := by omega
    clear h1 hb
    go_enter Yba.func3, Yba.ntmps3
    go_wp2
    go_ret
    exact ⟨rfl, Below.refl _ _⟩
  · have g1 : decide ((4096 : Int) < (le : Int)) = true := decide_eq_true (by omega)
    have g3 : (4096 : Int) < (le : Int) := by omega
    clear h1 hb
    go_enter Yba.func3, Yba.ntmps3
    go_wp2
    go_ret
    exact ⟨rfl, Below.refl _ _⟩

theorem lawE_any (w : World) (wx pick h count : Int) (ae ak : Option Addr) (le ce ck : Nat) (ea : Nat → Option Addr) (ec : Nat → Nat) (ew : Nat → List Int) (ef ect : Nat → Int) (kl : List Int) (hargs : ArgsE w ae le ea ec ew ef ect)
    (hkey : Reads w .u64 ak kl) (hkn : ak = none → kl.length = 0 ∧ ck = 0) (w0 : 0 ≤ wx) (w1 : wx ≤ 255) (p0 : 0 ≤ pick) (p1 : pick ≤ 255) (h0 : 0 ≤ h) (h1 : h ≤ 18446744073709551615) :
    Calls Yba.prog 3 #[.int .u8 wx, .slice ae le ce, .int .u8 pick, .slice ak kl.length ck, .int .u64 h, .int .i8 count] w fun e w' => e = .returned (.bool true) ∧ Below w.heap.size w w' := by
  by_cases hb : le ≤ 4096 ∧ kl.length ≤ 65536
  · obtain ⟨W, hW⟩ := Int.eq_ofNat_of_zero_le (show 0 ≤ wx % 4 by omega)
    exact lawE w wx pick h count ae ak le ce ck W ea ec ew ef ect kl hargs hkey hkn w0 w1 hW (by omega) p0 p1 h0 h1 hb.1 hb.2
  · exact lawE_big w wx pick h count ae ak le ce kl.length ck hb
end Go.Proofs.Ybulkdyci
