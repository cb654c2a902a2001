import Derived.Test.YbulkdyciPlain
namespace Go.Proofs.Ybulkdyci
open Go.RowKit Go.Maps

theorem ints_at {q : IntKind} {l : List Int} {i : Nat} {x : Int} (h : l[i]? = some x) : (ints q l)[i]? = some (.int q x) := by simp [ints, h]

theorem range_at {α : Type} {f : Nat → α} {n j : Nat} (h : j < n) : ((List.range n).map f)[j]? = some (f j) := by simp [h]

set_option maxHeartbeats 1000000 in
set_option maxRecDepth 100000 in
theorem key_pos (w : World) (K base W n : Nat) (cK : Array Value) (R : Nat → Row) (hK : K5 w K base W cK R) (F C : Nat → Int) (P : Nat → List Int) (hF : Full R W n F C P) (hn : n ≤ 4096) (hW : W = 1 ∨ W = 2 ∨ W = 3) (i : Nat) (hi : i < n) :
    Calls Yba.prog 17 #[.pointer (some ⟨K, 0, none⟩), .int .i64 i] w fun e w' => (∃ ao c, e = .returned (.slice ao W c) ∧ Reads w .u64 ao (P i)) ∧ ∃ m, w' = w.drewN m := by
  have hlen : (R 0).l.length = n * W := by rw [hF.l0, ints_len, flat_len P W hF.plen]
  have o0 := hK.own 0 (by omega)
  have d1 := (hK.blk.cell 1).trans (hK.cs 0 (by omega))
  have d0 := (hK.blk.cell 0).trans hK.c0
  simp only [Row.val] at o0 d1
  have hpos : 0 < n * W := Nat.mul_pos (by omega) (by omega)
  obtain ⟨g, hg, hc⟩ := own1_at o0 (by omega)
  have hcap : (R 0).l.length ≤ (R 0).cap := by
    rcases o0.2 with ⟨e, _⟩ | ⟨g', cap', cur, e, _, _, r, _⟩
    · rw [hg] at e; simp at e
    · simp at e
      rw [e.2]
      exact r
  rw [hg] at d1
  rw [hlen] at d1 hcap
  have HR : Hid (Reads w .u64 (some ⟨g, i * W, none⟩) (P i)) := by
    intro _
    refine ⟨g, i * W, rfl, fun t x hx => ?_⟩
    have ht : t < W := by have := (List.getElem?_eq_some_iff.1 hx).1; rw [hF.plen] at this; exact this
    refine hc _ _ ?_
    rw [hF.l0]
    exact ints_at (by rw [flat_at P W hF.plen t ht n i hi]; exact hx)
  generalize (R 0).cap = cap at *
  clear hK hF o0 hc hlen hpos hg
  rcases hW with rfl | rfl | rfl
  · have c1 : (i : Int) ≤ (i : Int) + 1 := by omega
    have c2 : (i : Int) + 1 ≤ (cap : Int) := by omega
    have c3 : ¬ cap - i = 0 := by omega
    have c4 : i + 1 - i = 1 := by omega
    go_enter Yba.func17, Yba.ntmps17
    go_wp2
    go_quiet (fail)
    go_wp2
    go_ret
    exact ⟨⟨_, _, rfl, by have := HR.out; rwa [Nat.mul_one] at this⟩, _, rfl⟩
  · have c0 : (0 : Int) ≤ (i : Int) * 2 := by omega
    have c1 : (i : Int) * 2 ≤ ((i : Int) + 1) * 2 := by omega
    have c2 : ((i : Int) + 1) * 2 ≤ (cap : Int) := by omega
    have c3 : ¬ cap - i * 2 = 0 := by omega
    have c4 : (i + 1) * 2 - i * 2 = 2 := by omega
    have c5 : ((i : Int) * 2).toNat = i * 2 := by omega
    have c6 : (((i : Int) + 1) * 2).toNat = (i + 1) * 2 := by omega
    go_enter Yba.func17, Yba.ntmps17
    go_wp2
    go_quiet (fail)
    go_wp2
    go_ret
    exact ⟨⟨_, _, rfl, HR.out⟩, _, rfl⟩
  · have c0 : (0 : Int) ≤ (i : Int) * 3 := by omega
    have c1 : (i : Int) * 3 ≤ ((i : Int) + 1) * 3 := by omega
    have c2 : ((i : Int) + 1) * 3 ≤ (cap : Int) := by omega
    have c3 : ¬ cap - i * 3 = 0 := by omega
    have c4 : (i + 1) * 3 - i * 3 = 3 := by omega
    have c5 : ((i : Int) * 3).toNat = i * 3 := by omega
    have c6 : (((i : Int) + 1) * 3).toNat = (i + 1) * 3 := by omega
    go_enter Yba.func17, Yba.ntmps17
    go_wp2
    go_quiet (fail)
    go_wp2
    go_ret
    exact ⟨⟨_, _, rfl, HR.out⟩, _, rfl⟩

set_option maxHeartbeats 1000000 in
set_option maxRecDepth 100000 in
theorem key_zero (w : World) (K base : Nat) (cK : Array Value) (R : Nat → Row) (hK : K5 w K base 0 cK R) (hz : R 0 = ⟨none, 0, []⟩) (i : Nat) (hi : i ≤ 4096) (pi : List Int) (hp : pi.length = 0) :
    Calls Yba.prog 17 #[.pointer (some ⟨K, 0, none⟩), .int .i64 i] w fun e w' => (∃ ao c, e = .returned (.slice ao 0 c) ∧ Reads w .u64 ao pi) ∧ ∃ m, w' = w.drewN m := by
  have d1 := (hK.blk.cell 1).trans (hK.cs 0 (by omega))
  have d0 := (hK.blk.cell 0).trans hK.c0
  rw [hz] at d1
  simp only [Row.val, List.length_nil] at d1
  have HR : Hid (Reads w .u64 none pi) := fun e => by omega
  clear hK hz
  go_enter Yba.func17, Yba.ntmps17
  go_wp2
  go_quiet (fail)
  go_wp2
  go_ret
  exact ⟨⟨_, _, rfl, HR.out⟩, _, rfl⟩

theorem key_any (w : World) (K base W n : Nat) (cK : Array Value) (R : Nat → Row) (hK : K5 w K base W cK R) (F C : Nat → Int) (P : Nat → List Int) (hF : Full R W n F C P) (hn : n ≤ 4096) (hW : W ≤ 3) (i : Nat) (hi : i < n) :
    Calls Yba.prog 17 #[.pointer (some ⟨K, 0, none⟩), .int .i64 i] w fun e w' => (∃ ao c, e = .returned (.slice ao W c) ∧ Reads w .u64 ao (P i)) ∧ ∃ m, w' = w.drewN m := by
  by_cases h0 : W = 0
  · subst h0
    exact key_zero w K base cK R hK (hF.z rfl) i (by omega) (P i) (hF.plen i)
  · exact key_pos w K base W n cK R hK F C P hF hn (by omega) i hi

theorem K5.drewN {w : World} {K base W : Nat} {cK : Array Value} {R : Nat → Row} (h : K5 w K base W cK R) (m : Nat) : K5 (w.drewN m) K base W cK R := h.free (Keeps.drewN _ _ _)
theorem Reads.undrew {w : World} {q : IntKind} {ao : Option Addr} {l : List Int} {m : Nat} (h : Reads (w.drewN m) q ao l) : Reads w q ao l := h
theorem Reads.drewN {w : World} {q : IntKind} {ao : Option Addr} {l : List Int} (h : Reads w q ao l) (m : Nat) : Reads (w.drewN m) q ao l := h

theorem equalWords_W (w : World) (a1 a2 : Option Addr) (c1 c2 W : Nat) (l1 l2 : List Int) (hl : l1.length = W) (h1 : Reads w .u64 a1 l1) (h2 : Reads w .u64 a2 l2) (b1 : W ≤ 4096) (hle : W ≤ l2.length) :
    Calls Yba.prog 16 #[.slice a1 W c1, .slice a2 l2.length c2] w fun e w' => e = .returned (.bool (decide (l1 = l2.take W))) ∧ ∃ m, w' = w.drewN m := by
  subst hl
  exact equalWords_any w a1 a2 c1 c2 l1 l2 h1 h2 (by omega) hle

theorem find_hit {F C : Nat → Int} {P : Nat → List Int} {h ct : Int} {pr : List Int} {i : Nat} (h1 : F i = h) (h2 : C i = ct) (h3 : P i = pr) : findI F C P h ct pr (i + 1) = (i : Int) := by
  simp only [findI]
  rw [if_pos ⟨h1, h2, h3⟩]

theorem find_miss {F C : Nat → Int} {P : Nat → List Int} {h ct : Int} {pr : List Int} {i : Nat} (hn : ¬ (C i = ct ∧ P i = pr)) : findI F C P h ct pr (i + 1) = findI F C P h ct pr i := by
  simp only [findI]
  rw [if_neg (fun e => hn e.2)]

set_option maxHeartbeats 2000000 in
set_option maxRecDepth 100000 in
theorem find_any (w : World) (K base W M k n : Nat) (cK : Array Value) (R : Nat → Row) (hK : K5 w K base W cK R) (F C : Nat → Int) (P : Nat → List Int) (hF : Full R W n F C P) (hm : OwnM w M k (Dm F n)) (hn : n ≤ 4096) (hW : W ≤ 3)
    (ap : Option Addr) (cp : Nat) (pr : List Int) (hpr : Reads w .u64 ap pr) (hle : W ≤ pr.length) (h ct : Int) (h0 : 0 ≤ h) (h1 : h ≤ 4) :
    Calls Yba.prog 12 #[.pointer (some ⟨K, 0, none⟩), .map (some M), .slice ap pr.length cp, .int .u64 h, .int .i8 ct] w fun e w' => e = .returned (.int .i64 (findI F C P h ct (pr.take W) n)) ∧ ∃ m, w' = w.drewN m := by
  have wff : (Lit.int .u64 h).wf = true := by simp [Lit.wf, IntKind.min, IntKind.max, IntKind.signed, IntKind.bits]; omega
  have hm' : w.ownsMap Yba.prog 24 (plainElem Yba.prog 21) M k (Dm F n) := hm
  have hhas := Dm_has F h n
  by_cases hex : 0 ≤ lastF F h n
  · have hat := Dm_at F h (.lit (.int .i32 0)) n hex
    rw [decide_eq_true hex] at hhas
    go_enter Yba.func12, Yba.ntmps12
    go_upto_region 2 with (at_lookup; refine wpList_lookup_own_ok_int _ rfl _ _ 32 rfl 24 21 .i32 law24 Yba.underlying32 Yba.underlying21 (zero21 _) M k (Dm F n) rfl hm' _ _ rfl (keyOf_int_mk Yba.underlying24 wff) ?_; intro c hatc hwc)
    have hc : c = lastF F h n := by
      have e := hatc.symm.trans hat
      simpa using e
    subst hc
    clear hatc hat hhas hm hm' hwc
    go_loopw [11] (fun s wq => ∃ j m : Nat, j ≤ n ∧ s = .int .i32 (lastF F h j) ∧ findI F C P h ct (pr.take W) n = findI F C P h ct (pr.take W) j ∧ wq = w.drewN m) (fun s _ => (intOf s + 1).toNat)
    case atStart => exact ⟨n, 0, by omega, rfl, rfl, rfl⟩
    case round =>
      obtain ⟨j, m, hj, rfl, hfj, rfl⟩ := hrel
      by_cases hp : 0 ≤ lastF F h j
      · obtain ⟨i, hi⟩ := Int.eq_ofNat_of_zero_le hp
        have hlt := lastF_lt F h j
        have hfi := lastF_fold F h j i hi
        have hij : i < n := by omega
        have hfl := find_last F C P h ct (pr.take W) j i hi
        have hl2 := lastF_lt F h i
        have hl3 := lastF_ge F h i
        have o3 := hK.own 3 (by omega)
        have o4 := hK.own 4 (by omega)
        have d3 := (hK.blk.cell 4).trans (hK.cs 3 (by omega))
        have d4 := (hK.blk.cell 5).trans (hK.cs 4 (by omega))
        simp only [Row.val] at o3 o4 d3 d4
        have len3 : (R 3).l.length = n := by rw [hF.l3, ints_len]; simp
        have len4 : (R 4).l.length = n := by rw [hF.l4, ints_len]; simp
        rw [len3] at o3 d3
        rw [len4] at o4 d4
        obtain ⟨g3, hg3, hc3⟩ := own1_at o3 (by omega)
        obtain ⟨g4, hg4, hc4⟩ := own1_at o4 (by omega)
        have v3 := hc3 i (.int .i8 (C i)) (by rw [hF.l3]; exact ints_at (range_at hij))
        have v4 := hc4 i (.int .i32 (lastF F (F i) i)) (by rw [hF.l4]; exact ints_at (range_at (f := fun j => lastF F (F j) j) hij))
        rw [hfi] at v4
        rw [hg3] at d3
        rw [hg4] at d4
        rw [hi]
        have i1 : (0 : Int) ≤ (i : Int) := by omega
        have i2 : (i : Int) < (n : Int) := by omega
        have HFI : Hid (F i = h) := hfi
        have HFJ : Hid (findI F C P h ct (pr.take W) n = findI F C P h ct (pr.take W) (i + 1)) := hfj.trans hfl
        have hK' := hK
        have hP' := hpr
        have hmeas : Hid ((lastF F h i + 1).toNat < ((i : Int) + 1).toNat) := (by omega : (lastF F h i + 1).toNat < ((i : Int) + 1).toNat)
        have HI : Hid (i < n) := hij
        clear o3 o4 hc3 hc4 hlt hfl hfj hi hfi len3 len4 hp hj hg3 hg4
        obtain ⟨nx, hnx⟩ : ∃ nx, nx = lastF F h i := ⟨_, rfl⟩
        rw [← hnx] at v4 hl2 hl3 hmeas
        clear hK hpr
        by_cases hct : C i = ct
        · by_cases hpp : P i = pr.take W
          · have HE : Hid (findI F C P h ct (pr.take W) n = (i : Int)) := HFJ.out.trans (find_hit HFI.out hct hpp)
            have hdec : decide (P i = pr.take W) = true := decide_eq_true hpp
            have g1 : (C i == ct) = true := beq_iff_eq.2 hct
            clear HFJ hmeas hpp
            go_wp2_with (first | (go_at_call 17; refine (key_any (w.drewN m) K base W n cK R (hK'.drewN m) F C P hF hn hW i HI.out).mono ?_; rintro e w1 ⟨⟨ao, c, rfl, hrd⟩, m1, rfl⟩) | (go_at_call 16; refine (equalWords_W (w.drewN (m + m1)) ao ap c cp W (P i) pr (hF.plen i) (hrd.undrew.drewN _) (hP'.drewN _) (by omega) hle).mono ?_; rintro e w2 ⟨rfl, m2, rfl⟩; rw [hdec]))
            go_ret
            exact ⟨by rw [HE.out]; rfl, _, by first | rfl | exact World.drewN_drewN _ _ _ | (rw [World.drewN_drewN, World.drewN_drewN])⟩
          · have HE : Hid (findI F C P h ct (pr.take W) n = findI F C P h ct (pr.take W) i) := HFJ.out.trans (find_miss (fun e => hpp e.2))
            have hdec : decide (P i = pr.take W) = false := decide_eq_false hpp
            have g1 : (C i == ct) = true := beq_iff_eq.2 hct
            have HX : Hid (nx = lastF F h i) := hnx
            clear HFJ hpp hnx
            go_wp2_with (first | (go_at_call 17; refine (key_any (w.drewN m) K base W n cK R (hK'.drewN m) F C P hF hn hW i HI.out).mono ?_; rintro e w1 ⟨⟨ao, c, rfl, hrd⟩, m1, rfl⟩) | (go_at_call 16; refine (equalWords_W (w.drewN (m + m1)) ao ap c cp W (P i) pr (hF.plen i) (hrd.undrew.drewN _) (hP'.drewN _) (by omega) hle).mono ?_; rintro e w2 ⟨rfl, m2, rfl⟩; rw [hdec]))
            go_roundw
            case rel => exact ⟨i, _, by have : i < n := HI.out; omega, by rw [HX.out], HE.out, by first | rfl | exact World.drewN_drewN _ _ _ | (rw [World.drewN_drewN, World.drewN_drewN])⟩
            case measure => simpa [intOf] using hmeas.out
        · have HE : Hid (findI F C P h ct (pr.take W) n = findI F C P h ct (pr.take W) i) := HFJ.out.trans (find_miss (fun e => hct e.1))
          have g1 : (C i == ct) = false := beq_eq_false_iff_ne.2 hct
          have HX : Hid (nx = lastF F h i) := hnx
          clear HFJ hnx
          go_wp2
          go_roundw
          case rel => exact ⟨i, _, by have : i < n := HI.out; omega, by rw [HX.out], HE.out, rfl⟩
          case measure => simpa [intOf] using hmeas.out
      · have hge := lastF_ge F h j
        have hm1 : lastF F h j = -1 := by omega
        have HE : Hid (findI F C P h ct (pr.take W) n = -1) := hfj.trans (find_none F C P h ct (pr.take W) j hm1)
        rw [hm1]
        clear hge hm1 hp hfj
        go_wp2
        go_ret
        exact ⟨by rw [HE.out]; rfl, _, rfl⟩
  · have hge := lastF_ge F h n
    rw [decide_eq_false hex] at hhas
    have HE : Hid (findI F C P h ct (pr.take W) n = -1) := find_none F C P h ct (pr.take W) n (by omega)
    clear hge hex
    go_enter Yba.func12, Yba.ntmps12
    go_upto_region 2 with (at_lookup; refine wpList_lookup_own_ok_int _ rfl _ _ 32 rfl 24 21 .i32 law24 Yba.underlying32 Yba.underlying21 (zero21 _) M k (Dm F n) rfl hm' _ _ rfl (keyOf_int_mk Yba.underlying24 wff) ?_; intro c hatc hwc)
    clear hatc
    go_loopw [] (fun wq => wq = w) (fun _ => 0)
    case atStart => rfl
    case round =>
      subst hrel
      go_wp2
      go_ret
      exact ⟨by rw [HE.out]; rfl, 0, rfl⟩
end Go.Proofs.Ybulkdyci
