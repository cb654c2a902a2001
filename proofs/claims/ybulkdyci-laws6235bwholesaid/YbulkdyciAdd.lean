import Derived.Test.YbulkdyciKeys
namespace Go.Proofs.Ybulkdyci
open Go.RowKit

/-- What 'add' leaves of the rows. -/
structure AddR (R R' : Nat → Row) (W : Nat) (pk : List Int) (h nx ct : Int) : Prop where
  l0 : (R' 0).l = (R 0).l ++ ints .u64 pk
  l1 : (R' 1).l = (R 1).l ++ [.int .u64 h]
  l2 : (R' 2).l = (R 2).l ++ [.int .u32 nx]
  l3 : (R' 3).l = (R 3).l ++ [.int .i8 ct]
  l4 : (R' 4).l = (R 4).l ++ [.int .i32 (-1)]
  z : W = 0 → R' 0 = ⟨none, 0, []⟩

set_option maxHeartbeats 1000000 in
set_option maxRecDepth 100000 in
theorem add_pos (w : World) (K base W : Nat) (cK : Array Value) (R1 : Nat → Row) (hK : K5 w K base W cK R1) (ak : Addr) (ck : Nat) (pk : List Int) (hpk : pk.length = W) (hr : Reads w .u64 (some ak) pk) (h nx ct : Int) (hl : ∀ i, i < 5 → (R1 i).l.length ≤ 100000) (hW : 0 < W) (hW4 : W ≤ 4) :
    Calls Yba.prog 4 #[.pointer (some ⟨K, 0, none⟩), .slice (some ak) W ck, .int .u64 h, .int .u32 nx, .int .i8 ct] w fun e w' => e = .returned (.tuple #[]) ∧ ∃ R', Turned w w' K base W R1 R' ∧ AddR R1 R' W pk h nx ct := by
  obtain ⟨i24, hi24, hz24, hs24, hb24⟩ := info_parts Yba.info24
  obtain ⟨i37, hi37, hz37, hs37, hb37⟩ := info_parts Yba.info37
  obtain ⟨i25, hi25, hz25, hs25, hb25⟩ := info_parts Yba.info25
  obtain ⟨i21, hi21, hz21, hs21, hb21⟩ := info_parts Yba.info21
  have m00 : (R1 0).l.length ≤ 100000 := hl 0 (by omega)
  have m01 : (R1 1).l.length ≤ 100000 := hl 1 (by omega)
  have m02 : (R1 2).l.length ≤ 100000 := hl 2 (by omega)
  have m03 : (R1 3).l.length ≤ 100000 := hl 3 (by omega)
  have m04 : (R1 4).l.length ≤ 100000 := hl 4 (by omega)
  clear hl
  have t0 := Turned.of_kept hK (Keeps.refl _ w)
  go_enter Yba.func4, Yba.ntmps4
  have o1 := hK.own 0 (by omega)
  have d1 : w.cell? ⟨K, 1, none⟩ = some (.slice (R1 0).ao (R1 0).l.length (R1 0).cap) := (hK.blk.cell 1).trans (hK.cs 0 (by omega))
  have f1 := hK.blk.free 1
  have lt1 := hK.blk.lt
  have hb1 := hK.hbase
  have hv1 : some K ≠ (Value.slice (R1 0).ao (R1 0).l.length (R1 0).cap).ownBlock := fun e => by have := hK.lo (i := 0) (by omega) e.symm; have := hK.lt; omega
  have hnews : ∀ (j : Nat) u, (ints .u64 pk)[j]? = some u → w.cell? (ak.add j) = some u := by
    intro j u hu
    obtain ⟨b, off, e, hc⟩ := hr (by omega)
    simp at e
    subst e
    have hj : j < pk.length := by have := (List.getElem?_eq_some_iff.1 hu).1; simpa [ints] using this
    have hx : pk[j]? = some (pk[j]'hj) := List.getElem?_eq_getElem _
    rw [Addr.add_lit, hc j _ hx, ← hu]
    simp [ints, hx]
  go_upto_region 1 with (at_builtin; refine wpList_append_lies _ rfl _ _ 23 rfl base 24 i24 _ 1 8 Yba.underlying23 hi24 hz24 hs24 hb24 rfl (by omega) (.slice (R1 0).ao (R1 0).l.length (R1 0).cap) (R1 0).l.length (R1 0).l rfl o1 ak W ck (ints .u64 pk) rfl (by simp [ints, hpk]) hnews (ints_one _ _) (by omega) (by unfold maxLen; omega) (by omega) (by omega) w.heap.size rfl ?_; intro g1 c1 u1 own1 gr1 at1 gl1; have q1 := gr1.cell d1 hv1; have p1 := grown_free gr1 lt1 f1 hv1)
  have s1 := hK.push 0 (by omega) ⟨some ⟨g1, 0, none⟩, c1, (R1 0).l ++ ints .u64 pk⟩ (Keeps.refl _ w) gr1 (by simpa [Row.val, ints, hpk, tyOf] using own1) (fun b e => by
    simp only [Row.val, Value.ownBlock, Option.some.injEq] at e
    subst e
    rcases at1 with e | e
    · exact .inl e
    · exact .inr (by omega))
  have e1 : (⟨some ⟨g1, 0, none⟩, c1, (R1 0).l ++ ints .u64 pk⟩ : Row).val = .slice (some ⟨g1, 0, none⟩) ((R1 0).l.length + W) c1 := by simp [Row.val, ints, hpk]
  rw [e1] at s1
  have t1 := t0.trans s1
  obtain ⟨R2, hR2⟩ : ∃ r, r = (fun j => if j = 0 then ⟨some ⟨g1, 0, none⟩, c1, (R1 0).l ++ ints .u64 pk⟩ else R1 j : Nat → Row) := ⟨_, rfl⟩
  obtain ⟨w1, hw1⟩ : ∃ x, x = u1.setCell ⟨K, 1, none⟩ (.slice (some ⟨g1, 0, none⟩) ((R1 0).l.length + W) c1) := ⟨_, rfl⟩
  rw [← hw1, ← hR2] at t1
  rw [← hw1]
  have HR1 : Hid (∀ j, (R2 j).l = if j = 0 then (R1 0).l ++ ints .u64 pk else (R1 j).l) := fun j => by rw [hR2]; by_cases e : j = 0 <;> simp [e]
  have HZZ : Hid (W = 0 → R2 0 = ⟨none, 0, []⟩) := fun e => by omega
  have m10 : (R2 0).l.length ≤ 100004 := by rw [HR1.out 0]; simp [ints]; omega
  have m11 : (R2 1).l.length ≤ 100004 := by rw [HR1.out 1]; simp; omega
  have m12 : (R2 2).l.length ≤ 100004 := by rw [HR1.out 2]; simp; omega
  have m13 : (R2 3).l.length ≤ 100004 := by rw [HR1.out 3]; simp; omega
  have m14 : (R2 4).l.length ≤ 100004 := by rw [HR1.out 4]; simp; omega
  clear hw1 hR2 s1 e1 t0 hK o1 d1 f1 hnews own1 gr1 at1 gl1 q1 p1 hb1 lt1 hv1
  obtain ⟨cK2, hK2⟩ := t1.st
  have o2 := hK2.own 1 (by omega)
  have d2 : w1.cell? ⟨K, 2, none⟩ = some (.slice (R2 1).ao (R2 1).l.length (R2 1).cap) := (hK2.blk.cell 2).trans (hK2.cs 1 (by omega))
  have f2 := hK2.blk.free 2
  have lt2 := hK2.blk.lt
  have hb2 := hK2.hbase
  have hv2 : some K ≠ (Value.slice (R2 1).ao (R2 1).l.length (R2 1).cap).ownBlock := fun e => by have := hK2.lo (i := 1) (by omega) e.symm; have := hK2.lt; omega
  have z2 : ∀ ob : Obj, (w1.alloc ob).cell? ⟨K, 2, none⟩ = some (.slice (R2 1).ao (R2 1).l.length (R2 1).cap) := fun ob => cell_alloc' d2 ob
  have y2 : ∀ ob : Obj, (w1.alloc ob).frozen? ⟨K, 2, none⟩ = false := fun ob => free_alloc lt2 f2 ob
  go_upto_region 2 with (at_builtin; refine wpList_append_lies _ rfl _ _ 23 rfl base 24 i24 _ 1 8 Yba.underlying23 hi24 hz24 hs24 hb24 rfl (by omega) (.slice (R2 1).ao (R2 1).l.length (R2 1).cap) (R2 1).l.length (R2 1).l rfl (World.ownsRow.alloc o2 _) ⟨w1.heap.size, 0, none⟩ 1 1 [.int .u64 h] rfl rfl (World.news_of_block (cs := #[.int .u64 h]) (t := 24) (fr := (0, 0)) (heap_new _ _ _ (by simp))) (by simp [Value.oneCell']) (by omega) (by unfold maxLen; omega) (by omega) (by simp; omega) (w1.heap.size + 1) (by simp) ?_; intro g2 c2 u2 own2 gr2 at2 gl2; have q2 := gr2.cell (z2 _) hv2; have p2 := grown_free gr2 (by simp; omega) (y2 _) hv2)
  have s2 := hK2.push 1 (by omega) ⟨some ⟨g2, 0, none⟩, c2, (R2 1).l ++ [.int .u64 h]⟩ (Keeps.alloc _ w1 _) gr2 (by simpa [Row.val, tyOf] using own2) (fun b e => by
    simp only [Row.val, Value.ownBlock, Option.some.injEq] at e
    subst e
    rcases at2 with e | e
    · exact .inl e
    · exact .inr (by omega))
  have e2 : (⟨some ⟨g2, 0, none⟩, c2, (R2 1).l ++ [.int .u64 h]⟩ : Row).val = .slice (some ⟨g2, 0, none⟩) ((R2 1).l.length + 1) c2 := by simp [Row.val]
  rw [e2] at s2
  have t2 := t1.trans s2
  obtain ⟨R3, hR3⟩ : ∃ r, r = (fun j => if j = 1 then ⟨some ⟨g2, 0, none⟩, c2, (R2 1).l ++ [.int .u64 h]⟩ else R2 j : Nat → Row) := ⟨_, rfl⟩
  obtain ⟨w2, hw2⟩ : ∃ x, x = u2.setCell ⟨K, 2, none⟩ (.slice (some ⟨g2, 0, none⟩) ((R2 1).l.length + 1) c2) := ⟨_, rfl⟩
  rw [← hw2, ← hR3] at t2
  rw [← hw2]
  have r2 : ∀ j, (R3 j).l = if j = 1 then (R2 1).l ++ [.int .u64 h] else (R2 j).l := fun j => by rw [hR3]; by_cases e : j = 1 <;> simp [e]
  have r20 : R3 0 = R2 0 := by rw [hR3]; simp
  have m20 : (R3 0).l.length ≤ 100006 := by rw [r2 0]; simp; omega
  have m21 : (R3 1).l.length ≤ 100006 := by rw [r2 1]; simp; omega
  have m22 : (R3 2).l.length ≤ 100006 := by rw [r2 2]; simp; omega
  have m23 : (R3 3).l.length ≤ 100006 := by rw [r2 3]; simp; omega
  have m24 : (R3 4).l.length ≤ 100006 := by rw [r2 4]; simp; omega
  have HR2 : Hid (∀ j, (R3 j).l = if j = 1 then (R2 1).l ++ [.int .u64 h] else (R2 j).l) := r2
  have HZ2 : Hid (R3 0 = R2 0) := r20
  clear hw2 hR3 s2 e2 t1 hK2 o2 d2 f2 z2 y2 own2 gr2 at2 gl2 q2 p2 r2 r20 hb2 lt2 hv2
  obtain ⟨cK3, hK3⟩ := t2.st
  have o3 := hK3.own 2 (by omega)
  have d3 : w2.cell? ⟨K, 3, none⟩ = some (.slice (R3 2).ao (R3 2).l.length (R3 2).cap) := (hK3.blk.cell 3).trans (hK3.cs 2 (by omega))
  have f3 := hK3.blk.free 3
  have lt3 := hK3.blk.lt
  have hb3 := hK3.hbase
  have hv3 : some K ≠ (Value.slice (R3 2).ao (R3 2).l.length (R3 2).cap).ownBlock := fun e => by have := hK3.lo (i := 2) (by omega) e.symm; have := hK3.lt; omega
  have z3 : ∀ ob : Obj, (w2.alloc ob).cell? ⟨K, 3, none⟩ = some (.slice (R3 2).ao (R3 2).l.length (R3 2).cap) := fun ob => cell_alloc' d3 ob
  have y3 : ∀ ob : Obj, (w2.alloc ob).frozen? ⟨K, 3, none⟩ = false := fun ob => free_alloc lt3 f3 ob
  go_upto_region 3 with (at_builtin; refine wpList_append_lies _ rfl _ _ 27 rfl base 37 i37 _ 1 4 Yba.underlying27 hi37 hz37 hs37 hb37 rfl (by omega) (.slice (R3 2).ao (R3 2).l.length (R3 2).cap) (R3 2).l.length (R3 2).l rfl (World.ownsRow.alloc o3 _) ⟨w2.heap.size, 0, none⟩ 1 1 [.int .u32 nx] rfl rfl (World.news_of_block (cs := #[.int .u32 nx]) (t := 37) (fr := (0, 0)) (heap_new _ _ _ (by simp))) (by simp [Value.oneCell']) (by omega) (by unfold maxLen; omega) (by omega) (by simp; omega) (w2.heap.size + 1) (by simp) ?_; intro g3 c3 u3 own3 gr3 at3 gl3; have q3 := gr3.cell (z3 _) hv3; have p3 := grown_free gr3 (by simp; omega) (y3 _) hv3)
  have s3 := hK3.push 2 (by omega) ⟨some ⟨g3, 0, none⟩, c3, (R3 2).l ++ [.int .u32 nx]⟩ (Keeps.alloc _ w2 _) gr3 (by simpa [Row.val, tyOf] using own3) (fun b e => by
    simp only [Row.val, Value.ownBlock, Option.some.injEq] at e
    subst e
    rcases at3 with e | e
    · exact .inl e
    · exact .inr (by omega))
  have e3 : (⟨some ⟨g3, 0, none⟩, c3, (R3 2).l ++ [.int .u32 nx]⟩ : Row).val = .slice (some ⟨g3, 0, none⟩) ((R3 2).l.length + 1) c3 := by simp [Row.val]
  rw [e3] at s3
  have t3 := t2.trans s3
  obtain ⟨R4, hR4⟩ : ∃ r, r = (fun j => if j = 2 then ⟨some ⟨g3, 0, none⟩, c3, (R3 2).l ++ [.int .u32 nx]⟩ else R3 j : Nat → Row) := ⟨_, rfl⟩
  obtain ⟨w3, hw3⟩ : ∃ x, x = u3.setCell ⟨K, 3, none⟩ (.slice (some ⟨g3, 0, none⟩) ((R3 2).l.length + 1) c3) := ⟨_, rfl⟩
  rw [← hw3, ← hR4] at t3
  rw [← hw3]
  have r3 : ∀ j, (R4 j).l = if j = 2 then (R3 2).l ++ [.int .u32 nx] else (R3 j).l := fun j => by rw [hR4]; by_cases e : j = 2 <;> simp [e]
  have r30 : R4 0 = R3 0 := by rw [hR4]; simp
  have m30 : (R4 0).l.length ≤ 100007 := by rw [r3 0]; simp; omega
  have m31 : (R4 1).l.length ≤ 100007 := by rw [r3 1]; simp; omega
  have m32 : (R4 2).l.length ≤ 100007 := by rw [r3 2]; simp; omega
  have m33 : (R4 3).l.length ≤ 100007 := by rw [r3 3]; simp; omega
  have m34 : (R4 4).l.length ≤ 100007 := by rw [r3 4]; simp; omega
  have HR3 : Hid (∀ j, (R4 j).l = if j = 2 then (R3 2).l ++ [.int .u32 nx] else (R3 j).l) := r3
  have HZ3 : Hid (R4 0 = R3 0) := r30
  clear hw3 hR4 s3 e3 t2 hK3 o3 d3 f3 z3 y3 own3 gr3 at3 gl3 q3 p3 r3 r30 hb3 lt3 hv3
  obtain ⟨cK4, hK4⟩ := t3.st
  have o4 := hK4.own 3 (by omega)
  have d4 : w3.cell? ⟨K, 4, none⟩ = some (.slice (R4 3).ao (R4 3).l.length (R4 3).cap) := (hK4.blk.cell 4).trans (hK4.cs 3 (by omega))
  have f4 := hK4.blk.free 4
  have lt4 := hK4.blk.lt
  have hb4 := hK4.hbase
  have hv4 : some K ≠ (Value.slice (R4 3).ao (R4 3).l.length (R4 3).cap).ownBlock := fun e => by have := hK4.lo (i := 3) (by omega) e.symm; have := hK4.lt; omega
  have z4 : ∀ ob : Obj, (w3.alloc ob).cell? ⟨K, 4, none⟩ = some (.slice (R4 3).ao (R4 3).l.length (R4 3).cap) := fun ob => cell_alloc' d4 ob
  have y4 : ∀ ob : Obj, (w3.alloc ob).frozen? ⟨K, 4, none⟩ = false := fun ob => free_alloc lt4 f4 ob
  go_upto_region 4 with (at_builtin; refine wpList_append_lies _ rfl _ _ 28 rfl base 25 i25 _ 1 1 Yba.underlying28 hi25 hz25 hs25 hb25 rfl (by omega) (.slice (R4 3).ao (R4 3).l.length (R4 3).cap) (R4 3).l.length (R4 3).l rfl (World.ownsRow.alloc o4 _) ⟨w3.heap.size, 0, none⟩ 1 1 [.int .i8 ct] rfl rfl (World.news_of_block (cs := #[.int .i8 ct]) (t := 25) (fr := (0, 0)) (heap_new _ _ _ (by simp))) (by simp [Value.oneCell']) (by omega) (by unfold maxLen; omega) (by omega) (by simp; omega) (w3.heap.size + 1) (by simp) ?_; intro g4 c4 u4 own4 gr4 at4 gl4; have q4 := gr4.cell (z4 _) hv4; have p4 := grown_free gr4 (by simp; omega) (y4 _) hv4)
  have s4 := hK4.push 3 (by omega) ⟨some ⟨g4, 0, none⟩, c4, (R4 3).l ++ [.int .i8 ct]⟩ (Keeps.alloc _ w3 _) gr4 (by simpa [Row.val, tyOf] using own4) (fun b e => by
    simp only [Row.val, Value.ownBlock, Option.some.injEq] at e
    subst e
    rcases at4 with e | e
    · exact .inl e
    · exact .inr (by omega))
  have e4 : (⟨some ⟨g4, 0, none⟩, c4, (R4 3).l ++ [.int .i8 ct]⟩ : Row).val = .slice (some ⟨g4, 0, none⟩) ((R4 3).l.length + 1) c4 := by simp [Row.val]
  rw [e4] at s4
  have t4 := t3.trans s4
  obtain ⟨R5, hR5⟩ : ∃ r, r = (fun j => if j = 3 then ⟨some ⟨g4, 0, none⟩, c4, (R4 3).l ++ [.int .i8 ct]⟩ else R4 j : Nat → Row) := ⟨_, rfl⟩
  obtain ⟨w4, hw4⟩ : ∃ x, x = u4.setCell ⟨K, 4, none⟩ (.slice (some ⟨g4, 0, none⟩) ((R4 3).l.length + 1) c4) := ⟨_, rfl⟩
  rw [← hw4, ← hR5] at t4
  rw [← hw4]
  have r4 : ∀ j, (R5 j).l = if j = 3 then (R4 3).l ++ [.int .i8 ct] else (R4 j).l := fun j => by rw [hR5]; by_cases e : j = 3 <;> simp [e]
  have r40 : R5 0 = R4 0 := by rw [hR5]; simp
  have m40 : (R5 0).l.length ≤ 100008 := by rw [r4 0]; simp; omega
  have m41 : (R5 1).l.length ≤ 100008 := by rw [r4 1]; simp; omega
  have m42 : (R5 2).l.length ≤ 100008 := by rw [r4 2]; simp; omega
  have m43 : (R5 3).l.length ≤ 100008 := by rw [r4 3]; simp; omega
  have m44 : (R5 4).l.length ≤ 100008 := by rw [r4 4]; simp; omega
  have HR4 : Hid (∀ j, (R5 j).l = if j = 3 then (R4 3).l ++ [.int .i8 ct] else (R4 j).l) := r4
  have HZ4 : Hid (R5 0 = R4 0) := r40
  clear hw4 hR5 s4 e4 t3 hK4 o4 d4 f4 z4 y4 own4 gr4 at4 gl4 q4 p4 r4 r40 hb4 lt4 hv4
  obtain ⟨cK5, hK5⟩ := t4.st
  have o5 := hK5.own 4 (by omega)
  have d5 : w4.cell? ⟨K, 5, none⟩ = some (.slice (R5 4).ao (R5 4).l.length (R5 4).cap) := (hK5.blk.cell 5).trans (hK5.cs 4 (by omega))
  have f5 := hK5.blk.free 5
  have lt5 := hK5.blk.lt
  have hb5 := hK5.hbase
  have hv5 : some K ≠ (Value.slice (R5 4).ao (R5 4).l.length (R5 4).cap).ownBlock := fun e => by have := hK5.lo (i := 4) (by omega) e.symm; have := hK5.lt; omega
  have z5 : ∀ ob : Obj, (w4.alloc ob).cell? ⟨K, 5, none⟩ = some (.slice (R5 4).ao (R5 4).l.length (R5 4).cap) := fun ob => cell_alloc' d5 ob
  have y5 : ∀ ob : Obj, (w4.alloc ob).frozen? ⟨K, 5, none⟩ = false := fun ob => free_alloc lt5 f5 ob
  go_wp2_with (at_builtin; refine wpList_append_lies _ rfl _ _ 29 rfl base 21 i21 _ 1 4 Yba.underlying29 hi21 hz21 hs21 hb21 rfl (by omega) (.slice (R5 4).ao (R5 4).l.length (R5 4).cap) (R5 4).l.length (R5 4).l rfl (World.ownsRow.alloc o5 _) ⟨w4.heap.size, 0, none⟩ 1 1 [.int .i32 (-1)] rfl rfl (World.news_of_block (cs := #[.int .i32 (-1)]) (t := 21) (fr := (0, 0)) (heap_new _ _ _ (by simp))) (by simp [Value.oneCell']) (by omega) (by unfold maxLen; omega) (by omega) (by simp; omega) (w4.heap.size + 1) (by simp) ?_; intro g5 c5 u5 own5 gr5 at5 gl5; have q5 := gr5.cell (z5 _) hv5; have p5 := grown_free gr5 (by simp; omega) (y5 _) hv5)
  have s5 := hK5.push 4 (by omega) ⟨some ⟨g5, 0, none⟩, c5, (R5 4).l ++ [.int .i32 (-1)]⟩ (Keeps.alloc _ w4 _) gr5 (by simpa [Row.val, tyOf] using own5) (fun b e => by
    simp only [Row.val, Value.ownBlock, Option.some.injEq] at e
    subst e
    rcases at5 with e | e
    · exact .inl e
    · exact .inr (by omega))
  have e5 : (⟨some ⟨g5, 0, none⟩, c5, (R5 4).l ++ [.int .i32 (-1)]⟩ : Row).val = .slice (some ⟨g5, 0, none⟩) ((R5 4).l.length + 1) c5 := by simp [Row.val]
  rw [e5] at s5
  have t5 := t4.trans s5
  have HT : Hid _ := t5
  clear t5 s5 e5 t4 hK5
  (first | go_end0 | refine bodyPost_ret (results_none rfl _ _ _) rfl ?_)
  refine ⟨rfl, _, HT.out, ?_⟩
  have h1 : ∀ j, (R2 j).l = _ := HR1.out
  have h2 : ∀ j, (R3 j).l = _ := HR2.out
  have h3 : ∀ j, (R4 j).l = _ := HR3.out
  have h4 : ∀ j, (R5 j).l = _ := HR4.out
  refine ⟨by simp [h1, h2, h3, h4], by simp [h1, h2, h3, h4], by simp [h1, h2, h3, h4], by simp [h1, h2, h3, h4], by simp [h1, h2, h3, h4], fun e => ?_⟩
  have z1 : R3 0 = R2 0 := HZ2.out
  have z2 : R4 0 = R3 0 := HZ3.out
  have z3 : R5 0 = R4 0 := HZ4.out
  simp only [show ¬ (0 = 4) by omega, if_false]
  rw [z3, z2, z1]
  first | exact HZZ.out e | exact HZZ.out trivial | exact HZZ.out rfl | exact HZZ.out

set_option maxHeartbeats 1000000 in
set_option maxRecDepth 100000 in
theorem add_zero (w : World) (K base W : Nat) (cK : Array Value) (R1 : Nat → Row) (hK : K5 w K base W cK R1) (ak : Addr) (ck : Nat) (pk : List Int) (hpk : pk.length = W) (hr : Reads w .u64 (some ak) pk) (h nx ct : Int) (hl : ∀ i, i < 5 → (R1 i).l.length ≤ 100000) (hW : W = 0) (hz : R1 0 = ⟨none, 0, []⟩) :
    Calls Yba.prog 4 #[.pointer (some ⟨K, 0, none⟩), .slice (some ak) W ck, .int .u64 h, .int .u32 nx, .int .i8 ct] w fun e w' => e = .returned (.tuple #[]) ∧ ∃ R', Turned w w' K base W R1 R' ∧ AddR R1 R' W pk h nx ct := by
  obtain ⟨i24, hi24, hz24, hs24, hb24⟩ := info_parts Yba.info24
  obtain ⟨i37, hi37, hz37, hs37, hb37⟩ := info_parts Yba.info37
  obtain ⟨i25, hi25, hz25, hs25, hb25⟩ := info_parts Yba.info25
  obtain ⟨i21, hi21, hz21, hs21, hb21⟩ := info_parts Yba.info21
  have m00 : (R1 0).l.length ≤ 100000 := hl 0 (by omega)
  have m01 : (R1 1).l.length ≤ 100000 := hl 1 (by omega)
  have m02 : (R1 2).l.length ≤ 100000 := hl 2 (by omega)
  have m03 : (R1 3).l.length ≤ 100000 := hl 3 (by omega)
  have m04 : (R1 4).l.length ≤ 100000 := hl 4 (by omega)
  clear hl
  have t0 := Turned.of_kept hK (Keeps.refl _ w)
  go_enter Yba.func4, Yba.ntmps4
  obtain rfl : pk = [] := List.eq_nil_of_length_eq_zero (by omega)
  have o1 := hK.own 0 (by omega)
  have c1 := hK.cs 0 (by omega)
  rw [hz] at o1 c1
  have d1 : w.cell? ⟨K, 1, none⟩ = some (.slice none 0 0) := (hK.blk.cell 1).trans c1
  have f1 := hK.blk.free 1
  have lt1 := hK.blk.lt
  have hb1 := hK.hbase
  have hv1 : some K ≠ (Value.slice none 0 0).ownBlock := by simp [Value.ownBlock]
  have hW : W = 0 := by simpa using hpk.symm
  subst hW
  go_upto_region 1 with (at_builtin; refine wpList_append_own _ rfl _ _ 23 rfl base 24 i24 _ 1 8 Yba.underlying23 hi24 hz24 hs24 hb24 rfl (by decide) (.slice none 0 0) 0 [] rfl o1 ak 0 ck [] rfl rfl (by simp) (by simp) (by unfold maxLen; omega) (by omega) (by omega) ?_; intro v1 u1 own1 gr1 n1; obtain rfl := n1.2 ⟨rfl, rfl⟩; have q1 := gr1.cell d1 hv1; have p1 := grown_free gr1 lt1 f1 hv1)
  have s1 := hK.push 0 (by omega) ⟨none, 0, []⟩ (Keeps.refl _ w) (by rw [hz]; exact gr1) (by simpa [Row.val, tyOf] using own1) (fun b e => by simp [Row.val, Value.ownBlock] at e)
  have e1 : (⟨none, 0, []⟩ : Row).val = .slice none 0 0 := rfl
  rw [e1] at s1
  have t1 := t0.trans s1
  obtain ⟨R2, hR2⟩ : ∃ r, r = (fun j => if j = 0 then ⟨none, 0, []⟩ else R1 j : Nat → Row) := ⟨_, rfl⟩
  obtain ⟨w1, hw1⟩ : ∃ x, x = u1.setCell ⟨K, 1, none⟩ (.slice none 0 0) := ⟨_, rfl⟩
  rw [← hw1, ← hR2] at t1
  rw [← hw1]
  have HR1 : Hid (∀ j, (R2 j).l = if j = 0 then (R1 0).l ++ ints .u64 [] else (R1 j).l) := fun j => by rw [hR2]; by_cases e : j = 0 <;> simp [e, hz, ints]
  have HZZ : Hid ((0 : Nat) = 0 → R2 0 = ⟨none, 0, []⟩) := fun _ => by rw [hR2]; simp
  have m10 : (R2 0).l.length ≤ 100004 := by rw [HR1.out 0]; simp [ints]; omega
  have m11 : (R2 1).l.length ≤ 100004 := by rw [HR1.out 1]; simp; omega
  have m12 : (R2 2).l.length ≤ 100004 := by rw [HR1.out 2]; simp; omega
  have m13 : (R2 3).l.length ≤ 100004 := by rw [HR1.out 3]; simp; omega
  have m14 : (R2 4).l.length ≤ 100004 := by rw [HR1.out 4]; simp; omega
  clear hw1 hR2 s1 e1 t0 hK o1 d1 f1 own1 gr1 q1 p1 hb1 lt1 hv1 hz c1
  obtain ⟨cK2, hK2⟩ := t1.st
  have o2 := hK2.own 1 (by omega)
  have d2 : w1.cell? ⟨K, 2, none⟩ = some (.slice (R2 1).ao (R2 1).l.length (R2 1).cap) := (hK2.blk.cell 2).trans (hK2.cs 1 (by omega))
  have f2 := hK2.blk.free 2
  have lt2 := hK2.blk.lt
  have hb2 := hK2.hbase
  have hv2 : some K ≠ (Value.slice (R2 1).ao (R2 1).l.length (R2 1).cap).ownBlock := fun e => by have := hK2.lo (i := 1) (by omega) e.symm; have := hK2.lt; omega
  have z2 : ∀ ob : Obj, (w1.alloc ob).cell? ⟨K, 2, none⟩ = some (.slice (R2 1).ao (R2 1).l.length (R2 1).cap) := fun ob => cell_alloc' d2 ob
  have y2 : ∀ ob : Obj, (w1.alloc ob).frozen? ⟨K, 2, none⟩ = false := fun ob => free_alloc lt2 f2 ob
  go_upto_region 2 with (at_builtin; refine wpList_append_lies _ rfl _ _ 23 rfl base 24 i24 _ 1 8 Yba.underlying23 hi24 hz24 hs24 hb24 rfl (by omega) (.slice (R2 1).ao (R2 1).l.length (R2 1).cap) (R2 1).l.length (R2 1).l rfl (World.ownsRow.alloc o2 _) ⟨w1.heap.size, 0, none⟩ 1 1 [.int .u64 h] rfl rfl (World.news_of_block (cs := #[.int .u64 h]) (t := 24) (fr := (0, 0)) (heap_new _ _ _ (by simp))) (by simp [Value.oneCell']) (by omega) (by unfold maxLen; omega) (by omega) (by simp; omega) (w1.heap.size + 1) (by simp) ?_; intro g2 c2 u2 own2 gr2 at2 gl2; have q2 := gr2.cell (z2 _) hv2; have p2 := grown_free gr2 (by simp; omega) (y2 _) hv2)
  have s2 := hK2.push 1 (by omega) ⟨some ⟨g2, 0, none⟩, c2, (R2 1).l ++ [.int .u64 h]⟩ (Keeps.alloc _ w1 _) gr2 (by simpa [Row.val, tyOf] using own2) (fun b e => by
    simp only [Row.val, Value.ownBlock, Option.some.injEq] at e
    subst e
    rcases at2 with e | e
    · exact .inl e
    · exact .inr (by omega))
  have e2 : (⟨some ⟨g2, 0, none⟩, c2, (R2 1).l ++ [.int .u64 h]⟩ : Row).val = .slice (some ⟨g2, 0, none⟩) ((R2 1).l.length + 1) c2 := by simp [Row.val]
  rw [e2] at s2
  have t2 := t1.trans s2
  obtain ⟨R3, hR3⟩ : ∃ r, r = (fun j => if j = 1 then ⟨some ⟨g2, 0, none⟩, c2, (R2 1).l ++ [.int .u64 h]⟩ else R2 j : Nat → Row) := ⟨_, rfl⟩
  obtain ⟨w2, hw2⟩ : ∃ x, x = u2.setCell ⟨K, 2, none⟩ (.slice (some ⟨g2, 0, none⟩) ((R2 1).l.length + 1) c2) := ⟨_, rfl⟩
  rw [← hw2, ← hR3] at t2
  rw [← hw2]
  have r2 : ∀ j, (R3 j).l = if j = 1 then (R2 1).l ++ [.int .u64 h] else (R2 j).l := fun j => by rw [hR3]; by_cases e : j = 1 <;> simp [e]
  have r20 : R3 0 = R2 0 := by rw [hR3]; simp
  have m20 : (R3 0).l.length ≤ 100006 := by rw [r2 0]; simp; omega
  have m21 : (R3 1).l.length ≤ 100006 := by rw [r2 1]; simp; omega
  have m22 : (R3 2).l.length ≤ 100006 := by rw [r2 2]; simp; omega
  have m23 : (R3 3).l.length ≤ 100006 := by rw [r2 3]; simp; omega
  have m24 : (R3 4).l.length ≤ 100006 := by rw [r2 4]; simp; omega
  have HR2 : Hid (∀ j, (R3 j).l = if j = 1 then (R2 1).l ++ [.int .u64 h] else (R2 j).l) := r2
  have HZ2 : Hid (R3 0 = R2 0) := r20
  clear hw2 hR3 s2 e2 t1 hK2 o2 d2 f2 z2 y2 own2 gr2 at2 gl2 q2 p2 r2 r20 hb2 lt2 hv2
  obtain ⟨cK3, hK3⟩ := t2.st
  have o3 := hK3.own 2 (by omega)
  have d3 : w2.cell? ⟨K, 3, none⟩ = some (.slice (R3 2).ao (R3 2).l.length (R3 2).cap) := (hK3.blk.cell 3).trans (hK3.cs 2 (by omega))
  have f3 := hK3.blk.free 3
  have lt3 := hK3.blk.lt
  have hb3 := hK3.hbase
  have hv3 : some K ≠ (Value.slice (R3 2).ao (R3 2).l.length (R3 2).cap).ownBlock := fun e => by have := hK3.lo (i := 2) (by omega) e.symm; have := hK3.lt; omega
  have z3 : ∀ ob : Obj, (w2.alloc ob).cell? ⟨K, 3, none⟩ = some (.slice (R3 2).ao (R3 2).l.length (R3 2).cap) := fun ob => cell_alloc' d3 ob
  have y3 : ∀ ob : Obj, (w2.alloc ob).frozen? ⟨K, 3, none⟩ = false := fun ob => free_alloc lt3 f3 ob
  go_upto_region 3 with (at_builtin; refine wpList_append_lies _ rfl _ _ 27 rfl base 37 i37 _ 1 4 Yba.underlying27 hi37 hz37 hs37 hb37 rfl (by omega) (.slice (R3 2).ao (R3 2).l.length (R3 2).cap) (R3 2).l.length (R3 2).l rfl (World.ownsRow.alloc o3 _) ⟨w2.heap.size, 0, none⟩ 1 1 [.int .u32 nx] rfl rfl (World.news_of_block (cs := #[.int .u32 nx]) (t := 37) (fr := (0, 0)) (heap_new _ _ _ (by simp))) (by simp [Value.oneCell']) (by omega) (by unfold maxLen; omega) (by omega) (by simp; omega) (w2.heap.size + 1) (by simp) ?_; intro g3 c3 u3 own3 gr3 at3 gl3; have q3 := gr3.cell (z3 _) hv3; have p3 := grown_free gr3 (by simp; omega) (y3 _) hv3)
  have s3 := hK3.push 2 (by omega) ⟨some ⟨g3, 0, none⟩, c3, (R3 2).l ++ [.int .u32 nx]⟩ (Keeps.alloc _ w2 _) gr3 (by simpa [Row.val, tyOf] using own3) (fun b e => by
    simp only [Row.val, Value.ownBlock, Option.some.injEq] at e
    subst e
    rcases at3 with e | e
    · exact .inl e
    · exact .inr (by omega))
  have e3 : (⟨some ⟨g3, 0, none⟩, c3, (R3 2).l ++ [.int .u32 nx]⟩ : Row).val = .slice (some ⟨g3, 0, none⟩) ((R3 2).l.length + 1) c3 := by simp [Row.val]
  rw [e3] at s3
  have t3 := t2.trans s3
  obtain ⟨R4, hR4⟩ : ∃ r, r = (fun j => if j = 2 then ⟨some ⟨g3, 0, none⟩, c3, (R3 2).l ++ [.int .u32 nx]⟩ else R3 j : Nat → Row) := ⟨_, rfl⟩
  obtain ⟨w3, hw3⟩ : ∃ x, x = u3.setCell ⟨K, 3, none⟩ (.slice (some ⟨g3, 0, none⟩) ((R3 2).l.length + 1) c3) := ⟨_, rfl⟩
  rw [← hw3, ← hR4] at t3
  rw [← hw3]
  have r3 : ∀ j, (R4 j).l = if j = 2 then (R3 2).l ++ [.int .u32 nx] else (R3 j).l := fun j => by rw [hR4]; by_cases e : j = 2 <;> simp [e]
  have r30 : R4 0 = R3 0 := by rw [hR4]; simp
  have m30 : (R4 0).l.length ≤ 100007 := by rw [r3 0]; simp; omega
  have m31 : (R4 1).l.length ≤ 100007 := by rw [r3 1]; simp; omega
  have m32 : (R4 2).l.length ≤ 100007 := by rw [r3 2]; simp; omega
  have m33 : (R4 3).l.length ≤ 100007 := by rw [r3 3]; simp; omega
  have m34 : (R4 4).l.length ≤ 100007 := by rw [r3 4]; simp; omega
  have HR3 : Hid (∀ j, (R4 j).l = if j = 2 then (R3 2).l ++ [.int .u32 nx] else (R3 j).l) := r3
  have HZ3 : Hid (R4 0 = R3 0) := r30
  clear hw3 hR4 s3 e3 t2 hK3 o3 d3 f3 z3 y3 own3 gr3 at3 gl3 q3 p3 r3 r30 hb3 lt3 hv3
  obtain ⟨cK4, hK4⟩ := t3.st
  have o4 := hK4.own 3 (by omega)
  have d4 : w3.cell? ⟨K, 4, none⟩ = some (.slice (R4 3).ao (R4 3).l.length (R4 3).cap) := (hK4.blk.cell 4).trans (hK4.cs 3 (by omega))
  have f4 := hK4.blk.free 4
  have lt4 := hK4.blk.lt
  have hb4 := hK4.hbase
  have hv4 : some K ≠ (Value.slice (R4 3).ao (R4 3).l.length (R4 3).cap).ownBlock := fun e => by have := hK4.lo (i := 3) (by omega) e.symm; have := hK4.lt; omega
  have z4 : ∀ ob : Obj, (w3.alloc ob).cell? ⟨K, 4, none⟩ = some (.slice (R4 3).ao (R4 3).l.length (R4 3).cap) := fun ob => cell_alloc' d4 ob
  have y4 : ∀ ob : Obj, (w3.alloc ob).frozen? ⟨K, 4, none⟩ = false := fun ob => free_alloc lt4 f4 ob
  go_upto_region 4 with (at_builtin; refine wpList_append_lies _ rfl _ _ 28 rfl base 25 i25 _ 1 1 Yba.underlying28 hi25 hz25 hs25 hb25 rfl (by omega) (.slice (R4 3).ao (R4 3).l.length (R4 3).cap) (R4 3).l.length (R4 3).l rfl (World.ownsRow.alloc o4 _) ⟨w3.heap.size, 0, none⟩ 1 1 [.int .i8 ct] rfl rfl (World.news_of_block (cs := #[.int .i8 ct]) (t := 25) (fr := (0, 0)) (heap_new _ _ _ (by simp))) (by simp [Value.oneCell']) (by omega) (by unfold maxLen; omega) (by omega) (by simp; omega) (w3.heap.size + 1) (by simp) ?_; intro g4 c4 u4 own4 gr4 at4 gl4; have q4 := gr4.cell (z4 _) hv4; have p4 := grown_free gr4 (by simp; omega) (y4 _) hv4)
  have s4 := hK4.push 3 (by omega) ⟨some ⟨g4, 0, none⟩, c4, (R4 3).l ++ [.int .i8 ct]⟩ (Keeps.alloc _ w3 _) gr4 (by simpa [Row.val, tyOf] using own4) (fun b e => by
    simp only [Row.val, Value.ownBlock, Option.some.injEq] at e
    subst e
    rcases at4 with e | e
    · exact .inl e
    · exact .inr (by omega))
  have e4 : (⟨some ⟨g4, 0, none⟩, c4, (R4 3).l ++ [.int .i8 ct]⟩ : Row).val = .slice (some ⟨g4, 0, none⟩) ((R4 3).l.length + 1) c4 := by simp [Row.val]
  rw [e4] at s4
  have t4 := t3.trans s4
  obtain ⟨R5, hR5⟩ : ∃ r, r = (fun j => if j = 3 then ⟨some ⟨g4, 0, none⟩, c4, (R4 3).l ++ [.int .i8 ct]⟩ else R4 j : Nat → Row) := ⟨_, rfl⟩
  obtain ⟨w4, hw4⟩ : ∃ x, x = u4.setCell ⟨K, 4, none⟩ (.slice (some ⟨g4, 0, none⟩) ((R4 3).l.length + 1) c4) := ⟨_, rfl⟩
  rw [← hw4, ← hR5] at t4
  rw [← hw4]
  have r4 : ∀ j, (R5 j).l = if j = 3 then (R4 3).l ++ [.int .i8 ct] else (R4 j).l := fun j => by rw [hR5]; by_cases e : j = 3 <;> simp [e]
  have r40 : R5 0 = R4 0 := by rw [hR5]; simp
  have m40 : (R5 0).l.length ≤ 100008 := by rw [r4 0]; simp; omega
  have m41 : (R5 1).l.length ≤ 100008 := by rw [r4 1]; simp; omega
  have m42 : (R5 2).l.length ≤ 100008 := by rw [r4 2]; simp; omega
  have m43 : (R5 3).l.length ≤ 100008 := by rw [r4 3]; simp; omega
  have m44 : (R5 4).l.length ≤ 100008 := by rw [r4 4]; simp; omega
  have HR4 : Hid (∀ j, (R5 j).l = if j = 3 then (R4 3).l ++ [.int .i8 ct] else (R4 j).l) := r4
  have HZ4 : Hid (R5 0 = R4 0) := r40
  clear hw4 hR5 s4 e4 t3 hK4 o4 d4 f4 z4 y4 own4 gr4 at4 gl4 q4 p4 r4 r40 hb4 lt4 hv4
  obtain ⟨cK5, hK5⟩ := t4.st
  have o5 := hK5.own 4 (by omega)
  have d5 : w4.cell? ⟨K, 5, none⟩ = some (.slice (R5 4).ao (R5 4).l.length (R5 4).cap) := (hK5.blk.cell 5).trans (hK5.cs 4 (by omega))
  have f5 := hK5.blk.free 5
  have lt5 := hK5.blk.lt
  have hb5 := hK5.hbase
  have hv5 : some K ≠ (Value.slice (R5 4).ao (R5 4).l.length (R5 4).cap).ownBlock := fun e => by have := hK5.lo (i := 4) (by omega) e.symm; have := hK5.lt; omega
  have z5 : ∀ ob : Obj, (w4.alloc ob).cell? ⟨K, 5, none⟩ = some (.slice (R5 4).ao (R5 4).l.length (R5 4).cap) := fun ob => cell_alloc' d5 ob
  have y5 : ∀ ob : Obj, (w4.alloc ob).frozen? ⟨K, 5, none⟩ = false := fun ob => free_alloc lt5 f5 ob
  go_wp2_with (at_builtin; refine wpList_append_lies _ rfl _ _ 29 rfl base 21 i21 _ 1 4 Yba.underlying29 hi21 hz21 hs21 hb21 rfl (by omega) (.slice (R5 4).ao (R5 4).l.length (R5 4).cap) (R5 4).l.length (R5 4).l rfl (World.ownsRow.alloc o5 _) ⟨w4.heap.size, 0, none⟩ 1 1 [.int .i32 (-1)] rfl rfl (World.news_of_block (cs := #[.int .i32 (-1)]) (t := 21) (fr := (0, 0)) (heap_new _ _ _ (by simp))) (by simp [Value.oneCell']) (by omega) (by unfold maxLen; omega) (by omega) (by simp; omega) (w4.heap.size + 1) (by simp) ?_; intro g5 c5 u5 own5 gr5 at5 gl5; have q5 := gr5.cell (z5 _) hv5; have p5 := grown_free gr5 (by simp; omega) (y5 _) hv5)
  have s5 := hK5.push 4 (by omega) ⟨some ⟨g5, 0, none⟩, c5, (R5 4).l ++ [.int .i32 (-1)]⟩ (Keeps.alloc _ w4 _) gr5 (by simpa [Row.val, tyOf] using own5) (fun b e => by
    simp only [Row.val, Value.ownBlock, Option.some.injEq] at e
    subst e
    rcases at5 with e | e
    · exact .inl e
    · exact .inr (by omega))
  have e5 : (⟨some ⟨g5, 0, none⟩, c5, (R5 4).l ++ [.int .i32 (-1)]⟩ : Row).val = .slice (some ⟨g5, 0, none⟩) ((R5 4).l.length + 1) c5 := by simp [Row.val]
  rw [e5] at s5
  have t5 := t4.trans s5
  have HT : Hid _ := t5
  clear t5 s5 e5 t4 hK5
  (first | go_end0 | refine bodyPost_ret (results_none rfl _ _ _) rfl ?_)
  refine ⟨rfl, _, HT.out, ?_⟩
  have h1 : ∀ j, (R2 j).l = _ := HR1.out
  have h2 : ∀ j, (R3 j).l = _ := HR2.out
  have h3 : ∀ j, (R4 j).l = _ := HR3.out
  have h4 : ∀ j, (R5 j).l = _ := HR4.out
  refine ⟨by simp [h1, h2, h3, h4], by simp [h1, h2, h3, h4], by simp [h1, h2, h3, h4], by simp [h1, h2, h3, h4], by simp [h1, h2, h3, h4], fun e => ?_⟩
  have z1 : R3 0 = R2 0 := HZ2.out
  have z2 : R4 0 = R3 0 := HZ3.out
  have z3 : R5 0 = R4 0 := HZ4.out
  simp only [show ¬ (0 = 4) by omega, if_false]
  rw [z3, z2, z1]
  first | exact HZZ.out e | exact HZZ.out trivial | exact HZZ.out rfl | exact HZZ.out

theorem add_any (w : World) (K base W : Nat) (cK : Array Value) (R1 : Nat → Row) (hK : K5 w K base W cK R1) (ak : Addr) (ck : Nat) (pk : List Int) (hpk : pk.length = W) (hr : Reads w .u64 (some ak) pk) (h nx ct : Int) (hl : ∀ i, i < 5 → (R1 i).l.length ≤ 100000) (hW4 : W ≤ 4) (hz : W = 0 → R1 0 = ⟨none, 0, []⟩) :
    Calls Yba.prog 4 #[.pointer (some ⟨K, 0, none⟩), .slice (some ak) W ck, .int .u64 h, .int .u32 nx, .int .i8 ct] w fun e w' => e = .returned (.tuple #[]) ∧ ∃ R', Turned w w' K base W R1 R' ∧ AddR R1 R' W pk h nx ct := by
  by_cases hW : W = 0
  · exact add_zero w K base W cK R1 hK ak ck pk hpk hr h nx ct hl hW (hz hW)
  · exact add_pos w K base W cK R1 hK ak ck pk hpk hr h nx ct hl (by omega) hW4
end Go.Proofs.Ybulkdyci
