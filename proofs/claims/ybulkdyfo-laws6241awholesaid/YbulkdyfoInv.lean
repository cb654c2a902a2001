/-
  The plain law of the queue: the heap stays a heap under 'Push', and the first key is the lower of the old one and the new one.
-/
import Derived.Test.YbulkdyfoKey
namespace Go.Proofs.Ybulkdyfo
open Go.RowKit

/-- No item's key is below its parent's. -/
def HeapP (h : List Itm) : Prop := ∀ k a b, 0 < k → h[(k - 1) / 2]? = some a → h[k]? = some b → a.key ≤ b.key

theorem ltI_le {a b : Itm} (h : ltI a b = true) : a.key ≤ b.key := by
  simp [ltI] at h
  omega
theorem ltI_ge {a b : Itm} (h : ltI a b = false) : b.key ≤ a.key := by
  simp [ltI] at h
  omega

theorem HeapP.root {h : List Itm} (hp : HeapP h) {r : Itm} (hr : h[0]? = some r) : ∀ (k : Nat) (b : Itm), h[k]? = some b → r.key ≤ b.key := by
  intro k
  induction k using Nat.strongRecOn with
  | _ k ih =>
    intro b hb
    rcases Nat.eq_zero_or_pos k with rfl | hk
    · rw [hr] at hb; cases hb; omega
    · obtain ⟨a, ha⟩ : ∃ a, h[(k - 1) / 2]? = some a := by
        have := (List.getElem?_eq_some_iff.1 hb).1
        exact ⟨h[(k - 1) / 2]'(by omega), by simp⟩
      have := ih ((k - 1) / 2) (by omega) a ha
      have := hp k a b hk ha hb
      omega

/-- A heap but for the item x at the hole i. -/
structure J (h : List Itm) (i : Nat) (x : Itm) : Prop where
  a1 : ∀ k a b, 0 < k → k ≠ i → (h.set i x)[(k - 1) / 2]? = some a → (h.set i x)[k]? = some b → a.key ≤ b.key
  a2 : ∀ k a b, 0 < k → (k - 1) / 2 = i → 0 < i → h[(i - 1) / 2]? = some a → h[k]? = some b → a.key ≤ b.key

theorem set_at {h : List Itm} {i : Nat} {x : Itm} (hi : i < h.length) (k : Nat) : (h.set i x)[k]? = if k = i then some x else h[k]? := by
  rw [List.getElem?_set]
  by_cases hk : i = k
  · subst hk; simp [hi]
  · rw [if_neg hk, if_neg (Ne.symm hk)]

theorem J.move {h : List Itm} {i : Nat} {x p : Itm} (j : J h i x) (hi : 0 < i) (hil : i < h.length) (hp : h[(i - 1) / 2]? = some p) (hl : x.key ≤ p.key) : J (h.set i p) ((i - 1) / 2) x := by
  have hq : (i - 1) / 2 < (h.set i p).length := by simp; omega
  have g : ∀ k, ((h.set i p).set ((i - 1) / 2) x)[k]? = if k = (i - 1) / 2 then some x else if k = i then some p else h[k]? := fun k => by rw [set_at hq, set_at hil]
  have g1 : ∀ k, (h.set i x)[k]? = if k = i then some x else h[k]? := set_at hil
  have a1 := j.a1
  have a2 := j.a2
  refine ⟨?_, ?_⟩
  · intro k a b hk hkq ha hb
    rw [g] at ha hb
    rw [if_neg hkq] at hb
    by_cases hki : k = i
    · subst hki
      rw [if_pos rfl] at ha hb
      cases ha; cases hb; exact hl
    · rw [if_neg hki] at hb
      by_cases h1 : (k - 1) / 2 = (i - 1) / 2
      · rw [if_pos h1] at ha
        cases ha
        have := a1 k p b hk hki (by rw [g1, if_neg (by omega), h1]; exact hp) (by rw [g1, if_neg hki]; exact hb)
        omega
      · rw [if_neg h1] at ha
        by_cases h2 : (k - 1) / 2 = i
        · rw [if_pos h2] at ha
          cases ha
          exact a2 k _ b hk h2 hi hp hb
        · rw [if_neg h2] at ha
          exact a1 k a b hk hki (by rw [g1, if_neg h2]; exact ha) (by rw [g1, if_neg hki]; exact hb)
  · intro k a b hk hkq hq0 ha hb
    rw [set_at hil, if_neg (by omega)] at ha
    rw [set_at hil] at hb
    have h3 := a1 ((i - 1) / 2) a p hq0 (by omega) (by rw [g1, if_neg (by omega)]; exact ha) (by rw [g1, if_neg (by omega)]; exact hp)
    by_cases hki : k = i
    · rw [if_pos hki] at hb; cases hb; exact h3
    · rw [if_neg hki] at hb
      have := a1 k p b hk hki (by rw [g1, if_neg (by omega), hkq]; exact hp) (by rw [g1, if_neg hki]; exact hb)
      omega

theorem sift_heap : ∀ (f : Nat) (h : List Itm) (i : Nat) (x : Itm), i ≤ f → i < h.length → J h i x → HeapP (siftUp f h i x) := by
  intro f
  induction f with
  | zero =>
    intro h i x hif hil j
    obtain rfl : i = 0 := by omega
    exact fun k a b hk ha hb => j.a1 k a b hk (by omega) ha hb
  | succ f ih =>
    intro h i x hif hil j
    simp only [siftUp]
    split
    · rename_i hc
      obtain ⟨hi, hl⟩ := hc
      have hp : h[(i - 1) / 2]? = some (h.getD ((i - 1) / 2) x) := by
        rw [List.getD_eq_getElem?_getD, List.getElem?_eq_getElem (by omega)]; simp
      exact ih _ _ _ (by omega) (by simp; omega) (j.move hi hil hp (ltI_le hl))
    · rename_i hc
      intro k a b hk ha hb
      by_cases hki : k = i
      · subst hki
        rw [set_at hil, if_neg (by omega)] at ha
        rw [set_at hil, if_pos rfl] at hb
        cases hb
        have hd : h.getD ((k - 1) / 2) x = a := by rw [List.getD_eq_getElem?_getD, ha]; rfl
        rw [hd] at hc
        refine ltI_ge ?_
        cases hv : ltI x a
        · rfl
        · exact absurd ⟨hk, hv⟩ hc
      · exact j.a1 k a b hk hki ha hb

/-- Behind the sift the root is the old one, or x; and x lies in the heap. -/
theorem sift_root : ∀ (f : Nat) (h : List Itm) (i : Nat) (x : Itm), i ≤ f → i < h.length →
    (∃ k : Nat, (siftUp f h i x)[k]? = some x) ∧ ((0 < i ∧ (siftUp f h i x)[0]? = h[0]?) ∨ ((siftUp f h i x)[0]? = some x ∧ (0 < i → ∀ r, h[0]? = some r → x.key ≤ r.key))) := by
  intro f
  induction f with
  | zero =>
    intro h i x hif hil
    obtain rfl : i = 0 := by omega
    have e : (siftUp 0 h 0 x)[0]? = some x := by simp only [siftUp]; rw [set_at hil]; simp
    exact ⟨⟨0, e⟩, .inr ⟨e, fun hh => absurd hh (by omega)⟩⟩
  | succ f ih =>
    intro h i x hif hil
    simp only [siftUp]
    split
    · rename_i hc
      obtain ⟨hi, hl⟩ := hc
      have hp : h[(i - 1) / 2]? = some (h.getD ((i - 1) / 2) x) := by
        rw [List.getD_eq_getElem?_getD, List.getElem?_eq_getElem (by omega)]; simp
      obtain ⟨r1, r2⟩ := ih (h.set i (h.getD ((i - 1) / 2) x)) ((i - 1) / 2) x (by omega) (by simp; omega)
      have e0 : (h.set i (h.getD ((i - 1) / 2) x))[0]? = h[0]? := by rw [set_at hil, if_neg (by omega)]
      rw [e0] at r2
      refine ⟨r1, ?_⟩
      rcases r2 with ⟨_, r⟩ | ⟨r, r'⟩
      · exact .inl ⟨hi, r⟩
      · refine .inr ⟨r, fun _ r0 hr0 => ?_⟩
        rcases Nat.eq_zero_or_pos ((i - 1) / 2) with hz | hz
        · have e : r0 = h.getD ((i - 1) / 2) x := Option.some.inj (by rw [← hr0, ← hp, hz])
          rw [e]
          exact ltI_le hl
        · exact r' hz r0 hr0
    · refine ⟨⟨i, by rw [set_at hil, if_pos rfl]⟩, ?_⟩
      rcases Nat.eq_zero_or_pos i with rfl | hi
      · exact .inr ⟨by rw [set_at hil, if_pos rfl], fun hh => absurd hh (by omega)⟩
      · exact .inl ⟨hi, by rw [set_at hil, if_neg (by omega)]⟩

/-- What the law knows of a queue with head 0: its length, its counter, its first key. -/
structure Inv (run heap : List Itm) (pushed cnt : Nat) (mn : Int) : Prop where
  len : run.length + heap.length = cnt
  pu : pushed = cnt
  ne : run = [] → heap = []
  fl : ∀ a b, run[0]? = some a → run[run.length - 1]? = some b → a.key ≤ b.key
  hp : HeapP heap
  key : 0 < cnt → qkey 0 run heap = mn

def newmin (cnt : Nat) (mn key : Int) : Int := if cnt = 0 ∨ key < mn then key else mn

/-- The first key is the lower one of the run's first and the heap's root. -/
theorem qkey_lower {run heap : List Itm} {a : Itm} (ha : run[0]? = some a) :
    (heap = [] ∧ qkey 0 run heap = a.key) ∨ ∃ r, heap[0]? = some r ∧ ((qkey 0 run heap = a.key ∧ a.key ≤ r.key) ∨ (qkey 0 run heap = r.key ∧ r.key ≤ a.key)) := by
  cases heap with
  | nil => exact .inl ⟨rfl, by simp [qkey, fromRun, ha]⟩
  | cons r t =>
    refine .inr ⟨r, by simp, ?_⟩
    have e0 : (r :: t)[0]? = some r := by simp
    cases hl : ltI a r
    · exact .inr ⟨by simp only [qkey, fromRun, ha, e0, hl]; simp, ltI_ge hl⟩
    · exact .inl ⟨by simp only [qkey, fromRun, ha, e0, hl]; simp, ltI_le hl⟩

theorem Inv.start : Inv [] [] 0 0 0 := ⟨rfl, rfl, fun _ => rfl, by simp, by intro k a b _ h; simp at h, by omega⟩

theorem Inv.toRun {run heap : List Itm} {pushed cnt : Nat} {mn : Int} (h : Inv run heap pushed cnt mn) (x : Itm) (hx : run = [] ∨ ∃ b, run[run.length - 1]? = some b ∧ b.key ≤ x.key) :
    Inv (run ++ [x]) heap (pushed + 1) (cnt + 1) (newmin cnt mn x.key) := by
  have hlen := h.len
  refine ⟨by simp; omega, by have := h.pu; omega, fun e => by simp at e, ?_, h.hp, fun _ => ?_⟩
  · intro a b ha hb
    have e : b = x := by simp at hb; exact hb.symm
    subst e
    rcases hx with rfl | ⟨c, hc, hcx⟩
    · simp at ha; subst ha; omega
    · have hpos := (List.getElem?_eq_some_iff.1 hc).1
      rw [List.getElem?_append_left (by omega)] at ha
      have := h.fl a c ha hc
      omega
  · rcases hx with rfl | ⟨c, hc, hcx⟩
    · have hh := h.ne rfl
      subst hh
      have hc0 : cnt = 0 := by simp at hlen; omega
      subst hc0
      simp [newmin, qkey, fromRun]
    · have hpos := (List.getElem?_eq_some_iff.1 hc).1
      obtain ⟨a, ha⟩ : ∃ a, run[0]? = some a := ⟨run[0]'(by omega), by simp⟩
      have ha' : (run ++ [x])[0]? = some a := by rw [List.getElem?_append_left (by omega)]; exact ha
      have h1 := h.fl a c ha hc
      have hk := h.key (by omega)
      have e : qkey 0 (run ++ [x]) heap = qkey 0 run heap := by simp only [qkey, fromRun, ha, ha']
      have hle : mn ≤ a.key := by
        rcases qkey_lower (heap := heap) ha with ⟨_, e1⟩ | ⟨r, _, ⟨e1, _⟩ | ⟨e1, _⟩⟩ <;> omega
      rw [e, hk, newmin, if_neg (by omega)]

theorem Inv.toHeap {run heap : List Itm} {pushed cnt : Nat} {mn : Int} (h : Inv run heap pushed cnt mn) (x c : Itm) (hc : run[run.length - 1]? = some c) :
    Inv run (siftUp heap.length (heap ++ [x]) heap.length x) (pushed + 1) (cnt + 1) (newmin cnt mn x.key) := by
  have hlen := h.len
  have hpos := (List.getElem?_eq_some_iff.1 hc).1
  obtain ⟨a, ha⟩ : ∃ a, run[0]? = some a := ⟨run[0]'(by omega), by simp⟩
  have hj : J (heap ++ [x]) heap.length x := by
    have e : (heap ++ [x]).set heap.length x = heap ++ [x] := by simp
    refine ⟨?_, ?_⟩
    · rw [e]
      intro k a b hk hkm ha hb
      have hkl := (List.getElem?_eq_some_iff.1 hb).1
      simp at hkl
      rw [List.getElem?_append_left (by omega)] at ha hb
      exact h.hp k a b hk ha hb
    · intro k a b hk hkm hm ha hb
      have hkl := (List.getElem?_eq_some_iff.1 hb).1
      simp at hkl
      omega
  have hH := sift_heap heap.length (heap ++ [x]) heap.length x (Nat.le_refl _) (by simp) hj
  obtain ⟨⟨kx, hx⟩, hroot⟩ := sift_root heap.length (heap ++ [x]) heap.length x (Nat.le_refl _) (by simp)
  refine ⟨by rw [siftUp_len]; simp; omega, by have := h.pu; omega, fun e => by subst e; simp at hpos, h.fl, hH, fun _ => ?_⟩
  have hk := h.key (by omega)
  rw [newmin]
  have key : ∀ r', (siftUp heap.length (heap ++ [x]) heap.length x)[0]? = some r' → r'.key ≤ x.key := fun r' hr' => hH.root hr' kx x hx
  rcases qkey_lower (heap := siftUp heap.length (heap ++ [x]) heap.length x) ha with ⟨e0, _⟩ | ⟨r', hr', hq⟩
  · rw [e0] at hx; simp at hx
  · have k1 := key r' hr'
    rcases hroot with ⟨hm, hr0⟩ | ⟨hrx, hle⟩
    · rw [hr', List.getElem?_append_left hm] at hr0
      rcases qkey_lower (heap := heap) ha with ⟨e0, _⟩ | ⟨r, hr, hq0⟩
      · subst e0; simp at hm
      · rw [hr] at hr0
        have e : r' = r := Option.some.inj hr0
        subst e
        have e2 : ¬ (cnt = 0 ∨ x.key < mn) := by omega
        rw [if_neg e2]
        omega
    · rw [hr'] at hrx
      have e : r' = x := Option.some.inj hrx
      subst e
      rcases qkey_lower (heap := heap) ha with ⟨e0, e1⟩ | ⟨r, hr, hq0⟩
      · split <;> omega
      · have hm : 0 < heap.length := (List.getElem?_eq_some_iff.1 hr).1
        have := hle hm r (by rw [List.getElem?_append_left hm]; exact hr)
        split <;> omega
end Go.Proofs.Ybulkdyfo
