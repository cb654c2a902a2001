import Derived.Test.YbulkdyfoCheck
import Derived.Deep.RegionHeld3
namespace Go.Proofs.Ybulkdyfo
open Go.RowKit

theorem methCount (a : Addr) (w : World) : (method 232 66 (.pointer (some a)) "Count").run Yba.prog w = .ok (34, .pointer (some a)) w := by kernel_rfl

theorem cell_alloc {w : World} {a : Addr} {v : Value} (h : w.cell? a = some v) (o : Obj) : (w.alloc o).cell? a = some v :=
  (World.cell?_of_block (Below.heap_alloc w o a.block (World.block_lt_of_cell? w a h))).trans h

theorem called_free {w w' : World} {R j : Nat} {cR : Array Value} {o : Obj} {a : Addr} (hC : Called (w.alloc o).drew w' R cR j) (hlt : a.block < w.heap.size) (h : w.frozen? a = false) (hne : a.block ≠ R) : w'.frozen? a = false := by
  rw [World.frozen?_of_block (w := (w.alloc o).drew) (hC.kept.block a.block (by simp; omega) (by simpa using hne)), ← h]
  exact World.frozen?_of_block (Below.heap_alloc w o a.block hlt)

theorem called_keep {W w' : World} {R j : Nat} {cR : Array Value} {a : Addr} {v : Value} (hC : Called W w' R cR j) (h : W.cell? a = some v) (hne : a.block ≠ R) : w'.cell? a = some v :=
  hC.kept.cell h (by simpa using hne)

set_option maxHeartbeats 400000 in
set_option maxRecDepth 100000 in
theorem check_calls1 (w : World) (A R S E L X K j : Nat) (cR : Array Value) (_lf lv ow cj : Int) (hj : j < 3) (h : Reads w A R S E L X K) (hk : w.cell? ⟨K, j, none⟩ = some (.bool false))
    (he : w.cell? ⟨E, j, none⟩ = some (.bool false))
    (hx0 : w.cell? ⟨X, j * 2, none⟩ = some (.int .i64 lv)) (hx1 : w.cell? ⟨X, j * 2 + 1, none⟩ = some (.int .i64 ow)) (hlv : (lv == 9223372036854775807) = false)
    (hR : Blk w R cR 69) (hc4 : cR[4]? = some (.slice none 0 0)) (hcj : cR[1 + j]? = some (.int .i64 cj)) (how : cj < ow) (hAR : A ≠ R) :
    ChecksTo w A j fun w' => ∃ o, Called (w.alloc o).drew w' R cR j := by
  obtain ⟨hr, h25, h0, h1, h5, h6⟩ := h
  have hrA : A < w.heap.size := World.block_lt_of_cell? w _ hr
  have hr' : ∀ o, (w.alloc o).cell? ⟨A, 0, none⟩ = some (.iface 66 (.pointer (some ⟨R, 0, none⟩))) := fun o => (World.cell?_of_block (Below.heap_alloc w o A hrA)).trans hr
  have hmc := methCount
  have hRlt := hR.lt
  unfold ChecksTo
  go_enter Yba.func13, Yba.ntmps13
  go_wp2
  go_region_held3 (fun w' => w'.cell? ⟨w.heap.size, 0, none⟩ = some (.int .i64 lv) ∧ w'.cell? ⟨w.heap.size, 1, none⟩ = some (.int .i64 ow) ∧ w'.cell? ⟨A, 0, none⟩ = some (.iface 66 (.pointer (some ⟨R, 0, none⟩)))) (first | go_keep | (refine ⟨called_keep hC (by simp) (by simp; omega), called_keep hC (by simp) (by simp; omega), called_keep hC (by simp [hr']) hAR⟩))
    (first | (go_at_call 34; refine (count_any R j cj cR _ hj ?_ hc4 hcj).mono ?_; (exact (hR.alloc _).drew); rintro e w1 ⟨rfl, hC⟩))
  go_wp2
  (first | go_end0 | refine bodyPost_ret (results_none rfl _ _ _) rfl ?_)
  exact ⟨rfl, _, hC⟩

set_option maxHeartbeats 400000 in
set_option maxRecDepth 100000 in
theorem check_calls2 (w : World) (A R S E L X K j : Nat) (cR : Array Value) (lf lv ow cj : Int) (hj : j < 3) (h : Reads w A R S E L X K) (hk : w.cell? ⟨K, j, none⟩ = some (.bool false))
    (he : w.cell? ⟨E, j, none⟩ = some (.bool true)) (hl : w.cell? ⟨L, j, none⟩ = some (.int .i64 lf)) (hlf : (lf == 0) = false)
    (hx0 : w.cell? ⟨X, j * 2, none⟩ = some (.int .i64 lv)) (hx1 : w.cell? ⟨X, j * 2 + 1, none⟩ = some (.int .i64 ow)) (hlv : (lv == 9223372036854775807) = false)
    (hR : Blk w R cR 69) (hc4 : cR[4]? = some (.slice none 0 0)) (hcj : cR[1 + j]? = some (.int .i64 cj)) (how : cj < ow) (hAR : A ≠ R) :
    ChecksTo w A j fun w' => ∃ o, Called (w.alloc o).drew w' R cR j := by
  obtain ⟨hr, h25, h0, h1, h5, h6⟩ := h
  have hrA : A < w.heap.size := World.block_lt_of_cell? w _ hr
  have hr' : ∀ o, (w.alloc o).cell? ⟨A, 0, none⟩ = some (.iface 66 (.pointer (some ⟨R, 0, none⟩))) := fun o => (World.cell?_of_block (Below.heap_alloc w o A hrA)).trans hr
  have hmc := methCount
  have hRlt := hR.lt
  unfold ChecksTo
  go_enter Yba.func13, Yba.ntmps13
  go_wp2
  go_region_held3 (fun w' => w'.cell? ⟨w.heap.size, 0, none⟩ = some (.int .i64 lv) ∧ w'.cell? ⟨w.heap.size, 1, none⟩ = some (.int .i64 ow) ∧ w'.cell? ⟨A, 0, none⟩ = some (.iface 66 (.pointer (some ⟨R, 0, none⟩)))) (first | go_keep | (refine ⟨called_keep hC (by simp) (by simp; omega), called_keep hC (by simp) (by simp; omega), called_keep hC (by simp [hr']) hAR⟩))
    (first | (go_at_call 34; refine (count_any R j cj cR _ hj ?_ hc4 hcj).mono ?_; (exact (hR.alloc _).drew); rintro e w1 ⟨rfl, hC⟩))
  go_wp2
  (first | go_end0 | refine bodyPost_ret (results_none rfl _ _ _) rfl ?_)
  exact ⟨rfl, _, hC⟩

set_option maxHeartbeats 400000 in
set_option maxRecDepth 100000 in
theorem check_marks1 (w : World) (A R S E L X K j : Nat) (cR : Array Value) (_lf lv ow cj : Int) (hj : j < 3) (h : Reads w A R S E L X K) (hk : w.cell? ⟨K, j, none⟩ = some (.bool false)) (hKR : K ≠ R) (hf : w.frozen? ⟨K, j, none⟩ = false)
    (he : w.cell? ⟨E, j, none⟩ = some (.bool false))
    (hx0 : w.cell? ⟨X, j * 2, none⟩ = some (.int .i64 lv)) (hx1 : w.cell? ⟨X, j * 2 + 1, none⟩ = some (.int .i64 ow)) (hlv : (lv == 9223372036854775807) = false)
    (hR : Blk w R cR 69) (hc4 : cR[4]? = some (.slice none 0 0)) (hcj : cR[1 + j]? = some (.int .i64 cj)) (how : ow ≤ cj) (hAR : A ≠ R) (hSR : S ≠ R) :
    ChecksTo w A j fun w' => ∃ o w1, w' = w1.setCell ⟨K, j, none⟩ (.bool true) ∧ Called (w.alloc o).drew w1 R cR j := by
  obtain ⟨hr, h25, h0, h1, h5, h6⟩ := h
  have hrA : A < w.heap.size := World.block_lt_of_cell? w _ hr
  have hr' : ∀ o, (w.alloc o).cell? ⟨A, 0, none⟩ = some (.iface 66 (.pointer (some ⟨R, 0, none⟩))) := fun o => (World.cell?_of_block (Below.heap_alloc w o A hrA)).trans hr
  have hmc := methCount
  have hRlt := hR.lt
  unfold ChecksTo
  go_enter Yba.func13, Yba.ntmps13
  go_wp2
  go_region_held3 (fun w' => w'.cell? ⟨w.heap.size, 0, none⟩ = some (.int .i64 lv) ∧ w'.cell? ⟨w.heap.size, 1, none⟩ = some (.int .i64 ow) ∧ w'.cell? ⟨A, 0, none⟩ = some (.iface 66 (.pointer (some ⟨R, 0, none⟩)))) (first | go_keep | (refine ⟨called_keep hC (by simp) (by simp; omega), called_keep hC (by simp) (by simp; omega), called_keep hC (by simp [hr']) hAR⟩))
    (first | (go_at_call 34; refine (count_any R j cj cR _ hj ?_ hc4 hcj).mono ?_; (exact (hR.alloc _).drew); rintro e w1 ⟨rfl, hC⟩))
  have h6' : w1.cell? ⟨S, 6, none⟩ = some (.slice (some ⟨K, 0, none⟩) 3 3) := called_keep hC (cell_alloc h6 _) hSR
  have hk' : w1.cell? ⟨K, j, none⟩ = some (.bool false) := called_keep hC (cell_alloc hk _) hKR
  have hf' : w1.frozen? ⟨K, j, none⟩ = false := called_free hC (World.block_lt_of_cell? w _ hk) hf hKR
  go_wp2
  (first | go_end0 | refine bodyPost_ret (results_none rfl _ _ _) rfl ?_)
  exact ⟨rfl, _, _, rfl, hC⟩

set_option maxHeartbeats 400000 in
set_option maxRecDepth 100000 in
theorem check_marks2 (w : World) (A R S E L X K j : Nat) (cR : Array Value) (lf lv ow cj : Int) (hj : j < 3) (h : Reads w A R S E L X K) (hk : w.cell? ⟨K, j, none⟩ = some (.bool false)) (hKR : K ≠ R) (hf : w.frozen? ⟨K, j, none⟩ = false)
    (he : w.cell? ⟨E, j, none⟩ = some (.bool true)) (hl : w.cell? ⟨L, j, none⟩ = some (.int .i64 lf)) (hlf : (lf == 0) = false)
    (hx0 : w.cell? ⟨X, j * 2, none⟩ = some (.int .i64 lv)) (hx1 : w.cell? ⟨X, j * 2 + 1, none⟩ = some (.int .i64 ow)) (hlv : (lv == 9223372036854775807) = false)
    (hR : Blk w R cR 69) (hc4 : cR[4]? = some (.slice none 0 0)) (hcj : cR[1 + j]? = some (.int .i64 cj)) (how : ow ≤ cj) (hAR : A ≠ R) (hSR : S ≠ R) :
    ChecksTo w A j fun w' => ∃ o w1, w' = w1.setCell ⟨K, j, none⟩ (.bool true) ∧ Called (w.alloc o).drew w1 R cR j := by
  obtain ⟨hr, h25, h0, h1, h5, h6⟩ := h
  have hrA : A < w.heap.size := World.block_lt_of_cell? w _ hr
  have hr' : ∀ o, (w.alloc o).cell? ⟨A, 0, none⟩ = some (.iface 66 (.pointer (some ⟨R, 0, none⟩))) := fun o => (World.cell?_of_block (Below.heap_alloc w o A hrA)).trans hr
  have hmc := methCount
  have hRlt := hR.lt
  unfold ChecksTo
  go_enter Yba.func13, Yba.ntmps13
  go_wp2
  go_region_held3 (fun w' => w'.cell? ⟨w.heap.size, 0, none⟩ = some (.int .i64 lv) ∧ w'.cell? ⟨w.heap.size, 1, none⟩ = some (.int .i64 ow) ∧ w'.cell? ⟨A, 0, none⟩ = some (.iface 66 (.pointer (some ⟨R, 0, none⟩)))) (first | go_keep | (refine ⟨called_keep hC (by simp) (by simp; omega), called_keep hC (by simp) (by simp; omega), called_keep hC (by simp [hr']) hAR⟩))
    (first | (go_at_call 34; refine (count_any R j cj cR _ hj ?_ hc4 hcj).mono ?_; (exact (hR.alloc _).drew); rintro e w1 ⟨rfl, hC⟩))
  have h6' : w1.cell? ⟨S, 6, none⟩ = some (.slice (some ⟨K, 0, none⟩) 3 3) := called_keep hC (cell_alloc h6 _) hSR
  have hk' : w1.cell? ⟨K, j, none⟩ = some (.bool false) := called_keep hC (cell_alloc hk _) hKR
  have hf' : w1.frozen? ⟨K, j, none⟩ = false := called_free hC (World.block_lt_of_cell? w _ hk) hf hKR
  go_wp2
  (first | go_end0 | refine bodyPost_ret (results_none rfl _ _ _) rfl ?_)
  exact ⟨rfl, _, _, rfl, hC⟩

end Go.Proofs.Ybulkdyfo
