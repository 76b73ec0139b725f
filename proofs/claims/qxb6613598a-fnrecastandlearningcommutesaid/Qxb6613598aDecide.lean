import Derived.Test.Qxb6613598aStart
import Derived.Deep.RegionHeld3
namespace Go.Proofs.Qxb6613598a.fnRecast
open Go.RowKit

/-- The message that brings decision d to participant id. -/
def msg (id d : Int) : Array Value := #[.int .i64 0, .int .i64 id, .int .u8 2, .int .u8 0, .int .u8 d, .int .i32 0, .int .i32 0, .int .i32 0, .int .i32 0]

/-! ### standing.decide: nobody is told -/
set_option maxHeartbeats 400000 in
theorem decide27 (g : Nat) (id n vote dec d : Int) (r : Value) (w : World) (hg : w.heap[g]? = some (.cells (tp id n vote dec r) 69 (0, 0))) :
    Calls Try.prog 27 #[.pointer (some ⟨g, 0, none⟩), .int .u8 d, .slice none 0 0] w fun e w' => e = .returned (.agg (st (.slice none 0 0) 2 false)) ∧ w'.heap[g]? = some (.cells (tp id n vote d r) 69 (0, 0)) ∧ w.grownBy w' (some g) := by
  have hgs : g < w.heap.size := hlt hg
  have hc : ∀ j, w.cell? ⟨g, j, none⟩ = (tp id n vote dec r)[j]? := fun j => cell_of_row w g j _ 69 (0, 0) hg
  have hf : ∀ j, w.frozen? ⟨g, j, none⟩ = false := fun j => frozen_of_row w g j _ 69 hg
  have HG : Hid _ := hg
  unfold tp at hc
  clear hg
  go_enter Try.func27, Try.ntmps27
  go_wp2
  refine wp_loop_rounds 1 ?_
  rw [rounds_succ]
  go_wp2
  refine wp_loop_rounds 1 ?_
  rw [rounds_succ]
  go_wp2
  refine bodyPost_ret (v := .agg (st (.slice none 0 0) 2 false)) (by simp [results, Try.results27, go_sem, st]) rfl ⟨rfl, ?_, ?_⟩
  · refine halloc ?_
    have := heap_setCell_same w g 2 _ 69 (.int .u8 d) HG.out
    rw [this]
    rfl
  · exact galloc (gset (grefl _ _) _ _ (.inl rfl)) _

/-! ### twoPhase.decide -/
set_option maxHeartbeats 400000 in
theorem decide23 (g : Nat) (id n vote dec d : Int) (r : Value) (w : World) (hid : (id == 0) = false) (hg : w.heap[g]? = some (.cells (tp id n vote dec r) 69 (0, 0))) :
    Calls Try.prog 23 #[.pointer (some ⟨g, 0, none⟩), .int .u8 d] w fun e w' => e = .returned (.agg (st (.slice none 0 0) 2 false)) ∧ w'.heap[g]? = some (.cells (tp id n vote d r) 69 (0, 0)) ∧ w.grownBy w' (some g) := by
  have hgs : g < w.heap.size := hlt hg
  have hc : ∀ j, w.cell? ⟨g, j, none⟩ = (tp id n vote dec r)[j]? := fun j => cell_of_row w g j _ 69 (0, 0) hg
  have HG : Hid _ := hg
  unfold tp at hc
  clear hg
  go_enter Try.func23, Try.ntmps23
  go_wp2_with fail
  refine (decide27 g id n vote dec d r _ (halloc HG.out)).mono ?_
  rintro e w1 ⟨rfl, hg1, hgr⟩
  have hz := hkeep hgr (heap_alloc_new w _) (by simp; omega)
  have hcz : ∀ j, w1.cell? ⟨w.heap.size, j, none⟩ = _ := fun j => cell_of_row w1 w.heap.size j _ 50 (0, 0) hz
  have hfz : ∀ j, w1.frozen? ⟨w.heap.size, j, none⟩ = false := fun j => frozen_of_row w1 w.heap.size j _ 50 hz
  have hzs : w.heap.size < w1.heap.size := hlt hz
  have HK : Hid (w1.heap[g]? = some (.cells (tp id n vote d r) 69 (0, 0)) ∧ w.grownBy w1 (some g)) := ⟨hg1, gtrans (World.grownBy_alloc w _ _) hgr⟩
  clear hz hg1 hgr hc
  simp only [st]
  go_wp2
  refine bodyPost_ret (v := .agg (st (.slice none 0 0) 2 false)) (by simp [results, Try.results23, go_sem, st, hcz]) rfl ⟨rfl, ?_, ?_⟩
  · exact hset (hset (hset (hset HK.out.1 (by simp; omega)) (by simp; omega)) (by simp; omega)) (by simp; omega)
  · exact gset (gset (gset (gset HK.out.2 _ _ (.inr (by simp))) _ _ (.inr (by simp))) _ _ (.inr (by simp))) _ _ (.inr (by simp))

/-! ### learn -/
set_option maxHeartbeats 400000 in
theorem learn_none (g : Nat) (id n vote : Int) (r f : Value) (w : World) (hg : w.heap[g]? = some (.cells (tp id n vote 0 r) 69 (0, 0))) :
    Calls Try.prog 22 #[.pointer (some ⟨g, 0, none⟩), .agg (msg id 0), f] w fun e w' => e = .returned (.agg (st (.slice none 0 0) 0 false)) ∧ w'.heap[g]? = some (.cells (tp id n vote 0 r) 69 (0, 0)) ∧ w.grownBy w' (some g) := by
  have hgs : g < w.heap.size := hlt hg
  have hc : ∀ j, w.cell? ⟨g, j, none⟩ = (tp id n vote 0 r)[j]? := fun j => cell_of_row w g j _ 69 (0, 0) hg
  have HG : Hid _ := hg
  unfold tp at hc
  clear hg
  unfold msg
  go_enter Try.func22, Try.ntmps22
  go_wp2
  refine bodyPost_ret (v := .agg (st (.slice none 0 0) 0 false)) (by simp [results, Try.results22, go_sem, st]) rfl ⟨rfl, halloc (halloc HG.out), galloc (galloc (grefl _ _) _) _⟩

set_option maxHeartbeats 400000 in
theorem learn_some (g : Nat) (id n vote d : Int) (r : Value) (w : World) (hid : (id == 0) = false) (hd : (d == 0) = false) (hg : w.heap[g]? = some (.cells (tp id n vote 0 r) 69 (0, 0))) :
    Calls Try.prog 22 #[.pointer (some ⟨g, 0, none⟩), .agg (msg id d), .func (.func 23) #[.pointer (some ⟨g, 0, none⟩)] #[]] w fun e w' => e = .returned (.agg (st (.slice none 0 0) 2 true)) ∧ w'.heap[g]? = some (.cells (tp id n vote d r) 69 (0, 0)) ∧ w.grownBy w' (some g) := by
  have hgs : g < w.heap.size := hlt hg
  have hc : ∀ j, w.cell? ⟨g, j, none⟩ = (tp id n vote 0 r)[j]? := fun j => cell_of_row w g j _ 69 (0, 0) hg
  have HG : Hid _ := hg
  unfold tp at hc
  clear hg
  unfold msg
  go_enter Try.func22, Try.ntmps22
  go_wp2_with fail
  refine (decide23 g id n vote 0 d r _ hid (halloc (halloc HG.out))).mono ?_
  rintro e w1 ⟨rfl, hg1, hgr⟩
  have hz := hkeep hgr (hnew (w.alloc _) _ (w.heap.size + 1) (by simp)) (by simp; omega)
  have hcz : ∀ j, w1.cell? ⟨w.heap.size + 1, j, none⟩ = _ := fun j => cell_of_row w1 (w.heap.size + 1) j _ 50 (0, 0) hz
  have hfz : ∀ j, w1.frozen? ⟨w.heap.size + 1, j, none⟩ = false := fun j => frozen_of_row w1 (w.heap.size + 1) j _ 50 hz
  have hzs : w.heap.size + 1 < w1.heap.size := hlt hz
  have HK : Hid (w1.heap[g]? = some (.cells (tp id n vote d r) 69 (0, 0)) ∧ w.grownBy w1 (some g)) := ⟨hg1, gtrans (galloc (World.grownBy_alloc w _ _) _) hgr⟩
  clear hz hg1 hgr hc
  simp only [st]
  go_wp2
  refine bodyPost_ret (v := .agg (st (.slice none 0 0) 2 true)) (by simp [results, Try.results22, go_sem, st, hcz, hzs]) rfl ⟨rfl, ?_, ?_⟩
  · exact halloc (hset (hset (hset (hset HK.out.1 (by simp; omega)) (by simp; omega)) (by simp; omega)) (by simp; omega))
  · exact galloc (gset (gset (gset (gset HK.out.2 _ _ (.inr (by simp))) _ _ (.inr (by simp))) _ _ (.inr (by simp))) _ _ (.inr (by simp))) _

end Go.Proofs.Qxb6613598a.fnRecast
