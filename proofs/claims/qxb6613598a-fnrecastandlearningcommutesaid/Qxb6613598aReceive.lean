import Derived.Test.Qxb6613598aDecide
namespace Go.Proofs.Qxb6613598a.fnRecast
open Go.RowKit

/-! ### Receive: a decision comes in -/
set_option maxHeartbeats 1000000 in
theorem receive_some (g : Nat) (id n vote d : Int) (r : Value) (w : World) (hid : (id == 0) = false) (hd : (d == 0) = false) (hg : w.heap[g]? = some (.cells (tp id n vote 0 r) 69 (0, 0))) :
    Calls Try.prog 15 #[.pointer (some ⟨g, 0, none⟩), .agg (msg id d)] w fun e w' => e = .returned (.agg (st (.slice none 0 0) 2 true)) ∧ w'.heap[g]? = some (.cells (tp id n vote d r) 69 (0, 0)) ∧ w.grownBy w' (some g) := by
  have hgs : g < w.heap.size := hlt hg
  have U : Hid (Calls Try.prog 22 #[.pointer (some ⟨g, 0, none⟩), .agg #[Value.int IntKind.i64 0, Value.int IntKind.i64 id, Value.int IntKind.u8 2, Value.int IntKind.u8 0, Value.int IntKind.u8 d, Value.int IntKind.i32 0, Value.int IntKind.i32 0, Value.int IntKind.i32 0, Value.int IntKind.i32 0], .func (.func 23) #[.pointer (some ⟨g, 0, none⟩)] #[]] ((w.alloc (.cells #[Value.int IntKind.i64 0, Value.int IntKind.i64 id, Value.int IntKind.u8 2, Value.int IntKind.u8 0, Value.int IntKind.u8 d, Value.int IntKind.i32 0, Value.int IntKind.i32 0, Value.int IntKind.i32 0, Value.int IntKind.i32 0] 43)).alloc (.cells #[Value.slice none 0 0, Value.int IntKind.u8 0, Value.pointer none, Value.bool false] 50)).drew
      fun e w1 => e = .returned (.agg #[.slice none 0 0, .int .u8 2, .pointer none, .bool true]) ∧ (∀ j, w1.cell? ⟨w.heap.size, j, none⟩ = #[Value.int IntKind.i64 0, Value.int IntKind.i64 id, Value.int IntKind.u8 2, Value.int IntKind.u8 0, Value.int IntKind.u8 d, Value.int IntKind.i32 0, Value.int IntKind.i32 0, Value.int IntKind.i32 0, Value.int IntKind.i32 0][j]?) ∧ (∀ j, w1.cell? ⟨w.heap.size + 1, j, none⟩ = #[Value.slice none 0 0, Value.int IntKind.u8 0, Value.pointer none, Value.bool false][j]?) ∧
        (∀ j, w1.frozen? ⟨w.heap.size + 1, j, none⟩ = false) ∧ w.heap.size + 1 < w1.heap.size ∧ Hid (w1.heap[g]? = some (.cells (tp id n vote d r) 69 (0, 0)) ∧ w.grownBy w1 (some g))) := by
    refine (learn_some g id n vote d r (((w.alloc (.cells #[Value.int IntKind.i64 0, Value.int IntKind.i64 id, Value.int IntKind.u8 2, Value.int IntKind.u8 0, Value.int IntKind.u8 d, Value.int IntKind.i32 0, Value.int IntKind.i32 0, Value.int IntKind.i32 0, Value.int IntKind.i32 0] 43)).alloc (.cells #[Value.slice none 0 0, Value.int IntKind.u8 0, Value.pointer none, Value.bool false] 50)).drew) hid hd (by exact halloc (o := .cells (tp id n vote 0 r) 69 (0, 0)) (halloc hg))).mono ?_
    rintro e w1 ⟨rfl, hg1, hgr⟩
    have h0 : w1.heap[w.heap.size]? = some (.cells #[Value.int IntKind.i64 0, Value.int IntKind.i64 id, Value.int IntKind.u8 2, Value.int IntKind.u8 0, Value.int IntKind.u8 d, Value.int IntKind.i32 0, Value.int IntKind.i32 0, Value.int IntKind.i32 0, Value.int IntKind.i32 0] 43 (0, 0)) := hkeep hgr (halloc (heap_alloc_new w _)) (by simp; omega)
    have hz : w1.heap[w.heap.size + 1]? = some (.cells #[Value.slice none 0 0, Value.int IntKind.u8 0, Value.pointer none, Value.bool false] 50 (0, 0)) := hkeep hgr (hnew (w.alloc _) _ (w.heap.size + 1) (by simp)) (by simp; omega)
    exact ⟨rfl, fun j => cell_of_row w1 _ j _ 43 (0, 0) h0, fun j => cell_of_row w1 _ j _ 50 (0, 0) hz, fun j => frozen_of_row w1 _ j _ 50 hz, hlt hz, hg1, gtrans (gdrew (galloc (World.grownBy_alloc w _ _) _)) hgr⟩
  clear hg
  unfold msg
  go_enter Try.func15, Try.ntmps15
  go_wp2
  go_region_held3 (fun w' => ∀ j, w'.cell? ⟨w.heap.size, j, none⟩ = #[Value.int IntKind.i64 0, Value.int IntKind.i64 id, Value.int IntKind.u8 2, Value.int IntKind.u8 0, Value.int IntKind.u8 d, Value.int IntKind.i32 0, Value.int IntKind.i32 0, Value.int IntKind.i32 0, Value.int IntKind.i32 0][j]?) (go_keep)
    (first | (go_at_call 22; refine U.out.mono ?_; rintro e w1 ⟨rfl, h0, hcz, hfz, hzs, HK⟩))
  go_wp2
  refine bodyPost_ret (v := .agg (st (.slice none 0 0) 2 true)) (by simp [results, Try.results15, go_sem, st, hcz]) rfl ⟨rfl, ?_, ?_⟩
  · exact hset (hset (hset (hset HK.out.1 (by simp; omega)) (by simp; omega)) (by simp; omega)) (by simp; omega)
  · exact gset (gset (gset (gset HK.out.2 _ _ (.inr (by simp))) _ _ (.inr (by simp))) _ _ (.inr (by simp))) _ _ (.inr (by simp))

set_option maxHeartbeats 1000000 in
theorem receive_none (g : Nat) (id n vote : Int) (r : Value) (w : World) (hg : w.heap[g]? = some (.cells (tp id n vote 0 r) 69 (0, 0))) :
    Calls Try.prog 15 #[.pointer (some ⟨g, 0, none⟩), .agg (msg id 0)] w fun e w' => e = .returned (.agg (st (.slice none 0 0) 0 false)) ∧ w'.heap[g]? = some (.cells (tp id n vote 0 r) 69 (0, 0)) ∧ w.grownBy w' (some g) := by
  have hgs : g < w.heap.size := hlt hg
  have U : Hid (Calls Try.prog 22 #[.pointer (some ⟨g, 0, none⟩), .agg #[Value.int IntKind.i64 0, Value.int IntKind.i64 id, Value.int IntKind.u8 2, Value.int IntKind.u8 0, Value.int IntKind.u8 0, Value.int IntKind.i32 0, Value.int IntKind.i32 0, Value.int IntKind.i32 0, Value.int IntKind.i32 0], .func (.func 23) #[.pointer (some ⟨g, 0, none⟩)] #[]] ((w.alloc (.cells #[Value.int IntKind.i64 0, Value.int IntKind.i64 id, Value.int IntKind.u8 2, Value.int IntKind.u8 0, Value.int IntKind.u8 0, Value.int IntKind.i32 0, Value.int IntKind.i32 0, Value.int IntKind.i32 0, Value.int IntKind.i32 0] 43)).alloc (.cells #[Value.slice none 0 0, Value.int IntKind.u8 0, Value.pointer none, Value.bool false] 50)).drew
      fun e w1 => e = .returned (.agg #[.slice none 0 0, .int .u8 0, .pointer none, .bool false]) ∧ (∀ j, w1.cell? ⟨w.heap.size, j, none⟩ = #[Value.int IntKind.i64 0, Value.int IntKind.i64 id, Value.int IntKind.u8 2, Value.int IntKind.u8 0, Value.int IntKind.u8 0, Value.int IntKind.i32 0, Value.int IntKind.i32 0, Value.int IntKind.i32 0, Value.int IntKind.i32 0][j]?) ∧ (∀ j, w1.cell? ⟨w.heap.size + 1, j, none⟩ = #[Value.slice none 0 0, Value.int IntKind.u8 0, Value.pointer none, Value.bool false][j]?) ∧
        (∀ j, w1.frozen? ⟨w.heap.size + 1, j, none⟩ = false) ∧ w.heap.size + 1 < w1.heap.size ∧ Hid (w1.heap[g]? = some (.cells (tp id n vote 0 r) 69 (0, 0)) ∧ w.grownBy w1 (some g))) := by
    refine (learn_none g id n vote r _ (((w.alloc (.cells #[Value.int IntKind.i64 0, Value.int IntKind.i64 id, Value.int IntKind.u8 2, Value.int IntKind.u8 0, Value.int IntKind.u8 0, Value.int IntKind.i32 0, Value.int IntKind.i32 0, Value.int IntKind.i32 0, Value.int IntKind.i32 0] 43)).alloc (.cells #[Value.slice none 0 0, Value.int IntKind.u8 0, Value.pointer none, Value.bool false] 50)).drew) (by exact halloc (o := .cells (tp id n vote 0 r) 69 (0, 0)) (halloc hg))).mono ?_
    rintro e w1 ⟨rfl, hg1, hgr⟩
    have h0 : w1.heap[w.heap.size]? = some (.cells #[Value.int IntKind.i64 0, Value.int IntKind.i64 id, Value.int IntKind.u8 2, Value.int IntKind.u8 0, Value.int IntKind.u8 0, Value.int IntKind.i32 0, Value.int IntKind.i32 0, Value.int IntKind.i32 0, Value.int IntKind.i32 0] 43 (0, 0)) := hkeep hgr (halloc (heap_alloc_new w _)) (by simp; omega)
    have hz : w1.heap[w.heap.size + 1]? = some (.cells #[Value.slice none 0 0, Value.int IntKind.u8 0, Value.pointer none, Value.bool false] 50 (0, 0)) := hkeep hgr (hnew (w.alloc _) _ (w.heap.size + 1) (by simp)) (by simp; omega)
    exact ⟨rfl, fun j => cell_of_row w1 _ j _ 43 (0, 0) h0, fun j => cell_of_row w1 _ j _ 50 (0, 0) hz, fun j => frozen_of_row w1 _ j _ 50 hz, hlt hz, hg1, gtrans (gdrew (galloc (World.grownBy_alloc w _ _) _)) hgr⟩
  clear hg
  unfold msg
  go_enter Try.func15, Try.ntmps15
  go_wp2
  go_region_held3 (fun w' => ∀ j, w'.cell? ⟨w.heap.size, j, none⟩ = #[Value.int IntKind.i64 0, Value.int IntKind.i64 id, Value.int IntKind.u8 2, Value.int IntKind.u8 0, Value.int IntKind.u8 0, Value.int IntKind.i32 0, Value.int IntKind.i32 0, Value.int IntKind.i32 0, Value.int IntKind.i32 0][j]?) (go_keep)
    (first | (go_at_call 22; refine U.out.mono ?_; rintro e w1 ⟨rfl, h0, hcz, hfz, hzs, HK⟩))
  go_wp2
  refine bodyPost_ret (v := .agg (st (.slice none 0 0) 0 false)) (by simp [results, Try.results15, go_sem, st, hcz]) rfl ⟨rfl, ?_, ?_⟩
  · exact hset (hset (hset (hset HK.out.1 (by simp; omega)) (by simp; omega)) (by simp; omega)) (by simp; omega)
  · exact gset (gset (gset (gset HK.out.2 _ _ (.inr (by simp))) _ _ (.inr (by simp))) _ _ (.inr (by simp))) _ _ (.inr (by simp))

end Go.Proofs.Qxb6613598a.fnRecast
