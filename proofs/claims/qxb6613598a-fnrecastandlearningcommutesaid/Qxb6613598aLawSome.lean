import Derived.Test.Qxb6613598aLawZero
namespace Go.Proofs.Qxb6613598a.fnRecast
open Go.RowKit

set_option maxHeartbeats 2000000 in
theorem law_some (id n d : Int) (w : World) (h1 : 1 ≤ id) (h2 : id < n) (h3 : 2 ≤ n) (h4 : n ≤ 65536) (hd : (d == 0) = false) :
    Calls Try.prog 5 #[.int .i64 id, .int .i64 n, .int .u8 d] w fun e w' => e = .returned (.bool true) ∧ Below w.heap.size w w' := by
  have hid : (id == 0) = false := by simp; omega
  have HZ : Hid (Has ((w.alloc (.cells (msg id d) 43 (0, 0))).alloc (.cells (bal id) 43 (0, 0))) [(w.heap.size, (.cells (msg id d) 43 (0, 0))), (w.heap.size + 1, (.cells (bal id) 43 (0, 0)))]) := by
    intro p hp
    simp at hp
    rcases hp with rfl | rfl
    · exact halloc (heap_alloc_new w _)
    · exact hnew (w.alloc _) _ _ (by simp)
  have HB0 : Hid (Below w.heap.size w ((w.alloc (.cells (msg id d) 43 (0, 0))).alloc (.cells (bal id) 43 (0, 0)))) := ((Below.refl _ _).alloc (Nat.le_refl _) _).alloc (by simp) _
  unfold msg bal at HZ HB0
  go_enter Try.func5, Try.ntmps5
  go_wp2_with fail
  refine (new_any id n _ h3 h4).mono ?_
  rintro e w1 ⟨g1, r1, rfl, q1, hg1, hb1⟩
  have H1 : Hid (Has w1 ((g1, (.cells (tp id n 0 0 r1) 69 (0, 0))) :: [(w.heap.size, (.cells (msg id d) 43 (0, 0))), (w.heap.size + 1, (.cells (bal id) 43 (0, 0)))])) := (HZ.out.below hb1).cons hg1
  have B1 : Hid (Below w.heap.size w w1) := HB0.out.trans (hb1.mono (by simp; omega))
  have z0 : w.heap.size + 2 ≤ g1 := by simp at q1; omega
  have z1 : g1 < w1.heap.size := hlt hg1
  clear q1 hg1 hb1 HZ HB0
  go_wp2_with fail
  refine (recast_fresh g1 id n r1 _ hid (H1.out.get 0 rfl)).mono ?_
  rintro e w2 ⟨k1, rfl, q2, hk1, hg1, hgr⟩
  have H2 : Hid (Has w2 ((g1, (.cells (tp id n 1 0 r1) 69 (0, 0))) :: (k1, (.cells (bal id) 43 (0, 0))) :: [(w.heap.size, (.cells (msg id d) 43 (0, 0))), (w.heap.size + 1, (.cells (bal id) 43 (0, 0)))])) := (((H1.out.tail).keep hgr (by simp; omega)).cons hk1).cons hg1
  have B2 : Hid (Below w.heap.size w w2) := B1.out.grown hgr B1.out.size (by intro j hj; cases hj; omega)
  have z2 : k1 < w2.heap.size := hlt hk1
  have z3 : w1.heap.size ≤ k1 := q2
  have H3 : Hid (Has (w2.alloc (.cells (st (.slice (some ⟨k1, 0, none⟩) 1 1) 1 false) 50 (0, 0))) ((w2.heap.size, (.cells (st (.slice (some ⟨k1, 0, none⟩) 1 1) 1 false) 50 (0, 0))) :: (g1, (.cells (tp id n 1 0 r1) 69 (0, 0))) :: (k1, (.cells (bal id) 43 (0, 0))) :: [(w.heap.size, (.cells (msg id d) 43 (0, 0))), (w.heap.size + 1, (.cells (bal id) 43 (0, 0)))])) := H2.out.alloc _
  have B3 : Hid (Below w.heap.size w (w2.alloc (.cells (st (.slice (some ⟨k1, 0, none⟩) 1 1) 1 false) 50 (0, 0)))) := B2.out.alloc B2.out.size _
  have hc : ∀ j, w2.cell? ⟨w.heap.size, j, none⟩ = (msg id d)[j]? := fun j => cell_of_row _ _ j _ 43 (0, 0) (H2.out.get 2 rfl)
  unfold msg at hc
  have y2 : w.heap.size < w2.heap.size := by omega
  clear q2 hk1 hg1 hgr H1 B1 H2 B2
  simp only [st]
  go_wp2_with fail
  clear hc
  refine (receive_some g1 id n 1 d r1 _ hid hd (H3.out.get 1 rfl)).mono ?_
  rintro e w4 ⟨rfl, hg1, hgr⟩
  have H4 : Hid (Has w4 ((g1, (.cells (tp id n 1 d r1) 69 (0, 0))) :: (w2.heap.size, (.cells (st (.slice (some ⟨k1, 0, none⟩) 1 1) 1 false) 50 (0, 0))) :: (k1, (.cells (bal id) 43 (0, 0))) :: [(w.heap.size, (.cells (msg id d) 43 (0, 0))), (w.heap.size + 1, (.cells (bal id) 43 (0, 0)))])) := ((H3.out.drop1).keep hgr (by simp; omega)).cons hg1
  have B4 : Hid (Below w.heap.size w w4) := B3.out.grown hgr B3.out.size (by intro j hj; cases hj; omega)
  have z4 : w2.heap.size + 1 ≤ w4.heap.size := by have := hgr.size; simp at this; omega
  have H5 : Hid (Has (w4.alloc (.cells (st (.slice none 0 0) 2 true) 50 (0, 0))) ((w4.heap.size, (.cells (st (.slice none 0 0) 2 true) 50 (0, 0))) :: (g1, (.cells (tp id n 1 d r1) 69 (0, 0))) :: (w2.heap.size, (.cells (st (.slice (some ⟨k1, 0, none⟩) 1 1) 1 false) 50 (0, 0))) :: (k1, (.cells (bal id) 43 (0, 0))) :: [(w.heap.size, (.cells (msg id d) 43 (0, 0))), (w.heap.size + 1, (.cells (bal id) 43 (0, 0)))])) := H4.out.alloc _
  have B5 : Hid (Below w.heap.size w (w4.alloc (.cells (st (.slice none 0 0) 2 true) 50 (0, 0)))) := B4.out.alloc B4.out.size _
  clear hg1 hgr H3 B3 H4 B4
  simp only [st]
  go_wp2_with fail
  refine (new_any id n _ h3 h4).mono ?_
  rintro e w6 ⟨g2, r2, rfl, q6, hg2, hb6⟩
  have H6 : Hid (Has w6 ((g2, (.cells (tp id n 0 0 r2) 69 (0, 0))) :: (w4.heap.size, (.cells (st (.slice none 0 0) 2 true) 50 (0, 0))) :: (g1, (.cells (tp id n 1 d r1) 69 (0, 0))) :: (w2.heap.size, (.cells (st (.slice (some ⟨k1, 0, none⟩) 1 1) 1 false) 50 (0, 0))) :: (k1, (.cells (bal id) 43 (0, 0))) :: [(w.heap.size, (.cells (msg id d) 43 (0, 0))), (w.heap.size + 1, (.cells (bal id) 43 (0, 0)))])) := (H5.out.below hb6).cons hg2
  have B6 : Hid (Below w.heap.size w w6) := B5.out.trans (hb6.mono B5.out.size)
  have z5 : w4.heap.size + 1 ≤ g2 := by simp at q6; omega
  have z6 : g2 < w6.heap.size := hlt hg2
  have hc : ∀ j, w6.cell? ⟨w.heap.size, j, none⟩ = (msg id d)[j]? := fun j => cell_of_row _ _ j _ 43 (0, 0) (H6.out.get 5 rfl)
  unfold msg at hc
  clear q6 hg2 hb6 H5 B5
  go_wp2_with fail
  clear hc
  refine (receive_some g2 id n 0 d r2 _ hid hd (H6.out.get 0 rfl)).mono ?_
  rintro e w7 ⟨rfl, hg2, hgr⟩
  have H7 : Hid (Has w7 ((g2, (.cells (tp id n 0 d r2) 69 (0, 0))) :: (w4.heap.size, (.cells (st (.slice none 0 0) 2 true) 50 (0, 0))) :: (g1, (.cells (tp id n 1 d r1) 69 (0, 0))) :: (w2.heap.size, (.cells (st (.slice (some ⟨k1, 0, none⟩) 1 1) 1 false) 50 (0, 0))) :: (k1, (.cells (bal id) 43 (0, 0))) :: [(w.heap.size, (.cells (msg id d) 43 (0, 0))), (w.heap.size + 1, (.cells (bal id) 43 (0, 0)))])) := ((H6.out.tail).keep hgr (by simp; omega)).cons hg2
  have B7 : Hid (Below w.heap.size w w7) := B6.out.grown hgr B6.out.size (by intro j hj; cases hj; omega)
  have z7 : w6.heap.size ≤ w7.heap.size := hgr.size
  have H8 : Hid (Has (w7.alloc (.cells (st (.slice none 0 0) 2 true) 50 (0, 0))) ((w7.heap.size, (.cells (st (.slice none 0 0) 2 true) 50 (0, 0))) :: (g2, (.cells (tp id n 0 d r2) 69 (0, 0))) :: (w4.heap.size, (.cells (st (.slice none 0 0) 2 true) 50 (0, 0))) :: (g1, (.cells (tp id n 1 d r1) 69 (0, 0))) :: (w2.heap.size, (.cells (st (.slice (some ⟨k1, 0, none⟩) 1 1) 1 false) 50 (0, 0))) :: (k1, (.cells (bal id) 43 (0, 0))) :: [(w.heap.size, (.cells (msg id d) 43 (0, 0))), (w.heap.size + 1, (.cells (bal id) 43 (0, 0)))])) := H7.out.alloc _
  have B8 : Hid (Below w.heap.size w (w7.alloc (.cells (st (.slice none 0 0) 2 true) 50 (0, 0)))) := B7.out.alloc B7.out.size _
  clear hg2 hgr H6 B6 H7 B7
  simp only [st]
  go_wp2_with fail
  refine (recast_decided g2 id n 0 d r2 _ hd (H8.out.get 1 rfl)).mono ?_
  rintro e w9 ⟨rfl, hg2, hgr⟩
  have H9 : Hid (Has w9 ((g2, (.cells (tp id n 0 d r2) 69 (0, 0))) :: (w7.heap.size, (.cells (st (.slice none 0 0) 2 true) 50 (0, 0))) :: (w4.heap.size, (.cells (st (.slice none 0 0) 2 true) 50 (0, 0))) :: (g1, (.cells (tp id n 1 d r1) 69 (0, 0))) :: (w2.heap.size, (.cells (st (.slice (some ⟨k1, 0, none⟩) 1 1) 1 false) 50 (0, 0))) :: (k1, (.cells (bal id) 43 (0, 0))) :: [(w.heap.size, (.cells (msg id d) 43 (0, 0))), (w.heap.size + 1, (.cells (bal id) 43 (0, 0)))])) := ((H8.out.drop1).keep hgr (by simp; omega)).cons hg2
  have B9 : Hid (Below w.heap.size w w9) := B8.out.grown hgr B8.out.size (by intro j hj; cases hj; omega)
  have z9 : w7.heap.size + 1 ≤ w9.heap.size := by have := hgr.size; simp at this; omega
  have H10 : Hid (Has (w9.alloc (.cells (st (.slice none 0 0) 0 false) 50 (0, 0))) ((w9.heap.size, (.cells (st (.slice none 0 0) 0 false) 50 (0, 0))) :: (g2, (.cells (tp id n 0 d r2) 69 (0, 0))) :: (w7.heap.size, (.cells (st (.slice none 0 0) 2 true) 50 (0, 0))) :: (w4.heap.size, (.cells (st (.slice none 0 0) 2 true) 50 (0, 0))) :: (g1, (.cells (tp id n 1 d r1) 69 (0, 0))) :: (w2.heap.size, (.cells (st (.slice (some ⟨k1, 0, none⟩) 1 1) 1 false) 50 (0, 0))) :: (k1, (.cells (bal id) 43 (0, 0))) :: [(w.heap.size, (.cells (msg id d) 43 (0, 0))), (w.heap.size + 1, (.cells (bal id) 43 (0, 0)))])) := H9.out.alloc _
  have B10 : Hid (Below w.heap.size w (w9.alloc (.cells (st (.slice none 0 0) 0 false) 50 (0, 0)))) := B9.out.alloc B9.out.size _
  have hc : ∀ j, w9.cell? ⟨w2.heap.size, j, none⟩ = (st (.slice (some ⟨k1, 0, none⟩) 1 1) 1 false)[j]? := fun j => cell_of_row _ _ j _ 50 (0, 0) (H9.out.get 4 rfl)
  unfold st at hc
  have y9 : w2.heap.size < w9.heap.size := by omega
  clear  hg2 hgr H8 B8 H9 B9
  simp only [st]
  go_wp2_with fail
  clear hc
  refine (stepIs_one k1 (w.heap.size + 1) id 1 false _ (H10.out.get 6 rfl) (H10.out.get 8 rfl)).mono ?_
  rintro e w11 ⟨rfl, hb11⟩
  have H11 : Hid (Has w11 _) := H10.out.below hb11
  have B11 : Hid (Below w.heap.size w w11) := B10.out.trans (hb11.mono B10.out.size)
  clear hb11 H10 B10
  go_wp2_with fail
  refine (vote_any g1 id n 1 d r1 _ (H11.out.get 4 rfl)).mono ?_
  rintro e w11 ⟨rfl, rfl⟩
  go_wp2_with fail
  refine (decision_any g1 id n 1 d r1 _ (H11.out.get 4 rfl)).mono ?_
  rintro e w11 ⟨rfl, rfl⟩
  go_wp2_with fail
  refine (decision_any g2 id n 0 d r2 _ (H11.out.get 1 rfl)).mono ?_
  rintro e w11 ⟨rfl, rfl⟩
  have hc : ∀ j, w11.cell? ⟨w4.heap.size, j, none⟩ = (st (.slice none 0 0) 2 true)[j]? := fun j => cell_of_row _ _ j _ 50 (0, 0) (H11.out.get 3 rfl)
  unfold st at hc
  go_wp2_with fail
  clear hc
  refine (stepIs_nil 2 true _).mono ?_
  rintro e w12 ⟨rfl, hb12⟩
  have H12 : Hid (Has w12 _) := H11.out.below hb12
  have B12 : Hid (Below w.heap.size w w12) := B11.out.trans (hb12.mono B11.out.size)
  clear hb12 H11 B11
  have hc : ∀ j, w12.cell? ⟨w7.heap.size, j, none⟩ = (st (.slice none 0 0) 2 true)[j]? := fun j => cell_of_row _ _ j _ 50 (0, 0) (H12.out.get 2 rfl)
  unfold st at hc
  go_wp2_with fail
  clear hc
  refine (stepIs_nil 2 true _).mono ?_
  rintro e w13 ⟨rfl, hb13⟩
  have H13 : Hid (Has w13 _) := H12.out.below hb13
  have B13 : Hid (Below w.heap.size w w13) := B12.out.trans (hb13.mono B12.out.size)
  clear hb13 H12 B12
  have hc : ∀ j, w13.cell? ⟨w9.heap.size, j, none⟩ = (st (.slice none 0 0) 0 false)[j]? := fun j => cell_of_row _ _ j _ 50 (0, 0) (H13.out.get 0 rfl)
  unfold st at hc
  go_wp2_with fail
  clear hc
  refine (stepIs_nil 0 false _).mono ?_
  rintro e w14 ⟨rfl, hb14⟩
  have H14 : Hid (Has w14 _) := H13.out.below hb14
  have B14 : Hid (Below w.heap.size w w14) := B13.out.trans (hb14.mono B13.out.size)
  clear hb14 H13 B13
  go_wp2_with fail
  refine (vote_any g2 id n 0 d r2 _ (H14.out.get 1 rfl)).mono ?_
  rintro e w14 ⟨rfl, rfl⟩
  go_wp2
  go_ret
  exact ⟨rfl, B14.out⟩

end Go.Proofs.Qxb6613598a.fnRecast
