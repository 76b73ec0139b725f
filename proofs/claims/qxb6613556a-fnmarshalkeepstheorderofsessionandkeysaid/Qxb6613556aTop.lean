import Derived.Test.Qxb6613556aMarshal
import Derived.Test.Qxb6613556aBox
namespace Go.Proofs.Qxb6613556a.fnMarshal
open Go.RowKit

theorem size23 (A : Array Value) (h : A.size = 32) : (Try.prog.info? 23).map (·.size) = some A.size := by
  rw [h]; kernel_rfl

theorem four (w : World) (o0 o1 o2 o3 : Obj) : ((((w.alloc o0).alloc o1).alloc o2).alloc o3).heap[w.heap.size]? = some o0 ∧ ((((w.alloc o0).alloc o1).alloc o2).alloc o3).heap[w.heap.size + 1]? = some o1 ∧
    ((((w.alloc o0).alloc o1).alloc o2).alloc o3).heap[w.heap.size + 1 + 1]? = some o2 ∧ ((((w.alloc o0).alloc o1).alloc o2).alloc o3).heap[w.heap.size + 1 + 1 + 1]? = some o3 := by
  have s0 : (w.alloc o0).heap.size = w.heap.size + 1 := by simp
  have s1 : ((w.alloc o0).alloc o1).heap.size = w.heap.size + 1 + 1 := by simp
  have s2 : (((w.alloc o0).alloc o1).alloc o2).heap.size = w.heap.size + 1 + 1 + 1 := by simp
  have n0 := heap_alloc_new w o0
  have n1 := heap_alloc_new (w.alloc o0) o1
  have n2 := heap_alloc_new ((w.alloc o0).alloc o1) o2
  have n3 := heap_alloc_new (((w.alloc o0).alloc o1).alloc o2) o3
  rw [s0] at n1
  rw [s1] at n2
  rw [s2] at n3
  have k : ∀ (W : World) (o : Obj) (i : Nat), i < W.heap.size → (W.alloc o).heap[i]? = W.heap[i]? := fun W o i h => Below.heap_alloc W o i h
  refine ⟨?_, ?_, ?_, n3⟩
  · rw [k _ _ _ (by omega), k _ _ _ (by omega), k _ _ _ (by omega)]; exact n0
  · rw [k _ _ _ (by omega), k _ _ _ (by omega)]; exact n1
  · rw [k _ _ _ (by omega)]; exact n2

theorem three (w : World) (o0 o1 o2 : Obj) : (((w.alloc o0).alloc o1).alloc o2).heap[w.heap.size + 1]? = some o1 := by
  have n1 := heap_alloc_new (w.alloc o0) o1
  rw [Below.heap_alloc _ _ _ (by simp)]
  simpa using n1

theorem two (w : World) (o0 o1 : Obj) : ((w.alloc o0).alloc o1).heap[w.heap.size]? = some o0 := by
  rw [Below.heap_alloc _ _ _ (by simp)]
  exact heap_alloc_new w o0

theorem wpList_box26 {ops : Array Oper} {rest : List Oper} {o : Oper} {a : Act} {w : World} {Q : Exit → Act → World → Prop} (hg : o.guard = none) (x y : Operand) (ho : o.op = .build 26 #[(0, x), (1, y)])
    (s : Int) (A M : Array Value) (hx : a.eval x = .int .u64 s) (hy : a.eval y = .agg A) (hM : Try.prog.built 26 [(0, .int .u64 s), (1, .agg A)] = some M)
    (h : wpList Try.prog ops Q rest (a.put o.dst (.agg M)) w) : wpList Try.prog ops Q (o :: rest) a w :=
  wpList_buildTo hg 26 _ ho o.dst rfl M (by simp only [List.map_toArray, List.map_cons, List.map_nil, hx, hy]; exact hM) h

theorem own_cells {B : Nat} {w : World} {g n cap : Nat} {ls : List Int} (h : w.ownsRow B 5 1 (.slice (some ⟨g, 0, none⟩) n cap) n (ls.map (Value.int .u8))) :
    (∀ j, j < n → w.cell? ⟨g, j, none⟩ = some (.int .u8 (ls.getD j 0))) ∧ g < w.heap.size := by
  have hl : ls.length = n := by have := h.1; simpa using this
  refine ⟨fun j hj => ?_, ?_⟩
  · rw [h.cellAt j (by omega)]
    simp [List.getD_eq_getElem?_getD, show j < ls.length by omega]
  · exact (h.lt g rfl).2

theorem kept_own {B W : Nat} {w w' : World} {v : Value} {n : Nat} {xs : List Value} (h : w.ownsRow B 5 1 v n xs) (hb : Below W w w') (hW : w.heap.size ≤ W) : w'.ownsRow B 5 1 v n xs :=
  h.kept (row := none) ⟨hb.os, hb.tape, hb.output, hb.size, fun k hk _ => hb.block k (by omega)⟩ (by cases hv : v.ownBlock <;> simp)

set_option maxHeartbeats 1000000 in
theorem walk (s1 s2 : Int) (A1 A2 : Array Value) (xs ys : List Int) (w : World) (h10 : 0 ≤ s1) (h11 : s1 < 18446744073709551616) (h20 : 0 ≤ s2) (h21 : s2 < 18446744073709551616) (hA1 : Arr A1 xs) (hA2 : Arr A2 ys) :
    Calls Try.prog 3 #[.int .u64 s1, .agg A1, .int .u64 s2, .agg A2] w fun e w' => e = .returned (.bool true) ∧ Below w.heap.size w w' := by
  have HA1 : Hid _ := hA1
  have HA2 : Hid _ := hA2
  have z1 : Hid _ := size23 A1 hA1.size
  have z2 : Hid _ := size23 A2 hA2.size
  obtain ⟨M1, hM1, m1s, m10, m1j⟩ := box26 s1 A1 hA1.size
  obtain ⟨M2, hM2, m2s, m20, m2j⟩ := box26 s2 A2 hA2.size
  have HM1 : Hid _ := hM1
  have HM2 : Hid _ := hM2
  have HJ1 : Hid (M1[0]? = some (.int .u64 s1) ∧ ∀ j, j < 32 → M1[1 + j]? = A1[j]?) := ⟨m10, m1j⟩
  have HJ2 : Hid (M2[0]? = some (.int .u64 s2) ∧ ∀ j, j < 32 → M2[1 + j]? = A2[j]?) := ⟨m20, m2j⟩
  clear hM1 hM2 m1s m10 m1j m2s m20 m2j hA1 hA2
  obtain ⟨f1, f2, f3, f4⟩ := four w (.cells A1 23) (.cells A2 23) (.cells M1 26) (.cells M2 26)
  have sz : ((((w.alloc (.cells A1 23)).alloc (.cells A2 23)).alloc (.cells M1 26)).alloc (.cells M2 26)).heap.size = w.heap.size + 4 := by simp
  have hb0 : Below w.heap.size w ((((w.alloc (.cells A1 23)).alloc (.cells A2 23)).alloc (.cells M1 26)).alloc (.cells M2 26)) := ((((Below.refl _ _).alloc (Nat.le_refl _) _).alloc (by simp) _).alloc (by simp; omega) _).alloc (by simp; omega) _
  -- what the two calls of Marshal leave
  have E4 : Hid (Calls Try.prog 4 #[.pointer (some ⟨w.heap.size + 1 + 1, 0, none⟩)] ((((w.alloc (.cells A1 23)).alloc (.cells A2 23)).alloc (.cells M1 26)).alloc (.cells M2 26)) fun e w' => ∃ g cap, e = .returned (.slice (some ⟨g, 0, none⟩) 43 cap) ∧ w'.ownsRow ((((w.alloc (.cells A1 23)).alloc (.cells A2 23)).alloc (.cells M1 26)).alloc (.cells M2 26)).heap.size 5 1 (.slice (some ⟨g, 0, none⟩) 43 cap) 43 (([13, 0, 72] ++ be s1 ++ xs).map (Value.int .u8)) ∧ Below ((((w.alloc (.cells A1 23)).alloc (.cells A2 23)).alloc (.cells M1 26)).alloc (.cells M2 26)).heap.size ((((w.alloc (.cells A1 23)).alloc (.cells A2 23)).alloc (.cells M1 26)).alloc (.cells M2 26)) w') := by
    refine marshal_any (w.heap.size + 1 + 1) s1 xs ((((w.alloc (.cells A1 23)).alloc (.cells A2 23)).alloc (.cells M1 26)).alloc (.cells M2 26)) h10 h11 HA1.out.1 (by omega) ?_ (fun j hj => ?_)
    · rw [cell_of_row _ _ 0 M1 26 (0, 0) f3]; exact HJ1.out.1
    · rw [cell_of_row _ _ (1 + j) M1 26 (0, 0) f3, HJ1.out.2 j hj]; exact Arr.at HA1.out j hj
  have E5 : Hid (∀ w2 : World, Below ((((w.alloc (.cells A1 23)).alloc (.cells A2 23)).alloc (.cells M1 26)).alloc (.cells M2 26)).heap.size ((((w.alloc (.cells A1 23)).alloc (.cells A2 23)).alloc (.cells M1 26)).alloc (.cells M2 26)) w2 → Calls Try.prog 4 #[.pointer (some ⟨w.heap.size + 1 + 1 + 1, 0, none⟩)] w2 fun e w' => ∃ g cap, e = .returned (.slice (some ⟨g, 0, none⟩) 43 cap) ∧ w'.ownsRow w2.heap.size 5 1 (.slice (some ⟨g, 0, none⟩) 43 cap) 43 (([13, 0, 72] ++ be s2 ++ ys).map (Value.int .u8)) ∧ Below w2.heap.size w2 w') := by
    intro w2 hb2
    have hsz2 := hb2.size
    refine marshal_any (w.heap.size + 1 + 1 + 1) s2 ys w2 h20 h21 HA2.out.1 (by omega) ?_ (fun j hj => ?_)
    · rw [hb2.cell (p := ⟨w.heap.size + 1 + 1 + 1, 0, none⟩) (by show w.heap.size + 1 + 1 + 1 < _; omega), cell_of_row _ _ 0 M2 26 (0, 0) f4]; exact HJ2.out.1
    · rw [hb2.cell (p := ⟨w.heap.size + 1 + 1 + 1, 1 + j, none⟩) (by show w.heap.size + 1 + 1 + 1 < _; omega), cell_of_row _ _ (1 + j) M2 26 (0, 0) f4, HJ2.out.2 j hj]; exact Arr.at HA2.out j hj
  have E6 : Hid (∀ (w5 : World) (g1 c1 g2 c2 B1 B2 : Nat), w5.ownsRow B1 5 1 (.slice (some ⟨g1, 0, none⟩) 43 c1) 43 (([13, 0, 72] ++ be s1 ++ xs).map (Value.int .u8)) → w5.ownsRow B2 5 1 (.slice (some ⟨g2, 0, none⟩) 43 c2) 43 (([13, 0, 72] ++ be s2 ++ ys).map (Value.int .u8)) →
      Calls Try.prog 6 #[.slice (some ⟨g1, 0, none⟩) 43 c1, .slice (some ⟨g2, 0, none⟩) 43 c2] w5 fun e w' => e = .returned (.int .i64 (cmpP s1 s2 xs ys)) ∧ Below w5.heap.size w5 w') := by
    intro w5 g1 c1 g2 c2 B1 B2 o1 o2
    obtain ⟨k1, l1⟩ := own_cells o1
    obtain ⟨k2, l2⟩ := own_cells o2
    have n1 : ([13, 0, 72] ++ be s1 ++ xs).length = 43 := by have := o1.1; simpa using this
    have n2 : ([13, 0, 72] ++ be s2 ++ ys).length = 43 := by have := o2.1; simpa using this
    rw [← cmp_frames s1 s2 xs ys h10 h11 h20 h21]
    exact compareBytes_any g1 g2 43 c1 c2 _ _ w5 (by omega) n1 n2 k1 k2 l1 l2
  have F1 : Hid _ := f1
  have F2 : Hid _ := f2
  have SZ : Hid _ := sz
  have HB0 : Hid _ := hb0
  clear f1 f2 f3 f4 sz hb0 HJ1 HJ2
  go_enter Try.func3, Try.ntmps3
  go_wp2_with (first
    | (refine wpList_load_row rfl 23 (.tmp 5) rfl w.heap.size rfl 23 A1 (0, 0) _ (two w _ _) Try.underlying23 rfl z1.out ?_)
    | (refine wpList_load_row rfl 23 (.tmp 7) rfl (w.heap.size + 1) rfl 23 A2 (0, 0) _ (three w _ _ _) Try.underlying23 rfl z2.out ?_)
    | (refine wpList_box26 (by rfl) (.tmp 14) (.tmp 15) (by rfl) s1 A1 M1 (by rfl) (by rfl) HM1.out ?_)
    | (refine wpList_box26 (by rfl) (.tmp 18) (.tmp 19) (by rfl) s2 A2 M2 (by rfl) (by rfl) HM2.out ?_))
  refine E4.out.mono ?_
  rintro e w2 ⟨g1, c1, rfl, o1, hb2⟩
  have B2 : Hid _ := hb2
  have O1 : Hid _ := o1
  clear hb2 o1
  go_wp2_with fail
  refine (E5.out w2 B2.out).mono ?_
  rintro e w3 ⟨g2, c2, rfl, o2, hb3⟩
  have hr1 : w3.heap[w.heap.size]? = some (.cells A1 23 (0, 0)) := by
    rw [hb3.block _ (by have := B2.out.size; have := SZ.out; omega), B2.out.block _ (by have := SZ.out; omega)]; exact F1.out
  have hr2 : w3.heap[w.heap.size + 1]? = some (.cells A2 23 (0, 0)) := by
    rw [hb3.block _ (by have := B2.out.size; have := SZ.out; omega), B2.out.block _ (by have := SZ.out; omega)]; exact F2.out
  have R1 : Hid _ := hr1
  have R2 : Hid _ := hr2
  have O1' : Hid _ := kept_own O1.out hb3 (Nat.le_refl _)
  have O2 : Hid _ := o2
  have B3 : Hid (Below w.heap.size w w3) := by
    have := SZ.out
    have := B2.out.size
    exact (HB0.out.trans (B2.out.mono (by omega))).trans (hb3.mono (by omega))
  clear hr1 hr2 o2 hb3 O1 B2
  go_wp2_with (first
    | (refine wpList_load_row rfl 23 (.tmp 5) rfl w.heap.size rfl 23 A1 (0, 0) _ R1.out Try.underlying23 rfl z1.out ?_)
    | (refine wpList_load_row rfl 23 (.tmp 7) rfl (w.heap.size + 1) rfl 23 A2 (0, 0) _ R2.out Try.underlying23 rfl z2.out ?_))
  refine (comparePair_any s1 s2 A1 A2 xs ys _ HA1.out HA2.out).mono ?_
  rintro e w4 ⟨rfl, hb4⟩
  have O1'' : Hid _ := kept_own O1'.out hb4 (Nat.le_refl _)
  have O2'' : Hid _ := kept_own O2.out hb4 (Nat.le_refl _)
  have B4 : Hid (Below w.heap.size w w4) := B3.out.trans (hb4.mono B3.out.size)
  clear hb4 O1' O2 B3 R1 R2
  go_wp2_with fail
  refine (E6.out w4 g1 c1 g2 c2 _ _ O1''.out O2''.out).mono ?_
  rintro e w5 ⟨rfl, hb5⟩
  have B5 : Hid (Below w.heap.size w w5) := B4.out.trans (hb5.mono B4.out.size)
  clear hb5
  go_wp2
  go_ret
  exact ⟨rfl, B5.out⟩

end Go.Proofs.Qxb6613556a.fnMarshal
