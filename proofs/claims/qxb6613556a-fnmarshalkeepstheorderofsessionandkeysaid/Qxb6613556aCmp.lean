import Derived.Test.Qxb6613556aPlain
import Derived.Deep.QuietTactic
import Derived.BigQuiet
namespace Go.Proofs.Qxb6613556a.fnMarshal
open Go.RowKit

theorem ret_int {k : IntKind} {a b : Int} (h : a = b) : Ending.returned (.int k a) = .returned (.int k b) := by rw [h]

set_option maxHeartbeats 1000000 in
theorem compareBytes_any (b1 b2 n c1 c2 : Nat) (xs ys : List Int) (w : World) (hn : n ≤ 1000000) (hlx : xs.length = n) (hly : ys.length = n)
    (h1 : ∀ j, j < n → w.cell? ⟨b1, j, none⟩ = some (.int .u8 (xs.getD j 0))) (h2 : ∀ j, j < n → w.cell? ⟨b2, j, none⟩ = some (.int .u8 (ys.getD j 0)))
    (l1 : b1 < w.heap.size) (l2 : b2 < w.heap.size) :
    Calls Try.prog 6 #[.slice (some ⟨b1, 0, none⟩) n c1, .slice (some ⟨b2, 0, none⟩) n c2] w fun e w' => e = .returned (.int .i64 (cmpL xs ys)) ∧ Below w.heap.size w w' := by
  have HX : Hid (xs.length = n) := hlx
  have HY : Hid (ys.length = n) := hly
  have H1 : Hid _ := h1
  have H2 : Hid _ := h2
  clear hlx hly h1 h2
  go_enter Try.func6, Try.ntmps6
  go_wp2
  go_loopw [5] (fun i wr => ∃ k : Nat, k ≤ n ∧ i = .int .i64 k ∧ Hid (cmpL (xs.drop k) (ys.drop k) = cmpL xs ys) ∧ Below w.heap.size w wr) (fun i _ => n - (intOf i).toNat)
  case atStart => exact ⟨0, by omega, rfl, rfl, Below.refl _ _⟩
  case round =>
    obtain ⟨k, hk, rfl, hcmp, hbel⟩ := hrel
    by_cases hlt : k < n
    · obtain ⟨x, hx⟩ : ∃ x, x = xs.getD k 0 := ⟨_, rfl⟩
      obtain ⟨y, hy⟩ : ∃ y, y = ys.getD k 0 := ⟨_, rfl⟩
      have q1 : wr.cell? ⟨b1, k, none⟩ = some (.int .u8 x) := by rw [hx]; exact (hbel.cell (by exact l1)).trans (H1.out k hlt)
      have q2 : wr.cell? ⟨b2, k, none⟩ = some (.int .u8 y) := by rw [hy]; exact (hbel.cell (by exact l2)).trans (H2.out k hlt)
      have HXk : Hid (x = xs.getD k 0) := hx
      have HYk : Hid (y = ys.getD k 0) := hy
      clear hx hy
      have hlt' : (k : Int) < (n : Int) := by omega
      by_cases c1 : x < y
      · go_wp2
        go_quiet (fail)
        go_wp2
        go_ret
        exact ⟨ret_int (by rw [← hcmp.out, cmpL_lt xs ys k (by rw [HX.out]; omega) (by rw [HX.out, HY.out]) (by rw [← HXk.out, ← HYk.out]; exact c1)]), below_drewN hbel _⟩
      · by_cases c2 : y < x
        · go_wp2
          go_quiet (fail)
          go_wp2
          go_quiet (fail)
          go_wp2
          go_ret
          exact ⟨ret_int (by rw [← hcmp.out, cmpL_gt xs ys k (by rw [HX.out]; omega) (by rw [HX.out, HY.out]) (by rw [← HXk.out, ← HYk.out]; exact c2)]), below_drewN (below_drewN hbel _) _⟩
        · have R : Hid (cmpL (xs.drop (k + 1)) (ys.drop (k + 1)) = cmpL xs ys) := by
            show _ = _
            rw [← hcmp.out, cmpL_eq xs ys k (by rw [HX.out]; omega) (by rw [HX.out, HY.out]) (by rw [← HXk.out, ← HYk.out]; exact c1) (by rw [← HXk.out, ← HYk.out]; exact c2)]
          go_wp2
          go_quiet (fail)
          go_wp2
          go_quiet (fail)
          go_wp2
          go_roundw
          case rel => exact ⟨k + 1, by omega, by go_num, R, below_drewN hbel _⟩
          case measure => simp [intOf]; omega
    · have hkn : k = n := by omega
      have R : Hid (cmpL xs ys = 0) := by
        show _ = _
        rw [← hcmp.out, hkn, ← HX.out]
        exact cmpL_end xs ys (by rw [HX.out, HY.out])
      subst hkn
      go_wp2
      go_ret
      exact ⟨ret_int R.out.symm, hbel⟩

/-- An array value of 32 bytes. -/
def Arr (A : Array Value) (xs : List Int) : Prop := xs.length = 32 ∧ A = (xs.map (Value.int .u8)).toArray

theorem Arr.at {A : Array Value} {xs : List Int} (h : Arr A xs) (j : Nat) (hj : j < 32) : A[j]? = some (.int .u8 (xs.getD j 0)) := by
  obtain ⟨h1, rfl⟩ := h
  simp [List.getD_eq_getElem?_getD, show j < xs.length by omega]
theorem Arr.size {A : Array Value} {xs : List Int} (h : Arr A xs) : A.size = 32 := by
  obtain ⟨h1, rfl⟩ := h
  simpa using h1

set_option maxHeartbeats 400000 in
theorem comparePair_lt (s1 s2 : Int) (A1 A2 : Array Value) (w : World) (hlt : s1 < s2) :
    Calls Try.prog 5 #[.int .u64 s1, .agg A1, .int .u64 s2, .agg A2] w fun e w' => e = .returned (.int .i64 (-1)) ∧ Below w.heap.size w w' := by
  go_enter Try.func5, Try.ntmps5
  go_wp2
  go_ret
  exact ⟨rfl, ((Below.refl _ _).alloc (Nat.le_refl _) _).alloc (by simp) _⟩

set_option maxHeartbeats 400000 in
theorem comparePair_gt (s1 s2 : Int) (A1 A2 : Array Value) (w : World) (hlt : s2 < s1) :
    Calls Try.prog 5 #[.int .u64 s1, .agg A1, .int .u64 s2, .agg A2] w fun e w' => e = .returned (.int .i64 1) ∧ Below w.heap.size w w' := by
  go_enter Try.func5, Try.ntmps5
  go_wp2
  go_ret
  exact ⟨rfl, ((Below.refl _ _).alloc (Nat.le_refl _) _).alloc (by simp) _⟩

set_option maxHeartbeats 1000000 in
theorem comparePair_eq (s : Int) (A1 A2 : Array Value) (xs ys : List Int) (w : World) (hA1 : Arr A1 xs) (hA2 : Arr A2 ys) :
    Calls Try.prog 5 #[.int .u64 s, .agg A1, .int .u64 s, .agg A2] w fun e w' => e = .returned (.int .i64 (cmpL xs ys)) ∧ Below w.heap.size w w' := by
  have HX : Hid (xs.length = 32) := hA1.1
  have HY : Hid (ys.length = 32) := hA2.1
  have hb0 : Below w.heap.size w ((w.alloc (.cells A1 23)).alloc (.cells A2 23)) := ((Below.refl _ _).alloc (Nat.le_refl _) _).alloc (by simp) _
  have H1 : Hid (∀ j, j < 32 → ((w.alloc (.cells A1 23)).alloc (.cells A2 23)).cell? ⟨w.heap.size, j, none⟩ = some (.int .u8 (xs.getD j 0))) := by
    intro j hj
    rw [cell_of_row _ w.heap.size j A1 23 (0, 0) ((Below.heap_alloc (w.alloc (.cells A1 23)) (.cells A2 23) w.heap.size (by simp)).trans (heap_alloc_new w _))]
    exact hA1.at j hj
  have H2 : Hid (∀ j, j < 32 → ((w.alloc (.cells A1 23)).alloc (.cells A2 23)).cell? ⟨w.heap.size + 1, j, none⟩ = some (.int .u8 (ys.getD j 0))) := by
    intro j hj
    rw [cell_of_row _ (w.heap.size + 1) j A2 23 (0, 0) (by have := heap_alloc_new (w.alloc (.cells A1 23)) (.cells A2 23); simpa using this)]
    exact hA2.at j hj
  clear hA1 hA2
  go_enter Try.func5, Try.ntmps5
  go_wp2
  go_loopw [9] (fun i wr => ∃ k : Nat, k ≤ 32 ∧ i = .int .i64 k ∧ Hid (cmpL (xs.drop k) (ys.drop k) = cmpL xs ys) ∧ Below (w.heap.size + 2) ((w.alloc (.cells A1 23)).alloc (.cells A2 23)) wr) (fun i _ => 32 - (intOf i).toNat)
  case atStart => exact ⟨0, by omega, rfl, rfl, Below.refl _ _⟩
  case round =>
    obtain ⟨k, hk, rfl, hcmp, hbel⟩ := hrel
    have hend : Below w.heap.size w wr := hb0.trans (hbel.mono (by omega))
    by_cases hlt : k < 32
    · obtain ⟨x, hx⟩ : ∃ x, x = xs.getD k 0 := ⟨_, rfl⟩
      obtain ⟨y, hy⟩ : ∃ y, y = ys.getD k 0 := ⟨_, rfl⟩
      have q1 : wr.cell? ⟨w.heap.size, k, none⟩ = some (.int .u8 x) := by rw [hx]; exact (hbel.cell (by simp)).trans (H1.out k hlt)
      have q2 : wr.cell? ⟨w.heap.size + 1, k, none⟩ = some (.int .u8 y) := by rw [hy]; exact (hbel.cell (by simp)).trans (H2.out k hlt)
      have HXk : Hid (x = xs.getD k 0) := hx
      have HYk : Hid (y = ys.getD k 0) := hy
      clear hx hy
      have hlt' : (k : Int) < (32 : Int) := by omega
      by_cases c1 : x < y
      · go_wp2
        go_quiet (fail)
        go_wp2
        go_ret
        exact ⟨ret_int (by rw [← hcmp.out, cmpL_lt xs ys k (by rw [HX.out]; omega) (by rw [HX.out, HY.out]) (by rw [← HXk.out, ← HYk.out]; exact c1)]), below_drewN hend _⟩
      · by_cases c2 : y < x
        · go_wp2
          go_quiet (fail)
          go_wp2
          go_quiet (fail)
          go_wp2
          go_ret
          exact ⟨ret_int (by rw [← hcmp.out, cmpL_gt xs ys k (by rw [HX.out]; omega) (by rw [HX.out, HY.out]) (by rw [← HXk.out, ← HYk.out]; exact c2)]), below_drewN (below_drewN hend _) _⟩
        · have R : Hid (cmpL (xs.drop (k + 1)) (ys.drop (k + 1)) = cmpL xs ys) := by
            show _ = _
            rw [← hcmp.out, cmpL_eq xs ys k (by rw [HX.out]; omega) (by rw [HX.out, HY.out]) (by rw [← HXk.out, ← HYk.out]; exact c1) (by rw [← HXk.out, ← HYk.out]; exact c2)]
          go_wp2
          go_quiet (fail)
          go_wp2
          go_quiet (fail)
          go_wp2
          go_roundw
          case rel => exact ⟨k + 1, by omega, by go_num, R, below_drewN hbel _⟩
          case measure => simp [intOf]; omega
    · have hkn : k = 32 := by omega
      have R : Hid (cmpL xs ys = 0) := by
        show _ = _
        rw [← hcmp.out, hkn, ← HX.out]
        exact cmpL_end xs ys (by rw [HX.out, HY.out])
      subst hkn
      go_wp2
      go_ret
      exact ⟨ret_int R.out.symm, hend⟩

theorem comparePair_any (s1 s2 : Int) (A1 A2 : Array Value) (xs ys : List Int) (w : World) (hA1 : Arr A1 xs) (hA2 : Arr A2 ys) :
    Calls Try.prog 5 #[.int .u64 s1, .agg A1, .int .u64 s2, .agg A2] w fun e w' => e = .returned (.int .i64 (cmpP s1 s2 xs ys)) ∧ Below w.heap.size w w' := by
  by_cases c1 : s1 < s2
  · rw [cmpP_lt _ _ c1]; exact comparePair_lt s1 s2 A1 A2 w c1
  · by_cases c2 : s2 < s1
    · rw [cmpP_gt _ _ c2]; exact comparePair_gt s1 s2 A1 A2 w c2
    · have e : s1 = s2 := by omega
      subst e
      rw [cmpP_eq _ _ rfl]; exact comparePair_eq s1 A1 A2 xs ys w hA1 hA2

end Go.Proofs.Qxb6613556a.fnMarshal
