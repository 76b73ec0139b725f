import Derived.Test.Qxb6609121aUvWalks
import Derived.Lib.SliceRun
import Derived.Deep.QuietTactic
import Derived.BigQuiet
namespace Go.Proofs.Qxb6609121a.fnAppendBallot
open Go.RowKit

/-! ### zzBytes -/
set_option maxHeartbeats 400000 in
theorem zzBytes_any (a : Option Addr) (len cap : Nat) (x y : Int) (w : World) (hl : len ≤ maxLen) :
    Calls Try.prog 4 #[.slice a len cap, .int .u64 x, .int .u32 y] w fun e w' => (∃ b, e = .returned (.bool b)) ∧ w' = w := by
  unfold maxLen at hl
  go_enter Try.func4, Try.ntmps4
  go_wp2
  all_goals
    go_ret
    exact ⟨⟨_, rfl⟩, rfl⟩

/-! ### zzEqual: two slices that hold the same bytes -/
set_option maxHeartbeats 400000 in
theorem zzEqual_empty (a1 a2 : Option Addr) (c1 c2 : Nat) (w : World) :
    Calls Try.prog 8 #[.slice a1 0 c1, .slice a2 0 c2] w fun e w' => e = .returned (.bool true) ∧ Below w.heap.size w w' := by
  go_enter Try.func8, Try.ntmps8
  go_wp2
  refine wp_loop_rounds 1 ?_
  rw [rounds_succ]
  go_wp2
  go_ret
  exact ⟨rfl, Below.refl _ _⟩

set_option maxHeartbeats 400000 in
theorem zzEqual_same (b1 o1 b2 o2 n c1 c2 : Nat) (zs : List Int) (w : World) (hz : zs.length = n) (hn : n ≤ 1000000000)
    (h1 : ∀ j, j < n → w.cell? ⟨b1, o1 + j, none⟩ = some (.int .u8 (zs.getD j 0))) (h2 : ∀ j, j < n → w.cell? ⟨b2, o2 + j, none⟩ = some (.int .u8 (zs.getD j 0)))
    (l1 : b1 < w.heap.size) (l2 : b2 < w.heap.size) :
    Calls Try.prog 8 #[.slice (some ⟨b1, o1, none⟩) n c1, .slice (some ⟨b2, o2, none⟩) n c2] w fun e w' => e = .returned (.bool true) ∧ Below w.heap.size w w' := by
  go_enter Try.func8, Try.ntmps8
  go_wp2
  go_loopw [5] (fun i wr => ∃ k : Nat, k ≤ n ∧ i = .int .i64 k ∧ Below w.heap.size w wr) (fun i _ => n - (intOf i).toNat)
  case atStart => exact ⟨0, by omega, rfl, Below.refl _ _⟩
  case round =>
    obtain ⟨k, hk, rfl, hbel⟩ := hrel
    by_cases hlt : k < n
    · have q1 : wr.cell? ⟨b1, o1 + k, none⟩ = some (.int .u8 (zs.getD k 0)) := (hbel.cell (by exact l1)).trans (h1 k hlt)
      have q2 : wr.cell? ⟨b2, o2 + k, none⟩ = some (.int .u8 (zs.getD k 0)) := (hbel.cell (by exact l2)).trans (h2 k hlt)
      clear h1 h2
      have hlt' : (k : Int) < (n : Int) := by omega
      go_wp2
      go_quiet (fail)
      go_wp2
      go_roundw
      case rel => exact ⟨k + 1, by omega, by go_num, below_drewN hbel _⟩
      case measure => simp [intOf]; omega
    · go_wp2
      go_ret
      exact ⟨rfl, hbel⟩

/-! ### zzClone -/
set_option maxHeartbeats 400000 in
theorem zzClone_nil (w : World) :
    Calls Try.prog 5 #[.slice none 0 0] w fun e w' => e = .returned (.slice none 0 0) ∧ w' = w := by
  have hq := fun (w : World) (a : Option Addr) (n c n' c' : Nat) => Lib.run_eql_slice_nil (P := Try.prog) w 22 5 a n c n' c' Try.underlying22
  go_enter Try.func5, Try.ntmps5
  go_wp2
  go_ret
  exact ⟨rfl, rfl⟩

/-- What the clone holds after k rounds. -/
def fill (zs : List Int) (n k : Nat) : List Value := (zs.take k).map (Value.int .u8) ++ List.replicate (n - k) (Value.int .u8 0)

theorem fill_zero (zs : List Int) (n : Nat) : fill zs n 0 = List.replicate n (Value.int .u8 0) := by simp [fill]
theorem fill_full (zs : List Int) (n : Nat) (h : zs.length = n) : fill zs n n = zs.map (Value.int .u8) := by simp [fill, ← h]
theorem fill_length (zs : List Int) (n k : Nat) (h : zs.length = n) (hk : k ≤ n) : (fill zs n k).length = n := by simp [fill]; omega
theorem fill_step (zs : List Int) (n k : Nat) (h : zs.length = n) (hk : k < n) : (fill zs n k).set k (Value.int .u8 (zs.getD k 0)) = fill zs n (k + 1) := by
  unfold fill
  have e1 : ((zs.take k).map (Value.int .u8)).length = k := by simp; omega
  rw [List.set_append_right _ _ (by omega), e1, Nat.sub_self]
  have e2 : n - k = (n - (k + 1)) + 1 := by omega
  rw [e2, List.replicate_succ, List.set_cons_zero, List.take_succ_eq_append_getElem (by omega), List.map_append, List.append_assoc]
  have e3 : zs.getD k 0 = zs[k]'(by omega) := by simp [List.getD_eq_getElem?_getD, show k < zs.length by omega]
  rw [e3]
  rfl

set_option maxHeartbeats 400000 in
theorem zzClone_empty (ad : Addr) (cap : Nat) (w : World) :
    Calls Try.prog 5 #[.slice (some ad) 0 cap] w fun e w' => e = .returned (.slice (some ⟨w.heap.size, 0, none⟩) 0 0) ∧ w'.ownsRow w.heap.size 5 1 (.slice (some ⟨w.heap.size, 0, none⟩) 0 0) 0 [] ∧ Below w.heap.size w w' := by
  obtain ⟨i0, hi, hz0, hz1, hz2⟩ := info_parts info5
  have hq := fun (w : World) (a : Option Addr) (n c n' c' : Nat) => Lib.run_eql_slice_nil (P := Try.prog) w 22 5 a n c n' c' Try.underlying22
  go_enter Try.func5, Try.ntmps5
  go_wp2_with (at_make; refine wpList_make_full w rfl (.tmp 8) (.tmp 8) 22 rfl w.heap.size 5 i0 (.int .u8 0) 1 Try.underlying22 hi hz0 hz1 .i64 .i64 _ _ 0 rfl rfl rfl rfl ?c1 ?c2 ?c3 ?_)
  case c1 => omega
  case c2 => unfold maxLen; omega
  case c3 => omega
  intro w1 hown hgr
  have hb1 : Below w.heap.size w w1 := below_of_grown hgr (Nat.le_refl _) (fun k hk => by cases hk)
  have ho1 : w1.ownsRow w.heap.size 5 1 (.slice (some ⟨w.heap.size, 0, none⟩) 0 0) 0 [] := by
    have := hown
    rw [toList_madeCells_one] at this
    exact this
  clear hown hgr
  go_wp2
  refine wp_loop_rounds 1 ?_
  rw [rounds_succ]
  go_wp2
  go_ret
  exact ⟨rfl, ho1, hb1⟩

set_option maxHeartbeats 400000 in
theorem zzClone_any (b o n cap : Nat) (zs : List Int) (w : World) (hz : zs.length = n) (hn : n ≤ 1000000000) (h1 : ∀ j, j < n → w.cell? ⟨b, o + j, none⟩ = some (.int .u8 (zs.getD j 0))) (l1 : b < w.heap.size) :
    Calls Try.prog 5 #[.slice (some ⟨b, o, none⟩) n cap] w fun e w' => e = .returned (.slice (some ⟨w.heap.size, 0, none⟩) n n) ∧ w'.ownsRow w.heap.size 5 1 (.slice (some ⟨w.heap.size, 0, none⟩) n n) n (zs.map (Value.int .u8)) ∧ Below w.heap.size w w' := by
  obtain ⟨i0, hi, hz0, hz1, hz2⟩ := info_parts info5
  have hq := fun (w : World) (a : Option Addr) (n c n' c' : Nat) => Lib.run_eql_slice_nil (P := Try.prog) w 22 5 a n c n' c' Try.underlying22
  go_enter Try.func5, Try.ntmps5
  go_wp2_with (at_make; refine wpList_make_full w rfl (.tmp 8) (.tmp 8) 22 rfl w.heap.size 5 i0 (.int .u8 0) 1 Try.underlying22 hi hz0 hz1 .i64 .i64 _ _ n rfl rfl rfl rfl ?c1 ?c2 ?c3 ?_)
  case c1 => rw [hz2]; omega
  case c2 => unfold maxLen; omega
  case c3 => omega
  intro w1 hown hgr
  have hb1 : Below w.heap.size w w1 := below_of_grown hgr (Nat.le_refl _) (fun k hk => by cases hk)
  have ho1 : w1.ownsRow w.heap.size 5 1 (.slice (some ⟨w.heap.size, 0, none⟩) n n) n (fill zs n 0) := by
    rw [fill_zero]
    have := hown
    rw [toList_madeCells_one] at this
    exact this
  clear hown hgr
  go_wp2
  go_loopw [4] (fun i wr => ∃ k : Nat, k ≤ n ∧ i = .int .i64 k ∧ wr.ownsRow w.heap.size 5 1 (.slice (some ⟨w.heap.size, 0, none⟩) n n) n (fill zs n k) ∧ Below w.heap.size w wr) (fun i _ => n - (intOf i).toNat)
  case atStart => exact ⟨0, by omega, rfl, ho1, hb1⟩
  case round =>
    obtain ⟨k, hk, rfl, ho, hbel⟩ := hrel
    clear ho1 hb1
    by_cases hlt : k < n
    · obtain ⟨z, hzk⟩ : ∃ z, z = zs.getD k 0 := ⟨_, rfl⟩
      have q1 : wr.cell? ⟨b, o + k, none⟩ = some (.int .u8 z) := by rw [hzk]; exact (hbel.cell (by exact l1)).trans (h1 k hlt)
      obtain ⟨u, q2⟩ : ∃ u, wr.cell? ⟨w.heap.size, k, none⟩ = some u := by
        rw [ho.cellAt k (by omega)]
        exact ⟨_, List.getElem?_eq_getElem (by rw [fill_length zs n k hz hk]; omega)⟩
      have q3 := ho.frozenAt k
      have st := ho.stored k (.int .u8 z)
      have R : Hid ((wr.setCell ⟨w.heap.size, k, none⟩ (.int .u8 z)).ownsRow w.heap.size 5 1 (.slice (some ⟨w.heap.size, 0, none⟩) n n) n (fill zs n (k + 1)) ∧ Below w.heap.size w (wr.setCell ⟨w.heap.size, k, none⟩ (.int .u8 z))) := by
        refine ⟨?_, hbel.setCell (Nat.le_refl _) _⟩
        rw [← fill_step zs n k hz hlt, ← hzk]
        exact st.1
      clear st ho hbel h1 hzk
      have hlt' : (k : Int) < (n : Int) := by omega
      go_wp2
      go_roundw
      case rel => exact ⟨k + 1, by omega, by go_num, R.out.1, R.out.2⟩
      case measure => simp [intOf]; omega
    · have hkn : k = n := by omega
      subst hkn
      rw [fill_full zs k hz] at ho
      go_wp2
      go_ret
      exact ⟨rfl, ho, hbel⟩

/-! ### AppendBallot -/
theorem Full.alloc {w : World} {v : Value} {n : Nat} {xs : List Value} (h : Full w v n xs) (o : Obj) : Full (w.alloc o) v n xs := by
  obtain ⟨ao, rfl, h1, h2, h3⟩ := h
  exact ⟨ao, rfl, h1, h2, fun b hb j u hu => (World.grownBy_alloc w o none).cell (h3 b hb j u hu) (by simp)⟩

set_option maxHeartbeats 400000 in
theorem appendBallot_any (v : Value) (n : Nat) (xs : List Value) (x y : Int) (w : World) (hx0 : 0 ≤ x) (hx1 : x < 18446744073709551616) (hy0 : 0 ≤ y) (hy1 : y < 4294967296) (hfull : Full w v n xs) (hn : n ≤ 10000000) :
    Calls Try.prog 6 #[v, .agg #[.int .u64 x, .int .u32 y]] w fun e w' => ∃ v', e = .returned v' ∧ w'.ownsRow w.heap.size 5 1 v' (n + (enc x.toNat).length + (enc y.toNat).length) (xs ++ (enc x.toNat).map (Value.int .u8) ++ (enc y.toNat).map (Value.int .u8)) ∧ Below w.heap.size w w' := by
  have hL := enc_le11 x.toNat (by omega)
  go_enter Try.func6, Try.ntmps6
  go_wp2_with fail
  refine (appendUvarint_any v n xs x _ hx0 hx1 (w.heap.size + 1) (.inr (hfull.alloc _)) (by simp) (by omega)).mono ?_
  rintro e w1 ⟨v1, rfl, ho1, hb1⟩
  have hbw : Below w.heap.size w w1 := ((Below.refl _ _).alloc (Nat.le_refl _) _).trans (hb1.mono (by omega))
  have q1 : w1.cell? ⟨w.heap.size, 1, none⟩ = some (.int .u32 y) := (hb1.cell (p := ⟨w.heap.size, 1, none⟩) (by simp)).trans (by simp)
  have hs1 : w.heap.size + 1 ≤ w1.heap.size := by have := hb1.size; simp at this; omega
  clear hb1
  go_wp2_with fail
  refine (appendUvarint_any v1 _ _ y _ hy0 (by omega) (w.heap.size + 1) (.inl ho1) hs1 (by omega)).mono ?_
  rintro e w2 ⟨v2, rfl, ho2, hb2⟩
  have ho3 := ownsRow_base (B' := w.heap.size) ho2 (by omega)
  have hbw2 := hbw.trans (hb2.mono (by omega))
  clear ho1 ho2 hb2 hbw
  go_wp2
  go_ret
  exact ⟨v2, rfl, ho3, hbw2⟩

end Go.Proofs.Qxb6609121a.fnAppendBallot
