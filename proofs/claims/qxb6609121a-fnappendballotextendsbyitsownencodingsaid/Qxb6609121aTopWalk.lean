import Derived.Test.Qxb6609121aLawWalks
namespace Go.Proofs.Qxb6609121a.fnAppendBallot
open Go.RowKit

theorem kept_own {B W : Nat} {w w' : World} {v : Value} {n : Nat} {xs : List Value} (h : w.ownsRow B 5 1 v n xs) (hb : Below W w w') (hW : w.heap.size ≤ W) : w'.ownsRow B 5 1 v n xs :=
  h.kept (row := none) ⟨hb.os, hb.tape, hb.output, hb.size, fun k hk _ => hb.block k (by omega)⟩ (by cases hv : v.ownBlock <;> simp)

set_option maxHeartbeats 1000000 in
theorem walk (a0 : Option Addr) (len0 cap0 : Nat) (z0 : List Int) (a1 : Int) (a2 : Int) (w : World) (w0 : IsRow .u8 w a0 len0 cap0 z0) (w1 : (Lit.int .u64 a1).wf = true) (w2 : (Lit.int .u32 a2).wf = true) :
    Calls Try.prog 3 #[.slice a0 len0 cap0, .int .u64 a1, .int .u32 a2] w fun e w' => e = .returned (.bool true) ∧ Below w.heap.size w w' := by
  have hl : len0 ≤ maxLen := by
    rcases w0 with ⟨rfl, rfl, rfl, rfl⟩ | ⟨x, rfl, h1, h2, _⟩
    · unfold maxLen; omega
    · omega
  have hl' := hl
  unfold maxLen at hl'
  have hx := bounds_u64 w1
  have hy := bounds_u32 w2
  by_cases hbig : (1048576 : Int) < (len0 : Int)
  · go_enter Try.func3, Try.ntmps3
    go_wp2_with fail
    refine (zzBytes_any _ _ _ _ _ _ hl).mono ?_
    rintro e w' ⟨⟨b, rfl⟩, rfl⟩
    go_wp2
    all_goals
      go_ret
      exact ⟨rfl, Below.refl _ _⟩
  · go_enter Try.func3, Try.ntmps3
    go_wp2_with fail
    refine (zzBytes_any _ _ _ _ _ _ hl).mono ?_
    rintro e w' ⟨⟨b, rfl⟩, rfl⟩
    cases b
    · go_wp2
      go_ret
      exact ⟨rfl, Below.refl _ _⟩
    go_wp2_with fail
    refine (clone_view a0 len0 cap0 z0 w' w0 (by omega)).mono ?_
    rintro e w3 ⟨ao, rfl, hfull, hb3, hcl⟩
    go_wp2_with fail
    refine (appendBallot_any _ len0 _ a1 a2 _ hx.1 (by omega) hy.1 (by omega) (hfull.alloc _) (by omega)).mono ?_
    rintro e w4 ⟨v1, rfl, ho4, hb4⟩
    have hLx := enc_le11 a1.toNat (by omega)
    have hLy := enc_le11 a2.toNat (by omega)
    have hPx := enc_pos a1.toNat
    have hPy := enc_pos a2.toNat
    obtain ⟨g1, c1, hv1, hg1, hg1', hn1, hc1⟩ := own_shape ho4 (by omega)
    rw [hv1] at ho4
    rw [hv1]
    have q0 : w4.cell? ⟨w3.heap.size, 0, none⟩ = some (.int .u64 a1) := (hb4.cell (p := ⟨w3.heap.size, 0, none⟩) (by simp)).trans (by simp)
    have q1 : w4.cell? ⟨w3.heap.size, 1, none⟩ = some (.int .u32 a2) := (hb4.cell (p := ⟨w3.heap.size, 1, none⟩) (by simp)).trans (by simp)
    clear hv1 v1
    go_wp2_with fail
    refine (appendBallot_any (.slice none 0 0) 0 [] a1 a2 _ hx.1 (by omega) hy.1 (by omega) ⟨none, rfl, by simp, rfl, by simp⟩ (by omega)).mono ?_
    rintro e w5 ⟨v2, rfl, ho5, hb5⟩
    obtain ⟨g2, c2, hv2, hg2, hg2', hn2, hc2⟩ := own_shape ho5 (by omega)
    rw [hv2] at ho5
    rw [hv2]
    clear hv2 v2
    have ho4' := kept_own ho4 hb5 (Nat.le_refl _)
    clear ho4 q0 q1
    go_wp2_with fail
    refine (uvlen_any a1 _ hx.1 (by omega)).mono ?_
    rintro e w5 ⟨rfl, rfl⟩
    go_wp2_with fail
    refine (uvlen_any a2 _ hy.1 (by omega)).mono ?_
    rintro e w5 ⟨rfl, rfl⟩
    go_wp2_with fail
    have ho4s : w5.ownsRow (w3.alloc (Obj.cells #[Value.int IntKind.u64 a1, Value.int IntKind.u32 a2] 29)).heap.size 5 1 (.slice (some ⟨g1, 0, none⟩) (len0 + (enc a1.toNat).length + (enc a2.toNat).length) c1) (len0 + (enc a1.toNat).length + (enc a2.toNat).length) ((z0.take len0 ++ (enc a1.toNat ++ enc a2.toNat)).map (Value.int .u8)) := by
      simpa [List.map_append, List.append_assoc] using ho4'
    have ho5s : w5.ownsRow w4.heap.size 5 1 (.slice (some ⟨g2, 0, none⟩) ((enc a1.toNat).length + (enc a2.toNat).length) c2) ((enc a1.toNat).length + (enc a2.toNat).length) ((enc a1.toNat ++ enc a2.toNat).map (Value.int .u8)) := by
      simpa [List.map_append] using ho5
    have k4 := own_cells ho4s
    have k5 := own_cells ho5s
    have hzl : (z0.take len0).length = len0 := by
      have := ho4s.1
      simp only [List.length_map, List.length_append] at this
      omega
    have sz4 := hb4.size
    have sz5 := hb5.size
    have E1 : Calls Try.prog 8 #[.slice (some ⟨g1, 0, none⟩) len0 c1, .slice ao len0 len0] w5 fun e w' => e = .returned (.bool true) ∧ Below w5.heap.size w5 w' := by
      rcases Nat.eq_zero_or_pos len0 with h0 | h0
      · subst h0
        exact zzEqual_empty _ _ _ _ _
      · obtain ⟨g, rfl, hg, hc⟩ := hcl h0
        simp at sz4
        refine zzEqual_same g1 0 g 0 len0 c1 len0 (z0.take len0) w5 hzl (by omega) (fun j hj => ?_) (fun j hj => ?_) (by omega) (by omega)
        · rw [Nat.zero_add, k4 j (by omega)]
          simp [List.getD_eq_getElem?_getD, List.getElem?_append_left (show j < (z0.take len0).length by omega)]
        · rw [Nat.zero_add, hb5.cell (p := ⟨g, j, none⟩) (by show g < _; omega), hb4.cell (p := ⟨g, j, none⟩) (by simp; omega)]
          exact (World.grownBy_alloc w3 _ none).cell (hc j hj) (by simp)
    refine E1.mono ?_
    rintro e w6 ⟨rfl, hb6⟩
    clear E1
    have E2 : Hid (Calls Try.prog 8 #[.slice (some ⟨g1, len0, none⟩) ((enc a1.toNat).length + (enc a2.toNat).length) (c1 - len0), .slice (some ⟨g2, 0, none⟩) ((enc a1.toNat).length + (enc a2.toNat).length) c2] w6 fun e w' => e = .returned (.bool true) ∧ Below w6.heap.size w6 w') := by
      have sz6 := hb6.size
      refine zzEqual_same g1 len0 g2 0 _ _ c2 (enc a1.toNat ++ enc a2.toNat) w6 (by simp) (by omega) (fun j hj => ?_) (fun j hj => ?_) (by omega) (by omega)
      · rw [hb6.cell (p := ⟨g1, len0 + j, none⟩) (by show g1 < _; omega), k4 (len0 + j) (by omega)]
        rw [List.getD_eq_getElem?_getD, List.getD_eq_getElem?_getD, List.getElem?_append_right (by omega), hzl, Nat.add_sub_cancel_left]
      · rw [Nat.zero_add, hb6.cell (p := ⟨g2, j, none⟩) (by show g2 < _; omega), k5 j hj]
    clear k4 k5 ho4s ho5s ho4' ho5 hcl hfull
    have hbel : Below w'.heap.size w' w6 := by
      have s3 := hb3.size
      have s4 := hb4.size
      simp at s4
      exact (((hb3.alloc hb3.size _).trans (hb4.mono (by simp; omega))).trans (hb5.mono (by omega))).trans (hb6.mono (by omega))
    go_wp2_with fail
    rw [show len0 + (enc a1.toNat).length + (enc a2.toNat).length - len0 = (enc a1.toNat).length + (enc a2.toNat).length from by omega]
    refine E2.out.mono ?_
    rintro e w7 ⟨rfl, hb7⟩
    have hbel7 : Below w'.heap.size w' w7 := hbel.trans (hb7.mono hbel.size)
    clear E2 hbel hb7 hb6 hb5 hb4 hb3
    go_wp2
    go_ret
    exact ⟨rfl, hbel7⟩

end Go.Proofs.Qxb6609121a.fnAppendBallot
