import Derived.Test.Qxb6613556aBuild
namespace Go.Proofs.Qxb6613556a.fnMarshal
open Go.RowKit

/-- The three bytes that a frame begins with. -/
def head3 : List Value := [.int .u8 13, .int .u8 0, .int .u8 0]

theorem frame_list (s : Int) (es : List Int) : ((((head3 ++ (be s).map (Value.int .u8)) ++ es.map (Value.int .u8)).set 1 (.int .u8 0)).set 2 (.int .u8 72)) = ([13, 0, 72] ++ be s ++ es).map (Value.int .u8) := by
  simp [head3]

set_option maxHeartbeats 2000000 in
theorem marshal_any (M : Nat) (s : Int) (es : List Int) (w : World) (hs0 : 0 ≤ s) (hs1 : s < 18446744073709551616) (hl : es.length = 32) (hM : M < w.heap.size)
    (hc0 : w.cell? ⟨M, 0, none⟩ = some (.int .u64 s)) (hc : ∀ j, j < 32 → w.cell? ⟨M, 1 + j, none⟩ = some (.int .u8 (es.getD j 0))) :
    Calls Try.prog 4 #[.pointer (some ⟨M, 0, none⟩)] w fun e w' => ∃ g cap, e = .returned (.slice (some ⟨g, 0, none⟩) 43 cap) ∧ w'.ownsRow w.heap.size 5 1 (.slice (some ⟨g, 0, none⟩) 43 cap) 43 (([13, 0, 72] ++ be s ++ es).map (Value.int .u8)) ∧ Below w.heap.size w w' := by
  have HC : Hid _ := hc
  have hown1 : (w.alloc (.cells #[.int .u8 13, .int .u8 0, .int .u8 0] 5)).drew.ownsRow w.heap.size 5 1 (.slice (some ⟨w.heap.size, 0, none⟩) 3 3) 3 head3 :=
    (World.ownsRow_lit w #[.int .u8 13, .int .u8 0, .int .u8 0] 3 (Nat.le_refl _) (by unfold maxLen; omega) rfl).drew
  have U8 : Hid (Calls Try.prog 8 #[.slice (some ⟨w.heap.size, 0, none⟩) 3 3, .int .u64 s] (w.alloc (.cells #[.int .u8 13, .int .u8 0, .int .u8 0] 5)).drew fun e w' => ∃ v', e = .returned v' ∧ w'.ownsRow w.heap.size 5 1 v' (3 + 8) (head3 ++ (be s).map (Value.int .u8)) ∧ Below w.heap.size (w.alloc (.cells #[.int .u8 13, .int .u8 0, .int .u8 0] 5)).drew w') :=
    u64_any s (.slice (some ⟨w.heap.size, 0, none⟩) 3 3) 3 head3 w.heap.size (w.alloc (.cells #[.int .u8 13, .int .u8 0, .int .u8 0] 5)).drew hs0 hs1 hown1 (by simp) (by omega)
  have U9 : Hid (∀ (v2 : Value) (w2 : World), w2.ownsRow w.heap.size 5 1 v2 11 (head3 ++ (be s).map (Value.int .u8)) → Below w.heap.size w w2 →
      Calls Try.prog 9 #[v2, .slice (some ⟨M, 1, none⟩) 32 32] w2 fun e w' => ∃ g cap, e = .returned (.slice (some ⟨g, 0, none⟩) 43 cap) ∧ w'.ownsRow w.heap.size 5 1 (.slice (some ⟨g, 0, none⟩) 43 cap) 43 ((head3 ++ (be s).map (Value.int .u8)) ++ es.map (Value.int .u8)) ∧ Below w.heap.size w w') := by
    intro v2 w2 ho2 hb2
    refine (raw_any v2 11 _ w.heap.size w2 M 1 32 32 (es.map (Value.int .u8)) (by simpa using hl) ho2 hb2.size (by omega) (fun j u hj => ?_) (fun u hu => ?_)).mono ?_
    · have hj' : j < 32 := by have := (List.getElem?_eq_some_iff.1 hj).1; simp at this; omega
      rw [hb2.cell (p := ⟨M, 1 + j, none⟩) (by exact hM), HC.out j hj', ← hj]
      simp [List.getD_eq_getElem?_getD, show j < es.length by omega]
    · simp at hu; obtain ⟨a, _, rfl⟩ := hu; rfl
    · rintro e w3 ⟨v3, rfl, ho3, hb3⟩
      obtain ⟨g, cap, rfl, _⟩ := own_shape ho3 (by omega)
      exact ⟨g, cap, rfl, ho3, hb2.trans hb3⟩
  have U10 : Hid (∀ (g cap : Nat) (w3 : World), w3.ownsRow w.heap.size 5 1 (.slice (some ⟨g, 0, none⟩) 43 cap) 43 ((head3 ++ (be s).map (Value.int .u8)) ++ es.map (Value.int .u8)) → Below w.heap.size w w3 →
      Calls Try.prog 10 #[.slice (some ⟨g, 0, none⟩) 43 cap, .bool true] w3 fun e w' => e = .returned (.slice (some ⟨g, 0, none⟩) 43 cap) ∧ w'.ownsRow w.heap.size 5 1 (.slice (some ⟨g, 0, none⟩) 43 cap) 43 (([13, 0, 72] ++ be s ++ es).map (Value.int .u8)) ∧ Below w.heap.size w w') := by
    intro g cap w3 ho3 hb3
    refine (frame_any g cap _ w.heap.size w3 ho3 hb3.size).mono ?_
    rintro e w4 ⟨rfl, ho4, hb4⟩
    rw [frame_list] at ho4
    exact ⟨rfl, ho4, hb3.trans hb4⟩
  clear hc hown1
  go_enter Try.func4, Try.ntmps4
  go_wp2
  go_region_held3 (fun w' => w'.cell? ⟨M, 0, none⟩ = some (.int .u64 s)) (go_keep) (first
    | (go_at_call 7; refine (begin_any 13 _).mono ?_; rintro e w' ⟨rfl, rfl⟩)
    | (go_at_call 9; refine (U9.out v2 w2 ho2 hbw2).mono ?_; rintro e w3 ⟨g, cap, rfl, ho3, hb3⟩; have k3 : w3.cell? ⟨M, 0, none⟩ = some (.int .u64 s) := (hb3.cell (p := ⟨M, 0, none⟩) hM).trans hc0)
    | (go_at_call 10; refine (U10.out g cap w3 ho3 hb3).mono ?_; rintro e w4 ⟨rfl, ho4, hb4⟩; have k4 : w4.cell? ⟨M, 0, none⟩ = some (.int .u64 s) := (hb4.cell (p := ⟨M, 0, none⟩) hM).trans hc0)
    | (go_at_call 8; refine U8.out.mono ?_; rintro e w2 ⟨v2, rfl, ho2, hb2⟩; have hbw2 : Below w.heap.size w w2 := (((Below.refl _ _).alloc (Nat.le_refl _) _).drew).trans hb2; have k2 : w2.cell? ⟨M, 0, none⟩ = some (.int .u64 s) := (hbw2.cell (p := ⟨M, 0, none⟩) hM).trans hc0; clear hb2))
  go_wp2
  go_ret
  exact ⟨g, cap, rfl, ho4, hb4⟩

end Go.Proofs.Qxb6613556a.fnMarshal
