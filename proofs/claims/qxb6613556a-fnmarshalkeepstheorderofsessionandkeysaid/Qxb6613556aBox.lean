import Derived.Test.Qxb6613556aCmp
import Derived.Great.BuildSlice
namespace Go.Proofs.Qxb6613556a.fnMarshal
open Go.RowKit

/-- What storing a list's members one behind the other, from 'off + k' on, leaves. -/
theorem foldl_set (off : Nat) : ∀ (l : List Value) (k : Nat) (Z : Array Value), off + k + l.length ≤ Z.size →
    ((l.zipIdx k).foldl (fun cs x => cs.setIfInBounds (off + x.2) x.1) Z).size = Z.size ∧
    (∀ i, i < off + k → ((l.zipIdx k).foldl (fun cs x => cs.setIfInBounds (off + x.2) x.1) Z)[i]? = Z[i]?) ∧
    (∀ j, j < l.length → ((l.zipIdx k).foldl (fun cs x => cs.setIfInBounds (off + x.2) x.1) Z)[off + k + j]? = l[j]?)
  | [], k, Z, _ => ⟨rfl, fun _ _ => rfl, fun j hj => absurd hj (by simp)⟩
  | a :: l, k, Z, h => by
    have hl : (a :: l).length = l.length + 1 := rfl
    obtain ⟨h1, h2, h3⟩ := foldl_set off l (k + 1) (Z.setIfInBounds (off + k) a) (by simp; omega)
    simp only [List.zipIdx_cons, List.foldl_cons]
    refine ⟨by rw [h1]; simp, fun i hi => ?_, fun j hj => ?_⟩
    · rw [h2 i (by omega), Array.getElem?_setIfInBounds_ne (by omega)]
    · cases j with
      | zero =>
        rw [h2 (off + k + 0) (by omega), Nat.add_zero, Array.getElem?_setIfInBounds_self]
        rw [if_pos (by omega)]
        rfl
      | succ j =>
        have := h3 j (by omega)
        rw [show off + k + (j + 1) = off + (k + 1) + j from by omega, this]
        rfl

def zero33 : Array Value := #[.int .u64 0, .int .u8 0, .int .u8 0, .int .u8 0, .int .u8 0, .int .u8 0, .int .u8 0, .int .u8 0, .int .u8 0, .int .u8 0, .int .u8 0, .int .u8 0, .int .u8 0, .int .u8 0, .int .u8 0, .int .u8 0, .int .u8 0, .int .u8 0, .int .u8 0, .int .u8 0, .int .u8 0, .int .u8 0, .int .u8 0, .int .u8 0, .int .u8 0, .int .u8 0, .int .u8 0, .int .u8 0, .int .u8 0, .int .u8 0, .int .u8 0, .int .u8 0, .int .u8 0]

theorem built26 (parts : List (Nat × Value)) : Try.prog.built 26 parts = Instr.fill (fun i => #[(0, 1), (1, 32)][i]?) zero33 parts := by kernel_rfl

theorem box26 (s : Int) (A : Array Value) (hA : A.size = 32) : ∃ M, Try.prog.built 26 [(0, .int .u64 s), (1, .agg A)] = some M ∧ M.size = 33 ∧ M[0]? = some (.int .u64 s) ∧ ∀ j, j < 32 → M[1 + j]? = A[j]? := by
  rw [built26]
  have hz : (zero33.setIfInBounds 0 (.int .u64 s)).size = 33 := by simp [zero33]
  have e1 : Instr.fill (fun i => #[(0, 1), (1, 32)][i]?) zero33 [(0, .int .u64 s), (1, .agg A)] = some ((A.toList.zipIdx 0).foldl (fun cs x => cs.setIfInBounds (1 + x.2) x.1) (zero33.setIfInBounds 0 (.int .u64 s))) := by
    have hz' : zero33.size = 33 := by simp [zero33]
    simp [Instr.fill, Value.cells, hA, hz']
    rw [← Array.toList_zipIdx, Array.foldl_toList]
    congr 1
    simp [hA]
  obtain ⟨h1, h2, h3⟩ := foldl_set 1 A.toList 0 (zero33.setIfInBounds 0 (.int .u64 s)) (by rw [hz]; simp [hA])
  refine ⟨_, e1, by rw [h1, hz], ?_, fun j hj => ?_⟩
  · rw [h2 0 (by omega)]; simp [zero33]
  · have := h3 j (by simpa [hA] using hj)
    rw [show 1 + 0 + j = 1 + j from by omega] at this
    rw [this]
    simp

end Go.Proofs.Qxb6613556a.fnMarshal
