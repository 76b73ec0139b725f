import Derived.Test.Qxb6609121aEqWalks
import Derived.OpenShut
namespace Go.Proofs.Qxb6609121a.fnAppendBallot
open Go.RowKit

/-- WHAT THE WALK IS TOLD OF A SLICE OF INTEGERS THAT CAME IN (the shell's own words). -/
def IsRow (k : IntKind) (w : World) (a : Option Addr) (len cap : Nat) (zs : List Int) : Prop :=
  (a = none ∧ len = 0 ∧ cap = 0 ∧ zs = []) ∨
  ∃ x, a = some x ∧ len ≤ cap ∧ cap ≤ maxLen ∧ zs.length = cap ∧ (∀ i, i < zs.length → w.cell? (x.add i) = some (.int k (zs.getD i 0))) ∧ ∀ n ∈ zs, (Lit.int k n).wf = true

theorem own_full {B : Nat} {w : World} {g n : Nat} {xs : List Value} (h : w.ownsRow B 5 1 (.slice (some ⟨g, 0, none⟩) n n) n xs) : Full w (.slice (some ⟨g, 0, none⟩) n n) n xs := by
  refine ⟨some ⟨g, 0, none⟩, rfl, by simp, by simpa using h.1, fun b hb j u hu => ?_⟩
  cases hb
  exact h.cells (g := g) rfl j u hu

theorem own_shape {B : Nat} {w : World} {v : Value} {n : Nat} {xs : List Value} (h : w.ownsRow B 5 1 v n xs) (hn : 0 < n) :
    ∃ g cap, v = .slice (some ⟨g, 0, none⟩) n cap ∧ B ≤ g ∧ g < w.heap.size ∧ n ≤ cap ∧ cap ≤ maxLen := by
  rcases h.2 with ⟨_, h2⟩ | ⟨g, cap, cur, h2, h3, h4, h5, h6, _⟩
  · omega
  · exact ⟨g, cap, h2, h3, (Array.getElem?_eq_some_iff.1 h4).1, h5, h6⟩

theorem own_cells {B : Nat} {w : World} {g n cap : Nat} {ls : List Int} (h : w.ownsRow B 5 1 (.slice (some ⟨g, 0, none⟩) n cap) n (ls.map (Value.int .u8))) :
    ∀ j, j < n → w.cell? ⟨g, j, none⟩ = some (.int .u8 (ls.getD j 0)) := by
  intro j hj
  have hl : ls.length = n := by have := h.1; simpa using this
  rw [h.cellAt j (by omega)]
  simp [List.getD_eq_getElem?_getD, show j < ls.length by omega]

/-- What the clone leaves: a full slice of the same bytes; if there is a byte, at the head of a block. -/
theorem clone_view (a : Option Addr) (len cap : Nat) (zs : List Int) (w : World) (hrow : IsRow .u8 w a len cap zs) (hlen : len ≤ 10000000) :
    Calls Try.prog 5 #[.slice a len cap] w fun e w' => ∃ ao, e = .returned (.slice ao len len) ∧ Full w' (.slice ao len len) len ((zs.take len).map (Value.int .u8)) ∧ Below w.heap.size w w' ∧
      (0 < len → ∃ g, ao = some ⟨g, 0, none⟩ ∧ g < w'.heap.size ∧ ∀ j, j < len → w'.cell? ⟨g, j, none⟩ = some (.int .u8 ((zs.take len).getD j 0))) := by
  rcases hrow with ⟨rfl, rfl, rfl, rfl⟩ | ⟨x, rfl, h1, h2, h3, h4, _⟩
  · refine (zzClone_nil w).mono ?_
    rintro e w' ⟨rfl, rfl⟩
    exact ⟨none, rfl, ⟨none, rfl, by simp, by simp, by simp⟩, Below.refl _ _, by omega⟩
  · by_cases h0 : len = 0
    · subst h0
      refine (zzClone_empty x cap w).mono ?_
      rintro e w' ⟨rfl, ho, hb⟩
      exact ⟨_, rfl, by simpa using own_full ho, hb, by omega⟩
    · obtain ⟨b, off, rfl, hc⟩ := ints_at h4 (by omega)
      have hz : (zs.take len).length = len := by simp; omega
      have hcell : ∀ j, j < len → w.cell? ⟨b, off + j, none⟩ = some (.int .u8 ((zs.take len).getD j 0)) := by
        intro j hj
        rw [hc j (by omega)]
        simp [List.getD_eq_getElem?_getD, hj]
      have l1 : b < w.heap.size := by
        have := World.block_lt_of_cell? w _ (hcell 0 (by omega))
        simpa using this
      refine (zzClone_any b off len cap (zs.take len) w hz (by omega) hcell l1).mono ?_
      rintro e w' ⟨rfl, ho, hb⟩
      refine ⟨_, rfl, own_full ho, hb, fun _ => ⟨w.heap.size, rfl, ?_, own_cells ho⟩⟩
      exact (own_shape ho (by omega)).elim fun g h => h.elim fun cap h => by
        have h1 := h.1
        simp at h1
        omega

end Go.Proofs.Qxb6609121a.fnAppendBallot
