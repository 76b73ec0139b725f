import Derived.Test.Qxb6613556aRows
import Derived.Test.Qxb6613556aTop
import Derived.WalkKit
import Derived.ProofKit
import Derived.OpenShut
import Derived.ChangeOld
import Derived.Below
namespace Go.Proofs.Qxb6613556a.fnMarshal
open Go.ChangeShapes Go.WideShapes Go.ChangeAt Go.RowKit
set_option linter.unusedVariables false

theorem own : ownKnob Try.prog.godebug = none := by kernel_rfl
theorem laidOut : laidOutB Try.prog = true := by kernel_rfl
theorem cells23 : Try.prog.cellsOf 23 = 32 := by kernel_rfl
theorem cells5 : Try.prog.cellsOf 5 = 1 := by kernel_rfl

/-- An argument of type [32]byte, opened: its 32 bytes. -/
theorem open_arr32 {H : Type} {enc : TypeId × Value → H} {W : World} {base b0 : Nat} {r : Reach} {sp : Nat → Bool} {held : Bool} {v : Value} {d : DataW H} {p : List MemPlace}
    (hv : Value.okWide Try.prog W r b0 23 v) (h : DataW.Trod enc Try.prog W base sp held 23 v d p) : ∃ A xs, v = .agg A ∧ Arr A xs := by
  simp only [Value.okWide, Try.underlying23] at hv
  obtain ⟨A, rfl, hsz, _⟩ := hv
  rw [cells23] at hsz
  obtain ⟨fuel, hf⟩ := h
  obtain ⟨ys, m, _, hx, hl, hlen, hi⟩ := DataW.trod_array Try.underlying23 hf
  have hcell : ∀ i, i < 32 → ∃ n : Int, A[i]? = some (.int .u8 n) := by
    intro i hi32
    have h1 := hi i hi32
    rw [cells5, Nat.mul_one] at h1
    obtain ⟨y, hy⟩ : ∃ y, ys[i]? = some y := ⟨_, List.getElem?_eq_getElem (by omega)⟩
    rw [hy] at h1
    obtain ⟨a, ea, _, _⟩ := DataW.trod_int Try.underlying5 h1
    refine ⟨a, ?_⟩
    have hA : i < A.size := by omega
    have e2 : (A.toList.drop i).take 1 = [A[i]] := by
      rw [List.drop_eq_getElem_cons (by simpa using hA)]
      simp
    have e3 : [A[i]] = [Value.int IntKind.u8 a] := by rw [← e2]; exact ea
    rw [Array.getElem?_eq_getElem hA]
    simpa using e3
  refine ⟨A, A.toList.map intOf, rfl, by simpa using hsz, ?_⟩
  apply Array.ext'
  apply List.ext_getElem?
  intro i
  by_cases h32 : i < 32
  · obtain ⟨n, hn⟩ := hcell i h32
    have hn' : A.toList[i]? = some (.int .u8 n) := by simpa using hn
    simp [hn', intOf, Option.map]
  · have h1 : A.toList.length ≤ i := by simp; omega
    rw [List.getElem?_eq_none h1, List.getElem?_eq_none (by simpa using h1)]

set_option maxRecDepth 100000 in
theorem lifted (os : Os) (started : os.Started) (H : Type) (enc : TypeId × Value → H) :
    ReturnsInHanded {} Try.checked os 3 .any (Rows.fnMarshalKeepsTheOrderOfSessionAndKeySpec.pre6 enc Try.prog Try.f3 Rows.fnMarshalKeepsTheOrderOfSessionAndKeyRow.domain false) (Rows.fnMarshalKeepsTheOrderOfSessionAndKeySpec.post enc Try.prog Try.f3 false true false false) := by
  refine returnsInHanded_of_change (C := Try.checked) own started (by kernel_rfl) Try.func3
    (ChangeSpec.witness6 (enc := enc) (C := Try.checked) false ⟨#[], #[.int .u64 0, .agg (Array.replicate 32 (.int .u8 0)), .int .u64 0, .agg (Array.replicate 32 (.int .u8 0))], []⟩ 8 (by kernel_rfl) (by kernel_rfl) (by kernel_rfl) (by kernel_rfl)) ?_
  intro W base args ds gs before hval0 hW hcnd _
  have hval : ∀ (j : Nat) t v, Try.f3.params[j]? = some t → args[j]? = some v → Value.okWide Try.prog W .any base t v := hval0
  have hW' := hW
  obtain ⟨p, q, hA0, hV, rfl, hfz, hnd⟩ := hW
  have hA : DataW.TrodAll enc Try.prog W 0 (fun _ => true) true Try.f3.params.toList args.toList ds p := hA0
  rw [Try.params3] at hA hval
  obtain ⟨v0, vs0, d0, ds0, p0, q0, hargs, rfl, rfl, h0, r0⟩ := trodAll_cons hA
  obtain ⟨v1, vs1, d1, ds1, p1, q1, rfl, rfl, rfl, h1, r1⟩ := trodAll_cons r0
  obtain ⟨v2, vs2, d2, ds2, p2, q2, rfl, rfl, rfl, h2, r2⟩ := trodAll_cons r1
  obtain ⟨v3, vs3, d3, ds3, p3, q3, rfl, rfl, rfl, h3, r3⟩ := trodAll_cons r2
  obtain ⟨rfl, rfl, rfl⟩ := trodAll_nil r3
  obtain rfl : args = #[v0, v1, v2, v3] := by cases args; simp_all
  obtain ⟨rfl, rfl⟩ := trodVars_none hV
  have k1 := h1
  have k3 := h3
  have lt1 : ∀ x ∈ p1, x.block < W.heap.size := by obtain ⟨m, hm⟩ := k1; exact DataW.trod_lt m _ _ _ hm
  have lt3 : ∀ x ∈ p3, x.block < W.heap.size := by obtain ⟨m, hm⟩ := k3; exact DataW.trod_lt m _ _ _ hm
  obtain ⟨a0, rfl, rfl, rfl, w0⟩ := open_int Try.underlying22 (hval 0 22 v0 rfl rfl) h0
  obtain ⟨a2, rfl, rfl, rfl, w2⟩ := open_int Try.underlying22 (hval 2 22 v2 rfl rfl) h2
  obtain ⟨A1, xs, rfl, hA1⟩ := open_arr32 (hval 1 23 v1 rfl rfl) h1
  obtain ⟨A2, ys, rfl, hA2⟩ := open_arr32 (hval 3 23 v3 rfl rfl) h3
  clear hA0 hval0
  have b0 := bounds_u64 w0
  have b2 := bounds_u64 w2
  refine (walk a0 a2 A1 A2 xs ys W b0.1 (by omega) b2.1 (by omega) hA1 hA2).mono fun e W' ⟨he, bel⟩ => ?_
  subst he
  exact ⟨_, rfl, _, _, _, [], _, [], hW', trodAll_mk1 (shut_bool Try.underlying4 _), (trodAll_cons_mk (shut_int Try.underlying22 w0) (trodAll_cons_mk (Below.trod laidOut (by kernel_rfl) (of_decide_eq_true (by kernel_rfl)) k1 bel lt1) (trodAll_cons_mk (shut_int Try.underlying22 w2) (trodAll_cons_mk (Below.trod laidOut (by kernel_rfl) (of_decide_eq_true (by kernel_rfl)) k3 bel lt3) trodAll_mk0)))), rfl, bel.frame _, fun h => by cases h⟩

theorem over : Rows.fnMarshalKeepsTheOrderOfSessionAndKeyRow.holds Try.pinned (OpenSpec.ofChange Rows.fnMarshalKeepsTheOrderOfSessionAndKeySpec) :=
  OpenClaim.holds_of_wide 3 Try.f3 rfl rfl rfl rfl rfl rfl rfl ⟨rfl, rfl, rfl, rfl, rfl⟩ rfl rfl rfl rfl rfl (by kernel_rfl) Try.func3 (by kernel_rfl)
    (of_decide_eq_true (by kernel_rfl)) (by unfold Func.isWrapper; first | (rw [if_pos (by decide +kernel)]; kernel_rfl) | (rw [if_neg (by decide +kernel)]; exact ⟨rfl, rfl⟩))
    (fun os started H enc _ => lifted os started H enc)

/-- The statement. -/
theorem proved : Rows.FnMarshalKeepsTheOrderOfSessionAndKeySaid := over
end Go.Proofs.Qxb6613556a.fnMarshal
