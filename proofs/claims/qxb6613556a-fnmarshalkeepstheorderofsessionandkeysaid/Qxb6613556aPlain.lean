import Derived.Test.Qxb6613556aBuild
namespace Go.Proofs.Qxb6613556a.fnMarshal

/-- Lexicographic comparison. -/
def cmpL : List Int → List Int → Int
  | a :: l, b :: r => if a < b then -1 else if b < a then 1 else cmpL l r
  | [], [] => 0
  | [], _ :: _ => -1
  | _ :: _, [] => 1

/-- By session, then by key. -/
def cmpP (s1 s2 : Int) (e1 e2 : List Int) : Int := if s1 < s2 then -1 else if s2 < s1 then 1 else cmpL e1 e2

theorem cmpL_same (p l r : List Int) : cmpL (p ++ l) (p ++ r) = cmpL l r := by
  induction p with
  | nil => rfl
  | cons a p ih => simp [cmpL, ih]

theorem cmpL_digit (P Q : Int) (l r : List Int) (R : Int) (h : P / 256 = Q / 256) (hrest : P = Q → cmpL l r = R) (hlt : P < Q → R = -1) (hgt : Q < P → R = 1) : cmpL (P % 256 :: l) (Q % 256 :: r) = R := by
  unfold cmpL
  by_cases c1 : P % 256 < Q % 256
  · rw [if_pos c1, hlt (by omega)]
  · rw [if_neg c1]
    by_cases c2 : Q % 256 < P % 256
    · rw [if_pos c2, hgt (by omega)]
    · rw [if_neg c2]; exact hrest (by omega)

theorem cmpP_lt {s1 s2 : Int} (e1 e2 : List Int) (h : s1 < s2) : cmpP s1 s2 e1 e2 = -1 := by unfold cmpP; rw [if_pos h]
theorem cmpP_gt {s1 s2 : Int} (e1 e2 : List Int) (h : s2 < s1) : cmpP s1 s2 e1 e2 = 1 := by unfold cmpP; rw [if_neg (by omega), if_pos h]
theorem cmpP_eq {s1 s2 : Int} (e1 e2 : List Int) (h : s1 = s2) : cmpP s1 s2 e1 e2 = cmpL e1 e2 := by unfold cmpP; rw [if_neg (by omega), if_neg (by omega)]

theorem cmp_be (x y : Int) (e1 e2 : List Int) (hx0 : 0 ≤ x) (hx1 : x < 18446744073709551616) (hy0 : 0 ≤ y) (hy1 : y < 18446744073709551616) : cmpL (be x ++ e1) (be y ++ e2) = cmpP x y e1 e2 := by
  have t : ∀ z : Int, 0 ≤ z → z < 18446744073709551616 → be z = [z / 72057594037927936 % 256, z / 281474976710656 % 256, z / 1099511627776 % 256, z / 4294967296 % 256, z / 16777216 % 256, z / 65536 % 256, z / 256 % 256, z % 256] := by
    intro z h0 h1
    unfold be
    rw [show z / 72057594037927936 % 256 = z / 72057594037927936 from by omega]
  rw [t x hx0 hx1, t y hy0 hy1]
  simp only [List.cons_append, List.nil_append]
  refine cmpL_digit _ _ _ _ _ (by omega) (fun h1 => ?_) (fun h => cmpP_lt _ _ (by omega)) (fun h => cmpP_gt _ _ (by omega))
  refine cmpL_digit _ _ _ _ _ (by omega) (fun h2 => ?_) (fun h => cmpP_lt _ _ (by omega)) (fun h => cmpP_gt _ _ (by omega))
  refine cmpL_digit _ _ _ _ _ (by omega) (fun h3 => ?_) (fun h => cmpP_lt _ _ (by omega)) (fun h => cmpP_gt _ _ (by omega))
  refine cmpL_digit _ _ _ _ _ (by omega) (fun h4 => ?_) (fun h => cmpP_lt _ _ (by omega)) (fun h => cmpP_gt _ _ (by omega))
  refine cmpL_digit _ _ _ _ _ (by omega) (fun h5 => ?_) (fun h => cmpP_lt _ _ (by omega)) (fun h => cmpP_gt _ _ (by omega))
  refine cmpL_digit _ _ _ _ _ (by omega) (fun h6 => ?_) (fun h => cmpP_lt _ _ (by omega)) (fun h => cmpP_gt _ _ (by omega))
  refine cmpL_digit _ _ _ _ _ (by omega) (fun h7 => ?_) (fun h => cmpP_lt _ _ (by omega)) (fun h => cmpP_gt _ _ (by omega))
  refine cmpL_digit _ _ _ _ _ (by omega) (fun h8 => ?_) (fun h => cmpP_lt _ _ (by omega)) (fun h => cmpP_gt _ _ (by omega))
  exact (cmpP_eq _ _ h8).symm

theorem cmp_frames (x y : Int) (e1 e2 : List Int) (hx0 : 0 ≤ x) (hx1 : x < 18446744073709551616) (hy0 : 0 ≤ y) (hy1 : y < 18446744073709551616) : cmpL ([13, 0, 72] ++ be x ++ e1) ([13, 0, 72] ++ be y ++ e2) = cmpP x y e1 e2 := by
  rw [List.append_assoc, List.append_assoc, cmpL_same, cmp_be x y e1 e2 hx0 hx1 hy0 hy1]

theorem getD_at (xs : List Int) (k : Nat) (hk : k < xs.length) : xs.getD k 0 = xs[k] := by simp [List.getD_eq_getElem?_getD, hk]

/-! What a loop over two lists of one length needs. -/
theorem cmpL_lt (xs ys : List Int) (k : Nat) (hk : k < xs.length) (hl : xs.length = ys.length) (h : xs.getD k 0 < ys.getD k 0) : cmpL (xs.drop k) (ys.drop k) = -1 := by
  rw [List.drop_eq_getElem_cons hk, List.drop_eq_getElem_cons (show k < ys.length by omega)]
  rw [getD_at _ _ hk, getD_at _ _ (show k < ys.length by omega)] at h
  simp [cmpL, h]
theorem cmpL_gt (xs ys : List Int) (k : Nat) (hk : k < xs.length) (hl : xs.length = ys.length) (h : ys.getD k 0 < xs.getD k 0) : cmpL (xs.drop k) (ys.drop k) = 1 := by
  rw [List.drop_eq_getElem_cons hk, List.drop_eq_getElem_cons (show k < ys.length by omega)]
  rw [getD_at _ _ hk, getD_at _ _ (show k < ys.length by omega)] at h
  unfold cmpL
  rw [if_neg (by omega), if_pos h]
theorem cmpL_eq (xs ys : List Int) (k : Nat) (hk : k < xs.length) (hl : xs.length = ys.length) (h1 : ¬ xs.getD k 0 < ys.getD k 0) (h2 : ¬ ys.getD k 0 < xs.getD k 0) : cmpL (xs.drop k) (ys.drop k) = cmpL (xs.drop (k + 1)) (ys.drop (k + 1)) := by
  rw [List.drop_eq_getElem_cons hk, List.drop_eq_getElem_cons (show k < ys.length by omega)]
  rw [getD_at _ _ hk, getD_at _ _ (show k < ys.length by omega)] at h1 h2
  rw [cmpL, if_neg h1, if_neg h2]
theorem cmpL_end (xs ys : List Int) (hl : xs.length = ys.length) : cmpL (xs.drop xs.length) (ys.drop xs.length) = 0 := by
  rw [List.drop_length, hl, List.drop_length]; rfl

end Go.Proofs.Qxb6613556a.fnMarshal
