import Derived.Test.Qxb6608778aRows
import Derived.WalkKit
import Derived.WalkSpells
import Derived.WalkLawsBesides
namespace Go.Proofs.Qxb6608778a.fnCellRange
open Go.RowKit

/-- A store of a float into one cell: the law that the kit's Entries lacks. -/
theorem run_store_float (P : Program) (w : World) (a : Addr) (m : Mode) (k : FloatKind) (n : Nat) : (store a (.float k n) m).run P w = stored P w a (.float k n) m := run_store P w a _ m rfl
attribute [local go_sem] run_store_float

set_option maxHeartbeats 400000 in
theorem inRect_yes (a b : Int) (w : World) :
    Calls Try.prog 8 #[.int .i64 a, .int .i64 b, .int .i64 a, .int .i64 b, .int .i64 a, .int .i64 b] w fun e w' => e = .returned (.bool true) ∧ w' = w := by
  go_enter Try.func8, Try.ntmps8
  go_wp2
  go_ret
  exact ⟨rfl, rfl⟩

set_option maxHeartbeats 400000 in
theorem inRect_no (a b x y : Int) (w : World) (h : (a == x && b == y) = false) :
    Calls Try.prog 8 #[.int .i64 a, .int .i64 b, .int .i64 a, .int .i64 b, .int .i64 x, .int .i64 y] w fun e w' => e = .returned (.bool false) ∧ w' = w := by
  have H : ¬ (a = x ∧ b = y) := by simpa using h
  clear h
  by_cases h1 : a ≤ x
  · by_cases h2 : x ≤ a
    · by_cases h3 : b ≤ y
      · have h4 : ¬ y ≤ b := by omega
        clear H
        go_enter Try.func8, Try.ntmps8
        go_wp2
        go_ret
        exact ⟨rfl, rfl⟩
      · clear H
        go_enter Try.func8, Try.ntmps8
        go_wp2
        go_ret
        exact ⟨rfl, rfl⟩
    · clear H
      go_enter Try.func8, Try.ntmps8
      go_wp2
      go_ret
      exact ⟨rfl, rfl⟩
  · clear H
    go_enter Try.func8, Try.ntmps8
    go_wp2
    go_ret
    exact ⟨rfl, rfl⟩

set_option maxHeartbeats 400000 in
theorem zzBytes_any (a0 a1 a2 : Int) (s3 : ByteArray) (f4 : Nat) (s5 : ByteArray) (a6 a7 a8 : Int) (s9 : ByteArray) (f10 : Nat) (s11 : ByteArray) (w : World) (b3 : s3.size ≤ maxLen) (b5 : s5.size ≤ maxLen) (b9 : s9.size ≤ maxLen) (b11 : s11.size ≤ maxLen) :
    Calls Try.prog 6 #[.int .i64 a0, .int .i64 a1, .int .i64 a2, .string s3, .float .f64 f4, .string s5, .int .i64 a6, .int .i64 a7, .int .i64 a8, .string s9, .float .f64 f10, .string s11] w fun e w' => (∃ b, e = .returned (.bool b)) ∧ w' = w := by
  unfold maxLen at *
  go_enter Try.func6, Try.ntmps6
  go_wp2
  all_goals
    go_ret
    exact ⟨⟨_, rfl⟩, rfl⟩

set_option maxHeartbeats 400000 in
theorem cellRange13 (a0 a1 a2 : Int) (s3 : ByteArray) (f4 : Nat) (s5 : ByteArray) (w : World) :
    Calls Try.prog 13 #[.agg #[.int .i64 a0, .int .i64 a1, .int .i64 a2, .string s3, .float .f64 f4, .string s5]] w fun e w' => e = .returned (.agg #[.int .i64 a0, .int .i64 a1, .int .i64 a0, .int .i64 a1]) ∧ w' = (w.alloc (.cells #[.int .i64 a0, .int .i64 a1, .int .i64 a2, .string s3, .float .f64 f4, .string s5] 26)).alloc (.cells #[.int .i64 a0, .int .i64 a1, .int .i64 a0, .int .i64 a1] 28) := by
  go_enter Try.func13, Try.ntmps13
  go_wp2
  exact bodyPost_ret (v := .agg #[.int .i64 a0, .int .i64 a1, .int .i64 a0, .int .i64 a1]) (by simp [results, Try.results13, go_sem]) rfl ⟨rfl, rfl⟩

set_option maxHeartbeats 400000 in
theorem cellRange7 (a0 a1 a2 : Int) (s3 : ByteArray) (f4 : Nat) (s5 : ByteArray) (w : World) :
    Calls Try.prog 7 #[.agg #[.int .i64 a0, .int .i64 a1, .int .i64 a2, .string s3, .float .f64 f4, .string s5]] w fun e w' => e = .returned (.agg #[.int .i64 a0, .int .i64 a1, .int .i64 a0, .int .i64 a1]) ∧ w' = (((w.alloc (.cells #[.int .i64 a0, .int .i64 a1, .int .i64 a2, .string s3, .float .f64 f4, .string s5] 26)).alloc (.cells #[.int .i64 a0, .int .i64 a1, .int .i64 a0, .int .i64 a1] 28)).alloc (.cells #[.int .i64 a0, .int .i64 a1, .int .i64 a2, .string s3, .float .f64 f4, .string s5] 26)).alloc (.cells #[.int .i64 a0, .int .i64 a1, .int .i64 a0, .int .i64 a1] 28) := by
  go_enter Try.func7, Try.ntmps7
  go_wp2_with (go_at_call 13; refine (cellRange13 _ _ _ _ _ _ _).mono ?_; rintro e w' ⟨rfl, rfl⟩)
  exact bodyPost_ret (v := .agg #[.int .i64 a0, .int .i64 a1, .int .i64 a0, .int .i64 a1]) (by simp [results, Try.results7, go_sem]) rfl ⟨rfl, rfl⟩

set_option maxHeartbeats 400000 in
theorem law_eq (a0 a1 a2 : Int) (s3 : ByteArray) (f4 : Nat) (s5 : ByteArray) (a8 : Int) (s9 : ByteArray) (f10 : Nat) (s11 : ByteArray) (w : World) (b3 : s3.size ≤ maxLen) (b5 : s5.size ≤ maxLen) (b9 : s9.size ≤ maxLen) (b11 : s11.size ≤ maxLen)
    (c3 : ¬ (262144 : Int) < s3.size) (c5 : ¬ (262144 : Int) < s5.size) (c9 : ¬ (262144 : Int) < s9.size) (c11 : ¬ (262144 : Int) < s11.size) :
    Calls Try.prog 3 #[.int .i64 a0, .int .i64 a1, .int .i64 a2, .string s3, .float .f64 f4, .string s5, .int .i64 a0, .int .i64 a1, .int .i64 a8, .string s9, .float .f64 f10, .string s11] w fun e w' => e = .returned (.bool true) ∧ Grown w w' := by
  go_enter Try.func3, Try.ntmps3
  go_wp2_with (first | (go_at_call 6; refine (zzBytes_any _ _ _ _ _ _ _ _ _ _ _ _ _ b3 b5 b9 b11).mono ?_; rintro e w' ⟨⟨b, rfl⟩, rfl⟩) | (go_at_call 7; refine (cellRange7 _ _ _ _ _ _ _).mono ?_; rintro e w' ⟨rfl, rfl⟩) | (go_at_call 8; refine (inRect_yes _ _ _).mono ?_; rintro e w' ⟨rfl, rfl⟩))
  · go_ret
    exact ⟨rfl, Grown.refl _⟩
  · go_ret
    refine ⟨rfl, ?_⟩
    iterate 12 (refine Grown.alloc ?_ _ _)
    exact Grown.refl _

set_option maxHeartbeats 400000 in
theorem law_ne (a0 a1 a2 : Int) (s3 : ByteArray) (f4 : Nat) (s5 : ByteArray) (a6 a7 a8 : Int) (s9 : ByteArray) (f10 : Nat) (s11 : ByteArray) (w : World) (b3 : s3.size ≤ maxLen) (b5 : s5.size ≤ maxLen) (b9 : s9.size ≤ maxLen) (b11 : s11.size ≤ maxLen)
    (c3 : ¬ (262144 : Int) < s3.size) (c5 : ¬ (262144 : Int) < s5.size) (c9 : ¬ (262144 : Int) < s9.size) (c11 : ¬ (262144 : Int) < s11.size) (h : (a0 == a6 && a1 == a7) = false) (h' : (a6 == a0 && a7 == a1) = false) :
    Calls Try.prog 3 #[.int .i64 a0, .int .i64 a1, .int .i64 a2, .string s3, .float .f64 f4, .string s5, .int .i64 a6, .int .i64 a7, .int .i64 a8, .string s9, .float .f64 f10, .string s11] w fun e w' => e = .returned (.bool true) ∧ Grown w w' := by
  have H : Hid _ := h
  have H' : Hid _ := h'
  clear h h'
  by_cases c : a0 = a6
  · subst c
    have c' : (a1 == a7) = false := by simpa using H.out
    go_enter Try.func3, Try.ntmps3
    go_wp2_with fail
    refine (zzBytes_any _ _ _ _ _ _ _ _ _ _ _ _ _ b3 b5 b9 b11).mono ?_
    rintro e w' ⟨⟨b, rfl⟩, rfl⟩
    cases b
    · go_wp2
      go_ret
      exact ⟨rfl, Grown.refl _⟩
    go_wp2_with fail
    refine (cellRange7 _ _ _ _ _ _ _).mono ?_
    rintro e w' ⟨rfl, rfl⟩
    go_wp2_with fail
    refine (cellRange7 _ _ _ _ _ _ _).mono ?_
    rintro e w' ⟨rfl, rfl⟩
    go_wp2_with fail
    refine (inRect_yes _ _ _).mono ?_
    rintro e w' ⟨rfl, rfl⟩
    go_wp2_with fail
    refine (inRect_yes _ _ _).mono ?_
    rintro e w' ⟨rfl, rfl⟩
    go_wp2_with fail
    refine (inRect_no _ _ _ _ _ H.out).mono ?_
    rintro e w' ⟨rfl, rfl⟩
    go_wp2_with fail
    refine (inRect_no _ _ _ _ _ H'.out).mono ?_
    rintro e w' ⟨rfl, rfl⟩
    go_wp2
    go_ret
    refine ⟨rfl, ?_⟩
    iterate 12 (refine Grown.alloc ?_ _ _)
    exact Grown.refl _
  · have c' : (a0 == a6) = false := by simpa using c
    clear c
    go_enter Try.func3, Try.ntmps3
    go_wp2_with fail
    refine (zzBytes_any _ _ _ _ _ _ _ _ _ _ _ _ _ b3 b5 b9 b11).mono ?_
    rintro e w' ⟨⟨b, rfl⟩, rfl⟩
    cases b
    · go_wp2
      go_ret
      exact ⟨rfl, Grown.refl _⟩
    go_wp2_with fail
    refine (cellRange7 _ _ _ _ _ _ _).mono ?_
    rintro e w' ⟨rfl, rfl⟩
    go_wp2_with fail
    refine (cellRange7 _ _ _ _ _ _ _).mono ?_
    rintro e w' ⟨rfl, rfl⟩
    go_wp2_with fail
    refine (inRect_yes _ _ _).mono ?_
    rintro e w' ⟨rfl, rfl⟩
    go_wp2_with fail
    refine (inRect_yes _ _ _).mono ?_
    rintro e w' ⟨rfl, rfl⟩
    go_wp2_with fail
    refine (inRect_no _ _ _ _ _ H.out).mono ?_
    rintro e w' ⟨rfl, rfl⟩
    go_wp2_with fail
    refine (inRect_no _ _ _ _ _ H'.out).mono ?_
    rintro e w' ⟨rfl, rfl⟩
    go_wp2
    go_ret
    refine ⟨rfl, ?_⟩
    iterate 12 (refine Grown.alloc ?_ _ _)
    exact Grown.refl _

theorem law_any (a0 a1 a2 : Int) (s3 : ByteArray) (f4 : Nat) (s5 : ByteArray) (a6 a7 a8 : Int) (s9 : ByteArray) (f10 : Nat) (s11 : ByteArray) (w : World) (b3 : s3.size ≤ maxLen) (b5 : s5.size ≤ maxLen) (b9 : s9.size ≤ maxLen) (b11 : s11.size ≤ maxLen) :
    Calls Try.prog 3 #[.int .i64 a0, .int .i64 a1, .int .i64 a2, .string s3, .float .f64 f4, .string s5, .int .i64 a6, .int .i64 a7, .int .i64 a8, .string s9, .float .f64 f10, .string s11] w fun e w' => e = .returned (.bool true) ∧ Grown w w' := by
  have b3' := b3
  have b5' := b5
  have b9' := b9
  have b11' := b11
  unfold maxLen at b3' b5' b9' b11'
  by_cases c3 : (262144 : Int) < s3.size
  · go_enter Try.func3, Try.ntmps3
    go_wp2_with (go_at_call 6; refine (zzBytes_any _ _ _ _ _ _ _ _ _ _ _ _ _ b3 b5 b9 b11).mono ?_; rintro e w' ⟨⟨b, rfl⟩, rfl⟩)
    all_goals
      go_ret
      exact ⟨rfl, Grown.refl _⟩
  by_cases c5 : (262144 : Int) < s5.size
  · go_enter Try.func3, Try.ntmps3
    go_wp2_with (go_at_call 6; refine (zzBytes_any _ _ _ _ _ _ _ _ _ _ _ _ _ b3 b5 b9 b11).mono ?_; rintro e w' ⟨⟨b, rfl⟩, rfl⟩)
    all_goals
      go_ret
      exact ⟨rfl, Grown.refl _⟩
  by_cases c9 : (262144 : Int) < s9.size
  · go_enter Try.func3, Try.ntmps3
    go_wp2_with (go_at_call 6; refine (zzBytes_any _ _ _ _ _ _ _ _ _ _ _ _ _ b3 b5 b9 b11).mono ?_; rintro e w' ⟨⟨b, rfl⟩, rfl⟩)
    all_goals
      go_ret
      exact ⟨rfl, Grown.refl _⟩
  by_cases c11 : (262144 : Int) < s11.size
  · go_enter Try.func3, Try.ntmps3
    go_wp2_with (go_at_call 6; refine (zzBytes_any _ _ _ _ _ _ _ _ _ _ _ _ _ b3 b5 b9 b11).mono ?_; rintro e w' ⟨⟨b, rfl⟩, rfl⟩)
    all_goals
      go_ret
      exact ⟨rfl, Grown.refl _⟩
  by_cases h : a0 = a6 ∧ a1 = a7
  · obtain ⟨rfl, rfl⟩ := h
    exact law_eq _ _ _ _ _ _ _ _ _ _ _ b3 b5 b9 b11 c3 c5 c9 c11
  · exact law_ne _ _ _ _ _ _ _ _ _ _ _ _ _ b3 b5 b9 b11 c3 c5 c9 c11 (by simpa using h) (by simp; omega)

end Go.Proofs.Qxb6608778a.fnCellRange
