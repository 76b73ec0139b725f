import Derived.Test.Qxb6609121aRows
import Derived.WalkKit
import Derived.WalkSpells
import Derived.WalkLawsBesides
import Derived.ArgAppend
namespace Go.Proofs.Qxb6609121a.fnAppendBallot
open Go.RowKit

/-! ### The plain part: the base-128 digits, as AppendUvarint writes them -/

def enc (x : Nat) : List Int := if x < 128 then [(x : Int)] else bits .or .u8 ((x : Int) % 256) 128 :: enc (x / 128)

theorem enc_low (x : Nat) (h : x < 128) : enc x = [(x : Int)] := by rw [enc]; simp [h]
theorem enc_high (x : Nat) (h : ¬ x < 128) : enc x = bits .or .u8 ((x : Int) % 256) 128 :: enc (x / 128) := by rw [enc]; simp [h]

theorem enc_pos (x : Nat) : 1 ≤ (enc x).length := by
  by_cases h : x < 128
  · rw [enc_low x h]; simp
  · rw [enc_high x h]; simp

theorem enc_le (f : Nat) : ∀ x, x < 128 ^ f → (enc x).length ≤ f + 1 := by
  induction f with
  | zero => intro x hx; rw [enc_low x (by simp at hx; omega)]; simp
  | succ f ih =>
    intro x hx
    by_cases h : x < 128
    · rw [enc_low x h]; simp
    · rw [enc_high x h]
      have := ih (x / 128) (by rw [Nat.pow_succ] at hx; omega)
      simp; omega

theorem enc_le11 (x : Nat) (h : x < 18446744073709551616) : (enc x).length ≤ 11 := enc_le 10 x (Nat.lt_of_lt_of_le h (by decide))

theorem enc_step (y : Int) (_h0 : 0 ≤ y) (h : 128 ≤ y) : enc y.toNat = bits .or .u8 (y % 256) 128 :: enc (y / 128).toNat := by
  rw [enc_high _ (by omega)]
  have e1 : ((y.toNat : Nat) : Int) = y := by omega
  have e2 : y.toNat / 128 = (y / 128).toNat := by omega
  rw [e1, e2]

theorem enc_last (y : Int) (h0 : 0 ≤ y) (h : ¬ 128 ≤ y) : enc y.toNat = [y] := by
  rw [enc_low _ (by omega)]
  have e1 : ((y.toNat : Nat) : Int) = y := by omega
  rw [e1]

theorem ret_int {k : IntKind} {a b : Int} (h : a = b) : Ending.returned (.int k a) = .returned (.int k b) := by rw [h]

/-! ### zzUvarintLen -/
set_option maxHeartbeats 400000 in
theorem uvlen_any (x : Int) (w : World) (hx0 : 0 ≤ x) (hx1 : x < 18446744073709551616) :
    Calls Try.prog 7 #[.int .u64 x] w fun e w' => e = .returned (.int .i64 ((enc x.toNat).length : Int)) ∧ w' = w := by
  have hL := enc_le11 x.toNat (by omega)
  go_enter Try.func7, Try.ntmps7
  go_wp2
  go_loop [0, 3] (fun a k => ∃ y : Int, ∃ n : Nat, 0 ≤ y ∧ y < 18446744073709551616 ∧ Hid (n + (enc y.toNat).length = (enc x.toNat).length + 1) ∧ a = .int .u64 y ∧ k = .int .i64 n) (fun a _ => (intOf a).toNat)
  case atStart => exact ⟨x, 1, hx0, hx1, Nat.add_comm _ _, rfl, rfl⟩
  case round =>
    obtain ⟨y, n, h0, h1, h2, rfl, rfl⟩ := hrel
    have hn : n ≤ 11 := by have := h2.out; have := enc_pos y.toNat; omega
    by_cases hy : 128 ≤ y
    · go_wp2
      go_round
      case rel =>
        have e := enc_step y h0 hy
        have h3 := h2.out
        rw [e] at h3
        refine ⟨y / 128, n + 1, by omega, by omega, ?_, rfl, by go_num⟩
        show _ = _
        simp at h3
        omega
      case measure => simp [intOf]; omega
    · have e := enc_last y h0 (by omega)
      have h3 := h2.out
      rw [e] at h3
      simp at h3
      have H : Hid (n = (enc x.toNat).length) := h3
      clear h3 e h2
      go_wp2
      go_ret
      exact ⟨ret_int (by rw [H.out]), rfl⟩

/-! ### One byte appended -/
theorem info5 : (Try.prog.info? 5).map (fun i => (i.zero, i.size, i.bytes)) = some (some (.int .u8 0), 1, 1) := by kernel_rfl

/-- A full slice of bytes (its capacity is its length), whose cells can be read; nil among them. -/
def Full (w : World) (v : Value) (n : Nat) (xs : List Value) : Prop :=
  ∃ ao, v = .slice ao n n ∧ (ao = none → n = 0) ∧ xs.length = n ∧ ∀ b, ao = some b → ∀ j u, xs[j]? = some u → w.cell? (b.add j) = some u

/-- A slice of bytes to which one may append without turning memory below B: it is the call's own from B on; or it is full. -/
def App (B : Nat) (w : World) (v : Value) (n : Nat) (xs : List Value) : Prop :=
  w.ownsRow B 5 1 v n xs ∨ Full w v n xs

theorem App.alloc {B : Nat} {w : World} {v : Value} {n : Nat} {xs : List Value} (h : App B w v n xs) (o : Obj) : App B (w.alloc o) v n xs := by
  rcases h with h | ⟨ao, rfl, h1, h2, h3⟩
  · exact .inl (h.alloc o)
  · refine .inr ⟨ao, rfl, h1, h2, fun b hb j u hu => ?_⟩
    exact (World.grownBy_alloc w o none).cell (h3 b hb j u hu) (by simp)

theorem below_of_grown {B : Nat} {w w' : World} {row : Option Nat} (hg : w.grownBy w' row) (hB : B ≤ w.heap.size) (hr : ∀ k, row = some k → B ≤ k) : Below B w w' :=
  (Below.refl B w).grown hg hB hr

theorem ownsRow_base {B B' : Nat} {w : World} {e : TypeId} {size : Nat} {v : Value} {n : Nat} {xs : List Value} (h : w.ownsRow B e size v n xs) (hB : B' ≤ B) : w.ownsRow B' e size v n xs := by
  obtain ⟨h1, h2⟩ := h
  refine ⟨h1, ?_⟩
  rcases h2 with h2 | ⟨g, cap, cur, h3, h4, h5⟩
  · exact .inl h2
  · exact .inr ⟨g, cap, cur, h3, by omega, h5⟩

theorem wpList_append_app (w : World) {ops : Array Oper} {rest : List Oper} {o : Oper} {a : Act} {Q : Exit → Act → World → Prop} (hgd : o.guard = none) (s x : Operand)
    (ho : o.op = .call { callee := .builtin .append, args := #[s, x], argTypes := #[22, 22] })
    (B : Nat) (v : Value) (n : Nat) (xs : List Value) (hs : a.eval s = v) (happ : App B w v n xs)
    (ad : Addr) (u : Value) (hx : a.eval x = .slice (some ad) 1 1) (hu : w.cell? (ad.add 0) = some u) (h1 : u.oneCell' = true) (hn : n ≤ 1000000000) (hB : B ≤ w.heap.size)
    (h : ∀ v' w', w'.ownsRow B 5 1 v' (n + 1) (xs ++ [u]) → Below B w w' → wpList Try.prog ops Q rest (a.put o.dst v') w') : wpList Try.prog ops Q (o :: rest) a w := by
  obtain ⟨i0, hi, hz0, hz1, hz2⟩ := info_parts info5
  have hnews : ∀ j u', [u][j]? = some u' → w.cell? (ad.add j) = some u' := by
    intro j u' hj
    match j, hj with
    | 0, hj => simp at hj; subst hj; exact hu
  have hone : ∀ u' ∈ [u], u'.oneCell' = true := by intro u' hu'; simp at hu'; subst hu'; exact h1
  rcases happ with hown | ⟨ao, rfl, k1, k2, k3⟩
  · exact wpList_append_own w hgd s x 22 ho B 5 i0 (.int .u8 0) 1 1 Try.underlying22 hi hz0 hz1 hz2 rfl (by decide) v n xs hs hown ad 1 1 [u] hx rfl hnews hone (by unfold maxLen; omega) (by omega) hB
      (fun v' w' h2 h3 _ => h v' w' h2 (below_of_grown h3 hB (fun k hk => (hown.lt k hk).1)))
  · exact wpList_append_grows w hgd s x 22 ho 5 i0 (.int .u8 0) 1 1 Try.underlying22 hi hz0 hz1 hz2 rfl (by decide) ao n n xs hs (fun e => ⟨k1 e, k1 e⟩) (by omega) k3 ad 1 1 [u] hx rfl hnews hone (by omega) (by unfold maxLen; omega) (by omega)
      (fun v' w' h2 h3 => h v' w' (ownsRow_base h2 hB) (below_of_grown h3 hB (fun k hk => by cases hk)))

/-! ### AppendUvarint -/
set_option maxHeartbeats 400000 in
theorem appendUvarint_any (v : Value) (n : Nat) (xs : List Value) (x : Int) (w : World) (hx0 : 0 ≤ x) (hx1 : x < 18446744073709551616) (B : Nat) (happ : App B w v n xs) (hB : B ≤ w.heap.size) (hn : n ≤ 100000000) :
    Calls Try.prog 9 #[v, .int .u64 x] w fun e w' => ∃ v', e = .returned v' ∧ w'.ownsRow B 5 1 v' (n + (enc x.toNat).length) (xs ++ (enc x.toNat).map (Value.int .u8)) ∧ Below B w w' := by
  have hL := enc_le11 x.toNat (by omega)
  go_enter Try.func9, Try.ntmps9
  go_wp2
  go_loopw [0, 1] (fun v a wr => ∃ y : Int, ∃ done : List Int, 0 ≤ y ∧ y < 18446744073709551616 ∧ Hid (done ++ enc y.toNat = enc x.toNat) ∧ a = .int .u64 y ∧ App B wr v (n + done.length) (xs ++ done.map (Value.int .u8)) ∧ Below B w wr) (fun _ a _ => (intOf a).toNat)
  case atStart => exact ⟨x, [], hx0, hx1, List.nil_append _, rfl, by simpa using happ, Below.refl _ _⟩
  case round =>
    obtain ⟨y, done, h0, h1, h2, rfl, ho, hbel⟩ := hrel
    have hsz := hbel.size
    have hdl : done.length ≤ 11 := by have := congrArg List.length h2.out; simp at this; omega
    by_cases hy : 128 ≤ y
    · go_wp2_with (at_builtin; refine wpList_append_app _ rfl _ _ rfl B _ _ _ rfl (ho.alloc _) ⟨wr.heap.size, 0, none⟩ (.int .u8 (bits .or .u8 (y % 256) 128)) rfl ?c1 ?c2 ?c3 ?c4 ?_)
      case c1 => simp [Addr.add]
      case c2 => rfl
      case c3 => omega
      case c4 => simp; omega
      intro v' w' hown' hbel'
      have e := enc_step y h0 hy
      have h3 := h2.out
      rw [e] at h3
      have H : Hid ((done ++ [bits .or .u8 (y % 256) 128]) ++ enc (y / 128).toNat = enc x.toNat) := by show _ = _; simpa using h3
      have R : App B w' v' (n + (done ++ [bits .or .u8 (y % 256) 128]).length) (xs ++ (done ++ [bits .or .u8 (y % 256) 128]).map (Value.int .u8)) := .inl (by simpa [Nat.add_assoc] using hown')
      have hbel2 : Below B w w' := (hbel.alloc (by omega) _).trans hbel'
      clear h3 e h2 ho hbel hbel' hown'
      go_wp2
      go_roundw
      case rel => exact ⟨y / 128, _, by omega, by omega, H, rfl, R, hbel2⟩
      case measure => simp [intOf]; omega
    · go_wp2_with (at_builtin; refine wpList_append_app _ rfl _ _ rfl B _ _ _ rfl (ho.alloc _) ⟨wr.heap.size, 0, none⟩ (.int .u8 y) rfl ?d1 ?d2 ?d3 ?d4 ?_)
      case d2 => rfl
      case d3 => omega
      case d4 => omega
      intro v' w' hown' hbel'
      have e := enc_last y h0 (by omega)
      have h3 := h2.out
      rw [e] at h3
      have R : w'.ownsRow B 5 1 v' (n + (enc x.toNat).length) (xs ++ (enc x.toNat).map (Value.int .u8)) := by rw [← h3]; simpa [Nat.add_assoc] using hown'
      have hbel2 : Below B w w' := (hbel.alloc (by omega) _).trans hbel'
      clear h3 e h2 ho hbel hbel' hown'
      go_wp2
      go_ret
      exact ⟨v', rfl, R, hbel2⟩

end Go.Proofs.Qxb6609121a.fnAppendBallot
