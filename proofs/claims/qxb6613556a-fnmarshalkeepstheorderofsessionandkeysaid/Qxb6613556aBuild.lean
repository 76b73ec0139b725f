import Derived.Test.Qxb6613556aRows
import Derived.WalkKit
import Derived.WalkSpells
import Derived.WalkLawsBesides
import Derived.Deep.RegionHeld3
namespace Go.Proofs.Qxb6613556a.fnMarshal
open Go.RowKit

theorem info5 : (Try.prog.info? 5).map (fun i => (i.zero, i.size, i.bytes)) = some (some (.int .u8 0), 1, 1) := by kernel_rfl

/-- The eight bytes of a uint64, the highest first, as AppendUint64 writes them. -/
def be (x : Int) : List Int := [x / 72057594037927936, x / 281474976710656 % 256, x / 1099511627776 % 256, x / 4294967296 % 256, x / 16777216 % 256, x / 65536 % 256, x / 256 % 256, x % 256]

theorem below_of_grown {B : Nat} {w w' : World} {row : Option Nat} (hg : w.grownBy w' row) (hB : B ≤ w.heap.size) (hr : ∀ k, row = some k → B ≤ k) : Below B w w' :=
  (Below.refl B w).grown hg hB hr

theorem own_shape {B : Nat} {w : World} {v : Value} {n : Nat} {xs : List Value} (h : w.ownsRow B 5 1 v n xs) (hn : 0 < n) :
    ∃ g cap, v = .slice (some ⟨g, 0, none⟩) n cap ∧ B ≤ g ∧ g < w.heap.size ∧ n ≤ cap ∧ cap ≤ maxLen := by
  rcases h.2 with ⟨_, h2⟩ | ⟨g, cap, cur, h2, h3, h4, h5, h6, _⟩
  · omega
  · exact ⟨g, cap, h2, h3, (Array.getElem?_eq_some_iff.1 h4).1, h5, h6⟩

/-! ### begin -/
set_option maxHeartbeats 400000 in
theorem begin_any (t : Int) (w : World) :
    Calls Try.prog 7 #[.int .u8 t] w fun e w' => e = .returned (.slice (some ⟨w.heap.size, 0, none⟩) 3 3) ∧ w' = w.alloc (.cells #[.int .u8 t, .int .u8 0, .int .u8 0] 5) := by
  go_enter Try.func7, Try.ntmps7
  go_wp2
  go_ret
  exact ⟨rfl, rfl⟩

/-! ### AppendUint64 -/
set_option maxHeartbeats 400000 in
theorem appendUint64_any (x : Int) (v : Value) (n : Nat) (xs : List Value) (B : Nat) (w : World) (hx0 : 0 ≤ x) (hx1 : x < 18446744073709551616) (hown : w.ownsRow B 5 1 v n xs) (hB : B ≤ w.heap.size) (hn : n ≤ 1000000) :
    Calls Try.prog 11 #[.agg #[], v, .int .u64 x] w fun e w' => ∃ v', e = .returned v' ∧ w'.ownsRow B 5 1 v' (n + 8) (xs ++ (be x).map (Value.int .u8)) ∧ Below B w w' := by
  obtain ⟨i0, hi, hz0, hz1, hz2⟩ := info_parts info5
  go_enter Try.func11, Try.ntmps11
  go_wp2_with (at_builtin; refine wpList_append_own _ rfl _ _ 27 rfl B 5 i0 (.int .u8 0) 1 1 Try.underlying27 hi hz0 hz1 hz2 rfl (by decide) v n xs rfl ((hown.alloc _).alloc _) ⟨w.heap.size + 1, 0, none⟩ 8 8 ((be x).map (Value.int .u8)) rfl rfl ?c1 ?c2 ?c3 ?c4 ?c5 ?_)
  case c1 =>
    intro j u hj
    have hlen : j < 8 := by
      have := (List.getElem?_eq_some_iff.1 hj).1
      simpa [be] using this
    rw [show (⟨w.heap.size + 1, 0, none⟩ : Addr).add j = ⟨w.heap.size + 1, j, none⟩ from by simp [Addr.add]; omega]
    rw [cell_of_row _ (w.heap.size + 1) j _ 5 (0, 0) (by have := heap_alloc_new (w.alloc (Obj.cells #[] 39)) (Obj.cells #[Value.int IntKind.u8 (x / 72057594037927936), Value.int IntKind.u8 (x / 281474976710656 % 256), Value.int IntKind.u8 (x / 1099511627776 % 256), Value.int IntKind.u8 (x / 4294967296 % 256), Value.int IntKind.u8 (x / 16777216 % 256), Value.int IntKind.u8 (x / 65536 % 256), Value.int IntKind.u8 (x / 256 % 256), Value.int IntKind.u8 (x % 256)] 5); simpa using this)]
    rw [← hj]
    simp [be]
  case c2 => intro u hu; simp at hu; obtain ⟨a, _, rfl⟩ := hu; rfl
  case c3 => unfold maxLen; omega
  case c4 => omega
  case c5 => simp; omega
  intro v' w1 ho hg _
  have hb : Below B w w1 := (((Below.refl B w).alloc hB _).alloc (by simp; omega) _).trans (below_of_grown hg (by simp; omega) (fun k hk => (hown.lt k hk).1))
  clear hg
  go_wp2
  go_ret
  exact ⟨v', rfl, ho, hb⟩

set_option maxHeartbeats 400000 in
theorem u64_any (x : Int) (v : Value) (n : Nat) (xs : List Value) (B : Nat) (w : World) (hx0 : 0 ≤ x) (hx1 : x < 18446744073709551616) (hown : w.ownsRow B 5 1 v n xs) (hB : B ≤ w.heap.size) (hn : n ≤ 1000000) :
    Calls Try.prog 8 #[v, .int .u64 x] w fun e w' => ∃ v', e = .returned v' ∧ w'.ownsRow B 5 1 v' (n + 8) (xs ++ (be x).map (Value.int .u8)) ∧ Below B w w' := by
  go_enter Try.func8, Try.ntmps8
  go_wp2_with fail
  refine (appendUint64_any x v n xs B _ hx0 hx1 hown hB hn).mono ?_
  rintro e w1 ⟨v1, rfl, ho, hb⟩
  clear hown
  go_wp2
  go_ret
  exact ⟨v1, rfl, ho, hb⟩

/-! ### raw: an append whose two slice types have different names -/
theorem run_append_named (w : World) (ty : TypeId) (base : Option Addr) (n c : Nat) (x : Value) : (Builtin.append_ #[32, 27] ty #[.slice base n c, x]).run Try.prog w = (Builtin.append_ #[32, 32] ty #[.slice base n c, x]).run Try.prog w := by
  obtain ⟨i0, hi, hz0, hz1, hz2⟩ := info_parts info5
  simp [Builtin.append_, run_underlying Try.underlying32, run_underlying Try.underlying27, sizeOf, typeInfo, hi]

theorem own_slice {B : Nat} {w : World} {v : Value} {n : Nat} {xs : List Value} (h : w.ownsRow B 5 1 v n xs) : ∃ base m c, v = .slice base m c := by
  rcases h.2 with ⟨h2, _⟩ | ⟨g, cap, cur, h2, _⟩
  · exact ⟨_, _, _, h2⟩
  · exact ⟨_, _, _, h2⟩

theorem wpList_append_named (w : World) {ops : Array Oper} {rest : List Oper} {o : Oper} {a : Act} {Q : Exit → Act → World → Prop} (hgd : o.guard = none) (s x : Operand)
    (ho : o.op = .call { callee := .builtin .append, args := #[s, x], argTypes := #[32, 27] })
    (B : Nat) (v : Value) (n : Nat) (xs : List Value) (hs : a.eval s = v) (hown : w.ownsRow B 5 1 v n xs)
    (ad : Addr) (m c : Nat) (news : List Value) (hx : a.eval x = .slice (some ad) m c) (hl : news.length = m) (hnews : ∀ j u, news[j]? = some u → w.cell? (ad.add j) = some u) (h1 : ∀ u ∈ news, u.oneCell' = true)
    (hn : n + m ≤ 1000000) (hB : B ≤ w.heap.size)
    (h : ∀ v' w', w'.ownsRow B 5 1 v' (n + m) (xs ++ news) → Below B w w' → wpList Try.prog ops Q rest (a.put o.dst v') w') : wpList Try.prog ops Q (o :: rest) a w := by
  obtain ⟨i0, hi, hz0, hz1, hz2⟩ := info_parts info5
  refine wpList_plain hgd fun K hK => ?_
  obtain ⟨v', w', hr, h2, h3, _⟩ := run_append_own (P := Try.prog) w B 32 o.type 5 i0 (.int .u8 0) 1 1 Try.underlying32 hi hz0 hz1 hz2 rfl (by decide) v n xs hown ad m c news (by omega) hnews h1 (by unfold maxLen; omega) (by omega) hB
  obtain ⟨base, m', c', hv⟩ := own_slice hown
  have hr2 : (Builtin.append_ #[32, 27] o.type #[v, .slice (some ad) m c]).run Try.prog w = .ok v' w' := by rw [hv, run_append_named, ← hv]; exact hr
  unfold Oper.wp execOp
  simp only [ho, resolve, invoke, builtin, Sem.run_bind, Sem.run_pure, Result.andThen_ok, List.map_toArray, List.map_cons, List.map_nil, hs, hx, hr2]
  exact hK _ _ (h v' w' h2 (below_of_grown h3 hB (fun k hk => (hown.lt k hk).1)))

set_option maxHeartbeats 400000 in
theorem raw_any (v : Value) (n : Nat) (xs : List Value) (B : Nat) (w : World) (b o m c : Nat) (news : List Value) (hl : news.length = m) (hown : w.ownsRow B 5 1 v n xs) (hB : B ≤ w.heap.size) (hn : n + m ≤ 1000000)
    (hc : ∀ j u, news[j]? = some u → w.cell? ⟨b, o + j, none⟩ = some u) (h1 : ∀ u ∈ news, u.oneCell' = true) :
    Calls Try.prog 9 #[v, .slice (some ⟨b, o, none⟩) m c] w fun e w' => ∃ v', e = .returned v' ∧ w'.ownsRow B 5 1 v' (n + m) (xs ++ news) ∧ Below B w w' := by
  go_enter Try.func9, Try.ntmps9
  go_wp2_with (at_builtin; refine wpList_append_named _ rfl _ _ rfl B v n xs rfl hown ⟨b, o, none⟩ m c news rfl hl ?c1 h1 hn hB ?_)
  case c1 => intro j u hj; rw [Go.WideShapes.add_plain]; exact hc j u hj
  intro v' w1 ho hb
  clear hown hc h1
  go_wp2
  go_ret
  exact ⟨v', rfl, ho, hb⟩

/-! ### PutUint16, frame -/
set_option maxHeartbeats 400000 in
theorem put16_any (b o l c : Nat) (w : World) (u1 u2 : Value) (hc1 : w.cell? ⟨b, o, none⟩ = some u1) (hc2 : w.cell? ⟨b, o + 1, none⟩ = some u2) (hf1 : w.frozen? ⟨b, o, none⟩ = false) (hf2 : w.frozen? ⟨b, o + 1, none⟩ = false) (hb : b < w.heap.size) (hl : (2 : Int) ≤ (l : Int)) :
    Calls Try.prog 12 #[.agg #[], .slice (some ⟨b, o, none⟩) l c, .int .u16 72] w fun e w' => e = .returned (.tuple #[]) ∧ w' = ((w.setCell ⟨b, o, none⟩ (.int .u8 0)).setCell ⟨b, o + 1, none⟩ (.int .u8 72)).alloc (.cells #[] 39) := by
  go_enter Try.func12, Try.ntmps12
  go_wp2
  go_end0
  exact ⟨rfl, rfl⟩

set_option maxHeartbeats 1000000 in
theorem frame_any (g cap : Nat) (xs : List Value) (B : Nat) (w : World) (hown : w.ownsRow B 5 1 (.slice (some ⟨g, 0, none⟩) 43 cap) 43 xs) (hB : B ≤ w.heap.size) :
    Calls Try.prog 10 #[.slice (some ⟨g, 0, none⟩) 43 cap, .bool true] w fun e w' => e = .returned (.slice (some ⟨g, 0, none⟩) 43 cap) ∧ w'.ownsRow B 5 1 (.slice (some ⟨g, 0, none⟩) 43 cap) 43 ((xs.set 1 (.int .u8 0)).set 2 (.int .u8 72)) ∧ Below B w w' := by
  obtain ⟨g', cap', hv, hg1, hg2, hg3, hg4⟩ := own_shape hown (by omega)
  simp at hv
  obtain ⟨rfl, rfl⟩ := hv
  have hl : xs.length = 43 := by simpa using hown.1
  have q1 : w.cell? ⟨g, 1, none⟩ = some (xs[1]) := by rw [hown.cellAt 1 (by omega)]; exact List.getElem?_eq_getElem _
  have q2 : w.cell? ⟨g, 2, none⟩ = some (xs[2]) := by rw [hown.cellAt 2 (by omega)]; exact List.getElem?_eq_getElem _
  have f1 := hown.frozenAt 1
  have f2 := hown.frozenAt 2
  have st1 := hown.stored 1 (.int .u8 0)
  have st2 := st1.1.stored 2 (.int .u8 72)
  have hb2 : Below B w (((w.setCell ⟨g, 1, none⟩ (.int .u8 0)).setCell ⟨g, 2, none⟩ (.int .u8 72)).alloc (.cells #[] 39)) := (((Below.refl B w).setCell hg1 _).setCell hg1 _).alloc (by simp [World.setCell]; omega) _
  have HS : Hid ((((w.setCell ⟨g, 1, none⟩ (.int .u8 0)).setCell ⟨g, 2, none⟩ (.int .u8 72)).alloc (.cells #[] 39)).ownsRow B 5 1 (.slice (some ⟨g, 0, none⟩) 43 cap) 43 ((xs.set 1 (.int .u8 0)).set 2 (.int .u8 72)) ∧ Below B w (((w.setCell ⟨g, 1, none⟩ (.int .u8 0)).setCell ⟨g, 2, none⟩ (.int .u8 72)).alloc (.cells #[] 39))) := ⟨st2.1.alloc _, hb2⟩
  have c1 : (43 : Int) ≤ (cap : Int) := by omega
  have c2 : ¬ cap = 1 := by omega
  unfold maxLen at hg4
  clear st1 st2 hb2 hown
  go_enter Try.func10, Try.ntmps10
  go_wp2
  go_region_held3 (fun _ => True) (go_keep) (first | (go_at_call 12; rw [show IntKind.u16.wrap 72 = 72 from rfl]; refine (put16_any g 1 42 (cap - 1) w.drew (xs[1]) (xs[2]) q1 q2 f1 f2 hg2 (by omega)).mono ?_; rintro e w' ⟨rfl, rfl⟩))
  go_wp2
  go_ret
  exact ⟨rfl, HS.out.1, HS.out.2.drew⟩

end Go.Proofs.Qxb6613556a.fnMarshal
