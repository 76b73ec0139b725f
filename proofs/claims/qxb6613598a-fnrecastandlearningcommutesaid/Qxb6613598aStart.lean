import Derived.Test.Qxb6613598aRows
import Derived.WalkKit
import Derived.WalkSpells
import Derived.WalkLawsBesides
namespace Go.Proofs.Qxb6613598a.fnRecast
open Go.RowKit

/-- The cells of a twoPhase: id, vote, decision, nobody asked, n, the votes' slice. -/
def tp (id n vote dec : Int) (r : Value) : Array Value := #[.int .i64 id, .int .u8 vote, .int .u8 dec, .slice none 0 0, .slice none 0 0, .int .i64 0, .int .i64 0, .int .i64 n, r, .int .i64 0]

/-- The ballot of participant id. -/
def bal (id : Int) : Array Value := #[.int .i64 id, .int .i64 0, .int .u8 1, .int .u8 1, .int .u8 0, .int .i32 0, .int .i32 0, .int .i32 0, .int .i32 0]

/-- A step: what it sends, its timer, whether it was learnt; it keeps nothing. -/
def st (send : Value) (timer : Int) (learnt : Bool) : Array Value := #[send, .int .u8 timer, .pointer none, .bool learnt]

/-! ### Small laws on worlds -/
theorem gtrans {a b c : World} {row : Option Nat} (h : a.grownBy b row) (k : b.grownBy c row) : a.grownBy c row :=
  ⟨k.os.trans h.os, k.tape.trans h.tape, k.output.trans h.output, Nat.le_trans h.size k.size, fun i hi hne => (k.block i (Nat.lt_of_lt_of_le hi h.size) hne).trans (h.block i hi hne)⟩
theorem grefl (a : World) (row : Option Nat) : a.grownBy a row := ⟨rfl, rfl, rfl, Nat.le_refl _, fun _ _ _ => rfl⟩
theorem gset {a b : World} {row : Option Nat} (h : a.grownBy b row) (p : Addr) (v : Value) (hp : row = some p.block ∨ a.heap.size ≤ p.block) : a.grownBy (b.setCell p v) row :=
  ⟨h.os, h.tape, h.output, by simpa [World.setCell] using h.size, fun i hi hne => (heap_setCell_other b p i v (by
    rintro rfl
    rcases hp with hp | hp
    · exact hne hp.symm
    · omega)).trans (h.block i hi hne)⟩
theorem galloc {a b : World} {row : Option Nat} (h : a.grownBy b row) (o : Obj) : a.grownBy (b.alloc o) row := gtrans h (World.grownBy_alloc b o row)
theorem gdrew {a b : World} {row : Option Nat} (h : a.grownBy b row) : a.grownBy b.drew row := ⟨h.os, h.tape, h.output, h.size, h.block⟩

theorem halloc {w : World} {o o' : Obj} {k : Nat} (h : w.heap[k]? = some o) : (w.alloc o').heap[k]? = some o :=
  (Below.heap_alloc w o' k (Array.getElem?_eq_some_iff.1 h).1).trans h
theorem hnew (w : World) (o : Obj) (k : Nat) (hk : w.heap.size = k) : (w.alloc o).heap[k]? = some o := by subst hk; exact heap_alloc_new w o
theorem hlt {w : World} {o : Obj} {k : Nat} (h : w.heap[k]? = some o) : k < w.heap.size := (Array.getElem?_eq_some_iff.1 h).1
theorem hkeep {a b : World} {row : Option Nat} {o : Obj} {k : Nat} (hg : a.grownBy b row) (h : a.heap[k]? = some o) (hne : some k ≠ row) : b.heap[k]? = some o := (hg.block k (hlt h) hne).trans h
theorem hset {w : World} {p : Addr} {v : Value} {o : Obj} {k : Nat} (h : w.heap[k]? = some o) (hne : k ≠ p.block) : (w.setCell p v).heap[k]? = some o := (heap_setCell_other w p k v hne).trans h

/-! ### Start -/
set_option maxHeartbeats 400000 in
theorem start_fresh (g : Nat) (id n : Int) (r : Value) (w : World) (hid : (id == 0) = false) (hg : w.heap[g]? = some (.cells (tp id n 0 0 r) 69 (0, 0))) :
    Calls Try.prog 20 #[.pointer (some ⟨g, 0, none⟩), .int .u8 1] w fun e w' => ∃ k, e = .returned (.agg (st (.slice (some ⟨k, 0, none⟩) 1 1) 1 false)) ∧ w.heap.size ≤ k ∧ w'.heap[k]? = some (.cells (bal id) 43 (0, 0)) ∧ w'.heap[g]? = some (.cells (tp id n 1 0 r) 69 (0, 0)) ∧ w.grownBy w' (some g) := by
  have hgs : g < w.heap.size := hlt hg
  have hc : ∀ j, w.cell? ⟨g, j, none⟩ = (tp id n 0 0 r)[j]? := fun j => cell_of_row w g j _ 69 (0, 0) hg
  have hf : ∀ j, w.frozen? ⟨g, j, none⟩ = false := fun j => frozen_of_row w g j _ 69 hg
  have HG : Hid _ := hg
  unfold tp at hc
  clear hg
  go_enter Try.func20, Try.ntmps20
  go_wp2
  refine bodyPost_ret (v := .agg (st (.slice (some ⟨w.heap.size + 1 + 1, 0, none⟩) 1 1) 1 false)) (by simp [results, Try.results20, go_sem, st]) rfl ⟨w.heap.size + 1 + 1, rfl, by omega, ?_, ?_, ?_⟩
  · exact hnew _ _ _ (by simp)
  · refine halloc (halloc (halloc ?_))
    have := heap_setCell_same w g 1 _ 69 (.int .u8 1) HG.out
    rw [this]
    rfl
  · exact galloc (galloc (galloc (gset (grefl _ _) _ _ (.inl rfl)) _) _) _

set_option maxHeartbeats 400000 in
theorem start_decided (g : Nat) (id n vote dec : Int) (r : Value) (w : World) (hdec : (dec == 0) = false) (hg : w.heap[g]? = some (.cells (tp id n vote dec r) 69 (0, 0))) :
    Calls Try.prog 20 #[.pointer (some ⟨g, 0, none⟩), .int .u8 1] w fun e w' => e = .returned (.agg (st (.slice none 0 0) 0 false)) ∧ w'.heap[g]? = some (.cells (tp id n vote dec r) 69 (0, 0)) ∧ w.grownBy w' (some g) := by
  have hgs : g < w.heap.size := hlt hg
  have hc : ∀ j, w.cell? ⟨g, j, none⟩ = (tp id n vote dec r)[j]? := fun j => cell_of_row w g j _ 69 (0, 0) hg
  have HG : Hid _ := hg
  unfold tp at hc
  clear hg
  go_enter Try.func20, Try.ntmps20
  go_wp2
  refine bodyPost_ret (v := .agg (st (.slice none 0 0) 0 false)) (by simp [results, Try.results20, go_sem, st]) rfl ⟨rfl, halloc HG.out, galloc (grefl _ _) _⟩

/-! ### Recast -/
set_option maxHeartbeats 400000 in
theorem recast_fresh (g : Nat) (id n : Int) (r : Value) (w : World) (hid : (id == 0) = false) (hg : w.heap[g]? = some (.cells (tp id n 0 0 r) 69 (0, 0))) :
    Calls Try.prog 14 #[.pointer (some ⟨g, 0, none⟩)] w fun e w' => ∃ k, e = .returned (.agg (st (.slice (some ⟨k, 0, none⟩) 1 1) 1 false)) ∧ w.heap.size ≤ k ∧ w'.heap[k]? = some (.cells (bal id) 43 (0, 0)) ∧ w'.heap[g]? = some (.cells (tp id n 1 0 r) 69 (0, 0)) ∧ w.grownBy w' (some g) := by
  have hgs : g < w.heap.size := hlt hg
  have HG : Hid _ := hg
  clear hg
  go_enter Try.func14, Try.ntmps14
  go_wp2_with fail
  refine (start_fresh g id n r _ hid (halloc HG.out)).mono ?_
  rintro e w1 ⟨k, rfl, hk, hk1, hg1, hgr⟩
  have hz := hkeep hgr (heap_alloc_new w _) (by simp; omega)
  have hcz : ∀ j, w1.cell? ⟨w.heap.size, j, none⟩ = _ := fun j => cell_of_row w1 w.heap.size j _ 50 (0, 0) hz
  have hfz : ∀ j, w1.frozen? ⟨w.heap.size, j, none⟩ = false := fun j => frozen_of_row w1 w.heap.size j _ 50 hz
  have hzs : w.heap.size < w1.heap.size := hlt hz
  have HK : Hid (w.heap.size < k ∧ w1.heap[k]? = some (.cells (bal id) 43 (0, 0)) ∧ w1.heap[g]? = some (.cells (tp id n 1 0 r) 69 (0, 0)) ∧ w.grownBy w1 (some g)) := ⟨by simp at hk; omega, hk1, hg1, gtrans (World.grownBy_alloc w _ _) hgr⟩
  clear hz hk hk1 hg1 hgr
  simp only [st]
  go_wp2
  refine bodyPost_ret (v := .agg (st (.slice (some ⟨k, 0, none⟩) 1 1) 1 false)) (by simp [results, Try.results14, go_sem, st, hcz]) rfl ⟨k, rfl, by have := HK.out.1; omega, ?_, ?_, ?_⟩
  · exact hset (hset (hset (hset HK.out.2.1 (by have := HK.out.1; simp; omega)) (by have := HK.out.1; simp; omega)) (by have := HK.out.1; simp; omega)) (by have := HK.out.1; simp; omega)
  · exact hset (hset (hset (hset HK.out.2.2.1 (by simp; omega)) (by simp; omega)) (by simp; omega)) (by simp; omega)
  · exact gset (gset (gset (gset HK.out.2.2.2 _ _ (.inr (by simp))) _ _ (.inr (by simp))) _ _ (.inr (by simp))) _ _ (.inr (by simp))

set_option maxHeartbeats 400000 in
theorem recast_decided (g : Nat) (id n vote dec : Int) (r : Value) (w : World) (hdec : (dec == 0) = false) (hg : w.heap[g]? = some (.cells (tp id n vote dec r) 69 (0, 0))) :
    Calls Try.prog 14 #[.pointer (some ⟨g, 0, none⟩)] w fun e w' => e = .returned (.agg (st (.slice none 0 0) 0 false)) ∧ w'.heap[g]? = some (.cells (tp id n vote dec r) 69 (0, 0)) ∧ w.grownBy w' (some g) := by
  have hgs : g < w.heap.size := hlt hg
  have HG : Hid _ := hg
  clear hg
  go_enter Try.func14, Try.ntmps14
  go_wp2_with fail
  refine (start_decided g id n vote dec r _ hdec (halloc HG.out)).mono ?_
  rintro e w1 ⟨rfl, hg1, hgr⟩
  have hz := hkeep hgr (heap_alloc_new w _) (by simp; omega)
  have hcz : ∀ j, w1.cell? ⟨w.heap.size, j, none⟩ = _ := fun j => cell_of_row w1 w.heap.size j _ 50 (0, 0) hz
  have hfz : ∀ j, w1.frozen? ⟨w.heap.size, j, none⟩ = false := fun j => frozen_of_row w1 w.heap.size j _ 50 hz
  have hzs : w.heap.size < w1.heap.size := hlt hz
  have HK : Hid (w1.heap[g]? = some (.cells (tp id n vote dec r) 69 (0, 0)) ∧ w.grownBy w1 (some g)) := ⟨hg1, gtrans (World.grownBy_alloc w _ _) hgr⟩
  clear hz hg1 hgr
  simp only [st]
  go_wp2
  refine bodyPost_ret (v := .agg (st (.slice none 0 0) 0 false)) (by simp [results, Try.results14, go_sem, st, hcz]) rfl ⟨rfl, ?_, ?_⟩
  · exact hset (hset (hset (hset HK.out.1 (by simp; omega)) (by simp; omega)) (by simp; omega)) (by simp; omega)
  · exact gset (gset (gset (gset HK.out.2 _ _ (.inr (by simp))) _ _ (.inr (by simp))) _ _ (.inr (by simp))) _ _ (.inr (by simp))

/-! ### The two readers -/
set_option maxHeartbeats 400000 in
theorem vote_any (g : Nat) (id n vote dec : Int) (r : Value) (w : World) (hg : w.heap[g]? = some (.cells (tp id n vote dec r) 69 (0, 0))) :
    Calls Try.prog 17 #[.pointer (some ⟨g, 0, none⟩)] w fun e w' => e = .returned (.int .u8 vote) ∧ w' = w := by
  have hgs : g < w.heap.size := hlt hg
  have hc : ∀ j, w.cell? ⟨g, j, none⟩ = (tp id n vote dec r)[j]? := fun j => cell_of_row w g j _ 69 (0, 0) hg
  unfold tp at hc
  clear hg
  go_enter Try.func17, Try.ntmps17
  go_wp2
  go_ret
  exact ⟨rfl, rfl⟩

set_option maxHeartbeats 400000 in
theorem decision_any (g : Nat) (id n vote dec : Int) (r : Value) (w : World) (hg : w.heap[g]? = some (.cells (tp id n vote dec r) 69 (0, 0))) :
    Calls Try.prog 18 #[.pointer (some ⟨g, 0, none⟩)] w fun e w' => e = .returned (.int .u8 dec) ∧ w' = w := by
  have hgs : g < w.heap.size := hlt hg
  have hc : ∀ j, w.cell? ⟨g, j, none⟩ = (tp id n vote dec r)[j]? := fun j => cell_of_row w g j _ 69 (0, 0) hg
  unfold tp at hc
  clear hg
  go_enter Try.func18, Try.ntmps18
  go_wp2
  go_ret
  exact ⟨rfl, rfl⟩

/-! ### ZZnewTwoPhase -/
theorem info39 : (Try.prog.info? 39).map (fun i => (i.zero, i.size, i.bytes)) = some (some (.int .u8 0), 1, 1) := by kernel_rfl

set_option maxHeartbeats 400000 in
theorem new_any (id n : Int) (w : World) (h1 : 2 ≤ n) (h2 : n ≤ 65536) :
    Calls Try.prog 13 #[.int .i64 id, .int .i64 n] w fun e w' => ∃ g r, e = .returned (.pointer (some ⟨g, 0, none⟩)) ∧ w.heap.size ≤ g ∧ w'.heap[g]? = some (.cells (tp id n 0 0 r) 69 (0, 0)) ∧ Below w.heap.size w w' := by
  obtain ⟨m, rfl⟩ := Int.eq_ofNat_of_zero_le (show 0 ≤ n by omega)
  obtain ⟨i0, hi, hz0, hz1, hz2⟩ := info_parts info39
  go_enter Try.func13, Try.ntmps13
  go_wp2_with (at_make; refine wpList_make_full w rfl (.tmp 8) (.tmp 8) 65 rfl w.heap.size 39 i0 (.int .u8 0) 1 Try.underlying65 hi hz0 hz1 .i64 .i64 _ _ m rfl rfl rfl rfl ?c1 ?c2 ?c3 ?_)
  case c1 => rw [hz2]; omega
  case c2 => unfold maxLen; omega
  case c3 => omega
  intro w1 hown hgr
  have hb : Below w.heap.size w w1 := (Below.refl _ _).grown hgr (Nat.le_refl _) (fun k hk => by cases hk)
  have hs := hb.size
  clear hown hgr
  go_wp2
  go_ret
  exact ⟨w1.heap.size, .slice (some ⟨w.heap.size, 0, none⟩) m m, rfl, hs, heap_alloc_new w1 _, hb.alloc hs _⟩

end Go.Proofs.Qxb6613598a.fnRecast
