import Derived.Test.Qxb6613598aStart
import Derived.Lib.SliceRun
import Derived.Deep.QuietTactic
import Derived.BigQuiet
namespace Go.Proofs.Qxb6613598a.fnRecast
open Go.RowKit

set_option maxHeartbeats 400000 in
theorem stepIs_nil (timer : Int) (learnt : Bool) (w : World) :
    Calls Try.prog 16 #[.agg (st (.slice none 0 0) timer learnt), .slice none 0 0, .int .u8 timer, .bool learnt] w fun e w' => e = .returned (.bool true) ∧ Below w.heap.size w w' := by
  have hq := fun (w : World) (a : Option Addr) (n c n' c' : Nat) => Lib.run_eql_slice_nil (P := Try.prog) w 44 43 a n c n' c' Try.underlying44
  unfold st
  go_enter Try.func16, Try.ntmps16
  go_wp2
  refine wp_loop_rounds 1 ?_
  rw [rounds_succ]
  go_wp2
  go_ret
  exact ⟨rfl, (Below.refl _ _).alloc (Nat.le_refl _) _⟩

set_option maxHeartbeats 1000000 in
theorem stepIs_one (k k2 : Nat) (id timer : Int) (learnt : Bool) (w : World) (h1 : w.heap[k]? = some (.cells (bal id) 43 (0, 0))) (h2 : w.heap[k2]? = some (.cells (bal id) 43 (0, 0))) :
    Calls Try.prog 16 #[.agg (st (.slice (some ⟨k, 0, none⟩) 1 1) timer learnt), .slice (some ⟨k2, 0, none⟩) 1 1, .int .u8 timer, .bool learnt] w fun e w' => e = .returned (.bool true) ∧ Below w.heap.size w w' := by
  have hq := fun (w : World) (a : Option Addr) (n c n' c' : Nat) => Lib.run_eql_slice_nil (P := Try.prog) w 44 43 a n c n' c' Try.underlying44
  have l1 := hlt h1
  have l2 := hlt h2
  have hc1 : ∀ j, w.cell? ⟨k, j, none⟩ = (bal id)[j]? := fun j => cell_of_row w k j _ 43 (0, 0) h1
  have hc2 : ∀ j, w.cell? ⟨k2, j, none⟩ = (bal id)[j]? := fun j => cell_of_row w k2 j _ 43 (0, 0) h2
  clear h1 h2
  unfold st
  unfold bal at hc1 hc2
  go_enter Try.func16, Try.ntmps16
  go_wp2
  refine wp_loop_rounds 2 ?_
  rw [rounds_succ]
  go_wp2
  go_quiet (fail)
  go_wp2
  rw [rounds_succ]
  go_wp2
  go_ret
  exact ⟨rfl, below_drewN ((Below.refl _ _).alloc (Nat.le_refl _) _) _⟩

end Go.Proofs.Qxb6613598a.fnRecast
