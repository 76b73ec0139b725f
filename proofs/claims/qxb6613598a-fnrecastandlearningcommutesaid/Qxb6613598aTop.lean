import Derived.Test.Qxb6613598aLawSome
namespace Go.Proofs.Qxb6613598a.fnRecast
open Go.RowKit

set_option maxHeartbeats 400000 in
theorem walk (id n d : Int) (w : World) :
    Calls Try.prog 5 #[.int .i64 id, .int .i64 n, .int .u8 d] w fun e w' => e = .returned (.bool true) ∧ Below w.heap.size w w' := by
  by_cases c1 : n < 2
  · go_enter Try.func5, Try.ntmps5
    go_wp2
    go_ret
    exact ⟨rfl, Below.refl _ _⟩
  by_cases c2 : 65536 < n
  · go_enter Try.func5, Try.ntmps5
    go_wp2
    go_ret
    exact ⟨rfl, Below.refl _ _⟩
  by_cases c3 : id < 1
  · go_enter Try.func5, Try.ntmps5
    go_wp2
    go_ret
    exact ⟨rfl, Below.refl _ _⟩
  by_cases c4 : n ≤ id
  · go_enter Try.func5, Try.ntmps5
    go_wp2
    go_ret
    exact ⟨rfl, Below.refl _ _⟩
  by_cases c5 : d = 0
  · subst c5
    exact law_zero id n w (by omega) (by omega) (by omega) (by omega)
  · exact law_some id n d w (by omega) (by omega) (by omega) (by omega) (by simpa using c5)

end Go.Proofs.Qxb6613598a.fnRecast
