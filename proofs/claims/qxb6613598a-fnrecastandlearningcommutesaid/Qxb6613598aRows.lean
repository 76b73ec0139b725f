/-
  No cell of these rows narrows 'for every input' (looked for: loops, veiled, ifaces, maps, wideKeys, modest, calm, conditions, laid).
  DERIVED. THE GIVEN ROWS OF THIS SEAT. 3 by the template 'for every input the law returns true; each argument reads behind the call as it read before'; 0 by the template 'total and deterministic' (their statements: Qxb6613598aTotals.lean).
  GIVEN WITH THE SEED: the statements are not yours to turn. If you find one false, say at which input.
  Laid BY PROGRAM, IN A SANDBOX (cutbox-rows.mjs): the forced cells as the released guide's own fill.sh prints them over the translation 2a0f8de8e71af30d… (all of the seat's roots in one cut). By AI agents, Wed Nov 11 2026. No macro, syntax, notation, axiom, sorry.
-/
import Derived.Test.Qxb6613598aChecked
import GoSem.Claim
import GoSem.ClaimJoined
import GoSem.ClaimMapViews
import Derived.JoinedTies
import Derived.KernelRfl
namespace Go.Proofs.Qxb6613598a
/- THE CELL 'sum', in the pinned program and in every row, IS THE sha256 OF THE DUMP (.gsa) THAT Qxb6613598aProg.lean LOADS. Nothing in Lean hashes anything: it is a label: what it is worth is what the hold of that sum in a sandbox is worth. -/
noncomputable def Try.pinned : Pinned := { name := "qxb6613598a", sum := "2a0f8de8e71af30da6883e87babac7302642605c606965fecea07bcb9d84aa9b", checked := Try.checked }
namespace Rows
def none {H : Type} : Left H := { results := [], args := [] }

/-- 'zzlaws_root_b1.FnTreeListsEveryEdgeOnceInOrder': WHATEVER THE INPUT: true; the input reads as it did. -/
def fnTreeListsEveryEdgeOnceInOrderSpec : ChangeSpec := { name := "fnTreeListsEveryEdgeOnceInOrder", fn := fun _ => fun
  | [d1, d2] => { results := [.lit (.bool true)], args := [d1, d2] }
  | _ => none }
def fnTreeListsEveryEdgeOnceInOrderRow : OpenClaim := { program := "qxb6613598a", sum := "2a0f8de8e71af30da6883e87babac7302642605c606965fecea07bcb9d84aa9b", func := "example.com/pactum/pactum/zzlaws_root_b1.FnTreeListsEveryEdgeOnceInOrder", spec := "fnTreeListsEveryEdgeOnceInOrder", apart := false }
def FnTreeListsEveryEdgeOnceInOrderSaid : Prop := fnTreeListsEveryEdgeOnceInOrderRow.holds Try.pinned (OpenSpec.ofChange fnTreeListsEveryEdgeOnceInOrderSpec)

/-- ITS FALSE NEIGHBOUR: 'it returns false'. Refute it at one input. -/
def fnTreeListsEveryEdgeOnceInOrderWrong : ChangeSpec := { name := "fnTreeListsEveryEdgeOnceInOrder", fn := fun _ => fun
  | [d1, d2] => { results := [.lit (.bool false)], args := [d1, d2] }
  | _ => none }
def FnTreeListsEveryEdgeOnceInOrderWrongFalsely : Prop := fnTreeListsEveryEdgeOnceInOrderRow.holds Try.pinned (OpenSpec.ofChange fnTreeListsEveryEdgeOnceInOrderWrong)

/-- 'zzlaws_root_b1.FnTreeEdgesGiveBackEveryNeighbourList': WHATEVER THE INPUT: true; the input reads as it did. -/
def fnTreeEdgesGiveBackEveryNeighbourListSpec : ChangeSpec := { name := "fnTreeEdgesGiveBackEveryNeighbourList", fn := fun _ => fun
  | [d] => { results := [.lit (.bool true)], args := [d] }
  | _ => none }
def fnTreeEdgesGiveBackEveryNeighbourListRow : OpenClaim := { program := "qxb6613598a", sum := "2a0f8de8e71af30da6883e87babac7302642605c606965fecea07bcb9d84aa9b", func := "example.com/pactum/pactum/zzlaws_root_b1.FnTreeEdgesGiveBackEveryNeighbourList", spec := "fnTreeEdgesGiveBackEveryNeighbourList", apart := false }
def FnTreeEdgesGiveBackEveryNeighbourListSaid : Prop := fnTreeEdgesGiveBackEveryNeighbourListRow.holds Try.pinned (OpenSpec.ofChange fnTreeEdgesGiveBackEveryNeighbourListSpec)

/-- ITS FALSE NEIGHBOUR: 'it returns false'. Refute it at one input. -/
def fnTreeEdgesGiveBackEveryNeighbourListWrong : ChangeSpec := { name := "fnTreeEdgesGiveBackEveryNeighbourList", fn := fun _ => fun
  | [d] => { results := [.lit (.bool false)], args := [d] }
  | _ => none }
def FnTreeEdgesGiveBackEveryNeighbourListWrongFalsely : Prop := fnTreeEdgesGiveBackEveryNeighbourListRow.holds Try.pinned (OpenSpec.ofChange fnTreeEdgesGiveBackEveryNeighbourListWrong)

/-- 'zzlaws_root_b1.FnRecastAndLearningCommute': WHATEVER THE INPUT: true; the input reads as it did. -/
def fnRecastAndLearningCommuteSpec : ChangeSpec := { name := "fnRecastAndLearningCommute", fn := fun _ => fun
  | [d1, d2, d3] => { results := [.lit (.bool true)], args := [d1, d2, d3] }
  | _ => none }
def fnRecastAndLearningCommuteRow : OpenClaim := { program := "qxb6613598a", sum := "2a0f8de8e71af30da6883e87babac7302642605c606965fecea07bcb9d84aa9b", func := "example.com/pactum/pactum/zzlaws_root_b1.FnRecastAndLearningCommute", spec := "fnRecastAndLearningCommute", unfollowed := true, recurses := true, apart := false }
def FnRecastAndLearningCommuteSaid : Prop := fnRecastAndLearningCommuteRow.holds Try.pinned (OpenSpec.ofChange fnRecastAndLearningCommuteSpec)

/-- ITS FALSE NEIGHBOUR: 'it returns false'. Refute it at one input. -/
def fnRecastAndLearningCommuteWrong : ChangeSpec := { name := "fnRecastAndLearningCommute", fn := fun _ => fun
  | [d1, d2, d3] => { results := [.lit (.bool false)], args := [d1, d2, d3] }
  | _ => none }
def FnRecastAndLearningCommuteWrongFalsely : Prop := fnRecastAndLearningCommuteRow.holds Try.pinned (OpenSpec.ofChange fnRecastAndLearningCommuteWrong)

end Rows
end Go.Proofs.Qxb6613598a
