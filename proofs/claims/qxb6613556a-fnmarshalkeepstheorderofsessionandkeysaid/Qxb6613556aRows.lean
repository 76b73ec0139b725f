/-
  No cell of these rows narrows 'for every input' (looked for: loops, veiled, ifaces, maps, wideKeys, modest, calm, conditions, laid).
  DERIVED. THE GIVEN ROWS OF THIS SEAT. 1 by the template 'for every input the law returns true; each argument reads behind the call as it read before'; 0 by the template 'total and deterministic' (their statements: Qxb6613556aTotals.lean).
  GIVEN WITH THE SEED: the statements are not yours to turn. If you find one false, say at which input.
  Laid BY PROGRAM, IN A SANDBOX (cutbox-rows.mjs): the forced cells as the released guide's own fill.sh prints them over the translation f056ae4e8c71250c… (all of the seat's roots in one cut). By AI agents, Wed Nov 11 2026. No macro, syntax, notation, axiom, sorry.
-/
import Derived.Test.Qxb6613556aChecked
import GoSem.Claim
import GoSem.ClaimJoined
import GoSem.ClaimMapViews
import Derived.JoinedTies
import Derived.KernelRfl
namespace Go.Proofs.Qxb6613556a
/- THE CELL 'sum', in the pinned program and in every row, IS THE sha256 OF THE DUMP (.gsa) THAT Qxb6613556aProg.lean LOADS. Nothing in Lean hashes anything: it is a label: what it is worth is what the hold of that sum in a sandbox is worth. -/
noncomputable def Try.pinned : Pinned := { name := "qxb6613556a", sum := "f056ae4e8c71250c4bb24e27364a07eff1412255e78c82a4fe1793c124d6293b", checked := Try.checked }
namespace Rows
def none {H : Type} : Left H := { results := [], args := [] }

/-- 'zzlaws_protocol_b1.FnMarshalKeepsTheOrderOfSessionAndKey': WHATEVER THE INPUT: true; the input reads as it did. -/
def fnMarshalKeepsTheOrderOfSessionAndKeySpec : ChangeSpec := { name := "fnMarshalKeepsTheOrderOfSessionAndKey", fn := fun _ => fun
  | [d1, d2, d3, d4] => { results := [.lit (.bool true)], args := [d1, d2, d3, d4] }
  | _ => none }
def fnMarshalKeepsTheOrderOfSessionAndKeyRow : OpenClaim := { program := "qxb6613556a", sum := "f056ae4e8c71250c4bb24e27364a07eff1412255e78c82a4fe1793c124d6293b", func := "example.com/roamproof/roamproof/zzlaws_protocol_b1.FnMarshalKeepsTheOrderOfSessionAndKey", spec := "fnMarshalKeepsTheOrderOfSessionAndKey", named := ["encoding/binary.BigEndian"], apart := false }
def FnMarshalKeepsTheOrderOfSessionAndKeySaid : Prop := fnMarshalKeepsTheOrderOfSessionAndKeyRow.holds Try.pinned (OpenSpec.ofChange fnMarshalKeepsTheOrderOfSessionAndKeySpec)

/-- ITS FALSE NEIGHBOUR: 'it returns false'. Refute it at one input. -/
def fnMarshalKeepsTheOrderOfSessionAndKeyWrong : ChangeSpec := { name := "fnMarshalKeepsTheOrderOfSessionAndKey", fn := fun _ => fun
  | [d1, d2, d3, d4] => { results := [.lit (.bool false)], args := [d1, d2, d3, d4] }
  | _ => none }
def FnMarshalKeepsTheOrderOfSessionAndKeyWrongFalsely : Prop := fnMarshalKeepsTheOrderOfSessionAndKeyRow.holds Try.pinned (OpenSpec.ofChange fnMarshalKeepsTheOrderOfSessionAndKeyWrong)

end Rows
end Go.Proofs.Qxb6613556a
