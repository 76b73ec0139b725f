/-
  No cell of these rows narrows 'for every input' (looked for: loops, veiled, ifaces, maps, wideKeys, modest, calm, conditions, laid).
  DERIVED. THE GIVEN ROWS OF THIS SEAT. 1 by the template 'for every input the law returns true; each argument reads behind the call as it read before'; 0 by the template 'total and deterministic' (their statements: Qxb6609121aTotals.lean).
  GIVEN WITH THE SEED: the statements are not yours to turn. If you find one false, say at which input.
  Laid BY PROGRAM, IN A SANDBOX (cutbox-rows.mjs): the forced cells as the released guide's own fill.sh prints them over the translation 71548ae08a28442f… (all of the seat's roots in one cut). By AI agents, Wed Nov 11 2026. No macro, syntax, notation, axiom, sorry.
-/
import Derived.Test.Qxb6609121aChecked
import GoSem.Claim
import GoSem.ClaimJoined
import GoSem.ClaimMapViews
import Derived.JoinedTies
import Derived.KernelRfl
namespace Go.Proofs.Qxb6609121a
/- THE CELL 'sum', in the pinned program and in every row, IS THE sha256 OF THE DUMP (.gsa) THAT Qxb6609121aProg.lean LOADS. Nothing in Lean hashes anything: it is a label: what it is worth is what the hold of that sum in a sandbox is worth. -/
noncomputable def Try.pinned : Pinned := { name := "qxb6609121a", sum := "71548ae08a28442fe6be3c4257a69d8eb1bc5e6840b5210d240dbacf3161cf1f", checked := Try.checked }
namespace Rows
def none {H : Type} : Left H := { results := [], args := [] }

/-- 'zzlaws_internal_codec_b1.FnAppendBallotExtendsByItsOwnEncoding': WHATEVER THE INPUT: true; the input reads as it did. -/
def fnAppendBallotExtendsByItsOwnEncodingSpec : ChangeSpec := { name := "fnAppendBallotExtendsByItsOwnEncoding", fn := fun _ => fun
  | [d1, d2, d3] => { results := [.lit (.bool true)], args := [d1, d2, d3] }
  | _ => none }
def fnAppendBallotExtendsByItsOwnEncodingRow : OpenClaim := { program := "qxb6609121a", sum := "71548ae08a28442fe6be3c4257a69d8eb1bc5e6840b5210d240dbacf3161cf1f", func := "example.com/synod/synod/zzlaws_internal_codec_b1.FnAppendBallotExtendsByItsOwnEncoding", spec := "fnAppendBallotExtendsByItsOwnEncoding", apart := false }
def FnAppendBallotExtendsByItsOwnEncodingSaid : Prop := fnAppendBallotExtendsByItsOwnEncodingRow.holds Try.pinned (OpenSpec.ofChange fnAppendBallotExtendsByItsOwnEncodingSpec)

/-- ITS FALSE NEIGHBOUR: 'it returns false'. Refute it at one input. -/
def fnAppendBallotExtendsByItsOwnEncodingWrong : ChangeSpec := { name := "fnAppendBallotExtendsByItsOwnEncoding", fn := fun _ => fun
  | [d1, d2, d3] => { results := [.lit (.bool false)], args := [d1, d2, d3] }
  | _ => none }
def FnAppendBallotExtendsByItsOwnEncodingWrongFalsely : Prop := fnAppendBallotExtendsByItsOwnEncodingRow.holds Try.pinned (OpenSpec.ofChange fnAppendBallotExtendsByItsOwnEncodingWrong)

end Rows
end Go.Proofs.Qxb6609121a
