/-
  No cell of these rows narrows 'for every input' (looked for: loops, veiled, ifaces, maps, wideKeys, modest, calm, conditions, laid).
  DERIVED. THE GIVEN ROWS OF THIS SEAT. 3 by the template 'for every input the law returns true; each argument reads behind the call as it read before'; 0 by the template 'total and deterministic' (their statements: Qxb6608778aTotals.lean).
  GIVEN WITH THE SEED: the statements are not yours to turn. If you find one false, say at which input.
  Laid BY PROGRAM, IN A SANDBOX (cutbox-rows.mjs): the forced cells as the released guide's own fill.sh prints them over the translation 84041bbf4f66ba55… (all of the seat's roots in one cut). By AI agents, Wed Nov 11 2026. No macro, syntax, notation, axiom, sorry.
-/
import Derived.Test.Qxb6608778aChecked
import GoSem.Claim
import GoSem.ClaimJoined
import GoSem.ClaimMapViews
import Derived.JoinedTies
import Derived.KernelRfl
namespace Go.Proofs.Qxb6608778a
/- THE CELL 'sum', in the pinned program and in every row, IS THE sha256 OF THE DUMP (.gsa) THAT Qxb6608778aProg.lean LOADS. Nothing in Lean hashes anything: it is a label: what it is worth is what the hold of that sum in a sandbox is worth. -/
noncomputable def Try.pinned : Pinned := { name := "qxb6608778a", sum := "84041bbf4f66ba5555ef22d2611812d319037817f4d1eea4cbfb8258e2b83271", checked := Try.checked }
namespace Rows
def none {H : Type} : Left H := { results := [], args := [] }

/-- 'zzlaws_pkg_workbook_b1.FnCellRangeIsTheOneCellsRectangle': WHATEVER THE INPUT: true; the input reads as it did. -/
def fnCellRangeIsTheOneCellsRectangleSpec : ChangeSpec := { name := "fnCellRangeIsTheOneCellsRectangle", fn := fun _ => fun
  | [d1, d2, d3, d4, d5, d6, d7, d8, d9, d10, d11, d12] => { results := [.lit (.bool true)], args := [d1, d2, d3, d4, d5, d6, d7, d8, d9, d10, d11, d12] }
  | _ => none }
def fnCellRangeIsTheOneCellsRectangleRow : OpenClaim := { program := "qxb6608778a", sum := "84041bbf4f66ba5555ef22d2611812d319037817f4d1eea4cbfb8258e2b83271", func := "example.com/dasho/dasho/zzlaws_pkg_workbook_b1.FnCellRangeIsTheOneCellsRectangle", spec := "fnCellRangeIsTheOneCellsRectangle", apart := false }
def FnCellRangeIsTheOneCellsRectangleSaid : Prop := fnCellRangeIsTheOneCellsRectangleRow.holds Try.pinned (OpenSpec.ofChange fnCellRangeIsTheOneCellsRectangleSpec)

/-- ITS FALSE NEIGHBOUR: 'it returns false'. Refute it at one input. -/
def fnCellRangeIsTheOneCellsRectangleWrong : ChangeSpec := { name := "fnCellRangeIsTheOneCellsRectangle", fn := fun _ => fun
  | [d1, d2, d3, d4, d5, d6, d7, d8, d9, d10, d11, d12] => { results := [.lit (.bool false)], args := [d1, d2, d3, d4, d5, d6, d7, d8, d9, d10, d11, d12] }
  | _ => none }
def FnCellRangeIsTheOneCellsRectangleWrongFalsely : Prop := fnCellRangeIsTheOneCellsRectangleRow.holds Try.pinned (OpenSpec.ofChange fnCellRangeIsTheOneCellsRectangleWrong)

/-- 'zzlaws_pkg_workbook_b1.FnPrefixOfNamesItsPrefix': WHATEVER THE INPUT: true; the input reads as it did. -/
def fnPrefixOfNamesItsPrefixSpec : ChangeSpec := { name := "fnPrefixOfNamesItsPrefix", fn := fun _ => fun
  | [d1, d2, d3] => { results := [.lit (.bool true)], args := [d1, d2, d3] }
  | _ => none }
def fnPrefixOfNamesItsPrefixRow : OpenClaim := { program := "qxb6608778a", sum := "84041bbf4f66ba5555ef22d2611812d319037817f4d1eea4cbfb8258e2b83271", func := "example.com/dasho/dasho/zzlaws_pkg_workbook_b1.FnPrefixOfNamesItsPrefix", spec := "fnPrefixOfNamesItsPrefix", inPlace := ["internal/bytealg.IndexByteString"], apart := false }
def FnPrefixOfNamesItsPrefixSaid : Prop := fnPrefixOfNamesItsPrefixRow.holds Try.pinned (OpenSpec.ofChange fnPrefixOfNamesItsPrefixSpec)

/-- ITS FALSE NEIGHBOUR: 'it returns false'. Refute it at one input. -/
def fnPrefixOfNamesItsPrefixWrong : ChangeSpec := { name := "fnPrefixOfNamesItsPrefix", fn := fun _ => fun
  | [d1, d2, d3] => { results := [.lit (.bool false)], args := [d1, d2, d3] }
  | _ => none }
def FnPrefixOfNamesItsPrefixWrongFalsely : Prop := fnPrefixOfNamesItsPrefixRow.holds Try.pinned (OpenSpec.ofChange fnPrefixOfNamesItsPrefixWrong)

/-- 'zzlaws_pkg_workbook_b1.FnPrefixOfStopsAtTheEndOfTheName': WHATEVER THE INPUT: true; the input reads as it did. -/
def fnPrefixOfStopsAtTheEndOfTheNameSpec : ChangeSpec := { name := "fnPrefixOfStopsAtTheEndOfTheName", fn := fun _ => fun
  | [d1, d2, d3] => { results := [.lit (.bool true)], args := [d1, d2, d3] }
  | _ => none }
def fnPrefixOfStopsAtTheEndOfTheNameRow : OpenClaim := { program := "qxb6608778a", sum := "84041bbf4f66ba5555ef22d2611812d319037817f4d1eea4cbfb8258e2b83271", func := "example.com/dasho/dasho/zzlaws_pkg_workbook_b1.FnPrefixOfStopsAtTheEndOfTheName", spec := "fnPrefixOfStopsAtTheEndOfTheName", inPlace := ["internal/bytealg.IndexByteString"], apart := false }
def FnPrefixOfStopsAtTheEndOfTheNameSaid : Prop := fnPrefixOfStopsAtTheEndOfTheNameRow.holds Try.pinned (OpenSpec.ofChange fnPrefixOfStopsAtTheEndOfTheNameSpec)

/-- ITS FALSE NEIGHBOUR: 'it returns false'. Refute it at one input. -/
def fnPrefixOfStopsAtTheEndOfTheNameWrong : ChangeSpec := { name := "fnPrefixOfStopsAtTheEndOfTheName", fn := fun _ => fun
  | [d1, d2, d3] => { results := [.lit (.bool false)], args := [d1, d2, d3] }
  | _ => none }
def FnPrefixOfStopsAtTheEndOfTheNameWrongFalsely : Prop := fnPrefixOfStopsAtTheEndOfTheNameRow.holds Try.pinned (OpenSpec.ofChange fnPrefixOfStopsAtTheEndOfTheNameWrong)

end Rows
end Go.Proofs.Qxb6608778a
