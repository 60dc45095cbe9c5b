/-
  No cell of these rows narrows 'for every input' (looked for: loops, veiled, ifaces, maps, wideKeys, modest, calm, conditions, laid).
  DERIVED. THE GIVEN ROWS OF THIS SEAT. 4 by the template 'for every input the law returns true; each argument reads behind the call as it read before'; 0 by the template 'total and deterministic' (their statements: Qxb6617151aTotals.lean).
  GIVEN WITH THE SEED: the statements are not yours to turn. If you find one false, say at which input.
  Laid BY PROGRAM, IN A SANDBOX (cutbox-rows.mjs): the forced cells as the released guide's own fill.sh prints them over the translation 103fdcb56b985536… (all of the seat's roots in one cut). By AI agents, Wed Nov 11 2026. No macro, syntax, notation, axiom, sorry.
-/
import Derived.Test.Qxb6617151aChecked
import GoSem.Claim
import GoSem.ClaimJoined
import GoSem.ClaimMapViews
import Derived.JoinedTies
import Derived.KernelRfl
namespace Go.Proofs.Qxb6617151a
/- THE CELL 'sum', in the pinned program and in every row, IS THE sha256 OF THE DUMP (.gsa) THAT Qxb6617151aProg.lean LOADS. Nothing in Lean hashes anything: it is a label: what it is worth is what the hold of that sum in a sandbox is worth. -/
noncomputable def Try.pinned : Pinned := { name := "qxb6617151a", sum := "103fdcb56b985536d3d8403acae35d87c872e19b06e8aa0ef409f06939c8dc2d", checked := Try.checked }
namespace Rows
def none {H : Type} : Left H := { results := [], args := [] }

/-- 'zzlaws_pkg_jsonfile_b1.FnSkipStopsAtFirstTokenCountingLines': WHATEVER THE INPUT: true; the input reads as it did. -/
def fnSkipStopsAtFirstTokenCountingLinesSpec : ChangeSpec := { name := "fnSkipStopsAtFirstTokenCountingLines", fn := fun _ => fun
  | [d1, d2, d3] => { results := [.lit (.bool true)], args := [d1, d2, d3] }
  | _ => none }
def fnSkipStopsAtFirstTokenCountingLinesRow : OpenClaim := { program := "qxb6617151a", sum := "103fdcb56b985536d3d8403acae35d87c872e19b06e8aa0ef409f06939c8dc2d", func := "example.com/custodex/custodex/zzlaws_pkg_jsonfile_b1.FnSkipStopsAtFirstTokenCountingLines", spec := "fnSkipStopsAtFirstTokenCountingLines", apart := false }
def FnSkipStopsAtFirstTokenCountingLinesSaid : Prop := fnSkipStopsAtFirstTokenCountingLinesRow.holds Try.pinned (OpenSpec.ofChange fnSkipStopsAtFirstTokenCountingLinesSpec)

/-- ITS FALSE NEIGHBOUR: 'it returns false'. Refute it at one input. -/
def fnSkipStopsAtFirstTokenCountingLinesWrong : ChangeSpec := { name := "fnSkipStopsAtFirstTokenCountingLines", fn := fun _ => fun
  | [d1, d2, d3] => { results := [.lit (.bool false)], args := [d1, d2, d3] }
  | _ => none }
def FnSkipStopsAtFirstTokenCountingLinesWrongFalsely : Prop := fnSkipStopsAtFirstTokenCountingLinesRow.holds Try.pinned (OpenSpec.ofChange fnSkipStopsAtFirstTokenCountingLinesWrong)

/-- 'zzlaws_pkg_jsonfile_b1.FnSkipPastInsertedSeparators': WHATEVER THE INPUT: true; the input reads as it did. -/
def fnSkipPastInsertedSeparatorsSpec : ChangeSpec := { name := "fnSkipPastInsertedSeparators", fn := fun _ => fun
  | [d1, d2, d3, d4] => { results := [.lit (.bool true)], args := [d1, d2, d3, d4] }
  | _ => none }
def fnSkipPastInsertedSeparatorsRow : OpenClaim := { program := "qxb6617151a", sum := "103fdcb56b985536d3d8403acae35d87c872e19b06e8aa0ef409f06939c8dc2d", func := "example.com/custodex/custodex/zzlaws_pkg_jsonfile_b1.FnSkipPastInsertedSeparators", spec := "fnSkipPastInsertedSeparators", apart := false }
def FnSkipPastInsertedSeparatorsSaid : Prop := fnSkipPastInsertedSeparatorsRow.holds Try.pinned (OpenSpec.ofChange fnSkipPastInsertedSeparatorsSpec)

/-- ITS FALSE NEIGHBOUR: 'it returns false'. Refute it at one input. -/
def fnSkipPastInsertedSeparatorsWrong : ChangeSpec := { name := "fnSkipPastInsertedSeparators", fn := fun _ => fun
  | [d1, d2, d3, d4] => { results := [.lit (.bool false)], args := [d1, d2, d3, d4] }
  | _ => none }
def FnSkipPastInsertedSeparatorsWrongFalsely : Prop := fnSkipPastInsertedSeparatorsRow.holds Try.pinned (OpenSpec.ofChange fnSkipPastInsertedSeparatorsWrong)

/-- 'zzlaws_pkg_jsonfile_b1.FnSkipStringGrowsWithInsertedText': WHATEVER THE INPUT: true; the input reads as it did. -/
def fnSkipStringGrowsWithInsertedTextSpec : ChangeSpec := { name := "fnSkipStringGrowsWithInsertedText", fn := fun _ => fun
  | [d1, d2, d3, d4] => { results := [.lit (.bool true)], args := [d1, d2, d3, d4] }
  | _ => none }
def fnSkipStringGrowsWithInsertedTextRow : OpenClaim := { program := "qxb6617151a", sum := "103fdcb56b985536d3d8403acae35d87c872e19b06e8aa0ef409f06939c8dc2d", func := "example.com/custodex/custodex/zzlaws_pkg_jsonfile_b1.FnSkipStringGrowsWithInsertedText", spec := "fnSkipStringGrowsWithInsertedText", apart := false }
def FnSkipStringGrowsWithInsertedTextSaid : Prop := fnSkipStringGrowsWithInsertedTextRow.holds Try.pinned (OpenSpec.ofChange fnSkipStringGrowsWithInsertedTextSpec)

/-- ITS FALSE NEIGHBOUR: 'it returns false'. Refute it at one input. -/
def fnSkipStringGrowsWithInsertedTextWrong : ChangeSpec := { name := "fnSkipStringGrowsWithInsertedText", fn := fun _ => fun
  | [d1, d2, d3, d4] => { results := [.lit (.bool false)], args := [d1, d2, d3, d4] }
  | _ => none }
def FnSkipStringGrowsWithInsertedTextWrongFalsely : Prop := fnSkipStringGrowsWithInsertedTextRow.holds Try.pinned (OpenSpec.ofChange fnSkipStringGrowsWithInsertedTextWrong)

/-- 'zzlaws_pkg_jsonfile_b1.FnSkipStringIgnoresWhatFollows': WHATEVER THE INPUT: true; the input reads as it did. -/
def fnSkipStringIgnoresWhatFollowsSpec : ChangeSpec := { name := "fnSkipStringIgnoresWhatFollows", fn := fun _ => fun
  | [d1, d2, d3, d4] => { results := [.lit (.bool true)], args := [d1, d2, d3, d4] }
  | _ => none }
def fnSkipStringIgnoresWhatFollowsRow : OpenClaim := { program := "qxb6617151a", sum := "103fdcb56b985536d3d8403acae35d87c872e19b06e8aa0ef409f06939c8dc2d", func := "example.com/custodex/custodex/zzlaws_pkg_jsonfile_b1.FnSkipStringIgnoresWhatFollows", spec := "fnSkipStringIgnoresWhatFollows", apart := false }
def FnSkipStringIgnoresWhatFollowsSaid : Prop := fnSkipStringIgnoresWhatFollowsRow.holds Try.pinned (OpenSpec.ofChange fnSkipStringIgnoresWhatFollowsSpec)

/-- ITS FALSE NEIGHBOUR: 'it returns false'. Refute it at one input. -/
def fnSkipStringIgnoresWhatFollowsWrong : ChangeSpec := { name := "fnSkipStringIgnoresWhatFollows", fn := fun _ => fun
  | [d1, d2, d3, d4] => { results := [.lit (.bool false)], args := [d1, d2, d3, d4] }
  | _ => none }
def FnSkipStringIgnoresWhatFollowsWrongFalsely : Prop := fnSkipStringIgnoresWhatFollowsRow.holds Try.pinned (OpenSpec.ofChange fnSkipStringIgnoresWhatFollowsWrong)

end Rows
end Go.Proofs.Qxb6617151a
