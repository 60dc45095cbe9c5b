/-
  No cell of these rows narrows 'for every input' (looked for: loops, veiled, ifaces, maps, wideKeys, modest, calm, conditions, laid).
  DERIVED. THE GIVEN ROWS OF THIS SEAT. 2 by the template 'for every input the law returns true; each argument reads behind the call as it read before'; 0 by the template 'total and deterministic' (their statements: Qxb6617768aFmtTotals.lean).
  GIVEN WITH THE SEED: the statements are not yours to turn. If you find one false, say at which input.
  Laid BY PROGRAM, IN A SANDBOX (cutbox-rows.mjs): the forced cells as the released guide's own fill.sh prints them over the translation b705177a257f9885… (all of the seat's roots in one cut). By AI agents, Wed Nov 11 2026. No macro, syntax, notation, axiom, sorry.
-/
import Derived.Test.Qxb6617768aFmtChecked
import GoSem.Claim
import GoSem.ClaimJoined
import GoSem.ClaimMapViews
import Derived.JoinedTies
import Derived.KernelRfl
namespace Go.Proofs.Qxb6617768aFmt
/- THE CELL 'sum', in the pinned program and in every row, IS THE sha256 OF THE DUMP (.gsa) THAT Qxb6617768aFmtProg.lean LOADS. Nothing in Lean hashes anything: it is a label: what it is worth is what the hold of that sum in a sandbox is worth. -/
noncomputable def Tryf.pinned : Pinned := { name := "qxb6617768afmt", sum := "b705177a257f98852c16e059dd1096ae336055165109d3eb014a363786162f30", checked := Tryf.checked }
namespace Rows
def none {H : Type} : Left H := { results := [], args := [] }

/-- 'zzlaws_root_e1.FnMarshalTextRoundTrip': WHATEVER THE INPUT: true; the input reads as it did. -/
def fnMarshalTextRoundTripSpec : ChangeSpec := { name := "fnMarshalTextRoundTrip", fn := fun _ => fun
  | [d] => { results := [.lit (.bool true)], args := [d] }
  | _ => none }
def fnMarshalTextRoundTripRow : OpenClaim := { program := "qxb6617768afmt", sum := "b705177a257f98852c16e059dd1096ae336055165109d3eb014a363786162f30", func := "example.com/who-leads/who-leads/zzlaws_root_e1.FnMarshalTextRoundTrip", spec := "fnMarshalTextRoundTrip", stops := ["fmt.errorf, its operands' methods called", "fmt.Sprintf"], inPlace := ["fmt.errorf", "fmt.Sprintf"], unfollowed := true, recurses := true, apart := false }
/-- NO THEOREM (fmt's text is open here; it may be false): for the released tool's asking of the row's closed facts alone. THE STATEMENT IS 'FnMarshalTextRoundTripToldSaid' (Qxb6617768aFmtCards.lean). -/
def FnMarshalTextRoundTripFormAsk : Prop := fnMarshalTextRoundTripRow.holds Tryf.pinned (OpenSpec.ofChange fnMarshalTextRoundTripSpec)

/-- ITS FALSE NEIGHBOUR: 'it returns false'. Refute it at one input. -/
def fnMarshalTextRoundTripWrong : ChangeSpec := { name := "fnMarshalTextRoundTrip", fn := fun _ => fun
  | [d] => { results := [.lit (.bool false)], args := [d] }
  | _ => none }
def FnMarshalTextRoundTripWrongFormAsk : Prop := fnMarshalTextRoundTripRow.holds Tryf.pinned (OpenSpec.ofChange fnMarshalTextRoundTripWrong)

/-- 'zzlaws_root_e1.FnValidateElectionJoin': WHATEVER THE INPUT: true; the input reads as it did. -/
def fnValidateElectionJoinSpec : ChangeSpec := { name := "fnValidateElectionJoin", fn := fun _ => fun
  | [d1, d2] => { results := [.lit (.bool true)], args := [d1, d2] }
  | _ => none }
def fnValidateElectionJoinRow : OpenClaim := { program := "qxb6617768afmt", sum := "b705177a257f98852c16e059dd1096ae336055165109d3eb014a363786162f30", func := "example.com/who-leads/who-leads/zzlaws_root_e1.FnValidateElectionJoin", spec := "fnValidateElectionJoin", stops := ["fmt.errorf, its operands' methods called", "fmt.Sprintf"], inPlace := ["fmt.errorf"], unfollowed := true, recurses := true, apart := false }
/-- NO THEOREM (fmt's text is open here; it may be false): for the released tool's asking of the row's closed facts alone. THE STATEMENT IS 'FnValidateElectionJoinToldSaid' (Qxb6617768aFmtCards.lean). -/
def FnValidateElectionJoinFormAsk : Prop := fnValidateElectionJoinRow.holds Tryf.pinned (OpenSpec.ofChange fnValidateElectionJoinSpec)

/-- ITS FALSE NEIGHBOUR: 'it returns false'. Refute it at one input. -/
def fnValidateElectionJoinWrong : ChangeSpec := { name := "fnValidateElectionJoin", fn := fun _ => fun
  | [d1, d2] => { results := [.lit (.bool false)], args := [d1, d2] }
  | _ => none }
def FnValidateElectionJoinWrongFormAsk : Prop := fnValidateElectionJoinRow.holds Tryf.pinned (OpenSpec.ofChange fnValidateElectionJoinWrong)

end Rows
end Go.Proofs.Qxb6617768aFmt
