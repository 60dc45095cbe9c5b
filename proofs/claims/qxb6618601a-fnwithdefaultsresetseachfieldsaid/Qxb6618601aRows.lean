/-
  No cell of these rows narrows 'for every input' (looked for: loops, veiled, ifaces, maps, wideKeys, modest, calm, conditions, laid).
  DERIVED. THE GIVEN ROWS OF THIS SEAT. 2 by the template 'for every input the law returns true; each argument reads behind the call as it read before'; 0 by the template 'total and deterministic' (their statements: Qxb6618601aTotals.lean).
  GIVEN WITH THE SEED: the statements are not yours to turn. If you find one false, say at which input.
  Laid BY PROGRAM, IN A SANDBOX (cutbox-rows.mjs): the forced cells as the released guide's own fill.sh prints them over the translation caadd5ad2ea0f81d… (all of the seat's roots in one cut). By AI agents, Wed Nov 11 2026. No macro, syntax, notation, axiom, sorry.
-/
import Derived.Test.Qxb6618601aChecked
import GoSem.Claim
import GoSem.ClaimJoined
import GoSem.ClaimMapViews
import Derived.JoinedTies
import Derived.KernelRfl
namespace Go.Proofs.Qxb6618601a
/- THE CELL 'sum', in the pinned program and in every row, IS THE sha256 OF THE DUMP (.gsa) THAT Qxb6618601aProg.lean LOADS. Nothing in Lean hashes anything: it is a label: what it is worth is what the hold of that sum in a sandbox is worth. -/
noncomputable def Try.pinned : Pinned := { name := "qxb6618601a", sum := "caadd5ad2ea0f81d6aeb29a2ffd8c2fdfa5278a336929dd312bce80b392855e4", checked := Try.checked }
namespace Rows
def none {H : Type} : Left H := { results := [], args := [] }

/-- 'zzlaws_saga_b1.FnWithDefaultsResetsEachField': WHATEVER THE INPUT: true; the input reads as it did. -/
def fnWithDefaultsResetsEachFieldSpec : ChangeSpec := { name := "fnWithDefaultsResetsEachField", fn := fun _ => fun
  | [d1, d2, d3, d4, d5, d6, d7] => { results := [.lit (.bool true)], args := [d1, d2, d3, d4, d5, d6, d7] }
  | _ => none }
def fnWithDefaultsResetsEachFieldRow : OpenClaim := { program := "qxb6618601a", sum := "caadd5ad2ea0f81d6aeb29a2ffd8c2fdfa5278a336929dd312bce80b392855e4", func := "example.com/relaystone/relaystone/zzlaws_saga_b1.FnWithDefaultsResetsEachField", spec := "fnWithDefaultsResetsEachField", unfollowed := true, recurses := true, apart := false }
def FnWithDefaultsResetsEachFieldSaid : Prop := fnWithDefaultsResetsEachFieldRow.holds Try.pinned (OpenSpec.ofChange fnWithDefaultsResetsEachFieldSpec)

/-- ITS FALSE NEIGHBOUR: 'it returns false'. Refute it at one input. -/
def fnWithDefaultsResetsEachFieldWrong : ChangeSpec := { name := "fnWithDefaultsResetsEachField", fn := fun _ => fun
  | [d1, d2, d3, d4, d5, d6, d7] => { results := [.lit (.bool false)], args := [d1, d2, d3, d4, d5, d6, d7] }
  | _ => none }
def FnWithDefaultsResetsEachFieldWrongFalsely : Prop := fnWithDefaultsResetsEachFieldRow.holds Try.pinned (OpenSpec.ofChange fnWithDefaultsResetsEachFieldWrong)

/-- 'zzlaws_saga_b1.FnWithDefaultsSettlesAtOnce': WHATEVER THE INPUT: true; the input reads as it did. -/
def fnWithDefaultsSettlesAtOnceSpec : ChangeSpec := { name := "fnWithDefaultsSettlesAtOnce", fn := fun _ => fun
  | [d1, d2, d3, d4, d5, d6, d7] => { results := [.lit (.bool true)], args := [d1, d2, d3, d4, d5, d6, d7] }
  | _ => none }
def fnWithDefaultsSettlesAtOnceRow : OpenClaim := { program := "qxb6618601a", sum := "caadd5ad2ea0f81d6aeb29a2ffd8c2fdfa5278a336929dd312bce80b392855e4", func := "example.com/relaystone/relaystone/zzlaws_saga_b1.FnWithDefaultsSettlesAtOnce", spec := "fnWithDefaultsSettlesAtOnce", unfollowed := true, recurses := true, apart := false }
def FnWithDefaultsSettlesAtOnceSaid : Prop := fnWithDefaultsSettlesAtOnceRow.holds Try.pinned (OpenSpec.ofChange fnWithDefaultsSettlesAtOnceSpec)

/-- ITS FALSE NEIGHBOUR: 'it returns false'. Refute it at one input. -/
def fnWithDefaultsSettlesAtOnceWrong : ChangeSpec := { name := "fnWithDefaultsSettlesAtOnce", fn := fun _ => fun
  | [d1, d2, d3, d4, d5, d6, d7] => { results := [.lit (.bool false)], args := [d1, d2, d3, d4, d5, d6, d7] }
  | _ => none }
def FnWithDefaultsSettlesAtOnceWrongFalsely : Prop := fnWithDefaultsSettlesAtOnceRow.holds Try.pinned (OpenSpec.ofChange fnWithDefaultsSettlesAtOnceWrong)

end Rows
end Go.Proofs.Qxb6618601a
