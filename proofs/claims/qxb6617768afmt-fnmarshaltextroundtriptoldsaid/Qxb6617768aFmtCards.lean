/-
  DERIVED. GIVEN WITH THE SEED: THE CARDS: each row of Qxb6617768aFmtRows.lean that lists a variable, with what it lists TIED to the program's text (the seventh form; the later family's looks); each row that meets fmt, with fmt's text TOLD by the authors' own Lean function (tested against real Go, not proved from fmt's source: count such statements apart). THE CARD IS WHAT COUNTS. Prove the row's statement (the work); the ties are given (Qxb6617768aFmtTie.lean); close each card by the builder's one call (the guide's Derived/Test/ToyasCard.lean, 'card_holds'). Laid BY PROGRAM, IN A SANDBOX (cutbox-door.mjs). By AI agents, Wed Nov 11 2026. No macro, syntax, notation, axiom, sorry.
-/
import Derived.Test.Qxb6617768aFmtRows
import GoSem.ClaimSeven
namespace Go.Proofs.Qxb6617768aFmt
namespace Rows

/-- THE TOLD CARD OF 'zzlaws_root_e1.FnMarshalTextRoundTrip'. -/
def fnMarshalTextRoundTripCard : Claim7 := { stood := { row := fnMarshalTextRoundTripRow, standIns := [], harness := (true, "084388de05a1e1a598f456698229d7aca975a6b2186f6c935307d1c1cb375ffb"), looks := false }, told := true, goes := false }
def FnMarshalTextRoundTripToldSaid : Prop := Claim7.holds Tryf.pinned (.plain (OpenSpec.ofChange fnMarshalTextRoundTripSpec)) fnMarshalTextRoundTripCard
/-- ITS FALSE NEIGHBOUR. Refute it at one input. -/
def FnMarshalTextRoundTripToldWrongFalsely : Prop := Claim7.holds Tryf.pinned (.plain (OpenSpec.ofChange fnMarshalTextRoundTripWrong)) fnMarshalTextRoundTripCard

/-- THE TOLD CARD OF 'zzlaws_root_e1.FnValidateElectionJoin'. -/
def fnValidateElectionJoinCard : Claim7 := { stood := { row := fnValidateElectionJoinRow, standIns := [], harness := (true, "084388de05a1e1a598f456698229d7aca975a6b2186f6c935307d1c1cb375ffb"), looks := false }, told := true, goes := false }
def FnValidateElectionJoinToldSaid : Prop := Claim7.holds Tryf.pinned (.plain (OpenSpec.ofChange fnValidateElectionJoinSpec)) fnValidateElectionJoinCard
/-- ITS FALSE NEIGHBOUR. Refute it at one input. -/
def FnValidateElectionJoinToldWrongFalsely : Prop := Claim7.holds Tryf.pinned (.plain (OpenSpec.ofChange fnValidateElectionJoinWrong)) fnValidateElectionJoinCard
end Rows
end Go.Proofs.Qxb6617768aFmt
