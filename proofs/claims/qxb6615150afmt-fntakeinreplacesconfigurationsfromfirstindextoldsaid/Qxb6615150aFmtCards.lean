/-
  DERIVED. GIVEN WITH THE SEED: THE CARDS: each row of Qxb6615150aFmtRows.lean that lists a variable, with what it lists TIED to the program's text (the seventh form; the later family's looks); each row that meets fmt, with fmt's text TOLD by the authors' own Lean function (tested against real Go, not proved from fmt's source: count such statements apart). THE CARD IS WHAT COUNTS. Prove the row's statement (the work); the ties are given (Qxb6615150aFmtTie.lean); close each card by the builder's one call (the guide's Derived/Test/ToyasCard.lean, 'card_holds'). Laid BY PROGRAM, IN A SANDBOX (cutbox-door.mjs). By AI agents, Wed Nov 11 2026. No macro, syntax, notation, axiom, sorry.
-/
import Derived.Test.Qxb6615150aFmtRows
import GoSem.ClaimSeven
namespace Go.Proofs.Qxb6615150aFmt
namespace Rows

/-- THE TOLD CARD OF 'zzlaws_root_b1.FnReplicasAreSortedUnionOfTheLists'. -/
def fnReplicasAreSortedUnionOfTheListsCard : Claim7 := { stood := { row := fnReplicasAreSortedUnionOfTheListsRow, standIns := [], harness := (true, "10bb1bbd71d70dadcda5601f711e6645be64013813c58bb11a349bf9622c4b10"), looks := false }, told := true, goes := false }
def FnReplicasAreSortedUnionOfTheListsToldSaid : Prop := Claim7.holds Tryf.pinned (.plain (OpenSpec.ofChange fnReplicasAreSortedUnionOfTheListsSpec)) fnReplicasAreSortedUnionOfTheListsCard
/-- ITS FALSE NEIGHBOUR. Refute it at one input. -/
def FnReplicasAreSortedUnionOfTheListsToldWrongFalsely : Prop := Claim7.holds Tryf.pinned (.plain (OpenSpec.ofChange fnReplicasAreSortedUnionOfTheListsWrong)) fnReplicasAreSortedUnionOfTheListsCard

/-- THE TOLD CARD OF 'zzlaws_root_b1.FnReplicasSurviveMembershipRoundTrip'. -/
def fnReplicasSurviveMembershipRoundTripCard : Claim7 := { stood := { row := fnReplicasSurviveMembershipRoundTripRow, standIns := [], harness := (true, "10bb1bbd71d70dadcda5601f711e6645be64013813c58bb11a349bf9622c4b10"), looks := false }, told := true, goes := false }
def FnReplicasSurviveMembershipRoundTripToldSaid : Prop := Claim7.holds Tryf.pinned (.plain (OpenSpec.ofChange fnReplicasSurviveMembershipRoundTripSpec)) fnReplicasSurviveMembershipRoundTripCard
/-- ITS FALSE NEIGHBOUR. Refute it at one input. -/
def FnReplicasSurviveMembershipRoundTripToldWrongFalsely : Prop := Claim7.holds Tryf.pinned (.plain (OpenSpec.ofChange fnReplicasSurviveMembershipRoundTripWrong)) fnReplicasSurviveMembershipRoundTripCard

/-- THE TOLD CARD OF 'zzlaws_root_b1.FnTakeInReplacesConfigurationsFromFirstIndex'. -/
def fnTakeInReplacesConfigurationsFromFirstIndexCard : Claim7 := { stood := { row := fnTakeInReplacesConfigurationsFromFirstIndexRow, standIns := [], harness := (true, "10bb1bbd71d70dadcda5601f711e6645be64013813c58bb11a349bf9622c4b10"), looks := false }, told := true, goes := false }
def FnTakeInReplacesConfigurationsFromFirstIndexToldSaid : Prop := Claim7.holds Tryf.pinned (.plain (OpenSpec.ofChange fnTakeInReplacesConfigurationsFromFirstIndexSpec)) fnTakeInReplacesConfigurationsFromFirstIndexCard
/-- ITS FALSE NEIGHBOUR. Refute it at one input. -/
def FnTakeInReplacesConfigurationsFromFirstIndexToldWrongFalsely : Prop := Claim7.holds Tryf.pinned (.plain (OpenSpec.ofChange fnTakeInReplacesConfigurationsFromFirstIndexWrong)) fnTakeInReplacesConfigurationsFromFirstIndexCard

/-- THE TOLD CARD OF 'zzlaws_root_b1.FnTakeInInTwoPiecesAsInOne'. -/
def fnTakeInInTwoPiecesAsInOneCard : Claim7 := { stood := { row := fnTakeInInTwoPiecesAsInOneRow, standIns := [], harness := (true, "10bb1bbd71d70dadcda5601f711e6645be64013813c58bb11a349bf9622c4b10"), looks := false }, told := true, goes := false }
def FnTakeInInTwoPiecesAsInOneToldSaid : Prop := Claim7.holds Tryf.pinned (.plain (OpenSpec.ofChange fnTakeInInTwoPiecesAsInOneSpec)) fnTakeInInTwoPiecesAsInOneCard
/-- ITS FALSE NEIGHBOUR. Refute it at one input. -/
def FnTakeInInTwoPiecesAsInOneToldWrongFalsely : Prop := Claim7.holds Tryf.pinned (.plain (OpenSpec.ofChange fnTakeInInTwoPiecesAsInOneWrong)) fnTakeInInTwoPiecesAsInOneCard
end Rows
end Go.Proofs.Qxb6615150aFmt
