/-
  No cell of these rows narrows 'for every input' (looked for: loops, veiled, ifaces, maps, wideKeys, modest, calm, conditions, laid).
  DERIVED. THE GIVEN ROWS OF THIS SEAT. 4 by the template 'for every input the law returns true; each argument reads behind the call as it read before'; 0 by the template 'total and deterministic' (their statements: Qxb6615150aFmtTotals.lean).
  GIVEN WITH THE SEED: the statements are not yours to turn. If you find one false, say at which input.
  Laid BY PROGRAM, IN A SANDBOX (cutbox-rows.mjs): the forced cells as the released guide's own fill.sh prints them over the translation 97100bf4d7bbe4fa… (all of the seat's roots in one cut). By AI agents, Wed Nov 11 2026. No macro, syntax, notation, axiom, sorry.
-/
import Derived.Test.Qxb6615150aFmtChecked
import GoSem.Claim
import GoSem.ClaimJoined
import GoSem.ClaimMapViews
import Derived.JoinedTies
import Derived.KernelRfl
namespace Go.Proofs.Qxb6615150aFmt
/- THE CELL 'sum', in the pinned program and in every row, IS THE sha256 OF THE DUMP (.gsa) THAT Qxb6615150aFmtProg.lean LOADS. Nothing in Lean hashes anything: it is a label: what it is worth is what the hold of that sum in a sandbox is worth. -/
noncomputable def Tryf.pinned : Pinned := { name := "qxb6615150afmt", sum := "97100bf4d7bbe4fa6dd604e1a303cbc363c63a35e7de811637b14a05a23d08aa", checked := Tryf.checked }
namespace Rows
def none {H : Type} : Left H := { results := [], args := [] }

/-- 'zzlaws_root_b1.FnReplicasAreSortedUnionOfTheLists': WHATEVER THE INPUT: true; the input reads as it did. -/
def fnReplicasAreSortedUnionOfTheListsSpec : ChangeSpec := { name := "fnReplicasAreSortedUnionOfTheLists", fn := fun _ => fun
  | [d1, d2, d3] => { results := [.lit (.bool true)], args := [d1, d2, d3] }
  | _ => none }
def fnReplicasAreSortedUnionOfTheListsRow : OpenClaim := { program := "qxb6615150afmt", sum := "97100bf4d7bbe4fa6dd604e1a303cbc363c63a35e7de811637b14a05a23d08aa", func := "example.com/termline/termline/zzlaws_root_b1.FnReplicasAreSortedUnionOfTheLists", spec := "fnReplicasAreSortedUnionOfTheLists", stops := ["fmt.errorf"], inPlace := ["fmt.errorf"], unfollowed := true, recurses := true, apart := false }
/-- NO THEOREM (fmt's text is open here; it may be false): for the released tool's asking of the row's closed facts alone. THE STATEMENT IS 'FnReplicasAreSortedUnionOfTheListsToldSaid' (Qxb6615150aFmtCards.lean). -/
def FnReplicasAreSortedUnionOfTheListsFormAsk : Prop := fnReplicasAreSortedUnionOfTheListsRow.holds Tryf.pinned (OpenSpec.ofChange fnReplicasAreSortedUnionOfTheListsSpec)

/-- ITS FALSE NEIGHBOUR: 'it returns false'. Refute it at one input. -/
def fnReplicasAreSortedUnionOfTheListsWrong : ChangeSpec := { name := "fnReplicasAreSortedUnionOfTheLists", fn := fun _ => fun
  | [d1, d2, d3] => { results := [.lit (.bool false)], args := [d1, d2, d3] }
  | _ => none }
def FnReplicasAreSortedUnionOfTheListsWrongFormAsk : Prop := fnReplicasAreSortedUnionOfTheListsRow.holds Tryf.pinned (OpenSpec.ofChange fnReplicasAreSortedUnionOfTheListsWrong)

/-- 'zzlaws_root_b1.FnReplicasSurviveMembershipRoundTrip': WHATEVER THE INPUT: true; the input reads as it did. -/
def fnReplicasSurviveMembershipRoundTripSpec : ChangeSpec := { name := "fnReplicasSurviveMembershipRoundTrip", fn := fun _ => fun
  | [d1, d2, d3] => { results := [.lit (.bool true)], args := [d1, d2, d3] }
  | _ => none }
def fnReplicasSurviveMembershipRoundTripRow : OpenClaim := { program := "qxb6615150afmt", sum := "97100bf4d7bbe4fa6dd604e1a303cbc363c63a35e7de811637b14a05a23d08aa", func := "example.com/termline/termline/zzlaws_root_b1.FnReplicasSurviveMembershipRoundTrip", spec := "fnReplicasSurviveMembershipRoundTrip", stops := ["fmt.errorf"], inPlace := ["fmt.errorf"], unfollowed := true, recurses := true, apart := false }
/-- NO THEOREM (fmt's text is open here; it may be false): for the released tool's asking of the row's closed facts alone. THE STATEMENT IS 'FnReplicasSurviveMembershipRoundTripToldSaid' (Qxb6615150aFmtCards.lean). -/
def FnReplicasSurviveMembershipRoundTripFormAsk : Prop := fnReplicasSurviveMembershipRoundTripRow.holds Tryf.pinned (OpenSpec.ofChange fnReplicasSurviveMembershipRoundTripSpec)

/-- ITS FALSE NEIGHBOUR: 'it returns false'. Refute it at one input. -/
def fnReplicasSurviveMembershipRoundTripWrong : ChangeSpec := { name := "fnReplicasSurviveMembershipRoundTrip", fn := fun _ => fun
  | [d1, d2, d3] => { results := [.lit (.bool false)], args := [d1, d2, d3] }
  | _ => none }
def FnReplicasSurviveMembershipRoundTripWrongFormAsk : Prop := fnReplicasSurviveMembershipRoundTripRow.holds Tryf.pinned (OpenSpec.ofChange fnReplicasSurviveMembershipRoundTripWrong)

/-- 'zzlaws_root_b1.FnTakeInReplacesConfigurationsFromFirstIndex': WHATEVER THE INPUT: true; the input reads as it did. -/
def fnTakeInReplacesConfigurationsFromFirstIndexSpec : ChangeSpec := { name := "fnTakeInReplacesConfigurationsFromFirstIndex", fn := fun _ => fun
  | [d1, d2] => { results := [.lit (.bool true)], args := [d1, d2] }
  | _ => none }
def fnTakeInReplacesConfigurationsFromFirstIndexRow : OpenClaim := { program := "qxb6615150afmt", sum := "97100bf4d7bbe4fa6dd604e1a303cbc363c63a35e7de811637b14a05a23d08aa", func := "example.com/termline/termline/zzlaws_root_b1.FnTakeInReplacesConfigurationsFromFirstIndex", spec := "fnTakeInReplacesConfigurationsFromFirstIndex", stops := ["fmt.errorf"], inPlace := ["fmt.errorf"], unfollowed := true, recurses := true, apart := false }
/-- NO THEOREM (fmt's text is open here; it may be false): for the released tool's asking of the row's closed facts alone. THE STATEMENT IS 'FnTakeInReplacesConfigurationsFromFirstIndexToldSaid' (Qxb6615150aFmtCards.lean). -/
def FnTakeInReplacesConfigurationsFromFirstIndexFormAsk : Prop := fnTakeInReplacesConfigurationsFromFirstIndexRow.holds Tryf.pinned (OpenSpec.ofChange fnTakeInReplacesConfigurationsFromFirstIndexSpec)

/-- ITS FALSE NEIGHBOUR: 'it returns false'. Refute it at one input. -/
def fnTakeInReplacesConfigurationsFromFirstIndexWrong : ChangeSpec := { name := "fnTakeInReplacesConfigurationsFromFirstIndex", fn := fun _ => fun
  | [d1, d2] => { results := [.lit (.bool false)], args := [d1, d2] }
  | _ => none }
def FnTakeInReplacesConfigurationsFromFirstIndexWrongFormAsk : Prop := fnTakeInReplacesConfigurationsFromFirstIndexRow.holds Tryf.pinned (OpenSpec.ofChange fnTakeInReplacesConfigurationsFromFirstIndexWrong)

/-- 'zzlaws_root_b1.FnTakeInInTwoPiecesAsInOne': WHATEVER THE INPUT: true; the input reads as it did. -/
def fnTakeInInTwoPiecesAsInOneSpec : ChangeSpec := { name := "fnTakeInInTwoPiecesAsInOne", fn := fun _ => fun
  | [d1, d2] => { results := [.lit (.bool true)], args := [d1, d2] }
  | _ => none }
def fnTakeInInTwoPiecesAsInOneRow : OpenClaim := { program := "qxb6615150afmt", sum := "97100bf4d7bbe4fa6dd604e1a303cbc363c63a35e7de811637b14a05a23d08aa", func := "example.com/termline/termline/zzlaws_root_b1.FnTakeInInTwoPiecesAsInOne", spec := "fnTakeInInTwoPiecesAsInOne", stops := ["fmt.errorf"], inPlace := ["fmt.errorf"], unfollowed := true, recurses := true, apart := false }
/-- NO THEOREM (fmt's text is open here; it may be false): for the released tool's asking of the row's closed facts alone. THE STATEMENT IS 'FnTakeInInTwoPiecesAsInOneToldSaid' (Qxb6615150aFmtCards.lean). -/
def FnTakeInInTwoPiecesAsInOneFormAsk : Prop := fnTakeInInTwoPiecesAsInOneRow.holds Tryf.pinned (OpenSpec.ofChange fnTakeInInTwoPiecesAsInOneSpec)

/-- ITS FALSE NEIGHBOUR: 'it returns false'. Refute it at one input. -/
def fnTakeInInTwoPiecesAsInOneWrong : ChangeSpec := { name := "fnTakeInInTwoPiecesAsInOne", fn := fun _ => fun
  | [d1, d2] => { results := [.lit (.bool false)], args := [d1, d2] }
  | _ => none }
def FnTakeInInTwoPiecesAsInOneWrongFormAsk : Prop := fnTakeInInTwoPiecesAsInOneRow.holds Tryf.pinned (OpenSpec.ofChange fnTakeInInTwoPiecesAsInOneWrong)

end Rows
end Go.Proofs.Qxb6615150aFmt
