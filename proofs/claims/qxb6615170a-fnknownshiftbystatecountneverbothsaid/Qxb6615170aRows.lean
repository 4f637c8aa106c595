/-
  No cell of these rows narrows 'for every input' (looked for: loops, veiled, ifaces, maps, wideKeys, modest, calm, conditions, laid).
  DERIVED. THE GIVEN ROWS OF THIS SEAT. 2 by the template 'for every input the law returns true; each argument reads behind the call as it read before'; 0 by the template 'total and deterministic' (their statements: Qxb6615170aTotals.lean).
  GIVEN WITH THE SEED: the statements are not yours to turn. If you find one false, say at which input.
  Laid BY PROGRAM, IN A SANDBOX (cutbox-rows.mjs): the forced cells as the released guide's own fill.sh prints them over the translation 669ba5e809adbcd0… (all of the seat's roots in one cut). By AI agents, Wed Nov 11 2026. No macro, syntax, notation, axiom, sorry.
-/
import Derived.Test.Qxb6615170aChecked
import GoSem.Claim
import GoSem.ClaimJoined
import GoSem.ClaimMapViews
import Derived.JoinedTies
import Derived.KernelRfl
namespace Go.Proofs.Qxb6615170a
/- THE CELL 'sum', in the pinned program and in every row, IS THE sha256 OF THE DUMP (.gsa) THAT Qxb6615170aProg.lean LOADS. Nothing in Lean hashes anything: it is a label: what it is worth is what the hold of that sum in a sandbox is worth. -/
noncomputable def Try.pinned : Pinned := { name := "qxb6615170a", sum := "669ba5e809adbcd0c00a86f9918a5d790e45e07bbcdb7fb397d963c4eb0b366f", checked := Try.checked }
namespace Rows
def none {H : Type} : Left H := { results := [], args := [] }

/-- 'zzlaws_internal_spool_b1.FnKnownWindowCountsDeclaredStates': WHATEVER THE INPUT: true; the input reads as it did. -/
def fnKnownWindowCountsDeclaredStatesSpec : ChangeSpec := { name := "fnKnownWindowCountsDeclaredStates", fn := fun _ => fun
  | [d] => { results := [.lit (.bool true)], args := [d] }
  | _ => none }
def fnKnownWindowCountsDeclaredStatesRow : OpenClaim := { program := "qxb6615170a", sum := "669ba5e809adbcd0c00a86f9918a5d790e45e07bbcdb7fb397d963c4eb0b366f", func := "example.com/heliograph/heliograph/zzlaws_internal_spool_b1.FnKnownWindowCountsDeclaredStates", spec := "fnKnownWindowCountsDeclaredStates", apart := false }
def FnKnownWindowCountsDeclaredStatesSaid : Prop := fnKnownWindowCountsDeclaredStatesRow.holds Try.pinned (OpenSpec.ofChange fnKnownWindowCountsDeclaredStatesSpec)

/-- ITS FALSE NEIGHBOUR: 'it returns false'. Refute it at one input. -/
def fnKnownWindowCountsDeclaredStatesWrong : ChangeSpec := { name := "fnKnownWindowCountsDeclaredStates", fn := fun _ => fun
  | [d] => { results := [.lit (.bool false)], args := [d] }
  | _ => none }
def FnKnownWindowCountsDeclaredStatesWrongFalsely : Prop := fnKnownWindowCountsDeclaredStatesRow.holds Try.pinned (OpenSpec.ofChange fnKnownWindowCountsDeclaredStatesWrong)

/-- 'zzlaws_internal_spool_b1.FnKnownShiftByStateCountNeverBoth': WHATEVER THE INPUT: true; the input reads as it did. -/
def fnKnownShiftByStateCountNeverBothSpec : ChangeSpec := { name := "fnKnownShiftByStateCountNeverBoth", fn := fun _ => fun
  | [d] => { results := [.lit (.bool true)], args := [d] }
  | _ => none }
def fnKnownShiftByStateCountNeverBothRow : OpenClaim := { program := "qxb6615170a", sum := "669ba5e809adbcd0c00a86f9918a5d790e45e07bbcdb7fb397d963c4eb0b366f", func := "example.com/heliograph/heliograph/zzlaws_internal_spool_b1.FnKnownShiftByStateCountNeverBoth", spec := "fnKnownShiftByStateCountNeverBoth", apart := false }
def FnKnownShiftByStateCountNeverBothSaid : Prop := fnKnownShiftByStateCountNeverBothRow.holds Try.pinned (OpenSpec.ofChange fnKnownShiftByStateCountNeverBothSpec)

/-- ITS FALSE NEIGHBOUR: 'it returns false'. Refute it at one input. -/
def fnKnownShiftByStateCountNeverBothWrong : ChangeSpec := { name := "fnKnownShiftByStateCountNeverBoth", fn := fun _ => fun
  | [d] => { results := [.lit (.bool false)], args := [d] }
  | _ => none }
def FnKnownShiftByStateCountNeverBothWrongFalsely : Prop := fnKnownShiftByStateCountNeverBothRow.holds Try.pinned (OpenSpec.ofChange fnKnownShiftByStateCountNeverBothWrong)

end Rows
end Go.Proofs.Qxb6615170a
