/-
  No cell of these rows narrows 'for every input' (looked for: loops, veiled, ifaces, maps, wideKeys, modest, calm, conditions, laid).
  DERIVED. THE GIVEN ROWS OF THIS SEAT. 3 by the template 'for every input the law returns true; each argument reads behind the call as it read before'; 0 by the template 'total and deterministic' (their statements: Qxb6615210aTotals.lean).
  GIVEN WITH THE SEED: the statements are not yours to turn. If you find one false, say at which input.
  Laid BY PROGRAM, IN A SANDBOX (cutbox-rows.mjs): the forced cells as the released guide's own fill.sh prints them over the translation ff013632ed243f91… (all of the seat's roots in one cut). By AI agents, Wed Nov 11 2026. No macro, syntax, notation, axiom, sorry.
-/
import Derived.Test.Qxb6615210aChecked
import GoSem.Claim
import GoSem.ClaimJoined
import GoSem.ClaimMapViews
import Derived.JoinedTies
import Derived.KernelRfl
namespace Go.Proofs.Qxb6615210a
/- THE CELL 'sum', in the pinned program and in every row, IS THE sha256 OF THE DUMP (.gsa) THAT Qxb6615210aProg.lean LOADS. Nothing in Lean hashes anything: it is a label: what it is worth is what the hold of that sum in a sandbox is worth. -/
noncomputable def Try.pinned : Pinned := { name := "qxb6615210a", sum := "ff013632ed243f919c5a6a2e45a0181fb353baa02b0039ad0abdd6a65a058b67", checked := Try.checked }
namespace Rows
def none {H : Type} : Left H := { results := [], args := [] }

/-- 'zzlaws_internal_meter_b1.FnSingletonAgainstFirstNode': WHATEVER THE INPUT: true; the input reads as it did. -/
def fnSingletonAgainstFirstNodeSpec : ChangeSpec := { name := "fnSingletonAgainstFirstNode", fn := fun _ => fun
  | [d1, d2, d3, d4, d5, d6, d7, d8, d9, d10, d11, d12] => { results := [.lit (.bool true)], args := [d1, d2, d3, d4, d5, d6, d7, d8, d9, d10, d11, d12] }
  | _ => none }
def fnSingletonAgainstFirstNodeRow : OpenClaim := { program := "qxb6615210a", sum := "ff013632ed243f919c5a6a2e45a0181fb353baa02b0039ad0abdd6a65a058b67", func := "example.com/pathgauge/pathgauge/zzlaws_internal_meter_b1.FnSingletonAgainstFirstNode", spec := "fnSingletonAgainstFirstNode", plainKeys := false, apart := false }
def FnSingletonAgainstFirstNodeSaid : Prop := fnSingletonAgainstFirstNodeRow.holds Try.pinned (OpenSpec.ofChange fnSingletonAgainstFirstNodeSpec)

/-- ITS FALSE NEIGHBOUR: 'it returns false'. Refute it at one input. -/
def fnSingletonAgainstFirstNodeWrong : ChangeSpec := { name := "fnSingletonAgainstFirstNode", fn := fun _ => fun
  | [d1, d2, d3, d4, d5, d6, d7, d8, d9, d10, d11, d12] => { results := [.lit (.bool false)], args := [d1, d2, d3, d4, d5, d6, d7, d8, d9, d10, d11, d12] }
  | _ => none }
def FnSingletonAgainstFirstNodeWrongFalsely : Prop := fnSingletonAgainstFirstNodeRow.holds Try.pinned (OpenSpec.ofChange fnSingletonAgainstFirstNodeWrong)

/-- 'zzlaws_internal_meter_b1.FnKeptCountsWholeMicroseconds': WHATEVER THE INPUT: true; the input reads as it did. -/
def fnKeptCountsWholeMicrosecondsSpec : ChangeSpec := { name := "fnKeptCountsWholeMicroseconds", fn := fun _ => fun
  | [d1, d2] => { results := [.lit (.bool true)], args := [d1, d2] }
  | _ => none }
def fnKeptCountsWholeMicrosecondsRow : OpenClaim := { program := "qxb6615210a", sum := "ff013632ed243f919c5a6a2e45a0181fb353baa02b0039ad0abdd6a65a058b67", func := "example.com/pathgauge/pathgauge/zzlaws_internal_meter_b1.FnKeptCountsWholeMicroseconds", spec := "fnKeptCountsWholeMicroseconds", plainKeys := false, apart := false }
def FnKeptCountsWholeMicrosecondsSaid : Prop := fnKeptCountsWholeMicrosecondsRow.holds Try.pinned (OpenSpec.ofChange fnKeptCountsWholeMicrosecondsSpec)

/-- ITS FALSE NEIGHBOUR: 'it returns false'. Refute it at one input. -/
def fnKeptCountsWholeMicrosecondsWrong : ChangeSpec := { name := "fnKeptCountsWholeMicroseconds", fn := fun _ => fun
  | [d1, d2] => { results := [.lit (.bool false)], args := [d1, d2] }
  | _ => none }
def FnKeptCountsWholeMicrosecondsWrongFalsely : Prop := fnKeptCountsWholeMicrosecondsRow.holds Try.pinned (OpenSpec.ofChange fnKeptCountsWholeMicrosecondsWrong)

/-- 'zzlaws_internal_meter_b1.FnKeptOrdersAndAdmitsExactly': WHATEVER THE INPUT: true; the input reads as it did. -/
def fnKeptOrdersAndAdmitsExactlySpec : ChangeSpec := { name := "fnKeptOrdersAndAdmitsExactly", fn := fun _ => fun
  | [d1, d2, d3] => { results := [.lit (.bool true)], args := [d1, d2, d3] }
  | _ => none }
def fnKeptOrdersAndAdmitsExactlyRow : OpenClaim := { program := "qxb6615210a", sum := "ff013632ed243f919c5a6a2e45a0181fb353baa02b0039ad0abdd6a65a058b67", func := "example.com/pathgauge/pathgauge/zzlaws_internal_meter_b1.FnKeptOrdersAndAdmitsExactly", spec := "fnKeptOrdersAndAdmitsExactly", plainKeys := false, apart := false }
def FnKeptOrdersAndAdmitsExactlySaid : Prop := fnKeptOrdersAndAdmitsExactlyRow.holds Try.pinned (OpenSpec.ofChange fnKeptOrdersAndAdmitsExactlySpec)

/-- ITS FALSE NEIGHBOUR: 'it returns false'. Refute it at one input. -/
def fnKeptOrdersAndAdmitsExactlyWrong : ChangeSpec := { name := "fnKeptOrdersAndAdmitsExactly", fn := fun _ => fun
  | [d1, d2, d3] => { results := [.lit (.bool false)], args := [d1, d2, d3] }
  | _ => none }
def FnKeptOrdersAndAdmitsExactlyWrongFalsely : Prop := fnKeptOrdersAndAdmitsExactlyRow.holds Try.pinned (OpenSpec.ofChange fnKeptOrdersAndAdmitsExactlyWrong)

end Rows
end Go.Proofs.Qxb6615210a
