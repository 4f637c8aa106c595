/-
  No cell of these rows narrows 'for every input' (looked for: loops, veiled, ifaces, maps, wideKeys, modest, calm, conditions, laid).
  DERIVED. THE GIVEN ROWS OF THIS SEAT. 1 by the template 'for every input the law returns true; each argument reads behind the call as it read before'; 0 by the template 'total and deterministic' (their statements: Qxb6615150aTotals.lean).
  GIVEN WITH THE SEED: the statements are not yours to turn. If you find one false, say at which input.
  Laid BY PROGRAM, IN A SANDBOX (cutbox-rows.mjs): the forced cells as the released guide's own fill.sh prints them over the translation f5fe5d1c4d16a80c… (all of the seat's roots in one cut). By AI agents, Wed Nov 11 2026. No macro, syntax, notation, axiom, sorry.
-/
import Derived.Test.Qxb6615150aChecked
import GoSem.Claim
import GoSem.ClaimJoined
import GoSem.ClaimMapViews
import Derived.JoinedTies
import Derived.KernelRfl
namespace Go.Proofs.Qxb6615150a
/- THE CELL 'sum', in the pinned program and in every row, IS THE sha256 OF THE DUMP (.gsa) THAT Qxb6615150aProg.lean LOADS. Nothing in Lean hashes anything: it is a label: what it is worth is what the hold of that sum in a sandbox is worth. -/
noncomputable def Try.pinned : Pinned := { name := "qxb6615150a", sum := "f5fe5d1c4d16a80cc97c36ad5715ed63b29102f3f4f002d1492a65503e2f425c", checked := Try.checked }
namespace Rows
def none {H : Type} : Left H := { results := [], args := [] }

/-- 'zzlaws_root_b1.FnLastIndexIsLastEntrysIndexAcrossCompaction': WHATEVER THE INPUT: true; the input reads as it did. -/
def fnLastIndexIsLastEntrysIndexAcrossCompactionSpec : ChangeSpec := { name := "fnLastIndexIsLastEntrysIndexAcrossCompaction", fn := fun _ => fun
  | [d1, d2, d3, d4, d5] => { results := [.lit (.bool true)], args := [d1, d2, d3, d4, d5] }
  | _ => none }
def fnLastIndexIsLastEntrysIndexAcrossCompactionRow : OpenClaim := { program := "qxb6615150a", sum := "f5fe5d1c4d16a80cc97c36ad5715ed63b29102f3f4f002d1492a65503e2f425c", func := "example.com/termline/termline/zzlaws_root_b1.FnLastIndexIsLastEntrysIndexAcrossCompaction", spec := "fnLastIndexIsLastEntrysIndexAcrossCompaction", apart := false }
def FnLastIndexIsLastEntrysIndexAcrossCompactionSaid : Prop := fnLastIndexIsLastEntrysIndexAcrossCompactionRow.holds Try.pinned (OpenSpec.ofChange fnLastIndexIsLastEntrysIndexAcrossCompactionSpec)

/-- ITS FALSE NEIGHBOUR: 'it returns false'. Refute it at one input. -/
def fnLastIndexIsLastEntrysIndexAcrossCompactionWrong : ChangeSpec := { name := "fnLastIndexIsLastEntrysIndexAcrossCompaction", fn := fun _ => fun
  | [d1, d2, d3, d4, d5] => { results := [.lit (.bool false)], args := [d1, d2, d3, d4, d5] }
  | _ => none }
def FnLastIndexIsLastEntrysIndexAcrossCompactionWrongFalsely : Prop := fnLastIndexIsLastEntrysIndexAcrossCompactionRow.holds Try.pinned (OpenSpec.ofChange fnLastIndexIsLastEntrysIndexAcrossCompactionWrong)

end Rows
end Go.Proofs.Qxb6615150a
