/-
  No cell of these rows narrows 'for every input' (looked for: loops, veiled, ifaces, maps, wideKeys, modest, calm, conditions, laid).
  DERIVED. THE GIVEN ROWS OF THIS SEAT. 2 by the template 'for every input the law returns true; each argument reads behind the call as it read before'; 0 by the template 'total and deterministic' (their statements: Qxb6628717aTotals.lean).
  GIVEN WITH THE SEED: the statements are not yours to turn. If you find one false, say at which input.
  Laid BY PROGRAM, IN A SANDBOX (cutbox-rows.mjs): the forced cells as the released guide's own fill.sh prints them over the translation 59332e49d7ede7ac… (all of the seat's roots in one cut). By AI agents, Wed Nov 11 2026. No macro, syntax, notation, axiom, sorry.
-/
import Derived.Test.Qxb6628717aChecked
import GoSem.Claim
import GoSem.ClaimJoined
import GoSem.ClaimMapViews
import Derived.JoinedTies
import Derived.KernelRfl
namespace Go.Proofs.Qxb6628717a
/- THE CELL 'sum', in the pinned program and in every row, IS THE sha256 OF THE DUMP (.gsa) THAT Qxb6628717aProg.lean LOADS. Nothing in Lean hashes anything: it is a label: what it is worth is what the hold of that sum in a sandbox is worth. -/
noncomputable def Try.pinned : Pinned := { name := "qxb6628717a", sum := "59332e49d7ede7acf9dbacc768f1fa92b481a233818abc277dc978d52ab04e55", checked := Try.checked }
namespace Rows
def none {H : Type} : Left H := { results := [], args := [] }

/-- 'zzlaws_root_b1.FnDecodeMatchesCanonicalCodeTable': WHATEVER THE INPUT: true; the input reads as it did. -/
def fnDecodeMatchesCanonicalCodeTableSpec : ChangeSpec := { name := "fnDecodeMatchesCanonicalCodeTable", fn := fun _ => fun
  | [d1, d2, d3, d4, d5] => { results := [.lit (.bool true)], args := [d1, d2, d3, d4, d5] }
  | _ => none }
def fnDecodeMatchesCanonicalCodeTableRow : OpenClaim := { program := "qxb6628717a", sum := "59332e49d7ede7acf9dbacc768f1fa92b481a233818abc277dc978d52ab04e55", func := "example.com/driftless/driftless/zzlaws_root_b1.FnDecodeMatchesCanonicalCodeTable", spec := "fnDecodeMatchesCanonicalCodeTable", apart := false }
def FnDecodeMatchesCanonicalCodeTableSaid : Prop := fnDecodeMatchesCanonicalCodeTableRow.holds Try.pinned (OpenSpec.ofChange fnDecodeMatchesCanonicalCodeTableSpec)

/-- ITS FALSE NEIGHBOUR: 'it returns false'. Refute it at one input. -/
def fnDecodeMatchesCanonicalCodeTableWrong : ChangeSpec := { name := "fnDecodeMatchesCanonicalCodeTable", fn := fun _ => fun
  | [d1, d2, d3, d4, d5] => { results := [.lit (.bool false)], args := [d1, d2, d3, d4, d5] }
  | _ => none }
def FnDecodeMatchesCanonicalCodeTableWrongFalsely : Prop := fnDecodeMatchesCanonicalCodeTableRow.holds Try.pinned (OpenSpec.ofChange fnDecodeMatchesCanonicalCodeTableWrong)

/-- 'zzlaws_root_b1.FnDecodeReadsPositionsNotValues': WHATEVER THE INPUT: true; the input reads as it did. -/
def fnDecodeReadsPositionsNotValuesSpec : ChangeSpec := { name := "fnDecodeReadsPositionsNotValues", fn := fun _ => fun
  | [d1, d2, d3, d4, d5] => { results := [.lit (.bool true)], args := [d1, d2, d3, d4, d5] }
  | _ => none }
def fnDecodeReadsPositionsNotValuesRow : OpenClaim := { program := "qxb6628717a", sum := "59332e49d7ede7acf9dbacc768f1fa92b481a233818abc277dc978d52ab04e55", func := "example.com/driftless/driftless/zzlaws_root_b1.FnDecodeReadsPositionsNotValues", spec := "fnDecodeReadsPositionsNotValues", apart := false }
def FnDecodeReadsPositionsNotValuesSaid : Prop := fnDecodeReadsPositionsNotValuesRow.holds Try.pinned (OpenSpec.ofChange fnDecodeReadsPositionsNotValuesSpec)

/-- ITS FALSE NEIGHBOUR: 'it returns false'. Refute it at one input. -/
def fnDecodeReadsPositionsNotValuesWrong : ChangeSpec := { name := "fnDecodeReadsPositionsNotValues", fn := fun _ => fun
  | [d1, d2, d3, d4, d5] => { results := [.lit (.bool false)], args := [d1, d2, d3, d4, d5] }
  | _ => none }
def FnDecodeReadsPositionsNotValuesWrongFalsely : Prop := fnDecodeReadsPositionsNotValuesRow.holds Try.pinned (OpenSpec.ofChange fnDecodeReadsPositionsNotValuesWrong)

end Rows
end Go.Proofs.Qxb6628717a
