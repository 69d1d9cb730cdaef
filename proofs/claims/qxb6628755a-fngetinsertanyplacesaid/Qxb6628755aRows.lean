/-
  No cell of these rows narrows 'for every input' (looked for: loops, veiled, ifaces, maps, wideKeys, modest, calm, conditions, laid).
  DERIVED. THE GIVEN ROWS OF THIS SEAT. 2 by the template 'for every input the law returns true; each argument reads behind the call as it read before'; 0 by the template 'total and deterministic' (their statements: Qxb6628755aTotals.lean).
  GIVEN WITH THE SEED: the statements are not yours to turn. If you find one false, say at which input.
  Laid BY PROGRAM, IN A SANDBOX (cutbox-rows.mjs): the forced cells as the released guide's own fill.sh prints them over the translation d2dfdaa44f46886a… (all of the seat's roots in one cut). By AI agents, Wed Nov 11 2026. No macro, syntax, notation, axiom, sorry.
-/
import Derived.Test.Qxb6628755aChecked
import GoSem.Claim
import GoSem.ClaimJoined
import GoSem.ClaimMapViews
import Derived.JoinedTies
import Derived.KernelRfl
namespace Go.Proofs.Qxb6628755a
/- THE CELL 'sum', in the pinned program and in every row, IS THE sha256 OF THE DUMP (.gsa) THAT Qxb6628755aProg.lean LOADS. Nothing in Lean hashes anything: it is a label: what it is worth is what the hold of that sum in a sandbox is worth. -/
noncomputable def Try.pinned : Pinned := { name := "qxb6628755a", sum := "d2dfdaa44f46886aff4a165213d95faa06e88d98bb97786685606335f56e7cba", checked := Try.checked }
namespace Rows
def none {H : Type} : Left H := { results := [], args := [] }

/-- 'zzlaws_fix_b1.FnGetConcatFirstWins': WHATEVER THE INPUT: true; the input reads as it did. -/
def fnGetConcatFirstWinsSpec : ChangeSpec := { name := "fnGetConcatFirstWins", fn := fun _ => fun
  | [d1, d2, d3, d4] => { results := [.lit (.bool true)], args := [d1, d2, d3, d4] }
  | _ => none }
def fnGetConcatFirstWinsRow : OpenClaim := { program := "qxb6628755a", sum := "d2dfdaa44f46886aff4a165213d95faa06e88d98bb97786685606335f56e7cba", func := "example.com/lockstep/lockstep/zzlaws_fix_b1.FnGetConcatFirstWins", spec := "fnGetConcatFirstWins", apart := false }
def FnGetConcatFirstWinsSaid : Prop := fnGetConcatFirstWinsRow.holds Try.pinned (OpenSpec.ofChange fnGetConcatFirstWinsSpec)

/-- ITS FALSE NEIGHBOUR: 'it returns false'. Refute it at one input. -/
def fnGetConcatFirstWinsWrong : ChangeSpec := { name := "fnGetConcatFirstWins", fn := fun _ => fun
  | [d1, d2, d3, d4] => { results := [.lit (.bool false)], args := [d1, d2, d3, d4] }
  | _ => none }
def FnGetConcatFirstWinsWrongFalsely : Prop := fnGetConcatFirstWinsRow.holds Try.pinned (OpenSpec.ofChange fnGetConcatFirstWinsWrong)

/-- 'zzlaws_fix_b1.FnGetInsertAnyPlace': WHATEVER THE INPUT: true; the input reads as it did. -/
def fnGetInsertAnyPlaceSpec : ChangeSpec := { name := "fnGetInsertAnyPlace", fn := fun _ => fun
  | [d1, d2, d3, d4] => { results := [.lit (.bool true)], args := [d1, d2, d3, d4] }
  | _ => none }
def fnGetInsertAnyPlaceRow : OpenClaim := { program := "qxb6628755a", sum := "d2dfdaa44f46886aff4a165213d95faa06e88d98bb97786685606335f56e7cba", func := "example.com/lockstep/lockstep/zzlaws_fix_b1.FnGetInsertAnyPlace", spec := "fnGetInsertAnyPlace", apart := false }
def FnGetInsertAnyPlaceSaid : Prop := fnGetInsertAnyPlaceRow.holds Try.pinned (OpenSpec.ofChange fnGetInsertAnyPlaceSpec)

/-- ITS FALSE NEIGHBOUR: 'it returns false'. Refute it at one input. -/
def fnGetInsertAnyPlaceWrong : ChangeSpec := { name := "fnGetInsertAnyPlace", fn := fun _ => fun
  | [d1, d2, d3, d4] => { results := [.lit (.bool false)], args := [d1, d2, d3, d4] }
  | _ => none }
def FnGetInsertAnyPlaceWrongFalsely : Prop := fnGetInsertAnyPlaceRow.holds Try.pinned (OpenSpec.ofChange fnGetInsertAnyPlaceWrong)

end Rows
end Go.Proofs.Qxb6628755a
