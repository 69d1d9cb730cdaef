/-
  No cell of these rows narrows 'for every input' (looked for: loops, veiled, ifaces, maps, wideKeys, modest, calm, conditions, laid).
  DERIVED. THE GIVEN ROWS OF THIS SEAT. 2 by the template 'for every input the law returns true; each argument reads behind the call as it read before'; 0 by the template 'total and deterministic' (their statements: Qxb6628675aTotals.lean).
  GIVEN WITH THE SEED: the statements are not yours to turn. If you find one false, say at which input.
  Laid BY PROGRAM, IN A SANDBOX (cutbox-rows.mjs): the forced cells as the released guide's own fill.sh prints them over the translation 928d52e5156f3ee9… (all of the seat's roots in one cut). By AI agents, Wed Nov 11 2026. No macro, syntax, notation, axiom, sorry.
-/
import Derived.Test.Qxb6628675aChecked
import GoSem.Claim
import GoSem.ClaimJoined
import GoSem.ClaimMapViews
import Derived.JoinedTies
import Derived.KernelRfl
namespace Go.Proofs.Qxb6628675a
/- THE CELL 'sum', in the pinned program and in every row, IS THE sha256 OF THE DUMP (.gsa) THAT Qxb6628675aProg.lean LOADS. Nothing in Lean hashes anything: it is a label: what it is worth is what the hold of that sum in a sandbox is worth. -/
noncomputable def Try.pinned : Pinned := { name := "qxb6628675a", sum := "928d52e5156f3ee9f5d36373c64d9ef9ed996f5af71b0a7956f19a221e155a16", checked := Try.checked }
namespace Rows
def none {H : Type} : Left H := { results := [], args := [] }

/-- 'zzlaws_ratelimit_b1.FnTakeBurstAdmitsExactlyTheRoomLeft': WHATEVER THE INPUT: true; the input reads as it did. -/
def fnTakeBurstAdmitsExactlyTheRoomLeftSpec : ChangeSpec := { name := "fnTakeBurstAdmitsExactlyTheRoomLeft", fn := fun _ => fun
  | [d1, d2, d3, d4, d5, d6, d7, d8, d9] => { results := [.lit (.bool true)], args := [d1, d2, d3, d4, d5, d6, d7, d8, d9] }
  | _ => none }
def fnTakeBurstAdmitsExactlyTheRoomLeftRow : OpenClaim := { program := "qxb6628675a", sum := "928d52e5156f3ee9f5d36373c64d9ef9ed996f5af71b0a7956f19a221e155a16", func := "portcullis.example/portcullis/zzlaws_ratelimit_b1.FnTakeBurstAdmitsExactlyTheRoomLeft", spec := "fnTakeBurstAdmitsExactlyTheRoomLeft", named := ["math/bits.divideError", "math/bits.overflowError"], apart := false }
def FnTakeBurstAdmitsExactlyTheRoomLeftSaid : Prop := fnTakeBurstAdmitsExactlyTheRoomLeftRow.holds Try.pinned (OpenSpec.ofChange fnTakeBurstAdmitsExactlyTheRoomLeftSpec)

/-- ITS FALSE NEIGHBOUR: 'it returns false'. Refute it at one input. -/
def fnTakeBurstAdmitsExactlyTheRoomLeftWrong : ChangeSpec := { name := "fnTakeBurstAdmitsExactlyTheRoomLeft", fn := fun _ => fun
  | [d1, d2, d3, d4, d5, d6, d7, d8, d9] => { results := [.lit (.bool false)], args := [d1, d2, d3, d4, d5, d6, d7, d8, d9] }
  | _ => none }
def FnTakeBurstAdmitsExactlyTheRoomLeftWrongFalsely : Prop := fnTakeBurstAdmitsExactlyTheRoomLeftRow.holds Try.pinned (OpenSpec.ofChange fnTakeBurstAdmitsExactlyTheRoomLeftWrong)

/-- 'zzlaws_ratelimit_b1.FnTakeRefusalLeavesNoTrace': WHATEVER THE INPUT: true; the input reads as it did. -/
def fnTakeRefusalLeavesNoTraceSpec : ChangeSpec := { name := "fnTakeRefusalLeavesNoTrace", fn := fun _ => fun
  | [d1, d2, d3, d4, d5, d6, d7, d8, d9, d10, d11, d12] => { results := [.lit (.bool true)], args := [d1, d2, d3, d4, d5, d6, d7, d8, d9, d10, d11, d12] }
  | _ => none }
def fnTakeRefusalLeavesNoTraceRow : OpenClaim := { program := "qxb6628675a", sum := "928d52e5156f3ee9f5d36373c64d9ef9ed996f5af71b0a7956f19a221e155a16", func := "portcullis.example/portcullis/zzlaws_ratelimit_b1.FnTakeRefusalLeavesNoTrace", spec := "fnTakeRefusalLeavesNoTrace", named := ["math/bits.divideError", "math/bits.overflowError"], apart := false }
def FnTakeRefusalLeavesNoTraceSaid : Prop := fnTakeRefusalLeavesNoTraceRow.holds Try.pinned (OpenSpec.ofChange fnTakeRefusalLeavesNoTraceSpec)

/-- ITS FALSE NEIGHBOUR: 'it returns false'. Refute it at one input. -/
def fnTakeRefusalLeavesNoTraceWrong : ChangeSpec := { name := "fnTakeRefusalLeavesNoTrace", fn := fun _ => fun
  | [d1, d2, d3, d4, d5, d6, d7, d8, d9, d10, d11, d12] => { results := [.lit (.bool false)], args := [d1, d2, d3, d4, d5, d6, d7, d8, d9, d10, d11, d12] }
  | _ => none }
def FnTakeRefusalLeavesNoTraceWrongFalsely : Prop := fnTakeRefusalLeavesNoTraceRow.holds Try.pinned (OpenSpec.ofChange fnTakeRefusalLeavesNoTraceWrong)

end Rows
end Go.Proofs.Qxb6628675a
