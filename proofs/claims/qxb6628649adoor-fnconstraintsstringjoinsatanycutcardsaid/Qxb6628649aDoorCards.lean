/-
  DERIVED. GIVEN WITH THE SEED: THE CARDS: each row of Qxb6628649aDoorRows.lean that lists a variable, with what it lists TIED to the program's text (the seventh form; the later family's looks); each row that meets fmt, with fmt's text TOLD by the authors' own Lean function (tested against real Go, not proved from fmt's source: count such statements apart). THE CARD IS WHAT COUNTS. Prove the row's statement (the work); the ties are given (Qxb6628649aDoorTie.lean); close each card by the builder's one call (the guide's Derived/Test/ToyasCard.lean, 'card_holds'). Laid BY PROGRAM, IN A SANDBOX (cutbox-door.mjs). By AI agents, Wed Nov 11 2026. No macro, syntax, notation, axiom, sorry.
-/
import Derived.Test.Qxb6628649aDoorRows
import GoSem.ClaimSeven
namespace Go.Proofs.Qxb6628649aDoor
namespace Rows

/-- THE TIED CARD OF 'zzlaws_version_b1.FnConstraintsStringJoinsAtAnyCut'. -/
def fnConstraintsStringJoinsAtAnyCutCard : Claim7 := { stood := { row := fnConstraintsStringJoinsAtAnyCutRow, standIns := [], harness := (true, "6e10cac38ce8de4414a57cbe4251dddcae450129354499e32109f980ceabec3e"), looks := false }, kinds := [], alts := [], laidByText := true, laidKinds := [.data, .data, .data], laidTests := true, laidLooks := .later }
def FnConstraintsStringJoinsAtAnyCutCardSaid : Prop := Claim7.holds Tryd.pinned (.plain (OpenSpec.ofChange fnConstraintsStringJoinsAtAnyCutSpec)) fnConstraintsStringJoinsAtAnyCutCard

/-- THE TIED CARD OF 'zzlaws_version_b1.FnConstraintsStringOperatorPrereleaseParts'. -/
def fnConstraintsStringOperatorPrereleasePartsCard : Claim7 := { stood := { row := fnConstraintsStringOperatorPrereleasePartsRow, standIns := [], harness := (true, "6e10cac38ce8de4414a57cbe4251dddcae450129354499e32109f980ceabec3e"), looks := false }, kinds := [], alts := [], laidByText := true, laidKinds := [.data, .data, .data], laidTests := true, laidLooks := .later }
def FnConstraintsStringOperatorPrereleasePartsCardSaid : Prop := Claim7.holds Tryd.pinned (.plain (OpenSpec.ofChange fnConstraintsStringOperatorPrereleasePartsSpec)) fnConstraintsStringOperatorPrereleasePartsCard
end Rows
end Go.Proofs.Qxb6628649aDoor
