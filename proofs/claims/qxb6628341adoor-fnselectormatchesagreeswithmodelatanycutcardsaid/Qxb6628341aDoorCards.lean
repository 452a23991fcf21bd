/-
  DERIVED. GIVEN WITH THE SEED: THE CARDS: each row of Qxb6628341aDoorRows.lean that lists a variable, with what it lists TIED to the program's text (the seventh form; the later family's looks); each row that meets fmt, with fmt's text TOLD by the authors' own Lean function (tested against real Go, not proved from fmt's source: count such statements apart). THE CARD IS WHAT COUNTS. Prove the row's statement (the work); the ties are given (Qxb6628341aDoorTie.lean); close each card by the builder's one call (the guide's Derived/Test/ToyasCard.lean, 'card_holds'). Laid BY PROGRAM, IN A SANDBOX (cutbox-door.mjs). By AI agents, Wed Nov 11 2026. No macro, syntax, notation, axiom, sorry.
-/
import Derived.Test.Qxb6628341aDoorRows
import GoSem.ClaimSeven
namespace Go.Proofs.Qxb6628341aDoor
namespace Rows

/-- THE TIED CARD OF 'zzlaws_pkg_labels_b1.FnSelectorMatchesAgreesWithModelAtAnyCut'. -/
def fnSelectorMatchesAgreesWithModelAtAnyCutCard : Claim7 := { stood := { row := fnSelectorMatchesAgreesWithModelAtAnyCutRow, standIns := [], harness := (true, "ef9e5acdc04fd37a09311fa0fc5864008316062d9e7544f6dca4da8210d17d0d"), looks := true }, kinds := [], alts := [], laidByText := true, laidKinds := [.data, .data, .data, .sentinel, .sentinel], laidTests := true, laidLooks := .later }
def FnSelectorMatchesAgreesWithModelAtAnyCutCardSaid : Prop := Claim7.holds Tryd.pinned (.plain (OpenSpec.ofChange fnSelectorMatchesAgreesWithModelAtAnyCutSpec)) fnSelectorMatchesAgreesWithModelAtAnyCutCard

/-- THE TIED CARD OF 'zzlaws_pkg_labels_b1.FnSelectorMatchesOneMoreRequirement'. -/
def fnSelectorMatchesOneMoreRequirementCard : Claim7 := { stood := { row := fnSelectorMatchesOneMoreRequirementRow, standIns := [], harness := (true, "ef9e5acdc04fd37a09311fa0fc5864008316062d9e7544f6dca4da8210d17d0d"), looks := true }, kinds := [], alts := [], laidByText := true, laidKinds := [.data, .data, .data, .sentinel, .sentinel], laidTests := true, laidLooks := .later }
def FnSelectorMatchesOneMoreRequirementCardSaid : Prop := Claim7.holds Tryd.pinned (.plain (OpenSpec.ofChange fnSelectorMatchesOneMoreRequirementSpec)) fnSelectorMatchesOneMoreRequirementCard
end Rows
end Go.Proofs.Qxb6628341aDoor
