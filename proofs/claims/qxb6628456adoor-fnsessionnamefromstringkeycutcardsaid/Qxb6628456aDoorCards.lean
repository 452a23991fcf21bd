/-
  DERIVED. GIVEN WITH THE SEED: THE CARDS: each row of Qxb6628456aDoorRows.lean that lists a variable, with what it lists TIED to the program's text (the seventh form; the later family's looks); each row that meets fmt, with fmt's text TOLD by the authors' own Lean function (tested against real Go, not proved from fmt's source: count such statements apart). THE CARD IS WHAT COUNTS. Prove the row's statement (the work); the ties are given (Qxb6628456aDoorTie.lean); close each card by the builder's one call (the guide's Derived/Test/ToyasCard.lean, 'card_holds'). Laid BY PROGRAM, IN A SANDBOX (cutbox-door.mjs). By AI agents, Wed Nov 11 2026. No macro, syntax, notation, axiom, sorry.
-/
import Derived.Test.Qxb6628456aDoorRows
import GoSem.ClaimSeven
namespace Go.Proofs.Qxb6628456aDoor
namespace Rows

/-- THE TIED CARD OF 'zzlaws_pkg_docker_b1.FnSessionNameFromStringKeyCut'. -/
def fnSessionNameFromStringKeyCutCard : Claim7 := { stood := { row := fnSessionNameFromStringKeyCutRow, standIns := [], harness := (true, "9b3aaea2703bda0300e75944f15c4268da186aa2b6165ba8887b16e7e8719e6b"), looks := false }, kinds := [], alts := [], laidByText := true, laidKinds := [.data, .data, .data], laidTests := true, laidLooks := .later }
def FnSessionNameFromStringKeyCutCardSaid : Prop := Claim7.holds Tryd.pinned (.plain (OpenSpec.ofChange fnSessionNameFromStringKeyCutSpec)) fnSessionNameFromStringKeyCutCard

/-- THE TIED CARD OF 'zzlaws_pkg_docker_b1.FnSessionNameFromStringInjective'. -/
def fnSessionNameFromStringInjectiveCard : Claim7 := { stood := { row := fnSessionNameFromStringInjectiveRow, standIns := [], harness := (true, "9b3aaea2703bda0300e75944f15c4268da186aa2b6165ba8887b16e7e8719e6b"), looks := false }, kinds := [], alts := [], laidByText := true, laidKinds := [.data, .data, .data], laidTests := true, laidLooks := .later }
def FnSessionNameFromStringInjectiveCardSaid : Prop := Claim7.holds Tryd.pinned (.plain (OpenSpec.ofChange fnSessionNameFromStringInjectiveSpec)) fnSessionNameFromStringInjectiveCard
end Rows
end Go.Proofs.Qxb6628456aDoor
