/-
  DERIVED. GIVEN WITH THE SEED: THE CARDS: each row of Qxb6602971aDoorRows.lean that lists a variable, with what it lists TIED to the program's text (the seventh form; the later family's looks); each row that meets fmt, with fmt's text TOLD by the authors' own Lean function (tested against real Go, not proved from fmt's source: count such statements apart). THE CARD IS WHAT COUNTS. Prove the row's statement (the work); the ties are given (Qxb6602971aDoorTie.lean); close each card by the builder's one call (the guide's Derived/Test/ToyasCard.lean, 'card_holds'). Laid BY PROGRAM, IN A SANDBOX (cutbox-door.mjs). By AI agents, Wed Nov 11 2026. No macro, syntax, notation, axiom, sorry.
-/
import Derived.Test.Qxb6602971aDoorRows
import GoSem.ClaimSeven
namespace Go.Proofs.Qxb6602971aDoor
namespace Rows

/-- THE TIED CARD OF 'zzlaws_root_b1.FnStateStringInjective'. -/
def fnStateStringInjectiveCard : Claim7 := { stood := { row := fnStateStringInjectiveRow, standIns := [], harness := (true, "172ad537cd5f3d137d80f0889deddf6b04b442c30b0d67c79a8df89cf50d8c5f"), looks := false }, kinds := [], alts := [], laidByText := true, laidKinds := [.data, .data, .data], laidTests := true, laidLooks := .later }
def FnStateStringInjectiveCardSaid : Prop := Claim7.holds Tryd.pinned (.plain (OpenSpec.ofChange fnStateStringInjectiveSpec)) fnStateStringInjectiveCard

/-- THE TIED CARD OF 'zzlaws_root_b1.FnPhaseStatePrintsAsAName'. -/
def fnPhaseStatePrintsAsANameCard : Claim7 := { stood := { row := fnPhaseStatePrintsAsANameRow, standIns := [], harness := (true, "172ad537cd5f3d137d80f0889deddf6b04b442c30b0d67c79a8df89cf50d8c5f"), looks := false }, kinds := [], alts := [], laidByText := true, laidKinds := [.data, .data, .data], laidTests := true, laidLooks := .later }
def FnPhaseStatePrintsAsANameCardSaid : Prop := Claim7.holds Tryd.pinned (.plain (OpenSpec.ofChange fnPhaseStatePrintsAsANameSpec)) fnPhaseStatePrintsAsANameCard
end Rows
end Go.Proofs.Qxb6602971aDoor
