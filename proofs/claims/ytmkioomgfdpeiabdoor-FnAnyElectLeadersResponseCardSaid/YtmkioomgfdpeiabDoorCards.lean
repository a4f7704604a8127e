/-
  DERIVED. GIVEN WITH THE SEED: THE CARDS: each row of YtmkioomgfdpeiabDoorRows.lean that lists a variable, with what it lists TIED to the program's text (the seventh form; the later family's looks); each row that meets fmt, with fmt's text TOLD by the authors' own Lean function (tested against real Go, not proved from fmt's source: count such statements apart). THE CARD IS WHAT COUNTS. Prove the row's statement (the work); the ties are given (YtmkioomgfdpeiabDoorTie.lean); close each card by the builder's one call (the guide's Derived/Test/ToyasCard.lean, 'card_holds'). Laid BY PROGRAM, IN A SANDBOX (cutbox-door.mjs). By AI agents, Wed Nov 11 2026. No macro, syntax, notation, axiom, sorry.
-/
import Derived.Test.YtmkioomgfdpeiabDoorRows
import GoSem.ClaimSeven
namespace Go.Proofs.YtmkioomgfdpeiabDoor
namespace Rows

/-- THE TIED CARD OF 'laws.FnAnyUpdateFeaturesRequest'. -/
def fnAnyUpdateFeaturesRequestCard : Claim7 := { stood := { row := fnAnyUpdateFeaturesRequestRow, standIns := [], harness := (true, "40cad178f2e7efbe12fb4b925798f50c73155ed0e7cc95f31d6e66ca599539ff"), looks := false }, kinds := [], alts := [], laidByText := true, laidKinds := [.sentinel], laidTests := true, laidLooks := .later }
def FnAnyUpdateFeaturesRequestCardSaid : Prop := Claim7.holds Tryd.pinned (.plain (OpenSpec.ofChange fnAnyUpdateFeaturesRequestSpec)) fnAnyUpdateFeaturesRequestCard

/-- THE TIED CARD OF 'laws.FnAnyListTransactionsRequest'. -/
def fnAnyListTransactionsRequestCard : Claim7 := { stood := { row := fnAnyListTransactionsRequestRow, standIns := [], harness := (true, "40cad178f2e7efbe12fb4b925798f50c73155ed0e7cc95f31d6e66ca599539ff"), looks := false }, kinds := [], alts := [], laidByText := true, laidKinds := [.sentinel], laidTests := true, laidLooks := .later }
def FnAnyListTransactionsRequestCardSaid : Prop := Claim7.holds Tryd.pinned (.plain (OpenSpec.ofChange fnAnyListTransactionsRequestSpec)) fnAnyListTransactionsRequestCard

/-- THE TIED CARD OF 'laws.FnAnyElectLeadersResponse'. -/
def fnAnyElectLeadersResponseCard : Claim7 := { stood := { row := fnAnyElectLeadersResponseRow, standIns := [], harness := (true, "40cad178f2e7efbe12fb4b925798f50c73155ed0e7cc95f31d6e66ca599539ff"), looks := false }, kinds := [], alts := [], laidByText := true, laidKinds := [.sentinel], laidTests := true, laidLooks := .later }
def FnAnyElectLeadersResponseCardSaid : Prop := Claim7.holds Tryd.pinned (.plain (OpenSpec.ofChange fnAnyElectLeadersResponseSpec)) fnAnyElectLeadersResponseCard

/-- THE SECOND FORM's CARD OF 'laws.FnAnyUpdateFeaturesRequest'. -/
def fnAnyUpdateFeaturesRequestUptoCard : Claim7 := { stood := { row := fnAnyUpdateFeaturesRequestUptoRow, standIns := [], harness := (true, "40cad178f2e7efbe12fb4b925798f50c73155ed0e7cc95f31d6e66ca599539ff"), looks := false }, kinds := [], alts := [], laidByText := true, laidKinds := [.sentinel], laidTests := true, laidLooks := .later }
def FnAnyUpdateFeaturesRequestUptoCardSaid : Prop := Claim7.holds Tryd.pinned (.plain (OpenSpec.upto fnAnyUpdateFeaturesRequestSpec)) fnAnyUpdateFeaturesRequestUptoCard

/-- THE SECOND FORM's CARD OF 'laws.FnAnyListTransactionsRequest'. -/
def fnAnyListTransactionsRequestUptoCard : Claim7 := { stood := { row := fnAnyListTransactionsRequestUptoRow, standIns := [], harness := (true, "40cad178f2e7efbe12fb4b925798f50c73155ed0e7cc95f31d6e66ca599539ff"), looks := false }, kinds := [], alts := [], laidByText := true, laidKinds := [.sentinel], laidTests := true, laidLooks := .later }
def FnAnyListTransactionsRequestUptoCardSaid : Prop := Claim7.holds Tryd.pinned (.plain (OpenSpec.upto fnAnyListTransactionsRequestSpec)) fnAnyListTransactionsRequestUptoCard

/-- THE SECOND FORM's CARD OF 'laws.FnAnyElectLeadersResponse'. -/
def fnAnyElectLeadersResponseUptoCard : Claim7 := { stood := { row := fnAnyElectLeadersResponseUptoRow, standIns := [], harness := (true, "40cad178f2e7efbe12fb4b925798f50c73155ed0e7cc95f31d6e66ca599539ff"), looks := false }, kinds := [], alts := [], laidByText := true, laidKinds := [.sentinel], laidTests := true, laidLooks := .later }
def FnAnyElectLeadersResponseUptoCardSaid : Prop := Claim7.holds Tryd.pinned (.plain (OpenSpec.upto fnAnyElectLeadersResponseSpec)) fnAnyElectLeadersResponseUptoCard
end Rows
end Go.Proofs.YtmkioomgfdpeiabDoor
