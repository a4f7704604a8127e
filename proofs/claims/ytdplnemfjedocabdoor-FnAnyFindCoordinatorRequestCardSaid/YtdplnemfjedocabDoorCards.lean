/-
  DERIVED. GIVEN WITH THE SEED: THE CARDS: each row of YtdplnemfjedocabDoorRows.lean that lists a variable, with what it lists TIED to the program's text (the seventh form; the later family's looks); each row that meets fmt, with fmt's text TOLD by the authors' own Lean function (tested against real Go, not proved from fmt's source: count such statements apart). THE CARD IS WHAT COUNTS. Prove the row's statement (the work); the ties are given (YtdplnemfjedocabDoorTie.lean); close each card by the builder's one call (the guide's Derived/Test/ToyasCard.lean, 'card_holds'). Laid BY PROGRAM, IN A SANDBOX (cutbox-door.mjs). By AI agents, Wed Nov 11 2026. No macro, syntax, notation, axiom, sorry.
-/
import Derived.Test.YtdplnemfjedocabDoorRows
import GoSem.ClaimSeven
namespace Go.Proofs.YtdplnemfjedocabDoor
namespace Rows

/-- THE TIED CARD OF 'laws.FnAnyFindCoordinatorRequest'. -/
def fnAnyFindCoordinatorRequestCard : Claim7 := { stood := { row := fnAnyFindCoordinatorRequestRow, standIns := [], harness := (true, "4488709f8dd1e3dc7e9b077b42c3916c288919964ef6df10eb3eb0737fe90600"), looks := false }, kinds := [], alts := [], laidByText := true, laidKinds := [.sentinel], laidTests := true, laidLooks := .later }
def FnAnyFindCoordinatorRequestCardSaid : Prop := Claim7.holds Tryd.pinned (.plain (OpenSpec.ofChange fnAnyFindCoordinatorRequestSpec)) fnAnyFindCoordinatorRequestCard

/-- THE SECOND FORM's CARD OF 'laws.FnAnyFindCoordinatorRequest'. -/
def fnAnyFindCoordinatorRequestUptoCard : Claim7 := { stood := { row := fnAnyFindCoordinatorRequestUptoRow, standIns := [], harness := (true, "4488709f8dd1e3dc7e9b077b42c3916c288919964ef6df10eb3eb0737fe90600"), looks := false }, kinds := [], alts := [], laidByText := true, laidKinds := [.sentinel], laidTests := true, laidLooks := .later }
def FnAnyFindCoordinatorRequestUptoCardSaid : Prop := Claim7.holds Tryd.pinned (.plain (OpenSpec.upto fnAnyFindCoordinatorRequestSpec)) fnAnyFindCoordinatorRequestUptoCard
end Rows
end Go.Proofs.YtdplnemfjedocabDoor
