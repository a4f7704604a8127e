/-
  DERIVED. GIVEN WITH THE SEED: THE CARDS: each row of YtnpdpnmomihkkaaGreatDoorRows.lean that lists a variable, with what it lists TIED to the program's text (the seventh form; the later family's looks); each row that meets fmt, with fmt's text TOLD by the authors' own Lean function (tested against real Go, not proved from fmt's source: count such statements apart). THE CARD IS WHAT COUNTS. Prove the row's statement (the work); the ties are given (YtnpdpnmomihkkaaGreatDoorTie.lean); close each card by the builder's one call (the guide's Derived/Test/ToyasCard.lean, 'card_holds'). Laid BY PROGRAM, IN A SANDBOX (cutbox-door.mjs). By AI agents, Wed Nov 11 2026. No macro, syntax, notation, axiom, sorry.
-/
import Derived.Test.YtnpdpnmomihkkaaGreatDoorRows
import GoSem.ClaimSeven
namespace Go.Proofs.YtnpdpnmomihkkaaGreatDoor
namespace Rows

/-- THE TIED CARD OF 'laws.FnCutFetchRequest'. -/
def fnCutFetchRequestCard : Claim7 := { stood := { row := fnCutFetchRequestRow, standIns := [], harness := (true, "0ab0ff97ebf2496fabcd8af85921b9b3570eac3528edcb9551633940dd90cbd0"), looks := false }, kinds := [], alts := [], laidByText := true, laidKinds := [.sentinel], laidTests := true, laidLooks := .later }
def FnCutFetchRequestCardSaid : Prop := Claim7.holds Tryz.pinned (.plain (OpenSpec.ofChange fnCutFetchRequestSpec)) fnCutFetchRequestCard

/-- THE SECOND FORM's CARD OF 'laws.FnCutFetchRequest'. -/
def fnCutFetchRequestUptoCard : Claim7 := { stood := { row := fnCutFetchRequestUptoRow, standIns := [], harness := (true, "0ab0ff97ebf2496fabcd8af85921b9b3570eac3528edcb9551633940dd90cbd0"), looks := false }, kinds := [], alts := [], laidByText := true, laidKinds := [.sentinel], laidTests := true, laidLooks := .later }
def FnCutFetchRequestUptoCardSaid : Prop := Claim7.holds Tryz.pinned (.plain (OpenSpec.upto fnCutFetchRequestSpec)) fnCutFetchRequestUptoCard
end Rows
end Go.Proofs.YtnpdpnmomihkkaaGreatDoor
