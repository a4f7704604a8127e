/-
  DERIVED. GIVEN WITH THE SEED: THE CARDS: each row of YtlmanancakaapaaGreatDoorRows.lean that lists a variable, with what it lists TIED to the program's text (the seventh form; the later family's looks); each row that meets fmt, with fmt's text TOLD by the authors' own Lean function (tested against real Go, not proved from fmt's source: count such statements apart). THE CARD IS WHAT COUNTS. Prove the row's statement (the work); the ties are given (YtlmanancakaapaaGreatDoorTie.lean); close each card by the builder's one call (the guide's Derived/Test/ToyasCard.lean, 'card_holds'). Laid BY PROGRAM, IN A SANDBOX (cutbox-door.mjs). By AI agents, Wed Nov 11 2026. No macro, syntax, notation, axiom, sorry.
-/
import Derived.Test.YtlmanancakaapaaGreatDoorRows
import GoSem.ClaimSeven
namespace Go.Proofs.YtlmanancakaapaaGreatDoor
namespace Rows

/-- THE TIED CARD OF 'laws.FnAnyProduceResponse'. -/
def fnAnyProduceResponseCard : Claim7 := { stood := { row := fnAnyProduceResponseRow, standIns := [], harness := (true, "c52a5ee8cfa45c92a9dcd2c50248b9a7fb52e6cddc3576100662d460c714ecb6"), looks := false }, kinds := [], alts := [], laidByText := true, laidKinds := [.sentinel], laidTests := true, laidLooks := .later }
def FnAnyProduceResponseCardSaid : Prop := Claim7.holds Tryz.pinned (.plain (OpenSpec.ofChange fnAnyProduceResponseSpec)) fnAnyProduceResponseCard

/-- THE SECOND FORM's CARD OF 'laws.FnAnyProduceResponse'. -/
def fnAnyProduceResponseUptoCard : Claim7 := { stood := { row := fnAnyProduceResponseUptoRow, standIns := [], harness := (true, "c52a5ee8cfa45c92a9dcd2c50248b9a7fb52e6cddc3576100662d460c714ecb6"), looks := false }, kinds := [], alts := [], laidByText := true, laidKinds := [.sentinel], laidTests := true, laidLooks := .later }
def FnAnyProduceResponseUptoCardSaid : Prop := Claim7.holds Tryz.pinned (.plain (OpenSpec.upto fnAnyProduceResponseSpec)) fnAnyProduceResponseUptoCard
end Rows
end Go.Proofs.YtlmanancakaapaaGreatDoor
