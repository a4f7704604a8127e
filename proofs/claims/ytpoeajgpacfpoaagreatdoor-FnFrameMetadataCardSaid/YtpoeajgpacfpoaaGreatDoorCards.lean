/-
  DERIVED. GIVEN WITH THE SEED: THE CARDS: each row of YtpoeajgpacfpoaaGreatDoorRows.lean that lists a variable, with what it lists TIED to the program's text (the seventh form; the later family's looks); each row that meets fmt, with fmt's text TOLD by the authors' own Lean function (tested against real Go, not proved from fmt's source: count such statements apart). THE CARD IS WHAT COUNTS. Prove the row's statement (the work); the ties are given (YtpoeajgpacfpoaaGreatDoorTie.lean); close each card by the builder's one call (the guide's Derived/Test/ToyasCard.lean, 'card_holds'). Laid BY PROGRAM, IN A SANDBOX (cutbox-door.mjs). By AI agents, Wed Nov 11 2026. No macro, syntax, notation, axiom, sorry.
-/
import Derived.Test.YtpoeajgpacfpoaaGreatDoorRows
import GoSem.ClaimSeven
namespace Go.Proofs.YtpoeajgpacfpoaaGreatDoor
namespace Rows

/-- THE TIED CARD OF 'laws.FnFrameMetadata'. -/
def fnFrameMetadataCard : Claim7 := { stood := { row := fnFrameMetadataRow, standIns := [], harness := (true, "32eaa697bf2ef86fddfa61769dec728deb5e749e8f0e641b2676079b490c760c"), looks := false }, kinds := [], alts := [], laidByText := true, laidKinds := [.sentinel], laidTests := true, laidLooks := .later }
def FnFrameMetadataCardSaid : Prop := Claim7.holds Tryz.pinned (.plain (OpenSpec.ofChange fnFrameMetadataSpec)) fnFrameMetadataCard

/-- THE SECOND FORM's CARD OF 'laws.FnFrameMetadata'. -/
def fnFrameMetadataUptoCard : Claim7 := { stood := { row := fnFrameMetadataUptoRow, standIns := [], harness := (true, "32eaa697bf2ef86fddfa61769dec728deb5e749e8f0e641b2676079b490c760c"), looks := false }, kinds := [], alts := [], laidByText := true, laidKinds := [.sentinel], laidTests := true, laidLooks := .later }
def FnFrameMetadataUptoCardSaid : Prop := Claim7.holds Tryz.pinned (.plain (OpenSpec.upto fnFrameMetadataSpec)) fnFrameMetadataUptoCard
end Rows
end Go.Proofs.YtpoeajgpacfpoaaGreatDoor
