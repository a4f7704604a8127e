/-
  DERIVED. GIVEN WITH THE SEED: THE CARDS: each row of YthjaecnbgfohmabGreatDoorRows.lean that lists a variable, with what it lists TIED to the program's text (the seventh form; the later family's looks); each row that meets fmt, with fmt's text TOLD by the authors' own Lean function (tested against real Go, not proved from fmt's source: count such statements apart). THE CARD IS WHAT COUNTS. Prove the row's statement (the work); the ties are given (YthjaecnbgfohmabGreatDoorTie.lean); close each card by the builder's one call (the guide's Derived/Test/ToyasCard.lean, 'card_holds'). Laid BY PROGRAM, IN A SANDBOX (cutbox-door.mjs). By AI agents, Wed Nov 11 2026. No macro, syntax, notation, axiom, sorry.
-/
import Derived.Test.YthjaecnbgfohmabGreatDoorRows
import GoSem.ClaimSeven
namespace Go.Proofs.YthjaecnbgfohmabGreatDoor
namespace Rows

/-- THE TIED CARD OF 'laws.FnAgainSyncGroupRequest'. -/
def fnAgainSyncGroupRequestCard : Claim7 := { stood := { row := fnAgainSyncGroupRequestRow, standIns := [], harness := (true, "7b37ff8817568e6d8d8143ffe1cfc9565e827b9f189434d7f1ae8fc3f5d514a2"), looks := false }, kinds := [], alts := [], laidByText := true, laidKinds := [.sentinel], laidTests := true, laidLooks := .later }
def FnAgainSyncGroupRequestCardSaid : Prop := Claim7.holds Tryz.pinned (.plain (OpenSpec.ofChange fnAgainSyncGroupRequestSpec)) fnAgainSyncGroupRequestCard

/-- THE TIED CARD OF 'laws.FnCutDeleteShareGroupStateResponse'. -/
def fnCutDeleteShareGroupStateResponseCard : Claim7 := { stood := { row := fnCutDeleteShareGroupStateResponseRow, standIns := [], harness := (true, "7b37ff8817568e6d8d8143ffe1cfc9565e827b9f189434d7f1ae8fc3f5d514a2"), looks := false }, kinds := [], alts := [], laidByText := true, laidKinds := [.sentinel], laidTests := true, laidLooks := .later }
def FnCutDeleteShareGroupStateResponseCardSaid : Prop := Claim7.holds Tryz.pinned (.plain (OpenSpec.ofChange fnCutDeleteShareGroupStateResponseSpec)) fnCutDeleteShareGroupStateResponseCard

/-- THE TIED CARD OF 'laws.FnCutWriteShareGroupStateResponse'. -/
def fnCutWriteShareGroupStateResponseCard : Claim7 := { stood := { row := fnCutWriteShareGroupStateResponseRow, standIns := [], harness := (true, "7b37ff8817568e6d8d8143ffe1cfc9565e827b9f189434d7f1ae8fc3f5d514a2"), looks := false }, kinds := [], alts := [], laidByText := true, laidKinds := [.sentinel], laidTests := true, laidLooks := .later }
def FnCutWriteShareGroupStateResponseCardSaid : Prop := Claim7.holds Tryz.pinned (.plain (OpenSpec.ofChange fnCutWriteShareGroupStateResponseSpec)) fnCutWriteShareGroupStateResponseCard

/-- THE TIED CARD OF 'laws.FnCutAlterShareGroupOffsetsRequest'. -/
def fnCutAlterShareGroupOffsetsRequestCard : Claim7 := { stood := { row := fnCutAlterShareGroupOffsetsRequestRow, standIns := [], harness := (true, "7b37ff8817568e6d8d8143ffe1cfc9565e827b9f189434d7f1ae8fc3f5d514a2"), looks := false }, kinds := [], alts := [], laidByText := true, laidKinds := [.sentinel], laidTests := true, laidLooks := .later }
def FnCutAlterShareGroupOffsetsRequestCardSaid : Prop := Claim7.holds Tryz.pinned (.plain (OpenSpec.ofChange fnCutAlterShareGroupOffsetsRequestSpec)) fnCutAlterShareGroupOffsetsRequestCard

/-- THE SECOND FORM's CARD OF 'laws.FnAgainSyncGroupRequest'. -/
def fnAgainSyncGroupRequestUptoCard : Claim7 := { stood := { row := fnAgainSyncGroupRequestUptoRow, standIns := [], harness := (true, "7b37ff8817568e6d8d8143ffe1cfc9565e827b9f189434d7f1ae8fc3f5d514a2"), looks := false }, kinds := [], alts := [], laidByText := true, laidKinds := [.sentinel], laidTests := true, laidLooks := .later }
def FnAgainSyncGroupRequestUptoCardSaid : Prop := Claim7.holds Tryz.pinned (.plain (OpenSpec.upto fnAgainSyncGroupRequestSpec)) fnAgainSyncGroupRequestUptoCard

/-- THE SECOND FORM's CARD OF 'laws.FnCutDeleteShareGroupStateResponse'. -/
def fnCutDeleteShareGroupStateResponseUptoCard : Claim7 := { stood := { row := fnCutDeleteShareGroupStateResponseUptoRow, standIns := [], harness := (true, "7b37ff8817568e6d8d8143ffe1cfc9565e827b9f189434d7f1ae8fc3f5d514a2"), looks := false }, kinds := [], alts := [], laidByText := true, laidKinds := [.sentinel], laidTests := true, laidLooks := .later }
def FnCutDeleteShareGroupStateResponseUptoCardSaid : Prop := Claim7.holds Tryz.pinned (.plain (OpenSpec.upto fnCutDeleteShareGroupStateResponseSpec)) fnCutDeleteShareGroupStateResponseUptoCard

/-- THE SECOND FORM's CARD OF 'laws.FnCutWriteShareGroupStateResponse'. -/
def fnCutWriteShareGroupStateResponseUptoCard : Claim7 := { stood := { row := fnCutWriteShareGroupStateResponseUptoRow, standIns := [], harness := (true, "7b37ff8817568e6d8d8143ffe1cfc9565e827b9f189434d7f1ae8fc3f5d514a2"), looks := false }, kinds := [], alts := [], laidByText := true, laidKinds := [.sentinel], laidTests := true, laidLooks := .later }
def FnCutWriteShareGroupStateResponseUptoCardSaid : Prop := Claim7.holds Tryz.pinned (.plain (OpenSpec.upto fnCutWriteShareGroupStateResponseSpec)) fnCutWriteShareGroupStateResponseUptoCard

/-- THE SECOND FORM's CARD OF 'laws.FnCutAlterShareGroupOffsetsRequest'. -/
def fnCutAlterShareGroupOffsetsRequestUptoCard : Claim7 := { stood := { row := fnCutAlterShareGroupOffsetsRequestUptoRow, standIns := [], harness := (true, "7b37ff8817568e6d8d8143ffe1cfc9565e827b9f189434d7f1ae8fc3f5d514a2"), looks := false }, kinds := [], alts := [], laidByText := true, laidKinds := [.sentinel], laidTests := true, laidLooks := .later }
def FnCutAlterShareGroupOffsetsRequestUptoCardSaid : Prop := Claim7.holds Tryz.pinned (.plain (OpenSpec.upto fnCutAlterShareGroupOffsetsRequestSpec)) fnCutAlterShareGroupOffsetsRequestUptoCard
end Rows
end Go.Proofs.YthjaecnbgfohmabGreatDoor
