/-
  DERIVED. GIVEN WITH THE SEED: THE CARDS: each row of YtifmbhfkjinafabGreatDoorRRows.lean that lists a variable, with what it lists TIED to the program's text (the seventh form; the later family's looks); each row that meets fmt, with fmt's text TOLD by the authors' own Lean function (tested against real Go, not proved from fmt's source: count such statements apart). THE CARD IS WHAT COUNTS. Prove the row's statement (the work); the ties are given (YtifmbhfkjinafabGreatDoorRTie.lean); close each card by the builder's one call (the guide's Derived/Test/ToyasCard.lean, 'card_holds'). Laid BY PROGRAM, IN A SANDBOX (cutbox-door.mjs). By AI agents, Wed Nov 11 2026. No macro, syntax, notation, axiom, sorry.
-/
import Derived.Test.YtifmbhfkjinafabGreatDoorRRows
import GoSem.ClaimSeven
namespace Go.Proofs.YtifmbhfkjinafabGreatDoorR
namespace Rows

/-- THE TIED CARD OF 'laws.FnAgainAlterPartitionRequest'. -/
def fnAgainAlterPartitionRequestCard : Claim7 := { stood := { row := fnAgainAlterPartitionRequestRow, standIns := [], harness := (true, "f8110ad4a5e7bc32e71807834f7e0c8dc9c15e47c255f93ce4837ad7c8b214d4"), looks := false }, kinds := [], alts := [], laidByText := true, laidKinds := [.sentinel], laidTests := true, laidLooks := .later }
def FnAgainAlterPartitionRequestCardSaid : Prop := Claim7.holds Tryz.pinned (.plain (OpenSpec.ofChange fnAgainAlterPartitionRequestSpec)) fnAgainAlterPartitionRequestCard

/-- THE TIED CARD OF 'laws.FnAgainDescribeShareGroupOffsetsResponse'. -/
def fnAgainDescribeShareGroupOffsetsResponseCard : Claim7 := { stood := { row := fnAgainDescribeShareGroupOffsetsResponseRow, standIns := [], harness := (true, "f8110ad4a5e7bc32e71807834f7e0c8dc9c15e47c255f93ce4837ad7c8b214d4"), looks := false }, kinds := [], alts := [], laidByText := true, laidKinds := [.sentinel], laidTests := true, laidLooks := .later }
def FnAgainDescribeShareGroupOffsetsResponseCardSaid : Prop := Claim7.holds Tryz.pinned (.plain (OpenSpec.ofChange fnAgainDescribeShareGroupOffsetsResponseSpec)) fnAgainDescribeShareGroupOffsetsResponseCard

/-- THE TIED CARD OF 'laws.FnCutOffsetFetchResponse'. -/
def fnCutOffsetFetchResponseCard : Claim7 := { stood := { row := fnCutOffsetFetchResponseRow, standIns := [], harness := (true, "f8110ad4a5e7bc32e71807834f7e0c8dc9c15e47c255f93ce4837ad7c8b214d4"), looks := false }, kinds := [], alts := [], laidByText := true, laidKinds := [.sentinel], laidTests := true, laidLooks := .later }
def FnCutOffsetFetchResponseCardSaid : Prop := Claim7.holds Tryz.pinned (.plain (OpenSpec.ofChange fnCutOffsetFetchResponseSpec)) fnCutOffsetFetchResponseCard

/-- THE TIED CARD OF 'laws.FnAgainShareFetchResponse'. -/
def fnAgainShareFetchResponseCard : Claim7 := { stood := { row := fnAgainShareFetchResponseRow, standIns := [], harness := (true, "f8110ad4a5e7bc32e71807834f7e0c8dc9c15e47c255f93ce4837ad7c8b214d4"), looks := false }, kinds := [], alts := [], laidByText := true, laidKinds := [.sentinel], laidTests := true, laidLooks := .later }
def FnAgainShareFetchResponseCardSaid : Prop := Claim7.holds Tryz.pinned (.plain (OpenSpec.ofChange fnAgainShareFetchResponseSpec)) fnAgainShareFetchResponseCard

/-- THE SECOND FORM's CARD OF 'laws.FnAgainAlterPartitionRequest'. -/
def fnAgainAlterPartitionRequestUptoCard : Claim7 := { stood := { row := fnAgainAlterPartitionRequestUptoRow, standIns := [], harness := (true, "f8110ad4a5e7bc32e71807834f7e0c8dc9c15e47c255f93ce4837ad7c8b214d4"), looks := false }, kinds := [], alts := [], laidByText := true, laidKinds := [.sentinel], laidTests := true, laidLooks := .later }
def FnAgainAlterPartitionRequestUptoCardSaid : Prop := Claim7.holds Tryz.pinned (.plain (OpenSpec.upto fnAgainAlterPartitionRequestSpec)) fnAgainAlterPartitionRequestUptoCard

/-- THE SECOND FORM's CARD OF 'laws.FnAgainDescribeShareGroupOffsetsResponse'. -/
def fnAgainDescribeShareGroupOffsetsResponseUptoCard : Claim7 := { stood := { row := fnAgainDescribeShareGroupOffsetsResponseUptoRow, standIns := [], harness := (true, "f8110ad4a5e7bc32e71807834f7e0c8dc9c15e47c255f93ce4837ad7c8b214d4"), looks := false }, kinds := [], alts := [], laidByText := true, laidKinds := [.sentinel], laidTests := true, laidLooks := .later }
def FnAgainDescribeShareGroupOffsetsResponseUptoCardSaid : Prop := Claim7.holds Tryz.pinned (.plain (OpenSpec.upto fnAgainDescribeShareGroupOffsetsResponseSpec)) fnAgainDescribeShareGroupOffsetsResponseUptoCard

/-- THE SECOND FORM's CARD OF 'laws.FnCutOffsetFetchResponse'. -/
def fnCutOffsetFetchResponseUptoCard : Claim7 := { stood := { row := fnCutOffsetFetchResponseUptoRow, standIns := [], harness := (true, "f8110ad4a5e7bc32e71807834f7e0c8dc9c15e47c255f93ce4837ad7c8b214d4"), looks := false }, kinds := [], alts := [], laidByText := true, laidKinds := [.sentinel], laidTests := true, laidLooks := .later }
def FnCutOffsetFetchResponseUptoCardSaid : Prop := Claim7.holds Tryz.pinned (.plain (OpenSpec.upto fnCutOffsetFetchResponseSpec)) fnCutOffsetFetchResponseUptoCard

/-- THE SECOND FORM's CARD OF 'laws.FnAgainShareFetchResponse'. -/
def fnAgainShareFetchResponseUptoCard : Claim7 := { stood := { row := fnAgainShareFetchResponseUptoRow, standIns := [], harness := (true, "f8110ad4a5e7bc32e71807834f7e0c8dc9c15e47c255f93ce4837ad7c8b214d4"), looks := false }, kinds := [], alts := [], laidByText := true, laidKinds := [.sentinel], laidTests := true, laidLooks := .later }
def FnAgainShareFetchResponseUptoCardSaid : Prop := Claim7.holds Tryz.pinned (.plain (OpenSpec.upto fnAgainShareFetchResponseSpec)) fnAgainShareFetchResponseUptoCard
end Rows
end Go.Proofs.YtifmbhfkjinafabGreatDoorR
