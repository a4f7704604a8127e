/-
  DERIVED. GIVEN WITH THE SEED: THE CARDS: each row of YthjaecnbgfohmaaGreatDoorRows.lean that lists a variable, with what it lists TIED to the program's text (the seventh form; the later family's looks); each row that meets fmt, with fmt's text TOLD by the authors' own Lean function (tested against real Go, not proved from fmt's source: count such statements apart). THE CARD IS WHAT COUNTS. Prove the row's statement (the work); the ties are given (YthjaecnbgfohmaaGreatDoorTie.lean); close each card by the builder's one call (the guide's Derived/Test/ToyasCard.lean, 'card_holds'). Laid BY PROGRAM, IN A SANDBOX (cutbox-door.mjs). By AI agents, Wed Nov 11 2026. No macro, syntax, notation, axiom, sorry.
-/
import Derived.Test.YthjaecnbgfohmaaGreatDoorRows
import GoSem.ClaimSeven
namespace Go.Proofs.YthjaecnbgfohmaaGreatDoor
namespace Rows

/-- THE TIED CARD OF 'laws.FnAgainOffsetCommitResponse'. -/
def fnAgainOffsetCommitResponseCard : Claim7 := { stood := { row := fnAgainOffsetCommitResponseRow, standIns := [], harness := (true, "ee45208656a58c02dd1f97823ad8560771cba43921821cde244a5df959aeb0b9"), looks := false }, kinds := [], alts := [], laidByText := true, laidKinds := [.sentinel], laidTests := true, laidLooks := .later }
def FnAgainOffsetCommitResponseCardSaid : Prop := Claim7.holds Tryz.pinned (.plain (OpenSpec.ofChange fnAgainOffsetCommitResponseSpec)) fnAgainOffsetCommitResponseCard

/-- THE TIED CARD OF 'laws.FnAgainDeleteRecordsResponse'. -/
def fnAgainDeleteRecordsResponseCard : Claim7 := { stood := { row := fnAgainDeleteRecordsResponseRow, standIns := [], harness := (true, "ee45208656a58c02dd1f97823ad8560771cba43921821cde244a5df959aeb0b9"), looks := false }, kinds := [], alts := [], laidByText := true, laidKinds := [.sentinel], laidTests := true, laidLooks := .later }
def FnAgainDeleteRecordsResponseCardSaid : Prop := Claim7.holds Tryz.pinned (.plain (OpenSpec.ofChange fnAgainDeleteRecordsResponseSpec)) fnAgainDeleteRecordsResponseCard

/-- THE TIED CARD OF 'laws.FnAgainCreateACLsRequest'. -/
def fnAgainCreateACLsRequestCard : Claim7 := { stood := { row := fnAgainCreateACLsRequestRow, standIns := [], harness := (true, "ee45208656a58c02dd1f97823ad8560771cba43921821cde244a5df959aeb0b9"), looks := false }, kinds := [], alts := [], laidByText := true, laidKinds := [.sentinel], laidTests := true, laidLooks := .later }
def FnAgainCreateACLsRequestCardSaid : Prop := Claim7.holds Tryz.pinned (.plain (OpenSpec.ofChange fnAgainCreateACLsRequestSpec)) fnAgainCreateACLsRequestCard

/-- THE TIED CARD OF 'laws.FnAgainDescribeConfigsRequest'. -/
def fnAgainDescribeConfigsRequestCard : Claim7 := { stood := { row := fnAgainDescribeConfigsRequestRow, standIns := [], harness := (true, "ee45208656a58c02dd1f97823ad8560771cba43921821cde244a5df959aeb0b9"), looks := false }, kinds := [], alts := [], laidByText := true, laidKinds := [.sentinel], laidTests := true, laidLooks := .later }
def FnAgainDescribeConfigsRequestCardSaid : Prop := Claim7.holds Tryz.pinned (.plain (OpenSpec.ofChange fnAgainDescribeConfigsRequestSpec)) fnAgainDescribeConfigsRequestCard

/-- THE SECOND FORM's CARD OF 'laws.FnAgainOffsetCommitResponse'. -/
def fnAgainOffsetCommitResponseUptoCard : Claim7 := { stood := { row := fnAgainOffsetCommitResponseUptoRow, standIns := [], harness := (true, "ee45208656a58c02dd1f97823ad8560771cba43921821cde244a5df959aeb0b9"), looks := false }, kinds := [], alts := [], laidByText := true, laidKinds := [.sentinel], laidTests := true, laidLooks := .later }
def FnAgainOffsetCommitResponseUptoCardSaid : Prop := Claim7.holds Tryz.pinned (.plain (OpenSpec.upto fnAgainOffsetCommitResponseSpec)) fnAgainOffsetCommitResponseUptoCard

/-- THE SECOND FORM's CARD OF 'laws.FnAgainDeleteRecordsResponse'. -/
def fnAgainDeleteRecordsResponseUptoCard : Claim7 := { stood := { row := fnAgainDeleteRecordsResponseUptoRow, standIns := [], harness := (true, "ee45208656a58c02dd1f97823ad8560771cba43921821cde244a5df959aeb0b9"), looks := false }, kinds := [], alts := [], laidByText := true, laidKinds := [.sentinel], laidTests := true, laidLooks := .later }
def FnAgainDeleteRecordsResponseUptoCardSaid : Prop := Claim7.holds Tryz.pinned (.plain (OpenSpec.upto fnAgainDeleteRecordsResponseSpec)) fnAgainDeleteRecordsResponseUptoCard

/-- THE SECOND FORM's CARD OF 'laws.FnAgainCreateACLsRequest'. -/
def fnAgainCreateACLsRequestUptoCard : Claim7 := { stood := { row := fnAgainCreateACLsRequestUptoRow, standIns := [], harness := (true, "ee45208656a58c02dd1f97823ad8560771cba43921821cde244a5df959aeb0b9"), looks := false }, kinds := [], alts := [], laidByText := true, laidKinds := [.sentinel], laidTests := true, laidLooks := .later }
def FnAgainCreateACLsRequestUptoCardSaid : Prop := Claim7.holds Tryz.pinned (.plain (OpenSpec.upto fnAgainCreateACLsRequestSpec)) fnAgainCreateACLsRequestUptoCard

/-- THE SECOND FORM's CARD OF 'laws.FnAgainDescribeConfigsRequest'. -/
def fnAgainDescribeConfigsRequestUptoCard : Claim7 := { stood := { row := fnAgainDescribeConfigsRequestUptoRow, standIns := [], harness := (true, "ee45208656a58c02dd1f97823ad8560771cba43921821cde244a5df959aeb0b9"), looks := false }, kinds := [], alts := [], laidByText := true, laidKinds := [.sentinel], laidTests := true, laidLooks := .later }
def FnAgainDescribeConfigsRequestUptoCardSaid : Prop := Claim7.holds Tryz.pinned (.plain (OpenSpec.upto fnAgainDescribeConfigsRequestSpec)) fnAgainDescribeConfigsRequestUptoCard
end Rows
end Go.Proofs.YthjaecnbgfohmaaGreatDoor
