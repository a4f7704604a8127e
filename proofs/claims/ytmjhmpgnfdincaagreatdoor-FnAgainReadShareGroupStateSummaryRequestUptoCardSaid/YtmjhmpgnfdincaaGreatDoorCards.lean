/-
  DERIVED. GIVEN WITH THE SEED: THE CARDS: each row of YtmjhmpgnfdincaaGreatDoorRows.lean that lists a variable, with what it lists TIED to the program's text (the seventh form; the later family's looks); each row that meets fmt, with fmt's text TOLD by the authors' own Lean function (tested against real Go, not proved from fmt's source: count such statements apart). THE CARD IS WHAT COUNTS. Prove the row's statement (the work); the ties are given (YtmjhmpgnfdincaaGreatDoorTie.lean); close each card by the builder's one call (the guide's Derived/Test/ToyasCard.lean, 'card_holds'). Laid BY PROGRAM, IN A SANDBOX (cutbox-door.mjs). By AI agents, Wed Nov 11 2026. No macro, syntax, notation, axiom, sorry.
-/
import Derived.Test.YtmjhmpgnfdincaaGreatDoorRows
import GoSem.ClaimSeven
namespace Go.Proofs.YtmjhmpgnfdincaaGreatDoor
namespace Rows

/-- THE TIED CARD OF 'laws.FnCutAddRaftVoterResponse'. -/
def fnCutAddRaftVoterResponseCard : Claim7 := { stood := { row := fnCutAddRaftVoterResponseRow, standIns := [], harness := (true, "fefcc6d3d7246684ceda43017583ea57ab30abb5ac997295ae74b50197a0729b"), looks := false }, kinds := [], alts := [], laidByText := true, laidKinds := [.sentinel], laidTests := true, laidLooks := .later }
def FnCutAddRaftVoterResponseCardSaid : Prop := Claim7.holds Tryz.pinned (.plain (OpenSpec.ofChange fnCutAddRaftVoterResponseSpec)) fnCutAddRaftVoterResponseCard

/-- THE TIED CARD OF 'laws.FnCutDescribeGroupsRequest'. -/
def fnCutDescribeGroupsRequestCard : Claim7 := { stood := { row := fnCutDescribeGroupsRequestRow, standIns := [], harness := (true, "fefcc6d3d7246684ceda43017583ea57ab30abb5ac997295ae74b50197a0729b"), looks := false }, kinds := [], alts := [], laidByText := true, laidKinds := [.sentinel], laidTests := true, laidLooks := .later }
def FnCutDescribeGroupsRequestCardSaid : Prop := Claim7.holds Tryz.pinned (.plain (OpenSpec.ofChange fnCutDescribeGroupsRequestSpec)) fnCutDescribeGroupsRequestCard

/-- THE TIED CARD OF 'laws.FnAgainReadShareGroupStateSummaryRequest'. -/
def fnAgainReadShareGroupStateSummaryRequestCard : Claim7 := { stood := { row := fnAgainReadShareGroupStateSummaryRequestRow, standIns := [], harness := (true, "fefcc6d3d7246684ceda43017583ea57ab30abb5ac997295ae74b50197a0729b"), looks := false }, kinds := [], alts := [], laidByText := true, laidKinds := [.sentinel], laidTests := true, laidLooks := .later }
def FnAgainReadShareGroupStateSummaryRequestCardSaid : Prop := Claim7.holds Tryz.pinned (.plain (OpenSpec.ofChange fnAgainReadShareGroupStateSummaryRequestSpec)) fnAgainReadShareGroupStateSummaryRequestCard

/-- THE SECOND FORM's CARD OF 'laws.FnCutAddRaftVoterResponse'. -/
def fnCutAddRaftVoterResponseUptoCard : Claim7 := { stood := { row := fnCutAddRaftVoterResponseUptoRow, standIns := [], harness := (true, "fefcc6d3d7246684ceda43017583ea57ab30abb5ac997295ae74b50197a0729b"), looks := false }, kinds := [], alts := [], laidByText := true, laidKinds := [.sentinel], laidTests := true, laidLooks := .later }
def FnCutAddRaftVoterResponseUptoCardSaid : Prop := Claim7.holds Tryz.pinned (.plain (OpenSpec.upto fnCutAddRaftVoterResponseSpec)) fnCutAddRaftVoterResponseUptoCard

/-- THE SECOND FORM's CARD OF 'laws.FnCutDescribeGroupsRequest'. -/
def fnCutDescribeGroupsRequestUptoCard : Claim7 := { stood := { row := fnCutDescribeGroupsRequestUptoRow, standIns := [], harness := (true, "fefcc6d3d7246684ceda43017583ea57ab30abb5ac997295ae74b50197a0729b"), looks := false }, kinds := [], alts := [], laidByText := true, laidKinds := [.sentinel], laidTests := true, laidLooks := .later }
def FnCutDescribeGroupsRequestUptoCardSaid : Prop := Claim7.holds Tryz.pinned (.plain (OpenSpec.upto fnCutDescribeGroupsRequestSpec)) fnCutDescribeGroupsRequestUptoCard

/-- THE SECOND FORM's CARD OF 'laws.FnAgainReadShareGroupStateSummaryRequest'. -/
def fnAgainReadShareGroupStateSummaryRequestUptoCard : Claim7 := { stood := { row := fnAgainReadShareGroupStateSummaryRequestUptoRow, standIns := [], harness := (true, "fefcc6d3d7246684ceda43017583ea57ab30abb5ac997295ae74b50197a0729b"), looks := false }, kinds := [], alts := [], laidByText := true, laidKinds := [.sentinel], laidTests := true, laidLooks := .later }
def FnAgainReadShareGroupStateSummaryRequestUptoCardSaid : Prop := Claim7.holds Tryz.pinned (.plain (OpenSpec.upto fnAgainReadShareGroupStateSummaryRequestSpec)) fnAgainReadShareGroupStateSummaryRequestUptoCard
end Rows
end Go.Proofs.YtmjhmpgnfdincaaGreatDoor
