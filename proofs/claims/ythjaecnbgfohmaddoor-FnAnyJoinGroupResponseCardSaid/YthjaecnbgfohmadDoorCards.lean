/-
  DERIVED. GIVEN WITH THE SEED: THE CARDS: each row of YthjaecnbgfohmadDoorRows.lean that lists a variable, with what it lists TIED to the program's text (the seventh form; the later family's looks); each row that meets fmt, with fmt's text TOLD by the authors' own Lean function (tested against real Go, not proved from fmt's source: count such statements apart). THE CARD IS WHAT COUNTS. Prove the row's statement (the work); the ties are given (YthjaecnbgfohmadDoorTie.lean); close each card by the builder's one call (the guide's Derived/Test/ToyasCard.lean, 'card_holds'). Laid BY PROGRAM, IN A SANDBOX (cutbox-door.mjs). By AI agents, Wed Nov 11 2026. No macro, syntax, notation, axiom, sorry.
-/
import Derived.Test.YthjaecnbgfohmadDoorRows
import GoSem.ClaimSeven
namespace Go.Proofs.YthjaecnbgfohmadDoor
namespace Rows

/-- THE TIED CARD OF 'laws.FnCutEndTxnMarker'. -/
def fnCutEndTxnMarkerCard : Claim7 := { stood := { row := fnCutEndTxnMarkerRow, standIns := [], harness := (true, "959e2b8be603471df6c9c0fc8489bf7a05dd574e4dd1df8f4e8f8bf1cf72ef86"), looks := false }, kinds := [], alts := [], laidByText := true, laidKinds := [.sentinel], laidTests := true, laidLooks := .later }
def FnCutEndTxnMarkerCardSaid : Prop := Claim7.holds Tryd.pinned (.plain (OpenSpec.ofChange fnCutEndTxnMarkerSpec)) fnCutEndTxnMarkerCard

/-- THE TIED CARD OF 'laws.FnAnyOffsetCommitKey'. -/
def fnAnyOffsetCommitKeyCard : Claim7 := { stood := { row := fnAnyOffsetCommitKeyRow, standIns := [], harness := (true, "959e2b8be603471df6c9c0fc8489bf7a05dd574e4dd1df8f4e8f8bf1cf72ef86"), looks := false }, kinds := [], alts := [], laidByText := true, laidKinds := [.sentinel], laidTests := true, laidLooks := .later }
def FnAnyOffsetCommitKeyCardSaid : Prop := Claim7.holds Tryd.pinned (.plain (OpenSpec.ofChange fnAnyOffsetCommitKeySpec)) fnAnyOffsetCommitKeyCard

/-- THE TIED CARD OF 'laws.FnAgainConsumerMemberAssignment'. -/
def fnAgainConsumerMemberAssignmentCard : Claim7 := { stood := { row := fnAgainConsumerMemberAssignmentRow, standIns := [], harness := (true, "959e2b8be603471df6c9c0fc8489bf7a05dd574e4dd1df8f4e8f8bf1cf72ef86"), looks := false }, kinds := [], alts := [], laidByText := true, laidKinds := [.sentinel], laidTests := true, laidLooks := .later }
def FnAgainConsumerMemberAssignmentCardSaid : Prop := Claim7.holds Tryd.pinned (.plain (OpenSpec.ofChange fnAgainConsumerMemberAssignmentSpec)) fnAgainConsumerMemberAssignmentCard

/-- THE TIED CARD OF 'laws.FnAnyJoinGroupResponse'. -/
def fnAnyJoinGroupResponseCard : Claim7 := { stood := { row := fnAnyJoinGroupResponseRow, standIns := [], harness := (true, "959e2b8be603471df6c9c0fc8489bf7a05dd574e4dd1df8f4e8f8bf1cf72ef86"), looks := false }, kinds := [], alts := [], laidByText := true, laidKinds := [.sentinel], laidTests := true, laidLooks := .later }
def FnAnyJoinGroupResponseCardSaid : Prop := Claim7.holds Tryd.pinned (.plain (OpenSpec.ofChange fnAnyJoinGroupResponseSpec)) fnAnyJoinGroupResponseCard

/-- THE SECOND FORM's CARD OF 'laws.FnCutEndTxnMarker'. -/
def fnCutEndTxnMarkerUptoCard : Claim7 := { stood := { row := fnCutEndTxnMarkerUptoRow, standIns := [], harness := (true, "959e2b8be603471df6c9c0fc8489bf7a05dd574e4dd1df8f4e8f8bf1cf72ef86"), looks := false }, kinds := [], alts := [], laidByText := true, laidKinds := [.sentinel], laidTests := true, laidLooks := .later }
def FnCutEndTxnMarkerUptoCardSaid : Prop := Claim7.holds Tryd.pinned (.plain (OpenSpec.upto fnCutEndTxnMarkerSpec)) fnCutEndTxnMarkerUptoCard

/-- THE SECOND FORM's CARD OF 'laws.FnAnyOffsetCommitKey'. -/
def fnAnyOffsetCommitKeyUptoCard : Claim7 := { stood := { row := fnAnyOffsetCommitKeyUptoRow, standIns := [], harness := (true, "959e2b8be603471df6c9c0fc8489bf7a05dd574e4dd1df8f4e8f8bf1cf72ef86"), looks := false }, kinds := [], alts := [], laidByText := true, laidKinds := [.sentinel], laidTests := true, laidLooks := .later }
def FnAnyOffsetCommitKeyUptoCardSaid : Prop := Claim7.holds Tryd.pinned (.plain (OpenSpec.upto fnAnyOffsetCommitKeySpec)) fnAnyOffsetCommitKeyUptoCard

/-- THE SECOND FORM's CARD OF 'laws.FnAgainConsumerMemberAssignment'. -/
def fnAgainConsumerMemberAssignmentUptoCard : Claim7 := { stood := { row := fnAgainConsumerMemberAssignmentUptoRow, standIns := [], harness := (true, "959e2b8be603471df6c9c0fc8489bf7a05dd574e4dd1df8f4e8f8bf1cf72ef86"), looks := false }, kinds := [], alts := [], laidByText := true, laidKinds := [.sentinel], laidTests := true, laidLooks := .later }
def FnAgainConsumerMemberAssignmentUptoCardSaid : Prop := Claim7.holds Tryd.pinned (.plain (OpenSpec.upto fnAgainConsumerMemberAssignmentSpec)) fnAgainConsumerMemberAssignmentUptoCard

/-- THE SECOND FORM's CARD OF 'laws.FnAnyJoinGroupResponse'. -/
def fnAnyJoinGroupResponseUptoCard : Claim7 := { stood := { row := fnAnyJoinGroupResponseUptoRow, standIns := [], harness := (true, "959e2b8be603471df6c9c0fc8489bf7a05dd574e4dd1df8f4e8f8bf1cf72ef86"), looks := false }, kinds := [], alts := [], laidByText := true, laidKinds := [.sentinel], laidTests := true, laidLooks := .later }
def FnAnyJoinGroupResponseUptoCardSaid : Prop := Claim7.holds Tryd.pinned (.plain (OpenSpec.upto fnAnyJoinGroupResponseSpec)) fnAnyJoinGroupResponseUptoCard
end Rows
end Go.Proofs.YthjaecnbgfohmadDoor
