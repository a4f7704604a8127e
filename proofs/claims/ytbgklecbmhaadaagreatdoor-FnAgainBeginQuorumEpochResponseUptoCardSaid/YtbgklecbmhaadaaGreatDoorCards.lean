/-
  DERIVED. GIVEN WITH THE SEED: THE CARDS: each row of YtbgklecbmhaadaaGreatDoorRows.lean that lists a variable, with what it lists TIED to the program's text (the seventh form; the later family's looks); each row that meets fmt, with fmt's text TOLD by the authors' own Lean function (tested against real Go, not proved from fmt's source: count such statements apart). THE CARD IS WHAT COUNTS. Prove the row's statement (the work); the ties are given (YtbgklecbmhaadaaGreatDoorTie.lean); close each card by the builder's one call (the guide's Derived/Test/ToyasCard.lean, 'card_holds'). Laid BY PROGRAM, IN A SANDBOX (cutbox-door.mjs). By AI agents, Wed Nov 11 2026. No macro, syntax, notation, axiom, sorry.
-/
import Derived.Test.YtbgklecbmhaadaaGreatDoorRows
import GoSem.ClaimSeven
namespace Go.Proofs.YtbgklecbmhaadaaGreatDoor
namespace Rows

/-- THE TIED CARD OF 'laws.FnAgainUpdateRaftVoterResponse'. -/
def fnAgainUpdateRaftVoterResponseCard : Claim7 := { stood := { row := fnAgainUpdateRaftVoterResponseRow, standIns := [], harness := (true, "2e2bf46492b4f2a3ee4d32b6a1d92adcc69e345afa49b2284f96d97cfc85312f"), looks := false }, kinds := [], alts := [], laidByText := true, laidKinds := [.sentinel], laidTests := true, laidLooks := .later }
def FnAgainUpdateRaftVoterResponseCardSaid : Prop := Claim7.holds Tryz.pinned (.plain (OpenSpec.ofChange fnAgainUpdateRaftVoterResponseSpec)) fnAgainUpdateRaftVoterResponseCard

/-- THE TIED CARD OF 'laws.FnAgainBeginQuorumEpochResponse'. -/
def fnAgainBeginQuorumEpochResponseCard : Claim7 := { stood := { row := fnAgainBeginQuorumEpochResponseRow, standIns := [], harness := (true, "2e2bf46492b4f2a3ee4d32b6a1d92adcc69e345afa49b2284f96d97cfc85312f"), looks := false }, kinds := [], alts := [], laidByText := true, laidKinds := [.sentinel], laidTests := true, laidLooks := .later }
def FnAgainBeginQuorumEpochResponseCardSaid : Prop := Claim7.holds Tryz.pinned (.plain (OpenSpec.ofChange fnAgainBeginQuorumEpochResponseSpec)) fnAgainBeginQuorumEpochResponseCard

/-- THE SECOND FORM's CARD OF 'laws.FnAgainUpdateRaftVoterResponse'. -/
def fnAgainUpdateRaftVoterResponseUptoCard : Claim7 := { stood := { row := fnAgainUpdateRaftVoterResponseUptoRow, standIns := [], harness := (true, "2e2bf46492b4f2a3ee4d32b6a1d92adcc69e345afa49b2284f96d97cfc85312f"), looks := false }, kinds := [], alts := [], laidByText := true, laidKinds := [.sentinel], laidTests := true, laidLooks := .later }
def FnAgainUpdateRaftVoterResponseUptoCardSaid : Prop := Claim7.holds Tryz.pinned (.plain (OpenSpec.upto fnAgainUpdateRaftVoterResponseSpec)) fnAgainUpdateRaftVoterResponseUptoCard

/-- THE SECOND FORM's CARD OF 'laws.FnAgainBeginQuorumEpochResponse'. -/
def fnAgainBeginQuorumEpochResponseUptoCard : Claim7 := { stood := { row := fnAgainBeginQuorumEpochResponseUptoRow, standIns := [], harness := (true, "2e2bf46492b4f2a3ee4d32b6a1d92adcc69e345afa49b2284f96d97cfc85312f"), looks := false }, kinds := [], alts := [], laidByText := true, laidKinds := [.sentinel], laidTests := true, laidLooks := .later }
def FnAgainBeginQuorumEpochResponseUptoCardSaid : Prop := Claim7.holds Tryz.pinned (.plain (OpenSpec.upto fnAgainBeginQuorumEpochResponseSpec)) fnAgainBeginQuorumEpochResponseUptoCard
end Rows
end Go.Proofs.YtbgklecbmhaadaaGreatDoor
