/-
  DERIVED. GIVEN WITH THE SEED: THE CARDS: each row of YtleodfcpcfmfnaaDoorRows.lean that lists a variable, with what it lists TIED to the program's text (the seventh form; the later family's looks); each row that meets fmt, with fmt's text TOLD by the authors' own Lean function (tested against real Go, not proved from fmt's source: count such statements apart). THE CARD IS WHAT COUNTS. Prove the row's statement (the work); the ties are given (YtleodfcpcfmfnaaDoorTie.lean); close each card by the builder's one call (the guide's Derived/Test/ToyasCard.lean, 'card_holds'). Laid BY PROGRAM, IN A SANDBOX (cutbox-door.mjs). By AI agents, Wed Nov 11 2026. No macro, syntax, notation, axiom, sorry.
-/
import Derived.Test.YtleodfcpcfmfnaaDoorRows
import GoSem.ClaimSeven
namespace Go.Proofs.YtleodfcpcfmfnaaDoor
namespace Rows

/-- THE TIED CARD OF 'laws.FnAgainHeartbeatResponse'. -/
def fnAgainHeartbeatResponseCard : Claim7 := { stood := { row := fnAgainHeartbeatResponseRow, standIns := [], harness := (true, "3fd957c6e43f756256d752330eeda9e0dd28d4b19ae2b82d5b4b0cd728d98679"), looks := false }, kinds := [], alts := [], laidByText := true, laidKinds := [.sentinel], laidTests := true, laidLooks := .later }
def FnAgainHeartbeatResponseCardSaid : Prop := Claim7.holds Tryd.pinned (.plain (OpenSpec.ofChange fnAgainHeartbeatResponseSpec)) fnAgainHeartbeatResponseCard

/-- THE TIED CARD OF 'laws.FnAnyDeleteACLsRequest'. -/
def fnAnyDeleteACLsRequestCard : Claim7 := { stood := { row := fnAnyDeleteACLsRequestRow, standIns := [], harness := (true, "3fd957c6e43f756256d752330eeda9e0dd28d4b19ae2b82d5b4b0cd728d98679"), looks := false }, kinds := [], alts := [], laidByText := true, laidKinds := [.sentinel], laidTests := true, laidLooks := .later }
def FnAnyDeleteACLsRequestCardSaid : Prop := Claim7.holds Tryd.pinned (.plain (OpenSpec.ofChange fnAnyDeleteACLsRequestSpec)) fnAnyDeleteACLsRequestCard

/-- THE SECOND FORM's CARD OF 'laws.FnAgainHeartbeatResponse'. -/
def fnAgainHeartbeatResponseUptoCard : Claim7 := { stood := { row := fnAgainHeartbeatResponseUptoRow, standIns := [], harness := (true, "3fd957c6e43f756256d752330eeda9e0dd28d4b19ae2b82d5b4b0cd728d98679"), looks := false }, kinds := [], alts := [], laidByText := true, laidKinds := [.sentinel], laidTests := true, laidLooks := .later }
def FnAgainHeartbeatResponseUptoCardSaid : Prop := Claim7.holds Tryd.pinned (.plain (OpenSpec.upto fnAgainHeartbeatResponseSpec)) fnAgainHeartbeatResponseUptoCard

/-- THE SECOND FORM's CARD OF 'laws.FnAnyDeleteACLsRequest'. -/
def fnAnyDeleteACLsRequestUptoCard : Claim7 := { stood := { row := fnAnyDeleteACLsRequestUptoRow, standIns := [], harness := (true, "3fd957c6e43f756256d752330eeda9e0dd28d4b19ae2b82d5b4b0cd728d98679"), looks := false }, kinds := [], alts := [], laidByText := true, laidKinds := [.sentinel], laidTests := true, laidLooks := .later }
def FnAnyDeleteACLsRequestUptoCardSaid : Prop := Claim7.holds Tryd.pinned (.plain (OpenSpec.upto fnAnyDeleteACLsRequestSpec)) fnAnyDeleteACLsRequestUptoCard
end Rows
end Go.Proofs.YtleodfcpcfmfnaaDoor
