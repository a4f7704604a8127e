/-
  DERIVED. GIVEN WITH THE SEED: THE CARDS: each row of YtmkioomgfdpeiacDoorRows.lean that lists a variable, with what it lists TIED to the program's text (the seventh form; the later family's looks); each row that meets fmt, with fmt's text TOLD by the authors' own Lean function (tested against real Go, not proved from fmt's source: count such statements apart). THE CARD IS WHAT COUNTS. Prove the row's statement (the work); the ties are given (YtmkioomgfdpeiacDoorTie.lean); close each card by the builder's one call (the guide's Derived/Test/ToyasCard.lean, 'card_holds'). Laid BY PROGRAM, IN A SANDBOX (cutbox-door.mjs). By AI agents, Wed Nov 11 2026. No macro, syntax, notation, axiom, sorry.
-/
import Derived.Test.YtmkioomgfdpeiacDoorRows
import GoSem.ClaimSeven
namespace Go.Proofs.YtmkioomgfdpeiacDoor
namespace Rows

/-- THE TIED CARD OF 'laws.FnAnyAlterClientQuotasResponse'. -/
def fnAnyAlterClientQuotasResponseCard : Claim7 := { stood := { row := fnAnyAlterClientQuotasResponseRow, standIns := [], harness := (true, "1b0742725d395df008b8dbb4807be291c1a8ba4e09650fad9bc14582214f3965"), looks := false }, kinds := [], alts := [], laidByText := true, laidKinds := [.sentinel], laidTests := true, laidLooks := .later }
def FnAnyAlterClientQuotasResponseCardSaid : Prop := Claim7.holds Tryd.pinned (.plain (OpenSpec.ofChange fnAnyAlterClientQuotasResponseSpec)) fnAnyAlterClientQuotasResponseCard

/-- THE TIED CARD OF 'laws.FnAnyConsumerGroupHeartbeatResponse'. -/
def fnAnyConsumerGroupHeartbeatResponseCard : Claim7 := { stood := { row := fnAnyConsumerGroupHeartbeatResponseRow, standIns := [], harness := (true, "1b0742725d395df008b8dbb4807be291c1a8ba4e09650fad9bc14582214f3965"), looks := false }, kinds := [], alts := [], laidByText := true, laidKinds := [.sentinel], laidTests := true, laidLooks := .later }
def FnAnyConsumerGroupHeartbeatResponseCardSaid : Prop := Claim7.holds Tryd.pinned (.plain (OpenSpec.ofChange fnAnyConsumerGroupHeartbeatResponseSpec)) fnAnyConsumerGroupHeartbeatResponseCard

/-- THE TIED CARD OF 'laws.FnAnyDescribeACLsResponse'. -/
def fnAnyDescribeACLsResponseCard : Claim7 := { stood := { row := fnAnyDescribeACLsResponseRow, standIns := [], harness := (true, "1b0742725d395df008b8dbb4807be291c1a8ba4e09650fad9bc14582214f3965"), looks := false }, kinds := [], alts := [], laidByText := true, laidKinds := [.sentinel], laidTests := true, laidLooks := .later }
def FnAnyDescribeACLsResponseCardSaid : Prop := Claim7.holds Tryd.pinned (.plain (OpenSpec.ofChange fnAnyDescribeACLsResponseSpec)) fnAnyDescribeACLsResponseCard

/-- THE SECOND FORM's CARD OF 'laws.FnAnyAlterClientQuotasResponse'. -/
def fnAnyAlterClientQuotasResponseUptoCard : Claim7 := { stood := { row := fnAnyAlterClientQuotasResponseUptoRow, standIns := [], harness := (true, "1b0742725d395df008b8dbb4807be291c1a8ba4e09650fad9bc14582214f3965"), looks := false }, kinds := [], alts := [], laidByText := true, laidKinds := [.sentinel], laidTests := true, laidLooks := .later }
def FnAnyAlterClientQuotasResponseUptoCardSaid : Prop := Claim7.holds Tryd.pinned (.plain (OpenSpec.upto fnAnyAlterClientQuotasResponseSpec)) fnAnyAlterClientQuotasResponseUptoCard

/-- THE SECOND FORM's CARD OF 'laws.FnAnyConsumerGroupHeartbeatResponse'. -/
def fnAnyConsumerGroupHeartbeatResponseUptoCard : Claim7 := { stood := { row := fnAnyConsumerGroupHeartbeatResponseUptoRow, standIns := [], harness := (true, "1b0742725d395df008b8dbb4807be291c1a8ba4e09650fad9bc14582214f3965"), looks := false }, kinds := [], alts := [], laidByText := true, laidKinds := [.sentinel], laidTests := true, laidLooks := .later }
def FnAnyConsumerGroupHeartbeatResponseUptoCardSaid : Prop := Claim7.holds Tryd.pinned (.plain (OpenSpec.upto fnAnyConsumerGroupHeartbeatResponseSpec)) fnAnyConsumerGroupHeartbeatResponseUptoCard

/-- THE SECOND FORM's CARD OF 'laws.FnAnyDescribeACLsResponse'. -/
def fnAnyDescribeACLsResponseUptoCard : Claim7 := { stood := { row := fnAnyDescribeACLsResponseUptoRow, standIns := [], harness := (true, "1b0742725d395df008b8dbb4807be291c1a8ba4e09650fad9bc14582214f3965"), looks := false }, kinds := [], alts := [], laidByText := true, laidKinds := [.sentinel], laidTests := true, laidLooks := .later }
def FnAnyDescribeACLsResponseUptoCardSaid : Prop := Claim7.holds Tryd.pinned (.plain (OpenSpec.upto fnAnyDescribeACLsResponseSpec)) fnAnyDescribeACLsResponseUptoCard
end Rows
end Go.Proofs.YtmkioomgfdpeiacDoor
