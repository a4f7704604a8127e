/-
  DERIVED. GIVEN WITH THE SEED: THE CARDS: each row of YtmjhmpgnfdincaaDoorRows.lean that lists a variable, with what it lists TIED to the program's text (the seventh form; the later family's looks); each row that meets fmt, with fmt's text TOLD by the authors' own Lean function (tested against real Go, not proved from fmt's source: count such statements apart). THE CARD IS WHAT COUNTS. Prove the row's statement (the work); the ties are given (YtmjhmpgnfdincaaDoorTie.lean); close each card by the builder's one call (the guide's Derived/Test/ToyasCard.lean, 'card_holds'). Laid BY PROGRAM, IN A SANDBOX (cutbox-door.mjs). By AI agents, Wed Nov 11 2026. No macro, syntax, notation, axiom, sorry.
-/
import Derived.Test.YtmjhmpgnfdincaaDoorRows
import GoSem.ClaimSeven
namespace Go.Proofs.YtmjhmpgnfdincaaDoor
namespace Rows

/-- THE TIED CARD OF 'laws.FnCutUnregisterBrokerRequest'. -/
def fnCutUnregisterBrokerRequestCard : Claim7 := { stood := { row := fnCutUnregisterBrokerRequestRow, standIns := [], harness := (true, "ac839cc0e384580bc84929ef937d3d49c711fd3451063bb65bae2b6686989321"), looks := false }, kinds := [], alts := [], laidByText := true, laidKinds := [.sentinel], laidTests := true, laidLooks := .later }
def FnCutUnregisterBrokerRequestCardSaid : Prop := Claim7.holds Tryd.pinned (.plain (OpenSpec.ofChange fnCutUnregisterBrokerRequestSpec)) fnCutUnregisterBrokerRequestCard

/-- THE TIED CARD OF 'laws.FnAgainAddOffsetsToTxnResponse'. -/
def fnAgainAddOffsetsToTxnResponseCard : Claim7 := { stood := { row := fnAgainAddOffsetsToTxnResponseRow, standIns := [], harness := (true, "ac839cc0e384580bc84929ef937d3d49c711fd3451063bb65bae2b6686989321"), looks := false }, kinds := [], alts := [], laidByText := true, laidKinds := [.sentinel], laidTests := true, laidLooks := .later }
def FnAgainAddOffsetsToTxnResponseCardSaid : Prop := Claim7.holds Tryd.pinned (.plain (OpenSpec.ofChange fnAgainAddOffsetsToTxnResponseSpec)) fnAgainAddOffsetsToTxnResponseCard

/-- THE TIED CARD OF 'laws.FnAgainHeartbeatResponse'. -/
def fnAgainHeartbeatResponseCard : Claim7 := { stood := { row := fnAgainHeartbeatResponseRow, standIns := [], harness := (true, "ac839cc0e384580bc84929ef937d3d49c711fd3451063bb65bae2b6686989321"), looks := false }, kinds := [], alts := [], laidByText := true, laidKinds := [.sentinel], laidTests := true, laidLooks := .later }
def FnAgainHeartbeatResponseCardSaid : Prop := Claim7.holds Tryd.pinned (.plain (OpenSpec.ofChange fnAgainHeartbeatResponseSpec)) fnAgainHeartbeatResponseCard

/-- THE TIED CARD OF 'laws.FnCutBrokerRegistrationResponse'. -/
def fnCutBrokerRegistrationResponseCard : Claim7 := { stood := { row := fnCutBrokerRegistrationResponseRow, standIns := [], harness := (true, "ac839cc0e384580bc84929ef937d3d49c711fd3451063bb65bae2b6686989321"), looks := false }, kinds := [], alts := [], laidByText := true, laidKinds := [.sentinel], laidTests := true, laidLooks := .later }
def FnCutBrokerRegistrationResponseCardSaid : Prop := Claim7.holds Tryd.pinned (.plain (OpenSpec.ofChange fnCutBrokerRegistrationResponseSpec)) fnCutBrokerRegistrationResponseCard

/-- THE TIED CARD OF 'laws.FnCutInitProducerIDResponse'. -/
def fnCutInitProducerIDResponseCard : Claim7 := { stood := { row := fnCutInitProducerIDResponseRow, standIns := [], harness := (true, "ac839cc0e384580bc84929ef937d3d49c711fd3451063bb65bae2b6686989321"), looks := false }, kinds := [], alts := [], laidByText := true, laidKinds := [.sentinel], laidTests := true, laidLooks := .later }
def FnCutInitProducerIDResponseCardSaid : Prop := Claim7.holds Tryd.pinned (.plain (OpenSpec.ofChange fnCutInitProducerIDResponseSpec)) fnCutInitProducerIDResponseCard

/-- THE TIED CARD OF 'laws.FnCutRenewDelegationTokenRequest'. -/
def fnCutRenewDelegationTokenRequestCard : Claim7 := { stood := { row := fnCutRenewDelegationTokenRequestRow, standIns := [], harness := (true, "ac839cc0e384580bc84929ef937d3d49c711fd3451063bb65bae2b6686989321"), looks := false }, kinds := [], alts := [], laidByText := true, laidKinds := [.sentinel], laidTests := true, laidLooks := .later }
def FnCutRenewDelegationTokenRequestCardSaid : Prop := Claim7.holds Tryd.pinned (.plain (OpenSpec.ofChange fnCutRenewDelegationTokenRequestSpec)) fnCutRenewDelegationTokenRequestCard

/-- THE TIED CARD OF 'laws.FnAgainListConfigResourcesRequest'. -/
def fnAgainListConfigResourcesRequestCard : Claim7 := { stood := { row := fnAgainListConfigResourcesRequestRow, standIns := [], harness := (true, "ac839cc0e384580bc84929ef937d3d49c711fd3451063bb65bae2b6686989321"), looks := false }, kinds := [], alts := [], laidByText := true, laidKinds := [.sentinel], laidTests := true, laidLooks := .later }
def FnAgainListConfigResourcesRequestCardSaid : Prop := Claim7.holds Tryd.pinned (.plain (OpenSpec.ofChange fnAgainListConfigResourcesRequestSpec)) fnAgainListConfigResourcesRequestCard

/-- THE TIED CARD OF 'laws.FnAgainEnvelopeRequest'. -/
def fnAgainEnvelopeRequestCard : Claim7 := { stood := { row := fnAgainEnvelopeRequestRow, standIns := [], harness := (true, "ac839cc0e384580bc84929ef937d3d49c711fd3451063bb65bae2b6686989321"), looks := false }, kinds := [], alts := [], laidByText := true, laidKinds := [.sentinel], laidTests := true, laidLooks := .later }
def FnAgainEnvelopeRequestCardSaid : Prop := Claim7.holds Tryd.pinned (.plain (OpenSpec.ofChange fnAgainEnvelopeRequestSpec)) fnAgainEnvelopeRequestCard

/-- THE SECOND FORM's CARD OF 'laws.FnCutUnregisterBrokerRequest'. -/
def fnCutUnregisterBrokerRequestUptoCard : Claim7 := { stood := { row := fnCutUnregisterBrokerRequestUptoRow, standIns := [], harness := (true, "ac839cc0e384580bc84929ef937d3d49c711fd3451063bb65bae2b6686989321"), looks := false }, kinds := [], alts := [], laidByText := true, laidKinds := [.sentinel], laidTests := true, laidLooks := .later }
def FnCutUnregisterBrokerRequestUptoCardSaid : Prop := Claim7.holds Tryd.pinned (.plain (OpenSpec.upto fnCutUnregisterBrokerRequestSpec)) fnCutUnregisterBrokerRequestUptoCard

/-- THE SECOND FORM's CARD OF 'laws.FnAgainAddOffsetsToTxnResponse'. -/
def fnAgainAddOffsetsToTxnResponseUptoCard : Claim7 := { stood := { row := fnAgainAddOffsetsToTxnResponseUptoRow, standIns := [], harness := (true, "ac839cc0e384580bc84929ef937d3d49c711fd3451063bb65bae2b6686989321"), looks := false }, kinds := [], alts := [], laidByText := true, laidKinds := [.sentinel], laidTests := true, laidLooks := .later }
def FnAgainAddOffsetsToTxnResponseUptoCardSaid : Prop := Claim7.holds Tryd.pinned (.plain (OpenSpec.upto fnAgainAddOffsetsToTxnResponseSpec)) fnAgainAddOffsetsToTxnResponseUptoCard

/-- THE SECOND FORM's CARD OF 'laws.FnAgainHeartbeatResponse'. -/
def fnAgainHeartbeatResponseUptoCard : Claim7 := { stood := { row := fnAgainHeartbeatResponseUptoRow, standIns := [], harness := (true, "ac839cc0e384580bc84929ef937d3d49c711fd3451063bb65bae2b6686989321"), looks := false }, kinds := [], alts := [], laidByText := true, laidKinds := [.sentinel], laidTests := true, laidLooks := .later }
def FnAgainHeartbeatResponseUptoCardSaid : Prop := Claim7.holds Tryd.pinned (.plain (OpenSpec.upto fnAgainHeartbeatResponseSpec)) fnAgainHeartbeatResponseUptoCard

/-- THE SECOND FORM's CARD OF 'laws.FnCutBrokerRegistrationResponse'. -/
def fnCutBrokerRegistrationResponseUptoCard : Claim7 := { stood := { row := fnCutBrokerRegistrationResponseUptoRow, standIns := [], harness := (true, "ac839cc0e384580bc84929ef937d3d49c711fd3451063bb65bae2b6686989321"), looks := false }, kinds := [], alts := [], laidByText := true, laidKinds := [.sentinel], laidTests := true, laidLooks := .later }
def FnCutBrokerRegistrationResponseUptoCardSaid : Prop := Claim7.holds Tryd.pinned (.plain (OpenSpec.upto fnCutBrokerRegistrationResponseSpec)) fnCutBrokerRegistrationResponseUptoCard

/-- THE SECOND FORM's CARD OF 'laws.FnCutInitProducerIDResponse'. -/
def fnCutInitProducerIDResponseUptoCard : Claim7 := { stood := { row := fnCutInitProducerIDResponseUptoRow, standIns := [], harness := (true, "ac839cc0e384580bc84929ef937d3d49c711fd3451063bb65bae2b6686989321"), looks := false }, kinds := [], alts := [], laidByText := true, laidKinds := [.sentinel], laidTests := true, laidLooks := .later }
def FnCutInitProducerIDResponseUptoCardSaid : Prop := Claim7.holds Tryd.pinned (.plain (OpenSpec.upto fnCutInitProducerIDResponseSpec)) fnCutInitProducerIDResponseUptoCard

/-- THE SECOND FORM's CARD OF 'laws.FnCutRenewDelegationTokenRequest'. -/
def fnCutRenewDelegationTokenRequestUptoCard : Claim7 := { stood := { row := fnCutRenewDelegationTokenRequestUptoRow, standIns := [], harness := (true, "ac839cc0e384580bc84929ef937d3d49c711fd3451063bb65bae2b6686989321"), looks := false }, kinds := [], alts := [], laidByText := true, laidKinds := [.sentinel], laidTests := true, laidLooks := .later }
def FnCutRenewDelegationTokenRequestUptoCardSaid : Prop := Claim7.holds Tryd.pinned (.plain (OpenSpec.upto fnCutRenewDelegationTokenRequestSpec)) fnCutRenewDelegationTokenRequestUptoCard

/-- THE SECOND FORM's CARD OF 'laws.FnAgainListConfigResourcesRequest'. -/
def fnAgainListConfigResourcesRequestUptoCard : Claim7 := { stood := { row := fnAgainListConfigResourcesRequestUptoRow, standIns := [], harness := (true, "ac839cc0e384580bc84929ef937d3d49c711fd3451063bb65bae2b6686989321"), looks := false }, kinds := [], alts := [], laidByText := true, laidKinds := [.sentinel], laidTests := true, laidLooks := .later }
def FnAgainListConfigResourcesRequestUptoCardSaid : Prop := Claim7.holds Tryd.pinned (.plain (OpenSpec.upto fnAgainListConfigResourcesRequestSpec)) fnAgainListConfigResourcesRequestUptoCard

/-- THE SECOND FORM's CARD OF 'laws.FnAgainEnvelopeRequest'. -/
def fnAgainEnvelopeRequestUptoCard : Claim7 := { stood := { row := fnAgainEnvelopeRequestUptoRow, standIns := [], harness := (true, "ac839cc0e384580bc84929ef937d3d49c711fd3451063bb65bae2b6686989321"), looks := false }, kinds := [], alts := [], laidByText := true, laidKinds := [.sentinel], laidTests := true, laidLooks := .later }
def FnAgainEnvelopeRequestUptoCardSaid : Prop := Claim7.holds Tryd.pinned (.plain (OpenSpec.upto fnAgainEnvelopeRequestSpec)) fnAgainEnvelopeRequestUptoCard
end Rows
end Go.Proofs.YtmjhmpgnfdincaaDoor
