/-
  NARROWER THAN 'FOR EVERY INPUT', by the rows' own cells (each row's printed sentence says how): FnCutUnregisterBrokerRequest: loops, laid · FnAgainAddOffsetsToTxnResponse: loops, laid · FnAgainHeartbeatResponse: loops, laid · FnCutBrokerRegistrationResponse: loops, laid · FnCutInitProducerIDResponse: loops, laid · FnCutRenewDelegationTokenRequest: loops, laid · FnAgainListConfigResourcesRequest: loops, laid · FnAgainEnvelopeRequest: loops, laid.
  DERIVED. THE GIVEN ROWS OF THIS SEAT. 8 by the template 'for every input the law returns true; each argument reads behind the call as it read before'; 0 by the template 'total and deterministic' (their statements: YtmjhmpgnfdincaaDoorTotals.lean).
  GIVEN WITH THE SEED: the statements are not yours to turn. If you find one false, say at which input.
  Laid BY PROGRAM, IN A SANDBOX (cutbox-rows.mjs): the forced cells as the released guide's own fill.sh prints them over the translation 1f8cecdcb80fef4c… (all of the seat's roots in one cut). By AI agents, Wed Nov 11 2026. No macro, syntax, notation, axiom, sorry.
-/
import Derived.Test.YtmjhmpgnfdincaaDoorChecked
import GoSem.Claim
import GoSem.ClaimJoined
import GoSem.ClaimMapViews
import Derived.JoinedTies
import Derived.KernelRfl
namespace Go.Proofs.YtmjhmpgnfdincaaDoor
/- THE CELL 'sum', in the pinned program and in every row, IS THE sha256 OF THE DUMP (.gsa) THAT YtmjhmpgnfdincaaDoorProg.lean LOADS. Nothing in Lean hashes anything: it is a label: what it is worth is what the hold of that sum in a sandbox is worth. -/
noncomputable def Tryd.pinned : Pinned := { name := "ytmjhmpgnfdincaadoor", sum := "1f8cecdcb80fef4cd81dd8596eac309693d16d3b2637e8dda8e14a9c1cf64f21", checked := Tryd.checked }
namespace Rows
def none {H : Type} : Left H := { results := [], args := [] }

/- WHAT THE LISTED PACKAGE-LEVEL VARIABLES READ AS WHEN THE CALL BEGINS. Each datum BY PROGRAM (the guide's laid-datum.mjs) off the statement by which the dump's own 'gosem.cut.vars' lays the variable. In a bare row this is a premise. The card (YtmjhmpgnfdincaaDoorCards.lean) ties it to the program's text. -/
def laid_pub_kmsg_pub_kmsg_inner_kbin_ErrNotEnoughData {H : Type} : DataW H := .iface "*errors.errorString" (.ptr (.agg [.lit (.string [114, 101, 115, 112, 111, 110, 115, 101, 32, 100, 105, 100, 32, 110, 111, 116, 32, 99, 111, 110, 116, 97, 105, 110, 32, 101, 110, 111, 117, 103, 104, 32, 100, 97, 116, 97, 32, 116, 111, 32, 98, 101, 32, 118, 97, 108, 105, 100])]))

/-- 'laws.FnCutUnregisterBrokerRequest': WHATEVER THE INPUT: true; the input reads as it did. -/
def fnCutUnregisterBrokerRequestSpec : ChangeSpec := { name := "fnCutUnregisterBrokerRequest", fn := fun _ => fun
  | [d1, d2, d3] => { results := [.lit (.bool true)], args := [d1, d2, d3] }
  | _ => none }
def fnCutUnregisterBrokerRequestRow : OpenClaim := { program := "ytmjhmpgnfdincaadoor", sum := "1f8cecdcb80fef4cd81dd8596eac309693d16d3b2637e8dda8e14a9c1cf64f21", func := "pub-kmsg/laws.FnCutUnregisterBrokerRequest", spec := "fnCutUnregisterBrokerRequest", inPlace := ["internal/reflectlite.ValueOf", "internal/reflectlite.Swapper", "(internal/reflectlite.Value).Len"], unfollowed := true, recurses := true, named := ["encoding/binary.BigEndian", "pub-kmsg/pub/kmsg/inner/kbin.ErrNotEnoughData"], loops := true, apart := false, laid := [("pub-kmsg/pub/kmsg/inner/kbin.ErrNotEnoughData", laid_pub_kmsg_pub_kmsg_inner_kbin_ErrNotEnoughData)] }
def FnCutUnregisterBrokerRequestSaid : Prop := fnCutUnregisterBrokerRequestRow.holds Tryd.pinned (OpenSpec.ofChange fnCutUnregisterBrokerRequestSpec)

/-- ITS FALSE NEIGHBOUR: 'it returns false'. Refute it at one input. -/
def fnCutUnregisterBrokerRequestWrong : ChangeSpec := { name := "fnCutUnregisterBrokerRequest", fn := fun _ => fun
  | [d1, d2, d3] => { results := [.lit (.bool false)], args := [d1, d2, d3] }
  | _ => none }
def FnCutUnregisterBrokerRequestWrongFalsely : Prop := fnCutUnregisterBrokerRequestRow.holds Tryd.pinned (OpenSpec.ofChange fnCutUnregisterBrokerRequestWrong)

/-- 'laws.FnAgainAddOffsetsToTxnResponse': WHATEVER THE INPUT: true; the input reads as it did. -/
def fnAgainAddOffsetsToTxnResponseSpec : ChangeSpec := { name := "fnAgainAddOffsetsToTxnResponse", fn := fun _ => fun
  | [d1, d2] => { results := [.lit (.bool true)], args := [d1, d2] }
  | _ => none }
def fnAgainAddOffsetsToTxnResponseRow : OpenClaim := { program := "ytmjhmpgnfdincaadoor", sum := "1f8cecdcb80fef4cd81dd8596eac309693d16d3b2637e8dda8e14a9c1cf64f21", func := "pub-kmsg/laws.FnAgainAddOffsetsToTxnResponse", spec := "fnAgainAddOffsetsToTxnResponse", inPlace := ["internal/reflectlite.ValueOf", "internal/reflectlite.Swapper", "(internal/reflectlite.Value).Len"], unfollowed := true, recurses := true, named := ["encoding/binary.BigEndian", "pub-kmsg/pub/kmsg/inner/kbin.ErrNotEnoughData"], loops := true, apart := false, laid := [("pub-kmsg/pub/kmsg/inner/kbin.ErrNotEnoughData", laid_pub_kmsg_pub_kmsg_inner_kbin_ErrNotEnoughData)] }
def FnAgainAddOffsetsToTxnResponseSaid : Prop := fnAgainAddOffsetsToTxnResponseRow.holds Tryd.pinned (OpenSpec.ofChange fnAgainAddOffsetsToTxnResponseSpec)

/-- ITS FALSE NEIGHBOUR: 'it returns false'. Refute it at one input. -/
def fnAgainAddOffsetsToTxnResponseWrong : ChangeSpec := { name := "fnAgainAddOffsetsToTxnResponse", fn := fun _ => fun
  | [d1, d2] => { results := [.lit (.bool false)], args := [d1, d2] }
  | _ => none }
def FnAgainAddOffsetsToTxnResponseWrongFalsely : Prop := fnAgainAddOffsetsToTxnResponseRow.holds Tryd.pinned (OpenSpec.ofChange fnAgainAddOffsetsToTxnResponseWrong)

/-- 'laws.FnAgainHeartbeatResponse': WHATEVER THE INPUT: true; the input reads as it did. -/
def fnAgainHeartbeatResponseSpec : ChangeSpec := { name := "fnAgainHeartbeatResponse", fn := fun _ => fun
  | [d1, d2] => { results := [.lit (.bool true)], args := [d1, d2] }
  | _ => none }
def fnAgainHeartbeatResponseRow : OpenClaim := { program := "ytmjhmpgnfdincaadoor", sum := "1f8cecdcb80fef4cd81dd8596eac309693d16d3b2637e8dda8e14a9c1cf64f21", func := "pub-kmsg/laws.FnAgainHeartbeatResponse", spec := "fnAgainHeartbeatResponse", inPlace := ["internal/reflectlite.ValueOf", "internal/reflectlite.Swapper", "(internal/reflectlite.Value).Len"], unfollowed := true, recurses := true, named := ["encoding/binary.BigEndian", "pub-kmsg/pub/kmsg/inner/kbin.ErrNotEnoughData"], loops := true, apart := false, laid := [("pub-kmsg/pub/kmsg/inner/kbin.ErrNotEnoughData", laid_pub_kmsg_pub_kmsg_inner_kbin_ErrNotEnoughData)] }
def FnAgainHeartbeatResponseSaid : Prop := fnAgainHeartbeatResponseRow.holds Tryd.pinned (OpenSpec.ofChange fnAgainHeartbeatResponseSpec)

/-- ITS FALSE NEIGHBOUR: 'it returns false'. Refute it at one input. -/
def fnAgainHeartbeatResponseWrong : ChangeSpec := { name := "fnAgainHeartbeatResponse", fn := fun _ => fun
  | [d1, d2] => { results := [.lit (.bool false)], args := [d1, d2] }
  | _ => none }
def FnAgainHeartbeatResponseWrongFalsely : Prop := fnAgainHeartbeatResponseRow.holds Tryd.pinned (OpenSpec.ofChange fnAgainHeartbeatResponseWrong)

/-- 'laws.FnCutBrokerRegistrationResponse': WHATEVER THE INPUT: true; the input reads as it did. -/
def fnCutBrokerRegistrationResponseSpec : ChangeSpec := { name := "fnCutBrokerRegistrationResponse", fn := fun _ => fun
  | [d1, d2, d3] => { results := [.lit (.bool true)], args := [d1, d2, d3] }
  | _ => none }
def fnCutBrokerRegistrationResponseRow : OpenClaim := { program := "ytmjhmpgnfdincaadoor", sum := "1f8cecdcb80fef4cd81dd8596eac309693d16d3b2637e8dda8e14a9c1cf64f21", func := "pub-kmsg/laws.FnCutBrokerRegistrationResponse", spec := "fnCutBrokerRegistrationResponse", inPlace := ["internal/reflectlite.ValueOf", "internal/reflectlite.Swapper", "(internal/reflectlite.Value).Len"], unfollowed := true, recurses := true, named := ["encoding/binary.BigEndian", "pub-kmsg/pub/kmsg/inner/kbin.ErrNotEnoughData"], loops := true, apart := false, laid := [("pub-kmsg/pub/kmsg/inner/kbin.ErrNotEnoughData", laid_pub_kmsg_pub_kmsg_inner_kbin_ErrNotEnoughData)] }
def FnCutBrokerRegistrationResponseSaid : Prop := fnCutBrokerRegistrationResponseRow.holds Tryd.pinned (OpenSpec.ofChange fnCutBrokerRegistrationResponseSpec)

/-- ITS FALSE NEIGHBOUR: 'it returns false'. Refute it at one input. -/
def fnCutBrokerRegistrationResponseWrong : ChangeSpec := { name := "fnCutBrokerRegistrationResponse", fn := fun _ => fun
  | [d1, d2, d3] => { results := [.lit (.bool false)], args := [d1, d2, d3] }
  | _ => none }
def FnCutBrokerRegistrationResponseWrongFalsely : Prop := fnCutBrokerRegistrationResponseRow.holds Tryd.pinned (OpenSpec.ofChange fnCutBrokerRegistrationResponseWrong)

/-- 'laws.FnCutInitProducerIDResponse': WHATEVER THE INPUT: true; the input reads as it did. -/
def fnCutInitProducerIDResponseSpec : ChangeSpec := { name := "fnCutInitProducerIDResponse", fn := fun _ => fun
  | [d1, d2, d3] => { results := [.lit (.bool true)], args := [d1, d2, d3] }
  | _ => none }
def fnCutInitProducerIDResponseRow : OpenClaim := { program := "ytmjhmpgnfdincaadoor", sum := "1f8cecdcb80fef4cd81dd8596eac309693d16d3b2637e8dda8e14a9c1cf64f21", func := "pub-kmsg/laws.FnCutInitProducerIDResponse", spec := "fnCutInitProducerIDResponse", inPlace := ["internal/reflectlite.ValueOf", "internal/reflectlite.Swapper", "(internal/reflectlite.Value).Len"], unfollowed := true, recurses := true, named := ["encoding/binary.BigEndian", "pub-kmsg/pub/kmsg/inner/kbin.ErrNotEnoughData"], loops := true, apart := false, laid := [("pub-kmsg/pub/kmsg/inner/kbin.ErrNotEnoughData", laid_pub_kmsg_pub_kmsg_inner_kbin_ErrNotEnoughData)] }
def FnCutInitProducerIDResponseSaid : Prop := fnCutInitProducerIDResponseRow.holds Tryd.pinned (OpenSpec.ofChange fnCutInitProducerIDResponseSpec)

/-- ITS FALSE NEIGHBOUR: 'it returns false'. Refute it at one input. -/
def fnCutInitProducerIDResponseWrong : ChangeSpec := { name := "fnCutInitProducerIDResponse", fn := fun _ => fun
  | [d1, d2, d3] => { results := [.lit (.bool false)], args := [d1, d2, d3] }
  | _ => none }
def FnCutInitProducerIDResponseWrongFalsely : Prop := fnCutInitProducerIDResponseRow.holds Tryd.pinned (OpenSpec.ofChange fnCutInitProducerIDResponseWrong)

/-- 'laws.FnCutRenewDelegationTokenRequest': WHATEVER THE INPUT: true; the input reads as it did. -/
def fnCutRenewDelegationTokenRequestSpec : ChangeSpec := { name := "fnCutRenewDelegationTokenRequest", fn := fun _ => fun
  | [d1, d2, d3] => { results := [.lit (.bool true)], args := [d1, d2, d3] }
  | _ => none }
def fnCutRenewDelegationTokenRequestRow : OpenClaim := { program := "ytmjhmpgnfdincaadoor", sum := "1f8cecdcb80fef4cd81dd8596eac309693d16d3b2637e8dda8e14a9c1cf64f21", func := "pub-kmsg/laws.FnCutRenewDelegationTokenRequest", spec := "fnCutRenewDelegationTokenRequest", inPlace := ["internal/reflectlite.ValueOf", "internal/reflectlite.Swapper", "(internal/reflectlite.Value).Len"], unfollowed := true, recurses := true, named := ["encoding/binary.BigEndian", "pub-kmsg/pub/kmsg/inner/kbin.ErrNotEnoughData"], loops := true, apart := false, laid := [("pub-kmsg/pub/kmsg/inner/kbin.ErrNotEnoughData", laid_pub_kmsg_pub_kmsg_inner_kbin_ErrNotEnoughData)] }
def FnCutRenewDelegationTokenRequestSaid : Prop := fnCutRenewDelegationTokenRequestRow.holds Tryd.pinned (OpenSpec.ofChange fnCutRenewDelegationTokenRequestSpec)

/-- ITS FALSE NEIGHBOUR: 'it returns false'. Refute it at one input. -/
def fnCutRenewDelegationTokenRequestWrong : ChangeSpec := { name := "fnCutRenewDelegationTokenRequest", fn := fun _ => fun
  | [d1, d2, d3] => { results := [.lit (.bool false)], args := [d1, d2, d3] }
  | _ => none }
def FnCutRenewDelegationTokenRequestWrongFalsely : Prop := fnCutRenewDelegationTokenRequestRow.holds Tryd.pinned (OpenSpec.ofChange fnCutRenewDelegationTokenRequestWrong)

/-- 'laws.FnAgainListConfigResourcesRequest': WHATEVER THE INPUT: true; the input reads as it did. -/
def fnAgainListConfigResourcesRequestSpec : ChangeSpec := { name := "fnAgainListConfigResourcesRequest", fn := fun _ => fun
  | [d1, d2] => { results := [.lit (.bool true)], args := [d1, d2] }
  | _ => none }
def fnAgainListConfigResourcesRequestRow : OpenClaim := { program := "ytmjhmpgnfdincaadoor", sum := "1f8cecdcb80fef4cd81dd8596eac309693d16d3b2637e8dda8e14a9c1cf64f21", func := "pub-kmsg/laws.FnAgainListConfigResourcesRequest", spec := "fnAgainListConfigResourcesRequest", inPlace := ["internal/reflectlite.ValueOf", "internal/reflectlite.Swapper", "(internal/reflectlite.Value).Len"], unfollowed := true, recurses := true, named := ["encoding/binary.BigEndian", "pub-kmsg/pub/kmsg/inner/kbin.ErrNotEnoughData"], loops := true, apart := false, laid := [("pub-kmsg/pub/kmsg/inner/kbin.ErrNotEnoughData", laid_pub_kmsg_pub_kmsg_inner_kbin_ErrNotEnoughData)] }
def FnAgainListConfigResourcesRequestSaid : Prop := fnAgainListConfigResourcesRequestRow.holds Tryd.pinned (OpenSpec.ofChange fnAgainListConfigResourcesRequestSpec)

/-- ITS FALSE NEIGHBOUR: 'it returns false'. Refute it at one input. -/
def fnAgainListConfigResourcesRequestWrong : ChangeSpec := { name := "fnAgainListConfigResourcesRequest", fn := fun _ => fun
  | [d1, d2] => { results := [.lit (.bool false)], args := [d1, d2] }
  | _ => none }
def FnAgainListConfigResourcesRequestWrongFalsely : Prop := fnAgainListConfigResourcesRequestRow.holds Tryd.pinned (OpenSpec.ofChange fnAgainListConfigResourcesRequestWrong)

/-- 'laws.FnAgainEnvelopeRequest': WHATEVER THE INPUT: true; the input reads as it did. -/
def fnAgainEnvelopeRequestSpec : ChangeSpec := { name := "fnAgainEnvelopeRequest", fn := fun _ => fun
  | [d1, d2] => { results := [.lit (.bool true)], args := [d1, d2] }
  | _ => none }
def fnAgainEnvelopeRequestRow : OpenClaim := { program := "ytmjhmpgnfdincaadoor", sum := "1f8cecdcb80fef4cd81dd8596eac309693d16d3b2637e8dda8e14a9c1cf64f21", func := "pub-kmsg/laws.FnAgainEnvelopeRequest", spec := "fnAgainEnvelopeRequest", inPlace := ["internal/reflectlite.ValueOf", "internal/reflectlite.Swapper", "(internal/reflectlite.Value).Len"], unfollowed := true, recurses := true, named := ["encoding/binary.BigEndian", "pub-kmsg/pub/kmsg/inner/kbin.ErrNotEnoughData"], loops := true, apart := false, laid := [("pub-kmsg/pub/kmsg/inner/kbin.ErrNotEnoughData", laid_pub_kmsg_pub_kmsg_inner_kbin_ErrNotEnoughData)] }
def FnAgainEnvelopeRequestSaid : Prop := fnAgainEnvelopeRequestRow.holds Tryd.pinned (OpenSpec.ofChange fnAgainEnvelopeRequestSpec)

/-- ITS FALSE NEIGHBOUR: 'it returns false'. Refute it at one input. -/
def fnAgainEnvelopeRequestWrong : ChangeSpec := { name := "fnAgainEnvelopeRequest", fn := fun _ => fun
  | [d1, d2] => { results := [.lit (.bool false)], args := [d1, d2] }
  | _ => none }
def FnAgainEnvelopeRequestWrongFalsely : Prop := fnAgainEnvelopeRequestRow.holds Tryd.pinned (OpenSpec.ofChange fnAgainEnvelopeRequestWrong)

/- THE SECOND FORM. 'bulk': how many values and letters a reading holds, each counted each time it is reached (what is shared counts as often as it is met; a slice's spare places count too). A statement '..UptoSaid' is the law's where the arguments, and the package variables that the reading takes, are together of bulk at most 1048576: NARROWER than '..Said'. Prove '..Said' where nothing that the law and all that it calls make is longer than what came in: it says more and counts as full. Else prove '..UptoSaid'. A law counts once. -/
mutual
def uptoBulk {H : Type} : DataW H → Nat
  | .lit (.string bytes) => bytes.length + 1
  | .lit _ => 1
  | .nil => 1
  | .ptr d => uptoBulk d + 1
  | .slice elems spare => uptoBulkAll elems + uptoBulkAll spare + 1
  | .agg parts => uptoBulkAll parts + 1
  | .iface _ d => uptoBulk d + 1
  | .map entries => uptoBulkEntries entries + 1
  | .held _ => 1
def uptoBulkAll {H : Type} : List (DataW H) → Nat
  | [] => 0
  | d :: r => uptoBulk d + uptoBulkAll r
def uptoBulkEntries {H : Type} : List (Lit × DataW H) → Nat
  | [] => 0
  | x :: r => uptoBulkEntry x + uptoBulkEntries r
def uptoBulkEntry {H : Type} : Lit × DataW H → Nat
  | (.string bytes, d) => bytes.length + uptoBulk d + 1
  | (_, d) => uptoBulk d + 1
 end
def uptoSmall : (H : Type) → List (DataW H) → Bool := fun _ ds => decide (uptoBulkAll ds ≤ 1048576)
def OpenSpec.upto (s : _root_.Go.ChangeSpec) : _root_.Go.OpenSpec := { _root_.Go.OpenSpec.ofChange s with cond := some uptoSmall }

/-- 'laws.FnCutUnregisterBrokerRequest', WHERE WHAT IT READS IS OF BULK AT MOST 1048576: true; the input reads as it did. -/
def fnCutUnregisterBrokerRequestUptoRow : OpenClaim := { program := "ytmjhmpgnfdincaadoor", sum := "1f8cecdcb80fef4cd81dd8596eac309693d16d3b2637e8dda8e14a9c1cf64f21", func := "pub-kmsg/laws.FnCutUnregisterBrokerRequest", spec := "fnCutUnregisterBrokerRequest", inPlace := ["internal/reflectlite.ValueOf", "internal/reflectlite.Swapper", "(internal/reflectlite.Value).Len"], unfollowed := true, recurses := true, named := ["encoding/binary.BigEndian", "pub-kmsg/pub/kmsg/inner/kbin.ErrNotEnoughData"], loops := true, apart := false, laid := [("pub-kmsg/pub/kmsg/inner/kbin.ErrNotEnoughData", laid_pub_kmsg_pub_kmsg_inner_kbin_ErrNotEnoughData)], narrowed := true }
def FnCutUnregisterBrokerRequestUptoSaid : Prop := fnCutUnregisterBrokerRequestUptoRow.holds Tryd.pinned (OpenSpec.upto fnCutUnregisterBrokerRequestSpec)

/-- 'laws.FnAgainAddOffsetsToTxnResponse', WHERE WHAT IT READS IS OF BULK AT MOST 1048576: true; the input reads as it did. -/
def fnAgainAddOffsetsToTxnResponseUptoRow : OpenClaim := { program := "ytmjhmpgnfdincaadoor", sum := "1f8cecdcb80fef4cd81dd8596eac309693d16d3b2637e8dda8e14a9c1cf64f21", func := "pub-kmsg/laws.FnAgainAddOffsetsToTxnResponse", spec := "fnAgainAddOffsetsToTxnResponse", inPlace := ["internal/reflectlite.ValueOf", "internal/reflectlite.Swapper", "(internal/reflectlite.Value).Len"], unfollowed := true, recurses := true, named := ["encoding/binary.BigEndian", "pub-kmsg/pub/kmsg/inner/kbin.ErrNotEnoughData"], loops := true, apart := false, laid := [("pub-kmsg/pub/kmsg/inner/kbin.ErrNotEnoughData", laid_pub_kmsg_pub_kmsg_inner_kbin_ErrNotEnoughData)], narrowed := true }
def FnAgainAddOffsetsToTxnResponseUptoSaid : Prop := fnAgainAddOffsetsToTxnResponseUptoRow.holds Tryd.pinned (OpenSpec.upto fnAgainAddOffsetsToTxnResponseSpec)

/-- 'laws.FnAgainHeartbeatResponse', WHERE WHAT IT READS IS OF BULK AT MOST 1048576: true; the input reads as it did. -/
def fnAgainHeartbeatResponseUptoRow : OpenClaim := { program := "ytmjhmpgnfdincaadoor", sum := "1f8cecdcb80fef4cd81dd8596eac309693d16d3b2637e8dda8e14a9c1cf64f21", func := "pub-kmsg/laws.FnAgainHeartbeatResponse", spec := "fnAgainHeartbeatResponse", inPlace := ["internal/reflectlite.ValueOf", "internal/reflectlite.Swapper", "(internal/reflectlite.Value).Len"], unfollowed := true, recurses := true, named := ["encoding/binary.BigEndian", "pub-kmsg/pub/kmsg/inner/kbin.ErrNotEnoughData"], loops := true, apart := false, laid := [("pub-kmsg/pub/kmsg/inner/kbin.ErrNotEnoughData", laid_pub_kmsg_pub_kmsg_inner_kbin_ErrNotEnoughData)], narrowed := true }
def FnAgainHeartbeatResponseUptoSaid : Prop := fnAgainHeartbeatResponseUptoRow.holds Tryd.pinned (OpenSpec.upto fnAgainHeartbeatResponseSpec)

/-- 'laws.FnCutBrokerRegistrationResponse', WHERE WHAT IT READS IS OF BULK AT MOST 1048576: true; the input reads as it did. -/
def fnCutBrokerRegistrationResponseUptoRow : OpenClaim := { program := "ytmjhmpgnfdincaadoor", sum := "1f8cecdcb80fef4cd81dd8596eac309693d16d3b2637e8dda8e14a9c1cf64f21", func := "pub-kmsg/laws.FnCutBrokerRegistrationResponse", spec := "fnCutBrokerRegistrationResponse", inPlace := ["internal/reflectlite.ValueOf", "internal/reflectlite.Swapper", "(internal/reflectlite.Value).Len"], unfollowed := true, recurses := true, named := ["encoding/binary.BigEndian", "pub-kmsg/pub/kmsg/inner/kbin.ErrNotEnoughData"], loops := true, apart := false, laid := [("pub-kmsg/pub/kmsg/inner/kbin.ErrNotEnoughData", laid_pub_kmsg_pub_kmsg_inner_kbin_ErrNotEnoughData)], narrowed := true }
def FnCutBrokerRegistrationResponseUptoSaid : Prop := fnCutBrokerRegistrationResponseUptoRow.holds Tryd.pinned (OpenSpec.upto fnCutBrokerRegistrationResponseSpec)

/-- 'laws.FnCutInitProducerIDResponse', WHERE WHAT IT READS IS OF BULK AT MOST 1048576: true; the input reads as it did. -/
def fnCutInitProducerIDResponseUptoRow : OpenClaim := { program := "ytmjhmpgnfdincaadoor", sum := "1f8cecdcb80fef4cd81dd8596eac309693d16d3b2637e8dda8e14a9c1cf64f21", func := "pub-kmsg/laws.FnCutInitProducerIDResponse", spec := "fnCutInitProducerIDResponse", inPlace := ["internal/reflectlite.ValueOf", "internal/reflectlite.Swapper", "(internal/reflectlite.Value).Len"], unfollowed := true, recurses := true, named := ["encoding/binary.BigEndian", "pub-kmsg/pub/kmsg/inner/kbin.ErrNotEnoughData"], loops := true, apart := false, laid := [("pub-kmsg/pub/kmsg/inner/kbin.ErrNotEnoughData", laid_pub_kmsg_pub_kmsg_inner_kbin_ErrNotEnoughData)], narrowed := true }
def FnCutInitProducerIDResponseUptoSaid : Prop := fnCutInitProducerIDResponseUptoRow.holds Tryd.pinned (OpenSpec.upto fnCutInitProducerIDResponseSpec)

/-- 'laws.FnCutRenewDelegationTokenRequest', WHERE WHAT IT READS IS OF BULK AT MOST 1048576: true; the input reads as it did. -/
def fnCutRenewDelegationTokenRequestUptoRow : OpenClaim := { program := "ytmjhmpgnfdincaadoor", sum := "1f8cecdcb80fef4cd81dd8596eac309693d16d3b2637e8dda8e14a9c1cf64f21", func := "pub-kmsg/laws.FnCutRenewDelegationTokenRequest", spec := "fnCutRenewDelegationTokenRequest", inPlace := ["internal/reflectlite.ValueOf", "internal/reflectlite.Swapper", "(internal/reflectlite.Value).Len"], unfollowed := true, recurses := true, named := ["encoding/binary.BigEndian", "pub-kmsg/pub/kmsg/inner/kbin.ErrNotEnoughData"], loops := true, apart := false, laid := [("pub-kmsg/pub/kmsg/inner/kbin.ErrNotEnoughData", laid_pub_kmsg_pub_kmsg_inner_kbin_ErrNotEnoughData)], narrowed := true }
def FnCutRenewDelegationTokenRequestUptoSaid : Prop := fnCutRenewDelegationTokenRequestUptoRow.holds Tryd.pinned (OpenSpec.upto fnCutRenewDelegationTokenRequestSpec)

/-- 'laws.FnAgainListConfigResourcesRequest', WHERE WHAT IT READS IS OF BULK AT MOST 1048576: true; the input reads as it did. -/
def fnAgainListConfigResourcesRequestUptoRow : OpenClaim := { program := "ytmjhmpgnfdincaadoor", sum := "1f8cecdcb80fef4cd81dd8596eac309693d16d3b2637e8dda8e14a9c1cf64f21", func := "pub-kmsg/laws.FnAgainListConfigResourcesRequest", spec := "fnAgainListConfigResourcesRequest", inPlace := ["internal/reflectlite.ValueOf", "internal/reflectlite.Swapper", "(internal/reflectlite.Value).Len"], unfollowed := true, recurses := true, named := ["encoding/binary.BigEndian", "pub-kmsg/pub/kmsg/inner/kbin.ErrNotEnoughData"], loops := true, apart := false, laid := [("pub-kmsg/pub/kmsg/inner/kbin.ErrNotEnoughData", laid_pub_kmsg_pub_kmsg_inner_kbin_ErrNotEnoughData)], narrowed := true }
def FnAgainListConfigResourcesRequestUptoSaid : Prop := fnAgainListConfigResourcesRequestUptoRow.holds Tryd.pinned (OpenSpec.upto fnAgainListConfigResourcesRequestSpec)

/-- 'laws.FnAgainEnvelopeRequest', WHERE WHAT IT READS IS OF BULK AT MOST 1048576: true; the input reads as it did. -/
def fnAgainEnvelopeRequestUptoRow : OpenClaim := { program := "ytmjhmpgnfdincaadoor", sum := "1f8cecdcb80fef4cd81dd8596eac309693d16d3b2637e8dda8e14a9c1cf64f21", func := "pub-kmsg/laws.FnAgainEnvelopeRequest", spec := "fnAgainEnvelopeRequest", inPlace := ["internal/reflectlite.ValueOf", "internal/reflectlite.Swapper", "(internal/reflectlite.Value).Len"], unfollowed := true, recurses := true, named := ["encoding/binary.BigEndian", "pub-kmsg/pub/kmsg/inner/kbin.ErrNotEnoughData"], loops := true, apart := false, laid := [("pub-kmsg/pub/kmsg/inner/kbin.ErrNotEnoughData", laid_pub_kmsg_pub_kmsg_inner_kbin_ErrNotEnoughData)], narrowed := true }
def FnAgainEnvelopeRequestUptoSaid : Prop := fnAgainEnvelopeRequestUptoRow.holds Tryd.pinned (OpenSpec.upto fnAgainEnvelopeRequestSpec)

end Rows
end Go.Proofs.YtmjhmpgnfdincaaDoor
