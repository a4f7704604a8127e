/-
  No cell of these rows narrows 'for every input' (looked for: loops, veiled, ifaces, maps, wideKeys, modest, calm, conditions, laid).
  DERIVED. THE GIVEN ROWS OF THIS SEAT. 7 by the template 'for every input the law returns true; each argument reads behind the call as it read before'; 0 by the template 'total and deterministic' (their statements: YtjfelbjkmpgbgaaTotals.lean).
  GIVEN WITH THE SEED: the statements are not yours to turn. If you find one false, say at which input.
  Laid BY PROGRAM, IN A SANDBOX (cutbox-rows.mjs): the forced cells as the released guide's own fill.sh prints them over the translation 3d41e5210356c7f9… (all of the seat's roots in one cut). By AI agents, Wed Nov 11 2026. No macro, syntax, notation, axiom, sorry.
-/
import Derived.Test.YtjfelbjkmpgbgaaChecked
import GoSem.Claim
import GoSem.ClaimJoined
import GoSem.ClaimMapViews
import Derived.JoinedTies
import Derived.KernelRfl
namespace Go.Proofs.Ytjfelbjkmpgbgaa
/- THE CELL 'sum', in the pinned program and in every row, IS THE sha256 OF THE DUMP (.gsa) THAT YtjfelbjkmpgbgaaProg.lean LOADS. Nothing in Lean hashes anything: it is a label: what it is worth is what the hold of that sum in a sandbox is worth. -/
noncomputable def Try.pinned : Pinned := { name := "ytjfelbjkmpgbgaa", sum := "3d41e5210356c7f9b38e023e3f338df0b046a111e1296a3f1f327106348bb007", checked := Try.checked }
namespace Rows
def none {H : Type} : Left H := { results := [], args := [] }

/-- 'laws.FnNewBrokerRegistrationResponse': WHATEVER THE INPUT: true; the input reads as it did. -/
def fnNewBrokerRegistrationResponseSpec : ChangeSpec := { name := "fnNewBrokerRegistrationResponse", fn := fun _ => fun
  | [d] => { results := [.lit (.bool true)], args := [d] }
  | _ => none }
def fnNewBrokerRegistrationResponseRow : OpenClaim := { program := "ytjfelbjkmpgbgaa", sum := "3d41e5210356c7f9b38e023e3f338df0b046a111e1296a3f1f327106348bb007", func := "pub-kmsg/laws.FnNewBrokerRegistrationResponse", spec := "fnNewBrokerRegistrationResponse", inPlace := ["internal/reflectlite.ValueOf", "internal/reflectlite.Swapper", "(internal/reflectlite.Value).Len"], unfollowed := true, recurses := true, apart := false }
def FnNewBrokerRegistrationResponseSaid : Prop := fnNewBrokerRegistrationResponseRow.holds Try.pinned (OpenSpec.ofChange fnNewBrokerRegistrationResponseSpec)

/-- ITS FALSE NEIGHBOUR: 'it returns false'. Refute it at one input. -/
def fnNewBrokerRegistrationResponseWrong : ChangeSpec := { name := "fnNewBrokerRegistrationResponse", fn := fun _ => fun
  | [d] => { results := [.lit (.bool false)], args := [d] }
  | _ => none }
def FnNewBrokerRegistrationResponseWrongFalsely : Prop := fnNewBrokerRegistrationResponseRow.holds Try.pinned (OpenSpec.ofChange fnNewBrokerRegistrationResponseWrong)

/-- 'laws.FnNewRenewDelegationTokenRequest': WHATEVER THE INPUT: true; the input reads as it did. -/
def fnNewRenewDelegationTokenRequestSpec : ChangeSpec := { name := "fnNewRenewDelegationTokenRequest", fn := fun _ => fun
  | [d] => { results := [.lit (.bool true)], args := [d] }
  | _ => none }
def fnNewRenewDelegationTokenRequestRow : OpenClaim := { program := "ytjfelbjkmpgbgaa", sum := "3d41e5210356c7f9b38e023e3f338df0b046a111e1296a3f1f327106348bb007", func := "pub-kmsg/laws.FnNewRenewDelegationTokenRequest", spec := "fnNewRenewDelegationTokenRequest", inPlace := ["internal/reflectlite.ValueOf", "internal/reflectlite.Swapper", "(internal/reflectlite.Value).Len"], unfollowed := true, recurses := true, apart := false }
def FnNewRenewDelegationTokenRequestSaid : Prop := fnNewRenewDelegationTokenRequestRow.holds Try.pinned (OpenSpec.ofChange fnNewRenewDelegationTokenRequestSpec)

/-- ITS FALSE NEIGHBOUR: 'it returns false'. Refute it at one input. -/
def fnNewRenewDelegationTokenRequestWrong : ChangeSpec := { name := "fnNewRenewDelegationTokenRequest", fn := fun _ => fun
  | [d] => { results := [.lit (.bool false)], args := [d] }
  | _ => none }
def FnNewRenewDelegationTokenRequestWrongFalsely : Prop := fnNewRenewDelegationTokenRequestRow.holds Try.pinned (OpenSpec.ofChange fnNewRenewDelegationTokenRequestWrong)

/-- 'laws.FnNewInitProducerIDResponse': WHATEVER THE INPUT: true; the input reads as it did. -/
def fnNewInitProducerIDResponseSpec : ChangeSpec := { name := "fnNewInitProducerIDResponse", fn := fun _ => fun
  | [d] => { results := [.lit (.bool true)], args := [d] }
  | _ => none }
def fnNewInitProducerIDResponseRow : OpenClaim := { program := "ytjfelbjkmpgbgaa", sum := "3d41e5210356c7f9b38e023e3f338df0b046a111e1296a3f1f327106348bb007", func := "pub-kmsg/laws.FnNewInitProducerIDResponse", spec := "fnNewInitProducerIDResponse", inPlace := ["internal/reflectlite.ValueOf", "internal/reflectlite.Swapper", "(internal/reflectlite.Value).Len"], unfollowed := true, recurses := true, apart := false }
def FnNewInitProducerIDResponseSaid : Prop := fnNewInitProducerIDResponseRow.holds Try.pinned (OpenSpec.ofChange fnNewInitProducerIDResponseSpec)

/-- ITS FALSE NEIGHBOUR: 'it returns false'. Refute it at one input. -/
def fnNewInitProducerIDResponseWrong : ChangeSpec := { name := "fnNewInitProducerIDResponse", fn := fun _ => fun
  | [d] => { results := [.lit (.bool false)], args := [d] }
  | _ => none }
def FnNewInitProducerIDResponseWrongFalsely : Prop := fnNewInitProducerIDResponseRow.holds Try.pinned (OpenSpec.ofChange fnNewInitProducerIDResponseWrong)

/-- 'laws.FnNewAddRaftVoterResponse': WHATEVER THE INPUT: true; the input reads as it did. -/
def fnNewAddRaftVoterResponseSpec : ChangeSpec := { name := "fnNewAddRaftVoterResponse", fn := fun _ => fun
  | [d] => { results := [.lit (.bool true)], args := [d] }
  | _ => none }
def fnNewAddRaftVoterResponseRow : OpenClaim := { program := "ytjfelbjkmpgbgaa", sum := "3d41e5210356c7f9b38e023e3f338df0b046a111e1296a3f1f327106348bb007", func := "pub-kmsg/laws.FnNewAddRaftVoterResponse", spec := "fnNewAddRaftVoterResponse", inPlace := ["internal/reflectlite.ValueOf", "internal/reflectlite.Swapper", "(internal/reflectlite.Value).Len"], unfollowed := true, recurses := true, apart := false }
def FnNewAddRaftVoterResponseSaid : Prop := fnNewAddRaftVoterResponseRow.holds Try.pinned (OpenSpec.ofChange fnNewAddRaftVoterResponseSpec)

/-- ITS FALSE NEIGHBOUR: 'it returns false'. Refute it at one input. -/
def fnNewAddRaftVoterResponseWrong : ChangeSpec := { name := "fnNewAddRaftVoterResponse", fn := fun _ => fun
  | [d] => { results := [.lit (.bool false)], args := [d] }
  | _ => none }
def FnNewAddRaftVoterResponseWrongFalsely : Prop := fnNewAddRaftVoterResponseRow.holds Try.pinned (OpenSpec.ofChange fnNewAddRaftVoterResponseWrong)

/-- 'laws.FnNewDescribeGroupsRequest': WHATEVER THE INPUT: true; the input reads as it did. -/
def fnNewDescribeGroupsRequestSpec : ChangeSpec := { name := "fnNewDescribeGroupsRequest", fn := fun _ => fun
  | [d] => { results := [.lit (.bool true)], args := [d] }
  | _ => none }
def fnNewDescribeGroupsRequestRow : OpenClaim := { program := "ytjfelbjkmpgbgaa", sum := "3d41e5210356c7f9b38e023e3f338df0b046a111e1296a3f1f327106348bb007", func := "pub-kmsg/laws.FnNewDescribeGroupsRequest", spec := "fnNewDescribeGroupsRequest", inPlace := ["internal/reflectlite.ValueOf", "internal/reflectlite.Swapper", "(internal/reflectlite.Value).Len"], unfollowed := true, recurses := true, apart := false }
def FnNewDescribeGroupsRequestSaid : Prop := fnNewDescribeGroupsRequestRow.holds Try.pinned (OpenSpec.ofChange fnNewDescribeGroupsRequestSpec)

/-- ITS FALSE NEIGHBOUR: 'it returns false'. Refute it at one input. -/
def fnNewDescribeGroupsRequestWrong : ChangeSpec := { name := "fnNewDescribeGroupsRequest", fn := fun _ => fun
  | [d] => { results := [.lit (.bool false)], args := [d] }
  | _ => none }
def FnNewDescribeGroupsRequestWrongFalsely : Prop := fnNewDescribeGroupsRequestRow.holds Try.pinned (OpenSpec.ofChange fnNewDescribeGroupsRequestWrong)

/-- 'laws.FnNewAlterShareGroupOffsetsRequest': WHATEVER THE INPUT: true; the input reads as it did. -/
def fnNewAlterShareGroupOffsetsRequestSpec : ChangeSpec := { name := "fnNewAlterShareGroupOffsetsRequest", fn := fun _ => fun
  | [d] => { results := [.lit (.bool true)], args := [d] }
  | _ => none }
def fnNewAlterShareGroupOffsetsRequestRow : OpenClaim := { program := "ytjfelbjkmpgbgaa", sum := "3d41e5210356c7f9b38e023e3f338df0b046a111e1296a3f1f327106348bb007", func := "pub-kmsg/laws.FnNewAlterShareGroupOffsetsRequest", spec := "fnNewAlterShareGroupOffsetsRequest", inPlace := ["internal/reflectlite.ValueOf", "internal/reflectlite.Swapper", "(internal/reflectlite.Value).Len"], unfollowed := true, recurses := true, apart := false }
def FnNewAlterShareGroupOffsetsRequestSaid : Prop := fnNewAlterShareGroupOffsetsRequestRow.holds Try.pinned (OpenSpec.ofChange fnNewAlterShareGroupOffsetsRequestSpec)

/-- ITS FALSE NEIGHBOUR: 'it returns false'. Refute it at one input. -/
def fnNewAlterShareGroupOffsetsRequestWrong : ChangeSpec := { name := "fnNewAlterShareGroupOffsetsRequest", fn := fun _ => fun
  | [d] => { results := [.lit (.bool false)], args := [d] }
  | _ => none }
def FnNewAlterShareGroupOffsetsRequestWrongFalsely : Prop := fnNewAlterShareGroupOffsetsRequestRow.holds Try.pinned (OpenSpec.ofChange fnNewAlterShareGroupOffsetsRequestWrong)

/-- 'laws.FnNewDeleteShareGroupStateResponse': WHATEVER THE INPUT: true; the input reads as it did. -/
def fnNewDeleteShareGroupStateResponseSpec : ChangeSpec := { name := "fnNewDeleteShareGroupStateResponse", fn := fun _ => fun
  | [d] => { results := [.lit (.bool true)], args := [d] }
  | _ => none }
def fnNewDeleteShareGroupStateResponseRow : OpenClaim := { program := "ytjfelbjkmpgbgaa", sum := "3d41e5210356c7f9b38e023e3f338df0b046a111e1296a3f1f327106348bb007", func := "pub-kmsg/laws.FnNewDeleteShareGroupStateResponse", spec := "fnNewDeleteShareGroupStateResponse", inPlace := ["internal/reflectlite.ValueOf", "internal/reflectlite.Swapper", "(internal/reflectlite.Value).Len"], unfollowed := true, recurses := true, apart := false }
def FnNewDeleteShareGroupStateResponseSaid : Prop := fnNewDeleteShareGroupStateResponseRow.holds Try.pinned (OpenSpec.ofChange fnNewDeleteShareGroupStateResponseSpec)

/-- ITS FALSE NEIGHBOUR: 'it returns false'. Refute it at one input. -/
def fnNewDeleteShareGroupStateResponseWrong : ChangeSpec := { name := "fnNewDeleteShareGroupStateResponse", fn := fun _ => fun
  | [d] => { results := [.lit (.bool false)], args := [d] }
  | _ => none }
def FnNewDeleteShareGroupStateResponseWrongFalsely : Prop := fnNewDeleteShareGroupStateResponseRow.holds Try.pinned (OpenSpec.ofChange fnNewDeleteShareGroupStateResponseWrong)

/- THE SECOND FORM. 'bulk': how many values and letters a reading holds, each counted each time it is reached (what is shared counts as often as it is met; a slice's spare places count too). A statement '..UptoSaid' is the law's where the arguments, and the package variables that the reading takes, are together of bulk at most 1048576: NARROWER than '..Said'. Prove '..Said' where nothing that the law and all that it calls make is longer than what came in: it says more and counts as full. Else prove '..UptoSaid'. A law counts once. -/
mutual
def uptoBulk {H : Type} : DataW H → Nat
  | .lit (.string bytes) => bytes.length + 1
  | .lit _ => 1
  | .nil => 1
  | .ptr d => uptoBulk d + 1
  | .slice elems spare => uptoBulkAll elems + uptoBulkAll spare + 1
  | .agg parts => uptoBulkAll parts + 1
  | .iface _ d => uptoBulk d + 1
  | .map entries => uptoBulkEntries entries + 1
  | .held _ => 1
def uptoBulkAll {H : Type} : List (DataW H) → Nat
  | [] => 0
  | d :: r => uptoBulk d + uptoBulkAll r
def uptoBulkEntries {H : Type} : List (Lit × DataW H) → Nat
  | [] => 0
  | x :: r => uptoBulkEntry x + uptoBulkEntries r
def uptoBulkEntry {H : Type} : Lit × DataW H → Nat
  | (.string bytes, d) => bytes.length + uptoBulk d + 1
  | (_, d) => uptoBulk d + 1
 end
def uptoSmall : (H : Type) → List (DataW H) → Bool := fun _ ds => decide (uptoBulkAll ds ≤ 1048576)
def OpenSpec.upto (s : _root_.Go.ChangeSpec) : _root_.Go.OpenSpec := { _root_.Go.OpenSpec.ofChange s with cond := some uptoSmall }

/-- 'laws.FnNewBrokerRegistrationResponse', WHERE WHAT IT READS IS OF BULK AT MOST 1048576: true; the input reads as it did. -/
def fnNewBrokerRegistrationResponseUptoRow : OpenClaim := { program := "ytjfelbjkmpgbgaa", sum := "3d41e5210356c7f9b38e023e3f338df0b046a111e1296a3f1f327106348bb007", func := "pub-kmsg/laws.FnNewBrokerRegistrationResponse", spec := "fnNewBrokerRegistrationResponse", inPlace := ["internal/reflectlite.ValueOf", "internal/reflectlite.Swapper", "(internal/reflectlite.Value).Len"], unfollowed := true, recurses := true, apart := false, narrowed := true }
def FnNewBrokerRegistrationResponseUptoSaid : Prop := fnNewBrokerRegistrationResponseUptoRow.holds Try.pinned (OpenSpec.upto fnNewBrokerRegistrationResponseSpec)

/-- 'laws.FnNewRenewDelegationTokenRequest', WHERE WHAT IT READS IS OF BULK AT MOST 1048576: true; the input reads as it did. -/
def fnNewRenewDelegationTokenRequestUptoRow : OpenClaim := { program := "ytjfelbjkmpgbgaa", sum := "3d41e5210356c7f9b38e023e3f338df0b046a111e1296a3f1f327106348bb007", func := "pub-kmsg/laws.FnNewRenewDelegationTokenRequest", spec := "fnNewRenewDelegationTokenRequest", inPlace := ["internal/reflectlite.ValueOf", "internal/reflectlite.Swapper", "(internal/reflectlite.Value).Len"], unfollowed := true, recurses := true, apart := false, narrowed := true }
def FnNewRenewDelegationTokenRequestUptoSaid : Prop := fnNewRenewDelegationTokenRequestUptoRow.holds Try.pinned (OpenSpec.upto fnNewRenewDelegationTokenRequestSpec)

/-- 'laws.FnNewInitProducerIDResponse', WHERE WHAT IT READS IS OF BULK AT MOST 1048576: true; the input reads as it did. -/
def fnNewInitProducerIDResponseUptoRow : OpenClaim := { program := "ytjfelbjkmpgbgaa", sum := "3d41e5210356c7f9b38e023e3f338df0b046a111e1296a3f1f327106348bb007", func := "pub-kmsg/laws.FnNewInitProducerIDResponse", spec := "fnNewInitProducerIDResponse", inPlace := ["internal/reflectlite.ValueOf", "internal/reflectlite.Swapper", "(internal/reflectlite.Value).Len"], unfollowed := true, recurses := true, apart := false, narrowed := true }
def FnNewInitProducerIDResponseUptoSaid : Prop := fnNewInitProducerIDResponseUptoRow.holds Try.pinned (OpenSpec.upto fnNewInitProducerIDResponseSpec)

/-- 'laws.FnNewAddRaftVoterResponse', WHERE WHAT IT READS IS OF BULK AT MOST 1048576: true; the input reads as it did. -/
def fnNewAddRaftVoterResponseUptoRow : OpenClaim := { program := "ytjfelbjkmpgbgaa", sum := "3d41e5210356c7f9b38e023e3f338df0b046a111e1296a3f1f327106348bb007", func := "pub-kmsg/laws.FnNewAddRaftVoterResponse", spec := "fnNewAddRaftVoterResponse", inPlace := ["internal/reflectlite.ValueOf", "internal/reflectlite.Swapper", "(internal/reflectlite.Value).Len"], unfollowed := true, recurses := true, apart := false, narrowed := true }
def FnNewAddRaftVoterResponseUptoSaid : Prop := fnNewAddRaftVoterResponseUptoRow.holds Try.pinned (OpenSpec.upto fnNewAddRaftVoterResponseSpec)

/-- 'laws.FnNewDescribeGroupsRequest', WHERE WHAT IT READS IS OF BULK AT MOST 1048576: true; the input reads as it did. -/
def fnNewDescribeGroupsRequestUptoRow : OpenClaim := { program := "ytjfelbjkmpgbgaa", sum := "3d41e5210356c7f9b38e023e3f338df0b046a111e1296a3f1f327106348bb007", func := "pub-kmsg/laws.FnNewDescribeGroupsRequest", spec := "fnNewDescribeGroupsRequest", inPlace := ["internal/reflectlite.ValueOf", "internal/reflectlite.Swapper", "(internal/reflectlite.Value).Len"], unfollowed := true, recurses := true, apart := false, narrowed := true }
def FnNewDescribeGroupsRequestUptoSaid : Prop := fnNewDescribeGroupsRequestUptoRow.holds Try.pinned (OpenSpec.upto fnNewDescribeGroupsRequestSpec)

/-- 'laws.FnNewAlterShareGroupOffsetsRequest', WHERE WHAT IT READS IS OF BULK AT MOST 1048576: true; the input reads as it did. -/
def fnNewAlterShareGroupOffsetsRequestUptoRow : OpenClaim := { program := "ytjfelbjkmpgbgaa", sum := "3d41e5210356c7f9b38e023e3f338df0b046a111e1296a3f1f327106348bb007", func := "pub-kmsg/laws.FnNewAlterShareGroupOffsetsRequest", spec := "fnNewAlterShareGroupOffsetsRequest", inPlace := ["internal/reflectlite.ValueOf", "internal/reflectlite.Swapper", "(internal/reflectlite.Value).Len"], unfollowed := true, recurses := true, apart := false, narrowed := true }
def FnNewAlterShareGroupOffsetsRequestUptoSaid : Prop := fnNewAlterShareGroupOffsetsRequestUptoRow.holds Try.pinned (OpenSpec.upto fnNewAlterShareGroupOffsetsRequestSpec)

/-- 'laws.FnNewDeleteShareGroupStateResponse', WHERE WHAT IT READS IS OF BULK AT MOST 1048576: true; the input reads as it did. -/
def fnNewDeleteShareGroupStateResponseUptoRow : OpenClaim := { program := "ytjfelbjkmpgbgaa", sum := "3d41e5210356c7f9b38e023e3f338df0b046a111e1296a3f1f327106348bb007", func := "pub-kmsg/laws.FnNewDeleteShareGroupStateResponse", spec := "fnNewDeleteShareGroupStateResponse", inPlace := ["internal/reflectlite.ValueOf", "internal/reflectlite.Swapper", "(internal/reflectlite.Value).Len"], unfollowed := true, recurses := true, apart := false, narrowed := true }
def FnNewDeleteShareGroupStateResponseUptoSaid : Prop := fnNewDeleteShareGroupStateResponseUptoRow.holds Try.pinned (OpenSpec.upto fnNewDeleteShareGroupStateResponseSpec)

end Rows
end Go.Proofs.Ytjfelbjkmpgbgaa
