/-
  No cell of these rows narrows 'for every input' (looked for: loops, veiled, ifaces, maps, wideKeys, modest, calm, conditions, laid).
  DERIVED. THE GIVEN ROWS OF THIS SEAT. 6 by the template 'for every input the law returns true; each argument reads behind the call as it read before'; 0 by the template 'total and deterministic' (their statements: YtjfelbjkmpgbgabTotals.lean).
  GIVEN WITH THE SEED: the statements are not yours to turn. If you find one false, say at which input.
  Laid BY PROGRAM, IN A SANDBOX (cutbox-rows.mjs): the forced cells as the released guide's own fill.sh prints them over the translation 371a8ed2089c8552… (all of the seat's roots in one cut). By AI agents, Wed Nov 11 2026. No macro, syntax, notation, axiom, sorry.
-/
import Derived.Test.YtjfelbjkmpgbgabChecked
import GoSem.Claim
import GoSem.ClaimJoined
import GoSem.ClaimMapViews
import Derived.JoinedTies
import Derived.KernelRfl
namespace Go.Proofs.Ytjfelbjkmpgbgab
/- THE CELL 'sum', in the pinned program and in every row, IS THE sha256 OF THE DUMP (.gsa) THAT YtjfelbjkmpgbgabProg.lean LOADS. Nothing in Lean hashes anything: it is a label: what it is worth is what the hold of that sum in a sandbox is worth. -/
noncomputable def Try.pinned : Pinned := { name := "ytjfelbjkmpgbgab", sum := "371a8ed2089c8552b9671cf216553b817b0bb852d567ed7629a08902862863cf", checked := Try.checked }
namespace Rows
def none {H : Type} : Left H := { results := [], args := [] }

/-- 'laws.FnNewWriteShareGroupStateResponse': WHATEVER THE INPUT: true; the input reads as it did. -/
def fnNewWriteShareGroupStateResponseSpec : ChangeSpec := { name := "fnNewWriteShareGroupStateResponse", fn := fun _ => fun
  | [d] => { results := [.lit (.bool true)], args := [d] }
  | _ => none }
def fnNewWriteShareGroupStateResponseRow : OpenClaim := { program := "ytjfelbjkmpgbgab", sum := "371a8ed2089c8552b9671cf216553b817b0bb852d567ed7629a08902862863cf", func := "pub-kmsg/laws.FnNewWriteShareGroupStateResponse", spec := "fnNewWriteShareGroupStateResponse", inPlace := ["internal/reflectlite.ValueOf", "internal/reflectlite.Swapper", "(internal/reflectlite.Value).Len"], unfollowed := true, recurses := true, apart := false }
def FnNewWriteShareGroupStateResponseSaid : Prop := fnNewWriteShareGroupStateResponseRow.holds Try.pinned (OpenSpec.ofChange fnNewWriteShareGroupStateResponseSpec)

/-- ITS FALSE NEIGHBOUR: 'it returns false'. Refute it at one input. -/
def fnNewWriteShareGroupStateResponseWrong : ChangeSpec := { name := "fnNewWriteShareGroupStateResponse", fn := fun _ => fun
  | [d] => { results := [.lit (.bool false)], args := [d] }
  | _ => none }
def FnNewWriteShareGroupStateResponseWrongFalsely : Prop := fnNewWriteShareGroupStateResponseRow.holds Try.pinned (OpenSpec.ofChange fnNewWriteShareGroupStateResponseWrong)

/-- 'laws.FnNewListOffsetsRequest': WHATEVER THE INPUT: true; the input reads as it did. -/
def fnNewListOffsetsRequestSpec : ChangeSpec := { name := "fnNewListOffsetsRequest", fn := fun _ => fun
  | [d] => { results := [.lit (.bool true)], args := [d] }
  | _ => none }
def fnNewListOffsetsRequestRow : OpenClaim := { program := "ytjfelbjkmpgbgab", sum := "371a8ed2089c8552b9671cf216553b817b0bb852d567ed7629a08902862863cf", func := "pub-kmsg/laws.FnNewListOffsetsRequest", spec := "fnNewListOffsetsRequest", inPlace := ["internal/reflectlite.ValueOf", "internal/reflectlite.Swapper", "(internal/reflectlite.Value).Len"], unfollowed := true, recurses := true, apart := false }
def FnNewListOffsetsRequestSaid : Prop := fnNewListOffsetsRequestRow.holds Try.pinned (OpenSpec.ofChange fnNewListOffsetsRequestSpec)

/-- ITS FALSE NEIGHBOUR: 'it returns false'. Refute it at one input. -/
def fnNewListOffsetsRequestWrong : ChangeSpec := { name := "fnNewListOffsetsRequest", fn := fun _ => fun
  | [d] => { results := [.lit (.bool false)], args := [d] }
  | _ => none }
def FnNewListOffsetsRequestWrongFalsely : Prop := fnNewListOffsetsRequestRow.holds Try.pinned (OpenSpec.ofChange fnNewListOffsetsRequestWrong)

/-- 'laws.FnNewCreatePartitionsRequest': WHATEVER THE INPUT: true; the input reads as it did. -/
def fnNewCreatePartitionsRequestSpec : ChangeSpec := { name := "fnNewCreatePartitionsRequest", fn := fun _ => fun
  | [d] => { results := [.lit (.bool true)], args := [d] }
  | _ => none }
def fnNewCreatePartitionsRequestRow : OpenClaim := { program := "ytjfelbjkmpgbgab", sum := "371a8ed2089c8552b9671cf216553b817b0bb852d567ed7629a08902862863cf", func := "pub-kmsg/laws.FnNewCreatePartitionsRequest", spec := "fnNewCreatePartitionsRequest", inPlace := ["internal/reflectlite.ValueOf", "internal/reflectlite.Swapper", "(internal/reflectlite.Value).Len"], unfollowed := true, recurses := true, apart := false }
def FnNewCreatePartitionsRequestSaid : Prop := fnNewCreatePartitionsRequestRow.holds Try.pinned (OpenSpec.ofChange fnNewCreatePartitionsRequestSpec)

/-- ITS FALSE NEIGHBOUR: 'it returns false'. Refute it at one input. -/
def fnNewCreatePartitionsRequestWrong : ChangeSpec := { name := "fnNewCreatePartitionsRequest", fn := fun _ => fun
  | [d] => { results := [.lit (.bool false)], args := [d] }
  | _ => none }
def FnNewCreatePartitionsRequestWrongFalsely : Prop := fnNewCreatePartitionsRequestRow.holds Try.pinned (OpenSpec.ofChange fnNewCreatePartitionsRequestWrong)

/-- 'laws.FnNewShareGroupHeartbeatResponse': WHATEVER THE INPUT: true; the input reads as it did. -/
def fnNewShareGroupHeartbeatResponseSpec : ChangeSpec := { name := "fnNewShareGroupHeartbeatResponse", fn := fun _ => fun
  | [d] => { results := [.lit (.bool true)], args := [d] }
  | _ => none }
def fnNewShareGroupHeartbeatResponseRow : OpenClaim := { program := "ytjfelbjkmpgbgab", sum := "371a8ed2089c8552b9671cf216553b817b0bb852d567ed7629a08902862863cf", func := "pub-kmsg/laws.FnNewShareGroupHeartbeatResponse", spec := "fnNewShareGroupHeartbeatResponse", inPlace := ["internal/reflectlite.ValueOf", "internal/reflectlite.Swapper", "(internal/reflectlite.Value).Len"], unfollowed := true, recurses := true, apart := false }
def FnNewShareGroupHeartbeatResponseSaid : Prop := fnNewShareGroupHeartbeatResponseRow.holds Try.pinned (OpenSpec.ofChange fnNewShareGroupHeartbeatResponseSpec)

/-- ITS FALSE NEIGHBOUR: 'it returns false'. Refute it at one input. -/
def fnNewShareGroupHeartbeatResponseWrong : ChangeSpec := { name := "fnNewShareGroupHeartbeatResponse", fn := fun _ => fun
  | [d] => { results := [.lit (.bool false)], args := [d] }
  | _ => none }
def FnNewShareGroupHeartbeatResponseWrongFalsely : Prop := fnNewShareGroupHeartbeatResponseRow.holds Try.pinned (OpenSpec.ofChange fnNewShareGroupHeartbeatResponseWrong)

/-- 'laws.FnNewDescribeTransactionsResponse': WHATEVER THE INPUT: true; the input reads as it did. -/
def fnNewDescribeTransactionsResponseSpec : ChangeSpec := { name := "fnNewDescribeTransactionsResponse", fn := fun _ => fun
  | [d] => { results := [.lit (.bool true)], args := [d] }
  | _ => none }
def fnNewDescribeTransactionsResponseRow : OpenClaim := { program := "ytjfelbjkmpgbgab", sum := "371a8ed2089c8552b9671cf216553b817b0bb852d567ed7629a08902862863cf", func := "pub-kmsg/laws.FnNewDescribeTransactionsResponse", spec := "fnNewDescribeTransactionsResponse", inPlace := ["internal/reflectlite.ValueOf", "internal/reflectlite.Swapper", "(internal/reflectlite.Value).Len"], unfollowed := true, recurses := true, apart := false }
def FnNewDescribeTransactionsResponseSaid : Prop := fnNewDescribeTransactionsResponseRow.holds Try.pinned (OpenSpec.ofChange fnNewDescribeTransactionsResponseSpec)

/-- ITS FALSE NEIGHBOUR: 'it returns false'. Refute it at one input. -/
def fnNewDescribeTransactionsResponseWrong : ChangeSpec := { name := "fnNewDescribeTransactionsResponse", fn := fun _ => fun
  | [d] => { results := [.lit (.bool false)], args := [d] }
  | _ => none }
def FnNewDescribeTransactionsResponseWrongFalsely : Prop := fnNewDescribeTransactionsResponseRow.holds Try.pinned (OpenSpec.ofChange fnNewDescribeTransactionsResponseWrong)

/-- 'laws.FnNewOffsetFetchResponse': WHATEVER THE INPUT: true; the input reads as it did. -/
def fnNewOffsetFetchResponseSpec : ChangeSpec := { name := "fnNewOffsetFetchResponse", fn := fun _ => fun
  | [d] => { results := [.lit (.bool true)], args := [d] }
  | _ => none }
def fnNewOffsetFetchResponseRow : OpenClaim := { program := "ytjfelbjkmpgbgab", sum := "371a8ed2089c8552b9671cf216553b817b0bb852d567ed7629a08902862863cf", func := "pub-kmsg/laws.FnNewOffsetFetchResponse", spec := "fnNewOffsetFetchResponse", inPlace := ["internal/reflectlite.ValueOf", "internal/reflectlite.Swapper", "(internal/reflectlite.Value).Len"], unfollowed := true, recurses := true, apart := false }
def FnNewOffsetFetchResponseSaid : Prop := fnNewOffsetFetchResponseRow.holds Try.pinned (OpenSpec.ofChange fnNewOffsetFetchResponseSpec)

/-- ITS FALSE NEIGHBOUR: 'it returns false'. Refute it at one input. -/
def fnNewOffsetFetchResponseWrong : ChangeSpec := { name := "fnNewOffsetFetchResponse", fn := fun _ => fun
  | [d] => { results := [.lit (.bool false)], args := [d] }
  | _ => none }
def FnNewOffsetFetchResponseWrongFalsely : Prop := fnNewOffsetFetchResponseRow.holds Try.pinned (OpenSpec.ofChange fnNewOffsetFetchResponseWrong)

/- THE SECOND FORM. 'bulk': how many values and letters a reading holds, each counted each time it is reached (what is shared counts as often as it is met; a slice's spare places count too). A statement '..UptoSaid' is the law's where the arguments, and the package variables that the reading takes, are together of bulk at most 1048576: NARROWER than '..Said'. Prove '..Said' where nothing that the law and all that it calls make is longer than what came in: it says more and counts as full. Else prove '..UptoSaid'. A law counts once. -/
mutual
def uptoBulk {H : Type} : DataW H → Nat
  | .lit (.string bytes) => bytes.length + 1
  | .lit _ => 1
  | .nil => 1
  | .ptr d => uptoBulk d + 1
  | .slice elems spare => uptoBulkAll elems + uptoBulkAll spare + 1
  | .agg parts => uptoBulkAll parts + 1
  | .iface _ d => uptoBulk d + 1
  | .map entries => uptoBulkEntries entries + 1
  | .held _ => 1
def uptoBulkAll {H : Type} : List (DataW H) → Nat
  | [] => 0
  | d :: r => uptoBulk d + uptoBulkAll r
def uptoBulkEntries {H : Type} : List (Lit × DataW H) → Nat
  | [] => 0
  | x :: r => uptoBulkEntry x + uptoBulkEntries r
def uptoBulkEntry {H : Type} : Lit × DataW H → Nat
  | (.string bytes, d) => bytes.length + uptoBulk d + 1
  | (_, d) => uptoBulk d + 1
 end
def uptoSmall : (H : Type) → List (DataW H) → Bool := fun _ ds => decide (uptoBulkAll ds ≤ 1048576)
def OpenSpec.upto (s : _root_.Go.ChangeSpec) : _root_.Go.OpenSpec := { _root_.Go.OpenSpec.ofChange s with cond := some uptoSmall }

/-- 'laws.FnNewWriteShareGroupStateResponse', WHERE WHAT IT READS IS OF BULK AT MOST 1048576: true; the input reads as it did. -/
def fnNewWriteShareGroupStateResponseUptoRow : OpenClaim := { program := "ytjfelbjkmpgbgab", sum := "371a8ed2089c8552b9671cf216553b817b0bb852d567ed7629a08902862863cf", func := "pub-kmsg/laws.FnNewWriteShareGroupStateResponse", spec := "fnNewWriteShareGroupStateResponse", inPlace := ["internal/reflectlite.ValueOf", "internal/reflectlite.Swapper", "(internal/reflectlite.Value).Len"], unfollowed := true, recurses := true, apart := false, narrowed := true }
def FnNewWriteShareGroupStateResponseUptoSaid : Prop := fnNewWriteShareGroupStateResponseUptoRow.holds Try.pinned (OpenSpec.upto fnNewWriteShareGroupStateResponseSpec)

/-- 'laws.FnNewListOffsetsRequest', WHERE WHAT IT READS IS OF BULK AT MOST 1048576: true; the input reads as it did. -/
def fnNewListOffsetsRequestUptoRow : OpenClaim := { program := "ytjfelbjkmpgbgab", sum := "371a8ed2089c8552b9671cf216553b817b0bb852d567ed7629a08902862863cf", func := "pub-kmsg/laws.FnNewListOffsetsRequest", spec := "fnNewListOffsetsRequest", inPlace := ["internal/reflectlite.ValueOf", "internal/reflectlite.Swapper", "(internal/reflectlite.Value).Len"], unfollowed := true, recurses := true, apart := false, narrowed := true }
def FnNewListOffsetsRequestUptoSaid : Prop := fnNewListOffsetsRequestUptoRow.holds Try.pinned (OpenSpec.upto fnNewListOffsetsRequestSpec)

/-- 'laws.FnNewCreatePartitionsRequest', WHERE WHAT IT READS IS OF BULK AT MOST 1048576: true; the input reads as it did. -/
def fnNewCreatePartitionsRequestUptoRow : OpenClaim := { program := "ytjfelbjkmpgbgab", sum := "371a8ed2089c8552b9671cf216553b817b0bb852d567ed7629a08902862863cf", func := "pub-kmsg/laws.FnNewCreatePartitionsRequest", spec := "fnNewCreatePartitionsRequest", inPlace := ["internal/reflectlite.ValueOf", "internal/reflectlite.Swapper", "(internal/reflectlite.Value).Len"], unfollowed := true, recurses := true, apart := false, narrowed := true }
def FnNewCreatePartitionsRequestUptoSaid : Prop := fnNewCreatePartitionsRequestUptoRow.holds Try.pinned (OpenSpec.upto fnNewCreatePartitionsRequestSpec)

/-- 'laws.FnNewShareGroupHeartbeatResponse', WHERE WHAT IT READS IS OF BULK AT MOST 1048576: true; the input reads as it did. -/
def fnNewShareGroupHeartbeatResponseUptoRow : OpenClaim := { program := "ytjfelbjkmpgbgab", sum := "371a8ed2089c8552b9671cf216553b817b0bb852d567ed7629a08902862863cf", func := "pub-kmsg/laws.FnNewShareGroupHeartbeatResponse", spec := "fnNewShareGroupHeartbeatResponse", inPlace := ["internal/reflectlite.ValueOf", "internal/reflectlite.Swapper", "(internal/reflectlite.Value).Len"], unfollowed := true, recurses := true, apart := false, narrowed := true }
def FnNewShareGroupHeartbeatResponseUptoSaid : Prop := fnNewShareGroupHeartbeatResponseUptoRow.holds Try.pinned (OpenSpec.upto fnNewShareGroupHeartbeatResponseSpec)

/-- 'laws.FnNewDescribeTransactionsResponse', WHERE WHAT IT READS IS OF BULK AT MOST 1048576: true; the input reads as it did. -/
def fnNewDescribeTransactionsResponseUptoRow : OpenClaim := { program := "ytjfelbjkmpgbgab", sum := "371a8ed2089c8552b9671cf216553b817b0bb852d567ed7629a08902862863cf", func := "pub-kmsg/laws.FnNewDescribeTransactionsResponse", spec := "fnNewDescribeTransactionsResponse", inPlace := ["internal/reflectlite.ValueOf", "internal/reflectlite.Swapper", "(internal/reflectlite.Value).Len"], unfollowed := true, recurses := true, apart := false, narrowed := true }
def FnNewDescribeTransactionsResponseUptoSaid : Prop := fnNewDescribeTransactionsResponseUptoRow.holds Try.pinned (OpenSpec.upto fnNewDescribeTransactionsResponseSpec)

/-- 'laws.FnNewOffsetFetchResponse', WHERE WHAT IT READS IS OF BULK AT MOST 1048576: true; the input reads as it did. -/
def fnNewOffsetFetchResponseUptoRow : OpenClaim := { program := "ytjfelbjkmpgbgab", sum := "371a8ed2089c8552b9671cf216553b817b0bb852d567ed7629a08902862863cf", func := "pub-kmsg/laws.FnNewOffsetFetchResponse", spec := "fnNewOffsetFetchResponse", inPlace := ["internal/reflectlite.ValueOf", "internal/reflectlite.Swapper", "(internal/reflectlite.Value).Len"], unfollowed := true, recurses := true, apart := false, narrowed := true }
def FnNewOffsetFetchResponseUptoSaid : Prop := fnNewOffsetFetchResponseUptoRow.holds Try.pinned (OpenSpec.upto fnNewOffsetFetchResponseSpec)

end Rows
end Go.Proofs.Ytjfelbjkmpgbgab
