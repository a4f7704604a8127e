/-
  NARROWER THAN 'FOR EVERY INPUT', by the rows' own cells (each row's printed sentence says how): FnAgainSyncGroupRequest: loops, laid · FnCutDeleteShareGroupStateResponse: loops, laid · FnCutWriteShareGroupStateResponse: loops, laid · FnCutAlterShareGroupOffsetsRequest: loops, laid.
  DERIVED. THE GIVEN ROWS OF THIS SEAT. 4 by the template 'for every input the law returns true; each argument reads behind the call as it read before'; 0 by the template 'total and deterministic' (their statements: YthjaecnbgfohmabGreatDoorTotals.lean).
  GIVEN WITH THE SEED: the statements are not yours to turn. If you find one false, say at which input.
  Laid BY PROGRAM, IN A SANDBOX (cutbox-rows.mjs): the forced cells as the released guide's own fill.sh prints them over the translation e29136209d5e56d5… (all of the seat's roots in one cut). By AI agents, Wed Nov 11 2026. No macro, syntax, notation, axiom, sorry.
-/
import Derived.Test.YthjaecnbgfohmabGreatDoorChecked
import GoSem.Claim
import GoSem.ClaimJoined
import GoSem.ClaimMapViews
import Derived.JoinedTies
import Derived.KernelRfl
namespace Go.Proofs.YthjaecnbgfohmabGreatDoor
/- THE CELL 'sum', in the pinned program and in every row, IS THE sha256 OF THE DUMP (.gsa) THAT YthjaecnbgfohmabGreatDoorProg.lean LOADS. Nothing in Lean hashes anything: it is a label: what it is worth is what the hold of that sum in a sandbox is worth. -/
noncomputable def Tryz.pinned : Pinned := { name := "ythjaecnbgfohmabgreatdoor", sum := "e29136209d5e56d515aa77197a291bfd49f76e10f3130a1f283232e907eee998", checked := Tryz.checked }
namespace Rows
def none {H : Type} : Left H := { results := [], args := [] }

/- WHAT THE LISTED PACKAGE-LEVEL VARIABLES READ AS WHEN THE CALL BEGINS. Each datum BY PROGRAM (the guide's laid-datum.mjs) off the statement by which the dump's own 'gosem.cut.vars' lays the variable. In a bare row this is a premise. The card (YthjaecnbgfohmabGreatDoorCards.lean) ties it to the program's text. -/
def laid_pub_kmsg_pub_kmsg_inner_kbin_ErrNotEnoughData {H : Type} : DataW H := .iface "*errors.errorString" (.ptr (.agg [.lit (.string [114, 101, 115, 112, 111, 110, 115, 101, 32, 100, 105, 100, 32, 110, 111, 116, 32, 99, 111, 110, 116, 97, 105, 110, 32, 101, 110, 111, 117, 103, 104, 32, 100, 97, 116, 97, 32, 116, 111, 32, 98, 101, 32, 118, 97, 108, 105, 100])]))

/-- 'laws.FnAgainSyncGroupRequest': WHATEVER THE INPUT: true; the input reads as it did. -/
def fnAgainSyncGroupRequestSpec : ChangeSpec := { name := "fnAgainSyncGroupRequest", fn := fun _ => fun
  | [d1, d2] => { results := [.lit (.bool true)], args := [d1, d2] }
  | _ => none }
def fnAgainSyncGroupRequestRow : OpenClaim := { program := "ythjaecnbgfohmabgreatdoor", sum := "e29136209d5e56d515aa77197a291bfd49f76e10f3130a1f283232e907eee998", func := "pub-kmsg/laws.FnAgainSyncGroupRequest", spec := "fnAgainSyncGroupRequest", inPlace := ["internal/reflectlite.ValueOf", "internal/reflectlite.Swapper", "(internal/reflectlite.Value).Len"], unfollowed := true, recurses := true, named := ["encoding/binary.BigEndian", "pub-kmsg/pub/kmsg/inner/kbin.ErrNotEnoughData"], loops := true, apart := false, laid := [("pub-kmsg/pub/kmsg/inner/kbin.ErrNotEnoughData", laid_pub_kmsg_pub_kmsg_inner_kbin_ErrNotEnoughData)] }
def FnAgainSyncGroupRequestSaid : Prop := fnAgainSyncGroupRequestRow.holds Tryz.pinned (OpenSpec.ofChange fnAgainSyncGroupRequestSpec)

/-- ITS FALSE NEIGHBOUR: 'it returns false'. Refute it at one input. -/
def fnAgainSyncGroupRequestWrong : ChangeSpec := { name := "fnAgainSyncGroupRequest", fn := fun _ => fun
  | [d1, d2] => { results := [.lit (.bool false)], args := [d1, d2] }
  | _ => none }
def FnAgainSyncGroupRequestWrongFalsely : Prop := fnAgainSyncGroupRequestRow.holds Tryz.pinned (OpenSpec.ofChange fnAgainSyncGroupRequestWrong)

/-- 'laws.FnCutDeleteShareGroupStateResponse': WHATEVER THE INPUT: true; the input reads as it did. -/
def fnCutDeleteShareGroupStateResponseSpec : ChangeSpec := { name := "fnCutDeleteShareGroupStateResponse", fn := fun _ => fun
  | [d1, d2, d3] => { results := [.lit (.bool true)], args := [d1, d2, d3] }
  | _ => none }
def fnCutDeleteShareGroupStateResponseRow : OpenClaim := { program := "ythjaecnbgfohmabgreatdoor", sum := "e29136209d5e56d515aa77197a291bfd49f76e10f3130a1f283232e907eee998", func := "pub-kmsg/laws.FnCutDeleteShareGroupStateResponse", spec := "fnCutDeleteShareGroupStateResponse", inPlace := ["internal/reflectlite.ValueOf", "internal/reflectlite.Swapper", "(internal/reflectlite.Value).Len"], unfollowed := true, recurses := true, named := ["encoding/binary.BigEndian", "pub-kmsg/pub/kmsg/inner/kbin.ErrNotEnoughData"], loops := true, apart := false, laid := [("pub-kmsg/pub/kmsg/inner/kbin.ErrNotEnoughData", laid_pub_kmsg_pub_kmsg_inner_kbin_ErrNotEnoughData)] }
def FnCutDeleteShareGroupStateResponseSaid : Prop := fnCutDeleteShareGroupStateResponseRow.holds Tryz.pinned (OpenSpec.ofChange fnCutDeleteShareGroupStateResponseSpec)

/-- ITS FALSE NEIGHBOUR: 'it returns false'. Refute it at one input. -/
def fnCutDeleteShareGroupStateResponseWrong : ChangeSpec := { name := "fnCutDeleteShareGroupStateResponse", fn := fun _ => fun
  | [d1, d2, d3] => { results := [.lit (.bool false)], args := [d1, d2, d3] }
  | _ => none }
def FnCutDeleteShareGroupStateResponseWrongFalsely : Prop := fnCutDeleteShareGroupStateResponseRow.holds Tryz.pinned (OpenSpec.ofChange fnCutDeleteShareGroupStateResponseWrong)

/-- 'laws.FnCutWriteShareGroupStateResponse': WHATEVER THE INPUT: true; the input reads as it did. -/
def fnCutWriteShareGroupStateResponseSpec : ChangeSpec := { name := "fnCutWriteShareGroupStateResponse", fn := fun _ => fun
  | [d1, d2, d3] => { results := [.lit (.bool true)], args := [d1, d2, d3] }
  | _ => none }
def fnCutWriteShareGroupStateResponseRow : OpenClaim := { program := "ythjaecnbgfohmabgreatdoor", sum := "e29136209d5e56d515aa77197a291bfd49f76e10f3130a1f283232e907eee998", func := "pub-kmsg/laws.FnCutWriteShareGroupStateResponse", spec := "fnCutWriteShareGroupStateResponse", inPlace := ["internal/reflectlite.ValueOf", "internal/reflectlite.Swapper", "(internal/reflectlite.Value).Len"], unfollowed := true, recurses := true, named := ["encoding/binary.BigEndian", "pub-kmsg/pub/kmsg/inner/kbin.ErrNotEnoughData"], loops := true, apart := false, laid := [("pub-kmsg/pub/kmsg/inner/kbin.ErrNotEnoughData", laid_pub_kmsg_pub_kmsg_inner_kbin_ErrNotEnoughData)] }
def FnCutWriteShareGroupStateResponseSaid : Prop := fnCutWriteShareGroupStateResponseRow.holds Tryz.pinned (OpenSpec.ofChange fnCutWriteShareGroupStateResponseSpec)

/-- ITS FALSE NEIGHBOUR: 'it returns false'. Refute it at one input. -/
def fnCutWriteShareGroupStateResponseWrong : ChangeSpec := { name := "fnCutWriteShareGroupStateResponse", fn := fun _ => fun
  | [d1, d2, d3] => { results := [.lit (.bool false)], args := [d1, d2, d3] }
  | _ => none }
def FnCutWriteShareGroupStateResponseWrongFalsely : Prop := fnCutWriteShareGroupStateResponseRow.holds Tryz.pinned (OpenSpec.ofChange fnCutWriteShareGroupStateResponseWrong)

/-- 'laws.FnCutAlterShareGroupOffsetsRequest': WHATEVER THE INPUT: true; the input reads as it did. -/
def fnCutAlterShareGroupOffsetsRequestSpec : ChangeSpec := { name := "fnCutAlterShareGroupOffsetsRequest", fn := fun _ => fun
  | [d1, d2, d3] => { results := [.lit (.bool true)], args := [d1, d2, d3] }
  | _ => none }
def fnCutAlterShareGroupOffsetsRequestRow : OpenClaim := { program := "ythjaecnbgfohmabgreatdoor", sum := "e29136209d5e56d515aa77197a291bfd49f76e10f3130a1f283232e907eee998", func := "pub-kmsg/laws.FnCutAlterShareGroupOffsetsRequest", spec := "fnCutAlterShareGroupOffsetsRequest", inPlace := ["internal/reflectlite.ValueOf", "internal/reflectlite.Swapper", "(internal/reflectlite.Value).Len"], unfollowed := true, recurses := true, named := ["encoding/binary.BigEndian", "pub-kmsg/pub/kmsg/inner/kbin.ErrNotEnoughData"], loops := true, apart := false, laid := [("pub-kmsg/pub/kmsg/inner/kbin.ErrNotEnoughData", laid_pub_kmsg_pub_kmsg_inner_kbin_ErrNotEnoughData)] }
def FnCutAlterShareGroupOffsetsRequestSaid : Prop := fnCutAlterShareGroupOffsetsRequestRow.holds Tryz.pinned (OpenSpec.ofChange fnCutAlterShareGroupOffsetsRequestSpec)

/-- ITS FALSE NEIGHBOUR: 'it returns false'. Refute it at one input. -/
def fnCutAlterShareGroupOffsetsRequestWrong : ChangeSpec := { name := "fnCutAlterShareGroupOffsetsRequest", fn := fun _ => fun
  | [d1, d2, d3] => { results := [.lit (.bool false)], args := [d1, d2, d3] }
  | _ => none }
def FnCutAlterShareGroupOffsetsRequestWrongFalsely : Prop := fnCutAlterShareGroupOffsetsRequestRow.holds Tryz.pinned (OpenSpec.ofChange fnCutAlterShareGroupOffsetsRequestWrong)

/- THE SECOND FORM. 'bulk': how many values and letters a reading holds, each counted each time it is reached (what is shared counts as often as it is met; a slice's spare places count too). A statement '..UptoSaid' is the law's where the arguments, and the package variables that the reading takes, are together of bulk at most 1048576: NARROWER than '..Said'. Prove '..Said' where nothing that the law and all that it calls make is longer than what came in: it says more and counts as full. Else prove '..UptoSaid'. A law counts once. -/
mutual
def uptoBulk {H : Type} : DataW H → Nat
  | .lit (.string bytes) => bytes.length + 1
  | .lit _ => 1
  | .nil => 1
  | .ptr d => uptoBulk d + 1
  | .slice elems spare => uptoBulkAll elems + uptoBulkAll spare + 1
  | .agg parts => uptoBulkAll parts + 1
  | .iface _ d => uptoBulk d + 1
  | .map entries => uptoBulkEntries entries + 1
  | .held _ => 1
def uptoBulkAll {H : Type} : List (DataW H) → Nat
  | [] => 0
  | d :: r => uptoBulk d + uptoBulkAll r
def uptoBulkEntries {H : Type} : List (Lit × DataW H) → Nat
  | [] => 0
  | x :: r => uptoBulkEntry x + uptoBulkEntries r
def uptoBulkEntry {H : Type} : Lit × DataW H → Nat
  | (.string bytes, d) => bytes.length + uptoBulk d + 1
  | (_, d) => uptoBulk d + 1
 end
def uptoSmall : (H : Type) → List (DataW H) → Bool := fun _ ds => decide (uptoBulkAll ds ≤ 1048576)
def OpenSpec.upto (s : _root_.Go.ChangeSpec) : _root_.Go.OpenSpec := { _root_.Go.OpenSpec.ofChange s with cond := some uptoSmall }

/-- 'laws.FnAgainSyncGroupRequest', WHERE WHAT IT READS IS OF BULK AT MOST 1048576: true; the input reads as it did. -/
def fnAgainSyncGroupRequestUptoRow : OpenClaim := { program := "ythjaecnbgfohmabgreatdoor", sum := "e29136209d5e56d515aa77197a291bfd49f76e10f3130a1f283232e907eee998", func := "pub-kmsg/laws.FnAgainSyncGroupRequest", spec := "fnAgainSyncGroupRequest", inPlace := ["internal/reflectlite.ValueOf", "internal/reflectlite.Swapper", "(internal/reflectlite.Value).Len"], unfollowed := true, recurses := true, named := ["encoding/binary.BigEndian", "pub-kmsg/pub/kmsg/inner/kbin.ErrNotEnoughData"], loops := true, apart := false, laid := [("pub-kmsg/pub/kmsg/inner/kbin.ErrNotEnoughData", laid_pub_kmsg_pub_kmsg_inner_kbin_ErrNotEnoughData)], narrowed := true }
def FnAgainSyncGroupRequestUptoSaid : Prop := fnAgainSyncGroupRequestUptoRow.holds Tryz.pinned (OpenSpec.upto fnAgainSyncGroupRequestSpec)

/-- 'laws.FnCutDeleteShareGroupStateResponse', WHERE WHAT IT READS IS OF BULK AT MOST 1048576: true; the input reads as it did. -/
def fnCutDeleteShareGroupStateResponseUptoRow : OpenClaim := { program := "ythjaecnbgfohmabgreatdoor", sum := "e29136209d5e56d515aa77197a291bfd49f76e10f3130a1f283232e907eee998", func := "pub-kmsg/laws.FnCutDeleteShareGroupStateResponse", spec := "fnCutDeleteShareGroupStateResponse", inPlace := ["internal/reflectlite.ValueOf", "internal/reflectlite.Swapper", "(internal/reflectlite.Value).Len"], unfollowed := true, recurses := true, named := ["encoding/binary.BigEndian", "pub-kmsg/pub/kmsg/inner/kbin.ErrNotEnoughData"], loops := true, apart := false, laid := [("pub-kmsg/pub/kmsg/inner/kbin.ErrNotEnoughData", laid_pub_kmsg_pub_kmsg_inner_kbin_ErrNotEnoughData)], narrowed := true }
def FnCutDeleteShareGroupStateResponseUptoSaid : Prop := fnCutDeleteShareGroupStateResponseUptoRow.holds Tryz.pinned (OpenSpec.upto fnCutDeleteShareGroupStateResponseSpec)

/-- 'laws.FnCutWriteShareGroupStateResponse', WHERE WHAT IT READS IS OF BULK AT MOST 1048576: true; the input reads as it did. -/
def fnCutWriteShareGroupStateResponseUptoRow : OpenClaim := { program := "ythjaecnbgfohmabgreatdoor", sum := "e29136209d5e56d515aa77197a291bfd49f76e10f3130a1f283232e907eee998", func := "pub-kmsg/laws.FnCutWriteShareGroupStateResponse", spec := "fnCutWriteShareGroupStateResponse", inPlace := ["internal/reflectlite.ValueOf", "internal/reflectlite.Swapper", "(internal/reflectlite.Value).Len"], unfollowed := true, recurses := true, named := ["encoding/binary.BigEndian", "pub-kmsg/pub/kmsg/inner/kbin.ErrNotEnoughData"], loops := true, apart := false, laid := [("pub-kmsg/pub/kmsg/inner/kbin.ErrNotEnoughData", laid_pub_kmsg_pub_kmsg_inner_kbin_ErrNotEnoughData)], narrowed := true }
def FnCutWriteShareGroupStateResponseUptoSaid : Prop := fnCutWriteShareGroupStateResponseUptoRow.holds Tryz.pinned (OpenSpec.upto fnCutWriteShareGroupStateResponseSpec)

/-- 'laws.FnCutAlterShareGroupOffsetsRequest', WHERE WHAT IT READS IS OF BULK AT MOST 1048576: true; the input reads as it did. -/
def fnCutAlterShareGroupOffsetsRequestUptoRow : OpenClaim := { program := "ythjaecnbgfohmabgreatdoor", sum := "e29136209d5e56d515aa77197a291bfd49f76e10f3130a1f283232e907eee998", func := "pub-kmsg/laws.FnCutAlterShareGroupOffsetsRequest", spec := "fnCutAlterShareGroupOffsetsRequest", inPlace := ["internal/reflectlite.ValueOf", "internal/reflectlite.Swapper", "(internal/reflectlite.Value).Len"], unfollowed := true, recurses := true, named := ["encoding/binary.BigEndian", "pub-kmsg/pub/kmsg/inner/kbin.ErrNotEnoughData"], loops := true, apart := false, laid := [("pub-kmsg/pub/kmsg/inner/kbin.ErrNotEnoughData", laid_pub_kmsg_pub_kmsg_inner_kbin_ErrNotEnoughData)], narrowed := true }
def FnCutAlterShareGroupOffsetsRequestUptoSaid : Prop := fnCutAlterShareGroupOffsetsRequestUptoRow.holds Tryz.pinned (OpenSpec.upto fnCutAlterShareGroupOffsetsRequestSpec)

end Rows
end Go.Proofs.YthjaecnbgfohmabGreatDoor
