/-
  FnAgainReadShareGroupStateSummaryRequest: the numbers of the program, the code of its functions, and the law out of them.
-/
import Derived.Test.YtmjhmpgnfdincaaGreatDoorChecked
import Derived.Test.YtmjhmpgnfdincaaGreatDoorK1
import Derived.Test.YtmjhmpgnfdincaaGreatDoorK2
import Derived.Test.YtmjhmpgnfdincaaGreatDoorK3
import Derived.Test.YtmjhmpgnfdincaaGreatDoorK4
import Derived.Test.YtmjhmpgnfdincaaGreatDoorK5
import Derived.Test.YtmjhmpgnfdincaaGreatDoorK6
import Derived.Test.YtmjhmpgnfdincaaGreatDoorK7
import Derived.Test.YtmjhmpgnfdincaaGreatDoorK8
import Derived.Test.YtmjhmpgnfdincaaGreatDoorK9
import Derived.Test.YtmjhmpgnfdincaaGreatDoorK10
import Derived.Test.YtmjhmpgnfdincaaGreatDoorK11
import Derived.Test.YtmjhmpgnfdincaaGreatDoorK12
import Derived.Test.YtmjhmpgnfdincaaGreatDoorK13
import Derived.Test.YtmjhmpgnfdincaaGreatDoorK14
import Derived.Test.YtmjhmpgnfdincaaGreatDoorK15
import Derived.KernelRfl
import Derived.Test.YtmjhmpgnfdincaaGreatDoorSh
namespace Go.Proofs.YtmjhmpgnfdincaaGreatDoor.Kx
open Go Go.Proofs
set_option maxRecDepth 100000
def numbers : G := { rd := fun | .bool => 92 | .i8 => 999999 | .i16 => 73 | .u16 => 999999 | .i32 => 72 | .i64 => 999999 | .uuid => 94 | .str => 91 | .cstr => 90 | .nstr => 77 | .cnstr => 75 | .bytes => 999999 | .cbytes => 999999 | .nbytes => 999999 | .cnbytes => 999999, un := fun | .str => 89 | .cstr => 88 | .nstr => 76 | .cnstr => 74 | _ => 999999, len := 86, clen := 85, ok := 87, complete := 79, uv := 98, span := 100, tags := 78, set := 101, tR := 108, tUuid := 92, tVer := 42, tI8 := 999999, tI32 := 21, tU32 := 59, tInt := 3, tBool := 4, tErr := 51, tTags := 66, tSl := 22, tStr := 9, gErr := 1 }
def numbersW : GW := { ap := fun | .bool => 61 | .i8 => 999999 | .i16 => 49 | .u16 => 81 | .i32 => 48 | .i64 => 999999 | .uuid => 65 | .str => 60 | .cstr => 59 | .nstr => 51 | .cnstr => 50 | .bytes => 999999 | .cbytes => 999999 | .nbytes => 999999 | .cnbytes => 999999, alen := 58, calen := 57, nalen := 999999, cnalen := 999999, uv := 52, tlen := 53, teach := 54, tVer := 42, tInt := 3, tU32 := 59, tSl := 22, tUuid := 92 }
def kn : Kn := { tRS := 108, tSl := 22, tB := 4, tInt := 3, tU8 := 5, tI8 := 999999, tI16 := 42, tU16 := 27, tI32 := 21, tU32 := 59, tI64 := 2, tU64 := 75, tStr := 9, tUuid := 92, tBE := 123, tErr := 51, gBE := 0, gErr := 1, fU16 := 97, fU32 := 96, fU64 := 999999, fUv := 105, fR64 := 999999 }
theorem mixed : Tryz.prog.follows .mixedOrders = true := by kernel_rfl
def fsReadShareGroupStateSummaryRequest : Fds := (.cons 0 none none (0) 1 (.str none) (.cons 0 none none (0) 2 (.list none 18 (.struct none (some 17) (.cons 0 none none (0) 0 (.prim .uuid) (.cons 0 none none (0) 16 (.list none 3 (.struct none (some 2) (.cons 0 none none (0) 0 (.prim .i32) (.cons 0 none none (0) 1 (.prim .i32) .nil)))) .nil)))) .nil))
def nmReadShareGroupStateSummaryRequest : Nm := (.mk [] [(.mk [11, 90, 1, 9] []), (.mk [12, 90, 2, 88, 13, 14, 15, 0, 1] [(.mk [16, 17, 93, 95, 2] [(.mk [] [(.mk [18, 95, 0, 92] []), (.mk [19, 95, 1, 93, 20, 21, 22, 2, 3] [(.mk [23, 24, 95, 99, 2] [(.mk [] [(.mk [25, 99, 0, 21] []), (.mk [26, 99, 1, 21] [])])])])])])])])
def nwReadShareGroupStateSummaryRequest : List Nm := [(.mk [7, 90, 1, 9] []), (.mk [8, 90, 2, 88, 9, 0, 1] [(.mk [10, 95, 2] [(.mk [] [(.mk [11, 95, 0, 92] []), (.mk [12, 95, 1, 93, 13, 2, 3] [(.mk [14, 99, 2] [(.mk [] [(.mk [15, 99, 0, 21] []), (.mk [16, 99, 1, 21] [])])])])])])])]
theorem fn92 : FnIs Tryz.prog 92 32 [2] (cBool kn) := fnIs_of Tryz.func92 (by kernel_rfl) (by kernel_rfl) (by kernel_rfl) (by kernel_rfl) -- (*pub-kmsg/pub/kmsg/inner/kbin.Reader).Bool
theorem fn73 : FnIs Tryz.prog 73 32 [2] (cI16 kn) := fnIs_of Tryz.func73 (by kernel_rfl) (by kernel_rfl) (by kernel_rfl) (by kernel_rfl) -- (*pub-kmsg/pub/kmsg/inner/kbin.Reader).Int16
theorem fn72 : FnIs Tryz.prog 72 32 [2] (cI32 kn) := fnIs_of Tryz.func72 (by kernel_rfl) (by kernel_rfl) (by kernel_rfl) (by kernel_rfl) -- (*pub-kmsg/pub/kmsg/inner/kbin.Reader).Int32
theorem fn105 : FnIs Tryz.prog 105 87 [2, 3] (cUvIn kn) := fnIs_of Tryz.func105 (by kernel_rfl) (by kernel_rfl) (by kernel_rfl) (by kernel_rfl) -- pub-kmsg/pub/kmsg/inner/kbin.Uvarint
theorem fn98 : FnIs Tryz.prog 98 31 [2] (cUv kn) := fnIs_of Tryz.func98 (by kernel_rfl) (by kernel_rfl) (by kernel_rfl) (by kernel_rfl) -- (*pub-kmsg/pub/kmsg/inner/kbin.Reader).Uvarint
theorem fn94 : FnIsC Tryz.prog 94 9 2 92 (cUuid numbers kn) := fnIsC_of Tryz.func94 (by kernel_rfl) (by kernel_rfl) (by kernel_rfl) (by kernel_rfl) -- (*pub-kmsg/pub/kmsg/inner/kbin.Reader).Uuid
theorem fn78 : FnIsC Tryz.prog 78 24 2 66 (cRdTags numbers kn) := fnIsC_of Tryz.func78 (by kernel_rfl) (by kernel_rfl) (by kernel_rfl) (by kernel_rfl) -- pub-kmsg/pub/kmsg.internalReadTags
theorem fn101 : FnIs Tryz.prog 101 21 [] (cSet numbers 64) := fnIs_of Tryz.func101 (by kernel_rfl) (by kernel_rfl) (by kernel_rfl) (by kernel_rfl) -- (*pub-kmsg/pub/kmsg.Tags).Set
theorem fn87 : FnIs Tryz.prog 87 8 [2] (cOk kn) := fnIs_of Tryz.func87 (by kernel_rfl) (by kernel_rfl) (by kernel_rfl) (by kernel_rfl) -- (*pub-kmsg/pub/kmsg/inner/kbin.Reader).Ok
theorem fn79 : FnIs Tryz.prog 79 8 [2] (cComplete kn) := fnIs_of Tryz.func79 (by kernel_rfl) (by kernel_rfl) (by kernel_rfl) (by kernel_rfl) -- (*pub-kmsg/pub/kmsg/inner/kbin.Reader).Complete
theorem fn100 : FnIs Tryz.prog 100 40 [4] (cSpan kn) := fnIs_of Tryz.func100 (by kernel_rfl) (by kernel_rfl) (by kernel_rfl) (by kernel_rfl) -- (*pub-kmsg/pub/kmsg/inner/kbin.Reader).Span
theorem fn91 : FnIs Tryz.prog 91 11 [2] (cStr numbers kn) := fnIs_of Tryz.func91 (by kernel_rfl) (by kernel_rfl) (by kernel_rfl) (by kernel_rfl) -- (*pub-kmsg/pub/kmsg/inner/kbin.Reader).String
theorem fn90 : FnIs Tryz.prog 90 12 [2] (cCStr numbers kn) := fnIs_of Tryz.func90 (by kernel_rfl) (by kernel_rfl) (by kernel_rfl) (by kernel_rfl) -- (*pub-kmsg/pub/kmsg/inner/kbin.Reader).CompactString
theorem fn77 : FnIs Tryz.prog 77 14 [2] (cNStr numbers kn) := fnIs_of Tryz.func77 (by kernel_rfl) (by kernel_rfl) (by kernel_rfl) (by kernel_rfl) -- (*pub-kmsg/pub/kmsg/inner/kbin.Reader).NullableString
theorem fn75 : FnIs Tryz.prog 75 15 [2] (cCNStr numbers kn) := fnIs_of Tryz.func75 (by kernel_rfl) (by kernel_rfl) (by kernel_rfl) (by kernel_rfl) -- (*pub-kmsg/pub/kmsg/inner/kbin.Reader).CompactNullableString
theorem fn86 : FnIs Tryz.prog 86 21 [2] (cLen numbers kn) := fnIs_of Tryz.func86 (by kernel_rfl) (by kernel_rfl) (by kernel_rfl) (by kernel_rfl) -- (*pub-kmsg/pub/kmsg/inner/kbin.Reader).ArrayLen
theorem fn85 : FnIs Tryz.prog 85 23 [2] (cCLen numbers kn) := fnIs_of Tryz.func85 (by kernel_rfl) (by kernel_rfl) (by kernel_rfl) (by kernel_rfl) -- (*pub-kmsg/pub/kmsg/inner/kbin.Reader).CompactArrayLen
theorem fn97 : FnIs Tryz.prog 97 18 [4] (gBig kn kn.tU16 .u16 2) := fnIs_of Tryz.func97 (by kernel_rfl) (by kernel_rfl) (by kernel_rfl) (by kernel_rfl) -- (encoding/binary.bigEndian).Uint16
theorem fn96 : FnIs Tryz.prog 96 30 [4] (gBig kn kn.tU32 .u32 4) := fnIs_of Tryz.func96 (by kernel_rfl) (by kernel_rfl) (by kernel_rfl) (by kernel_rfl) -- (encoding/binary.bigEndian).Uint32
theorem fn81 : FnIs Tryz.prog 81 13 [4] (cAU16 kn) := fnIs_of Tryz.func81 (by kernel_rfl) (by kernel_rfl) (by kernel_rfl) (by kernel_rfl) -- pub-kmsg/pub/kmsg/inner/kbin.AppendUint16
theorem fn80 : FnIs Tryz.prog 80 19 [4] (cAU32 kn) := fnIs_of Tryz.func80 (by kernel_rfl) (by kernel_rfl) (by kernel_rfl) (by kernel_rfl) -- pub-kmsg/pub/kmsg/inner/kbin.AppendUint32
theorem fn49 : FnIs Tryz.prog 49 9 [4] (cACv kn.tI16 kn.tU16 81) := fnIs_of Tryz.func49 (by kernel_rfl) (by kernel_rfl) (by kernel_rfl) (by kernel_rfl) -- pub-kmsg/pub/kmsg/inner/kbin.AppendInt16
theorem fn48 : FnIs Tryz.prog 48 9 [4] (cACv kn.tI32 kn.tU32 80) := fnIs_of Tryz.func48 (by kernel_rfl) (by kernel_rfl) (by kernel_rfl) (by kernel_rfl) -- pub-kmsg/pub/kmsg/inner/kbin.AppendInt32
theorem fn58 : FnIs Tryz.prog 58 9 [4] (cACv kn.tInt kn.tI32 48) := fnIs_of Tryz.func58 (by kernel_rfl) (by kernel_rfl) (by kernel_rfl) (by kernel_rfl) -- pub-kmsg/pub/kmsg/inner/kbin.AppendArrayLen
theorem fn57 : FnIs Tryz.prog 57 10 [4] (cACv1 kn 52) := fnIs_of Tryz.func57 (by kernel_rfl) (by kernel_rfl) (by kernel_rfl) (by kernel_rfl) -- pub-kmsg/pub/kmsg/inner/kbin.AppendCompactArrayLen
theorem fn61 : FnIs Tryz.prog 61 12 [4] (cABool kn) := fnIs_of Tryz.func61 (by kernel_rfl) (by kernel_rfl) (by kernel_rfl) (by kernel_rfl) -- pub-kmsg/pub/kmsg/inner/kbin.AppendBool
theorem fn65 : FnIs Tryz.prog 65 8 [4] (cAUuid kn) := fnIs_of Tryz.func65 (by kernel_rfl) (by kernel_rfl) (by kernel_rfl) (by kernel_rfl) -- pub-kmsg/pub/kmsg/inner/kbin.AppendUuid
theorem fn60 : FnIs Tryz.prog 60 13 [4] (cAStr kn kn.tStr kn.tI16 49) := fnIs_of Tryz.func60 (by kernel_rfl) (by kernel_rfl) (by kernel_rfl) (by kernel_rfl) -- pub-kmsg/pub/kmsg/inner/kbin.AppendString
theorem fn59 : FnIs Tryz.prog 59 14 [4] (cACStr kn kn.tStr 52) := fnIs_of Tryz.func59 (by kernel_rfl) (by kernel_rfl) (by kernel_rfl) (by kernel_rfl) -- pub-kmsg/pub/kmsg/inner/kbin.AppendCompactString
theorem fn51 : FnIs Tryz.prog 51 14 [4] (cANStr kn 63 (.int .i16 (-1)) 49 60) := fnIs_of Tryz.func51 (by kernel_rfl) (by kernel_rfl) (by kernel_rfl) (by kernel_rfl) -- pub-kmsg/pub/kmsg/inner/kbin.AppendNullableString
theorem fn50 : FnIs Tryz.prog 50 14 [4] (cANStr kn 63 (.int .u32 0) 52 59) := fnIs_of Tryz.func50 (by kernel_rfl) (by kernel_rfl) (by kernel_rfl) (by kernel_rfl) -- pub-kmsg/pub/kmsg/inner/kbin.AppendCompactNullableString
theorem fn52 : FnIs Tryz.prog 52 93 [4] (cAUv kn 82) := fnIs_of Tryz.func52 (by kernel_rfl) (by kernel_rfl) (by kernel_rfl) (by kernel_rfl) -- pub-kmsg/pub/kmsg/inner/kbin.AppendUvarint
theorem fn82 : FnIs Tryz.prog 82 8 [2] (cUvLen kn 102) := fnIs_of Tryz.func82 (by kernel_rfl) (by kernel_rfl) (by kernel_rfl) (by kernel_rfl) -- pub-kmsg/pub/kmsg/inner/kbin.UvarintLen
theorem fn102 : FnIs Tryz.prog 102 19 [2] (cLen32 kn 59) := fnIs_of Tryz.func102 (by kernel_rfl) (by kernel_rfl) (by kernel_rfl) (by kernel_rfl) -- math/bits.Len32
theorem fn53 : FnIs Tryz.prog 53 8 [2] (cTLen kn 66 64) := fnIs_of Tryz.func53 (by kernel_rfl) (by kernel_rfl) (by kernel_rfl) (by kernel_rfl) -- (*pub-kmsg/pub/kmsg.Tags).Len
theorem fn20 : FnIs Tryz.prog 20 3 [0] (cNewPtr 68 38) := fnIs_of Tryz.func20 (by kernel_rfl) (by kernel_rfl) (by kernel_rfl) (by kernel_rfl) -- pub-kmsg/pub/kmsg.NewPtrAddRaftVoterResponse
theorem fn23 : FnIs Tryz.prog 23 8 [] (cSetV 68 42) := fnIs_of Tryz.func23 (by kernel_rfl) (by kernel_rfl) (by kernel_rfl) (by kernel_rfl) -- (*pub-kmsg/pub/kmsg.AddRaftVoterResponse).SetVersion
theorem fn24 : FnIs Tryz.prog 24 8 [4] (cRdF 47) := fnIs_of Tryz.func24 (by kernel_rfl) (by kernel_rfl) (by kernel_rfl) (by kernel_rfl) -- (*pub-kmsg/pub/kmsg.AddRaftVoterResponse).ReadFrom
theorem fn7 : FnIs Tryz.prog 7 4 [0] (cMax 42 3 20 21) := fnIs_of Tryz.func7 (by kernel_rfl) (by kernel_rfl) (by kernel_rfl) (by kernel_rfl) -- pub-kmsg/impl.MaxAddRaftVoterResponse
theorem fn21 : FnIs Tryz.prog 21 3 [2] (cMaxV 1) := fnIs_of Tryz.func21 (by kernel_rfl) (by kernel_rfl) (by kernel_rfl) (by kernel_rfl) -- (*pub-kmsg/pub/kmsg.AddRaftVoterResponse).MaxVersion
theorem fn11 : FnIs Tryz.prog 11 19 [4, 5] (cAgain 42 3 22 51 20 23 24 25) := fnIs_of Tryz.func11 (by kernel_rfl) (by kernel_rfl) (by kernel_rfl) (by kernel_rfl) -- pub-kmsg/impl.AgainAddRaftVoterResponse
theorem fn26 : FnIs Tryz.prog 26 3 [0] (cNewPtr 84 55) := fnIs_of Tryz.func26 (by kernel_rfl) (by kernel_rfl) (by kernel_rfl) (by kernel_rfl) -- pub-kmsg/pub/kmsg.NewPtrDescribeGroupsRequest
theorem fn28 : FnIs Tryz.prog 28 8 [] (cSetV 84 42) := fnIs_of Tryz.func28 (by kernel_rfl) (by kernel_rfl) (by kernel_rfl) (by kernel_rfl) -- (*pub-kmsg/pub/kmsg.DescribeGroupsRequest).SetVersion
theorem fn29 : FnIs Tryz.prog 29 8 [4] (cRdF 56) := fnIs_of Tryz.func29 (by kernel_rfl) (by kernel_rfl) (by kernel_rfl) (by kernel_rfl) -- (*pub-kmsg/pub/kmsg.DescribeGroupsRequest).ReadFrom
theorem fn12 : FnIs Tryz.prog 12 4 [0] (cMax 42 3 26 27) := fnIs_of Tryz.func12 (by kernel_rfl) (by kernel_rfl) (by kernel_rfl) (by kernel_rfl) -- pub-kmsg/impl.MaxDescribeGroupsRequest
theorem fn27 : FnIs Tryz.prog 27 3 [2] (cMaxV 6) := fnIs_of Tryz.func27 (by kernel_rfl) (by kernel_rfl) (by kernel_rfl) (by kernel_rfl) -- (*pub-kmsg/pub/kmsg.DescribeGroupsRequest).MaxVersion
theorem fn14 : FnIs Tryz.prog 14 19 [4, 5] (cAgain 42 3 22 51 26 28 29 30) := fnIs_of Tryz.func14 (by kernel_rfl) (by kernel_rfl) (by kernel_rfl) (by kernel_rfl) -- pub-kmsg/impl.AgainDescribeGroupsRequest
theorem fn31 : FnIs Tryz.prog 31 3 [0] (cNewPtr 90 62) := fnIs_of Tryz.func31 (by kernel_rfl) (by kernel_rfl) (by kernel_rfl) (by kernel_rfl) -- pub-kmsg/pub/kmsg.NewPtrReadShareGroupStateSummaryRequest
theorem fn34 : FnIs Tryz.prog 34 8 [] (cSetV 90 42) := fnIs_of Tryz.func34 (by kernel_rfl) (by kernel_rfl) (by kernel_rfl) (by kernel_rfl) -- (*pub-kmsg/pub/kmsg.ReadShareGroupStateSummaryRequest).SetVersion
theorem fn35 : FnIs Tryz.prog 35 8 [4] (cRdF 64) := fnIs_of Tryz.func35 (by kernel_rfl) (by kernel_rfl) (by kernel_rfl) (by kernel_rfl) -- (*pub-kmsg/pub/kmsg.ReadShareGroupStateSummaryRequest).ReadFrom
theorem fn15 : FnIs Tryz.prog 15 4 [0] (cMax 42 3 31 32) := fnIs_of Tryz.func15 (by kernel_rfl) (by kernel_rfl) (by kernel_rfl) (by kernel_rfl) -- pub-kmsg/impl.MaxReadShareGroupStateSummaryRequest
theorem fn32 : FnIs Tryz.prog 32 3 [2] (cMaxV 1) := fnIs_of Tryz.func32 (by kernel_rfl) (by kernel_rfl) (by kernel_rfl) (by kernel_rfl) -- (*pub-kmsg/pub/kmsg.ReadShareGroupStateSummaryRequest).MaxVersion
theorem fn17 : FnIs Tryz.prog 17 19 [4, 5] (cAgain 42 3 22 51 31 34 35 36) := fnIs_of Tryz.func17 (by kernel_rfl) (by kernel_rfl) (by kernel_rfl) (by kernel_rfl) -- pub-kmsg/impl.AgainReadShareGroupStateSummaryRequest
theorem fn10 : FnIs Tryz.prog 10 10 [4] (cVer 5 3) := fnIs_of Tryz.func10 (by kernel_rfl) (by kernel_rfl) (by kernel_rfl) (by kernel_rfl) -- pub-kmsg/laws.version
theorem fn18 : FnIs Tryz.prog 18 26 [4] (cSame 22 5 3) := fnIs_of Tryz.func18 (by kernel_rfl) (by kernel_rfl) (by kernel_rfl) (by kernel_rfl) -- pub-kmsg/spec.Same
theorem fn64 : FnIs Tryz.prog 64 150 [6] (gRead numbers true false ⟨true, 7, 10, 8, 9⟩ fsReadShareGroupStateSummaryRequest 62 90 3 0 27 nmReadShareGroupStateSummaryRequest) := fnIs_of Tryz.func64 (by kernel_rfl) (by kernel_rfl) (by kernel_rfl) (by kernel_rfl) -- (*pub-kmsg/pub/kmsg.ReadShareGroupStateSummaryRequest).readFrom
theorem fn36 : FnIs Tryz.prog 36 144 [4] (gWrite numbersW false ⟨true, 0, 0, 5, 6⟩ fsReadShareGroupStateSummaryRequest 90 3 0 0 17 nwReadShareGroupStateSummaryRequest) := fnIs_of Tryz.func36 (by kernel_rfl) (by kernel_rfl) (by kernel_rfl) (by kernel_rfl) -- (*pub-kmsg/pub/kmsg.ReadShareGroupStateSummaryRequest).AppendTo
def di62 : List DI := []
theorem fn62 : FnIs Tryz.prog 62 2 [] (gDflt di62 2) := fnIs_of Tryz.func62 (by kernel_rfl) (by kernel_rfl) (by kernel_rfl) (by kernel_rfl) -- (*pub-kmsg/pub/kmsg.ReadShareGroupStateSummaryRequest).Default
noncomputable def dw62 : List (Nat × Value) := (dRun Tryz.prog 2 di62 [(0, 0)]).getD []
theorem df62 : Ent Tryz.prog 62 ∧ DfC Tryz.prog 62 dw62 := dfC_of (n0 := 2) (items := di62) (by kernel_rfl) fn62 (by kernel_rfl) (of_decide_eq_true (by kernel_rfl)) (by omega)
def di93 : List DI := []
theorem fn93 : FnIs Tryz.prog 93 2 [] (gDflt di93 2) := fnIs_of Tryz.func93 (by kernel_rfl) (by kernel_rfl) (by kernel_rfl) (by kernel_rfl) -- (*pub-kmsg/pub/kmsg.ReadShareGroupStateSummaryRequestTopic).Default
noncomputable def dw93 : List (Nat × Value) := (dRun Tryz.prog 2 di93 [(0, 0)]).getD []
theorem df93 : Ent Tryz.prog 93 ∧ DfC Tryz.prog 93 dw93 := dfC_of (n0 := 2) (items := di93) (by kernel_rfl) fn93 (by kernel_rfl) (of_decide_eq_true (by kernel_rfl)) (by omega)
def di95 : List DI := []
theorem fn95 : FnIs Tryz.prog 95 2 [] (gDflt di95 2) := fnIs_of Tryz.func95 (by kernel_rfl) (by kernel_rfl) (by kernel_rfl) (by kernel_rfl) -- (*pub-kmsg/pub/kmsg.ReadShareGroupStateSummaryRequestTopicPartition).Default
noncomputable def dw95 : List (Nat × Value) := (dRun Tryz.prog 2 di95 [(0, 0)]).getD []
theorem df95 : Ent Tryz.prog 95 ∧ DfC Tryz.prog 95 dw95 := dfC_of (n0 := 2) (items := di95) (by kernel_rfl) fn95 (by kernel_rfl) (of_decide_eq_true (by kernel_rfl)) (by omega)
noncomputable def dd : Nat → Option (List (Nat × Value))
  | 62 => some dw62
  | 93 => some dw93
  | 95 => some dw95
  | _ => none
theorem ddOk : ∀ f wr, dd f = some wr → Ent Tryz.prog f ∧ DfC Tryz.prog f wr := by
  intro f wr h
  unfold dd at h
  split at h
  · obtain rfl := Option.some.inj h; exact df62
  · obtain rfl := Option.some.inj h; exact df93
  · obtain rfl := Option.some.inj h; exact df95
  · cases h
theorem kt : KT Tryz.prog numbers kn where
  mixed := mixed
  f0 := fldB_ok (by kernel_rfl)
  f1 := fldB_ok (by kernel_rfl)
  sl := by kernel_rfl
  u8 := varB_ok (by kernel_rfl)
  dU8 := by kernel_rfl
  dI8 := fun h => absurd h (by decide)
  dI16 := by kernel_rfl
  dI32 := by kernel_rfl
  dU32 := by kernel_rfl
  dInt := by kernel_rfl
theorem kbig : KBig Tryz.prog kn where
  be := varB_ok (by kernel_rfl)
  d16 := by kernel_rfl
  d64 := fun h => absurd h (by decide)
  dI64 := fun h => absurd h (by decide)
  f16 := fun _ => fn97
  f32 := fun _ => fn96
  f64 := fun h => absurd h (by decide)
theorem ksub : KSub Tryz.prog numbers kn kn.tRS where
  e16 := fun _ => fn73.ent
  c16 := fun _ w S R r hR hRS => (i16_calls kt kbig rfl fn73 (by omega) hR hRS).mono fun e w' h => (fun h => ⟨h.1, h.2.1, h.2.2.1⟩) (rdOk_int (p := .i16) (.inr (.inl ⟨rfl, rfl⟩)) rfl h)
  e32 := fun _ => fn72.ent
  c32 := fun _ w S R r hR hRS => (i32_calls kt kbig rfl fn72 (by omega) hR hRS).mono fun e w' h => (fun h => ⟨h.1, h.2.1, h.2.2.1⟩) (rdOk_int (p := .i32) (.inr (.inr (.inl ⟨rfl, rfl⟩))) rfl h)
  eU := fun _ => fn98.ent
  cU := fun _ w S R r hR hRS => uv_calls kt fn105 (by omega) fn98 (by omega) hR hRS
  eS := fun _ => fn100.ent
  cS := fun _ w S R r k hR hRS => span_calls kt fn100 (by omega) hR hRS
  dStr := by kernel_rfl
  vStr := varB_ok (by kernel_rfl)
  zStr := zeroOf_ok (by kernel_rfl)
def tn : TN := { tTags := 66, tM := 64, tKs := 129, tU32 := 59, tInt := 3, tSl := 22, fSort := 103, fLess := 104, fEach := 83, fOne := 84, fUv := 52 }
theorem fn83 : FnIs Tryz.prog 83 53 [] (cEach tn) := fnIs_of Tryz.func83 (by kernel_rfl) (by kernel_rfl) (by kernel_rfl) (by kernel_rfl) -- (*pub-kmsg/pub/kmsg.Tags).Each
theorem fn104 : FnIs Tryz.prog 104 15 [5] (cTLess tn) := fnIs_of Tryz.func104 (by kernel_rfl) (by kernel_rfl) (by kernel_rfl) (by kernel_rfl) -- (*pub-kmsg/pub/kmsg.Tags).Each$1
theorem fn54 : FnIs Tryz.prog 54 9 [4] (cTEach tn) := fnIs_of Tryz.func54 (by kernel_rfl) (by kernel_rfl) (by kernel_rfl) (by kernel_rfl) -- (*pub-kmsg/pub/kmsg.Tags).AppendEach
theorem fn84 : FnIs Tryz.prog 84 16 [] (cTOne tn) := fnIs_of Tryz.func84 (by kernel_rfl) (by kernel_rfl) (by kernel_rfl) (by kernel_rfl) -- (*pub-kmsg/pub/kmsg.Tags).AppendEach$1
theorem tf : TF Tryz.prog tn where
  map := ⟨59, 22, by kernel_rfl, by kernel_rfl⟩
  fld := fldB_ok (by kernel_rfl)
  sl := by kernel_rfl
  info := infoB_ok (by kernel_rfl)
  vU := varB_ok (by kernel_rfl)
  vK := varB_ok (by kernel_rfl)
  zK := zeroOf_ok (by kernel_rfl)
  dInt := by kernel_rfl
  dU32 := by kernel_rfl
theorem sortOk : SortOk Tryz.prog tn := sortOk_of (it := (Tryz.prog.info? 129).get (by kernel_rfl)) (ie := (Tryz.prog.info? 59).get (by kernel_rfl)) (ke := 10) (f1 := 111) (f2 := 112) (f6 := 116) mixed tf Tryz.sa6 rfl (enters_of Tryz.func103 (by kernel_rfl) rfl) fn104 (by omega) (by kernel_rfl) (by kernel_rfl) (by kernel_rfl) (by kernel_rfl) (fun _ => by kernel_rfl) (by kernel_rfl) (by kernel_rfl) (by kernel_rfl) fn104.ent (by kernel_rfl) (by kernel_rfl) (by kernel_rfl) (fun args W => run_callFunc_extern Tryz.func116 (by kernel_rfl) (by kernel_rfl) (by kernel_rfl) (e := Extern.ReflectliteSwapper.swap true) (by kernel_rfl) args W)
theorem setOk : SetOk Tryz.prog numbers.set := fun _ _ _ _ _ _ _ _ _ _ hk hB hO ht hv => set_calls (tM := 64) (kt := 59) (et := 22) mixed fn101 (by omega) (by kernel_rfl) (by kernel_rfl) (fldB_ok (by kernel_rfl)) hk hB hO ht hv
def av : PF → Bool
  | .bool => true
  | .i16 => true
  | .i32 => true
  | .uuid => true
  | .str => true
  | .cstr => true
  | .nstr => true
  | .cnstr => true
  | _ => false
theorem rdAll : ∀ p, av p = true → RdOk Tryz.prog numbers.tR p (numbers.rd p) := by
  intro p h
  cases p
  · exact rdOk_bool kt fn92 (by omega)
  · cases h
  · exact rdOk_i16 kt kbig rfl fn73 (by omega)
  · cases h
  · exact rdOk_i32 kt kbig rfl fn72 (by omega)
  · cases h
  · exact rdOk_uuid kt ksub rfl (varB_ok (by kernel_rfl)) (zeroOf_ok (by kernel_rfl)) (by kernel_rfl) fn94 (by omega)
  · exact rdOk_str kt ksub rfl rfl fn91 (by omega)
  · exact rdOk_cstr kt ksub rfl rfl fn90 (by omega)
  · exact rdOk_nstr kt ksub rfl rfl fn77 (by omega)
  · exact rdOk_cnstr kt ksub rfl rfl fn75 (by omega)
  · cases h
  · cases h
  · cases h
  · cases h
theorem kb : KB Tryz.prog numbers av true where
  mixed := mixed
  rdE p h := (rdAll p h).1
  rdC p h := (rdAll p h).2
  i8C := fun h => absurd h (by decide)
  okE := fun _ => fn87.ent
  okC := fun _ w S R r hR => ok_calls kt fn87 (by omega) hR
  cmE := fn79.ent
  cmC w S R r hR he := complete_calls kt fn79 (by omega) (varB_ok (by kernel_rfl)) hR he
  lenE := fun _ => fn86.ent
  lenC := fun _ w S R r hR hRS => len_calls kt ksub rfl fn86 (by omega) hR hRS
  clenE := fun _ _ => fn85.ent
  clenC := fun _ _ w S R r hR hRS => clen_calls kt ksub rfl fn85 (by omega) hR hRS
  uvE := fun _ => fn98.ent
  uvC := fun _ w S R r hR hRS => ksub.cU rfl w S R r hR hRS
  spanE := fun _ => fn100.ent
  spanC := fun _ w S R r k _ _ hR hRS => ksub.cS rfl w S R r k hR hRS
  tagsE := fun _ => fn78.ent
  tagsC := fun _ w S R r hR hRS hS => rdTags_calls kt ksub rfl rfl rfl fn101.ent setOk (zeroOf_ok (by kernel_rfl)) (varB_ok (by kernel_rfl)) fn78 (by omega) hR hRS hS
  setE := fun _ => fn101.ent
  setC := fun _ => setOk
  fR := twoB_ok (by kernel_rfl)
  zR := zeroOf_ok (by kernel_rfl)
  vR := varB_ok (by kernel_rfl)
  uuid := fun _ => ⟨varB_ok (by kernel_rfl), zeroOf_ok (by kernel_rfl)⟩
  tI32 := by kernel_rfl
  tU32 := fun _ => by kernel_rfl
  tInt := by kernel_rfl
  vStr := ⟨varB_ok (by kernel_rfl), zeroOf_ok (by kernel_rfl)⟩
  vTags := fun _ => varB_ok (by kernel_rfl)
  tErr := fun _ => ifaceB_ok (by kernel_rfl)
theorem env : Env Tryz.prog numbers av true dd := ⟨kb, ddOk⟩
theorem oct : OctT Tryz.prog kn.tSl kn.tU8 := octB_ok (by kernel_rfl)
theorem wt : WT Tryz.prog kn where
  mixed := mixed
  oct := oct
  dU8 := by kernel_rfl
  dI8 := fun h => absurd h (by decide)
  dI16 := by kernel_rfl
  dU16 := fun _ => by kernel_rfl
  dI32 := by kernel_rfl
  dU32 := by kernel_rfl
  dInt := by kernel_rfl
  dI64 := fun _ => by kernel_rfl
  dU64 := fun _ => by kernel_rfl
  dStr := by kernel_rfl
  vStr := varB_ok (by kernel_rfl)
theorem uvC (x : Nat) (w : World) (h : x < 4294967296) : ApC Tryz.prog kn.tU8 numbersW.uv (.int .u32 x) (uvar x) w := ap_uv wt (by kernel_rfl) fn102 (by omega) fn82 (by omega) fn52 (by omega) h w
theorem i16C (x : Int) (w : World) : ApC Tryz.prog kn.tU8 49 (.int .i16 x) (be 2 x) w := ap_i16 wt rfl fn81 (by omega) fn49 (by omega) x w
theorem i32C (x : Int) (w : World) : ApC Tryz.prog kn.tU8 48 (.int .i32 x) (be 4 x) w := ap_i32 wt fn80 (by omega) fn48 (by omega) x w
def avw : PF → Bool
  | .bool => true
  | .i16 => true
  | .u16 => true
  | .i32 => true
  | .uuid => true
  | .str => true
  | .cstr => true
  | .nstr => true
  | .cnstr => true
  | _ => false
theorem apAll : ∀ p, avw p = true → AppOk Tryz.prog kn.tU8 p (numbersW.ap p) := by
  intro p h
  cases p
  · exact app_bool wt fn61 (by omega)
  · cases h
  · exact app_i16 wt rfl fn81 (by omega) fn49 (by omega)
  · exact app_u16 wt rfl fn81 (by omega)
  · exact app_i32 wt fn80 (by omega) fn48 (by omega)
  · cases h
  · exact app_uuid wt (varB_ok (by kernel_rfl)) (by kernel_rfl) fn65 (by omega)
  · exact app_str wt (app_i16 wt rfl fn81 (by omega) fn49 (by omega)) i16C fn60 (by omega)
  · exact app_cstr wt fn52.ent (fun x w h => uvC x w h) fn59 (by omega)
  · exact app_nstr wt (fx := false) rfl (by kernel_rfl) fn49.ent (fun w => i16C (-1) w) (app_str wt (app_i16 wt rfl fn81 (by omega) fn49 (by omega)) i16C fn60 (by omega)) fn51 (by omega)
  · exact app_nstr wt (fx := true) rfl (by kernel_rfl) fn52.ent (fun w => uvC 0 w (by omega)) (app_cstr wt fn52.ent (fun x w h => uvC x w h) fn59 (by omega)) fn50 (by omega)
  · cases h
  · cases h
  · cases h
  · cases h
theorem kw : KW Tryz.prog numbersW avw true false kn.tU8 where
  mixed := mixed
  oct := oct
  dInt := by kernel_rfl
  dU32 := fun _ => by kernel_rfl
  apE p h := (apAll p h).1
  apC p h := (apAll p h).2
  alE := fun _ => fn58.ent
  alC := fun _ n w => ap_len wt fn48.ent i32C fn58 (by omega) n w
  clE := fun _ _ => fn57.ent
  clC := fun _ _ n w => ap_clen wt fn52.ent (fun x w h => uvC x w h) fn57 (by omega) n w
  nlE := fun h => absurd h (by decide)
  nlC := fun h => absurd h (by decide)
  cnE := fun h => absurd h (by decide)
  cnC := fun h => absurd h (by decide)
  uvE := fun _ => fn52.ent
  uvC := fun _ x w h => uvC x w h
  tlE := fun _ => fn53.ent
  tlC := fun _ w b o m X t hc ht => tlen_calls (kt := 59) (et := 22) mixed (by kernel_rfl) (fldB_ok (by kernel_rfl)) fn53 (by omega) hc ht
  teE := fun _ => fn54.ent
  teC := fun _ w b o m L t d bs hc hb ht hd hL hlim => teach_calls mixed tf sortOk oct (varB_ok (by kernel_rfl)) fn52.ent (fun x w h => uvC x w h) fn83 (by omega) fn84 (by omega) fn54 (by omega) hc hb ht hd hL hlim
  uuid := fun _ => ⟨varB_ok (by kernel_rfl), zeroOf_ok (by kernel_rfl)⟩
noncomputable def zv : Value := (zeroOf Tryz.prog 90).getD undef
noncomputable def zz : Array Value := applyWr zv.cells 0 dw62
theorem msg : MsgC Tryz.prog numbers.gErr kn.tU8 false true 0 fsReadShareGroupStateSummaryRequest (some 3) 90 zz 31 34 35 36 :=
  msgC_of (cx := ⟨true, 7, 10, 8, 9⟩) (cw := ⟨true, 0, 0, 5, 6⟩) (nm := nmReadShareGroupStateSummaryRequest) (ms := nwReadShareGroupStateSummaryRequest) (tI16 := 42) env kw (by decide) (by decide) rfl rfl fn31 (by omega) fn34 (by omega) fn35 (by omega) fn64 (by omega) fn36 (by kernel_rfl) (by kernel_rfl) rfl (of_decide_eq_true (by kernel_rfl)) (by kernel_rfl) (by kernel_rfl) rfl (by kernel_rfl) (by kernel_rfl)
def sn : SN := { tInt := 3, tI64 := 2, tU8 := 5, tU64 := 75, tU32 := 59, tU16 := 27, tB := 4, tSl := 22, tF := 48, tFs := 31, tT := 26, tTs := 23, tG := 61, tGs := 24, tMs := 33, fPart := 22, fHas := 39, fField := 40, fAt := 41, fKnown := 42, fUsual := 43, fUv := 44, fUnk := 45, fWhole := 46, fNull := 66, fThings := 67, fCnt := 68, fVal := 69, fFix := 70, fWid := 71, fWrite := 8, fSame := 18, fZ2 := 6, fZ3 := 19, fZ4 := 37 }
theorem sf_fPart : FnIs Tryz.prog sn.fPart 132 [8] (csPt sn) := fnIs_of Tryz.func22 (by kernel_rfl) (by kernel_rfl) (by kernel_rfl) (by kernel_rfl)
theorem sf_fHas : FnIs Tryz.prog sn.fHas 20 [4] (csHs sn) := fnIs_of Tryz.func39 (by kernel_rfl) (by kernel_rfl) (by kernel_rfl) (by kernel_rfl)
theorem sf_fField : FnIs Tryz.prog sn.fField 76 [8] (csFl sn) := fnIs_of Tryz.func40 (by kernel_rfl) (by kernel_rfl) (by kernel_rfl) (by kernel_rfl)
theorem sf_fAt : FnIsC Tryz.prog sn.fAt 16 4 26 (csAt sn) := fnIsC_of Tryz.func41 (by kernel_rfl) (by kernel_rfl) (by kernel_rfl) (by kernel_rfl)
theorem sf_fKnown : FnIs Tryz.prog sn.fKnown 23 [2] (csKw sn) := fnIs_of Tryz.func42 (by kernel_rfl) (by kernel_rfl) (by kernel_rfl) (by kernel_rfl)
theorem sf_fUv : FnIs Tryz.prog sn.fUv 20 [2] (csUvr sn) := fnIs_of Tryz.func44 (by kernel_rfl) (by kernel_rfl) (by kernel_rfl) (by kernel_rfl)
theorem sf_fUnk : FnIs Tryz.prog sn.fUnk 85 [4] (csUn sn) := fnIs_of Tryz.func45 (by kernel_rfl) (by kernel_rfl) (by kernel_rfl) (by kernel_rfl)
theorem sf_fWhole : FnIs Tryz.prog sn.fWhole 8 [2] (csWh sn) := fnIs_of Tryz.func46 (by kernel_rfl) (by kernel_rfl) (by kernel_rfl) (by kernel_rfl)
theorem sf_fNull : FnIs Tryz.prog sn.fNull 20 [6] (csNu sn) := fnIs_of Tryz.func66 (by kernel_rfl) (by kernel_rfl) (by kernel_rfl) (by kernel_rfl)
theorem sf_fThings : FnIs Tryz.prog sn.fThings 8 [2] (csTh sn) := fnIs_of Tryz.func67 (by kernel_rfl) (by kernel_rfl) (by kernel_rfl) (by kernel_rfl)
theorem sf_fCnt : FnIs Tryz.prog sn.fCnt 28 [8] (csCn sn) := fnIs_of Tryz.func68 (by kernel_rfl) (by kernel_rfl) (by kernel_rfl) (by kernel_rfl)
theorem sf_fVal : FnIs Tryz.prog sn.fVal 70 [12] (csVa sn) := fnIs_of Tryz.func69 (by kernel_rfl) (by kernel_rfl) (by kernel_rfl) (by kernel_rfl)
theorem sf_fFix : FnIs Tryz.prog sn.fFix 22 [4] (csFi sn) := fnIs_of Tryz.func70 (by kernel_rfl) (by kernel_rfl) (by kernel_rfl) (by kernel_rfl)
theorem sf_fWid : FnIs Tryz.prog sn.fWid 11 [2] (csWd sn) := fnIs_of Tryz.func71 (by kernel_rfl) (by kernel_rfl) (by kernel_rfl) (by kernel_rfl)
theorem sf_fWrite : FnIs Tryz.prog sn.fWrite 21 [6] (csWr sn) := fnIs_of Tryz.func8 (by kernel_rfl) (by kernel_rfl) (by kernel_rfl) (by kernel_rfl)
theorem sf_fZ2 : FnIs Tryz.prog sn.fZ2 15 [2] (csZ2 sn) := fnIs_of Tryz.func6 (by kernel_rfl) (by kernel_rfl) (by kernel_rfl) (by kernel_rfl)
theorem sf_fZ3 : FnIs Tryz.prog sn.fZ3 18 [2] (csZ3 sn) := fnIs_of Tryz.func19 (by kernel_rfl) (by kernel_rfl) (by kernel_rfl) (by kernel_rfl)
theorem sf_fZ4 : FnIs Tryz.prog sn.fZ4 7 [2] (csZ4 sn) := fnIs_of Tryz.func37 (by kernel_rfl) (by kernel_rfl) (by kernel_rfl) (by kernel_rfl)
theorem rt : RefT Tryz.prog sn where
  mixed := mixed
  dInt := by kernel_rfl
  dI64 := by kernel_rfl
  dU8 := by kernel_rfl
  dU32 := by kernel_rfl
  dU64 := by kernel_rfl
  oct := oct
  dTs := by kernel_rfl
  dGs := by kernel_rfl
  dFs := by kernel_rfl
  vI64 := varB_ok (by kernel_rfl)
  vU8 := varB_ok (by kernel_rfl)
  vT := varB_ok (by kernel_rfl)
  vF := varB_ok (by kernel_rfl)
  vG := varB_ok (by kernel_rfl)
  vM := varB_ok (by kernel_rfl)
  t0 := fldB_ok (by kernel_rfl)
  t1 := fldB_ok (by kernel_rfl)
  t2 := fldB_ok (by kernel_rfl)
  t3 := fldB_ok (by kernel_rfl)
  t4 := fldB_ok (by kernel_rfl)
  f0 := fldB_ok (by kernel_rfl)
  f1 := fldB_ok (by kernel_rfl)
  f2 := fldB_ok (by kernel_rfl)
  f3 := fldB_ok (by kernel_rfl)
  f4 := fldB_ok (by kernel_rfl)
  f5 := fldB_ok (by kernel_rfl)
  f6 := fldB_ok (by kernel_rfl)
  f7 := fldB_ok (by kernel_rfl)
  g0 := fldB_ok (by kernel_rfl)
  g1 := fldB_ok (by kernel_rfl)
  m0 := fldB_ok (by kernel_rfl)
  m1 := fldB_ok (by kernel_rfl)
  zT := zeroOf_ok (by kernel_rfl)
  zF := zeroOf_ok (by kernel_rfl)
  zG := zeroOf_ok (by kernel_rfl)
  zM := zeroOf_ok (by kernel_rfl)
  z8 := z8_ok (by kernel_rfl)
  bT := fun w => by kernel_rfl
  bG := fun w => by kernel_rfl
  bSG := fun w => by kernel_rfl
  iG := iG_ok (by kernel_rfl)

theorem leaf : LeafC Tryz.prog sn := leafC_of rt (varB_ok (by kernel_rfl)) sf_fUv sf_fFix sf_fCnt sf_fWid sf_fWhole sf_fThings sf_fHas sf_fNull sf_fKnown sf_fAt sf_fUnk
theorem trees : TreT Tryz.prog sn where
  tab := rt
  cT := by kernel_rfl
  cG := by kernel_rfl
  cI := by kernel_rfl
  cSl := by kernel_rfl
  cB := by kernel_rfl
  cTs := by kernel_rfl
  cGs := by kernel_rfl
  cU := by kernel_rfl
  c8 := by kernel_rfl
  dB := by kernel_rfl
  nT := by kernel_rfl
  nG := by kernel_rfl

def ln : LN := { fM := 15, fB := 16, fV := 10, fA := 17 }
def it63 : List BI := [([(0, 3), (2, -1), (3, -1), (4, -1)], none), ([(0, 3), (2, -1), (3, -1), (4, -1)], none)]
def ss63 : SFs := .cons 3 0 (-1) (-1) (-1) 0 0 .nil (.cons 3 0 (-1) (-1) (-1) 0 0 .nil (.nil))
theorem fi63 : FnIs Tryz.prog 63 4 [0] (cSub sn it63) := fnIs_of Tryz.func63 (by kernel_rfl) (by kernel_rfl) (by kernel_rfl) (by kernel_rfl)
theorem sb63 : Ent Tryz.prog 63 ∧ BuildC Tryz.prog 63 ss63 := sub_calls rt fi63 (of_decide_eq_true (by kernel_rfl)) ⟨fun w => by kernel_rfl, rfl, ⟨fun w => by kernel_rfl, rfl, trivial⟩⟩ (fun sv w => by kernel_rfl) rfl (of_decide_eq_true (by kernel_rfl))
def it33 : List BI := [([(0, 7), (2, -1), (3, -1), (4, -1)], none), ([(0, 11), (2, -1), (3, -1), (4, -1), (6, 10)], some 63)]
def ss33 : SFs := .cons 7 0 (-1) (-1) (-1) 0 0 .nil (.cons 11 0 (-1) (-1) (-1) 0 10 ss63 (.nil))
theorem fi33 : FnIs Tryz.prog 33 5 [0] (cSub sn it33) := fnIs_of Tryz.func33 (by kernel_rfl) (by kernel_rfl) (by kernel_rfl) (by kernel_rfl)
theorem sb33 : Ent Tryz.prog 33 ∧ BuildC Tryz.prog 33 ss33 := sub_calls rt fi33 (of_decide_eq_true (by kernel_rfl)) ⟨fun w => by kernel_rfl, rfl, ⟨fun base n c w => by kernel_rfl, sb63, trivial⟩⟩ (fun sv w => by kernel_rfl) rfl (of_decide_eq_true (by kernel_rfl))
def itM : List BI := [([(0, 8), (2, -1), (3, -1), (4, -1)], none), ([(0, 11), (2, -1), (3, -1), (4, -1), (6, 10)], some 33)]
def ssM : SFs := .cons 8 0 (-1) (-1) (-1) 0 0 .nil (.cons 11 0 (-1) (-1) (-1) 0 10 ss33 (.nil))
theorem fiM : FnIsC Tryz.prog 16 6 0 sn.tMs (cMsgB sn 0 itM) := fnIsC_of Tryz.func16 (by kernel_rfl) (by kernel_rfl) (by kernel_rfl) (by kernel_rfl)
theorem sbM : Ent Tryz.prog 16 ∧ MsgBC Tryz.prog 16 0 ssM := msgb_calls rt (fun x base n c w => by kernel_rfl) fiM (of_decide_eq_true (by kernel_rfl)) ⟨fun w => by kernel_rfl, rfl, ⟨fun base n c w => by kernel_rfl, sb33, trivial⟩⟩ (fun sv w => by kernel_rfl) rfl (of_decide_eq_true (by kernel_rfl))
theorem lawC : LawC Tryz.prog sn ln numbers.gErr 1 0 ssM (fun x l => againOut false true 0 fsReadShareGroupStateSummaryRequest x l) (okInL true 0 fsReadShareGroupStateSummaryRequest 1) :=
  lawC_of (tI16 := 42) (tErr := 51) rt msg (by kernel_rfl) (ifaceB_ok (by kernel_rfl)) (.inl (by kernel_rfl)) fn17 (by omega) fn10 (by omega) (ntSm := 26) (.inr fn18) (by omega) fn15 (by omega) fn32 (by omega) (by decide) sf_fZ4 sf_fZ3 sf_fZ2 sbM sf_fWrite sf_fPart.ent (ref_calls leaf sf_fPart sf_fField sf_fVal ssM (by kernel_rfl)).1
theorem fnL : FnIs Tryz.prog 5 35 [4] (cLag sn ln) := fnIs_of Tryz.func5 (by kernel_rfl) (by kernel_rfl) (by kernel_rfl) (by kernel_rfl)
theorem law {W : World} {x0 k : Nat} {cs : List Value} {t : Tr} (hx : x0 < 256) (ht : TrRp W k cs t) (hw : t.wt ≤ 1048576) (herr : ErrAt numbers.gErr W) : Calls Tryz.prog 5 [.int .u8 (x0 : Int), .agg cs.toArray].toArray W (TrueC W) :=
  again_law lawC (by kernel_rfl) (by kernel_rfl) fnL hx ht herr (fun v => k_lim (by kernel_rfl) (by kernel_rfl) hw v _)
end Go.Proofs.YtmjhmpgnfdincaaGreatDoor.Kx
