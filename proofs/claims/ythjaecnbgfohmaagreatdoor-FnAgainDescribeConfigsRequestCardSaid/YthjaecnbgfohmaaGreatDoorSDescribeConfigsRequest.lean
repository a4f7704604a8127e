/-
  FnAgainDescribeConfigsRequest: the numbers of the program, the code of its functions, and the law out of them.
-/
import Derived.Test.YthjaecnbgfohmaaGreatDoorChecked
import Derived.Test.YthjaecnbgfohmaaGreatDoorK1
import Derived.Test.YthjaecnbgfohmaaGreatDoorK2
import Derived.Test.YthjaecnbgfohmaaGreatDoorK3
import Derived.Test.YthjaecnbgfohmaaGreatDoorK4
import Derived.Test.YthjaecnbgfohmaaGreatDoorK5
import Derived.Test.YthjaecnbgfohmaaGreatDoorK6
import Derived.Test.YthjaecnbgfohmaaGreatDoorK7
import Derived.Test.YthjaecnbgfohmaaGreatDoorK8
import Derived.Test.YthjaecnbgfohmaaGreatDoorK9
import Derived.Test.YthjaecnbgfohmaaGreatDoorK10
import Derived.Test.YthjaecnbgfohmaaGreatDoorK11
import Derived.Test.YthjaecnbgfohmaaGreatDoorK12
import Derived.Test.YthjaecnbgfohmaaGreatDoorK13
import Derived.Test.YthjaecnbgfohmaaGreatDoorK14
import Derived.Test.YthjaecnbgfohmaaGreatDoorK15
import Derived.KernelRfl
import Derived.Test.YthjaecnbgfohmaaGreatDoorSh
namespace Go.Proofs.YthjaecnbgfohmaaGreatDoor.Kx
open Go Go.Proofs
set_option maxRecDepth 100000
def numbers : G := { rd := fun | .bool => 115 | .i8 => 113 | .i16 => 101 | .u16 => 999999 | .i32 => 89 | .i64 => 110 | .uuid => 99 | .str => 98 | .cstr => 97 | .nstr => 999999 | .cnstr => 999999 | .bytes => 999999 | .cbytes => 999999 | .nbytes => 999999 | .cnbytes => 999999, un := fun | .str => 96 | .cstr => 95 | .nstr => 999999 | .cnstr => 999999 | _ => 999999, len := 91, clen := 90, ok := 92, complete := 93, uv := 117, span := 119, tags := 102, set := 121, tR := 133, tUuid := 81, tVer := 40, tI8 := 107, tI32 := 21, tU32 := 59, tInt := 3, tBool := 4, tErr := 50, tTags := 66, tSl := 22, tStr := 9, gErr := 1 }
def numbersW : GW := { ap := fun | .bool => 82 | .i8 => 77 | .i16 => 67 | .u16 => 104 | .i32 => 61 | .i64 => 74 | .uuid => 66 | .str => 65 | .cstr => 64 | .nstr => 999999 | .cnstr => 999999 | .bytes => 999999 | .cbytes => 999999 | .nbytes => 999999 | .cnbytes => 999999, alen := 63, calen := 62, nalen := 81, cnalen := 80, uv := 68, tlen := 69, teach := 70, tVer := 40, tInt := 3, tU32 := 59, tSl := 22, tUuid := 81 }
def kn : Kn := { tRS := 133, tSl := 22, tB := 4, tInt := 3, tU8 := 5, tI8 := 107, tI16 := 40, tU16 := 142, tI32 := 21, tU32 := 59, tI64 := 2, tU64 := 75, tStr := 9, tUuid := 81, tBE := 151, tErr := 50, gBE := 0, gErr := 1, fU16 := 120, fU32 := 116, fU64 := 132, fUv := 126, fR64 := 125 }
theorem mixed : Tryz.prog.follows .mixedOrders = true := by kernel_rfl
def fsDescribeConfigsRequest : Fds := (.cons 0 none none (0) 1 (.list none 4 (.struct none (some 3) (.cons 0 none none (0) 0 (.prim .i8) (.cons 0 none none (0) 1 (.str none) (.cons 0 none none (0) 2 (.list (some 0) 1 (.str none)) .nil))))) (.cons 1 none none (0) 2 (.prim .bool) (.cons 3 none none (0) 3 (.prim .bool) .nil)))
def nmDescribeConfigsRequest : Nm := (.mk [] [(.mk [11, 117, 1, 115, 12, 13, 14, 0, 1] [(.mk [15, 16, 114, 122, 3] [(.mk [] [(.mk [19, 122, 0, 119, 17, 18] []), (.mk [20, 122, 1, 9] []), (.mk [21, 122, 2, 120, 22, 23, 24, 2, 3] [(.mk [25, 9] [])])])])]), (.mk [26, 117, 2, 4] []), (.mk [27, 117, 3, 4] [])])
def nwDescribeConfigsRequest : List Nm := [(.mk [7, 117, 1, 115, 8, 0, 1] [(.mk [9, 122, 3] [(.mk [] [(.mk [10, 122, 0, 119, 11] []), (.mk [12, 122, 1, 9] []), (.mk [13, 122, 2, 120, 14, 2, 3] [(.mk [15, 9] [])])])])]), (.mk [16, 117, 2, 4] []), (.mk [17, 117, 3, 4] [])]
theorem fn113 : FnIs Tryz.prog 113 32 [2] (cI8 kn) := fnIs_of Tryz.func113 (by kernel_rfl) (by kernel_rfl) (by kernel_rfl) (by kernel_rfl) -- (*pub-kmsg/pub/kmsg/inner/kbin.Reader).Int8
theorem fn115 : FnIs Tryz.prog 115 32 [2] (cBool kn) := fnIs_of Tryz.func115 (by kernel_rfl) (by kernel_rfl) (by kernel_rfl) (by kernel_rfl) -- (*pub-kmsg/pub/kmsg/inner/kbin.Reader).Bool
theorem fn101 : FnIs Tryz.prog 101 32 [2] (cI16 kn) := fnIs_of Tryz.func101 (by kernel_rfl) (by kernel_rfl) (by kernel_rfl) (by kernel_rfl) -- (*pub-kmsg/pub/kmsg/inner/kbin.Reader).Int16
theorem fn89 : FnIs Tryz.prog 89 32 [2] (cI32 kn) := fnIs_of Tryz.func89 (by kernel_rfl) (by kernel_rfl) (by kernel_rfl) (by kernel_rfl) -- (*pub-kmsg/pub/kmsg/inner/kbin.Reader).Int32
theorem fn125 : FnIs Tryz.prog 125 31 [2] (cR64 kn) := fnIs_of Tryz.func125 (by kernel_rfl) (by kernel_rfl) (by kernel_rfl) (by kernel_rfl) -- (*pub-kmsg/pub/kmsg/inner/kbin.Reader).readUint64
theorem fn110 : FnIs Tryz.prog 110 6 [2] (cI64 kn) := fnIs_of Tryz.func110 (by kernel_rfl) (by kernel_rfl) (by kernel_rfl) (by kernel_rfl) -- (*pub-kmsg/pub/kmsg/inner/kbin.Reader).Int64
theorem fn126 : FnIs Tryz.prog 126 87 [2, 3] (cUvIn kn) := fnIs_of Tryz.func126 (by kernel_rfl) (by kernel_rfl) (by kernel_rfl) (by kernel_rfl) -- pub-kmsg/pub/kmsg/inner/kbin.Uvarint
theorem fn117 : FnIs Tryz.prog 117 31 [2] (cUv kn) := fnIs_of Tryz.func117 (by kernel_rfl) (by kernel_rfl) (by kernel_rfl) (by kernel_rfl) -- (*pub-kmsg/pub/kmsg/inner/kbin.Reader).Uvarint
theorem fn99 : FnIsC Tryz.prog 99 9 2 81 (cUuid numbers kn) := fnIsC_of Tryz.func99 (by kernel_rfl) (by kernel_rfl) (by kernel_rfl) (by kernel_rfl) -- (*pub-kmsg/pub/kmsg/inner/kbin.Reader).Uuid
theorem fn102 : FnIsC Tryz.prog 102 24 2 66 (cRdTags numbers kn) := fnIsC_of Tryz.func102 (by kernel_rfl) (by kernel_rfl) (by kernel_rfl) (by kernel_rfl) -- pub-kmsg/pub/kmsg.internalReadTags
theorem fn121 : FnIs Tryz.prog 121 21 [] (cSet numbers 64) := fnIs_of Tryz.func121 (by kernel_rfl) (by kernel_rfl) (by kernel_rfl) (by kernel_rfl) -- (*pub-kmsg/pub/kmsg.Tags).Set
theorem fn92 : FnIs Tryz.prog 92 8 [2] (cOk kn) := fnIs_of Tryz.func92 (by kernel_rfl) (by kernel_rfl) (by kernel_rfl) (by kernel_rfl) -- (*pub-kmsg/pub/kmsg/inner/kbin.Reader).Ok
theorem fn93 : FnIs Tryz.prog 93 8 [2] (cComplete kn) := fnIs_of Tryz.func93 (by kernel_rfl) (by kernel_rfl) (by kernel_rfl) (by kernel_rfl) -- (*pub-kmsg/pub/kmsg/inner/kbin.Reader).Complete
theorem fn119 : FnIs Tryz.prog 119 40 [4] (cSpan kn) := fnIs_of Tryz.func119 (by kernel_rfl) (by kernel_rfl) (by kernel_rfl) (by kernel_rfl) -- (*pub-kmsg/pub/kmsg/inner/kbin.Reader).Span
theorem fn98 : FnIs Tryz.prog 98 11 [2] (cStr numbers kn) := fnIs_of Tryz.func98 (by kernel_rfl) (by kernel_rfl) (by kernel_rfl) (by kernel_rfl) -- (*pub-kmsg/pub/kmsg/inner/kbin.Reader).String
theorem fn97 : FnIs Tryz.prog 97 12 [2] (cCStr numbers kn) := fnIs_of Tryz.func97 (by kernel_rfl) (by kernel_rfl) (by kernel_rfl) (by kernel_rfl) -- (*pub-kmsg/pub/kmsg/inner/kbin.Reader).CompactString
theorem fn91 : FnIs Tryz.prog 91 21 [2] (cLen numbers kn) := fnIs_of Tryz.func91 (by kernel_rfl) (by kernel_rfl) (by kernel_rfl) (by kernel_rfl) -- (*pub-kmsg/pub/kmsg/inner/kbin.Reader).ArrayLen
theorem fn90 : FnIs Tryz.prog 90 23 [2] (cCLen numbers kn) := fnIs_of Tryz.func90 (by kernel_rfl) (by kernel_rfl) (by kernel_rfl) (by kernel_rfl) -- (*pub-kmsg/pub/kmsg/inner/kbin.Reader).CompactArrayLen
theorem fn120 : FnIs Tryz.prog 120 18 [4] (gBig kn kn.tU16 .u16 2) := fnIs_of Tryz.func120 (by kernel_rfl) (by kernel_rfl) (by kernel_rfl) (by kernel_rfl) -- (encoding/binary.bigEndian).Uint16
theorem fn116 : FnIs Tryz.prog 116 30 [4] (gBig kn kn.tU32 .u32 4) := fnIs_of Tryz.func116 (by kernel_rfl) (by kernel_rfl) (by kernel_rfl) (by kernel_rfl) -- (encoding/binary.bigEndian).Uint32
theorem fn132 : FnIs Tryz.prog 132 54 [4] (gBig kn kn.tU64 .u64 8) := fnIs_of Tryz.func132 (by kernel_rfl) (by kernel_rfl) (by kernel_rfl) (by kernel_rfl) -- (encoding/binary.bigEndian).Uint64
theorem fn77 : FnIs Tryz.prog 77 10 [4] (cAI8 kn) := fnIs_of Tryz.func77 (by kernel_rfl) (by kernel_rfl) (by kernel_rfl) (by kernel_rfl) -- pub-kmsg/pub/kmsg/inner/kbin.AppendInt8
theorem fn104 : FnIs Tryz.prog 104 13 [4] (cAU16 kn) := fnIs_of Tryz.func104 (by kernel_rfl) (by kernel_rfl) (by kernel_rfl) (by kernel_rfl) -- pub-kmsg/pub/kmsg/inner/kbin.AppendUint16
theorem fn103 : FnIs Tryz.prog 103 19 [4] (cAU32 kn) := fnIs_of Tryz.func103 (by kernel_rfl) (by kernel_rfl) (by kernel_rfl) (by kernel_rfl) -- pub-kmsg/pub/kmsg/inner/kbin.AppendUint32
theorem fn111 : FnIs Tryz.prog 111 31 [4] (cAU64 kn) := fnIs_of Tryz.func111 (by kernel_rfl) (by kernel_rfl) (by kernel_rfl) (by kernel_rfl) -- pub-kmsg/pub/kmsg/inner/kbin.appendUint64
theorem fn67 : FnIs Tryz.prog 67 9 [4] (cACv kn.tI16 kn.tU16 104) := fnIs_of Tryz.func67 (by kernel_rfl) (by kernel_rfl) (by kernel_rfl) (by kernel_rfl) -- pub-kmsg/pub/kmsg/inner/kbin.AppendInt16
theorem fn61 : FnIs Tryz.prog 61 9 [4] (cACv kn.tI32 kn.tU32 103) := fnIs_of Tryz.func61 (by kernel_rfl) (by kernel_rfl) (by kernel_rfl) (by kernel_rfl) -- pub-kmsg/pub/kmsg/inner/kbin.AppendInt32
theorem fn74 : FnIs Tryz.prog 74 9 [4] (cACv kn.tI64 kn.tU64 111) := fnIs_of Tryz.func74 (by kernel_rfl) (by kernel_rfl) (by kernel_rfl) (by kernel_rfl) -- pub-kmsg/pub/kmsg/inner/kbin.AppendInt64
theorem fn63 : FnIs Tryz.prog 63 9 [4] (cACv kn.tInt kn.tI32 61) := fnIs_of Tryz.func63 (by kernel_rfl) (by kernel_rfl) (by kernel_rfl) (by kernel_rfl) -- pub-kmsg/pub/kmsg/inner/kbin.AppendArrayLen
theorem fn62 : FnIs Tryz.prog 62 10 [4] (cACv1 kn 68) := fnIs_of Tryz.func62 (by kernel_rfl) (by kernel_rfl) (by kernel_rfl) (by kernel_rfl) -- pub-kmsg/pub/kmsg/inner/kbin.AppendCompactArrayLen
theorem fn82 : FnIs Tryz.prog 82 12 [4] (cABool kn) := fnIs_of Tryz.func82 (by kernel_rfl) (by kernel_rfl) (by kernel_rfl) (by kernel_rfl) -- pub-kmsg/pub/kmsg/inner/kbin.AppendBool
theorem fn66 : FnIs Tryz.prog 66 8 [4] (cAUuid kn) := fnIs_of Tryz.func66 (by kernel_rfl) (by kernel_rfl) (by kernel_rfl) (by kernel_rfl) -- pub-kmsg/pub/kmsg/inner/kbin.AppendUuid
theorem fn65 : FnIs Tryz.prog 65 13 [4] (cAStr kn kn.tStr kn.tI16 67) := fnIs_of Tryz.func65 (by kernel_rfl) (by kernel_rfl) (by kernel_rfl) (by kernel_rfl) -- pub-kmsg/pub/kmsg/inner/kbin.AppendString
theorem fn64 : FnIs Tryz.prog 64 14 [4] (cACStr kn kn.tStr 68) := fnIs_of Tryz.func64 (by kernel_rfl) (by kernel_rfl) (by kernel_rfl) (by kernel_rfl) -- pub-kmsg/pub/kmsg/inner/kbin.AppendCompactString
theorem fn81 : FnIs Tryz.prog 81 14 [6] (cANLen kn 61) := fnIs_of Tryz.func81 (by kernel_rfl) (by kernel_rfl) (by kernel_rfl) (by kernel_rfl) -- pub-kmsg/pub/kmsg/inner/kbin.AppendNullableArrayLen
theorem fn80 : FnIs Tryz.prog 80 15 [6] (cACNLen kn 68) := fnIs_of Tryz.func80 (by kernel_rfl) (by kernel_rfl) (by kernel_rfl) (by kernel_rfl) -- pub-kmsg/pub/kmsg/inner/kbin.AppendCompactNullableArrayLen
theorem fn68 : FnIs Tryz.prog 68 93 [4] (cAUv kn 105) := fnIs_of Tryz.func68 (by kernel_rfl) (by kernel_rfl) (by kernel_rfl) (by kernel_rfl) -- pub-kmsg/pub/kmsg/inner/kbin.AppendUvarint
theorem fn105 : FnIs Tryz.prog 105 8 [2] (cUvLen kn 122) := fnIs_of Tryz.func105 (by kernel_rfl) (by kernel_rfl) (by kernel_rfl) (by kernel_rfl) -- pub-kmsg/pub/kmsg/inner/kbin.UvarintLen
theorem fn122 : FnIs Tryz.prog 122 19 [2] (cLen32 kn 59) := fnIs_of Tryz.func122 (by kernel_rfl) (by kernel_rfl) (by kernel_rfl) (by kernel_rfl) -- math/bits.Len32
theorem fn69 : FnIs Tryz.prog 69 8 [2] (cTLen kn 66 64) := fnIs_of Tryz.func69 (by kernel_rfl) (by kernel_rfl) (by kernel_rfl) (by kernel_rfl) -- (*pub-kmsg/pub/kmsg.Tags).Len
theorem fn24 : FnIs Tryz.prog 24 3 [0] (cNewPtr 68 50) := fnIs_of Tryz.func24 (by kernel_rfl) (by kernel_rfl) (by kernel_rfl) (by kernel_rfl) -- pub-kmsg/pub/kmsg.NewPtrOffsetCommitResponse
theorem fn28 : FnIs Tryz.prog 28 8 [] (cSetV 68 40) := fnIs_of Tryz.func28 (by kernel_rfl) (by kernel_rfl) (by kernel_rfl) (by kernel_rfl) -- (*pub-kmsg/pub/kmsg.OffsetCommitResponse).SetVersion
theorem fn29 : FnIs Tryz.prog 29 8 [4] (cRdF 60) := fnIs_of Tryz.func29 (by kernel_rfl) (by kernel_rfl) (by kernel_rfl) (by kernel_rfl) -- (*pub-kmsg/pub/kmsg.OffsetCommitResponse).ReadFrom
theorem fn8 : FnIs Tryz.prog 8 4 [0] (cMax 40 3 24 25) := fnIs_of Tryz.func8 (by kernel_rfl) (by kernel_rfl) (by kernel_rfl) (by kernel_rfl) -- pub-kmsg/impl.MaxOffsetCommitResponse
theorem fn25 : FnIs Tryz.prog 25 3 [2] (cMaxV 10) := fnIs_of Tryz.func25 (by kernel_rfl) (by kernel_rfl) (by kernel_rfl) (by kernel_rfl) -- (*pub-kmsg/pub/kmsg.OffsetCommitResponse).MaxVersion
theorem fn12 : FnIs Tryz.prog 12 19 [4, 5] (cAgain 40 3 22 50 24 28 29 30) := fnIs_of Tryz.func12 (by kernel_rfl) (by kernel_rfl) (by kernel_rfl) (by kernel_rfl) -- pub-kmsg/impl.AgainOffsetCommitResponse
theorem fn31 : FnIs Tryz.prog 31 3 [0] (cNewPtr 94 71) := fnIs_of Tryz.func31 (by kernel_rfl) (by kernel_rfl) (by kernel_rfl) (by kernel_rfl) -- pub-kmsg/pub/kmsg.NewPtrDeleteRecordsResponse
theorem fn34 : FnIs Tryz.prog 34 8 [] (cSetV 94 40) := fnIs_of Tryz.func34 (by kernel_rfl) (by kernel_rfl) (by kernel_rfl) (by kernel_rfl) -- (*pub-kmsg/pub/kmsg.DeleteRecordsResponse).SetVersion
theorem fn35 : FnIs Tryz.prog 35 8 [4] (cRdF 73) := fnIs_of Tryz.func35 (by kernel_rfl) (by kernel_rfl) (by kernel_rfl) (by kernel_rfl) -- (*pub-kmsg/pub/kmsg.DeleteRecordsResponse).ReadFrom
theorem fn14 : FnIs Tryz.prog 14 4 [0] (cMax 40 3 31 32) := fnIs_of Tryz.func14 (by kernel_rfl) (by kernel_rfl) (by kernel_rfl) (by kernel_rfl) -- pub-kmsg/impl.MaxDeleteRecordsResponse
theorem fn32 : FnIs Tryz.prog 32 3 [2] (cMaxV 2) := fnIs_of Tryz.func32 (by kernel_rfl) (by kernel_rfl) (by kernel_rfl) (by kernel_rfl) -- (*pub-kmsg/pub/kmsg.DeleteRecordsResponse).MaxVersion
theorem fn16 : FnIs Tryz.prog 16 19 [4, 5] (cAgain 40 3 22 50 31 34 35 36) := fnIs_of Tryz.func16 (by kernel_rfl) (by kernel_rfl) (by kernel_rfl) (by kernel_rfl) -- pub-kmsg/impl.AgainDeleteRecordsResponse
theorem fn37 : FnIs Tryz.prog 37 3 [0] (cNewPtr 105 75) := fnIs_of Tryz.func37 (by kernel_rfl) (by kernel_rfl) (by kernel_rfl) (by kernel_rfl) -- pub-kmsg/pub/kmsg.NewPtrCreateACLsRequest
theorem fn40 : FnIs Tryz.prog 40 8 [] (cSetV 105 40) := fnIs_of Tryz.func40 (by kernel_rfl) (by kernel_rfl) (by kernel_rfl) (by kernel_rfl) -- (*pub-kmsg/pub/kmsg.CreateACLsRequest).SetVersion
theorem fn41 : FnIs Tryz.prog 41 8 [4] (cRdF 76) := fnIs_of Tryz.func41 (by kernel_rfl) (by kernel_rfl) (by kernel_rfl) (by kernel_rfl) -- (*pub-kmsg/pub/kmsg.CreateACLsRequest).ReadFrom
theorem fn17 : FnIs Tryz.prog 17 4 [0] (cMax 40 3 37 38) := fnIs_of Tryz.func17 (by kernel_rfl) (by kernel_rfl) (by kernel_rfl) (by kernel_rfl) -- pub-kmsg/impl.MaxCreateACLsRequest
theorem fn38 : FnIs Tryz.prog 38 3 [2] (cMaxV 3) := fnIs_of Tryz.func38 (by kernel_rfl) (by kernel_rfl) (by kernel_rfl) (by kernel_rfl) -- (*pub-kmsg/pub/kmsg.CreateACLsRequest).MaxVersion
theorem fn19 : FnIs Tryz.prog 19 19 [4, 5] (cAgain 40 3 22 50 37 40 41 42) := fnIs_of Tryz.func19 (by kernel_rfl) (by kernel_rfl) (by kernel_rfl) (by kernel_rfl) -- pub-kmsg/impl.AgainCreateACLsRequest
theorem fn43 : FnIs Tryz.prog 43 3 [0] (cNewPtr 117 78) := fnIs_of Tryz.func43 (by kernel_rfl) (by kernel_rfl) (by kernel_rfl) (by kernel_rfl) -- pub-kmsg/pub/kmsg.NewPtrDescribeConfigsRequest
theorem fn46 : FnIs Tryz.prog 46 8 [] (cSetV 117 40) := fnIs_of Tryz.func46 (by kernel_rfl) (by kernel_rfl) (by kernel_rfl) (by kernel_rfl) -- (*pub-kmsg/pub/kmsg.DescribeConfigsRequest).SetVersion
theorem fn47 : FnIs Tryz.prog 47 8 [4] (cRdF 79) := fnIs_of Tryz.func47 (by kernel_rfl) (by kernel_rfl) (by kernel_rfl) (by kernel_rfl) -- (*pub-kmsg/pub/kmsg.DescribeConfigsRequest).ReadFrom
theorem fn20 : FnIs Tryz.prog 20 4 [0] (cMax 40 3 43 44) := fnIs_of Tryz.func20 (by kernel_rfl) (by kernel_rfl) (by kernel_rfl) (by kernel_rfl) -- pub-kmsg/impl.MaxDescribeConfigsRequest
theorem fn44 : FnIs Tryz.prog 44 3 [2] (cMaxV 4) := fnIs_of Tryz.func44 (by kernel_rfl) (by kernel_rfl) (by kernel_rfl) (by kernel_rfl) -- (*pub-kmsg/pub/kmsg.DescribeConfigsRequest).MaxVersion
theorem fn22 : FnIs Tryz.prog 22 19 [4, 5] (cAgain 40 3 22 50 43 46 47 48) := fnIs_of Tryz.func22 (by kernel_rfl) (by kernel_rfl) (by kernel_rfl) (by kernel_rfl) -- pub-kmsg/impl.AgainDescribeConfigsRequest
theorem fn11 : FnIs Tryz.prog 11 10 [4] (cVer 5 3) := fnIs_of Tryz.func11 (by kernel_rfl) (by kernel_rfl) (by kernel_rfl) (by kernel_rfl) -- pub-kmsg/laws.version
theorem fn13 : FnIs Tryz.prog 13 26 [4] (cSame 22 5 3) := fnIs_of Tryz.func13 (by kernel_rfl) (by kernel_rfl) (by kernel_rfl) (by kernel_rfl) -- pub-kmsg/spec.Same
theorem fn79 : FnIs Tryz.prog 79 164 [6] (gRead numbers true false ⟨true, 7, 10, 8, 9⟩ fsDescribeConfigsRequest 78 117 4 4 28 nmDescribeConfigsRequest) := fnIs_of Tryz.func79 (by kernel_rfl) (by kernel_rfl) (by kernel_rfl) (by kernel_rfl) -- (*pub-kmsg/pub/kmsg.DescribeConfigsRequest).readFrom
theorem fn48 : FnIs Tryz.prog 48 148 [4] (gWrite numbersW false ⟨true, 0, 0, 5, 6⟩ fsDescribeConfigsRequest 117 4 4 0 18 nwDescribeConfigsRequest) := fnIs_of Tryz.func48 (by kernel_rfl) (by kernel_rfl) (by kernel_rfl) (by kernel_rfl) -- (*pub-kmsg/pub/kmsg.DescribeConfigsRequest).AppendTo
def di78 : List DI := []
theorem fn78 : FnIs Tryz.prog 78 2 [] (gDflt di78 2) := fnIs_of Tryz.func78 (by kernel_rfl) (by kernel_rfl) (by kernel_rfl) (by kernel_rfl) -- (*pub-kmsg/pub/kmsg.DescribeConfigsRequest).Default
noncomputable def dw78 : List (Nat × Value) := (dRun Tryz.prog 2 di78 [(0, 0)]).getD []
theorem df78 : Ent Tryz.prog 78 ∧ DfC Tryz.prog 78 dw78 := dfC_of (n0 := 2) (items := di78) (by kernel_rfl) fn78 (by kernel_rfl) (of_decide_eq_true (by kernel_rfl)) (by omega)
def di114 : List DI := []
theorem fn114 : FnIs Tryz.prog 114 2 [] (gDflt di114 2) := fnIs_of Tryz.func114 (by kernel_rfl) (by kernel_rfl) (by kernel_rfl) (by kernel_rfl) -- (*pub-kmsg/pub/kmsg.DescribeConfigsRequestResource).Default
noncomputable def dw114 : List (Nat × Value) := (dRun Tryz.prog 2 di114 [(0, 0)]).getD []
theorem df114 : Ent Tryz.prog 114 ∧ DfC Tryz.prog 114 dw114 := dfC_of (n0 := 2) (items := di114) (by kernel_rfl) fn114 (by kernel_rfl) (of_decide_eq_true (by kernel_rfl)) (by omega)
noncomputable def dd : Nat → Option (List (Nat × Value))
  | 78 => some dw78
  | 114 => some dw114
  | _ => none
theorem ddOk : ∀ f wr, dd f = some wr → Ent Tryz.prog f ∧ DfC Tryz.prog f wr := by
  intro f wr h
  unfold dd at h
  split at h
  · obtain rfl := Option.some.inj h; exact df78
  · obtain rfl := Option.some.inj h; exact df114
  · cases h
theorem kt : KT Tryz.prog numbers kn where
  mixed := mixed
  f0 := fldB_ok (by kernel_rfl)
  f1 := fldB_ok (by kernel_rfl)
  sl := by kernel_rfl
  u8 := varB_ok (by kernel_rfl)
  dU8 := by kernel_rfl
  dI8 := fun _ => by kernel_rfl
  dI16 := by kernel_rfl
  dI32 := by kernel_rfl
  dU32 := by kernel_rfl
  dInt := by kernel_rfl
theorem kbig : KBig Tryz.prog kn where
  be := varB_ok (by kernel_rfl)
  d16 := by kernel_rfl
  d64 := fun _ => by kernel_rfl
  dI64 := fun _ => by kernel_rfl
  f16 := fun _ => fn120
  f32 := fun _ => fn116
  f64 := fun _ => fn132
theorem ksub : KSub Tryz.prog numbers kn kn.tRS where
  e16 := fun _ => fn101.ent
  c16 := fun _ w S R r hR hRS => (i16_calls kt kbig rfl fn101 (by omega) hR hRS).mono fun e w' h => (fun h => ⟨h.1, h.2.1, h.2.2.1⟩) (rdOk_int (p := .i16) (.inr (.inl ⟨rfl, rfl⟩)) rfl h)
  e32 := fun _ => fn89.ent
  c32 := fun _ w S R r hR hRS => (i32_calls kt kbig rfl fn89 (by omega) hR hRS).mono fun e w' h => (fun h => ⟨h.1, h.2.1, h.2.2.1⟩) (rdOk_int (p := .i32) (.inr (.inr (.inl ⟨rfl, rfl⟩))) rfl h)
  eU := fun _ => fn117.ent
  cU := fun _ w S R r hR hRS => uv_calls kt fn126 (by omega) fn117 (by omega) hR hRS
  eS := fun _ => fn119.ent
  cS := fun _ w S R r k hR hRS => span_calls kt fn119 (by omega) hR hRS
  dStr := by kernel_rfl
  vStr := varB_ok (by kernel_rfl)
  zStr := zeroOf_ok (by kernel_rfl)
def tn : TN := { tTags := 66, tM := 64, tKs := 157, tU32 := 59, tInt := 3, tSl := 22, fSort := 123, fLess := 124, fEach := 106, fOne := 107, fUv := 68 }
theorem fn106 : FnIs Tryz.prog 106 53 [] (cEach tn) := fnIs_of Tryz.func106 (by kernel_rfl) (by kernel_rfl) (by kernel_rfl) (by kernel_rfl) -- (*pub-kmsg/pub/kmsg.Tags).Each
theorem fn124 : FnIs Tryz.prog 124 15 [5] (cTLess tn) := fnIs_of Tryz.func124 (by kernel_rfl) (by kernel_rfl) (by kernel_rfl) (by kernel_rfl) -- (*pub-kmsg/pub/kmsg.Tags).Each$1
theorem fn70 : FnIs Tryz.prog 70 9 [4] (cTEach tn) := fnIs_of Tryz.func70 (by kernel_rfl) (by kernel_rfl) (by kernel_rfl) (by kernel_rfl) -- (*pub-kmsg/pub/kmsg.Tags).AppendEach
theorem fn107 : FnIs Tryz.prog 107 16 [] (cTOne tn) := fnIs_of Tryz.func107 (by kernel_rfl) (by kernel_rfl) (by kernel_rfl) (by kernel_rfl) -- (*pub-kmsg/pub/kmsg.Tags).AppendEach$1
theorem tf : TF Tryz.prog tn where
  map := ⟨59, 22, by kernel_rfl, by kernel_rfl⟩
  fld := fldB_ok (by kernel_rfl)
  sl := by kernel_rfl
  info := infoB_ok (by kernel_rfl)
  vU := varB_ok (by kernel_rfl)
  vK := varB_ok (by kernel_rfl)
  zK := zeroOf_ok (by kernel_rfl)
  dInt := by kernel_rfl
  dU32 := by kernel_rfl
theorem sortOk : SortOk Tryz.prog tn := sortOk_of (it := (Tryz.prog.info? 157).get (by kernel_rfl)) (ie := (Tryz.prog.info? 59).get (by kernel_rfl)) (ke := 10) (f1 := 133) (f2 := 134) (f6 := 138) mixed tf Tryz.sa6 rfl (enters_of Tryz.func123 (by kernel_rfl) rfl) fn124 (by omega) (by kernel_rfl) (by kernel_rfl) (by kernel_rfl) (by kernel_rfl) (fun _ => by kernel_rfl) (by kernel_rfl) (by kernel_rfl) (by kernel_rfl) fn124.ent (by kernel_rfl) (by kernel_rfl) (by kernel_rfl) (fun args W => run_callFunc_extern Tryz.func138 (by kernel_rfl) (by kernel_rfl) (by kernel_rfl) (e := Extern.ReflectliteSwapper.swap true) (by kernel_rfl) args W)
theorem setOk : SetOk Tryz.prog numbers.set := fun _ _ _ _ _ _ _ _ _ _ hk hB hO ht hv => set_calls (tM := 64) (kt := 59) (et := 22) mixed fn121 (by omega) (by kernel_rfl) (by kernel_rfl) (fldB_ok (by kernel_rfl)) hk hB hO ht hv
def av : PF → Bool
  | .bool => true
  | .i8 => true
  | .i16 => true
  | .i32 => true
  | .i64 => true
  | .uuid => true
  | .str => true
  | .cstr => true
  | _ => false
theorem rdAll : ∀ p, av p = true → RdOk Tryz.prog numbers.tR p (numbers.rd p) := by
  intro p h
  cases p
  · exact rdOk_bool kt fn115 (by omega)
  · exact rdOk_i8 kt rfl fn113 (by omega)
  · exact rdOk_i16 kt kbig rfl fn101 (by omega)
  · cases h
  · exact rdOk_i32 kt kbig rfl fn89 (by omega)
  · exact rdOk_i64 kt kbig rfl fn125 (by omega) fn110 (by omega)
  · exact rdOk_uuid kt ksub rfl (varB_ok (by kernel_rfl)) (zeroOf_ok (by kernel_rfl)) (by kernel_rfl) fn99 (by omega)
  · exact rdOk_str kt ksub rfl rfl fn98 (by omega)
  · exact rdOk_cstr kt ksub rfl rfl fn97 (by omega)
  · cases h
  · cases h
  · cases h
  · cases h
  · cases h
  · cases h
theorem kb : KB Tryz.prog numbers av true where
  mixed := mixed
  rdE p h := (rdAll p h).1
  rdC p h := (rdAll p h).2
  i8C := fun _ w S R r hR hRS => (i8_calls kt rfl fn113 (by omega) hR hRS).mono fun e w' h => (fun h => ⟨h.1, h.2.1, h.2.2.1⟩) (rdOk_int (p := .i8) (.inl ⟨rfl, rfl⟩) rfl h)
  okE := fun _ => fn92.ent
  okC := fun _ w S R r hR => ok_calls kt fn92 (by omega) hR
  cmE := fn93.ent
  cmC w S R r hR he := complete_calls kt fn93 (by omega) (varB_ok (by kernel_rfl)) hR he
  lenE := fun _ => fn91.ent
  lenC := fun _ w S R r hR hRS => len_calls kt ksub rfl fn91 (by omega) hR hRS
  clenE := fun _ _ => fn90.ent
  clenC := fun _ _ w S R r hR hRS => clen_calls kt ksub rfl fn90 (by omega) hR hRS
  uvE := fun _ => fn117.ent
  uvC := fun _ w S R r hR hRS => ksub.cU rfl w S R r hR hRS
  spanE := fun _ => fn119.ent
  spanC := fun _ w S R r k _ _ hR hRS => ksub.cS rfl w S R r k hR hRS
  tagsE := fun _ => fn102.ent
  tagsC := fun _ w S R r hR hRS hS => rdTags_calls kt ksub rfl rfl rfl fn121.ent setOk (zeroOf_ok (by kernel_rfl)) (varB_ok (by kernel_rfl)) fn102 (by omega) hR hRS hS
  setE := fun _ => fn121.ent
  setC := fun _ => setOk
  fR := twoB_ok (by kernel_rfl)
  zR := zeroOf_ok (by kernel_rfl)
  vR := varB_ok (by kernel_rfl)
  uuid := fun _ => ⟨varB_ok (by kernel_rfl), zeroOf_ok (by kernel_rfl)⟩
  tI32 := by kernel_rfl
  tU32 := fun _ => by kernel_rfl
  tInt := by kernel_rfl
  vStr := ⟨varB_ok (by kernel_rfl), zeroOf_ok (by kernel_rfl)⟩
  vTags := fun _ => varB_ok (by kernel_rfl)
  tErr := fun _ => ifaceB_ok (by kernel_rfl)
theorem env : Env Tryz.prog numbers av true dd := ⟨kb, ddOk⟩
theorem oct : OctT Tryz.prog kn.tSl kn.tU8 := octB_ok (by kernel_rfl)
theorem wt : WT Tryz.prog kn where
  mixed := mixed
  oct := oct
  dU8 := by kernel_rfl
  dI8 := fun _ => by kernel_rfl
  dI16 := by kernel_rfl
  dU16 := fun _ => by kernel_rfl
  dI32 := by kernel_rfl
  dU32 := by kernel_rfl
  dInt := by kernel_rfl
  dI64 := fun _ => by kernel_rfl
  dU64 := fun _ => by kernel_rfl
  dStr := by kernel_rfl
  vStr := varB_ok (by kernel_rfl)
theorem uvC (x : Nat) (w : World) (h : x < 4294967296) : ApC Tryz.prog kn.tU8 numbersW.uv (.int .u32 x) (uvar x) w := ap_uv wt (by kernel_rfl) fn122 (by omega) fn105 (by omega) fn68 (by omega) h w
theorem i16C (x : Int) (w : World) : ApC Tryz.prog kn.tU8 67 (.int .i16 x) (be 2 x) w := ap_i16 wt rfl fn104 (by omega) fn67 (by omega) x w
theorem i32C (x : Int) (w : World) : ApC Tryz.prog kn.tU8 61 (.int .i32 x) (be 4 x) w := ap_i32 wt fn103 (by omega) fn61 (by omega) x w
def avw : PF → Bool
  | .bool => true
  | .i8 => true
  | .i16 => true
  | .u16 => true
  | .i32 => true
  | .i64 => true
  | .uuid => true
  | .str => true
  | .cstr => true
  | _ => false
theorem apAll : ∀ p, avw p = true → AppOk Tryz.prog kn.tU8 p (numbersW.ap p) := by
  intro p h
  cases p
  · exact app_bool wt fn82 (by omega)
  · exact app_i8 wt rfl fn77 (by omega)
  · exact app_i16 wt rfl fn104 (by omega) fn67 (by omega)
  · exact app_u16 wt rfl fn104 (by omega)
  · exact app_i32 wt fn103 (by omega) fn61 (by omega)
  · exact app_i64 wt rfl rfl fn111 (by omega) fn74 (by omega)
  · exact app_uuid wt (varB_ok (by kernel_rfl)) (by kernel_rfl) fn66 (by omega)
  · exact app_str wt (app_i16 wt rfl fn104 (by omega) fn67 (by omega)) i16C fn65 (by omega)
  · exact app_cstr wt fn68.ent (fun x w h => uvC x w h) fn64 (by omega)
  · cases h
  · cases h
  · cases h
  · cases h
  · cases h
  · cases h
theorem kw : KW Tryz.prog numbersW avw true true kn.tU8 where
  mixed := mixed
  oct := oct
  dInt := by kernel_rfl
  dU32 := fun _ => by kernel_rfl
  apE p h := (apAll p h).1
  apC p h := (apAll p h).2
  alE := fun _ => fn63.ent
  alC := fun _ n w => ap_len wt fn61.ent i32C fn63 (by omega) n w
  clE := fun _ _ => fn62.ent
  clC := fun _ _ n w => ap_clen wt fn68.ent (fun x w h => uvC x w h) fn62 (by omega) n w
  nlE := fun _ => fn81.ent
  nlC := fun _ n b w L d bs hd hL hlim => anlen_calls wt fn61.ent i32C fn81 (by omega) n b w L d bs hd hL hlim
  cnE := fun _ _ => fn80.ent
  cnC := fun _ _ n b w L d bs hd hL hlim => acnlen_calls wt fn68.ent (fun x w h => uvC x w h) fn80 (by omega) n b w L d bs hd hL hlim
  uvE := fun _ => fn68.ent
  uvC := fun _ x w h => uvC x w h
  tlE := fun _ => fn69.ent
  tlC := fun _ w b o m X t hc ht => tlen_calls (kt := 59) (et := 22) mixed (by kernel_rfl) (fldB_ok (by kernel_rfl)) fn69 (by omega) hc ht
  teE := fun _ => fn70.ent
  teC := fun _ w b o m L t d bs hc hb ht hd hL hlim => teach_calls mixed tf sortOk oct (varB_ok (by kernel_rfl)) fn68.ent (fun x w h => uvC x w h) fn106 (by omega) fn107 (by omega) fn70 (by omega) hc hb ht hd hL hlim
  uuid := fun _ => ⟨varB_ok (by kernel_rfl), zeroOf_ok (by kernel_rfl)⟩
noncomputable def zv : Value := (zeroOf Tryz.prog 117).getD undef
noncomputable def zz : Array Value := applyWr zv.cells 0 dw78
theorem msg : MsgC Tryz.prog numbers.gErr kn.tU8 false true 4 fsDescribeConfigsRequest (some 4) 117 zz 43 46 47 48 :=
  msgC_of (cx := ⟨true, 7, 10, 8, 9⟩) (cw := ⟨true, 0, 0, 5, 6⟩) (nm := nmDescribeConfigsRequest) (ms := nwDescribeConfigsRequest) (tI16 := 40) env kw (by decide) (by decide) rfl rfl fn43 (by omega) fn46 (by omega) fn47 (by omega) fn79 (by omega) fn48 (by kernel_rfl) (by kernel_rfl) rfl (of_decide_eq_true (by kernel_rfl)) (by kernel_rfl) (by kernel_rfl) rfl (by kernel_rfl) (by kernel_rfl)
def sn : SN := { tInt := 3, tI64 := 2, tU8 := 5, tU64 := 75, tU32 := 59, tU16 := 142, tB := 4, tSl := 22, tF := 46, tFs := 30, tT := 26, tTs := 23, tG := 61, tGs := 24, tMs := 32, fPart := 26, fHas := 51, fField := 52, fAt := 53, fKnown := 54, fUsual := 55, fUv := 56, fUnk := 57, fWhole := 58, fNull := 83, fThings := 84, fCnt := 85, fVal := 86, fFix := 87, fWid := 88, fWrite := 9, fSame := 13, fZ2 := 7, fZ3 := 23, fZ4 := 49 }
theorem sf_fPart : FnIs Tryz.prog sn.fPart 132 [8] (csPt sn) := fnIs_of Tryz.func26 (by kernel_rfl) (by kernel_rfl) (by kernel_rfl) (by kernel_rfl)
theorem sf_fHas : FnIs Tryz.prog sn.fHas 20 [4] (csHs sn) := fnIs_of Tryz.func51 (by kernel_rfl) (by kernel_rfl) (by kernel_rfl) (by kernel_rfl)
theorem sf_fField : FnIs Tryz.prog sn.fField 76 [8] (csFl sn) := fnIs_of Tryz.func52 (by kernel_rfl) (by kernel_rfl) (by kernel_rfl) (by kernel_rfl)
theorem sf_fAt : FnIsC Tryz.prog sn.fAt 16 4 26 (csAt sn) := fnIsC_of Tryz.func53 (by kernel_rfl) (by kernel_rfl) (by kernel_rfl) (by kernel_rfl)
theorem sf_fKnown : FnIs Tryz.prog sn.fKnown 23 [2] (csKw sn) := fnIs_of Tryz.func54 (by kernel_rfl) (by kernel_rfl) (by kernel_rfl) (by kernel_rfl)
theorem sf_fUv : FnIs Tryz.prog sn.fUv 20 [2] (csUvr sn) := fnIs_of Tryz.func56 (by kernel_rfl) (by kernel_rfl) (by kernel_rfl) (by kernel_rfl)
theorem sf_fUnk : FnIs Tryz.prog sn.fUnk 85 [4] (csUn sn) := fnIs_of Tryz.func57 (by kernel_rfl) (by kernel_rfl) (by kernel_rfl) (by kernel_rfl)
theorem sf_fWhole : FnIs Tryz.prog sn.fWhole 8 [2] (csWh sn) := fnIs_of Tryz.func58 (by kernel_rfl) (by kernel_rfl) (by kernel_rfl) (by kernel_rfl)
theorem sf_fNull : FnIs Tryz.prog sn.fNull 20 [6] (csNu sn) := fnIs_of Tryz.func83 (by kernel_rfl) (by kernel_rfl) (by kernel_rfl) (by kernel_rfl)
theorem sf_fThings : FnIs Tryz.prog sn.fThings 8 [2] (csTh sn) := fnIs_of Tryz.func84 (by kernel_rfl) (by kernel_rfl) (by kernel_rfl) (by kernel_rfl)
theorem sf_fCnt : FnIs Tryz.prog sn.fCnt 28 [8] (csCn sn) := fnIs_of Tryz.func85 (by kernel_rfl) (by kernel_rfl) (by kernel_rfl) (by kernel_rfl)
theorem sf_fVal : FnIs Tryz.prog sn.fVal 70 [12] (csVa sn) := fnIs_of Tryz.func86 (by kernel_rfl) (by kernel_rfl) (by kernel_rfl) (by kernel_rfl)
theorem sf_fFix : FnIs Tryz.prog sn.fFix 22 [4] (csFi sn) := fnIs_of Tryz.func87 (by kernel_rfl) (by kernel_rfl) (by kernel_rfl) (by kernel_rfl)
theorem sf_fWid : FnIs Tryz.prog sn.fWid 11 [2] (csWd sn) := fnIs_of Tryz.func88 (by kernel_rfl) (by kernel_rfl) (by kernel_rfl) (by kernel_rfl)
theorem sf_fWrite : FnIs Tryz.prog sn.fWrite 21 [6] (csWr sn) := fnIs_of Tryz.func9 (by kernel_rfl) (by kernel_rfl) (by kernel_rfl) (by kernel_rfl)
theorem sf_fZ2 : FnIs Tryz.prog sn.fZ2 15 [2] (csZ2 sn) := fnIs_of Tryz.func7 (by kernel_rfl) (by kernel_rfl) (by kernel_rfl) (by kernel_rfl)
theorem sf_fZ3 : FnIs Tryz.prog sn.fZ3 18 [2] (csZ3 sn) := fnIs_of Tryz.func23 (by kernel_rfl) (by kernel_rfl) (by kernel_rfl) (by kernel_rfl)
theorem sf_fZ4 : FnIs Tryz.prog sn.fZ4 7 [2] (csZ4 sn) := fnIs_of Tryz.func49 (by kernel_rfl) (by kernel_rfl) (by kernel_rfl) (by kernel_rfl)
theorem rt : RefT Tryz.prog sn where
  mixed := mixed
  dInt := by kernel_rfl
  dI64 := by kernel_rfl
  dU8 := by kernel_rfl
  dU32 := by kernel_rfl
  dU64 := by kernel_rfl
  oct := oct
  dTs := by kernel_rfl
  dGs := by kernel_rfl
  dFs := by kernel_rfl
  vI64 := varB_ok (by kernel_rfl)
  vU8 := varB_ok (by kernel_rfl)
  vT := varB_ok (by kernel_rfl)
  vF := varB_ok (by kernel_rfl)
  vG := varB_ok (by kernel_rfl)
  vM := varB_ok (by kernel_rfl)
  t0 := fldB_ok (by kernel_rfl)
  t1 := fldB_ok (by kernel_rfl)
  t2 := fldB_ok (by kernel_rfl)
  t3 := fldB_ok (by kernel_rfl)
  t4 := fldB_ok (by kernel_rfl)
  f0 := fldB_ok (by kernel_rfl)
  f1 := fldB_ok (by kernel_rfl)
  f2 := fldB_ok (by kernel_rfl)
  f3 := fldB_ok (by kernel_rfl)
  f4 := fldB_ok (by kernel_rfl)
  f5 := fldB_ok (by kernel_rfl)
  f6 := fldB_ok (by kernel_rfl)
  f7 := fldB_ok (by kernel_rfl)
  g0 := fldB_ok (by kernel_rfl)
  g1 := fldB_ok (by kernel_rfl)
  m0 := fldB_ok (by kernel_rfl)
  m1 := fldB_ok (by kernel_rfl)
  zT := zeroOf_ok (by kernel_rfl)
  zF := zeroOf_ok (by kernel_rfl)
  zG := zeroOf_ok (by kernel_rfl)
  zM := zeroOf_ok (by kernel_rfl)
  z8 := z8_ok (by kernel_rfl)
  bT := fun w => by kernel_rfl
  bG := fun w => by kernel_rfl
  bSG := fun w => by kernel_rfl
  iG := iG_ok (by kernel_rfl)

theorem leaf : LeafC Tryz.prog sn := leafC_of rt (varB_ok (by kernel_rfl)) sf_fUv sf_fFix sf_fCnt sf_fWid sf_fWhole sf_fThings sf_fHas sf_fNull sf_fKnown sf_fAt sf_fUnk
theorem trees : TreT Tryz.prog sn where
  tab := rt
  cT := by kernel_rfl
  cG := by kernel_rfl
  cI := by kernel_rfl
  cSl := by kernel_rfl
  cB := by kernel_rfl
  cTs := by kernel_rfl
  cGs := by kernel_rfl
  cU := by kernel_rfl
  c8 := by kernel_rfl
  dB := by kernel_rfl
  nT := by kernel_rfl
  nG := by kernel_rfl

def ln : LN := { fM := 20, fB := 21, fV := 11, fA := 22 }
def it45 : List BI := [([(0, 1), (2, -1), (3, -1), (4, -1)], none), ([(0, 8), (2, -1), (3, -1), (4, -1)], none), ([(0, 11), (2, -1), (3, 0), (4, -1), (6, 8)], none)]
def ss45 : SFs := .cons 1 0 (-1) (-1) (-1) 0 0 .nil (.cons 8 0 (-1) (-1) (-1) 0 0 .nil (.cons 11 0 (-1) 0 (-1) 0 8 .nil (.nil)))
theorem fi45 : FnIs Tryz.prog 45 5 [0] (cSub sn it45) := fnIs_of Tryz.func45 (by kernel_rfl) (by kernel_rfl) (by kernel_rfl) (by kernel_rfl)
theorem sb45 : Ent Tryz.prog 45 ∧ BuildC Tryz.prog 45 ss45 := sub_calls rt fi45 (of_decide_eq_true (by kernel_rfl)) ⟨fun w => by kernel_rfl, rfl, ⟨fun w => by kernel_rfl, rfl, ⟨fun w => by kernel_rfl, rfl, trivial⟩⟩⟩ (fun sv w => by kernel_rfl) rfl (of_decide_eq_true (by kernel_rfl))
def itM : List BI := [([(0, 11), (2, -1), (3, -1), (4, -1), (6, 10)], some 45), ([(0, 0), (1, 1), (2, -1), (3, -1), (4, -1)], none), ([(0, 0), (1, 3), (2, -1), (3, -1), (4, -1)], none)]
def ssM : SFs := .cons 11 0 (-1) (-1) (-1) 0 10 ss45 (.cons 0 1 (-1) (-1) (-1) 0 0 .nil (.cons 0 3 (-1) (-1) (-1) 0 0 .nil (.nil)))
theorem fiM : FnIsC Tryz.prog 21 7 0 sn.tMs (cMsgB sn 4 itM) := fnIsC_of Tryz.func21 (by kernel_rfl) (by kernel_rfl) (by kernel_rfl) (by kernel_rfl)
theorem sbM : Ent Tryz.prog 21 ∧ MsgBC Tryz.prog 21 4 ssM := msgb_calls rt (fun x base n c w => by kernel_rfl) fiM (of_decide_eq_true (by kernel_rfl)) ⟨fun base n c w => by kernel_rfl, sb45, ⟨fun w => by kernel_rfl, rfl, ⟨fun w => by kernel_rfl, rfl, trivial⟩⟩⟩ (fun sv w => by kernel_rfl) rfl (of_decide_eq_true (by kernel_rfl))
theorem lawC : LawC Tryz.prog sn ln numbers.gErr 4 4 ssM (fun x l => againOut false true 4 fsDescribeConfigsRequest x l) (okInL true 4 fsDescribeConfigsRequest 4) :=
  lawC_of (tI16 := 40) (tErr := 50) rt msg (by kernel_rfl) (ifaceB_ok (by kernel_rfl)) (.inl (by kernel_rfl)) fn22 (by omega) fn11 (by omega) (ntSm := 26) (.inr fn13) (by omega) fn20 (by omega) fn44 (by omega) (by decide) sf_fZ4 sf_fZ3 sf_fZ2 sbM sf_fWrite sf_fPart.ent (ref_calls leaf sf_fPart sf_fField sf_fVal ssM (by kernel_rfl)).1
theorem fnL : FnIs Tryz.prog 6 35 [4] (cLag sn ln) := fnIs_of Tryz.func6 (by kernel_rfl) (by kernel_rfl) (by kernel_rfl) (by kernel_rfl)
theorem law {W : World} {x0 k : Nat} {cs : List Value} {t : Tr} (hx : x0 < 256) (ht : TrRp W k cs t) (herr : ErrAt numbers.gErr W) : Calls Tryz.prog 6 [.int .u8 (x0 : Int), .agg cs.toArray].toArray W (TrueC W) :=
  again_law lawC (by kernel_rfl) (by kernel_rfl) fnL hx ht herr (fun v => mx_lim (by kernel_rfl) (by kernel_rfl) t v _)
end Go.Proofs.YthjaecnbgfohmaaGreatDoor.Kx
