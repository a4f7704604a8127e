/-
  FnCutDescribeTransactionsResponse: the numbers of the program, the code of its functions, and the law out of them.
-/
import Derived.Test.YthjaecnbgfohmacGreatDoorChecked
import Derived.Test.YthjaecnbgfohmacGreatDoorK1
import Derived.Test.YthjaecnbgfohmacGreatDoorK2
import Derived.Test.YthjaecnbgfohmacGreatDoorK3
import Derived.Test.YthjaecnbgfohmacGreatDoorK4
import Derived.Test.YthjaecnbgfohmacGreatDoorK5
import Derived.Test.YthjaecnbgfohmacGreatDoorK6
import Derived.Test.YthjaecnbgfohmacGreatDoorK7
import Derived.Test.YthjaecnbgfohmacGreatDoorK8
import Derived.Test.YthjaecnbgfohmacGreatDoorK9
import Derived.Test.YthjaecnbgfohmacGreatDoorK10
import Derived.Test.YthjaecnbgfohmacGreatDoorK11
import Derived.Test.YthjaecnbgfohmacGreatDoorK12
import Derived.Test.YthjaecnbgfohmacGreatDoorK13
import Derived.Test.YthjaecnbgfohmacGreatDoorK14
import Derived.Test.YthjaecnbgfohmacGreatDoorK15
import Derived.KernelRfl
import Derived.Test.YthjaecnbgfohmacGreatDoorSh
namespace Go.Proofs.YthjaecnbgfohmacGreatDoor.Kx
open Go Go.Proofs
set_option maxRecDepth 100000
def numbers : G := { rd := fun | .bool => 105 | .i8 => 110 | .i16 => 115 | .u16 => 999999 | .i32 => 102 | .i64 => 113 | .uuid => 122 | .str => 101 | .cstr => 100 | .nstr => 119 | .cnstr => 117 | .bytes => 999999 | .cbytes => 999999 | .nbytes => 999999 | .cnbytes => 999999, un := fun | .str => 99 | .cstr => 98 | .nstr => 118 | .cnstr => 116 | _ => 999999, len := 94, clen := 93, ok := 95, complete := 96, uv := 126, span := 128, tags := 104, set := 130, tR := 138, tUuid := 115, tVer := 40, tI8 := 92, tI32 := 21, tU32 := 59, tInt := 3, tBool := 4, tErr := 50, tTags := 66, tSl := 22, tStr := 9, gErr := 0 }
def numbersW : GW := { ap := fun | .bool => 70 | .i8 => 74 | .i16 => 79 | .u16 => 123 | .i32 => 64 | .i64 => 75 | .uuid => 82 | .str => 63 | .cstr => 62 | .nstr => 81 | .cnstr => 80 | .bytes => 999999 | .cbytes => 999999 | .nbytes => 999999 | .cnbytes => 999999, alen := 61, calen := 60, nalen := 66, cnalen := 65, uv := 67, tlen := 68, teach := 69, tVer := 40, tInt := 3, tU32 := 59, tSl := 22, tUuid := 115 }
def kn : Kn := { tRS := 138, tSl := 22, tB := 4, tInt := 3, tU8 := 5, tI8 := 92, tI16 := 40, tU16 := 27, tI32 := 21, tU32 := 59, tI64 := 2, tU64 := 75, tStr := 9, tUuid := 115, tBE := 160, tErr := 50, gBE := 1, gErr := 0, fU16 := 135, fU32 := 129, fU64 := 142, fUv := 136, fR64 := 134 }
theorem mixed : Tryz.prog.follows .mixedOrders = true := by kernel_rfl
def fsDescribeTransactionsResponse : Fds := (.cons 0 none none (0) 1 (.prim .i32) (.cons 0 none none (0) 2 (.list none 9 (.struct none (some 8) (.cons 0 none none (0) 0 (.prim .i16) (.cons 0 none none (0) 1 (.str none) (.cons 0 none none (0) 2 (.str none) (.cons 0 none none (0) 3 (.prim .i32) (.cons 0 none none (0) 4 (.prim .i64) (.cons 0 none none (0) 5 (.prim .i64) (.cons 0 none none (0) 6 (.prim .i16) (.cons 0 none none (0) 7 (.list none 3 (.struct none (some 2) (.cons 0 none none (0) 0 (.str none) (.cons 0 none none (0) 1 (.list none 1 (.prim .i32)) .nil)))) .nil)))))))))) .nil))
def nmDescribeTransactionsResponse : Nm := (.mk [] [(.mk [11, 121, 1, 21] []), (.mk [12, 121, 2, 119, 13, 14, 15, 0, 1] [(.mk [16, 17, 124, 125, 8] [(.mk [] [(.mk [18, 125, 0, 40] []), (.mk [19, 125, 1, 9] []), (.mk [20, 125, 2, 9] []), (.mk [21, 125, 3, 21] []), (.mk [22, 125, 4, 2] []), (.mk [23, 125, 5, 2] []), (.mk [24, 125, 6, 40] []), (.mk [25, 125, 7, 123, 26, 27, 28, 2, 3] [(.mk [29, 30, 125, 128, 2] [(.mk [] [(.mk [31, 128, 0, 9] []), (.mk [32, 128, 1, 87, 33, 34, 35, 4, 5] [(.mk [36, 21] [])])])])])])])])])
def nwDescribeTransactionsResponse : List Nm := [(.mk [7, 121, 1, 21] []), (.mk [8, 121, 2, 119, 9, 0, 1] [(.mk [10, 125, 8] [(.mk [] [(.mk [11, 125, 0, 40] []), (.mk [12, 125, 1, 9] []), (.mk [13, 125, 2, 9] []), (.mk [14, 125, 3, 21] []), (.mk [15, 125, 4, 2] []), (.mk [16, 125, 5, 2] []), (.mk [17, 125, 6, 40] []), (.mk [18, 125, 7, 123, 19, 2, 3] [(.mk [20, 128, 2] [(.mk [] [(.mk [21, 128, 0, 9] []), (.mk [22, 128, 1, 87, 23, 4, 5] [(.mk [24, 21] [])])])])])])])])]
theorem fn110 : FnIs Tryz.prog 110 32 [2] (cI8 kn) := fnIs_of Tryz.func110 (by kernel_rfl) (by kernel_rfl) (by kernel_rfl) (by kernel_rfl) -- (*pub-kmsg/pub/kmsg/inner/kbin.Reader).Int8
theorem fn105 : FnIs Tryz.prog 105 32 [2] (cBool kn) := fnIs_of Tryz.func105 (by kernel_rfl) (by kernel_rfl) (by kernel_rfl) (by kernel_rfl) -- (*pub-kmsg/pub/kmsg/inner/kbin.Reader).Bool
theorem fn115 : FnIs Tryz.prog 115 32 [2] (cI16 kn) := fnIs_of Tryz.func115 (by kernel_rfl) (by kernel_rfl) (by kernel_rfl) (by kernel_rfl) -- (*pub-kmsg/pub/kmsg/inner/kbin.Reader).Int16
theorem fn102 : FnIs Tryz.prog 102 32 [2] (cI32 kn) := fnIs_of Tryz.func102 (by kernel_rfl) (by kernel_rfl) (by kernel_rfl) (by kernel_rfl) -- (*pub-kmsg/pub/kmsg/inner/kbin.Reader).Int32
theorem fn134 : FnIs Tryz.prog 134 31 [2] (cR64 kn) := fnIs_of Tryz.func134 (by kernel_rfl) (by kernel_rfl) (by kernel_rfl) (by kernel_rfl) -- (*pub-kmsg/pub/kmsg/inner/kbin.Reader).readUint64
theorem fn113 : FnIs Tryz.prog 113 6 [2] (cI64 kn) := fnIs_of Tryz.func113 (by kernel_rfl) (by kernel_rfl) (by kernel_rfl) (by kernel_rfl) -- (*pub-kmsg/pub/kmsg/inner/kbin.Reader).Int64
theorem fn136 : FnIs Tryz.prog 136 87 [2, 3] (cUvIn kn) := fnIs_of Tryz.func136 (by kernel_rfl) (by kernel_rfl) (by kernel_rfl) (by kernel_rfl) -- pub-kmsg/pub/kmsg/inner/kbin.Uvarint
theorem fn126 : FnIs Tryz.prog 126 31 [2] (cUv kn) := fnIs_of Tryz.func126 (by kernel_rfl) (by kernel_rfl) (by kernel_rfl) (by kernel_rfl) -- (*pub-kmsg/pub/kmsg/inner/kbin.Reader).Uvarint
theorem fn122 : FnIsC Tryz.prog 122 9 2 115 (cUuid numbers kn) := fnIsC_of Tryz.func122 (by kernel_rfl) (by kernel_rfl) (by kernel_rfl) (by kernel_rfl) -- (*pub-kmsg/pub/kmsg/inner/kbin.Reader).Uuid
theorem fn104 : FnIsC Tryz.prog 104 24 2 66 (cRdTags numbers kn) := fnIsC_of Tryz.func104 (by kernel_rfl) (by kernel_rfl) (by kernel_rfl) (by kernel_rfl) -- pub-kmsg/pub/kmsg.internalReadTags
theorem fn130 : FnIs Tryz.prog 130 21 [] (cSet numbers 64) := fnIs_of Tryz.func130 (by kernel_rfl) (by kernel_rfl) (by kernel_rfl) (by kernel_rfl) -- (*pub-kmsg/pub/kmsg.Tags).Set
theorem fn95 : FnIs Tryz.prog 95 8 [2] (cOk kn) := fnIs_of Tryz.func95 (by kernel_rfl) (by kernel_rfl) (by kernel_rfl) (by kernel_rfl) -- (*pub-kmsg/pub/kmsg/inner/kbin.Reader).Ok
theorem fn96 : FnIs Tryz.prog 96 8 [2] (cComplete kn) := fnIs_of Tryz.func96 (by kernel_rfl) (by kernel_rfl) (by kernel_rfl) (by kernel_rfl) -- (*pub-kmsg/pub/kmsg/inner/kbin.Reader).Complete
theorem fn128 : FnIs Tryz.prog 128 40 [4] (cSpan kn) := fnIs_of Tryz.func128 (by kernel_rfl) (by kernel_rfl) (by kernel_rfl) (by kernel_rfl) -- (*pub-kmsg/pub/kmsg/inner/kbin.Reader).Span
theorem fn101 : FnIs Tryz.prog 101 11 [2] (cStr numbers kn) := fnIs_of Tryz.func101 (by kernel_rfl) (by kernel_rfl) (by kernel_rfl) (by kernel_rfl) -- (*pub-kmsg/pub/kmsg/inner/kbin.Reader).String
theorem fn100 : FnIs Tryz.prog 100 12 [2] (cCStr numbers kn) := fnIs_of Tryz.func100 (by kernel_rfl) (by kernel_rfl) (by kernel_rfl) (by kernel_rfl) -- (*pub-kmsg/pub/kmsg/inner/kbin.Reader).CompactString
theorem fn119 : FnIs Tryz.prog 119 14 [2] (cNStr numbers kn) := fnIs_of Tryz.func119 (by kernel_rfl) (by kernel_rfl) (by kernel_rfl) (by kernel_rfl) -- (*pub-kmsg/pub/kmsg/inner/kbin.Reader).NullableString
theorem fn117 : FnIs Tryz.prog 117 15 [2] (cCNStr numbers kn) := fnIs_of Tryz.func117 (by kernel_rfl) (by kernel_rfl) (by kernel_rfl) (by kernel_rfl) -- (*pub-kmsg/pub/kmsg/inner/kbin.Reader).CompactNullableString
theorem fn94 : FnIs Tryz.prog 94 21 [2] (cLen numbers kn) := fnIs_of Tryz.func94 (by kernel_rfl) (by kernel_rfl) (by kernel_rfl) (by kernel_rfl) -- (*pub-kmsg/pub/kmsg/inner/kbin.Reader).ArrayLen
theorem fn93 : FnIs Tryz.prog 93 23 [2] (cCLen numbers kn) := fnIs_of Tryz.func93 (by kernel_rfl) (by kernel_rfl) (by kernel_rfl) (by kernel_rfl) -- (*pub-kmsg/pub/kmsg/inner/kbin.Reader).CompactArrayLen
theorem fn135 : FnIs Tryz.prog 135 18 [4] (gBig kn kn.tU16 .u16 2) := fnIs_of Tryz.func135 (by kernel_rfl) (by kernel_rfl) (by kernel_rfl) (by kernel_rfl) -- (encoding/binary.bigEndian).Uint16
theorem fn129 : FnIs Tryz.prog 129 30 [4] (gBig kn kn.tU32 .u32 4) := fnIs_of Tryz.func129 (by kernel_rfl) (by kernel_rfl) (by kernel_rfl) (by kernel_rfl) -- (encoding/binary.bigEndian).Uint32
theorem fn142 : FnIs Tryz.prog 142 54 [4] (gBig kn kn.tU64 .u64 8) := fnIs_of Tryz.func142 (by kernel_rfl) (by kernel_rfl) (by kernel_rfl) (by kernel_rfl) -- (encoding/binary.bigEndian).Uint64
theorem fn74 : FnIs Tryz.prog 74 10 [4] (cAI8 kn) := fnIs_of Tryz.func74 (by kernel_rfl) (by kernel_rfl) (by kernel_rfl) (by kernel_rfl) -- pub-kmsg/pub/kmsg/inner/kbin.AppendInt8
theorem fn123 : FnIs Tryz.prog 123 13 [4] (cAU16 kn) := fnIs_of Tryz.func123 (by kernel_rfl) (by kernel_rfl) (by kernel_rfl) (by kernel_rfl) -- pub-kmsg/pub/kmsg/inner/kbin.AppendUint16
theorem fn106 : FnIs Tryz.prog 106 19 [4] (cAU32 kn) := fnIs_of Tryz.func106 (by kernel_rfl) (by kernel_rfl) (by kernel_rfl) (by kernel_rfl) -- pub-kmsg/pub/kmsg/inner/kbin.AppendUint32
theorem fn114 : FnIs Tryz.prog 114 31 [4] (cAU64 kn) := fnIs_of Tryz.func114 (by kernel_rfl) (by kernel_rfl) (by kernel_rfl) (by kernel_rfl) -- pub-kmsg/pub/kmsg/inner/kbin.appendUint64
theorem fn79 : FnIs Tryz.prog 79 9 [4] (cACv kn.tI16 kn.tU16 123) := fnIs_of Tryz.func79 (by kernel_rfl) (by kernel_rfl) (by kernel_rfl) (by kernel_rfl) -- pub-kmsg/pub/kmsg/inner/kbin.AppendInt16
theorem fn64 : FnIs Tryz.prog 64 9 [4] (cACv kn.tI32 kn.tU32 106) := fnIs_of Tryz.func64 (by kernel_rfl) (by kernel_rfl) (by kernel_rfl) (by kernel_rfl) -- pub-kmsg/pub/kmsg/inner/kbin.AppendInt32
theorem fn75 : FnIs Tryz.prog 75 9 [4] (cACv kn.tI64 kn.tU64 114) := fnIs_of Tryz.func75 (by kernel_rfl) (by kernel_rfl) (by kernel_rfl) (by kernel_rfl) -- pub-kmsg/pub/kmsg/inner/kbin.AppendInt64
theorem fn61 : FnIs Tryz.prog 61 9 [4] (cACv kn.tInt kn.tI32 64) := fnIs_of Tryz.func61 (by kernel_rfl) (by kernel_rfl) (by kernel_rfl) (by kernel_rfl) -- pub-kmsg/pub/kmsg/inner/kbin.AppendArrayLen
theorem fn60 : FnIs Tryz.prog 60 10 [4] (cACv1 kn 67) := fnIs_of Tryz.func60 (by kernel_rfl) (by kernel_rfl) (by kernel_rfl) (by kernel_rfl) -- pub-kmsg/pub/kmsg/inner/kbin.AppendCompactArrayLen
theorem fn70 : FnIs Tryz.prog 70 12 [4] (cABool kn) := fnIs_of Tryz.func70 (by kernel_rfl) (by kernel_rfl) (by kernel_rfl) (by kernel_rfl) -- pub-kmsg/pub/kmsg/inner/kbin.AppendBool
theorem fn82 : FnIs Tryz.prog 82 8 [4] (cAUuid kn) := fnIs_of Tryz.func82 (by kernel_rfl) (by kernel_rfl) (by kernel_rfl) (by kernel_rfl) -- pub-kmsg/pub/kmsg/inner/kbin.AppendUuid
theorem fn63 : FnIs Tryz.prog 63 13 [4] (cAStr kn kn.tStr kn.tI16 79) := fnIs_of Tryz.func63 (by kernel_rfl) (by kernel_rfl) (by kernel_rfl) (by kernel_rfl) -- pub-kmsg/pub/kmsg/inner/kbin.AppendString
theorem fn62 : FnIs Tryz.prog 62 14 [4] (cACStr kn kn.tStr 67) := fnIs_of Tryz.func62 (by kernel_rfl) (by kernel_rfl) (by kernel_rfl) (by kernel_rfl) -- pub-kmsg/pub/kmsg/inner/kbin.AppendCompactString
theorem fn81 : FnIs Tryz.prog 81 14 [4] (cANStr kn 105 (.int .i16 (-1)) 79 63) := fnIs_of Tryz.func81 (by kernel_rfl) (by kernel_rfl) (by kernel_rfl) (by kernel_rfl) -- pub-kmsg/pub/kmsg/inner/kbin.AppendNullableString
theorem fn80 : FnIs Tryz.prog 80 14 [4] (cANStr kn 105 (.int .u32 0) 67 62) := fnIs_of Tryz.func80 (by kernel_rfl) (by kernel_rfl) (by kernel_rfl) (by kernel_rfl) -- pub-kmsg/pub/kmsg/inner/kbin.AppendCompactNullableString
theorem fn66 : FnIs Tryz.prog 66 14 [6] (cANLen kn 64) := fnIs_of Tryz.func66 (by kernel_rfl) (by kernel_rfl) (by kernel_rfl) (by kernel_rfl) -- pub-kmsg/pub/kmsg/inner/kbin.AppendNullableArrayLen
theorem fn65 : FnIs Tryz.prog 65 15 [6] (cACNLen kn 67) := fnIs_of Tryz.func65 (by kernel_rfl) (by kernel_rfl) (by kernel_rfl) (by kernel_rfl) -- pub-kmsg/pub/kmsg/inner/kbin.AppendCompactNullableArrayLen
theorem fn67 : FnIs Tryz.prog 67 93 [4] (cAUv kn 107) := fnIs_of Tryz.func67 (by kernel_rfl) (by kernel_rfl) (by kernel_rfl) (by kernel_rfl) -- pub-kmsg/pub/kmsg/inner/kbin.AppendUvarint
theorem fn107 : FnIs Tryz.prog 107 8 [2] (cUvLen kn 131) := fnIs_of Tryz.func107 (by kernel_rfl) (by kernel_rfl) (by kernel_rfl) (by kernel_rfl) -- pub-kmsg/pub/kmsg/inner/kbin.UvarintLen
theorem fn131 : FnIs Tryz.prog 131 19 [2] (cLen32 kn 59) := fnIs_of Tryz.func131 (by kernel_rfl) (by kernel_rfl) (by kernel_rfl) (by kernel_rfl) -- math/bits.Len32
theorem fn68 : FnIs Tryz.prog 68 8 [2] (cTLen kn 66 64) := fnIs_of Tryz.func68 (by kernel_rfl) (by kernel_rfl) (by kernel_rfl) (by kernel_rfl) -- (*pub-kmsg/pub/kmsg.Tags).Len
theorem fn23 : FnIs Tryz.prog 23 3 [0] (cNewPtr 68 49) := fnIs_of Tryz.func23 (by kernel_rfl) (by kernel_rfl) (by kernel_rfl) (by kernel_rfl) -- pub-kmsg/pub/kmsg.NewPtrCreatePartitionsRequest
theorem fn27 : FnIs Tryz.prog 27 8 [] (cSetV 68 40) := fnIs_of Tryz.func27 (by kernel_rfl) (by kernel_rfl) (by kernel_rfl) (by kernel_rfl) -- (*pub-kmsg/pub/kmsg.CreatePartitionsRequest).SetVersion
theorem fn28 : FnIs Tryz.prog 28 8 [4] (cRdF 59) := fnIs_of Tryz.func28 (by kernel_rfl) (by kernel_rfl) (by kernel_rfl) (by kernel_rfl) -- (*pub-kmsg/pub/kmsg.CreatePartitionsRequest).ReadFrom
theorem fn8 : FnIs Tryz.prog 8 4 [0] (cMax 40 3 23 24) := fnIs_of Tryz.func8 (by kernel_rfl) (by kernel_rfl) (by kernel_rfl) (by kernel_rfl) -- pub-kmsg/impl.MaxCreatePartitionsRequest
theorem fn24 : FnIs Tryz.prog 24 3 [2] (cMaxV 3) := fnIs_of Tryz.func24 (by kernel_rfl) (by kernel_rfl) (by kernel_rfl) (by kernel_rfl) -- (*pub-kmsg/pub/kmsg.CreatePartitionsRequest).MaxVersion
theorem fn12 : FnIs Tryz.prog 12 19 [4, 5] (cAgain 40 3 22 50 23 27 28 29) := fnIs_of Tryz.func12 (by kernel_rfl) (by kernel_rfl) (by kernel_rfl) (by kernel_rfl) -- pub-kmsg/impl.AgainCreatePartitionsRequest
theorem fn30 : FnIs Tryz.prog 30 3 [0] (cNewPtr 95 71) := fnIs_of Tryz.func30 (by kernel_rfl) (by kernel_rfl) (by kernel_rfl) (by kernel_rfl) -- pub-kmsg/pub/kmsg.NewPtrListOffsetsRequest
theorem fn33 : FnIs Tryz.prog 33 8 [] (cSetV 95 40) := fnIs_of Tryz.func33 (by kernel_rfl) (by kernel_rfl) (by kernel_rfl) (by kernel_rfl) -- (*pub-kmsg/pub/kmsg.ListOffsetsRequest).SetVersion
theorem fn34 : FnIs Tryz.prog 34 8 [4] (cRdF 73) := fnIs_of Tryz.func34 (by kernel_rfl) (by kernel_rfl) (by kernel_rfl) (by kernel_rfl) -- (*pub-kmsg/pub/kmsg.ListOffsetsRequest).ReadFrom
theorem fn13 : FnIs Tryz.prog 13 4 [0] (cMax 40 3 30 31) := fnIs_of Tryz.func13 (by kernel_rfl) (by kernel_rfl) (by kernel_rfl) (by kernel_rfl) -- pub-kmsg/impl.MaxListOffsetsRequest
theorem fn31 : FnIs Tryz.prog 31 3 [2] (cMaxV 11) := fnIs_of Tryz.func31 (by kernel_rfl) (by kernel_rfl) (by kernel_rfl) (by kernel_rfl) -- (*pub-kmsg/pub/kmsg.ListOffsetsRequest).MaxVersion
theorem fn15 : FnIs Tryz.prog 15 19 [4, 5] (cAgain 40 3 22 50 30 33 34 35) := fnIs_of Tryz.func15 (by kernel_rfl) (by kernel_rfl) (by kernel_rfl) (by kernel_rfl) -- pub-kmsg/impl.AgainListOffsetsRequest
theorem fn36 : FnIs Tryz.prog 36 3 [0] (cNewPtr 108 76) := fnIs_of Tryz.func36 (by kernel_rfl) (by kernel_rfl) (by kernel_rfl) (by kernel_rfl) -- pub-kmsg/pub/kmsg.NewPtrShareGroupHeartbeatResponse
theorem fn39 : FnIs Tryz.prog 39 8 [] (cSetV 108 40) := fnIs_of Tryz.func39 (by kernel_rfl) (by kernel_rfl) (by kernel_rfl) (by kernel_rfl) -- (*pub-kmsg/pub/kmsg.ShareGroupHeartbeatResponse).SetVersion
theorem fn40 : FnIs Tryz.prog 40 8 [4] (cRdF 78) := fnIs_of Tryz.func40 (by kernel_rfl) (by kernel_rfl) (by kernel_rfl) (by kernel_rfl) -- (*pub-kmsg/pub/kmsg.ShareGroupHeartbeatResponse).ReadFrom
theorem fn16 : FnIs Tryz.prog 16 4 [0] (cMax 40 3 36 37) := fnIs_of Tryz.func16 (by kernel_rfl) (by kernel_rfl) (by kernel_rfl) (by kernel_rfl) -- pub-kmsg/impl.MaxShareGroupHeartbeatResponse
theorem fn37 : FnIs Tryz.prog 37 3 [2] (cMaxV 1) := fnIs_of Tryz.func37 (by kernel_rfl) (by kernel_rfl) (by kernel_rfl) (by kernel_rfl) -- (*pub-kmsg/pub/kmsg.ShareGroupHeartbeatResponse).MaxVersion
theorem fn18 : FnIs Tryz.prog 18 19 [4, 5] (cAgain 40 3 22 50 36 39 40 41) := fnIs_of Tryz.func18 (by kernel_rfl) (by kernel_rfl) (by kernel_rfl) (by kernel_rfl) -- pub-kmsg/impl.AgainShareGroupHeartbeatResponse
theorem fn42 : FnIs Tryz.prog 42 3 [0] (cNewPtr 121 83) := fnIs_of Tryz.func42 (by kernel_rfl) (by kernel_rfl) (by kernel_rfl) (by kernel_rfl) -- pub-kmsg/pub/kmsg.NewPtrDescribeTransactionsResponse
theorem fn45 : FnIs Tryz.prog 45 8 [] (cSetV 121 40) := fnIs_of Tryz.func45 (by kernel_rfl) (by kernel_rfl) (by kernel_rfl) (by kernel_rfl) -- (*pub-kmsg/pub/kmsg.DescribeTransactionsResponse).SetVersion
theorem fn46 : FnIs Tryz.prog 46 8 [4] (cRdF 85) := fnIs_of Tryz.func46 (by kernel_rfl) (by kernel_rfl) (by kernel_rfl) (by kernel_rfl) -- (*pub-kmsg/pub/kmsg.DescribeTransactionsResponse).ReadFrom
theorem fn19 : FnIs Tryz.prog 19 4 [0] (cMax 40 3 42 43) := fnIs_of Tryz.func19 (by kernel_rfl) (by kernel_rfl) (by kernel_rfl) (by kernel_rfl) -- pub-kmsg/impl.MaxDescribeTransactionsResponse
theorem fn43 : FnIs Tryz.prog 43 3 [2] (cMaxV 0) := fnIs_of Tryz.func43 (by kernel_rfl) (by kernel_rfl) (by kernel_rfl) (by kernel_rfl) -- (*pub-kmsg/pub/kmsg.DescribeTransactionsResponse).MaxVersion
theorem fn21 : FnIs Tryz.prog 21 19 [4, 5] (cAgain 40 3 22 50 42 45 46 47) := fnIs_of Tryz.func21 (by kernel_rfl) (by kernel_rfl) (by kernel_rfl) (by kernel_rfl) -- pub-kmsg/impl.AgainDescribeTransactionsResponse
theorem fn11 : FnIs Tryz.prog 11 10 [4] (cVer 5 3) := fnIs_of Tryz.func11 (by kernel_rfl) (by kernel_rfl) (by kernel_rfl) (by kernel_rfl) -- pub-kmsg/laws.version
theorem fn91 : FnIs Tryz.prog 91 26 [4] (cSame 22 5 3) := fnIs_of Tryz.func91 (by kernel_rfl) (by kernel_rfl) (by kernel_rfl) (by kernel_rfl) -- pub-kmsg/spec.Same
theorem fn85 : FnIs Tryz.prog 85 230 [6] (gRead numbers true false ⟨true, 7, 10, 8, 9⟩ fsDescribeTransactionsResponse 83 121 3 0 37 nmDescribeTransactionsResponse) := fnIs_of Tryz.func85 (by kernel_rfl) (by kernel_rfl) (by kernel_rfl) (by kernel_rfl) -- (*pub-kmsg/pub/kmsg.DescribeTransactionsResponse).readFrom
theorem fn47 : FnIs Tryz.prog 47 221 [4] (gWrite numbersW false ⟨true, 0, 0, 5, 6⟩ fsDescribeTransactionsResponse 121 3 0 0 25 nwDescribeTransactionsResponse) := fnIs_of Tryz.func47 (by kernel_rfl) (by kernel_rfl) (by kernel_rfl) (by kernel_rfl) -- (*pub-kmsg/pub/kmsg.DescribeTransactionsResponse).AppendTo
def di83 : List DI := []
theorem fn83 : FnIs Tryz.prog 83 2 [] (gDflt di83 2) := fnIs_of Tryz.func83 (by kernel_rfl) (by kernel_rfl) (by kernel_rfl) (by kernel_rfl) -- (*pub-kmsg/pub/kmsg.DescribeTransactionsResponse).Default
noncomputable def dw83 : List (Nat × Value) := (dRun Tryz.prog 2 di83 [(0, 0)]).getD []
theorem df83 : Ent Tryz.prog 83 ∧ DfC Tryz.prog 83 dw83 := dfC_of (n0 := 2) (items := di83) (by kernel_rfl) fn83 (by kernel_rfl) (of_decide_eq_true (by kernel_rfl)) (by omega)
def di124 : List DI := []
theorem fn124 : FnIs Tryz.prog 124 2 [] (gDflt di124 2) := fnIs_of Tryz.func124 (by kernel_rfl) (by kernel_rfl) (by kernel_rfl) (by kernel_rfl) -- (*pub-kmsg/pub/kmsg.DescribeTransactionsResponseTransactionState).Default
noncomputable def dw124 : List (Nat × Value) := (dRun Tryz.prog 2 di124 [(0, 0)]).getD []
theorem df124 : Ent Tryz.prog 124 ∧ DfC Tryz.prog 124 dw124 := dfC_of (n0 := 2) (items := di124) (by kernel_rfl) fn124 (by kernel_rfl) (of_decide_eq_true (by kernel_rfl)) (by omega)
def di125 : List DI := []
theorem fn125 : FnIs Tryz.prog 125 2 [] (gDflt di125 2) := fnIs_of Tryz.func125 (by kernel_rfl) (by kernel_rfl) (by kernel_rfl) (by kernel_rfl) -- (*pub-kmsg/pub/kmsg.DescribeTransactionsResponseTransactionStateTopic).Default
noncomputable def dw125 : List (Nat × Value) := (dRun Tryz.prog 2 di125 [(0, 0)]).getD []
theorem df125 : Ent Tryz.prog 125 ∧ DfC Tryz.prog 125 dw125 := dfC_of (n0 := 2) (items := di125) (by kernel_rfl) fn125 (by kernel_rfl) (of_decide_eq_true (by kernel_rfl)) (by omega)
noncomputable def dd : Nat → Option (List (Nat × Value))
  | 83 => some dw83
  | 124 => some dw124
  | 125 => some dw125
  | _ => none
theorem ddOk : ∀ f wr, dd f = some wr → Ent Tryz.prog f ∧ DfC Tryz.prog f wr := by
  intro f wr h
  unfold dd at h
  split at h
  · obtain rfl := Option.some.inj h; exact df83
  · obtain rfl := Option.some.inj h; exact df124
  · obtain rfl := Option.some.inj h; exact df125
  · cases h
theorem kt : KT Tryz.prog numbers kn where
  mixed := mixed
  f0 := fldB_ok (by kernel_rfl)
  f1 := fldB_ok (by kernel_rfl)
  sl := by kernel_rfl
  u8 := varB_ok (by kernel_rfl)
  dU8 := by kernel_rfl
  dI8 := fun _ => by kernel_rfl
  dI16 := by kernel_rfl
  dI32 := by kernel_rfl
  dU32 := by kernel_rfl
  dInt := by kernel_rfl
theorem kbig : KBig Tryz.prog kn where
  be := varB_ok (by kernel_rfl)
  d16 := by kernel_rfl
  d64 := fun _ => by kernel_rfl
  dI64 := fun _ => by kernel_rfl
  f16 := fun _ => fn135
  f32 := fun _ => fn129
  f64 := fun _ => fn142
theorem ksub : KSub Tryz.prog numbers kn kn.tRS where
  e16 := fun _ => fn115.ent
  c16 := fun _ w S R r hR hRS => (i16_calls kt kbig rfl fn115 (by omega) hR hRS).mono fun e w' h => (fun h => ⟨h.1, h.2.1, h.2.2.1⟩) (rdOk_int (p := .i16) (.inr (.inl ⟨rfl, rfl⟩)) rfl h)
  e32 := fun _ => fn102.ent
  c32 := fun _ w S R r hR hRS => (i32_calls kt kbig rfl fn102 (by omega) hR hRS).mono fun e w' h => (fun h => ⟨h.1, h.2.1, h.2.2.1⟩) (rdOk_int (p := .i32) (.inr (.inr (.inl ⟨rfl, rfl⟩))) rfl h)
  eU := fun _ => fn126.ent
  cU := fun _ w S R r hR hRS => uv_calls kt fn136 (by omega) fn126 (by omega) hR hRS
  eS := fun _ => fn128.ent
  cS := fun _ w S R r k hR hRS => span_calls kt fn128 (by omega) hR hRS
  dStr := by kernel_rfl
  vStr := varB_ok (by kernel_rfl)
  zStr := zeroOf_ok (by kernel_rfl)
def tn : TN := { tTags := 66, tM := 64, tKs := 162, tU32 := 59, tInt := 3, tSl := 22, fSort := 132, fLess := 133, fEach := 108, fOne := 109, fUv := 67 }
theorem fn108 : FnIs Tryz.prog 108 53 [] (cEach tn) := fnIs_of Tryz.func108 (by kernel_rfl) (by kernel_rfl) (by kernel_rfl) (by kernel_rfl) -- (*pub-kmsg/pub/kmsg.Tags).Each
theorem fn133 : FnIs Tryz.prog 133 15 [5] (cTLess tn) := fnIs_of Tryz.func133 (by kernel_rfl) (by kernel_rfl) (by kernel_rfl) (by kernel_rfl) -- (*pub-kmsg/pub/kmsg.Tags).Each$1
theorem fn69 : FnIs Tryz.prog 69 9 [4] (cTEach tn) := fnIs_of Tryz.func69 (by kernel_rfl) (by kernel_rfl) (by kernel_rfl) (by kernel_rfl) -- (*pub-kmsg/pub/kmsg.Tags).AppendEach
theorem fn109 : FnIs Tryz.prog 109 16 [] (cTOne tn) := fnIs_of Tryz.func109 (by kernel_rfl) (by kernel_rfl) (by kernel_rfl) (by kernel_rfl) -- (*pub-kmsg/pub/kmsg.Tags).AppendEach$1
theorem tf : TF Tryz.prog tn where
  map := ⟨59, 22, by kernel_rfl, by kernel_rfl⟩
  fld := fldB_ok (by kernel_rfl)
  sl := by kernel_rfl
  info := infoB_ok (by kernel_rfl)
  vU := varB_ok (by kernel_rfl)
  vK := varB_ok (by kernel_rfl)
  zK := zeroOf_ok (by kernel_rfl)
  dInt := by kernel_rfl
  dU32 := by kernel_rfl
theorem sortOk : SortOk Tryz.prog tn := sortOk_of (it := (Tryz.prog.info? 162).get (by kernel_rfl)) (ie := (Tryz.prog.info? 59).get (by kernel_rfl)) (ke := 10) (f1 := 143) (f2 := 144) (f6 := 148) mixed tf Tryz.sa6 rfl (enters_of Tryz.func132 (by kernel_rfl) rfl) fn133 (by omega) (by kernel_rfl) (by kernel_rfl) (by kernel_rfl) (by kernel_rfl) (fun _ => by kernel_rfl) (by kernel_rfl) (by kernel_rfl) (by kernel_rfl) fn133.ent (by kernel_rfl) (by kernel_rfl) (by kernel_rfl) (fun args W => run_callFunc_extern Tryz.func148 (by kernel_rfl) (by kernel_rfl) (by kernel_rfl) (e := Extern.ReflectliteSwapper.swap true) (by kernel_rfl) args W)
theorem setOk : SetOk Tryz.prog numbers.set := fun _ _ _ _ _ _ _ _ _ _ hk hB hO ht hv => set_calls (tM := 64) (kt := 59) (et := 22) mixed fn130 (by omega) (by kernel_rfl) (by kernel_rfl) (fldB_ok (by kernel_rfl)) hk hB hO ht hv
def av : PF → Bool
  | .bool => true
  | .i8 => true
  | .i16 => true
  | .i32 => true
  | .i64 => true
  | .uuid => true
  | .str => true
  | .cstr => true
  | .nstr => true
  | .cnstr => true
  | _ => false
theorem rdAll : ∀ p, av p = true → RdOk Tryz.prog numbers.tR p (numbers.rd p) := by
  intro p h
  cases p
  · exact rdOk_bool kt fn105 (by omega)
  · exact rdOk_i8 kt rfl fn110 (by omega)
  · exact rdOk_i16 kt kbig rfl fn115 (by omega)
  · cases h
  · exact rdOk_i32 kt kbig rfl fn102 (by omega)
  · exact rdOk_i64 kt kbig rfl fn134 (by omega) fn113 (by omega)
  · exact rdOk_uuid kt ksub rfl (varB_ok (by kernel_rfl)) (zeroOf_ok (by kernel_rfl)) (by kernel_rfl) fn122 (by omega)
  · exact rdOk_str kt ksub rfl rfl fn101 (by omega)
  · exact rdOk_cstr kt ksub rfl rfl fn100 (by omega)
  · exact rdOk_nstr kt ksub rfl rfl fn119 (by omega)
  · exact rdOk_cnstr kt ksub rfl rfl fn117 (by omega)
  · cases h
  · cases h
  · cases h
  · cases h
theorem kb : KB Tryz.prog numbers av true where
  mixed := mixed
  rdE p h := (rdAll p h).1
  rdC p h := (rdAll p h).2
  i8C := fun _ w S R r hR hRS => (i8_calls kt rfl fn110 (by omega) hR hRS).mono fun e w' h => (fun h => ⟨h.1, h.2.1, h.2.2.1⟩) (rdOk_int (p := .i8) (.inl ⟨rfl, rfl⟩) rfl h)
  okE := fun _ => fn95.ent
  okC := fun _ w S R r hR => ok_calls kt fn95 (by omega) hR
  cmE := fn96.ent
  cmC w S R r hR he := complete_calls kt fn96 (by omega) (varB_ok (by kernel_rfl)) hR he
  lenE := fun _ => fn94.ent
  lenC := fun _ w S R r hR hRS => len_calls kt ksub rfl fn94 (by omega) hR hRS
  clenE := fun _ _ => fn93.ent
  clenC := fun _ _ w S R r hR hRS => clen_calls kt ksub rfl fn93 (by omega) hR hRS
  uvE := fun _ => fn126.ent
  uvC := fun _ w S R r hR hRS => ksub.cU rfl w S R r hR hRS
  spanE := fun _ => fn128.ent
  spanC := fun _ w S R r k _ _ hR hRS => ksub.cS rfl w S R r k hR hRS
  tagsE := fun _ => fn104.ent
  tagsC := fun _ w S R r hR hRS hS => rdTags_calls kt ksub rfl rfl rfl fn130.ent setOk (zeroOf_ok (by kernel_rfl)) (varB_ok (by kernel_rfl)) fn104 (by omega) hR hRS hS
  setE := fun _ => fn130.ent
  setC := fun _ => setOk
  fR := twoB_ok (by kernel_rfl)
  zR := zeroOf_ok (by kernel_rfl)
  vR := varB_ok (by kernel_rfl)
  uuid := fun _ => ⟨varB_ok (by kernel_rfl), zeroOf_ok (by kernel_rfl)⟩
  tI32 := by kernel_rfl
  tU32 := fun _ => by kernel_rfl
  tInt := by kernel_rfl
  vStr := ⟨varB_ok (by kernel_rfl), zeroOf_ok (by kernel_rfl)⟩
  vTags := fun _ => varB_ok (by kernel_rfl)
  tErr := fun _ => ifaceB_ok (by kernel_rfl)
theorem env : Env Tryz.prog numbers av true dd := ⟨kb, ddOk⟩
theorem oct : OctT Tryz.prog kn.tSl kn.tU8 := octB_ok (by kernel_rfl)
theorem wt : WT Tryz.prog kn where
  mixed := mixed
  oct := oct
  dU8 := by kernel_rfl
  dI8 := fun _ => by kernel_rfl
  dI16 := by kernel_rfl
  dU16 := fun _ => by kernel_rfl
  dI32 := by kernel_rfl
  dU32 := by kernel_rfl
  dInt := by kernel_rfl
  dI64 := fun _ => by kernel_rfl
  dU64 := fun _ => by kernel_rfl
  dStr := by kernel_rfl
  vStr := varB_ok (by kernel_rfl)
theorem uvC (x : Nat) (w : World) (h : x < 4294967296) : ApC Tryz.prog kn.tU8 numbersW.uv (.int .u32 x) (uvar x) w := ap_uv wt (by kernel_rfl) fn131 (by omega) fn107 (by omega) fn67 (by omega) h w
theorem i16C (x : Int) (w : World) : ApC Tryz.prog kn.tU8 79 (.int .i16 x) (be 2 x) w := ap_i16 wt rfl fn123 (by omega) fn79 (by omega) x w
theorem i32C (x : Int) (w : World) : ApC Tryz.prog kn.tU8 64 (.int .i32 x) (be 4 x) w := ap_i32 wt fn106 (by omega) fn64 (by omega) x w
def avw : PF → Bool
  | .bool => true
  | .i8 => true
  | .i16 => true
  | .u16 => true
  | .i32 => true
  | .i64 => true
  | .uuid => true
  | .str => true
  | .cstr => true
  | .nstr => true
  | .cnstr => true
  | _ => false
theorem apAll : ∀ p, avw p = true → AppOk Tryz.prog kn.tU8 p (numbersW.ap p) := by
  intro p h
  cases p
  · exact app_bool wt fn70 (by omega)
  · exact app_i8 wt rfl fn74 (by omega)
  · exact app_i16 wt rfl fn123 (by omega) fn79 (by omega)
  · exact app_u16 wt rfl fn123 (by omega)
  · exact app_i32 wt fn106 (by omega) fn64 (by omega)
  · exact app_i64 wt rfl rfl fn114 (by omega) fn75 (by omega)
  · exact app_uuid wt (varB_ok (by kernel_rfl)) (by kernel_rfl) fn82 (by omega)
  · exact app_str wt (app_i16 wt rfl fn123 (by omega) fn79 (by omega)) i16C fn63 (by omega)
  · exact app_cstr wt fn67.ent (fun x w h => uvC x w h) fn62 (by omega)
  · exact app_nstr wt (fx := false) rfl (by kernel_rfl) fn79.ent (fun w => i16C (-1) w) (app_str wt (app_i16 wt rfl fn123 (by omega) fn79 (by omega)) i16C fn63 (by omega)) fn81 (by omega)
  · exact app_nstr wt (fx := true) rfl (by kernel_rfl) fn67.ent (fun w => uvC 0 w (by omega)) (app_cstr wt fn67.ent (fun x w h => uvC x w h) fn62 (by omega)) fn80 (by omega)
  · cases h
  · cases h
  · cases h
  · cases h
theorem kw : KW Tryz.prog numbersW avw true true kn.tU8 where
  mixed := mixed
  oct := oct
  dInt := by kernel_rfl
  dU32 := fun _ => by kernel_rfl
  apE p h := (apAll p h).1
  apC p h := (apAll p h).2
  alE := fun _ => fn61.ent
  alC := fun _ n w => ap_len wt fn64.ent i32C fn61 (by omega) n w
  clE := fun _ _ => fn60.ent
  clC := fun _ _ n w => ap_clen wt fn67.ent (fun x w h => uvC x w h) fn60 (by omega) n w
  nlE := fun _ => fn66.ent
  nlC := fun _ n b w L d bs hd hL hlim => anlen_calls wt fn64.ent i32C fn66 (by omega) n b w L d bs hd hL hlim
  cnE := fun _ _ => fn65.ent
  cnC := fun _ _ n b w L d bs hd hL hlim => acnlen_calls wt fn67.ent (fun x w h => uvC x w h) fn65 (by omega) n b w L d bs hd hL hlim
  uvE := fun _ => fn67.ent
  uvC := fun _ x w h => uvC x w h
  tlE := fun _ => fn68.ent
  tlC := fun _ w b o m X t hc ht => tlen_calls (kt := 59) (et := 22) mixed (by kernel_rfl) (fldB_ok (by kernel_rfl)) fn68 (by omega) hc ht
  teE := fun _ => fn69.ent
  teC := fun _ w b o m L t d bs hc hb ht hd hL hlim => teach_calls mixed tf sortOk oct (varB_ok (by kernel_rfl)) fn67.ent (fun x w h => uvC x w h) fn108 (by omega) fn109 (by omega) fn69 (by omega) hc hb ht hd hL hlim
  uuid := fun _ => ⟨varB_ok (by kernel_rfl), zeroOf_ok (by kernel_rfl)⟩
noncomputable def zv : Value := (zeroOf Tryz.prog 121).getD undef
noncomputable def zz : Array Value := applyWr zv.cells 0 dw83
theorem msg : MsgC Tryz.prog numbers.gErr kn.tU8 false true 0 fsDescribeTransactionsResponse (some 3) 121 zz 42 45 46 47 :=
  msgC_of (cx := ⟨true, 7, 10, 8, 9⟩) (cw := ⟨true, 0, 0, 5, 6⟩) (nm := nmDescribeTransactionsResponse) (ms := nwDescribeTransactionsResponse) (tI16 := 40) env kw (by decide) (by decide) rfl rfl fn42 (by omega) fn45 (by omega) fn46 (by omega) fn85 (by omega) fn47 (by kernel_rfl) (by kernel_rfl) rfl (of_decide_eq_true (by kernel_rfl)) (by kernel_rfl) (by kernel_rfl) rfl (by kernel_rfl) (by kernel_rfl)
def sn : SN := { tInt := 3, tI64 := 2, tU8 := 5, tU64 := 75, tU32 := 59, tU16 := 27, tB := 4, tSl := 22, tF := 47, tFs := 31, tT := 26, tTs := 23, tG := 61, tGs := 24, tMs := 33, fPart := 25, fHas := 50, fField := 51, fAt := 52, fKnown := 53, fUsual := 54, fUv := 55, fUnk := 56, fWhole := 57, fNull := 86, fThings := 87, fCnt := 88, fVal := 89, fFix := 90, fWid := 92, fWrite := 9, fSame := 91, fZ2 := 7, fZ3 := 22, fZ4 := 48 }
theorem sf_fPart : FnIs Tryz.prog sn.fPart 132 [8] (csPt sn) := fnIs_of Tryz.func25 (by kernel_rfl) (by kernel_rfl) (by kernel_rfl) (by kernel_rfl)
theorem sf_fHas : FnIs Tryz.prog sn.fHas 20 [4] (csHs sn) := fnIs_of Tryz.func50 (by kernel_rfl) (by kernel_rfl) (by kernel_rfl) (by kernel_rfl)
theorem sf_fField : FnIs Tryz.prog sn.fField 76 [8] (csFl sn) := fnIs_of Tryz.func51 (by kernel_rfl) (by kernel_rfl) (by kernel_rfl) (by kernel_rfl)
theorem sf_fAt : FnIsC Tryz.prog sn.fAt 16 4 26 (csAt sn) := fnIsC_of Tryz.func52 (by kernel_rfl) (by kernel_rfl) (by kernel_rfl) (by kernel_rfl)
theorem sf_fKnown : FnIs Tryz.prog sn.fKnown 23 [2] (csKw sn) := fnIs_of Tryz.func53 (by kernel_rfl) (by kernel_rfl) (by kernel_rfl) (by kernel_rfl)
theorem sf_fUv : FnIs Tryz.prog sn.fUv 20 [2] (csUvr sn) := fnIs_of Tryz.func55 (by kernel_rfl) (by kernel_rfl) (by kernel_rfl) (by kernel_rfl)
theorem sf_fUnk : FnIs Tryz.prog sn.fUnk 85 [4] (csUn sn) := fnIs_of Tryz.func56 (by kernel_rfl) (by kernel_rfl) (by kernel_rfl) (by kernel_rfl)
theorem sf_fWhole : FnIs Tryz.prog sn.fWhole 8 [2] (csWh sn) := fnIs_of Tryz.func57 (by kernel_rfl) (by kernel_rfl) (by kernel_rfl) (by kernel_rfl)
theorem sf_fNull : FnIs Tryz.prog sn.fNull 20 [6] (csNu sn) := fnIs_of Tryz.func86 (by kernel_rfl) (by kernel_rfl) (by kernel_rfl) (by kernel_rfl)
theorem sf_fThings : FnIs Tryz.prog sn.fThings 8 [2] (csTh sn) := fnIs_of Tryz.func87 (by kernel_rfl) (by kernel_rfl) (by kernel_rfl) (by kernel_rfl)
theorem sf_fCnt : FnIs Tryz.prog sn.fCnt 28 [8] (csCn sn) := fnIs_of Tryz.func88 (by kernel_rfl) (by kernel_rfl) (by kernel_rfl) (by kernel_rfl)
theorem sf_fVal : FnIs Tryz.prog sn.fVal 70 [12] (csVa sn) := fnIs_of Tryz.func89 (by kernel_rfl) (by kernel_rfl) (by kernel_rfl) (by kernel_rfl)
theorem sf_fFix : FnIs Tryz.prog sn.fFix 22 [4] (csFi sn) := fnIs_of Tryz.func90 (by kernel_rfl) (by kernel_rfl) (by kernel_rfl) (by kernel_rfl)
theorem sf_fWid : FnIs Tryz.prog sn.fWid 11 [2] (csWd sn) := fnIs_of Tryz.func92 (by kernel_rfl) (by kernel_rfl) (by kernel_rfl) (by kernel_rfl)
theorem sf_fWrite : FnIs Tryz.prog sn.fWrite 21 [6] (csWr sn) := fnIs_of Tryz.func9 (by kernel_rfl) (by kernel_rfl) (by kernel_rfl) (by kernel_rfl)
theorem sf_fZ2 : FnIs Tryz.prog sn.fZ2 15 [2] (csZ2 sn) := fnIs_of Tryz.func7 (by kernel_rfl) (by kernel_rfl) (by kernel_rfl) (by kernel_rfl)
theorem sf_fZ3 : FnIs Tryz.prog sn.fZ3 18 [2] (csZ3 sn) := fnIs_of Tryz.func22 (by kernel_rfl) (by kernel_rfl) (by kernel_rfl) (by kernel_rfl)
theorem sf_fZ4 : FnIs Tryz.prog sn.fZ4 7 [2] (csZ4 sn) := fnIs_of Tryz.func48 (by kernel_rfl) (by kernel_rfl) (by kernel_rfl) (by kernel_rfl)
theorem rt : RefT Tryz.prog sn where
  mixed := mixed
  dInt := by kernel_rfl
  dI64 := by kernel_rfl
  dU8 := by kernel_rfl
  dU32 := by kernel_rfl
  dU64 := by kernel_rfl
  oct := oct
  dTs := by kernel_rfl
  dGs := by kernel_rfl
  dFs := by kernel_rfl
  vI64 := varB_ok (by kernel_rfl)
  vU8 := varB_ok (by kernel_rfl)
  vT := varB_ok (by kernel_rfl)
  vF := varB_ok (by kernel_rfl)
  vG := varB_ok (by kernel_rfl)
  vM := varB_ok (by kernel_rfl)
  t0 := fldB_ok (by kernel_rfl)
  t1 := fldB_ok (by kernel_rfl)
  t2 := fldB_ok (by kernel_rfl)
  t3 := fldB_ok (by kernel_rfl)
  t4 := fldB_ok (by kernel_rfl)
  f0 := fldB_ok (by kernel_rfl)
  f1 := fldB_ok (by kernel_rfl)
  f2 := fldB_ok (by kernel_rfl)
  f3 := fldB_ok (by kernel_rfl)
  f4 := fldB_ok (by kernel_rfl)
  f5 := fldB_ok (by kernel_rfl)
  f6 := fldB_ok (by kernel_rfl)
  f7 := fldB_ok (by kernel_rfl)
  g0 := fldB_ok (by kernel_rfl)
  g1 := fldB_ok (by kernel_rfl)
  m0 := fldB_ok (by kernel_rfl)
  m1 := fldB_ok (by kernel_rfl)
  zT := zeroOf_ok (by kernel_rfl)
  zF := zeroOf_ok (by kernel_rfl)
  zG := zeroOf_ok (by kernel_rfl)
  zM := zeroOf_ok (by kernel_rfl)
  z8 := z8_ok (by kernel_rfl)
  bT := fun w => by kernel_rfl
  bG := fun w => by kernel_rfl
  bSG := fun w => by kernel_rfl
  iG := iG_ok (by kernel_rfl)

theorem leaf : LeafC Tryz.prog sn := leafC_of rt (varB_ok (by kernel_rfl)) sf_fUv sf_fFix sf_fCnt sf_fWid sf_fWhole sf_fThings sf_fHas sf_fNull sf_fKnown sf_fAt sf_fUnk
theorem trees : TreT Tryz.prog sn where
  tab := rt
  cT := by kernel_rfl
  cG := by kernel_rfl
  cI := by kernel_rfl
  cSl := by kernel_rfl
  cB := by kernel_rfl
  cTs := by kernel_rfl
  cGs := by kernel_rfl
  cU := by kernel_rfl
  c8 := by kernel_rfl
  dB := by kernel_rfl
  nT := by kernel_rfl
  nG := by kernel_rfl

def ln : LN := { fM := 19, fB := 20, fV := 11, fA := 21 }
def it84 : List BI := [([(0, 8), (2, -1), (3, -1), (4, -1)], none), ([(0, 11), (2, -1), (3, -1), (4, -1), (6, 3)], none)]
def ss84 : SFs := .cons 8 0 (-1) (-1) (-1) 0 0 .nil (.cons 11 0 (-1) (-1) (-1) 0 3 .nil (.nil))
theorem fi84 : FnIs Tryz.prog 84 4 [0] (cSub sn it84) := fnIs_of Tryz.func84 (by kernel_rfl) (by kernel_rfl) (by kernel_rfl) (by kernel_rfl)
theorem sb84 : Ent Tryz.prog 84 ∧ BuildC Tryz.prog 84 ss84 := sub_calls rt fi84 (of_decide_eq_true (by kernel_rfl)) ⟨fun w => by kernel_rfl, rfl, ⟨fun w => by kernel_rfl, rfl, trivial⟩⟩ (fun sv w => by kernel_rfl) rfl (of_decide_eq_true (by kernel_rfl))
def it44 : List BI := [([(0, 2), (2, -1), (3, -1), (4, -1)], none), ([(0, 8), (2, -1), (3, -1), (4, -1)], none), ([(0, 8), (2, -1), (3, -1), (4, -1)], none), ([(0, 3), (2, -1), (3, -1), (4, -1)], none), ([(0, 4), (2, -1), (3, -1), (4, -1)], none), ([(0, 4), (2, -1), (3, -1), (4, -1)], none), ([(0, 2), (2, -1), (3, -1), (4, -1)], none), ([(0, 11), (2, -1), (3, -1), (4, -1), (6, 10)], some 84)]
def ss44 : SFs := .cons 2 0 (-1) (-1) (-1) 0 0 .nil (.cons 8 0 (-1) (-1) (-1) 0 0 .nil (.cons 8 0 (-1) (-1) (-1) 0 0 .nil (.cons 3 0 (-1) (-1) (-1) 0 0 .nil (.cons 4 0 (-1) (-1) (-1) 0 0 .nil (.cons 4 0 (-1) (-1) (-1) 0 0 .nil (.cons 2 0 (-1) (-1) (-1) 0 0 .nil (.cons 11 0 (-1) (-1) (-1) 0 10 ss84 (.nil))))))))
theorem fi44 : FnIs Tryz.prog 44 11 [0] (cSub sn it44) := fnIs_of Tryz.func44 (by kernel_rfl) (by kernel_rfl) (by kernel_rfl) (by kernel_rfl)
theorem sb44 : Ent Tryz.prog 44 ∧ BuildC Tryz.prog 44 ss44 := sub_calls rt fi44 (of_decide_eq_true (by kernel_rfl)) ⟨fun w => by kernel_rfl, rfl, ⟨fun w => by kernel_rfl, rfl, ⟨fun w => by kernel_rfl, rfl, ⟨fun w => by kernel_rfl, rfl, ⟨fun w => by kernel_rfl, rfl, ⟨fun w => by kernel_rfl, rfl, ⟨fun w => by kernel_rfl, rfl, ⟨fun base n c w => by kernel_rfl, sb84, trivial⟩⟩⟩⟩⟩⟩⟩⟩ (fun sv w => by kernel_rfl) rfl (of_decide_eq_true (by kernel_rfl))
def itM : List BI := [([(0, 3), (2, -1), (3, -1), (4, -1)], none), ([(0, 11), (2, -1), (3, -1), (4, -1), (6, 10)], some 44)]
def ssM : SFs := .cons 3 0 (-1) (-1) (-1) 0 0 .nil (.cons 11 0 (-1) (-1) (-1) 0 10 ss44 (.nil))
theorem fiM : FnIsC Tryz.prog 20 6 0 sn.tMs (cMsgB sn 0 itM) := fnIsC_of Tryz.func20 (by kernel_rfl) (by kernel_rfl) (by kernel_rfl) (by kernel_rfl)
theorem sbM : Ent Tryz.prog 20 ∧ MsgBC Tryz.prog 20 0 ssM := msgb_calls rt (fun x base n c w => by kernel_rfl) fiM (of_decide_eq_true (by kernel_rfl)) ⟨fun w => by kernel_rfl, rfl, ⟨fun base n c w => by kernel_rfl, sb44, trivial⟩⟩ (fun sv w => by kernel_rfl) rfl (of_decide_eq_true (by kernel_rfl))
theorem lawC : LawC Tryz.prog sn ln numbers.gErr 0 0 ssM (fun x l => againOut false true 0 fsDescribeTransactionsResponse x l) (okInL true 0 fsDescribeTransactionsResponse 0) :=
  lawC_of (tI16 := 40) (tErr := 50) rt msg (by kernel_rfl) (ifaceB_ok (by kernel_rfl)) (.inl (by kernel_rfl)) fn21 (by omega) fn11 (by omega) (ntSm := 26) (.inr fn91) (by omega) fn19 (by omega) fn43 (by omega) (by decide) sf_fZ4 sf_fZ3 sf_fZ2 sbM sf_fWrite sf_fPart.ent (ref_calls leaf sf_fPart sf_fField sf_fVal ssM (by kernel_rfl)).1
theorem fnL : FnIs Tryz.prog 6 56 [6] (cLcu sn ln) := fnIs_of Tryz.func6 (by kernel_rfl) (by kernel_rfl) (by kernel_rfl) (by kernel_rfl)
theorem law {W : World} {x0 x2 k : Nat} {cs : List Value} {t : Tr} (hx : x0 < 256) (hx2 : x2 < 65536) (ht : TrRp W k cs t) (hw : t.wt ≤ 1048576) (herr : ErrAt numbers.gErr W) : Calls Tryz.prog 6 [.int .u8 (x0 : Int), .agg cs.toArray, .int .u16 (x2 : Int)].toArray W (TrueC W) :=
  cut_law lawC (by kernel_rfl) (by kernel_rfl) fnL hx hx2 ht herr (fun v => k_lim (by kernel_rfl) (by kernel_rfl) hw v _)
end Go.Proofs.YthjaecnbgfohmacGreatDoor.Kx
