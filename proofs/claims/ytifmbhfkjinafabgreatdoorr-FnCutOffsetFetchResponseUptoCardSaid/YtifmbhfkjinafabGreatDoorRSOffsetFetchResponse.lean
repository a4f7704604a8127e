/-
  FnCutOffsetFetchResponse: the numbers of the program, the code of its functions, and the law out of them.
-/
import Derived.Test.YtifmbhfkjinafabGreatDoorRChecked
import Derived.Test.YtifmbhfkjinafabGreatDoorRK1
import Derived.Test.YtifmbhfkjinafabGreatDoorRK2
import Derived.Test.YtifmbhfkjinafabGreatDoorRK3
import Derived.Test.YtifmbhfkjinafabGreatDoorRK4
import Derived.Test.YtifmbhfkjinafabGreatDoorRK5
import Derived.Test.YtifmbhfkjinafabGreatDoorRK6
import Derived.Test.YtifmbhfkjinafabGreatDoorRK7
import Derived.Test.YtifmbhfkjinafabGreatDoorRK8
import Derived.Test.YtifmbhfkjinafabGreatDoorRK9
import Derived.Test.YtifmbhfkjinafabGreatDoorRK10
import Derived.Test.YtifmbhfkjinafabGreatDoorRK11
import Derived.Test.YtifmbhfkjinafabGreatDoorRK12
import Derived.Test.YtifmbhfkjinafabGreatDoorRK13
import Derived.Test.YtifmbhfkjinafabGreatDoorRK14
import Derived.Test.YtifmbhfkjinafabGreatDoorRK15
import Derived.KernelRfl
import Derived.Test.YtifmbhfkjinafabGreatDoorRSh
namespace Go.Proofs.YtifmbhfkjinafabGreatDoorR.Kx
open Go Go.Proofs
set_option maxRecDepth 100000
def numbers : G := { rd := fun | .bool => 999999 | .i8 => 111 | .i16 => 121 | .u16 => 999999 | .i32 => 96 | .i64 => 97 | .uuid => 107 | .str => 106 | .cstr => 105 | .nstr => 125 | .cnstr => 123 | .bytes => 999999 | .cbytes => 999999 | .nbytes => 139 | .cnbytes => 138, un := fun | .str => 104 | .cstr => 103 | .nstr => 124 | .cnstr => 122 | _ => 999999, len := 99, clen := 98, ok := 100, complete := 101, uv := 146, span := 148, tags := 110, set := 149, tR := 169, tUuid := 84, tVer := 42, tI8 := 93, tI32 := 21, tU32 := 61, tInt := 3, tBool := 4, tErr := 52, tTags := 68, tSl := 22, tStr := 9, gErr := 1 }
def numbersW : GW := { ap := fun | .bool => 999999 | .i8 => 73 | .i16 => 77 | .u16 => 126 | .i32 => 63 | .i64 => 64 | .uuid => 69 | .str => 68 | .cstr => 67 | .nstr => 79 | .cnstr => 78 | .bytes => 143 | .cbytes => 142 | .nbytes => 88 | .cnbytes => 87, alen := 66, calen := 65, nalen := 999999, cnalen := 999999, uv := 70, tlen := 71, teach := 72, tVer := 42, tInt := 3, tU32 := 61, tSl := 22, tUuid := 84 }
def kn : Kn := { tRS := 169, tSl := 22, tB := 4, tInt := 3, tU8 := 5, tI8 := 93, tI16 := 42, tU16 := 39, tI32 := 21, tU32 := 61, tI64 := 2, tU64 := 77, tStr := 9, tUuid := 84, tBE := 188, tErr := 52, gBE := 0, gErr := 1, fU16 := 153, fU32 := 144, fU64 := 154, fUv := 155, fR64 := 145 }
theorem mixed : Tryz.prog.follows .mixedOrders = true := by kernel_rfl
def fsOffsetFetchResponse : Fds := (.cons 3 none none (0) 1 (.prim .i32) (.cons 0 (some 7) none (0) 2 (.list none 3 (.struct none (some 2) (.cons 0 none none (0) 0 (.str none) (.cons 0 none none (0) 1 (.list none 6 (.struct none (some 5) (.cons 0 none none (0) 0 (.prim .i32) (.cons 0 none none (0) 1 (.prim .i64) (.cons 5 none none (-1) 2 (.prim .i32) (.cons 0 none none (0) 3 (.str (some 0)) (.cons 0 none none (0) 4 (.prim .i16) .nil))))))) .nil)))) (.cons 2 (some 7) none (0) 3 (.prim .i16) (.cons 8 none none (0) 4 (.list none 4 (.struct none (some 3) (.cons 0 none none (0) 0 (.str none) (.cons 0 none none (0) 1 (.list none 19 (.struct none (some 18) (.cons 8 (some 9) none (0) 0 (.str none) (.cons 10 none none (0) 1 (.prim .uuid) (.cons 0 none none (0) 17 (.list none 6 (.struct none (some 5) (.cons 0 none none (0) 0 (.prim .i32) (.cons 0 none none (0) 1 (.prim .i64) (.cons 0 none none (-1) 2 (.prim .i32) (.cons 0 none none (0) 3 (.str (some 0)) (.cons 0 none none (0) 4 (.prim .i16) .nil))))))) .nil))))) (.cons 0 none none (0) 2 (.prim .i16) .nil))))) .nil))))
def nmOffsetFetchResponse : Nm := (.mk [] [(.mk [11, 121, 1, 21] []), (.mk [12, 121, 2, 118, 13, 14, 15, 0, 1] [(.mk [16, 17, 128, 125, 2] [(.mk [] [(.mk [18, 125, 0, 9] []), (.mk [19, 125, 1, 123, 20, 21, 22, 2, 3] [(.mk [23, 24, 129, 128, 5] [(.mk [] [(.mk [25, 128, 0, 21] []), (.mk [26, 128, 1, 2] []), (.mk [27, 128, 2, 21] []), (.mk [28, 128, 3, 106] []), (.mk [29, 128, 4, 42] [])])])])])])]), (.mk [30, 121, 3, 42] []), (.mk [31, 121, 4, 119, 32, 33, 34, 4, 5] [(.mk [35, 36, 130, 132, 3] [(.mk [] [(.mk [37, 132, 0, 9] []), (.mk [38, 132, 1, 130, 39, 40, 41, 6, 7] [(.mk [42, 43, 131, 136, 3] [(.mk [] [(.mk [44, 136, 0, 9] []), (.mk [45, 136, 1, 84] []), (.mk [46, 136, 2, 134, 47, 48, 49, 8, 9] [(.mk [50, 51, 132, 138, 5] [(.mk [] [(.mk [52, 138, 0, 21] []), (.mk [53, 138, 1, 2] []), (.mk [54, 138, 2, 21] []), (.mk [55, 138, 3, 106] []), (.mk [56, 138, 4, 42] [])])])])])])]), (.mk [57, 132, 2, 42] [])])])])])
def nwOffsetFetchResponse : List Nm := [(.mk [7, 121, 1, 21] []), (.mk [8, 121, 2, 118, 9, 0, 1] [(.mk [10, 125, 2] [(.mk [] [(.mk [11, 125, 0, 9] []), (.mk [12, 125, 1, 123, 13, 2, 3] [(.mk [14, 128, 5] [(.mk [] [(.mk [15, 128, 0, 21] []), (.mk [16, 128, 1, 2] []), (.mk [17, 128, 2, 21] []), (.mk [18, 128, 3, 106] []), (.mk [19, 128, 4, 42] [])])])])])])]), (.mk [20, 121, 3, 42] []), (.mk [21, 121, 4, 119, 22, 4, 5] [(.mk [23, 132, 3] [(.mk [] [(.mk [24, 132, 0, 9] []), (.mk [25, 132, 1, 130, 26, 6, 7] [(.mk [27, 136, 3] [(.mk [] [(.mk [28, 136, 0, 9] []), (.mk [29, 136, 1, 84] []), (.mk [30, 136, 2, 134, 31, 8, 9] [(.mk [32, 138, 5] [(.mk [] [(.mk [33, 138, 0, 21] []), (.mk [34, 138, 1, 2] []), (.mk [35, 138, 2, 21] []), (.mk [36, 138, 3, 106] []), (.mk [37, 138, 4, 42] [])])])])])])]), (.mk [38, 132, 2, 42] [])])])])]
theorem fn111 : FnIs Tryz.prog 111 32 [2] (cI8 kn) := fnIs_of Tryz.func111 (by kernel_rfl) (by kernel_rfl) (by kernel_rfl) (by kernel_rfl) -- (*pub-kmsg/pub/kmsg/inner/kbin.Reader).Int8
theorem fn121 : FnIs Tryz.prog 121 32 [2] (cI16 kn) := fnIs_of Tryz.func121 (by kernel_rfl) (by kernel_rfl) (by kernel_rfl) (by kernel_rfl) -- (*pub-kmsg/pub/kmsg/inner/kbin.Reader).Int16
theorem fn96 : FnIs Tryz.prog 96 32 [2] (cI32 kn) := fnIs_of Tryz.func96 (by kernel_rfl) (by kernel_rfl) (by kernel_rfl) (by kernel_rfl) -- (*pub-kmsg/pub/kmsg/inner/kbin.Reader).Int32
theorem fn145 : FnIs Tryz.prog 145 31 [2] (cR64 kn) := fnIs_of Tryz.func145 (by kernel_rfl) (by kernel_rfl) (by kernel_rfl) (by kernel_rfl) -- (*pub-kmsg/pub/kmsg/inner/kbin.Reader).readUint64
theorem fn97 : FnIs Tryz.prog 97 6 [2] (cI64 kn) := fnIs_of Tryz.func97 (by kernel_rfl) (by kernel_rfl) (by kernel_rfl) (by kernel_rfl) -- (*pub-kmsg/pub/kmsg/inner/kbin.Reader).Int64
theorem fn155 : FnIs Tryz.prog 155 87 [2, 3] (cUvIn kn) := fnIs_of Tryz.func155 (by kernel_rfl) (by kernel_rfl) (by kernel_rfl) (by kernel_rfl) -- pub-kmsg/pub/kmsg/inner/kbin.Uvarint
theorem fn146 : FnIs Tryz.prog 146 31 [2] (cUv kn) := fnIs_of Tryz.func146 (by kernel_rfl) (by kernel_rfl) (by kernel_rfl) (by kernel_rfl) -- (*pub-kmsg/pub/kmsg/inner/kbin.Reader).Uvarint
theorem fn107 : FnIsC Tryz.prog 107 9 2 84 (cUuid numbers kn) := fnIsC_of Tryz.func107 (by kernel_rfl) (by kernel_rfl) (by kernel_rfl) (by kernel_rfl) -- (*pub-kmsg/pub/kmsg/inner/kbin.Reader).Uuid
theorem fn110 : FnIsC Tryz.prog 110 24 2 68 (cRdTags numbers kn) := fnIsC_of Tryz.func110 (by kernel_rfl) (by kernel_rfl) (by kernel_rfl) (by kernel_rfl) -- pub-kmsg/pub/kmsg.internalReadTags
theorem fn149 : FnIs Tryz.prog 149 21 [] (cSet numbers 66) := fnIs_of Tryz.func149 (by kernel_rfl) (by kernel_rfl) (by kernel_rfl) (by kernel_rfl) -- (*pub-kmsg/pub/kmsg.Tags).Set
theorem fn100 : FnIs Tryz.prog 100 8 [2] (cOk kn) := fnIs_of Tryz.func100 (by kernel_rfl) (by kernel_rfl) (by kernel_rfl) (by kernel_rfl) -- (*pub-kmsg/pub/kmsg/inner/kbin.Reader).Ok
theorem fn101 : FnIs Tryz.prog 101 8 [2] (cComplete kn) := fnIs_of Tryz.func101 (by kernel_rfl) (by kernel_rfl) (by kernel_rfl) (by kernel_rfl) -- (*pub-kmsg/pub/kmsg/inner/kbin.Reader).Complete
theorem fn148 : FnIs Tryz.prog 148 40 [4] (cSpan kn) := fnIs_of Tryz.func148 (by kernel_rfl) (by kernel_rfl) (by kernel_rfl) (by kernel_rfl) -- (*pub-kmsg/pub/kmsg/inner/kbin.Reader).Span
theorem fn106 : FnIs Tryz.prog 106 11 [2] (cStr numbers kn) := fnIs_of Tryz.func106 (by kernel_rfl) (by kernel_rfl) (by kernel_rfl) (by kernel_rfl) -- (*pub-kmsg/pub/kmsg/inner/kbin.Reader).String
theorem fn105 : FnIs Tryz.prog 105 12 [2] (cCStr numbers kn) := fnIs_of Tryz.func105 (by kernel_rfl) (by kernel_rfl) (by kernel_rfl) (by kernel_rfl) -- (*pub-kmsg/pub/kmsg/inner/kbin.Reader).CompactString
theorem fn125 : FnIs Tryz.prog 125 14 [2] (cNStr numbers kn) := fnIs_of Tryz.func125 (by kernel_rfl) (by kernel_rfl) (by kernel_rfl) (by kernel_rfl) -- (*pub-kmsg/pub/kmsg/inner/kbin.Reader).NullableString
theorem fn123 : FnIs Tryz.prog 123 15 [2] (cCNStr numbers kn) := fnIs_of Tryz.func123 (by kernel_rfl) (by kernel_rfl) (by kernel_rfl) (by kernel_rfl) -- (*pub-kmsg/pub/kmsg/inner/kbin.Reader).CompactNullableString
theorem fn139 : FnIs Tryz.prog 139 14 [2] (cNBytes numbers kn) := fnIs_of Tryz.func139 (by kernel_rfl) (by kernel_rfl) (by kernel_rfl) (by kernel_rfl) -- (*pub-kmsg/pub/kmsg/inner/kbin.Reader).NullableBytes
theorem fn138 : FnIs Tryz.prog 138 15 [2] (cCNBytes numbers kn) := fnIs_of Tryz.func138 (by kernel_rfl) (by kernel_rfl) (by kernel_rfl) (by kernel_rfl) -- (*pub-kmsg/pub/kmsg/inner/kbin.Reader).CompactNullableBytes
theorem fn99 : FnIs Tryz.prog 99 21 [2] (cLen numbers kn) := fnIs_of Tryz.func99 (by kernel_rfl) (by kernel_rfl) (by kernel_rfl) (by kernel_rfl) -- (*pub-kmsg/pub/kmsg/inner/kbin.Reader).ArrayLen
theorem fn98 : FnIs Tryz.prog 98 23 [2] (cCLen numbers kn) := fnIs_of Tryz.func98 (by kernel_rfl) (by kernel_rfl) (by kernel_rfl) (by kernel_rfl) -- (*pub-kmsg/pub/kmsg/inner/kbin.Reader).CompactArrayLen
theorem fn153 : FnIs Tryz.prog 153 18 [4] (gBig kn kn.tU16 .u16 2) := fnIs_of Tryz.func153 (by kernel_rfl) (by kernel_rfl) (by kernel_rfl) (by kernel_rfl) -- (encoding/binary.bigEndian).Uint16
theorem fn144 : FnIs Tryz.prog 144 30 [4] (gBig kn kn.tU32 .u32 4) := fnIs_of Tryz.func144 (by kernel_rfl) (by kernel_rfl) (by kernel_rfl) (by kernel_rfl) -- (encoding/binary.bigEndian).Uint32
theorem fn154 : FnIs Tryz.prog 154 54 [4] (gBig kn kn.tU64 .u64 8) := fnIs_of Tryz.func154 (by kernel_rfl) (by kernel_rfl) (by kernel_rfl) (by kernel_rfl) -- (encoding/binary.bigEndian).Uint64
theorem fn73 : FnIs Tryz.prog 73 10 [4] (cAI8 kn) := fnIs_of Tryz.func73 (by kernel_rfl) (by kernel_rfl) (by kernel_rfl) (by kernel_rfl) -- pub-kmsg/pub/kmsg/inner/kbin.AppendInt8
theorem fn126 : FnIs Tryz.prog 126 13 [4] (cAU16 kn) := fnIs_of Tryz.func126 (by kernel_rfl) (by kernel_rfl) (by kernel_rfl) (by kernel_rfl) -- pub-kmsg/pub/kmsg/inner/kbin.AppendUint16
theorem fn112 : FnIs Tryz.prog 112 19 [4] (cAU32 kn) := fnIs_of Tryz.func112 (by kernel_rfl) (by kernel_rfl) (by kernel_rfl) (by kernel_rfl) -- pub-kmsg/pub/kmsg/inner/kbin.AppendUint32
theorem fn113 : FnIs Tryz.prog 113 31 [4] (cAU64 kn) := fnIs_of Tryz.func113 (by kernel_rfl) (by kernel_rfl) (by kernel_rfl) (by kernel_rfl) -- pub-kmsg/pub/kmsg/inner/kbin.appendUint64
theorem fn77 : FnIs Tryz.prog 77 9 [4] (cACv kn.tI16 kn.tU16 126) := fnIs_of Tryz.func77 (by kernel_rfl) (by kernel_rfl) (by kernel_rfl) (by kernel_rfl) -- pub-kmsg/pub/kmsg/inner/kbin.AppendInt16
theorem fn63 : FnIs Tryz.prog 63 9 [4] (cACv kn.tI32 kn.tU32 112) := fnIs_of Tryz.func63 (by kernel_rfl) (by kernel_rfl) (by kernel_rfl) (by kernel_rfl) -- pub-kmsg/pub/kmsg/inner/kbin.AppendInt32
theorem fn64 : FnIs Tryz.prog 64 9 [4] (cACv kn.tI64 kn.tU64 113) := fnIs_of Tryz.func64 (by kernel_rfl) (by kernel_rfl) (by kernel_rfl) (by kernel_rfl) -- pub-kmsg/pub/kmsg/inner/kbin.AppendInt64
theorem fn66 : FnIs Tryz.prog 66 9 [4] (cACv kn.tInt kn.tI32 63) := fnIs_of Tryz.func66 (by kernel_rfl) (by kernel_rfl) (by kernel_rfl) (by kernel_rfl) -- pub-kmsg/pub/kmsg/inner/kbin.AppendArrayLen
theorem fn65 : FnIs Tryz.prog 65 10 [4] (cACv1 kn 70) := fnIs_of Tryz.func65 (by kernel_rfl) (by kernel_rfl) (by kernel_rfl) (by kernel_rfl) -- pub-kmsg/pub/kmsg/inner/kbin.AppendCompactArrayLen
theorem fn69 : FnIs Tryz.prog 69 8 [4] (cAUuid kn) := fnIs_of Tryz.func69 (by kernel_rfl) (by kernel_rfl) (by kernel_rfl) (by kernel_rfl) -- pub-kmsg/pub/kmsg/inner/kbin.AppendUuid
theorem fn68 : FnIs Tryz.prog 68 13 [4] (cAStr kn kn.tStr kn.tI16 77) := fnIs_of Tryz.func68 (by kernel_rfl) (by kernel_rfl) (by kernel_rfl) (by kernel_rfl) -- pub-kmsg/pub/kmsg/inner/kbin.AppendString
theorem fn67 : FnIs Tryz.prog 67 14 [4] (cACStr kn kn.tStr 70) := fnIs_of Tryz.func67 (by kernel_rfl) (by kernel_rfl) (by kernel_rfl) (by kernel_rfl) -- pub-kmsg/pub/kmsg/inner/kbin.AppendCompactString
theorem fn143 : FnIs Tryz.prog 143 13 [4] (cAStr kn kn.tSl kn.tI32 63) := fnIs_of Tryz.func143 (by kernel_rfl) (by kernel_rfl) (by kernel_rfl) (by kernel_rfl) -- pub-kmsg/pub/kmsg/inner/kbin.AppendBytes
theorem fn142 : FnIs Tryz.prog 142 14 [4] (cACStr kn kn.tSl 70) := fnIs_of Tryz.func142 (by kernel_rfl) (by kernel_rfl) (by kernel_rfl) (by kernel_rfl) -- pub-kmsg/pub/kmsg/inner/kbin.AppendCompactBytes
theorem fn79 : FnIs Tryz.prog 79 14 [4] (cANStr kn 106 (.int .i16 (-1)) 77 68) := fnIs_of Tryz.func79 (by kernel_rfl) (by kernel_rfl) (by kernel_rfl) (by kernel_rfl) -- pub-kmsg/pub/kmsg/inner/kbin.AppendNullableString
theorem fn78 : FnIs Tryz.prog 78 14 [4] (cANStr kn 106 (.int .u32 0) 70 67) := fnIs_of Tryz.func78 (by kernel_rfl) (by kernel_rfl) (by kernel_rfl) (by kernel_rfl) -- pub-kmsg/pub/kmsg/inner/kbin.AppendCompactNullableString
theorem fn88 : FnIs Tryz.prog 88 12 [4] (cANBytes kn (.int .i32 (-1)) 63 143) := fnIs_of Tryz.func88 (by kernel_rfl) (by kernel_rfl) (by kernel_rfl) (by kernel_rfl) -- pub-kmsg/pub/kmsg/inner/kbin.AppendNullableBytes
theorem fn87 : FnIs Tryz.prog 87 12 [4] (cANBytes kn (.int .u32 0) 70 142) := fnIs_of Tryz.func87 (by kernel_rfl) (by kernel_rfl) (by kernel_rfl) (by kernel_rfl) -- pub-kmsg/pub/kmsg/inner/kbin.AppendCompactNullableBytes
theorem fn70 : FnIs Tryz.prog 70 93 [4] (cAUv kn 114) := fnIs_of Tryz.func70 (by kernel_rfl) (by kernel_rfl) (by kernel_rfl) (by kernel_rfl) -- pub-kmsg/pub/kmsg/inner/kbin.AppendUvarint
theorem fn114 : FnIs Tryz.prog 114 8 [2] (cUvLen kn 150) := fnIs_of Tryz.func114 (by kernel_rfl) (by kernel_rfl) (by kernel_rfl) (by kernel_rfl) -- pub-kmsg/pub/kmsg/inner/kbin.UvarintLen
theorem fn150 : FnIs Tryz.prog 150 19 [2] (cLen32 kn 61) := fnIs_of Tryz.func150 (by kernel_rfl) (by kernel_rfl) (by kernel_rfl) (by kernel_rfl) -- math/bits.Len32
theorem fn71 : FnIs Tryz.prog 71 8 [2] (cTLen kn 68 66) := fnIs_of Tryz.func71 (by kernel_rfl) (by kernel_rfl) (by kernel_rfl) (by kernel_rfl) -- (*pub-kmsg/pub/kmsg.Tags).Len
theorem fn24 : FnIs Tryz.prog 24 3 [0] (cNewPtr 70 52) := fnIs_of Tryz.func24 (by kernel_rfl) (by kernel_rfl) (by kernel_rfl) (by kernel_rfl) -- pub-kmsg/pub/kmsg.NewPtrAlterPartitionRequest
theorem fn28 : FnIs Tryz.prog 28 8 [] (cSetV 70 42) := fnIs_of Tryz.func28 (by kernel_rfl) (by kernel_rfl) (by kernel_rfl) (by kernel_rfl) -- (*pub-kmsg/pub/kmsg.AlterPartitionRequest).SetVersion
theorem fn29 : FnIs Tryz.prog 29 8 [4] (cRdF 62) := fnIs_of Tryz.func29 (by kernel_rfl) (by kernel_rfl) (by kernel_rfl) (by kernel_rfl) -- (*pub-kmsg/pub/kmsg.AlterPartitionRequest).ReadFrom
theorem fn8 : FnIs Tryz.prog 8 4 [0] (cMax 42 3 24 25) := fnIs_of Tryz.func8 (by kernel_rfl) (by kernel_rfl) (by kernel_rfl) (by kernel_rfl) -- pub-kmsg/impl.MaxAlterPartitionRequest
theorem fn25 : FnIs Tryz.prog 25 3 [2] (cMaxV 3) := fnIs_of Tryz.func25 (by kernel_rfl) (by kernel_rfl) (by kernel_rfl) (by kernel_rfl) -- (*pub-kmsg/pub/kmsg.AlterPartitionRequest).MaxVersion
theorem fn12 : FnIs Tryz.prog 12 19 [4, 5] (cAgain 42 3 22 52 24 28 29 30) := fnIs_of Tryz.func12 (by kernel_rfl) (by kernel_rfl) (by kernel_rfl) (by kernel_rfl) -- pub-kmsg/impl.AgainAlterPartitionRequest
theorem fn31 : FnIs Tryz.prog 31 3 [0] (cNewPtr 103 74) := fnIs_of Tryz.func31 (by kernel_rfl) (by kernel_rfl) (by kernel_rfl) (by kernel_rfl) -- pub-kmsg/pub/kmsg.NewPtrDescribeShareGroupOffsetsResponse
theorem fn34 : FnIs Tryz.prog 34 8 [] (cSetV 103 42) := fnIs_of Tryz.func34 (by kernel_rfl) (by kernel_rfl) (by kernel_rfl) (by kernel_rfl) -- (*pub-kmsg/pub/kmsg.DescribeShareGroupOffsetsResponse).SetVersion
theorem fn35 : FnIs Tryz.prog 35 8 [4] (cRdF 76) := fnIs_of Tryz.func35 (by kernel_rfl) (by kernel_rfl) (by kernel_rfl) (by kernel_rfl) -- (*pub-kmsg/pub/kmsg.DescribeShareGroupOffsetsResponse).ReadFrom
theorem fn14 : FnIs Tryz.prog 14 4 [0] (cMax 42 3 31 32) := fnIs_of Tryz.func14 (by kernel_rfl) (by kernel_rfl) (by kernel_rfl) (by kernel_rfl) -- pub-kmsg/impl.MaxDescribeShareGroupOffsetsResponse
theorem fn32 : FnIs Tryz.prog 32 3 [2] (cMaxV 1) := fnIs_of Tryz.func32 (by kernel_rfl) (by kernel_rfl) (by kernel_rfl) (by kernel_rfl) -- (*pub-kmsg/pub/kmsg.DescribeShareGroupOffsetsResponse).MaxVersion
theorem fn16 : FnIs Tryz.prog 16 19 [4, 5] (cAgain 42 3 22 52 31 34 35 36) := fnIs_of Tryz.func16 (by kernel_rfl) (by kernel_rfl) (by kernel_rfl) (by kernel_rfl) -- pub-kmsg/impl.AgainDescribeShareGroupOffsetsResponse
theorem fn37 : FnIs Tryz.prog 37 3 [0] (cNewPtr 121 80) := fnIs_of Tryz.func37 (by kernel_rfl) (by kernel_rfl) (by kernel_rfl) (by kernel_rfl) -- pub-kmsg/pub/kmsg.NewPtrOffsetFetchResponse
theorem fn41 : FnIs Tryz.prog 41 8 [] (cSetV 121 42) := fnIs_of Tryz.func41 (by kernel_rfl) (by kernel_rfl) (by kernel_rfl) (by kernel_rfl) -- (*pub-kmsg/pub/kmsg.OffsetFetchResponse).SetVersion
theorem fn42 : FnIs Tryz.prog 42 8 [4] (cRdF 83) := fnIs_of Tryz.func42 (by kernel_rfl) (by kernel_rfl) (by kernel_rfl) (by kernel_rfl) -- (*pub-kmsg/pub/kmsg.OffsetFetchResponse).ReadFrom
theorem fn17 : FnIs Tryz.prog 17 4 [0] (cMax 42 3 37 38) := fnIs_of Tryz.func17 (by kernel_rfl) (by kernel_rfl) (by kernel_rfl) (by kernel_rfl) -- pub-kmsg/impl.MaxOffsetFetchResponse
theorem fn38 : FnIs Tryz.prog 38 3 [2] (cMaxV 10) := fnIs_of Tryz.func38 (by kernel_rfl) (by kernel_rfl) (by kernel_rfl) (by kernel_rfl) -- (*pub-kmsg/pub/kmsg.OffsetFetchResponse).MaxVersion
theorem fn19 : FnIs Tryz.prog 19 19 [4, 5] (cAgain 42 3 22 52 37 41 42 43) := fnIs_of Tryz.func19 (by kernel_rfl) (by kernel_rfl) (by kernel_rfl) (by kernel_rfl) -- pub-kmsg/impl.AgainOffsetFetchResponse
theorem fn44 : FnIs Tryz.prog 44 3 [0] (cNewPtr 142 84) := fnIs_of Tryz.func44 (by kernel_rfl) (by kernel_rfl) (by kernel_rfl) (by kernel_rfl) -- pub-kmsg/pub/kmsg.NewPtrShareFetchResponse
theorem fn48 : FnIs Tryz.prog 48 8 [] (cSetV 142 42) := fnIs_of Tryz.func48 (by kernel_rfl) (by kernel_rfl) (by kernel_rfl) (by kernel_rfl) -- (*pub-kmsg/pub/kmsg.ShareFetchResponse).SetVersion
theorem fn49 : FnIs Tryz.prog 49 8 [4] (cRdF 86) := fnIs_of Tryz.func49 (by kernel_rfl) (by kernel_rfl) (by kernel_rfl) (by kernel_rfl) -- (*pub-kmsg/pub/kmsg.ShareFetchResponse).ReadFrom
theorem fn20 : FnIs Tryz.prog 20 4 [0] (cMax 42 3 44 45) := fnIs_of Tryz.func20 (by kernel_rfl) (by kernel_rfl) (by kernel_rfl) (by kernel_rfl) -- pub-kmsg/impl.MaxShareFetchResponse
theorem fn45 : FnIs Tryz.prog 45 3 [2] (cMaxV 2) := fnIs_of Tryz.func45 (by kernel_rfl) (by kernel_rfl) (by kernel_rfl) (by kernel_rfl) -- (*pub-kmsg/pub/kmsg.ShareFetchResponse).MaxVersion
theorem fn22 : FnIs Tryz.prog 22 19 [4, 5] (cAgain 42 3 22 52 44 48 49 50) := fnIs_of Tryz.func22 (by kernel_rfl) (by kernel_rfl) (by kernel_rfl) (by kernel_rfl) -- pub-kmsg/impl.AgainShareFetchResponse
theorem fn11 : FnIs Tryz.prog 11 10 [4] (cVer 5 3) := fnIs_of Tryz.func11 (by kernel_rfl) (by kernel_rfl) (by kernel_rfl) (by kernel_rfl) -- pub-kmsg/laws.version
theorem fn13 : FnIs Tryz.prog 13 26 [4] (cSame 22 5 3) := fnIs_of Tryz.func13 (by kernel_rfl) (by kernel_rfl) (by kernel_rfl) (by kernel_rfl) -- pub-kmsg/spec.Same
theorem fn83 : FnIs Tryz.prog 83 413 [6] (gRead numbers true false ⟨true, 7, 10, 8, 9⟩ fsOffsetFetchResponse 80 121 5 6 58 nmOffsetFetchResponse) := fnIs_of Tryz.func83 (by kernel_rfl) (by kernel_rfl) (by kernel_rfl) (by kernel_rfl) -- (*pub-kmsg/pub/kmsg.OffsetFetchResponse).readFrom
theorem fn43 : FnIs Tryz.prog 43 407 [4] (gWrite numbersW false ⟨true, 0, 0, 5, 6⟩ fsOffsetFetchResponse 121 5 6 0 39 nwOffsetFetchResponse) := fnIs_of Tryz.func43 (by kernel_rfl) (by kernel_rfl) (by kernel_rfl) (by kernel_rfl) -- (*pub-kmsg/pub/kmsg.OffsetFetchResponse).AppendTo
def di80 : List DI := []
theorem fn80 : FnIs Tryz.prog 80 2 [] (gDflt di80 2) := fnIs_of Tryz.func80 (by kernel_rfl) (by kernel_rfl) (by kernel_rfl) (by kernel_rfl) -- (*pub-kmsg/pub/kmsg.OffsetFetchResponse).Default
noncomputable def dw80 : List (Nat × Value) := (dRun Tryz.prog 2 di80 [(0, 0)]).getD []
theorem df80 : Ent Tryz.prog 80 ∧ DfC Tryz.prog 80 dw80 := dfC_of (n0 := 2) (items := di80) (by kernel_rfl) fn80 (by kernel_rfl) (of_decide_eq_true (by kernel_rfl)) (by omega)
def di128 : List DI := []
theorem fn128 : FnIs Tryz.prog 128 2 [] (gDflt di128 2) := fnIs_of Tryz.func128 (by kernel_rfl) (by kernel_rfl) (by kernel_rfl) (by kernel_rfl) -- (*pub-kmsg/pub/kmsg.OffsetFetchResponseTopic).Default
noncomputable def dw128 : List (Nat × Value) := (dRun Tryz.prog 2 di128 [(0, 0)]).getD []
theorem df128 : Ent Tryz.prog 128 ∧ DfC Tryz.prog 128 dw128 := dfC_of (n0 := 2) (items := di128) (by kernel_rfl) fn128 (by kernel_rfl) (of_decide_eq_true (by kernel_rfl)) (by omega)
def di129 : List DI := [.st 0 128 2 21 (.int .i32 (-1))]
theorem fn129 : FnIs Tryz.prog 129 5 [] (gDflt di129 2) := fnIs_of Tryz.func129 (by kernel_rfl) (by kernel_rfl) (by kernel_rfl) (by kernel_rfl) -- (*pub-kmsg/pub/kmsg.OffsetFetchResponseTopicPartition).Default
noncomputable def dw129 : List (Nat × Value) := (dRun Tryz.prog 2 di129 [(0, 0)]).getD []
theorem df129 : Ent Tryz.prog 129 ∧ DfC Tryz.prog 129 dw129 := dfC_of (n0 := 2) (items := di129) (by kernel_rfl) fn129 (by kernel_rfl) (of_decide_eq_true (by kernel_rfl)) (by omega)
def di130 : List DI := []
theorem fn130 : FnIs Tryz.prog 130 2 [] (gDflt di130 2) := fnIs_of Tryz.func130 (by kernel_rfl) (by kernel_rfl) (by kernel_rfl) (by kernel_rfl) -- (*pub-kmsg/pub/kmsg.OffsetFetchResponseGroup).Default
noncomputable def dw130 : List (Nat × Value) := (dRun Tryz.prog 2 di130 [(0, 0)]).getD []
theorem df130 : Ent Tryz.prog 130 ∧ DfC Tryz.prog 130 dw130 := dfC_of (n0 := 2) (items := di130) (by kernel_rfl) fn130 (by kernel_rfl) (of_decide_eq_true (by kernel_rfl)) (by omega)
def di131 : List DI := []
theorem fn131 : FnIs Tryz.prog 131 2 [] (gDflt di131 2) := fnIs_of Tryz.func131 (by kernel_rfl) (by kernel_rfl) (by kernel_rfl) (by kernel_rfl) -- (*pub-kmsg/pub/kmsg.OffsetFetchResponseGroupTopic).Default
noncomputable def dw131 : List (Nat × Value) := (dRun Tryz.prog 2 di131 [(0, 0)]).getD []
theorem df131 : Ent Tryz.prog 131 ∧ DfC Tryz.prog 131 dw131 := dfC_of (n0 := 2) (items := di131) (by kernel_rfl) fn131 (by kernel_rfl) (of_decide_eq_true (by kernel_rfl)) (by omega)
def di132 : List DI := [.st 0 138 2 21 (.int .i32 (-1))]
theorem fn132 : FnIs Tryz.prog 132 5 [] (gDflt di132 2) := fnIs_of Tryz.func132 (by kernel_rfl) (by kernel_rfl) (by kernel_rfl) (by kernel_rfl) -- (*pub-kmsg/pub/kmsg.OffsetFetchResponseGroupTopicPartition).Default
noncomputable def dw132 : List (Nat × Value) := (dRun Tryz.prog 2 di132 [(0, 0)]).getD []
theorem df132 : Ent Tryz.prog 132 ∧ DfC Tryz.prog 132 dw132 := dfC_of (n0 := 2) (items := di132) (by kernel_rfl) fn132 (by kernel_rfl) (of_decide_eq_true (by kernel_rfl)) (by omega)
noncomputable def dd : Nat → Option (List (Nat × Value))
  | 80 => some dw80
  | 128 => some dw128
  | 129 => some dw129
  | 130 => some dw130
  | 131 => some dw131
  | 132 => some dw132
  | _ => none
theorem ddOk : ∀ f wr, dd f = some wr → Ent Tryz.prog f ∧ DfC Tryz.prog f wr := by
  intro f wr h
  unfold dd at h
  split at h
  · obtain rfl := Option.some.inj h; exact df80
  · obtain rfl := Option.some.inj h; exact df128
  · obtain rfl := Option.some.inj h; exact df129
  · obtain rfl := Option.some.inj h; exact df130
  · obtain rfl := Option.some.inj h; exact df131
  · obtain rfl := Option.some.inj h; exact df132
  · cases h
theorem kt : KT Tryz.prog numbers kn where
  mixed := mixed
  f0 := fldB_ok (by kernel_rfl)
  f1 := fldB_ok (by kernel_rfl)
  sl := by kernel_rfl
  u8 := varB_ok (by kernel_rfl)
  dU8 := by kernel_rfl
  dI8 := fun _ => by kernel_rfl
  dI16 := by kernel_rfl
  dI32 := by kernel_rfl
  dU32 := by kernel_rfl
  dInt := by kernel_rfl
theorem kbig : KBig Tryz.prog kn where
  be := varB_ok (by kernel_rfl)
  d16 := by kernel_rfl
  d64 := fun _ => by kernel_rfl
  dI64 := fun _ => by kernel_rfl
  f16 := fun _ => fn153
  f32 := fun _ => fn144
  f64 := fun _ => fn154
theorem ksub : KSub Tryz.prog numbers kn kn.tRS where
  e16 := fun _ => fn121.ent
  c16 := fun _ w S R r hR hRS => (i16_calls kt kbig rfl fn121 (by omega) hR hRS).mono fun e w' h => (fun h => ⟨h.1, h.2.1, h.2.2.1⟩) (rdOk_int (p := .i16) (.inr (.inl ⟨rfl, rfl⟩)) rfl h)
  e32 := fun _ => fn96.ent
  c32 := fun _ w S R r hR hRS => (i32_calls kt kbig rfl fn96 (by omega) hR hRS).mono fun e w' h => (fun h => ⟨h.1, h.2.1, h.2.2.1⟩) (rdOk_int (p := .i32) (.inr (.inr (.inl ⟨rfl, rfl⟩))) rfl h)
  eU := fun _ => fn146.ent
  cU := fun _ w S R r hR hRS => uv_calls kt fn155 (by omega) fn146 (by omega) hR hRS
  eS := fun _ => fn148.ent
  cS := fun _ w S R r k hR hRS => span_calls kt fn148 (by omega) hR hRS
  dStr := by kernel_rfl
  vStr := varB_ok (by kernel_rfl)
  zStr := zeroOf_ok (by kernel_rfl)
def tn : TN := { tTags := 68, tM := 66, tKs := 194, tU32 := 61, tInt := 3, tSl := 22, fSort := 151, fLess := 152, fEach := 115, fOne := 116, fUv := 70 }
theorem fn115 : FnIs Tryz.prog 115 53 [] (cEach tn) := fnIs_of Tryz.func115 (by kernel_rfl) (by kernel_rfl) (by kernel_rfl) (by kernel_rfl) -- (*pub-kmsg/pub/kmsg.Tags).Each
theorem fn152 : FnIs Tryz.prog 152 15 [5] (cTLess tn) := fnIs_of Tryz.func152 (by kernel_rfl) (by kernel_rfl) (by kernel_rfl) (by kernel_rfl) -- (*pub-kmsg/pub/kmsg.Tags).Each$1
theorem fn72 : FnIs Tryz.prog 72 9 [4] (cTEach tn) := fnIs_of Tryz.func72 (by kernel_rfl) (by kernel_rfl) (by kernel_rfl) (by kernel_rfl) -- (*pub-kmsg/pub/kmsg.Tags).AppendEach
theorem fn116 : FnIs Tryz.prog 116 16 [] (cTOne tn) := fnIs_of Tryz.func116 (by kernel_rfl) (by kernel_rfl) (by kernel_rfl) (by kernel_rfl) -- (*pub-kmsg/pub/kmsg.Tags).AppendEach$1
theorem tf : TF Tryz.prog tn where
  map := ⟨61, 22, by kernel_rfl, by kernel_rfl⟩
  fld := fldB_ok (by kernel_rfl)
  sl := by kernel_rfl
  info := infoB_ok (by kernel_rfl)
  vU := varB_ok (by kernel_rfl)
  vK := varB_ok (by kernel_rfl)
  zK := zeroOf_ok (by kernel_rfl)
  dInt := by kernel_rfl
  dU32 := by kernel_rfl
theorem sortOk : SortOk Tryz.prog tn := sortOk_of (it := (Tryz.prog.info? 194).get (by kernel_rfl)) (ie := (Tryz.prog.info? 61).get (by kernel_rfl)) (ke := 10) (f1 := 161) (f2 := 162) (f6 := 166) mixed tf Tryz.sa6 rfl (enters_of Tryz.func151 (by kernel_rfl) rfl) fn152 (by omega) (by kernel_rfl) (by kernel_rfl) (by kernel_rfl) (by kernel_rfl) (fun _ => by kernel_rfl) (by kernel_rfl) (by kernel_rfl) (by kernel_rfl) fn152.ent (by kernel_rfl) (by kernel_rfl) (by kernel_rfl) (fun args W => run_callFunc_extern Tryz.func166 (by kernel_rfl) (by kernel_rfl) (by kernel_rfl) (e := Extern.ReflectliteSwapper.swap true) (by kernel_rfl) args W)
theorem setOk : SetOk Tryz.prog numbers.set := fun _ _ _ _ _ _ _ _ _ _ hk hB hO ht hv => set_calls (tM := 66) (kt := 61) (et := 22) mixed fn149 (by omega) (by kernel_rfl) (by kernel_rfl) (fldB_ok (by kernel_rfl)) hk hB hO ht hv
def av : PF → Bool
  | .i8 => true
  | .i16 => true
  | .i32 => true
  | .i64 => true
  | .uuid => true
  | .str => true
  | .cstr => true
  | .nstr => true
  | .cnstr => true
  | .nbytes => true
  | .cnbytes => true
  | _ => false
theorem rdAll : ∀ p, av p = true → RdOk Tryz.prog numbers.tR p (numbers.rd p) := by
  intro p h
  cases p
  · cases h
  · exact rdOk_i8 kt rfl fn111 (by omega)
  · exact rdOk_i16 kt kbig rfl fn121 (by omega)
  · cases h
  · exact rdOk_i32 kt kbig rfl fn96 (by omega)
  · exact rdOk_i64 kt kbig rfl fn145 (by omega) fn97 (by omega)
  · exact rdOk_uuid kt ksub rfl (varB_ok (by kernel_rfl)) (zeroOf_ok (by kernel_rfl)) (by kernel_rfl) fn107 (by omega)
  · exact rdOk_str kt ksub rfl rfl fn106 (by omega)
  · exact rdOk_cstr kt ksub rfl rfl fn105 (by omega)
  · exact rdOk_nstr kt ksub rfl rfl fn125 (by omega)
  · exact rdOk_cnstr kt ksub rfl rfl fn123 (by omega)
  · cases h
  · cases h
  · exact rdOk_nbytes kt ksub rfl rfl fn139 (by omega)
  · exact rdOk_cnbytes kt ksub rfl rfl fn138 (by omega)
theorem kb : KB Tryz.prog numbers av true where
  mixed := mixed
  rdE p h := (rdAll p h).1
  rdC p h := (rdAll p h).2
  i8C := fun _ w S R r hR hRS => (i8_calls kt rfl fn111 (by omega) hR hRS).mono fun e w' h => (fun h => ⟨h.1, h.2.1, h.2.2.1⟩) (rdOk_int (p := .i8) (.inl ⟨rfl, rfl⟩) rfl h)
  okE := fun _ => fn100.ent
  okC := fun _ w S R r hR => ok_calls kt fn100 (by omega) hR
  cmE := fn101.ent
  cmC w S R r hR he := complete_calls kt fn101 (by omega) (varB_ok (by kernel_rfl)) hR he
  lenE := fun _ => fn99.ent
  lenC := fun _ w S R r hR hRS => len_calls kt ksub rfl fn99 (by omega) hR hRS
  clenE := fun _ _ => fn98.ent
  clenC := fun _ _ w S R r hR hRS => clen_calls kt ksub rfl fn98 (by omega) hR hRS
  uvE := fun _ => fn146.ent
  uvC := fun _ w S R r hR hRS => ksub.cU rfl w S R r hR hRS
  spanE := fun _ => fn148.ent
  spanC := fun _ w S R r k _ _ hR hRS => ksub.cS rfl w S R r k hR hRS
  tagsE := fun _ => fn110.ent
  tagsC := fun _ w S R r hR hRS hS => rdTags_calls kt ksub rfl rfl rfl fn149.ent setOk (zeroOf_ok (by kernel_rfl)) (varB_ok (by kernel_rfl)) fn110 (by omega) hR hRS hS
  setE := fun _ => fn149.ent
  setC := fun _ => setOk
  fR := twoB_ok (by kernel_rfl)
  zR := zeroOf_ok (by kernel_rfl)
  vR := varB_ok (by kernel_rfl)
  uuid := fun _ => ⟨varB_ok (by kernel_rfl), zeroOf_ok (by kernel_rfl)⟩
  tI32 := by kernel_rfl
  tU32 := fun _ => by kernel_rfl
  tInt := by kernel_rfl
  vStr := ⟨varB_ok (by kernel_rfl), zeroOf_ok (by kernel_rfl)⟩
  vTags := fun _ => varB_ok (by kernel_rfl)
  tErr := fun _ => ifaceB_ok (by kernel_rfl)
theorem env : Env Tryz.prog numbers av true dd := ⟨kb, ddOk⟩
theorem oct : OctT Tryz.prog kn.tSl kn.tU8 := octB_ok (by kernel_rfl)
theorem wt : WT Tryz.prog kn where
  mixed := mixed
  oct := oct
  dU8 := by kernel_rfl
  dI8 := fun _ => by kernel_rfl
  dI16 := by kernel_rfl
  dU16 := fun _ => by kernel_rfl
  dI32 := by kernel_rfl
  dU32 := by kernel_rfl
  dInt := by kernel_rfl
  dI64 := fun _ => by kernel_rfl
  dU64 := fun _ => by kernel_rfl
  dStr := by kernel_rfl
  vStr := varB_ok (by kernel_rfl)
theorem uvC (x : Nat) (w : World) (h : x < 4294967296) : ApC Tryz.prog kn.tU8 numbersW.uv (.int .u32 x) (uvar x) w := ap_uv wt (by kernel_rfl) fn150 (by omega) fn114 (by omega) fn70 (by omega) h w
theorem i16C (x : Int) (w : World) : ApC Tryz.prog kn.tU8 77 (.int .i16 x) (be 2 x) w := ap_i16 wt rfl fn126 (by omega) fn77 (by omega) x w
theorem i32C (x : Int) (w : World) : ApC Tryz.prog kn.tU8 63 (.int .i32 x) (be 4 x) w := ap_i32 wt fn112 (by omega) fn63 (by omega) x w
def avw : PF → Bool
  | .i8 => true
  | .i16 => true
  | .u16 => true
  | .i32 => true
  | .i64 => true
  | .uuid => true
  | .str => true
  | .cstr => true
  | .nstr => true
  | .cnstr => true
  | .bytes => true
  | .cbytes => true
  | .nbytes => true
  | .cnbytes => true
  | _ => false
theorem apAll : ∀ p, avw p = true → AppOk Tryz.prog kn.tU8 p (numbersW.ap p) := by
  intro p h
  cases p
  · cases h
  · exact app_i8 wt rfl fn73 (by omega)
  · exact app_i16 wt rfl fn126 (by omega) fn77 (by omega)
  · exact app_u16 wt rfl fn126 (by omega)
  · exact app_i32 wt fn112 (by omega) fn63 (by omega)
  · exact app_i64 wt rfl rfl fn113 (by omega) fn64 (by omega)
  · exact app_uuid wt (varB_ok (by kernel_rfl)) (by kernel_rfl) fn69 (by omega)
  · exact app_str wt (app_i16 wt rfl fn126 (by omega) fn77 (by omega)) i16C fn68 (by omega)
  · exact app_cstr wt fn70.ent (fun x w h => uvC x w h) fn67 (by omega)
  · exact app_nstr wt (fx := false) rfl (by kernel_rfl) fn77.ent (fun w => i16C (-1) w) (app_str wt (app_i16 wt rfl fn126 (by omega) fn77 (by omega)) i16C fn68 (by omega)) fn79 (by omega)
  · exact app_nstr wt (fx := true) rfl (by kernel_rfl) fn70.ent (fun w => uvC 0 w (by omega)) (app_cstr wt fn70.ent (fun x w h => uvC x w h) fn67 (by omega)) fn78 (by omega)
  · exact app_bytes wt fn63.ent i32C fn143 (by omega)
  · exact app_cbytes wt fn70.ent (fun x w h => uvC x w h) fn142 (by omega)
  · exact app_nbytes wt (fx := false) rfl fn63.ent (fun w => i32C (-1) w) (app_bytes wt fn63.ent i32C fn143 (by omega)) fn88 (by omega)
  · exact app_nbytes wt (fx := true) rfl fn70.ent (fun w => uvC 0 w (by omega)) (app_cbytes wt fn70.ent (fun x w h => uvC x w h) fn142 (by omega)) fn87 (by omega)
theorem kw : KW Tryz.prog numbersW avw true false kn.tU8 where
  mixed := mixed
  oct := oct
  dInt := by kernel_rfl
  dU32 := fun _ => by kernel_rfl
  apE p h := (apAll p h).1
  apC p h := (apAll p h).2
  alE := fun _ => fn66.ent
  alC := fun _ n w => ap_len wt fn63.ent i32C fn66 (by omega) n w
  clE := fun _ _ => fn65.ent
  clC := fun _ _ n w => ap_clen wt fn70.ent (fun x w h => uvC x w h) fn65 (by omega) n w
  nlE := fun h => absurd h (by decide)
  nlC := fun h => absurd h (by decide)
  cnE := fun h => absurd h (by decide)
  cnC := fun h => absurd h (by decide)
  uvE := fun _ => fn70.ent
  uvC := fun _ x w h => uvC x w h
  tlE := fun _ => fn71.ent
  tlC := fun _ w b o m X t hc ht => tlen_calls (kt := 61) (et := 22) mixed (by kernel_rfl) (fldB_ok (by kernel_rfl)) fn71 (by omega) hc ht
  teE := fun _ => fn72.ent
  teC := fun _ w b o m L t d bs hc hb ht hd hL hlim => teach_calls mixed tf sortOk oct (varB_ok (by kernel_rfl)) fn70.ent (fun x w h => uvC x w h) fn115 (by omega) fn116 (by omega) fn72 (by omega) hc hb ht hd hL hlim
  uuid := fun _ => ⟨varB_ok (by kernel_rfl), zeroOf_ok (by kernel_rfl)⟩
noncomputable def zv : Value := (zeroOf Tryz.prog 121).getD undef
noncomputable def zz : Array Value := applyWr zv.cells 0 dw80
theorem msg : MsgC Tryz.prog numbers.gErr kn.tU8 false true 6 fsOffsetFetchResponse (some 5) 121 zz 37 41 42 43 :=
  msgC_of (cx := ⟨true, 7, 10, 8, 9⟩) (cw := ⟨true, 0, 0, 5, 6⟩) (nm := nmOffsetFetchResponse) (ms := nwOffsetFetchResponse) (tI16 := 42) env kw (by decide) (by decide) rfl rfl fn37 (by omega) fn41 (by omega) fn42 (by omega) fn83 (by omega) fn43 (by kernel_rfl) (by kernel_rfl) rfl (of_decide_eq_true (by kernel_rfl)) (by kernel_rfl) (by kernel_rfl) rfl (by kernel_rfl) (by kernel_rfl)
def sn : SN := { tInt := 3, tI64 := 2, tU8 := 5, tU64 := 77, tU32 := 61, tU16 := 39, tB := 4, tSl := 22, tF := 48, tFs := 30, tT := 26, tTs := 23, tG := 63, tGs := 24, tMs := 32, fPart := 26, fHas := 53, fField := 54, fAt := 55, fKnown := 56, fUsual := 57, fUv := 58, fUnk := 59, fWhole := 60, fNull := 89, fThings := 90, fCnt := 91, fVal := 92, fFix := 93, fWid := 94, fWrite := 9, fSame := 13, fZ2 := 7, fZ3 := 23, fZ4 := 51 }
theorem sf_fPart : FnIs Tryz.prog sn.fPart 132 [8] (csPt sn) := fnIs_of Tryz.func26 (by kernel_rfl) (by kernel_rfl) (by kernel_rfl) (by kernel_rfl)
theorem sf_fHas : FnIs Tryz.prog sn.fHas 20 [4] (csHs sn) := fnIs_of Tryz.func53 (by kernel_rfl) (by kernel_rfl) (by kernel_rfl) (by kernel_rfl)
theorem sf_fField : FnIs Tryz.prog sn.fField 76 [8] (csFl sn) := fnIs_of Tryz.func54 (by kernel_rfl) (by kernel_rfl) (by kernel_rfl) (by kernel_rfl)
theorem sf_fAt : FnIsC Tryz.prog sn.fAt 16 4 26 (csAt sn) := fnIsC_of Tryz.func55 (by kernel_rfl) (by kernel_rfl) (by kernel_rfl) (by kernel_rfl)
theorem sf_fKnown : FnIs Tryz.prog sn.fKnown 23 [2] (csKw sn) := fnIs_of Tryz.func56 (by kernel_rfl) (by kernel_rfl) (by kernel_rfl) (by kernel_rfl)
theorem sf_fUv : FnIs Tryz.prog sn.fUv 20 [2] (csUvr sn) := fnIs_of Tryz.func58 (by kernel_rfl) (by kernel_rfl) (by kernel_rfl) (by kernel_rfl)
theorem sf_fUnk : FnIs Tryz.prog sn.fUnk 85 [4] (csUn sn) := fnIs_of Tryz.func59 (by kernel_rfl) (by kernel_rfl) (by kernel_rfl) (by kernel_rfl)
theorem sf_fWhole : FnIs Tryz.prog sn.fWhole 8 [2] (csWh sn) := fnIs_of Tryz.func60 (by kernel_rfl) (by kernel_rfl) (by kernel_rfl) (by kernel_rfl)
theorem sf_fNull : FnIs Tryz.prog sn.fNull 20 [6] (csNu sn) := fnIs_of Tryz.func89 (by kernel_rfl) (by kernel_rfl) (by kernel_rfl) (by kernel_rfl)
theorem sf_fThings : FnIs Tryz.prog sn.fThings 8 [2] (csTh sn) := fnIs_of Tryz.func90 (by kernel_rfl) (by kernel_rfl) (by kernel_rfl) (by kernel_rfl)
theorem sf_fCnt : FnIs Tryz.prog sn.fCnt 28 [8] (csCn sn) := fnIs_of Tryz.func91 (by kernel_rfl) (by kernel_rfl) (by kernel_rfl) (by kernel_rfl)
theorem sf_fVal : FnIs Tryz.prog sn.fVal 70 [12] (csVa sn) := fnIs_of Tryz.func92 (by kernel_rfl) (by kernel_rfl) (by kernel_rfl) (by kernel_rfl)
theorem sf_fFix : FnIs Tryz.prog sn.fFix 22 [4] (csFi sn) := fnIs_of Tryz.func93 (by kernel_rfl) (by kernel_rfl) (by kernel_rfl) (by kernel_rfl)
theorem sf_fWid : FnIs Tryz.prog sn.fWid 11 [2] (csWd sn) := fnIs_of Tryz.func94 (by kernel_rfl) (by kernel_rfl) (by kernel_rfl) (by kernel_rfl)
theorem sf_fWrite : FnIs Tryz.prog sn.fWrite 21 [6] (csWr sn) := fnIs_of Tryz.func9 (by kernel_rfl) (by kernel_rfl) (by kernel_rfl) (by kernel_rfl)
theorem sf_fZ2 : FnIs Tryz.prog sn.fZ2 15 [2] (csZ2 sn) := fnIs_of Tryz.func7 (by kernel_rfl) (by kernel_rfl) (by kernel_rfl) (by kernel_rfl)
theorem sf_fZ3 : FnIs Tryz.prog sn.fZ3 18 [2] (csZ3 sn) := fnIs_of Tryz.func23 (by kernel_rfl) (by kernel_rfl) (by kernel_rfl) (by kernel_rfl)
theorem sf_fZ4 : FnIs Tryz.prog sn.fZ4 7 [2] (csZ4 sn) := fnIs_of Tryz.func51 (by kernel_rfl) (by kernel_rfl) (by kernel_rfl) (by kernel_rfl)
theorem rt : RefT Tryz.prog sn where
  mixed := mixed
  dInt := by kernel_rfl
  dI64 := by kernel_rfl
  dU8 := by kernel_rfl
  dU32 := by kernel_rfl
  dU64 := by kernel_rfl
  oct := oct
  dTs := by kernel_rfl
  dGs := by kernel_rfl
  dFs := by kernel_rfl
  vI64 := varB_ok (by kernel_rfl)
  vU8 := varB_ok (by kernel_rfl)
  vT := varB_ok (by kernel_rfl)
  vF := varB_ok (by kernel_rfl)
  vG := varB_ok (by kernel_rfl)
  vM := varB_ok (by kernel_rfl)
  t0 := fldB_ok (by kernel_rfl)
  t1 := fldB_ok (by kernel_rfl)
  t2 := fldB_ok (by kernel_rfl)
  t3 := fldB_ok (by kernel_rfl)
  t4 := fldB_ok (by kernel_rfl)
  f0 := fldB_ok (by kernel_rfl)
  f1 := fldB_ok (by kernel_rfl)
  f2 := fldB_ok (by kernel_rfl)
  f3 := fldB_ok (by kernel_rfl)
  f4 := fldB_ok (by kernel_rfl)
  f5 := fldB_ok (by kernel_rfl)
  f6 := fldB_ok (by kernel_rfl)
  f7 := fldB_ok (by kernel_rfl)
  g0 := fldB_ok (by kernel_rfl)
  g1 := fldB_ok (by kernel_rfl)
  m0 := fldB_ok (by kernel_rfl)
  m1 := fldB_ok (by kernel_rfl)
  zT := zeroOf_ok (by kernel_rfl)
  zF := zeroOf_ok (by kernel_rfl)
  zG := zeroOf_ok (by kernel_rfl)
  zM := zeroOf_ok (by kernel_rfl)
  z8 := z8_ok (by kernel_rfl)
  bT := fun w => by kernel_rfl
  bG := fun w => by kernel_rfl
  bSG := fun w => by kernel_rfl
  iG := iG_ok (by kernel_rfl)

theorem leaf : LeafC Tryz.prog sn := leafC_of rt (varB_ok (by kernel_rfl)) sf_fUv sf_fFix sf_fCnt sf_fWid sf_fWhole sf_fThings sf_fHas sf_fNull sf_fKnown sf_fAt sf_fUnk
theorem trees : TreT Tryz.prog sn where
  tab := rt
  cT := by kernel_rfl
  cG := by kernel_rfl
  cI := by kernel_rfl
  cSl := by kernel_rfl
  cB := by kernel_rfl
  cTs := by kernel_rfl
  cGs := by kernel_rfl
  cU := by kernel_rfl
  c8 := by kernel_rfl
  dB := by kernel_rfl
  nT := by kernel_rfl
  nG := by kernel_rfl

def ln : LN := { fM := 17, fB := 18, fV := 11, fA := 19 }
def it81 : List BI := [([(0, 3), (2, -1), (3, -1), (4, -1)], none), ([(0, 4), (2, -1), (3, -1), (4, -1)], none), ([(0, 3), (1, 5), (2, -1), (3, -1), (4, -1), (5, -1)], none), ([(0, 8), (2, -1), (3, 0), (4, -1)], none), ([(0, 2), (2, -1), (3, -1), (4, -1)], none)]
def ss81 : SFs := .cons 3 0 (-1) (-1) (-1) 0 0 .nil (.cons 4 0 (-1) (-1) (-1) 0 0 .nil (.cons 3 5 (-1) (-1) (-1) (-1) 0 .nil (.cons 8 0 (-1) 0 (-1) 0 0 .nil (.cons 2 0 (-1) (-1) (-1) 0 0 .nil (.nil)))))
theorem fi81 : FnIs Tryz.prog 81 7 [0] (cSub sn it81) := fnIs_of Tryz.func81 (by kernel_rfl) (by kernel_rfl) (by kernel_rfl) (by kernel_rfl)
theorem sb81 : Ent Tryz.prog 81 ∧ BuildC Tryz.prog 81 ss81 := sub_calls rt fi81 (of_decide_eq_true (by kernel_rfl)) ⟨fun w => by kernel_rfl, rfl, ⟨fun w => by kernel_rfl, rfl, ⟨fun w => by kernel_rfl, rfl, ⟨fun w => by kernel_rfl, rfl, ⟨fun w => by kernel_rfl, rfl, trivial⟩⟩⟩⟩⟩ (fun sv w => by kernel_rfl) rfl (of_decide_eq_true (by kernel_rfl))
def it39 : List BI := [([(0, 8), (2, -1), (3, -1), (4, -1)], none), ([(0, 11), (2, -1), (3, -1), (4, -1), (6, 10)], some 81)]
def ss39 : SFs := .cons 8 0 (-1) (-1) (-1) 0 0 .nil (.cons 11 0 (-1) (-1) (-1) 0 10 ss81 (.nil))
theorem fi39 : FnIs Tryz.prog 39 5 [0] (cSub sn it39) := fnIs_of Tryz.func39 (by kernel_rfl) (by kernel_rfl) (by kernel_rfl) (by kernel_rfl)
theorem sb39 : Ent Tryz.prog 39 ∧ BuildC Tryz.prog 39 ss39 := sub_calls rt fi39 (of_decide_eq_true (by kernel_rfl)) ⟨fun w => by kernel_rfl, rfl, ⟨fun base n c w => by kernel_rfl, sb81, trivial⟩⟩ (fun sv w => by kernel_rfl) rfl (of_decide_eq_true (by kernel_rfl))
def it127 : List BI := [([(0, 3), (2, -1), (3, -1), (4, -1)], none), ([(0, 4), (2, -1), (3, -1), (4, -1)], none), ([(0, 3), (2, -1), (3, -1), (4, -1), (5, -1)], none), ([(0, 8), (2, -1), (3, 0), (4, -1)], none), ([(0, 2), (2, -1), (3, -1), (4, -1)], none)]
def ss127 : SFs := .cons 3 0 (-1) (-1) (-1) 0 0 .nil (.cons 4 0 (-1) (-1) (-1) 0 0 .nil (.cons 3 0 (-1) (-1) (-1) (-1) 0 .nil (.cons 8 0 (-1) 0 (-1) 0 0 .nil (.cons 2 0 (-1) (-1) (-1) 0 0 .nil (.nil)))))
theorem fi127 : FnIs Tryz.prog 127 7 [0] (cSub sn it127) := fnIs_of Tryz.func127 (by kernel_rfl) (by kernel_rfl) (by kernel_rfl) (by kernel_rfl)
theorem sb127 : Ent Tryz.prog 127 ∧ BuildC Tryz.prog 127 ss127 := sub_calls rt fi127 (of_decide_eq_true (by kernel_rfl)) ⟨fun w => by kernel_rfl, rfl, ⟨fun w => by kernel_rfl, rfl, ⟨fun w => by kernel_rfl, rfl, ⟨fun w => by kernel_rfl, rfl, ⟨fun w => by kernel_rfl, rfl, trivial⟩⟩⟩⟩⟩ (fun sv w => by kernel_rfl) rfl (of_decide_eq_true (by kernel_rfl))
def it82 : List BI := [([(0, 8), (1, 8), (2, 9), (3, -1), (4, -1)], none), ([(0, 7), (1, 10), (2, -1), (3, -1), (4, -1)], none), ([(0, 11), (2, -1), (3, -1), (4, -1), (6, 10)], some 127)]
def ss82 : SFs := .cons 8 8 9 (-1) (-1) 0 0 .nil (.cons 7 10 (-1) (-1) (-1) 0 0 .nil (.cons 11 0 (-1) (-1) (-1) 0 10 ss127 (.nil)))
theorem fi82 : FnIs Tryz.prog 82 6 [0] (cSub sn it82) := fnIs_of Tryz.func82 (by kernel_rfl) (by kernel_rfl) (by kernel_rfl) (by kernel_rfl)
theorem sb82 : Ent Tryz.prog 82 ∧ BuildC Tryz.prog 82 ss82 := sub_calls rt fi82 (of_decide_eq_true (by kernel_rfl)) ⟨fun w => by kernel_rfl, rfl, ⟨fun w => by kernel_rfl, rfl, ⟨fun base n c w => by kernel_rfl, sb127, trivial⟩⟩⟩ (fun sv w => by kernel_rfl) rfl (of_decide_eq_true (by kernel_rfl))
def it40 : List BI := [([(0, 8), (2, -1), (3, -1), (4, -1)], none), ([(0, 11), (2, -1), (3, -1), (4, -1), (6, 10)], some 82), ([(0, 2), (2, -1), (3, -1), (4, -1)], none)]
def ss40 : SFs := .cons 8 0 (-1) (-1) (-1) 0 0 .nil (.cons 11 0 (-1) (-1) (-1) 0 10 ss82 (.cons 2 0 (-1) (-1) (-1) 0 0 .nil (.nil)))
theorem fi40 : FnIs Tryz.prog 40 6 [0] (cSub sn it40) := fnIs_of Tryz.func40 (by kernel_rfl) (by kernel_rfl) (by kernel_rfl) (by kernel_rfl)
theorem sb40 : Ent Tryz.prog 40 ∧ BuildC Tryz.prog 40 ss40 := sub_calls rt fi40 (of_decide_eq_true (by kernel_rfl)) ⟨fun w => by kernel_rfl, rfl, ⟨fun base n c w => by kernel_rfl, sb82, ⟨fun w => by kernel_rfl, rfl, trivial⟩⟩⟩ (fun sv w => by kernel_rfl) rfl (of_decide_eq_true (by kernel_rfl))
def itM : List BI := [([(0, 3), (1, 3), (2, -1), (3, -1), (4, -1)], none), ([(0, 11), (2, 7), (3, -1), (4, -1), (6, 10)], some 39), ([(0, 2), (1, 2), (2, 7), (3, -1), (4, -1)], none), ([(0, 11), (1, 8), (2, -1), (3, -1), (4, -1), (6, 10)], some 40)]
def ssM : SFs := .cons 3 3 (-1) (-1) (-1) 0 0 .nil (.cons 11 0 7 (-1) (-1) 0 10 ss39 (.cons 2 2 7 (-1) (-1) 0 0 .nil (.cons 11 8 (-1) (-1) (-1) 0 10 ss40 (.nil))))
theorem fiM : FnIsC Tryz.prog 18 9 0 sn.tMs (cMsgB sn 6 itM) := fnIsC_of Tryz.func18 (by kernel_rfl) (by kernel_rfl) (by kernel_rfl) (by kernel_rfl)
theorem sbM : Ent Tryz.prog 18 ∧ MsgBC Tryz.prog 18 6 ssM := msgb_calls rt (fun x base n c w => by kernel_rfl) fiM (of_decide_eq_true (by kernel_rfl)) ⟨fun w => by kernel_rfl, rfl, ⟨fun base n c w => by kernel_rfl, sb39, ⟨fun w => by kernel_rfl, rfl, ⟨fun base n c w => by kernel_rfl, sb40, trivial⟩⟩⟩⟩ (fun sv w => by kernel_rfl) rfl (of_decide_eq_true (by kernel_rfl))
theorem lawC : LawC Tryz.prog sn ln numbers.gErr 10 6 ssM (fun x l => againOut false true 6 fsOffsetFetchResponse x l) (okInL true 6 fsOffsetFetchResponse 10) :=
  lawC_of (tI16 := 42) (tErr := 52) rt msg (by kernel_rfl) (ifaceB_ok (by kernel_rfl)) (.inl (by kernel_rfl)) fn19 (by omega) fn11 (by omega) (ntSm := 26) (.inr fn13) (by omega) fn17 (by omega) fn38 (by omega) (by decide) sf_fZ4 sf_fZ3 sf_fZ2 sbM sf_fWrite sf_fPart.ent (ref_calls leaf sf_fPart sf_fField sf_fVal ssM (by kernel_rfl)).1
theorem fnL : FnIs Tryz.prog 5 56 [6] (cLcu sn ln) := fnIs_of Tryz.func5 (by kernel_rfl) (by kernel_rfl) (by kernel_rfl) (by kernel_rfl)
theorem law {W : World} {x0 x2 k : Nat} {cs : List Value} {t : Tr} (hx : x0 < 256) (hx2 : x2 < 65536) (ht : TrRp W k cs t) (hw : t.wt ≤ 1048576) (herr : ErrAt numbers.gErr W) : Calls Tryz.prog 5 [.int .u8 (x0 : Int), .agg cs.toArray, .int .u16 (x2 : Int)].toArray W (TrueC W) :=
  cut_law lawC (by kernel_rfl) (by kernel_rfl) fnL hx hx2 ht herr (fun v => k_lim (by kernel_rfl) (by kernel_rfl) hw v _)
end Go.Proofs.YtifmbhfkjinafabGreatDoorR.Kx
