/-
  FnAgainShareFetchResponse: the numbers of the program, the code of its functions, and the law out of them.
-/
import Derived.Test.YtifmbhfkjinafabGreatDoorRChecked
import Derived.Test.YtifmbhfkjinafabGreatDoorRK1
import Derived.Test.YtifmbhfkjinafabGreatDoorRK2
import Derived.Test.YtifmbhfkjinafabGreatDoorRK3
import Derived.Test.YtifmbhfkjinafabGreatDoorRK4
import Derived.Test.YtifmbhfkjinafabGreatDoorRK5
import Derived.Test.YtifmbhfkjinafabGreatDoorRK6
import Derived.Test.YtifmbhfkjinafabGreatDoorRK7
import Derived.Test.YtifmbhfkjinafabGreatDoorRK8
import Derived.Test.YtifmbhfkjinafabGreatDoorRK9
import Derived.Test.YtifmbhfkjinafabGreatDoorRK10
import Derived.Test.YtifmbhfkjinafabGreatDoorRK11
import Derived.Test.YtifmbhfkjinafabGreatDoorRK12
import Derived.Test.YtifmbhfkjinafabGreatDoorRK13
import Derived.Test.YtifmbhfkjinafabGreatDoorRK14
import Derived.Test.YtifmbhfkjinafabGreatDoorRK15
import Derived.KernelRfl
import Derived.Test.YtifmbhfkjinafabGreatDoorRSh
namespace Go.Proofs.YtifmbhfkjinafabGreatDoorR.Kx
open Go Go.Proofs
set_option maxRecDepth 100000
def numbers : G := { rd := fun | .bool => 999999 | .i8 => 111 | .i16 => 121 | .u16 => 999999 | .i32 => 96 | .i64 => 97 | .uuid => 107 | .str => 106 | .cstr => 105 | .nstr => 125 | .cnstr => 123 | .bytes => 999999 | .cbytes => 999999 | .nbytes => 139 | .cnbytes => 138, un := fun | .str => 104 | .cstr => 103 | .nstr => 124 | .cnstr => 122 | _ => 999999, len := 99, clen := 98, ok := 100, complete := 101, uv := 146, span := 148, tags := 110, set := 149, tR := 169, tUuid := 84, tVer := 42, tI8 := 93, tI32 := 21, tU32 := 61, tInt := 3, tBool := 4, tErr := 52, tTags := 68, tSl := 22, tStr := 9, gErr := 1 }
def numbersW : GW := { ap := fun | .bool => 999999 | .i8 => 73 | .i16 => 77 | .u16 => 126 | .i32 => 63 | .i64 => 64 | .uuid => 69 | .str => 68 | .cstr => 67 | .nstr => 79 | .cnstr => 78 | .bytes => 143 | .cbytes => 142 | .nbytes => 88 | .cnbytes => 87, alen := 66, calen := 65, nalen := 999999, cnalen := 999999, uv := 70, tlen := 71, teach := 72, tVer := 42, tInt := 3, tU32 := 61, tSl := 22, tUuid := 84 }
def kn : Kn := { tRS := 169, tSl := 22, tB := 4, tInt := 3, tU8 := 5, tI8 := 93, tI16 := 42, tU16 := 39, tI32 := 21, tU32 := 61, tI64 := 2, tU64 := 77, tStr := 9, tUuid := 84, tBE := 188, tErr := 52, gBE := 0, gErr := 1, fU16 := 153, fU32 := 144, fU64 := 154, fUv := 155, fR64 := 145 }
theorem mixed : Tryz.prog.follows .mixedOrders = true := by kernel_rfl
def fsShareFetchResponse : Fds := (.cons 0 none none (0) 1 (.prim .i32) (.cons 0 none none (0) 2 (.prim .i16) (.cons 0 none none (0) 3 (.str (some 0)) (.cons 1 none none (0) 4 (.prim .i32) (.cons 0 none none (0) 5 (.list none 18 (.struct none (some 17) (.cons 0 none none (0) 0 (.prim .uuid) (.cons 0 none none (0) 16 (.list none 11 (.struct none (some 10) (.cons 0 none none (0) 0 (.prim .i32) (.cons 0 none none (0) 1 (.prim .i16) (.cons 0 none none (0) 2 (.str (some 0)) (.cons 0 none none (0) 3 (.prim .i16) (.cons 0 none none (0) 4 (.str (some 0)) (.cons 0 none none (0) 5 (.struct none (some 2) (.cons 0 none none (0) 0 (.prim .i32) (.cons 0 none none (0) 1 (.prim .i32) .nil))) (.cons 0 none none (0) 8 (.bytes (some 0)) (.cons 0 none none (0) 9 (.list none 4 (.struct none (some 3) (.cons 0 none none (0) 0 (.prim .i64) (.cons 0 none none (0) 1 (.prim .i64) (.cons 0 none none (0) 2 (.prim .i16) .nil))))) .nil)))))))))) .nil)))) (.cons 0 none none (0) 6 (.list none 5 (.struct none (some 4) (.cons 0 none none (0) 0 (.prim .i32) (.cons 0 none none (0) 1 (.str none) (.cons 0 none none (0) 2 (.prim .i32) (.cons 0 none none (0) 3 (.str (some 0)) .nil)))))) .nil))))))
def nmShareFetchResponse : Nm := (.mk [] [(.mk [11, 142, 1, 21] []), (.mk [12, 142, 2, 42] []), (.mk [13, 142, 3, 106] []), (.mk [14, 142, 4, 21] []), (.mk [15, 142, 5, 139, 16, 17, 18, 0, 1] [(.mk [19, 20, 135, 146, 2] [(.mk [] [(.mk [21, 146, 0, 84] []), (.mk [22, 146, 1, 144, 23, 24, 25, 2, 3] [(.mk [26, 27, 136, 152, 8] [(.mk [] [(.mk [28, 152, 0, 21] []), (.mk [29, 152, 1, 42] []), (.mk [30, 152, 2, 106] []), (.mk [31, 152, 3, 42] []), (.mk [32, 152, 4, 106] []), (.mk [33, 152, 5, 34, 137, 149, 2] [(.mk [] [(.mk [35, 149, 0, 21] []), (.mk [36, 149, 1, 21] [])])]), (.mk [37, 152, 6, 22] []), (.mk [38, 152, 7, 150, 39, 40, 41, 4, 5] [(.mk [42, 43, 140, 157, 3] [(.mk [] [(.mk [44, 157, 0, 2] []), (.mk [45, 157, 1, 2] []), (.mk [46, 157, 2, 42] [])])])])])])])])])]), (.mk [47, 142, 6, 140, 48, 49, 50, 6, 7] [(.mk [51, 52, 141, 160, 4] [(.mk [] [(.mk [53, 160, 0, 21] []), (.mk [54, 160, 1, 9] []), (.mk [55, 160, 2, 21] []), (.mk [56, 160, 3, 106] [])])])])])
def nwShareFetchResponse : List Nm := [(.mk [7, 142, 1, 21] []), (.mk [8, 142, 2, 42] []), (.mk [9, 142, 3, 106] []), (.mk [10, 142, 4, 21] []), (.mk [11, 142, 5, 139, 12, 0, 1] [(.mk [13, 146, 2] [(.mk [] [(.mk [14, 146, 0, 84] []), (.mk [15, 146, 1, 144, 16, 2, 3] [(.mk [17, 152, 8] [(.mk [] [(.mk [18, 152, 0, 21] []), (.mk [19, 152, 1, 42] []), (.mk [20, 152, 2, 106] []), (.mk [21, 152, 3, 42] []), (.mk [22, 152, 4, 106] []), (.mk [23, 152, 5, 149, 2] [(.mk [] [(.mk [24, 149, 0, 21] []), (.mk [25, 149, 1, 21] [])])]), (.mk [26, 152, 6, 22] []), (.mk [27, 152, 7, 150, 28, 4, 5] [(.mk [29, 157, 3] [(.mk [] [(.mk [30, 157, 0, 2] []), (.mk [31, 157, 1, 2] []), (.mk [32, 157, 2, 42] [])])])])])])])])])]), (.mk [33, 142, 6, 140, 34, 6, 7] [(.mk [35, 160, 4] [(.mk [] [(.mk [36, 160, 0, 21] []), (.mk [37, 160, 1, 9] []), (.mk [38, 160, 2, 21] []), (.mk [39, 160, 3, 106] [])])])])]
theorem fn111 : FnIs Tryz.prog 111 32 [2] (cI8 kn) := fnIs_of Tryz.func111 (by kernel_rfl) (by kernel_rfl) (by kernel_rfl) (by kernel_rfl) -- (*pub-kmsg/pub/kmsg/inner/kbin.Reader).Int8
theorem fn121 : FnIs Tryz.prog 121 32 [2] (cI16 kn) := fnIs_of Tryz.func121 (by kernel_rfl) (by kernel_rfl) (by kernel_rfl) (by kernel_rfl) -- (*pub-kmsg/pub/kmsg/inner/kbin.Reader).Int16
theorem fn96 : FnIs Tryz.prog 96 32 [2] (cI32 kn) := fnIs_of Tryz.func96 (by kernel_rfl) (by kernel_rfl) (by kernel_rfl) (by kernel_rfl) -- (*pub-kmsg/pub/kmsg/inner/kbin.Reader).Int32
theorem fn145 : FnIs Tryz.prog 145 31 [2] (cR64 kn) := fnIs_of Tryz.func145 (by kernel_rfl) (by kernel_rfl) (by kernel_rfl) (by kernel_rfl) -- (*pub-kmsg/pub/kmsg/inner/kbin.Reader).readUint64
theorem fn97 : FnIs Tryz.prog 97 6 [2] (cI64 kn) := fnIs_of Tryz.func97 (by kernel_rfl) (by kernel_rfl) (by kernel_rfl) (by kernel_rfl) -- (*pub-kmsg/pub/kmsg/inner/kbin.Reader).Int64
theorem fn155 : FnIs Tryz.prog 155 87 [2, 3] (cUvIn kn) := fnIs_of Tryz.func155 (by kernel_rfl) (by kernel_rfl) (by kernel_rfl) (by kernel_rfl) -- pub-kmsg/pub/kmsg/inner/kbin.Uvarint
theorem fn146 : FnIs Tryz.prog 146 31 [2] (cUv kn) := fnIs_of Tryz.func146 (by kernel_rfl) (by kernel_rfl) (by kernel_rfl) (by kernel_rfl) -- (*pub-kmsg/pub/kmsg/inner/kbin.Reader).Uvarint
theorem fn107 : FnIsC Tryz.prog 107 9 2 84 (cUuid numbers kn) := fnIsC_of Tryz.func107 (by kernel_rfl) (by kernel_rfl) (by kernel_rfl) (by kernel_rfl) -- (*pub-kmsg/pub/kmsg/inner/kbin.Reader).Uuid
theorem fn110 : FnIsC Tryz.prog 110 24 2 68 (cRdTags numbers kn) := fnIsC_of Tryz.func110 (by kernel_rfl) (by kernel_rfl) (by kernel_rfl) (by kernel_rfl) -- pub-kmsg/pub/kmsg.internalReadTags
theorem fn149 : FnIs Tryz.prog 149 21 [] (cSet numbers 66) := fnIs_of Tryz.func149 (by kernel_rfl) (by kernel_rfl) (by kernel_rfl) (by kernel_rfl) -- (*pub-kmsg/pub/kmsg.Tags).Set
theorem fn100 : FnIs Tryz.prog 100 8 [2] (cOk kn) := fnIs_of Tryz.func100 (by kernel_rfl) (by kernel_rfl) (by kernel_rfl) (by kernel_rfl) -- (*pub-kmsg/pub/kmsg/inner/kbin.Reader).Ok
theorem fn101 : FnIs Tryz.prog 101 8 [2] (cComplete kn) := fnIs_of Tryz.func101 (by kernel_rfl) (by kernel_rfl) (by kernel_rfl) (by kernel_rfl) -- (*pub-kmsg/pub/kmsg/inner/kbin.Reader).Complete
theorem fn148 : FnIs Tryz.prog 148 40 [4] (cSpan kn) := fnIs_of Tryz.func148 (by kernel_rfl) (by kernel_rfl) (by kernel_rfl) (by kernel_rfl) -- (*pub-kmsg/pub/kmsg/inner/kbin.Reader).Span
theorem fn106 : FnIs Tryz.prog 106 11 [2] (cStr numbers kn) := fnIs_of Tryz.func106 (by kernel_rfl) (by kernel_rfl) (by kernel_rfl) (by kernel_rfl) -- (*pub-kmsg/pub/kmsg/inner/kbin.Reader).String
theorem fn105 : FnIs Tryz.prog 105 12 [2] (cCStr numbers kn) := fnIs_of Tryz.func105 (by kernel_rfl) (by kernel_rfl) (by kernel_rfl) (by kernel_rfl) -- (*pub-kmsg/pub/kmsg/inner/kbin.Reader).CompactString
theorem fn125 : FnIs Tryz.prog 125 14 [2] (cNStr numbers kn) := fnIs_of Tryz.func125 (by kernel_rfl) (by kernel_rfl) (by kernel_rfl) (by kernel_rfl) -- (*pub-kmsg/pub/kmsg/inner/kbin.Reader).NullableString
theorem fn123 : FnIs Tryz.prog 123 15 [2] (cCNStr numbers kn) := fnIs_of Tryz.func123 (by kernel_rfl) (by kernel_rfl) (by kernel_rfl) (by kernel_rfl) -- (*pub-kmsg/pub/kmsg/inner/kbin.Reader).CompactNullableString
theorem fn139 : FnIs Tryz.prog 139 14 [2] (cNBytes numbers kn) := fnIs_of Tryz.func139 (by kernel_rfl) (by kernel_rfl) (by kernel_rfl) (by kernel_rfl) -- (*pub-kmsg/pub/kmsg/inner/kbin.Reader).NullableBytes
theorem fn138 : FnIs Tryz.prog 138 15 [2] (cCNBytes numbers kn) := fnIs_of Tryz.func138 (by kernel_rfl) (by kernel_rfl) (by kernel_rfl) (by kernel_rfl) -- (*pub-kmsg/pub/kmsg/inner/kbin.Reader).CompactNullableBytes
theorem fn99 : FnIs Tryz.prog 99 21 [2] (cLen numbers kn) := fnIs_of Tryz.func99 (by kernel_rfl) (by kernel_rfl) (by kernel_rfl) (by kernel_rfl) -- (*pub-kmsg/pub/kmsg/inner/kbin.Reader).ArrayLen
theorem fn98 : FnIs Tryz.prog 98 23 [2] (cCLen numbers kn) := fnIs_of Tryz.func98 (by kernel_rfl) (by kernel_rfl) (by kernel_rfl) (by kernel_rfl) -- (*pub-kmsg/pub/kmsg/inner/kbin.Reader).CompactArrayLen
theorem fn153 : FnIs Tryz.prog 153 18 [4] (gBig kn kn.tU16 .u16 2) := fnIs_of Tryz.func153 (by kernel_rfl) (by kernel_rfl) (by kernel_rfl) (by kernel_rfl) -- (encoding/binary.bigEndian).Uint16
theorem fn144 : FnIs Tryz.prog 144 30 [4] (gBig kn kn.tU32 .u32 4) := fnIs_of Tryz.func144 (by kernel_rfl) (by kernel_rfl) (by kernel_rfl) (by kernel_rfl) -- (encoding/binary.bigEndian).Uint32
theorem fn154 : FnIs Tryz.prog 154 54 [4] (gBig kn kn.tU64 .u64 8) := fnIs_of Tryz.func154 (by kernel_rfl) (by kernel_rfl) (by kernel_rfl) (by kernel_rfl) -- (encoding/binary.bigEndian).Uint64
theorem fn73 : FnIs Tryz.prog 73 10 [4] (cAI8 kn) := fnIs_of Tryz.func73 (by kernel_rfl) (by kernel_rfl) (by kernel_rfl) (by kernel_rfl) -- pub-kmsg/pub/kmsg/inner/kbin.AppendInt8
theorem fn126 : FnIs Tryz.prog 126 13 [4] (cAU16 kn) := fnIs_of Tryz.func126 (by kernel_rfl) (by kernel_rfl) (by kernel_rfl) (by kernel_rfl) -- pub-kmsg/pub/kmsg/inner/kbin.AppendUint16
theorem fn112 : FnIs Tryz.prog 112 19 [4] (cAU32 kn) := fnIs_of Tryz.func112 (by kernel_rfl) (by kernel_rfl) (by kernel_rfl) (by kernel_rfl) -- pub-kmsg/pub/kmsg/inner/kbin.AppendUint32
theorem fn113 : FnIs Tryz.prog 113 31 [4] (cAU64 kn) := fnIs_of Tryz.func113 (by kernel_rfl) (by kernel_rfl) (by kernel_rfl) (by kernel_rfl) -- pub-kmsg/pub/kmsg/inner/kbin.appendUint64
theorem fn77 : FnIs Tryz.prog 77 9 [4] (cACv kn.tI16 kn.tU16 126) := fnIs_of Tryz.func77 (by kernel_rfl) (by kernel_rfl) (by kernel_rfl) (by kernel_rfl) -- pub-kmsg/pub/kmsg/inner/kbin.AppendInt16
theorem fn63 : FnIs Tryz.prog 63 9 [4] (cACv kn.tI32 kn.tU32 112) := fnIs_of Tryz.func63 (by kernel_rfl) (by kernel_rfl) (by kernel_rfl) (by kernel_rfl) -- pub-kmsg/pub/kmsg/inner/kbin.AppendInt32
theorem fn64 : FnIs Tryz.prog 64 9 [4] (cACv kn.tI64 kn.tU64 113) := fnIs_of Tryz.func64 (by kernel_rfl) (by kernel_rfl) (by kernel_rfl) (by kernel_rfl) -- pub-kmsg/pub/kmsg/inner/kbin.AppendInt64
theorem fn66 : FnIs Tryz.prog 66 9 [4] (cACv kn.tInt kn.tI32 63) := fnIs_of Tryz.func66 (by kernel_rfl) (by kernel_rfl) (by kernel_rfl) (by kernel_rfl) -- pub-kmsg/pub/kmsg/inner/kbin.AppendArrayLen
theorem fn65 : FnIs Tryz.prog 65 10 [4] (cACv1 kn 70) := fnIs_of Tryz.func65 (by kernel_rfl) (by kernel_rfl) (by kernel_rfl) (by kernel_rfl) -- pub-kmsg/pub/kmsg/inner/kbin.AppendCompactArrayLen
theorem fn69 : FnIs Tryz.prog 69 8 [4] (cAUuid kn) := fnIs_of Tryz.func69 (by kernel_rfl) (by kernel_rfl) (by kernel_rfl) (by kernel_rfl) -- pub-kmsg/pub/kmsg/inner/kbin.AppendUuid
theorem fn68 : FnIs Tryz.prog 68 13 [4] (cAStr kn kn.tStr kn.tI16 77) := fnIs_of Tryz.func68 (by kernel_rfl) (by kernel_rfl) (by kernel_rfl) (by kernel_rfl) -- pub-kmsg/pub/kmsg/inner/kbin.AppendString
theorem fn67 : FnIs Tryz.prog 67 14 [4] (cACStr kn kn.tStr 70) := fnIs_of Tryz.func67 (by kernel_rfl) (by kernel_rfl) (by kernel_rfl) (by kernel_rfl) -- pub-kmsg/pub/kmsg/inner/kbin.AppendCompactString
theorem fn143 : FnIs Tryz.prog 143 13 [4] (cAStr kn kn.tSl kn.tI32 63) := fnIs_of Tryz.func143 (by kernel_rfl) (by kernel_rfl) (by kernel_rfl) (by kernel_rfl) -- pub-kmsg/pub/kmsg/inner/kbin.AppendBytes
theorem fn142 : FnIs Tryz.prog 142 14 [4] (cACStr kn kn.tSl 70) := fnIs_of Tryz.func142 (by kernel_rfl) (by kernel_rfl) (by kernel_rfl) (by kernel_rfl) -- pub-kmsg/pub/kmsg/inner/kbin.AppendCompactBytes
theorem fn79 : FnIs Tryz.prog 79 14 [4] (cANStr kn 106 (.int .i16 (-1)) 77 68) := fnIs_of Tryz.func79 (by kernel_rfl) (by kernel_rfl) (by kernel_rfl) (by kernel_rfl) -- pub-kmsg/pub/kmsg/inner/kbin.AppendNullableString
theorem fn78 : FnIs Tryz.prog 78 14 [4] (cANStr kn 106 (.int .u32 0) 70 67) := fnIs_of Tryz.func78 (by kernel_rfl) (by kernel_rfl) (by kernel_rfl) (by kernel_rfl) -- pub-kmsg/pub/kmsg/inner/kbin.AppendCompactNullableString
theorem fn88 : FnIs Tryz.prog 88 12 [4] (cANBytes kn (.int .i32 (-1)) 63 143) := fnIs_of Tryz.func88 (by kernel_rfl) (by kernel_rfl) (by kernel_rfl) (by kernel_rfl) -- pub-kmsg/pub/kmsg/inner/kbin.AppendNullableBytes
theorem fn87 : FnIs Tryz.prog 87 12 [4] (cANBytes kn (.int .u32 0) 70 142) := fnIs_of Tryz.func87 (by kernel_rfl) (by kernel_rfl) (by kernel_rfl) (by kernel_rfl) -- pub-kmsg/pub/kmsg/inner/kbin.AppendCompactNullableBytes
theorem fn70 : FnIs Tryz.prog 70 93 [4] (cAUv kn 114) := fnIs_of Tryz.func70 (by kernel_rfl) (by kernel_rfl) (by kernel_rfl) (by kernel_rfl) -- pub-kmsg/pub/kmsg/inner/kbin.AppendUvarint
theorem fn114 : FnIs Tryz.prog 114 8 [2] (cUvLen kn 150) := fnIs_of Tryz.func114 (by kernel_rfl) (by kernel_rfl) (by kernel_rfl) (by kernel_rfl) -- pub-kmsg/pub/kmsg/inner/kbin.UvarintLen
theorem fn150 : FnIs Tryz.prog 150 19 [2] (cLen32 kn 61) := fnIs_of Tryz.func150 (by kernel_rfl) (by kernel_rfl) (by kernel_rfl) (by kernel_rfl) -- math/bits.Len32
theorem fn71 : FnIs Tryz.prog 71 8 [2] (cTLen kn 68 66) := fnIs_of Tryz.func71 (by kernel_rfl) (by kernel_rfl) (by kernel_rfl) (by kernel_rfl) -- (*pub-kmsg/pub/kmsg.Tags).Len
theorem fn24 : FnIs Tryz.prog 24 3 [0] (cNewPtr 70 52) := fnIs_of Tryz.func24 (by kernel_rfl) (by kernel_rfl) (by kernel_rfl) (by kernel_rfl) -- pub-kmsg/pub/kmsg.NewPtrAlterPartitionRequest
theorem fn28 : FnIs Tryz.prog 28 8 [] (cSetV 70 42) := fnIs_of Tryz.func28 (by kernel_rfl) (by kernel_rfl) (by kernel_rfl) (by kernel_rfl) -- (*pub-kmsg/pub/kmsg.AlterPartitionRequest).SetVersion
theorem fn29 : FnIs Tryz.prog 29 8 [4] (cRdF 62) := fnIs_of Tryz.func29 (by kernel_rfl) (by kernel_rfl) (by kernel_rfl) (by kernel_rfl) -- (*pub-kmsg/pub/kmsg.AlterPartitionRequest).ReadFrom
theorem fn8 : FnIs Tryz.prog 8 4 [0] (cMax 42 3 24 25) := fnIs_of Tryz.func8 (by kernel_rfl) (by kernel_rfl) (by kernel_rfl) (by kernel_rfl) -- pub-kmsg/impl.MaxAlterPartitionRequest
theorem fn25 : FnIs Tryz.prog 25 3 [2] (cMaxV 3) := fnIs_of Tryz.func25 (by kernel_rfl) (by kernel_rfl) (by kernel_rfl) (by kernel_rfl) -- (*pub-kmsg/pub/kmsg.AlterPartitionRequest).MaxVersion
theorem fn12 : FnIs Tryz.prog 12 19 [4, 5] (cAgain 42 3 22 52 24 28 29 30) := fnIs_of Tryz.func12 (by kernel_rfl) (by kernel_rfl) (by kernel_rfl) (by kernel_rfl) -- pub-kmsg/impl.AgainAlterPartitionRequest
theorem fn31 : FnIs Tryz.prog 31 3 [0] (cNewPtr 103 74) := fnIs_of Tryz.func31 (by kernel_rfl) (by kernel_rfl) (by kernel_rfl) (by kernel_rfl) -- pub-kmsg/pub/kmsg.NewPtrDescribeShareGroupOffsetsResponse
theorem fn34 : FnIs Tryz.prog 34 8 [] (cSetV 103 42) := fnIs_of Tryz.func34 (by kernel_rfl) (by kernel_rfl) (by kernel_rfl) (by kernel_rfl) -- (*pub-kmsg/pub/kmsg.DescribeShareGroupOffsetsResponse).SetVersion
theorem fn35 : FnIs Tryz.prog 35 8 [4] (cRdF 76) := fnIs_of Tryz.func35 (by kernel_rfl) (by kernel_rfl) (by kernel_rfl) (by kernel_rfl) -- (*pub-kmsg/pub/kmsg.DescribeShareGroupOffsetsResponse).ReadFrom
theorem fn14 : FnIs Tryz.prog 14 4 [0] (cMax 42 3 31 32) := fnIs_of Tryz.func14 (by kernel_rfl) (by kernel_rfl) (by kernel_rfl) (by kernel_rfl) -- pub-kmsg/impl.MaxDescribeShareGroupOffsetsResponse
theorem fn32 : FnIs Tryz.prog 32 3 [2] (cMaxV 1) := fnIs_of Tryz.func32 (by kernel_rfl) (by kernel_rfl) (by kernel_rfl) (by kernel_rfl) -- (*pub-kmsg/pub/kmsg.DescribeShareGroupOffsetsResponse).MaxVersion
theorem fn16 : FnIs Tryz.prog 16 19 [4, 5] (cAgain 42 3 22 52 31 34 35 36) := fnIs_of Tryz.func16 (by kernel_rfl) (by kernel_rfl) (by kernel_rfl) (by kernel_rfl) -- pub-kmsg/impl.AgainDescribeShareGroupOffsetsResponse
theorem fn37 : FnIs Tryz.prog 37 3 [0] (cNewPtr 121 80) := fnIs_of Tryz.func37 (by kernel_rfl) (by kernel_rfl) (by kernel_rfl) (by kernel_rfl) -- pub-kmsg/pub/kmsg.NewPtrOffsetFetchResponse
theorem fn41 : FnIs Tryz.prog 41 8 [] (cSetV 121 42) := fnIs_of Tryz.func41 (by kernel_rfl) (by kernel_rfl) (by kernel_rfl) (by kernel_rfl) -- (*pub-kmsg/pub/kmsg.OffsetFetchResponse).SetVersion
theorem fn42 : FnIs Tryz.prog 42 8 [4] (cRdF 83) := fnIs_of Tryz.func42 (by kernel_rfl) (by kernel_rfl) (by kernel_rfl) (by kernel_rfl) -- (*pub-kmsg/pub/kmsg.OffsetFetchResponse).ReadFrom
theorem fn17 : FnIs Tryz.prog 17 4 [0] (cMax 42 3 37 38) := fnIs_of Tryz.func17 (by kernel_rfl) (by kernel_rfl) (by kernel_rfl) (by kernel_rfl) -- pub-kmsg/impl.MaxOffsetFetchResponse
theorem fn38 : FnIs Tryz.prog 38 3 [2] (cMaxV 10) := fnIs_of Tryz.func38 (by kernel_rfl) (by kernel_rfl) (by kernel_rfl) (by kernel_rfl) -- (*pub-kmsg/pub/kmsg.OffsetFetchResponse).MaxVersion
theorem fn19 : FnIs Tryz.prog 19 19 [4, 5] (cAgain 42 3 22 52 37 41 42 43) := fnIs_of Tryz.func19 (by kernel_rfl) (by kernel_rfl) (by kernel_rfl) (by kernel_rfl) -- pub-kmsg/impl.AgainOffsetFetchResponse
theorem fn44 : FnIs Tryz.prog 44 3 [0] (cNewPtr 142 84) := fnIs_of Tryz.func44 (by kernel_rfl) (by kernel_rfl) (by kernel_rfl) (by kernel_rfl) -- pub-kmsg/pub/kmsg.NewPtrShareFetchResponse
theorem fn48 : FnIs Tryz.prog 48 8 [] (cSetV 142 42) := fnIs_of Tryz.func48 (by kernel_rfl) (by kernel_rfl) (by kernel_rfl) (by kernel_rfl) -- (*pub-kmsg/pub/kmsg.ShareFetchResponse).SetVersion
theorem fn49 : FnIs Tryz.prog 49 8 [4] (cRdF 86) := fnIs_of Tryz.func49 (by kernel_rfl) (by kernel_rfl) (by kernel_rfl) (by kernel_rfl) -- (*pub-kmsg/pub/kmsg.ShareFetchResponse).ReadFrom
theorem fn20 : FnIs Tryz.prog 20 4 [0] (cMax 42 3 44 45) := fnIs_of Tryz.func20 (by kernel_rfl) (by kernel_rfl) (by kernel_rfl) (by kernel_rfl) -- pub-kmsg/impl.MaxShareFetchResponse
theorem fn45 : FnIs Tryz.prog 45 3 [2] (cMaxV 2) := fnIs_of Tryz.func45 (by kernel_rfl) (by kernel_rfl) (by kernel_rfl) (by kernel_rfl) -- (*pub-kmsg/pub/kmsg.ShareFetchResponse).MaxVersion
theorem fn22 : FnIs Tryz.prog 22 19 [4, 5] (cAgain 42 3 22 52 44 48 49 50) := fnIs_of Tryz.func22 (by kernel_rfl) (by kernel_rfl) (by kernel_rfl) (by kernel_rfl) -- pub-kmsg/impl.AgainShareFetchResponse
theorem fn11 : FnIs Tryz.prog 11 10 [4] (cVer 5 3) := fnIs_of Tryz.func11 (by kernel_rfl) (by kernel_rfl) (by kernel_rfl) (by kernel_rfl) -- pub-kmsg/laws.version
theorem fn13 : FnIs Tryz.prog 13 26 [4] (cSame 22 5 3) := fnIs_of Tryz.func13 (by kernel_rfl) (by kernel_rfl) (by kernel_rfl) (by kernel_rfl) -- pub-kmsg/spec.Same
theorem fn86 : FnIs Tryz.prog 86 377 [6] (gRead numbers true false ⟨true, 7, 10, 8, 9⟩ fsShareFetchResponse 84 142 7 0 57 nmShareFetchResponse) := fnIs_of Tryz.func86 (by kernel_rfl) (by kernel_rfl) (by kernel_rfl) (by kernel_rfl) -- (*pub-kmsg/pub/kmsg.ShareFetchResponse).readFrom
theorem fn50 : FnIs Tryz.prog 50 390 [4] (gWrite numbersW false ⟨true, 0, 0, 5, 6⟩ fsShareFetchResponse 142 7 0 0 40 nwShareFetchResponse) := fnIs_of Tryz.func50 (by kernel_rfl) (by kernel_rfl) (by kernel_rfl) (by kernel_rfl) -- (*pub-kmsg/pub/kmsg.ShareFetchResponse).AppendTo
def di84 : List DI := []
theorem fn84 : FnIs Tryz.prog 84 2 [] (gDflt di84 2) := fnIs_of Tryz.func84 (by kernel_rfl) (by kernel_rfl) (by kernel_rfl) (by kernel_rfl) -- (*pub-kmsg/pub/kmsg.ShareFetchResponse).Default
noncomputable def dw84 : List (Nat × Value) := (dRun Tryz.prog 2 di84 [(0, 0)]).getD []
theorem df84 : Ent Tryz.prog 84 ∧ DfC Tryz.prog 84 dw84 := dfC_of (n0 := 2) (items := di84) (by kernel_rfl) fn84 (by kernel_rfl) (of_decide_eq_true (by kernel_rfl)) (by omega)
def di135 : List DI := []
theorem fn135 : FnIs Tryz.prog 135 2 [] (gDflt di135 2) := fnIs_of Tryz.func135 (by kernel_rfl) (by kernel_rfl) (by kernel_rfl) (by kernel_rfl) -- (*pub-kmsg/pub/kmsg.ShareFetchResponseTopic).Default
noncomputable def dw135 : List (Nat × Value) := (dRun Tryz.prog 2 di135 [(0, 0)]).getD []
theorem df135 : Ent Tryz.prog 135 ∧ DfC Tryz.prog 135 dw135 := dfC_of (n0 := 2) (items := di135) (by kernel_rfl) fn135 (by kernel_rfl) (of_decide_eq_true (by kernel_rfl)) (by omega)
def di136 : List DI := [.fa 2 0 152 5, .nop 2]
theorem fn136 : FnIs Tryz.prog 136 7 [] (gDflt di136 3) := fnIs_of Tryz.func136 (by kernel_rfl) (by kernel_rfl) (by kernel_rfl) (by kernel_rfl) -- (*pub-kmsg/pub/kmsg.ShareFetchResponseTopicPartition).Default
noncomputable def dw136 : List (Nat × Value) := (dRun Tryz.prog 3 di136 [(0, 0)]).getD []
theorem df136 : Ent Tryz.prog 136 ∧ DfC Tryz.prog 136 dw136 := dfC_of (n0 := 3) (items := di136) (by kernel_rfl) fn136 (by kernel_rfl) (of_decide_eq_true (by kernel_rfl)) (by omega)
def di137 : List DI := []
theorem fn137 : FnIs Tryz.prog 137 2 [] (gDflt di137 2) := fnIs_of Tryz.func137 (by kernel_rfl) (by kernel_rfl) (by kernel_rfl) (by kernel_rfl) -- (*pub-kmsg/pub/kmsg.ShareFetchResponseTopicPartitionCurrentLeader).Default
noncomputable def dw137 : List (Nat × Value) := (dRun Tryz.prog 2 di137 [(0, 0)]).getD []
theorem df137 : Ent Tryz.prog 137 ∧ DfC Tryz.prog 137 dw137 := dfC_of (n0 := 2) (items := di137) (by kernel_rfl) fn137 (by kernel_rfl) (of_decide_eq_true (by kernel_rfl)) (by omega)
def di140 : List DI := []
theorem fn140 : FnIs Tryz.prog 140 2 [] (gDflt di140 2) := fnIs_of Tryz.func140 (by kernel_rfl) (by kernel_rfl) (by kernel_rfl) (by kernel_rfl) -- (*pub-kmsg/pub/kmsg.ShareFetchResponseTopicPartitionAcquiredRecord).Default
noncomputable def dw140 : List (Nat × Value) := (dRun Tryz.prog 2 di140 [(0, 0)]).getD []
theorem df140 : Ent Tryz.prog 140 ∧ DfC Tryz.prog 140 dw140 := dfC_of (n0 := 2) (items := di140) (by kernel_rfl) fn140 (by kernel_rfl) (of_decide_eq_true (by kernel_rfl)) (by omega)
def di141 : List DI := []
theorem fn141 : FnIs Tryz.prog 141 2 [] (gDflt di141 2) := fnIs_of Tryz.func141 (by kernel_rfl) (by kernel_rfl) (by kernel_rfl) (by kernel_rfl) -- (*pub-kmsg/pub/kmsg.ShareFetchResponseNodeEndpoint).Default
noncomputable def dw141 : List (Nat × Value) := (dRun Tryz.prog 2 di141 [(0, 0)]).getD []
theorem df141 : Ent Tryz.prog 141 ∧ DfC Tryz.prog 141 dw141 := dfC_of (n0 := 2) (items := di141) (by kernel_rfl) fn141 (by kernel_rfl) (of_decide_eq_true (by kernel_rfl)) (by omega)
noncomputable def dd : Nat → Option (List (Nat × Value))
  | 84 => some dw84
  | 135 => some dw135
  | 136 => some dw136
  | 137 => some dw137
  | 140 => some dw140
  | 141 => some dw141
  | _ => none
theorem ddOk : ∀ f wr, dd f = some wr → Ent Tryz.prog f ∧ DfC Tryz.prog f wr := by
  intro f wr h
  unfold dd at h
  split at h
  · obtain rfl := Option.some.inj h; exact df84
  · obtain rfl := Option.some.inj h; exact df135
  · obtain rfl := Option.some.inj h; exact df136
  · obtain rfl := Option.some.inj h; exact df137
  · obtain rfl := Option.some.inj h; exact df140
  · obtain rfl := Option.some.inj h; exact df141
  · cases h
theorem kt : KT Tryz.prog numbers kn where
  mixed := mixed
  f0 := fldB_ok (by kernel_rfl)
  f1 := fldB_ok (by kernel_rfl)
  sl := by kernel_rfl
  u8 := varB_ok (by kernel_rfl)
  dU8 := by kernel_rfl
  dI8 := fun _ => by kernel_rfl
  dI16 := by kernel_rfl
  dI32 := by kernel_rfl
  dU32 := by kernel_rfl
  dInt := by kernel_rfl
theorem kbig : KBig Tryz.prog kn where
  be := varB_ok (by kernel_rfl)
  d16 := by kernel_rfl
  d64 := fun _ => by kernel_rfl
  dI64 := fun _ => by kernel_rfl
  f16 := fun _ => fn153
  f32 := fun _ => fn144
  f64 := fun _ => fn154
theorem ksub : KSub Tryz.prog numbers kn kn.tRS where
  e16 := fun _ => fn121.ent
  c16 := fun _ w S R r hR hRS => (i16_calls kt kbig rfl fn121 (by omega) hR hRS).mono fun e w' h => (fun h => ⟨h.1, h.2.1, h.2.2.1⟩) (rdOk_int (p := .i16) (.inr (.inl ⟨rfl, rfl⟩)) rfl h)
  e32 := fun _ => fn96.ent
  c32 := fun _ w S R r hR hRS => (i32_calls kt kbig rfl fn96 (by omega) hR hRS).mono fun e w' h => (fun h => ⟨h.1, h.2.1, h.2.2.1⟩) (rdOk_int (p := .i32) (.inr (.inr (.inl ⟨rfl, rfl⟩))) rfl h)
  eU := fun _ => fn146.ent
  cU := fun _ w S R r hR hRS => uv_calls kt fn155 (by omega) fn146 (by omega) hR hRS
  eS := fun _ => fn148.ent
  cS := fun _ w S R r k hR hRS => span_calls kt fn148 (by omega) hR hRS
  dStr := by kernel_rfl
  vStr := varB_ok (by kernel_rfl)
  zStr := zeroOf_ok (by kernel_rfl)
def tn : TN := { tTags := 68, tM := 66, tKs := 194, tU32 := 61, tInt := 3, tSl := 22, fSort := 151, fLess := 152, fEach := 115, fOne := 116, fUv := 70 }
theorem fn115 : FnIs Tryz.prog 115 53 [] (cEach tn) := fnIs_of Tryz.func115 (by kernel_rfl) (by kernel_rfl) (by kernel_rfl) (by kernel_rfl) -- (*pub-kmsg/pub/kmsg.Tags).Each
theorem fn152 : FnIs Tryz.prog 152 15 [5] (cTLess tn) := fnIs_of Tryz.func152 (by kernel_rfl) (by kernel_rfl) (by kernel_rfl) (by kernel_rfl) -- (*pub-kmsg/pub/kmsg.Tags).Each$1
theorem fn72 : FnIs Tryz.prog 72 9 [4] (cTEach tn) := fnIs_of Tryz.func72 (by kernel_rfl) (by kernel_rfl) (by kernel_rfl) (by kernel_rfl) -- (*pub-kmsg/pub/kmsg.Tags).AppendEach
theorem fn116 : FnIs Tryz.prog 116 16 [] (cTOne tn) := fnIs_of Tryz.func116 (by kernel_rfl) (by kernel_rfl) (by kernel_rfl) (by kernel_rfl) -- (*pub-kmsg/pub/kmsg.Tags).AppendEach$1
theorem tf : TF Tryz.prog tn where
  map := ⟨61, 22, by kernel_rfl, by kernel_rfl⟩
  fld := fldB_ok (by kernel_rfl)
  sl := by kernel_rfl
  info := infoB_ok (by kernel_rfl)
  vU := varB_ok (by kernel_rfl)
  vK := varB_ok (by kernel_rfl)
  zK := zeroOf_ok (by kernel_rfl)
  dInt := by kernel_rfl
  dU32 := by kernel_rfl
theorem sortOk : SortOk Tryz.prog tn := sortOk_of (it := (Tryz.prog.info? 194).get (by kernel_rfl)) (ie := (Tryz.prog.info? 61).get (by kernel_rfl)) (ke := 10) (f1 := 161) (f2 := 162) (f6 := 166) mixed tf Tryz.sa6 rfl (enters_of Tryz.func151 (by kernel_rfl) rfl) fn152 (by omega) (by kernel_rfl) (by kernel_rfl) (by kernel_rfl) (by kernel_rfl) (fun _ => by kernel_rfl) (by kernel_rfl) (by kernel_rfl) (by kernel_rfl) fn152.ent (by kernel_rfl) (by kernel_rfl) (by kernel_rfl) (fun args W => run_callFunc_extern Tryz.func166 (by kernel_rfl) (by kernel_rfl) (by kernel_rfl) (e := Extern.ReflectliteSwapper.swap true) (by kernel_rfl) args W)
theorem setOk : SetOk Tryz.prog numbers.set := fun _ _ _ _ _ _ _ _ _ _ hk hB hO ht hv => set_calls (tM := 66) (kt := 61) (et := 22) mixed fn149 (by omega) (by kernel_rfl) (by kernel_rfl) (fldB_ok (by kernel_rfl)) hk hB hO ht hv
def av : PF → Bool
  | .i8 => true
  | .i16 => true
  | .i32 => true
  | .i64 => true
  | .uuid => true
  | .str => true
  | .cstr => true
  | .nstr => true
  | .cnstr => true
  | .nbytes => true
  | .cnbytes => true
  | _ => false
theorem rdAll : ∀ p, av p = true → RdOk Tryz.prog numbers.tR p (numbers.rd p) := by
  intro p h
  cases p
  · cases h
  · exact rdOk_i8 kt rfl fn111 (by omega)
  · exact rdOk_i16 kt kbig rfl fn121 (by omega)
  · cases h
  · exact rdOk_i32 kt kbig rfl fn96 (by omega)
  · exact rdOk_i64 kt kbig rfl fn145 (by omega) fn97 (by omega)
  · exact rdOk_uuid kt ksub rfl (varB_ok (by kernel_rfl)) (zeroOf_ok (by kernel_rfl)) (by kernel_rfl) fn107 (by omega)
  · exact rdOk_str kt ksub rfl rfl fn106 (by omega)
  · exact rdOk_cstr kt ksub rfl rfl fn105 (by omega)
  · exact rdOk_nstr kt ksub rfl rfl fn125 (by omega)
  · exact rdOk_cnstr kt ksub rfl rfl fn123 (by omega)
  · cases h
  · cases h
  · exact rdOk_nbytes kt ksub rfl rfl fn139 (by omega)
  · exact rdOk_cnbytes kt ksub rfl rfl fn138 (by omega)
theorem kb : KB Tryz.prog numbers av true where
  mixed := mixed
  rdE p h := (rdAll p h).1
  rdC p h := (rdAll p h).2
  i8C := fun _ w S R r hR hRS => (i8_calls kt rfl fn111 (by omega) hR hRS).mono fun e w' h => (fun h => ⟨h.1, h.2.1, h.2.2.1⟩) (rdOk_int (p := .i8) (.inl ⟨rfl, rfl⟩) rfl h)
  okE := fun _ => fn100.ent
  okC := fun _ w S R r hR => ok_calls kt fn100 (by omega) hR
  cmE := fn101.ent
  cmC w S R r hR he := complete_calls kt fn101 (by omega) (varB_ok (by kernel_rfl)) hR he
  lenE := fun _ => fn99.ent
  lenC := fun _ w S R r hR hRS => len_calls kt ksub rfl fn99 (by omega) hR hRS
  clenE := fun _ _ => fn98.ent
  clenC := fun _ _ w S R r hR hRS => clen_calls kt ksub rfl fn98 (by omega) hR hRS
  uvE := fun _ => fn146.ent
  uvC := fun _ w S R r hR hRS => ksub.cU rfl w S R r hR hRS
  spanE := fun _ => fn148.ent
  spanC := fun _ w S R r k _ _ hR hRS => ksub.cS rfl w S R r k hR hRS
  tagsE := fun _ => fn110.ent
  tagsC := fun _ w S R r hR hRS hS => rdTags_calls kt ksub rfl rfl rfl fn149.ent setOk (zeroOf_ok (by kernel_rfl)) (varB_ok (by kernel_rfl)) fn110 (by omega) hR hRS hS
  setE := fun _ => fn149.ent
  setC := fun _ => setOk
  fR := twoB_ok (by kernel_rfl)
  zR := zeroOf_ok (by kernel_rfl)
  vR := varB_ok (by kernel_rfl)
  uuid := fun _ => ⟨varB_ok (by kernel_rfl), zeroOf_ok (by kernel_rfl)⟩
  tI32 := by kernel_rfl
  tU32 := fun _ => by kernel_rfl
  tInt := by kernel_rfl
  vStr := ⟨varB_ok (by kernel_rfl), zeroOf_ok (by kernel_rfl)⟩
  vTags := fun _ => varB_ok (by kernel_rfl)
  tErr := fun _ => ifaceB_ok (by kernel_rfl)
theorem env : Env Tryz.prog numbers av true dd := ⟨kb, ddOk⟩
theorem oct : OctT Tryz.prog kn.tSl kn.tU8 := octB_ok (by kernel_rfl)
theorem wt : WT Tryz.prog kn where
  mixed := mixed
  oct := oct
  dU8 := by kernel_rfl
  dI8 := fun _ => by kernel_rfl
  dI16 := by kernel_rfl
  dU16 := fun _ => by kernel_rfl
  dI32 := by kernel_rfl
  dU32 := by kernel_rfl
  dInt := by kernel_rfl
  dI64 := fun _ => by kernel_rfl
  dU64 := fun _ => by kernel_rfl
  dStr := by kernel_rfl
  vStr := varB_ok (by kernel_rfl)
theorem uvC (x : Nat) (w : World) (h : x < 4294967296) : ApC Tryz.prog kn.tU8 numbersW.uv (.int .u32 x) (uvar x) w := ap_uv wt (by kernel_rfl) fn150 (by omega) fn114 (by omega) fn70 (by omega) h w
theorem i16C (x : Int) (w : World) : ApC Tryz.prog kn.tU8 77 (.int .i16 x) (be 2 x) w := ap_i16 wt rfl fn126 (by omega) fn77 (by omega) x w
theorem i32C (x : Int) (w : World) : ApC Tryz.prog kn.tU8 63 (.int .i32 x) (be 4 x) w := ap_i32 wt fn112 (by omega) fn63 (by omega) x w
def avw : PF → Bool
  | .i8 => true
  | .i16 => true
  | .u16 => true
  | .i32 => true
  | .i64 => true
  | .uuid => true
  | .str => true
  | .cstr => true
  | .nstr => true
  | .cnstr => true
  | .bytes => true
  | .cbytes => true
  | .nbytes => true
  | .cnbytes => true
  | _ => false
theorem apAll : ∀ p, avw p = true → AppOk Tryz.prog kn.tU8 p (numbersW.ap p) := by
  intro p h
  cases p
  · cases h
  · exact app_i8 wt rfl fn73 (by omega)
  · exact app_i16 wt rfl fn126 (by omega) fn77 (by omega)
  · exact app_u16 wt rfl fn126 (by omega)
  · exact app_i32 wt fn112 (by omega) fn63 (by omega)
  · exact app_i64 wt rfl rfl fn113 (by omega) fn64 (by omega)
  · exact app_uuid wt (varB_ok (by kernel_rfl)) (by kernel_rfl) fn69 (by omega)
  · exact app_str wt (app_i16 wt rfl fn126 (by omega) fn77 (by omega)) i16C fn68 (by omega)
  · exact app_cstr wt fn70.ent (fun x w h => uvC x w h) fn67 (by omega)
  · exact app_nstr wt (fx := false) rfl (by kernel_rfl) fn77.ent (fun w => i16C (-1) w) (app_str wt (app_i16 wt rfl fn126 (by omega) fn77 (by omega)) i16C fn68 (by omega)) fn79 (by omega)
  · exact app_nstr wt (fx := true) rfl (by kernel_rfl) fn70.ent (fun w => uvC 0 w (by omega)) (app_cstr wt fn70.ent (fun x w h => uvC x w h) fn67 (by omega)) fn78 (by omega)
  · exact app_bytes wt fn63.ent i32C fn143 (by omega)
  · exact app_cbytes wt fn70.ent (fun x w h => uvC x w h) fn142 (by omega)
  · exact app_nbytes wt (fx := false) rfl fn63.ent (fun w => i32C (-1) w) (app_bytes wt fn63.ent i32C fn143 (by omega)) fn88 (by omega)
  · exact app_nbytes wt (fx := true) rfl fn70.ent (fun w => uvC 0 w (by omega)) (app_cbytes wt fn70.ent (fun x w h => uvC x w h) fn142 (by omega)) fn87 (by omega)
theorem kw : KW Tryz.prog numbersW avw true false kn.tU8 where
  mixed := mixed
  oct := oct
  dInt := by kernel_rfl
  dU32 := fun _ => by kernel_rfl
  apE p h := (apAll p h).1
  apC p h := (apAll p h).2
  alE := fun _ => fn66.ent
  alC := fun _ n w => ap_len wt fn63.ent i32C fn66 (by omega) n w
  clE := fun _ _ => fn65.ent
  clC := fun _ _ n w => ap_clen wt fn70.ent (fun x w h => uvC x w h) fn65 (by omega) n w
  nlE := fun h => absurd h (by decide)
  nlC := fun h => absurd h (by decide)
  cnE := fun h => absurd h (by decide)
  cnC := fun h => absurd h (by decide)
  uvE := fun _ => fn70.ent
  uvC := fun _ x w h => uvC x w h
  tlE := fun _ => fn71.ent
  tlC := fun _ w b o m X t hc ht => tlen_calls (kt := 61) (et := 22) mixed (by kernel_rfl) (fldB_ok (by kernel_rfl)) fn71 (by omega) hc ht
  teE := fun _ => fn72.ent
  teC := fun _ w b o m L t d bs hc hb ht hd hL hlim => teach_calls mixed tf sortOk oct (varB_ok (by kernel_rfl)) fn70.ent (fun x w h => uvC x w h) fn115 (by omega) fn116 (by omega) fn72 (by omega) hc hb ht hd hL hlim
  uuid := fun _ => ⟨varB_ok (by kernel_rfl), zeroOf_ok (by kernel_rfl)⟩
noncomputable def zv : Value := (zeroOf Tryz.prog 142).getD undef
noncomputable def zz : Array Value := applyWr zv.cells 0 dw84
theorem msg : MsgC Tryz.prog numbers.gErr kn.tU8 false true 0 fsShareFetchResponse (some 7) 142 zz 44 48 49 50 :=
  msgC_of (cx := ⟨true, 7, 10, 8, 9⟩) (cw := ⟨true, 0, 0, 5, 6⟩) (nm := nmShareFetchResponse) (ms := nwShareFetchResponse) (tI16 := 42) env kw (by decide) (by decide) rfl rfl fn44 (by omega) fn48 (by omega) fn49 (by omega) fn86 (by omega) fn50 (by kernel_rfl) (by kernel_rfl) rfl (of_decide_eq_true (by kernel_rfl)) (by kernel_rfl) (by kernel_rfl) rfl (by kernel_rfl) (by kernel_rfl)
def sn : SN := { tInt := 3, tI64 := 2, tU8 := 5, tU64 := 77, tU32 := 61, tU16 := 39, tB := 4, tSl := 22, tF := 48, tFs := 30, tT := 26, tTs := 23, tG := 63, tGs := 24, tMs := 32, fPart := 26, fHas := 53, fField := 54, fAt := 55, fKnown := 56, fUsual := 57, fUv := 58, fUnk := 59, fWhole := 60, fNull := 89, fThings := 90, fCnt := 91, fVal := 92, fFix := 93, fWid := 94, fWrite := 9, fSame := 13, fZ2 := 7, fZ3 := 23, fZ4 := 51 }
theorem sf_fPart : FnIs Tryz.prog sn.fPart 132 [8] (csPt sn) := fnIs_of Tryz.func26 (by kernel_rfl) (by kernel_rfl) (by kernel_rfl) (by kernel_rfl)
theorem sf_fHas : FnIs Tryz.prog sn.fHas 20 [4] (csHs sn) := fnIs_of Tryz.func53 (by kernel_rfl) (by kernel_rfl) (by kernel_rfl) (by kernel_rfl)
theorem sf_fField : FnIs Tryz.prog sn.fField 76 [8] (csFl sn) := fnIs_of Tryz.func54 (by kernel_rfl) (by kernel_rfl) (by kernel_rfl) (by kernel_rfl)
theorem sf_fAt : FnIsC Tryz.prog sn.fAt 16 4 26 (csAt sn) := fnIsC_of Tryz.func55 (by kernel_rfl) (by kernel_rfl) (by kernel_rfl) (by kernel_rfl)
theorem sf_fKnown : FnIs Tryz.prog sn.fKnown 23 [2] (csKw sn) := fnIs_of Tryz.func56 (by kernel_rfl) (by kernel_rfl) (by kernel_rfl) (by kernel_rfl)
theorem sf_fUv : FnIs Tryz.prog sn.fUv 20 [2] (csUvr sn) := fnIs_of Tryz.func58 (by kernel_rfl) (by kernel_rfl) (by kernel_rfl) (by kernel_rfl)
theorem sf_fUnk : FnIs Tryz.prog sn.fUnk 85 [4] (csUn sn) := fnIs_of Tryz.func59 (by kernel_rfl) (by kernel_rfl) (by kernel_rfl) (by kernel_rfl)
theorem sf_fWhole : FnIs Tryz.prog sn.fWhole 8 [2] (csWh sn) := fnIs_of Tryz.func60 (by kernel_rfl) (by kernel_rfl) (by kernel_rfl) (by kernel_rfl)
theorem sf_fNull : FnIs Tryz.prog sn.fNull 20 [6] (csNu sn) := fnIs_of Tryz.func89 (by kernel_rfl) (by kernel_rfl) (by kernel_rfl) (by kernel_rfl)
theorem sf_fThings : FnIs Tryz.prog sn.fThings 8 [2] (csTh sn) := fnIs_of Tryz.func90 (by kernel_rfl) (by kernel_rfl) (by kernel_rfl) (by kernel_rfl)
theorem sf_fCnt : FnIs Tryz.prog sn.fCnt 28 [8] (csCn sn) := fnIs_of Tryz.func91 (by kernel_rfl) (by kernel_rfl) (by kernel_rfl) (by kernel_rfl)
theorem sf_fVal : FnIs Tryz.prog sn.fVal 70 [12] (csVa sn) := fnIs_of Tryz.func92 (by kernel_rfl) (by kernel_rfl) (by kernel_rfl) (by kernel_rfl)
theorem sf_fFix : FnIs Tryz.prog sn.fFix 22 [4] (csFi sn) := fnIs_of Tryz.func93 (by kernel_rfl) (by kernel_rfl) (by kernel_rfl) (by kernel_rfl)
theorem sf_fWid : FnIs Tryz.prog sn.fWid 11 [2] (csWd sn) := fnIs_of Tryz.func94 (by kernel_rfl) (by kernel_rfl) (by kernel_rfl) (by kernel_rfl)
theorem sf_fWrite : FnIs Tryz.prog sn.fWrite 21 [6] (csWr sn) := fnIs_of Tryz.func9 (by kernel_rfl) (by kernel_rfl) (by kernel_rfl) (by kernel_rfl)
theorem sf_fZ2 : FnIs Tryz.prog sn.fZ2 15 [2] (csZ2 sn) := fnIs_of Tryz.func7 (by kernel_rfl) (by kernel_rfl) (by kernel_rfl) (by kernel_rfl)
theorem sf_fZ3 : FnIs Tryz.prog sn.fZ3 18 [2] (csZ3 sn) := fnIs_of Tryz.func23 (by kernel_rfl) (by kernel_rfl) (by kernel_rfl) (by kernel_rfl)
theorem sf_fZ4 : FnIs Tryz.prog sn.fZ4 7 [2] (csZ4 sn) := fnIs_of Tryz.func51 (by kernel_rfl) (by kernel_rfl) (by kernel_rfl) (by kernel_rfl)
theorem rt : RefT Tryz.prog sn where
  mixed := mixed
  dInt := by kernel_rfl
  dI64 := by kernel_rfl
  dU8 := by kernel_rfl
  dU32 := by kernel_rfl
  dU64 := by kernel_rfl
  oct := oct
  dTs := by kernel_rfl
  dGs := by kernel_rfl
  dFs := by kernel_rfl
  vI64 := varB_ok (by kernel_rfl)
  vU8 := varB_ok (by kernel_rfl)
  vT := varB_ok (by kernel_rfl)
  vF := varB_ok (by kernel_rfl)
  vG := varB_ok (by kernel_rfl)
  vM := varB_ok (by kernel_rfl)
  t0 := fldB_ok (by kernel_rfl)
  t1 := fldB_ok (by kernel_rfl)
  t2 := fldB_ok (by kernel_rfl)
  t3 := fldB_ok (by kernel_rfl)
  t4 := fldB_ok (by kernel_rfl)
  f0 := fldB_ok (by kernel_rfl)
  f1 := fldB_ok (by kernel_rfl)
  f2 := fldB_ok (by kernel_rfl)
  f3 := fldB_ok (by kernel_rfl)
  f4 := fldB_ok (by kernel_rfl)
  f5 := fldB_ok (by kernel_rfl)
  f6 := fldB_ok (by kernel_rfl)
  f7 := fldB_ok (by kernel_rfl)
  g0 := fldB_ok (by kernel_rfl)
  g1 := fldB_ok (by kernel_rfl)
  m0 := fldB_ok (by kernel_rfl)
  m1 := fldB_ok (by kernel_rfl)
  zT := zeroOf_ok (by kernel_rfl)
  zF := zeroOf_ok (by kernel_rfl)
  zG := zeroOf_ok (by kernel_rfl)
  zM := zeroOf_ok (by kernel_rfl)
  z8 := z8_ok (by kernel_rfl)
  bT := fun w => by kernel_rfl
  bG := fun w => by kernel_rfl
  bSG := fun w => by kernel_rfl
  iG := iG_ok (by kernel_rfl)

theorem leaf : LeafC Tryz.prog sn := leafC_of rt (varB_ok (by kernel_rfl)) sf_fUv sf_fFix sf_fCnt sf_fWid sf_fWhole sf_fThings sf_fHas sf_fNull sf_fKnown sf_fAt sf_fUnk
theorem trees : TreT Tryz.prog sn where
  tab := rt
  cT := by kernel_rfl
  cG := by kernel_rfl
  cI := by kernel_rfl
  cSl := by kernel_rfl
  cB := by kernel_rfl
  cTs := by kernel_rfl
  cGs := by kernel_rfl
  cU := by kernel_rfl
  c8 := by kernel_rfl
  dB := by kernel_rfl
  nT := by kernel_rfl
  nG := by kernel_rfl

def ln : LN := { fM := 20, fB := 21, fV := 11, fA := 22 }
def it133 : List BI := [([(0, 3), (2, -1), (3, -1), (4, -1)], none), ([(0, 3), (2, -1), (3, -1), (4, -1)], none)]
def ss133 : SFs := .cons 3 0 (-1) (-1) (-1) 0 0 .nil (.cons 3 0 (-1) (-1) (-1) 0 0 .nil (.nil))
theorem fi133 : FnIs Tryz.prog 133 4 [0] (cSub sn it133) := fnIs_of Tryz.func133 (by kernel_rfl) (by kernel_rfl) (by kernel_rfl) (by kernel_rfl)
theorem sb133 : Ent Tryz.prog 133 ∧ BuildC Tryz.prog 133 ss133 := sub_calls rt fi133 (of_decide_eq_true (by kernel_rfl)) ⟨fun w => by kernel_rfl, rfl, ⟨fun w => by kernel_rfl, rfl, trivial⟩⟩ (fun sv w => by kernel_rfl) rfl (of_decide_eq_true (by kernel_rfl))
def it134 : List BI := [([(0, 4), (2, -1), (3, -1), (4, -1)], none), ([(0, 4), (2, -1), (3, -1), (4, -1)], none), ([(0, 2), (2, -1), (3, -1), (4, -1)], none)]
def ss134 : SFs := .cons 4 0 (-1) (-1) (-1) 0 0 .nil (.cons 4 0 (-1) (-1) (-1) 0 0 .nil (.cons 2 0 (-1) (-1) (-1) 0 0 .nil (.nil)))
theorem fi134 : FnIs Tryz.prog 134 5 [0] (cSub sn it134) := fnIs_of Tryz.func134 (by kernel_rfl) (by kernel_rfl) (by kernel_rfl) (by kernel_rfl)
theorem sb134 : Ent Tryz.prog 134 ∧ BuildC Tryz.prog 134 ss134 := sub_calls rt fi134 (of_decide_eq_true (by kernel_rfl)) ⟨fun w => by kernel_rfl, rfl, ⟨fun w => by kernel_rfl, rfl, ⟨fun w => by kernel_rfl, rfl, trivial⟩⟩⟩ (fun sv w => by kernel_rfl) rfl (of_decide_eq_true (by kernel_rfl))
def it85 : List BI := [([(0, 3), (2, -1), (3, -1), (4, -1)], none), ([(0, 2), (2, -1), (3, -1), (4, -1)], none), ([(0, 8), (2, -1), (3, 0), (4, -1)], none), ([(0, 2), (2, -1), (3, -1), (4, -1)], none), ([(0, 8), (2, -1), (3, 0), (4, -1)], none), ([(0, 10), (2, -1), (3, -1), (4, -1)], some 133), ([(0, 9), (2, -1), (3, -1), (4, -1)], none), ([(0, 11), (2, -1), (3, -1), (4, -1), (6, 10)], some 134)]
def ss85 : SFs := .cons 3 0 (-1) (-1) (-1) 0 0 .nil (.cons 2 0 (-1) (-1) (-1) 0 0 .nil (.cons 8 0 (-1) 0 (-1) 0 0 .nil (.cons 2 0 (-1) (-1) (-1) 0 0 .nil (.cons 8 0 (-1) 0 (-1) 0 0 .nil (.cons 10 0 (-1) (-1) (-1) 0 0 ss133 (.cons 9 0 (-1) (-1) (-1) 0 0 .nil (.cons 11 0 (-1) (-1) (-1) 0 10 ss134 (.nil))))))))
theorem fi85 : FnIs Tryz.prog 85 12 [0] (cSub sn it85) := fnIs_of Tryz.func85 (by kernel_rfl) (by kernel_rfl) (by kernel_rfl) (by kernel_rfl)
theorem sb85 : Ent Tryz.prog 85 ∧ BuildC Tryz.prog 85 ss85 := sub_calls rt fi85 (of_decide_eq_true (by kernel_rfl)) ⟨fun w => by kernel_rfl, rfl, ⟨fun w => by kernel_rfl, rfl, ⟨fun w => by kernel_rfl, rfl, ⟨fun w => by kernel_rfl, rfl, ⟨fun w => by kernel_rfl, rfl, ⟨fun base n c w => by kernel_rfl, sb133, ⟨fun w => by kernel_rfl, rfl, ⟨fun base n c w => by kernel_rfl, sb134, trivial⟩⟩⟩⟩⟩⟩⟩⟩ (fun sv w => by kernel_rfl) rfl (of_decide_eq_true (by kernel_rfl))
def it46 : List BI := [([(0, 7), (2, -1), (3, -1), (4, -1)], none), ([(0, 11), (2, -1), (3, -1), (4, -1), (6, 10)], some 85)]
def ss46 : SFs := .cons 7 0 (-1) (-1) (-1) 0 0 .nil (.cons 11 0 (-1) (-1) (-1) 0 10 ss85 (.nil))
theorem fi46 : FnIs Tryz.prog 46 5 [0] (cSub sn it46) := fnIs_of Tryz.func46 (by kernel_rfl) (by kernel_rfl) (by kernel_rfl) (by kernel_rfl)
theorem sb46 : Ent Tryz.prog 46 ∧ BuildC Tryz.prog 46 ss46 := sub_calls rt fi46 (of_decide_eq_true (by kernel_rfl)) ⟨fun w => by kernel_rfl, rfl, ⟨fun base n c w => by kernel_rfl, sb85, trivial⟩⟩ (fun sv w => by kernel_rfl) rfl (of_decide_eq_true (by kernel_rfl))
def it47 : List BI := [([(0, 3), (2, -1), (3, -1), (4, -1)], none), ([(0, 8), (2, -1), (3, -1), (4, -1)], none), ([(0, 3), (2, -1), (3, -1), (4, -1)], none), ([(0, 8), (2, -1), (3, 0), (4, -1)], none)]
def ss47 : SFs := .cons 3 0 (-1) (-1) (-1) 0 0 .nil (.cons 8 0 (-1) (-1) (-1) 0 0 .nil (.cons 3 0 (-1) (-1) (-1) 0 0 .nil (.cons 8 0 (-1) 0 (-1) 0 0 .nil (.nil))))
theorem fi47 : FnIs Tryz.prog 47 6 [0] (cSub sn it47) := fnIs_of Tryz.func47 (by kernel_rfl) (by kernel_rfl) (by kernel_rfl) (by kernel_rfl)
theorem sb47 : Ent Tryz.prog 47 ∧ BuildC Tryz.prog 47 ss47 := sub_calls rt fi47 (of_decide_eq_true (by kernel_rfl)) ⟨fun w => by kernel_rfl, rfl, ⟨fun w => by kernel_rfl, rfl, ⟨fun w => by kernel_rfl, rfl, ⟨fun w => by kernel_rfl, rfl, trivial⟩⟩⟩⟩ (fun sv w => by kernel_rfl) rfl (of_decide_eq_true (by kernel_rfl))
def itM : List BI := [([(0, 3), (2, -1), (3, -1), (4, -1)], none), ([(0, 2), (2, -1), (3, -1), (4, -1)], none), ([(0, 8), (2, -1), (3, 0), (4, -1)], none), ([(0, 3), (1, 1), (2, -1), (3, -1), (4, -1)], none), ([(0, 11), (2, -1), (3, -1), (4, -1), (6, 10)], some 46), ([(0, 11), (2, -1), (3, -1), (4, -1), (6, 10)], some 47)]
def ssM : SFs := .cons 3 0 (-1) (-1) (-1) 0 0 .nil (.cons 2 0 (-1) (-1) (-1) 0 0 .nil (.cons 8 0 (-1) 0 (-1) 0 0 .nil (.cons 3 1 (-1) (-1) (-1) 0 0 .nil (.cons 11 0 (-1) (-1) (-1) 0 10 ss46 (.cons 11 0 (-1) (-1) (-1) 0 10 ss47 (.nil))))))
theorem fiM : FnIsC Tryz.prog 21 11 0 sn.tMs (cMsgB sn 0 itM) := fnIsC_of Tryz.func21 (by kernel_rfl) (by kernel_rfl) (by kernel_rfl) (by kernel_rfl)
theorem sbM : Ent Tryz.prog 21 ∧ MsgBC Tryz.prog 21 0 ssM := msgb_calls rt (fun x base n c w => by kernel_rfl) fiM (of_decide_eq_true (by kernel_rfl)) ⟨fun w => by kernel_rfl, rfl, ⟨fun w => by kernel_rfl, rfl, ⟨fun w => by kernel_rfl, rfl, ⟨fun w => by kernel_rfl, rfl, ⟨fun base n c w => by kernel_rfl, sb46, ⟨fun base n c w => by kernel_rfl, sb47, trivial⟩⟩⟩⟩⟩⟩ (fun sv w => by kernel_rfl) rfl (of_decide_eq_true (by kernel_rfl))
theorem lawC : LawC Tryz.prog sn ln numbers.gErr 2 0 ssM (fun x l => againOut false true 0 fsShareFetchResponse x l) (okInL true 0 fsShareFetchResponse 2) :=
  lawC_of (tI16 := 42) (tErr := 52) rt msg (by kernel_rfl) (ifaceB_ok (by kernel_rfl)) (.inl (by kernel_rfl)) fn22 (by omega) fn11 (by omega) (ntSm := 26) (.inr fn13) (by omega) fn20 (by omega) fn45 (by omega) (by decide) sf_fZ4 sf_fZ3 sf_fZ2 sbM sf_fWrite sf_fPart.ent (ref_calls leaf sf_fPart sf_fField sf_fVal ssM (by kernel_rfl)).1
theorem fnL : FnIs Tryz.prog 6 35 [4] (cLag sn ln) := fnIs_of Tryz.func6 (by kernel_rfl) (by kernel_rfl) (by kernel_rfl) (by kernel_rfl)
theorem law {W : World} {x0 k : Nat} {cs : List Value} {t : Tr} (hx : x0 < 256) (ht : TrRp W k cs t) (hw : t.wt ≤ 1048576) (herr : ErrAt numbers.gErr W) : Calls Tryz.prog 6 [.int .u8 (x0 : Int), .agg cs.toArray].toArray W (TrueC W) :=
  again_law lawC (by kernel_rfl) (by kernel_rfl) fnL hx ht herr (fun v => k_lim (by kernel_rfl) (by kernel_rfl) hw v _)
end Go.Proofs.YtifmbhfkjinafabGreatDoorR.Kx
