/-
  FnCutAlterShareGroupOffsetsRequest: the numbers of the program, the code of its functions, and the law out of them.
-/
import Derived.Test.YthjaecnbgfohmabGreatDoorChecked
import Derived.Test.YthjaecnbgfohmabGreatDoorK1
import Derived.Test.YthjaecnbgfohmabGreatDoorK2
import Derived.Test.YthjaecnbgfohmabGreatDoorK3
import Derived.Test.YthjaecnbgfohmabGreatDoorK4
import Derived.Test.YthjaecnbgfohmabGreatDoorK5
import Derived.Test.YthjaecnbgfohmabGreatDoorK6
import Derived.Test.YthjaecnbgfohmabGreatDoorK7
import Derived.Test.YthjaecnbgfohmabGreatDoorK8
import Derived.Test.YthjaecnbgfohmabGreatDoorK9
import Derived.Test.YthjaecnbgfohmabGreatDoorK10
import Derived.Test.YthjaecnbgfohmabGreatDoorK11
import Derived.Test.YthjaecnbgfohmabGreatDoorK12
import Derived.Test.YthjaecnbgfohmabGreatDoorK13
import Derived.Test.YthjaecnbgfohmabGreatDoorK14
import Derived.Test.YthjaecnbgfohmabGreatDoorK15
import Derived.KernelRfl
import Derived.Test.YthjaecnbgfohmabGreatDoorSh
namespace Go.Proofs.YthjaecnbgfohmabGreatDoor.Kx
open Go Go.Proofs
set_option maxRecDepth 100000
def numbers : G := { rd := fun | .bool => 999999 | .i8 => 999999 | .i16 => 114 | .u16 => 999999 | .i32 => 94 | .i64 => 120 | .uuid => 112 | .str => 93 | .cstr => 92 | .nstr => 98 | .cnstr => 96 | .bytes => 105 | .cbytes => 104 | .nbytes => 999999 | .cnbytes => 999999, un := fun | .str => 91 | .cstr => 90 | .nstr => 97 | .cnstr => 95 | _ => 999999, len := 100, clen := 99, ok := 101, complete := 102, uv := 122, span := 124, tags := 106, set := 126, tR := 131, tUuid := 94, tVer := 42, tI8 := 999999, tI32 := 21, tU32 := 61, tInt := 3, tBool := 4, tErr := 52, tTags := 69, tSl := 22, tStr := 9, gErr := 1 }
def numbersW : GW := { ap := fun | .bool => 999999 | .i8 => 999999 | .i16 => 76 | .u16 => 115 | .i32 => 62 | .i64 => 83 | .uuid => 75 | .str => 61 | .cstr => 60 | .nstr => 64 | .cnstr => 63 | .bytes => 68 | .cbytes => 67 | .nbytes => 999999 | .cnbytes => 999999, alen := 66, calen := 65, nalen := 999999, cnalen := 999999, uv := 69, tlen := 70, teach := 71, tVer := 42, tInt := 3, tU32 := 61, tSl := 22, tUuid := 94 }
def kn : Kn := { tRS := 131, tSl := 22, tB := 4, tInt := 3, tU8 := 5, tI8 := 999999, tI16 := 42, tU16 := 39, tI32 := 21, tU32 := 61, tI64 := 2, tU64 := 78, tStr := 9, tUuid := 94, tBE := 152, tErr := 52, gBE := 0, gErr := 1, fU16 := 130, fU32 := 125, fU64 := 138, fUv := 132, fR64 := 131 }
theorem mixed : Tryz.prog.follows .mixedOrders = true := by kernel_rfl
def fsAlterShareGroupOffsetsRequest : Fds := (.cons 0 none none (0) 1 (.str none) (.cons 0 none none (0) 2 (.list none 3 (.struct none (some 2) (.cons 0 none none (0) 0 (.str none) (.cons 0 none none (0) 1 (.list none 3 (.struct none (some 2) (.cons 0 none none (0) 0 (.prim .i32) (.cons 0 none none (0) 1 (.prim .i64) .nil)))) .nil)))) .nil))
def nmAlterShareGroupOffsetsRequest : Nm := (.mk [] [(.mk [11, 114, 1, 9] []), (.mk [12, 114, 2, 112, 13, 14, 15, 0, 1] [(.mk [16, 17, 118, 118, 2] [(.mk [] [(.mk [18, 118, 0, 9] []), (.mk [19, 118, 1, 116, 20, 21, 22, 2, 3] [(.mk [23, 24, 119, 121, 2] [(.mk [] [(.mk [25, 121, 0, 21] []), (.mk [26, 121, 1, 2] [])])])])])])])])
def nwAlterShareGroupOffsetsRequest : List Nm := [(.mk [7, 114, 1, 9] []), (.mk [8, 114, 2, 112, 9, 0, 1] [(.mk [10, 118, 2] [(.mk [] [(.mk [11, 118, 0, 9] []), (.mk [12, 118, 1, 116, 13, 2, 3] [(.mk [14, 121, 2] [(.mk [] [(.mk [15, 121, 0, 21] []), (.mk [16, 121, 1, 2] [])])])])])])])]
theorem fn114 : FnIs Tryz.prog 114 32 [2] (cI16 kn) := fnIs_of Tryz.func114 (by kernel_rfl) (by kernel_rfl) (by kernel_rfl) (by kernel_rfl) -- (*pub-kmsg/pub/kmsg/inner/kbin.Reader).Int16
theorem fn94 : FnIs Tryz.prog 94 32 [2] (cI32 kn) := fnIs_of Tryz.func94 (by kernel_rfl) (by kernel_rfl) (by kernel_rfl) (by kernel_rfl) -- (*pub-kmsg/pub/kmsg/inner/kbin.Reader).Int32
theorem fn131 : FnIs Tryz.prog 131 31 [2] (cR64 kn) := fnIs_of Tryz.func131 (by kernel_rfl) (by kernel_rfl) (by kernel_rfl) (by kernel_rfl) -- (*pub-kmsg/pub/kmsg/inner/kbin.Reader).readUint64
theorem fn120 : FnIs Tryz.prog 120 6 [2] (cI64 kn) := fnIs_of Tryz.func120 (by kernel_rfl) (by kernel_rfl) (by kernel_rfl) (by kernel_rfl) -- (*pub-kmsg/pub/kmsg/inner/kbin.Reader).Int64
theorem fn132 : FnIs Tryz.prog 132 87 [2, 3] (cUvIn kn) := fnIs_of Tryz.func132 (by kernel_rfl) (by kernel_rfl) (by kernel_rfl) (by kernel_rfl) -- pub-kmsg/pub/kmsg/inner/kbin.Uvarint
theorem fn122 : FnIs Tryz.prog 122 31 [2] (cUv kn) := fnIs_of Tryz.func122 (by kernel_rfl) (by kernel_rfl) (by kernel_rfl) (by kernel_rfl) -- (*pub-kmsg/pub/kmsg/inner/kbin.Reader).Uvarint
theorem fn112 : FnIsC Tryz.prog 112 9 2 94 (cUuid numbers kn) := fnIsC_of Tryz.func112 (by kernel_rfl) (by kernel_rfl) (by kernel_rfl) (by kernel_rfl) -- (*pub-kmsg/pub/kmsg/inner/kbin.Reader).Uuid
theorem fn106 : FnIsC Tryz.prog 106 24 2 69 (cRdTags numbers kn) := fnIsC_of Tryz.func106 (by kernel_rfl) (by kernel_rfl) (by kernel_rfl) (by kernel_rfl) -- pub-kmsg/pub/kmsg.internalReadTags
theorem fn126 : FnIs Tryz.prog 126 21 [] (cSet numbers 67) := fnIs_of Tryz.func126 (by kernel_rfl) (by kernel_rfl) (by kernel_rfl) (by kernel_rfl) -- (*pub-kmsg/pub/kmsg.Tags).Set
theorem fn101 : FnIs Tryz.prog 101 8 [2] (cOk kn) := fnIs_of Tryz.func101 (by kernel_rfl) (by kernel_rfl) (by kernel_rfl) (by kernel_rfl) -- (*pub-kmsg/pub/kmsg/inner/kbin.Reader).Ok
theorem fn102 : FnIs Tryz.prog 102 8 [2] (cComplete kn) := fnIs_of Tryz.func102 (by kernel_rfl) (by kernel_rfl) (by kernel_rfl) (by kernel_rfl) -- (*pub-kmsg/pub/kmsg/inner/kbin.Reader).Complete
theorem fn124 : FnIs Tryz.prog 124 40 [4] (cSpan kn) := fnIs_of Tryz.func124 (by kernel_rfl) (by kernel_rfl) (by kernel_rfl) (by kernel_rfl) -- (*pub-kmsg/pub/kmsg/inner/kbin.Reader).Span
theorem fn93 : FnIs Tryz.prog 93 11 [2] (cStr numbers kn) := fnIs_of Tryz.func93 (by kernel_rfl) (by kernel_rfl) (by kernel_rfl) (by kernel_rfl) -- (*pub-kmsg/pub/kmsg/inner/kbin.Reader).String
theorem fn92 : FnIs Tryz.prog 92 12 [2] (cCStr numbers kn) := fnIs_of Tryz.func92 (by kernel_rfl) (by kernel_rfl) (by kernel_rfl) (by kernel_rfl) -- (*pub-kmsg/pub/kmsg/inner/kbin.Reader).CompactString
theorem fn98 : FnIs Tryz.prog 98 14 [2] (cNStr numbers kn) := fnIs_of Tryz.func98 (by kernel_rfl) (by kernel_rfl) (by kernel_rfl) (by kernel_rfl) -- (*pub-kmsg/pub/kmsg/inner/kbin.Reader).NullableString
theorem fn96 : FnIs Tryz.prog 96 15 [2] (cCNStr numbers kn) := fnIs_of Tryz.func96 (by kernel_rfl) (by kernel_rfl) (by kernel_rfl) (by kernel_rfl) -- (*pub-kmsg/pub/kmsg/inner/kbin.Reader).CompactNullableString
theorem fn105 : FnIs Tryz.prog 105 13 [2] (cBytes numbers kn) := fnIs_of Tryz.func105 (by kernel_rfl) (by kernel_rfl) (by kernel_rfl) (by kernel_rfl) -- (*pub-kmsg/pub/kmsg/inner/kbin.Reader).Bytes
theorem fn104 : FnIs Tryz.prog 104 14 [2] (cCBytes numbers kn) := fnIs_of Tryz.func104 (by kernel_rfl) (by kernel_rfl) (by kernel_rfl) (by kernel_rfl) -- (*pub-kmsg/pub/kmsg/inner/kbin.Reader).CompactBytes
theorem fn100 : FnIs Tryz.prog 100 21 [2] (cLen numbers kn) := fnIs_of Tryz.func100 (by kernel_rfl) (by kernel_rfl) (by kernel_rfl) (by kernel_rfl) -- (*pub-kmsg/pub/kmsg/inner/kbin.Reader).ArrayLen
theorem fn99 : FnIs Tryz.prog 99 23 [2] (cCLen numbers kn) := fnIs_of Tryz.func99 (by kernel_rfl) (by kernel_rfl) (by kernel_rfl) (by kernel_rfl) -- (*pub-kmsg/pub/kmsg/inner/kbin.Reader).CompactArrayLen
theorem fn130 : FnIs Tryz.prog 130 18 [4] (gBig kn kn.tU16 .u16 2) := fnIs_of Tryz.func130 (by kernel_rfl) (by kernel_rfl) (by kernel_rfl) (by kernel_rfl) -- (encoding/binary.bigEndian).Uint16
theorem fn125 : FnIs Tryz.prog 125 30 [4] (gBig kn kn.tU32 .u32 4) := fnIs_of Tryz.func125 (by kernel_rfl) (by kernel_rfl) (by kernel_rfl) (by kernel_rfl) -- (encoding/binary.bigEndian).Uint32
theorem fn138 : FnIs Tryz.prog 138 54 [4] (gBig kn kn.tU64 .u64 8) := fnIs_of Tryz.func138 (by kernel_rfl) (by kernel_rfl) (by kernel_rfl) (by kernel_rfl) -- (encoding/binary.bigEndian).Uint64
theorem fn115 : FnIs Tryz.prog 115 13 [4] (cAU16 kn) := fnIs_of Tryz.func115 (by kernel_rfl) (by kernel_rfl) (by kernel_rfl) (by kernel_rfl) -- pub-kmsg/pub/kmsg/inner/kbin.AppendUint16
theorem fn107 : FnIs Tryz.prog 107 19 [4] (cAU32 kn) := fnIs_of Tryz.func107 (by kernel_rfl) (by kernel_rfl) (by kernel_rfl) (by kernel_rfl) -- pub-kmsg/pub/kmsg/inner/kbin.AppendUint32
theorem fn121 : FnIs Tryz.prog 121 31 [4] (cAU64 kn) := fnIs_of Tryz.func121 (by kernel_rfl) (by kernel_rfl) (by kernel_rfl) (by kernel_rfl) -- pub-kmsg/pub/kmsg/inner/kbin.appendUint64
theorem fn76 : FnIs Tryz.prog 76 9 [4] (cACv kn.tI16 kn.tU16 115) := fnIs_of Tryz.func76 (by kernel_rfl) (by kernel_rfl) (by kernel_rfl) (by kernel_rfl) -- pub-kmsg/pub/kmsg/inner/kbin.AppendInt16
theorem fn62 : FnIs Tryz.prog 62 9 [4] (cACv kn.tI32 kn.tU32 107) := fnIs_of Tryz.func62 (by kernel_rfl) (by kernel_rfl) (by kernel_rfl) (by kernel_rfl) -- pub-kmsg/pub/kmsg/inner/kbin.AppendInt32
theorem fn83 : FnIs Tryz.prog 83 9 [4] (cACv kn.tI64 kn.tU64 121) := fnIs_of Tryz.func83 (by kernel_rfl) (by kernel_rfl) (by kernel_rfl) (by kernel_rfl) -- pub-kmsg/pub/kmsg/inner/kbin.AppendInt64
theorem fn66 : FnIs Tryz.prog 66 9 [4] (cACv kn.tInt kn.tI32 62) := fnIs_of Tryz.func66 (by kernel_rfl) (by kernel_rfl) (by kernel_rfl) (by kernel_rfl) -- pub-kmsg/pub/kmsg/inner/kbin.AppendArrayLen
theorem fn65 : FnIs Tryz.prog 65 10 [4] (cACv1 kn 69) := fnIs_of Tryz.func65 (by kernel_rfl) (by kernel_rfl) (by kernel_rfl) (by kernel_rfl) -- pub-kmsg/pub/kmsg/inner/kbin.AppendCompactArrayLen
theorem fn75 : FnIs Tryz.prog 75 8 [4] (cAUuid kn) := fnIs_of Tryz.func75 (by kernel_rfl) (by kernel_rfl) (by kernel_rfl) (by kernel_rfl) -- pub-kmsg/pub/kmsg/inner/kbin.AppendUuid
theorem fn61 : FnIs Tryz.prog 61 13 [4] (cAStr kn kn.tStr kn.tI16 76) := fnIs_of Tryz.func61 (by kernel_rfl) (by kernel_rfl) (by kernel_rfl) (by kernel_rfl) -- pub-kmsg/pub/kmsg/inner/kbin.AppendString
theorem fn60 : FnIs Tryz.prog 60 14 [4] (cACStr kn kn.tStr 69) := fnIs_of Tryz.func60 (by kernel_rfl) (by kernel_rfl) (by kernel_rfl) (by kernel_rfl) -- pub-kmsg/pub/kmsg/inner/kbin.AppendCompactString
theorem fn68 : FnIs Tryz.prog 68 13 [4] (cAStr kn kn.tSl kn.tI32 62) := fnIs_of Tryz.func68 (by kernel_rfl) (by kernel_rfl) (by kernel_rfl) (by kernel_rfl) -- pub-kmsg/pub/kmsg/inner/kbin.AppendBytes
theorem fn67 : FnIs Tryz.prog 67 14 [4] (cACStr kn kn.tSl 69) := fnIs_of Tryz.func67 (by kernel_rfl) (by kernel_rfl) (by kernel_rfl) (by kernel_rfl) -- pub-kmsg/pub/kmsg/inner/kbin.AppendCompactBytes
theorem fn64 : FnIs Tryz.prog 64 14 [4] (cANStr kn 65 (.int .i16 (-1)) 76 61) := fnIs_of Tryz.func64 (by kernel_rfl) (by kernel_rfl) (by kernel_rfl) (by kernel_rfl) -- pub-kmsg/pub/kmsg/inner/kbin.AppendNullableString
theorem fn63 : FnIs Tryz.prog 63 14 [4] (cANStr kn 65 (.int .u32 0) 69 60) := fnIs_of Tryz.func63 (by kernel_rfl) (by kernel_rfl) (by kernel_rfl) (by kernel_rfl) -- pub-kmsg/pub/kmsg/inner/kbin.AppendCompactNullableString
theorem fn69 : FnIs Tryz.prog 69 93 [4] (cAUv kn 108) := fnIs_of Tryz.func69 (by kernel_rfl) (by kernel_rfl) (by kernel_rfl) (by kernel_rfl) -- pub-kmsg/pub/kmsg/inner/kbin.AppendUvarint
theorem fn108 : FnIs Tryz.prog 108 8 [2] (cUvLen kn 127) := fnIs_of Tryz.func108 (by kernel_rfl) (by kernel_rfl) (by kernel_rfl) (by kernel_rfl) -- pub-kmsg/pub/kmsg/inner/kbin.UvarintLen
theorem fn127 : FnIs Tryz.prog 127 19 [2] (cLen32 kn 61) := fnIs_of Tryz.func127 (by kernel_rfl) (by kernel_rfl) (by kernel_rfl) (by kernel_rfl) -- math/bits.Len32
theorem fn70 : FnIs Tryz.prog 70 8 [2] (cTLen kn 69 67) := fnIs_of Tryz.func70 (by kernel_rfl) (by kernel_rfl) (by kernel_rfl) (by kernel_rfl) -- (*pub-kmsg/pub/kmsg.Tags).Len
theorem fn24 : FnIs Tryz.prog 24 3 [0] (cNewPtr 71 50) := fnIs_of Tryz.func24 (by kernel_rfl) (by kernel_rfl) (by kernel_rfl) (by kernel_rfl) -- pub-kmsg/pub/kmsg.NewPtrSyncGroupRequest
theorem fn28 : FnIs Tryz.prog 28 8 [] (cSetV 71 42) := fnIs_of Tryz.func28 (by kernel_rfl) (by kernel_rfl) (by kernel_rfl) (by kernel_rfl) -- (*pub-kmsg/pub/kmsg.SyncGroupRequest).SetVersion
theorem fn29 : FnIs Tryz.prog 29 8 [4] (cRdF 59) := fnIs_of Tryz.func29 (by kernel_rfl) (by kernel_rfl) (by kernel_rfl) (by kernel_rfl) -- (*pub-kmsg/pub/kmsg.SyncGroupRequest).ReadFrom
theorem fn8 : FnIs Tryz.prog 8 4 [0] (cMax 42 3 24 25) := fnIs_of Tryz.func8 (by kernel_rfl) (by kernel_rfl) (by kernel_rfl) (by kernel_rfl) -- pub-kmsg/impl.MaxSyncGroupRequest
theorem fn25 : FnIs Tryz.prog 25 3 [2] (cMaxV 5) := fnIs_of Tryz.func25 (by kernel_rfl) (by kernel_rfl) (by kernel_rfl) (by kernel_rfl) -- (*pub-kmsg/pub/kmsg.SyncGroupRequest).MaxVersion
theorem fn12 : FnIs Tryz.prog 12 19 [4, 5] (cAgain 42 3 22 52 24 28 29 30) := fnIs_of Tryz.func12 (by kernel_rfl) (by kernel_rfl) (by kernel_rfl) (by kernel_rfl) -- pub-kmsg/impl.AgainSyncGroupRequest
theorem fn31 : FnIs Tryz.prog 31 3 [0] (cNewPtr 92 72) := fnIs_of Tryz.func31 (by kernel_rfl) (by kernel_rfl) (by kernel_rfl) (by kernel_rfl) -- pub-kmsg/pub/kmsg.NewPtrDeleteShareGroupStateResponse
theorem fn34 : FnIs Tryz.prog 34 8 [] (cSetV 92 42) := fnIs_of Tryz.func34 (by kernel_rfl) (by kernel_rfl) (by kernel_rfl) (by kernel_rfl) -- (*pub-kmsg/pub/kmsg.DeleteShareGroupStateResponse).SetVersion
theorem fn35 : FnIs Tryz.prog 35 8 [4] (cRdF 74) := fnIs_of Tryz.func35 (by kernel_rfl) (by kernel_rfl) (by kernel_rfl) (by kernel_rfl) -- (*pub-kmsg/pub/kmsg.DeleteShareGroupStateResponse).ReadFrom
theorem fn14 : FnIs Tryz.prog 14 4 [0] (cMax 42 3 31 32) := fnIs_of Tryz.func14 (by kernel_rfl) (by kernel_rfl) (by kernel_rfl) (by kernel_rfl) -- pub-kmsg/impl.MaxDeleteShareGroupStateResponse
theorem fn32 : FnIs Tryz.prog 32 3 [2] (cMaxV 0) := fnIs_of Tryz.func32 (by kernel_rfl) (by kernel_rfl) (by kernel_rfl) (by kernel_rfl) -- (*pub-kmsg/pub/kmsg.DeleteShareGroupStateResponse).MaxVersion
theorem fn16 : FnIs Tryz.prog 16 19 [4, 5] (cAgain 42 3 22 52 31 34 35 36) := fnIs_of Tryz.func16 (by kernel_rfl) (by kernel_rfl) (by kernel_rfl) (by kernel_rfl) -- pub-kmsg/impl.AgainDeleteShareGroupStateResponse
theorem fn37 : FnIs Tryz.prog 37 3 [0] (cNewPtr 105 77) := fnIs_of Tryz.func37 (by kernel_rfl) (by kernel_rfl) (by kernel_rfl) (by kernel_rfl) -- pub-kmsg/pub/kmsg.NewPtrWriteShareGroupStateResponse
theorem fn40 : FnIs Tryz.prog 40 8 [] (cSetV 105 42) := fnIs_of Tryz.func40 (by kernel_rfl) (by kernel_rfl) (by kernel_rfl) (by kernel_rfl) -- (*pub-kmsg/pub/kmsg.WriteShareGroupStateResponse).SetVersion
theorem fn41 : FnIs Tryz.prog 41 8 [4] (cRdF 79) := fnIs_of Tryz.func41 (by kernel_rfl) (by kernel_rfl) (by kernel_rfl) (by kernel_rfl) -- (*pub-kmsg/pub/kmsg.WriteShareGroupStateResponse).ReadFrom
theorem fn17 : FnIs Tryz.prog 17 4 [0] (cMax 42 3 37 38) := fnIs_of Tryz.func17 (by kernel_rfl) (by kernel_rfl) (by kernel_rfl) (by kernel_rfl) -- pub-kmsg/impl.MaxWriteShareGroupStateResponse
theorem fn38 : FnIs Tryz.prog 38 3 [2] (cMaxV 1) := fnIs_of Tryz.func38 (by kernel_rfl) (by kernel_rfl) (by kernel_rfl) (by kernel_rfl) -- (*pub-kmsg/pub/kmsg.WriteShareGroupStateResponse).MaxVersion
theorem fn19 : FnIs Tryz.prog 19 19 [4, 5] (cAgain 42 3 22 52 37 40 41 42) := fnIs_of Tryz.func19 (by kernel_rfl) (by kernel_rfl) (by kernel_rfl) (by kernel_rfl) -- pub-kmsg/impl.AgainWriteShareGroupStateResponse
theorem fn43 : FnIs Tryz.prog 43 3 [0] (cNewPtr 114 80) := fnIs_of Tryz.func43 (by kernel_rfl) (by kernel_rfl) (by kernel_rfl) (by kernel_rfl) -- pub-kmsg/pub/kmsg.NewPtrAlterShareGroupOffsetsRequest
theorem fn46 : FnIs Tryz.prog 46 8 [] (cSetV 114 42) := fnIs_of Tryz.func46 (by kernel_rfl) (by kernel_rfl) (by kernel_rfl) (by kernel_rfl) -- (*pub-kmsg/pub/kmsg.AlterShareGroupOffsetsRequest).SetVersion
theorem fn47 : FnIs Tryz.prog 47 8 [4] (cRdF 82) := fnIs_of Tryz.func47 (by kernel_rfl) (by kernel_rfl) (by kernel_rfl) (by kernel_rfl) -- (*pub-kmsg/pub/kmsg.AlterShareGroupOffsetsRequest).ReadFrom
theorem fn20 : FnIs Tryz.prog 20 4 [0] (cMax 42 3 43 44) := fnIs_of Tryz.func20 (by kernel_rfl) (by kernel_rfl) (by kernel_rfl) (by kernel_rfl) -- pub-kmsg/impl.MaxAlterShareGroupOffsetsRequest
theorem fn44 : FnIs Tryz.prog 44 3 [2] (cMaxV 0) := fnIs_of Tryz.func44 (by kernel_rfl) (by kernel_rfl) (by kernel_rfl) (by kernel_rfl) -- (*pub-kmsg/pub/kmsg.AlterShareGroupOffsetsRequest).MaxVersion
theorem fn22 : FnIs Tryz.prog 22 19 [4, 5] (cAgain 42 3 22 52 43 46 47 48) := fnIs_of Tryz.func22 (by kernel_rfl) (by kernel_rfl) (by kernel_rfl) (by kernel_rfl) -- pub-kmsg/impl.AgainAlterShareGroupOffsetsRequest
theorem fn11 : FnIs Tryz.prog 11 10 [4] (cVer 5 3) := fnIs_of Tryz.func11 (by kernel_rfl) (by kernel_rfl) (by kernel_rfl) (by kernel_rfl) -- pub-kmsg/laws.version
theorem fn13 : FnIs Tryz.prog 13 26 [4] (cSame 22 5 3) := fnIs_of Tryz.func13 (by kernel_rfl) (by kernel_rfl) (by kernel_rfl) (by kernel_rfl) -- pub-kmsg/spec.Same
theorem fn82 : FnIs Tryz.prog 82 156 [6] (gRead numbers true false ⟨true, 7, 10, 8, 9⟩ fsAlterShareGroupOffsetsRequest 80 114 3 0 27 nmAlterShareGroupOffsetsRequest) := fnIs_of Tryz.func82 (by kernel_rfl) (by kernel_rfl) (by kernel_rfl) (by kernel_rfl) -- (*pub-kmsg/pub/kmsg.AlterShareGroupOffsetsRequest).readFrom
theorem fn48 : FnIs Tryz.prog 48 148 [4] (gWrite numbersW false ⟨true, 0, 0, 5, 6⟩ fsAlterShareGroupOffsetsRequest 114 3 0 0 17 nwAlterShareGroupOffsetsRequest) := fnIs_of Tryz.func48 (by kernel_rfl) (by kernel_rfl) (by kernel_rfl) (by kernel_rfl) -- (*pub-kmsg/pub/kmsg.AlterShareGroupOffsetsRequest).AppendTo
def di80 : List DI := []
theorem fn80 : FnIs Tryz.prog 80 2 [] (gDflt di80 2) := fnIs_of Tryz.func80 (by kernel_rfl) (by kernel_rfl) (by kernel_rfl) (by kernel_rfl) -- (*pub-kmsg/pub/kmsg.AlterShareGroupOffsetsRequest).Default
noncomputable def dw80 : List (Nat × Value) := (dRun Tryz.prog 2 di80 [(0, 0)]).getD []
theorem df80 : Ent Tryz.prog 80 ∧ DfC Tryz.prog 80 dw80 := dfC_of (n0 := 2) (items := di80) (by kernel_rfl) fn80 (by kernel_rfl) (of_decide_eq_true (by kernel_rfl)) (by omega)
def di118 : List DI := []
theorem fn118 : FnIs Tryz.prog 118 2 [] (gDflt di118 2) := fnIs_of Tryz.func118 (by kernel_rfl) (by kernel_rfl) (by kernel_rfl) (by kernel_rfl) -- (*pub-kmsg/pub/kmsg.AlterShareGroupOffsetsRequestTopic).Default
noncomputable def dw118 : List (Nat × Value) := (dRun Tryz.prog 2 di118 [(0, 0)]).getD []
theorem df118 : Ent Tryz.prog 118 ∧ DfC Tryz.prog 118 dw118 := dfC_of (n0 := 2) (items := di118) (by kernel_rfl) fn118 (by kernel_rfl) (of_decide_eq_true (by kernel_rfl)) (by omega)
def di119 : List DI := []
theorem fn119 : FnIs Tryz.prog 119 2 [] (gDflt di119 2) := fnIs_of Tryz.func119 (by kernel_rfl) (by kernel_rfl) (by kernel_rfl) (by kernel_rfl) -- (*pub-kmsg/pub/kmsg.AlterShareGroupOffsetsRequestTopicPartition).Default
noncomputable def dw119 : List (Nat × Value) := (dRun Tryz.prog 2 di119 [(0, 0)]).getD []
theorem df119 : Ent Tryz.prog 119 ∧ DfC Tryz.prog 119 dw119 := dfC_of (n0 := 2) (items := di119) (by kernel_rfl) fn119 (by kernel_rfl) (of_decide_eq_true (by kernel_rfl)) (by omega)
noncomputable def dd : Nat → Option (List (Nat × Value))
  | 80 => some dw80
  | 118 => some dw118
  | 119 => some dw119
  | _ => none
theorem ddOk : ∀ f wr, dd f = some wr → Ent Tryz.prog f ∧ DfC Tryz.prog f wr := by
  intro f wr h
  unfold dd at h
  split at h
  · obtain rfl := Option.some.inj h; exact df80
  · obtain rfl := Option.some.inj h; exact df118
  · obtain rfl := Option.some.inj h; exact df119
  · cases h
theorem kt : KT Tryz.prog numbers kn where
  mixed := mixed
  f0 := fldB_ok (by kernel_rfl)
  f1 := fldB_ok (by kernel_rfl)
  sl := by kernel_rfl
  u8 := varB_ok (by kernel_rfl)
  dU8 := by kernel_rfl
  dI8 := fun h => absurd h (by decide)
  dI16 := by kernel_rfl
  dI32 := by kernel_rfl
  dU32 := by kernel_rfl
  dInt := by kernel_rfl
theorem kbig : KBig Tryz.prog kn where
  be := varB_ok (by kernel_rfl)
  d16 := by kernel_rfl
  d64 := fun _ => by kernel_rfl
  dI64 := fun _ => by kernel_rfl
  f16 := fun _ => fn130
  f32 := fun _ => fn125
  f64 := fun _ => fn138
theorem ksub : KSub Tryz.prog numbers kn kn.tRS where
  e16 := fun _ => fn114.ent
  c16 := fun _ w S R r hR hRS => (i16_calls kt kbig rfl fn114 (by omega) hR hRS).mono fun e w' h => (fun h => ⟨h.1, h.2.1, h.2.2.1⟩) (rdOk_int (p := .i16) (.inr (.inl ⟨rfl, rfl⟩)) rfl h)
  e32 := fun _ => fn94.ent
  c32 := fun _ w S R r hR hRS => (i32_calls kt kbig rfl fn94 (by omega) hR hRS).mono fun e w' h => (fun h => ⟨h.1, h.2.1, h.2.2.1⟩) (rdOk_int (p := .i32) (.inr (.inr (.inl ⟨rfl, rfl⟩))) rfl h)
  eU := fun _ => fn122.ent
  cU := fun _ w S R r hR hRS => uv_calls kt fn132 (by omega) fn122 (by omega) hR hRS
  eS := fun _ => fn124.ent
  cS := fun _ w S R r k hR hRS => span_calls kt fn124 (by omega) hR hRS
  dStr := by kernel_rfl
  vStr := varB_ok (by kernel_rfl)
  zStr := zeroOf_ok (by kernel_rfl)
def tn : TN := { tTags := 69, tM := 67, tKs := 154, tU32 := 61, tInt := 3, tSl := 22, fSort := 128, fLess := 129, fEach := 109, fOne := 110, fUv := 69 }
theorem fn109 : FnIs Tryz.prog 109 53 [] (cEach tn) := fnIs_of Tryz.func109 (by kernel_rfl) (by kernel_rfl) (by kernel_rfl) (by kernel_rfl) -- (*pub-kmsg/pub/kmsg.Tags).Each
theorem fn129 : FnIs Tryz.prog 129 15 [5] (cTLess tn) := fnIs_of Tryz.func129 (by kernel_rfl) (by kernel_rfl) (by kernel_rfl) (by kernel_rfl) -- (*pub-kmsg/pub/kmsg.Tags).Each$1
theorem fn71 : FnIs Tryz.prog 71 9 [4] (cTEach tn) := fnIs_of Tryz.func71 (by kernel_rfl) (by kernel_rfl) (by kernel_rfl) (by kernel_rfl) -- (*pub-kmsg/pub/kmsg.Tags).AppendEach
theorem fn110 : FnIs Tryz.prog 110 16 [] (cTOne tn) := fnIs_of Tryz.func110 (by kernel_rfl) (by kernel_rfl) (by kernel_rfl) (by kernel_rfl) -- (*pub-kmsg/pub/kmsg.Tags).AppendEach$1
theorem tf : TF Tryz.prog tn where
  map := ⟨61, 22, by kernel_rfl, by kernel_rfl⟩
  fld := fldB_ok (by kernel_rfl)
  sl := by kernel_rfl
  info := infoB_ok (by kernel_rfl)
  vU := varB_ok (by kernel_rfl)
  vK := varB_ok (by kernel_rfl)
  zK := zeroOf_ok (by kernel_rfl)
  dInt := by kernel_rfl
  dU32 := by kernel_rfl
theorem sortOk : SortOk Tryz.prog tn := sortOk_of (it := (Tryz.prog.info? 154).get (by kernel_rfl)) (ie := (Tryz.prog.info? 61).get (by kernel_rfl)) (ke := 10) (f1 := 139) (f2 := 140) (f6 := 144) mixed tf Tryz.sa6 rfl (enters_of Tryz.func128 (by kernel_rfl) rfl) fn129 (by omega) (by kernel_rfl) (by kernel_rfl) (by kernel_rfl) (by kernel_rfl) (fun _ => by kernel_rfl) (by kernel_rfl) (by kernel_rfl) (by kernel_rfl) fn129.ent (by kernel_rfl) (by kernel_rfl) (by kernel_rfl) (fun args W => run_callFunc_extern Tryz.func144 (by kernel_rfl) (by kernel_rfl) (by kernel_rfl) (e := Extern.ReflectliteSwapper.swap true) (by kernel_rfl) args W)
theorem setOk : SetOk Tryz.prog numbers.set := fun _ _ _ _ _ _ _ _ _ _ hk hB hO ht hv => set_calls (tM := 67) (kt := 61) (et := 22) mixed fn126 (by omega) (by kernel_rfl) (by kernel_rfl) (fldB_ok (by kernel_rfl)) hk hB hO ht hv
def av : PF → Bool
  | .i16 => true
  | .i32 => true
  | .i64 => true
  | .uuid => true
  | .str => true
  | .cstr => true
  | .nstr => true
  | .cnstr => true
  | .bytes => true
  | .cbytes => true
  | _ => false
theorem rdAll : ∀ p, av p = true → RdOk Tryz.prog numbers.tR p (numbers.rd p) := by
  intro p h
  cases p
  · cases h
  · cases h
  · exact rdOk_i16 kt kbig rfl fn114 (by omega)
  · cases h
  · exact rdOk_i32 kt kbig rfl fn94 (by omega)
  · exact rdOk_i64 kt kbig rfl fn131 (by omega) fn120 (by omega)
  · exact rdOk_uuid kt ksub rfl (varB_ok (by kernel_rfl)) (zeroOf_ok (by kernel_rfl)) (by kernel_rfl) fn112 (by omega)
  · exact rdOk_str kt ksub rfl rfl fn93 (by omega)
  · exact rdOk_cstr kt ksub rfl rfl fn92 (by omega)
  · exact rdOk_nstr kt ksub rfl rfl fn98 (by omega)
  · exact rdOk_cnstr kt ksub rfl rfl fn96 (by omega)
  · exact rdOk_bytes kt ksub rfl rfl fn105 (by omega)
  · exact rdOk_cbytes kt ksub rfl rfl fn104 (by omega)
  · cases h
  · cases h
theorem kb : KB Tryz.prog numbers av true where
  mixed := mixed
  rdE p h := (rdAll p h).1
  rdC p h := (rdAll p h).2
  i8C := fun h => absurd h (by decide)
  okE := fun _ => fn101.ent
  okC := fun _ w S R r hR => ok_calls kt fn101 (by omega) hR
  cmE := fn102.ent
  cmC w S R r hR he := complete_calls kt fn102 (by omega) (varB_ok (by kernel_rfl)) hR he
  lenE := fun _ => fn100.ent
  lenC := fun _ w S R r hR hRS => len_calls kt ksub rfl fn100 (by omega) hR hRS
  clenE := fun _ _ => fn99.ent
  clenC := fun _ _ w S R r hR hRS => clen_calls kt ksub rfl fn99 (by omega) hR hRS
  uvE := fun _ => fn122.ent
  uvC := fun _ w S R r hR hRS => ksub.cU rfl w S R r hR hRS
  spanE := fun _ => fn124.ent
  spanC := fun _ w S R r k _ _ hR hRS => ksub.cS rfl w S R r k hR hRS
  tagsE := fun _ => fn106.ent
  tagsC := fun _ w S R r hR hRS hS => rdTags_calls kt ksub rfl rfl rfl fn126.ent setOk (zeroOf_ok (by kernel_rfl)) (varB_ok (by kernel_rfl)) fn106 (by omega) hR hRS hS
  setE := fun _ => fn126.ent
  setC := fun _ => setOk
  fR := twoB_ok (by kernel_rfl)
  zR := zeroOf_ok (by kernel_rfl)
  vR := varB_ok (by kernel_rfl)
  uuid := fun _ => ⟨varB_ok (by kernel_rfl), zeroOf_ok (by kernel_rfl)⟩
  tI32 := by kernel_rfl
  tU32 := fun _ => by kernel_rfl
  tInt := by kernel_rfl
  vStr := ⟨varB_ok (by kernel_rfl), zeroOf_ok (by kernel_rfl)⟩
  vTags := fun _ => varB_ok (by kernel_rfl)
  tErr := fun _ => ifaceB_ok (by kernel_rfl)
theorem env : Env Tryz.prog numbers av true dd := ⟨kb, ddOk⟩
theorem oct : OctT Tryz.prog kn.tSl kn.tU8 := octB_ok (by kernel_rfl)
theorem wt : WT Tryz.prog kn where
  mixed := mixed
  oct := oct
  dU8 := by kernel_rfl
  dI8 := fun h => absurd h (by decide)
  dI16 := by kernel_rfl
  dU16 := fun _ => by kernel_rfl
  dI32 := by kernel_rfl
  dU32 := by kernel_rfl
  dInt := by kernel_rfl
  dI64 := fun _ => by kernel_rfl
  dU64 := fun _ => by kernel_rfl
  dStr := by kernel_rfl
  vStr := varB_ok (by kernel_rfl)
theorem uvC (x : Nat) (w : World) (h : x < 4294967296) : ApC Tryz.prog kn.tU8 numbersW.uv (.int .u32 x) (uvar x) w := ap_uv wt (by kernel_rfl) fn127 (by omega) fn108 (by omega) fn69 (by omega) h w
theorem i16C (x : Int) (w : World) : ApC Tryz.prog kn.tU8 76 (.int .i16 x) (be 2 x) w := ap_i16 wt rfl fn115 (by omega) fn76 (by omega) x w
theorem i32C (x : Int) (w : World) : ApC Tryz.prog kn.tU8 62 (.int .i32 x) (be 4 x) w := ap_i32 wt fn107 (by omega) fn62 (by omega) x w
def avw : PF → Bool
  | .i16 => true
  | .u16 => true
  | .i32 => true
  | .i64 => true
  | .uuid => true
  | .str => true
  | .cstr => true
  | .nstr => true
  | .cnstr => true
  | .bytes => true
  | .cbytes => true
  | _ => false
theorem apAll : ∀ p, avw p = true → AppOk Tryz.prog kn.tU8 p (numbersW.ap p) := by
  intro p h
  cases p
  · cases h
  · cases h
  · exact app_i16 wt rfl fn115 (by omega) fn76 (by omega)
  · exact app_u16 wt rfl fn115 (by omega)
  · exact app_i32 wt fn107 (by omega) fn62 (by omega)
  · exact app_i64 wt rfl rfl fn121 (by omega) fn83 (by omega)
  · exact app_uuid wt (varB_ok (by kernel_rfl)) (by kernel_rfl) fn75 (by omega)
  · exact app_str wt (app_i16 wt rfl fn115 (by omega) fn76 (by omega)) i16C fn61 (by omega)
  · exact app_cstr wt fn69.ent (fun x w h => uvC x w h) fn60 (by omega)
  · exact app_nstr wt (fx := false) rfl (by kernel_rfl) fn76.ent (fun w => i16C (-1) w) (app_str wt (app_i16 wt rfl fn115 (by omega) fn76 (by omega)) i16C fn61 (by omega)) fn64 (by omega)
  · exact app_nstr wt (fx := true) rfl (by kernel_rfl) fn69.ent (fun w => uvC 0 w (by omega)) (app_cstr wt fn69.ent (fun x w h => uvC x w h) fn60 (by omega)) fn63 (by omega)
  · exact app_bytes wt fn62.ent i32C fn68 (by omega)
  · exact app_cbytes wt fn69.ent (fun x w h => uvC x w h) fn67 (by omega)
  · cases h
  · cases h
theorem kw : KW Tryz.prog numbersW avw true false kn.tU8 where
  mixed := mixed
  oct := oct
  dInt := by kernel_rfl
  dU32 := fun _ => by kernel_rfl
  apE p h := (apAll p h).1
  apC p h := (apAll p h).2
  alE := fun _ => fn66.ent
  alC := fun _ n w => ap_len wt fn62.ent i32C fn66 (by omega) n w
  clE := fun _ _ => fn65.ent
  clC := fun _ _ n w => ap_clen wt fn69.ent (fun x w h => uvC x w h) fn65 (by omega) n w
  nlE := fun h => absurd h (by decide)
  nlC := fun h => absurd h (by decide)
  cnE := fun h => absurd h (by decide)
  cnC := fun h => absurd h (by decide)
  uvE := fun _ => fn69.ent
  uvC := fun _ x w h => uvC x w h
  tlE := fun _ => fn70.ent
  tlC := fun _ w b o m X t hc ht => tlen_calls (kt := 61) (et := 22) mixed (by kernel_rfl) (fldB_ok (by kernel_rfl)) fn70 (by omega) hc ht
  teE := fun _ => fn71.ent
  teC := fun _ w b o m L t d bs hc hb ht hd hL hlim => teach_calls mixed tf sortOk oct (varB_ok (by kernel_rfl)) fn69.ent (fun x w h => uvC x w h) fn109 (by omega) fn110 (by omega) fn71 (by omega) hc hb ht hd hL hlim
  uuid := fun _ => ⟨varB_ok (by kernel_rfl), zeroOf_ok (by kernel_rfl)⟩
noncomputable def zv : Value := (zeroOf Tryz.prog 114).getD undef
noncomputable def zz : Array Value := applyWr zv.cells 0 dw80
theorem msg : MsgC Tryz.prog numbers.gErr kn.tU8 false true 0 fsAlterShareGroupOffsetsRequest (some 3) 114 zz 43 46 47 48 :=
  msgC_of (cx := ⟨true, 7, 10, 8, 9⟩) (cw := ⟨true, 0, 0, 5, 6⟩) (nm := nmAlterShareGroupOffsetsRequest) (ms := nwAlterShareGroupOffsetsRequest) (tI16 := 42) env kw (by decide) (by decide) rfl rfl fn43 (by omega) fn46 (by omega) fn47 (by omega) fn82 (by omega) fn48 (by kernel_rfl) (by kernel_rfl) rfl (of_decide_eq_true (by kernel_rfl)) (by kernel_rfl) (by kernel_rfl) rfl (by kernel_rfl) (by kernel_rfl)
def sn : SN := { tInt := 3, tI64 := 2, tU8 := 5, tU64 := 78, tU32 := 61, tU16 := 39, tB := 4, tSl := 22, tF := 48, tFs := 30, tT := 26, tTs := 23, tG := 63, tGs := 24, tMs := 32, fPart := 26, fHas := 51, fField := 52, fAt := 53, fKnown := 54, fUsual := 55, fUv := 56, fUnk := 57, fWhole := 58, fNull := 84, fThings := 85, fCnt := 86, fVal := 87, fFix := 88, fWid := 89, fWrite := 9, fSame := 13, fZ2 := 7, fZ3 := 23, fZ4 := 49 }
theorem sf_fPart : FnIs Tryz.prog sn.fPart 132 [8] (csPt sn) := fnIs_of Tryz.func26 (by kernel_rfl) (by kernel_rfl) (by kernel_rfl) (by kernel_rfl)
theorem sf_fHas : FnIs Tryz.prog sn.fHas 20 [4] (csHs sn) := fnIs_of Tryz.func51 (by kernel_rfl) (by kernel_rfl) (by kernel_rfl) (by kernel_rfl)
theorem sf_fField : FnIs Tryz.prog sn.fField 76 [8] (csFl sn) := fnIs_of Tryz.func52 (by kernel_rfl) (by kernel_rfl) (by kernel_rfl) (by kernel_rfl)
theorem sf_fAt : FnIsC Tryz.prog sn.fAt 16 4 26 (csAt sn) := fnIsC_of Tryz.func53 (by kernel_rfl) (by kernel_rfl) (by kernel_rfl) (by kernel_rfl)
theorem sf_fKnown : FnIs Tryz.prog sn.fKnown 23 [2] (csKw sn) := fnIs_of Tryz.func54 (by kernel_rfl) (by kernel_rfl) (by kernel_rfl) (by kernel_rfl)
theorem sf_fUv : FnIs Tryz.prog sn.fUv 20 [2] (csUvr sn) := fnIs_of Tryz.func56 (by kernel_rfl) (by kernel_rfl) (by kernel_rfl) (by kernel_rfl)
theorem sf_fUnk : FnIs Tryz.prog sn.fUnk 85 [4] (csUn sn) := fnIs_of Tryz.func57 (by kernel_rfl) (by kernel_rfl) (by kernel_rfl) (by kernel_rfl)
theorem sf_fWhole : FnIs Tryz.prog sn.fWhole 8 [2] (csWh sn) := fnIs_of Tryz.func58 (by kernel_rfl) (by kernel_rfl) (by kernel_rfl) (by kernel_rfl)
theorem sf_fNull : FnIs Tryz.prog sn.fNull 20 [6] (csNu sn) := fnIs_of Tryz.func84 (by kernel_rfl) (by kernel_rfl) (by kernel_rfl) (by kernel_rfl)
theorem sf_fThings : FnIs Tryz.prog sn.fThings 8 [2] (csTh sn) := fnIs_of Tryz.func85 (by kernel_rfl) (by kernel_rfl) (by kernel_rfl) (by kernel_rfl)
theorem sf_fCnt : FnIs Tryz.prog sn.fCnt 28 [8] (csCn sn) := fnIs_of Tryz.func86 (by kernel_rfl) (by kernel_rfl) (by kernel_rfl) (by kernel_rfl)
theorem sf_fVal : FnIs Tryz.prog sn.fVal 70 [12] (csVa sn) := fnIs_of Tryz.func87 (by kernel_rfl) (by kernel_rfl) (by kernel_rfl) (by kernel_rfl)
theorem sf_fFix : FnIs Tryz.prog sn.fFix 22 [4] (csFi sn) := fnIs_of Tryz.func88 (by kernel_rfl) (by kernel_rfl) (by kernel_rfl) (by kernel_rfl)
theorem sf_fWid : FnIs Tryz.prog sn.fWid 11 [2] (csWd sn) := fnIs_of Tryz.func89 (by kernel_rfl) (by kernel_rfl) (by kernel_rfl) (by kernel_rfl)
theorem sf_fWrite : FnIs Tryz.prog sn.fWrite 21 [6] (csWr sn) := fnIs_of Tryz.func9 (by kernel_rfl) (by kernel_rfl) (by kernel_rfl) (by kernel_rfl)
theorem sf_fZ2 : FnIs Tryz.prog sn.fZ2 15 [2] (csZ2 sn) := fnIs_of Tryz.func7 (by kernel_rfl) (by kernel_rfl) (by kernel_rfl) (by kernel_rfl)
theorem sf_fZ3 : FnIs Tryz.prog sn.fZ3 18 [2] (csZ3 sn) := fnIs_of Tryz.func23 (by kernel_rfl) (by kernel_rfl) (by kernel_rfl) (by kernel_rfl)
theorem sf_fZ4 : FnIs Tryz.prog sn.fZ4 7 [2] (csZ4 sn) := fnIs_of Tryz.func49 (by kernel_rfl) (by kernel_rfl) (by kernel_rfl) (by kernel_rfl)
theorem rt : RefT Tryz.prog sn where
  mixed := mixed
  dInt := by kernel_rfl
  dI64 := by kernel_rfl
  dU8 := by kernel_rfl
  dU32 := by kernel_rfl
  dU64 := by kernel_rfl
  oct := oct
  dTs := by kernel_rfl
  dGs := by kernel_rfl
  dFs := by kernel_rfl
  vI64 := varB_ok (by kernel_rfl)
  vU8 := varB_ok (by kernel_rfl)
  vT := varB_ok (by kernel_rfl)
  vF := varB_ok (by kernel_rfl)
  vG := varB_ok (by kernel_rfl)
  vM := varB_ok (by kernel_rfl)
  t0 := fldB_ok (by kernel_rfl)
  t1 := fldB_ok (by kernel_rfl)
  t2 := fldB_ok (by kernel_rfl)
  t3 := fldB_ok (by kernel_rfl)
  t4 := fldB_ok (by kernel_rfl)
  f0 := fldB_ok (by kernel_rfl)
  f1 := fldB_ok (by kernel_rfl)
  f2 := fldB_ok (by kernel_rfl)
  f3 := fldB_ok (by kernel_rfl)
  f4 := fldB_ok (by kernel_rfl)
  f5 := fldB_ok (by kernel_rfl)
  f6 := fldB_ok (by kernel_rfl)
  f7 := fldB_ok (by kernel_rfl)
  g0 := fldB_ok (by kernel_rfl)
  g1 := fldB_ok (by kernel_rfl)
  m0 := fldB_ok (by kernel_rfl)
  m1 := fldB_ok (by kernel_rfl)
  zT := zeroOf_ok (by kernel_rfl)
  zF := zeroOf_ok (by kernel_rfl)
  zG := zeroOf_ok (by kernel_rfl)
  zM := zeroOf_ok (by kernel_rfl)
  z8 := z8_ok (by kernel_rfl)
  bT := fun w => by kernel_rfl
  bG := fun w => by kernel_rfl
  bSG := fun w => by kernel_rfl
  iG := iG_ok (by kernel_rfl)

theorem leaf : LeafC Tryz.prog sn := leafC_of rt (varB_ok (by kernel_rfl)) sf_fUv sf_fFix sf_fCnt sf_fWid sf_fWhole sf_fThings sf_fHas sf_fNull sf_fKnown sf_fAt sf_fUnk
theorem trees : TreT Tryz.prog sn where
  tab := rt
  cT := by kernel_rfl
  cG := by kernel_rfl
  cI := by kernel_rfl
  cSl := by kernel_rfl
  cB := by kernel_rfl
  cTs := by kernel_rfl
  cGs := by kernel_rfl
  cU := by kernel_rfl
  c8 := by kernel_rfl
  dB := by kernel_rfl
  nT := by kernel_rfl
  nG := by kernel_rfl

def ln : LN := { fM := 20, fB := 21, fV := 11, fA := 22 }
def it81 : List BI := [([(0, 3), (2, -1), (3, -1), (4, -1)], none), ([(0, 4), (2, -1), (3, -1), (4, -1)], none)]
def ss81 : SFs := .cons 3 0 (-1) (-1) (-1) 0 0 .nil (.cons 4 0 (-1) (-1) (-1) 0 0 .nil (.nil))
theorem fi81 : FnIs Tryz.prog 81 4 [0] (cSub sn it81) := fnIs_of Tryz.func81 (by kernel_rfl) (by kernel_rfl) (by kernel_rfl) (by kernel_rfl)
theorem sb81 : Ent Tryz.prog 81 ∧ BuildC Tryz.prog 81 ss81 := sub_calls rt fi81 (of_decide_eq_true (by kernel_rfl)) ⟨fun w => by kernel_rfl, rfl, ⟨fun w => by kernel_rfl, rfl, trivial⟩⟩ (fun sv w => by kernel_rfl) rfl (of_decide_eq_true (by kernel_rfl))
def it45 : List BI := [([(0, 8), (2, -1), (3, -1), (4, -1)], none), ([(0, 11), (2, -1), (3, -1), (4, -1), (6, 10)], some 81)]
def ss45 : SFs := .cons 8 0 (-1) (-1) (-1) 0 0 .nil (.cons 11 0 (-1) (-1) (-1) 0 10 ss81 (.nil))
theorem fi45 : FnIs Tryz.prog 45 5 [0] (cSub sn it45) := fnIs_of Tryz.func45 (by kernel_rfl) (by kernel_rfl) (by kernel_rfl) (by kernel_rfl)
theorem sb45 : Ent Tryz.prog 45 ∧ BuildC Tryz.prog 45 ss45 := sub_calls rt fi45 (of_decide_eq_true (by kernel_rfl)) ⟨fun w => by kernel_rfl, rfl, ⟨fun base n c w => by kernel_rfl, sb81, trivial⟩⟩ (fun sv w => by kernel_rfl) rfl (of_decide_eq_true (by kernel_rfl))
def itM : List BI := [([(0, 8), (2, -1), (3, -1), (4, -1)], none), ([(0, 11), (2, -1), (3, -1), (4, -1), (6, 10)], some 45)]
def ssM : SFs := .cons 8 0 (-1) (-1) (-1) 0 0 .nil (.cons 11 0 (-1) (-1) (-1) 0 10 ss45 (.nil))
theorem fiM : FnIsC Tryz.prog 21 6 0 sn.tMs (cMsgB sn 0 itM) := fnIsC_of Tryz.func21 (by kernel_rfl) (by kernel_rfl) (by kernel_rfl) (by kernel_rfl)
theorem sbM : Ent Tryz.prog 21 ∧ MsgBC Tryz.prog 21 0 ssM := msgb_calls rt (fun x base n c w => by kernel_rfl) fiM (of_decide_eq_true (by kernel_rfl)) ⟨fun w => by kernel_rfl, rfl, ⟨fun base n c w => by kernel_rfl, sb45, trivial⟩⟩ (fun sv w => by kernel_rfl) rfl (of_decide_eq_true (by kernel_rfl))
theorem lawC : LawC Tryz.prog sn ln numbers.gErr 0 0 ssM (fun x l => againOut false true 0 fsAlterShareGroupOffsetsRequest x l) (okInL true 0 fsAlterShareGroupOffsetsRequest 0) :=
  lawC_of (tI16 := 42) (tErr := 52) rt msg (by kernel_rfl) (ifaceB_ok (by kernel_rfl)) (.inl (by kernel_rfl)) fn22 (by omega) fn11 (by omega) (ntSm := 26) (.inr fn13) (by omega) fn20 (by omega) fn44 (by omega) (by decide) sf_fZ4 sf_fZ3 sf_fZ2 sbM sf_fWrite sf_fPart.ent (ref_calls leaf sf_fPart sf_fField sf_fVal ssM (by kernel_rfl)).1
theorem fnL : FnIs Tryz.prog 6 56 [6] (cLcu sn ln) := fnIs_of Tryz.func6 (by kernel_rfl) (by kernel_rfl) (by kernel_rfl) (by kernel_rfl)
theorem law {W : World} {x0 x2 k : Nat} {cs : List Value} {t : Tr} (hx : x0 < 256) (hx2 : x2 < 65536) (ht : TrRp W k cs t) (hw : t.wt ≤ 1048576) (herr : ErrAt numbers.gErr W) : Calls Tryz.prog 6 [.int .u8 (x0 : Int), .agg cs.toArray, .int .u16 (x2 : Int)].toArray W (TrueC W) :=
  cut_law lawC (by kernel_rfl) (by kernel_rfl) fnL hx hx2 ht herr (fun v => k_lim (by kernel_rfl) (by kernel_rfl) hw v _)
end Go.Proofs.YthjaecnbgfohmabGreatDoor.Kx
