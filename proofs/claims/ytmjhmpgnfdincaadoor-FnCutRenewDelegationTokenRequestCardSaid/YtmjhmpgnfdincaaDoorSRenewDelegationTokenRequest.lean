/-
  FnCutRenewDelegationTokenRequest: the numbers of the program, the code of its functions, and the law out of them.
-/
import Derived.Test.YtmjhmpgnfdincaaDoorChecked
import Derived.Test.YtmjhmpgnfdincaaDoorK1
import Derived.Test.YtmjhmpgnfdincaaDoorK2
import Derived.Test.YtmjhmpgnfdincaaDoorK3
import Derived.Test.YtmjhmpgnfdincaaDoorK4
import Derived.Test.YtmjhmpgnfdincaaDoorK5
import Derived.Test.YtmjhmpgnfdincaaDoorK6
import Derived.Test.YtmjhmpgnfdincaaDoorK7
import Derived.Test.YtmjhmpgnfdincaaDoorK8
import Derived.Test.YtmjhmpgnfdincaaDoorK9
import Derived.Test.YtmjhmpgnfdincaaDoorK10
import Derived.Test.YtmjhmpgnfdincaaDoorK11
import Derived.Test.YtmjhmpgnfdincaaDoorK12
import Derived.Test.YtmjhmpgnfdincaaDoorK13
import Derived.Test.YtmjhmpgnfdincaaDoorK14
import Derived.Test.YtmjhmpgnfdincaaDoorK15
import Derived.KernelRfl
import Derived.Test.YtmjhmpgnfdincaaDoorSh
namespace Go.Proofs.YtmjhmpgnfdincaaDoor.Kx
open Go Go.Proofs
set_option maxRecDepth 100000
def numbers : G := { rd := fun | .bool => 999999 | .i8 => 141 | .i16 => 132 | .u16 => 999999 | .i32 => 125 | .i64 => 134 | .uuid => 999999 | .str => 999999 | .cstr => 999999 | .nstr => 999999 | .cnstr => 999999 | .bytes => 137 | .cbytes => 136 | .nbytes => 143 | .cnbytes => 142, un := fun | .str => 999999 | .cstr => 999999 | .nstr => 999999 | .cnstr => 999999 | _ => 999999, len := 139, clen := 138, ok := 140, complete := 127, uv := 145, span := 147, tags := 126, set := 146, tR := 116, tUuid := 999999, tVer := 42, tI8 := 104, tI32 := 21, tU32 := 68, tInt := 3, tBool := 4, tErr := 51, tTags := 74, tSl := 22, tStr := 9, gErr := 1 }
def numbersW : GW := { ap := fun | .bool => 999999 | .i8 => 114 | .i16 => 98 | .u16 => 133 | .i32 => 92 | .i64 => 103 | .uuid => 999999 | .str => 999999 | .cstr => 999999 | .nstr => 999999 | .cnstr => 999999 | .bytes => 109 | .cbytes => 108 | .nbytes => 118 | .cnbytes => 117, alen := 113, calen := 112, nalen := 999999, cnalen := 999999, uv := 93, tlen := 94, teach := 95, tVer := 42, tInt := 3, tU32 := 68, tSl := 22, tUuid := 999999 }
def kn : Kn := { tRS := 116, tSl := 22, tB := 4, tInt := 3, tU8 := 5, tI8 := 104, tI16 := 42, tU16 := 27, tI32 := 21, tU32 := 68, tI64 := 2, tU64 := 83, tStr := 9, tUuid := 999999, tBE := 132, tErr := 51, gBE := 0, gErr := 1, fU16 := 151, fU32 := 144, fU64 := 159, fUv := 153, fR64 := 152 }
theorem mixed : Tryd.prog.follows .mixedOrders = true := by kernel_rfl
def fsRenewDelegationTokenRequest : Fds := (.cons 0 none none (0) 1 (.bytes none) (.cons 0 none none (0) 2 (.prim .i64) .nil))
def nmRenewDelegationTokenRequest : Nm := (.mk [] [(.mk [11, 98, 1, 22] []), (.mk [12, 98, 2, 2] [])])
def nwRenewDelegationTokenRequest : List Nm := [(.mk [7, 98, 1, 22] []), (.mk [8, 98, 2, 2] [])]
theorem fn141 : FnIs Tryd.prog 141 32 [2] (cI8 kn) := fnIs_of Tryd.func141 (by kernel_rfl) (by kernel_rfl) (by kernel_rfl) (by kernel_rfl) -- (*pub-kmsg/pub/kmsg/inner/kbin.Reader).Int8
theorem fn132 : FnIs Tryd.prog 132 32 [2] (cI16 kn) := fnIs_of Tryd.func132 (by kernel_rfl) (by kernel_rfl) (by kernel_rfl) (by kernel_rfl) -- (*pub-kmsg/pub/kmsg/inner/kbin.Reader).Int16
theorem fn125 : FnIs Tryd.prog 125 32 [2] (cI32 kn) := fnIs_of Tryd.func125 (by kernel_rfl) (by kernel_rfl) (by kernel_rfl) (by kernel_rfl) -- (*pub-kmsg/pub/kmsg/inner/kbin.Reader).Int32
theorem fn152 : FnIs Tryd.prog 152 31 [2] (cR64 kn) := fnIs_of Tryd.func152 (by kernel_rfl) (by kernel_rfl) (by kernel_rfl) (by kernel_rfl) -- (*pub-kmsg/pub/kmsg/inner/kbin.Reader).readUint64
theorem fn134 : FnIs Tryd.prog 134 6 [2] (cI64 kn) := fnIs_of Tryd.func134 (by kernel_rfl) (by kernel_rfl) (by kernel_rfl) (by kernel_rfl) -- (*pub-kmsg/pub/kmsg/inner/kbin.Reader).Int64
theorem fn153 : FnIs Tryd.prog 153 87 [2, 3] (cUvIn kn) := fnIs_of Tryd.func153 (by kernel_rfl) (by kernel_rfl) (by kernel_rfl) (by kernel_rfl) -- pub-kmsg/pub/kmsg/inner/kbin.Uvarint
theorem fn145 : FnIs Tryd.prog 145 31 [2] (cUv kn) := fnIs_of Tryd.func145 (by kernel_rfl) (by kernel_rfl) (by kernel_rfl) (by kernel_rfl) -- (*pub-kmsg/pub/kmsg/inner/kbin.Reader).Uvarint
theorem fn126 : FnIsC Tryd.prog 126 24 2 74 (cRdTags numbers kn) := fnIsC_of Tryd.func126 (by kernel_rfl) (by kernel_rfl) (by kernel_rfl) (by kernel_rfl) -- pub-kmsg/pub/kmsg.internalReadTags
theorem fn146 : FnIs Tryd.prog 146 21 [] (cSet numbers 72) := fnIs_of Tryd.func146 (by kernel_rfl) (by kernel_rfl) (by kernel_rfl) (by kernel_rfl) -- (*pub-kmsg/pub/kmsg.Tags).Set
theorem fn140 : FnIs Tryd.prog 140 8 [2] (cOk kn) := fnIs_of Tryd.func140 (by kernel_rfl) (by kernel_rfl) (by kernel_rfl) (by kernel_rfl) -- (*pub-kmsg/pub/kmsg/inner/kbin.Reader).Ok
theorem fn127 : FnIs Tryd.prog 127 8 [2] (cComplete kn) := fnIs_of Tryd.func127 (by kernel_rfl) (by kernel_rfl) (by kernel_rfl) (by kernel_rfl) -- (*pub-kmsg/pub/kmsg/inner/kbin.Reader).Complete
theorem fn147 : FnIs Tryd.prog 147 40 [4] (cSpan kn) := fnIs_of Tryd.func147 (by kernel_rfl) (by kernel_rfl) (by kernel_rfl) (by kernel_rfl) -- (*pub-kmsg/pub/kmsg/inner/kbin.Reader).Span
theorem fn137 : FnIs Tryd.prog 137 13 [2] (cBytes numbers kn) := fnIs_of Tryd.func137 (by kernel_rfl) (by kernel_rfl) (by kernel_rfl) (by kernel_rfl) -- (*pub-kmsg/pub/kmsg/inner/kbin.Reader).Bytes
theorem fn136 : FnIs Tryd.prog 136 14 [2] (cCBytes numbers kn) := fnIs_of Tryd.func136 (by kernel_rfl) (by kernel_rfl) (by kernel_rfl) (by kernel_rfl) -- (*pub-kmsg/pub/kmsg/inner/kbin.Reader).CompactBytes
theorem fn143 : FnIs Tryd.prog 143 14 [2] (cNBytes numbers kn) := fnIs_of Tryd.func143 (by kernel_rfl) (by kernel_rfl) (by kernel_rfl) (by kernel_rfl) -- (*pub-kmsg/pub/kmsg/inner/kbin.Reader).NullableBytes
theorem fn142 : FnIs Tryd.prog 142 15 [2] (cCNBytes numbers kn) := fnIs_of Tryd.func142 (by kernel_rfl) (by kernel_rfl) (by kernel_rfl) (by kernel_rfl) -- (*pub-kmsg/pub/kmsg/inner/kbin.Reader).CompactNullableBytes
theorem fn139 : FnIs Tryd.prog 139 21 [2] (cLen numbers kn) := fnIs_of Tryd.func139 (by kernel_rfl) (by kernel_rfl) (by kernel_rfl) (by kernel_rfl) -- (*pub-kmsg/pub/kmsg/inner/kbin.Reader).ArrayLen
theorem fn138 : FnIs Tryd.prog 138 23 [2] (cCLen numbers kn) := fnIs_of Tryd.func138 (by kernel_rfl) (by kernel_rfl) (by kernel_rfl) (by kernel_rfl) -- (*pub-kmsg/pub/kmsg/inner/kbin.Reader).CompactArrayLen
theorem fn151 : FnIs Tryd.prog 151 18 [4] (gBig kn kn.tU16 .u16 2) := fnIs_of Tryd.func151 (by kernel_rfl) (by kernel_rfl) (by kernel_rfl) (by kernel_rfl) -- (encoding/binary.bigEndian).Uint16
theorem fn144 : FnIs Tryd.prog 144 30 [4] (gBig kn kn.tU32 .u32 4) := fnIs_of Tryd.func144 (by kernel_rfl) (by kernel_rfl) (by kernel_rfl) (by kernel_rfl) -- (encoding/binary.bigEndian).Uint32
theorem fn159 : FnIs Tryd.prog 159 54 [4] (gBig kn kn.tU64 .u64 8) := fnIs_of Tryd.func159 (by kernel_rfl) (by kernel_rfl) (by kernel_rfl) (by kernel_rfl) -- (encoding/binary.bigEndian).Uint64
theorem fn114 : FnIs Tryd.prog 114 10 [4] (cAI8 kn) := fnIs_of Tryd.func114 (by kernel_rfl) (by kernel_rfl) (by kernel_rfl) (by kernel_rfl) -- pub-kmsg/pub/kmsg/inner/kbin.AppendInt8
theorem fn133 : FnIs Tryd.prog 133 13 [4] (cAU16 kn) := fnIs_of Tryd.func133 (by kernel_rfl) (by kernel_rfl) (by kernel_rfl) (by kernel_rfl) -- pub-kmsg/pub/kmsg/inner/kbin.AppendUint16
theorem fn128 : FnIs Tryd.prog 128 19 [4] (cAU32 kn) := fnIs_of Tryd.func128 (by kernel_rfl) (by kernel_rfl) (by kernel_rfl) (by kernel_rfl) -- pub-kmsg/pub/kmsg/inner/kbin.AppendUint32
theorem fn135 : FnIs Tryd.prog 135 31 [4] (cAU64 kn) := fnIs_of Tryd.func135 (by kernel_rfl) (by kernel_rfl) (by kernel_rfl) (by kernel_rfl) -- pub-kmsg/pub/kmsg/inner/kbin.appendUint64
theorem fn98 : FnIs Tryd.prog 98 9 [4] (cACv kn.tI16 kn.tU16 133) := fnIs_of Tryd.func98 (by kernel_rfl) (by kernel_rfl) (by kernel_rfl) (by kernel_rfl) -- pub-kmsg/pub/kmsg/inner/kbin.AppendInt16
theorem fn92 : FnIs Tryd.prog 92 9 [4] (cACv kn.tI32 kn.tU32 128) := fnIs_of Tryd.func92 (by kernel_rfl) (by kernel_rfl) (by kernel_rfl) (by kernel_rfl) -- pub-kmsg/pub/kmsg/inner/kbin.AppendInt32
theorem fn103 : FnIs Tryd.prog 103 9 [4] (cACv kn.tI64 kn.tU64 135) := fnIs_of Tryd.func103 (by kernel_rfl) (by kernel_rfl) (by kernel_rfl) (by kernel_rfl) -- pub-kmsg/pub/kmsg/inner/kbin.AppendInt64
theorem fn113 : FnIs Tryd.prog 113 9 [4] (cACv kn.tInt kn.tI32 92) := fnIs_of Tryd.func113 (by kernel_rfl) (by kernel_rfl) (by kernel_rfl) (by kernel_rfl) -- pub-kmsg/pub/kmsg/inner/kbin.AppendArrayLen
theorem fn112 : FnIs Tryd.prog 112 10 [4] (cACv1 kn 93) := fnIs_of Tryd.func112 (by kernel_rfl) (by kernel_rfl) (by kernel_rfl) (by kernel_rfl) -- pub-kmsg/pub/kmsg/inner/kbin.AppendCompactArrayLen
theorem fn109 : FnIs Tryd.prog 109 13 [4] (cAStr kn kn.tSl kn.tI32 92) := fnIs_of Tryd.func109 (by kernel_rfl) (by kernel_rfl) (by kernel_rfl) (by kernel_rfl) -- pub-kmsg/pub/kmsg/inner/kbin.AppendBytes
theorem fn108 : FnIs Tryd.prog 108 14 [4] (cACStr kn kn.tSl 93) := fnIs_of Tryd.func108 (by kernel_rfl) (by kernel_rfl) (by kernel_rfl) (by kernel_rfl) -- pub-kmsg/pub/kmsg/inner/kbin.AppendCompactBytes
theorem fn118 : FnIs Tryd.prog 118 12 [4] (cANBytes kn (.int .i32 (-1)) 92 109) := fnIs_of Tryd.func118 (by kernel_rfl) (by kernel_rfl) (by kernel_rfl) (by kernel_rfl) -- pub-kmsg/pub/kmsg/inner/kbin.AppendNullableBytes
theorem fn117 : FnIs Tryd.prog 117 12 [4] (cANBytes kn (.int .u32 0) 93 108) := fnIs_of Tryd.func117 (by kernel_rfl) (by kernel_rfl) (by kernel_rfl) (by kernel_rfl) -- pub-kmsg/pub/kmsg/inner/kbin.AppendCompactNullableBytes
theorem fn93 : FnIs Tryd.prog 93 93 [4] (cAUv kn 129) := fnIs_of Tryd.func93 (by kernel_rfl) (by kernel_rfl) (by kernel_rfl) (by kernel_rfl) -- pub-kmsg/pub/kmsg/inner/kbin.AppendUvarint
theorem fn129 : FnIs Tryd.prog 129 8 [2] (cUvLen kn 148) := fnIs_of Tryd.func129 (by kernel_rfl) (by kernel_rfl) (by kernel_rfl) (by kernel_rfl) -- pub-kmsg/pub/kmsg/inner/kbin.UvarintLen
theorem fn148 : FnIs Tryd.prog 148 19 [2] (cLen32 kn 68) := fnIs_of Tryd.func148 (by kernel_rfl) (by kernel_rfl) (by kernel_rfl) (by kernel_rfl) -- math/bits.Len32
theorem fn94 : FnIs Tryd.prog 94 8 [2] (cTLen kn 74 72) := fnIs_of Tryd.func94 (by kernel_rfl) (by kernel_rfl) (by kernel_rfl) (by kernel_rfl) -- (*pub-kmsg/pub/kmsg.Tags).Len
theorem fn40 : FnIs Tryd.prog 40 3 [0] (cNewPtr 76 82) := fnIs_of Tryd.func40 (by kernel_rfl) (by kernel_rfl) (by kernel_rfl) (by kernel_rfl) -- pub-kmsg/pub/kmsg.NewPtrUnregisterBrokerRequest
theorem fn43 : FnIs Tryd.prog 43 8 [] (cSetV 76 42) := fnIs_of Tryd.func43 (by kernel_rfl) (by kernel_rfl) (by kernel_rfl) (by kernel_rfl) -- (*pub-kmsg/pub/kmsg.UnregisterBrokerRequest).SetVersion
theorem fn44 : FnIs Tryd.prog 44 8 [4] (cRdF 91) := fnIs_of Tryd.func44 (by kernel_rfl) (by kernel_rfl) (by kernel_rfl) (by kernel_rfl) -- (*pub-kmsg/pub/kmsg.UnregisterBrokerRequest).ReadFrom
theorem fn12 : FnIs Tryd.prog 12 4 [0] (cMax 42 3 40 41) := fnIs_of Tryd.func12 (by kernel_rfl) (by kernel_rfl) (by kernel_rfl) (by kernel_rfl) -- pub-kmsg/impl.MaxUnregisterBrokerRequest
theorem fn41 : FnIs Tryd.prog 41 3 [2] (cMaxV 0) := fnIs_of Tryd.func41 (by kernel_rfl) (by kernel_rfl) (by kernel_rfl) (by kernel_rfl) -- (*pub-kmsg/pub/kmsg.UnregisterBrokerRequest).MaxVersion
theorem fn16 : FnIs Tryd.prog 16 19 [4, 5] (cAgain 42 3 22 51 40 43 44 45) := fnIs_of Tryd.func16 (by kernel_rfl) (by kernel_rfl) (by kernel_rfl) (by kernel_rfl) -- pub-kmsg/impl.AgainUnregisterBrokerRequest
theorem fn46 : FnIs Tryd.prog 46 3 [0] (cNewPtr 89 96) := fnIs_of Tryd.func46 (by kernel_rfl) (by kernel_rfl) (by kernel_rfl) (by kernel_rfl) -- pub-kmsg/pub/kmsg.NewPtrAddOffsetsToTxnResponse
theorem fn48 : FnIs Tryd.prog 48 8 [] (cSetV 89 42) := fnIs_of Tryd.func48 (by kernel_rfl) (by kernel_rfl) (by kernel_rfl) (by kernel_rfl) -- (*pub-kmsg/pub/kmsg.AddOffsetsToTxnResponse).SetVersion
theorem fn49 : FnIs Tryd.prog 49 8 [4] (cRdF 97) := fnIs_of Tryd.func49 (by kernel_rfl) (by kernel_rfl) (by kernel_rfl) (by kernel_rfl) -- (*pub-kmsg/pub/kmsg.AddOffsetsToTxnResponse).ReadFrom
theorem fn17 : FnIs Tryd.prog 17 4 [0] (cMax 42 3 46 47) := fnIs_of Tryd.func17 (by kernel_rfl) (by kernel_rfl) (by kernel_rfl) (by kernel_rfl) -- pub-kmsg/impl.MaxAddOffsetsToTxnResponse
theorem fn47 : FnIs Tryd.prog 47 3 [2] (cMaxV 4) := fnIs_of Tryd.func47 (by kernel_rfl) (by kernel_rfl) (by kernel_rfl) (by kernel_rfl) -- (*pub-kmsg/pub/kmsg.AddOffsetsToTxnResponse).MaxVersion
theorem fn19 : FnIs Tryd.prog 19 19 [4, 5] (cAgain 42 3 22 51 46 48 49 50) := fnIs_of Tryd.func19 (by kernel_rfl) (by kernel_rfl) (by kernel_rfl) (by kernel_rfl) -- pub-kmsg/impl.AgainAddOffsetsToTxnResponse
theorem fn51 : FnIs Tryd.prog 51 3 [0] (cNewPtr 91 99) := fnIs_of Tryd.func51 (by kernel_rfl) (by kernel_rfl) (by kernel_rfl) (by kernel_rfl) -- pub-kmsg/pub/kmsg.NewPtrHeartbeatResponse
theorem fn53 : FnIs Tryd.prog 53 8 [] (cSetV 91 42) := fnIs_of Tryd.func53 (by kernel_rfl) (by kernel_rfl) (by kernel_rfl) (by kernel_rfl) -- (*pub-kmsg/pub/kmsg.HeartbeatResponse).SetVersion
theorem fn54 : FnIs Tryd.prog 54 8 [4] (cRdF 100) := fnIs_of Tryd.func54 (by kernel_rfl) (by kernel_rfl) (by kernel_rfl) (by kernel_rfl) -- (*pub-kmsg/pub/kmsg.HeartbeatResponse).ReadFrom
theorem fn21 : FnIs Tryd.prog 21 4 [0] (cMax 42 3 51 52) := fnIs_of Tryd.func21 (by kernel_rfl) (by kernel_rfl) (by kernel_rfl) (by kernel_rfl) -- pub-kmsg/impl.MaxHeartbeatResponse
theorem fn52 : FnIs Tryd.prog 52 3 [2] (cMaxV 4) := fnIs_of Tryd.func52 (by kernel_rfl) (by kernel_rfl) (by kernel_rfl) (by kernel_rfl) -- (*pub-kmsg/pub/kmsg.HeartbeatResponse).MaxVersion
theorem fn23 : FnIs Tryd.prog 23 19 [4, 5] (cAgain 42 3 22 51 51 53 54 55) := fnIs_of Tryd.func23 (by kernel_rfl) (by kernel_rfl) (by kernel_rfl) (by kernel_rfl) -- pub-kmsg/impl.AgainHeartbeatResponse
theorem fn56 : FnIs Tryd.prog 56 3 [0] (cNewPtr 93 101) := fnIs_of Tryd.func56 (by kernel_rfl) (by kernel_rfl) (by kernel_rfl) (by kernel_rfl) -- pub-kmsg/pub/kmsg.NewPtrBrokerRegistrationResponse
theorem fn58 : FnIs Tryd.prog 58 8 [] (cSetV 93 42) := fnIs_of Tryd.func58 (by kernel_rfl) (by kernel_rfl) (by kernel_rfl) (by kernel_rfl) -- (*pub-kmsg/pub/kmsg.BrokerRegistrationResponse).SetVersion
theorem fn59 : FnIs Tryd.prog 59 8 [4] (cRdF 102) := fnIs_of Tryd.func59 (by kernel_rfl) (by kernel_rfl) (by kernel_rfl) (by kernel_rfl) -- (*pub-kmsg/pub/kmsg.BrokerRegistrationResponse).ReadFrom
theorem fn24 : FnIs Tryd.prog 24 4 [0] (cMax 42 3 56 57) := fnIs_of Tryd.func24 (by kernel_rfl) (by kernel_rfl) (by kernel_rfl) (by kernel_rfl) -- pub-kmsg/impl.MaxBrokerRegistrationResponse
theorem fn57 : FnIs Tryd.prog 57 3 [2] (cMaxV 4) := fnIs_of Tryd.func57 (by kernel_rfl) (by kernel_rfl) (by kernel_rfl) (by kernel_rfl) -- (*pub-kmsg/pub/kmsg.BrokerRegistrationResponse).MaxVersion
theorem fn26 : FnIs Tryd.prog 26 19 [4, 5] (cAgain 42 3 22 51 56 58 59 60) := fnIs_of Tryd.func26 (by kernel_rfl) (by kernel_rfl) (by kernel_rfl) (by kernel_rfl) -- pub-kmsg/impl.AgainBrokerRegistrationResponse
theorem fn61 : FnIs Tryd.prog 61 3 [0] (cNewPtr 96 104) := fnIs_of Tryd.func61 (by kernel_rfl) (by kernel_rfl) (by kernel_rfl) (by kernel_rfl) -- pub-kmsg/pub/kmsg.NewPtrInitProducerIDResponse
theorem fn63 : FnIs Tryd.prog 63 8 [] (cSetV 96 42) := fnIs_of Tryd.func63 (by kernel_rfl) (by kernel_rfl) (by kernel_rfl) (by kernel_rfl) -- (*pub-kmsg/pub/kmsg.InitProducerIDResponse).SetVersion
theorem fn64 : FnIs Tryd.prog 64 8 [4] (cRdF 105) := fnIs_of Tryd.func64 (by kernel_rfl) (by kernel_rfl) (by kernel_rfl) (by kernel_rfl) -- (*pub-kmsg/pub/kmsg.InitProducerIDResponse).ReadFrom
theorem fn27 : FnIs Tryd.prog 27 4 [0] (cMax 42 3 61 62) := fnIs_of Tryd.func27 (by kernel_rfl) (by kernel_rfl) (by kernel_rfl) (by kernel_rfl) -- pub-kmsg/impl.MaxInitProducerIDResponse
theorem fn62 : FnIs Tryd.prog 62 3 [2] (cMaxV 5) := fnIs_of Tryd.func62 (by kernel_rfl) (by kernel_rfl) (by kernel_rfl) (by kernel_rfl) -- (*pub-kmsg/pub/kmsg.InitProducerIDResponse).MaxVersion
theorem fn29 : FnIs Tryd.prog 29 19 [4, 5] (cAgain 42 3 22 51 61 63 64 65) := fnIs_of Tryd.func29 (by kernel_rfl) (by kernel_rfl) (by kernel_rfl) (by kernel_rfl) -- pub-kmsg/impl.AgainInitProducerIDResponse
theorem fn66 : FnIs Tryd.prog 66 3 [0] (cNewPtr 98 106) := fnIs_of Tryd.func66 (by kernel_rfl) (by kernel_rfl) (by kernel_rfl) (by kernel_rfl) -- pub-kmsg/pub/kmsg.NewPtrRenewDelegationTokenRequest
theorem fn68 : FnIs Tryd.prog 68 8 [] (cSetV 98 42) := fnIs_of Tryd.func68 (by kernel_rfl) (by kernel_rfl) (by kernel_rfl) (by kernel_rfl) -- (*pub-kmsg/pub/kmsg.RenewDelegationTokenRequest).SetVersion
theorem fn69 : FnIs Tryd.prog 69 8 [4] (cRdF 107) := fnIs_of Tryd.func69 (by kernel_rfl) (by kernel_rfl) (by kernel_rfl) (by kernel_rfl) -- (*pub-kmsg/pub/kmsg.RenewDelegationTokenRequest).ReadFrom
theorem fn30 : FnIs Tryd.prog 30 4 [0] (cMax 42 3 66 67) := fnIs_of Tryd.func30 (by kernel_rfl) (by kernel_rfl) (by kernel_rfl) (by kernel_rfl) -- pub-kmsg/impl.MaxRenewDelegationTokenRequest
theorem fn67 : FnIs Tryd.prog 67 3 [2] (cMaxV 2) := fnIs_of Tryd.func67 (by kernel_rfl) (by kernel_rfl) (by kernel_rfl) (by kernel_rfl) -- (*pub-kmsg/pub/kmsg.RenewDelegationTokenRequest).MaxVersion
theorem fn32 : FnIs Tryd.prog 32 19 [4, 5] (cAgain 42 3 22 51 66 68 69 70) := fnIs_of Tryd.func32 (by kernel_rfl) (by kernel_rfl) (by kernel_rfl) (by kernel_rfl) -- pub-kmsg/impl.AgainRenewDelegationTokenRequest
theorem fn71 : FnIs Tryd.prog 71 3 [0] (cNewPtr 102 110) := fnIs_of Tryd.func71 (by kernel_rfl) (by kernel_rfl) (by kernel_rfl) (by kernel_rfl) -- pub-kmsg/pub/kmsg.NewPtrListConfigResourcesRequest
theorem fn73 : FnIs Tryd.prog 73 8 [] (cSetV 102 42) := fnIs_of Tryd.func73 (by kernel_rfl) (by kernel_rfl) (by kernel_rfl) (by kernel_rfl) -- (*pub-kmsg/pub/kmsg.ListConfigResourcesRequest).SetVersion
theorem fn74 : FnIs Tryd.prog 74 8 [4] (cRdF 111) := fnIs_of Tryd.func74 (by kernel_rfl) (by kernel_rfl) (by kernel_rfl) (by kernel_rfl) -- (*pub-kmsg/pub/kmsg.ListConfigResourcesRequest).ReadFrom
theorem fn33 : FnIs Tryd.prog 33 4 [0] (cMax 42 3 71 72) := fnIs_of Tryd.func33 (by kernel_rfl) (by kernel_rfl) (by kernel_rfl) (by kernel_rfl) -- pub-kmsg/impl.MaxListConfigResourcesRequest
theorem fn72 : FnIs Tryd.prog 72 3 [2] (cMaxV 1) := fnIs_of Tryd.func72 (by kernel_rfl) (by kernel_rfl) (by kernel_rfl) (by kernel_rfl) -- (*pub-kmsg/pub/kmsg.ListConfigResourcesRequest).MaxVersion
theorem fn35 : FnIs Tryd.prog 35 19 [4, 5] (cAgain 42 3 22 51 71 73 74 75) := fnIs_of Tryd.func35 (by kernel_rfl) (by kernel_rfl) (by kernel_rfl) (by kernel_rfl) -- pub-kmsg/impl.AgainListConfigResourcesRequest
theorem fn76 : FnIs Tryd.prog 76 3 [0] (cNewPtr 107 115) := fnIs_of Tryd.func76 (by kernel_rfl) (by kernel_rfl) (by kernel_rfl) (by kernel_rfl) -- pub-kmsg/pub/kmsg.NewPtrEnvelopeRequest
theorem fn78 : FnIs Tryd.prog 78 8 [] (cSetV 107 42) := fnIs_of Tryd.func78 (by kernel_rfl) (by kernel_rfl) (by kernel_rfl) (by kernel_rfl) -- (*pub-kmsg/pub/kmsg.EnvelopeRequest).SetVersion
theorem fn79 : FnIs Tryd.prog 79 8 [4] (cRdF 116) := fnIs_of Tryd.func79 (by kernel_rfl) (by kernel_rfl) (by kernel_rfl) (by kernel_rfl) -- (*pub-kmsg/pub/kmsg.EnvelopeRequest).ReadFrom
theorem fn36 : FnIs Tryd.prog 36 4 [0] (cMax 42 3 76 77) := fnIs_of Tryd.func36 (by kernel_rfl) (by kernel_rfl) (by kernel_rfl) (by kernel_rfl) -- pub-kmsg/impl.MaxEnvelopeRequest
theorem fn77 : FnIs Tryd.prog 77 3 [2] (cMaxV 0) := fnIs_of Tryd.func77 (by kernel_rfl) (by kernel_rfl) (by kernel_rfl) (by kernel_rfl) -- (*pub-kmsg/pub/kmsg.EnvelopeRequest).MaxVersion
theorem fn38 : FnIs Tryd.prog 38 19 [4, 5] (cAgain 42 3 22 51 76 78 79 80) := fnIs_of Tryd.func38 (by kernel_rfl) (by kernel_rfl) (by kernel_rfl) (by kernel_rfl) -- pub-kmsg/impl.AgainEnvelopeRequest
theorem fn15 : FnIs Tryd.prog 15 10 [4] (cVer 5 3) := fnIs_of Tryd.func15 (by kernel_rfl) (by kernel_rfl) (by kernel_rfl) (by kernel_rfl) -- pub-kmsg/laws.version
theorem fn20 : FnIs Tryd.prog 20 26 [4] (cSame 22 5 3) := fnIs_of Tryd.func20 (by kernel_rfl) (by kernel_rfl) (by kernel_rfl) (by kernel_rfl) -- pub-kmsg/spec.Same
theorem fn107 : FnIs Tryd.prog 107 44 [6] (gRead numbers true false ⟨true, 7, 10, 8, 9⟩ fsRenewDelegationTokenRequest 106 98 3 2 13 nmRenewDelegationTokenRequest) := fnIs_of Tryd.func107 (by kernel_rfl) (by kernel_rfl) (by kernel_rfl) (by kernel_rfl) -- (*pub-kmsg/pub/kmsg.RenewDelegationTokenRequest).readFrom
theorem fn70 : FnIs Tryd.prog 70 50 [4] (gWrite numbersW false ⟨true, 0, 0, 5, 6⟩ fsRenewDelegationTokenRequest 98 3 2 0 9 nwRenewDelegationTokenRequest) := fnIs_of Tryd.func70 (by kernel_rfl) (by kernel_rfl) (by kernel_rfl) (by kernel_rfl) -- (*pub-kmsg/pub/kmsg.RenewDelegationTokenRequest).AppendTo
def di106 : List DI := []
theorem fn106 : FnIs Tryd.prog 106 2 [] (gDflt di106 2) := fnIs_of Tryd.func106 (by kernel_rfl) (by kernel_rfl) (by kernel_rfl) (by kernel_rfl) -- (*pub-kmsg/pub/kmsg.RenewDelegationTokenRequest).Default
noncomputable def dw106 : List (Nat × Value) := (dRun Tryd.prog 2 di106 [(0, 0)]).getD []
theorem df106 : Ent Tryd.prog 106 ∧ DfC Tryd.prog 106 dw106 := dfC_of (n0 := 2) (items := di106) (by kernel_rfl) fn106 (by kernel_rfl) (of_decide_eq_true (by kernel_rfl)) (by omega)
noncomputable def dd : Nat → Option (List (Nat × Value))
  | 106 => some dw106
  | _ => none
theorem ddOk : ∀ f wr, dd f = some wr → Ent Tryd.prog f ∧ DfC Tryd.prog f wr := by
  intro f wr h
  unfold dd at h
  split at h
  · obtain rfl := Option.some.inj h; exact df106
  · cases h
theorem kt : KT Tryd.prog numbers kn where
  mixed := mixed
  f0 := fldB_ok (by kernel_rfl)
  f1 := fldB_ok (by kernel_rfl)
  sl := by kernel_rfl
  u8 := varB_ok (by kernel_rfl)
  dU8 := by kernel_rfl
  dI8 := fun _ => by kernel_rfl
  dI16 := by kernel_rfl
  dI32 := by kernel_rfl
  dU32 := by kernel_rfl
  dInt := by kernel_rfl
theorem kbig : KBig Tryd.prog kn where
  be := varB_ok (by kernel_rfl)
  d16 := by kernel_rfl
  d64 := fun _ => by kernel_rfl
  dI64 := fun _ => by kernel_rfl
  f16 := fun _ => fn151
  f32 := fun _ => fn144
  f64 := fun _ => fn159
theorem ksub : KSub Tryd.prog numbers kn kn.tRS where
  e16 := fun _ => fn132.ent
  c16 := fun _ w S R r hR hRS => (i16_calls kt kbig rfl fn132 (by omega) hR hRS).mono fun e w' h => (fun h => ⟨h.1, h.2.1, h.2.2.1⟩) (rdOk_int (p := .i16) (.inr (.inl ⟨rfl, rfl⟩)) rfl h)
  e32 := fun _ => fn125.ent
  c32 := fun _ w S R r hR hRS => (i32_calls kt kbig rfl fn125 (by omega) hR hRS).mono fun e w' h => (fun h => ⟨h.1, h.2.1, h.2.2.1⟩) (rdOk_int (p := .i32) (.inr (.inr (.inl ⟨rfl, rfl⟩))) rfl h)
  eU := fun _ => fn145.ent
  cU := fun _ w S R r hR hRS => uv_calls kt fn153 (by omega) fn145 (by omega) hR hRS
  eS := fun _ => fn147.ent
  cS := fun _ w S R r k hR hRS => span_calls kt fn147 (by omega) hR hRS
  dStr := by kernel_rfl
  vStr := varB_ok (by kernel_rfl)
  zStr := zeroOf_ok (by kernel_rfl)
def tn : TN := { tTags := 74, tM := 72, tKs := 136, tU32 := 68, tInt := 3, tSl := 22, fSort := 149, fLess := 150, fEach := 130, fOne := 131, fUv := 93 }
theorem fn130 : FnIs Tryd.prog 130 53 [] (cEach tn) := fnIs_of Tryd.func130 (by kernel_rfl) (by kernel_rfl) (by kernel_rfl) (by kernel_rfl) -- (*pub-kmsg/pub/kmsg.Tags).Each
theorem fn150 : FnIs Tryd.prog 150 15 [5] (cTLess tn) := fnIs_of Tryd.func150 (by kernel_rfl) (by kernel_rfl) (by kernel_rfl) (by kernel_rfl) -- (*pub-kmsg/pub/kmsg.Tags).Each$1
theorem fn95 : FnIs Tryd.prog 95 9 [4] (cTEach tn) := fnIs_of Tryd.func95 (by kernel_rfl) (by kernel_rfl) (by kernel_rfl) (by kernel_rfl) -- (*pub-kmsg/pub/kmsg.Tags).AppendEach
theorem fn131 : FnIs Tryd.prog 131 16 [] (cTOne tn) := fnIs_of Tryd.func131 (by kernel_rfl) (by kernel_rfl) (by kernel_rfl) (by kernel_rfl) -- (*pub-kmsg/pub/kmsg.Tags).AppendEach$1
theorem tf : TF Tryd.prog tn where
  map := ⟨68, 22, by kernel_rfl, by kernel_rfl⟩
  fld := fldB_ok (by kernel_rfl)
  sl := by kernel_rfl
  info := infoB_ok (by kernel_rfl)
  vU := varB_ok (by kernel_rfl)
  vK := varB_ok (by kernel_rfl)
  zK := zeroOf_ok (by kernel_rfl)
  dInt := by kernel_rfl
  dU32 := by kernel_rfl
theorem sortOk : SortOk Tryd.prog tn := sortOk_of (it := (Tryd.prog.info? 136).get (by kernel_rfl)) (ie := (Tryd.prog.info? 68).get (by kernel_rfl)) (ke := 10) (f1 := 160) (f2 := 161) (f6 := 165) mixed tf Tryd.sa6 rfl (enters_of Tryd.func149 (by kernel_rfl) rfl) fn150 (by omega) (by kernel_rfl) (by kernel_rfl) (by kernel_rfl) (by kernel_rfl) (fun _ => by kernel_rfl) (by kernel_rfl) (by kernel_rfl) (by kernel_rfl) fn150.ent (by kernel_rfl) (by kernel_rfl) (by kernel_rfl) (fun args W => run_callFunc_extern Tryd.func165 (by kernel_rfl) (by kernel_rfl) (by kernel_rfl) (e := Extern.ReflectliteSwapper.swap true) (by kernel_rfl) args W)
theorem setOk : SetOk Tryd.prog numbers.set := fun _ _ _ _ _ _ _ _ _ _ hk hB hO ht hv => set_calls (tM := 72) (kt := 68) (et := 22) mixed fn146 (by omega) (by kernel_rfl) (by kernel_rfl) (fldB_ok (by kernel_rfl)) hk hB hO ht hv
def av : PF → Bool
  | .i8 => true
  | .i16 => true
  | .i32 => true
  | .i64 => true
  | .bytes => true
  | .cbytes => true
  | .nbytes => true
  | .cnbytes => true
  | _ => false
theorem rdAll : ∀ p, av p = true → RdOk Tryd.prog numbers.tR p (numbers.rd p) := by
  intro p h
  cases p
  · cases h
  · exact rdOk_i8 kt rfl fn141 (by omega)
  · exact rdOk_i16 kt kbig rfl fn132 (by omega)
  · cases h
  · exact rdOk_i32 kt kbig rfl fn125 (by omega)
  · exact rdOk_i64 kt kbig rfl fn152 (by omega) fn134 (by omega)
  · cases h
  · cases h
  · cases h
  · cases h
  · cases h
  · exact rdOk_bytes kt ksub rfl rfl fn137 (by omega)
  · exact rdOk_cbytes kt ksub rfl rfl fn136 (by omega)
  · exact rdOk_nbytes kt ksub rfl rfl fn143 (by omega)
  · exact rdOk_cnbytes kt ksub rfl rfl fn142 (by omega)
theorem kb : KB Tryd.prog numbers av true where
  mixed := mixed
  rdE p h := (rdAll p h).1
  rdC p h := (rdAll p h).2
  i8C := fun _ w S R r hR hRS => (i8_calls kt rfl fn141 (by omega) hR hRS).mono fun e w' h => (fun h => ⟨h.1, h.2.1, h.2.2.1⟩) (rdOk_int (p := .i8) (.inl ⟨rfl, rfl⟩) rfl h)
  okE := fun _ => fn140.ent
  okC := fun _ w S R r hR => ok_calls kt fn140 (by omega) hR
  cmE := fn127.ent
  cmC w S R r hR he := complete_calls kt fn127 (by omega) (varB_ok (by kernel_rfl)) hR he
  lenE := fun _ => fn139.ent
  lenC := fun _ w S R r hR hRS => len_calls kt ksub rfl fn139 (by omega) hR hRS
  clenE := fun _ _ => fn138.ent
  clenC := fun _ _ w S R r hR hRS => clen_calls kt ksub rfl fn138 (by omega) hR hRS
  uvE := fun _ => fn145.ent
  uvC := fun _ w S R r hR hRS => ksub.cU rfl w S R r hR hRS
  spanE := fun _ => fn147.ent
  spanC := fun _ w S R r k _ _ hR hRS => ksub.cS rfl w S R r k hR hRS
  tagsE := fun _ => fn126.ent
  tagsC := fun _ w S R r hR hRS hS => rdTags_calls kt ksub rfl rfl rfl fn146.ent setOk (zeroOf_ok (by kernel_rfl)) (varB_ok (by kernel_rfl)) fn126 (by omega) hR hRS hS
  setE := fun _ => fn146.ent
  setC := fun _ => setOk
  fR := twoB_ok (by kernel_rfl)
  zR := zeroOf_ok (by kernel_rfl)
  vR := varB_ok (by kernel_rfl)
  uuid := fun h => absurd h (by decide)
  tI32 := by kernel_rfl
  tU32 := fun _ => by kernel_rfl
  tInt := by kernel_rfl
  vStr := ⟨varB_ok (by kernel_rfl), zeroOf_ok (by kernel_rfl)⟩
  vTags := fun _ => varB_ok (by kernel_rfl)
  tErr := fun _ => ifaceB_ok (by kernel_rfl)
theorem env : Env Tryd.prog numbers av true dd := ⟨kb, ddOk⟩
theorem oct : OctT Tryd.prog kn.tSl kn.tU8 := octB_ok (by kernel_rfl)
theorem wt : WT Tryd.prog kn where
  mixed := mixed
  oct := oct
  dU8 := by kernel_rfl
  dI8 := fun _ => by kernel_rfl
  dI16 := by kernel_rfl
  dU16 := fun _ => by kernel_rfl
  dI32 := by kernel_rfl
  dU32 := by kernel_rfl
  dInt := by kernel_rfl
  dI64 := fun _ => by kernel_rfl
  dU64 := fun _ => by kernel_rfl
  dStr := by kernel_rfl
  vStr := varB_ok (by kernel_rfl)
theorem uvC (x : Nat) (w : World) (h : x < 4294967296) : ApC Tryd.prog kn.tU8 numbersW.uv (.int .u32 x) (uvar x) w := ap_uv wt (by kernel_rfl) fn148 (by omega) fn129 (by omega) fn93 (by omega) h w
theorem i16C (x : Int) (w : World) : ApC Tryd.prog kn.tU8 98 (.int .i16 x) (be 2 x) w := ap_i16 wt rfl fn133 (by omega) fn98 (by omega) x w
theorem i32C (x : Int) (w : World) : ApC Tryd.prog kn.tU8 92 (.int .i32 x) (be 4 x) w := ap_i32 wt fn128 (by omega) fn92 (by omega) x w
def avw : PF → Bool
  | .i8 => true
  | .i16 => true
  | .u16 => true
  | .i32 => true
  | .i64 => true
  | .bytes => true
  | .cbytes => true
  | .nbytes => true
  | .cnbytes => true
  | _ => false
theorem apAll : ∀ p, avw p = true → AppOk Tryd.prog kn.tU8 p (numbersW.ap p) := by
  intro p h
  cases p
  · cases h
  · exact app_i8 wt rfl fn114 (by omega)
  · exact app_i16 wt rfl fn133 (by omega) fn98 (by omega)
  · exact app_u16 wt rfl fn133 (by omega)
  · exact app_i32 wt fn128 (by omega) fn92 (by omega)
  · exact app_i64 wt rfl rfl fn135 (by omega) fn103 (by omega)
  · cases h
  · cases h
  · cases h
  · cases h
  · cases h
  · exact app_bytes wt fn92.ent i32C fn109 (by omega)
  · exact app_cbytes wt fn93.ent (fun x w h => uvC x w h) fn108 (by omega)
  · exact app_nbytes wt (fx := false) rfl fn92.ent (fun w => i32C (-1) w) (app_bytes wt fn92.ent i32C fn109 (by omega)) fn118 (by omega)
  · exact app_nbytes wt (fx := true) rfl fn93.ent (fun w => uvC 0 w (by omega)) (app_cbytes wt fn93.ent (fun x w h => uvC x w h) fn108 (by omega)) fn117 (by omega)
theorem kw : KW Tryd.prog numbersW avw true false kn.tU8 where
  mixed := mixed
  oct := oct
  dInt := by kernel_rfl
  dU32 := fun _ => by kernel_rfl
  apE p h := (apAll p h).1
  apC p h := (apAll p h).2
  alE := fun _ => fn113.ent
  alC := fun _ n w => ap_len wt fn92.ent i32C fn113 (by omega) n w
  clE := fun _ _ => fn112.ent
  clC := fun _ _ n w => ap_clen wt fn93.ent (fun x w h => uvC x w h) fn112 (by omega) n w
  nlE := fun h => absurd h (by decide)
  nlC := fun h => absurd h (by decide)
  cnE := fun h => absurd h (by decide)
  cnC := fun h => absurd h (by decide)
  uvE := fun _ => fn93.ent
  uvC := fun _ x w h => uvC x w h
  tlE := fun _ => fn94.ent
  tlC := fun _ w b o m X t hc ht => tlen_calls (kt := 68) (et := 22) mixed (by kernel_rfl) (fldB_ok (by kernel_rfl)) fn94 (by omega) hc ht
  teE := fun _ => fn95.ent
  teC := fun _ w b o m L t d bs hc hb ht hd hL hlim => teach_calls mixed tf sortOk oct (varB_ok (by kernel_rfl)) fn93.ent (fun x w h => uvC x w h) fn130 (by omega) fn131 (by omega) fn95 (by omega) hc hb ht hd hL hlim
  uuid := fun h => absurd h (by decide)
noncomputable def zv : Value := (zeroOf Tryd.prog 98).getD undef
noncomputable def zz : Array Value := applyWr zv.cells 0 dw106
theorem msg : MsgC Tryd.prog numbers.gErr kn.tU8 false true 2 fsRenewDelegationTokenRequest (some 3) 98 zz 66 68 69 70 :=
  msgC_of (cx := ⟨true, 7, 10, 8, 9⟩) (cw := ⟨true, 0, 0, 5, 6⟩) (nm := nmRenewDelegationTokenRequest) (ms := nwRenewDelegationTokenRequest) (tI16 := 42) env kw (by decide) (by decide) rfl rfl fn66 (by omega) fn68 (by omega) fn69 (by omega) fn107 (by omega) fn70 (by kernel_rfl) (by kernel_rfl) rfl (of_decide_eq_true (by kernel_rfl)) (by kernel_rfl) (by kernel_rfl) rfl (by kernel_rfl) (by kernel_rfl)
def sn : SN := { tInt := 3, tI64 := 2, tU8 := 5, tU64 := 83, tU32 := 68, tU16 := 27, tB := 4, tSl := 22, tF := 48, tFs := 31, tT := 26, tTs := 23, tG := 70, tGs := 24, tMs := 33, fPart := 42, fHas := 83, fField := 84, fAt := 85, fKnown := 86, fUsual := 87, fUv := 88, fUnk := 89, fWhole := 90, fNull := 119, fThings := 120, fCnt := 121, fVal := 122, fFix := 123, fWid := 124, fWrite := 13, fSame := 20, fZ2 := 11, fZ3 := 39, fZ4 := 81 }
theorem sf_fPart : FnIs Tryd.prog sn.fPart 132 [8] (csPt sn) := fnIs_of Tryd.func42 (by kernel_rfl) (by kernel_rfl) (by kernel_rfl) (by kernel_rfl)
theorem sf_fHas : FnIs Tryd.prog sn.fHas 20 [4] (csHs sn) := fnIs_of Tryd.func83 (by kernel_rfl) (by kernel_rfl) (by kernel_rfl) (by kernel_rfl)
theorem sf_fField : FnIs Tryd.prog sn.fField 76 [8] (csFl sn) := fnIs_of Tryd.func84 (by kernel_rfl) (by kernel_rfl) (by kernel_rfl) (by kernel_rfl)
theorem sf_fAt : FnIsC Tryd.prog sn.fAt 16 4 26 (csAt sn) := fnIsC_of Tryd.func85 (by kernel_rfl) (by kernel_rfl) (by kernel_rfl) (by kernel_rfl)
theorem sf_fKnown : FnIs Tryd.prog sn.fKnown 23 [2] (csKw sn) := fnIs_of Tryd.func86 (by kernel_rfl) (by kernel_rfl) (by kernel_rfl) (by kernel_rfl)
theorem sf_fUv : FnIs Tryd.prog sn.fUv 20 [2] (csUvr sn) := fnIs_of Tryd.func88 (by kernel_rfl) (by kernel_rfl) (by kernel_rfl) (by kernel_rfl)
theorem sf_fUnk : FnIs Tryd.prog sn.fUnk 85 [4] (csUn sn) := fnIs_of Tryd.func89 (by kernel_rfl) (by kernel_rfl) (by kernel_rfl) (by kernel_rfl)
theorem sf_fWhole : FnIs Tryd.prog sn.fWhole 8 [2] (csWh sn) := fnIs_of Tryd.func90 (by kernel_rfl) (by kernel_rfl) (by kernel_rfl) (by kernel_rfl)
theorem sf_fNull : FnIs Tryd.prog sn.fNull 20 [6] (csNu sn) := fnIs_of Tryd.func119 (by kernel_rfl) (by kernel_rfl) (by kernel_rfl) (by kernel_rfl)
theorem sf_fThings : FnIs Tryd.prog sn.fThings 8 [2] (csTh sn) := fnIs_of Tryd.func120 (by kernel_rfl) (by kernel_rfl) (by kernel_rfl) (by kernel_rfl)
theorem sf_fCnt : FnIs Tryd.prog sn.fCnt 28 [8] (csCn sn) := fnIs_of Tryd.func121 (by kernel_rfl) (by kernel_rfl) (by kernel_rfl) (by kernel_rfl)
theorem sf_fVal : FnIs Tryd.prog sn.fVal 70 [12] (csVa sn) := fnIs_of Tryd.func122 (by kernel_rfl) (by kernel_rfl) (by kernel_rfl) (by kernel_rfl)
theorem sf_fFix : FnIs Tryd.prog sn.fFix 22 [4] (csFi sn) := fnIs_of Tryd.func123 (by kernel_rfl) (by kernel_rfl) (by kernel_rfl) (by kernel_rfl)
theorem sf_fWid : FnIs Tryd.prog sn.fWid 11 [2] (csWd sn) := fnIs_of Tryd.func124 (by kernel_rfl) (by kernel_rfl) (by kernel_rfl) (by kernel_rfl)
theorem sf_fWrite : FnIs Tryd.prog sn.fWrite 21 [6] (csWr sn) := fnIs_of Tryd.func13 (by kernel_rfl) (by kernel_rfl) (by kernel_rfl) (by kernel_rfl)
theorem sf_fZ2 : FnIs Tryd.prog sn.fZ2 15 [2] (csZ2 sn) := fnIs_of Tryd.func11 (by kernel_rfl) (by kernel_rfl) (by kernel_rfl) (by kernel_rfl)
theorem sf_fZ3 : FnIs Tryd.prog sn.fZ3 18 [2] (csZ3 sn) := fnIs_of Tryd.func39 (by kernel_rfl) (by kernel_rfl) (by kernel_rfl) (by kernel_rfl)
theorem sf_fZ4 : FnIs Tryd.prog sn.fZ4 7 [2] (csZ4 sn) := fnIs_of Tryd.func81 (by kernel_rfl) (by kernel_rfl) (by kernel_rfl) (by kernel_rfl)
theorem rt : RefT Tryd.prog sn where
  mixed := mixed
  dInt := by kernel_rfl
  dI64 := by kernel_rfl
  dU8 := by kernel_rfl
  dU32 := by kernel_rfl
  dU64 := by kernel_rfl
  oct := oct
  dTs := by kernel_rfl
  dGs := by kernel_rfl
  dFs := by kernel_rfl
  vI64 := varB_ok (by kernel_rfl)
  vU8 := varB_ok (by kernel_rfl)
  vT := varB_ok (by kernel_rfl)
  vF := varB_ok (by kernel_rfl)
  vG := varB_ok (by kernel_rfl)
  vM := varB_ok (by kernel_rfl)
  t0 := fldB_ok (by kernel_rfl)
  t1 := fldB_ok (by kernel_rfl)
  t2 := fldB_ok (by kernel_rfl)
  t3 := fldB_ok (by kernel_rfl)
  t4 := fldB_ok (by kernel_rfl)
  f0 := fldB_ok (by kernel_rfl)
  f1 := fldB_ok (by kernel_rfl)
  f2 := fldB_ok (by kernel_rfl)
  f3 := fldB_ok (by kernel_rfl)
  f4 := fldB_ok (by kernel_rfl)
  f5 := fldB_ok (by kernel_rfl)
  f6 := fldB_ok (by kernel_rfl)
  f7 := fldB_ok (by kernel_rfl)
  g0 := fldB_ok (by kernel_rfl)
  g1 := fldB_ok (by kernel_rfl)
  m0 := fldB_ok (by kernel_rfl)
  m1 := fldB_ok (by kernel_rfl)
  zT := zeroOf_ok (by kernel_rfl)
  zF := zeroOf_ok (by kernel_rfl)
  zG := zeroOf_ok (by kernel_rfl)
  zM := zeroOf_ok (by kernel_rfl)
  z8 := z8_ok (by kernel_rfl)
  bT := fun w => by kernel_rfl
  bG := fun w => by kernel_rfl
  bSG := fun w => by kernel_rfl
  iG := iG_ok (by kernel_rfl)

theorem leaf : LeafC Tryd.prog sn := leafC_of rt (varB_ok (by kernel_rfl)) sf_fUv sf_fFix sf_fCnt sf_fWid sf_fWhole sf_fThings sf_fHas sf_fNull sf_fKnown sf_fAt sf_fUnk
theorem trees : TreT Tryd.prog sn where
  tab := rt
  cT := by kernel_rfl
  cG := by kernel_rfl
  cI := by kernel_rfl
  cSl := by kernel_rfl
  cB := by kernel_rfl
  cTs := by kernel_rfl
  cGs := by kernel_rfl
  cU := by kernel_rfl
  c8 := by kernel_rfl
  dB := by kernel_rfl
  nT := by kernel_rfl
  nG := by kernel_rfl

def ln : LN := { fM := 30, fB := 31, fV := 15, fA := 32 }
def itM : List BI := [([(0, 9), (2, -1), (3, -1), (4, -1)], none), ([(0, 4), (2, -1), (3, -1), (4, -1)], none)]
def ssM : SFs := .cons 9 0 (-1) (-1) (-1) 0 0 .nil (.cons 4 0 (-1) (-1) (-1) 0 0 .nil (.nil))
theorem fiM : FnIsC Tryd.prog 31 5 0 sn.tMs (cMsgB sn 2 itM) := fnIsC_of Tryd.func31 (by kernel_rfl) (by kernel_rfl) (by kernel_rfl) (by kernel_rfl)
theorem sbM : Ent Tryd.prog 31 ∧ MsgBC Tryd.prog 31 2 ssM := msgb_calls rt (fun x base n c w => by kernel_rfl) fiM (of_decide_eq_true (by kernel_rfl)) ⟨fun w => by kernel_rfl, rfl, ⟨fun w => by kernel_rfl, rfl, trivial⟩⟩ (fun sv w => by kernel_rfl) rfl (of_decide_eq_true (by kernel_rfl))
theorem lawC : LawC Tryd.prog sn ln numbers.gErr 2 2 ssM (fun x l => againOut false true 2 fsRenewDelegationTokenRequest x l) (okInL true 2 fsRenewDelegationTokenRequest 2) :=
  lawC_of (tI16 := 42) (tErr := 51) rt msg (by kernel_rfl) (ifaceB_ok (by kernel_rfl)) (.inl (by kernel_rfl)) fn32 (by omega) fn15 (by omega) (ntSm := 26) (.inr fn20) (by omega) fn30 (by omega) fn67 (by omega) (by decide) sf_fZ4 sf_fZ3 sf_fZ2 sbM sf_fWrite sf_fPart.ent (ref_calls leaf sf_fPart sf_fField sf_fVal ssM (by kernel_rfl)).1
theorem fnL : FnIs Tryd.prog 8 56 [6] (cLcu sn ln) := fnIs_of Tryd.func8 (by kernel_rfl) (by kernel_rfl) (by kernel_rfl) (by kernel_rfl)
theorem law {W : World} {x0 x2 k : Nat} {cs : List Value} {t : Tr} (hx : x0 < 256) (hx2 : x2 < 65536) (ht : TrRp W k cs t) (herr : ErrAt numbers.gErr W) : Calls Tryd.prog 8 [.int .u8 (x0 : Int), .agg cs.toArray, .int .u16 (x2 : Int)].toArray W (TrueC W) :=
  cut_law lawC (by kernel_rfl) (by kernel_rfl) fnL hx hx2 ht herr (fun v => mx_lim (by kernel_rfl) (by kernel_rfl) t v _)
end Go.Proofs.YtmjhmpgnfdincaaDoor.Kx
