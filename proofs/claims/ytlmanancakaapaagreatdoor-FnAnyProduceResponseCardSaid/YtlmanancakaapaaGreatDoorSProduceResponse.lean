/-
  FnAnyProduceResponse: the numbers of the program, the code of its functions, and the law out of them.
-/
import Derived.Test.YtlmanancakaapaaGreatDoorChecked
import Derived.Test.YtlmanancakaapaaGreatDoorK1
import Derived.Test.YtlmanancakaapaaGreatDoorK2
import Derived.Test.YtlmanancakaapaaGreatDoorK3
import Derived.Test.YtlmanancakaapaaGreatDoorK4
import Derived.Test.YtlmanancakaapaaGreatDoorK5
import Derived.Test.YtlmanancakaapaaGreatDoorK6
import Derived.Test.YtlmanancakaapaaGreatDoorK7
import Derived.Test.YtlmanancakaapaaGreatDoorK8
import Derived.Test.YtlmanancakaapaaGreatDoorK9
import Derived.Test.YtlmanancakaapaaGreatDoorK10
import Derived.Test.YtlmanancakaapaaGreatDoorK11
import Derived.Test.YtlmanancakaapaaGreatDoorK12
import Derived.Test.YtlmanancakaapaaGreatDoorK13
import Derived.Test.YtlmanancakaapaaGreatDoorK14
import Derived.Test.YtlmanancakaapaaGreatDoorK15
import Derived.KernelRfl
import Derived.Test.YtlmanancakaapaaGreatDoorSh
namespace Go.Proofs.YtlmanancakaapaaGreatDoor.Kx
open Go Go.Proofs
set_option maxRecDepth 100000
def sm0 : Sm := { fDef := 29, fSame := 28, F := 58, sz := 3, toff := 2, ds := [(0, (some .i32), (-1)), (1, (some .i32), (-1))] }
def numbers : G := { rd := fun | .bool => 999999 | .i8 => 999999 | .i16 => 43 | .u16 => 999999 | .i32 => 42 | .i64 => 44 | .uuid => 40 | .str => 39 | .cstr => 38 | .nstr => 49 | .cnstr => 47 | .bytes => 999999 | .cbytes => 999999 | .nbytes => 999999 | .cnbytes => 999999, un := fun | .str => 37 | .cstr => 36 | .nstr => 48 | .cnstr => 46 | _ => 999999, len := 32, clen := 31, ok := 33, complete := 34, uv := 51, span := 53, tags := 50, set := 52, tR := 77, tUuid := 48, tVer := 29, tI8 := 999999, tI32 := 21, tU32 := 69, tInt := 3, tBool := 4, tErr := 35, tTags := 42, tSl := 22, tStr := 9, gErr := 0 }
def numbersW : GW := { ap := fun | .bool => 999999 | .i8 => 999999 | .i16 => 21 | .u16 => 56 | .i32 => 20 | .i64 => 22 | .uuid => 19 | .str => 18 | .cstr => 17 | .nstr => 24 | .cnstr => 23 | .bytes => 999999 | .cbytes => 999999 | .nbytes => 999999 | .cnbytes => 999999, alen := 16, calen := 15, nalen := 999999, cnalen := 999999, uv := 25, tlen := 26, teach := 27, tVer := 29, tInt := 3, tU32 := 69, tSl := 22, tUuid := 48, sm := [sm0] }
def kn : Kn := { tRS := 77, tSl := 22, tB := 4, tInt := 3, tU8 := 5, tI8 := 999999, tI16 := 29, tU16 := 92, tI32 := 21, tU32 := 69, tI64 := 2, tU64 := 94, tStr := 9, tUuid := 48, tBE := 102, tErr := 35, gBE := 1, gErr := 0, fU16 := 64, fU32 := 63, fU64 := 70, fUv := 66, fR64 := 65 }
theorem mixed : Tryz.prog.follows .mixedOrders = true := by kernel_rfl
def fsProduceResponse : Fds := (.cons 0 none none (0) 1 (.list none 19 (.struct none (some 18) (.cons 0 (some 12) none (0) 0 (.str none) (.cons 13 none none (0) 1 (.prim .uuid) (.cons 0 none none (0) 17 (.list none 11 (.struct none (some 10) (.cons 0 none none (0) 0 (.prim .i32) (.cons 0 none none (0) 1 (.prim .i16) (.cons 0 none none (0) 2 (.prim .i64) (.cons 2 none none (-1) 3 (.prim .i64) (.cons 5 none none (-1) 4 (.prim .i64) (.cons 8 none none (0) 5 (.list none 3 (.struct none (some 2) (.cons 0 none none (0) 0 (.prim .i32) (.cons 0 none none (0) 1 (.str (some 0)) .nil)))) (.cons 8 none none (0) 6 (.str (some 0)) (.cons 0 none (some 0) (0) 7 (.struct none (some 2) (.cons 0 none none (-1) 0 (.prim .i32) (.cons 0 none none (-1) 1 (.prim .i32) .nil))) .nil)))))))))) .nil))))) (.cons 1 none none (0) 2 (.prim .i32) (.cons 0 none (some 0) (0) 3 (.list none 5 (.struct none (some 4) (.cons 0 none none (0) 0 (.prim .i32) (.cons 0 none none (0) 1 (.str none) (.cons 0 none none (0) 2 (.prim .i32) (.cons 0 none none (0) 3 (.str (some 0)) .nil)))))) .nil)))
def nmProduceResponse : Nm := (.mk [48, 49, 9, 10, 11] [(.mk [11, 44, 1, 38, 12, 13, 14, 0, 1] [(.mk [15, 16, 35, 51, 3] [(.mk [] [(.mk [17, 51, 0, 9] []), (.mk [18, 51, 1, 48] []), (.mk [19, 51, 2, 49, 20, 21, 22, 2, 3] [(.mk [23, 24, 41, 60, 8] [(.mk [39, 40, 6, 7, 8] [(.mk [25, 60, 0, 21] []), (.mk [26, 60, 1, 29] []), (.mk [27, 60, 2, 2] []), (.mk [28, 60, 3, 2] []), (.mk [29, 60, 4, 2] []), (.mk [30, 60, 5, 55, 31, 32, 33, 4, 5] [(.mk [34, 35, 45, 66, 2] [(.mk [] [(.mk [36, 66, 0, 21] []), (.mk [37, 66, 1, 56] [])])])]), (.mk [38, 60, 6, 56] []), (.mk [41, 46] [(.mk [42, 60, 7, 43, 30, 58, 2] [(.mk [] [(.mk [44, 58, 0, 21] []), (.mk [45, 58, 1, 21] [])])])])])])])])])]), (.mk [47, 44, 2, 21] []), (.mk [50, 61] [(.mk [51, 44, 3, 39, 52, 53, 54, 12, 13] [(.mk [55, 56, 54, 75, 4] [(.mk [] [(.mk [57, 75, 0, 21] []), (.mk [58, 75, 1, 9] []), (.mk [59, 75, 2, 21] []), (.mk [60, 75, 3, 56] [])])])])])])
def nwProduceResponse : Nm := (.mk [35, 70, 37, 9, 10, 11] [(.mk [7, 44, 1, 38, 8, 0, 1] [(.mk [9, 51, 3] [(.mk [] [(.mk [10, 51, 0, 9] []), (.mk [11, 51, 1, 48] []), (.mk [12, 51, 2, 49, 13, 2, 3] [(.mk [14, 60, 8] [(.mk [26, 70, 28, 6, 7, 8] [(.mk [15, 60, 0, 21] []), (.mk [16, 60, 1, 29] []), (.mk [17, 60, 2, 2] []), (.mk [18, 60, 3, 2] []), (.mk [19, 60, 4, 2] []), (.mk [20, 60, 5, 55, 21, 4, 5] [(.mk [22, 66, 2] [(.mk [] [(.mk [23, 66, 0, 21] []), (.mk [24, 66, 1, 56] [])])])]), (.mk [25, 60, 6, 56] []), (.mk [29, 60, 7, 58, 30, 31, 0, 29, 28, 4, 0, 2, 0, 0, 0] [(.mk [] [(.mk [32, 0, 21] []), (.mk [33, 1, 21] [])])])])])])])])]), (.mk [34, 44, 2, 21] []), (.mk [38, 44, 3, 39, 39, 40, 1, 0, 0, 4, 0, 0, 41, 12, 13] [(.mk [42, 75, 4] [(.mk [] [(.mk [43, 75, 0, 21] []), (.mk [44, 75, 1, 9] []), (.mk [45, 75, 2, 21] []), (.mk [46, 75, 3, 56] [])])])])])
theorem fn43 : FnIs Tryz.prog 43 32 [2] (cI16 kn) := fnIs_of Tryz.func43 (by kernel_rfl) (by kernel_rfl) (by kernel_rfl) (by kernel_rfl) -- (*pub-kmsg/pub/kmsg/inner/kbin.Reader).Int16
theorem fn42 : FnIs Tryz.prog 42 32 [2] (cI32 kn) := fnIs_of Tryz.func42 (by kernel_rfl) (by kernel_rfl) (by kernel_rfl) (by kernel_rfl) -- (*pub-kmsg/pub/kmsg/inner/kbin.Reader).Int32
theorem fn65 : FnIs Tryz.prog 65 31 [2] (cR64 kn) := fnIs_of Tryz.func65 (by kernel_rfl) (by kernel_rfl) (by kernel_rfl) (by kernel_rfl) -- (*pub-kmsg/pub/kmsg/inner/kbin.Reader).readUint64
theorem fn44 : FnIs Tryz.prog 44 6 [2] (cI64 kn) := fnIs_of Tryz.func44 (by kernel_rfl) (by kernel_rfl) (by kernel_rfl) (by kernel_rfl) -- (*pub-kmsg/pub/kmsg/inner/kbin.Reader).Int64
theorem fn66 : FnIs Tryz.prog 66 87 [2, 3] (cUvIn kn) := fnIs_of Tryz.func66 (by kernel_rfl) (by kernel_rfl) (by kernel_rfl) (by kernel_rfl) -- pub-kmsg/pub/kmsg/inner/kbin.Uvarint
theorem fn51 : FnIs Tryz.prog 51 31 [2] (cUv kn) := fnIs_of Tryz.func51 (by kernel_rfl) (by kernel_rfl) (by kernel_rfl) (by kernel_rfl) -- (*pub-kmsg/pub/kmsg/inner/kbin.Reader).Uvarint
theorem fn40 : FnIsC Tryz.prog 40 9 2 48 (cUuid numbers kn) := fnIsC_of Tryz.func40 (by kernel_rfl) (by kernel_rfl) (by kernel_rfl) (by kernel_rfl) -- (*pub-kmsg/pub/kmsg/inner/kbin.Reader).Uuid
theorem fn50 : FnIsC Tryz.prog 50 24 2 42 (cRdTags numbers kn) := fnIsC_of Tryz.func50 (by kernel_rfl) (by kernel_rfl) (by kernel_rfl) (by kernel_rfl) -- pub-kmsg/pub/kmsg.internalReadTags
theorem fn52 : FnIs Tryz.prog 52 21 [] (cSet numbers 40) := fnIs_of Tryz.func52 (by kernel_rfl) (by kernel_rfl) (by kernel_rfl) (by kernel_rfl) -- (*pub-kmsg/pub/kmsg.Tags).Set
theorem fn33 : FnIs Tryz.prog 33 8 [2] (cOk kn) := fnIs_of Tryz.func33 (by kernel_rfl) (by kernel_rfl) (by kernel_rfl) (by kernel_rfl) -- (*pub-kmsg/pub/kmsg/inner/kbin.Reader).Ok
theorem fn34 : FnIs Tryz.prog 34 8 [2] (cComplete kn) := fnIs_of Tryz.func34 (by kernel_rfl) (by kernel_rfl) (by kernel_rfl) (by kernel_rfl) -- (*pub-kmsg/pub/kmsg/inner/kbin.Reader).Complete
theorem fn53 : FnIs Tryz.prog 53 40 [4] (cSpan kn) := fnIs_of Tryz.func53 (by kernel_rfl) (by kernel_rfl) (by kernel_rfl) (by kernel_rfl) -- (*pub-kmsg/pub/kmsg/inner/kbin.Reader).Span
theorem fn39 : FnIs Tryz.prog 39 11 [2] (cStr numbers kn) := fnIs_of Tryz.func39 (by kernel_rfl) (by kernel_rfl) (by kernel_rfl) (by kernel_rfl) -- (*pub-kmsg/pub/kmsg/inner/kbin.Reader).String
theorem fn38 : FnIs Tryz.prog 38 12 [2] (cCStr numbers kn) := fnIs_of Tryz.func38 (by kernel_rfl) (by kernel_rfl) (by kernel_rfl) (by kernel_rfl) -- (*pub-kmsg/pub/kmsg/inner/kbin.Reader).CompactString
theorem fn49 : FnIs Tryz.prog 49 14 [2] (cNStr numbers kn) := fnIs_of Tryz.func49 (by kernel_rfl) (by kernel_rfl) (by kernel_rfl) (by kernel_rfl) -- (*pub-kmsg/pub/kmsg/inner/kbin.Reader).NullableString
theorem fn47 : FnIs Tryz.prog 47 15 [2] (cCNStr numbers kn) := fnIs_of Tryz.func47 (by kernel_rfl) (by kernel_rfl) (by kernel_rfl) (by kernel_rfl) -- (*pub-kmsg/pub/kmsg/inner/kbin.Reader).CompactNullableString
theorem fn32 : FnIs Tryz.prog 32 21 [2] (cLen numbers kn) := fnIs_of Tryz.func32 (by kernel_rfl) (by kernel_rfl) (by kernel_rfl) (by kernel_rfl) -- (*pub-kmsg/pub/kmsg/inner/kbin.Reader).ArrayLen
theorem fn31 : FnIs Tryz.prog 31 23 [2] (cCLen numbers kn) := fnIs_of Tryz.func31 (by kernel_rfl) (by kernel_rfl) (by kernel_rfl) (by kernel_rfl) -- (*pub-kmsg/pub/kmsg/inner/kbin.Reader).CompactArrayLen
theorem fn64 : FnIs Tryz.prog 64 18 [4] (gBig kn kn.tU16 .u16 2) := fnIs_of Tryz.func64 (by kernel_rfl) (by kernel_rfl) (by kernel_rfl) (by kernel_rfl) -- (encoding/binary.bigEndian).Uint16
theorem fn63 : FnIs Tryz.prog 63 30 [4] (gBig kn kn.tU32 .u32 4) := fnIs_of Tryz.func63 (by kernel_rfl) (by kernel_rfl) (by kernel_rfl) (by kernel_rfl) -- (encoding/binary.bigEndian).Uint32
theorem fn70 : FnIs Tryz.prog 70 54 [4] (gBig kn kn.tU64 .u64 8) := fnIs_of Tryz.func70 (by kernel_rfl) (by kernel_rfl) (by kernel_rfl) (by kernel_rfl) -- (encoding/binary.bigEndian).Uint64
theorem fn56 : FnIs Tryz.prog 56 13 [4] (cAU16 kn) := fnIs_of Tryz.func56 (by kernel_rfl) (by kernel_rfl) (by kernel_rfl) (by kernel_rfl) -- pub-kmsg/pub/kmsg/inner/kbin.AppendUint16
theorem fn55 : FnIs Tryz.prog 55 19 [4] (cAU32 kn) := fnIs_of Tryz.func55 (by kernel_rfl) (by kernel_rfl) (by kernel_rfl) (by kernel_rfl) -- pub-kmsg/pub/kmsg/inner/kbin.AppendUint32
theorem fn57 : FnIs Tryz.prog 57 31 [4] (cAU64 kn) := fnIs_of Tryz.func57 (by kernel_rfl) (by kernel_rfl) (by kernel_rfl) (by kernel_rfl) -- pub-kmsg/pub/kmsg/inner/kbin.appendUint64
theorem fn21 : FnIs Tryz.prog 21 9 [4] (cACv kn.tI16 kn.tU16 56) := fnIs_of Tryz.func21 (by kernel_rfl) (by kernel_rfl) (by kernel_rfl) (by kernel_rfl) -- pub-kmsg/pub/kmsg/inner/kbin.AppendInt16
theorem fn20 : FnIs Tryz.prog 20 9 [4] (cACv kn.tI32 kn.tU32 55) := fnIs_of Tryz.func20 (by kernel_rfl) (by kernel_rfl) (by kernel_rfl) (by kernel_rfl) -- pub-kmsg/pub/kmsg/inner/kbin.AppendInt32
theorem fn22 : FnIs Tryz.prog 22 9 [4] (cACv kn.tI64 kn.tU64 57) := fnIs_of Tryz.func22 (by kernel_rfl) (by kernel_rfl) (by kernel_rfl) (by kernel_rfl) -- pub-kmsg/pub/kmsg/inner/kbin.AppendInt64
theorem fn16 : FnIs Tryz.prog 16 9 [4] (cACv kn.tInt kn.tI32 20) := fnIs_of Tryz.func16 (by kernel_rfl) (by kernel_rfl) (by kernel_rfl) (by kernel_rfl) -- pub-kmsg/pub/kmsg/inner/kbin.AppendArrayLen
theorem fn15 : FnIs Tryz.prog 15 10 [4] (cACv1 kn 25) := fnIs_of Tryz.func15 (by kernel_rfl) (by kernel_rfl) (by kernel_rfl) (by kernel_rfl) -- pub-kmsg/pub/kmsg/inner/kbin.AppendCompactArrayLen
theorem fn19 : FnIs Tryz.prog 19 8 [4] (cAUuid kn) := fnIs_of Tryz.func19 (by kernel_rfl) (by kernel_rfl) (by kernel_rfl) (by kernel_rfl) -- pub-kmsg/pub/kmsg/inner/kbin.AppendUuid
theorem fn18 : FnIs Tryz.prog 18 13 [4] (cAStr kn kn.tStr kn.tI16 21) := fnIs_of Tryz.func18 (by kernel_rfl) (by kernel_rfl) (by kernel_rfl) (by kernel_rfl) -- pub-kmsg/pub/kmsg/inner/kbin.AppendString
theorem fn17 : FnIs Tryz.prog 17 14 [4] (cACStr kn kn.tStr 25) := fnIs_of Tryz.func17 (by kernel_rfl) (by kernel_rfl) (by kernel_rfl) (by kernel_rfl) -- pub-kmsg/pub/kmsg/inner/kbin.AppendCompactString
theorem fn24 : FnIs Tryz.prog 24 14 [4] (cANStr kn 56 (.int .i16 (-1)) 21 18) := fnIs_of Tryz.func24 (by kernel_rfl) (by kernel_rfl) (by kernel_rfl) (by kernel_rfl) -- pub-kmsg/pub/kmsg/inner/kbin.AppendNullableString
theorem fn23 : FnIs Tryz.prog 23 14 [4] (cANStr kn 56 (.int .u32 0) 25 17) := fnIs_of Tryz.func23 (by kernel_rfl) (by kernel_rfl) (by kernel_rfl) (by kernel_rfl) -- pub-kmsg/pub/kmsg/inner/kbin.AppendCompactNullableString
theorem fn25 : FnIs Tryz.prog 25 93 [4] (cAUv kn 58) := fnIs_of Tryz.func25 (by kernel_rfl) (by kernel_rfl) (by kernel_rfl) (by kernel_rfl) -- pub-kmsg/pub/kmsg/inner/kbin.AppendUvarint
theorem fn58 : FnIs Tryz.prog 58 8 [2] (cUvLen kn 67) := fnIs_of Tryz.func58 (by kernel_rfl) (by kernel_rfl) (by kernel_rfl) (by kernel_rfl) -- pub-kmsg/pub/kmsg/inner/kbin.UvarintLen
theorem fn67 : FnIs Tryz.prog 67 19 [2] (cLen32 kn 69) := fnIs_of Tryz.func67 (by kernel_rfl) (by kernel_rfl) (by kernel_rfl) (by kernel_rfl) -- math/bits.Len32
theorem fn26 : FnIs Tryz.prog 26 8 [2] (cTLen kn 42 40) := fnIs_of Tryz.func26 (by kernel_rfl) (by kernel_rfl) (by kernel_rfl) (by kernel_rfl) -- (*pub-kmsg/pub/kmsg.Tags).Len
theorem fn8 : FnIs Tryz.prog 8 3 [0] (cNewPtr 44 13) := fnIs_of Tryz.func8 (by kernel_rfl) (by kernel_rfl) (by kernel_rfl) (by kernel_rfl) -- pub-kmsg/pub/kmsg.NewPtrProduceResponse
theorem fn10 : FnIs Tryz.prog 10 8 [] (cSetV 44 29) := fnIs_of Tryz.func10 (by kernel_rfl) (by kernel_rfl) (by kernel_rfl) (by kernel_rfl) -- (*pub-kmsg/pub/kmsg.ProduceResponse).SetVersion
theorem fn11 : FnIs Tryz.prog 11 8 [4] (cRdF 14) := fnIs_of Tryz.func11 (by kernel_rfl) (by kernel_rfl) (by kernel_rfl) (by kernel_rfl) -- (*pub-kmsg/pub/kmsg.ProduceResponse).ReadFrom
theorem fn4 : FnIs Tryz.prog 4 4 [0] (cMax 29 3 8 9) := fnIs_of Tryz.func4 (by kernel_rfl) (by kernel_rfl) (by kernel_rfl) (by kernel_rfl) -- pub-kmsg/impl.MaxProduceResponse
theorem fn9 : FnIs Tryz.prog 9 3 [2] (cMaxV 13) := fnIs_of Tryz.func9 (by kernel_rfl) (by kernel_rfl) (by kernel_rfl) (by kernel_rfl) -- (*pub-kmsg/pub/kmsg.ProduceResponse).MaxVersion
theorem fn5 : FnIs Tryz.prog 5 19 [4, 5] (cAgain 29 3 22 35 8 10 11 12) := fnIs_of Tryz.func5 (by kernel_rfl) (by kernel_rfl) (by kernel_rfl) (by kernel_rfl) -- pub-kmsg/impl.AgainProduceResponse
theorem fn3 : FnIs Tryz.prog 3 43 [4] (cAny 22 3 4 4 6 5 7) := fnIs_of Tryz.func3 (by kernel_rfl) (by kernel_rfl) (by kernel_rfl) (by kernel_rfl) -- pub-kmsg/laws.FnAnyProduceResponse
theorem fn6 : FnIs Tryz.prog 6 10 [4] (cVer 5 3) := fnIs_of Tryz.func6 (by kernel_rfl) (by kernel_rfl) (by kernel_rfl) (by kernel_rfl) -- pub-kmsg/laws.version
theorem fn7 : FnIs Tryz.prog 7 26 [4] (cSame 22 5 3) := fnIs_of Tryz.func7 (by kernel_rfl) (by kernel_rfl) (by kernel_rfl) (by kernel_rfl) -- pub-kmsg/spec.Same
theorem fn14 : FnIs Tryz.prog 14 423 [6] (gRead numbers true false ⟨true, 7, 10, 8, 9⟩ fsProduceResponse 13 44 4 9 62 nmProduceResponse) := fnIs_of Tryz.func14 (by kernel_rfl) (by kernel_rfl) (by kernel_rfl) (by kernel_rfl) -- (*pub-kmsg/pub/kmsg.ProduceResponse).readFrom
theorem fn12 : FnIs Tryz.prog 12 454 [4] (gWrite numbersW false ⟨true, 0, 0, 5, 6⟩ fsProduceResponse 44 4 9 0 47 nwProduceResponse) := fnIs_of Tryz.func12 (by kernel_rfl) (by kernel_rfl) (by kernel_rfl) (by kernel_rfl) -- (*pub-kmsg/pub/kmsg.ProduceResponse).AppendTo
def di13 : List DI := []
theorem fn13 : FnIs Tryz.prog 13 2 [] (gDflt di13 2) := fnIs_of Tryz.func13 (by kernel_rfl) (by kernel_rfl) (by kernel_rfl) (by kernel_rfl) -- (*pub-kmsg/pub/kmsg.ProduceResponse).Default
noncomputable def dw13 : List (Nat × Value) := (dRun Tryz.prog 2 di13 [(0, 0)]).getD []
theorem df13 : Ent Tryz.prog 13 ∧ DfC Tryz.prog 13 dw13 := dfC_of (n0 := 2) (items := di13) (by kernel_rfl) fn13 (by kernel_rfl) (of_decide_eq_true (by kernel_rfl)) (by omega)
def di30 : List DI := [.st 0 58 0 21 (.int .i32 (-1)), .st 0 58 1 21 (.int .i32 (-1))]
theorem fn30 : FnIs Tryz.prog 30 8 [] (gDflt di30 2) := fnIs_of Tryz.func30 (by kernel_rfl) (by kernel_rfl) (by kernel_rfl) (by kernel_rfl) -- (*pub-kmsg/pub/kmsg.ProduceResponseTopicPartitionCurrentLeader).Default
noncomputable def dw30 : List (Nat × Value) := (dRun Tryz.prog 2 di30 [(0, 0)]).getD []
theorem df30 : Ent Tryz.prog 30 ∧ DfC Tryz.prog 30 dw30 := dfC_of (n0 := 2) (items := di30) (by kernel_rfl) fn30 (by kernel_rfl) (of_decide_eq_true (by kernel_rfl)) (by omega)
def di35 : List DI := []
theorem fn35 : FnIs Tryz.prog 35 2 [] (gDflt di35 2) := fnIs_of Tryz.func35 (by kernel_rfl) (by kernel_rfl) (by kernel_rfl) (by kernel_rfl) -- (*pub-kmsg/pub/kmsg.ProduceResponseTopic).Default
noncomputable def dw35 : List (Nat × Value) := (dRun Tryz.prog 2 di35 [(0, 0)]).getD []
theorem df35 : Ent Tryz.prog 35 ∧ DfC Tryz.prog 35 dw35 := dfC_of (n0 := 2) (items := di35) (by kernel_rfl) fn35 (by kernel_rfl) (of_decide_eq_true (by kernel_rfl)) (by omega)
def di41 : List DI := [.st 0 60 3 2 (.int .i64 (-1)), .st 0 60 4 2 (.int .i64 (-1)), .fa 2 0 60 7, .nop 2, .st 2 58 0 21 (.int .i32 (-1)), .st 2 58 1 21 (.int .i32 (-1))]
theorem fn41 : FnIs Tryz.prog 41 19 [] (gDflt di41 3) := fnIs_of Tryz.func41 (by kernel_rfl) (by kernel_rfl) (by kernel_rfl) (by kernel_rfl) -- (*pub-kmsg/pub/kmsg.ProduceResponseTopicPartition).Default
noncomputable def dw41 : List (Nat × Value) := (dRun Tryz.prog 3 di41 [(0, 0)]).getD []
theorem df41 : Ent Tryz.prog 41 ∧ DfC Tryz.prog 41 dw41 := dfC_of (n0 := 3) (items := di41) (by kernel_rfl) fn41 (by kernel_rfl) (of_decide_eq_true (by kernel_rfl)) (by omega)
def di45 : List DI := []
theorem fn45 : FnIs Tryz.prog 45 2 [] (gDflt di45 2) := fnIs_of Tryz.func45 (by kernel_rfl) (by kernel_rfl) (by kernel_rfl) (by kernel_rfl) -- (*pub-kmsg/pub/kmsg.ProduceResponseTopicPartitionErrorRecord).Default
noncomputable def dw45 : List (Nat × Value) := (dRun Tryz.prog 2 di45 [(0, 0)]).getD []
theorem df45 : Ent Tryz.prog 45 ∧ DfC Tryz.prog 45 dw45 := dfC_of (n0 := 2) (items := di45) (by kernel_rfl) fn45 (by kernel_rfl) (of_decide_eq_true (by kernel_rfl)) (by omega)
def di54 : List DI := []
theorem fn54 : FnIs Tryz.prog 54 2 [] (gDflt di54 2) := fnIs_of Tryz.func54 (by kernel_rfl) (by kernel_rfl) (by kernel_rfl) (by kernel_rfl) -- (*pub-kmsg/pub/kmsg.ProduceResponseBroker).Default
noncomputable def dw54 : List (Nat × Value) := (dRun Tryz.prog 2 di54 [(0, 0)]).getD []
theorem df54 : Ent Tryz.prog 54 ∧ DfC Tryz.prog 54 dw54 := dfC_of (n0 := 2) (items := di54) (by kernel_rfl) fn54 (by kernel_rfl) (of_decide_eq_true (by kernel_rfl)) (by omega)
noncomputable def dd : Nat → Option (List (Nat × Value))
  | 13 => some dw13
  | 30 => some dw30
  | 35 => some dw35
  | 41 => some dw41
  | 45 => some dw45
  | 54 => some dw54
  | _ => none
theorem ddOk : ∀ f wr, dd f = some wr → Ent Tryz.prog f ∧ DfC Tryz.prog f wr := by
  intro f wr h
  unfold dd at h
  split at h
  · obtain rfl := Option.some.inj h; exact df13
  · obtain rfl := Option.some.inj h; exact df30
  · obtain rfl := Option.some.inj h; exact df35
  · obtain rfl := Option.some.inj h; exact df41
  · obtain rfl := Option.some.inj h; exact df45
  · obtain rfl := Option.some.inj h; exact df54
  · cases h
theorem kt : KT Tryz.prog numbers kn where
  mixed := mixed
  f0 := fldB_ok (by kernel_rfl)
  f1 := fldB_ok (by kernel_rfl)
  sl := by kernel_rfl
  u8 := varB_ok (by kernel_rfl)
  dU8 := by kernel_rfl
  dI8 := fun h => absurd h (by decide)
  dI16 := by kernel_rfl
  dI32 := by kernel_rfl
  dU32 := by kernel_rfl
  dInt := by kernel_rfl
theorem kbig : KBig Tryz.prog kn where
  be := varB_ok (by kernel_rfl)
  d16 := by kernel_rfl
  d64 := fun _ => by kernel_rfl
  dI64 := fun _ => by kernel_rfl
  f16 := fun _ => fn64
  f32 := fun _ => fn63
  f64 := fun _ => fn70
theorem ksub : KSub Tryz.prog numbers kn kn.tRS where
  e16 := fun _ => fn43.ent
  c16 := fun _ w S R r hR hRS => (i16_calls kt kbig rfl fn43 (by omega) hR hRS).mono fun e w' h => (fun h => ⟨h.1, h.2.1, h.2.2.1⟩) (rdOk_int (p := .i16) (.inr (.inl ⟨rfl, rfl⟩)) rfl h)
  e32 := fun _ => fn42.ent
  c32 := fun _ w S R r hR hRS => (i32_calls kt kbig rfl fn42 (by omega) hR hRS).mono fun e w' h => (fun h => ⟨h.1, h.2.1, h.2.2.1⟩) (rdOk_int (p := .i32) (.inr (.inr (.inl ⟨rfl, rfl⟩))) rfl h)
  eU := fun _ => fn51.ent
  cU := fun _ w S R r hR hRS => uv_calls kt fn66 (by omega) fn51 (by omega) hR hRS
  eS := fun _ => fn53.ent
  cS := fun _ w S R r k hR hRS => span_calls kt fn53 (by omega) hR hRS
  dStr := by kernel_rfl
  vStr := varB_ok (by kernel_rfl)
  zStr := zeroOf_ok (by kernel_rfl)
def tn : TN := { tTags := 42, tM := 40, tKs := 70, tU32 := 69, tInt := 3, tSl := 22, fSort := 68, fLess := 69, fEach := 59, fOne := 60, fUv := 25 }
theorem fn59 : FnIs Tryz.prog 59 53 [] (cEach tn) := fnIs_of Tryz.func59 (by kernel_rfl) (by kernel_rfl) (by kernel_rfl) (by kernel_rfl) -- (*pub-kmsg/pub/kmsg.Tags).Each
theorem fn69 : FnIs Tryz.prog 69 15 [5] (cTLess tn) := fnIs_of Tryz.func69 (by kernel_rfl) (by kernel_rfl) (by kernel_rfl) (by kernel_rfl) -- (*pub-kmsg/pub/kmsg.Tags).Each$1
theorem fn27 : FnIs Tryz.prog 27 9 [4] (cTEach tn) := fnIs_of Tryz.func27 (by kernel_rfl) (by kernel_rfl) (by kernel_rfl) (by kernel_rfl) -- (*pub-kmsg/pub/kmsg.Tags).AppendEach
theorem fn60 : FnIs Tryz.prog 60 16 [] (cTOne tn) := fnIs_of Tryz.func60 (by kernel_rfl) (by kernel_rfl) (by kernel_rfl) (by kernel_rfl) -- (*pub-kmsg/pub/kmsg.Tags).AppendEach$1
theorem tf : TF Tryz.prog tn where
  map := ⟨69, 22, by kernel_rfl, by kernel_rfl⟩
  fld := fldB_ok (by kernel_rfl)
  sl := by kernel_rfl
  info := infoB_ok (by kernel_rfl)
  vU := varB_ok (by kernel_rfl)
  vK := varB_ok (by kernel_rfl)
  zK := zeroOf_ok (by kernel_rfl)
  dInt := by kernel_rfl
  dU32 := by kernel_rfl
theorem sortOk : SortOk Tryz.prog tn := sortOk_of (it := (Tryz.prog.info? 70).get (by kernel_rfl)) (ie := (Tryz.prog.info? 69).get (by kernel_rfl)) (ke := 10) (f1 := 76) (f2 := 77) (f6 := 81) mixed tf Tryz.sa6 rfl (enters_of Tryz.func68 (by kernel_rfl) rfl) fn69 (by omega) (by kernel_rfl) (by kernel_rfl) (by kernel_rfl) (by kernel_rfl) (fun _ => by kernel_rfl) (by kernel_rfl) (by kernel_rfl) (by kernel_rfl) fn69.ent (by kernel_rfl) (by kernel_rfl) (by kernel_rfl) (fun args W => run_callFunc_extern Tryz.func81 (by kernel_rfl) (by kernel_rfl) (by kernel_rfl) (e := Extern.ReflectliteSwapper.swap true) (by kernel_rfl) args W)
theorem setOk : SetOk Tryz.prog numbers.set := fun _ _ _ _ _ _ _ _ _ _ hk hB hO ht hv => set_calls (tM := 40) (kt := 69) (et := 22) mixed fn52 (by omega) (by kernel_rfl) (by kernel_rfl) (fldB_ok (by kernel_rfl)) hk hB hO ht hv
def av : PF → Bool
  | .i16 => true
  | .i32 => true
  | .i64 => true
  | .uuid => true
  | .str => true
  | .cstr => true
  | .nstr => true
  | .cnstr => true
  | _ => false
theorem rdAll : ∀ p, av p = true → RdOk Tryz.prog numbers.tR p (numbers.rd p) := by
  intro p h
  cases p
  · cases h
  · cases h
  · exact rdOk_i16 kt kbig rfl fn43 (by omega)
  · cases h
  · exact rdOk_i32 kt kbig rfl fn42 (by omega)
  · exact rdOk_i64 kt kbig rfl fn65 (by omega) fn44 (by omega)
  · exact rdOk_uuid kt ksub rfl (varB_ok (by kernel_rfl)) (zeroOf_ok (by kernel_rfl)) (by kernel_rfl) fn40 (by omega)
  · exact rdOk_str kt ksub rfl rfl fn39 (by omega)
  · exact rdOk_cstr kt ksub rfl rfl fn38 (by omega)
  · exact rdOk_nstr kt ksub rfl rfl fn49 (by omega)
  · exact rdOk_cnstr kt ksub rfl rfl fn47 (by omega)
  · cases h
  · cases h
  · cases h
  · cases h
theorem kb : KB Tryz.prog numbers av true where
  mixed := mixed
  rdE p h := (rdAll p h).1
  rdC p h := (rdAll p h).2
  i8C := fun h => absurd h (by decide)
  okE := fun _ => fn33.ent
  okC := fun _ w S R r hR => ok_calls kt fn33 (by omega) hR
  cmE := fn34.ent
  cmC w S R r hR he := complete_calls kt fn34 (by omega) (varB_ok (by kernel_rfl)) hR he
  lenE := fun _ => fn32.ent
  lenC := fun _ w S R r hR hRS => len_calls kt ksub rfl fn32 (by omega) hR hRS
  clenE := fun _ _ => fn31.ent
  clenC := fun _ _ w S R r hR hRS => clen_calls kt ksub rfl fn31 (by omega) hR hRS
  uvE := fun _ => fn51.ent
  uvC := fun _ w S R r hR hRS => ksub.cU rfl w S R r hR hRS
  spanE := fun _ => fn53.ent
  spanC := fun _ w S R r k _ _ hR hRS => ksub.cS rfl w S R r k hR hRS
  tagsE := fun _ => fn50.ent
  tagsC := fun _ w S R r hR hRS hS => rdTags_calls kt ksub rfl rfl rfl fn52.ent setOk (zeroOf_ok (by kernel_rfl)) (varB_ok (by kernel_rfl)) fn50 (by omega) hR hRS hS
  setE := fun _ => fn52.ent
  setC := fun _ => setOk
  fR := twoB_ok (by kernel_rfl)
  zR := zeroOf_ok (by kernel_rfl)
  vR := varB_ok (by kernel_rfl)
  uuid := fun _ => ⟨varB_ok (by kernel_rfl), zeroOf_ok (by kernel_rfl)⟩
  tI32 := by kernel_rfl
  tU32 := fun _ => by kernel_rfl
  tInt := by kernel_rfl
  vStr := ⟨varB_ok (by kernel_rfl), zeroOf_ok (by kernel_rfl)⟩
  vTags := fun _ => varB_ok (by kernel_rfl)
  tErr := fun _ => ifaceB_ok (by kernel_rfl)
theorem env : Env Tryz.prog numbers av true dd := ⟨kb, ddOk⟩
theorem oct : OctT Tryz.prog kn.tSl kn.tU8 := octB_ok (by kernel_rfl)
theorem wt : WT Tryz.prog kn where
  mixed := mixed
  oct := oct
  dU8 := by kernel_rfl
  dI8 := fun h => absurd h (by decide)
  dI16 := by kernel_rfl
  dU16 := fun _ => by kernel_rfl
  dI32 := by kernel_rfl
  dU32 := by kernel_rfl
  dInt := by kernel_rfl
  dI64 := fun _ => by kernel_rfl
  dU64 := fun _ => by kernel_rfl
  dStr := by kernel_rfl
  vStr := varB_ok (by kernel_rfl)
theorem uvC (x : Nat) (w : World) (h : x < 4294967296) : ApC Tryz.prog kn.tU8 numbersW.uv (.int .u32 x) (uvar x) w := ap_uv wt (by kernel_rfl) fn67 (by omega) fn58 (by omega) fn25 (by omega) h w
theorem i16C (x : Int) (w : World) : ApC Tryz.prog kn.tU8 21 (.int .i16 x) (be 2 x) w := ap_i16 wt rfl fn56 (by omega) fn21 (by omega) x w
theorem i32C (x : Int) (w : World) : ApC Tryz.prog kn.tU8 20 (.int .i32 x) (be 4 x) w := ap_i32 wt fn55 (by omega) fn20 (by omega) x w
def avw : PF → Bool
  | .i16 => true
  | .u16 => true
  | .i32 => true
  | .i64 => true
  | .uuid => true
  | .str => true
  | .cstr => true
  | .nstr => true
  | .cnstr => true
  | _ => false
theorem apAll : ∀ p, avw p = true → AppOk Tryz.prog kn.tU8 p (numbersW.ap p) := by
  intro p h
  cases p
  · cases h
  · cases h
  · exact app_i16 wt rfl fn56 (by omega) fn21 (by omega)
  · exact app_u16 wt rfl fn56 (by omega)
  · exact app_i32 wt fn55 (by omega) fn20 (by omega)
  · exact app_i64 wt rfl rfl fn57 (by omega) fn22 (by omega)
  · exact app_uuid wt (varB_ok (by kernel_rfl)) (by kernel_rfl) fn19 (by omega)
  · exact app_str wt (app_i16 wt rfl fn56 (by omega) fn21 (by omega)) i16C fn18 (by omega)
  · exact app_cstr wt fn25.ent (fun x w h => uvC x w h) fn17 (by omega)
  · exact app_nstr wt (fx := false) rfl (by kernel_rfl) fn21.ent (fun w => i16C (-1) w) (app_str wt (app_i16 wt rfl fn56 (by omega) fn21 (by omega)) i16C fn18 (by omega)) fn24 (by omega)
  · exact app_nstr wt (fx := true) rfl (by kernel_rfl) fn25.ent (fun w => uvC 0 w (by omega)) (app_cstr wt fn25.ent (fun x w h => uvC x w h) fn17 (by omega)) fn23 (by omega)
  · cases h
  · cases h
  · cases h
  · cases h
def sn : SN := { tInt := 3, tI64 := 2, tU8 := 5, tU64 := 94, tU32 := 69, tU16 := 92, tB := 4, tSl := 22, tF := 999999, tFs := 999999, tT := 999999, tTs := 999999, tG := 999999, tGs := 999999, tMs := 999999, fPart := 999999, fHas := 999999, fField := 999999, fAt := 999999, fKnown := 999999, fUsual := 999999, fUv := 999999, fUnk := 999999, fWhole := 999999, fNull := 999999, fThings := 999999, fCnt := 999999, fVal := 999999, fFix := 999999, fWid := 999999, fWrite := 999999, fSame := 7, fZ2 := 999999, fZ3 := 999999, fZ4 := 999999 }
def zt : ZT := { tTags := 42, tM := 40, tB := 4, tInt := 3, tN := 0 }
noncomputable def tsB : Code := tsBody (Tryz.f61.body.map nCode)
theorem fn61 : FnIs Tryz.prog 61 56 [4] (cTS zt tsB) := fnIs_of Tryz.func61 (by kernel_rfl) (by kernel_rfl) (by kernel_rfl) (by kernel_rfl)
theorem tsC : TsC Tryz.prog 61 := ts_calls (kt := 69) (et := 22) mixed fn61 (by kernel_rfl) (by kernel_rfl) (fldB_ok (by kernel_rfl))
def zsn0 : ZS := { T := 58, kt := 2, tTags := 42, fTS := 61 }
theorem fn28 : FnIs Tryz.prog 28 24 [4] (cZS zsn0 (0, 21, 0, (some .i32), (-1)) [(1, 21, 1, (some .i32), (-1))]) := fnIs_of Tryz.func28 (by kernel_rfl) (by kernel_rfl) (by kernel_rfl) (by kernel_rfl)
def ke0 : KE := { fK := 0, fB := 0, fA := 0, fN := 29, fRd := 0, fAp := 0, fDf := 30, tM := 58, tE := 0, most := 0 }
noncomputable def zv0 : Value := (zeroOf Tryz.prog 58).getD undef
noncomputable def zz0 : Array Value := applyWr zv0.cells 0 dw30
theorem fn29 : FnIsC Tryz.prog 29 4 0 58 (cNwv sn ke0) := fnIsC_of Tryz.func29 (by kernel_rfl) (by kernel_rfl) (by kernel_rfl) (by kernel_rfl)
theorem zvO0 : ∀ w, (zeroValue 58).run Tryz.prog w = .ok zv0 w := zeroOf_ok (by kernel_rfl)
theorem nw0 : NwC Tryz.prog 29 zz0 := nwv_calls (S := sn) (N := ke0) (wr := dw30) mixed fn29 zvO0 df30.1 df30.2 (fun p hp => by simpa using List.all_eq_true.1 (show (dw30.all fun p => decide (p.1 < zv0.cells.size)) = true by kernel_rfl) p hp) rfl (varB_ok (sz := 3) (by kernel_rfl)) (by kernel_rfl) (fun u hu => List.all_eq_true.1 (show (zz0.toList.all Value.oneCell') = true by kernel_rfl) u hu) (by kernel_rfl)
theorem smOk0 : SmC Tryz.prog sm0 := smC_of mixed (z := zsn0) fn28 (by decide) rfl fn61.ent tsC (by kernel_rfl) (by kernel_rfl) (by kernel_rfl) rfl (by kernel_rfl) ⟨zv0, by kernel_rfl, zvO0⟩ fn29.ent nw0 (by kernel_rfl)
theorem smAll : ∀ s ∈ numbersW.sm, SmC Tryz.prog s := by
  intro s hs
  have hs : s ∈ [sm0] := hs
  simp only [List.mem_cons, List.not_mem_nil, or_false] at hs
  rcases hs with rfl
  · exact smOk0
theorem kw : KW Tryz.prog numbersW avw true false kn.tU8 where
  mixed := mixed
  oct := oct
  dInt := by kernel_rfl
  dU32 := fun _ => by kernel_rfl
  apE p h := (apAll p h).1
  apC p h := (apAll p h).2
  alE := fun _ => fn16.ent
  alC := fun _ n w => ap_len wt fn20.ent i32C fn16 (by omega) n w
  clE := fun _ _ => fn15.ent
  clC := fun _ _ n w => ap_clen wt fn25.ent (fun x w h => uvC x w h) fn15 (by omega) n w
  nlE := fun h => absurd h (by decide)
  nlC := fun h => absurd h (by decide)
  cnE := fun h => absurd h (by decide)
  cnC := fun h => absurd h (by decide)
  uvE := fun _ => fn25.ent
  uvC := fun _ x w h => uvC x w h
  tlE := fun _ => fn26.ent
  tlC := fun _ w b o m X t hc ht => tlen_calls (kt := 69) (et := 22) mixed (by kernel_rfl) (fldB_ok (by kernel_rfl)) fn26 (by omega) hc ht
  teE := fun _ => fn27.ent
  teC := fun _ w b o m L t d bs hc hb ht hd hL hlim => teach_calls mixed tf sortOk oct (varB_ok (by kernel_rfl)) fn25.ent (fun x w h => uvC x w h) fn59 (by omega) fn60 (by omega) fn27 (by omega) hc hb ht hd hL hlim
  smC := smAll
  uuid := fun _ => ⟨varB_ok (by kernel_rfl), zeroOf_ok (by kernel_rfl)⟩
noncomputable def zv : Value := (zeroOf Tryz.prog 44).getD undef
noncomputable def zz : Array Value := applyWr zv.cells 0 dw13
theorem msg : MsgC Tryz.prog numbers.gErr kn.tU8 false true 9 fsProduceResponse (some 4) 44 zz 8 10 11 12 :=
  msgC_of (cx := ⟨true, 7, 10, 8, 9⟩) (cw := ⟨true, 0, 0, 5, 6⟩) (nm := nmProduceResponse) (ms := nwProduceResponse) (tI16 := 29) env kw (by decide) (by decide) rfl rfl fn8 (by omega) fn10 (by omega) fn11 (by omega) fn14 (by omega) (by kernel_rfl) fn12 (by kernel_rfl) (by kernel_rfl) rfl (of_decide_eq_true (by kernel_rfl)) (by kernel_rfl) (by kernel_rfl) rfl (by kernel_rfl) (by kernel_rfl)
theorem law {w : World} {x0 : Nat} {srcv : Value} {l : Bs} (hx : x0 < 256) (hsrc : SlRp w (fun _ => False) srcv l) (herr : ErrAt numbers.gErr w) : Calls Tryz.prog 3 #[.int .u8 x0, srcv] w fun e w' => e = .returned (.bool true) ∧ Keeps (fun _ => False) w w' :=
  any_law (most := 13) (tErr := 35) mixed msg oct (varB_ok (by kernel_rfl)) (by kernel_rfl) (by kernel_rfl) (by kernel_rfl) (ifaceB_ok (by kernel_rfl)) fn5 (by omega) fn6 (by omega) fn7 (by omega) fn4 (by omega) fn9 (by omega) (by omega) fn3 (by omega) (by kernel_rfl) hx hsrc herr
end Go.Proofs.YtlmanancakaapaaGreatDoor.Kx
