/-
  FnAnyElectLeadersResponse: the numbers of the program, the code of its functions, and the law out of them.
-/
import Derived.Test.YtmkioomgfdpeiabDoorChecked
import Derived.Test.YtmkioomgfdpeiabDoorK5
import Derived.KernelRfl
import Derived.Test.YtmkioomgfdpeiabDoorSh
namespace Go.Proofs.YtmkioomgfdpeiabDoor.Kx
open Go Go.Proofs
set_option maxRecDepth 100000
def numbers : G := { rd := fun | .bool => 60 | .i8 => 61 | .i16 => 59 | .u16 => 999999 | .i32 => 49 | .i64 => 68 | .uuid => 999999 | .str => 58 | .cstr => 57 | .nstr => 72 | .cnstr => 70 | .bytes => 999999 | .cbytes => 999999 | .nbytes => 999999 | .cnbytes => 999999, un := fun | .str => 56 | .cstr => 55 | .nstr => 71 | .cnstr => 69 | _ => 999999, len := 51, clen := 50, ok := 52, complete := 53, uv := 77, span := 79, tags := 62, set := 81, tR := 79, tUuid := 999999, tVer := 29, tI8 := 52, tI32 := 21, tU32 := 60, tInt := 3, tBool := 4, tErr := 35, tTags := 45, tSl := 22, tStr := 9, gErr := 1 }
def numbersW : GW := { ap := fun | .bool => 37 | .i8 => 38 | .i16 => 36 | .u16 => 64 | .i32 => 31 | .i64 => 44 | .uuid => 999999 | .str => 35 | .cstr => 34 | .nstr => 46 | .cnstr => 45 | .bytes => 999999 | .cbytes => 999999 | .nbytes => 999999 | .cnbytes => 999999, alen := 33, calen := 32, nalen := 999999, cnalen := 999999, uv := 39, tlen := 40, teach := 41, tVer := 29, tInt := 3, tU32 := 60, tSl := 22, tUuid := 999999 }
def kn : Kn := { tRS := 79, tSl := 22, tB := 4, tInt := 3, tU8 := 5, tI8 := 52, tI16 := 29, tU16 := 88, tI32 := 21, tU32 := 60, tI64 := 2, tU64 := 97, tStr := 9, tUuid := 999999, tBE := 99, tErr := 35, gBE := 0, gErr := 1, fU16 := 80, fU32 := 76, fU64 := 92, fUv := 86, fR64 := 85 }
theorem mixed : Tryd.prog.follows .mixedOrders = true := by kernel_rfl
def fsElectLeadersResponse : Fds := (.cons 0 none none (0) 1 (.prim .i32) (.cons 1 none none (0) 2 (.prim .i16) (.cons 0 none none (0) 3 (.list none 3 (.struct none (some 2) (.cons 0 none none (0) 0 (.str none) (.cons 0 none none (0) 1 (.list none 4 (.struct none (some 3) (.cons 0 none none (0) 0 (.prim .i32) (.cons 0 none none (0) 1 (.prim .i16) (.cons 0 none none (0) 2 (.str (some 0)) .nil))))) .nil)))) .nil)))
def nmElectLeadersResponse : Nm := (.mk [] [(.mk [11, 70, 1, 21] []), (.mk [12, 70, 2, 29] []), (.mk [13, 70, 3, 68, 14, 15, 16, 0, 1] [(.mk [17, 18, 74, 74, 2] [(.mk [] [(.mk [19, 74, 0, 9] []), (.mk [20, 74, 1, 72, 21, 22, 23, 2, 3] [(.mk [24, 25, 75, 77, 3] [(.mk [] [(.mk [26, 77, 0, 21] []), (.mk [27, 77, 1, 29] []), (.mk [28, 77, 2, 63] [])])])])])])])])
def nwElectLeadersResponse : List Nm := [(.mk [7, 70, 1, 21] []), (.mk [8, 70, 2, 29] []), (.mk [9, 70, 3, 68, 10, 0, 1] [(.mk [11, 74, 2] [(.mk [] [(.mk [12, 74, 0, 9] []), (.mk [13, 74, 1, 72, 14, 2, 3] [(.mk [15, 77, 3] [(.mk [] [(.mk [16, 77, 0, 21] []), (.mk [17, 77, 1, 29] []), (.mk [18, 77, 2, 63] [])])])])])])])]
theorem fn61 : FnIs Tryd.prog 61 32 [2] (cI8 kn) := fnIs_of Tryd.func61 (by kernel_rfl) (by kernel_rfl) (by kernel_rfl) (by kernel_rfl) -- (*pub-kmsg/pub/kmsg/inner/kbin.Reader).Int8
theorem fn60 : FnIs Tryd.prog 60 32 [2] (cBool kn) := fnIs_of Tryd.func60 (by kernel_rfl) (by kernel_rfl) (by kernel_rfl) (by kernel_rfl) -- (*pub-kmsg/pub/kmsg/inner/kbin.Reader).Bool
theorem fn59 : FnIs Tryd.prog 59 32 [2] (cI16 kn) := fnIs_of Tryd.func59 (by kernel_rfl) (by kernel_rfl) (by kernel_rfl) (by kernel_rfl) -- (*pub-kmsg/pub/kmsg/inner/kbin.Reader).Int16
theorem fn49 : FnIs Tryd.prog 49 32 [2] (cI32 kn) := fnIs_of Tryd.func49 (by kernel_rfl) (by kernel_rfl) (by kernel_rfl) (by kernel_rfl) -- (*pub-kmsg/pub/kmsg/inner/kbin.Reader).Int32
theorem fn85 : FnIs Tryd.prog 85 31 [2] (cR64 kn) := fnIs_of Tryd.func85 (by kernel_rfl) (by kernel_rfl) (by kernel_rfl) (by kernel_rfl) -- (*pub-kmsg/pub/kmsg/inner/kbin.Reader).readUint64
theorem fn68 : FnIs Tryd.prog 68 6 [2] (cI64 kn) := fnIs_of Tryd.func68 (by kernel_rfl) (by kernel_rfl) (by kernel_rfl) (by kernel_rfl) -- (*pub-kmsg/pub/kmsg/inner/kbin.Reader).Int64
theorem fn86 : FnIs Tryd.prog 86 87 [2, 3] (cUvIn kn) := fnIs_of Tryd.func86 (by kernel_rfl) (by kernel_rfl) (by kernel_rfl) (by kernel_rfl) -- pub-kmsg/pub/kmsg/inner/kbin.Uvarint
theorem fn77 : FnIs Tryd.prog 77 31 [2] (cUv kn) := fnIs_of Tryd.func77 (by kernel_rfl) (by kernel_rfl) (by kernel_rfl) (by kernel_rfl) -- (*pub-kmsg/pub/kmsg/inner/kbin.Reader).Uvarint
theorem fn62 : FnIsC Tryd.prog 62 24 2 45 (cRdTags numbers kn) := fnIsC_of Tryd.func62 (by kernel_rfl) (by kernel_rfl) (by kernel_rfl) (by kernel_rfl) -- pub-kmsg/pub/kmsg.internalReadTags
theorem fn81 : FnIs Tryd.prog 81 21 [] (cSet numbers 43) := fnIs_of Tryd.func81 (by kernel_rfl) (by kernel_rfl) (by kernel_rfl) (by kernel_rfl) -- (*pub-kmsg/pub/kmsg.Tags).Set
theorem fn52 : FnIs Tryd.prog 52 8 [2] (cOk kn) := fnIs_of Tryd.func52 (by kernel_rfl) (by kernel_rfl) (by kernel_rfl) (by kernel_rfl) -- (*pub-kmsg/pub/kmsg/inner/kbin.Reader).Ok
theorem fn53 : FnIs Tryd.prog 53 8 [2] (cComplete kn) := fnIs_of Tryd.func53 (by kernel_rfl) (by kernel_rfl) (by kernel_rfl) (by kernel_rfl) -- (*pub-kmsg/pub/kmsg/inner/kbin.Reader).Complete
theorem fn79 : FnIs Tryd.prog 79 40 [4] (cSpan kn) := fnIs_of Tryd.func79 (by kernel_rfl) (by kernel_rfl) (by kernel_rfl) (by kernel_rfl) -- (*pub-kmsg/pub/kmsg/inner/kbin.Reader).Span
theorem fn58 : FnIs Tryd.prog 58 11 [2] (cStr numbers kn) := fnIs_of Tryd.func58 (by kernel_rfl) (by kernel_rfl) (by kernel_rfl) (by kernel_rfl) -- (*pub-kmsg/pub/kmsg/inner/kbin.Reader).String
theorem fn57 : FnIs Tryd.prog 57 12 [2] (cCStr numbers kn) := fnIs_of Tryd.func57 (by kernel_rfl) (by kernel_rfl) (by kernel_rfl) (by kernel_rfl) -- (*pub-kmsg/pub/kmsg/inner/kbin.Reader).CompactString
theorem fn72 : FnIs Tryd.prog 72 14 [2] (cNStr numbers kn) := fnIs_of Tryd.func72 (by kernel_rfl) (by kernel_rfl) (by kernel_rfl) (by kernel_rfl) -- (*pub-kmsg/pub/kmsg/inner/kbin.Reader).NullableString
theorem fn70 : FnIs Tryd.prog 70 15 [2] (cCNStr numbers kn) := fnIs_of Tryd.func70 (by kernel_rfl) (by kernel_rfl) (by kernel_rfl) (by kernel_rfl) -- (*pub-kmsg/pub/kmsg/inner/kbin.Reader).CompactNullableString
theorem fn51 : FnIs Tryd.prog 51 21 [2] (cLen numbers kn) := fnIs_of Tryd.func51 (by kernel_rfl) (by kernel_rfl) (by kernel_rfl) (by kernel_rfl) -- (*pub-kmsg/pub/kmsg/inner/kbin.Reader).ArrayLen
theorem fn50 : FnIs Tryd.prog 50 23 [2] (cCLen numbers kn) := fnIs_of Tryd.func50 (by kernel_rfl) (by kernel_rfl) (by kernel_rfl) (by kernel_rfl) -- (*pub-kmsg/pub/kmsg/inner/kbin.Reader).CompactArrayLen
theorem fn80 : FnIs Tryd.prog 80 18 [4] (gBig kn kn.tU16 .u16 2) := fnIs_of Tryd.func80 (by kernel_rfl) (by kernel_rfl) (by kernel_rfl) (by kernel_rfl) -- (encoding/binary.bigEndian).Uint16
theorem fn76 : FnIs Tryd.prog 76 30 [4] (gBig kn kn.tU32 .u32 4) := fnIs_of Tryd.func76 (by kernel_rfl) (by kernel_rfl) (by kernel_rfl) (by kernel_rfl) -- (encoding/binary.bigEndian).Uint32
theorem fn92 : FnIs Tryd.prog 92 54 [4] (gBig kn kn.tU64 .u64 8) := fnIs_of Tryd.func92 (by kernel_rfl) (by kernel_rfl) (by kernel_rfl) (by kernel_rfl) -- (encoding/binary.bigEndian).Uint64
theorem fn38 : FnIs Tryd.prog 38 10 [4] (cAI8 kn) := fnIs_of Tryd.func38 (by kernel_rfl) (by kernel_rfl) (by kernel_rfl) (by kernel_rfl) -- pub-kmsg/pub/kmsg/inner/kbin.AppendInt8
theorem fn64 : FnIs Tryd.prog 64 13 [4] (cAU16 kn) := fnIs_of Tryd.func64 (by kernel_rfl) (by kernel_rfl) (by kernel_rfl) (by kernel_rfl) -- pub-kmsg/pub/kmsg/inner/kbin.AppendUint16
theorem fn63 : FnIs Tryd.prog 63 19 [4] (cAU32 kn) := fnIs_of Tryd.func63 (by kernel_rfl) (by kernel_rfl) (by kernel_rfl) (by kernel_rfl) -- pub-kmsg/pub/kmsg/inner/kbin.AppendUint32
theorem fn73 : FnIs Tryd.prog 73 31 [4] (cAU64 kn) := fnIs_of Tryd.func73 (by kernel_rfl) (by kernel_rfl) (by kernel_rfl) (by kernel_rfl) -- pub-kmsg/pub/kmsg/inner/kbin.appendUint64
theorem fn36 : FnIs Tryd.prog 36 9 [4] (cACv kn.tI16 kn.tU16 64) := fnIs_of Tryd.func36 (by kernel_rfl) (by kernel_rfl) (by kernel_rfl) (by kernel_rfl) -- pub-kmsg/pub/kmsg/inner/kbin.AppendInt16
theorem fn31 : FnIs Tryd.prog 31 9 [4] (cACv kn.tI32 kn.tU32 63) := fnIs_of Tryd.func31 (by kernel_rfl) (by kernel_rfl) (by kernel_rfl) (by kernel_rfl) -- pub-kmsg/pub/kmsg/inner/kbin.AppendInt32
theorem fn44 : FnIs Tryd.prog 44 9 [4] (cACv kn.tI64 kn.tU64 73) := fnIs_of Tryd.func44 (by kernel_rfl) (by kernel_rfl) (by kernel_rfl) (by kernel_rfl) -- pub-kmsg/pub/kmsg/inner/kbin.AppendInt64
theorem fn33 : FnIs Tryd.prog 33 9 [4] (cACv kn.tInt kn.tI32 31) := fnIs_of Tryd.func33 (by kernel_rfl) (by kernel_rfl) (by kernel_rfl) (by kernel_rfl) -- pub-kmsg/pub/kmsg/inner/kbin.AppendArrayLen
theorem fn32 : FnIs Tryd.prog 32 10 [4] (cACv1 kn 39) := fnIs_of Tryd.func32 (by kernel_rfl) (by kernel_rfl) (by kernel_rfl) (by kernel_rfl) -- pub-kmsg/pub/kmsg/inner/kbin.AppendCompactArrayLen
theorem fn37 : FnIs Tryd.prog 37 12 [4] (cABool kn) := fnIs_of Tryd.func37 (by kernel_rfl) (by kernel_rfl) (by kernel_rfl) (by kernel_rfl) -- pub-kmsg/pub/kmsg/inner/kbin.AppendBool
theorem fn35 : FnIs Tryd.prog 35 13 [4] (cAStr kn kn.tStr kn.tI16 36) := fnIs_of Tryd.func35 (by kernel_rfl) (by kernel_rfl) (by kernel_rfl) (by kernel_rfl) -- pub-kmsg/pub/kmsg/inner/kbin.AppendString
theorem fn34 : FnIs Tryd.prog 34 14 [4] (cACStr kn kn.tStr 39) := fnIs_of Tryd.func34 (by kernel_rfl) (by kernel_rfl) (by kernel_rfl) (by kernel_rfl) -- pub-kmsg/pub/kmsg/inner/kbin.AppendCompactString
theorem fn46 : FnIs Tryd.prog 46 14 [4] (cANStr kn 63 (.int .i16 (-1)) 36 35) := fnIs_of Tryd.func46 (by kernel_rfl) (by kernel_rfl) (by kernel_rfl) (by kernel_rfl) -- pub-kmsg/pub/kmsg/inner/kbin.AppendNullableString
theorem fn45 : FnIs Tryd.prog 45 14 [4] (cANStr kn 63 (.int .u32 0) 39 34) := fnIs_of Tryd.func45 (by kernel_rfl) (by kernel_rfl) (by kernel_rfl) (by kernel_rfl) -- pub-kmsg/pub/kmsg/inner/kbin.AppendCompactNullableString
theorem fn39 : FnIs Tryd.prog 39 93 [4] (cAUv kn 65) := fnIs_of Tryd.func39 (by kernel_rfl) (by kernel_rfl) (by kernel_rfl) (by kernel_rfl) -- pub-kmsg/pub/kmsg/inner/kbin.AppendUvarint
theorem fn65 : FnIs Tryd.prog 65 8 [2] (cUvLen kn 82) := fnIs_of Tryd.func65 (by kernel_rfl) (by kernel_rfl) (by kernel_rfl) (by kernel_rfl) -- pub-kmsg/pub/kmsg/inner/kbin.UvarintLen
theorem fn82 : FnIs Tryd.prog 82 19 [2] (cLen32 kn 60) := fnIs_of Tryd.func82 (by kernel_rfl) (by kernel_rfl) (by kernel_rfl) (by kernel_rfl) -- math/bits.Len32
theorem fn40 : FnIs Tryd.prog 40 8 [2] (cTLen kn 45 43) := fnIs_of Tryd.func40 (by kernel_rfl) (by kernel_rfl) (by kernel_rfl) (by kernel_rfl) -- (*pub-kmsg/pub/kmsg.Tags).Len
theorem fn14 : FnIs Tryd.prog 14 3 [0] (cNewPtr 47 29) := fnIs_of Tryd.func14 (by kernel_rfl) (by kernel_rfl) (by kernel_rfl) (by kernel_rfl) -- pub-kmsg/pub/kmsg.NewPtrUpdateFeaturesRequest
theorem fn16 : FnIs Tryd.prog 16 8 [] (cSetV 47 29) := fnIs_of Tryd.func16 (by kernel_rfl) (by kernel_rfl) (by kernel_rfl) (by kernel_rfl) -- (*pub-kmsg/pub/kmsg.UpdateFeaturesRequest).SetVersion
theorem fn17 : FnIs Tryd.prog 17 8 [4] (cRdF 30) := fnIs_of Tryd.func17 (by kernel_rfl) (by kernel_rfl) (by kernel_rfl) (by kernel_rfl) -- (*pub-kmsg/pub/kmsg.UpdateFeaturesRequest).ReadFrom
theorem fn6 : FnIs Tryd.prog 6 4 [0] (cMax 29 3 14 15) := fnIs_of Tryd.func6 (by kernel_rfl) (by kernel_rfl) (by kernel_rfl) (by kernel_rfl) -- pub-kmsg/impl.MaxUpdateFeaturesRequest
theorem fn15 : FnIs Tryd.prog 15 3 [2] (cMaxV 2) := fnIs_of Tryd.func15 (by kernel_rfl) (by kernel_rfl) (by kernel_rfl) (by kernel_rfl) -- (*pub-kmsg/pub/kmsg.UpdateFeaturesRequest).MaxVersion
theorem fn7 : FnIs Tryd.prog 7 19 [4, 5] (cAgain 29 3 22 35 14 16 17 18) := fnIs_of Tryd.func7 (by kernel_rfl) (by kernel_rfl) (by kernel_rfl) (by kernel_rfl) -- pub-kmsg/impl.AgainUpdateFeaturesRequest
theorem fn3 : FnIs Tryd.prog 3 43 [4] (cAny 22 3 4 6 8 7 9) := fnIs_of Tryd.func3 (by kernel_rfl) (by kernel_rfl) (by kernel_rfl) (by kernel_rfl) -- pub-kmsg/laws.FnAnyUpdateFeaturesRequest
theorem fn19 : FnIs Tryd.prog 19 3 [0] (cNewPtr 65 42) := fnIs_of Tryd.func19 (by kernel_rfl) (by kernel_rfl) (by kernel_rfl) (by kernel_rfl) -- pub-kmsg/pub/kmsg.NewPtrListTransactionsRequest
theorem fn21 : FnIs Tryd.prog 21 8 [] (cSetV 65 29) := fnIs_of Tryd.func21 (by kernel_rfl) (by kernel_rfl) (by kernel_rfl) (by kernel_rfl) -- (*pub-kmsg/pub/kmsg.ListTransactionsRequest).SetVersion
theorem fn22 : FnIs Tryd.prog 22 8 [4] (cRdF 43) := fnIs_of Tryd.func22 (by kernel_rfl) (by kernel_rfl) (by kernel_rfl) (by kernel_rfl) -- (*pub-kmsg/pub/kmsg.ListTransactionsRequest).ReadFrom
theorem fn10 : FnIs Tryd.prog 10 4 [0] (cMax 29 3 19 20) := fnIs_of Tryd.func10 (by kernel_rfl) (by kernel_rfl) (by kernel_rfl) (by kernel_rfl) -- pub-kmsg/impl.MaxListTransactionsRequest
theorem fn20 : FnIs Tryd.prog 20 3 [2] (cMaxV 2) := fnIs_of Tryd.func20 (by kernel_rfl) (by kernel_rfl) (by kernel_rfl) (by kernel_rfl) -- (*pub-kmsg/pub/kmsg.ListTransactionsRequest).MaxVersion
theorem fn11 : FnIs Tryd.prog 11 19 [4, 5] (cAgain 29 3 22 35 19 21 22 23) := fnIs_of Tryd.func11 (by kernel_rfl) (by kernel_rfl) (by kernel_rfl) (by kernel_rfl) -- pub-kmsg/impl.AgainListTransactionsRequest
theorem fn4 : FnIs Tryd.prog 4 43 [4] (cAny 22 3 4 10 8 11 9) := fnIs_of Tryd.func4 (by kernel_rfl) (by kernel_rfl) (by kernel_rfl) (by kernel_rfl) -- pub-kmsg/laws.FnAnyListTransactionsRequest
theorem fn24 : FnIs Tryd.prog 24 3 [0] (cNewPtr 70 47) := fnIs_of Tryd.func24 (by kernel_rfl) (by kernel_rfl) (by kernel_rfl) (by kernel_rfl) -- pub-kmsg/pub/kmsg.NewPtrElectLeadersResponse
theorem fn26 : FnIs Tryd.prog 26 8 [] (cSetV 70 29) := fnIs_of Tryd.func26 (by kernel_rfl) (by kernel_rfl) (by kernel_rfl) (by kernel_rfl) -- (*pub-kmsg/pub/kmsg.ElectLeadersResponse).SetVersion
theorem fn27 : FnIs Tryd.prog 27 8 [4] (cRdF 48) := fnIs_of Tryd.func27 (by kernel_rfl) (by kernel_rfl) (by kernel_rfl) (by kernel_rfl) -- (*pub-kmsg/pub/kmsg.ElectLeadersResponse).ReadFrom
theorem fn12 : FnIs Tryd.prog 12 4 [0] (cMax 29 3 24 25) := fnIs_of Tryd.func12 (by kernel_rfl) (by kernel_rfl) (by kernel_rfl) (by kernel_rfl) -- pub-kmsg/impl.MaxElectLeadersResponse
theorem fn25 : FnIs Tryd.prog 25 3 [2] (cMaxV 2) := fnIs_of Tryd.func25 (by kernel_rfl) (by kernel_rfl) (by kernel_rfl) (by kernel_rfl) -- (*pub-kmsg/pub/kmsg.ElectLeadersResponse).MaxVersion
theorem fn13 : FnIs Tryd.prog 13 19 [4, 5] (cAgain 29 3 22 35 24 26 27 28) := fnIs_of Tryd.func13 (by kernel_rfl) (by kernel_rfl) (by kernel_rfl) (by kernel_rfl) -- pub-kmsg/impl.AgainElectLeadersResponse
theorem fn5 : FnIs Tryd.prog 5 43 [4] (cAny 22 3 4 12 8 13 9) := fnIs_of Tryd.func5 (by kernel_rfl) (by kernel_rfl) (by kernel_rfl) (by kernel_rfl) -- pub-kmsg/laws.FnAnyElectLeadersResponse
theorem fn8 : FnIs Tryd.prog 8 10 [4] (cVer 5 3) := fnIs_of Tryd.func8 (by kernel_rfl) (by kernel_rfl) (by kernel_rfl) (by kernel_rfl) -- pub-kmsg/laws.version
theorem fn9 : FnIs Tryd.prog 9 26 [4] (cSame 22 5 3) := fnIs_of Tryd.func9 (by kernel_rfl) (by kernel_rfl) (by kernel_rfl) (by kernel_rfl) -- pub-kmsg/spec.Same
theorem fn48 : FnIs Tryd.prog 48 170 [6] (gRead numbers true false ⟨true, 7, 10, 8, 9⟩ fsElectLeadersResponse 47 70 4 2 29 nmElectLeadersResponse) := fnIs_of Tryd.func48 (by kernel_rfl) (by kernel_rfl) (by kernel_rfl) (by kernel_rfl) -- (*pub-kmsg/pub/kmsg.ElectLeadersResponse).readFrom
theorem fn28 : FnIs Tryd.prog 28 166 [4] (gWrite numbersW false ⟨true, 0, 0, 5, 6⟩ fsElectLeadersResponse 70 4 2 0 19 nwElectLeadersResponse) := fnIs_of Tryd.func28 (by kernel_rfl) (by kernel_rfl) (by kernel_rfl) (by kernel_rfl) -- (*pub-kmsg/pub/kmsg.ElectLeadersResponse).AppendTo
def di47 : List DI := []
theorem fn47 : FnIs Tryd.prog 47 2 [] (gDflt di47 2) := fnIs_of Tryd.func47 (by kernel_rfl) (by kernel_rfl) (by kernel_rfl) (by kernel_rfl) -- (*pub-kmsg/pub/kmsg.ElectLeadersResponse).Default
noncomputable def dw47 : List (Nat × Value) := (dRun Tryd.prog 2 di47 [(0, 0)]).getD []
theorem df47 : Ent Tryd.prog 47 ∧ DfC Tryd.prog 47 dw47 := dfC_of (n0 := 2) (items := di47) (by kernel_rfl) fn47 (by kernel_rfl) (of_decide_eq_true (by kernel_rfl)) (by omega)
def di74 : List DI := []
theorem fn74 : FnIs Tryd.prog 74 2 [] (gDflt di74 2) := fnIs_of Tryd.func74 (by kernel_rfl) (by kernel_rfl) (by kernel_rfl) (by kernel_rfl) -- (*pub-kmsg/pub/kmsg.ElectLeadersResponseTopic).Default
noncomputable def dw74 : List (Nat × Value) := (dRun Tryd.prog 2 di74 [(0, 0)]).getD []
theorem df74 : Ent Tryd.prog 74 ∧ DfC Tryd.prog 74 dw74 := dfC_of (n0 := 2) (items := di74) (by kernel_rfl) fn74 (by kernel_rfl) (of_decide_eq_true (by kernel_rfl)) (by omega)
def di75 : List DI := []
theorem fn75 : FnIs Tryd.prog 75 2 [] (gDflt di75 2) := fnIs_of Tryd.func75 (by kernel_rfl) (by kernel_rfl) (by kernel_rfl) (by kernel_rfl) -- (*pub-kmsg/pub/kmsg.ElectLeadersResponseTopicPartition).Default
noncomputable def dw75 : List (Nat × Value) := (dRun Tryd.prog 2 di75 [(0, 0)]).getD []
theorem df75 : Ent Tryd.prog 75 ∧ DfC Tryd.prog 75 dw75 := dfC_of (n0 := 2) (items := di75) (by kernel_rfl) fn75 (by kernel_rfl) (of_decide_eq_true (by kernel_rfl)) (by omega)
noncomputable def dd : Nat → Option (List (Nat × Value))
  | 47 => some dw47
  | 74 => some dw74
  | 75 => some dw75
  | _ => none
theorem ddOk : ∀ f wr, dd f = some wr → Ent Tryd.prog f ∧ DfC Tryd.prog f wr := by
  intro f wr h
  unfold dd at h
  split at h
  · obtain rfl := Option.some.inj h; exact df47
  · obtain rfl := Option.some.inj h; exact df74
  · obtain rfl := Option.some.inj h; exact df75
  · cases h
theorem kt : KT Tryd.prog numbers kn where
  mixed := mixed
  f0 := fldB_ok (by kernel_rfl)
  f1 := fldB_ok (by kernel_rfl)
  sl := by kernel_rfl
  u8 := varB_ok (by kernel_rfl)
  dU8 := by kernel_rfl
  dI8 := fun _ => by kernel_rfl
  dI16 := by kernel_rfl
  dI32 := by kernel_rfl
  dU32 := by kernel_rfl
  dInt := by kernel_rfl
theorem kbig : KBig Tryd.prog kn where
  be := varB_ok (by kernel_rfl)
  d16 := by kernel_rfl
  d64 := fun _ => by kernel_rfl
  dI64 := fun _ => by kernel_rfl
  f16 := fun _ => fn80
  f32 := fun _ => fn76
  f64 := fun _ => fn92
theorem ksub : KSub Tryd.prog numbers kn kn.tRS where
  e16 := fun _ => fn59.ent
  c16 := fun _ w S R r hR hRS => (i16_calls kt kbig rfl fn59 (by omega) hR hRS).mono fun e w' h => (fun h => ⟨h.1, h.2.1, h.2.2.1⟩) (rdOk_int (p := .i16) (.inr (.inl ⟨rfl, rfl⟩)) rfl h)
  e32 := fun _ => fn49.ent
  c32 := fun _ w S R r hR hRS => (i32_calls kt kbig rfl fn49 (by omega) hR hRS).mono fun e w' h => (fun h => ⟨h.1, h.2.1, h.2.2.1⟩) (rdOk_int (p := .i32) (.inr (.inr (.inl ⟨rfl, rfl⟩))) rfl h)
  eU := fun _ => fn77.ent
  cU := fun _ w S R r hR hRS => uv_calls kt fn86 (by omega) fn77 (by omega) hR hRS
  eS := fun _ => fn79.ent
  cS := fun _ w S R r k hR hRS => span_calls kt fn79 (by omega) hR hRS
  dStr := by kernel_rfl
  vStr := varB_ok (by kernel_rfl)
  zStr := zeroOf_ok (by kernel_rfl)
def tn : TN := { tTags := 45, tM := 43, tKs := 105, tU32 := 60, tInt := 3, tSl := 22, fSort := 83, fLess := 84, fEach := 66, fOne := 67, fUv := 39 }
theorem fn66 : FnIs Tryd.prog 66 53 [] (cEach tn) := fnIs_of Tryd.func66 (by kernel_rfl) (by kernel_rfl) (by kernel_rfl) (by kernel_rfl) -- (*pub-kmsg/pub/kmsg.Tags).Each
theorem fn84 : FnIs Tryd.prog 84 15 [5] (cTLess tn) := fnIs_of Tryd.func84 (by kernel_rfl) (by kernel_rfl) (by kernel_rfl) (by kernel_rfl) -- (*pub-kmsg/pub/kmsg.Tags).Each$1
theorem fn41 : FnIs Tryd.prog 41 9 [4] (cTEach tn) := fnIs_of Tryd.func41 (by kernel_rfl) (by kernel_rfl) (by kernel_rfl) (by kernel_rfl) -- (*pub-kmsg/pub/kmsg.Tags).AppendEach
theorem fn67 : FnIs Tryd.prog 67 16 [] (cTOne tn) := fnIs_of Tryd.func67 (by kernel_rfl) (by kernel_rfl) (by kernel_rfl) (by kernel_rfl) -- (*pub-kmsg/pub/kmsg.Tags).AppendEach$1
theorem tf : TF Tryd.prog tn where
  map := ⟨60, 22, by kernel_rfl, by kernel_rfl⟩
  fld := fldB_ok (by kernel_rfl)
  sl := by kernel_rfl
  info := infoB_ok (by kernel_rfl)
  vU := varB_ok (by kernel_rfl)
  vK := varB_ok (by kernel_rfl)
  zK := zeroOf_ok (by kernel_rfl)
  dInt := by kernel_rfl
  dU32 := by kernel_rfl
theorem sortOk : SortOk Tryd.prog tn := sortOk_of (it := (Tryd.prog.info? 105).get (by kernel_rfl)) (ie := (Tryd.prog.info? 60).get (by kernel_rfl)) (ke := 10) (f1 := 93) (f2 := 94) (f6 := 98) mixed tf Tryd.sa6 rfl (enters_of Tryd.func83 (by kernel_rfl) rfl) fn84 (by omega) (by kernel_rfl) (by kernel_rfl) (by kernel_rfl) (by kernel_rfl) (fun _ => by kernel_rfl) (by kernel_rfl) (by kernel_rfl) (by kernel_rfl) fn84.ent (by kernel_rfl) (by kernel_rfl) (by kernel_rfl) (fun args W => run_callFunc_extern Tryd.func98 (by kernel_rfl) (by kernel_rfl) (by kernel_rfl) (e := Extern.ReflectliteSwapper.swap true) (by kernel_rfl) args W)
theorem setOk : SetOk Tryd.prog numbers.set := fun _ _ _ _ _ _ _ _ _ _ hk hB hO ht hv => set_calls (tM := 43) (kt := 60) (et := 22) mixed fn81 (by omega) (by kernel_rfl) (by kernel_rfl) (fldB_ok (by kernel_rfl)) hk hB hO ht hv
def av : PF → Bool
  | .bool => true
  | .i8 => true
  | .i16 => true
  | .i32 => true
  | .i64 => true
  | .str => true
  | .cstr => true
  | .nstr => true
  | .cnstr => true
  | _ => false
theorem rdAll : ∀ p, av p = true → RdOk Tryd.prog numbers.tR p (numbers.rd p) := by
  intro p h
  cases p
  · exact rdOk_bool kt fn60 (by omega)
  · exact rdOk_i8 kt rfl fn61 (by omega)
  · exact rdOk_i16 kt kbig rfl fn59 (by omega)
  · cases h
  · exact rdOk_i32 kt kbig rfl fn49 (by omega)
  · exact rdOk_i64 kt kbig rfl fn85 (by omega) fn68 (by omega)
  · cases h
  · exact rdOk_str kt ksub rfl rfl fn58 (by omega)
  · exact rdOk_cstr kt ksub rfl rfl fn57 (by omega)
  · exact rdOk_nstr kt ksub rfl rfl fn72 (by omega)
  · exact rdOk_cnstr kt ksub rfl rfl fn70 (by omega)
  · cases h
  · cases h
  · cases h
  · cases h
theorem kb : KB Tryd.prog numbers av true where
  mixed := mixed
  rdE p h := (rdAll p h).1
  rdC p h := (rdAll p h).2
  i8C := fun _ w S R r hR hRS => (i8_calls kt rfl fn61 (by omega) hR hRS).mono fun e w' h => (fun h => ⟨h.1, h.2.1, h.2.2.1⟩) (rdOk_int (p := .i8) (.inl ⟨rfl, rfl⟩) rfl h)
  okE := fun _ => fn52.ent
  okC := fun _ w S R r hR => ok_calls kt fn52 (by omega) hR
  cmE := fn53.ent
  cmC w S R r hR he := complete_calls kt fn53 (by omega) (varB_ok (by kernel_rfl)) hR he
  lenE := fun _ => fn51.ent
  lenC := fun _ w S R r hR hRS => len_calls kt ksub rfl fn51 (by omega) hR hRS
  clenE := fun _ _ => fn50.ent
  clenC := fun _ _ w S R r hR hRS => clen_calls kt ksub rfl fn50 (by omega) hR hRS
  uvE := fun _ => fn77.ent
  uvC := fun _ w S R r hR hRS => ksub.cU rfl w S R r hR hRS
  spanE := fun _ => fn79.ent
  spanC := fun _ w S R r k _ _ hR hRS => ksub.cS rfl w S R r k hR hRS
  tagsE := fun _ => fn62.ent
  tagsC := fun _ w S R r hR hRS hS => rdTags_calls kt ksub rfl rfl rfl fn81.ent setOk (zeroOf_ok (by kernel_rfl)) (varB_ok (by kernel_rfl)) fn62 (by omega) hR hRS hS
  setE := fun _ => fn81.ent
  setC := fun _ => setOk
  fR := twoB_ok (by kernel_rfl)
  zR := zeroOf_ok (by kernel_rfl)
  vR := varB_ok (by kernel_rfl)
  uuid := fun h => absurd h (by decide)
  tI32 := by kernel_rfl
  tU32 := fun _ => by kernel_rfl
  tInt := by kernel_rfl
  vStr := ⟨varB_ok (by kernel_rfl), zeroOf_ok (by kernel_rfl)⟩
  vTags := fun _ => varB_ok (by kernel_rfl)
  tErr := fun _ => ifaceB_ok (by kernel_rfl)
theorem env : Env Tryd.prog numbers av true dd := ⟨kb, ddOk⟩
theorem oct : OctT Tryd.prog kn.tSl kn.tU8 := octB_ok (by kernel_rfl)
theorem wt : WT Tryd.prog kn where
  mixed := mixed
  oct := oct
  dU8 := by kernel_rfl
  dI8 := fun _ => by kernel_rfl
  dI16 := by kernel_rfl
  dU16 := by kernel_rfl
  dI32 := by kernel_rfl
  dU32 := by kernel_rfl
  dInt := by kernel_rfl
  dI64 := fun _ => by kernel_rfl
  dU64 := fun _ => by kernel_rfl
  dStr := by kernel_rfl
  vStr := varB_ok (by kernel_rfl)
theorem uvC (x : Nat) (w : World) (h : x < 4294967296) : ApC Tryd.prog kn.tU8 numbersW.uv (.int .u32 x) (uvar x) w := ap_uv wt (by kernel_rfl) fn82 (by omega) fn65 (by omega) fn39 (by omega) h w
theorem i16C (x : Int) (w : World) : ApC Tryd.prog kn.tU8 36 (.int .i16 x) (be 2 x) w := ap_i16 wt fn64 (by omega) fn36 (by omega) x w
theorem i32C (x : Int) (w : World) : ApC Tryd.prog kn.tU8 31 (.int .i32 x) (be 4 x) w := ap_i32 wt fn63 (by omega) fn31 (by omega) x w
def avw : PF → Bool
  | .bool => true
  | .i8 => true
  | .i16 => true
  | .u16 => true
  | .i32 => true
  | .i64 => true
  | .str => true
  | .cstr => true
  | .nstr => true
  | .cnstr => true
  | _ => false
theorem apAll : ∀ p, avw p = true → AppOk Tryd.prog kn.tU8 p (numbersW.ap p) := by
  intro p h
  cases p
  · exact app_bool wt fn37 (by omega)
  · exact app_i8 wt rfl fn38 (by omega)
  · exact app_i16 wt fn64 (by omega) fn36 (by omega)
  · exact app_u16 wt fn64 (by omega)
  · exact app_i32 wt fn63 (by omega) fn31 (by omega)
  · exact app_i64 wt rfl rfl fn73 (by omega) fn44 (by omega)
  · cases h
  · exact app_str wt (app_i16 wt fn64 (by omega) fn36 (by omega)) i16C fn35 (by omega)
  · exact app_cstr wt fn39.ent (fun x w h => uvC x w h) fn34 (by omega)
  · exact app_nstr wt (fx := false) rfl (by kernel_rfl) fn36.ent (fun w => i16C (-1) w) (app_str wt (app_i16 wt fn64 (by omega) fn36 (by omega)) i16C fn35 (by omega)) fn46 (by omega)
  · exact app_nstr wt (fx := true) rfl (by kernel_rfl) fn39.ent (fun w => uvC 0 w (by omega)) (app_cstr wt fn39.ent (fun x w h => uvC x w h) fn34 (by omega)) fn45 (by omega)
  · cases h
  · cases h
  · cases h
  · cases h
theorem kw : KW Tryd.prog numbersW avw true false kn.tU8 where
  mixed := mixed
  oct := oct
  dInt := by kernel_rfl
  dU32 := fun _ => by kernel_rfl
  apE p h := (apAll p h).1
  apC p h := (apAll p h).2
  alE := fun _ => fn33.ent
  alC := fun _ n w => ap_len wt fn31.ent i32C fn33 (by omega) n w
  clE := fun _ _ => fn32.ent
  clC := fun _ _ n w => ap_clen wt fn39.ent (fun x w h => uvC x w h) fn32 (by omega) n w
  nlE := fun h => absurd h (by decide)
  nlC := fun h => absurd h (by decide)
  cnE := fun h => absurd h (by decide)
  cnC := fun h => absurd h (by decide)
  uvE := fun _ => fn39.ent
  uvC := fun _ x w h => uvC x w h
  tlE := fun _ => fn40.ent
  tlC := fun _ w b o m X t hc ht => tlen_calls (kt := 60) (et := 22) mixed (by kernel_rfl) (fldB_ok (by kernel_rfl)) fn40 (by omega) hc ht
  teE := fun _ => fn41.ent
  teC := fun _ w b o m L t d bs hc hb ht hd hL hlim => teach_calls mixed tf sortOk oct (varB_ok (by kernel_rfl)) fn39.ent (fun x w h => uvC x w h) fn66 (by omega) fn67 (by omega) fn41 (by omega) hc hb ht hd hL hlim
  uuid := fun h => absurd h (by decide)
noncomputable def zv : Value := (zeroOf Tryd.prog 70).getD undef
noncomputable def zz : Array Value := applyWr zv.cells 0 dw47
theorem msg : MsgC Tryd.prog numbers.gErr kn.tU8 false true 2 fsElectLeadersResponse (some 4) 70 zz 24 26 27 28 :=
  msgC_of (cx := ⟨true, 7, 10, 8, 9⟩) (cw := ⟨true, 0, 0, 5, 6⟩) (nm := nmElectLeadersResponse) (ms := nwElectLeadersResponse) (tI16 := 29) env kw (by decide) (by decide) rfl rfl fn24 (by omega) fn26 (by omega) fn27 (by omega) fn48 (by omega) fn28 (by kernel_rfl) (by kernel_rfl) rfl (of_decide_eq_true (by kernel_rfl)) (by kernel_rfl) (by kernel_rfl) rfl (by kernel_rfl) (by kernel_rfl)
theorem law {w : World} {x0 : Nat} {srcv : Value} {l : Bs} (hx : x0 < 256) (hsrc : SlRp w (fun _ => False) srcv l) (herr : ErrAt numbers.gErr w) : Calls Tryd.prog 5 #[.int .u8 x0, srcv] w fun e w' => e = .returned (.bool true) ∧ Keeps (fun _ => False) w w' :=
  any_law (most := 2) (tErr := 35) mixed msg oct (varB_ok (by kernel_rfl)) (by kernel_rfl) (by kernel_rfl) (by kernel_rfl) (ifaceB_ok (by kernel_rfl)) fn13 (by omega) fn8 (by omega) fn9 (by omega) fn12 (by omega) fn25 (by omega) (by omega) fn5 (by omega) (by kernel_rfl) hx hsrc herr
end Go.Proofs.YtmkioomgfdpeiabDoor.Kx
