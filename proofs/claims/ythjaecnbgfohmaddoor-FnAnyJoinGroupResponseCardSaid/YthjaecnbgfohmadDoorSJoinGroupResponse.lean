/-
  FnAnyJoinGroupResponse: the numbers of the program, the code of its functions, and the law out of them.
-/
import Derived.Test.YthjaecnbgfohmadDoorChecked
import Derived.Test.YthjaecnbgfohmadDoorK1
import Derived.Test.YthjaecnbgfohmadDoorK2
import Derived.Test.YthjaecnbgfohmadDoorK3
import Derived.Test.YthjaecnbgfohmadDoorK4
import Derived.Test.YthjaecnbgfohmadDoorK5
import Derived.Test.YthjaecnbgfohmadDoorK6
import Derived.Test.YthjaecnbgfohmadDoorK7
import Derived.Test.YthjaecnbgfohmadDoorK8
import Derived.Test.YthjaecnbgfohmadDoorK9
import Derived.Test.YthjaecnbgfohmadDoorK10
import Derived.Test.YthjaecnbgfohmadDoorK11
import Derived.Test.YthjaecnbgfohmadDoorK12
import Derived.Test.YthjaecnbgfohmadDoorK13
import Derived.Test.YthjaecnbgfohmadDoorK14
import Derived.KernelRfl
import Derived.Test.YthjaecnbgfohmadDoorSh
namespace Go.Proofs.YthjaecnbgfohmadDoor.Kx
open Go Go.Proofs
set_option maxRecDepth 100000
def numbers : G := { rd := fun | .bool => 87 | .i8 => 999999 | .i16 => 70 | .u16 => 999999 | .i32 => 71 | .i64 => 999999 | .uuid => 999999 | .str => 76 | .cstr => 86 | .nstr => 84 | .cnstr => 82 | .bytes => 91 | .cbytes => 90 | .nbytes => 80 | .cnbytes => 999999, un := fun | .str => 75 | .cstr => 85 | .nstr => 83 | .cnstr => 81 | _ => 999999, len := 77, clen := 88, ok := 78, complete := 72, uv := 105, span := 104, tags := 92, set := 106, tR := 108, tUuid := 999999, tVer := 48, tI8 := 999999, tI32 := 21, tU32 := 68, tInt := 3, tBool := 4, tErr := 53, tTags := 90, tSl := 22, tStr := 9, gErr := 1 }
def numbersW : GW := { ap := fun | .bool => 55 | .i8 => 999999 | .i16 => 41 | .u16 => 73 | .i32 => 42 | .i64 => 999999 | .uuid => 999999 | .str => 45 | .cstr => 54 | .nstr => 53 | .cnstr => 52 | .bytes => 58 | .cbytes => 57 | .nbytes => 49 | .cnbytes => 999999, alen := 48, calen := 56, nalen := 999999, cnalen := 999999, uv := 59, tlen := 60, teach := 61, tVer := 48, tInt := 3, tU32 := 68, tSl := 22, tUuid := 999999 }
def kn : Kn := { tRS := 108, tSl := 22, tB := 4, tInt := 3, tU8 := 5, tI8 := 999999, tI16 := 48, tU16 := 27, tI32 := 21, tU32 := 68, tI64 := 2, tU64 := 105, tStr := 9, tUuid := 999999, tBE := 129, tErr := 53, gBE := 0, gErr := 1, fU16 := 101, fU32 := 102, fU64 := 999999, fUv := 110, fR64 := 999999 }
theorem mixed : Tryd.prog.follows .mixedOrders = true := by kernel_rfl
def fsJoinGroupResponse : Fds := (.cons 2 none none (0) 1 (.prim .i32) (.cons 0 none none (0) 2 (.prim .i16) (.cons 0 none none (-1) 3 (.prim .i32) (.cons 7 none none (0) 4 (.str (some 0)) (.cons 0 none none (0) 5 (.str (some 7)) (.cons 0 none none (0) 6 (.str none) (.cons 9 none none (0) 7 (.prim .bool) (.cons 0 none none (0) 8 (.str none) (.cons 0 none none (0) 9 (.list none 4 (.struct none (some 3) (.cons 0 none none (0) 0 (.str none) (.cons 5 none none (0) 1 (.str (some 0)) (.cons 0 none none (0) 2 (.bytes none) .nil))))) .nil)))))))))
def nmJoinGroupResponse : Nm := (.mk [] [(.mk [11, 92, 1, 21] []), (.mk [12, 92, 2, 48] []), (.mk [13, 92, 3, 21] []), (.mk [14, 92, 4, 86] []), (.mk [15, 92, 5, 86, 16] []), (.mk [17, 92, 6, 9] []), (.mk [18, 92, 7, 4] []), (.mk [19, 92, 8, 9] []), (.mk [20, 92, 9, 87, 21, 22, 23, 0, 1] [(.mk [24, 25, 89, 97, 3] [(.mk [] [(.mk [26, 97, 0, 9] []), (.mk [27, 97, 1, 86] []), (.mk [28, 97, 2, 22] [])])])])])
def nwJoinGroupResponse : List Nm := [(.mk [7, 92, 1, 21] []), (.mk [8, 92, 2, 48] []), (.mk [9, 92, 3, 21] []), (.mk [10, 92, 4, 86] []), (.mk [11, 92, 5, 86, 12, 13, 86, 9] []), (.mk [14, 92, 6, 9] []), (.mk [15, 92, 7, 4] []), (.mk [16, 92, 8, 9] []), (.mk [17, 92, 9, 87, 18, 0, 1] [(.mk [19, 97, 3] [(.mk [] [(.mk [20, 97, 0, 9] []), (.mk [21, 97, 1, 86] []), (.mk [22, 97, 2, 22] [])])])])]
theorem fn87 : FnIs Tryd.prog 87 32 [2] (cBool kn) := fnIs_of Tryd.func87 (by kernel_rfl) (by kernel_rfl) (by kernel_rfl) (by kernel_rfl) -- (*pub-kmsg/pub/kmsg/inner/kbin.Reader).Bool
theorem fn70 : FnIs Tryd.prog 70 32 [2] (cI16 kn) := fnIs_of Tryd.func70 (by kernel_rfl) (by kernel_rfl) (by kernel_rfl) (by kernel_rfl) -- (*pub-kmsg/pub/kmsg/inner/kbin.Reader).Int16
theorem fn71 : FnIs Tryd.prog 71 32 [2] (cI32 kn) := fnIs_of Tryd.func71 (by kernel_rfl) (by kernel_rfl) (by kernel_rfl) (by kernel_rfl) -- (*pub-kmsg/pub/kmsg/inner/kbin.Reader).Int32
theorem fn110 : FnIs Tryd.prog 110 87 [2, 3] (cUvIn kn) := fnIs_of Tryd.func110 (by kernel_rfl) (by kernel_rfl) (by kernel_rfl) (by kernel_rfl) -- pub-kmsg/pub/kmsg/inner/kbin.Uvarint
theorem fn105 : FnIs Tryd.prog 105 31 [2] (cUv kn) := fnIs_of Tryd.func105 (by kernel_rfl) (by kernel_rfl) (by kernel_rfl) (by kernel_rfl) -- (*pub-kmsg/pub/kmsg/inner/kbin.Reader).Uvarint
theorem fn92 : FnIsC Tryd.prog 92 24 2 90 (cRdTags numbers kn) := fnIsC_of Tryd.func92 (by kernel_rfl) (by kernel_rfl) (by kernel_rfl) (by kernel_rfl) -- pub-kmsg/pub/kmsg.internalReadTags
theorem fn106 : FnIs Tryd.prog 106 21 [] (cSet numbers 88) := fnIs_of Tryd.func106 (by kernel_rfl) (by kernel_rfl) (by kernel_rfl) (by kernel_rfl) -- (*pub-kmsg/pub/kmsg.Tags).Set
theorem fn78 : FnIs Tryd.prog 78 8 [2] (cOk kn) := fnIs_of Tryd.func78 (by kernel_rfl) (by kernel_rfl) (by kernel_rfl) (by kernel_rfl) -- (*pub-kmsg/pub/kmsg/inner/kbin.Reader).Ok
theorem fn72 : FnIs Tryd.prog 72 8 [2] (cComplete kn) := fnIs_of Tryd.func72 (by kernel_rfl) (by kernel_rfl) (by kernel_rfl) (by kernel_rfl) -- (*pub-kmsg/pub/kmsg/inner/kbin.Reader).Complete
theorem fn104 : FnIs Tryd.prog 104 40 [4] (cSpan kn) := fnIs_of Tryd.func104 (by kernel_rfl) (by kernel_rfl) (by kernel_rfl) (by kernel_rfl) -- (*pub-kmsg/pub/kmsg/inner/kbin.Reader).Span
theorem fn76 : FnIs Tryd.prog 76 11 [2] (cStr numbers kn) := fnIs_of Tryd.func76 (by kernel_rfl) (by kernel_rfl) (by kernel_rfl) (by kernel_rfl) -- (*pub-kmsg/pub/kmsg/inner/kbin.Reader).String
theorem fn86 : FnIs Tryd.prog 86 12 [2] (cCStr numbers kn) := fnIs_of Tryd.func86 (by kernel_rfl) (by kernel_rfl) (by kernel_rfl) (by kernel_rfl) -- (*pub-kmsg/pub/kmsg/inner/kbin.Reader).CompactString
theorem fn84 : FnIs Tryd.prog 84 14 [2] (cNStr numbers kn) := fnIs_of Tryd.func84 (by kernel_rfl) (by kernel_rfl) (by kernel_rfl) (by kernel_rfl) -- (*pub-kmsg/pub/kmsg/inner/kbin.Reader).NullableString
theorem fn82 : FnIs Tryd.prog 82 15 [2] (cCNStr numbers kn) := fnIs_of Tryd.func82 (by kernel_rfl) (by kernel_rfl) (by kernel_rfl) (by kernel_rfl) -- (*pub-kmsg/pub/kmsg/inner/kbin.Reader).CompactNullableString
theorem fn91 : FnIs Tryd.prog 91 13 [2] (cBytes numbers kn) := fnIs_of Tryd.func91 (by kernel_rfl) (by kernel_rfl) (by kernel_rfl) (by kernel_rfl) -- (*pub-kmsg/pub/kmsg/inner/kbin.Reader).Bytes
theorem fn90 : FnIs Tryd.prog 90 14 [2] (cCBytes numbers kn) := fnIs_of Tryd.func90 (by kernel_rfl) (by kernel_rfl) (by kernel_rfl) (by kernel_rfl) -- (*pub-kmsg/pub/kmsg/inner/kbin.Reader).CompactBytes
theorem fn80 : FnIs Tryd.prog 80 14 [2] (cNBytes numbers kn) := fnIs_of Tryd.func80 (by kernel_rfl) (by kernel_rfl) (by kernel_rfl) (by kernel_rfl) -- (*pub-kmsg/pub/kmsg/inner/kbin.Reader).NullableBytes
theorem fn77 : FnIs Tryd.prog 77 21 [2] (cLen numbers kn) := fnIs_of Tryd.func77 (by kernel_rfl) (by kernel_rfl) (by kernel_rfl) (by kernel_rfl) -- (*pub-kmsg/pub/kmsg/inner/kbin.Reader).ArrayLen
theorem fn88 : FnIs Tryd.prog 88 23 [2] (cCLen numbers kn) := fnIs_of Tryd.func88 (by kernel_rfl) (by kernel_rfl) (by kernel_rfl) (by kernel_rfl) -- (*pub-kmsg/pub/kmsg/inner/kbin.Reader).CompactArrayLen
theorem fn101 : FnIs Tryd.prog 101 18 [4] (gBig kn kn.tU16 .u16 2) := fnIs_of Tryd.func101 (by kernel_rfl) (by kernel_rfl) (by kernel_rfl) (by kernel_rfl) -- (encoding/binary.bigEndian).Uint16
theorem fn102 : FnIs Tryd.prog 102 30 [4] (gBig kn kn.tU32 .u32 4) := fnIs_of Tryd.func102 (by kernel_rfl) (by kernel_rfl) (by kernel_rfl) (by kernel_rfl) -- (encoding/binary.bigEndian).Uint32
theorem fn73 : FnIs Tryd.prog 73 13 [4] (cAU16 kn) := fnIs_of Tryd.func73 (by kernel_rfl) (by kernel_rfl) (by kernel_rfl) (by kernel_rfl) -- pub-kmsg/pub/kmsg/inner/kbin.AppendUint16
theorem fn74 : FnIs Tryd.prog 74 19 [4] (cAU32 kn) := fnIs_of Tryd.func74 (by kernel_rfl) (by kernel_rfl) (by kernel_rfl) (by kernel_rfl) -- pub-kmsg/pub/kmsg/inner/kbin.AppendUint32
theorem fn41 : FnIs Tryd.prog 41 9 [4] (cACv kn.tI16 kn.tU16 73) := fnIs_of Tryd.func41 (by kernel_rfl) (by kernel_rfl) (by kernel_rfl) (by kernel_rfl) -- pub-kmsg/pub/kmsg/inner/kbin.AppendInt16
theorem fn42 : FnIs Tryd.prog 42 9 [4] (cACv kn.tI32 kn.tU32 74) := fnIs_of Tryd.func42 (by kernel_rfl) (by kernel_rfl) (by kernel_rfl) (by kernel_rfl) -- pub-kmsg/pub/kmsg/inner/kbin.AppendInt32
theorem fn48 : FnIs Tryd.prog 48 9 [4] (cACv kn.tInt kn.tI32 42) := fnIs_of Tryd.func48 (by kernel_rfl) (by kernel_rfl) (by kernel_rfl) (by kernel_rfl) -- pub-kmsg/pub/kmsg/inner/kbin.AppendArrayLen
theorem fn56 : FnIs Tryd.prog 56 10 [4] (cACv1 kn 59) := fnIs_of Tryd.func56 (by kernel_rfl) (by kernel_rfl) (by kernel_rfl) (by kernel_rfl) -- pub-kmsg/pub/kmsg/inner/kbin.AppendCompactArrayLen
theorem fn55 : FnIs Tryd.prog 55 12 [4] (cABool kn) := fnIs_of Tryd.func55 (by kernel_rfl) (by kernel_rfl) (by kernel_rfl) (by kernel_rfl) -- pub-kmsg/pub/kmsg/inner/kbin.AppendBool
theorem fn45 : FnIs Tryd.prog 45 13 [4] (cAStr kn kn.tStr kn.tI16 41) := fnIs_of Tryd.func45 (by kernel_rfl) (by kernel_rfl) (by kernel_rfl) (by kernel_rfl) -- pub-kmsg/pub/kmsg/inner/kbin.AppendString
theorem fn54 : FnIs Tryd.prog 54 14 [4] (cACStr kn kn.tStr 59) := fnIs_of Tryd.func54 (by kernel_rfl) (by kernel_rfl) (by kernel_rfl) (by kernel_rfl) -- pub-kmsg/pub/kmsg/inner/kbin.AppendCompactString
theorem fn58 : FnIs Tryd.prog 58 13 [4] (cAStr kn kn.tSl kn.tI32 42) := fnIs_of Tryd.func58 (by kernel_rfl) (by kernel_rfl) (by kernel_rfl) (by kernel_rfl) -- pub-kmsg/pub/kmsg/inner/kbin.AppendBytes
theorem fn57 : FnIs Tryd.prog 57 14 [4] (cACStr kn kn.tSl 59) := fnIs_of Tryd.func57 (by kernel_rfl) (by kernel_rfl) (by kernel_rfl) (by kernel_rfl) -- pub-kmsg/pub/kmsg/inner/kbin.AppendCompactBytes
theorem fn53 : FnIs Tryd.prog 53 14 [4] (cANStr kn 86 (.int .i16 (-1)) 41 45) := fnIs_of Tryd.func53 (by kernel_rfl) (by kernel_rfl) (by kernel_rfl) (by kernel_rfl) -- pub-kmsg/pub/kmsg/inner/kbin.AppendNullableString
theorem fn52 : FnIs Tryd.prog 52 14 [4] (cANStr kn 86 (.int .u32 0) 59 54) := fnIs_of Tryd.func52 (by kernel_rfl) (by kernel_rfl) (by kernel_rfl) (by kernel_rfl) -- pub-kmsg/pub/kmsg/inner/kbin.AppendCompactNullableString
theorem fn49 : FnIs Tryd.prog 49 12 [4] (cANBytes kn (.int .i32 (-1)) 42 58) := fnIs_of Tryd.func49 (by kernel_rfl) (by kernel_rfl) (by kernel_rfl) (by kernel_rfl) -- pub-kmsg/pub/kmsg/inner/kbin.AppendNullableBytes
theorem fn59 : FnIs Tryd.prog 59 93 [4] (cAUv kn 93) := fnIs_of Tryd.func59 (by kernel_rfl) (by kernel_rfl) (by kernel_rfl) (by kernel_rfl) -- pub-kmsg/pub/kmsg/inner/kbin.AppendUvarint
theorem fn93 : FnIs Tryd.prog 93 8 [2] (cUvLen kn 107) := fnIs_of Tryd.func93 (by kernel_rfl) (by kernel_rfl) (by kernel_rfl) (by kernel_rfl) -- pub-kmsg/pub/kmsg/inner/kbin.UvarintLen
theorem fn107 : FnIs Tryd.prog 107 19 [2] (cLen32 kn 68) := fnIs_of Tryd.func107 (by kernel_rfl) (by kernel_rfl) (by kernel_rfl) (by kernel_rfl) -- math/bits.Len32
theorem fn60 : FnIs Tryd.prog 60 8 [2] (cTLen kn 90 88) := fnIs_of Tryd.func60 (by kernel_rfl) (by kernel_rfl) (by kernel_rfl) (by kernel_rfl) -- (*pub-kmsg/pub/kmsg.Tags).Len
theorem fn23 : FnIs Tryd.prog 23 8 [4] (cRdF 40) := fnIs_of Tryd.func23 (by kernel_rfl) (by kernel_rfl) (by kernel_rfl) (by kernel_rfl) -- (*pub-kmsg/pub/kmsg.EndTxnMarker).ReadFrom
theorem fn26 : FnIs Tryd.prog 26 8 [4] (cRdF 44) := fnIs_of Tryd.func26 (by kernel_rfl) (by kernel_rfl) (by kernel_rfl) (by kernel_rfl) -- (*pub-kmsg/pub/kmsg.OffsetCommitKey).ReadFrom
theorem fn30 : FnIs Tryd.prog 30 8 [4] (cRdF 47) := fnIs_of Tryd.func30 (by kernel_rfl) (by kernel_rfl) (by kernel_rfl) (by kernel_rfl) -- (*pub-kmsg/pub/kmsg.ConsumerMemberAssignment).ReadFrom
theorem fn32 : FnIs Tryd.prog 32 3 [0] (cNewPtr 92 50) := fnIs_of Tryd.func32 (by kernel_rfl) (by kernel_rfl) (by kernel_rfl) (by kernel_rfl) -- pub-kmsg/pub/kmsg.NewPtrJoinGroupResponse
theorem fn34 : FnIs Tryd.prog 34 8 [] (cSetV 92 48) := fnIs_of Tryd.func34 (by kernel_rfl) (by kernel_rfl) (by kernel_rfl) (by kernel_rfl) -- (*pub-kmsg/pub/kmsg.JoinGroupResponse).SetVersion
theorem fn35 : FnIs Tryd.prog 35 8 [4] (cRdF 51) := fnIs_of Tryd.func35 (by kernel_rfl) (by kernel_rfl) (by kernel_rfl) (by kernel_rfl) -- (*pub-kmsg/pub/kmsg.JoinGroupResponse).ReadFrom
theorem fn16 : FnIs Tryd.prog 16 4 [0] (cMax 48 3 32 33) := fnIs_of Tryd.func16 (by kernel_rfl) (by kernel_rfl) (by kernel_rfl) (by kernel_rfl) -- pub-kmsg/impl.MaxJoinGroupResponse
theorem fn33 : FnIs Tryd.prog 33 3 [2] (cMaxV 9) := fnIs_of Tryd.func33 (by kernel_rfl) (by kernel_rfl) (by kernel_rfl) (by kernel_rfl) -- (*pub-kmsg/pub/kmsg.JoinGroupResponse).MaxVersion
theorem fn17 : FnIs Tryd.prog 17 19 [4, 5] (cAgain 48 3 22 53 32 34 35 36) := fnIs_of Tryd.func17 (by kernel_rfl) (by kernel_rfl) (by kernel_rfl) (by kernel_rfl) -- pub-kmsg/impl.AgainJoinGroupResponse
theorem fn6 : FnIs Tryd.prog 6 43 [4] (cAny 22 3 4 16 18 17 13) := fnIs_of Tryd.func6 (by kernel_rfl) (by kernel_rfl) (by kernel_rfl) (by kernel_rfl) -- pub-kmsg/laws.FnAnyJoinGroupResponse
theorem fn18 : FnIs Tryd.prog 18 10 [4] (cVer 5 3) := fnIs_of Tryd.func18 (by kernel_rfl) (by kernel_rfl) (by kernel_rfl) (by kernel_rfl) -- pub-kmsg/laws.version
theorem fn13 : FnIs Tryd.prog 13 26 [4] (cSame 22 5 3) := fnIs_of Tryd.func13 (by kernel_rfl) (by kernel_rfl) (by kernel_rfl) (by kernel_rfl) -- pub-kmsg/spec.Same
theorem fn51 : FnIs Tryd.prog 51 197 [6] (gRead numbers true false ⟨true, 7, 10, 8, 9⟩ fsJoinGroupResponse 50 92 10 6 29 nmJoinGroupResponse) := fnIs_of Tryd.func51 (by kernel_rfl) (by kernel_rfl) (by kernel_rfl) (by kernel_rfl) -- (*pub-kmsg/pub/kmsg.JoinGroupResponse).readFrom
theorem fn36 : FnIs Tryd.prog 36 210 [4] (gWrite numbersW false ⟨true, 0, 0, 5, 6⟩ fsJoinGroupResponse 92 10 6 0 23 nwJoinGroupResponse) := fnIs_of Tryd.func36 (by kernel_rfl) (by kernel_rfl) (by kernel_rfl) (by kernel_rfl) -- (*pub-kmsg/pub/kmsg.JoinGroupResponse).AppendTo
def di50 : List DI := [.st 0 92 3 21 (.int .i32 (-1))]
theorem fn50 : FnIs Tryd.prog 50 5 [] (gDflt di50 2) := fnIs_of Tryd.func50 (by kernel_rfl) (by kernel_rfl) (by kernel_rfl) (by kernel_rfl) -- (*pub-kmsg/pub/kmsg.JoinGroupResponse).Default
noncomputable def dw50 : List (Nat × Value) := (dRun Tryd.prog 2 di50 [(0, 0)]).getD []
theorem df50 : Ent Tryd.prog 50 ∧ DfC Tryd.prog 50 dw50 := dfC_of (n0 := 2) (items := di50) (by kernel_rfl) fn50 (by kernel_rfl) (of_decide_eq_true (by kernel_rfl)) (by omega)
def di89 : List DI := []
theorem fn89 : FnIs Tryd.prog 89 2 [] (gDflt di89 2) := fnIs_of Tryd.func89 (by kernel_rfl) (by kernel_rfl) (by kernel_rfl) (by kernel_rfl) -- (*pub-kmsg/pub/kmsg.JoinGroupResponseMember).Default
noncomputable def dw89 : List (Nat × Value) := (dRun Tryd.prog 2 di89 [(0, 0)]).getD []
theorem df89 : Ent Tryd.prog 89 ∧ DfC Tryd.prog 89 dw89 := dfC_of (n0 := 2) (items := di89) (by kernel_rfl) fn89 (by kernel_rfl) (of_decide_eq_true (by kernel_rfl)) (by omega)
noncomputable def dd : Nat → Option (List (Nat × Value))
  | 50 => some dw50
  | 89 => some dw89
  | _ => none
theorem ddOk : ∀ f wr, dd f = some wr → Ent Tryd.prog f ∧ DfC Tryd.prog f wr := by
  intro f wr h
  unfold dd at h
  split at h
  · obtain rfl := Option.some.inj h; exact df50
  · obtain rfl := Option.some.inj h; exact df89
  · cases h
theorem kt : KT Tryd.prog numbers kn where
  mixed := mixed
  f0 := fldB_ok (by kernel_rfl)
  f1 := fldB_ok (by kernel_rfl)
  sl := by kernel_rfl
  u8 := varB_ok (by kernel_rfl)
  dU8 := by kernel_rfl
  dI8 := fun h => absurd h (by decide)
  dI16 := by kernel_rfl
  dI32 := by kernel_rfl
  dU32 := by kernel_rfl
  dInt := by kernel_rfl
theorem kbig : KBig Tryd.prog kn where
  be := varB_ok (by kernel_rfl)
  d16 := by kernel_rfl
  d64 := fun h => absurd h (by decide)
  dI64 := fun h => absurd h (by decide)
  f16 := fun _ => fn101
  f32 := fun _ => fn102
  f64 := fun h => absurd h (by decide)
theorem ksub : KSub Tryd.prog numbers kn kn.tRS where
  e16 := fun _ => fn70.ent
  c16 := fun _ w S R r hR hRS => (i16_calls kt kbig rfl fn70 (by omega) hR hRS).mono fun e w' h => (fun h => ⟨h.1, h.2.1, h.2.2.1⟩) (rdOk_int (p := .i16) (.inr (.inl ⟨rfl, rfl⟩)) rfl h)
  e32 := fun _ => fn71.ent
  c32 := fun _ w S R r hR hRS => (i32_calls kt kbig rfl fn71 (by omega) hR hRS).mono fun e w' h => (fun h => ⟨h.1, h.2.1, h.2.2.1⟩) (rdOk_int (p := .i32) (.inr (.inr (.inl ⟨rfl, rfl⟩))) rfl h)
  eU := fun _ => fn105.ent
  cU := fun _ w S R r hR hRS => uv_calls kt fn110 (by omega) fn105 (by omega) hR hRS
  eS := fun _ => fn104.ent
  cS := fun _ w S R r k hR hRS => span_calls kt fn104 (by omega) hR hRS
  dStr := by kernel_rfl
  vStr := varB_ok (by kernel_rfl)
  zStr := zeroOf_ok (by kernel_rfl)
def tn : TN := { tTags := 90, tM := 88, tKs := 135, tU32 := 68, tInt := 3, tSl := 22, fSort := 108, fLess := 109, fEach := 94, fOne := 95, fUv := 59 }
theorem fn94 : FnIs Tryd.prog 94 53 [] (cEach tn) := fnIs_of Tryd.func94 (by kernel_rfl) (by kernel_rfl) (by kernel_rfl) (by kernel_rfl) -- (*pub-kmsg/pub/kmsg.Tags).Each
theorem fn109 : FnIs Tryd.prog 109 15 [5] (cTLess tn) := fnIs_of Tryd.func109 (by kernel_rfl) (by kernel_rfl) (by kernel_rfl) (by kernel_rfl) -- (*pub-kmsg/pub/kmsg.Tags).Each$1
theorem fn61 : FnIs Tryd.prog 61 9 [4] (cTEach tn) := fnIs_of Tryd.func61 (by kernel_rfl) (by kernel_rfl) (by kernel_rfl) (by kernel_rfl) -- (*pub-kmsg/pub/kmsg.Tags).AppendEach
theorem fn95 : FnIs Tryd.prog 95 16 [] (cTOne tn) := fnIs_of Tryd.func95 (by kernel_rfl) (by kernel_rfl) (by kernel_rfl) (by kernel_rfl) -- (*pub-kmsg/pub/kmsg.Tags).AppendEach$1
theorem tf : TF Tryd.prog tn where
  map := ⟨68, 22, by kernel_rfl, by kernel_rfl⟩
  fld := fldB_ok (by kernel_rfl)
  sl := by kernel_rfl
  info := infoB_ok (by kernel_rfl)
  vU := varB_ok (by kernel_rfl)
  vK := varB_ok (by kernel_rfl)
  zK := zeroOf_ok (by kernel_rfl)
  dInt := by kernel_rfl
  dU32 := by kernel_rfl
theorem sortOk : SortOk Tryd.prog tn := sortOk_of (it := (Tryd.prog.info? 135).get (by kernel_rfl)) (ie := (Tryd.prog.info? 68).get (by kernel_rfl)) (ke := 10) (f1 := 116) (f2 := 117) (f6 := 121) mixed tf Tryd.sa6 rfl (enters_of Tryd.func108 (by kernel_rfl) rfl) fn109 (by omega) (by kernel_rfl) (by kernel_rfl) (by kernel_rfl) (by kernel_rfl) (fun _ => by kernel_rfl) (by kernel_rfl) (by kernel_rfl) (by kernel_rfl) fn109.ent (by kernel_rfl) (by kernel_rfl) (by kernel_rfl) (fun args W => run_callFunc_extern Tryd.func121 (by kernel_rfl) (by kernel_rfl) (by kernel_rfl) (e := Extern.ReflectliteSwapper.swap true) (by kernel_rfl) args W)
theorem setOk : SetOk Tryd.prog numbers.set := fun _ _ _ _ _ _ _ _ _ _ hk hB hO ht hv => set_calls (tM := 88) (kt := 68) (et := 22) mixed fn106 (by omega) (by kernel_rfl) (by kernel_rfl) (fldB_ok (by kernel_rfl)) hk hB hO ht hv
def av : PF → Bool
  | .bool => true
  | .i16 => true
  | .i32 => true
  | .str => true
  | .cstr => true
  | .nstr => true
  | .cnstr => true
  | .bytes => true
  | .cbytes => true
  | .nbytes => true
  | _ => false
theorem rdAll : ∀ p, av p = true → RdOk Tryd.prog numbers.tR p (numbers.rd p) := by
  intro p h
  cases p
  · exact rdOk_bool kt fn87 (by omega)
  · cases h
  · exact rdOk_i16 kt kbig rfl fn70 (by omega)
  · cases h
  · exact rdOk_i32 kt kbig rfl fn71 (by omega)
  · cases h
  · cases h
  · exact rdOk_str kt ksub rfl rfl fn76 (by omega)
  · exact rdOk_cstr kt ksub rfl rfl fn86 (by omega)
  · exact rdOk_nstr kt ksub rfl rfl fn84 (by omega)
  · exact rdOk_cnstr kt ksub rfl rfl fn82 (by omega)
  · exact rdOk_bytes kt ksub rfl rfl fn91 (by omega)
  · exact rdOk_cbytes kt ksub rfl rfl fn90 (by omega)
  · exact rdOk_nbytes kt ksub rfl rfl fn80 (by omega)
  · cases h
theorem kb : KB Tryd.prog numbers av true where
  mixed := mixed
  rdE p h := (rdAll p h).1
  rdC p h := (rdAll p h).2
  i8C := fun h => absurd h (by decide)
  okE := fun _ => fn78.ent
  okC := fun _ w S R r hR => ok_calls kt fn78 (by omega) hR
  cmE := fn72.ent
  cmC w S R r hR he := complete_calls kt fn72 (by omega) (varB_ok (by kernel_rfl)) hR he
  lenE := fun _ => fn77.ent
  lenC := fun _ w S R r hR hRS => len_calls kt ksub rfl fn77 (by omega) hR hRS
  clenE := fun _ _ => fn88.ent
  clenC := fun _ _ w S R r hR hRS => clen_calls kt ksub rfl fn88 (by omega) hR hRS
  uvE := fun _ => fn105.ent
  uvC := fun _ w S R r hR hRS => ksub.cU rfl w S R r hR hRS
  spanE := fun _ => fn104.ent
  spanC := fun _ w S R r k _ _ hR hRS => ksub.cS rfl w S R r k hR hRS
  tagsE := fun _ => fn92.ent
  tagsC := fun _ w S R r hR hRS hS => rdTags_calls kt ksub rfl rfl rfl fn106.ent setOk (zeroOf_ok (by kernel_rfl)) (varB_ok (by kernel_rfl)) fn92 (by omega) hR hRS hS
  setE := fun _ => fn106.ent
  setC := fun _ => setOk
  fR := twoB_ok (by kernel_rfl)
  zR := zeroOf_ok (by kernel_rfl)
  vR := varB_ok (by kernel_rfl)
  uuid := fun h => absurd h (by decide)
  tI32 := by kernel_rfl
  tU32 := fun _ => by kernel_rfl
  tInt := by kernel_rfl
  vStr := ⟨varB_ok (by kernel_rfl), zeroOf_ok (by kernel_rfl)⟩
  vTags := fun _ => varB_ok (by kernel_rfl)
  tErr := fun _ => ifaceB_ok (by kernel_rfl)
theorem env : Env Tryd.prog numbers av true dd := ⟨kb, ddOk⟩
theorem oct : OctT Tryd.prog kn.tSl kn.tU8 := octB_ok (by kernel_rfl)
theorem wt : WT Tryd.prog kn where
  mixed := mixed
  oct := oct
  dU8 := by kernel_rfl
  dI8 := fun h => absurd h (by decide)
  dI16 := by kernel_rfl
  dU16 := fun _ => by kernel_rfl
  dI32 := by kernel_rfl
  dU32 := by kernel_rfl
  dInt := by kernel_rfl
  dI64 := fun _ => by kernel_rfl
  dU64 := fun _ => by kernel_rfl
  dStr := by kernel_rfl
  vStr := varB_ok (by kernel_rfl)
theorem uvC (x : Nat) (w : World) (h : x < 4294967296) : ApC Tryd.prog kn.tU8 numbersW.uv (.int .u32 x) (uvar x) w := ap_uv wt (by kernel_rfl) fn107 (by omega) fn93 (by omega) fn59 (by omega) h w
theorem i16C (x : Int) (w : World) : ApC Tryd.prog kn.tU8 41 (.int .i16 x) (be 2 x) w := ap_i16 wt rfl fn73 (by omega) fn41 (by omega) x w
theorem i32C (x : Int) (w : World) : ApC Tryd.prog kn.tU8 42 (.int .i32 x) (be 4 x) w := ap_i32 wt fn74 (by omega) fn42 (by omega) x w
def avw : PF → Bool
  | .bool => true
  | .i16 => true
  | .u16 => true
  | .i32 => true
  | .str => true
  | .cstr => true
  | .nstr => true
  | .cnstr => true
  | .bytes => true
  | .cbytes => true
  | .nbytes => true
  | _ => false
theorem apAll : ∀ p, avw p = true → AppOk Tryd.prog kn.tU8 p (numbersW.ap p) := by
  intro p h
  cases p
  · exact app_bool wt fn55 (by omega)
  · cases h
  · exact app_i16 wt rfl fn73 (by omega) fn41 (by omega)
  · exact app_u16 wt rfl fn73 (by omega)
  · exact app_i32 wt fn74 (by omega) fn42 (by omega)
  · cases h
  · cases h
  · exact app_str wt (app_i16 wt rfl fn73 (by omega) fn41 (by omega)) i16C fn45 (by omega)
  · exact app_cstr wt fn59.ent (fun x w h => uvC x w h) fn54 (by omega)
  · exact app_nstr wt (fx := false) rfl (by kernel_rfl) fn41.ent (fun w => i16C (-1) w) (app_str wt (app_i16 wt rfl fn73 (by omega) fn41 (by omega)) i16C fn45 (by omega)) fn53 (by omega)
  · exact app_nstr wt (fx := true) rfl (by kernel_rfl) fn59.ent (fun w => uvC 0 w (by omega)) (app_cstr wt fn59.ent (fun x w h => uvC x w h) fn54 (by omega)) fn52 (by omega)
  · exact app_bytes wt fn42.ent i32C fn58 (by omega)
  · exact app_cbytes wt fn59.ent (fun x w h => uvC x w h) fn57 (by omega)
  · exact app_nbytes wt (fx := false) rfl fn42.ent (fun w => i32C (-1) w) (app_bytes wt fn42.ent i32C fn58 (by omega)) fn49 (by omega)
  · cases h
theorem kw : KW Tryd.prog numbersW avw true false kn.tU8 where
  mixed := mixed
  oct := oct
  dInt := by kernel_rfl
  dU32 := fun _ => by kernel_rfl
  apE p h := (apAll p h).1
  apC p h := (apAll p h).2
  alE := fun _ => fn48.ent
  alC := fun _ n w => ap_len wt fn42.ent i32C fn48 (by omega) n w
  clE := fun _ _ => fn56.ent
  clC := fun _ _ n w => ap_clen wt fn59.ent (fun x w h => uvC x w h) fn56 (by omega) n w
  nlE := fun h => absurd h (by decide)
  nlC := fun h => absurd h (by decide)
  cnE := fun h => absurd h (by decide)
  cnC := fun h => absurd h (by decide)
  uvE := fun _ => fn59.ent
  uvC := fun _ x w h => uvC x w h
  tlE := fun _ => fn60.ent
  tlC := fun _ w b o m X t hc ht => tlen_calls (kt := 68) (et := 22) mixed (by kernel_rfl) (fldB_ok (by kernel_rfl)) fn60 (by omega) hc ht
  teE := fun _ => fn61.ent
  teC := fun _ w b o m L t d bs hc hb ht hd hL hlim => teach_calls mixed tf sortOk oct (varB_ok (by kernel_rfl)) fn59.ent (fun x w h => uvC x w h) fn94 (by omega) fn95 (by omega) fn61 (by omega) hc hb ht hd hL hlim
  uuid := fun h => absurd h (by decide)
noncomputable def zv : Value := (zeroOf Tryd.prog 92).getD undef
noncomputable def zz : Array Value := applyWr zv.cells 0 dw50
theorem msg : MsgC Tryd.prog numbers.gErr kn.tU8 false true 6 fsJoinGroupResponse (some 10) 92 zz 32 34 35 36 :=
  msgC_of (cx := ⟨true, 7, 10, 8, 9⟩) (cw := ⟨true, 0, 0, 5, 6⟩) (nm := nmJoinGroupResponse) (ms := nwJoinGroupResponse) (tI16 := 48) env kw (by decide) (by decide) rfl rfl fn32 (by omega) fn34 (by omega) fn35 (by omega) fn51 (by omega) fn36 (by kernel_rfl) (by kernel_rfl) rfl (of_decide_eq_true (by kernel_rfl)) (by kernel_rfl) (by kernel_rfl) rfl (by kernel_rfl) (by kernel_rfl)
theorem law {w : World} {x0 : Nat} {srcv : Value} {l : Bs} (hx : x0 < 256) (hsrc : SlRp w (fun _ => False) srcv l) (herr : ErrAt numbers.gErr w) : Calls Tryd.prog 6 #[.int .u8 x0, srcv] w fun e w' => e = .returned (.bool true) ∧ Keeps (fun _ => False) w w' :=
  any_law (most := 9) (tErr := 53) mixed msg oct (varB_ok (by kernel_rfl)) (by kernel_rfl) (by kernel_rfl) (by kernel_rfl) (ifaceB_ok (by kernel_rfl)) fn17 (by omega) fn18 (by omega) fn13 (by omega) fn16 (by omega) fn33 (by omega) (by omega) fn6 (by omega) (by kernel_rfl) hx hsrc herr
end Go.Proofs.YthjaecnbgfohmadDoor.Kx
