/-
  FnAnyOffsetCommitKey: the numbers of the program, the code of its functions, and the law out of them.
-/
import Derived.Test.YthjaecnbgfohmadDoorChecked
import Derived.Test.YthjaecnbgfohmadDoorK1
import Derived.Test.YthjaecnbgfohmadDoorK2
import Derived.Test.YthjaecnbgfohmadDoorK3
import Derived.Test.YthjaecnbgfohmadDoorK4
import Derived.Test.YthjaecnbgfohmadDoorK5
import Derived.Test.YthjaecnbgfohmadDoorK6
import Derived.Test.YthjaecnbgfohmadDoorK7
import Derived.Test.YthjaecnbgfohmadDoorK8
import Derived.Test.YthjaecnbgfohmadDoorK9
import Derived.Test.YthjaecnbgfohmadDoorK10
import Derived.Test.YthjaecnbgfohmadDoorK11
import Derived.Test.YthjaecnbgfohmadDoorK12
import Derived.Test.YthjaecnbgfohmadDoorK13
import Derived.Test.YthjaecnbgfohmadDoorK14
import Derived.Test.YthjaecnbgfohmadDoorK15
import Derived.Test.YthjaecnbgfohmadDoorK16
import Derived.KernelRfl
import Derived.Test.YthjaecnbgfohmadDoorSh
namespace Go.Proofs.YthjaecnbgfohmadDoor.Kx
open Go Go.Proofs
set_option maxRecDepth 100000
def numbers : G := { rd := fun | .bool => 87 | .i8 => 999999 | .i16 => 70 | .u16 => 999999 | .i32 => 71 | .i64 => 999999 | .uuid => 999999 | .str => 76 | .cstr => 86 | .nstr => 84 | .cnstr => 82 | .bytes => 91 | .cbytes => 90 | .nbytes => 80 | .cnbytes => 999999, un := fun | .str => 75 | .cstr => 85 | .nstr => 83 | .cnstr => 81 | _ => 999999, len := 77, clen := 88, ok := 78, complete := 72, uv := 105, span := 104, tags := 92, set := 106, tR := 108, tUuid := 999999, tVer := 48, tI8 := 999999, tI32 := 21, tU32 := 68, tInt := 3, tBool := 4, tErr := 53, tTags := 90, tSl := 22, tStr := 9, gErr := 1 }
def numbersW : GW := { ap := fun | .bool => 55 | .i8 => 999999 | .i16 => 41 | .u16 => 73 | .i32 => 42 | .i64 => 999999 | .uuid => 999999 | .str => 45 | .cstr => 54 | .nstr => 53 | .cnstr => 52 | .bytes => 58 | .cbytes => 57 | .nbytes => 49 | .cnbytes => 999999, alen := 48, calen := 56, nalen := 999999, cnalen := 999999, uv := 59, tlen := 60, teach := 61, tVer := 48, tInt := 3, tU32 := 68, tSl := 22, tUuid := 999999 }
def kn : Kn := { tRS := 108, tSl := 22, tB := 4, tInt := 3, tU8 := 5, tI8 := 999999, tI16 := 48, tU16 := 27, tI32 := 21, tU32 := 68, tI64 := 2, tU64 := 105, tStr := 9, tUuid := 999999, tBE := 129, tErr := 53, gBE := 0, gErr := 1, fU16 := 101, fU32 := 102, fU64 := 999999, fUv := 110, fR64 := 999999 }
theorem mixed : Tryd.prog.follows .mixedOrders = true := by kernel_rfl
def fsOffsetCommitKey : Fds := (.cons 0 none none (0) 1 (.str none) (.cons 0 none none (0) 2 (.str none) (.cons 0 none none (0) 3 (.prim .i32) .nil)))
def nmOffsetCommitKey : Nm := (.mk [] [(.mk [10, 57, 1, 9] []), (.mk [11, 57, 2, 9] []), (.mk [12, 57, 3, 21] [])])
def nwOffsetCommitKey : List Nm := [(.mk [7, 57, 1, 9] []), (.mk [8, 57, 2, 9] []), (.mk [9, 57, 3, 21] [])]
theorem fn87 : FnIs Tryd.prog 87 32 [2] (cBool kn) := fnIs_of Tryd.func87 (by kernel_rfl) (by kernel_rfl) (by kernel_rfl) (by kernel_rfl) -- (*pub-kmsg/pub/kmsg/inner/kbin.Reader).Bool
theorem fn70 : FnIs Tryd.prog 70 32 [2] (cI16 kn) := fnIs_of Tryd.func70 (by kernel_rfl) (by kernel_rfl) (by kernel_rfl) (by kernel_rfl) -- (*pub-kmsg/pub/kmsg/inner/kbin.Reader).Int16
theorem fn71 : FnIs Tryd.prog 71 32 [2] (cI32 kn) := fnIs_of Tryd.func71 (by kernel_rfl) (by kernel_rfl) (by kernel_rfl) (by kernel_rfl) -- (*pub-kmsg/pub/kmsg/inner/kbin.Reader).Int32
theorem fn110 : FnIs Tryd.prog 110 87 [2, 3] (cUvIn kn) := fnIs_of Tryd.func110 (by kernel_rfl) (by kernel_rfl) (by kernel_rfl) (by kernel_rfl) -- pub-kmsg/pub/kmsg/inner/kbin.Uvarint
theorem fn105 : FnIs Tryd.prog 105 31 [2] (cUv kn) := fnIs_of Tryd.func105 (by kernel_rfl) (by kernel_rfl) (by kernel_rfl) (by kernel_rfl) -- (*pub-kmsg/pub/kmsg/inner/kbin.Reader).Uvarint
theorem fn92 : FnIsC Tryd.prog 92 24 2 90 (cRdTags numbers kn) := fnIsC_of Tryd.func92 (by kernel_rfl) (by kernel_rfl) (by kernel_rfl) (by kernel_rfl) -- pub-kmsg/pub/kmsg.internalReadTags
theorem fn106 : FnIs Tryd.prog 106 21 [] (cSet numbers 88) := fnIs_of Tryd.func106 (by kernel_rfl) (by kernel_rfl) (by kernel_rfl) (by kernel_rfl) -- (*pub-kmsg/pub/kmsg.Tags).Set
theorem fn78 : FnIs Tryd.prog 78 8 [2] (cOk kn) := fnIs_of Tryd.func78 (by kernel_rfl) (by kernel_rfl) (by kernel_rfl) (by kernel_rfl) -- (*pub-kmsg/pub/kmsg/inner/kbin.Reader).Ok
theorem fn72 : FnIs Tryd.prog 72 8 [2] (cComplete kn) := fnIs_of Tryd.func72 (by kernel_rfl) (by kernel_rfl) (by kernel_rfl) (by kernel_rfl) -- (*pub-kmsg/pub/kmsg/inner/kbin.Reader).Complete
theorem fn104 : FnIs Tryd.prog 104 40 [4] (cSpan kn) := fnIs_of Tryd.func104 (by kernel_rfl) (by kernel_rfl) (by kernel_rfl) (by kernel_rfl) -- (*pub-kmsg/pub/kmsg/inner/kbin.Reader).Span
theorem fn76 : FnIs Tryd.prog 76 11 [2] (cStr numbers kn) := fnIs_of Tryd.func76 (by kernel_rfl) (by kernel_rfl) (by kernel_rfl) (by kernel_rfl) -- (*pub-kmsg/pub/kmsg/inner/kbin.Reader).String
theorem fn86 : FnIs Tryd.prog 86 12 [2] (cCStr numbers kn) := fnIs_of Tryd.func86 (by kernel_rfl) (by kernel_rfl) (by kernel_rfl) (by kernel_rfl) -- (*pub-kmsg/pub/kmsg/inner/kbin.Reader).CompactString
theorem fn84 : FnIs Tryd.prog 84 14 [2] (cNStr numbers kn) := fnIs_of Tryd.func84 (by kernel_rfl) (by kernel_rfl) (by kernel_rfl) (by kernel_rfl) -- (*pub-kmsg/pub/kmsg/inner/kbin.Reader).NullableString
theorem fn82 : FnIs Tryd.prog 82 15 [2] (cCNStr numbers kn) := fnIs_of Tryd.func82 (by kernel_rfl) (by kernel_rfl) (by kernel_rfl) (by kernel_rfl) -- (*pub-kmsg/pub/kmsg/inner/kbin.Reader).CompactNullableString
theorem fn91 : FnIs Tryd.prog 91 13 [2] (cBytes numbers kn) := fnIs_of Tryd.func91 (by kernel_rfl) (by kernel_rfl) (by kernel_rfl) (by kernel_rfl) -- (*pub-kmsg/pub/kmsg/inner/kbin.Reader).Bytes
theorem fn90 : FnIs Tryd.prog 90 14 [2] (cCBytes numbers kn) := fnIs_of Tryd.func90 (by kernel_rfl) (by kernel_rfl) (by kernel_rfl) (by kernel_rfl) -- (*pub-kmsg/pub/kmsg/inner/kbin.Reader).CompactBytes
theorem fn80 : FnIs Tryd.prog 80 14 [2] (cNBytes numbers kn) := fnIs_of Tryd.func80 (by kernel_rfl) (by kernel_rfl) (by kernel_rfl) (by kernel_rfl) -- (*pub-kmsg/pub/kmsg/inner/kbin.Reader).NullableBytes
theorem fn77 : FnIs Tryd.prog 77 21 [2] (cLen numbers kn) := fnIs_of Tryd.func77 (by kernel_rfl) (by kernel_rfl) (by kernel_rfl) (by kernel_rfl) -- (*pub-kmsg/pub/kmsg/inner/kbin.Reader).ArrayLen
theorem fn88 : FnIs Tryd.prog 88 23 [2] (cCLen numbers kn) := fnIs_of Tryd.func88 (by kernel_rfl) (by kernel_rfl) (by kernel_rfl) (by kernel_rfl) -- (*pub-kmsg/pub/kmsg/inner/kbin.Reader).CompactArrayLen
theorem fn101 : FnIs Tryd.prog 101 18 [4] (gBig kn kn.tU16 .u16 2) := fnIs_of Tryd.func101 (by kernel_rfl) (by kernel_rfl) (by kernel_rfl) (by kernel_rfl) -- (encoding/binary.bigEndian).Uint16
theorem fn102 : FnIs Tryd.prog 102 30 [4] (gBig kn kn.tU32 .u32 4) := fnIs_of Tryd.func102 (by kernel_rfl) (by kernel_rfl) (by kernel_rfl) (by kernel_rfl) -- (encoding/binary.bigEndian).Uint32
theorem fn73 : FnIs Tryd.prog 73 13 [4] (cAU16 kn) := fnIs_of Tryd.func73 (by kernel_rfl) (by kernel_rfl) (by kernel_rfl) (by kernel_rfl) -- pub-kmsg/pub/kmsg/inner/kbin.AppendUint16
theorem fn74 : FnIs Tryd.prog 74 19 [4] (cAU32 kn) := fnIs_of Tryd.func74 (by kernel_rfl) (by kernel_rfl) (by kernel_rfl) (by kernel_rfl) -- pub-kmsg/pub/kmsg/inner/kbin.AppendUint32
theorem fn41 : FnIs Tryd.prog 41 9 [4] (cACv kn.tI16 kn.tU16 73) := fnIs_of Tryd.func41 (by kernel_rfl) (by kernel_rfl) (by kernel_rfl) (by kernel_rfl) -- pub-kmsg/pub/kmsg/inner/kbin.AppendInt16
theorem fn42 : FnIs Tryd.prog 42 9 [4] (cACv kn.tI32 kn.tU32 74) := fnIs_of Tryd.func42 (by kernel_rfl) (by kernel_rfl) (by kernel_rfl) (by kernel_rfl) -- pub-kmsg/pub/kmsg/inner/kbin.AppendInt32
theorem fn48 : FnIs Tryd.prog 48 9 [4] (cACv kn.tInt kn.tI32 42) := fnIs_of Tryd.func48 (by kernel_rfl) (by kernel_rfl) (by kernel_rfl) (by kernel_rfl) -- pub-kmsg/pub/kmsg/inner/kbin.AppendArrayLen
theorem fn56 : FnIs Tryd.prog 56 10 [4] (cACv1 kn 59) := fnIs_of Tryd.func56 (by kernel_rfl) (by kernel_rfl) (by kernel_rfl) (by kernel_rfl) -- pub-kmsg/pub/kmsg/inner/kbin.AppendCompactArrayLen
theorem fn55 : FnIs Tryd.prog 55 12 [4] (cABool kn) := fnIs_of Tryd.func55 (by kernel_rfl) (by kernel_rfl) (by kernel_rfl) (by kernel_rfl) -- pub-kmsg/pub/kmsg/inner/kbin.AppendBool
theorem fn45 : FnIs Tryd.prog 45 13 [4] (cAStr kn kn.tStr kn.tI16 41) := fnIs_of Tryd.func45 (by kernel_rfl) (by kernel_rfl) (by kernel_rfl) (by kernel_rfl) -- pub-kmsg/pub/kmsg/inner/kbin.AppendString
theorem fn54 : FnIs Tryd.prog 54 14 [4] (cACStr kn kn.tStr 59) := fnIs_of Tryd.func54 (by kernel_rfl) (by kernel_rfl) (by kernel_rfl) (by kernel_rfl) -- pub-kmsg/pub/kmsg/inner/kbin.AppendCompactString
theorem fn58 : FnIs Tryd.prog 58 13 [4] (cAStr kn kn.tSl kn.tI32 42) := fnIs_of Tryd.func58 (by kernel_rfl) (by kernel_rfl) (by kernel_rfl) (by kernel_rfl) -- pub-kmsg/pub/kmsg/inner/kbin.AppendBytes
theorem fn57 : FnIs Tryd.prog 57 14 [4] (cACStr kn kn.tSl 59) := fnIs_of Tryd.func57 (by kernel_rfl) (by kernel_rfl) (by kernel_rfl) (by kernel_rfl) -- pub-kmsg/pub/kmsg/inner/kbin.AppendCompactBytes
theorem fn53 : FnIs Tryd.prog 53 14 [4] (cANStr kn 86 (.int .i16 (-1)) 41 45) := fnIs_of Tryd.func53 (by kernel_rfl) (by kernel_rfl) (by kernel_rfl) (by kernel_rfl) -- pub-kmsg/pub/kmsg/inner/kbin.AppendNullableString
theorem fn52 : FnIs Tryd.prog 52 14 [4] (cANStr kn 86 (.int .u32 0) 59 54) := fnIs_of Tryd.func52 (by kernel_rfl) (by kernel_rfl) (by kernel_rfl) (by kernel_rfl) -- pub-kmsg/pub/kmsg/inner/kbin.AppendCompactNullableString
theorem fn49 : FnIs Tryd.prog 49 12 [4] (cANBytes kn (.int .i32 (-1)) 42 58) := fnIs_of Tryd.func49 (by kernel_rfl) (by kernel_rfl) (by kernel_rfl) (by kernel_rfl) -- pub-kmsg/pub/kmsg/inner/kbin.AppendNullableBytes
theorem fn59 : FnIs Tryd.prog 59 93 [4] (cAUv kn 93) := fnIs_of Tryd.func59 (by kernel_rfl) (by kernel_rfl) (by kernel_rfl) (by kernel_rfl) -- pub-kmsg/pub/kmsg/inner/kbin.AppendUvarint
theorem fn93 : FnIs Tryd.prog 93 8 [2] (cUvLen kn 107) := fnIs_of Tryd.func93 (by kernel_rfl) (by kernel_rfl) (by kernel_rfl) (by kernel_rfl) -- pub-kmsg/pub/kmsg/inner/kbin.UvarintLen
theorem fn107 : FnIs Tryd.prog 107 19 [2] (cLen32 kn 68) := fnIs_of Tryd.func107 (by kernel_rfl) (by kernel_rfl) (by kernel_rfl) (by kernel_rfl) -- math/bits.Len32
theorem fn60 : FnIs Tryd.prog 60 8 [2] (cTLen kn 90 88) := fnIs_of Tryd.func60 (by kernel_rfl) (by kernel_rfl) (by kernel_rfl) (by kernel_rfl) -- (*pub-kmsg/pub/kmsg.Tags).Len
theorem fn23 : FnIs Tryd.prog 23 8 [4] (cRdF 40) := fnIs_of Tryd.func23 (by kernel_rfl) (by kernel_rfl) (by kernel_rfl) (by kernel_rfl) -- (*pub-kmsg/pub/kmsg.EndTxnMarker).ReadFrom
theorem fn26 : FnIs Tryd.prog 26 8 [4] (cRdF 44) := fnIs_of Tryd.func26 (by kernel_rfl) (by kernel_rfl) (by kernel_rfl) (by kernel_rfl) -- (*pub-kmsg/pub/kmsg.OffsetCommitKey).ReadFrom
theorem fn30 : FnIs Tryd.prog 30 8 [4] (cRdF 47) := fnIs_of Tryd.func30 (by kernel_rfl) (by kernel_rfl) (by kernel_rfl) (by kernel_rfl) -- (*pub-kmsg/pub/kmsg.ConsumerMemberAssignment).ReadFrom
theorem fn32 : FnIs Tryd.prog 32 3 [0] (cNewPtr 92 50) := fnIs_of Tryd.func32 (by kernel_rfl) (by kernel_rfl) (by kernel_rfl) (by kernel_rfl) -- pub-kmsg/pub/kmsg.NewPtrJoinGroupResponse
theorem fn34 : FnIs Tryd.prog 34 8 [] (cSetV 92 48) := fnIs_of Tryd.func34 (by kernel_rfl) (by kernel_rfl) (by kernel_rfl) (by kernel_rfl) -- (*pub-kmsg/pub/kmsg.JoinGroupResponse).SetVersion
theorem fn35 : FnIs Tryd.prog 35 8 [4] (cRdF 51) := fnIs_of Tryd.func35 (by kernel_rfl) (by kernel_rfl) (by kernel_rfl) (by kernel_rfl) -- (*pub-kmsg/pub/kmsg.JoinGroupResponse).ReadFrom
theorem fn16 : FnIs Tryd.prog 16 4 [0] (cMax 48 3 32 33) := fnIs_of Tryd.func16 (by kernel_rfl) (by kernel_rfl) (by kernel_rfl) (by kernel_rfl) -- pub-kmsg/impl.MaxJoinGroupResponse
theorem fn33 : FnIs Tryd.prog 33 3 [2] (cMaxV 9) := fnIs_of Tryd.func33 (by kernel_rfl) (by kernel_rfl) (by kernel_rfl) (by kernel_rfl) -- (*pub-kmsg/pub/kmsg.JoinGroupResponse).MaxVersion
theorem fn17 : FnIs Tryd.prog 17 19 [4, 5] (cAgain 48 3 22 53 32 34 35 36) := fnIs_of Tryd.func17 (by kernel_rfl) (by kernel_rfl) (by kernel_rfl) (by kernel_rfl) -- pub-kmsg/impl.AgainJoinGroupResponse
theorem fn6 : FnIs Tryd.prog 6 43 [4] (cAny 22 3 4 16 18 17 13) := fnIs_of Tryd.func6 (by kernel_rfl) (by kernel_rfl) (by kernel_rfl) (by kernel_rfl) -- pub-kmsg/laws.FnAnyJoinGroupResponse
theorem fn18 : FnIs Tryd.prog 18 10 [4] (cVer 5 3) := fnIs_of Tryd.func18 (by kernel_rfl) (by kernel_rfl) (by kernel_rfl) (by kernel_rfl) -- pub-kmsg/laws.version
theorem fn13 : FnIs Tryd.prog 13 26 [4] (cSame 22 5 3) := fnIs_of Tryd.func13 (by kernel_rfl) (by kernel_rfl) (by kernel_rfl) (by kernel_rfl) -- pub-kmsg/spec.Same
theorem fn44 : FnIs Tryd.prog 44 47 [6] (gRead numbers false true ⟨false, 7, 9, 8, 0⟩ fsOffsetCommitKey 43 57 0 0 13 nmOffsetCommitKey) := fnIs_of Tryd.func44 (by kernel_rfl) (by kernel_rfl) (by kernel_rfl) (by kernel_rfl) -- (*pub-kmsg/pub/kmsg.OffsetCommitKey).readFrom
theorem fn27 : FnIs Tryd.prog 27 44 [4] (gWrite numbersW true ⟨false, 0, 0, 5, 0⟩ fsOffsetCommitKey 57 0 0 6 10 nwOffsetCommitKey) := fnIs_of Tryd.func27 (by kernel_rfl) (by kernel_rfl) (by kernel_rfl) (by kernel_rfl) -- (*pub-kmsg/pub/kmsg.OffsetCommitKey).AppendTo
def di43 : List DI := []
theorem fn43 : FnIs Tryd.prog 43 2 [] (gDflt di43 2) := fnIs_of Tryd.func43 (by kernel_rfl) (by kernel_rfl) (by kernel_rfl) (by kernel_rfl) -- (*pub-kmsg/pub/kmsg.OffsetCommitKey).Default
noncomputable def dw43 : List (Nat × Value) := (dRun Tryd.prog 2 di43 [(0, 0)]).getD []
theorem df43 : Ent Tryd.prog 43 ∧ DfC Tryd.prog 43 dw43 := dfC_of (n0 := 2) (items := di43) (by kernel_rfl) fn43 (by kernel_rfl) (of_decide_eq_true (by kernel_rfl)) (by omega)
noncomputable def dd : Nat → Option (List (Nat × Value))
  | 43 => some dw43
  | _ => none
theorem ddOk : ∀ f wr, dd f = some wr → Ent Tryd.prog f ∧ DfC Tryd.prog f wr := by
  intro f wr h
  unfold dd at h
  split at h
  · obtain rfl := Option.some.inj h; exact df43
  · cases h
theorem kt : KT Tryd.prog numbers kn where
  mixed := mixed
  f0 := fldB_ok (by kernel_rfl)
  f1 := fldB_ok (by kernel_rfl)
  sl := by kernel_rfl
  u8 := varB_ok (by kernel_rfl)
  dU8 := by kernel_rfl
  dI8 := fun h => absurd h (by decide)
  dI16 := by kernel_rfl
  dI32 := by kernel_rfl
  dU32 := by kernel_rfl
  dInt := by kernel_rfl
theorem kbig : KBig Tryd.prog kn where
  be := varB_ok (by kernel_rfl)
  d16 := by kernel_rfl
  d64 := fun h => absurd h (by decide)
  dI64 := fun h => absurd h (by decide)
  f16 := fun _ => fn101
  f32 := fun _ => fn102
  f64 := fun h => absurd h (by decide)
theorem ksub : KSub Tryd.prog numbers kn kn.tRS where
  e16 := fun _ => fn70.ent
  c16 := fun _ w S R r hR hRS => (i16_calls kt kbig rfl fn70 (by omega) hR hRS).mono fun e w' h => (fun h => ⟨h.1, h.2.1, h.2.2.1⟩) (rdOk_int (p := .i16) (.inr (.inl ⟨rfl, rfl⟩)) rfl h)
  e32 := fun _ => fn71.ent
  c32 := fun _ w S R r hR hRS => (i32_calls kt kbig rfl fn71 (by omega) hR hRS).mono fun e w' h => (fun h => ⟨h.1, h.2.1, h.2.2.1⟩) (rdOk_int (p := .i32) (.inr (.inr (.inl ⟨rfl, rfl⟩))) rfl h)
  eU := fun _ => fn105.ent
  cU := fun _ w S R r hR hRS => uv_calls kt fn110 (by omega) fn105 (by omega) hR hRS
  eS := fun _ => fn104.ent
  cS := fun _ w S R r k hR hRS => span_calls kt fn104 (by omega) hR hRS
  dStr := by kernel_rfl
  vStr := varB_ok (by kernel_rfl)
  zStr := zeroOf_ok (by kernel_rfl)
def av : PF → Bool
  | .bool => true
  | .i16 => true
  | .i32 => true
  | .str => true
  | .cstr => true
  | .nstr => true
  | .cnstr => true
  | .bytes => true
  | .cbytes => true
  | .nbytes => true
  | _ => false
theorem rdAll : ∀ p, av p = true → RdOk Tryd.prog numbers.tR p (numbers.rd p) := by
  intro p h
  cases p
  · exact rdOk_bool kt fn87 (by omega)
  · cases h
  · exact rdOk_i16 kt kbig rfl fn70 (by omega)
  · cases h
  · exact rdOk_i32 kt kbig rfl fn71 (by omega)
  · cases h
  · cases h
  · exact rdOk_str kt ksub rfl rfl fn76 (by omega)
  · exact rdOk_cstr kt ksub rfl rfl fn86 (by omega)
  · exact rdOk_nstr kt ksub rfl rfl fn84 (by omega)
  · exact rdOk_cnstr kt ksub rfl rfl fn82 (by omega)
  · exact rdOk_bytes kt ksub rfl rfl fn91 (by omega)
  · exact rdOk_cbytes kt ksub rfl rfl fn90 (by omega)
  · exact rdOk_nbytes kt ksub rfl rfl fn80 (by omega)
  · cases h
theorem kb : KB Tryd.prog numbers av false where
  mixed := mixed
  rdE p h := (rdAll p h).1
  rdC p h := (rdAll p h).2
  i8C := fun h => absurd h (by decide)
  okE := fun _ => fn78.ent
  okC := fun _ w S R r hR => ok_calls kt fn78 (by omega) hR
  cmE := fn72.ent
  cmC w S R r hR he := complete_calls kt fn72 (by omega) (varB_ok (by kernel_rfl)) hR he
  lenE := fun _ => fn77.ent
  lenC := fun _ w S R r hR hRS => len_calls kt ksub rfl fn77 (by omega) hR hRS
  clenE := fun h => absurd h (by decide)
  clenC := fun h => absurd h (by decide)
  uvE := fun h => absurd h (by decide)
  uvC := fun h => absurd h (by decide)
  spanE := fun h => absurd h (by decide)
  spanC := fun h => absurd h (by decide)
  tagsE := fun h => absurd h (by decide)
  tagsC := fun h => absurd h (by decide)
  setE := fun h => absurd h (by decide)
  setC := fun h => absurd h (by decide)
  fR := twoB_ok (by kernel_rfl)
  zR := zeroOf_ok (by kernel_rfl)
  vR := varB_ok (by kernel_rfl)
  uuid := fun h => absurd h (by decide)
  tI32 := by kernel_rfl
  tU32 := fun h => absurd h (by decide)
  tInt := by kernel_rfl
  vStr := ⟨varB_ok (by kernel_rfl), zeroOf_ok (by kernel_rfl)⟩
  vTags := fun h => absurd h (by decide)
  tErr := fun h => absurd h (by decide)
theorem env : Env Tryd.prog numbers av false dd := ⟨kb, ddOk⟩
theorem oct : OctT Tryd.prog kn.tSl kn.tU8 := octB_ok (by kernel_rfl)
theorem wt : WT Tryd.prog kn where
  mixed := mixed
  oct := oct
  dU8 := by kernel_rfl
  dI8 := fun h => absurd h (by decide)
  dI16 := by kernel_rfl
  dU16 := fun _ => by kernel_rfl
  dI32 := by kernel_rfl
  dU32 := by kernel_rfl
  dInt := by kernel_rfl
  dI64 := fun _ => by kernel_rfl
  dU64 := fun _ => by kernel_rfl
  dStr := by kernel_rfl
  vStr := varB_ok (by kernel_rfl)
theorem uvC (x : Nat) (w : World) (h : x < 4294967296) : ApC Tryd.prog kn.tU8 numbersW.uv (.int .u32 x) (uvar x) w := ap_uv wt (by kernel_rfl) fn107 (by omega) fn93 (by omega) fn59 (by omega) h w
theorem i16C (x : Int) (w : World) : ApC Tryd.prog kn.tU8 41 (.int .i16 x) (be 2 x) w := ap_i16 wt rfl fn73 (by omega) fn41 (by omega) x w
theorem i32C (x : Int) (w : World) : ApC Tryd.prog kn.tU8 42 (.int .i32 x) (be 4 x) w := ap_i32 wt fn74 (by omega) fn42 (by omega) x w
def avw : PF → Bool
  | .bool => true
  | .i16 => true
  | .u16 => true
  | .i32 => true
  | .str => true
  | .cstr => true
  | .nstr => true
  | .cnstr => true
  | .bytes => true
  | .cbytes => true
  | .nbytes => true
  | _ => false
theorem apAll : ∀ p, avw p = true → AppOk Tryd.prog kn.tU8 p (numbersW.ap p) := by
  intro p h
  cases p
  · exact app_bool wt fn55 (by omega)
  · cases h
  · exact app_i16 wt rfl fn73 (by omega) fn41 (by omega)
  · exact app_u16 wt rfl fn73 (by omega)
  · exact app_i32 wt fn74 (by omega) fn42 (by omega)
  · cases h
  · cases h
  · exact app_str wt (app_i16 wt rfl fn73 (by omega) fn41 (by omega)) i16C fn45 (by omega)
  · exact app_cstr wt fn59.ent (fun x w h => uvC x w h) fn54 (by omega)
  · exact app_nstr wt (fx := false) rfl (by kernel_rfl) fn41.ent (fun w => i16C (-1) w) (app_str wt (app_i16 wt rfl fn73 (by omega) fn41 (by omega)) i16C fn45 (by omega)) fn53 (by omega)
  · exact app_nstr wt (fx := true) rfl (by kernel_rfl) fn59.ent (fun w => uvC 0 w (by omega)) (app_cstr wt fn59.ent (fun x w h => uvC x w h) fn54 (by omega)) fn52 (by omega)
  · exact app_bytes wt fn42.ent i32C fn58 (by omega)
  · exact app_cbytes wt fn59.ent (fun x w h => uvC x w h) fn57 (by omega)
  · exact app_nbytes wt (fx := false) rfl fn42.ent (fun w => i32C (-1) w) (app_bytes wt fn42.ent i32C fn58 (by omega)) fn49 (by omega)
  · cases h
theorem kw : KW Tryd.prog numbersW avw false false kn.tU8 where
  mixed := mixed
  oct := oct
  dInt := by kernel_rfl
  dU32 := fun h => absurd h (by decide)
  apE p h := (apAll p h).1
  apC p h := (apAll p h).2
  alE := fun _ => fn48.ent
  alC := fun _ n w => ap_len wt fn42.ent i32C fn48 (by omega) n w
  clE := fun h => absurd h (by decide)
  clC := fun h => absurd h (by decide)
  nlE := fun h => absurd h (by decide)
  nlC := fun h => absurd h (by decide)
  cnE := fun h => absurd h (by decide)
  cnC := fun h => absurd h (by decide)
  uvE := fun h => absurd h (by decide)
  uvC := fun h => absurd h (by decide)
  tlE := fun h => absurd h (by decide)
  tlC := fun h => absurd h (by decide)
  teE := fun h => absurd h (by decide)
  teC := fun h => absurd h (by decide)
  uuid := fun h => absurd h (by decide)
noncomputable def zv : Value := (zeroOf Tryd.prog 57).getD undef
noncomputable def zz : Array Value := applyWr zv.cells 0 dw43
def sn : SN := { tInt := 3, tI64 := 2, tU8 := 5, tU64 := 105, tU32 := 68, tU16 := 27, tB := 4, tSl := 22, tF := 47, tFs := 30, tT := 26, tTs := 23, tG := 70, tGs := 24, tMs := 32, fPart := 38, fHas := 62, fField := 63, fAt := 64, fKnown := 65, fUsual := 66, fUv := 67, fUnk := 68, fWhole := 69, fNull := 96, fThings := 97, fCnt := 98, fVal := 99, fFix := 20, fWid := 100, fWrite := 21, fSame := 13, fZ2 := 7, fZ3 := 19, fZ4 := 37 }
theorem sf_fPart : FnIs Tryd.prog sn.fPart 132 [8] (csPt sn) := fnIs_of Tryd.func38 (by kernel_rfl) (by kernel_rfl) (by kernel_rfl) (by kernel_rfl)
theorem sf_fHas : FnIs Tryd.prog sn.fHas 20 [4] (csHs sn) := fnIs_of Tryd.func62 (by kernel_rfl) (by kernel_rfl) (by kernel_rfl) (by kernel_rfl)
theorem sf_fField : FnIs Tryd.prog sn.fField 76 [8] (csFl sn) := fnIs_of Tryd.func63 (by kernel_rfl) (by kernel_rfl) (by kernel_rfl) (by kernel_rfl)
theorem sf_fAt : FnIsC Tryd.prog sn.fAt 16 4 26 (csAt sn) := fnIsC_of Tryd.func64 (by kernel_rfl) (by kernel_rfl) (by kernel_rfl) (by kernel_rfl)
theorem sf_fKnown : FnIs Tryd.prog sn.fKnown 23 [2] (csKw sn) := fnIs_of Tryd.func65 (by kernel_rfl) (by kernel_rfl) (by kernel_rfl) (by kernel_rfl)
theorem sf_fUv : FnIs Tryd.prog sn.fUv 20 [2] (csUvr sn) := fnIs_of Tryd.func67 (by kernel_rfl) (by kernel_rfl) (by kernel_rfl) (by kernel_rfl)
theorem sf_fUnk : FnIs Tryd.prog sn.fUnk 85 [4] (csUn sn) := fnIs_of Tryd.func68 (by kernel_rfl) (by kernel_rfl) (by kernel_rfl) (by kernel_rfl)
theorem sf_fWhole : FnIs Tryd.prog sn.fWhole 8 [2] (csWh sn) := fnIs_of Tryd.func69 (by kernel_rfl) (by kernel_rfl) (by kernel_rfl) (by kernel_rfl)
theorem sf_fNull : FnIs Tryd.prog sn.fNull 20 [6] (csNu sn) := fnIs_of Tryd.func96 (by kernel_rfl) (by kernel_rfl) (by kernel_rfl) (by kernel_rfl)
theorem sf_fThings : FnIs Tryd.prog sn.fThings 8 [2] (csTh sn) := fnIs_of Tryd.func97 (by kernel_rfl) (by kernel_rfl) (by kernel_rfl) (by kernel_rfl)
theorem sf_fCnt : FnIs Tryd.prog sn.fCnt 28 [8] (csCn sn) := fnIs_of Tryd.func98 (by kernel_rfl) (by kernel_rfl) (by kernel_rfl) (by kernel_rfl)
theorem sf_fVal : FnIs Tryd.prog sn.fVal 70 [12] (csVa sn) := fnIs_of Tryd.func99 (by kernel_rfl) (by kernel_rfl) (by kernel_rfl) (by kernel_rfl)
theorem sf_fFix : FnIs Tryd.prog sn.fFix 22 [4] (csFi sn) := fnIs_of Tryd.func20 (by kernel_rfl) (by kernel_rfl) (by kernel_rfl) (by kernel_rfl)
theorem sf_fWid : FnIs Tryd.prog sn.fWid 11 [2] (csWd sn) := fnIs_of Tryd.func100 (by kernel_rfl) (by kernel_rfl) (by kernel_rfl) (by kernel_rfl)
theorem sf_fWrite : FnIs Tryd.prog sn.fWrite 21 [6] (csWr sn) := fnIs_of Tryd.func21 (by kernel_rfl) (by kernel_rfl) (by kernel_rfl) (by kernel_rfl)
theorem sf_fZ2 : FnIs Tryd.prog sn.fZ2 15 [2] (csZ2 sn) := fnIs_of Tryd.func7 (by kernel_rfl) (by kernel_rfl) (by kernel_rfl) (by kernel_rfl)
theorem sf_fZ3 : FnIs Tryd.prog sn.fZ3 18 [2] (csZ3 sn) := fnIs_of Tryd.func19 (by kernel_rfl) (by kernel_rfl) (by kernel_rfl) (by kernel_rfl)
theorem sf_fZ4 : FnIs Tryd.prog sn.fZ4 7 [2] (csZ4 sn) := fnIs_of Tryd.func37 (by kernel_rfl) (by kernel_rfl) (by kernel_rfl) (by kernel_rfl)
theorem rt : RefT Tryd.prog sn where
  mixed := mixed
  dInt := by kernel_rfl
  dI64 := by kernel_rfl
  dU8 := by kernel_rfl
  dU32 := by kernel_rfl
  dU64 := by kernel_rfl
  oct := oct
  dTs := by kernel_rfl
  dGs := by kernel_rfl
  dFs := by kernel_rfl
  vI64 := varB_ok (by kernel_rfl)
  vU8 := varB_ok (by kernel_rfl)
  vT := varB_ok (by kernel_rfl)
  vF := varB_ok (by kernel_rfl)
  vG := varB_ok (by kernel_rfl)
  vM := varB_ok (by kernel_rfl)
  t0 := fldB_ok (by kernel_rfl)
  t1 := fldB_ok (by kernel_rfl)
  t2 := fldB_ok (by kernel_rfl)
  t3 := fldB_ok (by kernel_rfl)
  t4 := fldB_ok (by kernel_rfl)
  f0 := fldB_ok (by kernel_rfl)
  f1 := fldB_ok (by kernel_rfl)
  f2 := fldB_ok (by kernel_rfl)
  f3 := fldB_ok (by kernel_rfl)
  f4 := fldB_ok (by kernel_rfl)
  f5 := fldB_ok (by kernel_rfl)
  f6 := fldB_ok (by kernel_rfl)
  f7 := fldB_ok (by kernel_rfl)
  g0 := fldB_ok (by kernel_rfl)
  g1 := fldB_ok (by kernel_rfl)
  m0 := fldB_ok (by kernel_rfl)
  m1 := fldB_ok (by kernel_rfl)
  zT := zeroOf_ok (by kernel_rfl)
  zF := zeroOf_ok (by kernel_rfl)
  zG := zeroOf_ok (by kernel_rfl)
  zM := zeroOf_ok (by kernel_rfl)
  z8 := z8_ok (by kernel_rfl)
  bT := fun w => by kernel_rfl
  bG := fun w => by kernel_rfl
  bSG := fun w => by kernel_rfl
  iG := iG_ok (by kernel_rfl)

theorem leaf : LeafC Tryd.prog sn := leafC_of rt (varB_ok (by kernel_rfl)) sf_fUv sf_fFix sf_fCnt sf_fWid sf_fWhole sf_fThings sf_fHas sf_fNull sf_fKnown sf_fAt sf_fUnk
theorem trees : TreT Tryd.prog sn where
  tab := rt
  cT := by kernel_rfl
  cG := by kernel_rfl
  cI := by kernel_rfl
  cSl := by kernel_rfl
  cB := by kernel_rfl
  cTs := by kernel_rfl
  cGs := by kernel_rfl
  cU := by kernel_rfl
  c8 := by kernel_rfl
  dB := by kernel_rfl
  nT := by kernel_rfl
  nG := by kernel_rfl

def itM : List BI := [([(0, 8), (2, -1), (3, -1), (4, -1)], none), ([(0, 8), (2, -1), (3, -1), (4, -1)], none), ([(0, 3), (2, -1), (3, -1), (4, -1)], none)]
def ssM : SFs := .cons 8 0 (-1) (-1) (-1) 0 0 .nil (.cons 8 0 (-1) (-1) (-1) 0 0 .nil (.cons 3 0 (-1) (-1) (-1) 0 0 .nil (.nil)))
theorem fiM : FnIsC Tryd.prog 12 6 0 sn.tMs (cMsgB sn (-1) itM) := fnIsC_of Tryd.func12 (by kernel_rfl) (by kernel_rfl) (by kernel_rfl) (by kernel_rfl)
theorem sbM : Ent Tryd.prog 12 ∧ MsgBC Tryd.prog 12 (-1) ssM := msgb_calls rt (fun x base n c w => by kernel_rfl) fiM (of_decide_eq_true (by kernel_rfl)) ⟨fun w => by kernel_rfl, rfl, ⟨fun w => by kernel_rfl, rfl, ⟨fun w => by kernel_rfl, rfl, trivial⟩⟩⟩ (fun sv w => by kernel_rfl) rfl (of_decide_eq_true (by kernel_rfl))
def ke : KE := { fK := 8, fB := 12, fA := 11, fN := 25, fRd := 26, fAp := 27, fDf := 43, tM := 57, tE := 53, most := 1 }
theorem kmsg : KeptC Tryd.prog numbers.gErr kn.tU8 false 0 fsOffsetCommitKey (none) 57 zz 26 27 :=
  keptC_of (cx := ⟨false, 7, 9, 8, 0⟩) (cw := ⟨false, 0, 0, 5, 0⟩) (nm := nmOffsetCommitKey) (ms := nwOffsetCommitKey) env kw (by decide) (by decide) rfl rfl fn26 (by omega) fn44 (by omega) fn27 (by kernel_rfl) rfl (by kernel_rfl) (by kernel_rfl)
theorem fiN : FnIsC Tryd.prog 25 4 0 57 (cNwv sn ke) := fnIsC_of Tryd.func25 (by kernel_rfl) (by kernel_rfl) (by kernel_rfl) (by kernel_rfl)
theorem fiA : FnIs Tryd.prog 11 11 [2, 3] (cAgk sn ke) := fnIs_of Tryd.func11 (by kernel_rfl) (by kernel_rfl) (by kernel_rfl) (by kernel_rfl)
theorem fiK : FnIs Tryd.prog 8 14 [6] (cKep sn ke) := fnIs_of Tryd.func8 (by kernel_rfl) (by kernel_rfl) (by kernel_rfl) (by kernel_rfl)
theorem fnL : FnIs Tryd.prog 4 45 [2] (cLnk sn ke) := fnIs_of Tryd.func4 (by kernel_rfl) (by kernel_rfl) (by kernel_rfl) (by kernel_rfl)
theorem zvOk : ∀ w, (zeroValue 57).run Tryd.prog w = .ok zv w := zeroOf_ok (by kernel_rfl)
theorem vMk : VarIs Tryd.prog 57 true 4 := varB_ok (by kernel_rfl)
theorem oneK : ∀ u ∈ zz.toList, u.oneCell' = true := fun u hu => List.all_eq_true.1 (show (zz.toList.all Value.oneCell') = true by kernel_rfl) u hu
theorem nwc : NwC Tryd.prog ke.fN zz := nwv_calls (S := sn) (N := ke) (wr := dw43) mixed fiN zvOk df43.1 df43.2 (fun p hp => by simpa using List.all_eq_true.1 (show (dw43.all fun p => decide (p.1 < zv.cells.size)) = true by kernel_rfl) p hp) rfl vMk (by kernel_rfl) oneK (by kernel_rfl)
theorem lawC : LawK Tryd.prog sn ke numbers.gErr 1 (-1) ssM (fun l => againOut true false 0 fsOffsetCommitKey 0 l) (okInK false 0 fsOffsetCommitKey) :=
  lawK_of rt kmsg (ifaceB_ok (by kernel_rfl)) (.inl (by kernel_rfl)) rfl (by decide) fiA fiN.ent nwc vMk (by kernel_rfl) zvOk (by kernel_rfl) oneK (ntSm := 26) (.inr fn13) (by omega) sf_fZ4 sf_fZ3 sf_fZ2 sbM sf_fWrite sf_fPart.ent (ref_calls leaf sf_fPart sf_fField sf_fVal ssM (by kernel_rfl)).1 sf_fFix fiK
theorem law {W : World} {srcv : Value} {l : Bs} (hsrc : SlRp W (fun _ => False) srcv l) (herr : ErrAt numbers.gErr W) : Calls Tryd.prog 4 [srcv].toArray W (TrueC W) :=
  anyK_law lawC (by kernel_rfl) (by kernel_rfl) (by kernel_rfl) fnL hsrc herr (mxK_lim (by kernel_rfl) (by kernel_rfl) _ _ _)
end Go.Proofs.YthjaecnbgfohmadDoor.Kx
