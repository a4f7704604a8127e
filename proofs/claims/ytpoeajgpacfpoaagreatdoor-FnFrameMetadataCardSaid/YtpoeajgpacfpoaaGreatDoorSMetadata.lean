/-
  FnFrameMetadata: the numbers of the program, the code of its functions, and the law out of them.
-/
import Derived.Test.YtpoeajgpacfpoaaGreatDoorChecked
import Derived.Test.YtpoeajgpacfpoaaGreatDoorK1
import Derived.Test.YtpoeajgpacfpoaaGreatDoorK2
import Derived.Test.YtpoeajgpacfpoaaGreatDoorK3
import Derived.Test.YtpoeajgpacfpoaaGreatDoorK4
import Derived.Test.YtpoeajgpacfpoaaGreatDoorK5
import Derived.Test.YtpoeajgpacfpoaaGreatDoorK6
import Derived.Test.YtpoeajgpacfpoaaGreatDoorK7
import Derived.Test.YtpoeajgpacfpoaaGreatDoorK8
import Derived.Test.YtpoeajgpacfpoaaGreatDoorK9
import Derived.Test.YtpoeajgpacfpoaaGreatDoorK10
import Derived.Test.YtpoeajgpacfpoaaGreatDoorK11
import Derived.Test.YtpoeajgpacfpoaaGreatDoorK12
import Derived.Test.YtpoeajgpacfpoaaGreatDoorK13
import Derived.Test.YtpoeajgpacfpoaaGreatDoorK14
import Derived.Test.YtpoeajgpacfpoaaGreatDoorK15
import Derived.Test.YtpoeajgpacfpoaaGreatDoorK16
import Derived.Test.YtpoeajgpacfpoaaGreatDoorK17
import Derived.Test.YtpoeajgpacfpoaaGreatDoorK18
import Derived.Test.YtpoeajgpacfpoaaGreatDoorK19
import Derived.Test.YtpoeajgpacfpoaaGreatDoorK20
import Derived.Test.YtpoeajgpacfpoaaGreatDoorK21
import Derived.KernelRfl
import Derived.Test.YtpoeajgpacfpoaaGreatDoorSh
namespace Go.Proofs.YtpoeajgpacfpoaaGreatDoor.Kx
open Go Go.Proofs
set_option maxRecDepth 100000
def numbers : G := { rd := fun | .bool => 58 | .i8 => 999999 | .i16 => 67 | .u16 => 999999 | .i32 => 64 | .i64 => 999999 | .uuid => 48 | .str => 52 | .cstr => 50 | .nstr => 56 | .cnstr => 54 | .bytes => 999999 | .cbytes => 999999 | .nbytes => 999999 | .cnbytes => 999999, un := fun | .str => 51 | .cstr => 49 | .nstr => 55 | .cnstr => 53 | _ => 999999, len := 44, clen := 43, ok := 45, complete := 46, uv := 63, span := 65, tags := 57, set := 68, tR := 95, tUuid := 100, tVer := 41, tI8 := 999999, tI32 := 21, tU32 := 60, tInt := 3, tBool := 4, tErr := 55, tTags := 67, tSl := 24, tStr := 9, gErr := 0 }
def numbersW : GW := { ap := fun | .bool => 105 | .i8 => 999999 | .i16 => 60 | .u16 => 69 | .i32 => 61 | .i64 => 999999 | .uuid => 99 | .str => 71 | .cstr => 100 | .nstr => 62 | .cnstr => 101 | .bytes => 999999 | .cbytes => 999999 | .nbytes => 999999 | .cnbytes => 999999, alen := 98, calen := 97, nalen := 96, cnalen := 95, uv := 102, tlen := 103, teach := 104, tVer := 41, tInt := 3, tU32 := 60, tSl := 24, tUuid := 100 }
def kn : Kn := { tRS := 95, tSl := 24, tB := 4, tInt := 3, tU8 := 5, tI8 := 999999, tI16 := 41, tU16 := 123, tI32 := 21, tU32 := 60, tI64 := 2, tU64 := 76, tStr := 9, tUuid := 100, tBE := 129, tErr := 55, gBE := 1, gErr := 0, fU16 := 74, fU32 := 73, fU64 := 999999, fUv := 72, fR64 := 999999 }
theorem mixed : Tryz.prog.follows .mixedOrders = true := by kernel_rfl
def fsMetadataRequest : Fds := (.cons 0 none none (0) 1 (.list (some 1) 18 (.struct none (some 17) (.cons 10 none none (0) 0 (.prim .uuid) (.cons 0 none none (0) 16 (.str (some 10)) .nil)))) (.cons 4 none none (0) 2 (.prim .bool) (.cons 8 (some 10) none (0) 3 (.prim .bool) (.cons 8 none none (0) 4 (.prim .bool) .nil))))
def nmMetadataRequest : Nm := (.mk [] [(.mk [11, 69, 1, 64, 12, 13, 14, 0, 1] [(.mk [15, 16, 47, 103, 2] [(.mk [] [(.mk [17, 103, 0, 100] []), (.mk [18, 103, 1, 101, 19] [])])])]), (.mk [20, 69, 2, 4] []), (.mk [21, 69, 3, 4] []), (.mk [22, 69, 4, 4] [])])
def nwMetadataRequest : Nm := (.mk [] [(.mk [7, 69, 1, 64, 8, 0, 1] [(.mk [9, 103, 2] [(.mk [] [(.mk [10, 103, 0, 100] []), (.mk [11, 103, 1, 101, 12, 13, 101, 9] [])])])]), (.mk [14, 69, 2, 4] []), (.mk [15, 69, 3, 4] []), (.mk [16, 69, 4, 4] [])])
theorem fn58 : FnIs Tryz.prog 58 32 [2] (cBool kn) := fnIs_of Tryz.func58 (by kernel_rfl) (by kernel_rfl) (by kernel_rfl) (by kernel_rfl) -- (*pub-kmsg/pub/kmsg/inner/kbin.Reader).Bool
theorem fn67 : FnIs Tryz.prog 67 32 [2] (cI16 kn) := fnIs_of Tryz.func67 (by kernel_rfl) (by kernel_rfl) (by kernel_rfl) (by kernel_rfl) -- (*pub-kmsg/pub/kmsg/inner/kbin.Reader).Int16
theorem fn64 : FnIs Tryz.prog 64 32 [2] (cI32 kn) := fnIs_of Tryz.func64 (by kernel_rfl) (by kernel_rfl) (by kernel_rfl) (by kernel_rfl) -- (*pub-kmsg/pub/kmsg/inner/kbin.Reader).Int32
theorem fn72 : FnIs Tryz.prog 72 87 [2, 3] (cUvIn kn) := fnIs_of Tryz.func72 (by kernel_rfl) (by kernel_rfl) (by kernel_rfl) (by kernel_rfl) -- pub-kmsg/pub/kmsg/inner/kbin.Uvarint
theorem fn63 : FnIs Tryz.prog 63 31 [2] (cUv kn) := fnIs_of Tryz.func63 (by kernel_rfl) (by kernel_rfl) (by kernel_rfl) (by kernel_rfl) -- (*pub-kmsg/pub/kmsg/inner/kbin.Reader).Uvarint
theorem fn48 : FnIsC Tryz.prog 48 9 2 100 (cUuid numbers kn) := fnIsC_of Tryz.func48 (by kernel_rfl) (by kernel_rfl) (by kernel_rfl) (by kernel_rfl) -- (*pub-kmsg/pub/kmsg/inner/kbin.Reader).Uuid
theorem fn57 : FnIsC Tryz.prog 57 24 2 67 (cRdTags numbers kn) := fnIsC_of Tryz.func57 (by kernel_rfl) (by kernel_rfl) (by kernel_rfl) (by kernel_rfl) -- pub-kmsg/pub/kmsg.internalReadTags
theorem fn68 : FnIs Tryz.prog 68 21 [] (cSet numbers 65) := fnIs_of Tryz.func68 (by kernel_rfl) (by kernel_rfl) (by kernel_rfl) (by kernel_rfl) -- (*pub-kmsg/pub/kmsg.Tags).Set
theorem fn45 : FnIs Tryz.prog 45 8 [2] (cOk kn) := fnIs_of Tryz.func45 (by kernel_rfl) (by kernel_rfl) (by kernel_rfl) (by kernel_rfl) -- (*pub-kmsg/pub/kmsg/inner/kbin.Reader).Ok
theorem fn46 : FnIs Tryz.prog 46 8 [2] (cComplete kn) := fnIs_of Tryz.func46 (by kernel_rfl) (by kernel_rfl) (by kernel_rfl) (by kernel_rfl) -- (*pub-kmsg/pub/kmsg/inner/kbin.Reader).Complete
theorem fn65 : FnIs Tryz.prog 65 40 [4] (cSpan kn) := fnIs_of Tryz.func65 (by kernel_rfl) (by kernel_rfl) (by kernel_rfl) (by kernel_rfl) -- (*pub-kmsg/pub/kmsg/inner/kbin.Reader).Span
theorem fn52 : FnIs Tryz.prog 52 11 [2] (cStr numbers kn) := fnIs_of Tryz.func52 (by kernel_rfl) (by kernel_rfl) (by kernel_rfl) (by kernel_rfl) -- (*pub-kmsg/pub/kmsg/inner/kbin.Reader).String
theorem fn50 : FnIs Tryz.prog 50 12 [2] (cCStr numbers kn) := fnIs_of Tryz.func50 (by kernel_rfl) (by kernel_rfl) (by kernel_rfl) (by kernel_rfl) -- (*pub-kmsg/pub/kmsg/inner/kbin.Reader).CompactString
theorem fn56 : FnIs Tryz.prog 56 14 [2] (cNStr numbers kn) := fnIs_of Tryz.func56 (by kernel_rfl) (by kernel_rfl) (by kernel_rfl) (by kernel_rfl) -- (*pub-kmsg/pub/kmsg/inner/kbin.Reader).NullableString
theorem fn54 : FnIs Tryz.prog 54 15 [2] (cCNStr numbers kn) := fnIs_of Tryz.func54 (by kernel_rfl) (by kernel_rfl) (by kernel_rfl) (by kernel_rfl) -- (*pub-kmsg/pub/kmsg/inner/kbin.Reader).CompactNullableString
theorem fn44 : FnIs Tryz.prog 44 21 [2] (cLen numbers kn) := fnIs_of Tryz.func44 (by kernel_rfl) (by kernel_rfl) (by kernel_rfl) (by kernel_rfl) -- (*pub-kmsg/pub/kmsg/inner/kbin.Reader).ArrayLen
theorem fn43 : FnIs Tryz.prog 43 23 [2] (cCLen numbers kn) := fnIs_of Tryz.func43 (by kernel_rfl) (by kernel_rfl) (by kernel_rfl) (by kernel_rfl) -- (*pub-kmsg/pub/kmsg/inner/kbin.Reader).CompactArrayLen
theorem fn74 : FnIs Tryz.prog 74 18 [4] (gBig kn kn.tU16 .u16 2) := fnIs_of Tryz.func74 (by kernel_rfl) (by kernel_rfl) (by kernel_rfl) (by kernel_rfl) -- (encoding/binary.bigEndian).Uint16
theorem fn73 : FnIs Tryz.prog 73 30 [4] (gBig kn kn.tU32 .u32 4) := fnIs_of Tryz.func73 (by kernel_rfl) (by kernel_rfl) (by kernel_rfl) (by kernel_rfl) -- (encoding/binary.bigEndian).Uint32
theorem fn69 : FnIs Tryz.prog 69 13 [4] (cAU16 kn) := fnIs_of Tryz.func69 (by kernel_rfl) (by kernel_rfl) (by kernel_rfl) (by kernel_rfl) -- pub-kmsg/pub/kmsg/inner/kbin.AppendUint16
theorem fn70 : FnIs Tryz.prog 70 19 [4] (cAU32 kn) := fnIs_of Tryz.func70 (by kernel_rfl) (by kernel_rfl) (by kernel_rfl) (by kernel_rfl) -- pub-kmsg/pub/kmsg/inner/kbin.AppendUint32
theorem fn60 : FnIs Tryz.prog 60 9 [4] (cACv kn.tI16 kn.tU16 69) := fnIs_of Tryz.func60 (by kernel_rfl) (by kernel_rfl) (by kernel_rfl) (by kernel_rfl) -- pub-kmsg/pub/kmsg/inner/kbin.AppendInt16
theorem fn61 : FnIs Tryz.prog 61 9 [4] (cACv kn.tI32 kn.tU32 70) := fnIs_of Tryz.func61 (by kernel_rfl) (by kernel_rfl) (by kernel_rfl) (by kernel_rfl) -- pub-kmsg/pub/kmsg/inner/kbin.AppendInt32
theorem fn98 : FnIs Tryz.prog 98 9 [4] (cACv kn.tInt kn.tI32 61) := fnIs_of Tryz.func98 (by kernel_rfl) (by kernel_rfl) (by kernel_rfl) (by kernel_rfl) -- pub-kmsg/pub/kmsg/inner/kbin.AppendArrayLen
theorem fn97 : FnIs Tryz.prog 97 10 [4] (cACv1 kn 102) := fnIs_of Tryz.func97 (by kernel_rfl) (by kernel_rfl) (by kernel_rfl) (by kernel_rfl) -- pub-kmsg/pub/kmsg/inner/kbin.AppendCompactArrayLen
theorem fn105 : FnIs Tryz.prog 105 12 [4] (cABool kn) := fnIs_of Tryz.func105 (by kernel_rfl) (by kernel_rfl) (by kernel_rfl) (by kernel_rfl) -- pub-kmsg/pub/kmsg/inner/kbin.AppendBool
theorem fn99 : FnIs Tryz.prog 99 8 [4] (cAUuid kn) := fnIs_of Tryz.func99 (by kernel_rfl) (by kernel_rfl) (by kernel_rfl) (by kernel_rfl) -- pub-kmsg/pub/kmsg/inner/kbin.AppendUuid
theorem fn71 : FnIs Tryz.prog 71 13 [4] (cAStr kn kn.tStr kn.tI16 60) := fnIs_of Tryz.func71 (by kernel_rfl) (by kernel_rfl) (by kernel_rfl) (by kernel_rfl) -- pub-kmsg/pub/kmsg/inner/kbin.AppendString
theorem fn100 : FnIs Tryz.prog 100 14 [4] (cACStr kn kn.tStr 102) := fnIs_of Tryz.func100 (by kernel_rfl) (by kernel_rfl) (by kernel_rfl) (by kernel_rfl) -- pub-kmsg/pub/kmsg/inner/kbin.AppendCompactString
theorem fn62 : FnIs Tryz.prog 62 14 [4] (cANStr kn 101 (.int .i16 (-1)) 60 71) := fnIs_of Tryz.func62 (by kernel_rfl) (by kernel_rfl) (by kernel_rfl) (by kernel_rfl) -- pub-kmsg/pub/kmsg/inner/kbin.AppendNullableString
theorem fn101 : FnIs Tryz.prog 101 14 [4] (cANStr kn 101 (.int .u32 0) 102 100) := fnIs_of Tryz.func101 (by kernel_rfl) (by kernel_rfl) (by kernel_rfl) (by kernel_rfl) -- pub-kmsg/pub/kmsg/inner/kbin.AppendCompactNullableString
theorem fn96 : FnIs Tryz.prog 96 14 [6] (cANLen kn 61) := fnIs_of Tryz.func96 (by kernel_rfl) (by kernel_rfl) (by kernel_rfl) (by kernel_rfl) -- pub-kmsg/pub/kmsg/inner/kbin.AppendNullableArrayLen
theorem fn95 : FnIs Tryz.prog 95 15 [6] (cACNLen kn 102) := fnIs_of Tryz.func95 (by kernel_rfl) (by kernel_rfl) (by kernel_rfl) (by kernel_rfl) -- pub-kmsg/pub/kmsg/inner/kbin.AppendCompactNullableArrayLen
theorem fn102 : FnIs Tryz.prog 102 93 [4] (cAUv kn 106) := fnIs_of Tryz.func102 (by kernel_rfl) (by kernel_rfl) (by kernel_rfl) (by kernel_rfl) -- pub-kmsg/pub/kmsg/inner/kbin.AppendUvarint
theorem fn106 : FnIs Tryz.prog 106 8 [2] (cUvLen kn 109) := fnIs_of Tryz.func106 (by kernel_rfl) (by kernel_rfl) (by kernel_rfl) (by kernel_rfl) -- pub-kmsg/pub/kmsg/inner/kbin.UvarintLen
theorem fn109 : FnIs Tryz.prog 109 19 [2] (cLen32 kn 60) := fnIs_of Tryz.func109 (by kernel_rfl) (by kernel_rfl) (by kernel_rfl) (by kernel_rfl) -- math/bits.Len32
theorem fn103 : FnIs Tryz.prog 103 8 [2] (cTLen kn 67 65) := fnIs_of Tryz.func103 (by kernel_rfl) (by kernel_rfl) (by kernel_rfl) (by kernel_rfl) -- (*pub-kmsg/pub/kmsg.Tags).Len
theorem fn15 : FnIs Tryz.prog 15 3 [0] (cNewPtr 69 25) := fnIs_of Tryz.func15 (by kernel_rfl) (by kernel_rfl) (by kernel_rfl) (by kernel_rfl) -- pub-kmsg/pub/kmsg.NewPtrMetadataRequest
theorem fn19 : FnIs Tryz.prog 19 8 [] (cSetV 69 41) := fnIs_of Tryz.func19 (by kernel_rfl) (by kernel_rfl) (by kernel_rfl) (by kernel_rfl) -- (*pub-kmsg/pub/kmsg.MetadataRequest).SetVersion
theorem fn20 : FnIs Tryz.prog 20 8 [4] (cRdF 34) := fnIs_of Tryz.func20 (by kernel_rfl) (by kernel_rfl) (by kernel_rfl) (by kernel_rfl) -- (*pub-kmsg/pub/kmsg.MetadataRequest).ReadFrom
theorem fn7 : FnIs Tryz.prog 7 4 [0] (cMax 41 3 15 16) := fnIs_of Tryz.func7 (by kernel_rfl) (by kernel_rfl) (by kernel_rfl) (by kernel_rfl) -- pub-kmsg/impl.MaxMetadataRequest
theorem fn16 : FnIs Tryz.prog 16 3 [2] (cMaxV 13) := fnIs_of Tryz.func16 (by kernel_rfl) (by kernel_rfl) (by kernel_rfl) (by kernel_rfl) -- (*pub-kmsg/pub/kmsg.MetadataRequest).MaxVersion
theorem fn8 : FnIs Tryz.prog 8 10 [4] (cVer 5 3) := fnIs_of Tryz.func8 (by kernel_rfl) (by kernel_rfl) (by kernel_rfl) (by kernel_rfl) -- pub-kmsg/laws.version
theorem fn12 : FnIs Tryz.prog 12 26 [4] (cSame 24 5 3) := fnIs_of Tryz.func12 (by kernel_rfl) (by kernel_rfl) (by kernel_rfl) (by kernel_rfl) -- pub-kmsg/spec.Same
theorem fn34 : FnIs Tryz.prog 34 140 [6] (gRead numbers true false ⟨true, 7, 10, 8, 9⟩ fsMetadataRequest 25 69 5 9 23 nmMetadataRequest) := fnIs_of Tryz.func34 (by kernel_rfl) (by kernel_rfl) (by kernel_rfl) (by kernel_rfl) -- (*pub-kmsg/pub/kmsg.MetadataRequest).readFrom
theorem fn91 : FnIs Tryz.prog 91 157 [4] (gWrite numbersW false ⟨true, 0, 0, 5, 6⟩ fsMetadataRequest 69 5 9 0 17 nwMetadataRequest) := fnIs_of Tryz.func91 (by kernel_rfl) (by kernel_rfl) (by kernel_rfl) (by kernel_rfl) -- (*pub-kmsg/pub/kmsg.MetadataRequest).AppendTo
def di25 : List DI := []
theorem fn25 : FnIs Tryz.prog 25 2 [] (gDflt di25 2) := fnIs_of Tryz.func25 (by kernel_rfl) (by kernel_rfl) (by kernel_rfl) (by kernel_rfl) -- (*pub-kmsg/pub/kmsg.MetadataRequest).Default
noncomputable def dw25 : List (Nat × Value) := (dRun Tryz.prog 2 di25 [(0, 0)]).getD []
theorem df25 : Ent Tryz.prog 25 ∧ DfC Tryz.prog 25 dw25 := dfC_of (n0 := 2) (items := di25) (by kernel_rfl) fn25 (by kernel_rfl) (of_decide_eq_true (by kernel_rfl)) (by omega)
def di47 : List DI := []
theorem fn47 : FnIs Tryz.prog 47 2 [] (gDflt di47 2) := fnIs_of Tryz.func47 (by kernel_rfl) (by kernel_rfl) (by kernel_rfl) (by kernel_rfl) -- (*pub-kmsg/pub/kmsg.MetadataRequestTopic).Default
noncomputable def dw47 : List (Nat × Value) := (dRun Tryz.prog 2 di47 [(0, 0)]).getD []
theorem df47 : Ent Tryz.prog 47 ∧ DfC Tryz.prog 47 dw47 := dfC_of (n0 := 2) (items := di47) (by kernel_rfl) fn47 (by kernel_rfl) (of_decide_eq_true (by kernel_rfl)) (by omega)
noncomputable def dd : Nat → Option (List (Nat × Value))
  | 25 => some dw25
  | 47 => some dw47
  | _ => none
theorem ddOk : ∀ f wr, dd f = some wr → Ent Tryz.prog f ∧ DfC Tryz.prog f wr := by
  intro f wr h
  unfold dd at h
  split at h
  · obtain rfl := Option.some.inj h; exact df25
  · obtain rfl := Option.some.inj h; exact df47
  · cases h
theorem kt : KT Tryz.prog numbers kn where
  mixed := mixed
  f0 := fldB_ok (by kernel_rfl)
  f1 := fldB_ok (by kernel_rfl)
  sl := by kernel_rfl
  u8 := varB_ok (by kernel_rfl)
  dU8 := by kernel_rfl
  dI8 := fun h => absurd h (by decide)
  dI16 := by kernel_rfl
  dI32 := by kernel_rfl
  dU32 := by kernel_rfl
  dInt := by kernel_rfl
theorem kbig : KBig Tryz.prog kn where
  be := varB_ok (by kernel_rfl)
  d16 := by kernel_rfl
  d64 := fun h => absurd h (by decide)
  dI64 := fun h => absurd h (by decide)
  f16 := fun _ => fn74
  f32 := fun _ => fn73
  f64 := fun h => absurd h (by decide)
theorem ksub : KSub Tryz.prog numbers kn kn.tRS where
  e16 := fun _ => fn67.ent
  c16 := fun _ w S R r hR hRS => (i16_calls kt kbig rfl fn67 (by omega) hR hRS).mono fun e w' h => (fun h => ⟨h.1, h.2.1, h.2.2.1⟩) (rdOk_int (p := .i16) (.inr (.inl ⟨rfl, rfl⟩)) rfl h)
  e32 := fun _ => fn64.ent
  c32 := fun _ w S R r hR hRS => (i32_calls kt kbig rfl fn64 (by omega) hR hRS).mono fun e w' h => (fun h => ⟨h.1, h.2.1, h.2.2.1⟩) (rdOk_int (p := .i32) (.inr (.inr (.inl ⟨rfl, rfl⟩))) rfl h)
  eU := fun _ => fn63.ent
  cU := fun _ w S R r hR hRS => uv_calls kt fn72 (by omega) fn63 (by omega) hR hRS
  eS := fun _ => fn65.ent
  cS := fun _ w S R r k hR hRS => span_calls kt fn65 (by omega) hR hRS
  dStr := by kernel_rfl
  vStr := varB_ok (by kernel_rfl)
  zStr := zeroOf_ok (by kernel_rfl)
def tn : TN := { tTags := 67, tM := 65, tKs := 154, tU32 := 60, tInt := 3, tSl := 24, fSort := 110, fLess := 111, fEach := 107, fOne := 108, fUv := 102 }
theorem fn107 : FnIs Tryz.prog 107 53 [] (cEach tn) := fnIs_of Tryz.func107 (by kernel_rfl) (by kernel_rfl) (by kernel_rfl) (by kernel_rfl) -- (*pub-kmsg/pub/kmsg.Tags).Each
theorem fn111 : FnIs Tryz.prog 111 15 [5] (cTLess tn) := fnIs_of Tryz.func111 (by kernel_rfl) (by kernel_rfl) (by kernel_rfl) (by kernel_rfl) -- (*pub-kmsg/pub/kmsg.Tags).Each$1
theorem fn104 : FnIs Tryz.prog 104 9 [4] (cTEach tn) := fnIs_of Tryz.func104 (by kernel_rfl) (by kernel_rfl) (by kernel_rfl) (by kernel_rfl) -- (*pub-kmsg/pub/kmsg.Tags).AppendEach
theorem fn108 : FnIs Tryz.prog 108 16 [] (cTOne tn) := fnIs_of Tryz.func108 (by kernel_rfl) (by kernel_rfl) (by kernel_rfl) (by kernel_rfl) -- (*pub-kmsg/pub/kmsg.Tags).AppendEach$1
theorem tf : TF Tryz.prog tn where
  map := ⟨60, 24, by kernel_rfl, by kernel_rfl⟩
  fld := fldB_ok (by kernel_rfl)
  sl := by kernel_rfl
  info := infoB_ok (by kernel_rfl)
  vU := varB_ok (by kernel_rfl)
  vK := varB_ok (by kernel_rfl)
  zK := zeroOf_ok (by kernel_rfl)
  dInt := by kernel_rfl
  dU32 := by kernel_rfl
theorem sortOk : SortOk Tryz.prog tn := sortOk_of (it := (Tryz.prog.info? 154).get (by kernel_rfl)) (ie := (Tryz.prog.info? 60).get (by kernel_rfl)) (ke := 10) (f1 := 117) (f2 := 118) (f6 := 122) mixed tf Tryz.sa6 rfl (enters_of Tryz.func110 (by kernel_rfl) rfl) fn111 (by omega) (by kernel_rfl) (by kernel_rfl) (by kernel_rfl) (by kernel_rfl) (fun _ => by kernel_rfl) (by kernel_rfl) (by kernel_rfl) (by kernel_rfl) fn111.ent (by kernel_rfl) (by kernel_rfl) (by kernel_rfl) (fun args W => run_callFunc_extern Tryz.func122 (by kernel_rfl) (by kernel_rfl) (by kernel_rfl) (e := Extern.ReflectliteSwapper.swap true) (by kernel_rfl) args W)
theorem setOk : SetOk Tryz.prog numbers.set := fun _ _ _ _ _ _ _ _ _ _ hk hB hO ht hv => set_calls (tM := 65) (kt := 60) (et := 24) mixed fn68 (by omega) (by kernel_rfl) (by kernel_rfl) (fldB_ok (by kernel_rfl)) hk hB hO ht hv
def av : PF → Bool
  | .bool => true
  | .i16 => true
  | .i32 => true
  | .uuid => true
  | .str => true
  | .cstr => true
  | .nstr => true
  | .cnstr => true
  | _ => false
theorem rdAll : ∀ p, av p = true → RdOk Tryz.prog numbers.tR p (numbers.rd p) := by
  intro p h
  cases p
  · exact rdOk_bool kt fn58 (by omega)
  · cases h
  · exact rdOk_i16 kt kbig rfl fn67 (by omega)
  · cases h
  · exact rdOk_i32 kt kbig rfl fn64 (by omega)
  · cases h
  · exact rdOk_uuid kt ksub rfl (varB_ok (by kernel_rfl)) (zeroOf_ok (by kernel_rfl)) (by kernel_rfl) fn48 (by omega)
  · exact rdOk_str kt ksub rfl rfl fn52 (by omega)
  · exact rdOk_cstr kt ksub rfl rfl fn50 (by omega)
  · exact rdOk_nstr kt ksub rfl rfl fn56 (by omega)
  · exact rdOk_cnstr kt ksub rfl rfl fn54 (by omega)
  · cases h
  · cases h
  · cases h
  · cases h
theorem kb : KB Tryz.prog numbers av true where
  mixed := mixed
  rdE p h := (rdAll p h).1
  rdC p h := (rdAll p h).2
  i8C := fun h => absurd h (by decide)
  okE := fun _ => fn45.ent
  okC := fun _ w S R r hR => ok_calls kt fn45 (by omega) hR
  cmE := fn46.ent
  cmC w S R r hR he := complete_calls kt fn46 (by omega) (varB_ok (by kernel_rfl)) hR he
  lenE := fun _ => fn44.ent
  lenC := fun _ w S R r hR hRS => len_calls kt ksub rfl fn44 (by omega) hR hRS
  clenE := fun _ _ => fn43.ent
  clenC := fun _ _ w S R r hR hRS => clen_calls kt ksub rfl fn43 (by omega) hR hRS
  uvE := fun _ => fn63.ent
  uvC := fun _ w S R r hR hRS => ksub.cU rfl w S R r hR hRS
  spanE := fun _ => fn65.ent
  spanC := fun _ w S R r k _ _ hR hRS => ksub.cS rfl w S R r k hR hRS
  tagsE := fun _ => fn57.ent
  tagsC := fun _ w S R r hR hRS hS => rdTags_calls kt ksub rfl rfl rfl fn68.ent setOk (zeroOf_ok (by kernel_rfl)) (varB_ok (by kernel_rfl)) fn57 (by omega) hR hRS hS
  setE := fun _ => fn68.ent
  setC := fun _ => setOk
  fR := twoB_ok (by kernel_rfl)
  zR := zeroOf_ok (by kernel_rfl)
  vR := varB_ok (by kernel_rfl)
  uuid := fun _ => ⟨varB_ok (by kernel_rfl), zeroOf_ok (by kernel_rfl)⟩
  tI32 := by kernel_rfl
  tU32 := fun _ => by kernel_rfl
  tInt := by kernel_rfl
  vStr := ⟨varB_ok (by kernel_rfl), zeroOf_ok (by kernel_rfl)⟩
  vTags := fun _ => varB_ok (by kernel_rfl)
  tErr := fun _ => ifaceB_ok (by kernel_rfl)
theorem env : Env Tryz.prog numbers av true dd := ⟨kb, ddOk⟩
theorem oct : OctT Tryz.prog kn.tSl kn.tU8 := octB_ok (by kernel_rfl)
theorem wt : WT Tryz.prog kn where
  mixed := mixed
  oct := oct
  dU8 := by kernel_rfl
  dI8 := fun h => absurd h (by decide)
  dI16 := by kernel_rfl
  dU16 := fun _ => by kernel_rfl
  dI32 := by kernel_rfl
  dU32 := by kernel_rfl
  dInt := by kernel_rfl
  dI64 := fun _ => by kernel_rfl
  dU64 := fun _ => by kernel_rfl
  dStr := by kernel_rfl
  vStr := varB_ok (by kernel_rfl)
theorem uvC (x : Nat) (w : World) (h : x < 4294967296) : ApC Tryz.prog kn.tU8 numbersW.uv (.int .u32 x) (uvar x) w := ap_uv wt (by kernel_rfl) fn109 (by omega) fn106 (by omega) fn102 (by omega) h w
theorem i16C (x : Int) (w : World) : ApC Tryz.prog kn.tU8 60 (.int .i16 x) (be 2 x) w := ap_i16 wt rfl fn69 (by omega) fn60 (by omega) x w
theorem i32C (x : Int) (w : World) : ApC Tryz.prog kn.tU8 61 (.int .i32 x) (be 4 x) w := ap_i32 wt fn70 (by omega) fn61 (by omega) x w
def avw : PF → Bool
  | .bool => true
  | .i16 => true
  | .u16 => true
  | .i32 => true
  | .uuid => true
  | .str => true
  | .cstr => true
  | .nstr => true
  | .cnstr => true
  | _ => false
theorem apAll : ∀ p, avw p = true → AppOk Tryz.prog kn.tU8 p (numbersW.ap p) := by
  intro p h
  cases p
  · exact app_bool wt fn105 (by omega)
  · cases h
  · exact app_i16 wt rfl fn69 (by omega) fn60 (by omega)
  · exact app_u16 wt rfl fn69 (by omega)
  · exact app_i32 wt fn70 (by omega) fn61 (by omega)
  · cases h
  · exact app_uuid wt (varB_ok (by kernel_rfl)) (by kernel_rfl) fn99 (by omega)
  · exact app_str wt (app_i16 wt rfl fn69 (by omega) fn60 (by omega)) i16C fn71 (by omega)
  · exact app_cstr wt fn102.ent (fun x w h => uvC x w h) fn100 (by omega)
  · exact app_nstr wt (fx := false) rfl (by kernel_rfl) fn60.ent (fun w => i16C (-1) w) (app_str wt (app_i16 wt rfl fn69 (by omega) fn60 (by omega)) i16C fn71 (by omega)) fn62 (by omega)
  · exact app_nstr wt (fx := true) rfl (by kernel_rfl) fn102.ent (fun w => uvC 0 w (by omega)) (app_cstr wt fn102.ent (fun x w h => uvC x w h) fn100 (by omega)) fn101 (by omega)
  · cases h
  · cases h
  · cases h
  · cases h
theorem smAll : ∀ s ∈ numbersW.sm, SmC Tryz.prog s := by
  intro s hs
  have hs : s ∈ ([] : List Sm) := hs
  cases hs
theorem kw : KW Tryz.prog numbersW avw true true kn.tU8 where
  mixed := mixed
  oct := oct
  dInt := by kernel_rfl
  dU32 := fun _ => by kernel_rfl
  apE p h := (apAll p h).1
  apC p h := (apAll p h).2
  alE := fun _ => fn98.ent
  alC := fun _ n w => ap_len wt fn61.ent i32C fn98 (by omega) n w
  clE := fun _ _ => fn97.ent
  clC := fun _ _ n w => ap_clen wt fn102.ent (fun x w h => uvC x w h) fn97 (by omega) n w
  nlE := fun _ => fn96.ent
  nlC := fun _ n b w L d bs hd hL hlim => anlen_calls wt fn61.ent i32C fn96 (by omega) n b w L d bs hd hL hlim
  cnE := fun _ _ => fn95.ent
  cnC := fun _ _ n b w L d bs hd hL hlim => acnlen_calls wt fn102.ent (fun x w h => uvC x w h) fn95 (by omega) n b w L d bs hd hL hlim
  uvE := fun _ => fn102.ent
  uvC := fun _ x w h => uvC x w h
  tlE := fun _ => fn103.ent
  tlC := fun _ w b o m X t hc ht => tlen_calls (kt := 60) (et := 24) mixed (by kernel_rfl) (fldB_ok (by kernel_rfl)) fn103 (by omega) hc ht
  teE := fun _ => fn104.ent
  teC := fun _ w b o m L t d bs hc hb ht hd hL hlim => teach_calls mixed tf sortOk oct (varB_ok (by kernel_rfl)) fn102.ent (fun x w h => uvC x w h) fn107 (by omega) fn108 (by omega) fn104 (by omega) hc hb ht hd hL hlim
  smC := smAll
  uuid := fun _ => ⟨varB_ok (by kernel_rfl), zeroOf_ok (by kernel_rfl)⟩
noncomputable def zv : Value := (zeroOf Tryz.prog 69).getD undef
noncomputable def zz : Array Value := applyWr zv.cells 0 dw25
theorem msg : MsgC Tryz.prog numbers.gErr kn.tU8 false true 9 fsMetadataRequest (some 5) 69 zz 15 19 20 91 :=
  msgC_of (cx := ⟨true, 7, 10, 8, 9⟩) (cw := ⟨true, 0, 0, 5, 6⟩) (nm := nmMetadataRequest) (ms := nwMetadataRequest) (tI16 := 41) env kw (by decide) (by decide) rfl rfl fn15 (by omega) fn19 (by omega) fn20 (by omega) fn34 (by omega) fn91 (by kernel_rfl) (by kernel_rfl) rfl (of_decide_eq_true (by kernel_rfl)) (by kernel_rfl) (by kernel_rfl) rfl (by kernel_rfl) (by kernel_rfl)
def sn : SN := { tInt := 3, tI64 := 2, tU8 := 5, tU64 := 76, tU32 := 60, tU16 := 123, tB := 4, tSl := 24, tF := 52, tFs := 36, tT := 28, tTs := 25, tG := 62, tGs := 26, tMs := 38, fPart := 17, fHas := 26, fField := 27, fAt := 28, fKnown := 29, fUsual := 30, fUv := 31, fUnk := 32, fWhole := 33, fNull := 38, fThings := 39, fCnt := 40, fVal := 41, fFix := 22, fWid := 42, fWrite := 9, fSame := 12, fZ2 := 5, fZ3 := 14, fZ4 := 24 }
theorem sf_fPart : FnIs Tryz.prog sn.fPart 132 [8] (csPt sn) := fnIs_of Tryz.func17 (by kernel_rfl) (by kernel_rfl) (by kernel_rfl) (by kernel_rfl)
theorem sf_fHas : FnIs Tryz.prog sn.fHas 20 [4] (csHs sn) := fnIs_of Tryz.func26 (by kernel_rfl) (by kernel_rfl) (by kernel_rfl) (by kernel_rfl)
theorem sf_fField : FnIs Tryz.prog sn.fField 76 [8] (csFl sn) := fnIs_of Tryz.func27 (by kernel_rfl) (by kernel_rfl) (by kernel_rfl) (by kernel_rfl)
theorem sf_fAt : FnIsC Tryz.prog sn.fAt 16 4 28 (csAt sn) := fnIsC_of Tryz.func28 (by kernel_rfl) (by kernel_rfl) (by kernel_rfl) (by kernel_rfl)
theorem sf_fKnown : FnIs Tryz.prog sn.fKnown 23 [2] (csKw sn) := fnIs_of Tryz.func29 (by kernel_rfl) (by kernel_rfl) (by kernel_rfl) (by kernel_rfl)
theorem sf_fUv : FnIs Tryz.prog sn.fUv 20 [2] (csUvr sn) := fnIs_of Tryz.func31 (by kernel_rfl) (by kernel_rfl) (by kernel_rfl) (by kernel_rfl)
theorem sf_fUnk : FnIs Tryz.prog sn.fUnk 85 [4] (csUn sn) := fnIs_of Tryz.func32 (by kernel_rfl) (by kernel_rfl) (by kernel_rfl) (by kernel_rfl)
theorem sf_fWhole : FnIs Tryz.prog sn.fWhole 8 [2] (csWh sn) := fnIs_of Tryz.func33 (by kernel_rfl) (by kernel_rfl) (by kernel_rfl) (by kernel_rfl)
theorem sf_fNull : FnIs Tryz.prog sn.fNull 20 [6] (csNu sn) := fnIs_of Tryz.func38 (by kernel_rfl) (by kernel_rfl) (by kernel_rfl) (by kernel_rfl)
theorem sf_fThings : FnIs Tryz.prog sn.fThings 8 [2] (csTh sn) := fnIs_of Tryz.func39 (by kernel_rfl) (by kernel_rfl) (by kernel_rfl) (by kernel_rfl)
theorem sf_fCnt : FnIs Tryz.prog sn.fCnt 28 [8] (csCn sn) := fnIs_of Tryz.func40 (by kernel_rfl) (by kernel_rfl) (by kernel_rfl) (by kernel_rfl)
theorem sf_fVal : FnIs Tryz.prog sn.fVal 70 [12] (csVa sn) := fnIs_of Tryz.func41 (by kernel_rfl) (by kernel_rfl) (by kernel_rfl) (by kernel_rfl)
theorem sf_fFix : FnIs Tryz.prog sn.fFix 22 [4] (csFi sn) := fnIs_of Tryz.func22 (by kernel_rfl) (by kernel_rfl) (by kernel_rfl) (by kernel_rfl)
theorem sf_fWid : FnIs Tryz.prog sn.fWid 11 [2] (csWd sn) := fnIs_of Tryz.func42 (by kernel_rfl) (by kernel_rfl) (by kernel_rfl) (by kernel_rfl)
theorem sf_fWrite : FnIs Tryz.prog sn.fWrite 21 [6] (csWr sn) := fnIs_of Tryz.func9 (by kernel_rfl) (by kernel_rfl) (by kernel_rfl) (by kernel_rfl)
theorem sf_fUsual : FnIs Tryz.prog sn.fUsual 91 [4] (csUs sn) := fnIs_of Tryz.func30 (by kernel_rfl) (by kernel_rfl) (by kernel_rfl) (by kernel_rfl)
theorem sf_fZ2 : FnIs Tryz.prog sn.fZ2 15 [2] (csZ2 sn) := fnIs_of Tryz.func5 (by kernel_rfl) (by kernel_rfl) (by kernel_rfl) (by kernel_rfl)
theorem sf_fZ3 : FnIs Tryz.prog sn.fZ3 18 [2] (csZ3 sn) := fnIs_of Tryz.func14 (by kernel_rfl) (by kernel_rfl) (by kernel_rfl) (by kernel_rfl)
theorem sf_fZ4 : FnIs Tryz.prog sn.fZ4 7 [2] (csZ4 sn) := fnIs_of Tryz.func24 (by kernel_rfl) (by kernel_rfl) (by kernel_rfl) (by kernel_rfl)
theorem rt : RefT Tryz.prog sn where
  mixed := mixed
  dInt := by kernel_rfl
  dI64 := by kernel_rfl
  dU8 := by kernel_rfl
  dU32 := by kernel_rfl
  dU64 := by kernel_rfl
  oct := oct
  dTs := by kernel_rfl
  dGs := by kernel_rfl
  dFs := by kernel_rfl
  vI64 := varB_ok (by kernel_rfl)
  vU8 := varB_ok (by kernel_rfl)
  vT := varB_ok (by kernel_rfl)
  vF := varB_ok (by kernel_rfl)
  vG := varB_ok (by kernel_rfl)
  vM := varB_ok (by kernel_rfl)
  t0 := fldB_ok (by kernel_rfl)
  t1 := fldB_ok (by kernel_rfl)
  t2 := fldB_ok (by kernel_rfl)
  t3 := fldB_ok (by kernel_rfl)
  t4 := fldB_ok (by kernel_rfl)
  f0 := fldB_ok (by kernel_rfl)
  f1 := fldB_ok (by kernel_rfl)
  f2 := fldB_ok (by kernel_rfl)
  f3 := fldB_ok (by kernel_rfl)
  f4 := fldB_ok (by kernel_rfl)
  f5 := fldB_ok (by kernel_rfl)
  f6 := fldB_ok (by kernel_rfl)
  f7 := fldB_ok (by kernel_rfl)
  g0 := fldB_ok (by kernel_rfl)
  g1 := fldB_ok (by kernel_rfl)
  m0 := fldB_ok (by kernel_rfl)
  m1 := fldB_ok (by kernel_rfl)
  zT := zeroOf_ok (by kernel_rfl)
  zF := zeroOf_ok (by kernel_rfl)
  zG := zeroOf_ok (by kernel_rfl)
  zM := zeroOf_ok (by kernel_rfl)
  z8 := z8_ok (by kernel_rfl)
  bT := fun w => by kernel_rfl
  bG := fun w => by kernel_rfl
  bSG := fun w => by kernel_rfl
  iG := iG_ok (by kernel_rfl)

theorem leaf : LeafC Tryz.prog sn := leafC_of rt (varB_ok (by kernel_rfl)) sf_fUv sf_fFix sf_fCnt sf_fWid sf_fWhole sf_fThings sf_fHas sf_fNull sf_fKnown sf_fAt sf_fUnk
theorem trees : TreT Tryz.prog sn where
  tab := rt
  cT := by kernel_rfl
  cG := by kernel_rfl
  cI := by kernel_rfl
  cSl := by kernel_rfl
  cB := by kernel_rfl
  cTs := by kernel_rfl
  cGs := by kernel_rfl
  cU := by kernel_rfl
  c8 := by kernel_rfl
  dB := by kernel_rfl
  nT := by kernel_rfl
  nG := by kernel_rfl

def it18 : List BI := [([(0, 7), (1, 10), (2, -1), (3, -1), (4, -1)], none), ([(0, 8), (2, -1), (3, 10), (4, -1)], none)]
def ss18 : SFs := .cons 7 10 (-1) (-1) (-1) 0 0 .nil (.cons 8 0 (-1) 10 (-1) 0 0 .nil (.nil))
theorem fi18 : FnIs Tryz.prog 18 4 [0] (cSub sn it18) := fnIs_of Tryz.func18 (by kernel_rfl) (by kernel_rfl) (by kernel_rfl) (by kernel_rfl)
theorem sb18 : Ent Tryz.prog 18 ∧ BuildC Tryz.prog 18 ss18 := sub_calls rt fi18 (of_decide_eq_true (by kernel_rfl)) ⟨fun w => by kernel_rfl, rfl, ⟨fun w => by kernel_rfl, rfl, trivial⟩⟩ (fun sv w => by kernel_rfl) rfl (of_decide_eq_true (by kernel_rfl))
def itM : List BI := [([(0, 11), (2, -1), (3, 1), (4, -1), (6, 10)], some 18), ([(0, 0), (1, 4), (2, -1), (3, -1), (4, -1)], none), ([(0, 0), (1, 8), (2, 10), (3, -1), (4, -1)], none), ([(0, 0), (1, 8), (2, -1), (3, -1), (4, -1)], none)]
def ssM : SFs := .cons 11 0 (-1) 1 (-1) 0 10 ss18 (.cons 0 4 (-1) (-1) (-1) 0 0 .nil (.cons 0 8 10 (-1) (-1) 0 0 .nil (.cons 0 8 (-1) (-1) (-1) 0 0 .nil (.nil))))
theorem fiM : FnIsC Tryz.prog 10 8 0 sn.tMs (cMsgB sn 9 itM) := fnIsC_of Tryz.func10 (by kernel_rfl) (by kernel_rfl) (by kernel_rfl) (by kernel_rfl)
theorem sbM : Ent Tryz.prog 10 ∧ MsgBC Tryz.prog 10 9 ssM := msgb_calls rt (fun x base n c w => by kernel_rfl) fiM (of_decide_eq_true (by kernel_rfl)) ⟨fun base n c w => by kernel_rfl, sb18, ⟨fun w => by kernel_rfl, rfl, ⟨fun w => by kernel_rfl, rfl, ⟨fun w => by kernel_rfl, rfl, trivial⟩⟩⟩⟩ (fun sv w => by kernel_rfl) rfl (of_decide_eq_true (by kernel_rfl))
def fnn : FN := { tId := 23, tStr := 9, tI32 := 21, tI16 := 41, tErr := 55, tM := 46, tMs := 69, tRq := 81, tFm := 82, tFr := 111, tFo := 114, tFn := 112, tOpt := 85, tOpts := 109, tPs := 101, fZ1 := 4, fId := 6, fMax := 7, fVer := 8, fMsg := 10, fFM := 11, fFr := 13, fFl := 23, fNp := 15, fSv := 19, fRf := 20, fFrd := 21, fNew := 35, fCid := 36, fCl := 59, fAp := 142, fApp := 37, fA16 := 60, fA32 := 61, fANS := 62, fKey := 94, fGv := 92, fIf := 93, fAt := 91 }
theorem f_Z1 : FnIs Tryz.prog 4 7 [2] (cFZ1 sn fnn) := fnIs_of Tryz.func4 (by kernel_rfl) (by kernel_rfl) (by kernel_rfl) (by kernel_rfl) -- pub-kmsg/laws.zzFits1
theorem f_Id : FnIs Tryz.prog 6 11 [2, 3] (cFId sn fnn) := fnIs_of Tryz.func6 (by kernel_rfl) (by kernel_rfl) (by kernel_rfl) (by kernel_rfl) -- pub-kmsg/laws.idBytes
theorem f_FM : FnIs Tryz.prog 11 25 [8, 9] (cFFM sn fnn) := fnIs_of Tryz.func11 (by kernel_rfl) (by kernel_rfl) (by kernel_rfl) (by kernel_rfl) -- pub-kmsg/impl.FrameMetadata
theorem f_Fr : FnIs Tryz.prog 13 51 [12] (cFFr sn fnn) := fnIs_of Tryz.func13 (by kernel_rfl) (by kernel_rfl) (by kernel_rfl) (by kernel_rfl) -- pub-kmsg/spec.Frame
theorem f_Fl : FnIs Tryz.prog 23 84 [4] (cFFl sn fnn) := fnIs_of Tryz.func23 (by kernel_rfl) (by kernel_rfl) (by kernel_rfl) (by kernel_rfl) -- pub-kmsg/spec.Flexible
theorem f_Frd : FnIs Tryz.prog 21 24 [8] (cFFrd sn fnn) := fnIs_of Tryz.func21 (by kernel_rfl) (by kernel_rfl) (by kernel_rfl) (by kernel_rfl) -- pub-kmsg/impl.framed
theorem f_New : FnIs Tryz.prog 35 18 [2] (cFNew sn fnn) := fnIs_of Tryz.func35 (by kernel_rfl) (by kernel_rfl) (by kernel_rfl) (by kernel_rfl) -- pub-kmsg/pub/kmsg.NewRequestFormatter
theorem f_Cid : FnIs Tryz.prog 36 6 [2] (cFCid sn fnn) := fnIs_of Tryz.func36 (by kernel_rfl) (by kernel_rfl) (by kernel_rfl) (by kernel_rfl) -- pub-kmsg/pub/kmsg.FormatterClientID
theorem f_Cl : FnIs Tryz.prog 59 6 [] (cFCl sn fnn) := fnIs_of Tryz.func59 (by kernel_rfl) (by kernel_rfl) (by kernel_rfl) (by kernel_rfl) -- pub-kmsg/pub/kmsg.FormatterClientID$1
theorem f_Ap : FnIs Tryz.prog 142 8 [] (cFAp sn fnn) := fnIs_of Tryz.func142 (by kernel_rfl) (by kernel_rfl) (by kernel_rfl) (by kernel_rfl) -- (pub-kmsg/pub/kmsg.formatterOpt).apply
theorem f_App : FnIs Tryz.prog 37 60 [8] (cFApp sn fnn) := fnIs_of Tryz.func37 (by kernel_rfl) (by kernel_rfl) (by kernel_rfl) (by kernel_rfl) -- (*pub-kmsg/pub/kmsg.RequestFormatter).AppendRequest
theorem f_Key : FnIs Tryz.prog 94 3 [2] (cFKey sn fnn) := fnIs_of Tryz.func94 (by kernel_rfl) (by kernel_rfl) (by kernel_rfl) (by kernel_rfl) -- (*pub-kmsg/pub/kmsg.MetadataRequest).Key
theorem f_Gv : FnIs Tryz.prog 92 7 [2] (cFGv sn fnn) := fnIs_of Tryz.func92 (by kernel_rfl) (by kernel_rfl) (by kernel_rfl) (by kernel_rfl) -- (*pub-kmsg/pub/kmsg.MetadataRequest).GetVersion
theorem f_If : FnIs Tryz.prog 93 8 [2] (cFIf sn fnn) := fnIs_of Tryz.func93 (by kernel_rfl) (by kernel_rfl) (by kernel_rfl) (by kernel_rfl) -- (*pub-kmsg/pub/kmsg.MetadataRequest).IsFlexible
theorem f_Law : FnIs Tryz.prog 3 65 [8] (cFLaw sn fnn) := fnIs_of Tryz.func3 (by kernel_rfl) (by kernel_rfl) (by kernel_rfl) (by kernel_rfl)
theorem fnT : FnT Tryz.prog sn fnn where
  tab := rt
  dStr := by kernel_rfl
  dI16 := by kernel_rfl
  dI32 := by kernel_rfl
  dOpts := by kernel_rfl
  vOpt := varB_ok (by kernel_rfl)
  vId := varB_ok (by kernel_rfl)
  m0 := fldB_ok (by kernel_rfl)
  r0 := fldB_ok (by kernel_rfl)
  o0 := fldB_ok (by kernel_rfl)
  i0 := fldB_ok (by kernel_rfl)
  i1 := fldB_ok (by kernel_rfl)
  zFr := zeroOf_ok (by kernel_rfl)
  bFo := fun f a b w => by kernel_rfl
  miFo := fun v w => by kernel_rfl
  miM := fun v w => by kernel_rfl
  bOp := fun v w => by kernel_rfl
  mAp := fun v w => by kernel_rfl
  mKey := fun v w => by kernel_rfl
  mGv := fun v w => by kernel_rfl
  mIf := fun v w => by kernel_rfl
  mAt := fun v w => by kernel_rfl

theorem frw : FrW Tryz.prog sn fnn true 9 fsMetadataRequest (some 5) :=
  frW_of wt rfl (by kernel_rfl) fn60 fn69 fn61 fn70 fn71 fn62 (by kernel_rfl) fn91.ent (fun w L B ver vs t d0 bs0 hver hB hL hc hr ht hd hlim => write_fnD kw (by decide) fn91 (by kernel_rfl) hver hB hL hc hr ht hd hlim)
theorem frf : FrF Tryz.prog sn fnn := ⟨f_App, f_Key, f_Gv, f_If, f_New, f_Ap, f_Cl, f_Cid, f_Frd⟩
theorem lawF : LawF Tryz.prog sn fnn 13 9 ssM := lawF_of (gErr := numbers.gErr) (fs := fsMetadataRequest) rt (by kernel_rfl) fn8 (by omega) fn12 (by omega) msg fn7 (by omega) fn16 (by omega) (by decide) sf_fZ4 sf_fZ3 sf_fZ2 sbM sf_fWrite sf_fPart.ent (ref_calls leaf sf_fPart sf_fField sf_fVal ssM (by kernel_rfl)).1
theorem law {W : World} {x0 k : Nat} {number : Int} {has : Bool} {s : Bs} {cs : List Value} {t : Tr} (hx : x0 < 256) (hn : -2147483648 ≤ number ∧ number < 2147483648) (ht : TrRp W k cs t) (herr : ErrAt numbers.gErr W) : Calls Tryz.prog 3 [.int .u8 (x0 : Int), .agg [.bool has, strV s].toArray, .int .i32 number, .agg cs.toArray].toArray W (TrueC W) :=
  (ifaceB_ok (P := Tryz.prog) (T := fnn.tErr) (by kernel_rfl)).elim fun _ hE => frame_law fnT lawF frw frf msg hE f_FM f_Z1 f_Id f_Fr sf_fFix f_Fl f_Law (by decide) (by kernel_rfl) (by kernel_rfl) (by kernel_rfl) hx hn ht herr
end Go.Proofs.YtpoeajgpacfpoaaGreatDoor.Kx
