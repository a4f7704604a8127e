/-
  FnAnyDescribeProducersRequest: the numbers of the program, the code of its functions, and the law out of them.
-/
import Derived.Test.YtmkioomgfdpeiaaDoorChecked
import Derived.Test.YtmkioomgfdpeiaaDoorK5
import Derived.KernelRfl
import Derived.Test.YtmkioomgfdpeiaaDoorSh
namespace Go.Proofs.YtmkioomgfdpeiaaDoor.Kx
open Go Go.Proofs
set_option maxRecDepth 100000
def numbers : G := { rd := fun | .bool => 999999 | .i8 => 999999 | .i16 => 58 | .u16 => 999999 | .i32 => 43 | .i64 => 999999 | .uuid => 999999 | .str => 38 | .cstr => 37 | .nstr => 42 | .cnstr => 40 | .bytes => 999999 | .cbytes => 999999 | .nbytes => 999999 | .cnbytes => 999999, un := fun | .str => 36 | .cstr => 35 | .nstr => 41 | .cnstr => 39 | _ => 999999, len := 52, clen := 51, ok := 53, complete := 45, uv := 55, span := 57, tags := 44, set := 60, tR := 61, tUuid := 999999, tVer := 29, tI8 := 999999, tI32 := 21, tU32 := 51, tInt := 3, tBool := 4, tErr := 35, tTags := 43, tSl := 22, tStr := 9, gErr := 1 }
def numbersW : GW := { ap := fun | .bool => 999999 | .i8 => 999999 | .i16 => 46 | .u16 => 61 | .i32 => 27 | .i64 => 999999 | .uuid => 999999 | .str => 24 | .cstr => 23 | .nstr => 26 | .cnstr => 25 | .bytes => 999999 | .cbytes => 999999 | .nbytes => 999999 | .cnbytes => 999999, alen := 34, calen := 33, nalen := 999999, cnalen := 999999, uv := 28, tlen := 29, teach := 30, tVer := 29, tInt := 3, tU32 := 51, tSl := 22, tUuid := 999999 }
def kn : Kn := { tRS := 61, tSl := 22, tB := 4, tInt := 3, tU8 := 5, tI8 := 999999, tI16 := 29, tU16 := 82, tI32 := 21, tU32 := 51, tI64 := 2, tU64 := 104, tStr := 9, tUuid := 999999, tBE := 79, tErr := 35, gBE := 0, gErr := 1, fU16 := 66, fU32 := 59, fU64 := 999999, fUv := 65, fR64 := 999999 }
theorem mixed : Tryd.prog.follows .mixedOrders = true := by kernel_rfl
def fsDescribeProducersRequest : Fds := (.cons 0 none none (0) 1 (.list none 3 (.struct none (some 2) (.cons 0 none none (0) 0 (.str none) (.cons 0 none none (0) 1 (.list none 1 (.prim .i32)) .nil)))) .nil)
def nmDescribeProducersRequest : Nm := (.mk [] [(.mk [11, 54, 1, 52, 12, 13, 14, 0, 1] [(.mk [15, 16, 54, 59, 2] [(.mk [] [(.mk [17, 59, 0, 9] []), (.mk [18, 59, 1, 57, 19, 20, 21, 2, 3] [(.mk [22, 21] [])])])])])])
def nwDescribeProducersRequest : List Nm := [(.mk [7, 54, 1, 52, 8, 0, 1] [(.mk [9, 59, 2] [(.mk [] [(.mk [10, 59, 0, 9] []), (.mk [11, 59, 1, 57, 12, 2, 3] [(.mk [13, 21] [])])])])])]
theorem fn58 : FnIs Tryd.prog 58 32 [2] (cI16 kn) := fnIs_of Tryd.func58 (by kernel_rfl) (by kernel_rfl) (by kernel_rfl) (by kernel_rfl) -- (*pub-kmsg/pub/kmsg/inner/kbin.Reader).Int16
theorem fn43 : FnIs Tryd.prog 43 32 [2] (cI32 kn) := fnIs_of Tryd.func43 (by kernel_rfl) (by kernel_rfl) (by kernel_rfl) (by kernel_rfl) -- (*pub-kmsg/pub/kmsg/inner/kbin.Reader).Int32
theorem fn65 : FnIs Tryd.prog 65 87 [2, 3] (cUvIn kn) := fnIs_of Tryd.func65 (by kernel_rfl) (by kernel_rfl) (by kernel_rfl) (by kernel_rfl) -- pub-kmsg/pub/kmsg/inner/kbin.Uvarint
theorem fn55 : FnIs Tryd.prog 55 31 [2] (cUv kn) := fnIs_of Tryd.func55 (by kernel_rfl) (by kernel_rfl) (by kernel_rfl) (by kernel_rfl) -- (*pub-kmsg/pub/kmsg/inner/kbin.Reader).Uvarint
theorem fn44 : FnIsC Tryd.prog 44 24 2 43 (cRdTags numbers kn) := fnIsC_of Tryd.func44 (by kernel_rfl) (by kernel_rfl) (by kernel_rfl) (by kernel_rfl) -- pub-kmsg/pub/kmsg.internalReadTags
theorem fn60 : FnIs Tryd.prog 60 21 [] (cSet numbers 41) := fnIs_of Tryd.func60 (by kernel_rfl) (by kernel_rfl) (by kernel_rfl) (by kernel_rfl) -- (*pub-kmsg/pub/kmsg.Tags).Set
theorem fn53 : FnIs Tryd.prog 53 8 [2] (cOk kn) := fnIs_of Tryd.func53 (by kernel_rfl) (by kernel_rfl) (by kernel_rfl) (by kernel_rfl) -- (*pub-kmsg/pub/kmsg/inner/kbin.Reader).Ok
theorem fn45 : FnIs Tryd.prog 45 8 [2] (cComplete kn) := fnIs_of Tryd.func45 (by kernel_rfl) (by kernel_rfl) (by kernel_rfl) (by kernel_rfl) -- (*pub-kmsg/pub/kmsg/inner/kbin.Reader).Complete
theorem fn57 : FnIs Tryd.prog 57 40 [4] (cSpan kn) := fnIs_of Tryd.func57 (by kernel_rfl) (by kernel_rfl) (by kernel_rfl) (by kernel_rfl) -- (*pub-kmsg/pub/kmsg/inner/kbin.Reader).Span
theorem fn38 : FnIs Tryd.prog 38 11 [2] (cStr numbers kn) := fnIs_of Tryd.func38 (by kernel_rfl) (by kernel_rfl) (by kernel_rfl) (by kernel_rfl) -- (*pub-kmsg/pub/kmsg/inner/kbin.Reader).String
theorem fn37 : FnIs Tryd.prog 37 12 [2] (cCStr numbers kn) := fnIs_of Tryd.func37 (by kernel_rfl) (by kernel_rfl) (by kernel_rfl) (by kernel_rfl) -- (*pub-kmsg/pub/kmsg/inner/kbin.Reader).CompactString
theorem fn42 : FnIs Tryd.prog 42 14 [2] (cNStr numbers kn) := fnIs_of Tryd.func42 (by kernel_rfl) (by kernel_rfl) (by kernel_rfl) (by kernel_rfl) -- (*pub-kmsg/pub/kmsg/inner/kbin.Reader).NullableString
theorem fn40 : FnIs Tryd.prog 40 15 [2] (cCNStr numbers kn) := fnIs_of Tryd.func40 (by kernel_rfl) (by kernel_rfl) (by kernel_rfl) (by kernel_rfl) -- (*pub-kmsg/pub/kmsg/inner/kbin.Reader).CompactNullableString
theorem fn52 : FnIs Tryd.prog 52 21 [2] (cLen numbers kn) := fnIs_of Tryd.func52 (by kernel_rfl) (by kernel_rfl) (by kernel_rfl) (by kernel_rfl) -- (*pub-kmsg/pub/kmsg/inner/kbin.Reader).ArrayLen
theorem fn51 : FnIs Tryd.prog 51 23 [2] (cCLen numbers kn) := fnIs_of Tryd.func51 (by kernel_rfl) (by kernel_rfl) (by kernel_rfl) (by kernel_rfl) -- (*pub-kmsg/pub/kmsg/inner/kbin.Reader).CompactArrayLen
theorem fn66 : FnIs Tryd.prog 66 18 [4] (gBig kn kn.tU16 .u16 2) := fnIs_of Tryd.func66 (by kernel_rfl) (by kernel_rfl) (by kernel_rfl) (by kernel_rfl) -- (encoding/binary.bigEndian).Uint16
theorem fn59 : FnIs Tryd.prog 59 30 [4] (gBig kn kn.tU32 .u32 4) := fnIs_of Tryd.func59 (by kernel_rfl) (by kernel_rfl) (by kernel_rfl) (by kernel_rfl) -- (encoding/binary.bigEndian).Uint32
theorem fn61 : FnIs Tryd.prog 61 13 [4] (cAU16 kn) := fnIs_of Tryd.func61 (by kernel_rfl) (by kernel_rfl) (by kernel_rfl) (by kernel_rfl) -- pub-kmsg/pub/kmsg/inner/kbin.AppendUint16
theorem fn47 : FnIs Tryd.prog 47 19 [4] (cAU32 kn) := fnIs_of Tryd.func47 (by kernel_rfl) (by kernel_rfl) (by kernel_rfl) (by kernel_rfl) -- pub-kmsg/pub/kmsg/inner/kbin.AppendUint32
theorem fn46 : FnIs Tryd.prog 46 9 [4] (cACv kn.tI16 kn.tU16 61) := fnIs_of Tryd.func46 (by kernel_rfl) (by kernel_rfl) (by kernel_rfl) (by kernel_rfl) -- pub-kmsg/pub/kmsg/inner/kbin.AppendInt16
theorem fn27 : FnIs Tryd.prog 27 9 [4] (cACv kn.tI32 kn.tU32 47) := fnIs_of Tryd.func27 (by kernel_rfl) (by kernel_rfl) (by kernel_rfl) (by kernel_rfl) -- pub-kmsg/pub/kmsg/inner/kbin.AppendInt32
theorem fn34 : FnIs Tryd.prog 34 9 [4] (cACv kn.tInt kn.tI32 27) := fnIs_of Tryd.func34 (by kernel_rfl) (by kernel_rfl) (by kernel_rfl) (by kernel_rfl) -- pub-kmsg/pub/kmsg/inner/kbin.AppendArrayLen
theorem fn33 : FnIs Tryd.prog 33 10 [4] (cACv1 kn 28) := fnIs_of Tryd.func33 (by kernel_rfl) (by kernel_rfl) (by kernel_rfl) (by kernel_rfl) -- pub-kmsg/pub/kmsg/inner/kbin.AppendCompactArrayLen
theorem fn24 : FnIs Tryd.prog 24 13 [4] (cAStr kn kn.tStr kn.tI16 46) := fnIs_of Tryd.func24 (by kernel_rfl) (by kernel_rfl) (by kernel_rfl) (by kernel_rfl) -- pub-kmsg/pub/kmsg/inner/kbin.AppendString
theorem fn23 : FnIs Tryd.prog 23 14 [4] (cACStr kn kn.tStr 28) := fnIs_of Tryd.func23 (by kernel_rfl) (by kernel_rfl) (by kernel_rfl) (by kernel_rfl) -- pub-kmsg/pub/kmsg/inner/kbin.AppendCompactString
theorem fn26 : FnIs Tryd.prog 26 14 [4] (cANStr kn 40 (.int .i16 (-1)) 46 24) := fnIs_of Tryd.func26 (by kernel_rfl) (by kernel_rfl) (by kernel_rfl) (by kernel_rfl) -- pub-kmsg/pub/kmsg/inner/kbin.AppendNullableString
theorem fn25 : FnIs Tryd.prog 25 14 [4] (cANStr kn 40 (.int .u32 0) 28 23) := fnIs_of Tryd.func25 (by kernel_rfl) (by kernel_rfl) (by kernel_rfl) (by kernel_rfl) -- pub-kmsg/pub/kmsg/inner/kbin.AppendCompactNullableString
theorem fn28 : FnIs Tryd.prog 28 93 [4] (cAUv kn 48) := fnIs_of Tryd.func28 (by kernel_rfl) (by kernel_rfl) (by kernel_rfl) (by kernel_rfl) -- pub-kmsg/pub/kmsg/inner/kbin.AppendUvarint
theorem fn48 : FnIs Tryd.prog 48 8 [2] (cUvLen kn 62) := fnIs_of Tryd.func48 (by kernel_rfl) (by kernel_rfl) (by kernel_rfl) (by kernel_rfl) -- pub-kmsg/pub/kmsg/inner/kbin.UvarintLen
theorem fn62 : FnIs Tryd.prog 62 19 [2] (cLen32 kn 51) := fnIs_of Tryd.func62 (by kernel_rfl) (by kernel_rfl) (by kernel_rfl) (by kernel_rfl) -- math/bits.Len32
theorem fn29 : FnIs Tryd.prog 29 8 [2] (cTLen kn 43 41) := fnIs_of Tryd.func29 (by kernel_rfl) (by kernel_rfl) (by kernel_rfl) (by kernel_rfl) -- (*pub-kmsg/pub/kmsg.Tags).Len
theorem fn11 : FnIs Tryd.prog 11 3 [0] (cNewPtr 45 21) := fnIs_of Tryd.func11 (by kernel_rfl) (by kernel_rfl) (by kernel_rfl) (by kernel_rfl) -- pub-kmsg/pub/kmsg.NewPtrApiVersionsRequest
theorem fn13 : FnIs Tryd.prog 13 8 [] (cSetV 45 29) := fnIs_of Tryd.func13 (by kernel_rfl) (by kernel_rfl) (by kernel_rfl) (by kernel_rfl) -- (*pub-kmsg/pub/kmsg.ApiVersionsRequest).SetVersion
theorem fn14 : FnIs Tryd.prog 14 8 [4] (cRdF 22) := fnIs_of Tryd.func14 (by kernel_rfl) (by kernel_rfl) (by kernel_rfl) (by kernel_rfl) -- (*pub-kmsg/pub/kmsg.ApiVersionsRequest).ReadFrom
theorem fn5 : FnIs Tryd.prog 5 4 [0] (cMax 29 3 11 12) := fnIs_of Tryd.func5 (by kernel_rfl) (by kernel_rfl) (by kernel_rfl) (by kernel_rfl) -- pub-kmsg/impl.MaxApiVersionsRequest
theorem fn12 : FnIs Tryd.prog 12 3 [2] (cMaxV 5) := fnIs_of Tryd.func12 (by kernel_rfl) (by kernel_rfl) (by kernel_rfl) (by kernel_rfl) -- (*pub-kmsg/pub/kmsg.ApiVersionsRequest).MaxVersion
theorem fn6 : FnIs Tryd.prog 6 19 [4, 5] (cAgain 29 3 22 35 11 13 14 15) := fnIs_of Tryd.func6 (by kernel_rfl) (by kernel_rfl) (by kernel_rfl) (by kernel_rfl) -- pub-kmsg/impl.AgainApiVersionsRequest
theorem fn3 : FnIs Tryd.prog 3 43 [4] (cAny 22 3 4 5 7 6 8) := fnIs_of Tryd.func3 (by kernel_rfl) (by kernel_rfl) (by kernel_rfl) (by kernel_rfl) -- pub-kmsg/laws.FnAnyApiVersionsRequest
theorem fn16 : FnIs Tryd.prog 16 3 [0] (cNewPtr 54 31) := fnIs_of Tryd.func16 (by kernel_rfl) (by kernel_rfl) (by kernel_rfl) (by kernel_rfl) -- pub-kmsg/pub/kmsg.NewPtrDescribeProducersRequest
theorem fn18 : FnIs Tryd.prog 18 8 [] (cSetV 54 29) := fnIs_of Tryd.func18 (by kernel_rfl) (by kernel_rfl) (by kernel_rfl) (by kernel_rfl) -- (*pub-kmsg/pub/kmsg.DescribeProducersRequest).SetVersion
theorem fn19 : FnIs Tryd.prog 19 8 [4] (cRdF 32) := fnIs_of Tryd.func19 (by kernel_rfl) (by kernel_rfl) (by kernel_rfl) (by kernel_rfl) -- (*pub-kmsg/pub/kmsg.DescribeProducersRequest).ReadFrom
theorem fn9 : FnIs Tryd.prog 9 4 [0] (cMax 29 3 16 17) := fnIs_of Tryd.func9 (by kernel_rfl) (by kernel_rfl) (by kernel_rfl) (by kernel_rfl) -- pub-kmsg/impl.MaxDescribeProducersRequest
theorem fn17 : FnIs Tryd.prog 17 3 [2] (cMaxV 0) := fnIs_of Tryd.func17 (by kernel_rfl) (by kernel_rfl) (by kernel_rfl) (by kernel_rfl) -- (*pub-kmsg/pub/kmsg.DescribeProducersRequest).MaxVersion
theorem fn10 : FnIs Tryd.prog 10 19 [4, 5] (cAgain 29 3 22 35 16 18 19 20) := fnIs_of Tryd.func10 (by kernel_rfl) (by kernel_rfl) (by kernel_rfl) (by kernel_rfl) -- pub-kmsg/impl.AgainDescribeProducersRequest
theorem fn4 : FnIs Tryd.prog 4 43 [4] (cAny 22 3 4 9 7 10 8) := fnIs_of Tryd.func4 (by kernel_rfl) (by kernel_rfl) (by kernel_rfl) (by kernel_rfl) -- pub-kmsg/laws.FnAnyDescribeProducersRequest
theorem fn7 : FnIs Tryd.prog 7 10 [4] (cVer 5 3) := fnIs_of Tryd.func7 (by kernel_rfl) (by kernel_rfl) (by kernel_rfl) (by kernel_rfl) -- pub-kmsg/laws.version
theorem fn8 : FnIs Tryd.prog 8 26 [4] (cSame 22 5 3) := fnIs_of Tryd.func8 (by kernel_rfl) (by kernel_rfl) (by kernel_rfl) (by kernel_rfl) -- pub-kmsg/spec.Same
theorem fn32 : FnIs Tryd.prog 32 125 [6] (gRead numbers true false ⟨true, 7, 10, 8, 9⟩ fsDescribeProducersRequest 31 54 2 0 23 nmDescribeProducersRequest) := fnIs_of Tryd.func32 (by kernel_rfl) (by kernel_rfl) (by kernel_rfl) (by kernel_rfl) -- (*pub-kmsg/pub/kmsg.DescribeProducersRequest).readFrom
theorem fn20 : FnIs Tryd.prog 20 110 [4] (gWrite numbersW false ⟨true, 0, 0, 5, 6⟩ fsDescribeProducersRequest 54 2 0 0 14 nwDescribeProducersRequest) := fnIs_of Tryd.func20 (by kernel_rfl) (by kernel_rfl) (by kernel_rfl) (by kernel_rfl) -- (*pub-kmsg/pub/kmsg.DescribeProducersRequest).AppendTo
def di31 : List DI := []
theorem fn31 : FnIs Tryd.prog 31 2 [] (gDflt di31 2) := fnIs_of Tryd.func31 (by kernel_rfl) (by kernel_rfl) (by kernel_rfl) (by kernel_rfl) -- (*pub-kmsg/pub/kmsg.DescribeProducersRequest).Default
noncomputable def dw31 : List (Nat × Value) := (dRun Tryd.prog 2 di31 [(0, 0)]).getD []
theorem df31 : Ent Tryd.prog 31 ∧ DfC Tryd.prog 31 dw31 := dfC_of (n0 := 2) (items := di31) (by kernel_rfl) fn31 (by kernel_rfl) (of_decide_eq_true (by kernel_rfl)) (by omega)
def di54 : List DI := []
theorem fn54 : FnIs Tryd.prog 54 2 [] (gDflt di54 2) := fnIs_of Tryd.func54 (by kernel_rfl) (by kernel_rfl) (by kernel_rfl) (by kernel_rfl) -- (*pub-kmsg/pub/kmsg.DescribeProducersRequestTopic).Default
noncomputable def dw54 : List (Nat × Value) := (dRun Tryd.prog 2 di54 [(0, 0)]).getD []
theorem df54 : Ent Tryd.prog 54 ∧ DfC Tryd.prog 54 dw54 := dfC_of (n0 := 2) (items := di54) (by kernel_rfl) fn54 (by kernel_rfl) (of_decide_eq_true (by kernel_rfl)) (by omega)
noncomputable def dd : Nat → Option (List (Nat × Value))
  | 31 => some dw31
  | 54 => some dw54
  | _ => none
theorem ddOk : ∀ f wr, dd f = some wr → Ent Tryd.prog f ∧ DfC Tryd.prog f wr := by
  intro f wr h
  unfold dd at h
  split at h
  · obtain rfl := Option.some.inj h; exact df31
  · obtain rfl := Option.some.inj h; exact df54
  · cases h
theorem kt : KT Tryd.prog numbers kn where
  mixed := mixed
  f0 := fldB_ok (by kernel_rfl)
  f1 := fldB_ok (by kernel_rfl)
  sl := by kernel_rfl
  u8 := varB_ok (by kernel_rfl)
  dU8 := by kernel_rfl
  dI8 := fun h => absurd h (by decide)
  dI16 := by kernel_rfl
  dI32 := by kernel_rfl
  dU32 := by kernel_rfl
  dInt := by kernel_rfl
theorem kbig : KBig Tryd.prog kn where
  be := varB_ok (by kernel_rfl)
  d16 := by kernel_rfl
  d64 := fun h => absurd h (by decide)
  dI64 := fun h => absurd h (by decide)
  f16 := fun _ => fn66
  f32 := fun _ => fn59
  f64 := fun h => absurd h (by decide)
theorem ksub : KSub Tryd.prog numbers kn kn.tRS where
  e16 := fun _ => fn58.ent
  c16 := fun _ w S R r hR hRS => (i16_calls kt kbig rfl fn58 (by omega) hR hRS).mono fun e w' h => (fun h => ⟨h.1, h.2.1, h.2.2.1⟩) (rdOk_int (p := .i16) (.inr (.inl ⟨rfl, rfl⟩)) rfl h)
  e32 := fun _ => fn43.ent
  c32 := fun _ w S R r hR hRS => (i32_calls kt kbig rfl fn43 (by omega) hR hRS).mono fun e w' h => (fun h => ⟨h.1, h.2.1, h.2.2.1⟩) (rdOk_int (p := .i32) (.inr (.inr (.inl ⟨rfl, rfl⟩))) rfl h)
  eU := fun _ => fn55.ent
  cU := fun _ w S R r hR hRS => uv_calls kt fn65 (by omega) fn55 (by omega) hR hRS
  eS := fun _ => fn57.ent
  cS := fun _ w S R r k hR hRS => span_calls kt fn57 (by omega) hR hRS
  dStr := by kernel_rfl
  vStr := varB_ok (by kernel_rfl)
  zStr := zeroOf_ok (by kernel_rfl)
def tn : TN := { tTags := 43, tM := 41, tKs := 83, tU32 := 51, tInt := 3, tSl := 22, fSort := 63, fLess := 64, fEach := 49, fOne := 50, fUv := 28 }
theorem fn49 : FnIs Tryd.prog 49 53 [] (cEach tn) := fnIs_of Tryd.func49 (by kernel_rfl) (by kernel_rfl) (by kernel_rfl) (by kernel_rfl) -- (*pub-kmsg/pub/kmsg.Tags).Each
theorem fn64 : FnIs Tryd.prog 64 15 [5] (cTLess tn) := fnIs_of Tryd.func64 (by kernel_rfl) (by kernel_rfl) (by kernel_rfl) (by kernel_rfl) -- (*pub-kmsg/pub/kmsg.Tags).Each$1
theorem fn30 : FnIs Tryd.prog 30 9 [4] (cTEach tn) := fnIs_of Tryd.func30 (by kernel_rfl) (by kernel_rfl) (by kernel_rfl) (by kernel_rfl) -- (*pub-kmsg/pub/kmsg.Tags).AppendEach
theorem fn50 : FnIs Tryd.prog 50 16 [] (cTOne tn) := fnIs_of Tryd.func50 (by kernel_rfl) (by kernel_rfl) (by kernel_rfl) (by kernel_rfl) -- (*pub-kmsg/pub/kmsg.Tags).AppendEach$1
theorem tf : TF Tryd.prog tn where
  map := ⟨51, 22, by kernel_rfl, by kernel_rfl⟩
  fld := fldB_ok (by kernel_rfl)
  sl := by kernel_rfl
  info := infoB_ok (by kernel_rfl)
  vU := varB_ok (by kernel_rfl)
  vK := varB_ok (by kernel_rfl)
  zK := zeroOf_ok (by kernel_rfl)
  dInt := by kernel_rfl
  dU32 := by kernel_rfl
theorem sortOk : SortOk Tryd.prog tn := sortOk_of (it := (Tryd.prog.info? 83).get (by kernel_rfl)) (ie := (Tryd.prog.info? 51).get (by kernel_rfl)) (ke := 10) (f1 := 72) (f2 := 73) (f6 := 77) mixed tf Tryd.sa6 rfl (enters_of Tryd.func63 (by kernel_rfl) rfl) fn64 (by omega) (by kernel_rfl) (by kernel_rfl) (by kernel_rfl) (by kernel_rfl) (fun _ => by kernel_rfl) (by kernel_rfl) (by kernel_rfl) (by kernel_rfl) fn64.ent (by kernel_rfl) (by kernel_rfl) (by kernel_rfl) (fun args W => run_callFunc_extern Tryd.func77 (by kernel_rfl) (by kernel_rfl) (by kernel_rfl) (e := Extern.ReflectliteSwapper.swap true) (by kernel_rfl) args W)
theorem setOk : SetOk Tryd.prog numbers.set := fun _ _ _ _ _ _ _ _ _ _ hk hB hO ht hv => set_calls (tM := 41) (kt := 51) (et := 22) mixed fn60 (by omega) (by kernel_rfl) (by kernel_rfl) (fldB_ok (by kernel_rfl)) hk hB hO ht hv
def av : PF → Bool
  | .i16 => true
  | .i32 => true
  | .str => true
  | .cstr => true
  | .nstr => true
  | .cnstr => true
  | _ => false
theorem rdAll : ∀ p, av p = true → RdOk Tryd.prog numbers.tR p (numbers.rd p) := by
  intro p h
  cases p
  · cases h
  · cases h
  · exact rdOk_i16 kt kbig rfl fn58 (by omega)
  · cases h
  · exact rdOk_i32 kt kbig rfl fn43 (by omega)
  · cases h
  · cases h
  · exact rdOk_str kt ksub rfl rfl fn38 (by omega)
  · exact rdOk_cstr kt ksub rfl rfl fn37 (by omega)
  · exact rdOk_nstr kt ksub rfl rfl fn42 (by omega)
  · exact rdOk_cnstr kt ksub rfl rfl fn40 (by omega)
  · cases h
  · cases h
  · cases h
  · cases h
theorem kb : KB Tryd.prog numbers av true where
  mixed := mixed
  rdE p h := (rdAll p h).1
  rdC p h := (rdAll p h).2
  i8C := fun h => absurd h (by decide)
  okE := fun _ => fn53.ent
  okC := fun _ w S R r hR => ok_calls kt fn53 (by omega) hR
  cmE := fn45.ent
  cmC w S R r hR he := complete_calls kt fn45 (by omega) (varB_ok (by kernel_rfl)) hR he
  lenE := fun _ => fn52.ent
  lenC := fun _ w S R r hR hRS => len_calls kt ksub rfl fn52 (by omega) hR hRS
  clenE := fun _ _ => fn51.ent
  clenC := fun _ _ w S R r hR hRS => clen_calls kt ksub rfl fn51 (by omega) hR hRS
  uvE := fun _ => fn55.ent
  uvC := fun _ w S R r hR hRS => ksub.cU rfl w S R r hR hRS
  spanE := fun _ => fn57.ent
  spanC := fun _ w S R r k _ _ hR hRS => ksub.cS rfl w S R r k hR hRS
  tagsE := fun _ => fn44.ent
  tagsC := fun _ w S R r hR hRS hS => rdTags_calls kt ksub rfl rfl rfl fn60.ent setOk (zeroOf_ok (by kernel_rfl)) (varB_ok (by kernel_rfl)) fn44 (by omega) hR hRS hS
  setE := fun _ => fn60.ent
  setC := fun _ => setOk
  fR := twoB_ok (by kernel_rfl)
  zR := zeroOf_ok (by kernel_rfl)
  vR := varB_ok (by kernel_rfl)
  uuid := fun h => absurd h (by decide)
  tI32 := by kernel_rfl
  tU32 := fun _ => by kernel_rfl
  tInt := by kernel_rfl
  vStr := ⟨varB_ok (by kernel_rfl), zeroOf_ok (by kernel_rfl)⟩
  vTags := fun _ => varB_ok (by kernel_rfl)
  tErr := fun _ => ifaceB_ok (by kernel_rfl)
theorem env : Env Tryd.prog numbers av true dd := ⟨kb, ddOk⟩
theorem oct : OctT Tryd.prog kn.tSl kn.tU8 := octB_ok (by kernel_rfl)
theorem wt : WT Tryd.prog kn where
  mixed := mixed
  oct := oct
  dU8 := by kernel_rfl
  dI8 := fun h => absurd h (by decide)
  dI16 := by kernel_rfl
  dU16 := by kernel_rfl
  dI32 := by kernel_rfl
  dU32 := by kernel_rfl
  dInt := by kernel_rfl
  dI64 := fun _ => by kernel_rfl
  dU64 := fun _ => by kernel_rfl
  dStr := by kernel_rfl
  vStr := varB_ok (by kernel_rfl)
theorem uvC (x : Nat) (w : World) (h : x < 4294967296) : ApC Tryd.prog kn.tU8 numbersW.uv (.int .u32 x) (uvar x) w := ap_uv wt (by kernel_rfl) fn62 (by omega) fn48 (by omega) fn28 (by omega) h w
theorem i16C (x : Int) (w : World) : ApC Tryd.prog kn.tU8 46 (.int .i16 x) (be 2 x) w := ap_i16 wt fn61 (by omega) fn46 (by omega) x w
theorem i32C (x : Int) (w : World) : ApC Tryd.prog kn.tU8 27 (.int .i32 x) (be 4 x) w := ap_i32 wt fn47 (by omega) fn27 (by omega) x w
def avw : PF → Bool
  | .i16 => true
  | .u16 => true
  | .i32 => true
  | .str => true
  | .cstr => true
  | .nstr => true
  | .cnstr => true
  | _ => false
theorem apAll : ∀ p, avw p = true → AppOk Tryd.prog kn.tU8 p (numbersW.ap p) := by
  intro p h
  cases p
  · cases h
  · cases h
  · exact app_i16 wt fn61 (by omega) fn46 (by omega)
  · exact app_u16 wt fn61 (by omega)
  · exact app_i32 wt fn47 (by omega) fn27 (by omega)
  · cases h
  · cases h
  · exact app_str wt (app_i16 wt fn61 (by omega) fn46 (by omega)) i16C fn24 (by omega)
  · exact app_cstr wt fn28.ent (fun x w h => uvC x w h) fn23 (by omega)
  · exact app_nstr wt (fx := false) rfl (by kernel_rfl) fn46.ent (fun w => i16C (-1) w) (app_str wt (app_i16 wt fn61 (by omega) fn46 (by omega)) i16C fn24 (by omega)) fn26 (by omega)
  · exact app_nstr wt (fx := true) rfl (by kernel_rfl) fn28.ent (fun w => uvC 0 w (by omega)) (app_cstr wt fn28.ent (fun x w h => uvC x w h) fn23 (by omega)) fn25 (by omega)
  · cases h
  · cases h
  · cases h
  · cases h
theorem kw : KW Tryd.prog numbersW avw true false kn.tU8 where
  mixed := mixed
  oct := oct
  dInt := by kernel_rfl
  dU32 := fun _ => by kernel_rfl
  apE p h := (apAll p h).1
  apC p h := (apAll p h).2
  alE := fun _ => fn34.ent
  alC := fun _ n w => ap_len wt fn27.ent i32C fn34 (by omega) n w
  clE := fun _ _ => fn33.ent
  clC := fun _ _ n w => ap_clen wt fn28.ent (fun x w h => uvC x w h) fn33 (by omega) n w
  nlE := fun h => absurd h (by decide)
  nlC := fun h => absurd h (by decide)
  cnE := fun h => absurd h (by decide)
  cnC := fun h => absurd h (by decide)
  uvE := fun _ => fn28.ent
  uvC := fun _ x w h => uvC x w h
  tlE := fun _ => fn29.ent
  tlC := fun _ w b o m X t hc ht => tlen_calls (kt := 51) (et := 22) mixed (by kernel_rfl) (fldB_ok (by kernel_rfl)) fn29 (by omega) hc ht
  teE := fun _ => fn30.ent
  teC := fun _ w b o m L t d bs hc hb ht hd hL hlim => teach_calls mixed tf sortOk oct (varB_ok (by kernel_rfl)) fn28.ent (fun x w h => uvC x w h) fn49 (by omega) fn50 (by omega) fn30 (by omega) hc hb ht hd hL hlim
  uuid := fun h => absurd h (by decide)
noncomputable def zv : Value := (zeroOf Tryd.prog 54).getD undef
noncomputable def zz : Array Value := applyWr zv.cells 0 dw31
theorem msg : MsgC Tryd.prog numbers.gErr kn.tU8 false true 0 fsDescribeProducersRequest (some 2) 54 zz 16 18 19 20 :=
  msgC_of (cx := ⟨true, 7, 10, 8, 9⟩) (cw := ⟨true, 0, 0, 5, 6⟩) (nm := nmDescribeProducersRequest) (ms := nwDescribeProducersRequest) (tI16 := 29) env kw (by decide) (by decide) rfl rfl fn16 (by omega) fn18 (by omega) fn19 (by omega) fn32 (by omega) fn20 (by kernel_rfl) (by kernel_rfl) rfl (of_decide_eq_true (by kernel_rfl)) (by kernel_rfl) (by kernel_rfl) rfl (by kernel_rfl) (by kernel_rfl)
theorem law {w : World} {x0 : Nat} {srcv : Value} {l : Bs} (hx : x0 < 256) (hsrc : SlRp w (fun _ => False) srcv l) (herr : ErrAt numbers.gErr w) : Calls Tryd.prog 4 #[.int .u8 x0, srcv] w fun e w' => e = .returned (.bool true) ∧ Keeps (fun _ => False) w w' :=
  any_law (most := 0) (tErr := 35) mixed msg oct (varB_ok (by kernel_rfl)) (by kernel_rfl) (by kernel_rfl) (by kernel_rfl) (ifaceB_ok (by kernel_rfl)) fn10 (by omega) fn7 (by omega) fn8 (by omega) fn9 (by omega) fn17 (by omega) (by omega) fn4 (by omega) (by kernel_rfl) hx hsrc herr
end Go.Proofs.YtmkioomgfdpeiaaDoor.Kx
