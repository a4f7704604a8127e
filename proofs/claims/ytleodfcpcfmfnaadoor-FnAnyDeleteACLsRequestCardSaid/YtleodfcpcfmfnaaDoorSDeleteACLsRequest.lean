/-
  FnAnyDeleteACLsRequest: the numbers of the program, the code of its functions, and the law out of them.
-/
import Derived.Test.YtleodfcpcfmfnaaDoorChecked
import Derived.Test.YtleodfcpcfmfnaaDoorK6
import Derived.KernelRfl
import Derived.Test.YtleodfcpcfmfnaaDoorSh
namespace Go.Proofs.YtleodfcpcfmfnaaDoor.Kx
open Go Go.Proofs
set_option maxRecDepth 100000
def numbers : G := { rd := fun | .bool => 999999 | .i8 => 68 | .i16 => 56 | .u16 => 999999 | .i32 => 55 | .i64 => 999999 | .uuid => 999999 | .str => 999999 | .cstr => 999999 | .nstr => 72 | .cnstr => 70 | .bytes => 999999 | .cbytes => 999999 | .nbytes => 999999 | .cnbytes => 999999, un := fun | .str => 999999 | .cstr => 999999 | .nstr => 71 | .cnstr => 69 | _ => 999999, len := 65, clen := 64, ok := 66, complete := 58, uv := 77, span := 79, tags := 57, set := 78, tR := 99, tUuid := 999999, tVer := 41, tI8 := 81, tI32 := 21, tU32 := 55, tInt := 3, tBool := 4, tErr := 50, tTags := 61, tSl := 22, tStr := 9, gErr := 1 }
def numbersW : GW := { ap := fun | .bool => 999999 | .i8 => 46 | .i16 => 38 | .u16 => 60 | .i32 => 37 | .i64 => 999999 | .uuid => 999999 | .str => 74 | .cstr => 73 | .nstr => 48 | .cnstr => 47 | .bytes => 999999 | .cbytes => 999999 | .nbytes => 999999 | .cnbytes => 999999, alen := 45, calen := 44, nalen := 999999, cnalen := 999999, uv := 39, tlen := 40, teach := 41, tVer := 41, tInt := 3, tU32 := 55, tSl := 22, tUuid := 999999 }
def kn : Kn := { tRS := 99, tSl := 22, tB := 4, tInt := 3, tU8 := 5, tI8 := 81, tI16 := 41, tU16 := 105, tI32 := 21, tU32 := 55, tI64 := 2, tU64 := 70, tStr := 9, tUuid := 999999, tBE := 115, tErr := 50, gBE := 0, gErr := 1, fU16 := 76, fU32 := 75, fU64 := 999999, fUv := 84, fR64 := 999999 }
theorem mixed : Tryd.prog.follows .mixedOrders = true := by kernel_rfl
def fsDeleteACLsRequest : Fds := (.cons 0 none none (0) 1 (.list none 8 (.struct none (some 7) (.cons 0 none none (0) 0 (.prim .i8) (.cons 0 none none (0) 1 (.str (some 0)) (.cons 1 none none (3) 2 (.prim .i8) (.cons 0 none none (0) 3 (.str (some 0)) (.cons 0 none none (0) 4 (.str (some 0)) (.cons 0 none none (0) 5 (.prim .i8) (.cons 0 none none (0) 6 (.prim .i8) .nil))))))))) .nil)
def nmDeleteACLsRequest : Nm := (.mk [] [(.mk [11, 78, 1, 76, 12, 13, 14, 0, 1] [(.mk [15, 16, 67, 88, 7] [(.mk [] [(.mk [19, 88, 0, 82, 17, 18] []), (.mk [20, 88, 1, 83] []), (.mk [23, 88, 2, 84, 21, 22] []), (.mk [24, 88, 3, 83] []), (.mk [25, 88, 4, 83] []), (.mk [28, 88, 5, 85, 26, 27] []), (.mk [31, 88, 6, 86, 29, 30] [])])])])])
def nwDeleteACLsRequest : List Nm := [(.mk [7, 78, 1, 76, 8, 0, 1] [(.mk [9, 88, 7] [(.mk [] [(.mk [10, 88, 0, 82, 11] []), (.mk [12, 88, 1, 83] []), (.mk [13, 88, 2, 84, 14] []), (.mk [15, 88, 3, 83] []), (.mk [16, 88, 4, 83] []), (.mk [17, 88, 5, 85, 18] []), (.mk [19, 88, 6, 86, 20] [])])])])]
theorem fn68 : FnIs Tryd.prog 68 32 [2] (cI8 kn) := fnIs_of Tryd.func68 (by kernel_rfl) (by kernel_rfl) (by kernel_rfl) (by kernel_rfl) -- (*pub-kmsg/pub/kmsg/inner/kbin.Reader).Int8
theorem fn56 : FnIs Tryd.prog 56 32 [2] (cI16 kn) := fnIs_of Tryd.func56 (by kernel_rfl) (by kernel_rfl) (by kernel_rfl) (by kernel_rfl) -- (*pub-kmsg/pub/kmsg/inner/kbin.Reader).Int16
theorem fn55 : FnIs Tryd.prog 55 32 [2] (cI32 kn) := fnIs_of Tryd.func55 (by kernel_rfl) (by kernel_rfl) (by kernel_rfl) (by kernel_rfl) -- (*pub-kmsg/pub/kmsg/inner/kbin.Reader).Int32
theorem fn84 : FnIs Tryd.prog 84 87 [2, 3] (cUvIn kn) := fnIs_of Tryd.func84 (by kernel_rfl) (by kernel_rfl) (by kernel_rfl) (by kernel_rfl) -- pub-kmsg/pub/kmsg/inner/kbin.Uvarint
theorem fn77 : FnIs Tryd.prog 77 31 [2] (cUv kn) := fnIs_of Tryd.func77 (by kernel_rfl) (by kernel_rfl) (by kernel_rfl) (by kernel_rfl) -- (*pub-kmsg/pub/kmsg/inner/kbin.Reader).Uvarint
theorem fn57 : FnIsC Tryd.prog 57 24 2 61 (cRdTags numbers kn) := fnIsC_of Tryd.func57 (by kernel_rfl) (by kernel_rfl) (by kernel_rfl) (by kernel_rfl) -- pub-kmsg/pub/kmsg.internalReadTags
theorem fn78 : FnIs Tryd.prog 78 21 [] (cSet numbers 59) := fnIs_of Tryd.func78 (by kernel_rfl) (by kernel_rfl) (by kernel_rfl) (by kernel_rfl) -- (*pub-kmsg/pub/kmsg.Tags).Set
theorem fn66 : FnIs Tryd.prog 66 8 [2] (cOk kn) := fnIs_of Tryd.func66 (by kernel_rfl) (by kernel_rfl) (by kernel_rfl) (by kernel_rfl) -- (*pub-kmsg/pub/kmsg/inner/kbin.Reader).Ok
theorem fn58 : FnIs Tryd.prog 58 8 [2] (cComplete kn) := fnIs_of Tryd.func58 (by kernel_rfl) (by kernel_rfl) (by kernel_rfl) (by kernel_rfl) -- (*pub-kmsg/pub/kmsg/inner/kbin.Reader).Complete
theorem fn79 : FnIs Tryd.prog 79 40 [4] (cSpan kn) := fnIs_of Tryd.func79 (by kernel_rfl) (by kernel_rfl) (by kernel_rfl) (by kernel_rfl) -- (*pub-kmsg/pub/kmsg/inner/kbin.Reader).Span
theorem fn72 : FnIs Tryd.prog 72 14 [2] (cNStr numbers kn) := fnIs_of Tryd.func72 (by kernel_rfl) (by kernel_rfl) (by kernel_rfl) (by kernel_rfl) -- (*pub-kmsg/pub/kmsg/inner/kbin.Reader).NullableString
theorem fn70 : FnIs Tryd.prog 70 15 [2] (cCNStr numbers kn) := fnIs_of Tryd.func70 (by kernel_rfl) (by kernel_rfl) (by kernel_rfl) (by kernel_rfl) -- (*pub-kmsg/pub/kmsg/inner/kbin.Reader).CompactNullableString
theorem fn65 : FnIs Tryd.prog 65 21 [2] (cLen numbers kn) := fnIs_of Tryd.func65 (by kernel_rfl) (by kernel_rfl) (by kernel_rfl) (by kernel_rfl) -- (*pub-kmsg/pub/kmsg/inner/kbin.Reader).ArrayLen
theorem fn64 : FnIs Tryd.prog 64 23 [2] (cCLen numbers kn) := fnIs_of Tryd.func64 (by kernel_rfl) (by kernel_rfl) (by kernel_rfl) (by kernel_rfl) -- (*pub-kmsg/pub/kmsg/inner/kbin.Reader).CompactArrayLen
theorem fn76 : FnIs Tryd.prog 76 18 [4] (gBig kn kn.tU16 .u16 2) := fnIs_of Tryd.func76 (by kernel_rfl) (by kernel_rfl) (by kernel_rfl) (by kernel_rfl) -- (encoding/binary.bigEndian).Uint16
theorem fn75 : FnIs Tryd.prog 75 30 [4] (gBig kn kn.tU32 .u32 4) := fnIs_of Tryd.func75 (by kernel_rfl) (by kernel_rfl) (by kernel_rfl) (by kernel_rfl) -- (encoding/binary.bigEndian).Uint32
theorem fn46 : FnIs Tryd.prog 46 10 [4] (cAI8 kn) := fnIs_of Tryd.func46 (by kernel_rfl) (by kernel_rfl) (by kernel_rfl) (by kernel_rfl) -- pub-kmsg/pub/kmsg/inner/kbin.AppendInt8
theorem fn60 : FnIs Tryd.prog 60 13 [4] (cAU16 kn) := fnIs_of Tryd.func60 (by kernel_rfl) (by kernel_rfl) (by kernel_rfl) (by kernel_rfl) -- pub-kmsg/pub/kmsg/inner/kbin.AppendUint16
theorem fn59 : FnIs Tryd.prog 59 19 [4] (cAU32 kn) := fnIs_of Tryd.func59 (by kernel_rfl) (by kernel_rfl) (by kernel_rfl) (by kernel_rfl) -- pub-kmsg/pub/kmsg/inner/kbin.AppendUint32
theorem fn38 : FnIs Tryd.prog 38 9 [4] (cACv kn.tI16 kn.tU16 60) := fnIs_of Tryd.func38 (by kernel_rfl) (by kernel_rfl) (by kernel_rfl) (by kernel_rfl) -- pub-kmsg/pub/kmsg/inner/kbin.AppendInt16
theorem fn37 : FnIs Tryd.prog 37 9 [4] (cACv kn.tI32 kn.tU32 59) := fnIs_of Tryd.func37 (by kernel_rfl) (by kernel_rfl) (by kernel_rfl) (by kernel_rfl) -- pub-kmsg/pub/kmsg/inner/kbin.AppendInt32
theorem fn45 : FnIs Tryd.prog 45 9 [4] (cACv kn.tInt kn.tI32 37) := fnIs_of Tryd.func45 (by kernel_rfl) (by kernel_rfl) (by kernel_rfl) (by kernel_rfl) -- pub-kmsg/pub/kmsg/inner/kbin.AppendArrayLen
theorem fn44 : FnIs Tryd.prog 44 10 [4] (cACv1 kn 39) := fnIs_of Tryd.func44 (by kernel_rfl) (by kernel_rfl) (by kernel_rfl) (by kernel_rfl) -- pub-kmsg/pub/kmsg/inner/kbin.AppendCompactArrayLen
theorem fn74 : FnIs Tryd.prog 74 13 [4] (cAStr kn kn.tStr kn.tI16 38) := fnIs_of Tryd.func74 (by kernel_rfl) (by kernel_rfl) (by kernel_rfl) (by kernel_rfl) -- pub-kmsg/pub/kmsg/inner/kbin.AppendString
theorem fn73 : FnIs Tryd.prog 73 14 [4] (cACStr kn kn.tStr 39) := fnIs_of Tryd.func73 (by kernel_rfl) (by kernel_rfl) (by kernel_rfl) (by kernel_rfl) -- pub-kmsg/pub/kmsg/inner/kbin.AppendCompactString
theorem fn48 : FnIs Tryd.prog 48 14 [4] (cANStr kn 83 (.int .i16 (-1)) 38 74) := fnIs_of Tryd.func48 (by kernel_rfl) (by kernel_rfl) (by kernel_rfl) (by kernel_rfl) -- pub-kmsg/pub/kmsg/inner/kbin.AppendNullableString
theorem fn47 : FnIs Tryd.prog 47 14 [4] (cANStr kn 83 (.int .u32 0) 39 73) := fnIs_of Tryd.func47 (by kernel_rfl) (by kernel_rfl) (by kernel_rfl) (by kernel_rfl) -- pub-kmsg/pub/kmsg/inner/kbin.AppendCompactNullableString
theorem fn39 : FnIs Tryd.prog 39 93 [4] (cAUv kn 61) := fnIs_of Tryd.func39 (by kernel_rfl) (by kernel_rfl) (by kernel_rfl) (by kernel_rfl) -- pub-kmsg/pub/kmsg/inner/kbin.AppendUvarint
theorem fn61 : FnIs Tryd.prog 61 8 [2] (cUvLen kn 80) := fnIs_of Tryd.func61 (by kernel_rfl) (by kernel_rfl) (by kernel_rfl) (by kernel_rfl) -- pub-kmsg/pub/kmsg/inner/kbin.UvarintLen
theorem fn80 : FnIs Tryd.prog 80 19 [2] (cLen32 kn 55) := fnIs_of Tryd.func80 (by kernel_rfl) (by kernel_rfl) (by kernel_rfl) (by kernel_rfl) -- math/bits.Len32
theorem fn40 : FnIs Tryd.prog 40 8 [2] (cTLen kn 61 59) := fnIs_of Tryd.func40 (by kernel_rfl) (by kernel_rfl) (by kernel_rfl) (by kernel_rfl) -- (*pub-kmsg/pub/kmsg.Tags).Len
theorem fn15 : FnIs Tryd.prog 15 3 [0] (cNewPtr 63 27) := fnIs_of Tryd.func15 (by kernel_rfl) (by kernel_rfl) (by kernel_rfl) (by kernel_rfl) -- pub-kmsg/pub/kmsg.NewPtrHeartbeatResponse
theorem fn18 : FnIs Tryd.prog 18 8 [] (cSetV 63 41) := fnIs_of Tryd.func18 (by kernel_rfl) (by kernel_rfl) (by kernel_rfl) (by kernel_rfl) -- (*pub-kmsg/pub/kmsg.HeartbeatResponse).SetVersion
theorem fn19 : FnIs Tryd.prog 19 8 [4] (cRdF 36) := fnIs_of Tryd.func19 (by kernel_rfl) (by kernel_rfl) (by kernel_rfl) (by kernel_rfl) -- (*pub-kmsg/pub/kmsg.HeartbeatResponse).ReadFrom
theorem fn6 : FnIs Tryd.prog 6 4 [0] (cMax 41 3 15 16) := fnIs_of Tryd.func6 (by kernel_rfl) (by kernel_rfl) (by kernel_rfl) (by kernel_rfl) -- pub-kmsg/impl.MaxHeartbeatResponse
theorem fn16 : FnIs Tryd.prog 16 3 [2] (cMaxV 4) := fnIs_of Tryd.func16 (by kernel_rfl) (by kernel_rfl) (by kernel_rfl) (by kernel_rfl) -- (*pub-kmsg/pub/kmsg.HeartbeatResponse).MaxVersion
theorem fn10 : FnIs Tryd.prog 10 19 [4, 5] (cAgain 41 3 22 50 15 18 19 20) := fnIs_of Tryd.func10 (by kernel_rfl) (by kernel_rfl) (by kernel_rfl) (by kernel_rfl) -- pub-kmsg/impl.AgainHeartbeatResponse
theorem fn21 : FnIs Tryd.prog 21 3 [0] (cNewPtr 78 42) := fnIs_of Tryd.func21 (by kernel_rfl) (by kernel_rfl) (by kernel_rfl) (by kernel_rfl) -- pub-kmsg/pub/kmsg.NewPtrDeleteACLsRequest
theorem fn23 : FnIs Tryd.prog 23 8 [] (cSetV 78 41) := fnIs_of Tryd.func23 (by kernel_rfl) (by kernel_rfl) (by kernel_rfl) (by kernel_rfl) -- (*pub-kmsg/pub/kmsg.DeleteACLsRequest).SetVersion
theorem fn24 : FnIs Tryd.prog 24 8 [4] (cRdF 43) := fnIs_of Tryd.func24 (by kernel_rfl) (by kernel_rfl) (by kernel_rfl) (by kernel_rfl) -- (*pub-kmsg/pub/kmsg.DeleteACLsRequest).ReadFrom
theorem fn12 : FnIs Tryd.prog 12 4 [0] (cMax 41 3 21 22) := fnIs_of Tryd.func12 (by kernel_rfl) (by kernel_rfl) (by kernel_rfl) (by kernel_rfl) -- pub-kmsg/impl.MaxDeleteACLsRequest
theorem fn22 : FnIs Tryd.prog 22 3 [2] (cMaxV 3) := fnIs_of Tryd.func22 (by kernel_rfl) (by kernel_rfl) (by kernel_rfl) (by kernel_rfl) -- (*pub-kmsg/pub/kmsg.DeleteACLsRequest).MaxVersion
theorem fn13 : FnIs Tryd.prog 13 19 [4, 5] (cAgain 41 3 22 50 21 23 24 25) := fnIs_of Tryd.func13 (by kernel_rfl) (by kernel_rfl) (by kernel_rfl) (by kernel_rfl) -- pub-kmsg/impl.AgainDeleteACLsRequest
theorem fn4 : FnIs Tryd.prog 4 43 [4] (cAny 22 3 4 12 9 13 11) := fnIs_of Tryd.func4 (by kernel_rfl) (by kernel_rfl) (by kernel_rfl) (by kernel_rfl) -- pub-kmsg/laws.FnAnyDeleteACLsRequest
theorem fn9 : FnIs Tryd.prog 9 10 [4] (cVer 5 3) := fnIs_of Tryd.func9 (by kernel_rfl) (by kernel_rfl) (by kernel_rfl) (by kernel_rfl) -- pub-kmsg/laws.version
theorem fn11 : FnIs Tryd.prog 11 26 [4] (cSame 22 5 3) := fnIs_of Tryd.func11 (by kernel_rfl) (by kernel_rfl) (by kernel_rfl) (by kernel_rfl) -- pub-kmsg/spec.Same
theorem fn43 : FnIs Tryd.prog 43 153 [6] (gRead numbers true false ⟨true, 7, 10, 8, 9⟩ fsDeleteACLsRequest 42 78 2 2 32 nmDeleteACLsRequest) := fnIs_of Tryd.func43 (by kernel_rfl) (by kernel_rfl) (by kernel_rfl) (by kernel_rfl) -- (*pub-kmsg/pub/kmsg.DeleteACLsRequest).readFrom
theorem fn25 : FnIs Tryd.prog 25 147 [4] (gWrite numbersW false ⟨true, 0, 0, 5, 6⟩ fsDeleteACLsRequest 78 2 2 0 21 nwDeleteACLsRequest) := fnIs_of Tryd.func25 (by kernel_rfl) (by kernel_rfl) (by kernel_rfl) (by kernel_rfl) -- (*pub-kmsg/pub/kmsg.DeleteACLsRequest).AppendTo
def di42 : List DI := []
theorem fn42 : FnIs Tryd.prog 42 2 [] (gDflt di42 2) := fnIs_of Tryd.func42 (by kernel_rfl) (by kernel_rfl) (by kernel_rfl) (by kernel_rfl) -- (*pub-kmsg/pub/kmsg.DeleteACLsRequest).Default
noncomputable def dw42 : List (Nat × Value) := (dRun Tryd.prog 2 di42 [(0, 0)]).getD []
theorem df42 : Ent Tryd.prog 42 ∧ DfC Tryd.prog 42 dw42 := dfC_of (n0 := 2) (items := di42) (by kernel_rfl) fn42 (by kernel_rfl) (of_decide_eq_true (by kernel_rfl)) (by omega)
def di67 : List DI := [.st 0 88 2 84 (.int .i8 (3))]
theorem fn67 : FnIs Tryd.prog 67 5 [] (gDflt di67 2) := fnIs_of Tryd.func67 (by kernel_rfl) (by kernel_rfl) (by kernel_rfl) (by kernel_rfl) -- (*pub-kmsg/pub/kmsg.DeleteACLsRequestFilter).Default
noncomputable def dw67 : List (Nat × Value) := (dRun Tryd.prog 2 di67 [(0, 0)]).getD []
theorem df67 : Ent Tryd.prog 67 ∧ DfC Tryd.prog 67 dw67 := dfC_of (n0 := 2) (items := di67) (by kernel_rfl) fn67 (by kernel_rfl) (of_decide_eq_true (by kernel_rfl)) (by omega)
noncomputable def dd : Nat → Option (List (Nat × Value))
  | 42 => some dw42
  | 67 => some dw67
  | _ => none
theorem ddOk : ∀ f wr, dd f = some wr → Ent Tryd.prog f ∧ DfC Tryd.prog f wr := by
  intro f wr h
  unfold dd at h
  split at h
  · obtain rfl := Option.some.inj h; exact df42
  · obtain rfl := Option.some.inj h; exact df67
  · cases h
theorem kt : KT Tryd.prog numbers kn where
  mixed := mixed
  f0 := fldB_ok (by kernel_rfl)
  f1 := fldB_ok (by kernel_rfl)
  sl := by kernel_rfl
  u8 := varB_ok (by kernel_rfl)
  dU8 := by kernel_rfl
  dI8 := fun _ => by kernel_rfl
  dI16 := by kernel_rfl
  dI32 := by kernel_rfl
  dU32 := by kernel_rfl
  dInt := by kernel_rfl
theorem kbig : KBig Tryd.prog kn where
  be := varB_ok (by kernel_rfl)
  d16 := by kernel_rfl
  d64 := fun h => absurd h (by decide)
  dI64 := fun h => absurd h (by decide)
  f16 := fun _ => fn76
  f32 := fun _ => fn75
  f64 := fun h => absurd h (by decide)
theorem ksub : KSub Tryd.prog numbers kn kn.tRS where
  e16 := fun _ => fn56.ent
  c16 := fun _ w S R r hR hRS => (i16_calls kt kbig rfl fn56 (by omega) hR hRS).mono fun e w' h => (fun h => ⟨h.1, h.2.1, h.2.2.1⟩) (rdOk_int (p := .i16) (.inr (.inl ⟨rfl, rfl⟩)) rfl h)
  e32 := fun _ => fn55.ent
  c32 := fun _ w S R r hR hRS => (i32_calls kt kbig rfl fn55 (by omega) hR hRS).mono fun e w' h => (fun h => ⟨h.1, h.2.1, h.2.2.1⟩) (rdOk_int (p := .i32) (.inr (.inr (.inl ⟨rfl, rfl⟩))) rfl h)
  eU := fun _ => fn77.ent
  cU := fun _ w S R r hR hRS => uv_calls kt fn84 (by omega) fn77 (by omega) hR hRS
  eS := fun _ => fn79.ent
  cS := fun _ w S R r k hR hRS => span_calls kt fn79 (by omega) hR hRS
  dStr := by kernel_rfl
  vStr := varB_ok (by kernel_rfl)
  zStr := zeroOf_ok (by kernel_rfl)
def tn : TN := { tTags := 61, tM := 59, tKs := 120, tU32 := 55, tInt := 3, tSl := 22, fSort := 81, fLess := 82, fEach := 62, fOne := 63, fUv := 39 }
theorem fn62 : FnIs Tryd.prog 62 53 [] (cEach tn) := fnIs_of Tryd.func62 (by kernel_rfl) (by kernel_rfl) (by kernel_rfl) (by kernel_rfl) -- (*pub-kmsg/pub/kmsg.Tags).Each
theorem fn82 : FnIs Tryd.prog 82 15 [5] (cTLess tn) := fnIs_of Tryd.func82 (by kernel_rfl) (by kernel_rfl) (by kernel_rfl) (by kernel_rfl) -- (*pub-kmsg/pub/kmsg.Tags).Each$1
theorem fn41 : FnIs Tryd.prog 41 9 [4] (cTEach tn) := fnIs_of Tryd.func41 (by kernel_rfl) (by kernel_rfl) (by kernel_rfl) (by kernel_rfl) -- (*pub-kmsg/pub/kmsg.Tags).AppendEach
theorem fn63 : FnIs Tryd.prog 63 16 [] (cTOne tn) := fnIs_of Tryd.func63 (by kernel_rfl) (by kernel_rfl) (by kernel_rfl) (by kernel_rfl) -- (*pub-kmsg/pub/kmsg.Tags).AppendEach$1
theorem tf : TF Tryd.prog tn where
  map := ⟨55, 22, by kernel_rfl, by kernel_rfl⟩
  fld := fldB_ok (by kernel_rfl)
  sl := by kernel_rfl
  info := infoB_ok (by kernel_rfl)
  vU := varB_ok (by kernel_rfl)
  vK := varB_ok (by kernel_rfl)
  zK := zeroOf_ok (by kernel_rfl)
  dInt := by kernel_rfl
  dU32 := by kernel_rfl
theorem sortOk : SortOk Tryd.prog tn := sortOk_of (it := (Tryd.prog.info? 120).get (by kernel_rfl)) (ie := (Tryd.prog.info? 55).get (by kernel_rfl)) (ke := 10) (f1 := 90) (f2 := 91) (f6 := 95) mixed tf Tryd.sa6 rfl (enters_of Tryd.func81 (by kernel_rfl) rfl) fn82 (by omega) (by kernel_rfl) (by kernel_rfl) (by kernel_rfl) (by kernel_rfl) (fun _ => by kernel_rfl) (by kernel_rfl) (by kernel_rfl) (by kernel_rfl) fn82.ent (by kernel_rfl) (by kernel_rfl) (by kernel_rfl) (fun args W => run_callFunc_extern Tryd.func95 (by kernel_rfl) (by kernel_rfl) (by kernel_rfl) (e := Extern.ReflectliteSwapper.swap true) (by kernel_rfl) args W)
theorem setOk : SetOk Tryd.prog numbers.set := fun _ _ _ _ _ _ _ _ _ _ hk hB hO ht hv => set_calls (tM := 59) (kt := 55) (et := 22) mixed fn78 (by omega) (by kernel_rfl) (by kernel_rfl) (fldB_ok (by kernel_rfl)) hk hB hO ht hv
def av : PF → Bool
  | .i8 => true
  | .i16 => true
  | .i32 => true
  | .nstr => true
  | .cnstr => true
  | _ => false
theorem rdAll : ∀ p, av p = true → RdOk Tryd.prog numbers.tR p (numbers.rd p) := by
  intro p h
  cases p
  · cases h
  · exact rdOk_i8 kt rfl fn68 (by omega)
  · exact rdOk_i16 kt kbig rfl fn56 (by omega)
  · cases h
  · exact rdOk_i32 kt kbig rfl fn55 (by omega)
  · cases h
  · cases h
  · cases h
  · cases h
  · exact rdOk_nstr kt ksub rfl rfl fn72 (by omega)
  · exact rdOk_cnstr kt ksub rfl rfl fn70 (by omega)
  · cases h
  · cases h
  · cases h
  · cases h
theorem kb : KB Tryd.prog numbers av true where
  mixed := mixed
  rdE p h := (rdAll p h).1
  rdC p h := (rdAll p h).2
  i8C := fun _ w S R r hR hRS => (i8_calls kt rfl fn68 (by omega) hR hRS).mono fun e w' h => (fun h => ⟨h.1, h.2.1, h.2.2.1⟩) (rdOk_int (p := .i8) (.inl ⟨rfl, rfl⟩) rfl h)
  okE := fun _ => fn66.ent
  okC := fun _ w S R r hR => ok_calls kt fn66 (by omega) hR
  cmE := fn58.ent
  cmC w S R r hR he := complete_calls kt fn58 (by omega) (varB_ok (by kernel_rfl)) hR he
  lenE := fun _ => fn65.ent
  lenC := fun _ w S R r hR hRS => len_calls kt ksub rfl fn65 (by omega) hR hRS
  clenE := fun _ _ => fn64.ent
  clenC := fun _ _ w S R r hR hRS => clen_calls kt ksub rfl fn64 (by omega) hR hRS
  uvE := fun _ => fn77.ent
  uvC := fun _ w S R r hR hRS => ksub.cU rfl w S R r hR hRS
  spanE := fun _ => fn79.ent
  spanC := fun _ w S R r k _ _ hR hRS => ksub.cS rfl w S R r k hR hRS
  tagsE := fun _ => fn57.ent
  tagsC := fun _ w S R r hR hRS hS => rdTags_calls kt ksub rfl rfl rfl fn78.ent setOk (zeroOf_ok (by kernel_rfl)) (varB_ok (by kernel_rfl)) fn57 (by omega) hR hRS hS
  setE := fun _ => fn78.ent
  setC := fun _ => setOk
  fR := twoB_ok (by kernel_rfl)
  zR := zeroOf_ok (by kernel_rfl)
  vR := varB_ok (by kernel_rfl)
  uuid := fun h => absurd h (by decide)
  tI32 := by kernel_rfl
  tU32 := fun _ => by kernel_rfl
  tInt := by kernel_rfl
  vStr := ⟨varB_ok (by kernel_rfl), zeroOf_ok (by kernel_rfl)⟩
  vTags := fun _ => varB_ok (by kernel_rfl)
  tErr := fun _ => ifaceB_ok (by kernel_rfl)
theorem env : Env Tryd.prog numbers av true dd := ⟨kb, ddOk⟩
theorem oct : OctT Tryd.prog kn.tSl kn.tU8 := octB_ok (by kernel_rfl)
theorem wt : WT Tryd.prog kn where
  mixed := mixed
  oct := oct
  dU8 := by kernel_rfl
  dI8 := fun _ => by kernel_rfl
  dI16 := by kernel_rfl
  dU16 := by kernel_rfl
  dI32 := by kernel_rfl
  dU32 := by kernel_rfl
  dInt := by kernel_rfl
  dI64 := fun _ => by kernel_rfl
  dU64 := fun _ => by kernel_rfl
  dStr := by kernel_rfl
  vStr := varB_ok (by kernel_rfl)
theorem uvC (x : Nat) (w : World) (h : x < 4294967296) : ApC Tryd.prog kn.tU8 numbersW.uv (.int .u32 x) (uvar x) w := ap_uv wt (by kernel_rfl) fn80 (by omega) fn61 (by omega) fn39 (by omega) h w
theorem i16C (x : Int) (w : World) : ApC Tryd.prog kn.tU8 38 (.int .i16 x) (be 2 x) w := ap_i16 wt fn60 (by omega) fn38 (by omega) x w
theorem i32C (x : Int) (w : World) : ApC Tryd.prog kn.tU8 37 (.int .i32 x) (be 4 x) w := ap_i32 wt fn59 (by omega) fn37 (by omega) x w
def avw : PF → Bool
  | .i8 => true
  | .i16 => true
  | .u16 => true
  | .i32 => true
  | .str => true
  | .cstr => true
  | .nstr => true
  | .cnstr => true
  | _ => false
theorem apAll : ∀ p, avw p = true → AppOk Tryd.prog kn.tU8 p (numbersW.ap p) := by
  intro p h
  cases p
  · cases h
  · exact app_i8 wt rfl fn46 (by omega)
  · exact app_i16 wt fn60 (by omega) fn38 (by omega)
  · exact app_u16 wt fn60 (by omega)
  · exact app_i32 wt fn59 (by omega) fn37 (by omega)
  · cases h
  · cases h
  · exact app_str wt (app_i16 wt fn60 (by omega) fn38 (by omega)) i16C fn74 (by omega)
  · exact app_cstr wt fn39.ent (fun x w h => uvC x w h) fn73 (by omega)
  · exact app_nstr wt (fx := false) rfl (by kernel_rfl) fn38.ent (fun w => i16C (-1) w) (app_str wt (app_i16 wt fn60 (by omega) fn38 (by omega)) i16C fn74 (by omega)) fn48 (by omega)
  · exact app_nstr wt (fx := true) rfl (by kernel_rfl) fn39.ent (fun w => uvC 0 w (by omega)) (app_cstr wt fn39.ent (fun x w h => uvC x w h) fn73 (by omega)) fn47 (by omega)
  · cases h
  · cases h
  · cases h
  · cases h
theorem kw : KW Tryd.prog numbersW avw true false kn.tU8 where
  mixed := mixed
  oct := oct
  dInt := by kernel_rfl
  dU32 := fun _ => by kernel_rfl
  apE p h := (apAll p h).1
  apC p h := (apAll p h).2
  alE := fun _ => fn45.ent
  alC := fun _ n w => ap_len wt fn37.ent i32C fn45 (by omega) n w
  clE := fun _ _ => fn44.ent
  clC := fun _ _ n w => ap_clen wt fn39.ent (fun x w h => uvC x w h) fn44 (by omega) n w
  nlE := fun h => absurd h (by decide)
  nlC := fun h => absurd h (by decide)
  cnE := fun h => absurd h (by decide)
  cnC := fun h => absurd h (by decide)
  uvE := fun _ => fn39.ent
  uvC := fun _ x w h => uvC x w h
  tlE := fun _ => fn40.ent
  tlC := fun _ w b o m X t hc ht => tlen_calls (kt := 55) (et := 22) mixed (by kernel_rfl) (fldB_ok (by kernel_rfl)) fn40 (by omega) hc ht
  teE := fun _ => fn41.ent
  teC := fun _ w b o m L t d bs hc hb ht hd hL hlim => teach_calls mixed tf sortOk oct (varB_ok (by kernel_rfl)) fn39.ent (fun x w h => uvC x w h) fn62 (by omega) fn63 (by omega) fn41 (by omega) hc hb ht hd hL hlim
  uuid := fun h => absurd h (by decide)
noncomputable def zv : Value := (zeroOf Tryd.prog 78).getD undef
noncomputable def zz : Array Value := applyWr zv.cells 0 dw42
theorem msg : MsgC Tryd.prog numbers.gErr kn.tU8 false true 2 fsDeleteACLsRequest (some 2) 78 zz 21 23 24 25 :=
  msgC_of (cx := ⟨true, 7, 10, 8, 9⟩) (cw := ⟨true, 0, 0, 5, 6⟩) (nm := nmDeleteACLsRequest) (ms := nwDeleteACLsRequest) (tI16 := 41) env kw (by decide) (by decide) rfl rfl fn21 (by omega) fn23 (by omega) fn24 (by omega) fn43 (by omega) fn25 (by kernel_rfl) (by kernel_rfl) rfl (of_decide_eq_true (by kernel_rfl)) (by kernel_rfl) (by kernel_rfl) rfl (by kernel_rfl) (by kernel_rfl)
theorem law {w : World} {x0 : Nat} {srcv : Value} {l : Bs} (hx : x0 < 256) (hsrc : SlRp w (fun _ => False) srcv l) (herr : ErrAt numbers.gErr w) : Calls Tryd.prog 4 #[.int .u8 x0, srcv] w fun e w' => e = .returned (.bool true) ∧ Keeps (fun _ => False) w w' :=
  any_law (most := 3) (tErr := 50) mixed msg oct (varB_ok (by kernel_rfl)) (by kernel_rfl) (by kernel_rfl) (by kernel_rfl) (ifaceB_ok (by kernel_rfl)) fn13 (by omega) fn9 (by omega) fn11 (by omega) fn12 (by omega) fn22 (by omega) (by omega) fn4 (by omega) (by kernel_rfl) hx hsrc herr
end Go.Proofs.YtleodfcpcfmfnaaDoor.Kx
