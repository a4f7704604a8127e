/-
  FnAnyFindCoordinatorRequest: the numbers of the program, the code of its functions, and the law out of them.
-/
import Derived.Test.YtdplnemfjedocabDoorChecked
import Derived.Test.YtdplnemfjedocabDoorK1
import Derived.Test.YtdplnemfjedocabDoorK2
import Derived.Test.YtdplnemfjedocabDoorK3
import Derived.Test.YtdplnemfjedocabDoorK4
import Derived.Test.YtdplnemfjedocabDoorK5
import Derived.Test.YtdplnemfjedocabDoorK6
import Derived.Test.YtdplnemfjedocabDoorK7
import Derived.Test.YtdplnemfjedocabDoorK8
import Derived.Test.YtdplnemfjedocabDoorK9
import Derived.Test.YtdplnemfjedocabDoorK10
import Derived.Test.YtdplnemfjedocabDoorK11
import Derived.Test.YtdplnemfjedocabDoorK12
import Derived.Test.YtdplnemfjedocabDoorK13
import Derived.Test.YtdplnemfjedocabDoorK14
import Derived.KernelRfl
import Derived.Test.YtdplnemfjedocabDoorSh
namespace Go.Proofs.YtdplnemfjedocabDoor.Kx
open Go Go.Proofs
set_option maxRecDepth 100000
def numbers : G := { rd := fun | .bool => 999999 | .i8 => 27 | .i16 => 41 | .u16 => 999999 | .i32 => 42 | .i64 => 999999 | .uuid => 999999 | .str => 26 | .cstr => 25 | .nstr => 999999 | .cnstr => 999999 | .bytes => 999999 | .cbytes => 999999 | .nbytes => 999999 | .cnbytes => 999999, un := fun | .str => 24 | .cstr => 23 | .nstr => 999999 | .cnstr => 999999 | _ => 999999, len := 29, clen := 28, ok := 30, complete := 31, uv := 38, span := 40, tags := 32, set := 43, tR := 52, tUuid := 999999, tVer := 29, tI8 := 38, tI32 := 21, tU32 := 50, tInt := 3, tBool := 4, tErr := 35, tTags := 42, tSl := 22, tStr := 9, gErr := 0 }
def numbersW : GW := { ap := fun | .bool => 999999 | .i8 => 17 | .i16 => 33 | .u16 => 44 | .i32 => 34 | .i64 => 999999 | .uuid => 999999 | .str => 16 | .cstr => 15 | .nstr => 999999 | .cnstr => 999999 | .bytes => 999999 | .cbytes => 999999 | .nbytes => 999999 | .cnbytes => 999999, alen := 19, calen := 18, nalen := 999999, cnalen := 999999, uv := 20, tlen := 21, teach := 22, tVer := 29, tInt := 3, tU32 := 50, tSl := 22, tUuid := 999999 }
def kn : Kn := { tRS := 52, tSl := 22, tB := 4, tInt := 3, tU8 := 5, tI8 := 38, tI16 := 29, tU16 := 71, tI32 := 21, tU32 := 50, tI64 := 2, tU64 := 96, tStr := 9, tUuid := 999999, tBE := 78, tErr := 35, gBE := 1, gErr := 0, fU16 := 50, fU32 := 51, fU64 := 999999, fUv := 49, fR64 := 999999 }
theorem mixed : Tryd.prog.follows .mixedOrders = true := by kernel_rfl
def fsFindCoordinatorRequest : Fds := (.cons 0 (some 3) none (0) 1 (.str none) (.cons 1 none none (0) 2 (.prim .i8) (.cons 4 none none (0) 3 (.list none 1 (.str none)) .nil)))
def nmFindCoordinatorRequest : Nm := (.mk [] [(.mk [11, 44, 1, 9] []), (.mk [12, 44, 2, 38] []), (.mk [13, 44, 3, 39, 14, 15, 16, 0, 1] [(.mk [17, 9] [])])])
def nwFindCoordinatorRequest : List Nm := [(.mk [7, 44, 1, 9] []), (.mk [8, 44, 2, 38] []), (.mk [9, 44, 3, 39, 10, 0, 1] [(.mk [11, 9] [])])]
theorem fn27 : FnIs Tryd.prog 27 32 [2] (cI8 kn) := fnIs_of Tryd.func27 (by kernel_rfl) (by kernel_rfl) (by kernel_rfl) (by kernel_rfl) -- (*pub-kmsg/pub/kmsg/inner/kbin.Reader).Int8
theorem fn41 : FnIs Tryd.prog 41 32 [2] (cI16 kn) := fnIs_of Tryd.func41 (by kernel_rfl) (by kernel_rfl) (by kernel_rfl) (by kernel_rfl) -- (*pub-kmsg/pub/kmsg/inner/kbin.Reader).Int16
theorem fn42 : FnIs Tryd.prog 42 32 [2] (cI32 kn) := fnIs_of Tryd.func42 (by kernel_rfl) (by kernel_rfl) (by kernel_rfl) (by kernel_rfl) -- (*pub-kmsg/pub/kmsg/inner/kbin.Reader).Int32
theorem fn49 : FnIs Tryd.prog 49 87 [2, 3] (cUvIn kn) := fnIs_of Tryd.func49 (by kernel_rfl) (by kernel_rfl) (by kernel_rfl) (by kernel_rfl) -- pub-kmsg/pub/kmsg/inner/kbin.Uvarint
theorem fn38 : FnIs Tryd.prog 38 31 [2] (cUv kn) := fnIs_of Tryd.func38 (by kernel_rfl) (by kernel_rfl) (by kernel_rfl) (by kernel_rfl) -- (*pub-kmsg/pub/kmsg/inner/kbin.Reader).Uvarint
theorem fn32 : FnIsC Tryd.prog 32 24 2 42 (cRdTags numbers kn) := fnIsC_of Tryd.func32 (by kernel_rfl) (by kernel_rfl) (by kernel_rfl) (by kernel_rfl) -- pub-kmsg/pub/kmsg.internalReadTags
theorem fn43 : FnIs Tryd.prog 43 21 [] (cSet numbers 40) := fnIs_of Tryd.func43 (by kernel_rfl) (by kernel_rfl) (by kernel_rfl) (by kernel_rfl) -- (*pub-kmsg/pub/kmsg.Tags).Set
theorem fn30 : FnIs Tryd.prog 30 8 [2] (cOk kn) := fnIs_of Tryd.func30 (by kernel_rfl) (by kernel_rfl) (by kernel_rfl) (by kernel_rfl) -- (*pub-kmsg/pub/kmsg/inner/kbin.Reader).Ok
theorem fn31 : FnIs Tryd.prog 31 8 [2] (cComplete kn) := fnIs_of Tryd.func31 (by kernel_rfl) (by kernel_rfl) (by kernel_rfl) (by kernel_rfl) -- (*pub-kmsg/pub/kmsg/inner/kbin.Reader).Complete
theorem fn40 : FnIs Tryd.prog 40 40 [4] (cSpan kn) := fnIs_of Tryd.func40 (by kernel_rfl) (by kernel_rfl) (by kernel_rfl) (by kernel_rfl) -- (*pub-kmsg/pub/kmsg/inner/kbin.Reader).Span
theorem fn26 : FnIs Tryd.prog 26 11 [2] (cStr numbers kn) := fnIs_of Tryd.func26 (by kernel_rfl) (by kernel_rfl) (by kernel_rfl) (by kernel_rfl) -- (*pub-kmsg/pub/kmsg/inner/kbin.Reader).String
theorem fn25 : FnIs Tryd.prog 25 12 [2] (cCStr numbers kn) := fnIs_of Tryd.func25 (by kernel_rfl) (by kernel_rfl) (by kernel_rfl) (by kernel_rfl) -- (*pub-kmsg/pub/kmsg/inner/kbin.Reader).CompactString
theorem fn29 : FnIs Tryd.prog 29 21 [2] (cLen numbers kn) := fnIs_of Tryd.func29 (by kernel_rfl) (by kernel_rfl) (by kernel_rfl) (by kernel_rfl) -- (*pub-kmsg/pub/kmsg/inner/kbin.Reader).ArrayLen
theorem fn28 : FnIs Tryd.prog 28 23 [2] (cCLen numbers kn) := fnIs_of Tryd.func28 (by kernel_rfl) (by kernel_rfl) (by kernel_rfl) (by kernel_rfl) -- (*pub-kmsg/pub/kmsg/inner/kbin.Reader).CompactArrayLen
theorem fn50 : FnIs Tryd.prog 50 18 [4] (gBig kn kn.tU16 .u16 2) := fnIs_of Tryd.func50 (by kernel_rfl) (by kernel_rfl) (by kernel_rfl) (by kernel_rfl) -- (encoding/binary.bigEndian).Uint16
theorem fn51 : FnIs Tryd.prog 51 30 [4] (gBig kn kn.tU32 .u32 4) := fnIs_of Tryd.func51 (by kernel_rfl) (by kernel_rfl) (by kernel_rfl) (by kernel_rfl) -- (encoding/binary.bigEndian).Uint32
theorem fn17 : FnIs Tryd.prog 17 10 [4] (cAI8 kn) := fnIs_of Tryd.func17 (by kernel_rfl) (by kernel_rfl) (by kernel_rfl) (by kernel_rfl) -- pub-kmsg/pub/kmsg/inner/kbin.AppendInt8
theorem fn44 : FnIs Tryd.prog 44 13 [4] (cAU16 kn) := fnIs_of Tryd.func44 (by kernel_rfl) (by kernel_rfl) (by kernel_rfl) (by kernel_rfl) -- pub-kmsg/pub/kmsg/inner/kbin.AppendUint16
theorem fn45 : FnIs Tryd.prog 45 19 [4] (cAU32 kn) := fnIs_of Tryd.func45 (by kernel_rfl) (by kernel_rfl) (by kernel_rfl) (by kernel_rfl) -- pub-kmsg/pub/kmsg/inner/kbin.AppendUint32
theorem fn33 : FnIs Tryd.prog 33 9 [4] (cACv kn.tI16 kn.tU16 44) := fnIs_of Tryd.func33 (by kernel_rfl) (by kernel_rfl) (by kernel_rfl) (by kernel_rfl) -- pub-kmsg/pub/kmsg/inner/kbin.AppendInt16
theorem fn34 : FnIs Tryd.prog 34 9 [4] (cACv kn.tI32 kn.tU32 45) := fnIs_of Tryd.func34 (by kernel_rfl) (by kernel_rfl) (by kernel_rfl) (by kernel_rfl) -- pub-kmsg/pub/kmsg/inner/kbin.AppendInt32
theorem fn19 : FnIs Tryd.prog 19 9 [4] (cACv kn.tInt kn.tI32 34) := fnIs_of Tryd.func19 (by kernel_rfl) (by kernel_rfl) (by kernel_rfl) (by kernel_rfl) -- pub-kmsg/pub/kmsg/inner/kbin.AppendArrayLen
theorem fn18 : FnIs Tryd.prog 18 10 [4] (cACv1 kn 20) := fnIs_of Tryd.func18 (by kernel_rfl) (by kernel_rfl) (by kernel_rfl) (by kernel_rfl) -- pub-kmsg/pub/kmsg/inner/kbin.AppendCompactArrayLen
theorem fn16 : FnIs Tryd.prog 16 13 [4] (cAStr kn kn.tStr kn.tI16 33) := fnIs_of Tryd.func16 (by kernel_rfl) (by kernel_rfl) (by kernel_rfl) (by kernel_rfl) -- pub-kmsg/pub/kmsg/inner/kbin.AppendString
theorem fn15 : FnIs Tryd.prog 15 14 [4] (cACStr kn kn.tStr 20) := fnIs_of Tryd.func15 (by kernel_rfl) (by kernel_rfl) (by kernel_rfl) (by kernel_rfl) -- pub-kmsg/pub/kmsg/inner/kbin.AppendCompactString
theorem fn20 : FnIs Tryd.prog 20 93 [4] (cAUv kn 35) := fnIs_of Tryd.func20 (by kernel_rfl) (by kernel_rfl) (by kernel_rfl) (by kernel_rfl) -- pub-kmsg/pub/kmsg/inner/kbin.AppendUvarint
theorem fn35 : FnIs Tryd.prog 35 8 [2] (cUvLen kn 46) := fnIs_of Tryd.func35 (by kernel_rfl) (by kernel_rfl) (by kernel_rfl) (by kernel_rfl) -- pub-kmsg/pub/kmsg/inner/kbin.UvarintLen
theorem fn46 : FnIs Tryd.prog 46 19 [2] (cLen32 kn 50) := fnIs_of Tryd.func46 (by kernel_rfl) (by kernel_rfl) (by kernel_rfl) (by kernel_rfl) -- math/bits.Len32
theorem fn21 : FnIs Tryd.prog 21 8 [2] (cTLen kn 42 40) := fnIs_of Tryd.func21 (by kernel_rfl) (by kernel_rfl) (by kernel_rfl) (by kernel_rfl) -- (*pub-kmsg/pub/kmsg.Tags).Len
theorem fn8 : FnIs Tryd.prog 8 3 [0] (cNewPtr 44 13) := fnIs_of Tryd.func8 (by kernel_rfl) (by kernel_rfl) (by kernel_rfl) (by kernel_rfl) -- pub-kmsg/pub/kmsg.NewPtrFindCoordinatorRequest
theorem fn10 : FnIs Tryd.prog 10 8 [] (cSetV 44 29) := fnIs_of Tryd.func10 (by kernel_rfl) (by kernel_rfl) (by kernel_rfl) (by kernel_rfl) -- (*pub-kmsg/pub/kmsg.FindCoordinatorRequest).SetVersion
theorem fn11 : FnIs Tryd.prog 11 8 [4] (cRdF 14) := fnIs_of Tryd.func11 (by kernel_rfl) (by kernel_rfl) (by kernel_rfl) (by kernel_rfl) -- (*pub-kmsg/pub/kmsg.FindCoordinatorRequest).ReadFrom
theorem fn4 : FnIs Tryd.prog 4 4 [0] (cMax 29 3 8 9) := fnIs_of Tryd.func4 (by kernel_rfl) (by kernel_rfl) (by kernel_rfl) (by kernel_rfl) -- pub-kmsg/impl.MaxFindCoordinatorRequest
theorem fn9 : FnIs Tryd.prog 9 3 [2] (cMaxV 6) := fnIs_of Tryd.func9 (by kernel_rfl) (by kernel_rfl) (by kernel_rfl) (by kernel_rfl) -- (*pub-kmsg/pub/kmsg.FindCoordinatorRequest).MaxVersion
theorem fn5 : FnIs Tryd.prog 5 19 [4, 5] (cAgain 29 3 22 35 8 10 11 12) := fnIs_of Tryd.func5 (by kernel_rfl) (by kernel_rfl) (by kernel_rfl) (by kernel_rfl) -- pub-kmsg/impl.AgainFindCoordinatorRequest
theorem fn3 : FnIs Tryd.prog 3 43 [4] (cAny 22 3 4 4 6 5 7) := fnIs_of Tryd.func3 (by kernel_rfl) (by kernel_rfl) (by kernel_rfl) (by kernel_rfl) -- pub-kmsg/laws.FnAnyFindCoordinatorRequest
theorem fn6 : FnIs Tryd.prog 6 10 [4] (cVer 5 3) := fnIs_of Tryd.func6 (by kernel_rfl) (by kernel_rfl) (by kernel_rfl) (by kernel_rfl) -- pub-kmsg/laws.version
theorem fn7 : FnIs Tryd.prog 7 26 [4] (cSame 22 5 3) := fnIs_of Tryd.func7 (by kernel_rfl) (by kernel_rfl) (by kernel_rfl) (by kernel_rfl) -- pub-kmsg/spec.Same
theorem fn14 : FnIs Tryd.prog 14 102 [6] (gRead numbers true false ⟨true, 7, 10, 8, 9⟩ fsFindCoordinatorRequest 13 44 4 3 18 nmFindCoordinatorRequest) := fnIs_of Tryd.func14 (by kernel_rfl) (by kernel_rfl) (by kernel_rfl) (by kernel_rfl) -- (*pub-kmsg/pub/kmsg.FindCoordinatorRequest).readFrom
theorem fn12 : FnIs Tryd.prog 12 93 [4] (gWrite numbersW false ⟨true, 0, 0, 5, 6⟩ fsFindCoordinatorRequest 44 4 3 0 12 nwFindCoordinatorRequest) := fnIs_of Tryd.func12 (by kernel_rfl) (by kernel_rfl) (by kernel_rfl) (by kernel_rfl) -- (*pub-kmsg/pub/kmsg.FindCoordinatorRequest).AppendTo
def di13 : List DI := []
theorem fn13 : FnIs Tryd.prog 13 2 [] (gDflt di13 2) := fnIs_of Tryd.func13 (by kernel_rfl) (by kernel_rfl) (by kernel_rfl) (by kernel_rfl) -- (*pub-kmsg/pub/kmsg.FindCoordinatorRequest).Default
noncomputable def dw13 : List (Nat × Value) := (dRun Tryd.prog 2 di13 [(0, 0)]).getD []
theorem df13 : Ent Tryd.prog 13 ∧ DfC Tryd.prog 13 dw13 := dfC_of (n0 := 2) (items := di13) (by kernel_rfl) fn13 (by kernel_rfl) (of_decide_eq_true (by kernel_rfl)) (by omega)
noncomputable def dd : Nat → Option (List (Nat × Value))
  | 13 => some dw13
  | _ => none
theorem ddOk : ∀ f wr, dd f = some wr → Ent Tryd.prog f ∧ DfC Tryd.prog f wr := by
  intro f wr h
  unfold dd at h
  split at h
  · obtain rfl := Option.some.inj h; exact df13
  · cases h
theorem kt : KT Tryd.prog numbers kn where
  mixed := mixed
  f0 := fldB_ok (by kernel_rfl)
  f1 := fldB_ok (by kernel_rfl)
  sl := by kernel_rfl
  u8 := varB_ok (by kernel_rfl)
  dU8 := by kernel_rfl
  dI8 := fun _ => by kernel_rfl
  dI16 := by kernel_rfl
  dI32 := by kernel_rfl
  dU32 := by kernel_rfl
  dInt := by kernel_rfl
theorem kbig : KBig Tryd.prog kn where
  be := varB_ok (by kernel_rfl)
  d16 := by kernel_rfl
  d64 := fun h => absurd h (by decide)
  dI64 := fun h => absurd h (by decide)
  f16 := fun _ => fn50
  f32 := fun _ => fn51
  f64 := fun h => absurd h (by decide)
theorem ksub : KSub Tryd.prog numbers kn kn.tRS where
  e16 := fun _ => fn41.ent
  c16 := fun _ w S R r hR hRS => (i16_calls kt kbig rfl fn41 (by omega) hR hRS).mono fun e w' h => (fun h => ⟨h.1, h.2.1, h.2.2.1⟩) (rdOk_int (p := .i16) (.inr (.inl ⟨rfl, rfl⟩)) rfl h)
  e32 := fun _ => fn42.ent
  c32 := fun _ w S R r hR hRS => (i32_calls kt kbig rfl fn42 (by omega) hR hRS).mono fun e w' h => (fun h => ⟨h.1, h.2.1, h.2.2.1⟩) (rdOk_int (p := .i32) (.inr (.inr (.inl ⟨rfl, rfl⟩))) rfl h)
  eU := fun _ => fn38.ent
  cU := fun _ w S R r hR hRS => uv_calls kt fn49 (by omega) fn38 (by omega) hR hRS
  eS := fun _ => fn40.ent
  cS := fun _ w S R r k hR hRS => span_calls kt fn40 (by omega) hR hRS
  dStr := by kernel_rfl
  vStr := varB_ok (by kernel_rfl)
  zStr := zeroOf_ok (by kernel_rfl)
def tn : TN := { tTags := 42, tM := 40, tKs := 72, tU32 := 50, tInt := 3, tSl := 22, fSort := 47, fLess := 48, fEach := 36, fOne := 37, fUv := 20 }
theorem fn36 : FnIs Tryd.prog 36 53 [] (cEach tn) := fnIs_of Tryd.func36 (by kernel_rfl) (by kernel_rfl) (by kernel_rfl) (by kernel_rfl) -- (*pub-kmsg/pub/kmsg.Tags).Each
theorem fn48 : FnIs Tryd.prog 48 15 [5] (cTLess tn) := fnIs_of Tryd.func48 (by kernel_rfl) (by kernel_rfl) (by kernel_rfl) (by kernel_rfl) -- (*pub-kmsg/pub/kmsg.Tags).Each$1
theorem fn22 : FnIs Tryd.prog 22 9 [4] (cTEach tn) := fnIs_of Tryd.func22 (by kernel_rfl) (by kernel_rfl) (by kernel_rfl) (by kernel_rfl) -- (*pub-kmsg/pub/kmsg.Tags).AppendEach
theorem fn37 : FnIs Tryd.prog 37 16 [] (cTOne tn) := fnIs_of Tryd.func37 (by kernel_rfl) (by kernel_rfl) (by kernel_rfl) (by kernel_rfl) -- (*pub-kmsg/pub/kmsg.Tags).AppendEach$1
theorem tf : TF Tryd.prog tn where
  map := ⟨50, 22, by kernel_rfl, by kernel_rfl⟩
  fld := fldB_ok (by kernel_rfl)
  sl := by kernel_rfl
  info := infoB_ok (by kernel_rfl)
  vU := varB_ok (by kernel_rfl)
  vK := varB_ok (by kernel_rfl)
  zK := zeroOf_ok (by kernel_rfl)
  dInt := by kernel_rfl
  dU32 := by kernel_rfl
theorem sortOk : SortOk Tryd.prog tn := sortOk_of (it := (Tryd.prog.info? 72).get (by kernel_rfl)) (ie := (Tryd.prog.info? 50).get (by kernel_rfl)) (ke := 10) (f1 := 57) (f2 := 58) (f6 := 62) mixed tf Tryd.sa6 rfl (enters_of Tryd.func47 (by kernel_rfl) rfl) fn48 (by omega) (by kernel_rfl) (by kernel_rfl) (by kernel_rfl) (by kernel_rfl) (fun _ => by kernel_rfl) (by kernel_rfl) (by kernel_rfl) (by kernel_rfl) fn48.ent (by kernel_rfl) (by kernel_rfl) (by kernel_rfl) (fun args W => run_callFunc_extern Tryd.func62 (by kernel_rfl) (by kernel_rfl) (by kernel_rfl) (e := Extern.ReflectliteSwapper.swap true) (by kernel_rfl) args W)
theorem setOk : SetOk Tryd.prog numbers.set := fun _ _ _ _ _ _ _ _ _ _ hk hB hO ht hv => set_calls (tM := 40) (kt := 50) (et := 22) mixed fn43 (by omega) (by kernel_rfl) (by kernel_rfl) (fldB_ok (by kernel_rfl)) hk hB hO ht hv
def av : PF → Bool
  | .i8 => true
  | .i16 => true
  | .i32 => true
  | .str => true
  | .cstr => true
  | _ => false
theorem rdAll : ∀ p, av p = true → RdOk Tryd.prog numbers.tR p (numbers.rd p) := by
  intro p h
  cases p
  · cases h
  · exact rdOk_i8 kt rfl fn27 (by omega)
  · exact rdOk_i16 kt kbig rfl fn41 (by omega)
  · cases h
  · exact rdOk_i32 kt kbig rfl fn42 (by omega)
  · cases h
  · cases h
  · exact rdOk_str kt ksub rfl rfl fn26 (by omega)
  · exact rdOk_cstr kt ksub rfl rfl fn25 (by omega)
  · cases h
  · cases h
  · cases h
  · cases h
  · cases h
  · cases h
theorem kb : KB Tryd.prog numbers av true where
  mixed := mixed
  rdE p h := (rdAll p h).1
  rdC p h := (rdAll p h).2
  i8C := fun _ w S R r hR hRS => (i8_calls kt rfl fn27 (by omega) hR hRS).mono fun e w' h => (fun h => ⟨h.1, h.2.1, h.2.2.1⟩) (rdOk_int (p := .i8) (.inl ⟨rfl, rfl⟩) rfl h)
  okE := fun _ => fn30.ent
  okC := fun _ w S R r hR => ok_calls kt fn30 (by omega) hR
  cmE := fn31.ent
  cmC w S R r hR he := complete_calls kt fn31 (by omega) (varB_ok (by kernel_rfl)) hR he
  lenE := fun _ => fn29.ent
  lenC := fun _ w S R r hR hRS => len_calls kt ksub rfl fn29 (by omega) hR hRS
  clenE := fun _ _ => fn28.ent
  clenC := fun _ _ w S R r hR hRS => clen_calls kt ksub rfl fn28 (by omega) hR hRS
  uvE := fun _ => fn38.ent
  uvC := fun _ w S R r hR hRS => ksub.cU rfl w S R r hR hRS
  spanE := fun _ => fn40.ent
  spanC := fun _ w S R r k _ _ hR hRS => ksub.cS rfl w S R r k hR hRS
  tagsE := fun _ => fn32.ent
  tagsC := fun _ w S R r hR hRS hS => rdTags_calls kt ksub rfl rfl rfl fn43.ent setOk (zeroOf_ok (by kernel_rfl)) (varB_ok (by kernel_rfl)) fn32 (by omega) hR hRS hS
  setE := fun _ => fn43.ent
  setC := fun _ => setOk
  fR := twoB_ok (by kernel_rfl)
  zR := zeroOf_ok (by kernel_rfl)
  vR := varB_ok (by kernel_rfl)
  uuid := fun h => absurd h (by decide)
  tI32 := by kernel_rfl
  tU32 := fun _ => by kernel_rfl
  tInt := by kernel_rfl
  vStr := ⟨varB_ok (by kernel_rfl), zeroOf_ok (by kernel_rfl)⟩
  vTags := fun _ => varB_ok (by kernel_rfl)
  tErr := fun _ => ifaceB_ok (by kernel_rfl)
theorem env : Env Tryd.prog numbers av true dd := ⟨kb, ddOk⟩
theorem oct : OctT Tryd.prog kn.tSl kn.tU8 := octB_ok (by kernel_rfl)
theorem wt : WT Tryd.prog kn where
  mixed := mixed
  oct := oct
  dU8 := by kernel_rfl
  dI8 := fun _ => by kernel_rfl
  dI16 := by kernel_rfl
  dU16 := fun _ => by kernel_rfl
  dI32 := by kernel_rfl
  dU32 := by kernel_rfl
  dInt := by kernel_rfl
  dI64 := fun _ => by kernel_rfl
  dU64 := fun _ => by kernel_rfl
  dStr := by kernel_rfl
  vStr := varB_ok (by kernel_rfl)
theorem uvC (x : Nat) (w : World) (h : x < 4294967296) : ApC Tryd.prog kn.tU8 numbersW.uv (.int .u32 x) (uvar x) w := ap_uv wt (by kernel_rfl) fn46 (by omega) fn35 (by omega) fn20 (by omega) h w
theorem i16C (x : Int) (w : World) : ApC Tryd.prog kn.tU8 33 (.int .i16 x) (be 2 x) w := ap_i16 wt rfl fn44 (by omega) fn33 (by omega) x w
theorem i32C (x : Int) (w : World) : ApC Tryd.prog kn.tU8 34 (.int .i32 x) (be 4 x) w := ap_i32 wt fn45 (by omega) fn34 (by omega) x w
def avw : PF → Bool
  | .i8 => true
  | .i16 => true
  | .u16 => true
  | .i32 => true
  | .str => true
  | .cstr => true
  | _ => false
theorem apAll : ∀ p, avw p = true → AppOk Tryd.prog kn.tU8 p (numbersW.ap p) := by
  intro p h
  cases p
  · cases h
  · exact app_i8 wt rfl fn17 (by omega)
  · exact app_i16 wt rfl fn44 (by omega) fn33 (by omega)
  · exact app_u16 wt rfl fn44 (by omega)
  · exact app_i32 wt fn45 (by omega) fn34 (by omega)
  · cases h
  · cases h
  · exact app_str wt (app_i16 wt rfl fn44 (by omega) fn33 (by omega)) i16C fn16 (by omega)
  · exact app_cstr wt fn20.ent (fun x w h => uvC x w h) fn15 (by omega)
  · cases h
  · cases h
  · cases h
  · cases h
  · cases h
  · cases h
theorem kw : KW Tryd.prog numbersW avw true false kn.tU8 where
  mixed := mixed
  oct := oct
  dInt := by kernel_rfl
  dU32 := fun _ => by kernel_rfl
  apE p h := (apAll p h).1
  apC p h := (apAll p h).2
  alE := fun _ => fn19.ent
  alC := fun _ n w => ap_len wt fn34.ent i32C fn19 (by omega) n w
  clE := fun _ _ => fn18.ent
  clC := fun _ _ n w => ap_clen wt fn20.ent (fun x w h => uvC x w h) fn18 (by omega) n w
  nlE := fun h => absurd h (by decide)
  nlC := fun h => absurd h (by decide)
  cnE := fun h => absurd h (by decide)
  cnC := fun h => absurd h (by decide)
  uvE := fun _ => fn20.ent
  uvC := fun _ x w h => uvC x w h
  tlE := fun _ => fn21.ent
  tlC := fun _ w b o m X t hc ht => tlen_calls (kt := 50) (et := 22) mixed (by kernel_rfl) (fldB_ok (by kernel_rfl)) fn21 (by omega) hc ht
  teE := fun _ => fn22.ent
  teC := fun _ w b o m L t d bs hc hb ht hd hL hlim => teach_calls mixed tf sortOk oct (varB_ok (by kernel_rfl)) fn20.ent (fun x w h => uvC x w h) fn36 (by omega) fn37 (by omega) fn22 (by omega) hc hb ht hd hL hlim
  uuid := fun h => absurd h (by decide)
noncomputable def zv : Value := (zeroOf Tryd.prog 44).getD undef
noncomputable def zz : Array Value := applyWr zv.cells 0 dw13
theorem msg : MsgC Tryd.prog numbers.gErr kn.tU8 false true 3 fsFindCoordinatorRequest (some 4) 44 zz 8 10 11 12 :=
  msgC_of (cx := ⟨true, 7, 10, 8, 9⟩) (cw := ⟨true, 0, 0, 5, 6⟩) (nm := nmFindCoordinatorRequest) (ms := nwFindCoordinatorRequest) (tI16 := 29) env kw (by decide) (by decide) rfl rfl fn8 (by omega) fn10 (by omega) fn11 (by omega) fn14 (by omega) fn12 (by kernel_rfl) (by kernel_rfl) rfl (of_decide_eq_true (by kernel_rfl)) (by kernel_rfl) (by kernel_rfl) rfl (by kernel_rfl) (by kernel_rfl)
theorem law {w : World} {x0 : Nat} {srcv : Value} {l : Bs} (hx : x0 < 256) (hsrc : SlRp w (fun _ => False) srcv l) (herr : ErrAt numbers.gErr w) : Calls Tryd.prog 3 #[.int .u8 x0, srcv] w fun e w' => e = .returned (.bool true) ∧ Keeps (fun _ => False) w w' :=
  any_law (most := 6) (tErr := 35) mixed msg oct (varB_ok (by kernel_rfl)) (by kernel_rfl) (by kernel_rfl) (by kernel_rfl) (ifaceB_ok (by kernel_rfl)) fn5 (by omega) fn6 (by omega) fn7 (by omega) fn4 (by omega) fn9 (by omega) (by omega) fn3 (by omega) (by kernel_rfl) hx hsrc herr
end Go.Proofs.YtdplnemfjedocabDoor.Kx
