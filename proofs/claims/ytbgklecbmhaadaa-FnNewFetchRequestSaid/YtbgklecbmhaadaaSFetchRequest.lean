/-
  FnNewFetchRequest: the numbers of the program, the code of its functions, and the law out of them.
-/
import Derived.Test.YtbgklecbmhaadaaChecked
import Derived.Test.YtbgklecbmhaadaaK1
import Derived.Test.YtbgklecbmhaadaaK2
import Derived.Test.YtbgklecbmhaadaaK3
import Derived.Test.YtbgklecbmhaadaaK4
import Derived.Test.YtbgklecbmhaadaaK5
import Derived.Test.YtbgklecbmhaadaaK6
import Derived.Test.YtbgklecbmhaadaaK7
import Derived.Test.YtbgklecbmhaadaaK8
import Derived.Test.YtbgklecbmhaadaaK9
import Derived.Test.YtbgklecbmhaadaaK10
import Derived.Test.YtbgklecbmhaadaaK11
import Derived.Test.YtbgklecbmhaadaaK12
import Derived.Test.YtbgklecbmhaadaaK13
import Derived.Test.YtbgklecbmhaadaaK14
import Derived.Test.YtbgklecbmhaadaaK15
import Derived.Test.YtbgklecbmhaadaaK16
import Derived.Test.YtbgklecbmhaadaaK17
import Derived.Test.YtbgklecbmhaadaaK18
import Derived.KernelRfl
import Derived.Test.YtbgklecbmhaadaaSh
namespace Go.Proofs.Ytbgklecbmhaadaa.Kx
open Go Go.Proofs
set_option maxRecDepth 100000
def sm0 : Sm := { fDef := 33, fSame := 32, F := 53, sz := 3, toff := 2, ds := [(0, (some .i32), (-1)), (1, (some .i64), (-1))] }
def numbersW : GW := { ap := fun | .bool => 999999 | .i8 => 22 | .i16 => 46 | .u16 => 58 | .i32 => 21 | .i64 => 28 | .uuid => 27 | .str => 26 | .cstr => 25 | .nstr => 36 | .cnstr => 35 | .bytes => 999999 | .cbytes => 999999 | .nbytes => 999999 | .cnbytes => 999999, alen := 24, calen := 23, nalen := 999999, cnalen := 999999, uv := 29, tlen := 30, teach := 31, tVer := 38, tInt := 3, tU32 := 74, tSl := 28, tUuid := 63, sm := [sm0] }
def kn : Kn := { tRS := 999999, tSl := 28, tB := 4, tInt := 3, tU8 := 5, tI8 := 54, tI16 := 38, tU16 := 109, tI32 := 21, tU32 := 74, tI64 := 2, tU64 := 89, tStr := 9, tUuid := 63, tBE := 999999, tErr := 999999, gBE := 999999, gErr := 0, fU16 := 999999, fU32 := 999999, fU64 := 999999, fUv := 999999, fR64 := 999999 }
theorem mixed : Try.prog.follows .mixedOrders = true := by kernel_rfl
def fsFetchRequest : Fds := (.cons 0 (some 14) none (-1) 2 (.prim .i32) (.cons 0 none none (0) 6 (.prim .i32) (.cons 0 none none (0) 7 (.prim .i32) (.cons 3 none none (2147483647) 8 (.prim .i32) (.cons 4 none none (0) 9 (.prim .i8) (.cons 7 none none (0) 10 (.prim .i32) (.cons 7 none none (-1) 11 (.prim .i32) (.cons 0 none none (0) 12 (.list none 19 (.struct none (some 18) (.cons 0 (some 12) none (0) 0 (.str none) (.cons 13 none none (0) 1 (.prim .uuid) (.cons 0 none none (0) 17 (.list none 24 (.struct none (some 23) (.cons 0 none none (0) 0 (.prim .i32) (.cons 9 none none (-1) 1 (.prim .i32) (.cons 0 none none (0) 2 (.prim .i64) (.cons 12 none none (-1) 3 (.prim .i32) (.cons 5 none none (-1) 4 (.prim .i64) (.cons 0 none none (0) 5 (.prim .i32) (.cons 0 none (some 0) (0) 6 (.prim .uuid) (.cons 0 none (some 1) (9223372036854775807) 22 (.prim .i64) .nil)))))))))) .nil))))) (.cons 7 none none (0) 13 (.list none 19 (.struct none (some 18) (.cons 7 (some 12) none (0) 0 (.str none) (.cons 13 none none (0) 1 (.prim .uuid) (.cons 0 none none (0) 17 (.list none 1 (.prim .i32)) .nil))))) (.cons 11 none none (0) 14 (.str none) (.cons 0 none (some 0) (0) 1 (.str (some 0)) (.cons 0 none (some 1) (0) 3 (.struct none (some 2) (.cons 0 none none (-1) 0 (.prim .i32) (.cons 0 none none (-1) 1 (.prim .i64) .nil))) .nil))))))))))))
def nwFetchRequest : Nm := (.mk [42, 73, 44, 11, 12, 13] [(.mk [7, 58, 2, 21] []), (.mk [8, 58, 4, 21] []), (.mk [9, 58, 5, 21] []), (.mk [10, 58, 6, 21] []), (.mk [11, 58, 7, 54] []), (.mk [12, 58, 8, 21] []), (.mk [13, 58, 9, 21] []), (.mk [14, 58, 10, 55, 15, 0, 1] [(.mk [16, 66, 3] [(.mk [] [(.mk [17, 66, 0, 9] []), (.mk [18, 66, 1, 63] []), (.mk [19, 66, 2, 64, 20, 2, 3] [(.mk [21, 71, 8] [(.mk [28, 73, 30, 4, 5, 6] [(.mk [22, 71, 0, 21] []), (.mk [23, 71, 1, 21] []), (.mk [24, 71, 2, 2] []), (.mk [25, 71, 3, 21] []), (.mk [26, 71, 4, 2] []), (.mk [27, 71, 5, 21] []), (.mk [31, 71, 6, 63, 0, 0, 0, 0, 0, 0, 0, 0, 0, 0, 0] []), (.mk [32, 71, 7, 2, 0, 0, 0, 0, 0, 0, 0, 0, 0, 0, 0] [])])])])])])]), (.mk [33, 58, 11, 56, 34, 7, 8] [(.mk [35, 79, 3] [(.mk [] [(.mk [36, 79, 0, 9] []), (.mk [37, 79, 1, 63] []), (.mk [38, 79, 2, 77, 39, 9, 10] [(.mk [40, 21] [])])])])]), (.mk [41, 58, 12, 9] []), (.mk [45, 58, 1, 48, 46, 47, 0, 0, 0, 4, 0, 0, 0, 0, 0] []), (.mk [48, 58, 3, 53, 49, 50, 1, 33, 32, 4, 0, 2, 0, 0, 0] [(.mk [] [(.mk [51, 0, 21] []), (.mk [52, 1, 2] [])])])])
theorem fn22 : FnIs Try.prog 22 10 [4] (cAI8 kn) := fnIs_of Try.func22 (by kernel_rfl) (by kernel_rfl) (by kernel_rfl) (by kernel_rfl) -- pub-kmsg/pub/kmsg/inner/kbin.AppendInt8
theorem fn58 : FnIs Try.prog 58 13 [4] (cAU16 kn) := fnIs_of Try.func58 (by kernel_rfl) (by kernel_rfl) (by kernel_rfl) (by kernel_rfl) -- pub-kmsg/pub/kmsg/inner/kbin.AppendUint16
theorem fn45 : FnIs Try.prog 45 19 [4] (cAU32 kn) := fnIs_of Try.func45 (by kernel_rfl) (by kernel_rfl) (by kernel_rfl) (by kernel_rfl) -- pub-kmsg/pub/kmsg/inner/kbin.AppendUint32
theorem fn47 : FnIs Try.prog 47 31 [4] (cAU64 kn) := fnIs_of Try.func47 (by kernel_rfl) (by kernel_rfl) (by kernel_rfl) (by kernel_rfl) -- pub-kmsg/pub/kmsg/inner/kbin.appendUint64
theorem fn46 : FnIs Try.prog 46 9 [4] (cACv kn.tI16 kn.tU16 58) := fnIs_of Try.func46 (by kernel_rfl) (by kernel_rfl) (by kernel_rfl) (by kernel_rfl) -- pub-kmsg/pub/kmsg/inner/kbin.AppendInt16
theorem fn21 : FnIs Try.prog 21 9 [4] (cACv kn.tI32 kn.tU32 45) := fnIs_of Try.func21 (by kernel_rfl) (by kernel_rfl) (by kernel_rfl) (by kernel_rfl) -- pub-kmsg/pub/kmsg/inner/kbin.AppendInt32
theorem fn28 : FnIs Try.prog 28 9 [4] (cACv kn.tI64 kn.tU64 47) := fnIs_of Try.func28 (by kernel_rfl) (by kernel_rfl) (by kernel_rfl) (by kernel_rfl) -- pub-kmsg/pub/kmsg/inner/kbin.AppendInt64
theorem fn24 : FnIs Try.prog 24 9 [4] (cACv kn.tInt kn.tI32 21) := fnIs_of Try.func24 (by kernel_rfl) (by kernel_rfl) (by kernel_rfl) (by kernel_rfl) -- pub-kmsg/pub/kmsg/inner/kbin.AppendArrayLen
theorem fn23 : FnIs Try.prog 23 10 [4] (cACv1 kn 29) := fnIs_of Try.func23 (by kernel_rfl) (by kernel_rfl) (by kernel_rfl) (by kernel_rfl) -- pub-kmsg/pub/kmsg/inner/kbin.AppendCompactArrayLen
theorem fn27 : FnIs Try.prog 27 8 [4] (cAUuid kn) := fnIs_of Try.func27 (by kernel_rfl) (by kernel_rfl) (by kernel_rfl) (by kernel_rfl) -- pub-kmsg/pub/kmsg/inner/kbin.AppendUuid
theorem fn26 : FnIs Try.prog 26 13 [4] (cAStr kn kn.tStr kn.tI16 46) := fnIs_of Try.func26 (by kernel_rfl) (by kernel_rfl) (by kernel_rfl) (by kernel_rfl) -- pub-kmsg/pub/kmsg/inner/kbin.AppendString
theorem fn25 : FnIs Try.prog 25 14 [4] (cACStr kn kn.tStr 29) := fnIs_of Try.func25 (by kernel_rfl) (by kernel_rfl) (by kernel_rfl) (by kernel_rfl) -- pub-kmsg/pub/kmsg/inner/kbin.AppendCompactString
theorem fn36 : FnIs Try.prog 36 14 [4] (cANStr kn 48 (.int .i16 (-1)) 46 26) := fnIs_of Try.func36 (by kernel_rfl) (by kernel_rfl) (by kernel_rfl) (by kernel_rfl) -- pub-kmsg/pub/kmsg/inner/kbin.AppendNullableString
theorem fn35 : FnIs Try.prog 35 14 [4] (cANStr kn 48 (.int .u32 0) 29 25) := fnIs_of Try.func35 (by kernel_rfl) (by kernel_rfl) (by kernel_rfl) (by kernel_rfl) -- pub-kmsg/pub/kmsg/inner/kbin.AppendCompactNullableString
theorem fn29 : FnIs Try.prog 29 93 [4] (cAUv kn 48) := fnIs_of Try.func29 (by kernel_rfl) (by kernel_rfl) (by kernel_rfl) (by kernel_rfl) -- pub-kmsg/pub/kmsg/inner/kbin.AppendUvarint
theorem fn48 : FnIs Try.prog 48 8 [2] (cUvLen kn 59) := fnIs_of Try.func48 (by kernel_rfl) (by kernel_rfl) (by kernel_rfl) (by kernel_rfl) -- pub-kmsg/pub/kmsg/inner/kbin.UvarintLen
theorem fn59 : FnIs Try.prog 59 19 [2] (cLen32 kn 74) := fnIs_of Try.func59 (by kernel_rfl) (by kernel_rfl) (by kernel_rfl) (by kernel_rfl) -- math/bits.Len32
theorem fn30 : FnIs Try.prog 30 8 [2] (cTLen kn 51 49) := fnIs_of Try.func30 (by kernel_rfl) (by kernel_rfl) (by kernel_rfl) (by kernel_rfl) -- (*pub-kmsg/pub/kmsg.Tags).Len
theorem fn11 : FnIs Try.prog 11 3 [0] (cNewPtr 58 19) := fnIs_of Try.func11 (by kernel_rfl) (by kernel_rfl) (by kernel_rfl) (by kernel_rfl) -- pub-kmsg/pub/kmsg.NewPtrFetchRequest
theorem fn16 : FnIs Try.prog 16 8 [] (cSetV 58 38) := fnIs_of Try.func16 (by kernel_rfl) (by kernel_rfl) (by kernel_rfl) (by kernel_rfl) -- (*pub-kmsg/pub/kmsg.FetchRequest).SetVersion
theorem fn4 : FnIs Try.prog 4 4 [0] (cMax 38 3 11 12) := fnIs_of Try.func4 (by kernel_rfl) (by kernel_rfl) (by kernel_rfl) (by kernel_rfl) -- pub-kmsg/impl.MaxFetchRequest
theorem fn7 : FnIs Try.prog 7 11 [2] (cNewM 38 3 11 16 17) := fnIs_of Try.func7 (by kernel_rfl) (by kernel_rfl) (by kernel_rfl) (by kernel_rfl) -- pub-kmsg/impl.NewFetchRequest
theorem fn12 : FnIs Try.prog 12 3 [2] (cMaxV 18) := fnIs_of Try.func12 (by kernel_rfl) (by kernel_rfl) (by kernel_rfl) (by kernel_rfl) -- (*pub-kmsg/pub/kmsg.FetchRequest).MaxVersion
theorem fn8 : FnIs Try.prog 8 10 [4] (cVer 5 3) := fnIs_of Try.func8 (by kernel_rfl) (by kernel_rfl) (by kernel_rfl) (by kernel_rfl) -- pub-kmsg/laws.version
theorem fn6 : FnIs Try.prog 6 26 [4] (cSame 28 5 3) := fnIs_of Try.func6 (by kernel_rfl) (by kernel_rfl) (by kernel_rfl) (by kernel_rfl) -- pub-kmsg/spec.Same
theorem fn17 : FnIs Try.prog 17 538 [4] (gWrite numbersW false ⟨true, 0, 0, 5, 6⟩ fsFetchRequest 58 13 12 0 53 nwFetchRequest) := fnIs_of Try.func17 (by kernel_rfl) (by kernel_rfl) (by kernel_rfl) (by kernel_rfl) -- (*pub-kmsg/pub/kmsg.FetchRequest).AppendTo
def di19 : List DT := [.it (.st 0 58 1 48 (.pointer none)), .it (.st 0 58 2 21 (.int .i32 (-1))), .blk [.fa 2 0 58 3, .nop 2, .st 2 53 0 21 (.int .i32 (-1)), .st 2 53 1 2 (.int .i64 (-1))], .it (.st 0 58 6 21 (.int .i32 (2147483647))), .it (.st 0 58 9 21 (.int .i32 (-1)))]
theorem fn19 : FnIs Try.prog 19 25 [] (gDfltT di19 3) := fnIs_of Try.func19 (by kernel_rfl) (by kernel_rfl) (by kernel_rfl) (by kernel_rfl) -- (*pub-kmsg/pub/kmsg.FetchRequest).Default
noncomputable def dw19 : List (Nat × Value) := (dRun Try.prog 3 (dtF di19) [(0, 0)]).getD []
theorem df19 : Ent Try.prog 19 ∧ DfC Try.prog 19 dw19 := dfC_ofT (n0 := 3) (items := di19) (by kernel_rfl) fn19 (by kernel_rfl) (of_decide_eq_true (by kernel_rfl)) (by omega)
def di34 : List DI := [.st 0 53 0 21 (.int .i32 (-1)), .st 0 53 1 2 (.int .i64 (-1))]
theorem fn34 : FnIs Try.prog 34 8 [] (gDflt di34 2) := fnIs_of Try.func34 (by kernel_rfl) (by kernel_rfl) (by kernel_rfl) (by kernel_rfl) -- (*pub-kmsg/pub/kmsg.FetchRequestReplicaState).Default
noncomputable def dw34 : List (Nat × Value) := (dRun Try.prog 2 di34 [(0, 0)]).getD []
theorem df34 : Ent Try.prog 34 ∧ DfC Try.prog 34 dw34 := dfC_of (n0 := 2) (items := di34) (by kernel_rfl) fn34 (by kernel_rfl) (of_decide_eq_true (by kernel_rfl)) (by omega)
noncomputable def dd : Nat → Option (List (Nat × Value))
  | 19 => some dw19
  | 34 => some dw34
  | _ => none
theorem ddOk : ∀ f wr, dd f = some wr → Ent Try.prog f ∧ DfC Try.prog f wr := by
  intro f wr h
  unfold dd at h
  split at h
  · obtain rfl := Option.some.inj h; exact df19
  · obtain rfl := Option.some.inj h; exact df34
  · cases h
def tn : TN := { tTags := 51, tM := 49, tKs := 73, tU32 := 74, tInt := 3, tSl := 28, fSort := 60, fLess := 61, fEach := 49, fOne := 50, fUv := 29 }
theorem fn49 : FnIs Try.prog 49 53 [] (cEach tn) := fnIs_of Try.func49 (by kernel_rfl) (by kernel_rfl) (by kernel_rfl) (by kernel_rfl) -- (*pub-kmsg/pub/kmsg.Tags).Each
theorem fn61 : FnIs Try.prog 61 15 [5] (cTLess tn) := fnIs_of Try.func61 (by kernel_rfl) (by kernel_rfl) (by kernel_rfl) (by kernel_rfl) -- (*pub-kmsg/pub/kmsg.Tags).Each$1
theorem fn31 : FnIs Try.prog 31 9 [4] (cTEach tn) := fnIs_of Try.func31 (by kernel_rfl) (by kernel_rfl) (by kernel_rfl) (by kernel_rfl) -- (*pub-kmsg/pub/kmsg.Tags).AppendEach
theorem fn50 : FnIs Try.prog 50 16 [] (cTOne tn) := fnIs_of Try.func50 (by kernel_rfl) (by kernel_rfl) (by kernel_rfl) (by kernel_rfl) -- (*pub-kmsg/pub/kmsg.Tags).AppendEach$1
theorem tf : TF Try.prog tn where
  map := ⟨74, 28, by kernel_rfl, by kernel_rfl⟩
  fld := fldB_ok (by kernel_rfl)
  sl := by kernel_rfl
  info := infoB_ok (by kernel_rfl)
  vU := varB_ok (by kernel_rfl)
  vK := varB_ok (by kernel_rfl)
  zK := zeroOf_ok (by kernel_rfl)
  dInt := by kernel_rfl
  dU32 := by kernel_rfl
theorem sortOk : SortOk Try.prog tn := sortOk_of (it := (Try.prog.info? 73).get (by kernel_rfl)) (ie := (Try.prog.info? 74).get (by kernel_rfl)) (ke := 10) (f1 := 67) (f2 := 68) (f6 := 72) mixed tf Try.sa6 rfl (enters_of Try.func60 (by kernel_rfl) rfl) fn61 (by omega) (by kernel_rfl) (by kernel_rfl) (by kernel_rfl) (by kernel_rfl) (fun _ => by kernel_rfl) (by kernel_rfl) (by kernel_rfl) (by kernel_rfl) fn61.ent (by kernel_rfl) (by kernel_rfl) (by kernel_rfl) (fun args W => run_callFunc_extern Try.func72 (by kernel_rfl) (by kernel_rfl) (by kernel_rfl) (e := Extern.ReflectliteSwapper.swap true) (by kernel_rfl) args W)
theorem oct : OctT Try.prog kn.tSl kn.tU8 := octB_ok (by kernel_rfl)
theorem wt : WT Try.prog kn where
  mixed := mixed
  oct := oct
  dU8 := by kernel_rfl
  dI8 := fun _ => by kernel_rfl
  dI16 := by kernel_rfl
  dU16 := fun _ => by kernel_rfl
  dI32 := by kernel_rfl
  dU32 := by kernel_rfl
  dInt := by kernel_rfl
  dI64 := fun _ => by kernel_rfl
  dU64 := fun _ => by kernel_rfl
  dStr := by kernel_rfl
  vStr := varB_ok (by kernel_rfl)
theorem uvC (x : Nat) (w : World) (h : x < 4294967296) : ApC Try.prog kn.tU8 numbersW.uv (.int .u32 x) (uvar x) w := ap_uv wt (by kernel_rfl) fn59 (by omega) fn48 (by omega) fn29 (by omega) h w
theorem i16C (x : Int) (w : World) : ApC Try.prog kn.tU8 46 (.int .i16 x) (be 2 x) w := ap_i16 wt rfl fn58 (by omega) fn46 (by omega) x w
theorem i32C (x : Int) (w : World) : ApC Try.prog kn.tU8 21 (.int .i32 x) (be 4 x) w := ap_i32 wt fn45 (by omega) fn21 (by omega) x w
def avw : PF → Bool
  | .i8 => true
  | .i16 => true
  | .u16 => true
  | .i32 => true
  | .i64 => true
  | .uuid => true
  | .str => true
  | .cstr => true
  | .nstr => true
  | .cnstr => true
  | _ => false
theorem apAll : ∀ p, avw p = true → AppOk Try.prog kn.tU8 p (numbersW.ap p) := by
  intro p h
  cases p
  · cases h
  · exact app_i8 wt rfl fn22 (by omega)
  · exact app_i16 wt rfl fn58 (by omega) fn46 (by omega)
  · exact app_u16 wt rfl fn58 (by omega)
  · exact app_i32 wt fn45 (by omega) fn21 (by omega)
  · exact app_i64 wt rfl rfl fn47 (by omega) fn28 (by omega)
  · exact app_uuid wt (varB_ok (by kernel_rfl)) (by kernel_rfl) fn27 (by omega)
  · exact app_str wt (app_i16 wt rfl fn58 (by omega) fn46 (by omega)) i16C fn26 (by omega)
  · exact app_cstr wt fn29.ent (fun x w h => uvC x w h) fn25 (by omega)
  · exact app_nstr wt (fx := false) rfl (by kernel_rfl) fn46.ent (fun w => i16C (-1) w) (app_str wt (app_i16 wt rfl fn58 (by omega) fn46 (by omega)) i16C fn26 (by omega)) fn36 (by omega)
  · exact app_nstr wt (fx := true) rfl (by kernel_rfl) fn29.ent (fun w => uvC 0 w (by omega)) (app_cstr wt fn29.ent (fun x w h => uvC x w h) fn25 (by omega)) fn35 (by omega)
  · cases h
  · cases h
  · cases h
  · cases h
def sn : SN := { tInt := 3, tI64 := 2, tU8 := 5, tU64 := 89, tU32 := 74, tU16 := 109, tB := 4, tSl := 28, tF := 43, tFs := 23, tT := 35, tTs := 32, tG := 92, tGs := 33, tMs := 25, fPart := 18, fHas := 37, fField := 38, fAt := 39, fKnown := 40, fUsual := 41, fUv := 42, fUnk := 43, fWhole := 44, fNull := 52, fThings := 53, fCnt := 54, fVal := 55, fFix := 56, fWid := 57, fWrite := 9, fSame := 6, fZ2 := 999999, fZ3 := 999999, fZ4 := 999999 }
def zt : ZT := { tTags := 51, tM := 49, tB := 4, tInt := 3, tN := 0 }
noncomputable def tsB : Code := tsBody (Try.f51.body.map nCode)
theorem fn51 : FnIs Try.prog 51 56 [4] (cTS zt tsB) := fnIs_of Try.func51 (by kernel_rfl) (by kernel_rfl) (by kernel_rfl) (by kernel_rfl)
theorem tsC : TsC Try.prog 51 := ts_calls (kt := 74) (et := 28) mixed fn51 (by kernel_rfl) (by kernel_rfl) (fldB_ok (by kernel_rfl))
def zsn0 : ZS := { T := 53, kt := 2, tTags := 51, fTS := 51 }
theorem fn32 : FnIs Try.prog 32 24 [4] (cZS zsn0 (0, 21, 0, (some .i32), (-1)) [(1, 2, 1, (some .i64), (-1))]) := fnIs_of Try.func32 (by kernel_rfl) (by kernel_rfl) (by kernel_rfl) (by kernel_rfl)
def ke0 : KE := { fK := 0, fB := 0, fA := 0, fN := 33, fRd := 0, fAp := 0, fDf := 34, tM := 53, tE := 0, most := 0 }
noncomputable def zv0 : Value := (zeroOf Try.prog 53).getD undef
noncomputable def zz0 : Array Value := applyWr zv0.cells 0 dw34
theorem fn33 : FnIsC Try.prog 33 4 0 53 (cNwv sn ke0) := fnIsC_of Try.func33 (by kernel_rfl) (by kernel_rfl) (by kernel_rfl) (by kernel_rfl)
theorem zvO0 : ∀ w, (zeroValue 53).run Try.prog w = .ok zv0 w := zeroOf_ok (by kernel_rfl)
theorem nw0 : NwC Try.prog 33 zz0 := nwv_calls (S := sn) (N := ke0) (wr := dw34) mixed fn33 zvO0 df34.1 df34.2 (fun p hp => by simpa using List.all_eq_true.1 (show (dw34.all fun p => decide (p.1 < zv0.cells.size)) = true by kernel_rfl) p hp) rfl (varB_ok (sz := 3) (by kernel_rfl)) (by kernel_rfl) (fun u hu => List.all_eq_true.1 (show (zz0.toList.all Value.oneCell') = true by kernel_rfl) u hu) (by kernel_rfl)
theorem smOk0 : SmC Try.prog sm0 := smC_of mixed (z := zsn0) fn32 (by decide) rfl fn51.ent tsC (by kernel_rfl) (by kernel_rfl) (by kernel_rfl) rfl (by kernel_rfl) ⟨zv0, by kernel_rfl, zvO0⟩ fn33.ent nw0 (by kernel_rfl)
theorem smAll : ∀ s ∈ numbersW.sm, SmC Try.prog s := by
  intro s hs
  have hs : s ∈ [sm0] := hs
  simp only [List.mem_cons, List.not_mem_nil, or_false] at hs
  rcases hs with rfl
  · exact smOk0
theorem kw : KW Try.prog numbersW avw true false kn.tU8 where
  mixed := mixed
  oct := oct
  dInt := by kernel_rfl
  dU32 := fun _ => by kernel_rfl
  apE p h := (apAll p h).1
  apC p h := (apAll p h).2
  alE := fun _ => fn24.ent
  alC := fun _ n w => ap_len wt fn21.ent i32C fn24 (by omega) n w
  clE := fun _ _ => fn23.ent
  clC := fun _ _ n w => ap_clen wt fn29.ent (fun x w h => uvC x w h) fn23 (by omega) n w
  nlE := fun h => absurd h (by decide)
  nlC := fun h => absurd h (by decide)
  cnE := fun h => absurd h (by decide)
  cnC := fun h => absurd h (by decide)
  uvE := fun _ => fn29.ent
  uvC := fun _ x w h => uvC x w h
  tlE := fun _ => fn30.ent
  tlC := fun _ w b o m X t hc ht => tlen_calls (kt := 74) (et := 28) mixed (by kernel_rfl) (fldB_ok (by kernel_rfl)) fn30 (by omega) hc ht
  teE := fun _ => fn31.ent
  teC := fun _ w b o m L t d bs hc hb ht hd hL hlim => teach_calls mixed tf sortOk oct (varB_ok (by kernel_rfl)) fn29.ent (fun x w h => uvC x w h) fn49 (by omega) fn50 (by omega) fn31 (by omega) hc hb ht hd hL hlim
  smC := smAll
  uuid := fun _ => ⟨varB_ok (by kernel_rfl), zeroOf_ok (by kernel_rfl)⟩
noncomputable def zv : Value := (zeroOf Try.prog 58).getD undef
noncomputable def zz : Array Value := applyWr zv.cells 0 dw19
theorem sf_fPart : FnIs Try.prog sn.fPart 132 [8] (csPt sn) := fnIs_of Try.func18 (by kernel_rfl) (by kernel_rfl) (by kernel_rfl) (by kernel_rfl)
theorem sf_fHas : FnIs Try.prog sn.fHas 20 [4] (csHs sn) := fnIs_of Try.func37 (by kernel_rfl) (by kernel_rfl) (by kernel_rfl) (by kernel_rfl)
theorem sf_fField : FnIs Try.prog sn.fField 76 [8] (csFl sn) := fnIs_of Try.func38 (by kernel_rfl) (by kernel_rfl) (by kernel_rfl) (by kernel_rfl)
theorem sf_fAt : FnIsC Try.prog sn.fAt 16 4 35 (csAt sn) := fnIsC_of Try.func39 (by kernel_rfl) (by kernel_rfl) (by kernel_rfl) (by kernel_rfl)
theorem sf_fKnown : FnIs Try.prog sn.fKnown 23 [2] (csKw sn) := fnIs_of Try.func40 (by kernel_rfl) (by kernel_rfl) (by kernel_rfl) (by kernel_rfl)
theorem sf_fUv : FnIs Try.prog sn.fUv 20 [2] (csUvr sn) := fnIs_of Try.func42 (by kernel_rfl) (by kernel_rfl) (by kernel_rfl) (by kernel_rfl)
theorem sf_fUnk : FnIs Try.prog sn.fUnk 85 [4] (csUn sn) := fnIs_of Try.func43 (by kernel_rfl) (by kernel_rfl) (by kernel_rfl) (by kernel_rfl)
theorem sf_fWhole : FnIs Try.prog sn.fWhole 8 [2] (csWh sn) := fnIs_of Try.func44 (by kernel_rfl) (by kernel_rfl) (by kernel_rfl) (by kernel_rfl)
theorem sf_fNull : FnIs Try.prog sn.fNull 20 [6] (csNu sn) := fnIs_of Try.func52 (by kernel_rfl) (by kernel_rfl) (by kernel_rfl) (by kernel_rfl)
theorem sf_fThings : FnIs Try.prog sn.fThings 8 [2] (csTh sn) := fnIs_of Try.func53 (by kernel_rfl) (by kernel_rfl) (by kernel_rfl) (by kernel_rfl)
theorem sf_fCnt : FnIs Try.prog sn.fCnt 28 [8] (csCn sn) := fnIs_of Try.func54 (by kernel_rfl) (by kernel_rfl) (by kernel_rfl) (by kernel_rfl)
theorem sf_fVal : FnIs Try.prog sn.fVal 70 [12] (csVa sn) := fnIs_of Try.func55 (by kernel_rfl) (by kernel_rfl) (by kernel_rfl) (by kernel_rfl)
theorem sf_fFix : FnIs Try.prog sn.fFix 22 [4] (csFi sn) := fnIs_of Try.func56 (by kernel_rfl) (by kernel_rfl) (by kernel_rfl) (by kernel_rfl)
theorem sf_fWid : FnIs Try.prog sn.fWid 11 [2] (csWd sn) := fnIs_of Try.func57 (by kernel_rfl) (by kernel_rfl) (by kernel_rfl) (by kernel_rfl)
theorem sf_fWrite : FnIs Try.prog sn.fWrite 21 [6] (csWr sn) := fnIs_of Try.func9 (by kernel_rfl) (by kernel_rfl) (by kernel_rfl) (by kernel_rfl)
theorem sf_fUsual : FnIs Try.prog sn.fUsual 91 [4] (csUs sn) := fnIs_of Try.func41 (by kernel_rfl) (by kernel_rfl) (by kernel_rfl) (by kernel_rfl)
theorem rt : RefT Try.prog sn where
  mixed := mixed
  dInt := by kernel_rfl
  dI64 := by kernel_rfl
  dU8 := by kernel_rfl
  dU32 := by kernel_rfl
  dU64 := by kernel_rfl
  oct := oct
  dTs := by kernel_rfl
  dGs := by kernel_rfl
  dFs := by kernel_rfl
  vI64 := varB_ok (by kernel_rfl)
  vU8 := varB_ok (by kernel_rfl)
  vT := varB_ok (by kernel_rfl)
  vF := varB_ok (by kernel_rfl)
  vG := varB_ok (by kernel_rfl)
  vM := varB_ok (by kernel_rfl)
  t0 := fldB_ok (by kernel_rfl)
  t1 := fldB_ok (by kernel_rfl)
  t2 := fldB_ok (by kernel_rfl)
  t3 := fldB_ok (by kernel_rfl)
  t4 := fldB_ok (by kernel_rfl)
  f0 := fldB_ok (by kernel_rfl)
  f1 := fldB_ok (by kernel_rfl)
  f2 := fldB_ok (by kernel_rfl)
  f3 := fldB_ok (by kernel_rfl)
  f4 := fldB_ok (by kernel_rfl)
  f5 := fldB_ok (by kernel_rfl)
  f6 := fldB_ok (by kernel_rfl)
  f7 := fldB_ok (by kernel_rfl)
  g0 := fldB_ok (by kernel_rfl)
  g1 := fldB_ok (by kernel_rfl)
  m0 := fldB_ok (by kernel_rfl)
  m1 := fldB_ok (by kernel_rfl)
  zT := zeroOf_ok (by kernel_rfl)
  zF := zeroOf_ok (by kernel_rfl)
  zG := zeroOf_ok (by kernel_rfl)
  zM := zeroOf_ok (by kernel_rfl)
  z8 := z8_ok (by kernel_rfl)
  bT := fun w => by kernel_rfl
  bG := fun w => by kernel_rfl
  bSG := fun w => by kernel_rfl
  iG := iG_ok (by kernel_rfl)

theorem leaf : LeafC Try.prog sn := leafC_of rt (varB_ok (by kernel_rfl)) sf_fUv sf_fFix sf_fCnt sf_fWid sf_fWhole sf_fThings sf_fHas sf_fNull sf_fKnown sf_fAt sf_fUnk
theorem mkt : MkT Try.prog sn where
  tab := rt
  iT := iT_ok (by kernel_rfl)
  bT := fun x b w => by kernel_rfl
  bS := fun x b base n c w => by kernel_rfl
  fT := fun x b base n c w => by kernel_rfl
def nn : NN := { fM := 4, fB := 5, fV := 8, fN := 7, fD := 10 }
def it13 : List BI := [([(0, 3), (2, -1), (3, -1), (4, -1), (5, -1)], none), ([(0, 4), (2, -1), (3, -1), (4, -1), (5, -1)], none)]
def ss13 : SFs := .cons 3 0 (-1) (-1) (-1) (-1) 0 .nil (.cons 4 0 (-1) (-1) (-1) (-1) 0 .nil (.nil))
theorem fi13 : FnIs Try.prog 13 4 [0] (cSub sn it13) := fnIs_of Try.func13 (by kernel_rfl) (by kernel_rfl) (by kernel_rfl) (by kernel_rfl)
theorem sb13 : Ent Try.prog 13 ∧ BuildC Try.prog 13 ss13 := sub_calls rt fi13 (of_decide_eq_true (by kernel_rfl)) ⟨fun w => by kernel_rfl, rfl, ⟨fun w => by kernel_rfl, rfl, trivial⟩⟩ (fun sv w => by kernel_rfl) rfl (of_decide_eq_true (by kernel_rfl))
def it20 : List BI := [([(0, 3), (2, -1), (3, -1), (4, -1)], none), ([(0, 3), (1, 9), (2, -1), (3, -1), (4, -1), (5, -1)], none), ([(0, 4), (2, -1), (3, -1), (4, -1)], none), ([(0, 3), (1, 12), (2, -1), (3, -1), (4, -1), (5, -1)], none), ([(0, 4), (1, 5), (2, -1), (3, -1), (4, -1), (5, -1)], none), ([(0, 3), (2, -1), (3, -1), (4, -1)], none), ([(0, 7), (2, -1), (3, -1), (4, 0)], none), ([(0, 4), (2, -1), (3, -1), (4, 1), (5, 9223372036854775807)], none)]
def ss20 : SFs := .cons 3 0 (-1) (-1) (-1) 0 0 .nil (.cons 3 9 (-1) (-1) (-1) (-1) 0 .nil (.cons 4 0 (-1) (-1) (-1) 0 0 .nil (.cons 3 12 (-1) (-1) (-1) (-1) 0 .nil (.cons 4 5 (-1) (-1) (-1) (-1) 0 .nil (.cons 3 0 (-1) (-1) (-1) 0 0 .nil (.cons 7 0 (-1) (-1) 0 0 0 .nil (.cons 4 0 (-1) (-1) 1 9223372036854775807 0 .nil (.nil))))))))
theorem fi20 : FnIs Try.prog 20 10 [0] (cSub sn it20) := fnIs_of Try.func20 (by kernel_rfl) (by kernel_rfl) (by kernel_rfl) (by kernel_rfl)
theorem sb20 : Ent Try.prog 20 ∧ BuildC Try.prog 20 ss20 := sub_calls rt fi20 (of_decide_eq_true (by kernel_rfl)) ⟨fun w => by kernel_rfl, rfl, ⟨fun w => by kernel_rfl, rfl, ⟨fun w => by kernel_rfl, rfl, ⟨fun w => by kernel_rfl, rfl, ⟨fun w => by kernel_rfl, rfl, ⟨fun w => by kernel_rfl, rfl, ⟨fun w => by kernel_rfl, rfl, ⟨fun w => by kernel_rfl, rfl, trivial⟩⟩⟩⟩⟩⟩⟩⟩ (fun sv w => by kernel_rfl) rfl (of_decide_eq_true (by kernel_rfl))
def it14 : List BI := [([(0, 8), (2, 12), (3, -1), (4, -1)], none), ([(0, 7), (1, 13), (2, -1), (3, -1), (4, -1)], none), ([(0, 11), (2, -1), (3, -1), (4, -1), (6, 10)], some 20)]
def ss14 : SFs := .cons 8 0 12 (-1) (-1) 0 0 .nil (.cons 7 13 (-1) (-1) (-1) 0 0 .nil (.cons 11 0 (-1) (-1) (-1) 0 10 ss20 (.nil)))
theorem fi14 : FnIs Try.prog 14 6 [0] (cSub sn it14) := fnIs_of Try.func14 (by kernel_rfl) (by kernel_rfl) (by kernel_rfl) (by kernel_rfl)
theorem sb14 : Ent Try.prog 14 ∧ BuildC Try.prog 14 ss14 := sub_calls rt fi14 (of_decide_eq_true (by kernel_rfl)) ⟨fun w => by kernel_rfl, rfl, ⟨fun w => by kernel_rfl, rfl, ⟨fun base n c w => by kernel_rfl, sb20, trivial⟩⟩⟩ (fun sv w => by kernel_rfl) rfl (of_decide_eq_true (by kernel_rfl))
def it15 : List BI := [([(0, 8), (1, 7), (2, 12), (3, -1), (4, -1)], none), ([(0, 7), (1, 13), (2, -1), (3, -1), (4, -1)], none), ([(0, 11), (2, -1), (3, -1), (4, -1), (6, 3)], none)]
def ss15 : SFs := .cons 8 7 12 (-1) (-1) 0 0 .nil (.cons 7 13 (-1) (-1) (-1) 0 0 .nil (.cons 11 0 (-1) (-1) (-1) 0 3 .nil (.nil)))
theorem fi15 : FnIs Try.prog 15 5 [0] (cSub sn it15) := fnIs_of Try.func15 (by kernel_rfl) (by kernel_rfl) (by kernel_rfl) (by kernel_rfl)
theorem sb15 : Ent Try.prog 15 ∧ BuildC Try.prog 15 ss15 := sub_calls rt fi15 (of_decide_eq_true (by kernel_rfl)) ⟨fun w => by kernel_rfl, rfl, ⟨fun w => by kernel_rfl, rfl, ⟨fun w => by kernel_rfl, rfl, trivial⟩⟩⟩ (fun sv w => by kernel_rfl) rfl (of_decide_eq_true (by kernel_rfl))
def itM : List BI := [([(0, 8), (2, -1), (3, 0), (4, 0)], none), ([(0, 3), (2, 14), (3, -1), (4, -1), (5, -1)], none), ([(0, 10), (2, -1), (3, -1), (4, 1)], some 13), ([(0, 3), (2, -1), (3, -1), (4, -1)], none), ([(0, 3), (2, -1), (3, -1), (4, -1)], none), ([(0, 3), (1, 3), (2, -1), (3, -1), (4, -1), (5, 2147483647)], none), ([(0, 1), (1, 4), (2, -1), (3, -1), (4, -1)], none), ([(0, 3), (1, 7), (2, -1), (3, -1), (4, -1)], none), ([(0, 3), (1, 7), (2, -1), (3, -1), (4, -1), (5, -1)], none), ([(0, 11), (2, -1), (3, -1), (4, -1), (6, 10)], some 14), ([(0, 11), (1, 7), (2, -1), (3, -1), (4, -1), (6, 10)], some 15), ([(0, 8), (1, 11), (2, -1), (3, -1), (4, -1)], none)]
def ssM : SFs := .cons 8 0 (-1) 0 0 0 0 .nil (.cons 3 0 14 (-1) (-1) (-1) 0 .nil (.cons 10 0 (-1) (-1) 1 0 0 ss13 (.cons 3 0 (-1) (-1) (-1) 0 0 .nil (.cons 3 0 (-1) (-1) (-1) 0 0 .nil (.cons 3 3 (-1) (-1) (-1) 2147483647 0 .nil (.cons 1 4 (-1) (-1) (-1) 0 0 .nil (.cons 3 7 (-1) (-1) (-1) 0 0 .nil (.cons 3 7 (-1) (-1) (-1) (-1) 0 .nil (.cons 11 0 (-1) (-1) (-1) 0 10 ss14 (.cons 11 7 (-1) (-1) (-1) 0 10 ss15 (.cons 8 11 (-1) (-1) (-1) 0 0 .nil (.nil))))))))))))
theorem fiM : FnIsC Try.prog 5 18 0 sn.tMs (cMsgB sn 12 itM) := fnIsC_of Try.func5 (by kernel_rfl) (by kernel_rfl) (by kernel_rfl) (by kernel_rfl)
theorem sbM : Ent Try.prog 5 ∧ MsgBC Try.prog 5 12 ssM := msgb_calls rt (fun x base n c w => by kernel_rfl) fiM (of_decide_eq_true (by kernel_rfl)) ⟨fun w => by kernel_rfl, rfl, ⟨fun w => by kernel_rfl, rfl, ⟨fun base n c w => by kernel_rfl, sb13, ⟨fun w => by kernel_rfl, rfl, ⟨fun w => by kernel_rfl, rfl, ⟨fun w => by kernel_rfl, rfl, ⟨fun w => by kernel_rfl, rfl, ⟨fun w => by kernel_rfl, rfl, ⟨fun w => by kernel_rfl, rfl, ⟨fun base n c w => by kernel_rfl, sb14, ⟨fun base n c w => by kernel_rfl, sb15, ⟨fun w => by kernel_rfl, rfl, trivial⟩⟩⟩⟩⟩⟩⟩⟩⟩⟩⟩⟩ (fun sv w => by kernel_rfl) rfl (of_decide_eq_true (by kernel_rfl))
theorem fiD : FnIsC Try.prog nn.fD 35 2 35 (cDef sn nn) := fnIsC_of Try.func10 (by kernel_rfl) (by kernel_rfl) (by kernel_rfl) (by kernel_rfl)
theorem newAllOk : newAll true 12 18 12 fsFetchRequest ssM zz (some 15) = true := by kernel_rfl
theorem smR : FnIs Try.prog sn.fSame 26 [4] (cSame sn.tSl sn.tU8 sn.tInt) := fnIs_of Try.func6 (by kernel_rfl) (by kernel_rfl) (by kernel_rfl) (by kernel_rfl)
theorem ktc : KtC Try.prog sn := ktC_of rt sf_fAt sf_fKnown.ent leaf.knC sf_fUnk sf_fUsual.ent smR (by omega) (varB_ok (by kernel_rfl)) (by decide)
theorem newC : NewC Try.prog sn nn 18 12 ssM (newB true 12 fsFetchRequest) :=
  newC_of (cw := ⟨true, 0, 0, 5, 6⟩) (ms := nwFetchRequest) (tI16 := 38) (toff := (some 15)) rt kw (by decide) rfl fn11 (by omega) fn16 (by omega) df19.1 df19.2 fn17 (by kernel_rfl) rfl (of_decide_eq_true (by kernel_rfl)) (by kernel_rfl) (by kernel_rfl) (by kernel_rfl) (by kernel_rfl) fn7 fn8 (by omega) fn6 (by omega) fn4 (by omega) fn12 (by omega) (by decide) sbM fiD (def_calls mkt fiD ssM (by kernel_rfl)).1 sf_fWrite sf_fPart.ent (ref_callsT leaf ktc sf_fPart sf_fField sf_fVal sf_fUsual ssM (by kernel_rfl)).1 newAllOk
theorem fnL : FnIs Try.prog 3 22 [2] (cLnw sn nn) := fnIs_of Try.func3 (by kernel_rfl) (by kernel_rfl) (by kernel_rfl) (by kernel_rfl)
theorem law {x0 : Nat} (hx : x0 < 256) (W : World) : Calls Try.prog 3 [.int .u8 (x0 : Int)].toArray W (TrueN W) := new_law newC newAllOk fnL hx W
end Go.Proofs.Ytbgklecbmhaadaa.Kx
