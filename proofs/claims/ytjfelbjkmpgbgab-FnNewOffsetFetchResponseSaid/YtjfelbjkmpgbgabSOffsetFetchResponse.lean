/-
  FnNewOffsetFetchResponse: the numbers of the program, the code of its functions, and the law out of them.
-/
import Derived.Test.YtjfelbjkmpgbgabChecked
import Derived.Test.YtjfelbjkmpgbgabK1
import Derived.Test.YtjfelbjkmpgbgabK2
import Derived.Test.YtjfelbjkmpgbgabK3
import Derived.Test.YtjfelbjkmpgbgabK4
import Derived.Test.YtjfelbjkmpgbgabK5
import Derived.Test.YtjfelbjkmpgbgabK6
import Derived.Test.YtjfelbjkmpgbgabK7
import Derived.Test.YtjfelbjkmpgbgabK8
import Derived.Test.YtjfelbjkmpgbgabK9
import Derived.Test.YtjfelbjkmpgbgabK10
import Derived.Test.YtjfelbjkmpgbgabK11
import Derived.Test.YtjfelbjkmpgbgabK12
import Derived.Test.YtjfelbjkmpgbgabK13
import Derived.Test.YtjfelbjkmpgbgabK14
import Derived.Test.YtjfelbjkmpgbgabK15
import Derived.KernelRfl
import Derived.Test.YtjfelbjkmpgbgabSh
namespace Go.Proofs.Ytjfelbjkmpgbgab.Kx
open Go Go.Proofs
set_option maxRecDepth 100000
def numbersW : GW := { ap := fun | .bool => 93 | .i8 => 85 | .i16 => 69 | .u16 => 102 | .i32 => 68 | .i64 => 88 | .uuid => 67 | .str => 87 | .cstr => 86 | .nstr => 71 | .cnstr => 70 | .bytes => 999999 | .cbytes => 999999 | .nbytes => 999999 | .cnbytes => 999999, alen := 66, calen := 65, nalen := 92, cnalen := 91, uv := 72, tlen := 73, teach := 74, tVer := 38, tInt := 3, tU32 := 79, tSl := 28, tUuid := 66 }
def kn : Kn := { tRS := 999999, tSl := 28, tB := 4, tInt := 3, tU8 := 5, tI8 := 90, tI16 := 38, tU16 := 158, tI32 := 21, tU32 := 79, tI64 := 2, tU64 := 86, tStr := 9, tUuid := 66, tBE := 999999, tErr := 999999, gBE := 999999, gErr := 0, fU16 := 999999, fU32 := 999999, fU64 := 999999, fUv := 999999, fR64 := 999999 }
theorem mixed : Try.prog.follows .mixedOrders = true := by kernel_rfl
def fsOffsetFetchResponse : Fds := (.cons 3 none none (0) 1 (.prim .i32) (.cons 0 (some 7) none (0) 2 (.list none 3 (.struct none (some 2) (.cons 0 none none (0) 0 (.str none) (.cons 0 none none (0) 1 (.list none 6 (.struct none (some 5) (.cons 0 none none (0) 0 (.prim .i32) (.cons 0 none none (0) 1 (.prim .i64) (.cons 5 none none (-1) 2 (.prim .i32) (.cons 0 none none (0) 3 (.str (some 0)) (.cons 0 none none (0) 4 (.prim .i16) .nil))))))) .nil)))) (.cons 2 (some 7) none (0) 3 (.prim .i16) (.cons 8 none none (0) 4 (.list none 4 (.struct none (some 3) (.cons 0 none none (0) 0 (.str none) (.cons 0 none none (0) 1 (.list none 19 (.struct none (some 18) (.cons 8 (some 9) none (0) 0 (.str none) (.cons 10 none none (0) 1 (.prim .uuid) (.cons 0 none none (0) 17 (.list none 6 (.struct none (some 5) (.cons 0 none none (0) 0 (.prim .i32) (.cons 0 none none (0) 1 (.prim .i64) (.cons 0 none none (-1) 2 (.prim .i32) (.cons 0 none none (0) 3 (.str (some 0)) (.cons 0 none none (0) 4 (.prim .i16) .nil))))))) .nil))))) (.cons 0 none none (0) 2 (.prim .i16) .nil))))) .nil))))
def nwOffsetFetchResponse : List Nm := [(.mk [7, 139, 1, 21] []), (.mk [8, 139, 2, 136, 9, 0, 1] [(.mk [10, 143, 2] [(.mk [] [(.mk [11, 143, 0, 9] []), (.mk [12, 143, 1, 141, 13, 2, 3] [(.mk [14, 146, 5] [(.mk [] [(.mk [15, 146, 0, 21] []), (.mk [16, 146, 1, 2] []), (.mk [17, 146, 2, 21] []), (.mk [18, 146, 3, 72] []), (.mk [19, 146, 4, 38] [])])])])])])]), (.mk [20, 139, 3, 38] []), (.mk [21, 139, 4, 137, 22, 4, 5] [(.mk [23, 150, 3] [(.mk [] [(.mk [24, 150, 0, 9] []), (.mk [25, 150, 1, 148, 26, 6, 7] [(.mk [27, 154, 3] [(.mk [] [(.mk [28, 154, 0, 9] []), (.mk [29, 154, 1, 66] []), (.mk [30, 154, 2, 152, 31, 8, 9] [(.mk [32, 156, 5] [(.mk [] [(.mk [33, 156, 0, 21] []), (.mk [34, 156, 1, 2] []), (.mk [35, 156, 2, 21] []), (.mk [36, 156, 3, 72] []), (.mk [37, 156, 4, 38] [])])])])])])]), (.mk [38, 150, 2, 38] [])])])])]
theorem fn85 : FnIs Try.prog 85 10 [4] (cAI8 kn) := fnIs_of Try.func85 (by kernel_rfl) (by kernel_rfl) (by kernel_rfl) (by kernel_rfl) -- pub-kmsg/pub/kmsg/inner/kbin.AppendInt8
theorem fn102 : FnIs Try.prog 102 13 [4] (cAU16 kn) := fnIs_of Try.func102 (by kernel_rfl) (by kernel_rfl) (by kernel_rfl) (by kernel_rfl) -- pub-kmsg/pub/kmsg/inner/kbin.AppendUint16
theorem fn101 : FnIs Try.prog 101 19 [4] (cAU32 kn) := fnIs_of Try.func101 (by kernel_rfl) (by kernel_rfl) (by kernel_rfl) (by kernel_rfl) -- pub-kmsg/pub/kmsg/inner/kbin.AppendUint32
theorem fn112 : FnIs Try.prog 112 31 [4] (cAU64 kn) := fnIs_of Try.func112 (by kernel_rfl) (by kernel_rfl) (by kernel_rfl) (by kernel_rfl) -- pub-kmsg/pub/kmsg/inner/kbin.appendUint64
theorem fn69 : FnIs Try.prog 69 9 [4] (cACv kn.tI16 kn.tU16 102) := fnIs_of Try.func69 (by kernel_rfl) (by kernel_rfl) (by kernel_rfl) (by kernel_rfl) -- pub-kmsg/pub/kmsg/inner/kbin.AppendInt16
theorem fn68 : FnIs Try.prog 68 9 [4] (cACv kn.tI32 kn.tU32 101) := fnIs_of Try.func68 (by kernel_rfl) (by kernel_rfl) (by kernel_rfl) (by kernel_rfl) -- pub-kmsg/pub/kmsg/inner/kbin.AppendInt32
theorem fn88 : FnIs Try.prog 88 9 [4] (cACv kn.tI64 kn.tU64 112) := fnIs_of Try.func88 (by kernel_rfl) (by kernel_rfl) (by kernel_rfl) (by kernel_rfl) -- pub-kmsg/pub/kmsg/inner/kbin.AppendInt64
theorem fn66 : FnIs Try.prog 66 9 [4] (cACv kn.tInt kn.tI32 68) := fnIs_of Try.func66 (by kernel_rfl) (by kernel_rfl) (by kernel_rfl) (by kernel_rfl) -- pub-kmsg/pub/kmsg/inner/kbin.AppendArrayLen
theorem fn65 : FnIs Try.prog 65 10 [4] (cACv1 kn 72) := fnIs_of Try.func65 (by kernel_rfl) (by kernel_rfl) (by kernel_rfl) (by kernel_rfl) -- pub-kmsg/pub/kmsg/inner/kbin.AppendCompactArrayLen
theorem fn93 : FnIs Try.prog 93 12 [4] (cABool kn) := fnIs_of Try.func93 (by kernel_rfl) (by kernel_rfl) (by kernel_rfl) (by kernel_rfl) -- pub-kmsg/pub/kmsg/inner/kbin.AppendBool
theorem fn67 : FnIs Try.prog 67 8 [4] (cAUuid kn) := fnIs_of Try.func67 (by kernel_rfl) (by kernel_rfl) (by kernel_rfl) (by kernel_rfl) -- pub-kmsg/pub/kmsg/inner/kbin.AppendUuid
theorem fn87 : FnIs Try.prog 87 13 [4] (cAStr kn kn.tStr kn.tI16 69) := fnIs_of Try.func87 (by kernel_rfl) (by kernel_rfl) (by kernel_rfl) (by kernel_rfl) -- pub-kmsg/pub/kmsg/inner/kbin.AppendString
theorem fn86 : FnIs Try.prog 86 14 [4] (cACStr kn kn.tStr 72) := fnIs_of Try.func86 (by kernel_rfl) (by kernel_rfl) (by kernel_rfl) (by kernel_rfl) -- pub-kmsg/pub/kmsg/inner/kbin.AppendCompactString
theorem fn71 : FnIs Try.prog 71 14 [4] (cANStr kn 72 (.int .i16 (-1)) 69 87) := fnIs_of Try.func71 (by kernel_rfl) (by kernel_rfl) (by kernel_rfl) (by kernel_rfl) -- pub-kmsg/pub/kmsg/inner/kbin.AppendNullableString
theorem fn70 : FnIs Try.prog 70 14 [4] (cANStr kn 72 (.int .u32 0) 72 86) := fnIs_of Try.func70 (by kernel_rfl) (by kernel_rfl) (by kernel_rfl) (by kernel_rfl) -- pub-kmsg/pub/kmsg/inner/kbin.AppendCompactNullableString
theorem fn92 : FnIs Try.prog 92 14 [6] (cANLen kn 68) := fnIs_of Try.func92 (by kernel_rfl) (by kernel_rfl) (by kernel_rfl) (by kernel_rfl) -- pub-kmsg/pub/kmsg/inner/kbin.AppendNullableArrayLen
theorem fn91 : FnIs Try.prog 91 15 [6] (cACNLen kn 72) := fnIs_of Try.func91 (by kernel_rfl) (by kernel_rfl) (by kernel_rfl) (by kernel_rfl) -- pub-kmsg/pub/kmsg/inner/kbin.AppendCompactNullableArrayLen
theorem fn72 : FnIs Try.prog 72 93 [4] (cAUv kn 103) := fnIs_of Try.func72 (by kernel_rfl) (by kernel_rfl) (by kernel_rfl) (by kernel_rfl) -- pub-kmsg/pub/kmsg/inner/kbin.AppendUvarint
theorem fn103 : FnIs Try.prog 103 8 [2] (cUvLen kn 114) := fnIs_of Try.func103 (by kernel_rfl) (by kernel_rfl) (by kernel_rfl) (by kernel_rfl) -- pub-kmsg/pub/kmsg/inner/kbin.UvarintLen
theorem fn114 : FnIs Try.prog 114 19 [2] (cLen32 kn 79) := fnIs_of Try.func114 (by kernel_rfl) (by kernel_rfl) (by kernel_rfl) (by kernel_rfl) -- math/bits.Len32
theorem fn73 : FnIs Try.prog 73 8 [2] (cTLen kn 61 59) := fnIs_of Try.func73 (by kernel_rfl) (by kernel_rfl) (by kernel_rfl) (by kernel_rfl) -- (*pub-kmsg/pub/kmsg.Tags).Len
theorem fn57 : FnIs Try.prog 57 3 [0] (cNewPtr 139 98) := fnIs_of Try.func57 (by kernel_rfl) (by kernel_rfl) (by kernel_rfl) (by kernel_rfl) -- pub-kmsg/pub/kmsg.NewPtrOffsetFetchResponse
theorem fn61 : FnIs Try.prog 61 8 [] (cSetV 139 38) := fnIs_of Try.func61 (by kernel_rfl) (by kernel_rfl) (by kernel_rfl) (by kernel_rfl) -- (*pub-kmsg/pub/kmsg.OffsetFetchResponse).SetVersion
theorem fn28 : FnIs Try.prog 28 4 [0] (cMax 38 3 57 58) := fnIs_of Try.func28 (by kernel_rfl) (by kernel_rfl) (by kernel_rfl) (by kernel_rfl) -- pub-kmsg/impl.MaxOffsetFetchResponse
theorem fn30 : FnIs Try.prog 30 11 [2] (cNewM 38 3 57 61 62) := fnIs_of Try.func30 (by kernel_rfl) (by kernel_rfl) (by kernel_rfl) (by kernel_rfl) -- pub-kmsg/impl.NewOffsetFetchResponse
theorem fn58 : FnIs Try.prog 58 3 [2] (cMaxV 10) := fnIs_of Try.func58 (by kernel_rfl) (by kernel_rfl) (by kernel_rfl) (by kernel_rfl) -- (*pub-kmsg/pub/kmsg.OffsetFetchResponse).MaxVersion
theorem fn13 : FnIs Try.prog 13 10 [4] (cVer 5 3) := fnIs_of Try.func13 (by kernel_rfl) (by kernel_rfl) (by kernel_rfl) (by kernel_rfl) -- pub-kmsg/laws.version
theorem fn11 : FnIs Try.prog 11 26 [4] (cSame 28 5 3) := fnIs_of Try.func11 (by kernel_rfl) (by kernel_rfl) (by kernel_rfl) (by kernel_rfl) -- pub-kmsg/spec.Same
theorem fn62 : FnIs Try.prog 62 407 [4] (gWrite numbersW false ⟨true, 0, 0, 5, 6⟩ fsOffsetFetchResponse 139 5 6 0 39 nwOffsetFetchResponse) := fnIs_of Try.func62 (by kernel_rfl) (by kernel_rfl) (by kernel_rfl) (by kernel_rfl) -- (*pub-kmsg/pub/kmsg.OffsetFetchResponse).AppendTo
def di98 : List DI := []
theorem fn98 : FnIs Try.prog 98 2 [] (gDflt di98 2) := fnIs_of Try.func98 (by kernel_rfl) (by kernel_rfl) (by kernel_rfl) (by kernel_rfl) -- (*pub-kmsg/pub/kmsg.OffsetFetchResponse).Default
noncomputable def dw98 : List (Nat × Value) := (dRun Try.prog 2 di98 [(0, 0)]).getD []
theorem df98 : Ent Try.prog 98 ∧ DfC Try.prog 98 dw98 := dfC_of (n0 := 2) (items := di98) (by kernel_rfl) fn98 (by kernel_rfl) (of_decide_eq_true (by kernel_rfl)) (by omega)
noncomputable def dd : Nat → Option (List (Nat × Value))
  | 98 => some dw98
  | _ => none
theorem ddOk : ∀ f wr, dd f = some wr → Ent Try.prog f ∧ DfC Try.prog f wr := by
  intro f wr h
  unfold dd at h
  split at h
  · obtain rfl := Option.some.inj h; exact df98
  · cases h
def tn : TN := { tTags := 61, tM := 59, tKs := 172, tU32 := 79, tInt := 3, tSl := 28, fSort := 115, fLess := 116, fEach := 104, fOne := 105, fUv := 72 }
theorem fn104 : FnIs Try.prog 104 53 [] (cEach tn) := fnIs_of Try.func104 (by kernel_rfl) (by kernel_rfl) (by kernel_rfl) (by kernel_rfl) -- (*pub-kmsg/pub/kmsg.Tags).Each
theorem fn116 : FnIs Try.prog 116 15 [5] (cTLess tn) := fnIs_of Try.func116 (by kernel_rfl) (by kernel_rfl) (by kernel_rfl) (by kernel_rfl) -- (*pub-kmsg/pub/kmsg.Tags).Each$1
theorem fn74 : FnIs Try.prog 74 9 [4] (cTEach tn) := fnIs_of Try.func74 (by kernel_rfl) (by kernel_rfl) (by kernel_rfl) (by kernel_rfl) -- (*pub-kmsg/pub/kmsg.Tags).AppendEach
theorem fn105 : FnIs Try.prog 105 16 [] (cTOne tn) := fnIs_of Try.func105 (by kernel_rfl) (by kernel_rfl) (by kernel_rfl) (by kernel_rfl) -- (*pub-kmsg/pub/kmsg.Tags).AppendEach$1
theorem tf : TF Try.prog tn where
  map := ⟨79, 28, by kernel_rfl, by kernel_rfl⟩
  fld := fldB_ok (by kernel_rfl)
  sl := by kernel_rfl
  info := infoB_ok (by kernel_rfl)
  vU := varB_ok (by kernel_rfl)
  vK := varB_ok (by kernel_rfl)
  zK := zeroOf_ok (by kernel_rfl)
  dInt := by kernel_rfl
  dU32 := by kernel_rfl
theorem sortOk : SortOk Try.prog tn := sortOk_of (it := (Try.prog.info? 172).get (by kernel_rfl)) (ie := (Try.prog.info? 79).get (by kernel_rfl)) (ke := 10) (f1 := 122) (f2 := 123) (f6 := 127) mixed tf Try.sa6 rfl (enters_of Try.func115 (by kernel_rfl) rfl) fn116 (by omega) (by kernel_rfl) (by kernel_rfl) (by kernel_rfl) (by kernel_rfl) (fun _ => by kernel_rfl) (by kernel_rfl) (by kernel_rfl) (by kernel_rfl) fn116.ent (by kernel_rfl) (by kernel_rfl) (by kernel_rfl) (fun args W => run_callFunc_extern Try.func127 (by kernel_rfl) (by kernel_rfl) (by kernel_rfl) (e := Extern.ReflectliteSwapper.swap true) (by kernel_rfl) args W)
theorem oct : OctT Try.prog kn.tSl kn.tU8 := octB_ok (by kernel_rfl)
theorem wt : WT Try.prog kn where
  mixed := mixed
  oct := oct
  dU8 := by kernel_rfl
  dI8 := fun _ => by kernel_rfl
  dI16 := by kernel_rfl
  dU16 := fun _ => by kernel_rfl
  dI32 := by kernel_rfl
  dU32 := by kernel_rfl
  dInt := by kernel_rfl
  dI64 := fun _ => by kernel_rfl
  dU64 := fun _ => by kernel_rfl
  dStr := by kernel_rfl
  vStr := varB_ok (by kernel_rfl)
theorem uvC (x : Nat) (w : World) (h : x < 4294967296) : ApC Try.prog kn.tU8 numbersW.uv (.int .u32 x) (uvar x) w := ap_uv wt (by kernel_rfl) fn114 (by omega) fn103 (by omega) fn72 (by omega) h w
theorem i16C (x : Int) (w : World) : ApC Try.prog kn.tU8 69 (.int .i16 x) (be 2 x) w := ap_i16 wt rfl fn102 (by omega) fn69 (by omega) x w
theorem i32C (x : Int) (w : World) : ApC Try.prog kn.tU8 68 (.int .i32 x) (be 4 x) w := ap_i32 wt fn101 (by omega) fn68 (by omega) x w
def avw : PF → Bool
  | .bool => true
  | .i8 => true
  | .i16 => true
  | .u16 => true
  | .i32 => true
  | .i64 => true
  | .uuid => true
  | .str => true
  | .cstr => true
  | .nstr => true
  | .cnstr => true
  | _ => false
theorem apAll : ∀ p, avw p = true → AppOk Try.prog kn.tU8 p (numbersW.ap p) := by
  intro p h
  cases p
  · exact app_bool wt fn93 (by omega)
  · exact app_i8 wt rfl fn85 (by omega)
  · exact app_i16 wt rfl fn102 (by omega) fn69 (by omega)
  · exact app_u16 wt rfl fn102 (by omega)
  · exact app_i32 wt fn101 (by omega) fn68 (by omega)
  · exact app_i64 wt rfl rfl fn112 (by omega) fn88 (by omega)
  · exact app_uuid wt (varB_ok (by kernel_rfl)) (by kernel_rfl) fn67 (by omega)
  · exact app_str wt (app_i16 wt rfl fn102 (by omega) fn69 (by omega)) i16C fn87 (by omega)
  · exact app_cstr wt fn72.ent (fun x w h => uvC x w h) fn86 (by omega)
  · exact app_nstr wt (fx := false) rfl (by kernel_rfl) fn69.ent (fun w => i16C (-1) w) (app_str wt (app_i16 wt rfl fn102 (by omega) fn69 (by omega)) i16C fn87 (by omega)) fn71 (by omega)
  · exact app_nstr wt (fx := true) rfl (by kernel_rfl) fn72.ent (fun w => uvC 0 w (by omega)) (app_cstr wt fn72.ent (fun x w h => uvC x w h) fn86 (by omega)) fn70 (by omega)
  · cases h
  · cases h
  · cases h
  · cases h
theorem kw : KW Try.prog numbersW avw true true kn.tU8 where
  mixed := mixed
  oct := oct
  dInt := by kernel_rfl
  dU32 := fun _ => by kernel_rfl
  apE p h := (apAll p h).1
  apC p h := (apAll p h).2
  alE := fun _ => fn66.ent
  alC := fun _ n w => ap_len wt fn68.ent i32C fn66 (by omega) n w
  clE := fun _ _ => fn65.ent
  clC := fun _ _ n w => ap_clen wt fn72.ent (fun x w h => uvC x w h) fn65 (by omega) n w
  nlE := fun _ => fn92.ent
  nlC := fun _ n b w L d bs hd hL hlim => anlen_calls wt fn68.ent i32C fn92 (by omega) n b w L d bs hd hL hlim
  cnE := fun _ _ => fn91.ent
  cnC := fun _ _ n b w L d bs hd hL hlim => acnlen_calls wt fn72.ent (fun x w h => uvC x w h) fn91 (by omega) n b w L d bs hd hL hlim
  uvE := fun _ => fn72.ent
  uvC := fun _ x w h => uvC x w h
  tlE := fun _ => fn73.ent
  tlC := fun _ w b o m X t hc ht => tlen_calls (kt := 79) (et := 28) mixed (by kernel_rfl) (fldB_ok (by kernel_rfl)) fn73 (by omega) hc ht
  teE := fun _ => fn74.ent
  teC := fun _ w b o m L t d bs hc hb ht hd hL hlim => teach_calls mixed tf sortOk oct (varB_ok (by kernel_rfl)) fn72.ent (fun x w h => uvC x w h) fn104 (by omega) fn105 (by omega) fn74 (by omega) hc hb ht hd hL hlim
  uuid := fun _ => ⟨varB_ok (by kernel_rfl), zeroOf_ok (by kernel_rfl)⟩
noncomputable def zv : Value := (zeroOf Try.prog 139).getD undef
noncomputable def zz : Array Value := applyWr zv.cells 0 dw98
def sn : SN := { tInt := 3, tI64 := 2, tU8 := 5, tU64 := 86, tU32 := 79, tU16 := 158, tB := 4, tSl := 28, tF := 44, tFs := 23, tT := 35, tTs := 32, tG := 89, tGs := 33, tMs := 25, fPart := 36, fHas := 75, fField := 76, fAt := 77, fKnown := 78, fUsual := 79, fUv := 80, fUnk := 81, fWhole := 82, fNull := 106, fThings := 107, fCnt := 108, fVal := 109, fFix := 110, fWid := 111, fWrite := 14, fSame := 11, fZ2 := 999999, fZ3 := 999999, fZ4 := 999999 }
theorem sf_fPart : FnIs Try.prog sn.fPart 132 [8] (csPt sn) := fnIs_of Try.func36 (by kernel_rfl) (by kernel_rfl) (by kernel_rfl) (by kernel_rfl)
theorem sf_fHas : FnIs Try.prog sn.fHas 20 [4] (csHs sn) := fnIs_of Try.func75 (by kernel_rfl) (by kernel_rfl) (by kernel_rfl) (by kernel_rfl)
theorem sf_fField : FnIs Try.prog sn.fField 76 [8] (csFl sn) := fnIs_of Try.func76 (by kernel_rfl) (by kernel_rfl) (by kernel_rfl) (by kernel_rfl)
theorem sf_fAt : FnIsC Try.prog sn.fAt 16 4 35 (csAt sn) := fnIsC_of Try.func77 (by kernel_rfl) (by kernel_rfl) (by kernel_rfl) (by kernel_rfl)
theorem sf_fKnown : FnIs Try.prog sn.fKnown 23 [2] (csKw sn) := fnIs_of Try.func78 (by kernel_rfl) (by kernel_rfl) (by kernel_rfl) (by kernel_rfl)
theorem sf_fUv : FnIs Try.prog sn.fUv 20 [2] (csUvr sn) := fnIs_of Try.func80 (by kernel_rfl) (by kernel_rfl) (by kernel_rfl) (by kernel_rfl)
theorem sf_fUnk : FnIs Try.prog sn.fUnk 85 [4] (csUn sn) := fnIs_of Try.func81 (by kernel_rfl) (by kernel_rfl) (by kernel_rfl) (by kernel_rfl)
theorem sf_fWhole : FnIs Try.prog sn.fWhole 8 [2] (csWh sn) := fnIs_of Try.func82 (by kernel_rfl) (by kernel_rfl) (by kernel_rfl) (by kernel_rfl)
theorem sf_fNull : FnIs Try.prog sn.fNull 20 [6] (csNu sn) := fnIs_of Try.func106 (by kernel_rfl) (by kernel_rfl) (by kernel_rfl) (by kernel_rfl)
theorem sf_fThings : FnIs Try.prog sn.fThings 8 [2] (csTh sn) := fnIs_of Try.func107 (by kernel_rfl) (by kernel_rfl) (by kernel_rfl) (by kernel_rfl)
theorem sf_fCnt : FnIs Try.prog sn.fCnt 28 [8] (csCn sn) := fnIs_of Try.func108 (by kernel_rfl) (by kernel_rfl) (by kernel_rfl) (by kernel_rfl)
theorem sf_fVal : FnIs Try.prog sn.fVal 70 [12] (csVa sn) := fnIs_of Try.func109 (by kernel_rfl) (by kernel_rfl) (by kernel_rfl) (by kernel_rfl)
theorem sf_fFix : FnIs Try.prog sn.fFix 22 [4] (csFi sn) := fnIs_of Try.func110 (by kernel_rfl) (by kernel_rfl) (by kernel_rfl) (by kernel_rfl)
theorem sf_fWid : FnIs Try.prog sn.fWid 11 [2] (csWd sn) := fnIs_of Try.func111 (by kernel_rfl) (by kernel_rfl) (by kernel_rfl) (by kernel_rfl)
theorem sf_fWrite : FnIs Try.prog sn.fWrite 21 [6] (csWr sn) := fnIs_of Try.func14 (by kernel_rfl) (by kernel_rfl) (by kernel_rfl) (by kernel_rfl)
theorem rt : RefT Try.prog sn where
  mixed := mixed
  dInt := by kernel_rfl
  dI64 := by kernel_rfl
  dU8 := by kernel_rfl
  dU32 := by kernel_rfl
  dU64 := by kernel_rfl
  oct := oct
  dTs := by kernel_rfl
  dGs := by kernel_rfl
  dFs := by kernel_rfl
  vI64 := varB_ok (by kernel_rfl)
  vU8 := varB_ok (by kernel_rfl)
  vT := varB_ok (by kernel_rfl)
  vF := varB_ok (by kernel_rfl)
  vG := varB_ok (by kernel_rfl)
  vM := varB_ok (by kernel_rfl)
  t0 := fldB_ok (by kernel_rfl)
  t1 := fldB_ok (by kernel_rfl)
  t2 := fldB_ok (by kernel_rfl)
  t3 := fldB_ok (by kernel_rfl)
  t4 := fldB_ok (by kernel_rfl)
  f0 := fldB_ok (by kernel_rfl)
  f1 := fldB_ok (by kernel_rfl)
  f2 := fldB_ok (by kernel_rfl)
  f3 := fldB_ok (by kernel_rfl)
  f4 := fldB_ok (by kernel_rfl)
  f5 := fldB_ok (by kernel_rfl)
  f6 := fldB_ok (by kernel_rfl)
  f7 := fldB_ok (by kernel_rfl)
  g0 := fldB_ok (by kernel_rfl)
  g1 := fldB_ok (by kernel_rfl)
  m0 := fldB_ok (by kernel_rfl)
  m1 := fldB_ok (by kernel_rfl)
  zT := zeroOf_ok (by kernel_rfl)
  zF := zeroOf_ok (by kernel_rfl)
  zG := zeroOf_ok (by kernel_rfl)
  zM := zeroOf_ok (by kernel_rfl)
  z8 := z8_ok (by kernel_rfl)
  bT := fun w => by kernel_rfl
  bG := fun w => by kernel_rfl
  bSG := fun w => by kernel_rfl
  iG := iG_ok (by kernel_rfl)

theorem leaf : LeafC Try.prog sn := leafC_of rt (varB_ok (by kernel_rfl)) sf_fUv sf_fFix sf_fCnt sf_fWid sf_fWhole sf_fThings sf_fHas sf_fNull sf_fKnown sf_fAt sf_fUnk
theorem mkt : MkT Try.prog sn where
  tab := rt
  iT := iT_ok (by kernel_rfl)
  bT := fun x b w => by kernel_rfl
  bS := fun x b base n c w => by kernel_rfl
  fT := fun x b base n c w => by kernel_rfl
def nn : NN := { fM := 28, fB := 29, fV := 13, fN := 30, fD := 15 }
def it99 : List BI := [([(0, 3), (2, -1), (3, -1), (4, -1)], none), ([(0, 4), (2, -1), (3, -1), (4, -1)], none), ([(0, 3), (1, 5), (2, -1), (3, -1), (4, -1), (5, -1)], none), ([(0, 8), (2, -1), (3, 0), (4, -1)], none), ([(0, 2), (2, -1), (3, -1), (4, -1)], none)]
def ss99 : SFs := .cons 3 0 (-1) (-1) (-1) 0 0 .nil (.cons 4 0 (-1) (-1) (-1) 0 0 .nil (.cons 3 5 (-1) (-1) (-1) (-1) 0 .nil (.cons 8 0 (-1) 0 (-1) 0 0 .nil (.cons 2 0 (-1) (-1) (-1) 0 0 .nil (.nil)))))
theorem fi99 : FnIs Try.prog 99 7 [0] (cSub sn it99) := fnIs_of Try.func99 (by kernel_rfl) (by kernel_rfl) (by kernel_rfl) (by kernel_rfl)
theorem sb99 : Ent Try.prog 99 ∧ BuildC Try.prog 99 ss99 := sub_calls rt fi99 (of_decide_eq_true (by kernel_rfl)) ⟨fun w => by kernel_rfl, rfl, ⟨fun w => by kernel_rfl, rfl, ⟨fun w => by kernel_rfl, rfl, ⟨fun w => by kernel_rfl, rfl, ⟨fun w => by kernel_rfl, rfl, trivial⟩⟩⟩⟩⟩ (fun sv w => by kernel_rfl) rfl (of_decide_eq_true (by kernel_rfl))
def it59 : List BI := [([(0, 8), (2, -1), (3, -1), (4, -1)], none), ([(0, 11), (2, -1), (3, -1), (4, -1), (6, 10)], some 99)]
def ss59 : SFs := .cons 8 0 (-1) (-1) (-1) 0 0 .nil (.cons 11 0 (-1) (-1) (-1) 0 10 ss99 (.nil))
theorem fi59 : FnIs Try.prog 59 5 [0] (cSub sn it59) := fnIs_of Try.func59 (by kernel_rfl) (by kernel_rfl) (by kernel_rfl) (by kernel_rfl)
theorem sb59 : Ent Try.prog 59 ∧ BuildC Try.prog 59 ss59 := sub_calls rt fi59 (of_decide_eq_true (by kernel_rfl)) ⟨fun w => by kernel_rfl, rfl, ⟨fun base n c w => by kernel_rfl, sb99, trivial⟩⟩ (fun sv w => by kernel_rfl) rfl (of_decide_eq_true (by kernel_rfl))
def it113 : List BI := [([(0, 3), (2, -1), (3, -1), (4, -1)], none), ([(0, 4), (2, -1), (3, -1), (4, -1)], none), ([(0, 3), (2, -1), (3, -1), (4, -1), (5, -1)], none), ([(0, 8), (2, -1), (3, 0), (4, -1)], none), ([(0, 2), (2, -1), (3, -1), (4, -1)], none)]
def ss113 : SFs := .cons 3 0 (-1) (-1) (-1) 0 0 .nil (.cons 4 0 (-1) (-1) (-1) 0 0 .nil (.cons 3 0 (-1) (-1) (-1) (-1) 0 .nil (.cons 8 0 (-1) 0 (-1) 0 0 .nil (.cons 2 0 (-1) (-1) (-1) 0 0 .nil (.nil)))))
theorem fi113 : FnIs Try.prog 113 7 [0] (cSub sn it113) := fnIs_of Try.func113 (by kernel_rfl) (by kernel_rfl) (by kernel_rfl) (by kernel_rfl)
theorem sb113 : Ent Try.prog 113 ∧ BuildC Try.prog 113 ss113 := sub_calls rt fi113 (of_decide_eq_true (by kernel_rfl)) ⟨fun w => by kernel_rfl, rfl, ⟨fun w => by kernel_rfl, rfl, ⟨fun w => by kernel_rfl, rfl, ⟨fun w => by kernel_rfl, rfl, ⟨fun w => by kernel_rfl, rfl, trivial⟩⟩⟩⟩⟩ (fun sv w => by kernel_rfl) rfl (of_decide_eq_true (by kernel_rfl))
def it100 : List BI := [([(0, 8), (1, 8), (2, 9), (3, -1), (4, -1)], none), ([(0, 7), (1, 10), (2, -1), (3, -1), (4, -1)], none), ([(0, 11), (2, -1), (3, -1), (4, -1), (6, 10)], some 113)]
def ss100 : SFs := .cons 8 8 9 (-1) (-1) 0 0 .nil (.cons 7 10 (-1) (-1) (-1) 0 0 .nil (.cons 11 0 (-1) (-1) (-1) 0 10 ss113 (.nil)))
theorem fi100 : FnIs Try.prog 100 6 [0] (cSub sn it100) := fnIs_of Try.func100 (by kernel_rfl) (by kernel_rfl) (by kernel_rfl) (by kernel_rfl)
theorem sb100 : Ent Try.prog 100 ∧ BuildC Try.prog 100 ss100 := sub_calls rt fi100 (of_decide_eq_true (by kernel_rfl)) ⟨fun w => by kernel_rfl, rfl, ⟨fun w => by kernel_rfl, rfl, ⟨fun base n c w => by kernel_rfl, sb113, trivial⟩⟩⟩ (fun sv w => by kernel_rfl) rfl (of_decide_eq_true (by kernel_rfl))
def it60 : List BI := [([(0, 8), (2, -1), (3, -1), (4, -1)], none), ([(0, 11), (2, -1), (3, -1), (4, -1), (6, 10)], some 100), ([(0, 2), (2, -1), (3, -1), (4, -1)], none)]
def ss60 : SFs := .cons 8 0 (-1) (-1) (-1) 0 0 .nil (.cons 11 0 (-1) (-1) (-1) 0 10 ss100 (.cons 2 0 (-1) (-1) (-1) 0 0 .nil (.nil)))
theorem fi60 : FnIs Try.prog 60 6 [0] (cSub sn it60) := fnIs_of Try.func60 (by kernel_rfl) (by kernel_rfl) (by kernel_rfl) (by kernel_rfl)
theorem sb60 : Ent Try.prog 60 ∧ BuildC Try.prog 60 ss60 := sub_calls rt fi60 (of_decide_eq_true (by kernel_rfl)) ⟨fun w => by kernel_rfl, rfl, ⟨fun base n c w => by kernel_rfl, sb100, ⟨fun w => by kernel_rfl, rfl, trivial⟩⟩⟩ (fun sv w => by kernel_rfl) rfl (of_decide_eq_true (by kernel_rfl))
def itM : List BI := [([(0, 3), (1, 3), (2, -1), (3, -1), (4, -1)], none), ([(0, 11), (2, 7), (3, -1), (4, -1), (6, 10)], some 59), ([(0, 2), (1, 2), (2, 7), (3, -1), (4, -1)], none), ([(0, 11), (1, 8), (2, -1), (3, -1), (4, -1), (6, 10)], some 60)]
def ssM : SFs := .cons 3 3 (-1) (-1) (-1) 0 0 .nil (.cons 11 0 7 (-1) (-1) 0 10 ss59 (.cons 2 2 7 (-1) (-1) 0 0 .nil (.cons 11 8 (-1) (-1) (-1) 0 10 ss60 (.nil))))
theorem fiM : FnIsC Try.prog 29 9 0 sn.tMs (cMsgB sn 6 itM) := fnIsC_of Try.func29 (by kernel_rfl) (by kernel_rfl) (by kernel_rfl) (by kernel_rfl)
theorem sbM : Ent Try.prog 29 ∧ MsgBC Try.prog 29 6 ssM := msgb_calls rt (fun x base n c w => by kernel_rfl) fiM (of_decide_eq_true (by kernel_rfl)) ⟨fun w => by kernel_rfl, rfl, ⟨fun base n c w => by kernel_rfl, sb59, ⟨fun w => by kernel_rfl, rfl, ⟨fun base n c w => by kernel_rfl, sb60, trivial⟩⟩⟩⟩ (fun sv w => by kernel_rfl) rfl (of_decide_eq_true (by kernel_rfl))
theorem fiD : FnIsC Try.prog nn.fD 35 2 35 (cDef sn nn) := fnIsC_of Try.func15 (by kernel_rfl) (by kernel_rfl) (by kernel_rfl) (by kernel_rfl)
theorem newAllOk : newAll true 6 10 6 fsOffsetFetchResponse ssM zz (some 5) = true := by kernel_rfl
theorem newC : NewC Try.prog sn nn 10 6 ssM (newB true 6 fsOffsetFetchResponse) :=
  newC_of (cw := ⟨true, 0, 0, 5, 6⟩) (ms := nwOffsetFetchResponse) (tI16 := 38) (toff := (some 5)) rt kw (by decide) rfl fn57 (by omega) fn61 (by omega) df98.1 df98.2 fn62 (by kernel_rfl) rfl (of_decide_eq_true (by kernel_rfl)) (by kernel_rfl) (by kernel_rfl) (by kernel_rfl) (by kernel_rfl) fn30 fn13 (by omega) fn11 (by omega) fn28 (by omega) fn58 (by omega) (by decide) sbM fiD (def_calls mkt fiD ssM (by kernel_rfl)).1 sf_fWrite sf_fPart.ent (ref_calls leaf sf_fPart sf_fField sf_fVal ssM (by kernel_rfl)).1 newAllOk
theorem fnL : FnIs Try.prog 8 22 [2] (cLnw sn nn) := fnIs_of Try.func8 (by kernel_rfl) (by kernel_rfl) (by kernel_rfl) (by kernel_rfl)
theorem law {x0 : Nat} (hx : x0 < 256) (W : World) : Calls Try.prog 8 [.int .u8 (x0 : Int)].toArray W (TrueN W) := new_law newC newAllOk fnL hx W
end Go.Proofs.Ytjfelbjkmpgbgab.Kx
