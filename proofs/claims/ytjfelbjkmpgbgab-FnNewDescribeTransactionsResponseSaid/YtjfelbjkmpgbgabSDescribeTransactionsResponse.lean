/-
  FnNewDescribeTransactionsResponse: the numbers of the program, the code of its functions, and the law out of them.
-/
import Derived.Test.YtjfelbjkmpgbgabChecked
import Derived.Test.YtjfelbjkmpgbgabK1
import Derived.Test.YtjfelbjkmpgbgabK2
import Derived.Test.YtjfelbjkmpgbgabK3
import Derived.Test.YtjfelbjkmpgbgabK4
import Derived.Test.YtjfelbjkmpgbgabK5
import Derived.Test.YtjfelbjkmpgbgabK6
import Derived.Test.YtjfelbjkmpgbgabK7
import Derived.Test.YtjfelbjkmpgbgabK8
import Derived.Test.YtjfelbjkmpgbgabK9
import Derived.Test.YtjfelbjkmpgbgabK10
import Derived.Test.YtjfelbjkmpgbgabK11
import Derived.Test.YtjfelbjkmpgbgabK12
import Derived.Test.YtjfelbjkmpgbgabK13
import Derived.Test.YtjfelbjkmpgbgabK14
import Derived.Test.YtjfelbjkmpgbgabK15
import Derived.KernelRfl
import Derived.Test.YtjfelbjkmpgbgabSh
namespace Go.Proofs.Ytjfelbjkmpgbgab.Kx
open Go Go.Proofs
set_option maxRecDepth 100000
def numbersW : GW := { ap := fun | .bool => 93 | .i8 => 85 | .i16 => 69 | .u16 => 102 | .i32 => 68 | .i64 => 88 | .uuid => 67 | .str => 87 | .cstr => 86 | .nstr => 71 | .cnstr => 70 | .bytes => 999999 | .cbytes => 999999 | .nbytes => 999999 | .cnbytes => 999999, alen := 66, calen := 65, nalen := 92, cnalen := 91, uv := 72, tlen := 73, teach := 74, tVer := 38, tInt := 3, tU32 := 79, tSl := 28, tUuid := 66 }
def kn : Kn := { tRS := 999999, tSl := 28, tB := 4, tInt := 3, tU8 := 5, tI8 := 90, tI16 := 38, tU16 := 158, tI32 := 21, tU32 := 79, tI64 := 2, tU64 := 86, tStr := 9, tUuid := 66, tBE := 999999, tErr := 999999, gBE := 999999, gErr := 0, fU16 := 999999, fU32 := 999999, fU64 := 999999, fUv := 999999, fR64 := 999999 }
theorem mixed : Try.prog.follows .mixedOrders = true := by kernel_rfl
def fsDescribeTransactionsResponse : Fds := (.cons 0 none none (0) 1 (.prim .i32) (.cons 0 none none (0) 2 (.list none 9 (.struct none (some 8) (.cons 0 none none (0) 0 (.prim .i16) (.cons 0 none none (0) 1 (.str none) (.cons 0 none none (0) 2 (.str none) (.cons 0 none none (0) 3 (.prim .i32) (.cons 0 none none (0) 4 (.prim .i64) (.cons 0 none none (0) 5 (.prim .i64) (.cons 0 none none (0) 6 (.prim .i16) (.cons 0 none none (0) 7 (.list none 3 (.struct none (some 2) (.cons 0 none none (0) 0 (.str none) (.cons 0 none none (0) 1 (.list none 1 (.prim .i32)) .nil)))) .nil)))))))))) .nil))
def nwDescribeTransactionsResponse : List Nm := [(.mk [7, 128, 1, 21] []), (.mk [8, 128, 2, 126, 9, 0, 1] [(.mk [10, 132, 8] [(.mk [] [(.mk [11, 132, 0, 38] []), (.mk [12, 132, 1, 9] []), (.mk [13, 132, 2, 9] []), (.mk [14, 132, 3, 21] []), (.mk [15, 132, 4, 2] []), (.mk [16, 132, 5, 2] []), (.mk [17, 132, 6, 38] []), (.mk [18, 132, 7, 130, 19, 2, 3] [(.mk [20, 135, 2] [(.mk [] [(.mk [21, 135, 0, 9] []), (.mk [22, 135, 1, 113, 23, 4, 5] [(.mk [24, 21] [])])])])])])])])]
theorem fn85 : FnIs Try.prog 85 10 [4] (cAI8 kn) := fnIs_of Try.func85 (by kernel_rfl) (by kernel_rfl) (by kernel_rfl) (by kernel_rfl) -- pub-kmsg/pub/kmsg/inner/kbin.AppendInt8
theorem fn102 : FnIs Try.prog 102 13 [4] (cAU16 kn) := fnIs_of Try.func102 (by kernel_rfl) (by kernel_rfl) (by kernel_rfl) (by kernel_rfl) -- pub-kmsg/pub/kmsg/inner/kbin.AppendUint16
theorem fn101 : FnIs Try.prog 101 19 [4] (cAU32 kn) := fnIs_of Try.func101 (by kernel_rfl) (by kernel_rfl) (by kernel_rfl) (by kernel_rfl) -- pub-kmsg/pub/kmsg/inner/kbin.AppendUint32
theorem fn112 : FnIs Try.prog 112 31 [4] (cAU64 kn) := fnIs_of Try.func112 (by kernel_rfl) (by kernel_rfl) (by kernel_rfl) (by kernel_rfl) -- pub-kmsg/pub/kmsg/inner/kbin.appendUint64
theorem fn69 : FnIs Try.prog 69 9 [4] (cACv kn.tI16 kn.tU16 102) := fnIs_of Try.func69 (by kernel_rfl) (by kernel_rfl) (by kernel_rfl) (by kernel_rfl) -- pub-kmsg/pub/kmsg/inner/kbin.AppendInt16
theorem fn68 : FnIs Try.prog 68 9 [4] (cACv kn.tI32 kn.tU32 101) := fnIs_of Try.func68 (by kernel_rfl) (by kernel_rfl) (by kernel_rfl) (by kernel_rfl) -- pub-kmsg/pub/kmsg/inner/kbin.AppendInt32
theorem fn88 : FnIs Try.prog 88 9 [4] (cACv kn.tI64 kn.tU64 112) := fnIs_of Try.func88 (by kernel_rfl) (by kernel_rfl) (by kernel_rfl) (by kernel_rfl) -- pub-kmsg/pub/kmsg/inner/kbin.AppendInt64
theorem fn66 : FnIs Try.prog 66 9 [4] (cACv kn.tInt kn.tI32 68) := fnIs_of Try.func66 (by kernel_rfl) (by kernel_rfl) (by kernel_rfl) (by kernel_rfl) -- pub-kmsg/pub/kmsg/inner/kbin.AppendArrayLen
theorem fn65 : FnIs Try.prog 65 10 [4] (cACv1 kn 72) := fnIs_of Try.func65 (by kernel_rfl) (by kernel_rfl) (by kernel_rfl) (by kernel_rfl) -- pub-kmsg/pub/kmsg/inner/kbin.AppendCompactArrayLen
theorem fn93 : FnIs Try.prog 93 12 [4] (cABool kn) := fnIs_of Try.func93 (by kernel_rfl) (by kernel_rfl) (by kernel_rfl) (by kernel_rfl) -- pub-kmsg/pub/kmsg/inner/kbin.AppendBool
theorem fn67 : FnIs Try.prog 67 8 [4] (cAUuid kn) := fnIs_of Try.func67 (by kernel_rfl) (by kernel_rfl) (by kernel_rfl) (by kernel_rfl) -- pub-kmsg/pub/kmsg/inner/kbin.AppendUuid
theorem fn87 : FnIs Try.prog 87 13 [4] (cAStr kn kn.tStr kn.tI16 69) := fnIs_of Try.func87 (by kernel_rfl) (by kernel_rfl) (by kernel_rfl) (by kernel_rfl) -- pub-kmsg/pub/kmsg/inner/kbin.AppendString
theorem fn86 : FnIs Try.prog 86 14 [4] (cACStr kn kn.tStr 72) := fnIs_of Try.func86 (by kernel_rfl) (by kernel_rfl) (by kernel_rfl) (by kernel_rfl) -- pub-kmsg/pub/kmsg/inner/kbin.AppendCompactString
theorem fn71 : FnIs Try.prog 71 14 [4] (cANStr kn 72 (.int .i16 (-1)) 69 87) := fnIs_of Try.func71 (by kernel_rfl) (by kernel_rfl) (by kernel_rfl) (by kernel_rfl) -- pub-kmsg/pub/kmsg/inner/kbin.AppendNullableString
theorem fn70 : FnIs Try.prog 70 14 [4] (cANStr kn 72 (.int .u32 0) 72 86) := fnIs_of Try.func70 (by kernel_rfl) (by kernel_rfl) (by kernel_rfl) (by kernel_rfl) -- pub-kmsg/pub/kmsg/inner/kbin.AppendCompactNullableString
theorem fn92 : FnIs Try.prog 92 14 [6] (cANLen kn 68) := fnIs_of Try.func92 (by kernel_rfl) (by kernel_rfl) (by kernel_rfl) (by kernel_rfl) -- pub-kmsg/pub/kmsg/inner/kbin.AppendNullableArrayLen
theorem fn91 : FnIs Try.prog 91 15 [6] (cACNLen kn 72) := fnIs_of Try.func91 (by kernel_rfl) (by kernel_rfl) (by kernel_rfl) (by kernel_rfl) -- pub-kmsg/pub/kmsg/inner/kbin.AppendCompactNullableArrayLen
theorem fn72 : FnIs Try.prog 72 93 [4] (cAUv kn 103) := fnIs_of Try.func72 (by kernel_rfl) (by kernel_rfl) (by kernel_rfl) (by kernel_rfl) -- pub-kmsg/pub/kmsg/inner/kbin.AppendUvarint
theorem fn103 : FnIs Try.prog 103 8 [2] (cUvLen kn 114) := fnIs_of Try.func103 (by kernel_rfl) (by kernel_rfl) (by kernel_rfl) (by kernel_rfl) -- pub-kmsg/pub/kmsg/inner/kbin.UvarintLen
theorem fn114 : FnIs Try.prog 114 19 [2] (cLen32 kn 79) := fnIs_of Try.func114 (by kernel_rfl) (by kernel_rfl) (by kernel_rfl) (by kernel_rfl) -- math/bits.Len32
theorem fn73 : FnIs Try.prog 73 8 [2] (cTLen kn 61 59) := fnIs_of Try.func73 (by kernel_rfl) (by kernel_rfl) (by kernel_rfl) (by kernel_rfl) -- (*pub-kmsg/pub/kmsg.Tags).Len
theorem fn52 : FnIs Try.prog 52 3 [0] (cNewPtr 128 96) := fnIs_of Try.func52 (by kernel_rfl) (by kernel_rfl) (by kernel_rfl) (by kernel_rfl) -- pub-kmsg/pub/kmsg.NewPtrDescribeTransactionsResponse
theorem fn55 : FnIs Try.prog 55 8 [] (cSetV 128 38) := fnIs_of Try.func55 (by kernel_rfl) (by kernel_rfl) (by kernel_rfl) (by kernel_rfl) -- (*pub-kmsg/pub/kmsg.DescribeTransactionsResponse).SetVersion
theorem fn25 : FnIs Try.prog 25 4 [0] (cMax 38 3 52 53) := fnIs_of Try.func25 (by kernel_rfl) (by kernel_rfl) (by kernel_rfl) (by kernel_rfl) -- pub-kmsg/impl.MaxDescribeTransactionsResponse
theorem fn27 : FnIs Try.prog 27 11 [2] (cNewM 38 3 52 55 56) := fnIs_of Try.func27 (by kernel_rfl) (by kernel_rfl) (by kernel_rfl) (by kernel_rfl) -- pub-kmsg/impl.NewDescribeTransactionsResponse
theorem fn53 : FnIs Try.prog 53 3 [2] (cMaxV 0) := fnIs_of Try.func53 (by kernel_rfl) (by kernel_rfl) (by kernel_rfl) (by kernel_rfl) -- (*pub-kmsg/pub/kmsg.DescribeTransactionsResponse).MaxVersion
theorem fn13 : FnIs Try.prog 13 10 [4] (cVer 5 3) := fnIs_of Try.func13 (by kernel_rfl) (by kernel_rfl) (by kernel_rfl) (by kernel_rfl) -- pub-kmsg/laws.version
theorem fn11 : FnIs Try.prog 11 26 [4] (cSame 28 5 3) := fnIs_of Try.func11 (by kernel_rfl) (by kernel_rfl) (by kernel_rfl) (by kernel_rfl) -- pub-kmsg/spec.Same
theorem fn56 : FnIs Try.prog 56 221 [4] (gWrite numbersW false ⟨true, 0, 0, 5, 6⟩ fsDescribeTransactionsResponse 128 3 0 0 25 nwDescribeTransactionsResponse) := fnIs_of Try.func56 (by kernel_rfl) (by kernel_rfl) (by kernel_rfl) (by kernel_rfl) -- (*pub-kmsg/pub/kmsg.DescribeTransactionsResponse).AppendTo
def di96 : List DI := []
theorem fn96 : FnIs Try.prog 96 2 [] (gDflt di96 2) := fnIs_of Try.func96 (by kernel_rfl) (by kernel_rfl) (by kernel_rfl) (by kernel_rfl) -- (*pub-kmsg/pub/kmsg.DescribeTransactionsResponse).Default
noncomputable def dw96 : List (Nat × Value) := (dRun Try.prog 2 di96 [(0, 0)]).getD []
theorem df96 : Ent Try.prog 96 ∧ DfC Try.prog 96 dw96 := dfC_of (n0 := 2) (items := di96) (by kernel_rfl) fn96 (by kernel_rfl) (of_decide_eq_true (by kernel_rfl)) (by omega)
noncomputable def dd : Nat → Option (List (Nat × Value))
  | 96 => some dw96
  | _ => none
theorem ddOk : ∀ f wr, dd f = some wr → Ent Try.prog f ∧ DfC Try.prog f wr := by
  intro f wr h
  unfold dd at h
  split at h
  · obtain rfl := Option.some.inj h; exact df96
  · cases h
def tn : TN := { tTags := 61, tM := 59, tKs := 172, tU32 := 79, tInt := 3, tSl := 28, fSort := 115, fLess := 116, fEach := 104, fOne := 105, fUv := 72 }
theorem fn104 : FnIs Try.prog 104 53 [] (cEach tn) := fnIs_of Try.func104 (by kernel_rfl) (by kernel_rfl) (by kernel_rfl) (by kernel_rfl) -- (*pub-kmsg/pub/kmsg.Tags).Each
theorem fn116 : FnIs Try.prog 116 15 [5] (cTLess tn) := fnIs_of Try.func116 (by kernel_rfl) (by kernel_rfl) (by kernel_rfl) (by kernel_rfl) -- (*pub-kmsg/pub/kmsg.Tags).Each$1
theorem fn74 : FnIs Try.prog 74 9 [4] (cTEach tn) := fnIs_of Try.func74 (by kernel_rfl) (by kernel_rfl) (by kernel_rfl) (by kernel_rfl) -- (*pub-kmsg/pub/kmsg.Tags).AppendEach
theorem fn105 : FnIs Try.prog 105 16 [] (cTOne tn) := fnIs_of Try.func105 (by kernel_rfl) (by kernel_rfl) (by kernel_rfl) (by kernel_rfl) -- (*pub-kmsg/pub/kmsg.Tags).AppendEach$1
theorem tf : TF Try.prog tn where
  map := ⟨79, 28, by kernel_rfl, by kernel_rfl⟩
  fld := fldB_ok (by kernel_rfl)
  sl := by kernel_rfl
  info := infoB_ok (by kernel_rfl)
  vU := varB_ok (by kernel_rfl)
  vK := varB_ok (by kernel_rfl)
  zK := zeroOf_ok (by kernel_rfl)
  dInt := by kernel_rfl
  dU32 := by kernel_rfl
theorem sortOk : SortOk Try.prog tn := sortOk_of (it := (Try.prog.info? 172).get (by kernel_rfl)) (ie := (Try.prog.info? 79).get (by kernel_rfl)) (ke := 10) (f1 := 122) (f2 := 123) (f6 := 127) mixed tf Try.sa6 rfl (enters_of Try.func115 (by kernel_rfl) rfl) fn116 (by omega) (by kernel_rfl) (by kernel_rfl) (by kernel_rfl) (by kernel_rfl) (fun _ => by kernel_rfl) (by kernel_rfl) (by kernel_rfl) (by kernel_rfl) fn116.ent (by kernel_rfl) (by kernel_rfl) (by kernel_rfl) (fun args W => run_callFunc_extern Try.func127 (by kernel_rfl) (by kernel_rfl) (by kernel_rfl) (e := Extern.ReflectliteSwapper.swap true) (by kernel_rfl) args W)
theorem oct : OctT Try.prog kn.tSl kn.tU8 := octB_ok (by kernel_rfl)
theorem wt : WT Try.prog kn where
  mixed := mixed
  oct := oct
  dU8 := by kernel_rfl
  dI8 := fun _ => by kernel_rfl
  dI16 := by kernel_rfl
  dU16 := fun _ => by kernel_rfl
  dI32 := by kernel_rfl
  dU32 := by kernel_rfl
  dInt := by kernel_rfl
  dI64 := fun _ => by kernel_rfl
  dU64 := fun _ => by kernel_rfl
  dStr := by kernel_rfl
  vStr := varB_ok (by kernel_rfl)
theorem uvC (x : Nat) (w : World) (h : x < 4294967296) : ApC Try.prog kn.tU8 numbersW.uv (.int .u32 x) (uvar x) w := ap_uv wt (by kernel_rfl) fn114 (by omega) fn103 (by omega) fn72 (by omega) h w
theorem i16C (x : Int) (w : World) : ApC Try.prog kn.tU8 69 (.int .i16 x) (be 2 x) w := ap_i16 wt rfl fn102 (by omega) fn69 (by omega) x w
theorem i32C (x : Int) (w : World) : ApC Try.prog kn.tU8 68 (.int .i32 x) (be 4 x) w := ap_i32 wt fn101 (by omega) fn68 (by omega) x w
def avw : PF → Bool
  | .bool => true
  | .i8 => true
  | .i16 => true
  | .u16 => true
  | .i32 => true
  | .i64 => true
  | .uuid => true
  | .str => true
  | .cstr => true
  | .nstr => true
  | .cnstr => true
  | _ => false
theorem apAll : ∀ p, avw p = true → AppOk Try.prog kn.tU8 p (numbersW.ap p) := by
  intro p h
  cases p
  · exact app_bool wt fn93 (by omega)
  · exact app_i8 wt rfl fn85 (by omega)
  · exact app_i16 wt rfl fn102 (by omega) fn69 (by omega)
  · exact app_u16 wt rfl fn102 (by omega)
  · exact app_i32 wt fn101 (by omega) fn68 (by omega)
  · exact app_i64 wt rfl rfl fn112 (by omega) fn88 (by omega)
  · exact app_uuid wt (varB_ok (by kernel_rfl)) (by kernel_rfl) fn67 (by omega)
  · exact app_str wt (app_i16 wt rfl fn102 (by omega) fn69 (by omega)) i16C fn87 (by omega)
  · exact app_cstr wt fn72.ent (fun x w h => uvC x w h) fn86 (by omega)
  · exact app_nstr wt (fx := false) rfl (by kernel_rfl) fn69.ent (fun w => i16C (-1) w) (app_str wt (app_i16 wt rfl fn102 (by omega) fn69 (by omega)) i16C fn87 (by omega)) fn71 (by omega)
  · exact app_nstr wt (fx := true) rfl (by kernel_rfl) fn72.ent (fun w => uvC 0 w (by omega)) (app_cstr wt fn72.ent (fun x w h => uvC x w h) fn86 (by omega)) fn70 (by omega)
  · cases h
  · cases h
  · cases h
  · cases h
theorem kw : KW Try.prog numbersW avw true true kn.tU8 where
  mixed := mixed
  oct := oct
  dInt := by kernel_rfl
  dU32 := fun _ => by kernel_rfl
  apE p h := (apAll p h).1
  apC p h := (apAll p h).2
  alE := fun _ => fn66.ent
  alC := fun _ n w => ap_len wt fn68.ent i32C fn66 (by omega) n w
  clE := fun _ _ => fn65.ent
  clC := fun _ _ n w => ap_clen wt fn72.ent (fun x w h => uvC x w h) fn65 (by omega) n w
  nlE := fun _ => fn92.ent
  nlC := fun _ n b w L d bs hd hL hlim => anlen_calls wt fn68.ent i32C fn92 (by omega) n b w L d bs hd hL hlim
  cnE := fun _ _ => fn91.ent
  cnC := fun _ _ n b w L d bs hd hL hlim => acnlen_calls wt fn72.ent (fun x w h => uvC x w h) fn91 (by omega) n b w L d bs hd hL hlim
  uvE := fun _ => fn72.ent
  uvC := fun _ x w h => uvC x w h
  tlE := fun _ => fn73.ent
  tlC := fun _ w b o m X t hc ht => tlen_calls (kt := 79) (et := 28) mixed (by kernel_rfl) (fldB_ok (by kernel_rfl)) fn73 (by omega) hc ht
  teE := fun _ => fn74.ent
  teC := fun _ w b o m L t d bs hc hb ht hd hL hlim => teach_calls mixed tf sortOk oct (varB_ok (by kernel_rfl)) fn72.ent (fun x w h => uvC x w h) fn104 (by omega) fn105 (by omega) fn74 (by omega) hc hb ht hd hL hlim
  uuid := fun _ => ⟨varB_ok (by kernel_rfl), zeroOf_ok (by kernel_rfl)⟩
noncomputable def zv : Value := (zeroOf Try.prog 128).getD undef
noncomputable def zz : Array Value := applyWr zv.cells 0 dw96
def sn : SN := { tInt := 3, tI64 := 2, tU8 := 5, tU64 := 86, tU32 := 79, tU16 := 158, tB := 4, tSl := 28, tF := 44, tFs := 23, tT := 35, tTs := 32, tG := 89, tGs := 33, tMs := 25, fPart := 36, fHas := 75, fField := 76, fAt := 77, fKnown := 78, fUsual := 79, fUv := 80, fUnk := 81, fWhole := 82, fNull := 106, fThings := 107, fCnt := 108, fVal := 109, fFix := 110, fWid := 111, fWrite := 14, fSame := 11, fZ2 := 999999, fZ3 := 999999, fZ4 := 999999 }
theorem sf_fPart : FnIs Try.prog sn.fPart 132 [8] (csPt sn) := fnIs_of Try.func36 (by kernel_rfl) (by kernel_rfl) (by kernel_rfl) (by kernel_rfl)
theorem sf_fHas : FnIs Try.prog sn.fHas 20 [4] (csHs sn) := fnIs_of Try.func75 (by kernel_rfl) (by kernel_rfl) (by kernel_rfl) (by kernel_rfl)
theorem sf_fField : FnIs Try.prog sn.fField 76 [8] (csFl sn) := fnIs_of Try.func76 (by kernel_rfl) (by kernel_rfl) (by kernel_rfl) (by kernel_rfl)
theorem sf_fAt : FnIsC Try.prog sn.fAt 16 4 35 (csAt sn) := fnIsC_of Try.func77 (by kernel_rfl) (by kernel_rfl) (by kernel_rfl) (by kernel_rfl)
theorem sf_fKnown : FnIs Try.prog sn.fKnown 23 [2] (csKw sn) := fnIs_of Try.func78 (by kernel_rfl) (by kernel_rfl) (by kernel_rfl) (by kernel_rfl)
theorem sf_fUv : FnIs Try.prog sn.fUv 20 [2] (csUvr sn) := fnIs_of Try.func80 (by kernel_rfl) (by kernel_rfl) (by kernel_rfl) (by kernel_rfl)
theorem sf_fUnk : FnIs Try.prog sn.fUnk 85 [4] (csUn sn) := fnIs_of Try.func81 (by kernel_rfl) (by kernel_rfl) (by kernel_rfl) (by kernel_rfl)
theorem sf_fWhole : FnIs Try.prog sn.fWhole 8 [2] (csWh sn) := fnIs_of Try.func82 (by kernel_rfl) (by kernel_rfl) (by kernel_rfl) (by kernel_rfl)
theorem sf_fNull : FnIs Try.prog sn.fNull 20 [6] (csNu sn) := fnIs_of Try.func106 (by kernel_rfl) (by kernel_rfl) (by kernel_rfl) (by kernel_rfl)
theorem sf_fThings : FnIs Try.prog sn.fThings 8 [2] (csTh sn) := fnIs_of Try.func107 (by kernel_rfl) (by kernel_rfl) (by kernel_rfl) (by kernel_rfl)
theorem sf_fCnt : FnIs Try.prog sn.fCnt 28 [8] (csCn sn) := fnIs_of Try.func108 (by kernel_rfl) (by kernel_rfl) (by kernel_rfl) (by kernel_rfl)
theorem sf_fVal : FnIs Try.prog sn.fVal 70 [12] (csVa sn) := fnIs_of Try.func109 (by kernel_rfl) (by kernel_rfl) (by kernel_rfl) (by kernel_rfl)
theorem sf_fFix : FnIs Try.prog sn.fFix 22 [4] (csFi sn) := fnIs_of Try.func110 (by kernel_rfl) (by kernel_rfl) (by kernel_rfl) (by kernel_rfl)
theorem sf_fWid : FnIs Try.prog sn.fWid 11 [2] (csWd sn) := fnIs_of Try.func111 (by kernel_rfl) (by kernel_rfl) (by kernel_rfl) (by kernel_rfl)
theorem sf_fWrite : FnIs Try.prog sn.fWrite 21 [6] (csWr sn) := fnIs_of Try.func14 (by kernel_rfl) (by kernel_rfl) (by kernel_rfl) (by kernel_rfl)
theorem rt : RefT Try.prog sn where
  mixed := mixed
  dInt := by kernel_rfl
  dI64 := by kernel_rfl
  dU8 := by kernel_rfl
  dU32 := by kernel_rfl
  dU64 := by kernel_rfl
  oct := oct
  dTs := by kernel_rfl
  dGs := by kernel_rfl
  dFs := by kernel_rfl
  vI64 := varB_ok (by kernel_rfl)
  vU8 := varB_ok (by kernel_rfl)
  vT := varB_ok (by kernel_rfl)
  vF := varB_ok (by kernel_rfl)
  vG := varB_ok (by kernel_rfl)
  vM := varB_ok (by kernel_rfl)
  t0 := fldB_ok (by kernel_rfl)
  t1 := fldB_ok (by kernel_rfl)
  t2 := fldB_ok (by kernel_rfl)
  t3 := fldB_ok (by kernel_rfl)
  t4 := fldB_ok (by kernel_rfl)
  f0 := fldB_ok (by kernel_rfl)
  f1 := fldB_ok (by kernel_rfl)
  f2 := fldB_ok (by kernel_rfl)
  f3 := fldB_ok (by kernel_rfl)
  f4 := fldB_ok (by kernel_rfl)
  f5 := fldB_ok (by kernel_rfl)
  f6 := fldB_ok (by kernel_rfl)
  f7 := fldB_ok (by kernel_rfl)
  g0 := fldB_ok (by kernel_rfl)
  g1 := fldB_ok (by kernel_rfl)
  m0 := fldB_ok (by kernel_rfl)
  m1 := fldB_ok (by kernel_rfl)
  zT := zeroOf_ok (by kernel_rfl)
  zF := zeroOf_ok (by kernel_rfl)
  zG := zeroOf_ok (by kernel_rfl)
  zM := zeroOf_ok (by kernel_rfl)
  z8 := z8_ok (by kernel_rfl)
  bT := fun w => by kernel_rfl
  bG := fun w => by kernel_rfl
  bSG := fun w => by kernel_rfl
  iG := iG_ok (by kernel_rfl)

theorem leaf : LeafC Try.prog sn := leafC_of rt (varB_ok (by kernel_rfl)) sf_fUv sf_fFix sf_fCnt sf_fWid sf_fWhole sf_fThings sf_fHas sf_fNull sf_fKnown sf_fAt sf_fUnk
theorem mkt : MkT Try.prog sn where
  tab := rt
  iT := iT_ok (by kernel_rfl)
  bT := fun x b w => by kernel_rfl
  bS := fun x b base n c w => by kernel_rfl
  fT := fun x b base n c w => by kernel_rfl
def nn : NN := { fM := 25, fB := 26, fV := 13, fN := 27, fD := 15 }
def it97 : List BI := [([(0, 8), (2, -1), (3, -1), (4, -1)], none), ([(0, 11), (2, -1), (3, -1), (4, -1), (6, 3)], none)]
def ss97 : SFs := .cons 8 0 (-1) (-1) (-1) 0 0 .nil (.cons 11 0 (-1) (-1) (-1) 0 3 .nil (.nil))
theorem fi97 : FnIs Try.prog 97 4 [0] (cSub sn it97) := fnIs_of Try.func97 (by kernel_rfl) (by kernel_rfl) (by kernel_rfl) (by kernel_rfl)
theorem sb97 : Ent Try.prog 97 ∧ BuildC Try.prog 97 ss97 := sub_calls rt fi97 (of_decide_eq_true (by kernel_rfl)) ⟨fun w => by kernel_rfl, rfl, ⟨fun w => by kernel_rfl, rfl, trivial⟩⟩ (fun sv w => by kernel_rfl) rfl (of_decide_eq_true (by kernel_rfl))
def it54 : List BI := [([(0, 2), (2, -1), (3, -1), (4, -1)], none), ([(0, 8), (2, -1), (3, -1), (4, -1)], none), ([(0, 8), (2, -1), (3, -1), (4, -1)], none), ([(0, 3), (2, -1), (3, -1), (4, -1)], none), ([(0, 4), (2, -1), (3, -1), (4, -1)], none), ([(0, 4), (2, -1), (3, -1), (4, -1)], none), ([(0, 2), (2, -1), (3, -1), (4, -1)], none), ([(0, 11), (2, -1), (3, -1), (4, -1), (6, 10)], some 97)]
def ss54 : SFs := .cons 2 0 (-1) (-1) (-1) 0 0 .nil (.cons 8 0 (-1) (-1) (-1) 0 0 .nil (.cons 8 0 (-1) (-1) (-1) 0 0 .nil (.cons 3 0 (-1) (-1) (-1) 0 0 .nil (.cons 4 0 (-1) (-1) (-1) 0 0 .nil (.cons 4 0 (-1) (-1) (-1) 0 0 .nil (.cons 2 0 (-1) (-1) (-1) 0 0 .nil (.cons 11 0 (-1) (-1) (-1) 0 10 ss97 (.nil))))))))
theorem fi54 : FnIs Try.prog 54 11 [0] (cSub sn it54) := fnIs_of Try.func54 (by kernel_rfl) (by kernel_rfl) (by kernel_rfl) (by kernel_rfl)
theorem sb54 : Ent Try.prog 54 ∧ BuildC Try.prog 54 ss54 := sub_calls rt fi54 (of_decide_eq_true (by kernel_rfl)) ⟨fun w => by kernel_rfl, rfl, ⟨fun w => by kernel_rfl, rfl, ⟨fun w => by kernel_rfl, rfl, ⟨fun w => by kernel_rfl, rfl, ⟨fun w => by kernel_rfl, rfl, ⟨fun w => by kernel_rfl, rfl, ⟨fun w => by kernel_rfl, rfl, ⟨fun base n c w => by kernel_rfl, sb97, trivial⟩⟩⟩⟩⟩⟩⟩⟩ (fun sv w => by kernel_rfl) rfl (of_decide_eq_true (by kernel_rfl))
def itM : List BI := [([(0, 3), (2, -1), (3, -1), (4, -1)], none), ([(0, 11), (2, -1), (3, -1), (4, -1), (6, 10)], some 54)]
def ssM : SFs := .cons 3 0 (-1) (-1) (-1) 0 0 .nil (.cons 11 0 (-1) (-1) (-1) 0 10 ss54 (.nil))
theorem fiM : FnIsC Try.prog 26 6 0 sn.tMs (cMsgB sn 0 itM) := fnIsC_of Try.func26 (by kernel_rfl) (by kernel_rfl) (by kernel_rfl) (by kernel_rfl)
theorem sbM : Ent Try.prog 26 ∧ MsgBC Try.prog 26 0 ssM := msgb_calls rt (fun x base n c w => by kernel_rfl) fiM (of_decide_eq_true (by kernel_rfl)) ⟨fun w => by kernel_rfl, rfl, ⟨fun base n c w => by kernel_rfl, sb54, trivial⟩⟩ (fun sv w => by kernel_rfl) rfl (of_decide_eq_true (by kernel_rfl))
theorem fiD : FnIsC Try.prog nn.fD 35 2 35 (cDef sn nn) := fnIsC_of Try.func15 (by kernel_rfl) (by kernel_rfl) (by kernel_rfl) (by kernel_rfl)
theorem newAllOk : newAll true 0 0 0 fsDescribeTransactionsResponse ssM zz (some 3) = true := by kernel_rfl
theorem newC : NewC Try.prog sn nn 0 0 ssM (newB true 0 fsDescribeTransactionsResponse) :=
  newC_of (cw := ⟨true, 0, 0, 5, 6⟩) (ms := nwDescribeTransactionsResponse) (tI16 := 38) (toff := (some 3)) rt kw (by decide) rfl fn52 (by omega) fn55 (by omega) df96.1 df96.2 fn56 (by kernel_rfl) rfl (of_decide_eq_true (by kernel_rfl)) (by kernel_rfl) (by kernel_rfl) (by kernel_rfl) (by kernel_rfl) fn27 fn13 (by omega) fn11 (by omega) fn25 (by omega) fn53 (by omega) (by decide) sbM fiD (def_calls mkt fiD ssM (by kernel_rfl)).1 sf_fWrite sf_fPart.ent (ref_calls leaf sf_fPart sf_fField sf_fVal ssM (by kernel_rfl)).1 newAllOk
theorem fnL : FnIs Try.prog 7 22 [2] (cLnw sn nn) := fnIs_of Try.func7 (by kernel_rfl) (by kernel_rfl) (by kernel_rfl) (by kernel_rfl)
theorem law {x0 : Nat} (hx : x0 < 256) (W : World) : Calls Try.prog 7 [.int .u8 (x0 : Int)].toArray W (TrueN W) := new_law newC newAllOk fnL hx W
end Go.Proofs.Ytjfelbjkmpgbgab.Kx
