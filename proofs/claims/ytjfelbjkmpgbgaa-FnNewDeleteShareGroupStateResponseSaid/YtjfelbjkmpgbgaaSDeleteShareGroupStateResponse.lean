/-
  FnNewDeleteShareGroupStateResponse: the numbers of the program, the code of its functions, and the law out of them.
-/
import Derived.Test.YtjfelbjkmpgbgaaChecked
import Derived.Test.YtjfelbjkmpgbgaaK1
import Derived.Test.YtjfelbjkmpgbgaaK2
import Derived.Test.YtjfelbjkmpgbgaaK3
import Derived.Test.YtjfelbjkmpgbgaaK4
import Derived.Test.YtjfelbjkmpgbgaaK5
import Derived.Test.YtjfelbjkmpgbgaaK6
import Derived.Test.YtjfelbjkmpgbgaaK7
import Derived.Test.YtjfelbjkmpgbgaaK8
import Derived.Test.YtjfelbjkmpgbgaaK9
import Derived.Test.YtjfelbjkmpgbgaaK10
import Derived.Test.YtjfelbjkmpgbgaaK11
import Derived.Test.YtjfelbjkmpgbgaaK12
import Derived.Test.YtjfelbjkmpgbgaaK13
import Derived.Test.YtjfelbjkmpgbgaaK14
import Derived.Test.YtjfelbjkmpgbgaaK15
import Derived.KernelRfl
import Derived.Test.YtjfelbjkmpgbgaaSh
namespace Go.Proofs.Ytjfelbjkmpgbgaa.Kx
open Go Go.Proofs
set_option maxRecDepth 100000
def numbersW : GW := { ap := fun | .bool => 93 | .i8 => 999999 | .i16 => 68 | .u16 => 100 | .i32 => 67 | .i64 => 69 | .uuid => 98 | .str => 92 | .cstr => 91 | .nstr => 87 | .cnstr => 86 | .bytes => 83 | .cbytes => 82 | .nbytes => 999999 | .cnbytes => 999999, alen := 90, calen := 89, nalen := 999999, cnalen := 999999, uv := 70, tlen := 71, teach := 72, tVer := 38, tInt := 3, tU32 := 69, tSl := 28, tUuid := 109 }
def kn : Kn := { tRS := 999999, tSl := 28, tB := 4, tInt := 3, tU8 := 5, tI8 := 999999, tI16 := 38, tU16 := 118, tI32 := 21, tU32 := 69, tI64 := 2, tU64 := 76, tStr := 9, tUuid := 109, tBE := 999999, tErr := 999999, gBE := 999999, gErr := 0, fU16 := 999999, fU32 := 999999, fU64 := 999999, fUv := 999999, fR64 := 999999 }
theorem mixed : Try.prog.follows .mixedOrders = true := by kernel_rfl
def fsDeleteShareGroupStateResponse : Fds := (.cons 0 none none (0) 1 (.list none 18 (.struct none (some 17) (.cons 0 none none (0) 0 (.prim .uuid) (.cons 0 none none (0) 16 (.list none 4 (.struct none (some 3) (.cons 0 none none (0) 0 (.prim .i32) (.cons 0 none none (0) 1 (.prim .i16) (.cons 0 none none (0) 2 (.str (some 0)) .nil))))) .nil)))) .nil)
def nwDeleteShareGroupStateResponse : List Nm := [(.mk [7, 107, 1, 105, 8, 0, 1] [(.mk [9, 112, 2] [(.mk [] [(.mk [10, 112, 0, 109] []), (.mk [11, 112, 1, 110, 12, 2, 3] [(.mk [13, 116, 3] [(.mk [] [(.mk [14, 116, 0, 21] []), (.mk [15, 116, 1, 38] []), (.mk [16, 116, 2, 85] [])])])])])])])]
theorem fn100 : FnIs Try.prog 100 13 [4] (cAU16 kn) := fnIs_of Try.func100 (by kernel_rfl) (by kernel_rfl) (by kernel_rfl) (by kernel_rfl) -- pub-kmsg/pub/kmsg/inner/kbin.AppendUint16
theorem fn99 : FnIs Try.prog 99 19 [4] (cAU32 kn) := fnIs_of Try.func99 (by kernel_rfl) (by kernel_rfl) (by kernel_rfl) (by kernel_rfl) -- pub-kmsg/pub/kmsg/inner/kbin.AppendUint32
theorem fn101 : FnIs Try.prog 101 31 [4] (cAU64 kn) := fnIs_of Try.func101 (by kernel_rfl) (by kernel_rfl) (by kernel_rfl) (by kernel_rfl) -- pub-kmsg/pub/kmsg/inner/kbin.appendUint64
theorem fn68 : FnIs Try.prog 68 9 [4] (cACv kn.tI16 kn.tU16 100) := fnIs_of Try.func68 (by kernel_rfl) (by kernel_rfl) (by kernel_rfl) (by kernel_rfl) -- pub-kmsg/pub/kmsg/inner/kbin.AppendInt16
theorem fn67 : FnIs Try.prog 67 9 [4] (cACv kn.tI32 kn.tU32 99) := fnIs_of Try.func67 (by kernel_rfl) (by kernel_rfl) (by kernel_rfl) (by kernel_rfl) -- pub-kmsg/pub/kmsg/inner/kbin.AppendInt32
theorem fn69 : FnIs Try.prog 69 9 [4] (cACv kn.tI64 kn.tU64 101) := fnIs_of Try.func69 (by kernel_rfl) (by kernel_rfl) (by kernel_rfl) (by kernel_rfl) -- pub-kmsg/pub/kmsg/inner/kbin.AppendInt64
theorem fn90 : FnIs Try.prog 90 9 [4] (cACv kn.tInt kn.tI32 67) := fnIs_of Try.func90 (by kernel_rfl) (by kernel_rfl) (by kernel_rfl) (by kernel_rfl) -- pub-kmsg/pub/kmsg/inner/kbin.AppendArrayLen
theorem fn89 : FnIs Try.prog 89 10 [4] (cACv1 kn 70) := fnIs_of Try.func89 (by kernel_rfl) (by kernel_rfl) (by kernel_rfl) (by kernel_rfl) -- pub-kmsg/pub/kmsg/inner/kbin.AppendCompactArrayLen
theorem fn93 : FnIs Try.prog 93 12 [4] (cABool kn) := fnIs_of Try.func93 (by kernel_rfl) (by kernel_rfl) (by kernel_rfl) (by kernel_rfl) -- pub-kmsg/pub/kmsg/inner/kbin.AppendBool
theorem fn98 : FnIs Try.prog 98 8 [4] (cAUuid kn) := fnIs_of Try.func98 (by kernel_rfl) (by kernel_rfl) (by kernel_rfl) (by kernel_rfl) -- pub-kmsg/pub/kmsg/inner/kbin.AppendUuid
theorem fn92 : FnIs Try.prog 92 13 [4] (cAStr kn kn.tStr kn.tI16 68) := fnIs_of Try.func92 (by kernel_rfl) (by kernel_rfl) (by kernel_rfl) (by kernel_rfl) -- pub-kmsg/pub/kmsg/inner/kbin.AppendString
theorem fn91 : FnIs Try.prog 91 14 [4] (cACStr kn kn.tStr 70) := fnIs_of Try.func91 (by kernel_rfl) (by kernel_rfl) (by kernel_rfl) (by kernel_rfl) -- pub-kmsg/pub/kmsg/inner/kbin.AppendCompactString
theorem fn83 : FnIs Try.prog 83 13 [4] (cAStr kn kn.tSl kn.tI32 67) := fnIs_of Try.func83 (by kernel_rfl) (by kernel_rfl) (by kernel_rfl) (by kernel_rfl) -- pub-kmsg/pub/kmsg/inner/kbin.AppendBytes
theorem fn82 : FnIs Try.prog 82 14 [4] (cACStr kn kn.tSl 70) := fnIs_of Try.func82 (by kernel_rfl) (by kernel_rfl) (by kernel_rfl) (by kernel_rfl) -- pub-kmsg/pub/kmsg/inner/kbin.AppendCompactBytes
theorem fn87 : FnIs Try.prog 87 14 [4] (cANStr kn 85 (.int .i16 (-1)) 68 92) := fnIs_of Try.func87 (by kernel_rfl) (by kernel_rfl) (by kernel_rfl) (by kernel_rfl) -- pub-kmsg/pub/kmsg/inner/kbin.AppendNullableString
theorem fn86 : FnIs Try.prog 86 14 [4] (cANStr kn 85 (.int .u32 0) 70 91) := fnIs_of Try.func86 (by kernel_rfl) (by kernel_rfl) (by kernel_rfl) (by kernel_rfl) -- pub-kmsg/pub/kmsg/inner/kbin.AppendCompactNullableString
theorem fn70 : FnIs Try.prog 70 93 [4] (cAUv kn 102) := fnIs_of Try.func70 (by kernel_rfl) (by kernel_rfl) (by kernel_rfl) (by kernel_rfl) -- pub-kmsg/pub/kmsg/inner/kbin.AppendUvarint
theorem fn102 : FnIs Try.prog 102 8 [2] (cUvLen kn 111) := fnIs_of Try.func102 (by kernel_rfl) (by kernel_rfl) (by kernel_rfl) (by kernel_rfl) -- pub-kmsg/pub/kmsg/inner/kbin.UvarintLen
theorem fn111 : FnIs Try.prog 111 19 [2] (cLen32 kn 69) := fnIs_of Try.func111 (by kernel_rfl) (by kernel_rfl) (by kernel_rfl) (by kernel_rfl) -- math/bits.Len32
theorem fn71 : FnIs Try.prog 71 8 [2] (cTLen kn 62 60) := fnIs_of Try.func71 (by kernel_rfl) (by kernel_rfl) (by kernel_rfl) (by kernel_rfl) -- (*pub-kmsg/pub/kmsg.Tags).Len
theorem fn61 : FnIs Try.prog 61 3 [0] (cNewPtr 107 96) := fnIs_of Try.func61 (by kernel_rfl) (by kernel_rfl) (by kernel_rfl) (by kernel_rfl) -- pub-kmsg/pub/kmsg.NewPtrDeleteShareGroupStateResponse
theorem fn64 : FnIs Try.prog 64 8 [] (cSetV 107 38) := fnIs_of Try.func64 (by kernel_rfl) (by kernel_rfl) (by kernel_rfl) (by kernel_rfl) -- (*pub-kmsg/pub/kmsg.DeleteShareGroupStateResponse).SetVersion
theorem fn32 : FnIs Try.prog 32 4 [0] (cMax 38 3 61 62) := fnIs_of Try.func32 (by kernel_rfl) (by kernel_rfl) (by kernel_rfl) (by kernel_rfl) -- pub-kmsg/impl.MaxDeleteShareGroupStateResponse
theorem fn34 : FnIs Try.prog 34 11 [2] (cNewM 38 3 61 64 65) := fnIs_of Try.func34 (by kernel_rfl) (by kernel_rfl) (by kernel_rfl) (by kernel_rfl) -- pub-kmsg/impl.NewDeleteShareGroupStateResponse
theorem fn62 : FnIs Try.prog 62 3 [2] (cMaxV 0) := fnIs_of Try.func62 (by kernel_rfl) (by kernel_rfl) (by kernel_rfl) (by kernel_rfl) -- (*pub-kmsg/pub/kmsg.DeleteShareGroupStateResponse).MaxVersion
theorem fn14 : FnIs Try.prog 14 10 [4] (cVer 5 3) := fnIs_of Try.func14 (by kernel_rfl) (by kernel_rfl) (by kernel_rfl) (by kernel_rfl) -- pub-kmsg/laws.version
theorem fn12 : FnIs Try.prog 12 26 [4] (cSame 28 5 3) := fnIs_of Try.func12 (by kernel_rfl) (by kernel_rfl) (by kernel_rfl) (by kernel_rfl) -- pub-kmsg/spec.Same
theorem fn65 : FnIs Try.prog 65 144 [4] (gWrite numbersW false ⟨true, 0, 0, 5, 6⟩ fsDeleteShareGroupStateResponse 107 2 0 0 17 nwDeleteShareGroupStateResponse) := fnIs_of Try.func65 (by kernel_rfl) (by kernel_rfl) (by kernel_rfl) (by kernel_rfl) -- (*pub-kmsg/pub/kmsg.DeleteShareGroupStateResponse).AppendTo
def di96 : List DI := []
theorem fn96 : FnIs Try.prog 96 2 [] (gDflt di96 2) := fnIs_of Try.func96 (by kernel_rfl) (by kernel_rfl) (by kernel_rfl) (by kernel_rfl) -- (*pub-kmsg/pub/kmsg.DeleteShareGroupStateResponse).Default
noncomputable def dw96 : List (Nat × Value) := (dRun Try.prog 2 di96 [(0, 0)]).getD []
theorem df96 : Ent Try.prog 96 ∧ DfC Try.prog 96 dw96 := dfC_of (n0 := 2) (items := di96) (by kernel_rfl) fn96 (by kernel_rfl) (of_decide_eq_true (by kernel_rfl)) (by omega)
noncomputable def dd : Nat → Option (List (Nat × Value))
  | 96 => some dw96
  | _ => none
theorem ddOk : ∀ f wr, dd f = some wr → Ent Try.prog f ∧ DfC Try.prog f wr := by
  intro f wr h
  unfold dd at h
  split at h
  · obtain rfl := Option.some.inj h; exact df96
  · cases h
def tn : TN := { tTags := 62, tM := 60, tKs := 131, tU32 := 69, tInt := 3, tSl := 28, fSort := 112, fLess := 113, fEach := 103, fOne := 104, fUv := 70 }
theorem fn103 : FnIs Try.prog 103 53 [] (cEach tn) := fnIs_of Try.func103 (by kernel_rfl) (by kernel_rfl) (by kernel_rfl) (by kernel_rfl) -- (*pub-kmsg/pub/kmsg.Tags).Each
theorem fn113 : FnIs Try.prog 113 15 [5] (cTLess tn) := fnIs_of Try.func113 (by kernel_rfl) (by kernel_rfl) (by kernel_rfl) (by kernel_rfl) -- (*pub-kmsg/pub/kmsg.Tags).Each$1
theorem fn72 : FnIs Try.prog 72 9 [4] (cTEach tn) := fnIs_of Try.func72 (by kernel_rfl) (by kernel_rfl) (by kernel_rfl) (by kernel_rfl) -- (*pub-kmsg/pub/kmsg.Tags).AppendEach
theorem fn104 : FnIs Try.prog 104 16 [] (cTOne tn) := fnIs_of Try.func104 (by kernel_rfl) (by kernel_rfl) (by kernel_rfl) (by kernel_rfl) -- (*pub-kmsg/pub/kmsg.Tags).AppendEach$1
theorem tf : TF Try.prog tn where
  map := ⟨69, 28, by kernel_rfl, by kernel_rfl⟩
  fld := fldB_ok (by kernel_rfl)
  sl := by kernel_rfl
  info := infoB_ok (by kernel_rfl)
  vU := varB_ok (by kernel_rfl)
  vK := varB_ok (by kernel_rfl)
  zK := zeroOf_ok (by kernel_rfl)
  dInt := by kernel_rfl
  dU32 := by kernel_rfl
theorem sortOk : SortOk Try.prog tn := sortOk_of (it := (Try.prog.info? 131).get (by kernel_rfl)) (ie := (Try.prog.info? 69).get (by kernel_rfl)) (ke := 10) (f1 := 119) (f2 := 120) (f6 := 124) mixed tf Try.sa6 rfl (enters_of Try.func112 (by kernel_rfl) rfl) fn113 (by omega) (by kernel_rfl) (by kernel_rfl) (by kernel_rfl) (by kernel_rfl) (fun _ => by kernel_rfl) (by kernel_rfl) (by kernel_rfl) (by kernel_rfl) fn113.ent (by kernel_rfl) (by kernel_rfl) (by kernel_rfl) (fun args W => run_callFunc_extern Try.func124 (by kernel_rfl) (by kernel_rfl) (by kernel_rfl) (e := Extern.ReflectliteSwapper.swap true) (by kernel_rfl) args W)
theorem oct : OctT Try.prog kn.tSl kn.tU8 := octB_ok (by kernel_rfl)
theorem wt : WT Try.prog kn where
  mixed := mixed
  oct := oct
  dU8 := by kernel_rfl
  dI8 := fun h => absurd h (by decide)
  dI16 := by kernel_rfl
  dU16 := fun _ => by kernel_rfl
  dI32 := by kernel_rfl
  dU32 := by kernel_rfl
  dInt := by kernel_rfl
  dI64 := fun _ => by kernel_rfl
  dU64 := fun _ => by kernel_rfl
  dStr := by kernel_rfl
  vStr := varB_ok (by kernel_rfl)
theorem uvC (x : Nat) (w : World) (h : x < 4294967296) : ApC Try.prog kn.tU8 numbersW.uv (.int .u32 x) (uvar x) w := ap_uv wt (by kernel_rfl) fn111 (by omega) fn102 (by omega) fn70 (by omega) h w
theorem i16C (x : Int) (w : World) : ApC Try.prog kn.tU8 68 (.int .i16 x) (be 2 x) w := ap_i16 wt rfl fn100 (by omega) fn68 (by omega) x w
theorem i32C (x : Int) (w : World) : ApC Try.prog kn.tU8 67 (.int .i32 x) (be 4 x) w := ap_i32 wt fn99 (by omega) fn67 (by omega) x w
def avw : PF → Bool
  | .bool => true
  | .i16 => true
  | .u16 => true
  | .i32 => true
  | .i64 => true
  | .uuid => true
  | .str => true
  | .cstr => true
  | .nstr => true
  | .cnstr => true
  | .bytes => true
  | .cbytes => true
  | _ => false
theorem apAll : ∀ p, avw p = true → AppOk Try.prog kn.tU8 p (numbersW.ap p) := by
  intro p h
  cases p
  · exact app_bool wt fn93 (by omega)
  · cases h
  · exact app_i16 wt rfl fn100 (by omega) fn68 (by omega)
  · exact app_u16 wt rfl fn100 (by omega)
  · exact app_i32 wt fn99 (by omega) fn67 (by omega)
  · exact app_i64 wt rfl rfl fn101 (by omega) fn69 (by omega)
  · exact app_uuid wt (varB_ok (by kernel_rfl)) (by kernel_rfl) fn98 (by omega)
  · exact app_str wt (app_i16 wt rfl fn100 (by omega) fn68 (by omega)) i16C fn92 (by omega)
  · exact app_cstr wt fn70.ent (fun x w h => uvC x w h) fn91 (by omega)
  · exact app_nstr wt (fx := false) rfl (by kernel_rfl) fn68.ent (fun w => i16C (-1) w) (app_str wt (app_i16 wt rfl fn100 (by omega) fn68 (by omega)) i16C fn92 (by omega)) fn87 (by omega)
  · exact app_nstr wt (fx := true) rfl (by kernel_rfl) fn70.ent (fun w => uvC 0 w (by omega)) (app_cstr wt fn70.ent (fun x w h => uvC x w h) fn91 (by omega)) fn86 (by omega)
  · exact app_bytes wt fn67.ent i32C fn83 (by omega)
  · exact app_cbytes wt fn70.ent (fun x w h => uvC x w h) fn82 (by omega)
  · cases h
  · cases h
theorem kw : KW Try.prog numbersW avw true false kn.tU8 where
  mixed := mixed
  oct := oct
  dInt := by kernel_rfl
  dU32 := fun _ => by kernel_rfl
  apE p h := (apAll p h).1
  apC p h := (apAll p h).2
  alE := fun _ => fn90.ent
  alC := fun _ n w => ap_len wt fn67.ent i32C fn90 (by omega) n w
  clE := fun _ _ => fn89.ent
  clC := fun _ _ n w => ap_clen wt fn70.ent (fun x w h => uvC x w h) fn89 (by omega) n w
  nlE := fun h => absurd h (by decide)
  nlC := fun h => absurd h (by decide)
  cnE := fun h => absurd h (by decide)
  cnC := fun h => absurd h (by decide)
  uvE := fun _ => fn70.ent
  uvC := fun _ x w h => uvC x w h
  tlE := fun _ => fn71.ent
  tlC := fun _ w b o m X t hc ht => tlen_calls (kt := 69) (et := 28) mixed (by kernel_rfl) (fldB_ok (by kernel_rfl)) fn71 (by omega) hc ht
  teE := fun _ => fn72.ent
  teC := fun _ w b o m L t d bs hc hb ht hd hL hlim => teach_calls mixed tf sortOk oct (varB_ok (by kernel_rfl)) fn70.ent (fun x w h => uvC x w h) fn103 (by omega) fn104 (by omega) fn72 (by omega) hc hb ht hd hL hlim
  uuid := fun _ => ⟨varB_ok (by kernel_rfl), zeroOf_ok (by kernel_rfl)⟩
noncomputable def zv : Value := (zeroOf Try.prog 107).getD undef
noncomputable def zz : Array Value := applyWr zv.cells 0 dw96
def sn : SN := { tInt := 3, tI64 := 2, tU8 := 5, tU64 := 76, tU32 := 69, tU16 := 118, tB := 4, tSl := 28, tF := 43, tFs := 23, tT := 35, tTs := 32, tG := 79, tGs := 33, tMs := 25, fPart := 39, fHas := 73, fField := 74, fAt := 75, fKnown := 76, fUsual := 77, fUv := 78, fUnk := 79, fWhole := 80, fNull := 105, fThings := 106, fCnt := 107, fVal := 108, fFix := 109, fWid := 110, fWrite := 15, fSame := 12, fZ2 := 999999, fZ3 := 999999, fZ4 := 999999 }
theorem sf_fPart : FnIs Try.prog sn.fPart 132 [8] (csPt sn) := fnIs_of Try.func39 (by kernel_rfl) (by kernel_rfl) (by kernel_rfl) (by kernel_rfl)
theorem sf_fHas : FnIs Try.prog sn.fHas 20 [4] (csHs sn) := fnIs_of Try.func73 (by kernel_rfl) (by kernel_rfl) (by kernel_rfl) (by kernel_rfl)
theorem sf_fField : FnIs Try.prog sn.fField 76 [8] (csFl sn) := fnIs_of Try.func74 (by kernel_rfl) (by kernel_rfl) (by kernel_rfl) (by kernel_rfl)
theorem sf_fAt : FnIsC Try.prog sn.fAt 16 4 35 (csAt sn) := fnIsC_of Try.func75 (by kernel_rfl) (by kernel_rfl) (by kernel_rfl) (by kernel_rfl)
theorem sf_fKnown : FnIs Try.prog sn.fKnown 23 [2] (csKw sn) := fnIs_of Try.func76 (by kernel_rfl) (by kernel_rfl) (by kernel_rfl) (by kernel_rfl)
theorem sf_fUv : FnIs Try.prog sn.fUv 20 [2] (csUvr sn) := fnIs_of Try.func78 (by kernel_rfl) (by kernel_rfl) (by kernel_rfl) (by kernel_rfl)
theorem sf_fUnk : FnIs Try.prog sn.fUnk 85 [4] (csUn sn) := fnIs_of Try.func79 (by kernel_rfl) (by kernel_rfl) (by kernel_rfl) (by kernel_rfl)
theorem sf_fWhole : FnIs Try.prog sn.fWhole 8 [2] (csWh sn) := fnIs_of Try.func80 (by kernel_rfl) (by kernel_rfl) (by kernel_rfl) (by kernel_rfl)
theorem sf_fNull : FnIs Try.prog sn.fNull 20 [6] (csNu sn) := fnIs_of Try.func105 (by kernel_rfl) (by kernel_rfl) (by kernel_rfl) (by kernel_rfl)
theorem sf_fThings : FnIs Try.prog sn.fThings 8 [2] (csTh sn) := fnIs_of Try.func106 (by kernel_rfl) (by kernel_rfl) (by kernel_rfl) (by kernel_rfl)
theorem sf_fCnt : FnIs Try.prog sn.fCnt 28 [8] (csCn sn) := fnIs_of Try.func107 (by kernel_rfl) (by kernel_rfl) (by kernel_rfl) (by kernel_rfl)
theorem sf_fVal : FnIs Try.prog sn.fVal 70 [12] (csVa sn) := fnIs_of Try.func108 (by kernel_rfl) (by kernel_rfl) (by kernel_rfl) (by kernel_rfl)
theorem sf_fFix : FnIs Try.prog sn.fFix 22 [4] (csFi sn) := fnIs_of Try.func109 (by kernel_rfl) (by kernel_rfl) (by kernel_rfl) (by kernel_rfl)
theorem sf_fWid : FnIs Try.prog sn.fWid 11 [2] (csWd sn) := fnIs_of Try.func110 (by kernel_rfl) (by kernel_rfl) (by kernel_rfl) (by kernel_rfl)
theorem sf_fWrite : FnIs Try.prog sn.fWrite 21 [6] (csWr sn) := fnIs_of Try.func15 (by kernel_rfl) (by kernel_rfl) (by kernel_rfl) (by kernel_rfl)
theorem rt : RefT Try.prog sn where
  mixed := mixed
  dInt := by kernel_rfl
  dI64 := by kernel_rfl
  dU8 := by kernel_rfl
  dU32 := by kernel_rfl
  dU64 := by kernel_rfl
  oct := oct
  dTs := by kernel_rfl
  dGs := by kernel_rfl
  dFs := by kernel_rfl
  vI64 := varB_ok (by kernel_rfl)
  vU8 := varB_ok (by kernel_rfl)
  vT := varB_ok (by kernel_rfl)
  vF := varB_ok (by kernel_rfl)
  vG := varB_ok (by kernel_rfl)
  vM := varB_ok (by kernel_rfl)
  t0 := fldB_ok (by kernel_rfl)
  t1 := fldB_ok (by kernel_rfl)
  t2 := fldB_ok (by kernel_rfl)
  t3 := fldB_ok (by kernel_rfl)
  t4 := fldB_ok (by kernel_rfl)
  f0 := fldB_ok (by kernel_rfl)
  f1 := fldB_ok (by kernel_rfl)
  f2 := fldB_ok (by kernel_rfl)
  f3 := fldB_ok (by kernel_rfl)
  f4 := fldB_ok (by kernel_rfl)
  f5 := fldB_ok (by kernel_rfl)
  f6 := fldB_ok (by kernel_rfl)
  f7 := fldB_ok (by kernel_rfl)
  g0 := fldB_ok (by kernel_rfl)
  g1 := fldB_ok (by kernel_rfl)
  m0 := fldB_ok (by kernel_rfl)
  m1 := fldB_ok (by kernel_rfl)
  zT := zeroOf_ok (by kernel_rfl)
  zF := zeroOf_ok (by kernel_rfl)
  zG := zeroOf_ok (by kernel_rfl)
  zM := zeroOf_ok (by kernel_rfl)
  z8 := z8_ok (by kernel_rfl)
  bT := fun w => by kernel_rfl
  bG := fun w => by kernel_rfl
  bSG := fun w => by kernel_rfl
  iG := iG_ok (by kernel_rfl)

theorem leaf : LeafC Try.prog sn := leafC_of rt (varB_ok (by kernel_rfl)) sf_fUv sf_fFix sf_fCnt sf_fWid sf_fWhole sf_fThings sf_fHas sf_fNull sf_fKnown sf_fAt sf_fUnk
theorem mkt : MkT Try.prog sn where
  tab := rt
  iT := iT_ok (by kernel_rfl)
  bT := fun x b w => by kernel_rfl
  bS := fun x b base n c w => by kernel_rfl
  fT := fun x b base n c w => by kernel_rfl
def nn : NN := { fM := 32, fB := 33, fV := 14, fN := 34, fD := 16 }
def it97 : List BI := [([(0, 3), (2, -1), (3, -1), (4, -1)], none), ([(0, 2), (2, -1), (3, -1), (4, -1)], none), ([(0, 8), (2, -1), (3, 0), (4, -1)], none)]
def ss97 : SFs := .cons 3 0 (-1) (-1) (-1) 0 0 .nil (.cons 2 0 (-1) (-1) (-1) 0 0 .nil (.cons 8 0 (-1) 0 (-1) 0 0 .nil (.nil)))
theorem fi97 : FnIs Try.prog 97 5 [0] (cSub sn it97) := fnIs_of Try.func97 (by kernel_rfl) (by kernel_rfl) (by kernel_rfl) (by kernel_rfl)
theorem sb97 : Ent Try.prog 97 ∧ BuildC Try.prog 97 ss97 := sub_calls rt fi97 (of_decide_eq_true (by kernel_rfl)) ⟨fun w => by kernel_rfl, rfl, ⟨fun w => by kernel_rfl, rfl, ⟨fun w => by kernel_rfl, rfl, trivial⟩⟩⟩ (fun sv w => by kernel_rfl) rfl (of_decide_eq_true (by kernel_rfl))
def it63 : List BI := [([(0, 7), (2, -1), (3, -1), (4, -1)], none), ([(0, 11), (2, -1), (3, -1), (4, -1), (6, 10)], some 97)]
def ss63 : SFs := .cons 7 0 (-1) (-1) (-1) 0 0 .nil (.cons 11 0 (-1) (-1) (-1) 0 10 ss97 (.nil))
theorem fi63 : FnIs Try.prog 63 5 [0] (cSub sn it63) := fnIs_of Try.func63 (by kernel_rfl) (by kernel_rfl) (by kernel_rfl) (by kernel_rfl)
theorem sb63 : Ent Try.prog 63 ∧ BuildC Try.prog 63 ss63 := sub_calls rt fi63 (of_decide_eq_true (by kernel_rfl)) ⟨fun w => by kernel_rfl, rfl, ⟨fun base n c w => by kernel_rfl, sb97, trivial⟩⟩ (fun sv w => by kernel_rfl) rfl (of_decide_eq_true (by kernel_rfl))
def itM : List BI := [([(0, 11), (2, -1), (3, -1), (4, -1), (6, 10)], some 63)]
def ssM : SFs := .cons 11 0 (-1) (-1) (-1) 0 10 ss63 (.nil)
theorem fiM : FnIsC Try.prog 33 5 0 sn.tMs (cMsgB sn 0 itM) := fnIsC_of Try.func33 (by kernel_rfl) (by kernel_rfl) (by kernel_rfl) (by kernel_rfl)
theorem sbM : Ent Try.prog 33 ∧ MsgBC Try.prog 33 0 ssM := msgb_calls rt (fun x base n c w => by kernel_rfl) fiM (of_decide_eq_true (by kernel_rfl)) ⟨fun base n c w => by kernel_rfl, sb63, trivial⟩ (fun sv w => by kernel_rfl) rfl (of_decide_eq_true (by kernel_rfl))
theorem fiD : FnIsC Try.prog nn.fD 35 2 35 (cDef sn nn) := fnIsC_of Try.func16 (by kernel_rfl) (by kernel_rfl) (by kernel_rfl) (by kernel_rfl)
theorem newAllOk : newAll true 0 0 0 fsDeleteShareGroupStateResponse ssM zz (some 2) = true := by kernel_rfl
theorem newC : NewC Try.prog sn nn 0 0 ssM (newB true 0 fsDeleteShareGroupStateResponse) :=
  newC_of (cw := ⟨true, 0, 0, 5, 6⟩) (ms := nwDeleteShareGroupStateResponse) (tI16 := 38) (toff := (some 2)) rt kw (by decide) rfl fn61 (by omega) fn64 (by omega) df96.1 df96.2 fn65 (by kernel_rfl) rfl (of_decide_eq_true (by kernel_rfl)) (by kernel_rfl) (by kernel_rfl) (by kernel_rfl) (by kernel_rfl) fn34 fn14 (by omega) fn12 (by omega) fn32 (by omega) fn62 (by omega) (by decide) sbM fiD (def_calls mkt fiD ssM (by kernel_rfl)).1 sf_fWrite sf_fPart.ent (ref_calls leaf sf_fPart sf_fField sf_fVal ssM (by kernel_rfl)).1 newAllOk
theorem fnL : FnIs Try.prog 9 22 [2] (cLnw sn nn) := fnIs_of Try.func9 (by kernel_rfl) (by kernel_rfl) (by kernel_rfl) (by kernel_rfl)
theorem law {x0 : Nat} (hx : x0 < 256) (W : World) : Calls Try.prog 9 [.int .u8 (x0 : Int)].toArray W (TrueN W) := new_law newC newAllOk fnL hx W
end Go.Proofs.Ytjfelbjkmpgbgaa.Kx
