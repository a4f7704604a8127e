/-
  FnNewUnregisterBrokerRequest: the numbers of the program, the code of its functions, and the law out of them.
-/
import Derived.Test.YtmjhmpgnfdincaaChecked
import Derived.Test.YtmjhmpgnfdincaaK1
import Derived.Test.YtmjhmpgnfdincaaK2
import Derived.Test.YtmjhmpgnfdincaaK3
import Derived.Test.YtmjhmpgnfdincaaK4
import Derived.Test.YtmjhmpgnfdincaaK5
import Derived.Test.YtmjhmpgnfdincaaK6
import Derived.Test.YtmjhmpgnfdincaaK7
import Derived.Test.YtmjhmpgnfdincaaK8
import Derived.Test.YtmjhmpgnfdincaaK9
import Derived.Test.YtmjhmpgnfdincaaK10
import Derived.Test.YtmjhmpgnfdincaaK11
import Derived.Test.YtmjhmpgnfdincaaK12
import Derived.Test.YtmjhmpgnfdincaaK13
import Derived.Test.YtmjhmpgnfdincaaK14
import Derived.Test.YtmjhmpgnfdincaaK15
import Derived.KernelRfl
import Derived.Test.YtmjhmpgnfdincaaSh
namespace Go.Proofs.Ytmjhmpgnfdincaa.Kx
open Go Go.Proofs
set_option maxRecDepth 100000
def numbersW : GW := { ap := fun | .bool => 999999 | .i8 => 999999 | .i16 => 999999 | .u16 => 999999 | .i32 => 17 | .i64 => 999999 | .uuid => 999999 | .str => 999999 | .cstr => 999999 | .nstr => 999999 | .cnstr => 999999 | .bytes => 999999 | .cbytes => 999999 | .nbytes => 999999 | .cnbytes => 999999, alen := 999999, calen := 999999, nalen := 999999, cnalen := 999999, uv := 18, tlen := 19, teach := 20, tVer := 38, tInt := 3, tU32 := 54, tSl := 28, tUuid := 999999 }
def kn : Kn := { tRS := 999999, tSl := 28, tB := 4, tInt := 3, tU8 := 5, tI8 := 999999, tI16 := 38, tU16 := 999999, tI32 := 21, tU32 := 54, tI64 := 2, tU64 := 61, tStr := 9, tUuid := 999999, tBE := 999999, tErr := 999999, gBE := 999999, gErr := 0, fU16 := 999999, fU32 := 999999, fU64 := 999999, fUv := 999999, fR64 := 999999 }
theorem mixed : Try.prog.follows .mixedOrders = true := by kernel_rfl
def fsUnregisterBrokerRequest : Fds := (.cons 0 none none (0) 1 (.prim .i32) .nil)
def nwUnregisterBrokerRequest : List Nm := [(.mk [7, 51, 1, 21] [])]
theorem fn29 : FnIs Try.prog 29 19 [4] (cAU32 kn) := fnIs_of Try.func29 (by kernel_rfl) (by kernel_rfl) (by kernel_rfl) (by kernel_rfl) -- pub-kmsg/pub/kmsg/inner/kbin.AppendUint32
theorem fn17 : FnIs Try.prog 17 9 [4] (cACv kn.tI32 kn.tU32 29) := fnIs_of Try.func17 (by kernel_rfl) (by kernel_rfl) (by kernel_rfl) (by kernel_rfl) -- pub-kmsg/pub/kmsg/inner/kbin.AppendInt32
theorem fn18 : FnIs Try.prog 18 93 [4] (cAUv kn 30) := fnIs_of Try.func18 (by kernel_rfl) (by kernel_rfl) (by kernel_rfl) (by kernel_rfl) -- pub-kmsg/pub/kmsg/inner/kbin.AppendUvarint
theorem fn30 : FnIs Try.prog 30 8 [2] (cUvLen kn 39) := fnIs_of Try.func30 (by kernel_rfl) (by kernel_rfl) (by kernel_rfl) (by kernel_rfl) -- pub-kmsg/pub/kmsg/inner/kbin.UvarintLen
theorem fn39 : FnIs Try.prog 39 19 [2] (cLen32 kn 54) := fnIs_of Try.func39 (by kernel_rfl) (by kernel_rfl) (by kernel_rfl) (by kernel_rfl) -- math/bits.Len32
theorem fn19 : FnIs Try.prog 19 8 [2] (cTLen kn 49 47) := fnIs_of Try.func19 (by kernel_rfl) (by kernel_rfl) (by kernel_rfl) (by kernel_rfl) -- (*pub-kmsg/pub/kmsg.Tags).Len
theorem fn11 : FnIs Try.prog 11 3 [0] (cNewPtr 51 16) := fnIs_of Try.func11 (by kernel_rfl) (by kernel_rfl) (by kernel_rfl) (by kernel_rfl) -- pub-kmsg/pub/kmsg.NewPtrUnregisterBrokerRequest
theorem fn13 : FnIs Try.prog 13 8 [] (cSetV 51 38) := fnIs_of Try.func13 (by kernel_rfl) (by kernel_rfl) (by kernel_rfl) (by kernel_rfl) -- (*pub-kmsg/pub/kmsg.UnregisterBrokerRequest).SetVersion
theorem fn4 : FnIs Try.prog 4 4 [0] (cMax 38 3 11 12) := fnIs_of Try.func4 (by kernel_rfl) (by kernel_rfl) (by kernel_rfl) (by kernel_rfl) -- pub-kmsg/impl.MaxUnregisterBrokerRequest
theorem fn7 : FnIs Try.prog 7 11 [2] (cNewM 38 3 11 13 14) := fnIs_of Try.func7 (by kernel_rfl) (by kernel_rfl) (by kernel_rfl) (by kernel_rfl) -- pub-kmsg/impl.NewUnregisterBrokerRequest
theorem fn12 : FnIs Try.prog 12 3 [2] (cMaxV 0) := fnIs_of Try.func12 (by kernel_rfl) (by kernel_rfl) (by kernel_rfl) (by kernel_rfl) -- (*pub-kmsg/pub/kmsg.UnregisterBrokerRequest).MaxVersion
theorem fn8 : FnIs Try.prog 8 10 [4] (cVer 5 3) := fnIs_of Try.func8 (by kernel_rfl) (by kernel_rfl) (by kernel_rfl) (by kernel_rfl) -- pub-kmsg/laws.version
theorem fn6 : FnIs Try.prog 6 26 [4] (cSame 28 5 3) := fnIs_of Try.func6 (by kernel_rfl) (by kernel_rfl) (by kernel_rfl) (by kernel_rfl) -- pub-kmsg/spec.Same
theorem fn14 : FnIs Try.prog 14 38 [4] (gWrite numbersW false ⟨true, 0, 0, 5, 6⟩ fsUnregisterBrokerRequest 51 2 0 0 8 nwUnregisterBrokerRequest) := fnIs_of Try.func14 (by kernel_rfl) (by kernel_rfl) (by kernel_rfl) (by kernel_rfl) -- (*pub-kmsg/pub/kmsg.UnregisterBrokerRequest).AppendTo
def di16 : List DI := []
theorem fn16 : FnIs Try.prog 16 2 [] (gDflt di16 2) := fnIs_of Try.func16 (by kernel_rfl) (by kernel_rfl) (by kernel_rfl) (by kernel_rfl) -- (*pub-kmsg/pub/kmsg.UnregisterBrokerRequest).Default
noncomputable def dw16 : List (Nat × Value) := (dRun Try.prog 2 di16 [(0, 0)]).getD []
theorem df16 : Ent Try.prog 16 ∧ DfC Try.prog 16 dw16 := dfC_of (n0 := 2) (items := di16) (by kernel_rfl) fn16 (by kernel_rfl) (of_decide_eq_true (by kernel_rfl)) (by omega)
noncomputable def dd : Nat → Option (List (Nat × Value))
  | 16 => some dw16
  | _ => none
theorem ddOk : ∀ f wr, dd f = some wr → Ent Try.prog f ∧ DfC Try.prog f wr := by
  intro f wr h
  unfold dd at h
  split at h
  · obtain rfl := Option.some.inj h; exact df16
  · cases h
def tn : TN := { tTags := 49, tM := 47, tKs := 76, tU32 := 54, tInt := 3, tSl := 28, fSort := 40, fLess := 41, fEach := 31, fOne := 32, fUv := 18 }
theorem fn31 : FnIs Try.prog 31 53 [] (cEach tn) := fnIs_of Try.func31 (by kernel_rfl) (by kernel_rfl) (by kernel_rfl) (by kernel_rfl) -- (*pub-kmsg/pub/kmsg.Tags).Each
theorem fn41 : FnIs Try.prog 41 15 [5] (cTLess tn) := fnIs_of Try.func41 (by kernel_rfl) (by kernel_rfl) (by kernel_rfl) (by kernel_rfl) -- (*pub-kmsg/pub/kmsg.Tags).Each$1
theorem fn20 : FnIs Try.prog 20 9 [4] (cTEach tn) := fnIs_of Try.func20 (by kernel_rfl) (by kernel_rfl) (by kernel_rfl) (by kernel_rfl) -- (*pub-kmsg/pub/kmsg.Tags).AppendEach
theorem fn32 : FnIs Try.prog 32 16 [] (cTOne tn) := fnIs_of Try.func32 (by kernel_rfl) (by kernel_rfl) (by kernel_rfl) (by kernel_rfl) -- (*pub-kmsg/pub/kmsg.Tags).AppendEach$1
theorem tf : TF Try.prog tn where
  map := ⟨54, 28, by kernel_rfl, by kernel_rfl⟩
  fld := fldB_ok (by kernel_rfl)
  sl := by kernel_rfl
  info := infoB_ok (by kernel_rfl)
  vU := varB_ok (by kernel_rfl)
  vK := varB_ok (by kernel_rfl)
  zK := zeroOf_ok (by kernel_rfl)
  dInt := by kernel_rfl
  dU32 := by kernel_rfl
theorem sortOk : SortOk Try.prog tn := sortOk_of (it := (Try.prog.info? 76).get (by kernel_rfl)) (ie := (Try.prog.info? 54).get (by kernel_rfl)) (ke := 10) (f1 := 47) (f2 := 48) (f6 := 52) mixed tf Try.sa6 rfl (enters_of Try.func40 (by kernel_rfl) rfl) fn41 (by omega) (by kernel_rfl) (by kernel_rfl) (by kernel_rfl) (by kernel_rfl) (fun _ => by kernel_rfl) (by kernel_rfl) (by kernel_rfl) (by kernel_rfl) fn41.ent (by kernel_rfl) (by kernel_rfl) (by kernel_rfl) (fun args W => run_callFunc_extern Try.func52 (by kernel_rfl) (by kernel_rfl) (by kernel_rfl) (e := Extern.ReflectliteSwapper.swap true) (by kernel_rfl) args W)
theorem oct : OctT Try.prog kn.tSl kn.tU8 := octB_ok (by kernel_rfl)
theorem wt : WT Try.prog kn where
  mixed := mixed
  oct := oct
  dU8 := by kernel_rfl
  dI8 := fun h => absurd h (by decide)
  dI16 := by kernel_rfl
  dU16 := fun h => absurd h (by decide)
  dI32 := by kernel_rfl
  dU32 := by kernel_rfl
  dInt := by kernel_rfl
  dI64 := fun _ => by kernel_rfl
  dU64 := fun _ => by kernel_rfl
  dStr := by kernel_rfl
  vStr := varB_ok (by kernel_rfl)
theorem uvC (x : Nat) (w : World) (h : x < 4294967296) : ApC Try.prog kn.tU8 numbersW.uv (.int .u32 x) (uvar x) w := ap_uv wt (by kernel_rfl) fn39 (by omega) fn30 (by omega) fn18 (by omega) h w
theorem i32C (x : Int) (w : World) : ApC Try.prog kn.tU8 17 (.int .i32 x) (be 4 x) w := ap_i32 wt fn29 (by omega) fn17 (by omega) x w
def avw : PF → Bool
  | .i32 => true
  | _ => false
theorem apAll : ∀ p, avw p = true → AppOk Try.prog kn.tU8 p (numbersW.ap p) := by
  intro p h
  cases p
  · cases h
  · cases h
  · cases h
  · cases h
  · exact app_i32 wt fn29 (by omega) fn17 (by omega)
  · cases h
  · cases h
  · cases h
  · cases h
  · cases h
  · cases h
  · cases h
  · cases h
  · cases h
  · cases h
theorem kw : KW Try.prog numbersW avw true false kn.tU8 where
  mixed := mixed
  oct := oct
  dInt := by kernel_rfl
  dU32 := fun _ => by kernel_rfl
  apE p h := (apAll p h).1
  apC p h := (apAll p h).2
  alE := fun h => absurd h (by decide)
  alC := fun h => absurd h (by decide)
  clE := fun _ h => absurd h (by decide)
  clC := fun _ h => absurd h (by decide)
  nlE := fun h => absurd h (by decide)
  nlC := fun h => absurd h (by decide)
  cnE := fun h => absurd h (by decide)
  cnC := fun h => absurd h (by decide)
  uvE := fun _ => fn18.ent
  uvC := fun _ x w h => uvC x w h
  tlE := fun _ => fn19.ent
  tlC := fun _ w b o m X t hc ht => tlen_calls (kt := 54) (et := 28) mixed (by kernel_rfl) (fldB_ok (by kernel_rfl)) fn19 (by omega) hc ht
  teE := fun _ => fn20.ent
  teC := fun _ w b o m L t d bs hc hb ht hd hL hlim => teach_calls mixed tf sortOk oct (varB_ok (by kernel_rfl)) fn18.ent (fun x w h => uvC x w h) fn31 (by omega) fn32 (by omega) fn20 (by omega) hc hb ht hd hL hlim
  uuid := fun h => absurd h (by decide)
noncomputable def zv : Value := (zeroOf Try.prog 51).getD undef
noncomputable def zz : Array Value := applyWr zv.cells 0 dw16
def sn : SN := { tInt := 3, tI64 := 2, tU8 := 5, tU64 := 61, tU32 := 54, tU16 := 999999, tB := 4, tSl := 28, tF := 43, tFs := 23, tT := 35, tTs := 32, tG := 64, tGs := 33, tMs := 25, fPart := 15, fHas := 21, fField := 22, fAt := 23, fKnown := 24, fUsual := 25, fUv := 26, fUnk := 27, fWhole := 28, fNull := 33, fThings := 34, fCnt := 35, fVal := 36, fFix := 37, fWid := 38, fWrite := 9, fSame := 6, fZ2 := 999999, fZ3 := 999999, fZ4 := 999999 }
theorem sf_fPart : FnIs Try.prog sn.fPart 132 [8] (csPt sn) := fnIs_of Try.func15 (by kernel_rfl) (by kernel_rfl) (by kernel_rfl) (by kernel_rfl)
theorem sf_fHas : FnIs Try.prog sn.fHas 20 [4] (csHs sn) := fnIs_of Try.func21 (by kernel_rfl) (by kernel_rfl) (by kernel_rfl) (by kernel_rfl)
theorem sf_fField : FnIs Try.prog sn.fField 76 [8] (csFl sn) := fnIs_of Try.func22 (by kernel_rfl) (by kernel_rfl) (by kernel_rfl) (by kernel_rfl)
theorem sf_fAt : FnIsC Try.prog sn.fAt 16 4 35 (csAt sn) := fnIsC_of Try.func23 (by kernel_rfl) (by kernel_rfl) (by kernel_rfl) (by kernel_rfl)
theorem sf_fKnown : FnIs Try.prog sn.fKnown 23 [2] (csKw sn) := fnIs_of Try.func24 (by kernel_rfl) (by kernel_rfl) (by kernel_rfl) (by kernel_rfl)
theorem sf_fUv : FnIs Try.prog sn.fUv 20 [2] (csUvr sn) := fnIs_of Try.func26 (by kernel_rfl) (by kernel_rfl) (by kernel_rfl) (by kernel_rfl)
theorem sf_fUnk : FnIs Try.prog sn.fUnk 85 [4] (csUn sn) := fnIs_of Try.func27 (by kernel_rfl) (by kernel_rfl) (by kernel_rfl) (by kernel_rfl)
theorem sf_fWhole : FnIs Try.prog sn.fWhole 8 [2] (csWh sn) := fnIs_of Try.func28 (by kernel_rfl) (by kernel_rfl) (by kernel_rfl) (by kernel_rfl)
theorem sf_fNull : FnIs Try.prog sn.fNull 20 [6] (csNu sn) := fnIs_of Try.func33 (by kernel_rfl) (by kernel_rfl) (by kernel_rfl) (by kernel_rfl)
theorem sf_fThings : FnIs Try.prog sn.fThings 8 [2] (csTh sn) := fnIs_of Try.func34 (by kernel_rfl) (by kernel_rfl) (by kernel_rfl) (by kernel_rfl)
theorem sf_fCnt : FnIs Try.prog sn.fCnt 28 [8] (csCn sn) := fnIs_of Try.func35 (by kernel_rfl) (by kernel_rfl) (by kernel_rfl) (by kernel_rfl)
theorem sf_fVal : FnIs Try.prog sn.fVal 70 [12] (csVa sn) := fnIs_of Try.func36 (by kernel_rfl) (by kernel_rfl) (by kernel_rfl) (by kernel_rfl)
theorem sf_fFix : FnIs Try.prog sn.fFix 22 [4] (csFi sn) := fnIs_of Try.func37 (by kernel_rfl) (by kernel_rfl) (by kernel_rfl) (by kernel_rfl)
theorem sf_fWid : FnIs Try.prog sn.fWid 11 [2] (csWd sn) := fnIs_of Try.func38 (by kernel_rfl) (by kernel_rfl) (by kernel_rfl) (by kernel_rfl)
theorem sf_fWrite : FnIs Try.prog sn.fWrite 21 [6] (csWr sn) := fnIs_of Try.func9 (by kernel_rfl) (by kernel_rfl) (by kernel_rfl) (by kernel_rfl)
theorem rt : RefT Try.prog sn where
  mixed := mixed
  dInt := by kernel_rfl
  dI64 := by kernel_rfl
  dU8 := by kernel_rfl
  dU32 := by kernel_rfl
  dU64 := by kernel_rfl
  oct := oct
  dTs := by kernel_rfl
  dGs := by kernel_rfl
  dFs := by kernel_rfl
  vI64 := varB_ok (by kernel_rfl)
  vU8 := varB_ok (by kernel_rfl)
  vT := varB_ok (by kernel_rfl)
  vF := varB_ok (by kernel_rfl)
  vG := varB_ok (by kernel_rfl)
  vM := varB_ok (by kernel_rfl)
  t0 := fldB_ok (by kernel_rfl)
  t1 := fldB_ok (by kernel_rfl)
  t2 := fldB_ok (by kernel_rfl)
  t3 := fldB_ok (by kernel_rfl)
  t4 := fldB_ok (by kernel_rfl)
  f0 := fldB_ok (by kernel_rfl)
  f1 := fldB_ok (by kernel_rfl)
  f2 := fldB_ok (by kernel_rfl)
  f3 := fldB_ok (by kernel_rfl)
  f4 := fldB_ok (by kernel_rfl)
  f5 := fldB_ok (by kernel_rfl)
  f6 := fldB_ok (by kernel_rfl)
  f7 := fldB_ok (by kernel_rfl)
  g0 := fldB_ok (by kernel_rfl)
  g1 := fldB_ok (by kernel_rfl)
  m0 := fldB_ok (by kernel_rfl)
  m1 := fldB_ok (by kernel_rfl)
  zT := zeroOf_ok (by kernel_rfl)
  zF := zeroOf_ok (by kernel_rfl)
  zG := zeroOf_ok (by kernel_rfl)
  zM := zeroOf_ok (by kernel_rfl)
  z8 := z8_ok (by kernel_rfl)
  bT := fun w => by kernel_rfl
  bG := fun w => by kernel_rfl
  bSG := fun w => by kernel_rfl
  iG := iG_ok (by kernel_rfl)

theorem leaf : LeafC Try.prog sn := leafC_of rt (varB_ok (by kernel_rfl)) sf_fUv sf_fFix sf_fCnt sf_fWid sf_fWhole sf_fThings sf_fHas sf_fNull sf_fKnown sf_fAt sf_fUnk
theorem mkt : MkT Try.prog sn where
  tab := rt
  iT := iT_ok (by kernel_rfl)
  bT := fun x b w => by kernel_rfl
  bS := fun x b base n c w => by kernel_rfl
  fT := fun x b base n c w => by kernel_rfl
def nn : NN := { fM := 4, fB := 5, fV := 8, fN := 7, fD := 10 }
def itM : List BI := [([(0, 3), (2, -1), (3, -1), (4, -1)], none)]
def ssM : SFs := .cons 3 0 (-1) (-1) (-1) 0 0 .nil (.nil)
theorem fiM : FnIsC Try.prog 5 4 0 sn.tMs (cMsgB sn 0 itM) := fnIsC_of Try.func5 (by kernel_rfl) (by kernel_rfl) (by kernel_rfl) (by kernel_rfl)
theorem sbM : Ent Try.prog 5 ∧ MsgBC Try.prog 5 0 ssM := msgb_calls rt (fun x base n c w => by kernel_rfl) fiM (of_decide_eq_true (by kernel_rfl)) ⟨fun w => by kernel_rfl, rfl, trivial⟩ (fun sv w => by kernel_rfl) rfl (of_decide_eq_true (by kernel_rfl))
theorem fiD : FnIsC Try.prog nn.fD 35 2 35 (cDef sn nn) := fnIsC_of Try.func10 (by kernel_rfl) (by kernel_rfl) (by kernel_rfl) (by kernel_rfl)
theorem newAllOk : newAll true 0 0 0 fsUnregisterBrokerRequest ssM zz (some 2) = true := by kernel_rfl
theorem newC : NewC Try.prog sn nn 0 0 ssM (newB true 0 fsUnregisterBrokerRequest) :=
  newC_of (cw := ⟨true, 0, 0, 5, 6⟩) (ms := nwUnregisterBrokerRequest) (tI16 := 38) (toff := (some 2)) rt kw (by decide) rfl fn11 (by omega) fn13 (by omega) df16.1 df16.2 fn14 (by kernel_rfl) rfl (of_decide_eq_true (by kernel_rfl)) (by kernel_rfl) (by kernel_rfl) (by kernel_rfl) (by kernel_rfl) fn7 fn8 (by omega) fn6 (by omega) fn4 (by omega) fn12 (by omega) (by decide) sbM fiD (def_calls mkt fiD ssM (by kernel_rfl)).1 sf_fWrite sf_fPart.ent (ref_calls leaf sf_fPart sf_fField sf_fVal ssM (by kernel_rfl)).1 newAllOk
theorem fnL : FnIs Try.prog 3 22 [2] (cLnw sn nn) := fnIs_of Try.func3 (by kernel_rfl) (by kernel_rfl) (by kernel_rfl) (by kernel_rfl)
theorem law {x0 : Nat} (hx : x0 < 256) (W : World) : Calls Try.prog 3 [.int .u8 (x0 : Int)].toArray W (TrueN W) := new_law newC newAllOk fnL hx W
end Go.Proofs.Ytmjhmpgnfdincaa.Kx
