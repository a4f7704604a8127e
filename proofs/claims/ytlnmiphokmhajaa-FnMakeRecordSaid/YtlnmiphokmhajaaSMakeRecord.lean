/-
  FnMakeRecord: the numbers of the program, the code of its functions, and the law out of them.
-/
import Derived.Test.YtlnmiphokmhajaaChecked
import Derived.Test.YtlnmiphokmhajaaK1
import Derived.Test.YtlnmiphokmhajaaK2
import Derived.Test.YtlnmiphokmhajaaK3
import Derived.Test.YtlnmiphokmhajaaK4
import Derived.Test.YtlnmiphokmhajaaK5
import Derived.Test.YtlnmiphokmhajaaK6
import Derived.Test.YtlnmiphokmhajaaK7
import Derived.Test.YtlnmiphokmhajaaK8
import Derived.Test.YtlnmiphokmhajaaK9
import Derived.Test.YtlnmiphokmhajaaK10
import Derived.Test.YtlnmiphokmhajaaK11
import Derived.Test.YtlnmiphokmhajaaK12
import Derived.KernelRfl
namespace Go.Proofs.Ytlnmiphokmhajaa.Kx
open Go Go.Proofs
set_option maxRecDepth 100000
theorem mixed : Try.prog.follows .mixedOrders = true := by kernel_rfl
def kn : Kn := { tRS := 999999, tSl := 22, tB := 4, tInt := 3, tU8 := 5, tI8 := 23, tI16 := 999999, tU16 := 999999, tI32 := 21, tU32 := 60, tI64 := 2, tU64 := 57, tStr := 9, tUuid := 999999, tBE := 999999, tErr := 999999, gBE := 999999, gErr := 0, fU16 := 999999, fU32 := 999999, fU64 := 999999, fUv := 999999, fR64 := 999999 }
def sn : SN := { tInt := 3, tI64 := 2, tU8 := 5, tU64 := 57, tU32 := 60, tU16 := 999999, tB := 4, tSl := 22, tF := 999999, tFs := 999999, tT := 999999, tTs := 999999, tG := 999999, tGs := 999999, tMs := 999999, fPart := 999999, fHas := 999999, fField := 999999, fAt := 999999, fKnown := 999999, fUsual := 999999, fUv := 25, fUnk := 999999, fWhole := 999999, fNull := 999999, fThings := 999999, fCnt := 999999, fVal := 999999, fFix := 999999, fWid := 999999, fWrite := 999999, fSame := 12, fZ2 := 999999, fZ3 := 999999, fZ4 := 999999 }
def rn : RN := { tStr := 9, tI32 := 21, tI8 := 23, tOc := 25, tHs := 26, tH := 43, tR := 28, tKR := 41, tKP := 37, tKHs := 39, tKH := 45, fZ7 := 17, fZ8 := 9, fZ9 := 4, fZ10 := 10, fLit := 5, fBeh := 6, fMk := 7, fNull := 13, fOwn := 15, fApp := 14, fRB := 8, fRR := 11, fVi := 16, fTu := 26, fOB := 18, fHB := 19, fAVi := 20, fAI8 := 21, fAVl := 22, fAVb := 23, fAVs := 24, fAUv := 27, fAUl := 28, fUlL := 30, fL64 := 32 }
theorem g2 : FnIs Try.prog 31 19 [2] (cLen32 kn kn.tU32) := fnIs_of Try.func31 (by kernel_rfl) (by kernel_rfl) (by kernel_rfl) (by kernel_rfl) -- math/bits.Len32
theorem g1 : FnIs Try.prog 29 8 [2] (cUvLen kn 31) := fnIs_of Try.func29 (by kernel_rfl) (by kernel_rfl) (by kernel_rfl) (by kernel_rfl) -- pub-kmsg/pub/kmsg/inner/kbin.UvarintLen
theorem g0 : FnIs Try.prog rn.fAUv 93 [4] (cAUv kn 29) := fnIs_of Try.func27 (by kernel_rfl) (by kernel_rfl) (by kernel_rfl) (by kernel_rfl) -- pub-kmsg/pub/kmsg/inner/kbin.AppendUvarint
theorem k2 : FnIs Try.prog rn.fL64 25 [2] (cLen64 kn kn.tU64) := fnIs_of Try.func32 (by kernel_rfl) (by kernel_rfl) (by kernel_rfl) (by kernel_rfl) -- math/bits.Len64
theorem k1 : FnIs Try.prog rn.fUlL 8 [2] (cUvLen kn rn.fL64) := fnIs_of Try.func30 (by kernel_rfl) (by kernel_rfl) (by kernel_rfl) (by kernel_rfl) -- pub-kmsg/pub/kmsg/inner/kbin.uvarlongLen
theorem k0 : FnIs Try.prog rn.fAUl 303 [4] (cAGv kn kn.tU64 .u64 10 rn.fUlL) := fnIs_of Try.func28 (by kernel_rfl) (by kernel_rfl) (by kernel_rfl) (by kernel_rfl) -- pub-kmsg/pub/kmsg/inner/kbin.appendUvarlong
theorem hUv : FnIs Try.prog sn.fUv 20 [2] (csUvr sn) := fnIs_of Try.func25 (by kernel_rfl) (by kernel_rfl) (by kernel_rfl) (by kernel_rfl) -- pub-kmsg/spec.Uvarint
theorem hTu : FnIs Try.prog rn.fTu 10 [2] (cRTu sn rn) := fnIs_of Try.func26 (by kernel_rfl) (by kernel_rfl) (by kernel_rfl) (by kernel_rfl) -- pub-kmsg/spec.Turned
theorem hVi : FnIs Try.prog rn.fVi 6 [2] (cRVi sn rn) := fnIs_of Try.func16 (by kernel_rfl) (by kernel_rfl) (by kernel_rfl) (by kernel_rfl) -- pub-kmsg/spec.Varint
theorem hOB : FnIs Try.prog rn.fOB 13 [2] (cROB sn rn) := fnIs_of Try.func18 (by kernel_rfl) (by kernel_rfl) (by kernel_rfl) (by kernel_rfl) -- pub-kmsg/spec.OctetsBytes
theorem hHB : FnIs Try.prog rn.fHB 16 [2] (cRHB sn rn) := fnIs_of Try.func19 (by kernel_rfl) (by kernel_rfl) (by kernel_rfl) (by kernel_rfl) -- pub-kmsg/spec.HeaderBytes
theorem hRR : FnIs Try.prog rn.fRR 49 [2] (cRRR sn rn) := fnIs_of Try.func11 (by kernel_rfl) (by kernel_rfl) (by kernel_rfl) (by kernel_rfl) -- pub-kmsg/spec.RecordRest
theorem hRB : FnIs Try.prog rn.fRB 10 [2] (cRRB sn rn) := fnIs_of Try.func8 (by kernel_rfl) (by kernel_rfl) (by kernel_rfl) (by kernel_rfl) -- pub-kmsg/spec.RecordBytes
theorem hAVi : FnIs Try.prog rn.fAVi 14 [4] (cRAVi sn rn) := fnIs_of Try.func20 (by kernel_rfl) (by kernel_rfl) (by kernel_rfl) (by kernel_rfl) -- pub-kmsg/pub/kmsg/inner/kbin.AppendVarint
theorem hAI8 : FnIs Try.prog rn.fAI8 10 [4] (cRAI8 sn rn) := fnIs_of Try.func21 (by kernel_rfl) (by kernel_rfl) (by kernel_rfl) (by kernel_rfl) -- pub-kmsg/pub/kmsg/inner/kbin.AppendInt8
theorem hAVl : FnIs Try.prog rn.fAVl 14 [4] (cRAVl sn rn) := fnIs_of Try.func22 (by kernel_rfl) (by kernel_rfl) (by kernel_rfl) (by kernel_rfl) -- pub-kmsg/pub/kmsg/inner/kbin.AppendVarlong
theorem hAVb : FnIs Try.prog rn.fAVb 17 [4] (cRAVb sn rn) := fnIs_of Try.func23 (by kernel_rfl) (by kernel_rfl) (by kernel_rfl) (by kernel_rfl) -- pub-kmsg/pub/kmsg/inner/kbin.AppendVarintBytes
theorem hAVs : FnIs Try.prog rn.fAVs 13 [4] (cRAVs sn rn) := fnIs_of Try.func24 (by kernel_rfl) (by kernel_rfl) (by kernel_rfl) (by kernel_rfl) -- pub-kmsg/pub/kmsg/inner/kbin.AppendVarintString
theorem hApp : FnIs Try.prog rn.fApp 98 [4] (cRApp sn rn) := fnIs_of Try.func14 (by kernel_rfl) (by kernel_rfl) (by kernel_rfl) (by kernel_rfl) -- (*pub-kmsg/pub/kmsg.Record).AppendTo
theorem hNull : FnIs Try.prog rn.fNull 9 [2] (cRNull sn rn) := fnIs_of Try.func13 (by kernel_rfl) (by kernel_rfl) (by kernel_rfl) (by kernel_rfl) -- pub-kmsg/impl.null
theorem hOwn : FnIs Try.prog rn.fOwn 5 [2] (cROwn sn rn) := fnIs_of Try.func15 (by kernel_rfl) (by kernel_rfl) (by kernel_rfl) (by kernel_rfl) -- pub-kmsg/impl.own
theorem hMk : FnIs Try.prog rn.fMk 51 [4] (cRMk sn rn) := fnIs_of Try.func7 (by kernel_rfl) (by kernel_rfl) (by kernel_rfl) (by kernel_rfl) -- pub-kmsg/impl.MakeRecord
theorem hZ8 : FnIs Try.prog rn.fZ8 7 [2] (cRZ8 sn rn) := fnIs_of Try.func9 (by kernel_rfl) (by kernel_rfl) (by kernel_rfl) (by kernel_rfl) -- pub-kmsg/laws.zzFits8
theorem hZ7 : FnIs Try.prog rn.fZ7 11 [2] (cRZ7 sn rn) := fnIs_of Try.func17 (by kernel_rfl) (by kernel_rfl) (by kernel_rfl) (by kernel_rfl) -- pub-kmsg/laws.zzFits7
theorem hZ10 : FnIs Try.prog rn.fZ10 18 [2] (cRZ10 sn rn) := fnIs_of Try.func10 (by kernel_rfl) (by kernel_rfl) (by kernel_rfl) (by kernel_rfl) -- pub-kmsg/laws.zzFits10
theorem hZ9 : FnIs Try.prog rn.fZ9 15 [2] (cRZ9 sn rn) := fnIs_of Try.func4 (by kernel_rfl) (by kernel_rfl) (by kernel_rfl) (by kernel_rfl) -- pub-kmsg/laws.zzFits9
theorem hLit : FnIs Try.prog rn.fLit 13 [2] (cRLit sn rn) := fnIs_of Try.func5 (by kernel_rfl) (by kernel_rfl) (by kernel_rfl) (by kernel_rfl) -- pub-kmsg/laws.little
theorem hBeh : FnIs Try.prog rn.fBeh 14 [6] (cRBeh sn rn) := fnIs_of Try.func6 (by kernel_rfl) (by kernel_rfl) (by kernel_rfl) (by kernel_rfl) -- pub-kmsg/laws.behind
theorem hSm : FnIs Try.prog sn.fSame 26 [4] (cSame sn.tSl sn.tU8 sn.tInt) := fnIs_of Try.func12 (by kernel_rfl) (by kernel_rfl) (by kernel_rfl) (by kernel_rfl) -- pub-kmsg/spec.Same
theorem fnL : FnIs Try.prog 3 30 [4] (cRLaw sn rn) := fnIs_of Try.func3 (by kernel_rfl) (by kernel_rfl) (by kernel_rfl) (by kernel_rfl) -- pub-kmsg/laws.FnMakeRecord
theorem wt : WT0 Try.prog kn where
  mixed := mixed
  oct := octR_ok (by kernel_rfl) (by kernel_rfl)
  dU8 := by kernel_rfl
  dInt := by kernel_rfl
  dStr := by kernel_rfl
theorem r0 : Ref0 Try.prog sn rn where
  mixed := mixed
  dInt := by kernel_rfl
  dI64 := by kernel_rfl
  dU8 := by kernel_rfl
  dU32 := by kernel_rfl
  dU64 := by kernel_rfl
  dI32 := by kernel_rfl
  dI8 := by kernel_rfl
  dStr := by kernel_rfl
  oct := octR_ok (by kernel_rfl) (by kernel_rfl)
  dHs := by kernel_rfl
  dKHs := by kernel_rfl
  vB := varB_ok (by kernel_rfl)
  vSl := varB_ok (by kernel_rfl)
  vI64 := varB_ok (by kernel_rfl)
  vI32 := varB_ok (by kernel_rfl)
  vI8 := varB_ok (by kernel_rfl)
  vStr := varB_ok (by kernel_rfl)
  vHs := varB_ok (by kernel_rfl)
  vKHs := varB_ok (by kernel_rfl)
  vOc := varB_ok (by kernel_rfl)
  vH := varB_ok (by kernel_rfl)
  vR := varB_ok (by kernel_rfl)
  o0 := fldB_ok (by kernel_rfl)
  o1 := fldB_ok (by kernel_rfl)
  h0 := fldB_ok (by kernel_rfl)
  h1 := fldB_ok (by kernel_rfl)
  r0 := fldB_ok (by kernel_rfl)
  r1 := fldB_ok (by kernel_rfl)
  r2 := fldB_ok (by kernel_rfl)
  r3 := fldB_ok (by kernel_rfl)
  r4 := fldB_ok (by kernel_rfl)
  r5 := fldB_ok (by kernel_rfl)
  r6 := fldB_ok (by kernel_rfl)
  k0 := fldB_ok (by kernel_rfl)
  k1 := fldB_ok (by kernel_rfl)
  k2 := fldB_ok (by kernel_rfl)
  k3 := fldB_ok (by kernel_rfl)
  k4 := fldB_ok (by kernel_rfl)
  k5 := fldB_ok (by kernel_rfl)
  k6 := fldB_ok (by kernel_rfl)
  k7 := fldB_ok (by kernel_rfl)
  q0 := fldB_ok (by kernel_rfl)
  q1 := fldB_ok (by kernel_rfl)
  sKH := fun w => by kernel_rfl
  iKH := iKH_ok (by kernel_rfl)
  bKR := fun p q r s m1 m2 n1 c1 n2 c2 w => by kernel_rfl
  bKH := fun s m n c w => by kernel_rfl
  bSH := fun s m n c w => by kernel_rfl
  zH := fun w => by kernel_rfl
theorem rt : RecT Try.prog sn rn where
  cSl := by kernel_rfl
  cB := by kernel_rfl
  cI64 := by kernel_rfl
  c8 := by kernel_rfl
  cI32 := by kernel_rfl
  cI8 := by kernel_rfl
  cStr := by kernel_rfl
  cHs := by kernel_rfl
  cOc := by kernel_rfl
  cH := by kernel_rfl
  cR := by kernel_rfl
  dB := by kernel_rfl
  nOc := by kernel_rfl
  nH := by kernel_rfl
  nR := by kernel_rfl
theorem recC : RecC Try.prog sn rn := recC_of r0 wt rfl rfl (by kernel_rfl) (by kernel_rfl) g2 (of_decide_eq_true (by kernel_rfl)) g1 (of_decide_eq_true (by kernel_rfl)) g0 (of_decide_eq_true (by kernel_rfl)) (of_decide_eq_true (by kernel_rfl)) k2 (of_decide_eq_true (by kernel_rfl)) k1 (of_decide_eq_true (by kernel_rfl)) k0 (of_decide_eq_true (by kernel_rfl)) (of_decide_eq_true (by kernel_rfl)) hTu hUv hVi hOB hHB hRR hRB hAVi hAI8 hAVl hAVb hAVs hApp hNull hOwn hMk hZ8 hZ7 hZ10 hZ9 hLit hBeh (varB_ok (by kernel_rfl)) hSm (of_decide_eq_true (by kernel_rfl))
theorem law {dv : Value} {dst : Bs} {cs : List Value} {x : Rec} {W : World} (hd : OcRp W dv dst) (hx : RecAt W cs x) : Calls Try.prog 3 [dv, .agg cs.toArray].toArray W (TrueC W) := law_calls recC fnL hx hd
end Go.Proofs.Ytlnmiphokmhajaa.Kx
