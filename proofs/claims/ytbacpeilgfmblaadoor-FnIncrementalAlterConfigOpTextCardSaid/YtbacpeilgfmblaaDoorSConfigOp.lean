/-
  FnIncrementalAlterConfigOpText: the numbers of the program, the code of its functions, and the law out of them.
-/
import Derived.Test.YtbacpeilgfmblaaDoorChecked
import Derived.Test.YtbacpeilgfmblaaDoorK1
import Derived.Test.YtbacpeilgfmblaaDoorK2
import Derived.Test.YtbacpeilgfmblaaDoorK3
import Derived.Test.YtbacpeilgfmblaaDoorK4
import Derived.Test.YtbacpeilgfmblaaDoorK5
import Derived.Test.YtbacpeilgfmblaaDoorK6
import Derived.Test.YtbacpeilgfmblaaDoorK7
import Derived.Test.YtbacpeilgfmblaaDoorK8
import Derived.Test.YtbacpeilgfmblaaDoorSh
import Derived.KernelRfl
namespace Go.Proofs.YtbacpeilgfmblaaDoor.Kx
open Go Go.Proofs
set_option maxRecDepth 100000
def cn : CN := { tStr := 9, tInt := 3, tB := 4, tSl := 27, tU8 := 5, tI8 := 22, tOp := 40, tErr := 38, tNs := 25, tNm := 36, fNs := 5, fWd := 4, fTx := 6, fSt := 7, fPs := 8, fOf := 9, fKs := 11, fKm := 10, fKp := 12, fKu := 13, fNo := 14, fRe := 16, fIx := 19, fTr := 17, fLo := 18, fEr := 15 }
theorem hNs : FnIs Tryd.prog cn.fNs 6 [0] (cONs cn) := fnIs_of Tryd.func5 (by kernel_rfl) (by kernel_rfl) (by kernel_rfl) (by kernel_rfl) -- pub-kmsg/spec.IncrementalAlterConfigOp
theorem hWd : FnIs Tryd.prog cn.fWd 21 [4, 5] (cOWd cn) := fnIs_of Tryd.func4 (by kernel_rfl) (by kernel_rfl) (by kernel_rfl) (by kernel_rfl) -- pub-kmsg/spec.Word
theorem hTx : FnIs Tryd.prog cn.fTx 15 [2, 3] (cOTx cn) := fnIs_of Tryd.func6 (by kernel_rfl) (by kernel_rfl) (by kernel_rfl) (by kernel_rfl) -- pub-kmsg/impl.IncrementalAlterConfigOpText
theorem hSt : FnIs Tryd.prog cn.fSt 5 [2] (cOSt cn) := fnIs_of Tryd.func7 (by kernel_rfl) (by kernel_rfl) (by kernel_rfl) (by kernel_rfl) -- pub-kmsg/impl.IncrementalAlterConfigOpString
theorem hPs : FnIs Tryd.prog cn.fPs 15 [2, 3] (cOPs cn) := fnIs_of Tryd.func8 (by kernel_rfl) (by kernel_rfl) (by kernel_rfl) (by kernel_rfl) -- pub-kmsg/impl.ParseIncrementalAlterConfigOp
theorem hOf : FnIs Tryd.prog cn.fOf 13 [2, 3] (cOOf cn) := fnIs_of Tryd.func9 (by kernel_rfl) (by kernel_rfl) (by kernel_rfl) (by kernel_rfl) -- pub-kmsg/impl.IncrementalAlterConfigOpOfText
theorem hKs : FnIs Tryd.prog cn.fKs 12 [2] (cOKs cn) := fnIs_of Tryd.func11 (by kernel_rfl) (by kernel_rfl) (by kernel_rfl) (by kernel_rfl) -- (pub-kmsg/pub/kmsg.IncrementalAlterConfigOp).String
theorem hKm : FnIs Tryd.prog cn.fKm 7 [2, 3] (cOKm cn) := fnIs_of Tryd.func10 (by kernel_rfl) (by kernel_rfl) (by kernel_rfl) (by kernel_rfl) -- (pub-kmsg/pub/kmsg.IncrementalAlterConfigOp).MarshalText
theorem hKp : FnIs Tryd.prog cn.fKp 15 [2, 3] (cOKp cn) := fnIs_of Tryd.func12 (by kernel_rfl) (by kernel_rfl) (by kernel_rfl) (by kernel_rfl) -- pub-kmsg/pub/kmsg.ParseIncrementalAlterConfigOp
theorem hKu : FnIs Tryd.prog cn.fKu 17 [4] (cOKu cn) := fnIs_of Tryd.func13 (by kernel_rfl) (by kernel_rfl) (by kernel_rfl) (by kernel_rfl) -- (*pub-kmsg/pub/kmsg.IncrementalAlterConfigOp).UnmarshalText
theorem hNo : FnIs Tryd.prog cn.fNo 14 [2] (cONo cn) := fnIs_of Tryd.func14 (by kernel_rfl) (by kernel_rfl) (by kernel_rfl) (by kernel_rfl) -- pub-kmsg/pub/kmsg.strnorm
theorem hRe : FnIs Tryd.prog cn.fRe 67 [6] (cORe cn) := fnIs_of Tryd.func16 (by kernel_rfl) (by kernel_rfl) (by kernel_rfl) (by kernel_rfl) -- pub-kmsg/pub/kmsg.zzReplaceAll
theorem hIx : FnIs Tryd.prog cn.fIx 25 [4] (cOIx cn) := fnIs_of Tryd.func19 (by kernel_rfl) (by kernel_rfl) (by kernel_rfl) (by kernel_rfl) -- pub-kmsg/pub/kmsg.zzIndex
theorem fnL : FnIs Tryd.prog 3 65 [2] (cOLaw cn) := fnIs_of Tryd.func3 (by kernel_rfl) (by kernel_rfl) (by kernel_rfl) (by kernel_rfl) -- pub-kmsg/laws.FnIncrementalAlterConfigOpText
theorem tab : CnT Tryd.prog cn where
  mixed := by kernel_rfl
  dInt := by kernel_rfl
  dI8 := by kernel_rfl
  dOp := by kernel_rfl
  dU8 := by kernel_rfl
  dStr := by kernel_rfl
  dNs := by kernel_rfl
  oct := octW_ok (by kernel_rfl) (by kernel_rfl)
  vNm := varB_ok (by kernel_rfl)
  vOp := varB_ok (by kernel_rfl)
  n0 := fldB_ok (by kernel_rfl)
  n1 := fldB_ok (by kernel_rfl)
  zNm := fun w => by kernel_rfl
  zOp := fun w => by kernel_rfl
  bNm := fun k s w => by kernel_rfl
  bNs := fun s0 s1 s2 s3 w => by kernel_rfl
  nilEq := fun w => by kernel_rfl
  nilNe := fun w => by kernel_rfl
theorem libC {W0 : World} (htab : Lib.TabIs Tryd.prog W0 "strings.asciiSpace" .u8 Lib.asciiSpaceTab) : LibC Tryd.prog cn W0 where
  trE := enters_of Tryd.func17 (by kernel_rfl) rfl
  tr := fun i W hi hk => by
    have ht : Lib.TabIs Tryd.prog W "strings.asciiSpace" .u8 Lib.asciiSpaceTab := Go.Joins.tab_stays (g := 0) (by kernel_rfl) htab ⟨hk.os, hk.tape, hk.output, hk.size, fun k hk2 => hk.block k hk2 id⟩ (Nat.le_refl _)
    refine (Tryd.strings_TrimSpace ⟨(wd i).toArray⟩ W (wd_size hi) (wd_ascii hi) ht).mono fun e w ⟨h1, h2⟩ => ?_
    subst h2
    refine ⟨?_, bytesW_keeps _ _ _⟩
    rw [h1]
    exact congrArg (fun l => Ending.returned (strV l)) (wd_trim hi)
  loE := enters_of Tryd.func18 (by kernel_rfl) rfl
  lo := fun i W hi _ => by
    refine (Tryd.strings_ToLower_ascii ⟨(wd i).toArray⟩ W (wd_size2 hi) (wd_ascii hi)).mono fun e w ⟨h1, h2⟩ => ?_
    refine ⟨?_, ⟨h2.os, h2.tape, h2.output, h2.size, fun k hk _ => h2.block k hk⟩⟩
    rw [h1]
    exact congrArg (fun l => Ending.returned (strV l)) (wd_low hi)
theorem law {W : World} (htab : Lib.TabIs Tryd.prog W "strings.asciiSpace" .u8 Lib.asciiSpaceTab) {x : Int} (hx : -128 ≤ x ∧ x < 128) : Calls Tryd.prog 3 [.int .i8 x].toArray W fun e w => e = .returned (.bool true) ∧ Keeps (fun _ => False) W w :=
  words_calls (wordC_of tab (libC htab) hNs hWd hTx hSt hPs hOf hKs hKm hKp hKu hNo hRe hIx) fnL hx
end Go.Proofs.YtbacpeilgfmblaaDoor.Kx
