/-
  FnAnySASLHandshakeRequest: the numbers of the program, the code of its functions, and the law out of them.
-/
import Derived.Test.YthbkpckkfhejbaaDoorChecked
import Derived.Test.YthbkpckkfhejbaaDoorK5
import Derived.KernelRfl
namespace Go.Proofs.YthbkpckkfhejbaaDoor.Kx
open Go Go.Proofs
set_option maxRecDepth 100000
def numbers : G := { rd := fun | .bool => 999999 | .i8 => 999999 | .i16 => 20 | .u16 => 999999 | .i32 => 999999 | .i64 => 999999 | .uuid => 999999 | .str => 17 | .cstr => 999999 | .nstr => 999999 | .cnstr => 999999 | .bytes => 999999 | .cbytes => 999999 | .nbytes => 999999 | .cnbytes => 999999, un := fun | .str => 16 | .cstr => 999999 | .nstr => 999999 | .cnstr => 999999 | _ => 999999, len := 999999, clen := 999999, ok := 999999, complete := 18, uv := 999999, span := 22, tags := 999999, set := 999999, tR := 43, tUuid := 999999, tVer := 29, tI8 := 999999, tI32 := 21, tU32 := 62, tInt := 3, tBool := 4, tErr := 35, tTags := 999999, tSl := 22, tStr := 9, gErr := 0 }
def numbersW : GW := { ap := fun | .bool => 999999 | .i8 => 999999 | .i16 => 19 | .u16 => 23 | .i32 => 999999 | .i64 => 999999 | .uuid => 999999 | .str => 15 | .cstr => 999999 | .nstr => 999999 | .cnstr => 999999 | .bytes => 999999 | .cbytes => 999999 | .nbytes => 999999 | .cnbytes => 999999, alen := 999999, calen := 999999, nalen := 999999, cnalen := 999999, uv := 999999, tlen := 999999, teach := 999999, tVer := 29, tInt := 3, tU32 := 62, tSl := 22, tUuid := 999999 }
def kn : Kn := { tRS := 43, tSl := 22, tB := 4, tInt := 3, tU8 := 5, tI8 := 999999, tI16 := 29, tU16 := 51, tI32 := 21, tU32 := 62, tI64 := 2, tU64 := 999999, tStr := 9, tUuid := 999999, tBE := 53, tErr := 35, gBE := 1, gErr := 0, fU16 := 24, fU32 := 999999, fU64 := 999999, fUv := 999999, fR64 := 999999 }
def fsSASLHandshakeRequest : Fds := (.cons 0 none none (0) 1 (.str none) .nil)
def nmSASLHandshakeRequest : Nm := (.mk [] [(.mk [10, 39, 1, 9] [])])
def nwSASLHandshakeRequest : List Nm := [(.mk [6, 39, 1, 9] [])]
theorem fn20 : FnIs Tryd.prog 20 32 [2] (cI16 kn) := fnIs_of Tryd.func20 (by kernel_rfl) (by kernel_rfl) (by kernel_rfl) (by kernel_rfl) -- (*pub-kmsg/pub/kmsg/inner/kbin.Reader).Int16
theorem fn18 : FnIs Tryd.prog 18 8 [2] (cComplete kn) := fnIs_of Tryd.func18 (by kernel_rfl) (by kernel_rfl) (by kernel_rfl) (by kernel_rfl) -- (*pub-kmsg/pub/kmsg/inner/kbin.Reader).Complete
theorem fn22 : FnIs Tryd.prog 22 40 [4] (cSpan kn) := fnIs_of Tryd.func22 (by kernel_rfl) (by kernel_rfl) (by kernel_rfl) (by kernel_rfl) -- (*pub-kmsg/pub/kmsg/inner/kbin.Reader).Span
theorem fn17 : FnIs Tryd.prog 17 11 [2] (cStr numbers kn) := fnIs_of Tryd.func17 (by kernel_rfl) (by kernel_rfl) (by kernel_rfl) (by kernel_rfl) -- (*pub-kmsg/pub/kmsg/inner/kbin.Reader).String
theorem fn24 : FnIs Tryd.prog 24 18 [4] (gBig kn kn.tU16 .u16 2) := fnIs_of Tryd.func24 (by kernel_rfl) (by kernel_rfl) (by kernel_rfl) (by kernel_rfl) -- (encoding/binary.bigEndian).Uint16
theorem fn23 : FnIs Tryd.prog 23 13 [4] (cAU16 kn) := fnIs_of Tryd.func23 (by kernel_rfl) (by kernel_rfl) (by kernel_rfl) (by kernel_rfl) -- pub-kmsg/pub/kmsg/inner/kbin.AppendUint16
theorem fn19 : FnIs Tryd.prog 19 9 [4] (cACv kn.tI16 kn.tU16 23) := fnIs_of Tryd.func19 (by kernel_rfl) (by kernel_rfl) (by kernel_rfl) (by kernel_rfl) -- pub-kmsg/pub/kmsg/inner/kbin.AppendInt16
theorem fn15 : FnIs Tryd.prog 15 13 [4] (cAStr kn kn.tStr kn.tI16 19) := fnIs_of Tryd.func15 (by kernel_rfl) (by kernel_rfl) (by kernel_rfl) (by kernel_rfl) -- pub-kmsg/pub/kmsg/inner/kbin.AppendString
theorem fn8 : FnIs Tryd.prog 8 3 [0] (cNewPtr 39 13) := fnIs_of Tryd.func8 (by kernel_rfl) (by kernel_rfl) (by kernel_rfl) (by kernel_rfl) -- pub-kmsg/pub/kmsg.NewPtrSASLHandshakeRequest
theorem fn10 : FnIs Tryd.prog 10 8 [] (cSetV 39 29) := fnIs_of Tryd.func10 (by kernel_rfl) (by kernel_rfl) (by kernel_rfl) (by kernel_rfl) -- (*pub-kmsg/pub/kmsg.SASLHandshakeRequest).SetVersion
theorem fn11 : FnIs Tryd.prog 11 8 [4] (cRdF 14) := fnIs_of Tryd.func11 (by kernel_rfl) (by kernel_rfl) (by kernel_rfl) (by kernel_rfl) -- (*pub-kmsg/pub/kmsg.SASLHandshakeRequest).ReadFrom
theorem fn4 : FnIs Tryd.prog 4 4 [0] (cMax 29 3 8 9) := fnIs_of Tryd.func4 (by kernel_rfl) (by kernel_rfl) (by kernel_rfl) (by kernel_rfl) -- pub-kmsg/impl.MaxSASLHandshakeRequest
theorem fn9 : FnIs Tryd.prog 9 3 [2] (cMaxV 1) := fnIs_of Tryd.func9 (by kernel_rfl) (by kernel_rfl) (by kernel_rfl) (by kernel_rfl) -- (*pub-kmsg/pub/kmsg.SASLHandshakeRequest).MaxVersion
theorem fn5 : FnIs Tryd.prog 5 19 [4, 5] (cAgain 29 3 22 35 8 10 11 12) := fnIs_of Tryd.func5 (by kernel_rfl) (by kernel_rfl) (by kernel_rfl) (by kernel_rfl) -- pub-kmsg/impl.AgainSASLHandshakeRequest
theorem fn3 : FnIs Tryd.prog 3 43 [4] (cAny 22 3 4 4 6 5 7) := fnIs_of Tryd.func3 (by kernel_rfl) (by kernel_rfl) (by kernel_rfl) (by kernel_rfl) -- pub-kmsg/laws.FnAnySASLHandshakeRequest
theorem fn6 : FnIs Tryd.prog 6 10 [4] (cVer 5 3) := fnIs_of Tryd.func6 (by kernel_rfl) (by kernel_rfl) (by kernel_rfl) (by kernel_rfl) -- pub-kmsg/laws.version
theorem fn7 : FnIs Tryd.prog 7 26 [4] (cSame 22 5 3) := fnIs_of Tryd.func7 (by kernel_rfl) (by kernel_rfl) (by kernel_rfl) (by kernel_rfl) -- pub-kmsg/spec.Same
theorem fn14 : FnIs Tryd.prog 14 29 [6] (gRead numbers false false ⟨false, 7, 9, 8, 0⟩ fsSASLHandshakeRequest 13 39 0 0 11 nmSASLHandshakeRequest) := fnIs_of Tryd.func14 (by kernel_rfl) (by kernel_rfl) (by kernel_rfl) (by kernel_rfl) -- (*pub-kmsg/pub/kmsg.SASLHandshakeRequest).readFrom
theorem fn12 : FnIs Tryd.prog 12 20 [4] (gWrite numbersW false ⟨false, 0, 0, 5, 0⟩ fsSASLHandshakeRequest 39 0 0 0 7 nwSASLHandshakeRequest) := fnIs_of Tryd.func12 (by kernel_rfl) (by kernel_rfl) (by kernel_rfl) (by kernel_rfl) -- (*pub-kmsg/pub/kmsg.SASLHandshakeRequest).AppendTo
def di13 : List DI := []
theorem fn13 : FnIs Tryd.prog 13 2 [] (gDflt di13 2) := fnIs_of Tryd.func13 (by kernel_rfl) (by kernel_rfl) (by kernel_rfl) (by kernel_rfl) -- (*pub-kmsg/pub/kmsg.SASLHandshakeRequest).Default
noncomputable def dw13 : List (Nat × Value) := (dRun Tryd.prog 2 di13 [(0, 0)]).getD []
theorem df13 : Ent Tryd.prog 13 ∧ DfC Tryd.prog 13 dw13 := dfC_of (n0 := 2) (items := di13) (by kernel_rfl) fn13 (by kernel_rfl) (of_decide_eq_true (by kernel_rfl)) (by omega)
noncomputable def dd : Nat → Option (List (Nat × Value))
  | 13 => some dw13
  | _ => none
theorem ddOk : ∀ f wr, dd f = some wr → Ent Tryd.prog f ∧ DfC Tryd.prog f wr := by
  intro f wr h
  unfold dd at h
  split at h
  · obtain rfl := Option.some.inj h; exact df13
  · cases h
theorem mixed : Tryd.prog.follows .mixedOrders = true := by kernel_rfl
theorem kt : KT Tryd.prog numbers kn where
  mixed := mixed
  f0 := fldB_ok (by kernel_rfl)
  f1 := fldB_ok (by kernel_rfl)
  sl := by kernel_rfl
  u8 := varB_ok (by kernel_rfl)
  dU8 := by kernel_rfl
  dI8 := fun h => absurd h (by decide)
  dI16 := by kernel_rfl
  dI32 := by kernel_rfl
  dU32 := by kernel_rfl
  dInt := by kernel_rfl
theorem kbig : KBig Tryd.prog kn where
  be := varB_ok (by kernel_rfl)
  d16 := by kernel_rfl
  d64 := fun h => absurd h (by decide)
  dI64 := fun h => absurd h (by decide)
  f16 := fun _ => fn24
  f32 := fun h => absurd h (by decide)
  f64 := fun h => absurd h (by decide)
theorem ksub : KSub Tryd.prog numbers kn kn.tRS where
  e16 := fun _ => fn20.ent
  c16 := fun _ w S R r hR hRS => (i16_calls kt kbig rfl fn20 (by omega) hR hRS).mono fun e w' h => (fun h => ⟨h.1, h.2.1, h.2.2.1⟩) (rdOk_int (p := .i16) (.inr (.inl ⟨rfl, rfl⟩)) rfl h)
  e32 := fun h => absurd h (by decide)
  c32 := fun h => absurd h (by decide)
  eU := fun h => absurd h (by decide)
  cU := fun h => absurd h (by decide)
  eS := fun _ => fn22.ent
  cS := fun _ w S R r k hR hRS => span_calls kt fn22 (by omega) hR hRS
  dStr := by kernel_rfl
  vStr := varB_ok (by kernel_rfl)
  zStr := zeroOf_ok (by kernel_rfl)
def av : PF → Bool
  | .i16 => true
  | .str => true
  | _ => false
theorem rdAll : ∀ p, av p = true → RdOk Tryd.prog numbers.tR p (numbers.rd p) := by
  intro p h
  cases p
  · cases h
  · cases h
  · exact rdOk_i16 kt kbig rfl fn20 (by omega)
  · cases h
  · cases h
  · cases h
  · cases h
  · exact rdOk_str kt ksub rfl rfl fn17 (by omega)
  · cases h
  · cases h
  · cases h
  · cases h
  · cases h
  · cases h
  · cases h
theorem kb : KB Tryd.prog numbers av false where
  mixed := mixed
  rdE p h := (rdAll p h).1
  rdC p h := (rdAll p h).2
  i8C := fun h => absurd h (by decide)
  okE := fun h => absurd h (by decide)
  okC := fun h => absurd h (by decide)
  cmE := fn18.ent
  cmC w S R r hR he := complete_calls kt fn18 (by omega) (varB_ok (by kernel_rfl)) hR he
  lenE := fun h => absurd h (by decide)
  lenC := fun h => absurd h (by decide)
  clenE := fun h => absurd h (by decide)
  clenC := fun h => absurd h (by decide)
  uvE := fun h => absurd h (by decide)
  uvC := fun h => absurd h (by decide)
  spanE := fun h => absurd h (by decide)
  spanC := fun h => absurd h (by decide)
  tagsE := fun h => absurd h (by decide)
  tagsC := fun h => absurd h (by decide)
  setE := fun h => absurd h (by decide)
  setC := fun h => absurd h (by decide)
  fR := twoB_ok (by kernel_rfl)
  zR := zeroOf_ok (by kernel_rfl)
  vR := varB_ok (by kernel_rfl)
  uuid := fun h => absurd h (by decide)
  tI32 := by kernel_rfl
  tU32 := fun h => absurd h (by decide)
  tInt := by kernel_rfl
  vStr := ⟨varB_ok (by kernel_rfl), zeroOf_ok (by kernel_rfl)⟩
  vTags := fun h => absurd h (by decide)
  tErr := fun h => absurd h (by decide)
theorem env : Env Tryd.prog numbers av false dd := ⟨kb, ddOk⟩
theorem oct : OctT Tryd.prog kn.tSl kn.tU8 := octB_ok (by kernel_rfl)
theorem wt : WT Tryd.prog kn where
  mixed := mixed
  oct := oct
  dU8 := by kernel_rfl
  dI8 := fun h => absurd h (by decide)
  dI16 := by kernel_rfl
  dU16 := by kernel_rfl
  dI32 := by kernel_rfl
  dU32 := by kernel_rfl
  dInt := by kernel_rfl
  dI64 := fun _ => by kernel_rfl
  dU64 := fun h => absurd h (by decide)
  dStr := by kernel_rfl
  vStr := varB_ok (by kernel_rfl)
theorem i16C (x : Int) (w : World) : ApC Tryd.prog kn.tU8 19 (.int .i16 x) (be 2 x) w := ap_i16 wt fn23 (by omega) fn19 (by omega) x w
def avw : PF → Bool
  | .i16 => true
  | .u16 => true
  | .str => true
  | _ => false
theorem apAll : ∀ p, avw p = true → AppOk Tryd.prog kn.tU8 p (numbersW.ap p) := by
  intro p h
  cases p
  · cases h
  · cases h
  · exact app_i16 wt fn23 (by omega) fn19 (by omega)
  · exact app_u16 wt fn23 (by omega)
  · cases h
  · cases h
  · cases h
  · exact app_str wt (app_i16 wt fn23 (by omega) fn19 (by omega)) i16C fn15 (by omega)
  · cases h
  · cases h
  · cases h
  · cases h
  · cases h
  · cases h
  · cases h
theorem kw : KW Tryd.prog numbersW avw false false kn.tU8 where
  mixed := mixed
  oct := oct
  dInt := by kernel_rfl
  dU32 := fun h => absurd h (by decide)
  apE p h := (apAll p h).1
  apC p h := (apAll p h).2
  alE := fun h => absurd h (by decide)
  alC := fun h => absurd h (by decide)
  clE := fun h => absurd h (by decide)
  clC := fun h => absurd h (by decide)
  nlE := fun h => absurd h (by decide)
  nlC := fun h => absurd h (by decide)
  cnE := fun h => absurd h (by decide)
  cnC := fun h => absurd h (by decide)
  uvE := fun h => absurd h (by decide)
  uvC := fun h => absurd h (by decide)
  tlE := fun h => absurd h (by decide)
  tlC := fun h => absurd h (by decide)
  teE := fun h => absurd h (by decide)
  teC := fun h => absurd h (by decide)
  uuid := fun h => absurd h (by decide)
noncomputable def zv : Value := (zeroOf Tryd.prog 39).getD undef
noncomputable def zz : Array Value := applyWr zv.cells 0 dw13
theorem msg : MsgC Tryd.prog numbers.gErr kn.tU8 false false 0 fsSASLHandshakeRequest (none) 39 zz 8 10 11 12 :=
  msgC_of (cx := ⟨false, 7, 9, 8, 0⟩) (cw := ⟨false, 0, 0, 5, 0⟩) (nm := nmSASLHandshakeRequest) (ms := nwSASLHandshakeRequest) (tI16 := 29) env kw (by decide) (by decide) rfl rfl fn8 (by omega) fn10 (by omega) fn11 (by omega) fn14 (by omega) fn12 (by kernel_rfl) (by kernel_rfl) rfl (of_decide_eq_true (by kernel_rfl)) (by kernel_rfl) (by kernel_rfl) rfl (by kernel_rfl) (by kernel_rfl)
theorem law {w : World} {x0 : Nat} {srcv : Value} {l : Bs} (hx : x0 < 256) (hsrc : SlRp w (fun _ => False) srcv l) (herr : ErrAt numbers.gErr w) : Calls Tryd.prog 3 #[.int .u8 x0, srcv] w fun e w' => e = .returned (.bool true) ∧ Keeps (fun _ => False) w w' :=
  any_law (most := 1) (tErr := 35) mixed msg oct (varB_ok (by kernel_rfl)) (by kernel_rfl) (by kernel_rfl) (by kernel_rfl) (ifaceB_ok (by kernel_rfl)) fn5 (by omega) fn6 (by omega) fn7 (by omega) fn4 (by omega) fn9 (by omega) (by omega) fn3 (by omega) (by kernel_rfl) hx hsrc herr
end Go.Proofs.YthbkpckkfhejbaaDoor.Kx
