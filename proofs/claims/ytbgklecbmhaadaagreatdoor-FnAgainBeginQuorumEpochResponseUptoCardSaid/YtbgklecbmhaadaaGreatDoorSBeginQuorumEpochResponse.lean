/-
  FnAgainBeginQuorumEpochResponse: the numbers of the program, the code of its functions, and the law out of them.
-/
import Derived.Test.YtbgklecbmhaadaaGreatDoorChecked
import Derived.Test.YtbgklecbmhaadaaGreatDoorK1
import Derived.Test.YtbgklecbmhaadaaGreatDoorK2
import Derived.Test.YtbgklecbmhaadaaGreatDoorK3
import Derived.Test.YtbgklecbmhaadaaGreatDoorK4
import Derived.Test.YtbgklecbmhaadaaGreatDoorK5
import Derived.Test.YtbgklecbmhaadaaGreatDoorK6
import Derived.Test.YtbgklecbmhaadaaGreatDoorK7
import Derived.Test.YtbgklecbmhaadaaGreatDoorK8
import Derived.Test.YtbgklecbmhaadaaGreatDoorK9
import Derived.Test.YtbgklecbmhaadaaGreatDoorK10
import Derived.Test.YtbgklecbmhaadaaGreatDoorK11
import Derived.Test.YtbgklecbmhaadaaGreatDoorK12
import Derived.Test.YtbgklecbmhaadaaGreatDoorK13
import Derived.Test.YtbgklecbmhaadaaGreatDoorK14
import Derived.Test.YtbgklecbmhaadaaGreatDoorK15
import Derived.Test.YtbgklecbmhaadaaGreatDoorK16
import Derived.Test.YtbgklecbmhaadaaGreatDoorK17
import Derived.Test.YtbgklecbmhaadaaGreatDoorK18
import Derived.KernelRfl
import Derived.Test.YtbgklecbmhaadaaGreatDoorSh
namespace Go.Proofs.YtbgklecbmhaadaaGreatDoor.Kx
open Go Go.Proofs
set_option maxRecDepth 100000
def numbers : G := { rd := fun | .bool => 999999 | .i8 => 999999 | .i16 => 64 | .u16 => 85 | .i32 => 63 | .i64 => 999999 | .uuid => 999999 | .str => 71 | .cstr => 70 | .nstr => 999999 | .cnstr => 999999 | .bytes => 999999 | .cbytes => 999999 | .nbytes => 999999 | .cnbytes => 999999, un := fun | .str => 69 | .cstr => 68 | .nstr => 999999 | .cnstr => 999999 | _ => 999999, len := 80, clen := 79, ok := 81, complete := 73, uv := 65, span := 67, tags := 72, set := 66, tR := 108, tUuid := 999999, tVer := 40, tI8 := 999999, tI32 := 21, tU32 := 55, tInt := 3, tBool := 4, tErr := 50, tTags := 61, tSl := 22, tStr := 9, gErr := 1 }
def numbersW : GW := { ap := fun | .bool => 999999 | .i8 => 999999 | .i16 => 42 | .u16 => 56 | .i32 => 41 | .i64 => 999999 | .uuid => 999999 | .str => 49 | .cstr => 48 | .nstr => 999999 | .cnstr => 999999 | .bytes => 999999 | .cbytes => 999999 | .nbytes => 999999 | .cnbytes => 999999, alen := 55, calen := 54, nalen := 999999, cnalen := 999999, uv := 46, tlen := 47, teach := 50, tVer := 40, tInt := 3, tU32 := 55, tSl := 22, tUuid := 999999 }
def kn : Kn := { tRS := 108, tSl := 22, tB := 4, tInt := 3, tU8 := 5, tI8 := 999999, tI16 := 40, tU16 := 95, tI32 := 21, tU32 := 55, tI64 := 2, tU64 := 72, tStr := 9, tUuid := 999999, tBE := 124, tErr := 50, gBE := 0, gErr := 1, fU16 := 87, fU32 := 86, fU64 := 999999, fUv := 88, fR64 := 999999 }
theorem mixed : Tryz.prog.follows .mixedOrders = true := by kernel_rfl
def fsBeginQuorumEpochResponse : Fds := (.cons 0 none none (0) 1 (.prim .i16) (.cons 0 none none (0) 2 (.list none 3 (.struct none (some 2) (.cons 0 none none (0) 0 (.str none) (.cons 0 none none (0) 1 (.list none 5 (.struct none (some 4) (.cons 0 none none (0) 0 (.prim .i32) (.cons 0 none none (0) 1 (.prim .i16) (.cons 0 none none (0) 2 (.prim .i32) (.cons 0 none none (0) 3 (.prim .i32) .nil)))))) .nil)))) (.cons 0 none (some 0) (0) 3 (.list none 4 (.struct none (some 3) (.cons 1 none none (0) 0 (.prim .i32) (.cons 1 none none (0) 1 (.str none) (.cons 1 none none (0) 2 (.prim .u16) .nil))))) .nil)))
def nmBeginQuorumEpochResponse : Nm := (.mk [29, 30, 4, 5, 6] [(.mk [11, 85, 1, 40] []), (.mk [12, 85, 2, 82, 13, 14, 15, 0, 1] [(.mk [16, 17, 82, 90, 2] [(.mk [] [(.mk [18, 90, 0, 9] []), (.mk [19, 90, 1, 88, 20, 21, 22, 2, 3] [(.mk [23, 24, 83, 93, 4] [(.mk [] [(.mk [25, 93, 0, 21] []), (.mk [26, 93, 1, 40] []), (.mk [27, 93, 2, 21] []), (.mk [28, 93, 3, 21] [])])])])])])]), (.mk [31, 41] [(.mk [32, 85, 3, 83, 33, 34, 35, 7, 8] [(.mk [36, 37, 84, 97, 3] [(.mk [] [(.mk [38, 97, 0, 21] []), (.mk [39, 97, 1, 9] []), (.mk [40, 97, 2, 95] [])])])])])])
def nwBeginQuorumEpochResponse : Nm := (.mk [19, 77, 21, 4, 5, 6] [(.mk [7, 85, 1, 40] []), (.mk [8, 85, 2, 82, 9, 0, 1] [(.mk [10, 90, 2] [(.mk [] [(.mk [11, 90, 0, 9] []), (.mk [12, 90, 1, 88, 13, 2, 3] [(.mk [14, 93, 4] [(.mk [] [(.mk [15, 93, 0, 21] []), (.mk [16, 93, 1, 40] []), (.mk [17, 93, 2, 21] []), (.mk [18, 93, 3, 21] [])])])])])])]), (.mk [22, 85, 3, 83, 23, 24, 0, 0, 0, 4, 0, 0, 25, 7, 8] [(.mk [26, 97, 3] [(.mk [] [(.mk [27, 97, 0, 21] []), (.mk [28, 97, 1, 9] []), (.mk [29, 97, 2, 95] [])])])])])
theorem fn64 : FnIs Tryz.prog 64 32 [2] (cI16 kn) := fnIs_of Tryz.func64 (by kernel_rfl) (by kernel_rfl) (by kernel_rfl) (by kernel_rfl) -- (*pub-kmsg/pub/kmsg/inner/kbin.Reader).Int16
theorem fn85 : FnIs Tryz.prog 85 31 [2] (cU16 kn) := fnIs_of Tryz.func85 (by kernel_rfl) (by kernel_rfl) (by kernel_rfl) (by kernel_rfl) -- (*pub-kmsg/pub/kmsg/inner/kbin.Reader).Uint16
theorem fn63 : FnIs Tryz.prog 63 32 [2] (cI32 kn) := fnIs_of Tryz.func63 (by kernel_rfl) (by kernel_rfl) (by kernel_rfl) (by kernel_rfl) -- (*pub-kmsg/pub/kmsg/inner/kbin.Reader).Int32
theorem fn88 : FnIs Tryz.prog 88 87 [2, 3] (cUvIn kn) := fnIs_of Tryz.func88 (by kernel_rfl) (by kernel_rfl) (by kernel_rfl) (by kernel_rfl) -- pub-kmsg/pub/kmsg/inner/kbin.Uvarint
theorem fn65 : FnIs Tryz.prog 65 31 [2] (cUv kn) := fnIs_of Tryz.func65 (by kernel_rfl) (by kernel_rfl) (by kernel_rfl) (by kernel_rfl) -- (*pub-kmsg/pub/kmsg/inner/kbin.Reader).Uvarint
theorem fn72 : FnIsC Tryz.prog 72 24 2 61 (cRdTags numbers kn) := fnIsC_of Tryz.func72 (by kernel_rfl) (by kernel_rfl) (by kernel_rfl) (by kernel_rfl) -- pub-kmsg/pub/kmsg.internalReadTags
theorem fn66 : FnIs Tryz.prog 66 21 [] (cSet numbers 59) := fnIs_of Tryz.func66 (by kernel_rfl) (by kernel_rfl) (by kernel_rfl) (by kernel_rfl) -- (*pub-kmsg/pub/kmsg.Tags).Set
theorem fn81 : FnIs Tryz.prog 81 8 [2] (cOk kn) := fnIs_of Tryz.func81 (by kernel_rfl) (by kernel_rfl) (by kernel_rfl) (by kernel_rfl) -- (*pub-kmsg/pub/kmsg/inner/kbin.Reader).Ok
theorem fn73 : FnIs Tryz.prog 73 8 [2] (cComplete kn) := fnIs_of Tryz.func73 (by kernel_rfl) (by kernel_rfl) (by kernel_rfl) (by kernel_rfl) -- (*pub-kmsg/pub/kmsg/inner/kbin.Reader).Complete
theorem fn67 : FnIs Tryz.prog 67 40 [4] (cSpan kn) := fnIs_of Tryz.func67 (by kernel_rfl) (by kernel_rfl) (by kernel_rfl) (by kernel_rfl) -- (*pub-kmsg/pub/kmsg/inner/kbin.Reader).Span
theorem fn71 : FnIs Tryz.prog 71 11 [2] (cStr numbers kn) := fnIs_of Tryz.func71 (by kernel_rfl) (by kernel_rfl) (by kernel_rfl) (by kernel_rfl) -- (*pub-kmsg/pub/kmsg/inner/kbin.Reader).String
theorem fn70 : FnIs Tryz.prog 70 12 [2] (cCStr numbers kn) := fnIs_of Tryz.func70 (by kernel_rfl) (by kernel_rfl) (by kernel_rfl) (by kernel_rfl) -- (*pub-kmsg/pub/kmsg/inner/kbin.Reader).CompactString
theorem fn80 : FnIs Tryz.prog 80 21 [2] (cLen numbers kn) := fnIs_of Tryz.func80 (by kernel_rfl) (by kernel_rfl) (by kernel_rfl) (by kernel_rfl) -- (*pub-kmsg/pub/kmsg/inner/kbin.Reader).ArrayLen
theorem fn79 : FnIs Tryz.prog 79 23 [2] (cCLen numbers kn) := fnIs_of Tryz.func79 (by kernel_rfl) (by kernel_rfl) (by kernel_rfl) (by kernel_rfl) -- (*pub-kmsg/pub/kmsg/inner/kbin.Reader).CompactArrayLen
theorem fn87 : FnIs Tryz.prog 87 18 [4] (gBig kn kn.tU16 .u16 2) := fnIs_of Tryz.func87 (by kernel_rfl) (by kernel_rfl) (by kernel_rfl) (by kernel_rfl) -- (encoding/binary.bigEndian).Uint16
theorem fn86 : FnIs Tryz.prog 86 30 [4] (gBig kn kn.tU32 .u32 4) := fnIs_of Tryz.func86 (by kernel_rfl) (by kernel_rfl) (by kernel_rfl) (by kernel_rfl) -- (encoding/binary.bigEndian).Uint32
theorem fn56 : FnIs Tryz.prog 56 13 [4] (cAU16 kn) := fnIs_of Tryz.func56 (by kernel_rfl) (by kernel_rfl) (by kernel_rfl) (by kernel_rfl) -- pub-kmsg/pub/kmsg/inner/kbin.AppendUint16
theorem fn74 : FnIs Tryz.prog 74 19 [4] (cAU32 kn) := fnIs_of Tryz.func74 (by kernel_rfl) (by kernel_rfl) (by kernel_rfl) (by kernel_rfl) -- pub-kmsg/pub/kmsg/inner/kbin.AppendUint32
theorem fn42 : FnIs Tryz.prog 42 9 [4] (cACv kn.tI16 kn.tU16 56) := fnIs_of Tryz.func42 (by kernel_rfl) (by kernel_rfl) (by kernel_rfl) (by kernel_rfl) -- pub-kmsg/pub/kmsg/inner/kbin.AppendInt16
theorem fn41 : FnIs Tryz.prog 41 9 [4] (cACv kn.tI32 kn.tU32 74) := fnIs_of Tryz.func41 (by kernel_rfl) (by kernel_rfl) (by kernel_rfl) (by kernel_rfl) -- pub-kmsg/pub/kmsg/inner/kbin.AppendInt32
theorem fn55 : FnIs Tryz.prog 55 9 [4] (cACv kn.tInt kn.tI32 41) := fnIs_of Tryz.func55 (by kernel_rfl) (by kernel_rfl) (by kernel_rfl) (by kernel_rfl) -- pub-kmsg/pub/kmsg/inner/kbin.AppendArrayLen
theorem fn54 : FnIs Tryz.prog 54 10 [4] (cACv1 kn 46) := fnIs_of Tryz.func54 (by kernel_rfl) (by kernel_rfl) (by kernel_rfl) (by kernel_rfl) -- pub-kmsg/pub/kmsg/inner/kbin.AppendCompactArrayLen
theorem fn49 : FnIs Tryz.prog 49 13 [4] (cAStr kn kn.tStr kn.tI16 42) := fnIs_of Tryz.func49 (by kernel_rfl) (by kernel_rfl) (by kernel_rfl) (by kernel_rfl) -- pub-kmsg/pub/kmsg/inner/kbin.AppendString
theorem fn48 : FnIs Tryz.prog 48 14 [4] (cACStr kn kn.tStr 46) := fnIs_of Tryz.func48 (by kernel_rfl) (by kernel_rfl) (by kernel_rfl) (by kernel_rfl) -- pub-kmsg/pub/kmsg/inner/kbin.AppendCompactString
theorem fn46 : FnIs Tryz.prog 46 93 [4] (cAUv kn 76) := fnIs_of Tryz.func46 (by kernel_rfl) (by kernel_rfl) (by kernel_rfl) (by kernel_rfl) -- pub-kmsg/pub/kmsg/inner/kbin.AppendUvarint
theorem fn76 : FnIs Tryz.prog 76 8 [2] (cUvLen kn 90) := fnIs_of Tryz.func76 (by kernel_rfl) (by kernel_rfl) (by kernel_rfl) (by kernel_rfl) -- pub-kmsg/pub/kmsg/inner/kbin.UvarintLen
theorem fn90 : FnIs Tryz.prog 90 19 [2] (cLen32 kn 55) := fnIs_of Tryz.func90 (by kernel_rfl) (by kernel_rfl) (by kernel_rfl) (by kernel_rfl) -- math/bits.Len32
theorem fn47 : FnIs Tryz.prog 47 8 [2] (cTLen kn 61 59) := fnIs_of Tryz.func47 (by kernel_rfl) (by kernel_rfl) (by kernel_rfl) (by kernel_rfl) -- (*pub-kmsg/pub/kmsg.Tags).Len
theorem fn16 : FnIs Tryz.prog 16 3 [0] (cNewPtr 65 31) := fnIs_of Tryz.func16 (by kernel_rfl) (by kernel_rfl) (by kernel_rfl) (by kernel_rfl) -- pub-kmsg/pub/kmsg.NewPtrUpdateRaftVoterResponse
theorem fn20 : FnIs Tryz.prog 20 8 [] (cSetV 65 40) := fnIs_of Tryz.func20 (by kernel_rfl) (by kernel_rfl) (by kernel_rfl) (by kernel_rfl) -- (*pub-kmsg/pub/kmsg.UpdateRaftVoterResponse).SetVersion
theorem fn21 : FnIs Tryz.prog 21 8 [4] (cRdF 40) := fnIs_of Tryz.func21 (by kernel_rfl) (by kernel_rfl) (by kernel_rfl) (by kernel_rfl) -- (*pub-kmsg/pub/kmsg.UpdateRaftVoterResponse).ReadFrom
theorem fn6 : FnIs Tryz.prog 6 4 [0] (cMax 40 3 16 17) := fnIs_of Tryz.func6 (by kernel_rfl) (by kernel_rfl) (by kernel_rfl) (by kernel_rfl) -- pub-kmsg/impl.MaxUpdateRaftVoterResponse
theorem fn17 : FnIs Tryz.prog 17 3 [2] (cMaxV 0) := fnIs_of Tryz.func17 (by kernel_rfl) (by kernel_rfl) (by kernel_rfl) (by kernel_rfl) -- (*pub-kmsg/pub/kmsg.UpdateRaftVoterResponse).MaxVersion
theorem fn10 : FnIs Tryz.prog 10 19 [4, 5] (cAgain 40 3 22 50 16 20 21 22) := fnIs_of Tryz.func10 (by kernel_rfl) (by kernel_rfl) (by kernel_rfl) (by kernel_rfl) -- pub-kmsg/impl.AgainUpdateRaftVoterResponse
theorem fn23 : FnIs Tryz.prog 23 3 [0] (cNewPtr 85 51) := fnIs_of Tryz.func23 (by kernel_rfl) (by kernel_rfl) (by kernel_rfl) (by kernel_rfl) -- pub-kmsg/pub/kmsg.NewPtrBeginQuorumEpochResponse
theorem fn27 : FnIs Tryz.prog 27 8 [] (cSetV 85 40) := fnIs_of Tryz.func27 (by kernel_rfl) (by kernel_rfl) (by kernel_rfl) (by kernel_rfl) -- (*pub-kmsg/pub/kmsg.BeginQuorumEpochResponse).SetVersion
theorem fn28 : FnIs Tryz.prog 28 8 [4] (cRdF 53) := fnIs_of Tryz.func28 (by kernel_rfl) (by kernel_rfl) (by kernel_rfl) (by kernel_rfl) -- (*pub-kmsg/pub/kmsg.BeginQuorumEpochResponse).ReadFrom
theorem fn12 : FnIs Tryz.prog 12 4 [0] (cMax 40 3 23 24) := fnIs_of Tryz.func12 (by kernel_rfl) (by kernel_rfl) (by kernel_rfl) (by kernel_rfl) -- pub-kmsg/impl.MaxBeginQuorumEpochResponse
theorem fn24 : FnIs Tryz.prog 24 3 [2] (cMaxV 1) := fnIs_of Tryz.func24 (by kernel_rfl) (by kernel_rfl) (by kernel_rfl) (by kernel_rfl) -- (*pub-kmsg/pub/kmsg.BeginQuorumEpochResponse).MaxVersion
theorem fn14 : FnIs Tryz.prog 14 19 [4, 5] (cAgain 40 3 22 50 23 27 28 29) := fnIs_of Tryz.func14 (by kernel_rfl) (by kernel_rfl) (by kernel_rfl) (by kernel_rfl) -- pub-kmsg/impl.AgainBeginQuorumEpochResponse
theorem fn9 : FnIs Tryz.prog 9 10 [4] (cVer 5 3) := fnIs_of Tryz.func9 (by kernel_rfl) (by kernel_rfl) (by kernel_rfl) (by kernel_rfl) -- pub-kmsg/laws.version
theorem fn11 : FnIs Tryz.prog 11 26 [4] (cSame 22 5 3) := fnIs_of Tryz.func11 (by kernel_rfl) (by kernel_rfl) (by kernel_rfl) (by kernel_rfl) -- pub-kmsg/spec.Same
theorem fn53 : FnIs Tryz.prog 53 262 [6] (gRead numbers true false ⟨true, 7, 10, 8, 9⟩ fsBeginQuorumEpochResponse 51 85 4 1 42 nmBeginQuorumEpochResponse) := fnIs_of Tryz.func53 (by kernel_rfl) (by kernel_rfl) (by kernel_rfl) (by kernel_rfl) -- (*pub-kmsg/pub/kmsg.BeginQuorumEpochResponse).readFrom
theorem fn29 : FnIs Tryz.prog 29 274 [4] (gWrite numbersW false ⟨true, 0, 0, 5, 6⟩ fsBeginQuorumEpochResponse 85 4 1 0 30 nwBeginQuorumEpochResponse) := fnIs_of Tryz.func29 (by kernel_rfl) (by kernel_rfl) (by kernel_rfl) (by kernel_rfl) -- (*pub-kmsg/pub/kmsg.BeginQuorumEpochResponse).AppendTo
def di51 : List DI := []
theorem fn51 : FnIs Tryz.prog 51 2 [] (gDflt di51 2) := fnIs_of Tryz.func51 (by kernel_rfl) (by kernel_rfl) (by kernel_rfl) (by kernel_rfl) -- (*pub-kmsg/pub/kmsg.BeginQuorumEpochResponse).Default
noncomputable def dw51 : List (Nat × Value) := (dRun Tryz.prog 2 di51 [(0, 0)]).getD []
theorem df51 : Ent Tryz.prog 51 ∧ DfC Tryz.prog 51 dw51 := dfC_of (n0 := 2) (items := di51) (by kernel_rfl) fn51 (by kernel_rfl) (of_decide_eq_true (by kernel_rfl)) (by omega)
def di82 : List DI := []
theorem fn82 : FnIs Tryz.prog 82 2 [] (gDflt di82 2) := fnIs_of Tryz.func82 (by kernel_rfl) (by kernel_rfl) (by kernel_rfl) (by kernel_rfl) -- (*pub-kmsg/pub/kmsg.BeginQuorumEpochResponseTopic).Default
noncomputable def dw82 : List (Nat × Value) := (dRun Tryz.prog 2 di82 [(0, 0)]).getD []
theorem df82 : Ent Tryz.prog 82 ∧ DfC Tryz.prog 82 dw82 := dfC_of (n0 := 2) (items := di82) (by kernel_rfl) fn82 (by kernel_rfl) (of_decide_eq_true (by kernel_rfl)) (by omega)
def di83 : List DI := []
theorem fn83 : FnIs Tryz.prog 83 2 [] (gDflt di83 2) := fnIs_of Tryz.func83 (by kernel_rfl) (by kernel_rfl) (by kernel_rfl) (by kernel_rfl) -- (*pub-kmsg/pub/kmsg.BeginQuorumEpochResponseTopicPartition).Default
noncomputable def dw83 : List (Nat × Value) := (dRun Tryz.prog 2 di83 [(0, 0)]).getD []
theorem df83 : Ent Tryz.prog 83 ∧ DfC Tryz.prog 83 dw83 := dfC_of (n0 := 2) (items := di83) (by kernel_rfl) fn83 (by kernel_rfl) (of_decide_eq_true (by kernel_rfl)) (by omega)
def di84 : List DI := []
theorem fn84 : FnIs Tryz.prog 84 2 [] (gDflt di84 2) := fnIs_of Tryz.func84 (by kernel_rfl) (by kernel_rfl) (by kernel_rfl) (by kernel_rfl) -- (*pub-kmsg/pub/kmsg.BeginQuorumEpochResponseNodeEndpoint).Default
noncomputable def dw84 : List (Nat × Value) := (dRun Tryz.prog 2 di84 [(0, 0)]).getD []
theorem df84 : Ent Tryz.prog 84 ∧ DfC Tryz.prog 84 dw84 := dfC_of (n0 := 2) (items := di84) (by kernel_rfl) fn84 (by kernel_rfl) (of_decide_eq_true (by kernel_rfl)) (by omega)
noncomputable def dd : Nat → Option (List (Nat × Value))
  | 51 => some dw51
  | 82 => some dw82
  | 83 => some dw83
  | 84 => some dw84
  | _ => none
theorem ddOk : ∀ f wr, dd f = some wr → Ent Tryz.prog f ∧ DfC Tryz.prog f wr := by
  intro f wr h
  unfold dd at h
  split at h
  · obtain rfl := Option.some.inj h; exact df51
  · obtain rfl := Option.some.inj h; exact df82
  · obtain rfl := Option.some.inj h; exact df83
  · obtain rfl := Option.some.inj h; exact df84
  · cases h
theorem kt : KT Tryz.prog numbers kn where
  mixed := mixed
  f0 := fldB_ok (by kernel_rfl)
  f1 := fldB_ok (by kernel_rfl)
  sl := by kernel_rfl
  u8 := varB_ok (by kernel_rfl)
  dU8 := by kernel_rfl
  dI8 := fun h => absurd h (by decide)
  dI16 := by kernel_rfl
  dI32 := by kernel_rfl
  dU32 := by kernel_rfl
  dInt := by kernel_rfl
theorem kbig : KBig Tryz.prog kn where
  be := varB_ok (by kernel_rfl)
  d16 := by kernel_rfl
  d64 := fun h => absurd h (by decide)
  dI64 := fun h => absurd h (by decide)
  f16 := fun _ => fn87
  f32 := fun _ => fn86
  f64 := fun h => absurd h (by decide)
theorem ksub : KSub Tryz.prog numbers kn kn.tRS where
  e16 := fun _ => fn64.ent
  c16 := fun _ w S R r hR hRS => (i16_calls kt kbig rfl fn64 (by omega) hR hRS).mono fun e w' h => (fun h => ⟨h.1, h.2.1, h.2.2.1⟩) (rdOk_int (p := .i16) (.inr (.inl ⟨rfl, rfl⟩)) rfl h)
  e32 := fun _ => fn63.ent
  c32 := fun _ w S R r hR hRS => (i32_calls kt kbig rfl fn63 (by omega) hR hRS).mono fun e w' h => (fun h => ⟨h.1, h.2.1, h.2.2.1⟩) (rdOk_int (p := .i32) (.inr (.inr (.inl ⟨rfl, rfl⟩))) rfl h)
  eU := fun _ => fn65.ent
  cU := fun _ w S R r hR hRS => uv_calls kt fn88 (by omega) fn65 (by omega) hR hRS
  eS := fun _ => fn67.ent
  cS := fun _ w S R r k hR hRS => span_calls kt fn67 (by omega) hR hRS
  dStr := by kernel_rfl
  vStr := varB_ok (by kernel_rfl)
  zStr := zeroOf_ok (by kernel_rfl)
def tn : TN := { tTags := 61, tM := 59, tKs := 77, tU32 := 55, tInt := 3, tSl := 22, fSort := 91, fLess := 92, fEach := 77, fOne := 78, fUv := 46 }
theorem fn77 : FnIs Tryz.prog 77 53 [] (cEach tn) := fnIs_of Tryz.func77 (by kernel_rfl) (by kernel_rfl) (by kernel_rfl) (by kernel_rfl) -- (*pub-kmsg/pub/kmsg.Tags).Each
theorem fn92 : FnIs Tryz.prog 92 15 [5] (cTLess tn) := fnIs_of Tryz.func92 (by kernel_rfl) (by kernel_rfl) (by kernel_rfl) (by kernel_rfl) -- (*pub-kmsg/pub/kmsg.Tags).Each$1
theorem fn50 : FnIs Tryz.prog 50 9 [4] (cTEach tn) := fnIs_of Tryz.func50 (by kernel_rfl) (by kernel_rfl) (by kernel_rfl) (by kernel_rfl) -- (*pub-kmsg/pub/kmsg.Tags).AppendEach
theorem fn78 : FnIs Tryz.prog 78 16 [] (cTOne tn) := fnIs_of Tryz.func78 (by kernel_rfl) (by kernel_rfl) (by kernel_rfl) (by kernel_rfl) -- (*pub-kmsg/pub/kmsg.Tags).AppendEach$1
theorem tf : TF Tryz.prog tn where
  map := ⟨55, 22, by kernel_rfl, by kernel_rfl⟩
  fld := fldB_ok (by kernel_rfl)
  sl := by kernel_rfl
  info := infoB_ok (by kernel_rfl)
  vU := varB_ok (by kernel_rfl)
  vK := varB_ok (by kernel_rfl)
  zK := zeroOf_ok (by kernel_rfl)
  dInt := by kernel_rfl
  dU32 := by kernel_rfl
theorem sortOk : SortOk Tryz.prog tn := sortOk_of (it := (Tryz.prog.info? 77).get (by kernel_rfl)) (ie := (Tryz.prog.info? 55).get (by kernel_rfl)) (ke := 10) (f1 := 98) (f2 := 99) (f6 := 103) mixed tf Tryz.sa6 rfl (enters_of Tryz.func91 (by kernel_rfl) rfl) fn92 (by omega) (by kernel_rfl) (by kernel_rfl) (by kernel_rfl) (by kernel_rfl) (fun _ => by kernel_rfl) (by kernel_rfl) (by kernel_rfl) (by kernel_rfl) fn92.ent (by kernel_rfl) (by kernel_rfl) (by kernel_rfl) (fun args W => run_callFunc_extern Tryz.func103 (by kernel_rfl) (by kernel_rfl) (by kernel_rfl) (e := Extern.ReflectliteSwapper.swap true) (by kernel_rfl) args W)
theorem setOk : SetOk Tryz.prog numbers.set := fun _ _ _ _ _ _ _ _ _ _ hk hB hO ht hv => set_calls (tM := 59) (kt := 55) (et := 22) mixed fn66 (by omega) (by kernel_rfl) (by kernel_rfl) (fldB_ok (by kernel_rfl)) hk hB hO ht hv
def av : PF → Bool
  | .i16 => true
  | .u16 => true
  | .i32 => true
  | .str => true
  | .cstr => true
  | _ => false
theorem rdAll : ∀ p, av p = true → RdOk Tryz.prog numbers.tR p (numbers.rd p) := by
  intro p h
  cases p
  · cases h
  · cases h
  · exact rdOk_i16 kt kbig rfl fn64 (by omega)
  · exact rdOk_u16 kt kbig rfl fn85 (by omega)
  · exact rdOk_i32 kt kbig rfl fn63 (by omega)
  · cases h
  · cases h
  · exact rdOk_str kt ksub rfl rfl fn71 (by omega)
  · exact rdOk_cstr kt ksub rfl rfl fn70 (by omega)
  · cases h
  · cases h
  · cases h
  · cases h
  · cases h
  · cases h
theorem kb : KB Tryz.prog numbers av true where
  mixed := mixed
  rdE p h := (rdAll p h).1
  rdC p h := (rdAll p h).2
  i8C := fun h => absurd h (by decide)
  okE := fun _ => fn81.ent
  okC := fun _ w S R r hR => ok_calls kt fn81 (by omega) hR
  cmE := fn73.ent
  cmC w S R r hR he := complete_calls kt fn73 (by omega) (varB_ok (by kernel_rfl)) hR he
  lenE := fun _ => fn80.ent
  lenC := fun _ w S R r hR hRS => len_calls kt ksub rfl fn80 (by omega) hR hRS
  clenE := fun _ _ => fn79.ent
  clenC := fun _ _ w S R r hR hRS => clen_calls kt ksub rfl fn79 (by omega) hR hRS
  uvE := fun _ => fn65.ent
  uvC := fun _ w S R r hR hRS => ksub.cU rfl w S R r hR hRS
  spanE := fun _ => fn67.ent
  spanC := fun _ w S R r k _ _ hR hRS => ksub.cS rfl w S R r k hR hRS
  tagsE := fun _ => fn72.ent
  tagsC := fun _ w S R r hR hRS hS => rdTags_calls kt ksub rfl rfl rfl fn66.ent setOk (zeroOf_ok (by kernel_rfl)) (varB_ok (by kernel_rfl)) fn72 (by omega) hR hRS hS
  setE := fun _ => fn66.ent
  setC := fun _ => setOk
  fR := twoB_ok (by kernel_rfl)
  zR := zeroOf_ok (by kernel_rfl)
  vR := varB_ok (by kernel_rfl)
  uuid := fun h => absurd h (by decide)
  tI32 := by kernel_rfl
  tU32 := fun _ => by kernel_rfl
  tInt := by kernel_rfl
  vStr := ⟨varB_ok (by kernel_rfl), zeroOf_ok (by kernel_rfl)⟩
  vTags := fun _ => varB_ok (by kernel_rfl)
  tErr := fun _ => ifaceB_ok (by kernel_rfl)
theorem env : Env Tryz.prog numbers av true dd := ⟨kb, ddOk⟩
theorem oct : OctT Tryz.prog kn.tSl kn.tU8 := octB_ok (by kernel_rfl)
theorem wt : WT Tryz.prog kn where
  mixed := mixed
  oct := oct
  dU8 := by kernel_rfl
  dI8 := fun h => absurd h (by decide)
  dI16 := by kernel_rfl
  dU16 := fun _ => by kernel_rfl
  dI32 := by kernel_rfl
  dU32 := by kernel_rfl
  dInt := by kernel_rfl
  dI64 := fun _ => by kernel_rfl
  dU64 := fun _ => by kernel_rfl
  dStr := by kernel_rfl
  vStr := varB_ok (by kernel_rfl)
theorem uvC (x : Nat) (w : World) (h : x < 4294967296) : ApC Tryz.prog kn.tU8 numbersW.uv (.int .u32 x) (uvar x) w := ap_uv wt (by kernel_rfl) fn90 (by omega) fn76 (by omega) fn46 (by omega) h w
theorem i16C (x : Int) (w : World) : ApC Tryz.prog kn.tU8 42 (.int .i16 x) (be 2 x) w := ap_i16 wt rfl fn56 (by omega) fn42 (by omega) x w
theorem i32C (x : Int) (w : World) : ApC Tryz.prog kn.tU8 41 (.int .i32 x) (be 4 x) w := ap_i32 wt fn74 (by omega) fn41 (by omega) x w
def avw : PF → Bool
  | .i16 => true
  | .u16 => true
  | .i32 => true
  | .str => true
  | .cstr => true
  | _ => false
theorem apAll : ∀ p, avw p = true → AppOk Tryz.prog kn.tU8 p (numbersW.ap p) := by
  intro p h
  cases p
  · cases h
  · cases h
  · exact app_i16 wt rfl fn56 (by omega) fn42 (by omega)
  · exact app_u16 wt rfl fn56 (by omega)
  · exact app_i32 wt fn74 (by omega) fn41 (by omega)
  · cases h
  · cases h
  · exact app_str wt (app_i16 wt rfl fn56 (by omega) fn42 (by omega)) i16C fn49 (by omega)
  · exact app_cstr wt fn46.ent (fun x w h => uvC x w h) fn48 (by omega)
  · cases h
  · cases h
  · cases h
  · cases h
  · cases h
  · cases h
theorem smAll : ∀ s ∈ numbersW.sm, SmC Tryz.prog s := by
  intro s hs
  have hs : s ∈ ([] : List Sm) := hs
  cases hs
theorem kw : KW Tryz.prog numbersW avw true false kn.tU8 where
  mixed := mixed
  oct := oct
  dInt := by kernel_rfl
  dU32 := fun _ => by kernel_rfl
  apE p h := (apAll p h).1
  apC p h := (apAll p h).2
  alE := fun _ => fn55.ent
  alC := fun _ n w => ap_len wt fn41.ent i32C fn55 (by omega) n w
  clE := fun _ _ => fn54.ent
  clC := fun _ _ n w => ap_clen wt fn46.ent (fun x w h => uvC x w h) fn54 (by omega) n w
  nlE := fun h => absurd h (by decide)
  nlC := fun h => absurd h (by decide)
  cnE := fun h => absurd h (by decide)
  cnC := fun h => absurd h (by decide)
  uvE := fun _ => fn46.ent
  uvC := fun _ x w h => uvC x w h
  tlE := fun _ => fn47.ent
  tlC := fun _ w b o m X t hc ht => tlen_calls (kt := 55) (et := 22) mixed (by kernel_rfl) (fldB_ok (by kernel_rfl)) fn47 (by omega) hc ht
  teE := fun _ => fn50.ent
  teC := fun _ w b o m L t d bs hc hb ht hd hL hlim => teach_calls mixed tf sortOk oct (varB_ok (by kernel_rfl)) fn46.ent (fun x w h => uvC x w h) fn77 (by omega) fn78 (by omega) fn50 (by omega) hc hb ht hd hL hlim
  smC := smAll
  uuid := fun h => absurd h (by decide)
noncomputable def zv : Value := (zeroOf Tryz.prog 85).getD undef
noncomputable def zz : Array Value := applyWr zv.cells 0 dw51
theorem msg : MsgC Tryz.prog numbers.gErr kn.tU8 false true 1 fsBeginQuorumEpochResponse (some 4) 85 zz 23 27 28 29 :=
  msgC_of (cx := ⟨true, 7, 10, 8, 9⟩) (cw := ⟨true, 0, 0, 5, 6⟩) (nm := nmBeginQuorumEpochResponse) (ms := nwBeginQuorumEpochResponse) (tI16 := 40) env kw (by decide) (by decide) rfl rfl fn23 (by omega) fn27 (by omega) fn28 (by omega) fn53 (by omega) fn29 (by kernel_rfl) (by kernel_rfl) rfl (of_decide_eq_true (by kernel_rfl)) (by kernel_rfl) (by kernel_rfl) rfl (by kernel_rfl) (by kernel_rfl)
def sn : SN := { tInt := 3, tI64 := 2, tU8 := 5, tU64 := 72, tU32 := 55, tU16 := 95, tB := 4, tSl := 22, tF := 46, tFs := 30, tT := 26, tTs := 23, tG := 57, tGs := 24, tMs := 32, fPart := 18, fHas := 32, fField := 33, fAt := 34, fKnown := 35, fUsual := 36, fUv := 37, fUnk := 38, fWhole := 39, fNull := 57, fThings := 58, fCnt := 59, fVal := 60, fFix := 61, fWid := 62, fWrite := 7, fSame := 11, fZ2 := 5, fZ3 := 15, fZ4 := 30 }
theorem sf_fPart : FnIs Tryz.prog sn.fPart 132 [8] (csPt sn) := fnIs_of Tryz.func18 (by kernel_rfl) (by kernel_rfl) (by kernel_rfl) (by kernel_rfl)
theorem sf_fHas : FnIs Tryz.prog sn.fHas 20 [4] (csHs sn) := fnIs_of Tryz.func32 (by kernel_rfl) (by kernel_rfl) (by kernel_rfl) (by kernel_rfl)
theorem sf_fField : FnIs Tryz.prog sn.fField 76 [8] (csFl sn) := fnIs_of Tryz.func33 (by kernel_rfl) (by kernel_rfl) (by kernel_rfl) (by kernel_rfl)
theorem sf_fAt : FnIsC Tryz.prog sn.fAt 16 4 26 (csAt sn) := fnIsC_of Tryz.func34 (by kernel_rfl) (by kernel_rfl) (by kernel_rfl) (by kernel_rfl)
theorem sf_fKnown : FnIs Tryz.prog sn.fKnown 23 [2] (csKw sn) := fnIs_of Tryz.func35 (by kernel_rfl) (by kernel_rfl) (by kernel_rfl) (by kernel_rfl)
theorem sf_fUv : FnIs Tryz.prog sn.fUv 20 [2] (csUvr sn) := fnIs_of Tryz.func37 (by kernel_rfl) (by kernel_rfl) (by kernel_rfl) (by kernel_rfl)
theorem sf_fUnk : FnIs Tryz.prog sn.fUnk 85 [4] (csUn sn) := fnIs_of Tryz.func38 (by kernel_rfl) (by kernel_rfl) (by kernel_rfl) (by kernel_rfl)
theorem sf_fWhole : FnIs Tryz.prog sn.fWhole 8 [2] (csWh sn) := fnIs_of Tryz.func39 (by kernel_rfl) (by kernel_rfl) (by kernel_rfl) (by kernel_rfl)
theorem sf_fNull : FnIs Tryz.prog sn.fNull 20 [6] (csNu sn) := fnIs_of Tryz.func57 (by kernel_rfl) (by kernel_rfl) (by kernel_rfl) (by kernel_rfl)
theorem sf_fThings : FnIs Tryz.prog sn.fThings 8 [2] (csTh sn) := fnIs_of Tryz.func58 (by kernel_rfl) (by kernel_rfl) (by kernel_rfl) (by kernel_rfl)
theorem sf_fCnt : FnIs Tryz.prog sn.fCnt 28 [8] (csCn sn) := fnIs_of Tryz.func59 (by kernel_rfl) (by kernel_rfl) (by kernel_rfl) (by kernel_rfl)
theorem sf_fVal : FnIs Tryz.prog sn.fVal 70 [12] (csVa sn) := fnIs_of Tryz.func60 (by kernel_rfl) (by kernel_rfl) (by kernel_rfl) (by kernel_rfl)
theorem sf_fFix : FnIs Tryz.prog sn.fFix 22 [4] (csFi sn) := fnIs_of Tryz.func61 (by kernel_rfl) (by kernel_rfl) (by kernel_rfl) (by kernel_rfl)
theorem sf_fWid : FnIs Tryz.prog sn.fWid 11 [2] (csWd sn) := fnIs_of Tryz.func62 (by kernel_rfl) (by kernel_rfl) (by kernel_rfl) (by kernel_rfl)
theorem sf_fWrite : FnIs Tryz.prog sn.fWrite 21 [6] (csWr sn) := fnIs_of Tryz.func7 (by kernel_rfl) (by kernel_rfl) (by kernel_rfl) (by kernel_rfl)
theorem sf_fUsual : FnIs Tryz.prog sn.fUsual 91 [4] (csUs sn) := fnIs_of Tryz.func36 (by kernel_rfl) (by kernel_rfl) (by kernel_rfl) (by kernel_rfl)
theorem sf_fZ2 : FnIs Tryz.prog sn.fZ2 15 [2] (csZ2 sn) := fnIs_of Tryz.func5 (by kernel_rfl) (by kernel_rfl) (by kernel_rfl) (by kernel_rfl)
theorem sf_fZ3 : FnIs Tryz.prog sn.fZ3 18 [2] (csZ3 sn) := fnIs_of Tryz.func15 (by kernel_rfl) (by kernel_rfl) (by kernel_rfl) (by kernel_rfl)
theorem sf_fZ4 : FnIs Tryz.prog sn.fZ4 7 [2] (csZ4 sn) := fnIs_of Tryz.func30 (by kernel_rfl) (by kernel_rfl) (by kernel_rfl) (by kernel_rfl)
theorem rt : RefT Tryz.prog sn where
  mixed := mixed
  dInt := by kernel_rfl
  dI64 := by kernel_rfl
  dU8 := by kernel_rfl
  dU32 := by kernel_rfl
  dU64 := by kernel_rfl
  oct := oct
  dTs := by kernel_rfl
  dGs := by kernel_rfl
  dFs := by kernel_rfl
  vI64 := varB_ok (by kernel_rfl)
  vU8 := varB_ok (by kernel_rfl)
  vT := varB_ok (by kernel_rfl)
  vF := varB_ok (by kernel_rfl)
  vG := varB_ok (by kernel_rfl)
  vM := varB_ok (by kernel_rfl)
  t0 := fldB_ok (by kernel_rfl)
  t1 := fldB_ok (by kernel_rfl)
  t2 := fldB_ok (by kernel_rfl)
  t3 := fldB_ok (by kernel_rfl)
  t4 := fldB_ok (by kernel_rfl)
  f0 := fldB_ok (by kernel_rfl)
  f1 := fldB_ok (by kernel_rfl)
  f2 := fldB_ok (by kernel_rfl)
  f3 := fldB_ok (by kernel_rfl)
  f4 := fldB_ok (by kernel_rfl)
  f5 := fldB_ok (by kernel_rfl)
  f6 := fldB_ok (by kernel_rfl)
  f7 := fldB_ok (by kernel_rfl)
  g0 := fldB_ok (by kernel_rfl)
  g1 := fldB_ok (by kernel_rfl)
  m0 := fldB_ok (by kernel_rfl)
  m1 := fldB_ok (by kernel_rfl)
  zT := zeroOf_ok (by kernel_rfl)
  zF := zeroOf_ok (by kernel_rfl)
  zG := zeroOf_ok (by kernel_rfl)
  zM := zeroOf_ok (by kernel_rfl)
  z8 := z8_ok (by kernel_rfl)
  bT := fun w => by kernel_rfl
  bG := fun w => by kernel_rfl
  bSG := fun w => by kernel_rfl
  iG := iG_ok (by kernel_rfl)

theorem leaf : LeafC Tryz.prog sn := leafC_of rt (varB_ok (by kernel_rfl)) sf_fUv sf_fFix sf_fCnt sf_fWid sf_fWhole sf_fThings sf_fHas sf_fNull sf_fKnown sf_fAt sf_fUnk
theorem trees : TreT Tryz.prog sn where
  tab := rt
  cT := by kernel_rfl
  cG := by kernel_rfl
  cI := by kernel_rfl
  cSl := by kernel_rfl
  cB := by kernel_rfl
  cTs := by kernel_rfl
  cGs := by kernel_rfl
  cU := by kernel_rfl
  c8 := by kernel_rfl
  dB := by kernel_rfl
  nT := by kernel_rfl
  nG := by kernel_rfl

def ln : LN := { fM := 12, fB := 13, fV := 9, fA := 14 }
def it52 : List BI := [([(0, 3), (2, -1), (3, -1), (4, -1)], none), ([(0, 2), (2, -1), (3, -1), (4, -1)], none), ([(0, 3), (2, -1), (3, -1), (4, -1)], none), ([(0, 3), (2, -1), (3, -1), (4, -1)], none)]
def ss52 : SFs := .cons 3 0 (-1) (-1) (-1) 0 0 .nil (.cons 2 0 (-1) (-1) (-1) 0 0 .nil (.cons 3 0 (-1) (-1) (-1) 0 0 .nil (.cons 3 0 (-1) (-1) (-1) 0 0 .nil (.nil))))
theorem fi52 : FnIs Tryz.prog 52 6 [0] (cSub sn it52) := fnIs_of Tryz.func52 (by kernel_rfl) (by kernel_rfl) (by kernel_rfl) (by kernel_rfl)
theorem sb52 : Ent Tryz.prog 52 ∧ BuildC Tryz.prog 52 ss52 := sub_calls rt fi52 (of_decide_eq_true (by kernel_rfl)) ⟨fun w => by kernel_rfl, rfl, ⟨fun w => by kernel_rfl, rfl, ⟨fun w => by kernel_rfl, rfl, ⟨fun w => by kernel_rfl, rfl, trivial⟩⟩⟩⟩ (fun sv w => by kernel_rfl) rfl (of_decide_eq_true (by kernel_rfl))
def it25 : List BI := [([(0, 8), (2, -1), (3, -1), (4, -1)], none), ([(0, 11), (2, -1), (3, -1), (4, -1), (6, 10)], some 52)]
def ss25 : SFs := .cons 8 0 (-1) (-1) (-1) 0 0 .nil (.cons 11 0 (-1) (-1) (-1) 0 10 ss52 (.nil))
theorem fi25 : FnIs Tryz.prog 25 5 [0] (cSub sn it25) := fnIs_of Tryz.func25 (by kernel_rfl) (by kernel_rfl) (by kernel_rfl) (by kernel_rfl)
theorem sb25 : Ent Tryz.prog 25 ∧ BuildC Tryz.prog 25 ss25 := sub_calls rt fi25 (of_decide_eq_true (by kernel_rfl)) ⟨fun w => by kernel_rfl, rfl, ⟨fun base n c w => by kernel_rfl, sb52, trivial⟩⟩ (fun sv w => by kernel_rfl) rfl (of_decide_eq_true (by kernel_rfl))
def it26 : List BI := [([(0, 3), (1, 1), (2, -1), (3, -1), (4, -1)], none), ([(0, 8), (1, 1), (2, -1), (3, -1), (4, -1)], none), ([(0, 5), (1, 1), (2, -1), (3, -1), (4, -1)], none)]
def ss26 : SFs := .cons 3 1 (-1) (-1) (-1) 0 0 .nil (.cons 8 1 (-1) (-1) (-1) 0 0 .nil (.cons 5 1 (-1) (-1) (-1) 0 0 .nil (.nil)))
theorem fi26 : FnIs Tryz.prog 26 5 [0] (cSub sn it26) := fnIs_of Tryz.func26 (by kernel_rfl) (by kernel_rfl) (by kernel_rfl) (by kernel_rfl)
theorem sb26 : Ent Tryz.prog 26 ∧ BuildC Tryz.prog 26 ss26 := sub_calls rt fi26 (of_decide_eq_true (by kernel_rfl)) ⟨fun w => by kernel_rfl, rfl, ⟨fun w => by kernel_rfl, rfl, ⟨fun w => by kernel_rfl, rfl, trivial⟩⟩⟩ (fun sv w => by kernel_rfl) rfl (of_decide_eq_true (by kernel_rfl))
def itM : List BI := [([(0, 2), (2, -1), (3, -1), (4, -1)], none), ([(0, 11), (2, -1), (3, -1), (4, -1), (6, 10)], some 25), ([(0, 11), (2, -1), (3, -1), (4, 0), (6, 10)], some 26)]
def ssM : SFs := .cons 2 0 (-1) (-1) (-1) 0 0 .nil (.cons 11 0 (-1) (-1) (-1) 0 10 ss25 (.cons 11 0 (-1) (-1) 0 0 10 ss26 (.nil)))
theorem fiM : FnIsC Tryz.prog 13 8 0 sn.tMs (cMsgB sn 1 itM) := fnIsC_of Tryz.func13 (by kernel_rfl) (by kernel_rfl) (by kernel_rfl) (by kernel_rfl)
theorem sbM : Ent Tryz.prog 13 ∧ MsgBC Tryz.prog 13 1 ssM := msgb_calls rt (fun x base n c w => by kernel_rfl) fiM (of_decide_eq_true (by kernel_rfl)) ⟨fun w => by kernel_rfl, rfl, ⟨fun base n c w => by kernel_rfl, sb25, ⟨fun base n c w => by kernel_rfl, sb26, trivial⟩⟩⟩ (fun sv w => by kernel_rfl) rfl (of_decide_eq_true (by kernel_rfl))
theorem smR : FnIs Tryz.prog sn.fSame 26 [4] (cSame sn.tSl sn.tU8 sn.tInt) := fnIs_of Tryz.func11 (by kernel_rfl) (by kernel_rfl) (by kernel_rfl) (by kernel_rfl)
theorem ktc : KtC Tryz.prog sn := ktC_of rt sf_fAt sf_fKnown.ent leaf.knC sf_fUnk sf_fUsual.ent smR (by omega) (varB_ok (by kernel_rfl)) (by decide)
theorem lawC : LawC Tryz.prog sn ln numbers.gErr 1 1 ssM (fun x l => againOut false true 1 fsBeginQuorumEpochResponse x l) (okInL true 1 fsBeginQuorumEpochResponse 1) :=
  lawC_of (tI16 := 40) (tErr := 50) rt msg (by kernel_rfl) (ifaceB_ok (by kernel_rfl)) (.inl (by kernel_rfl)) fn14 (by omega) fn9 (by omega) (ntSm := 26) (.inr fn11) (by omega) fn12 (by omega) fn24 (by omega) (by decide) sf_fZ4 sf_fZ3 sf_fZ2 sbM sf_fWrite sf_fPart.ent (ref_callsT leaf ktc sf_fPart sf_fField sf_fVal sf_fUsual ssM (by kernel_rfl)).1
theorem fnL : FnIs Tryz.prog 4 35 [4] (cLag sn ln) := fnIs_of Tryz.func4 (by kernel_rfl) (by kernel_rfl) (by kernel_rfl) (by kernel_rfl)
theorem law {W : World} {x0 k : Nat} {cs : List Value} {t : Tr} (hx : x0 < 256) (ht : TrRp W k cs t) (hw : t.wt ≤ 1048576) (herr : ErrAt numbers.gErr W) : Calls Tryz.prog 4 [.int .u8 (x0 : Int), .agg cs.toArray].toArray W (TrueC W) :=
  again_lawG lawC (by kernel_rfl) (by kernel_rfl) fnL hx ht herr (fun v => k_limG (by kernel_rfl) hw v _)
end Go.Proofs.YtbgklecbmhaadaaGreatDoor.Kx
