/-
  FnCutFetchRequest: the numbers of the program, the code of its functions, and the law out of them.
-/
import Derived.Test.YtnpdpnmomihkkaaGreatDoorChecked
import Derived.Test.YtnpdpnmomihkkaaGreatDoorK1
import Derived.Test.YtnpdpnmomihkkaaGreatDoorK2
import Derived.Test.YtnpdpnmomihkkaaGreatDoorK3
import Derived.Test.YtnpdpnmomihkkaaGreatDoorK4
import Derived.Test.YtnpdpnmomihkkaaGreatDoorK5
import Derived.Test.YtnpdpnmomihkkaaGreatDoorK6
import Derived.Test.YtnpdpnmomihkkaaGreatDoorK7
import Derived.Test.YtnpdpnmomihkkaaGreatDoorK8
import Derived.Test.YtnpdpnmomihkkaaGreatDoorK9
import Derived.Test.YtnpdpnmomihkkaaGreatDoorK10
import Derived.Test.YtnpdpnmomihkkaaGreatDoorK11
import Derived.Test.YtnpdpnmomihkkaaGreatDoorK12
import Derived.Test.YtnpdpnmomihkkaaGreatDoorK13
import Derived.Test.YtnpdpnmomihkkaaGreatDoorK14
import Derived.Test.YtnpdpnmomihkkaaGreatDoorK15
import Derived.Test.YtnpdpnmomihkkaaGreatDoorK16
import Derived.Test.YtnpdpnmomihkkaaGreatDoorK17
import Derived.Test.YtnpdpnmomihkkaaGreatDoorK18
import Derived.Test.YtnpdpnmomihkkaaGreatDoorK19
import Derived.KernelRfl
import Derived.Test.YtnpdpnmomihkkaaGreatDoorSh
namespace Go.Proofs.YtnpdpnmomihkkaaGreatDoor.Kx
open Go Go.Proofs
set_option maxRecDepth 100000
theorem kr {p:Prop}(h:p:=by kernel_rfl):p:=h
def sm0:Sm:={ fDef:=44,fSame:=43,F:=62,sz:=3,toff:=2,ds:=[(0,(some .i32),(-1)),(1,(some .i64),(-1))] }
def numbers:G:={ rd:=fun|.bool=>999999|.i8=>56|.i16=>87|.u16=>999999|.i32=>55|.i64=>68|.uuid=>66|.str=>65|.cstr=>64|.nstr=>77|.cnstr=>75|.bytes=>999999|.cbytes=>999999|.nbytes=>999999|.cnbytes=>999999,un:=fun|.str=>63|.cstr=>62|.nstr=>76|.cnstr=>74|_=>999999,len:=58,clen:=57,ok:=59,complete:=60,uv:=69,span:=71,tags:=72,set:=70,tR:=110,tUuid:=81,tVer:=40,tI8:=63,tI32:=21,tU32:=53,tInt:=3,tBool:=4,tErr:=50,tTags:=60,tSl:=22,tStr:=9,gErr:=1 }
def numbersW:GW:={ ap:=fun|.bool=>999999|.i8=>33|.i16=>79|.u16=>90|.i32=>32|.i64=>39|.uuid=>38|.str=>37|.cstr=>36|.nstr=>47|.cnstr=>46|.bytes=>999999|.cbytes=>999999|.nbytes=>999999|.cnbytes=>999999,alen:=35,calen:=34,nalen:=999999,cnalen:=999999,uv:=40,tlen:=41,teach:=42,tVer:=40,tInt:=3,tU32:=53,tSl:=22,tUuid:=81,sm:=[sm0] }
def kn:Kn:={ tRS:=110,tSl:=22,tB:=4,tInt:=3,tU8:=5,tI8:=63,tI16:=40,tU16:=27,tI32:=21,tU32:=53,tI64:=2,tU64:=74,tStr:=9,tUuid:=81,tBE:=131,tErr:=50,gBE:=0,gErr:=1,fU16:=94,fU32:=85,fU64:=95,fUv:=89,fR64:=88 }
theorem mixed:Tryz.prog.follows .mixedOrders=true:=by kernel_rfl
def fsFetchRequest:Fds:=(.cons 0 (some 14) none (-1) 2 (.prim .i32) (.cons 0 none none (0) 6 (.prim .i32) (.cons 0 none none (0) 7 (.prim .i32) (.cons 3 none none (2147483647) 8 (.prim .i32) (.cons 4 none none (0) 9 (.prim .i8) (.cons 7 none none (0) 10 (.prim .i32) (.cons 7 none none (-1) 11 (.prim .i32) (.cons 0 none none (0) 12 (.list none 19 (.struct none (some 18) (.cons 0 (some 12) none (0) 0 (.str none) (.cons 13 none none (0) 1 (.prim .uuid) (.cons 0 none none (0) 17 (.list none 24 (.struct none (some 23) (.cons 0 none none (0) 0 (.prim .i32) (.cons 9 none none (-1) 1 (.prim .i32) (.cons 0 none none (0) 2 (.prim .i64) (.cons 12 none none (-1) 3 (.prim .i32) (.cons 5 none none (-1) 4 (.prim .i64) (.cons 0 none none (0) 5 (.prim .i32) (.cons 0 none (some 0) (0) 6 (.prim .uuid) (.cons 0 none (some 1) (9223372036854775807) 22 (.prim .i64) .nil)))))))))) .nil))))) (.cons 7 none none (0) 13 (.list none 19 (.struct none (some 18) (.cons 7 (some 12) none (0) 0 (.str none) (.cons 13 none none (0) 1 (.prim .uuid) (.cons 0 none none (0) 17 (.list none 1 (.prim .i32)) .nil))))) (.cons 11 none none (0) 14 (.str none) (.cons 0 none (some 0) (0) 1 (.str (some 0)) (.cons 0 none (some 1) (0) 3 (.struct none (some 2) (.cons 0 none none (-1) 0 (.prim .i32) (.cons 0 none none (-1) 1 (.prim .i64) .nil))) .nil))))))))))))
def nmFetchRequest:Nm:=(.mk [60,61,11,12,13] [(.mk [11,67,2,21] []),(.mk [12,67,4,21] []),(.mk [13,67,5,21] []),(.mk [14,67,6,21] []),(.mk [15,67,7,63] []),(.mk [16,67,8,21] []),(.mk [17,67,9,21] []),(.mk [18,67,10,64,19,20,21,0,1] [(.mk [22,23,61,84,3] [(.mk [] [(.mk [24,84,0,9] []),(.mk [25,84,1,81] []),(.mk [26,84,2,82,27,28,29,2,3] [(.mk [30,31,67,89,8] [(.mk [38,39,4,5,6] [(.mk [32,89,0,21] []),(.mk [33,89,1,21] []),(.mk [34,89,2,2] []),(.mk [35,89,3,21] []),(.mk [36,89,4,2] []),(.mk [37,89,5,21] []),(.mk [40,42] [(.mk [41,89,6,81] [])]),(.mk [43,45] [(.mk [44,89,7,2] [])])])])])])])]),(.mk [46,67,11,65,47,48,49,7,8] [(.mk [50,51,73,96,3] [(.mk [] [(.mk [52,96,0,9] []),(.mk [53,96,1,81] []),(.mk [54,96,2,94,55,56,57,9,10] [(.mk [58,21] [])])])])]),(.mk [59,67,12,9] []),(.mk [62,64] [(.mk [63,67,1,57] [])]),(.mk [65,70] [(.mk [66,67,3,67,45,62,2] [(.mk [] [(.mk [68,62,0,21] []),(.mk [69,62,1,2] [])])])])])
def nwFetchRequest:Nm:=(.mk [42,91,44,11,12,13] [(.mk [7,67,2,21] []),(.mk [8,67,4,21] []),(.mk [9,67,5,21] []),(.mk [10,67,6,21] []),(.mk [11,67,7,63] []),(.mk [12,67,8,21] []),(.mk [13,67,9,21] []),(.mk [14,67,10,64,15,0,1] [(.mk [16,84,3] [(.mk [] [(.mk [17,84,0,9] []),(.mk [18,84,1,81] []),(.mk [19,84,2,82,20,2,3] [(.mk [21,89,8] [(.mk [28,91,30,4,5,6] [(.mk [22,89,0,21] []),(.mk [23,89,1,21] []),(.mk [24,89,2,2] []),(.mk [25,89,3,21] []),(.mk [26,89,4,2] []),(.mk [27,89,5,21] []),(.mk [31,89,6,81,0,0,0,0,0,0,0,0,0,0,0] []),(.mk [32,89,7,2,0,0,0,0,0,0,0,0,0,0,0] [])])])])])])]),(.mk [33,67,11,65,34,7,8] [(.mk [35,96,3] [(.mk [] [(.mk [36,96,0,9] []),(.mk [37,96,1,81] []),(.mk [38,96,2,94,39,9,10] [(.mk [40,21] [])])])])]),(.mk [41,67,12,9] []),(.mk [45,67,1,57,46,47,0,0,0,4,0,0,0,0,0] []),(.mk [48,67,3,62,49,50,1,44,43,4,0,2,0,0,0] [(.mk [] [(.mk [51,0,21] []),(.mk [52,1,2] [])])])])
theorem fn56:FnIs Tryz.prog 56 32 [2] (cI8 kn):=fnIs_of Tryz.func56 kr kr kr kr
theorem fn87:FnIs Tryz.prog 87 32 [2] (cI16 kn):=fnIs_of Tryz.func87 kr kr kr kr
theorem fn55:FnIs Tryz.prog 55 32 [2] (cI32 kn):=fnIs_of Tryz.func55 kr kr kr kr
theorem fn88:FnIs Tryz.prog 88 31 [2] (cR64 kn):=fnIs_of Tryz.func88 kr kr kr kr
theorem fn68:FnIs Tryz.prog 68 6 [2] (cI64 kn):=fnIs_of Tryz.func68 kr kr kr kr
theorem fn89:FnIs Tryz.prog 89 87 [2,3] (cUvIn kn):=fnIs_of Tryz.func89 kr kr kr kr
theorem fn69:FnIs Tryz.prog 69 31 [2] (cUv kn):=fnIs_of Tryz.func69 kr kr kr kr
theorem fn66:FnIsC Tryz.prog 66 9 2 81 (cUuid numbers kn):=fnIsC_of Tryz.func66 kr kr kr kr
theorem fn72:FnIsC Tryz.prog 72 24 2 60 (cRdTags numbers kn):=fnIsC_of Tryz.func72 kr kr kr kr
theorem fn70:FnIs Tryz.prog 70 21 [] (cSet numbers 58):=fnIs_of Tryz.func70 kr kr kr kr
theorem fn59:FnIs Tryz.prog 59 8 [2] (cOk kn):=fnIs_of Tryz.func59 kr kr kr kr
theorem fn60:FnIs Tryz.prog 60 8 [2] (cComplete kn):=fnIs_of Tryz.func60 kr kr kr kr
theorem fn71:FnIs Tryz.prog 71 40 [4] (cSpan kn):=fnIs_of Tryz.func71 kr kr kr kr
theorem fn65:FnIs Tryz.prog 65 11 [2] (cStr numbers kn):=fnIs_of Tryz.func65 kr kr kr kr
theorem fn64:FnIs Tryz.prog 64 12 [2] (cCStr numbers kn):=fnIs_of Tryz.func64 kr kr kr kr
theorem fn77:FnIs Tryz.prog 77 14 [2] (cNStr numbers kn):=fnIs_of Tryz.func77 kr kr kr kr
theorem fn75:FnIs Tryz.prog 75 15 [2] (cCNStr numbers kn):=fnIs_of Tryz.func75 kr kr kr kr
theorem fn58:FnIs Tryz.prog 58 21 [2] (cLen numbers kn):=fnIs_of Tryz.func58 kr kr kr kr
theorem fn57:FnIs Tryz.prog 57 23 [2] (cCLen numbers kn):=fnIs_of Tryz.func57 kr kr kr kr
theorem fn94:FnIs Tryz.prog 94 18 [4] (gBig kn kn.tU16 .u16 2):=fnIs_of Tryz.func94 kr kr kr kr
theorem fn85:FnIs Tryz.prog 85 30 [4] (gBig kn kn.tU32 .u32 4):=fnIs_of Tryz.func85 kr kr kr kr
theorem fn95:FnIs Tryz.prog 95 54 [4] (gBig kn kn.tU64 .u64 8):=fnIs_of Tryz.func95 kr kr kr kr
theorem fn33:FnIs Tryz.prog 33 10 [4] (cAI8 kn):=fnIs_of Tryz.func33 kr kr kr kr
theorem fn90:FnIs Tryz.prog 90 13 [4] (cAU16 kn):=fnIs_of Tryz.func90 kr kr kr kr
theorem fn78:FnIs Tryz.prog 78 19 [4] (cAU32 kn):=fnIs_of Tryz.func78 kr kr kr kr
theorem fn80:FnIs Tryz.prog 80 31 [4] (cAU64 kn):=fnIs_of Tryz.func80 kr kr kr kr
theorem fn79:FnIs Tryz.prog 79 9 [4] (cACv kn.tI16 kn.tU16 90):=fnIs_of Tryz.func79 kr kr kr kr
theorem fn32:FnIs Tryz.prog 32 9 [4] (cACv kn.tI32 kn.tU32 78):=fnIs_of Tryz.func32 kr kr kr kr
theorem fn39:FnIs Tryz.prog 39 9 [4] (cACv kn.tI64 kn.tU64 80):=fnIs_of Tryz.func39 kr kr kr kr
theorem fn35:FnIs Tryz.prog 35 9 [4] (cACv kn.tInt kn.tI32 32):=fnIs_of Tryz.func35 kr kr kr kr
theorem fn34:FnIs Tryz.prog 34 10 [4] (cACv1 kn 40):=fnIs_of Tryz.func34 kr kr kr kr
theorem fn38:FnIs Tryz.prog 38 8 [4] (cAUuid kn):=fnIs_of Tryz.func38 kr kr kr kr
theorem fn37:FnIs Tryz.prog 37 13 [4] (cAStr kn kn.tStr kn.tI16 79):=fnIs_of Tryz.func37 kr kr kr kr
theorem fn36:FnIs Tryz.prog 36 14 [4] (cACStr kn kn.tStr 40):=fnIs_of Tryz.func36 kr kr kr kr
theorem fn47:FnIs Tryz.prog 47 14 [4] (cANStr kn 57 (.int .i16 (-1)) 79 37):=fnIs_of Tryz.func47 kr kr kr kr
theorem fn46:FnIs Tryz.prog 46 14 [4] (cANStr kn 57 (.int .u32 0) 40 36):=fnIs_of Tryz.func46 kr kr kr kr
theorem fn40:FnIs Tryz.prog 40 93 [4] (cAUv kn 81):=fnIs_of Tryz.func40 kr kr kr kr
theorem fn81:FnIs Tryz.prog 81 8 [2] (cUvLen kn 91):=fnIs_of Tryz.func81 kr kr kr kr
theorem fn91:FnIs Tryz.prog 91 19 [2] (cLen32 kn 53):=fnIs_of Tryz.func91 kr kr kr kr
theorem fn41:FnIs Tryz.prog 41 8 [2] (cTLen kn 60 58):=fnIs_of Tryz.func41 kr kr kr kr
theorem fn11:FnIs Tryz.prog 11 3 [0] (cNewPtr 67 21):=fnIs_of Tryz.func11 kr kr kr kr
theorem fn17:FnIs Tryz.prog 17 8 [] (cSetV 67 40):=fnIs_of Tryz.func17 kr kr kr kr
theorem fn18:FnIs Tryz.prog 18 8 [4] (cRdF 31):=fnIs_of Tryz.func18 kr kr kr kr
theorem fn5:FnIs Tryz.prog 5 4 [0] (cMax 40 3 11 12):=fnIs_of Tryz.func5 kr kr kr kr
theorem fn12:FnIs Tryz.prog 12 3 [2] (cMaxV 18):=fnIs_of Tryz.func12 kr kr kr kr
theorem fn9:FnIs Tryz.prog 9 19 [4,5] (cAgain 40 3 22 50 11 17 18 19):=fnIs_of Tryz.func9 kr kr kr kr
theorem fn8:FnIs Tryz.prog 8 10 [4] (cVer 5 3):=fnIs_of Tryz.func8 kr kr kr kr
theorem fn53:FnIs Tryz.prog 53 26 [4] (cSame 22 5 3):=fnIs_of Tryz.func53 kr kr kr kr
theorem fn31:FnIs Tryz.prog 31 492 [6] (gRead numbers true false ⟨true,7,10,8,9⟩ fsFetchRequest 21 67 13 12 71 nmFetchRequest):=fnIs_of Tryz.func31 kr kr kr kr
theorem fn19:FnIs Tryz.prog 19 538 [4] (gWrite numbersW false ⟨true,0,0,5,6⟩ fsFetchRequest 67 13 12 0 53 nwFetchRequest):=fnIs_of Tryz.func19 kr kr kr kr
def di21:List DT:=[.it (.st 0 67 1 57 (.pointer none)),.it (.st 0 67 2 21 (.int .i32 (-1))),.blk [.fa 2 0 67 3,.nop 2,.st 2 62 0 21 (.int .i32 (-1)),.st 2 62 1 2 (.int .i64 (-1))],.it (.st 0 67 6 21 (.int .i32 (2147483647))),.it (.st 0 67 9 21 (.int .i32 (-1)))]
theorem fn21:FnIs Tryz.prog 21 25 [] (gDfltT di21 3):=fnIs_of Tryz.func21 kr kr kr kr
noncomputable def dw21:List (Nat × Value):=(dRun Tryz.prog 3 (dtF di21) [(0,0)]).getD []
theorem df21:Ent Tryz.prog 21/\DfC Tryz.prog 21 dw21:=dfC_ofT (n0:=3) (items:=di21) kr fn21 kr (of_decide_eq_true kr) (by omega)
def di45:List DI:=[.st 0 62 0 21 (.int .i32 (-1)),.st 0 62 1 2 (.int .i64 (-1))]
theorem fn45:FnIs Tryz.prog 45 8 [] (gDflt di45 2):=fnIs_of Tryz.func45 kr kr kr kr
noncomputable def dw45:List (Nat × Value):=(dRun Tryz.prog 2 di45 [(0,0)]).getD []
theorem df45:Ent Tryz.prog 45/\DfC Tryz.prog 45 dw45:=dfC_of (n0:=2) (items:=di45) kr fn45 kr (of_decide_eq_true kr) (by omega)
def di61:List DI:=[]
theorem fn61:FnIs Tryz.prog 61 2 [] (gDflt di61 2):=fnIs_of Tryz.func61 kr kr kr kr
noncomputable def dw61:List (Nat × Value):=(dRun Tryz.prog 2 di61 [(0,0)]).getD []
theorem df61:Ent Tryz.prog 61/\DfC Tryz.prog 61 dw61:=dfC_of (n0:=2) (items:=di61) kr fn61 kr (of_decide_eq_true kr) (by omega)
def di67:List DI:=[.st 0 89 1 21 (.int .i32 (-1)),.st 0 89 3 21 (.int .i32 (-1)),.st 0 89 4 2 (.int .i64 (-1)),.st 0 89 7 2 (.int .i64 (9223372036854775807))]
theorem fn67:FnIs Tryz.prog 67 14 [] (gDflt di67 2):=fnIs_of Tryz.func67 kr kr kr kr
noncomputable def dw67:List (Nat × Value):=(dRun Tryz.prog 2 di67 [(0,0)]).getD []
theorem df67:Ent Tryz.prog 67/\DfC Tryz.prog 67 dw67:=dfC_of (n0:=2) (items:=di67) kr fn67 kr (of_decide_eq_true kr) (by omega)
def di73:List DI:=[]
theorem fn73:FnIs Tryz.prog 73 2 [] (gDflt di73 2):=fnIs_of Tryz.func73 kr kr kr kr
noncomputable def dw73:List (Nat × Value):=(dRun Tryz.prog 2 di73 [(0,0)]).getD []
theorem df73:Ent Tryz.prog 73/\DfC Tryz.prog 73 dw73:=dfC_of (n0:=2) (items:=di73) kr fn73 kr (of_decide_eq_true kr) (by omega)
noncomputable def dd:Nat->Option (List (Nat × Value))
 | 21=>some dw21
 | 45=>some dw45
 | 61=>some dw61
 | 67=>some dw67
 | 73=>some dw73
 | _=>none
theorem ddOk:∀ f wr,dd f=some wr->Ent Tryz.prog f/\DfC Tryz.prog f wr:=by
 intro f wr h;unfold dd at h
 split at h
 ·obtain rfl:=Option.some.inj h;exact df21
 ·obtain rfl:=Option.some.inj h;exact df45
 ·obtain rfl:=Option.some.inj h;exact df61
 ·obtain rfl:=Option.some.inj h;exact df67
 ·obtain rfl:=Option.some.inj h;exact df73
 ·cases h
theorem kt:KT Tryz.prog numbers kn where
 mixed:=mixed
 f0:=fldB_ok kr
 f1:=fldB_ok kr
 sl:=by kernel_rfl
 u8:=varB_ok kr
 dU8:=by kernel_rfl
 dI8:=fun _=>by kernel_rfl
 dI16:=by kernel_rfl
 dI32:=by kernel_rfl
 dU32:=by kernel_rfl
 dInt:=by kernel_rfl
theorem kbig:KBig Tryz.prog kn where
 be:=varB_ok kr
 d16:=by kernel_rfl
 d64:=fun _=>by kernel_rfl
 dI64:=fun _=>by kernel_rfl
 f16:=fun _=>fn94
 f32:=fun _=>fn85
 f64:=fun _=>fn95
theorem ksub:KSub Tryz.prog numbers kn kn.tRS where
 e16:=fun _=>fn87.ent
 c16:=fun _ w S R r hR hRS=>(i16_calls kt kbig rfl fn87 (by omega) hR hRS).mono fun e w' h=>(fun h=>⟨h.1,h.2.1,h.2.2.1⟩) (rdOk_int (p:=.i16) (.inr (.inl ⟨rfl,rfl⟩)) rfl h)
 e32:=fun _=>fn55.ent
 c32:=fun _ w S R r hR hRS=>(i32_calls kt kbig rfl fn55 (by omega) hR hRS).mono fun e w' h=>(fun h=>⟨h.1,h.2.1,h.2.2.1⟩) (rdOk_int (p:=.i32) (.inr (.inr (.inl ⟨rfl,rfl⟩))) rfl h)
 eU:=fun _=>fn69.ent
 cU:=fun _ w S R r hR hRS=>uv_calls kt fn89 (by omega) fn69 (by omega) hR hRS
 eS:=fun _=>fn71.ent
 cS:=fun _ w S R r k hR hRS=>span_calls kt fn71 (by omega) hR hRS
 dStr:=by kernel_rfl
 vStr:=varB_ok kr
 zStr:=zeroOf_ok kr
def tn:TN:={ tTags:=60,tM:=58,tKs:=91,tU32:=53,tInt:=3,tSl:=22,fSort:=92,fLess:=93,fEach:=82,fOne:=83,fUv:=40 }
theorem fn82:FnIs Tryz.prog 82 53 [] (cEach tn):=fnIs_of Tryz.func82 kr kr kr kr
theorem fn93:FnIs Tryz.prog 93 15 [5] (cTLess tn):=fnIs_of Tryz.func93 kr kr kr kr
theorem fn42:FnIs Tryz.prog 42 9 [4] (cTEach tn):=fnIs_of Tryz.func42 kr kr kr kr
theorem fn83:FnIs Tryz.prog 83 16 [] (cTOne tn):=fnIs_of Tryz.func83 kr kr kr kr
theorem tf:TF Tryz.prog tn where
 map:=⟨53,22,by kernel_rfl,by kernel_rfl⟩
 fld:=fldB_ok kr
 sl:=by kernel_rfl
 info:=infoB_ok kr
 vU:=varB_ok kr
 vK:=varB_ok kr
 zK:=zeroOf_ok kr
 dInt:=by kernel_rfl
 dU32:=by kernel_rfl
theorem sortOk:SortOk Tryz.prog tn:=sortOk_of (it:=(Tryz.prog.info? 91).get kr) (ie:=(Tryz.prog.info? 53).get kr) (ke:=10) (f1:=101) (f2:=102) (f6:=106) mixed tf Tryz.sa6 rfl (enters_of Tryz.func92 kr rfl) fn93 (by omega) kr kr kr kr (fun _=>by kernel_rfl) kr kr kr fn93.ent kr kr kr (fun args W=>run_callFunc_extern Tryz.func106 kr kr kr (e:=Extern.ReflectliteSwapper.swap true) kr args W)
theorem setOk:SetOk Tryz.prog numbers.set:=fun _ _ _ _ _ _ _ _ _ _ hk hB hO ht hv=>set_calls (tM:=58) (kt:=53) (et:=22) mixed fn70 (by omega) kr kr (fldB_ok kr) hk hB hO ht hv
def av:PF->Bool
 | .i8=>true
 | .i16=>true
 | .i32=>true
 | .i64=>true
 | .uuid=>true
 | .str=>true
 | .cstr=>true
 | .nstr=>true
 | .cnstr=>true
 | _=>false
theorem rdAll:∀ p,av p=true->RdOk Tryz.prog numbers.tR p (numbers.rd p):=by
 intro p h
 cases p
 ·cases h
 ·exact rdOk_i8 kt rfl fn56 (by omega)
 ·exact rdOk_i16 kt kbig rfl fn87 (by omega)
 ·cases h
 ·exact rdOk_i32 kt kbig rfl fn55 (by omega)
 ·exact rdOk_i64 kt kbig rfl fn88 (by omega) fn68 (by omega)
 ·exact rdOk_uuid kt ksub rfl (varB_ok kr) (zeroOf_ok kr) kr fn66 (by omega)
 ·exact rdOk_str kt ksub rfl rfl fn65 (by omega)
 ·exact rdOk_cstr kt ksub rfl rfl fn64 (by omega)
 ·exact rdOk_nstr kt ksub rfl rfl fn77 (by omega)
 ·exact rdOk_cnstr kt ksub rfl rfl fn75 (by omega)
 ·cases h
 ·cases h
 ·cases h
 ·cases h
theorem kb:KB Tryz.prog numbers av true where
 mixed:=mixed
 rdE p h:=(rdAll p h).1
 rdC p h:=(rdAll p h).2
 i8C:=fun _ w S R r hR hRS=>(i8_calls kt rfl fn56 (by omega) hR hRS).mono fun e w' h=>(fun h=>⟨h.1,h.2.1,h.2.2.1⟩) (rdOk_int (p:=.i8) (.inl ⟨rfl,rfl⟩) rfl h)
 okE:=fun _=>fn59.ent
 okC:=fun _ w S R r hR=>ok_calls kt fn59 (by omega) hR
 cmE:=fn60.ent
 cmC w S R r hR he:=complete_calls kt fn60 (by omega) (varB_ok kr) hR he
 lenE:=fun _=>fn58.ent
 lenC:=fun _ w S R r hR hRS=>len_calls kt ksub rfl fn58 (by omega) hR hRS
 clenE:=fun _ _=>fn57.ent
 clenC:=fun _ _ w S R r hR hRS=>clen_calls kt ksub rfl fn57 (by omega) hR hRS
 uvE:=fun _=>fn69.ent
 uvC:=fun _ w S R r hR hRS=>ksub.cU rfl w S R r hR hRS
 spanE:=fun _=>fn71.ent
 spanC:=fun _ w S R r k _ _ hR hRS=>ksub.cS rfl w S R r k hR hRS
 tagsE:=fun _=>fn72.ent
 tagsC:=fun _ w S R r hR hRS hS=>rdTags_calls kt ksub rfl rfl rfl fn70.ent setOk (zeroOf_ok kr) (varB_ok kr) fn72 (by omega) hR hRS hS
 setE:=fun _=>fn70.ent
 setC:=fun _=>setOk
 fR:=twoB_ok kr
 zR:=zeroOf_ok kr
 vR:=varB_ok kr
 uuid:=fun _=>⟨varB_ok kr,zeroOf_ok kr⟩
 tI32:=by kernel_rfl
 tU32:=fun _=>by kernel_rfl
 tInt:=by kernel_rfl
 vStr:=⟨varB_ok kr,zeroOf_ok kr⟩
 vTags:=fun _=>varB_ok kr
 tErr:=fun _=>ifaceB_ok kr
theorem env:Env Tryz.prog numbers av true dd:=⟨kb,ddOk⟩
theorem oct:OctT Tryz.prog kn.tSl kn.tU8:=octB_ok kr
theorem wt:WT Tryz.prog kn where
 mixed:=mixed
 oct:=oct
 dU8:=by kernel_rfl
 dI8:=fun _=>by kernel_rfl
 dI16:=by kernel_rfl
 dU16:=fun _=>by kernel_rfl
 dI32:=by kernel_rfl
 dU32:=by kernel_rfl
 dInt:=by kernel_rfl
 dI64:=fun _=>by kernel_rfl
 dU64:=fun _=>by kernel_rfl
 dStr:=by kernel_rfl
 vStr:=varB_ok kr
theorem uvC (x:Nat)(w:World)(h:x<4294967296):ApC Tryz.prog kn.tU8 numbersW.uv (.int .u32 x) (uvar x) w:=ap_uv wt kr fn91 (by omega) fn81 (by omega) fn40 (by omega) h w
theorem i16C (x:Int)(w:World):ApC Tryz.prog kn.tU8 79 (.int .i16 x) (be 2 x) w:=ap_i16 wt rfl fn90 (by omega) fn79 (by omega) x w
theorem i32C (x:Int)(w:World):ApC Tryz.prog kn.tU8 32 (.int .i32 x) (be 4 x) w:=ap_i32 wt fn78 (by omega) fn32 (by omega) x w
def avw:PF->Bool
 | .i8=>true
 | .i16=>true
 | .u16=>true
 | .i32=>true
 | .i64=>true
 | .uuid=>true
 | .str=>true
 | .cstr=>true
 | .nstr=>true
 | .cnstr=>true
 | _=>false
theorem apAll:∀ p,avw p=true->AppOk Tryz.prog kn.tU8 p (numbersW.ap p):=by
 intro p h
 cases p
 ·cases h
 ·exact app_i8 wt rfl fn33 (by omega)
 ·exact app_i16 wt rfl fn90 (by omega) fn79 (by omega)
 ·exact app_u16 wt rfl fn90 (by omega)
 ·exact app_i32 wt fn78 (by omega) fn32 (by omega)
 ·exact app_i64 wt rfl rfl fn80 (by omega) fn39 (by omega)
 ·exact app_uuid wt (varB_ok kr) kr fn38 (by omega)
 ·exact app_str wt (app_i16 wt rfl fn90 (by omega) fn79 (by omega)) i16C fn37 (by omega)
 ·exact app_cstr wt fn40.ent (fun x w h=>uvC x w h) fn36 (by omega)
 ·exact app_nstr wt (fx:=false) rfl kr fn79.ent (fun w=>i16C (-1) w) (app_str wt (app_i16 wt rfl fn90 (by omega) fn79 (by omega)) i16C fn37 (by omega)) fn47 (by omega)
 ·exact app_nstr wt (fx:=true) rfl kr fn40.ent (fun w=>uvC 0 w (by omega)) (app_cstr wt fn40.ent (fun x w h=>uvC x w h) fn36 (by omega)) fn46 (by omega)
 ·cases h
 ·cases h
 ·cases h
 ·cases h
def sn:SN:={ tInt:=3,tI64:=2,tU8:=5,tU64:=74,tU32:=53,tU16:=27,tB:=4,tSl:=22,tF:=46,tFs:=31,tT:=26,tTs:=23,tG:=55,tGs:=24,tMs:=33,fPart:=13,fHas:=22,fField:=23,fAt:=24,fKnown:=25,fUsual:=26,fUv:=27,fUnk:=28,fWhole:=29,fNull:=48,fThings:=49,fCnt:=50,fVal:=51,fFix:=52,fWid:=54,fWrite:=6,fSame:=53,fZ2:=4,fZ3:=10,fZ4:=20 }
def zt:ZT:={ tTags:=60,tM:=58,tB:=4,tInt:=3,tN:=0 }
noncomputable def tsB:Code:=tsBody (Tryz.f84.body.map nCode)
theorem fn84:FnIs Tryz.prog 84 56 [4] (cTS zt tsB):=fnIs_of Tryz.func84 kr kr kr kr
theorem tsC:TsC Tryz.prog 84:=ts_calls (kt:=53) (et:=22) mixed fn84 kr kr (fldB_ok kr)
def zsn0:ZS:={ T:=62,kt:=2,tTags:=60,fTS:=84 }
theorem fn43:FnIs Tryz.prog 43 24 [4] (cZS zsn0 (0,21,0,(some .i32),(-1)) [(1,2,1,(some .i64),(-1))]):=fnIs_of Tryz.func43 kr kr kr kr
def ke0:KE:={ fK:=0,fB:=0,fA:=0,fN:=44,fRd:=0,fAp:=0,fDf:=45,tM:=62,tE:=0,most:=0 }
noncomputable def zv0:Value:=(zeroOf Tryz.prog 62).getD undef
noncomputable def zz0:Array Value:=applyWr zv0.cells 0 dw45
theorem fn44:FnIsC Tryz.prog 44 4 0 62 (cNwv sn ke0):=fnIsC_of Tryz.func44 kr kr kr kr
theorem zvO0:∀ w,(zeroValue 62).run Tryz.prog w=.ok zv0 w:=zeroOf_ok kr
theorem nw0:NwC Tryz.prog 44 zz0:=nwv_calls (S:=sn) (N:=ke0) (wr:=dw45) mixed fn44 zvO0 df45.1 df45.2 (fun p hp=>by simpa using List.all_eq_true.1 (show(dw45.all fun p=>decide (p.1<zv0.cells.size))=true by kernel_rfl) p hp) rfl (varB_ok (sz:=3) kr) kr (fun u hu=>List.all_eq_true.1 (show(zz0.toList.all Value.oneCell')=true by kernel_rfl) u hu) kr
theorem smOk0:SmC Tryz.prog sm0:=smC_of mixed (z:=zsn0) fn43 (by decide) rfl fn84.ent tsC kr kr kr rfl kr ⟨zv0,by kernel_rfl,zvO0⟩ fn44.ent nw0 kr
theorem smAll:∀ s∈numbersW.sm,SmC Tryz.prog s:=by
 intro s hs;have hs:s∈[sm0]:=hs;simp only[List.mem_cons,List.not_mem_nil,or_false]at hs
 rcases hs with rfl
 ·exact smOk0
theorem kw:KW Tryz.prog numbersW avw true false kn.tU8 where
 mixed:=mixed
 oct:=oct
 dInt:=by kernel_rfl
 dU32:=fun _=>by kernel_rfl
 apE p h:=(apAll p h).1
 apC p h:=(apAll p h).2
 alE:=fun _=>fn35.ent
 alC:=fun _ n w=>ap_len wt fn32.ent i32C fn35 (by omega) n w
 clE:=fun _ _=>fn34.ent
 clC:=fun _ _ n w=>ap_clen wt fn40.ent (fun x w h=>uvC x w h) fn34 (by omega) n w
 nlE:=fun h=>absurd h (by decide)
 nlC:=fun h=>absurd h (by decide)
 cnE:=fun h=>absurd h (by decide)
 cnC:=fun h=>absurd h (by decide)
 uvE:=fun _=>fn40.ent
 uvC:=fun _ x w h=>uvC x w h
 tlE:=fun _=>fn41.ent
 tlC:=fun _ w b o m X t hc ht=>tlen_calls (kt:=53) (et:=22) mixed kr (fldB_ok kr) fn41 (by omega) hc ht
 teE:=fun _=>fn42.ent
 teC:=fun _ w b o m L t d bs hc hb ht hd hL hlim=>teach_calls mixed tf sortOk oct (varB_ok kr) fn40.ent (fun x w h=>uvC x w h) fn82 (by omega) fn83 (by omega) fn42 (by omega) hc hb ht hd hL hlim
 smC:=smAll
 uuid:=fun _=>⟨varB_ok kr,zeroOf_ok kr⟩
noncomputable def zv:Value:=(zeroOf Tryz.prog 67).getD undef
noncomputable def zz:Array Value:=applyWr zv.cells 0 dw21
theorem msg:MsgC Tryz.prog numbers.gErr kn.tU8 false true 12 fsFetchRequest (some 15) 67 zz 11 17 18 19:=
 msgC_of (cx:=⟨true,7,10,8,9⟩) (cw:=⟨true,0,0,5,6⟩) (nm:=nmFetchRequest) (ms:=nwFetchRequest) (tI16:=40) env kw (by decide) (by decide) rfl rfl fn11 (by omega) fn17 (by omega) fn18 (by omega) fn31 (by omega) fn19 kr kr rfl (of_decide_eq_true kr) kr kr rfl kr kr
theorem sf_fPart:FnIs Tryz.prog sn.fPart 132 [8] (csPt sn):=fnIs_of Tryz.func13 kr kr kr kr
theorem sf_fHas:FnIs Tryz.prog sn.fHas 20 [4] (csHs sn):=fnIs_of Tryz.func22 kr kr kr kr
theorem sf_fField:FnIs Tryz.prog sn.fField 76 [8] (csFl sn):=fnIs_of Tryz.func23 kr kr kr kr
theorem sf_fAt:FnIsC Tryz.prog sn.fAt 16 4 26 (csAt sn):=fnIsC_of Tryz.func24 kr kr kr kr
theorem sf_fKnown:FnIs Tryz.prog sn.fKnown 23 [2] (csKw sn):=fnIs_of Tryz.func25 kr kr kr kr
theorem sf_fUv:FnIs Tryz.prog sn.fUv 20 [2] (csUvr sn):=fnIs_of Tryz.func27 kr kr kr kr
theorem sf_fUnk:FnIs Tryz.prog sn.fUnk 85 [4] (csUn sn):=fnIs_of Tryz.func28 kr kr kr kr
theorem sf_fWhole:FnIs Tryz.prog sn.fWhole 8 [2] (csWh sn):=fnIs_of Tryz.func29 kr kr kr kr
theorem sf_fNull:FnIs Tryz.prog sn.fNull 20 [6] (csNu sn):=fnIs_of Tryz.func48 kr kr kr kr
theorem sf_fThings:FnIs Tryz.prog sn.fThings 8 [2] (csTh sn):=fnIs_of Tryz.func49 kr kr kr kr
theorem sf_fCnt:FnIs Tryz.prog sn.fCnt 28 [8] (csCn sn):=fnIs_of Tryz.func50 kr kr kr kr
theorem sf_fVal:FnIs Tryz.prog sn.fVal 70 [12] (csVa sn):=fnIs_of Tryz.func51 kr kr kr kr
theorem sf_fFix:FnIs Tryz.prog sn.fFix 22 [4] (csFi sn):=fnIs_of Tryz.func52 kr kr kr kr
theorem sf_fWid:FnIs Tryz.prog sn.fWid 11 [2] (csWd sn):=fnIs_of Tryz.func54 kr kr kr kr
theorem sf_fWrite:FnIs Tryz.prog sn.fWrite 21 [6] (csWr sn):=fnIs_of Tryz.func6 kr kr kr kr
theorem sf_fUsual:FnIs Tryz.prog sn.fUsual 91 [4] (csUs sn):=fnIs_of Tryz.func26 kr kr kr kr
theorem sf_fZ2:FnIs Tryz.prog sn.fZ2 15 [2] (csZ2 sn):=fnIs_of Tryz.func4 kr kr kr kr
theorem sf_fZ3:FnIs Tryz.prog sn.fZ3 18 [2] (csZ3 sn):=fnIs_of Tryz.func10 kr kr kr kr
theorem sf_fZ4:FnIs Tryz.prog sn.fZ4 7 [2] (csZ4 sn):=fnIs_of Tryz.func20 kr kr kr kr
theorem rt:RefT Tryz.prog sn where
 mixed:=mixed
 dInt:=by kernel_rfl
 dI64:=by kernel_rfl
 dU8:=by kernel_rfl
 dU32:=by kernel_rfl
 dU64:=by kernel_rfl
 oct:=oct
 dTs:=by kernel_rfl
 dGs:=by kernel_rfl
 dFs:=by kernel_rfl
 vI64:=varB_ok kr
 vU8:=varB_ok kr
 vT:=varB_ok kr
 vF:=varB_ok kr
 vG:=varB_ok kr
 vM:=varB_ok kr
 t0:=fldB_ok kr
 t1:=fldB_ok kr
 t2:=fldB_ok kr
 t3:=fldB_ok kr
 t4:=fldB_ok kr
 f0:=fldB_ok kr
 f1:=fldB_ok kr
 f2:=fldB_ok kr
 f3:=fldB_ok kr
 f4:=fldB_ok kr
 f5:=fldB_ok kr
 f6:=fldB_ok kr
 f7:=fldB_ok kr
 g0:=fldB_ok kr
 g1:=fldB_ok kr
 m0:=fldB_ok kr
 m1:=fldB_ok kr
 zT:=zeroOf_ok kr
 zF:=zeroOf_ok kr
 zG:=zeroOf_ok kr
 zM:=zeroOf_ok kr
 z8:=z8_ok kr
 bT:=fun w=>by kernel_rfl
 bG:=fun w=>by kernel_rfl
 bSG:=fun w=>by kernel_rfl
 iG:=iG_ok kr
theorem leaf:LeafC Tryz.prog sn:=leafC_of rt (varB_ok kr) sf_fUv sf_fFix sf_fCnt sf_fWid sf_fWhole sf_fThings sf_fHas sf_fNull sf_fKnown sf_fAt sf_fUnk
theorem trees:TreT Tryz.prog sn where
 tab:=rt
 cT:=by kernel_rfl
 cG:=by kernel_rfl
 cI:=by kernel_rfl
 cSl:=by kernel_rfl
 cB:=by kernel_rfl
 cTs:=by kernel_rfl
 cGs:=by kernel_rfl
 cU:=by kernel_rfl
 c8:=by kernel_rfl
 dB:=by kernel_rfl
 nT:=by kernel_rfl
 nG:=by kernel_rfl
def ln:LN:={ fM:=5,fB:=7,fV:=8,fA:=9 }
def it14:List BI:=[([(0,3),(2,-1),(3,-1),(4,-1),(5,-1)],none),([(0,4),(2,-1),(3,-1),(4,-1),(5,-1)],none)]
def ss14:SFs:=.cons 3 0 (-1) (-1) (-1) (-1) 0 .nil (.cons 4 0 (-1) (-1) (-1) (-1) 0 .nil (.nil))
theorem fi14:FnIs Tryz.prog 14 4 [0] (cSub sn it14):=fnIs_of Tryz.func14 kr kr kr kr
theorem sb14:Ent Tryz.prog 14/\BuildC Tryz.prog 14 ss14:=sub_calls rt fi14 (of_decide_eq_true kr) ⟨fun w=>by kernel_rfl,rfl,⟨fun w=>by kernel_rfl,rfl,trivial⟩⟩ (fun sv w=>by kernel_rfl) rfl (of_decide_eq_true kr)
def it30:List BI:=[([(0,3),(2,-1),(3,-1),(4,-1)],none),([(0,3),(1,9),(2,-1),(3,-1),(4,-1),(5,-1)],none),([(0,4),(2,-1),(3,-1),(4,-1)],none),([(0,3),(1,12),(2,-1),(3,-1),(4,-1),(5,-1)],none),([(0,4),(1,5),(2,-1),(3,-1),(4,-1),(5,-1)],none),([(0,3),(2,-1),(3,-1),(4,-1)],none),([(0,7),(2,-1),(3,-1),(4,0)],none),([(0,4),(2,-1),(3,-1),(4,1),(5,9223372036854775807)],none)]
def ss30:SFs:=.cons 3 0 (-1) (-1) (-1) 0 0 .nil (.cons 3 9 (-1) (-1) (-1) (-1) 0 .nil (.cons 4 0 (-1) (-1) (-1) 0 0 .nil (.cons 3 12 (-1) (-1) (-1) (-1) 0 .nil (.cons 4 5 (-1) (-1) (-1) (-1) 0 .nil (.cons 3 0 (-1) (-1) (-1) 0 0 .nil (.cons 7 0 (-1) (-1) 0 0 0 .nil (.cons 4 0 (-1) (-1) 1 9223372036854775807 0 .nil (.nil))))))))
theorem fi30:FnIs Tryz.prog 30 10 [0] (cSub sn it30):=fnIs_of Tryz.func30 kr kr kr kr
theorem sb30:Ent Tryz.prog 30/\BuildC Tryz.prog 30 ss30:=sub_calls rt fi30 (of_decide_eq_true kr) ⟨fun w=>by kernel_rfl,rfl,⟨fun w=>by kernel_rfl,rfl,⟨fun w=>by kernel_rfl,rfl,⟨fun w=>by kernel_rfl,rfl,⟨fun w=>by kernel_rfl,rfl,⟨fun w=>by kernel_rfl,rfl,⟨fun w=>by kernel_rfl,rfl,⟨fun w=>by kernel_rfl,rfl,trivial⟩⟩⟩⟩⟩⟩⟩⟩ (fun sv w=>by kernel_rfl) rfl (of_decide_eq_true kr)
def it15:List BI:=[([(0,8),(2,12),(3,-1),(4,-1)],none),([(0,7),(1,13),(2,-1),(3,-1),(4,-1)],none),([(0,11),(2,-1),(3,-1),(4,-1),(6,10)],some 30)]
def ss15:SFs:=.cons 8 0 12 (-1) (-1) 0 0 .nil (.cons 7 13 (-1) (-1) (-1) 0 0 .nil (.cons 11 0 (-1) (-1) (-1) 0 10 ss30 (.nil)))
theorem fi15:FnIs Tryz.prog 15 6 [0] (cSub sn it15):=fnIs_of Tryz.func15 kr kr kr kr
theorem sb15:Ent Tryz.prog 15/\BuildC Tryz.prog 15 ss15:=sub_calls rt fi15 (of_decide_eq_true kr) ⟨fun w=>by kernel_rfl,rfl,⟨fun w=>by kernel_rfl,rfl,⟨fun base n c w=>by kernel_rfl,sb30,trivial⟩⟩⟩ (fun sv w=>by kernel_rfl) rfl (of_decide_eq_true kr)
def it16:List BI:=[([(0,8),(1,7),(2,12),(3,-1),(4,-1)],none),([(0,7),(1,13),(2,-1),(3,-1),(4,-1)],none),([(0,11),(2,-1),(3,-1),(4,-1),(6,3)],none)]
def ss16:SFs:=.cons 8 7 12 (-1) (-1) 0 0 .nil (.cons 7 13 (-1) (-1) (-1) 0 0 .nil (.cons 11 0 (-1) (-1) (-1) 0 3 .nil (.nil)))
theorem fi16:FnIs Tryz.prog 16 5 [0] (cSub sn it16):=fnIs_of Tryz.func16 kr kr kr kr
theorem sb16:Ent Tryz.prog 16/\BuildC Tryz.prog 16 ss16:=sub_calls rt fi16 (of_decide_eq_true kr) ⟨fun w=>by kernel_rfl,rfl,⟨fun w=>by kernel_rfl,rfl,⟨fun w=>by kernel_rfl,rfl,trivial⟩⟩⟩ (fun sv w=>by kernel_rfl) rfl (of_decide_eq_true kr)
def itM:List BI:=[([(0,8),(2,-1),(3,0),(4,0)],none),([(0,3),(2,14),(3,-1),(4,-1),(5,-1)],none),([(0,10),(2,-1),(3,-1),(4,1)],some 14),([(0,3),(2,-1),(3,-1),(4,-1)],none),([(0,3),(2,-1),(3,-1),(4,-1)],none),([(0,3),(1,3),(2,-1),(3,-1),(4,-1),(5,2147483647)],none),([(0,1),(1,4),(2,-1),(3,-1),(4,-1)],none),([(0,3),(1,7),(2,-1),(3,-1),(4,-1)],none),([(0,3),(1,7),(2,-1),(3,-1),(4,-1),(5,-1)],none),([(0,11),(2,-1),(3,-1),(4,-1),(6,10)],some 15),([(0,11),(1,7),(2,-1),(3,-1),(4,-1),(6,10)],some 16),([(0,8),(1,11),(2,-1),(3,-1),(4,-1)],none)]
def ssM:SFs:=.cons 8 0 (-1) 0 0 0 0 .nil (.cons 3 0 14 (-1) (-1) (-1) 0 .nil (.cons 10 0 (-1) (-1) 1 0 0 ss14 (.cons 3 0 (-1) (-1) (-1) 0 0 .nil (.cons 3 0 (-1) (-1) (-1) 0 0 .nil (.cons 3 3 (-1) (-1) (-1) 2147483647 0 .nil (.cons 1 4 (-1) (-1) (-1) 0 0 .nil (.cons 3 7 (-1) (-1) (-1) 0 0 .nil (.cons 3 7 (-1) (-1) (-1) (-1) 0 .nil (.cons 11 0 (-1) (-1) (-1) 0 10 ss15 (.cons 11 7 (-1) (-1) (-1) 0 10 ss16 (.cons 8 11 (-1) (-1) (-1) 0 0 .nil (.nil))))))))))))
theorem fiM:FnIsC Tryz.prog 7 18 0 sn.tMs (cMsgB sn 12 itM):=fnIsC_of Tryz.func7 kr kr kr kr
theorem sbM:Ent Tryz.prog 7/\MsgBC Tryz.prog 7 12 ssM:=msgb_calls rt (fun x base n c w=>by kernel_rfl) fiM (of_decide_eq_true kr) ⟨fun w=>by kernel_rfl,rfl,⟨fun w=>by kernel_rfl,rfl,⟨fun base n c w=>by kernel_rfl,sb14,⟨fun w=>by kernel_rfl,rfl,⟨fun w=>by kernel_rfl,rfl,⟨fun w=>by kernel_rfl,rfl,⟨fun w=>by kernel_rfl,rfl,⟨fun w=>by kernel_rfl,rfl,⟨fun w=>by kernel_rfl,rfl,⟨fun base n c w=>by kernel_rfl,sb15,⟨fun base n c w=>by kernel_rfl,sb16,⟨fun w=>by kernel_rfl,rfl,trivial⟩⟩⟩⟩⟩⟩⟩⟩⟩⟩⟩⟩ (fun sv w=>by kernel_rfl) rfl (of_decide_eq_true kr)
theorem smR:FnIs Tryz.prog sn.fSame 26 [4] (cSame sn.tSl sn.tU8 sn.tInt):=fnIs_of Tryz.func53 kr kr kr kr
theorem ktc:KtC Tryz.prog sn:=ktC_of rt sf_fAt sf_fKnown.ent leaf.knC sf_fUnk sf_fUsual.ent smR (by omega) (varB_ok kr) (by decide)
theorem lawC:LawC Tryz.prog sn ln numbers.gErr 18 12 ssM (fun x l=>againOut false true 12 fsFetchRequest x l) (okInL true 12 fsFetchRequest 18):=
 lawC_of (tI16:=40) (tErr:=50) rt msg kr (ifaceB_ok kr) (.inl kr) fn9 (by omega) fn8 (by omega) (ntSm:=26) (.inr fn53) (by omega) fn5 (by omega) fn12 (by omega) (by decide) sf_fZ4 sf_fZ3 sf_fZ2 sbM sf_fWrite sf_fPart.ent (ref_callsT leaf ktc sf_fPart sf_fField sf_fVal sf_fUsual ssM kr).1
theorem fnL:FnIs Tryz.prog 3 56 [6] (cLcu sn ln):=fnIs_of Tryz.func3 kr kr kr kr
theorem law {W:World}{x0 x2 k:Nat}{cs:List Value}{t:Tr}(hx:x0<256)(hx2:x2<65536)(ht:TrRp W k cs t)(hw:t.wt<=1048576)(herr:ErrAt numbers.gErr W):Calls Tryz.prog 3 [.int .u8 (x0:Int),.agg cs.toArray,.int .u16 (x2:Int)].toArray W (TrueC W):=
 cut_lawGP lawC kr kr fnL hx hx2 ht herr (fun v=>k_limG kr hw v _)
end Go.Proofs.YtnpdpnmomihkkaaGreatDoor.Kx
