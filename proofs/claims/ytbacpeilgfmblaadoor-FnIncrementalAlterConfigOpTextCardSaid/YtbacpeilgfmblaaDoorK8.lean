/-
  PLAIN LAWS AND CONTRACTS of messages, part 8 of 8: how readers and writers are printed, what they do, what the reference writes, and that what is written is read as the same. Nothing of a statement stands here.
-/
import Derived.Test.YtbacpeilgfmblaaDoorK1
import Derived.Test.YtbacpeilgfmblaaDoorK2
import Derived.Test.YtbacpeilgfmblaaDoorK3
import Derived.Test.YtbacpeilgfmblaaDoorK4
import Derived.Test.YtbacpeilgfmblaaDoorK6
import Derived.Test.YtbacpeilgfmblaaDoorK7
import Derived.KernelRfl
import Derived.Laws.IdiomStrings
import Derived.MapFrom
import Derived.Laws.MakeOwn
import Derived.Maps.RangeRun
import Derived.ChangeKeysEq
import Derived.Lib.ConvBytes
import Derived.OpenShut
import Derived.ChangeSlices
import Derived.Lib.SmallJoins
import Derived.Lib.Space
import Derived.Shelf.Strings.OnBuilder

namespace Go.Proofs.YtbacpeilgfmblaaDoor.Kx
open Go
set_option maxRecDepth 4000
section
variable {P:Program} {S:SN}
section
variable {ops:Array Oper} {Q:Exit->Act->World->Prop} {r:List Oper} {n:Nat} {a:Act} {w:World} {l:List (Nat × Value)}
theorem sg_call (h:St n a l) {d j jd f:Nat} {b:Bool} {o:Oper} {args:List Operand} {vs:List Value} {R:Ending->World->Prop} (ho:ops[j]?=some o) (hod:o.dst=some jd) (hj:l.lookup jd=some (.bool b)) (hjn:jd < n) (hf:Ent P f) (hargs:∀ (n:Nat) (a:Act),St n a l->args.map a.eval=vs) (hc:Calls P f vs.toArray w R) (hd:d < n)
  (c:∀ e w',R e w'->∃ v,e=.returned v/\∀ a',St n a' ((d,v) :: l)->wpList P ops Q r a' w'):wpList P ops Q (gd d (.call ⟨.value (.func f),args.toArray,#[]⟩) j b :: r) a w:=by
 refine wg_run (yielded_of ho hod (by rw [h.size];exact hjn) (h.get _ _ hj)) ?_
 unfold Oper.wp
 have : (execOp a.eval (⟨some d, .call ⟨.value (.func f), args.toArray, #[]⟩, 0, "", #[], some (j, b)⟩ : Oper)).run P w = .ok (.enter f vs.toArray) w := by
  have he:a.eval (.func f)=.func (.func f) #[] #[]:=rfl
  have ha2:(args.map a.eval).toArray=vs.toArray:=by rw [hargs n a h]
  simp only [execOp,resolve,he,Deferred.ofValue,invoke,Sem.run_bind,Sem.run_pure,Result.andThen_ok,Array.empty_append,Array.append_empty,List.map_toArray,ha2]
  exact hf _ _
 rw [this]
 exact hc.mono fun e w' hR=>by
  obtain ⟨v,rfl,hk⟩:=c e w' hR
  exact hk _ (h.put _ hd)
end
end
end Go.Proofs.YtbacpeilgfmblaaDoor.Kx

namespace Go.Proofs.YtbacpeilgfmblaaDoor.Kx
open Go
set_option maxRecDepth 4000
structure TgE where
 k:UInt32
 v:Value
 b:Bs
def OutAt (w:World) (L tG:Nat) (v:Value) (es:List TgE):Prop:=
 (v=nilS/\es=[]) \/
 ∃ (g c:Nat) (cur:Array Value),v=.slice (some ⟨g,0,none⟩) es.length c/\L<=g/\w.heap[g]?=some (.cells cur tG (0,0))/\es.length<=c/\c<=maxLen/\cur.size=c * 2/\∀ i e,es[i]?=some e->cur[i * 2]?=some (.int .u32 (e.k.toNat:Int))/\cur[i * 2 + 1]?=some e.v
theorem OutAt.own {w:World} {L tG:Nat} {v:Value} {es:List TgE} (h:OutAt w L tG v es) {k:Nat} (hk:v.ownBlock=some k):L<=k/\k < w.heap.size:=by
 rcases h with ⟨rfl,_⟩ | ⟨g,c,cur,rfl,hL,hg,_⟩
 ·cases hk
 ·obtain rfl:g=k:=Option.some.inj hk
  exact ⟨hL,(Array.getElem?_eq_some_iff.1 hg).1⟩
theorem OutAt.get {w:World} {L tG:Nat} {v:Value} {es:List TgE} (h:OutAt w L tG v es) {i:Nat} {e:TgE} (hi:es[i]?=some e):∃ g c,v=.slice (some ⟨g,0,none⟩) es.length c/\i < es.length/\qe_ w g (0 + i * 2) [.int .u32 (e.k.toNat:Int),e.v]:=by
 rcases h with ⟨_,rfl⟩ | ⟨g,c,cur,rfl,_,hg,_,_,_,hat⟩
 ·simp at hi
 ·obtain ⟨h1,h2⟩:=hat i e hi
  refine ⟨g,c,rfl,(List.getElem?_eq_some_iff.1 hi).1,fun j x hj=>?_⟩
  have hcell:∀ o,w.cell? ⟨g,o,none⟩=cur[o]?:=fun o=>by simp [World.cell?,hg]
  rw [hcell]
  match j,hj with
  | 0,hj=>simp only [List.getElem?_cons_zero,Option.some.injEq] at hj;subst hj;simpa using h1
  | 1,hj=>simp only [List.getElem?_cons_succ,List.getElem?_cons_zero,Option.some.injEq] at hj;subst hj;simpa using h2
  | j + 2,hj=>simp at hj
section
variable {P:Program} {ops:Array Oper} {C:World->Prop} {Q:Act->Prop} {r:List Oper} {n:Nat} {a:Act} {l:List (Nat × Value)}
variable {w:World}
end
end Go.Proofs.YtbacpeilgfmblaaDoor.Kx

namespace Go.Proofs.YtbacpeilgfmblaaDoor.Kx
open Go
set_option maxRecDepth 100000
structure CN where
 tStr:Nat
 tInt:Nat
 tB:Nat
 tSl:Nat
 tU8:Nat
 tI8:Nat
 tOp:Nat
 tErr:Nat
 tNs:Nat
 tNm:Nat
 fNs:Nat
 fWd:Nat
 fTx:Nat
 fSt:Nat
 fPs:Nat
 fOf:Nat
 fKs:Nat
 fKm:Nat
 fKp:Nat
 fKu:Nat
 fNo:Nat
 fRe:Nat
 fIx:Nat
 fTr:Nat
 fLo:Nat
 fEr:Nat
def oNs_0 (_N:CN):List Oper:=[mk (some 0) (.assign (.const nilS))]
def oNs_1 (N:CN):List Oper:=[mk (some 1) (.build N.tNm #[(0,(ki .i64 0)),(1,(.const (strV [83,69,84])))]),mk (some 2) (.build N.tNm #[(0,(ki .i64 1)),(1,(.const (strV [68,69,76,69,84,69])))]),mk (some 3) (.build N.tNm #[(0,(ki .i64 2)),(1,(.const (strV [65,80,80,69,78,68])))]),mk (some 4) (.build N.tNm #[(0,(ki .i64 3)),(1,(.const (strV [83,85,66,84,82,65,67,84])))]),mk (some 5) (.buildSlice N.tNs 4 #[(0,(tm 1)),(1,(tm 2)),(2,(tm 3)),(3,(tm 4))]),mk (some 0) (.assign (tm 5))]
def cONs (N:CN):Code:=
 (.seq (rg (oNs_0 N))
 (.seq (rg (oNs_1 N))
 .ret))
def oWd_0 (_N:CN):List Oper:=[mk (some 4) (.assign (.const (strV []))),mk (some 5) (.assign (.const (.bool false)))]
def oWd_1 (N:CN):List Oper:=[mk (some 8) (.move (tm 0)),bi (some 9) .len [(tm 8)] [N.tNs] N.tInt,mk (some 10) (.move (ki .i64 0))]
def oWd_2 (N:CN):List Oper:=[mk (some 11) (.binOp .lss N.tInt (tm 10) (tm 9) 0)]
def oWd_3 (N:CN):List Oper:=[mk (some 12) (.indexAddr N.tNs (tm 8) (tm 10)),mk (some 13) (.load N.tNm (tm 12)),mk (some 7) (.alloc N.tNm),mk none (.store N.tNm (tm 7) (tm 13))]
def oWd_4 (N:CN):List Oper:=[mk (some 14) (.fieldAddr N.tNm (tm 7) 0),mk (some 15) (.load N.tInt (tm 14)),mk (some 16) (.move (tm 1)),mk (some 17) (.binOp .eql N.tInt (tm 15) (tm 16) 0)]
def oWd_5 (N:CN):List Oper:=[mk (some 18) (.fieldAddr N.tNm (tm 7) 1),mk (some 19) (.load N.tStr (tm 18)),mk (some 4) (.assign (tm 19)),mk (some 5) (.assign (.const (.bool true)))]
def oWd_6 (N:CN):List Oper:=[mk (some 20) (.binOp .add N.tInt (tm 10) (ki .i64 1) 0),mk (some 10) (.move (tm 20))]
def oWd_7 (_N:CN):List Oper:=[mk (some 4) (.assign (.const (strV []))),mk (some 5) (.assign (.const (.bool false)))]
def cOWd (N:CN):Code:=
 (.seq (rg (oWd_0 N))
 (.seq (.seq (rg (oWd_1 N))
  (.block 0 (.loop (.seq (rg (oWd_2 N))
  (.seq (.cond (tm 11) .skip
   (.exit 0))
  (.seq (.block 1 (.seq (rg (oWd_3 N))
   (.seq (rg (oWd_4 N))
   (.cond (tm 17) (.seq (rg (oWd_5 N))
    .ret)
   .skip))))
  (rg (oWd_6 N))))))))
 (.seq (rg (oWd_7 N))
 .ret)))
def oTx_0 (_N:CN):List Oper:=[mk (some 2) (.assign (.const nilS)),mk (some 3) (.assign (.const (.bool false)))]
def oTx_1 (N:CN):List Oper:=[mk (some 7) (.move (tm 0)),cl (some 8) N.fKm [(tm 7)],mk (some 6) (.move (tm 8)),mk (some 9) (.extract (tm 6) 0),mk (some 10) (.extract (tm 6) 1),mk (some 4) (.assign (tm 9)),mk (some 5) (.assign (tm 10))]
def oTx_2 (N:CN):List Oper:=[mk (some 11) (.move (tm 4)),bi (some 12) .append [(.const nilS),(tm 11)] [N.tSl,N.tSl] N.tSl,mk (some 13) (.move (tm 5)),mk (some 14) (.binOp .eql N.tErr (tm 13) (.const .nilIface) 0),mk (some 2) (.assign (tm 12)),mk (some 3) (.assign (tm 14))]
def cOTx (N:CN):Code:=
 (.seq (rg (oTx_0 N))
 (.seq (rg (oTx_1 N))
 (.seq (.region 1 (oTx_2 N).toArray true)
 .ret)))
def oSt_0 (_N:CN):List Oper:=[mk (some 2) (.assign (.const (strV [])))]
def oSt_1 (N:CN):List Oper:=[mk (some 3) (.move (tm 0)),cl (some 4) N.fKs [(tm 3)],mk (some 2) (.assign (tm 4))]
def cOSt (N:CN):Code:=
 (.seq (rg (oSt_0 N))
 (.seq (rg (oSt_1 N))
 .ret))
def oPs_0 (_N:CN):List Oper:=[mk (some 2) (.assign (ki .i64 0)),mk (some 3) (.assign (.const (.bool false)))]
def oPs_1 (N:CN):List Oper:=[mk (some 7) (.move (tm 0)),cl (some 8) N.fKp [(tm 7)],mk (some 6) (.move (tm 8)),mk (some 9) (.extract (tm 6) 0),mk (some 10) (.extract (tm 6) 1),mk (some 4) (.assign (tm 9)),mk (some 5) (.assign (tm 10))]
def oPs_2 (N:CN):List Oper:=[mk (some 11) (.move (tm 5)),mk (some 12) (.binOp .neq N.tErr (tm 11) (.const .nilIface) 0)]
def oPs_3 (_N:CN):List Oper:=[mk (some 2) (.assign (ki .i64 0)),mk (some 3) (.assign (.const (.bool false)))]
def oPs_4 (N:CN):List Oper:=[mk (some 13) (.move (tm 4)),mk (some 14) (.convert N.tOp N.tInt (tm 13)),mk (some 2) (.assign (tm 14)),mk (some 3) (.assign (.const (.bool true)))]
def cOPs (N:CN):Code:=
 (.seq (rg (oPs_0 N))
 (.seq (rg (oPs_1 N))
 (.seq (.seq (rg (oPs_2 N))
  (.cond (tm 12) (.seq (rg (oPs_3 N))
   .ret)
  .skip))
 (.seq (rg (oPs_4 N))
 .ret))))
def oOf_0 (_N:CN):List Oper:=[mk (some 2) (.assign (ki .i64 0)),mk (some 3) (.assign (.const (.bool false)))]
def oOf_1 (N:CN):List Oper:=[mk (some 4) (.alloc N.tOp)]
def oOf_2 (N:CN):List Oper:=[mk (some 6) (.move (tm 0)),bi (some 7) .append [(.const nilS),(tm 6)] [N.tSl,N.tSl] N.tSl,cl (some 8) N.fKu [(tm 4),(tm 7)],mk (some 5) (.assign (tm 8))]
def oOf_3 (N:CN):List Oper:=[mk (some 9) (.move (tm 5)),mk (some 10) (.binOp .neq N.tErr (tm 9) (.const .nilIface) 0)]
def oOf_4 (_N:CN):List Oper:=[mk (some 2) (.assign (ki .i64 0)),mk (some 3) (.assign (.const (.bool false)))]
def oOf_5 (N:CN):List Oper:=[mk (some 11) (.load N.tOp (tm 4)),mk (some 12) (.convert N.tOp N.tInt (tm 11)),mk (some 2) (.assign (tm 12)),mk (some 3) (.assign (.const (.bool true)))]
def cOOf (N:CN):Code:=
 (.seq (rg (oOf_0 N))
 (.seq (rg (oOf_1 N))
 (.seq (rg (oOf_2 N))
 (.seq (.seq (rg (oOf_3 N))
  (.cond (tm 10) (.seq (rg (oOf_4 N))
   .ret)
  .skip))
 (.seq (rg (oOf_5 N))
 .ret)))))
def oKs_0 (_N:CN):List Oper:=[mk (some 2) (.assign (.const (strV [])))]
def oKs_1 (_N:CN):List Oper:=[mk (some 3) (.move (tm 0))]
def oKs_2 (N:CN):List Oper:=[mk (some 5) (.binOp .eql N.tOp (tm 3) (ki .i8 0) 0),mk (some 4) (.assign (tm 5))]
def oKs_3 (_N:CN):List Oper:=[mk (some 2) (.assign (.const (strV [83,69,84])))]
def oKs_4 (N:CN):List Oper:=[mk (some 7) (.binOp .eql N.tOp (tm 3) (ki .i8 1) 0),mk (some 6) (.assign (tm 7))]
def oKs_5 (_N:CN):List Oper:=[mk (some 2) (.assign (.const (strV [68,69,76,69,84,69])))]
def oKs_6 (N:CN):List Oper:=[mk (some 9) (.binOp .eql N.tOp (tm 3) (ki .i8 2) 0),mk (some 8) (.assign (tm 9))]
def oKs_7 (_N:CN):List Oper:=[mk (some 2) (.assign (.const (strV [65,80,80,69,78,68])))]
def oKs_8 (N:CN):List Oper:=[mk (some 11) (.binOp .eql N.tOp (tm 3) (ki .i8 3) 0),mk (some 10) (.assign (tm 11))]
def oKs_9 (_N:CN):List Oper:=[mk (some 2) (.assign (.const (strV [83,85,66,84,82,65,67,84])))]
def oKs_10 (_N:CN):List Oper:=[mk (some 2) (.assign (.const (strV [85,78,75,78,79,87,78])))]
def cOKs (N:CN):Code:=
 (.seq (rg (oKs_0 N))
 (.seq (rg (oKs_1 N))
 (.block 0 (.seq (rg (oKs_2 N))
 (.cond (tm 4) (.seq (rg (oKs_3 N))
  .ret)
 (.seq (rg (oKs_4 N))
 (.cond (tm 6) (.seq (rg (oKs_5 N))
  .ret)
 (.seq (rg (oKs_6 N))
 (.cond (tm 8) (.seq (rg (oKs_7 N))
  .ret)
 (.seq (rg (oKs_8 N))
 (.cond (tm 10) (.seq (rg (oKs_9 N))
  .ret)
 (.seq (rg (oKs_10 N))
 .ret))))))))))))
def oKm_0 (_N:CN):List Oper:=[mk (some 2) (.assign (.const nilS)),mk (some 3) (.assign (.const .nilIface))]
def oKm_1 (N:CN):List Oper:=[mk (some 4) (.move (tm 0)),cl (some 5) N.fKs [(tm 4)],mk (some 6) (.convert N.tStr N.tSl (tm 5)),mk (some 2) (.assign (tm 6)),mk (some 3) (.assign (.const .nilIface))]
def cOKm (N:CN):Code:=
 (.seq (rg (oKm_0 N))
 (.seq (rg (oKm_1 N))
 .ret))
def oKp_0 (_N:CN):List Oper:=[mk (some 2) (.assign (ki .i8 0)),mk (some 3) (.assign (.const .nilIface))]
def oKp_1 (N:CN):List Oper:=[mk (some 4) (.move (tm 0)),cl (some 5) N.fNo [(tm 4)]]
def oKp_2 (N:CN):List Oper:=[mk (some 8) (.binOp .eql N.tStr (tm 5) (.const (strV [115,101,116])) 0),mk (some 7) (.assign (tm 8))]
def oKp_3 (_N:CN):List Oper:=[mk (some 2) (.assign (ki .i8 0)),mk (some 3) (.assign (.const .nilIface))]
def oKp_4 (N:CN):List Oper:=[mk (some 10) (.binOp .eql N.tStr (tm 5) (.const (strV [100,101,108,101,116,101])) 0),mk (some 9) (.assign (tm 10))]
def oKp_5 (_N:CN):List Oper:=[mk (some 2) (.assign (ki .i8 1)),mk (some 3) (.assign (.const .nilIface))]
def oKp_6 (N:CN):List Oper:=[mk (some 12) (.binOp .eql N.tStr (tm 5) (.const (strV [97,112,112,101,110,100])) 0),mk (some 11) (.assign (tm 12))]
def oKp_7 (_N:CN):List Oper:=[mk (some 2) (.assign (ki .i8 2)),mk (some 3) (.assign (.const .nilIface))]
def oKp_8 (N:CN):List Oper:=[mk (some 14) (.binOp .eql N.tStr (tm 5) (.const (strV [115,117,98,116,114,97,99,116])) 0),mk (some 13) (.assign (tm 14))]
def oKp_9 (_N:CN):List Oper:=[mk (some 2) (.assign (ki .i8 3)),mk (some 3) (.assign (.const .nilIface))]
def oKp_10 (N:CN):List Oper:=[cl (some 6) N.fEr [(.const (strV [73,110,99,114,101,109,101,110,116,97,108,65,108,116,101,114,67,111,110,102,105,103,79,112,58,32,117,110,97,98,108,101,32,116,111,32,112,97,114,115,101]))],mk (some 2) (.assign (ki .i8 0)),mk (some 3) (.assign (tm 6))]
def cOKp (N:CN):Code:=
 (.seq (rg (oKp_0 N))
 (.seq (rg (oKp_1 N))
 (.block 0 (.seq (rg (oKp_2 N))
 (.cond (tm 7) (.seq (rg (oKp_3 N))
  .ret)
 (.seq (rg (oKp_4 N))
 (.cond (tm 9) (.seq (rg (oKp_5 N))
  .ret)
 (.seq (rg (oKp_6 N))
 (.cond (tm 11) (.seq (rg (oKp_7 N))
  .ret)
 (.seq (rg (oKp_8 N))
 (.cond (tm 13) (.seq (rg (oKp_9 N))
  .ret)
 (.seq (rg (oKp_10 N))
 .ret))))))))))))
def oKu_0 (_N:CN):List Oper:=[mk (some 4) (.assign (.const .nilIface))]
def oKu_1 (N:CN):List Oper:=[mk (some 8) (.move (tm 1)),mk (some 9) (.convert N.tSl N.tStr (tm 8)),cl (some 10) N.fKp [(tm 9)],mk (some 7) (.move (tm 10)),mk (some 11) (.extract (tm 7) 0),mk (some 12) (.extract (tm 7) 1),mk (some 5) (.assign (tm 11)),mk (some 6) (.assign (tm 12))]
def oKu_2 (N:CN):List Oper:=[mk (some 13) (.move (tm 0)),mk (some 14) (.move (tm 5)),mk (some 15) (.nilCheck (tm 13)),mk none (.store N.tOp (tm 15) (tm 14))]
def oKu_3 (_N:CN):List Oper:=[mk (some 16) (.move (tm 6)),mk (some 4) (.assign (tm 16))]
def cOKu (N:CN):Code:=
 (.seq (rg (oKu_0 N))
 (.seq (rg (oKu_1 N))
 (.seq (rg (oKu_2 N))
 (.seq (rg (oKu_3 N))
 .ret))))
def oNo_0 (_N:CN):List Oper:=[mk (some 2) (.assign (.const (strV [])))]
def oNo_1 (N:CN):List Oper:=[mk (some 3) (.move (tm 0)),cl (some 4) N.fRe [(tm 3),(.const (strV [46])),(.const (strV []))],mk (some 0) (.assign (tm 4))]
def oNo_2 (N:CN):List Oper:=[mk (some 5) (.move (tm 0)),cl (some 6) N.fRe [(tm 5),(.const (strV [95])),(.const (strV []))],mk (some 0) (.assign (tm 6))]
def oNo_3 (N:CN):List Oper:=[mk (some 7) (.move (tm 0)),cl (some 8) N.fRe [(tm 7),(.const (strV [45])),(.const (strV []))],mk (some 0) (.assign (tm 8))]
def oNo_4 (N:CN):List Oper:=[mk (some 9) (.move (tm 0)),cl (some 10) N.fTr [(tm 9)],mk (some 0) (.assign (tm 10))]
def oNo_5 (N:CN):List Oper:=[mk (some 11) (.move (tm 0)),cl (some 12) N.fLo [(tm 11)],mk (some 0) (.assign (tm 12))]
def oNo_6 (_N:CN):List Oper:=[mk (some 13) (.move (tm 0)),mk (some 2) (.assign (tm 13))]
def cONo (N:CN):Code:=
 (.seq (rg (oNo_0 N))
 (.seq (rg (oNo_1 N))
 (.seq (rg (oNo_2 N))
 (.seq (rg (oNo_3 N))
 (.seq (rg (oNo_4 N))
 (.seq (rg (oNo_5 N))
 (.seq (rg (oNo_6 N))
 .ret)))))))
def oRe_0 (_N:CN):List Oper:=[mk (some 6) (.assign (.const (strV [])))]
def oRe_1 (_N:CN):List Oper:=[mk (some 7) (.assign (.const nilS))]
def oRe_2 (N:CN):List Oper:=[mk (some 11) (.move (tm 1)),bi (some 12) .len [(tm 11)] [N.tStr] N.tInt,mk (some 13) (.binOp .eql N.tInt (tm 12) (ki .i64 0) 0)]
def oRe_3 (N:CN):List Oper:=[mk (some 14) (.move (tm 7)),mk (some 15) (.move (tm 2)),bi (some 16) .append [(tm 14),(tm 15)] [N.tSl,N.tStr] N.tSl,mk (some 7) (.assign (tm 16))]
def oRe_4 (_N:CN):List Oper:=[mk (some 8) (.assign (ki .i64 0))]
def oRe_5 (N:CN):List Oper:=[mk (some 17) (.move (tm 0)),mk (some 18) (.range N.tStr (tm 17))]
def oRe_6 (_N:CN):List Oper:=[mk (some 19) (.next (tm 18) true),mk (some 20) (.extract (tm 19) 0)]
def oRe_7 (_N:CN):List Oper:=[mk (some 21) (.extract (tm 19) 1),mk (some 9) (.assign (tm 21))]
def oRe_8 (N:CN):List Oper:=[mk (some 22) (.move (tm 9)),mk (some 23) (.binOp .gtr N.tInt (tm 22) (ki .i64 0) 0)]
def oRe_9 (N:CN):List Oper:=[mk (some 24) (.move (tm 7)),mk (some 25) (.move (tm 0)),mk (some 26) (.move (tm 8)),mk (some 27) (.move (tm 9)),mk (some 28) (.slice N.tStr (tm 25) (some (tm 26)) (some (tm 27)) none),bi (some 29) .append [(tm 24),(tm 28)] [N.tSl,N.tStr] N.tSl,mk (some 30) (.move (tm 2)),bi (some 31) .append [(tm 29),(tm 30)] [N.tSl,N.tStr] N.tSl,mk (some 7) (.assign (tm 31))]
def oRe_10 (_N:CN):List Oper:=[mk (some 32) (.move (tm 9)),mk (some 8) (.assign (tm 32))]
def oRe_11 (N:CN):List Oper:=[mk (some 33) (.move (tm 0)),bi (some 34) .len [(tm 33)] [N.tStr] N.tInt,mk (some 35) (.binOp .gtr N.tInt (tm 34) (ki .i64 0) 0)]
def oRe_12 (N:CN):List Oper:=[mk (some 36) (.move (tm 7)),mk (some 37) (.move (tm 0)),mk (some 38) (.move (tm 8)),mk (some 39) (.slice N.tStr (tm 37) (some (tm 38)) none none),bi (some 40) .append [(tm 36),(tm 39)] [N.tSl,N.tStr] N.tSl,mk (some 41) (.move (tm 2)),bi (some 42) .append [(tm 40),(tm 41)] [N.tSl,N.tStr] N.tSl,mk (some 7) (.assign (tm 42))]
def oRe_13 (N:CN):List Oper:=[mk (some 43) (.move (tm 7)),mk (some 44) (.convert N.tSl N.tStr (tm 43)),mk (some 6) (.assign (tm 44))]
def oRe_14 (N:CN):List Oper:=[mk (some 45) (.move (tm 0)),mk (some 46) (.move (tm 1)),cl (some 47) N.fIx [(tm 45),(tm 46)],mk (some 10) (.assign (tm 47))]
def oRe_15 (N:CN):List Oper:=[mk (some 48) (.move (tm 10)),mk (some 49) (.binOp .lss N.tInt (tm 48) (ki .i64 0) 0)]
def oRe_16 (N:CN):List Oper:=[mk (some 50) (.move (tm 7)),mk (some 51) (.move (tm 0)),bi (some 52) .append [(tm 50),(tm 51)] [N.tSl,N.tStr] N.tSl,mk (some 53) (.convert N.tSl N.tStr (tm 52)),mk (some 6) (.assign (tm 53))]
def oRe_17 (N:CN):List Oper:=[mk (some 54) (.move (tm 7)),mk (some 55) (.move (tm 0)),mk (some 56) (.move (tm 10)),mk (some 57) (.slice N.tStr (tm 55) none (some (tm 56)) none),bi (some 58) .append [(tm 54),(tm 57)] [N.tSl,N.tStr] N.tSl,mk (some 59) (.move (tm 2)),bi (some 60) .append [(tm 58),(tm 59)] [N.tSl,N.tStr] N.tSl,mk (some 7) (.assign (tm 60))]
def oRe_18 (N:CN):List Oper:=[mk (some 61) (.move (tm 0)),mk (some 62) (.move (tm 10)),mk (some 63) (.move (tm 1)),bi (some 64) .len [(tm 63)] [N.tStr] N.tInt,mk (some 65) (.binOp .add N.tInt (tm 62) (tm 64) 0),mk (some 66) (.slice N.tStr (tm 61) (some (tm 65)) none none),mk (some 0) (.assign (tm 66))]
def cORe (N:CN):Code:=
 (.seq (rg (oRe_0 N))
 (.seq (rg (oRe_1 N))
 (.seq (.seq (rg (oRe_2 N))
  (.cond (tm 13) (.seq (rg (oRe_3 N))
   (.seq (rg (oRe_4 N))
   (.seq (.seq (rg (oRe_5 N))
    (.block 0 (.loop (.seq (rg (oRe_6 N))
    (.seq (.cond (tm 20) .skip
     (.exit 0))
    (.block 1 (.seq (rg (oRe_7 N))
    (.seq (rg (oRe_8 N))
    (.cond (tm 23) (.seq (rg (oRe_9 N))
     (rg (oRe_10 N)))
    .skip)))))))))
   (.seq (.seq (rg (oRe_11 N))
    (.cond (tm 35) (rg (oRe_12 N))
    .skip))
   (.seq (rg (oRe_13 N))
   .ret)))))
  .skip))
 (.block 2 (.loop (.block 3 (.seq (rg (oRe_14 N))
 (.seq (.seq (rg (oRe_15 N))
  (.cond (tm 49) (.seq (rg (oRe_16 N))
   .ret)
  .skip))
 (.seq (rg (oRe_17 N))
 (rg (oRe_18 N)))))))))))
def oIx_0 (_N:CN):List Oper:=[mk (some 4) (.assign (ki .i64 0))]
def oIx_1 (_N:CN):List Oper:=[mk (some 5) (.assign (ki .i64 0))]
def oIx_2 (N:CN):List Oper:=[mk (some 6) (.move (tm 5)),mk (some 7) (.move (tm 1)),bi (some 8) .len [(tm 7)] [N.tStr] N.tInt,mk (some 9) (.binOp .add N.tInt (tm 6) (tm 8) 0),mk (some 10) (.move (tm 0)),bi (some 11) .len [(tm 10)] [N.tStr] N.tInt,mk (some 12) (.binOp .leq N.tInt (tm 9) (tm 11) 0)]
def oIx_3 (N:CN):List Oper:=[mk (some 15) (.move (tm 0)),mk (some 16) (.move (tm 5)),mk (some 17) (.move (tm 5)),mk (some 18) (.move (tm 1)),bi (some 19) .len [(tm 18)] [N.tStr] N.tInt,mk (some 20) (.binOp .add N.tInt (tm 17) (tm 19) 0),mk (some 21) (.slice N.tStr (tm 15) (some (tm 16)) (some (tm 20)) none),mk (some 22) (.move (tm 1)),mk (some 23) (.binOp .eql N.tStr (tm 21) (tm 22) 0)]
def oIx_4 (_N:CN):List Oper:=[mk (some 24) (.move (tm 5)),mk (some 4) (.assign (tm 24))]
def oIx_5 (N:CN):List Oper:=[mk (some 13) (.move (tm 5)),mk (some 14) (.binOp .add N.tInt (tm 13) (ki .i64 1) 0),mk (some 5) (.assign (tm 14))]
def oIx_6 (_N:CN):List Oper:=[mk (some 4) (.assign (ki .i64 (-1)))]
def cOIx (N:CN):Code:=
 (.seq (rg (oIx_0 N))
 (.seq (.seq (rg (oIx_1 N))
  (.block 0 (.loop (.seq (.seq (rg (oIx_2 N))
   (.cond (tm 12) .skip
   (.exit 0)))
  (.seq (.block 1 (.seq (rg (oIx_3 N))
   (.cond (tm 23) (.seq (rg (oIx_4 N))
    .ret)
   .skip)))
  (rg (oIx_5 N)))))))
 (.seq (rg (oIx_6 N))
 .ret)))
def oLaw_0 (_N:CN):List Oper:=[mk (some 2) (.assign (.const (.bool false)))]
def oLaw_1 (N:CN):List Oper:=[cl (some 12) N.fNs [],mk (some 13) (.move (tm 0)),mk (some 14) (.convert N.tI8 N.tInt (tm 13)),cl (some 15) N.fWd [(tm 12),(tm 14)],mk (some 11) (.move (tm 15)),mk (some 16) (.extract (tm 11) 0),mk (some 17) (.extract (tm 11) 1),mk (some 3) (.assign (tm 16)),mk (some 4) (.assign (tm 17))]
def oLaw_2 (N:CN):List Oper:=[mk (some 18) (.move (tm 4)),mk (some 19) (.unOp .not N.tB (tm 18))]
def oLaw_3 (_N:CN):List Oper:=[mk (some 2) (.assign (.const (.bool true)))]
def oLaw_4 (N:CN):List Oper:=[mk (some 21) (.move (tm 0)),cl (some 22) N.fTx [(tm 21)],mk (some 20) (.move (tm 22)),mk (some 23) (.extract (tm 20) 0),mk (some 24) (.extract (tm 20) 1),mk (some 5) (.assign (tm 23)),mk (some 6) (.assign (tm 24))]
def oLaw_5 (N:CN):List Oper:=[mk (some 25) (.move (tm 6)),mk (some 26) (.unOp .not N.tB (tm 25)),mk (some 27) (.move (tm 26)),gd 28 (.move (tm 0)) 2 false,gd 29 (.call ⟨.value (.func N.fSt),#[(tm 28)],#[]⟩) 2 false,gd 30 (.move (tm 3)) 2 false,gd 31 (.binOp .neq N.tStr (tm 29) (tm 30) 0) 2 false,mk (some 32) (.pick (tm 27) (.const (.bool true)) (tm 31)),mk (some 33) (.move (tm 32)),gd 34 (.move (tm 5)) 8 false,gd 35 (.convert N.tSl N.tStr (tm 34)) 8 false,gd 36 (.move (tm 3)) 8 false,gd 37 (.binOp .neq N.tStr (tm 35) (tm 36) 0) 8 false,mk (some 38) (.pick (tm 33) (.const (.bool true)) (tm 37))]
def oLaw_6 (_N:CN):List Oper:=[mk (some 2) (.assign (.const (.bool false)))]
def oLaw_7 (N:CN):List Oper:=[mk (some 40) (.move (tm 3)),cl (some 41) N.fPs [(tm 40)],mk (some 39) (.move (tm 41)),mk (some 42) (.extract (tm 39) 0),mk (some 43) (.extract (tm 39) 1),mk (some 7) (.assign (tm 42)),mk (some 8) (.assign (tm 43))]
def oLaw_8 (N:CN):List Oper:=[mk (some 45) (.move (tm 5)),cl (some 46) N.fOf [(tm 45)],mk (some 44) (.move (tm 46)),mk (some 47) (.extract (tm 44) 0),mk (some 48) (.extract (tm 44) 1),mk (some 9) (.assign (tm 47)),mk (some 10) (.assign (tm 48))]
def oLaw_9 (N:CN):List Oper:=[mk (some 49) (.move (tm 8)),mk (some 50) (.move (tm 49)),gd 51 (.move (tm 10)) 1 true,mk (some 52) (.pick (tm 50) (tm 51) (.const (.bool false))),mk (some 53) (.move (tm 52)),gd 54 (.move (tm 7)) 4 true,gd 55 (.move (tm 0)) 4 true,gd 56 (.convert N.tI8 N.tInt (tm 55)) 4 true,gd 57 (.binOp .eql N.tInt (tm 54) (tm 56) 0) 4 true,mk (some 58) (.pick (tm 53) (tm 57) (.const (.bool false))),mk (some 59) (.move (tm 58)),gd 60 (.move (tm 9)) 10 true,gd 61 (.move (tm 0)) 10 true,gd 62 (.convert N.tI8 N.tInt (tm 61)) 10 true,gd 63 (.binOp .eql N.tInt (tm 60) (tm 62) 0) 10 true,mk (some 64) (.pick (tm 59) (tm 63) (.const (.bool false))),mk (some 2) (.assign (tm 64))]
def cOLaw (N:CN):Code:=
 (.seq (rg (oLaw_0 N))
 (.seq (rg (oLaw_1 N))
 (.seq (.seq (rg (oLaw_2 N))
  (.cond (tm 19) (.seq (rg (oLaw_3 N))
   .ret)
  .skip))
 (.seq (rg (oLaw_4 N))
 (.seq (.seq (rg (oLaw_5 N))
  (.cond (tm 38) (.seq (rg (oLaw_6 N))
   .ret)
  .skip))
 (.seq (rg (oLaw_7 N))
 (.seq (rg (oLaw_8 N))
 (.seq (rg (oLaw_9 N))
 .ret))))))))
end Go.Proofs.YtbacpeilgfmblaaDoor.Kx

namespace Go.Proofs.YtbacpeilgfmblaaDoor.Kx
open Go
set_option maxRecDepth 4000
def wd:Nat->Bs
 | 0=>[83,69,84]
 | 1=>[68,69,76,69,84,69]
 | 2=>[65,80,80,69,78,68]
 | _=>[83,85,66,84,82,65,67,84]
def lw:Nat->Bs
 | 0=>[115,101,116]
 | 1=>[100,101,108,101,116,101]
 | 2=>[97,112,112,101,110,100]
 | _=>[115,117,98,116,114,97,99,116]
def nmCells:List Value:=[.int .i64 0,strV (wd 0),.int .i64 1,strV (wd 1),.int .i64 2,strV (wd 2),.int .i64 3,strV (wd 3)]
structure CnT (P:Program) (N:CN):Prop where
 mixed:P.follows .mixedOrders=true
 dInt:P.underlying N.tInt=some (.int .i64)
 dI8:P.underlying N.tI8=some (.int .i8)
 dOp:P.underlying N.tOp=some (.int .i8)
 dU8:P.underlying N.tU8=some (.int .u8)
 dStr:P.underlying N.tStr=some .string
 dNs:P.underlying N.tNs=some (.slice N.tNm)
 oct:OctT P N.tSl N.tU8
 vNm:VarIs P N.tNm true 2
 vOp:VarIs P N.tOp false 1
 n0:FldIs P N.tNm 0 N.tInt 0 false 1
 n1:FldIs P N.tNm 1 N.tStr 1 false 1
 zNm:∀ w,(zeroValue N.tNm).run P w=.ok (.agg #[.int .i64 0,.string ⟨#[]⟩]) w
 zOp:∀ w,(zeroValue N.tOp).run P w=.ok (.int .i8 0) w
 bNm:∀ (k:Int) (s:ByteArray) (w:World),(Instr.build N.tNm #[(0,.int .i64 k),(1,.string s)]).run P w=.ok (.agg #[.int .i64 k,.string s]) w
 bNs:∀ (s0 s1 s2 s3:ByteArray) (w:World),(Instr.buildSlice N.tNs 4 #[(0,.agg #[.int .i64 0,.string s0]),(1,.agg #[.int .i64 1,.string s1]),(2,.agg #[.int .i64 2,.string s2]),(3,.agg #[.int .i64 3,.string s3])]).run P w =
  .ok (.slice (some ⟨w.heap.size,0,none⟩) 4 4) (w.alloc (.cells #[.int .i64 0,.string s0,.int .i64 1,.string s1,.int .i64 2,.string s2,.int .i64 3,.string s3] N.tNm (0,0)))
 nilEq:∀ w,(binOp .eql N.tErr .nilIface .nilIface).run P w=.ok (.bool true) w
 nilNe:∀ w,(binOp .neq N.tErr .nilIface .nilIface).run P w=.ok (.bool false) w
section
variable {P:Program} {N:CN}
section
variable {ops:Array Oper} {Q:Exit->Act->World->Prop} {r:List Oper} {n:Nat} {a:Act} {w:World} {l:List (Nat × Value)} {I:World->Prop} {K:Act->Prop}
theorem st_run (h:St n a l) {d:Nat} {op:Op} {v:Value} {w':World} (hrun:(execOp a.eval (mk (some d) op)).run P w=.ok (.value v) w') (hd:d < n) (c:∀ a',St n a' ((d,v) :: l)->wpList P ops Q r a' w'):wpList P ops Q (mk (some d) op :: r) a w:=
 qn_ hrun (c _ (h.put v hd))
theorem rn_eqS (h:St n a l) {d T:Nat} {x y:Operand} {s t:Bs} (hx:Hd l x (strV s)) (hy:Hd l y (strV t)):(execOp a.eval (mk (some d) (.binOp .eql T x y 0))).run P w=.ok (.value (.bool (decide (s=t)))) w:=by
 have e:((⟨s.toArray⟩:ByteArray).toList == (⟨t.toArray⟩:ByteArray).toList)=decide (s=t):=by
  rw [ByteArray.toList_eq,ByteArray.toList_eq]
  by_cases h:s=t
  ·subst h;simp
  ·simp [h]
 simp only [execOp,mk,hx n a h,hy n a h,strV,binOp,Op.stringOp,e]
 simp [eqGuard]
theorem rn_neS (h:St n a l) {d T:Nat} {x y:Operand} {s t:Bs} (hx:Hd l x (strV s)) (hy:Hd l y (strV t)):(execOp a.eval (mk (some d) (.binOp .neq T x y 0))).run P w=.ok (.value (.bool (!decide (s=t)))) w:=by
 have e:((⟨s.toArray⟩:ByteArray).toList == (⟨t.toArray⟩:ByteArray).toList)=decide (s=t):=by
  rw [ByteArray.toList_eq,ByteArray.toList_eq]
  by_cases h:s=t
  ·subst h;simp
  ·simp [h]
 simp only [execOp,mk,hx n a h,hy n a h,strV,binOp,Op.stringOp,e]
 simp [eqGuard]
theorem st_lenT (h:St n a l) {d:Nat} {x:Operand} {T ty:Nat} {bs:Bs} (hx:Hd l x (strV bs)) (hT:P.underlying T=some .string) (hd:d < n) (k:∀ a',St n a' ((d,.int .i64 (bs.length:Int)) :: l)->wpList P ops Q r a' w):wpList P ops Q (bi (some d) .len [x] [T] ty :: r) a w:=
 st_bi h (by
  have hsz:ByteArray.size ⟨bs.toArray⟩=bs.length:=List.size_toArray
  simp [execOp,bi,resolve,invoke,builtin,hx n a h,strV,Builtin.len_,run_underlying hT,goInt,hsz]) hd k
end
theorem ret2w {n s t:Nat} {a:Act} {w:World} {l:List (Nat × Value)} {u v:Value} {RR:Ending->World->Prop} (h:St n a l) (hu:l.lookup s=some u) (hv:l.lookup t=some v) (hR:RR (.returned (.tuple #[u,v])) w):a.defers=[]/\RR (.returned (retOf [s,t] a)) w:=by
 refine ⟨h.defers,?_⟩
 show RR (.returned (.tuple #[a.get s,a.get t])) w
 rw [h.get s u hu,h.get t v hv]
 exact hR
theorem ns_calls (T:CnT P N) (hfn:FnIs P N.fNs 6 [0] (cONs N)) (W:World):Calls P N.fNs ([]:List Value).toArray W fun e w=>∃ b,e=.returned (.slice (some ⟨b,0,none⟩) 4 4)/\qe_ w b 0 nmCells/\Keeps (fun _=>False) W w:=by
 refine callsT T.mixed hfn (by simp) _ (by simp) fun a h=>?_
 unfold cONs
 refine qj_ (nrg (qa_ h .c (by omega) fun a h=>wpList_nil ?_))
 refine qj_ (nrg ?_)
 refine st_build h (qs:=#[(0,.int .i64 0),(1,strV (wd 0))]) (fun _ _ _=>by simp [qk_,ki,wd]) (T.bNm _ _ W) (by omega) fun a h=>?_
 refine st_build h (qs:=#[(0,.int .i64 1),(1,strV (wd 1))]) (fun _ _ _=>by simp [qk_,ki,wd]) (T.bNm _ _ W) (by omega) fun a h=>?_
 refine st_build h (qs:=#[(0,.int .i64 2),(1,strV (wd 2))]) (fun _ _ _=>by simp [qk_,ki,wd]) (T.bNm _ _ W) (by omega) fun a h=>?_
 refine st_build h (qs:=#[(0,.int .i64 3),(1,strV (wd 3))]) (fun _ _ _=>by simp [qk_,ki,wd]) (T.bNm _ _ W) (by omega) fun a h=>?_
 refine st_run h (v:=.slice (some ⟨W.heap.size,0,none⟩) 4 4) (w':=W.alloc (.cells nmCells.toArray N.tNm (0,0))) ?_ (by omega) fun a h=>?_
 ·have e1:=Hd.t (l:=_) (i:=1) rfl _ _ h
  have e2:=Hd.t (l:=_) (i:=2) rfl _ _ h
  have e3:=Hd.t (l:=_) (i:=3) rfl _ _ h
  have e4:=Hd.t (l:=_) (i:=4) rfl _ _ h
  have hb:=T.bNs ⟨(wd 0).toArray⟩ ⟨(wd 1).toArray⟩ ⟨(wd 2).toArray⟩ ⟨(wd 3).toArray⟩ W
  simp only [execOp,mk,Array.map]
  simp [e1,e2,e3,e4,hb,strV,nmCells]
 have hk:Keeps (fun _=>False) W (W.alloc (.cells nmCells.toArray N.tNm (0,0))):=Keeps.alloc _ _ _
 have hc:=box_cells W nmCells N.tNm
 generalize W.alloc (.cells nmCells.toArray N.tNm (0,0))=w at hk hc ⊢
 refine qa_ h (.t rfl) (by omega) fun a h=>wpList_nil (.ret ?_)
 exact ret1 (RR:=fun e w=>∃ b,e=.returned (.slice (some ⟨b,0,none⟩) 4 4)/\qe_ w b 0 nmCells/\Keeps (fun _=>False) W w) h rfl ⟨_,rfl,hc,hk⟩
theorem nm_at {w:World} {b:Nat} (h:qe_ w b 0 nmCells):∀ i,i < 4->qe_ w b (0 + i * 2) [.int .i64 (i:Int),strV (wd i)]
 | 0,_=>fun j v hj=>h j v (by match j,hj with | 0,hj=>exact hj | 1,hj=>exact hj)
 | 1,_=>fun j v hj=>by have:=h (2 + j) v (by match j,hj with | 0,hj=>exact hj | 1,hj=>exact hj);rwa [<- Nat.add_assoc] at this
 | 2,_=>fun j v hj=>by have:=h (4 + j) v (by match j,hj with | 0,hj=>exact hj | 1,hj=>exact hj);rwa [<- Nat.add_assoc] at this
 | 3,_=>fun j v hj=>by have:=h (6 + j) v (by match j,hj with | 0,hj=>exact hj | 1,hj=>exact hj);rwa [<- Nat.add_assoc] at this
 | i + 4,h4=>by omega
theorem wd_calls (T:CnT P N) (hfn:FnIs P N.fWd 21 [4,5] (cOWd N)) {W:World} {b:Nat} (hb:qe_ W b 0 nmCells) (x:Int) :
  Calls P N.fWd [.slice (some ⟨b,0,none⟩) 4 4,.int .i64 x].toArray W fun e w=>(∃ s ok,e=.returned (.tuple #[strV s,.bool ok])/\(ok=true->∃ i:Nat,i < 4/\x=(i:Int)/\s=wd i))/\Keeps (fun _=>False) W w:=by
 refine callsT T.mixed hfn (by simp) _ (by simp) fun a h=>?_
 unfold cOWd
 refine qj_ (nrg (qa_ h .c (by omega) fun a h=>qa_ h .c (by omega) fun a h=>wpList_nil ?_))
 refine qj_ (qj_ (nrg (qb_ h (.t rfl) (by omega) fun a h=>st_len h (.t rfl) T.dNs (by omega) fun a h=>qb_ h .i (by omega) fun a h=>wpList_nil ?_)))
 refine st_loop (fun m a' w'=>∃ i:Nat,i + m=4/\Keeps (fun _=>False) W w'/\St 21 a' [(1,.int .i64 x),(8,.slice (some ⟨b,0,none⟩) 4 4),(9,.int .i64 ((4:Nat):Int)),(10,.int .i64 (i:Int))]) 4
  ⟨4,Nat.le_refl _,0,by omega,Keeps.refl _ _,h.pick ⟨rfl,rfl,rfl,rfl,trivial⟩⟩ ?_
 rintro m a w hm ⟨i,him,hk,h⟩
 refine qj_ (nrg (st_cmp h rfl (.t rfl) (.t rfl) (by omega) fun a h=>wpList_nil ?_))
 refine st_test h rfl (fun hb2=>?_) (fun hb2=>?_)
 ·have hlt:i < 4:=by simp [cmpB] at hb2;omega
  have hc:=qe_.kn hk (nm_at hb i hlt)
  refine .skip (qj_ (.block (qj_ (nrg (st_index h (sz:=2) (.t rfl) (.t rfl) hlt T.dNs T.vNm.size (by omega) fun a h=>st_loadN h (cs:=[.int .i64 (i:Int),strV (wd i)]) (.t rfl) T.vNm hc (by omega) fun a h=>?_)))))
  refine st_newvar h (cs:=[.int .i64 (i:Int),strV (wd i)]) T.zNm rfl (fun _=>.t rfl) T.vNm.size (by simp [Value.oneCell',strV]) (by omega) fun w2 a hk2 hc2 h=>wpList_nil ?_
  have hk2:=hk.trans hk2
  refine qj_ (nrg (st_fld h (.t rfl) T.n0 (by omega) fun a h=>st_load1 h (.t rfl) T.n0.var (hc2.at (j:=0) rfl) (by omega) fun a h=>qb_ h (.t rfl) (by omega) fun a h=>st_cmp h rfl (.t rfl) (.t rfl) (by omega) fun a h=>wpList_nil ?_))
  refine st_if h rfl (fun hh=>?_) (fun hh=>.skip ?_)
  ·have hx:x=(i:Int):=by simp [cmpB] at hh;omega
   refine qj_ (nrg (st_fld h (.t rfl) T.n1 (by omega) fun a h=>st_load1 h (.t rfl) T.n1.var (hc2.at (j:=1) rfl) (by omega) fun a h=>qa_ h (.t rfl) (by omega) fun a h=>qa_ h .c (by omega) fun a h=>wpList_nil (.ret ?_)))
   exact ret2w (RR:=fun e w=>(∃ s ok,e=.returned (.tuple #[strV s,.bool ok])/\(ok=true->∃ i:Nat,i < 4/\x=(i:Int)/\s=wd i))/\Keeps (fun _=>False) W w) h rfl rfl ⟨⟨_,_,rfl,fun _=>⟨i,hlt,hx,rfl⟩⟩,hk2⟩
  ·refine nrg (st_bin h (.t rfl) .i (by simp) (run_addi w2) (by omega) fun a h=>?_)
   have hw:IntKind.i64.wrap ((i:Int) + 1)=((i + 1:Nat):Int):=by simp [IntKind.wrap,IntKind.bits,IntKind.signed];omega
   rw [hw] at h
   exact qb_ h (.t rfl) (by omega) fun a h=>wpList_nil ⟨m - 1,by omega,by omega,i + 1,by omega,hk2,h.pick ⟨rfl,rfl,rfl,rfl,trivial⟩⟩
 ·refine .exit ?_
  show NWP P _ _ a w
  refine qj_ (nrg (qa_ h .c (by omega) fun a h=>qa_ h .c (by omega) fun a h=>wpList_nil (.ret ?_)))
  exact ret2w (RR:=fun e w=>(∃ s ok,e=.returned (.tuple #[strV s,.bool ok])/\(ok=true->∃ i:Nat,i < 4/\x=(i:Int)/\s=wd i))/\Keeps (fun _=>False) W w) h rfl rfl ⟨⟨[],false,rfl,fun h=>by cases h⟩,hk⟩
theorem ks_calls (T:CnT P N) (hfn:FnIs P N.fKs 12 [2] (cOKs N)) {i:Nat} (hi:i < 4) (W:World):Calls P N.fKs [.int .i8 (i:Int)].toArray W fun e w=>e=.returned (strV (wd i))/\w=W:=by
 refine callsT T.mixed hfn (by simp) _ (by simp) fun a h=>?_
 unfold cOKs
 refine qj_ (nrg (qa_ h .c (by omega) fun a h=>wpList_nil ?_))
 refine qj_ (nrg (qb_ h (.t rfl) (by omega) fun a h=>wpList_nil ?_))
 refine .block (qj_ (nrg (st_cmp h rfl (.t rfl) .i (by omega) fun a h=>qa_ h (.t rfl) (by omega) fun a h=>wpList_nil ?_)))
 refine st_if h rfl (fun hh=>?_) (fun hh=>?_)
 ·obtain rfl:i=0:=by simp [cmpB] at hh;omega
  exact qj_ (nrg (qa_ h .c (by omega) fun a h=>wpList_nil (.ret (ret1 (RR:=fun e w=>e=.returned (strV (wd 0))/\w=W) h rfl ⟨rfl,rfl⟩))))
 have h0:i ≠ 0:=by simp [cmpB] at hh;omega
 refine qj_ (nrg (st_cmp h rfl (.t rfl) .i (by omega) fun a h=>qa_ h (.t rfl) (by omega) fun a h=>wpList_nil ?_))
 refine st_if h rfl (fun hh=>?_) (fun hh=>?_)
 ·obtain rfl:i=1:=by simp [cmpB] at hh;omega
  exact qj_ (nrg (qa_ h .c (by omega) fun a h=>wpList_nil (.ret (ret1 (RR:=fun e w=>e=.returned (strV (wd 1))/\w=W) h rfl ⟨rfl,rfl⟩))))
 have h1:i ≠ 1:=by simp [cmpB] at hh;omega
 refine qj_ (nrg (st_cmp h rfl (.t rfl) .i (by omega) fun a h=>qa_ h (.t rfl) (by omega) fun a h=>wpList_nil ?_))
 refine st_if h rfl (fun hh=>?_) (fun hh=>?_)
 ·obtain rfl:i=2:=by simp [cmpB] at hh;omega
  exact qj_ (nrg (qa_ h .c (by omega) fun a h=>wpList_nil (.ret (ret1 (RR:=fun e w=>e=.returned (strV (wd 2))/\w=W) h rfl ⟨rfl,rfl⟩))))
 have h2:i ≠ 2:=by simp [cmpB] at hh;omega
 obtain rfl:i=3:=by omega
 refine qj_ (nrg (st_cmp h rfl (.t rfl) .i (by omega) fun a h=>qa_ h (.t rfl) (by omega) fun a h=>wpList_nil ?_))
 refine st_if h rfl (fun hh=>?_) (fun hh=>by simp [cmpB] at hh)
 exact qj_ (nrg (qa_ h .c (by omega) fun a h=>wpList_nil (.ret (ret1 (RR:=fun e w=>e=.returned (strV (wd 3))/\w=W) h rfl ⟨rfl,rfl⟩))))
theorem st_calls (T:CnT P N) (hfn:FnIs P N.fSt 5 [2] (cOSt N)) (hE:Ent P N.fKs) {i:Nat} (hC:∀ W,Calls P N.fKs [.int .i8 (i:Int)].toArray W fun e w=>e=.returned (strV (wd i))/\w=W) (W:World):Calls P N.fSt [.int .i8 (i:Int)].toArray W fun e w=>e=.returned (strV (wd i))/\w=W:=by
 refine callsT T.mixed hfn (by simp) _ (by simp) fun a h=>?_
 unfold cOSt
 refine qj_ (nrg (qa_ h .c (by omega) fun a h=>wpList_nil ?_))
 refine qj_ (nrg (qb_ h (.t rfl) (by omega) fun a h=>qo_ h hE (vs:=[.int .i8 (i:Int)]) (fun n a h=>by simp only [List.map_cons,List.map_nil];rw [Hd.t (l:=_) (i:=3) rfl n a h]) (hC W) (by omega) fun e w hR=>?_))
 obtain ⟨rfl,rfl⟩:=hR
 exact ⟨_,rfl,fun a h=>qa_ h (.t rfl) (by omega) fun a h=>wpList_nil (.ret (ret1 (RR:=fun e w'=>e=.returned (strV (wd i))/\w'=w) h rfl ⟨rfl,rfl⟩))⟩
theorem bytesW_keeps (w:World) (e:Nat) (s:ByteArray):Keeps (fun _=>False) w (Lib.bytesWorld w e s):=
 (Keeps.drew (fun _=>False) w).trans ⟨rfl,rfl,rfl,by rw [Lib.bytesWorld_size];simp,fun i hi _=>Lib.bytesWorld_at_old w e s i hi⟩
theorem bytesW_sl (w:World) (e:Nat) (s:Bs) (hl:s.length<=1000):SlRp (Lib.bytesWorld w e ⟨s.toArray⟩) (fun _=>False) (.slice (some ⟨w.heap.size,0,none⟩) (ByteArray.size ⟨s.toArray⟩) (grownCap w (ByteArray.size ⟨s.toArray⟩) 0 e)) s:=by
 have hsz:ByteArray.size ⟨s.toArray⟩=s.length:=List.size_toArray
 rw [hsz]
 refine .inr ⟨w.heap.size,0,_,rfl,id,by rw [Lib.bytesWorld_size];omega,grownCap_ge w s.length 0 e,grownCap_le_maxLen w _ 0 e (by simp only [maxLen];omega),fun i x hx=>?_⟩
 have hi:i < s.length:=(List.getElem?_eq_some_iff.1 hx).1
 have:=Lib.bytesWorld_cell w e ⟨s.toArray⟩ i (by rw [hsz];exact hi)
 rw [Nat.zero_add,this]
 simp [List.getD,hx]
end
end Go.Proofs.YtbacpeilgfmblaaDoor.Kx

namespace Go.Proofs.YtbacpeilgfmblaaDoor.Kx
open Go
set_option maxRecDepth 4000
section
variable {P:Program} {N:CN}
structure LibC (P:Program) (N:CN) (W0:World):Prop where
 trE:Ent P N.fTr
 tr:∀ (i:Nat) (W:World),i < 4->Keeps (fun _=>False) W0 W->Calls P N.fTr [strV (wd i)].toArray W fun e w=>e=.returned (strV (wd i))/\Keeps (fun _=>False) W w
 loE:Ent P N.fLo
 lo:∀ (i:Nat) (W:World),i < 4->Keeps (fun _=>False) W0 W->Calls P N.fLo [strV (wd i)].toArray W fun e w=>e=.returned (strV (lw i))/\Keeps (fun _=>False) W w
theorem wd_len {i:Nat} (hi:i < 4):(wd i).length<=8:=by
 match i,hi with
 | 0,_=>decide
 | 1,_=>decide
 | 2,_=>decide
 | 3,_=>decide
theorem rn_sliceS {n:Nat} {a:Act} {w:World} {l:List (Nat × Value)} (h:St n a l) {d T i j:Nat} {x y z:Operand} {s:Bs} (hx:Hd l x (strV s)) (hy:Hd l y (.int .i64 (i:Int))) (hz:Hd l z (.int .i64 (j:Int))) (hT:P.underlying T=some .string) (hi:i<=j) (hj:j<=s.length) :
  (execOp a.eval (mk (some d) (.slice T x (some y) (some z) none))).run P w=.ok (.value (strV ((s.drop i).take (j - i)))) w:=by
 have hsz:ByteArray.size ⟨s.toArray⟩=s.length:=List.size_toArray
 have hr:=run_slice_string (P:=P) (w:=w) T ⟨s.toArray⟩ .i64 .i64 (i:Int) (j:Int) hT (by omega) (by omega) (by rw [hsz];omega)
 have he:(⟨s.toArray⟩:ByteArray).extract i j=⟨((s.drop i).take (j - i)).toArray⟩:=by
  apply ByteArray.ext
  simp [ByteArray.data_extract,List.extract_toArray,List.extract_eq_take_drop]
 simp only [Int.toNat_natCast] at hr
 rw [he] at hr
 simp [execOp,mk,hx n a h,hy n a h,hz n a h,strV,Instr.sliceAt,run_underlying hT,hr]
theorem ix_calls (T:CnT P N) (hfn:FnIs P N.fIx 25 [4] (cOIx N)) {s:Bs} {c:UInt8} (hl:s.length<=1000) (hc:c ∉ s) (W:World):Calls P N.fIx [strV s,strV [c]].toArray W fun e w=>e=.returned (.int .i64 (-1))/\w=W:=by
 refine callsT T.mixed hfn (by simp) _ (by simp) fun a h=>?_
 unfold cOIx
 refine qj_ (nrg (qa_ h .i (by omega) fun a h=>wpList_nil ?_))
 refine qj_ (qj_ (nrg (qa_ h .i (by omega) fun a h=>wpList_nil ?_)))
 refine st_loop (fun m a' w'=>∃ i:Nat,i + m=s.length/\w'=W/\St 25 a' [(0,strV s),(1,strV [c]),(5,.int .i64 (i:Int))]) s.length
  ⟨s.length,Nat.le_refl _,0,by omega,rfl,h.pick ⟨rfl,rfl,rfl,trivial⟩⟩ ?_
 rintro m a w hm ⟨i,him,rfl,h⟩
 have hw:IntKind.i64.wrap ((i:Int) + 1)=((i + 1:Nat):Int):=by simp [IntKind.wrap,IntKind.bits,IntKind.signed];omega
 refine qj_ (qj_ (nrg (qb_ h (.t rfl) (by omega) fun a h=>qb_ h (.t rfl) (by omega) fun a h=>st_lenT h (.t rfl) T.dStr (by omega) fun a h=>st_bin h (.t rfl) (.t rfl) (by simp) (run_addi w) (by omega) fun a h=>?_)))
 have e1:(([c]:Bs).length:Int)=1:=rfl
 rw [e1,hw] at h
 refine qb_ h (.t rfl) (by omega) fun a h=>st_lenT h (.t rfl) T.dStr (by omega) fun a h=>st_cmp h rfl (.t rfl) (.t rfl) (by omega) fun a h=>wpList_nil ?_
 refine st_if h rfl (fun hb=>?_) (fun hb=>?_)
 ·have hlt:i < s.length:=by simp [cmpB] at hb;omega
  obtain ⟨x,hx⟩:∃ x,s[i]?=some x:=⟨_,List.getElem?_eq_getElem hlt⟩
  refine .skip ?_
  show NWP P _ _ a w
  refine qj_ (.block (qj_ (nrg (qb_ h (.t rfl) (by omega) fun a h=>qb_ h (.t rfl) (by omega) fun a h=>qb_ h (.t rfl) (by omega) fun a h=>qb_ h (.t rfl) (by omega) fun a h=>st_lenT h (.t rfl) T.dStr (by omega) fun a h=>st_bin h (.t rfl) (.t rfl) (by simp) (run_addi w) (by omega) fun a h=>?_))))
  rw [e1,hw] at h
  refine st_run h (rn_sliceS h (.t rfl) (.t rfl) (.t rfl) T.dStr (by omega) (by omega)) (by omega) fun a h=>qb_ h (.t rfl) (by omega) fun a h=>st_run h (rn_eqS h (.t rfl) (.t rfl)) (by omega) fun a h=>wpList_nil ?_
  have hne:decide (List.take (i + 1 - i) (List.drop i s)=[c])=false:=by
   refine decide_eq_false fun he=>hc ?_
   have e2:i + 1 - i=1:=by omega
   rw [e2,List.drop_eq_getElem_cons hlt,List.take_succ_cons,List.take_zero] at he
   injection he with h1
   rw [<- h1]
   exact List.getElem_mem hlt
  rw [hne] at h
  refine st_if h rfl (fun hh=>by cases hh) (fun _=>.skip ?_)
  refine nrg (qb_ h (.t rfl) (by omega) fun a h=>st_bin h (.t rfl) .i (by simp) (run_addi w) (by omega) fun a h=>?_)
  rw [hw] at h
  exact qa_ h (.t rfl) (by omega) fun a h=>wpList_nil ⟨m - 1,by omega,by omega,i + 1,by omega,rfl,h.pick ⟨rfl,rfl,rfl,trivial⟩⟩
 ·refine .exit ?_
  show NWP P _ _ a w
  exact qj_ (nrg (qa_ h .i (by omega) fun a h=>wpList_nil (.ret (ret1 (RR:=fun e w'=>e=.returned (.int .i64 (-1))/\w'=w) h rfl ⟨rfl,rfl⟩))))
theorem rn_text {n:Nat} {a:Act} {w:World} {l:List (Nat × Value)} (T:CnT P N) (h:St n a l) {d:Nat} {x:Operand} {v:Value} {s:Bs} (hx:Hd l x v) (hv:SlRp w (fun _=>False) v s):(execOp a.eval (mk (some d) (.convert N.tSl N.tStr x))).run P w=.ok (.value (strV s)) w:=by
 have hr:(convert N.tSl N.tStr v).run P w=.ok (strV s) w:=by
  rcases hv with ⟨rfl,rfl⟩ | ⟨b,o,c,rfl,_,_,_,_,h6⟩
  ·rw [run_convert_bytes_string w N.tSl N.tStr N.tU8 none 0 0 T.oct.und T.dU8 T.dStr]
   simp [Conv.bytesToString]
   rfl
  ·exact run_convert_bytes_back w N.tSl N.tStr N.tU8 ⟨b,o,none⟩ c s T.oct.und T.dU8 T.dStr fun j hj=>by
    have:=h6 j s[j] (by simp [hj])
    rw [Addr.add_lit]
    exact this
 simp only [execOp,mk,hx n a h,Sem.run_bind,hr,Result.andThen_ok,Sem.run_pure]
theorem re_calls (T:CnT P N) (hfn:FnIs P N.fRe 67 [6] (cORe N)) (hIE:Ent P N.fIx) {s:Bs} {c:UInt8} (hl:s.length<=1000) (hI:∀ W,Calls P N.fIx [strV s,strV [c]].toArray W fun e w=>e=.returned (.int .i64 (-1))/\w=W) (W:World) :
  Calls P N.fRe [strV s,strV [c],strV []].toArray W fun e w=>e=.returned (strV s)/\Keeps (fun _=>False) W w:=by
 refine callsT T.mixed hfn (by simp) _ (by simp) fun a h=>?_
 unfold cORe
 refine qj_ (nrg (qa_ h .c (by omega) fun a h=>wpList_nil ?_))
 refine qj_ (nrg (qa_ h .c (by omega) fun a h=>wpList_nil ?_))
 refine qj_ (qj_ (nrg (qb_ h (.t rfl) (by omega) fun a h=>st_lenT h (.t rfl) T.dStr (by omega) fun a h=>st_cmp h rfl (.t rfl) .i (by omega) fun a h=>wpList_nil ?_)))
 refine st_if h rfl (fun hb=>by simp [cmpB] at hb) (fun _=>.skip ?_)
 show NWP P _ _ a W
 refine st_loop (fun _ a' w'=>w'=W/\St 67 a' [(0,strV s),(1,strV [c]),(7,nilS)]) 0 ⟨0,Nat.le_refl _,rfl,h.pick ⟨rfl,rfl,rfl,trivial⟩⟩ ?_
 rintro m a w _ ⟨rfl,h⟩
 refine .block (qj_ (nrg (qb_ h (.t rfl) (by omega) fun a h=>qb_ h (.t rfl) (by omega) fun a h=>qo_ h hIE (vs:=[strV s,strV [c]]) (fun n a h=>by
  simp only [List.map_cons,List.map_nil]
  rw [Hd.t (l:=_) (i:=45) rfl n a h,Hd.t (l:=_) (i:=46) rfl n a h]) (hI w) (by omega) fun e w2 hR=>?_)))
 obtain ⟨rfl,rfl⟩:=hR
 refine ⟨_,rfl,fun a h=>qa_ h (.t rfl) (by omega) fun a h=>wpList_nil ?_⟩
 refine qj_ (qj_ (nrg (qb_ h (.t rfl) (by omega) fun a h=>st_cmp h rfl (.t rfl) .i (by omega) fun a h=>wpList_nil ?_)))
 refine st_if h rfl (fun _=>?_) (fun hb=>by simp [cmpB] at hb)
 refine qj_ (nrg (qb_ h (.t rfl) (by omega) fun a h=>qb_ h (.t rfl) (by omega) fun a h=>?_))
 obtain ⟨v,w3,hrun,hg⟩:=run_append_dst (P:=P) (tx:=N.tStr) (ty:=N.tSl) T.oct (DstAt.nil w2 w2.heap.size N.tU8) (src_str T.dStr w2 s) (Nat.le_refl _) (by simp only [LIM,List.length_nil];omega)
 refine st_bi h (v:=v) (w':=w3) (by
  have e1:=Hd.t (l:=_) (i:=50) (v:=nilS) rfl _ a h
  have e2:=Hd.t (l:=_) (i:=51) (v:=strV s) rfl _ a h
  simp only [nilS] at e1
  simp [execOp,bi,resolve,invoke,builtin,e1,e2,strV,hrun]) (by omega) fun a h=>?_
 rw [List.nil_append] at hg
 refine st_run h (rn_text T h (.t rfl) hg.dst.sl) (by omega) fun a h=>qa_ h (.t rfl) (by omega) fun a h=>wpList_nil (.ret ?_)
 exact ret1 (RR:=fun e w=>e=.returned (strV s)/\Keeps (fun _=>False) w2 w) h rfl ⟨rfl,hg.keeps.mono fun k hk hX=>by cases hX⟩
theorem no_calls (T:CnT P N) (hfn:FnIs P N.fNo 14 [2] (cONo N)) {W0:World} (L:LibC P N W0) (hRE:Ent P N.fRe) {i:Nat} (hi:i < 4) (hR:∀ (c:UInt8) W,c ∉ wd i->Calls P N.fRe [strV (wd i),strV [c],strV []].toArray W fun e w=>e=.returned (strV (wd i))/\Keeps (fun _=>False) W w) {W:World} (hW:Keeps (fun _=>False) W0 W) :
  Calls P N.fNo [strV (wd i)].toArray W fun e w=>e=.returned (strV (lw i))/\Keeps (fun _=>False) W w:=by
 have hno:∀ c:UInt8,c=46 \/ c=95 \/ c=45->c ∉ wd i:=by
  rintro c (rfl | rfl | rfl) <;> (match i,hi with | 0,_=>decide | 1,_=>decide | 2,_=>decide | 3,_=>decide)
 refine callsT T.mixed hfn (by simp) _ (by simp) fun a h=>?_
 unfold cONo
 refine qj_ (nrg (qa_ h .c (by omega) fun a h=>wpList_nil ?_))
 refine qj_ (nrg (qb_ h (.t rfl) (by omega) fun a h=>qo_ h hRE (vs:=[strV (wd i),strV [46],strV []]) (fun n a h=>by
  simp only [List.map_cons,List.map_nil,qk_]
  rw [show a.eval (tm 3)=strV (wd i) from Hd.t (l:=_) (i:=3) rfl n a h]) (hR 46 W (hno _ (.inl rfl))) (by omega) fun e w1 hR1=>?_))
 obtain ⟨rfl,hk1⟩:=hR1
 refine ⟨_,rfl,fun a h=>qa_ h (.t rfl) (by omega) fun a h=>wpList_nil ?_⟩
 refine qj_ (nrg (qb_ h (.t rfl) (by omega) fun a h=>qo_ h hRE (vs:=[strV (wd i),strV [95],strV []]) (fun n a h=>by
  simp only [List.map_cons,List.map_nil,qk_]
  rw [show a.eval (tm 5)=strV (wd i) from Hd.t (l:=_) (i:=5) rfl n a h]) (hR 95 w1 (hno _ (.inr (.inl rfl)))) (by omega) fun e w2 hR2=>?_))
 obtain ⟨rfl,hk2⟩:=hR2
 refine ⟨_,rfl,fun a h=>qa_ h (.t rfl) (by omega) fun a h=>wpList_nil ?_⟩
 refine qj_ (nrg (qb_ h (.t rfl) (by omega) fun a h=>qo_ h hRE (vs:=[strV (wd i),strV [45],strV []]) (fun n a h=>by
  simp only [List.map_cons,List.map_nil,qk_]
  rw [show a.eval (tm 7)=strV (wd i) from Hd.t (l:=_) (i:=7) rfl n a h]) (hR 45 w2 (hno _ (.inr (.inr rfl)))) (by omega) fun e w3 hR3=>?_))
 obtain ⟨rfl,hk3⟩:=hR3
 refine ⟨_,rfl,fun a h=>qa_ h (.t rfl) (by omega) fun a h=>wpList_nil ?_⟩
 have hk03:=(hk1.trans hk2).trans hk3
 refine qj_ (nrg (qb_ h (.t rfl) (by omega) fun a h=>qo_ h L.trE (vs:=[strV (wd i)]) (fun n a h=>by simp only [List.map_cons,List.map_nil];rw [Hd.t (l:=_) (i:=9) rfl n a h]) (L.tr i w3 hi (hW.trans hk03)) (by omega) fun e w4 hR4=>?_))
 obtain ⟨rfl,hk4⟩:=hR4
 refine ⟨_,rfl,fun a h=>qa_ h (.t rfl) (by omega) fun a h=>wpList_nil ?_⟩
 have hk04:=hk03.trans hk4
 refine qj_ (nrg (qb_ h (.t rfl) (by omega) fun a h=>qo_ h L.loE (vs:=[strV (wd i)]) (fun n a h=>by simp only [List.map_cons,List.map_nil];rw [Hd.t (l:=_) (i:=11) rfl n a h]) (L.lo i w4 hi (hW.trans hk04)) (by omega) fun e w5 hR5=>?_))
 obtain ⟨rfl,hk5⟩:=hR5
 refine ⟨_,rfl,fun a h=>qa_ h (.t rfl) (by omega) fun a h=>wpList_nil ?_⟩
 refine qj_ (nrg (qb_ h (.t rfl) (by omega) fun a h=>qa_ h (.t rfl) (by omega) fun a h=>wpList_nil (.ret ?_)))
 exact ret1 (RR:=fun e w=>e=.returned (strV (lw i))/\Keeps (fun _=>False) W w) h rfl ⟨rfl,hk04.trans hk5⟩
theorem kp_calls (T:CnT P N) (hfn:FnIs P N.fKp 15 [2,3] (cOKp N)) (hNE:Ent P N.fNo) {i:Nat} (hi:i < 4) {W:World} (hN:Calls P N.fNo [strV (wd i)].toArray W fun e w=>e=.returned (strV (lw i))/\Keeps (fun _=>False) W w) :
  Calls P N.fKp [strV (wd i)].toArray W fun e w=>e=.returned (.tuple #[.int .i8 (i:Int),.nilIface])/\Keeps (fun _=>False) W w:=by
 refine callsT T.mixed hfn (by simp) _ (by simp) fun a h=>?_
 unfold cOKp
 refine qj_ (nrg (qa_ h .i (by omega) fun a h=>qa_ h .c (by omega) fun a h=>wpList_nil ?_))
 refine qj_ (nrg (qb_ h (.t rfl) (by omega) fun a h=>qo_ h hNE (vs:=[strV (wd i)]) (fun n a h=>by simp only [List.map_cons,List.map_nil];rw [Hd.t (l:=_) (i:=4) rfl n a h]) hN (by omega) fun e w hR=>?_))
 obtain ⟨rfl,hk⟩:=hR
 refine ⟨_,rfl,fun a h=>wpList_nil ?_⟩
 have h:=h.pick (m:=[(5,strV (lw i))]) ⟨rfl,trivial⟩
 have fin:∀ (a:Act) (l:List (Nat × Value)),St 15 a l->l.lookup 2=some (.int .i8 (i:Int))->l.lookup 3=some .nilIface->(a.defers=[]/\Ending.returned (retOf [2,3] a)=.returned (.tuple #[.int .i8 (i:Int),.nilIface])/\Keeps (fun _=>False) W w):=fun a l h h2 h3=>
  ret2w (RR:=fun e w=>e=.returned (.tuple #[.int .i8 (i:Int),.nilIface])/\Keeps (fun _=>False) W w) h h2 h3 ⟨rfl,hk⟩
 match i,hi with
 | 0,_=>
  refine .block (qj_ (nrg (st_run h (rn_eqS h (.t rfl) (t:=[115,101,116]) .c) (by omega) fun a h=>qa_ h (.t rfl) (by omega) fun a h=>wpList_nil ?_)))
  refine st_if h rfl (fun _=>?_) (fun hh=>absurd hh (by decide))
  exact qj_ (nrg (qa_ h .i (by omega) fun a h=>qa_ h .c (by omega) fun a h=>wpList_nil (.ret (fin _ _ h rfl rfl))))
 | 1,_=>
  refine .block (qj_ (nrg (st_run h (rn_eqS h (.t rfl) (t:=[115,101,116]) .c) (by omega) fun a h=>qa_ h (.t rfl) (by omega) fun a h=>wpList_nil ?_)))
  refine st_if h rfl (fun hh=>absurd hh (by decide)) (fun _=>?_)
  refine qj_ (nrg (st_run h (rn_eqS h (.t rfl) (t:=[100,101,108,101,116,101]) .c) (by omega) fun a h=>qa_ h (.t rfl) (by omega) fun a h=>wpList_nil ?_))
  refine st_if h rfl (fun _=>?_) (fun hh=>absurd hh (by decide))
  exact qj_ (nrg (qa_ h .i (by omega) fun a h=>qa_ h .c (by omega) fun a h=>wpList_nil (.ret (fin _ _ h rfl rfl))))
 | 2,_=>
  refine .block (qj_ (nrg (st_run h (rn_eqS h (.t rfl) (t:=[115,101,116]) .c) (by omega) fun a h=>qa_ h (.t rfl) (by omega) fun a h=>wpList_nil ?_)))
  refine st_if h rfl (fun hh=>absurd hh (by decide)) (fun _=>?_)
  refine qj_ (nrg (st_run h (rn_eqS h (.t rfl) (t:=[100,101,108,101,116,101]) .c) (by omega) fun a h=>qa_ h (.t rfl) (by omega) fun a h=>wpList_nil ?_))
  refine st_if h rfl (fun hh=>absurd hh (by decide)) (fun _=>?_)
  refine qj_ (nrg (st_run h (rn_eqS h (.t rfl) (t:=[97,112,112,101,110,100]) .c) (by omega) fun a h=>qa_ h (.t rfl) (by omega) fun a h=>wpList_nil ?_))
  refine st_if h rfl (fun _=>?_) (fun hh=>absurd hh (by decide))
  exact qj_ (nrg (qa_ h .i (by omega) fun a h=>qa_ h .c (by omega) fun a h=>wpList_nil (.ret (fin _ _ h rfl rfl))))
 | 3,_=>
  refine .block (qj_ (nrg (st_run h (rn_eqS h (.t rfl) (t:=[115,101,116]) .c) (by omega) fun a h=>qa_ h (.t rfl) (by omega) fun a h=>wpList_nil ?_)))
  refine st_if h rfl (fun hh=>absurd hh (by decide)) (fun _=>?_)
  refine qj_ (nrg (st_run h (rn_eqS h (.t rfl) (t:=[100,101,108,101,116,101]) .c) (by omega) fun a h=>qa_ h (.t rfl) (by omega) fun a h=>wpList_nil ?_))
  refine st_if h rfl (fun hh=>absurd hh (by decide)) (fun _=>?_)
  refine qj_ (nrg (st_run h (rn_eqS h (.t rfl) (t:=[97,112,112,101,110,100]) .c) (by omega) fun a h=>qa_ h (.t rfl) (by omega) fun a h=>wpList_nil ?_))
  refine st_if h rfl (fun hh=>absurd hh (by decide)) (fun _=>?_)
  refine qj_ (nrg (st_run h (rn_eqS h (.t rfl) (t:=[115,117,98,116,114,97,99,116]) .c) (by omega) fun a h=>qa_ h (.t rfl) (by omega) fun a h=>wpList_nil ?_))
  refine st_if h rfl (fun _=>?_) (fun hh=>absurd hh (by decide))
  exact qj_ (nrg (qa_ h .i (by omega) fun a h=>qa_ h .c (by omega) fun a h=>wpList_nil (.ret (fin _ _ h rfl rfl))))
end
end Go.Proofs.YtbacpeilgfmblaaDoor.Kx

namespace Go.Proofs.YtbacpeilgfmblaaDoor.Kx
open Go
set_option maxRecDepth 4000
section
variable {P:Program} {N:CN} {W0:World}
theorem src_slT {tSl te:Nat} (ot:OctT P tSl te) {w:World} {X:Nat->Prop} {v:Value} {bs:Bs} (h:SlRp w X v bs):Src P 1 tSl v bs.length (bs.map octv) w:=by
 rcases h with ⟨rfl,rfl⟩ | ⟨b,o,c,rfl,_,_,_,_,hat⟩
 ·exact Src.ofNil w ot.und 0
 ·refine Src.ofSlice w ot.und ⟨b,o,none⟩ _ c _ (by simp) (fun j u hj=>?_) (fun u hu=>?_)
  ·simp only [List.getElem?_map,Option.map_eq_some_iff] at hj
   obtain ⟨x,hx,rfl⟩:=hj
   rw [Addr.add_lit]
   exact hat j x hx
  ·simp only [List.mem_map] at hu
   obtain ⟨x,_,rfl⟩:=hu
   rfl
theorem st_nilT {ops:Array Oper} {Q:Exit->Act->World->Prop} {r:List Oper} {n:Nat} {a:Act} {w:World} {l:List (Nat × Value)} (h:St n a l) {d B O:Nat} {x:Operand} (hx:Hd l x (pt B O)) (hd:d < n) (c:∀ a',St n a' ((d,pt B O) :: l)->wpList P ops Q r a' w):wpList P ops Q (mk (some d) (.nilCheck x) :: r) a w:=
 wl_nilCheck (hx n a h) (c _ (h.put _ hd))
theorem km_calls (T:CnT P N) (hfn:FnIs P N.fKm 7 [2,3] (cOKm N)) (hE:Ent P N.fKs) {i:Nat} (hi:i < 4) (hC:∀ W,Calls P N.fKs [.int .i8 (i:Int)].toArray W fun e w=>e=.returned (strV (wd i))/\w=W) (W:World) :
  Calls P N.fKm [.int .i8 (i:Int)].toArray W fun e w=>∃ v,e=.returned (.tuple #[v,.nilIface])/\SlRp w (fun _=>False) v (wd i)/\Keeps (fun _=>False) W w:=by
 refine callsT T.mixed hfn (by simp) _ (by simp) fun a h=>?_
 unfold cOKm
 refine qj_ (nrg (qa_ h .c (by omega) fun a h=>qa_ h .c (by omega) fun a h=>wpList_nil ?_))
 refine qj_ (nrg (qb_ h (.t rfl) (by omega) fun a h=>qo_ h hE (vs:=[.int .i8 (i:Int)]) (fun n a h=>by simp only [List.map_cons,List.map_nil];rw [Hd.t (l:=_) (i:=4) rfl n a h]) (hC W) (by omega) fun e w hR=>?_))
 obtain ⟨rfl,rfl⟩:=hR
 refine ⟨_,rfl,fun a h=>?_⟩
 have hl:=wd_len hi
 have hr:=Lib.run_convert_string_bytes w N.tStr N.tSl N.tU8 ⟨(wd i).toArray⟩ T.dStr T.oct.und T.dU8
 have hs:=bytesW_sl w N.tU8 (wd i) (by omega)
 have hk:=bytesW_keeps w N.tU8 ⟨(wd i).toArray⟩
 refine st_run h (v:=.slice (some ⟨w.heap.size,0,none⟩) (ByteArray.size ⟨(wd i).toArray⟩) (grownCap w (ByteArray.size ⟨(wd i).toArray⟩) 0 N.tU8)) (w':=Lib.bytesWorld w N.tU8 ⟨(wd i).toArray⟩) (by
  have e:=Hd.t (l:=_) (i:=5) (v:=strV (wd i)) rfl _ a h
  simp only [execOp,mk,e,strV,Sem.run_bind,hr,Result.andThen_ok,Sem.run_pure]) (by omega) fun a h=>?_
 refine qa_ h (.t rfl) (by omega) fun a h=>qa_ h .c (by omega) fun a h=>wpList_nil (.ret ?_)
 exact ret2w (RR:=fun e w'=>∃ v,e=.returned (.tuple #[v,.nilIface])/\SlRp w' (fun _=>False) v (wd i)/\Keeps (fun _=>False) w w') h rfl rfl ⟨_,rfl,hs,hk⟩
theorem tx_calls (T:CnT P N) (hfn:FnIs P N.fTx 15 [2,3] (cOTx N)) (hE:Ent P N.fKm) {i:Nat} (hi:i < 4) (hC:∀ W,Calls P N.fKm [.int .i8 (i:Int)].toArray W fun e w=>∃ v,e=.returned (.tuple #[v,.nilIface])/\SlRp w (fun _=>False) v (wd i)/\Keeps (fun _=>False) W w) (W:World) :
  Calls P N.fTx [.int .i8 (i:Int)].toArray W fun e w=>∃ v,e=.returned (.tuple #[v,.bool true])/\SlRp w (fun _=>False) v (wd i)/\Keeps (fun _=>False) W w:=by
 have hl:=wd_len hi
 refine callsT T.mixed hfn (by simp) _ (by simp) fun a h=>?_
 unfold cOTx
 refine qj_ (nrg (qa_ h .c (by omega) fun a h=>qa_ h .c (by omega) fun a h=>wpList_nil ?_))
 refine qj_ (nrg (qb_ h (.t rfl) (by omega) fun a h=>qo_ h hE (vs:=[.int .i8 (i:Int)]) (fun n a h=>by simp only [List.map_cons,List.map_nil];rw [Hd.t (l:=_) (i:=7) rfl n a h]) (hC W) (by omega) fun e w hR=>?_))
 obtain ⟨v,rfl,hv,hk⟩:=hR
 refine ⟨_,rfl,fun a h=>qb_ h (.t rfl) (by omega) fun a h=>qf_ h (.t rfl) rfl (by omega) fun a h=>qf_ h (.t rfl) rfl (by omega) fun a h=>qa_ h (.t rfl) (by omega) fun a h=>qa_ h (.t rfl) (by omega) fun a h=>wpList_nil ?_⟩
 have h:=h.pick (m:=[(4,v),(5,.nilIface)]) ⟨rfl,rfl,trivial⟩
 refine qj_ (ndrw [false,true,false,false,true,true] (fun w'=>Keeps (fun _=>False) W w') (by kernel_rfl) ?_)
 show evF P _ [mk (some 11) (.move (tm 4)),mk (some 13) (.move (tm 5)),mk (some 14) (.binOp .eql N.tErr (tm 13) (.const .nilIface) 0)] a
  fun af=>wpLd P _ _ [bi (some 12) .append [(.const nilS),(tm 11)] [N.tSl,N.tSl] N.tSl,mk (some 2) (.assign (tm 12)),mk (some 3) (.assign (tm 14))] af w.drew
 refine se_move h (.t rfl) (by omega) fun a h=>se_move h (.t rfl) (by omega) fun a h=>?_
 refine ⟨.bool true,fun w' _=>?_,?_⟩
 ·have e:=Hd.t (l:=_) (i:=13) (v:=Value.nilIface) rfl _ a h
  simp [execOp,mk,e,qk_,eqGuard,T.nilEq]
 have h:=h.put (d:=14) (.bool true) (by omega)
 have hI0:Keeps (fun _=>False) W w.drew:=hk.trans (Keeps.drew _ _)
 have hv0:SlRp w.drew (fun _=>False) v (wd i):=hv.keep (Keeps.drew _ _)
 obtain ⟨v2,w3,hrun,hg⟩:=run_append_dst (P:=P) (l:=wd i) (tx:=N.tSl) (ty:=N.tSl) T.oct (DstAt.nil w.drew w.drew.heap.size N.tU8) (src_slT T.oct hv0) (Nat.le_refl _) (by simp only [LIM,List.length_nil];omega)
 rw [List.nil_append] at hg
 have hk3:Keeps (fun _=>False) W w3:=hI0.trans (hg.keeps.mono fun k hk hX=>by cases hX)
 show wpLd P _ _ _ (a.put (some 14) (.bool true)) w.drew
 generalize a.put (some 14) (.bool true)=a at h ⊢
 refine ⟨hI0,?_⟩
 unfold Oper.wp
 have hx:(execOp a.eval (bi (some 12) .append [(.const nilS),(tm 11)] [N.tSl,N.tSl] N.tSl)).run P w.drew=.ok (.value v2) w3:=by
  have e2:=Hd.t (l:=_) (i:=11) (v:=v) rfl _ _ h
  simp [execOp,bi,resolve,invoke,builtin,e2,qk_,nilS,hrun]
 rw [hx]
 have h:=h.put (d:=12) v2 (by omega)
 refine sl_assign h hk3 (.t rfl) (by omega) fun a h=>sl_assign h hk3 (.t rfl) (by omega) fun a h=>sl_nil hk3 (.ret ?_)
 exact ret2w (RR:=fun e w=>∃ v,e=.returned (.tuple #[v,.bool true])/\SlRp w (fun _=>False) v (wd i)/\Keeps (fun _=>False) W w) h rfl rfl ⟨_,rfl,hg.dst.sl,hk3⟩
theorem ps_calls (T:CnT P N) (hfn:FnIs P N.fPs 15 [2,3] (cOPs N)) (hE:Ent P N.fKp) {i:Nat} (hi:i < 4) {W:World} (hC:Calls P N.fKp [strV (wd i)].toArray W fun e w=>e=.returned (.tuple #[.int .i8 (i:Int),.nilIface])/\Keeps (fun _=>False) W w) :
  Calls P N.fPs [strV (wd i)].toArray W fun e w=>e=.returned (.tuple #[.int .i64 (i:Int),.bool true])/\Keeps (fun _=>False) W w:=by
 refine callsT T.mixed hfn (by simp) _ (by simp) fun a h=>?_
 unfold cOPs
 refine qj_ (nrg (qa_ h .i (by omega) fun a h=>qa_ h .c (by omega) fun a h=>wpList_nil ?_))
 refine qj_ (nrg (qb_ h (.t rfl) (by omega) fun a h=>qo_ h hE (vs:=[strV (wd i)]) (fun n a h=>by simp only [List.map_cons,List.map_nil];rw [Hd.t (l:=_) (i:=7) rfl n a h]) hC (by omega) fun e w hR=>?_))
 obtain ⟨rfl,hk⟩:=hR
 refine ⟨_,rfl,fun a h=>qb_ h (.t rfl) (by omega) fun a h=>qf_ h (.t rfl) rfl (by omega) fun a h=>qf_ h (.t rfl) rfl (by omega) fun a h=>qa_ h (.t rfl) (by omega) fun a h=>qa_ h (.t rfl) (by omega) fun a h=>wpList_nil ?_⟩
 have h:=h.pick (m:=[(4,.int .i8 (i:Int)),(5,.nilIface)]) ⟨rfl,rfl,trivial⟩
 refine qj_ (qj_ (nrg (qb_ h (.t rfl) (by omega) fun a h=>st_run h (v:=.bool false) (w':=w) (by
  have e:=Hd.t (l:=_) (i:=11) (v:=Value.nilIface) rfl _ a h
  simp [execOp,mk,e,qk_,eqGuard,T.nilNe]) (by omega) fun a h=>wpList_nil ?_)))
 refine st_if h rfl (fun hh=>by cases hh) (fun _=>.skip ?_)
 show NWP P _ _ a w
 refine qj_ (nrg (qb_ h (.t rfl) (by omega) fun a h=>st_conv h (.t rfl) T.dOp T.dInt (by omega) fun a h=>?_))
 have hw:IntKind.i64.wrap (i:Int)=(i:Int):=by simp [IntKind.wrap,IntKind.bits,IntKind.signed];omega
 rw [hw] at h
 exact qa_ h (.t rfl) (by omega) fun a h=>qa_ h .c (by omega) fun a h=>wpList_nil (.ret (ret2w (RR:=fun e w=>e=.returned (.tuple #[.int .i64 (i:Int),.bool true])/\Keeps (fun _=>False) W w) h rfl rfl ⟨rfl,hk⟩))
theorem ku_calls (T:CnT P N) (hfn:FnIs P N.fKu 17 [4] (cOKu N)) (hE:Ent P N.fKp) {i:Nat} (_hi:i < 4) {W:World} (hC:Calls P N.fKp [strV (wd i)].toArray W fun e w=>e=.returned (.tuple #[.int .i8 (i:Int),.nilIface])/\Keeps (fun _=>False) W w) {v:Value} (hv:SlRp W (fun _=>False) v (wd i)) {g:Nat} (hg:W.heap[g]?=some (.cells #[.int .i8 0] N.tOp (0,0))) :
  Calls P N.fKu [pt g 0,v].toArray W fun e w=>e=.returned .nilIface/\w.cell? ⟨g,0,none⟩=some (.int .i8 (i:Int))/\Keeps (fun k=>k=g) W w:=by
 refine callsT T.mixed hfn (by simp) _ (by simp) fun a h=>?_
 unfold cOKu
 refine qj_ (nrg (qa_ h .c (by omega) fun a h=>wpList_nil ?_))
 refine qj_ (nrg (qb_ h (.t rfl) (by omega) fun a h=>st_run h (rn_text T h (.t rfl) hv) (by omega) fun a h=>qo_ h hE (vs:=[strV (wd i)]) (fun n a h=>by simp only [List.map_cons,List.map_nil];rw [Hd.t (l:=_) (i:=9) rfl n a h]) hC (by omega) fun e w hR=>?_))
 obtain ⟨rfl,hk⟩:=hR
 refine ⟨_,rfl,fun a h=>qb_ h (.t rfl) (by omega) fun a h=>qf_ h (.t rfl) rfl (by omega) fun a h=>qf_ h (.t rfl) rfl (by omega) fun a h=>qa_ h (.t rfl) (by omega) fun a h=>qa_ h (.t rfl) (by omega) fun a h=>wpList_nil ?_⟩
 have h:=h.pick (m:=[(0,pt g 0),(5,.int .i8 (i:Int)),(6,.nilIface)]) ⟨rfl,rfl,rfl,trivial⟩
 have hgl:g < W.heap.size:=(Array.getElem?_eq_some_iff.1 hg).1
 have hg2:w.heap[g]?=some (.cells #[.int .i8 0] N.tOp (0,0)):=by rw [hk.block g hgl id];exact hg
 refine qj_ (nrg (qb_ h (.t rfl) (by omega) fun a h=>qb_ h (.t rfl) (by omega) fun a h=>st_nilT h (.t rfl) (by omega) fun a h=>?_))
 refine st_store h (cs:=[.int .i8 (i:Int)]) (.t rfl) (.t rfl) rfl T.vOp.size hg2 rfl (by simp [Value.oneCell']) (wpList_nil ?_)
 have hr:=setRow_heap _ _ _ [Value.int .i8 (i:Int)].toArray _ _ hg2
 have hk2:Keeps (fun k=>k=g) W (w.setRow g [Value.int .i8 (i:Int)].toArray):=(hk.mono (Y:=fun k=>k=g) fun _ _ h=>h.elim).trans (Keeps.setRow _ _ _ _ rfl)
 refine qj_ (nrg (qb_ h (.t rfl) (by omega) fun a h=>qa_ h (.t rfl) (by omega) fun a h=>wpList_nil (.ret ?_)))
 exact ret1 (RR:=fun e w=>e=.returned .nilIface/\w.cell? ⟨g,0,none⟩=some (.int .i8 (i:Int))/\Keeps (fun k=>k=g) W w) h rfl ⟨rfl,by simp [World.cell?,hr],hk2⟩
theorem of_calls (T:CnT P N) (hfn:FnIs P N.fOf 13 [2,3] (cOOf N)) (hE:Ent P N.fKu) {i:Nat} (hi:i < 4) {W0 W:World} (hW:Keeps (fun _=>False) W0 W)
  (hC:∀ (W:World) (v:Value) (g:Nat),Keeps (fun _=>False) W0 W->SlRp W (fun _=>False) v (wd i)->W.heap[g]?=some (.cells #[.int .i8 0] N.tOp (0,0))->Calls P N.fKu [pt g 0,v].toArray W fun e w=>e=.returned .nilIface/\w.cell? ⟨g,0,none⟩=some (.int .i8 (i:Int))/\Keeps (fun k=>k=g) W w)
  {v:Value} (hv:SlRp W (fun _=>False) v (wd i)):Calls P N.fOf [v].toArray W fun e w=>e=.returned (.tuple #[.int .i64 (i:Int),.bool true])/\Keeps (fun _=>False) W w:=by
 have hl:=wd_len hi
 refine callsT T.mixed hfn (by simp) _ (by simp) fun a h=>?_
 unfold cOOf
 refine qj_ (nrg (qa_ h .i (by omega) fun a h=>qa_ h .c (by omega) fun a h=>wpList_nil ?_))
 refine qj_ (nrg (st_alloc h (T.zOp W) (by omega) fun a h=>wpList_nil ?_))
 have hn:=qr_ W (.cells (Value.int .i8 0).cells N.tOp (0,0))
 have hk1:Keeps (fun _=>False) W (W.alloc (.cells (Value.int .i8 0).cells N.tOp (0,0))):=Keeps.alloc _ _ _
 generalize W.alloc (.cells (Value.int .i8 0).cells N.tOp (0,0))=w1 at hn hk1 ⊢
 refine qj_ (nrg (qb_ h (.t rfl) (by omega) fun a h=>?_))
 have hv1:=hv.keep hk1
 obtain ⟨v2,w3,hrun,hg⟩:=run_append_dst (P:=P) (l:=wd i) (tx:=N.tSl) (ty:=N.tSl) T.oct (DstAt.nil w1 w1.heap.size N.tU8) (src_slT T.oct hv1) (Nat.le_refl _) (by simp only [LIM,List.length_nil];omega)
 rw [List.nil_append] at hg
 have hkg:Keeps (fun _=>False) w1 w3:=hg.keeps.mono fun k hk hX=>by cases hX
 refine st_bi h (v:=v2) (w':=w3) (by
  have e2:=Hd.t (l:=_) (i:=6) (v:=v) rfl _ a h
  simp [execOp,bi,resolve,invoke,builtin,e2,qk_,nilS,hrun]) (by omega) fun a h=>?_
 have hn3:w3.heap[W.heap.size]?=some (.cells #[.int .i8 0] N.tOp (0,0)):=by rw [hkg.block _ (Array.getElem?_eq_some_iff.1 hn).1 id];exact hn
 refine qo_ h hE (vs:=[pt W.heap.size 0,v2]) (fun n a h=>by simp only [List.map_cons,List.map_nil];rw [Hd.t (l:=_) (i:=4) rfl n a h,Hd.t (l:=_) (i:=7) rfl n a h]) (hC w3 v2 W.heap.size ((hW.trans hk1).trans hkg) hg.dst.sl hn3) (by omega) fun e w4 hR=>?_
 obtain ⟨rfl,hc4,hk4⟩:=hR
 refine ⟨_,rfl,fun a h=>qa_ h (.t rfl) (by omega) fun a h=>wpList_nil ?_⟩
 have h:=h.pick (m:=[(4,pt W.heap.size 0),(5,.nilIface)]) ⟨rfl,rfl,trivial⟩
 refine qj_ (qj_ (nrg (qb_ h (.t rfl) (by omega) fun a h=>st_run h (v:=.bool false) (w':=w4) (by
  have e:=Hd.t (l:=_) (i:=9) (v:=Value.nilIface) rfl _ a h
  simp [execOp,mk,e,qk_,eqGuard,T.nilNe]) (by omega) fun a h=>wpList_nil ?_)))
 refine st_if h rfl (fun hh=>by cases hh) (fun _=>.skip ?_)
 show NWP P _ _ a w4
 refine qj_ (nrg (st_load1 h (v:=.int .i8 (i:Int)) (.t rfl) T.vOp hc4 (by omega) fun a h=>st_conv h (.t rfl) T.dOp T.dInt (by omega) fun a h=>?_))
 have hw:IntKind.i64.wrap (i:Int)=(i:Int):=by simp [IntKind.wrap,IntKind.bits,IntKind.signed];omega
 rw [hw] at h
 have hkW:Keeps (fun _=>False) W w4:=((((hk1.trans hkg).mono (Y:=fun k=>k=W.heap.size) fun _ _ h=>h.elim).trans hk4)).mono fun k hk hX=>by omega
 exact qa_ h (.t rfl) (by omega) fun a h=>qa_ h .c (by omega) fun a h=>wpList_nil (.ret (ret2w (RR:=fun e w=>e=.returned (.tuple #[.int .i64 (i:Int),.bool true])/\Keeps (fun _=>False) W w) h rfl rfl ⟨rfl,hkW⟩))
theorem rn_convT {n:Nat} {a:Act} {w:World} {l:List (Nat × Value)} (h:St n a l) {d:Nat} {x:Operand} {A B:Nat} {k k':IntKind} {m:Int} (hx:Hd l x (.int k m)) (hA:P.underlying A=some (.int k)) (hB:P.underlying B=some (.int k')):(execOp a.eval (mk (some d) (.convert A B x))).run P w=.ok (.value (.int k' (k'.wrap m))) w:=by
 simp [execOp,mk,hx n a h,convert,run_underlying hA,run_underlying hB,Conv.intToInt]
structure WordC (P:Program) (N:CN) (W0:World):Prop where
 tab:CnT P N
 nsE:Ent P N.fNs
 ns:∀ W,Calls P N.fNs ([]:List Value).toArray W fun e w=>∃ b,e=.returned (.slice (some ⟨b,0,none⟩) 4 4)/\qe_ w b 0 nmCells/\Keeps (fun _=>False) W w
 wdE:Ent P N.fWd
 wdC:∀ (W:World) (b:Nat) (x:Int),qe_ W b 0 nmCells->Calls P N.fWd [.slice (some ⟨b,0,none⟩) 4 4,.int .i64 x].toArray W fun e w=>(∃ s ok,e=.returned (.tuple #[strV s,.bool ok])/\(ok=true->∃ i:Nat,i < 4/\x=(i:Int)/\s=wd i))/\Keeps (fun _=>False) W w
 stE:Ent P N.fSt
 st:∀ (i:Nat) (W:World),i < 4->Calls P N.fSt [.int .i8 (i:Int)].toArray W fun e w=>e=.returned (strV (wd i))/\w=W
 txE:Ent P N.fTx
 tx:∀ (i:Nat) (W:World),i < 4->Calls P N.fTx [.int .i8 (i:Int)].toArray W fun e w=>∃ v,e=.returned (.tuple #[v,.bool true])/\SlRp w (fun _=>False) v (wd i)/\Keeps (fun _=>False) W w
 psE:Ent P N.fPs
 ps:∀ (i:Nat) (W:World),i < 4->Keeps (fun _=>False) W0 W->Calls P N.fPs [strV (wd i)].toArray W fun e w=>e=.returned (.tuple #[.int .i64 (i:Int),.bool true])/\Keeps (fun _=>False) W w
 ofE:Ent P N.fOf
 of:∀ (i:Nat) (W:World) (v:Value),i < 4->Keeps (fun _=>False) W0 W->SlRp W (fun _=>False) v (wd i)->Calls P N.fOf [v].toArray W fun e w=>e=.returned (.tuple #[.int .i64 (i:Int),.bool true])/\Keeps (fun _=>False) W w
theorem words_calls (C:WordC P N W0) {f:Nat} (hfn:FnIs P f 65 [2] (cOLaw N)) {x:Int} (_hx:-128<=x/\x < 128) :
  Calls P f [.int .i8 x].toArray W0 fun e w=>e=.returned (.bool true)/\Keeps (fun _=>False) W0 w:=by
 have T:=C.tab
 refine callsT T.mixed hfn (by simp) _ (by simp) fun a h=>?_
 unfold cOLaw
 refine qj_ (nrg (qa_ h .c (by omega) fun a h=>wpList_nil ?_))
 refine qj_ (nrg (qo_ h C.nsE (args:=[]) (vs:=[]) (fun n a h=>rfl) (C.ns W0) (by omega) fun e w1 hR1=>?_))
 obtain ⟨b,rfl,hb,hk1⟩:=hR1
 refine ⟨_,rfl,fun a h=>qb_ h (.t rfl) (by omega) fun a h=>st_conv h (.t rfl) T.dI8 T.dInt (by omega) fun a h=>?_⟩
 have hw:IntKind.i64.wrap x=x:=by simp [IntKind.wrap,IntKind.bits,IntKind.signed];omega
 rw [hw] at h
 refine qo_ h C.wdE (vs:=[.slice (some ⟨b,0,none⟩) 4 4,.int .i64 x]) (fun n a h=>by simp only [List.map_cons,List.map_nil];rw [Hd.t (l:=_) (i:=12) rfl n a h,Hd.t (l:=_) (i:=14) rfl n a h]) (C.wdC w1 b x hb) (by omega) fun e w2 hR2=>?_
 obtain ⟨⟨s,ok,rfl,hok⟩,hk2⟩:=hR2
 have hk02:=hk1.trans hk2
 refine ⟨_,rfl,fun a h=>qb_ h (.t rfl) (by omega) fun a h=>qf_ h (.t rfl) rfl (by omega) fun a h=>qf_ h (.t rfl) rfl (by omega) fun a h=>qa_ h (.t rfl) (by omega) fun a h=>qa_ h (.t rfl) (by omega) fun a h=>wpList_nil ?_⟩
 refine qj_ (qj_ (nrg (qb_ h (.t rfl) (by omega) fun a h=>st_not h (.t rfl) (by omega) fun a h=>wpList_nil ?_)))
 refine st_if h rfl (fun _=>qj_ (nrg (qa_ h .c (by omega) fun a h=>wpList_nil (.ret (ret1 (RR:=fun e w=>e=.returned (.bool true)/\Keeps (fun _=>False) W0 w) h rfl ⟨rfl,hk02⟩))))) (fun hh=>.skip ?_)
 have hok1:ok=true:=by simpa using hh
 obtain ⟨i,hi,rfl,rfl⟩:=hok hok1
 have h:St 65 a [(0,.int .i8 (i:Int)),(3,strV (wd i))]:=h.pick ⟨rfl,rfl,trivial⟩
 show NWP P _ _ a w2
 refine qj_ (nrg (qb_ h (.t rfl) (by omega) fun a h=>qo_ h C.txE (vs:=[.int .i8 (i:Int)]) (fun n a h=>by simp only [List.map_cons,List.map_nil];rw [Hd.t (l:=_) (i:=21) rfl n a h]) (C.tx i w2 hi) (by omega) fun e w3 hR3=>?_))
 obtain ⟨v,rfl,hv,hk3⟩:=hR3
 have hk03:=hk02.trans hk3
 refine ⟨_,rfl,fun a h=>qb_ h (.t rfl) (by omega) fun a h=>qf_ h (.t rfl) rfl (by omega) fun a h=>qf_ h (.t rfl) rfl (by omega) fun a h=>qa_ h (.t rfl) (by omega) fun a h=>qa_ h (.t rfl) (by omega) fun a h=>wpList_nil ?_⟩
 have h:St 65 a [(0,.int .i8 (i:Int)),(3,strV (wd i)),(5,v),(6,.bool true)]:=h.pick ⟨rfl,rfl,rfl,rfl,trivial⟩
 refine qj_ (qj_ (nrg (qb_ h (.t rfl) (by omega) fun a h=>st_not h (.t rfl) (by omega) fun a h=>qb_ h (.t rfl) (by omega) fun a h=>sg_move h rfl rfl rfl (by omega) (.t rfl) (by omega) fun a h=>?_)))
 refine sg_call h rfl rfl rfl (by omega) C.stE (args:=[(tm 28)]) (vs:=[.int .i8 (i:Int)]) (fun n a h=>by simp only [List.map_cons,List.map_nil];rw [Hd.t (l:=_) (i:=28) rfl n a h]) (C.st i w3 hi) (by omega) fun e w4 hR4=>?_
 obtain ⟨rfl,rfl⟩:=hR4
 refine ⟨_,rfl,fun a h=>sg_move h rfl rfl rfl (by omega) (.t rfl) (by omega) fun a h=>?_⟩
 refine st_gd h rfl rfl rfl (by omega) (v:=.bool false) (by simpa using rn_neS (P:=P) (d:=31) (T:=N.tStr) (w:=w4) h (x:=tm 29) (y:=tm 30) (s:=wd i) (t:=wd i) (.t rfl) (.t rfl)) (by omega) fun a h=>?_
 refine st_pick h (.t rfl) .c (.t rfl) (by omega) fun a h=>qb_ h (.t rfl) (by omega) fun a h=>sg_move h rfl rfl rfl (by omega) (.t rfl) (by omega) fun a h=>?_
 refine st_gd h rfl rfl rfl (by omega) (v:=strV (wd i)) (rn_text (d:=35) T h (.t rfl) hv) (by omega) fun a h=>sg_move h rfl rfl rfl (by omega) (.t rfl) (by omega) fun a h=>?_
 refine st_gd h rfl rfl rfl (by omega) (v:=.bool false) (by simpa using rn_neS (P:=P) (d:=37) (T:=N.tStr) (w:=w4) h (x:=tm 35) (y:=tm 36) (s:=wd i) (t:=wd i) (.t rfl) (.t rfl)) (by omega) fun a h=>?_
 refine st_pick h (.t rfl) .c (.t rfl) (by omega) fun a h=>wpList_nil ?_
 refine st_if h rfl (fun hh=>by simp at hh) (fun _=>.skip ?_)
 have h:St 65 a [(0,.int .i8 (i:Int)),(3,strV (wd i)),(5,v)]:=h.pick ⟨rfl,rfl,rfl,trivial⟩
 show NWP P _ _ a w4
 refine qj_ (nrg (qb_ h (.t rfl) (by omega) fun a h=>qo_ h C.psE (vs:=[strV (wd i)]) (fun n a h=>by simp only [List.map_cons,List.map_nil];rw [Hd.t (l:=_) (i:=40) rfl n a h]) (C.ps i w4 hi hk03) (by omega) fun e w5 hR5=>?_))
 obtain ⟨rfl,hk5⟩:=hR5
 have hk05:=hk03.trans hk5
 refine ⟨_,rfl,fun a h=>qb_ h (.t rfl) (by omega) fun a h=>qf_ h (.t rfl) rfl (by omega) fun a h=>qf_ h (.t rfl) rfl (by omega) fun a h=>qa_ h (.t rfl) (by omega) fun a h=>qa_ h (.t rfl) (by omega) fun a h=>wpList_nil ?_⟩
 have h:St 65 a [(0,.int .i8 (i:Int)),(5,v),(7,.int .i64 (i:Int)),(8,.bool true)]:=h.pick ⟨rfl,rfl,rfl,rfl,trivial⟩
 refine qj_ (nrg (qb_ h (.t rfl) (by omega) fun a h=>qo_ h C.ofE (vs:=[v]) (fun n a h=>by simp only [List.map_cons,List.map_nil];rw [Hd.t (l:=_) (i:=45) rfl n a h]) (C.of i w5 v hi hk05 (hv.keep hk5)) (by omega) fun e w6 hR6=>?_))
 obtain ⟨rfl,hk6⟩:=hR6
 have hk06:=hk05.trans hk6
 refine ⟨_,rfl,fun a h=>qb_ h (.t rfl) (by omega) fun a h=>qf_ h (.t rfl) rfl (by omega) fun a h=>qf_ h (.t rfl) rfl (by omega) fun a h=>qa_ h (.t rfl) (by omega) fun a h=>qa_ h (.t rfl) (by omega) fun a h=>wpList_nil ?_⟩
 have h:St 65 a [(0,.int .i8 (i:Int)),(7,.int .i64 (i:Int)),(8,.bool true),(9,.int .i64 (i:Int)),(10,.bool true)]:=h.pick ⟨rfl,rfl,rfl,rfl,rfl,trivial⟩
 have hwi:IntKind.i64.wrap (i:Int)=(i:Int):=by simp [IntKind.wrap,IntKind.bits,IntKind.signed];omega
 refine qj_ (nrg (qb_ h (.t rfl) (by omega) fun a h=>qb_ h (.t rfl) (by omega) fun a h=>sg_move h rfl rfl rfl (by omega) (.t rfl) (by omega) fun a h=>st_pick h (.t rfl) (.t rfl) .c (by omega) fun a h=>qb_ h (.t rfl) (by omega) fun a h=>?_))
 refine sg_move h rfl rfl rfl (by omega) (.t rfl) (by omega) fun a h=>sg_move h rfl rfl rfl (by omega) (.t rfl) (by omega) fun a h=>?_
 refine st_gd h rfl rfl rfl (by omega) (v:=.int .i64 (i:Int)) (by rw [<- hwi];exact rn_convT (d:=56) h (.t rfl) T.dI8 T.dInt) (by omega) fun a h=>?_
 refine sg_cmp h rfl rfl rfl (by omega) rfl (.t rfl) (.t rfl) (by omega) fun a h=>st_pick h (.t rfl) (.t rfl) .c (by omega) fun a h=>qb_ h (.t rfl) (by omega) fun a h=>?_
 have ec:cmpB .eql (i:Int) (i:Int)=true:=by simp [cmpB]
 rw [ec] at h
 refine sg_move h rfl rfl rfl (by omega) (.t rfl) (by omega) fun a h=>sg_move h rfl rfl rfl (by omega) (.t rfl) (by omega) fun a h=>?_
 refine st_gd h rfl rfl rfl (by omega) (v:=.int .i64 (i:Int)) (by rw [<- hwi];exact rn_convT (d:=62) h (.t rfl) T.dI8 T.dInt) (by omega) fun a h=>?_
 refine sg_cmp h rfl rfl rfl (by omega) rfl (.t rfl) (.t rfl) (by omega) fun a h=>st_pick h (.t rfl) (.t rfl) .c (by omega) fun a h=>?_
 rw [ec] at h
 exact qa_ h (.t rfl) (by omega) fun a h=>wpList_nil (.ret (ret1 (RR:=fun e w=>e=.returned (.bool true)/\Keeps (fun _=>False) W0 w) h rfl ⟨by simp,hk06⟩))
end
end Go.Proofs.YtbacpeilgfmblaaDoor.Kx

namespace Go.Proofs.YtbacpeilgfmblaaDoor.Kx
open Go Go.ChangeShapes Go.WideShapes Go.RowKit
section
variable {H:Type} {enc:TypeId × Value->H} {P:Program}
theorem Keeps.butNone {w w':World} (h:Keeps (fun _=>False) w w') (may:MemPlace->Prop):w.keptBut w' may:=
 World.keptBut_mono (fun _ h=>h.elim) (World.keptBut_none_iff.2 ⟨h.os,h.output,fun i hi=>h.block i hi id⟩)
end
end Go.Proofs.YtbacpeilgfmblaaDoor.Kx

namespace Go.Proofs.YtbacpeilgfmblaaDoor.Kx
open Go Go.ChangeShapes Go.WideShapes Go.RowKit
section
variable {P:Program} {N:CN} {W0:World}
theorem wordC_of (T:CnT P N) (L:LibC P N W0) (hNs:FnIs P N.fNs 6 [0] (cONs N)) (hWd:FnIs P N.fWd 21 [4,5] (cOWd N)) (hTx:FnIs P N.fTx 15 [2,3] (cOTx N)) (hSt:FnIs P N.fSt 5 [2] (cOSt N)) (hPs:FnIs P N.fPs 15 [2,3] (cOPs N)) (hOf:FnIs P N.fOf 13 [2,3] (cOOf N))
  (hKs:FnIs P N.fKs 12 [2] (cOKs N)) (hKm:FnIs P N.fKm 7 [2,3] (cOKm N)) (hKp:FnIs P N.fKp 15 [2,3] (cOKp N)) (hKu:FnIs P N.fKu 17 [4] (cOKu N)) (hNo:FnIs P N.fNo 14 [2] (cONo N)) (hRe:FnIs P N.fRe 67 [6] (cORe N)) (hIx:FnIs P N.fIx 25 [4] (cOIx N)):WordC P N W0:=by
 have ks:∀ (i:Nat) (W:World),i < 4->Calls P N.fKs [.int .i8 (i:Int)].toArray W fun e w=>e=.returned (strV (wd i))/\w=W:=fun i W hi=>ks_calls T hKs hi W
 have km:=fun (i:Nat) (W:World) (hi:i < 4)=>km_calls T hKm hKs.ent hi (fun W=>ks i W hi) W
 have re:∀ (i:Nat) (c:UInt8) (W:World),i < 4->c ∉ wd i->Calls P N.fRe [strV (wd i),strV [c],strV []].toArray W fun e w=>e=.returned (strV (wd i))/\Keeps (fun _=>False) W w:=fun i c W hi hc=>
  re_calls T hRe hIx.ent (by have:=wd_len hi;omega) (fun W=>ix_calls T hIx (by have:=wd_len hi;omega) hc W) W
 have no:∀ (i:Nat) (W:World),i < 4->Keeps (fun _=>False) W0 W->Calls P N.fNo [strV (wd i)].toArray W fun e w=>e=.returned (strV (lw i))/\Keeps (fun _=>False) W w:=fun i W hi hk=>no_calls T hNo L hRe.ent hi (fun c W hc=>re i c W hi hc) hk
 have kp:=fun (i:Nat) (W:World) (hi:i < 4) (hk:Keeps (fun _=>False) W0 W)=>kp_calls T hKp hNo.ent hi (no i W hi hk)
 exact ⟨T,hNs.ent,fun W=>ns_calls T hNs W,hWd.ent,fun W b x hb=>wd_calls T hWd hb x,hSt.ent,fun i W hi=>st_calls T hSt hKs.ent (fun W=>ks i W hi) W,hTx.ent,fun i W hi=>tx_calls T hTx hKm.ent hi (fun W=>km i W hi) W,hPs.ent,fun i W hi hk=>ps_calls T hPs hKp.ent hi (kp i W hi hk),hOf.ent,
  fun i W v hi hk hv=>of_calls T hOf hKu.ent hi hk (fun W v g hk hv hg=>ku_calls T hKu hKp.ent hi (kp i W hi hk) hv hg) hv⟩
end
theorem octW_ok {P:Program} {tSl tU8:Nat} (h1:P.underlying tSl=some (.slice tU8)) (h:(P.info? tU8).map (fun i=>(i.zero,i.size,i.bytes))=some (some (.int .u8 0),1,1)):OctT P tSl tU8:=by
 cases hi:P.info? tU8 with
 | none=>rw [hi] at h;cases h
 | some i=>
  rw [hi] at h
  simp only [Option.map_some,Option.some.injEq,Prod.mk.injEq] at h
  exact ⟨h1,i,_,hi,h.1,h.2.1,h.2.2,rfl⟩
theorem wd_size {i:Nat} (hi:i < 4):ByteArray.size ⟨(wd i).toArray⟩<=9223372036854775807:=by
 have h1:ByteArray.size ⟨(wd i).toArray⟩=(wd i).length:=List.size_toArray
 have:=wd_len hi
 omega
theorem wd_size2 {i:Nat} (hi:i < 4):ByteArray.size ⟨(wd i).toArray⟩<=140737488355328:=by
 have h1:ByteArray.size ⟨(wd i).toArray⟩=(wd i).length:=List.size_toArray
 have:=wd_len hi
 omega
theorem wd_ascii {i:Nat} (hi:i < 4):∀ (j:Nat) (b:UInt8),(⟨(wd i).toArray⟩:ByteArray).data.toList[j]?=some b->b.toNat < 128:=fun j b hb=>by
 have hm:b ∈ wd i:=List.mem_of_getElem? (i:=j) (by simpa using hb)
 have hall:(wd i).all (fun b=>decide (b.toNat < 128))=true:=by
  match i,hi with
  | 0,_=>decide
  | 1,_=>decide
  | 2,_=>decide
  | 3,_=>decide
 exact of_decide_eq_true (List.all_eq_true.1 hall b hm)
theorem wd_trim {i:Nat} (hi:i < 4):Lib.trimSpace (⟨(wd i).toArray⟩:ByteArray).data.toList=wd i:=by
 match i,hi with
 | 0,_=>decide
 | 1,_=>decide
 | 2,_=>decide
 | 3,_=>decide
theorem wd_low {i:Nat} (hi:i < 4):Lib.toLowerA (⟨(wd i).toArray⟩:ByteArray).data.toList=lw i:=by
 match i,hi with
 | 0,_=>decide
 | 1,_=>decide
 | 2,_=>decide
 | 3,_=>decide
section
variable {P:Program} {w:World}
theorem laidVars_perm {l l':List (String × DataW Unit)} (h:l.Perm l'):∀ ps,DataW.LaidVars P w l ps->∃ ps',DataW.LaidVars P w l' ps'/\ps.Perm ps':=by
 induction h with
 | nil=>exact fun ps hp=>⟨ps,hp,.refl _⟩
 | cons x _ ih=>
  rintro ps ⟨g,t,cs,fuel,p,q,h1,h2,h3,h4,h5,rfl⟩
  obtain ⟨q',h6,h7⟩:=ih q h5
  exact ⟨_,⟨g,t,cs,fuel,p,q',h1,h2,h3,h4,h6,rfl⟩,h7.append_left _⟩
 | swap x y l=>
  rintro ps ⟨g,t,cs,fuel,p,q,h1,h2,h3,h4,⟨g',t',cs',fuel',p',q',k1,k2,k3,k4,k5,rfl⟩,rfl⟩
  refine ⟨_,⟨g',t',cs',fuel',p',_,k1,k2,k3,k4,⟨g,t,cs,fuel,p,q',h1,h2,h3,h4,k5,rfl⟩,rfl⟩,?_⟩
  exact List.perm_append_comm_assoc _ _ _
 | trans _ _ ih1 ih2=>
  intro ps hp
  obtain ⟨ps1,h1,k1⟩:=ih1 ps hp
  obtain ⟨ps2,h2,k2⟩:=ih2 ps1 h1
  exact ⟨ps2,h2,k1.trans k2⟩
theorem laidMet_perm {l l':List (String × DataW Unit)} (h:l.Perm l') (hm:laidMet P l w):laidMet P l' w:=by
 obtain ⟨ps,h1,h2,h3⟩:=hm
 obtain ⟨ps',k1,k2⟩:=laidVars_perm h ps h1
 exact ⟨ps',k1,k2.nodup_iff.1 h2,fun b off hb=>h3 b off (k2.mem_iff.2 hb)⟩
theorem laidMet_ofH {l:List (String × DataW Unit)} (h:(l.filter fun x=>x.2.handleName?.isSome)=[]) (hm:laidMetH P l w):laidMet P l w:=by
 unfold laidMetH at hm
 rw [h] at hm
 exact hm
end
section
variable {H:Type} {enc:TypeId × Value->H} {P:Program}
theorem rowI {f:FuncId} {fn:Func} {s:ChangeSpec} {tX tB:TypeId} (hpar:fn.params.toList=[tX]) (hres:fn.resultTypes=#[tB]) (hX:P.underlying tX=some (.int .i8)) (hB:P.underlying tB=some .bool)
  (hv:s.vars=[]) (hs:∀ d1:DataW H,s.fn H [d1]={ results:=[.lit (.bool true)],args:=[d1] }) {W:World} {base:Nat} {args:Array Value} {ds gs:List (DataW H)} {before:List MemPlace}
  (hval:∀ (j:Nat) t v,fn.params[j]?=some t->args[j]?=some v->Value.okWide P W .any base t v) (hW:DataW.Whole enc P fn.params.toList s.vars false W args.toList ds gs before)
  (hcall:∀ x:Int,-128<=x/\x < 128->Calls P f [.int .i8 x].toArray W fun e w=>e=.returned (.bool true)/\Keeps (fun _=>False) W w) :
  Calls P f args W fun e W'=>∃ v,e=.returned v/\s.post enc P fn false true false false W args v W':=by
 have hW':=hW
 obtain ⟨p,q,hA0,hV,rfl,hfz,hnd⟩:=hW
 have hA:DataW.TrodAll enc P W 0 (fun _=>true) true fn.params.toList args.toList ds p:=hA0
 have hpj:∀ j,fn.params[j]?=([tX]:List TypeId)[j]?:=fun j=>by rw [<- hpar,Array.getElem?_toList]
 rw [hpar] at hA
 obtain ⟨v0,d0,rfl,rfl,h0⟩:=trodAll_one hA
 rw [hv] at hV
 obtain ⟨rfl,rfl⟩:=trodVars_none hV
 obtain ⟨n,rfl,rfl,rfl,hn⟩:=open_int hX (hval 0 tX v0 (by rw [hpj];rfl) rfl) h0
 have hn':-128<=n/\n < 128:=by
  simp [Lit.wf,IntKind.min,IntKind.max,IntKind.bits,IntKind.signed] at hn
  omega
 refine (hcall n hn').mono fun e W' ⟨he,hk⟩=>?_
 subst he
 refine ⟨_,rfl,_,_,_,[],[],[],hW',?_,?_,?_,hk.butNone _,fun h=>by cases h⟩
 ·rw [hres]
  simp only [List.append_nil,hs]
  exact trodAll_mk1 (shut_bool hB true)
 ·rw [hpar]
  simp only [List.append_nil,hs]
  exact trodAll_mk1 (shut_int (enc:=enc) (w:=W') (base:=0) (spare:=fun b=>decide (b < W.heap.size)) (held:=true) hX hn)
 ·rw [hv]
  simp only [List.append_nil,hs]
  rfl
end
end Go.Proofs.YtbacpeilgfmblaaDoor.Kx
