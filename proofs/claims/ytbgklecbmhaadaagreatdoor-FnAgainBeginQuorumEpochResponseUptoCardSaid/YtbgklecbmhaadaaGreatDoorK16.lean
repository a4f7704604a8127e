/-
  PLAIN LAWS AND CONTRACTS of messages, part 16.
-/
import Derived.Test.YtbgklecbmhaadaaGreatDoorK14
import Derived.Test.YtbgklecbmhaadaaGreatDoorK15
import Derived.Test.YtbgklecbmhaadaaGreatDoorRows
import Derived.Deep.Slices
import Derived.Carry

namespace Go.Proofs.YtbgklecbmhaadaaGreatDoor.Kx
open Go
section
open Go
set_option maxRecDepth 4000
def FQ (p:UInt32 × Bs):Nat × Bs:=(p.1.toNat,p.2)
theorem ro (t:Tr):t.tags=t.raw.map FQ:=by cases t;rfl
section
variable {P:Program} {S:SN}
end
end
section
open Go
set_option maxRecDepth 4000
section
variable {P:Program} {S:SN}
section
variable {I:World->Prop} {K:Act->Prop} {r:List Oper} {n:Nat} {a:Act} {w:World} {l:List (Nat × Value)} {Q:Exit->Act->World->Prop}
end
def Bq (P:Program)(f:Nat)(args:List Value)(w:World):Prop:=Calls P f args.toArray w fun e w'=>∃ b,e=.returned (.bool b)/\ac (fun _=>False) w w'
theorem gV {_f n t:Nat}{a:Act}{w w':World}{l:List (Nat × Value)}{b:Bool}(h:St n a l)(hv:l.lookup t=some (.bool b))(hk:ac (fun _=>False) w w'):a.defers=[]/\(∃ b,Ending.returned (bj [t] a)=.returned (.bool b)/\ac (fun _=>False) w w'):=
 fQ (RR:=fun e w'=>∃ b,e=.returned (.bool b)/\ac (fun _=>False) w w') h hv ⟨b,rfl,hk⟩
theorem xg (T:RefT P S)(hfn:FnIs P S.fZ4 7 [2] (csZ4 S)){cs:List Value}{p:UInt32 × Bs}(w:World)(ht:gE w cs p):Bq P S.fZ4 [.agg cs.toArray] w:=by
 obtain⟨v,rfl,hv⟩:=ht
 obtain⟨base,c,hf,_⟩:=hv.form
 subst hf
 refine dm T.mixed hfn (by simp) _ (by simp) fun a h=>?_
 unfold csZ4
 have hk:ac (fun _=>False) w (w.alloc (.cells [.int .u32 (p.1.toNat:Int),.slice base p.2.length c].toArray S.tG (0,0))):=ac.alloc _ _ _
 have hc:=ce w [.int .u32 (p.1.toNat:Int),.slice base p.2.length c] S.tG
 refine aw (aW (dG h (cs:=[.int .u32 (p.1.toNat:Int),.slice base p.2.length c]) (.t rfl) (by omega) fun a h=>ah h .c (by omega) fun a h=>wpList_nil ?_))
 generalize w.alloc (.cells [.int .u32 (p.1.toNat:Int),.slice base p.2.length c].toArray S.tG (0,0))=w1 at hk hc ⊢
 refine aw (aw (aW (bk h (.t rfl) T.g1 (by omega) fun a h=>aN h (.t rfl) T.g1.var (hc.at (j:=1) rfl) (by omega) fun a h=>cr h (.t rfl) T.oct.und (by omega) fun a h=>aZ h rfl (.t rfl) .i (by omega) fun a h=>wpList_nil ?_)))
 refine bf h rfl (fun _=>?_) (fun _=>?_)
 ·exact aw (aW (ah h .c (by omega) fun a h=>wpList_nil (.ret (gV (_f:=S.fZ4) h rfl hk))))
 ·exact .skip (aw (aW (ah h .c (by omega) fun a h=>wpList_nil (.ret (gV (_f:=S.fZ4) h rfl hk)))))
theorem xh (T:RefT P S)(h4:FnIs P S.fZ4 7 [2] (csZ4 S))(hfn:FnIs P S.fZ3 18 [2] (csZ3 S)){gv:Value}{u:List (UInt32 × Bs)}(W:World)(hu:du W 2 (gE W) gv u):Bq P S.fZ3 [gv] W:=by
 obtain⟨base,c,hf,Lk,MC,GB⟩:=hu.form
 subst hf
 refine dm T.mixed hfn (by simp) _ (by simp) fun a h=>?_
 unfold csZ3
 refine aw (aW (ah h .c (by omega) fun a h=>wpList_nil ?_))
 refine aw (aw (aW (al h (.t rfl) (by omega) fun a h=>?_)))
 refine cr h (.t rfl) T.dGs (by omega) fun a h=>aZ h rfl (.t rfl) .i (by omega) fun a h=>wpList_nil ?_
 refine bf h rfl (fun _=>aw (aW (ah h .c (by omega) fun a h=>wpList_nil (.ret (gV (_f:=S.fZ3) h rfl (ac.refl _ _)))))) (fun _=>.skip ?_)
 refine aw (aw (aW (al h (.t rfl) (by omega) fun a h=>?_)))
 refine cr h (.t rfl) T.dGs (by omega) fun a h=>al h .i (by omega) fun a h=>wpList_nil ?_
 refine ee (fun m a' w'=>∃ i:Nat,i+m=u.length/\ac (fun _=>False) W w'/\St 18 a' [(0,.slice base u.length c),(8,.slice base u.length c),(9,.int .i64 (u.length:Int)),(10,.int .i64 (i:Int))]) u.length
  ⟨u.length,Nat.le_refl _,0,by omega,ac.refl _ _,h.pick ⟨rfl,rfl,rfl,rfl,trivial⟩⟩ ?_
 rintro m a w hm ⟨i,Lz,hk,h⟩
 refine aw (aW (aZ h rfl (.t rfl) (.t rfl) (by omega) fun a h=>wpList_nil ?_))
 refine gm h rfl (fun hb=>?_) (fun hb=>?_)
 ·have Gq:i<u.length:=by simp[aO]at hb;omega
  refine .skip ?_
  rcases GB with rfl|⟨b,o,rfl,GB⟩
  ·simp at Gq
  obtain⟨cs,KG,GE,JQ⟩:=GB i u[i] (List.getElem?_eq_getElem Gq)
  have OF:(i:Int)+1<=9223372036854775807:=by simp only[maxLen]at MC;omega
  obtain⟨tv,rfl,G7⟩:=JQ
  refine aw (.block (aw (aW ?_)))
  refine dF h (sz:=2) (.t rfl) (.t rfl) Gq T.dGs T.vG.size (by omega) fun a h=>ck h (cs:=[.int .u32 (u[i].1.toNat:Int),tv]) (.t rfl) T.vG (fun j x hj=>hk.cell id (GE j x hj)) (by omega) fun a h=>?_
  refine eM h (T.zG w) (by omega) fun a h=>?_
  have Mi:=mN (w:=w) (T:=S.tG) (z:=.agg #[.int .u32 0,aG]) (cs:=[.int .u32 (u[i].1.toNat:Int),tv]) rfl
  have GG:∀ x∈[Value.int .u32 (u[i].1.toNat:Int),tv],x.oneCell'=true:=by
   intro x hx
   simp only[List.mem_cons,List.not_mem_nil,or_false]at hx
   rcases hx with rfl|rfl
   ·rfl
   ·obtain⟨_,_,rfl,_⟩:=G7.form;rfl
  refine fr h (cs:=[.int .u32 (u[i].1.toNat:Int),tv]) (.t rfl) (.t rfl) (by simp[Value.cells]) T.vG.size (aB w _) rfl GG (wpList_nil ?_)
  obtain⟨Gs,GX⟩:=Mi
  generalize(w.alloc (.cells (Value.agg #[.int .u32 0,aG]).cells S.tG (0,0))).setRow w.heap.size ([.int .u32 (u[i].1.toNat:Int),tv]:List Value).toArray=w2 at Gs GX ⊢
  have GN:=hk.trans Gs
  refine aw (aW (ck h (cs:=[.int .u32 (u[i].1.toNat:Int),tv]) (.t rfl) T.vG GX (by omega) fun a h=>br h h4.ent (vs:=[.agg [.int .u32 (u[i].1.toNat:Int),tv].toArray]) (fun n a h=>by
   simp only[List.map_cons,List.map_nil]
   rw[Hd.t (l:=_) (i:=14) rfl n a h]) (xg T h4 w2 ⟨tv,rfl,G7.keep GN⟩) (by omega) fun e w3 hR=>?_))
  obtain⟨b4,rfl,Gx⟩:=hR
  have Ig:=GN.trans Gx
  refine⟨_,rfl,fun a h=>pS h (.t rfl) (by omega) fun a h=>wpList_nil ?_⟩
  refine bf h rfl (fun _=>aw (aW (ah h .c (by omega) fun a h=>wpList_nil (.ret (gV (_f:=S.fZ3) h rfl Ig))))) (fun _=>.skip ?_)
  refine aW (cK h (.t rfl) .i (by simp) (cY w3) (by omega) fun a h=>?_)
  have hw:IntKind.i64.wrap ((i:Int)+1)=((i+1:Nat):Int):=by simp[IntKind.wrap,IntKind.bits,IntKind.signed];omega
  rw[hw]at h
  refine al h (.t rfl) (by omega) fun a h=>wpList_nil ?_
  exact⟨m-1,by omega,by omega,i+1,by omega,Ig,h.pick ⟨rfl,rfl,rfl,rfl,trivial⟩⟩
 ·refine .exit ?_
  exact aw (aW (ah h .c (by omega) fun a h=>wpList_nil (.ret (gV (_f:=S.fZ3) h rfl hk))))
theorem xi (T:RefT P S)(h4:FnIs P S.fZ4 7 [2] (csZ4 S))(h3:FnIs P S.fZ3 18 [2] (csZ3 S))(hfn:FnIs P S.fZ2 15 [2] (csZ2 S)){k:Nat}{cs:List Value}{t:Tr}(w:World)(ht:TrRp w k cs t):Bq P S.fZ2 [.agg cs.toArray] w:=by
 cases k with
 | zero=>exact ht.elim
 | succ k=>
 obtain⟨sv,lv,uv,rfl,hs,hl,hu⟩:=ht
 obtain⟨sb,sc,hsf,_⟩:=hs.form
 obtain⟨lb,lc,hlf,_⟩:=hl.form
 subst hsf
 subst hlf
 refine dm T.mixed hfn (by simp) _ (by simp) fun a h=>?_
 unfold csZ2
 have hk:ac (fun _=>False) w (w.alloc (.cells [.int .i64 t.num,.slice sb t.octets.length sc,.bool t.null,.slice lb t.list.length lc,uv].toArray S.tT (0,0))):=ac.alloc _ _ _
 have hc:=ce w [.int .i64 t.num,.slice sb t.octets.length sc,.bool t.null,.slice lb t.list.length lc,uv] S.tT
 refine aw (aW (dG h (cs:=[.int .i64 t.num,.slice sb t.octets.length sc,.bool t.null,.slice lb t.list.length lc,uv]) (.t rfl) (by omega) fun a h=>ah h .c (by omega) fun a h=>wpList_nil ?_))
 generalize w.alloc (.cells [.int .i64 t.num,.slice sb t.octets.length sc,.bool t.null,.slice lb t.list.length lc,uv].toArray S.tT (0,0))=w1 at hk hc ⊢
 refine aw (aw (aW (bk h (.t rfl) T.t1 (by omega) fun a h=>aN h (.t rfl) T.t1.var (hc.at (j:=1) rfl) (by omega) fun a h=>cr h (.t rfl) T.oct.und (by omega) fun a h=>aZ h rfl (.t rfl) .i (by omega) fun a h=>wpList_nil ?_)))
 refine bf h rfl (fun _=>aw (aW (ah h .c (by omega) fun a h=>wpList_nil (.ret (gV (_f:=S.fZ2) h rfl hk))))) (fun _=>.skip ?_)
 refine aw (aw (aW (bk h (.t rfl) T.t3 (by omega) fun a h=>aN h (.t rfl) T.t3.var (hc.at (j:=3) rfl) (by omega) fun a h=>cr h (.t rfl) T.dTs (by omega) fun a h=>aZ h rfl (.t rfl) .i (by omega) fun a h=>wpList_nil ?_)))
 refine bf h rfl (fun _=>aw (aW (ah h .c (by omega) fun a h=>wpList_nil (.ret (gV (_f:=S.fZ2) h rfl hk))))) (fun _=>.skip ?_)
 refine aw (aw (aW (bk h (.t rfl) T.t4 (by omega) fun a h=>aN h (.t rfl) T.t4.var (hc.at (j:=4) rfl) (by omega) fun a h=>br h h3.ent (vs:=[uv]) (fun n a h=>by
  simp only[List.map_cons,List.map_nil]
  rw[Hd.t (l:=_) (i:=12) rfl n a h]) (xh T h4 h3 w1 (hu.imp (fun _ _ _ hh=>ao.kn hk hh) fun _ _ hh=>hh.far (cv.of hk))) (by omega) fun e w2 hR=>?_)))
 obtain⟨b3,rfl,Gs⟩:=hR
 have GN:=hk.trans Gs
 refine⟨_,rfl,fun a h=>pS h (.t rfl) (by omega) fun a h=>wpList_nil ?_⟩
 refine bf h rfl (fun _=>aw (aW (ah h .c (by omega) fun a h=>wpList_nil (.ret (gV (_f:=S.fZ2) h rfl GN))))) (fun _=>.skip ?_)
 exact aw (aW (ah h .c (by omega) fun a h=>wpList_nil (.ret (gV (_f:=S.fZ2) h rfl GN))))
end
end
section
open Go
set_option maxRecDepth 4000
structure LawC (P:Program)(S:SN)(N:LN)(gErr most:Nat)(flex:Int)(sf:SFs)(out:Int->Bs->Option Bs)(okIn:Int->Bs->Prop):Prop where
 tab:RefT P S
 dU16:P.underlying S.tU16=some (.int .u16) \/ S.tU16=999999
 zE:Ent P S.fZ2
 zC:∀ (w:World) (k:Nat) (cs:List Value) (t:Tr),TrRp w k cs t->Bq P S.fZ2 [.agg cs.toArray] w
 mE:Ent P N.fM
 mC:∀ w,Calls P N.fM ([]:List Value).toArray w fun e w'=>e=.returned (.int .i64 (most:Int))/\ac (fun _=>False) w w'
 bE:Ent P N.fB
 bC:MsgBC P N.fB flex sf
 vE:Ent P N.fV
 vC:∀ (x:Nat) (w:World),x<256->Calls P N.fV [.int .u8 (x:Int),.int .i64 (most:Int)].toArray w fun e w'=>e=.returned (.int .i64 ((x%(most+1):Nat):Int))/\ac (fun _=>False) w w'
 wE:Ent P S.fWrite
 wC:∀ (W:World) (ver:Int) (k:Nat) (cs:List Value) (t:Tr) (fv:Value),ei W sf fv->TrRp W k cs t->(aM ver (o9 flex ver) sf t).length<=d7->Calls P S.fWrite [.agg [fv,.int .i64 flex].toArray,.int .i64 ver,.agg cs.toArray].toArray W (b8 S.tU8 (aM ver (o9 flex ver) sf t) W)
 aE:Ent P N.fA
 aC:AgC P N.fA gErr out okIn
 sE:S.fSame=999999 \/ Ent P S.fSame
 sC:S.fSame=999999 \/ ∀ (w:World) (va vb:Value) (la lb:Bs),cO w (fun _=>False) va la->cO w (fun _=>False) vb lb->la.length<=maxLen->Calls P S.fSame [va,vb].toArray w fun e w'=>e=.returned (.bool (decide (la=lb)))/\ac (fun _=>False) w w'
section
variable {P:Program} {S:SN} {N:LN} {gErr most:Nat} {flex:Int} {sf:SFs} {out:Int->Bs->Option Bs} {okIn:Int->Bs->Prop}
def TrueC (W:World)(e:Ending)(w':World):Prop:=e=.returned (.bool true)/\ac (fun _=>False) W w'
theorem rk {n t:Nat}{a:Act}{W w':World}{l:List (Nat × Value)}{v:Value}(h:St n a l)(hv:l.lookup t=some v)(hb:v=.bool true)(hk:ac (fun _=>False) W w'):a.defers=[]/\TrueC W (.returned (bj [t] a)) w':=
 fQ (RR:=TrueC W) h hv ⟨by rw[hb],hk⟩
theorem wI (L:LawC P S N gErr most flex sf out okIn)(hS:S.fSame≠999999){f:Nat}(hfn:FnIs P f 35 [4] (cLag S N)){x0:Nat}(hx:x0<256){W:World}{k:Nat}{cs:List Value}{t:Tr}(ht:TrRp W k cs t)(herr:ErrAt gErr W){ver:Int}(JO:ver=((x0%(most+1):Nat):Int))
  (Gp:(aM ver (o9 flex ver) sf t).length<=d7) (G1:okIn ver (aM ver (o9 flex ver) sf t)) (Id:out ver (aM ver (o9 flex ver) sf t)=some (aM ver (o9 flex ver) sf t)):Calls P f [.int .u8 (x0:Int),.agg cs.toArray].toArray W (TrueC W):=by
 have T:=L.tab
 have I3:=ht.len
 have UQ:=L.sE.resolve_left hS
 have hSC:=L.sC.resolve_left hS
 refine dm T.mixed hfn (by simp) _ (by simp) fun a h=>?_
 unfold cLag
 have Gy:ac (fun _=>False) W (W.alloc (.cells cs.toArray S.tT (0,0))):=ac.alloc _ _ _
 have GZ:=ce W cs S.tT
 refine aw (aW (dG h (cs:=cs) (.t rfl) (by omega) fun a h=>ah h .c (by omega) fun a h=>wpList_nil ?_))
 generalize W.alloc (.cells cs.toArray S.tT (0,0))=w1 at Gy GZ ⊢
 refine aw (aw (aW (ck h (cs:=cs) (.t rfl) (by rw[I3];exact T.vT) GZ (by omega) fun a h=>br h L.zE (vs:=[.agg cs.toArray]) (fun n a h=>by
  simp only[List.map_cons,List.map_nil]
  rw[Hd.t (l:=_) (i:=9) rfl n a h]) (L.zC w1 k cs t (ht.far (cv.of Gy))) (by omega) fun e w2 hR=>?_)))
 obtain⟨b,rfl,Gs⟩:=hR
 refine⟨_,rfl,fun a h=>pS h (.t rfl) (by omega) fun a h=>wpList_nil ?_⟩
 have GN:=Gy.trans Gs
 refine bf h rfl (fun _=>aw (aW (ah h .c (by omega) fun a h=>wpList_nil (.ret (rk h rfl rfl GN))))) (fun _=>.skip ?_)
 refine aw (aW (br h L.mE (vs:=[]) (fun _ _ _=>rfl) (L.mC w2) (by omega) fun e w3 hR=>?_))
 obtain⟨rfl,Gx⟩:=hR
 refine⟨_,rfl,fun a h=>ah h (.t rfl) (by omega) fun a h=>wpList_nil ?_⟩
 have Ig:=GN.trans Gx
 refine aw (aw (aW (al h (.t rfl) (by omega) fun a h=>aZ h rfl (.t rfl) .i (by omega) fun a h=>wpList_nil ?_)))
 refine bf h rfl (fun hb=>by simp[aO]at hb;omega) (fun _=>.skip ?_)
 have Kd:ao w3 W.heap.size 0 cs:=ao.kn (Gs.trans Gx) GZ
 have h:St 35 a [(0,.int .u8 (x0:Int)),(3,pt W.heap.size 0),(5,.int .i64 (most:Int))]:=h.pick ⟨rfl,rfl,rfl,trivial⟩
 refine aw (rL [true,false,false,true,false,true,true] (fun w'=>ac (fun _=>False) w3 w') (by kernel_rfl) ?_)
 show gn P _ [mk (some 16) (.move (tm 0)),mk (some 17) (.move (tm 5)),mk (some 19) (.load S.tT (tm 3))] a
  fun af=>eK P _ _ [cl (some 15) N.fB [],cl (some 18) N.fV [(tm 16),(tm 17)],cl (some 20) S.fWrite [(tm 15),(tm 18),(tm 19)],mk (some 6) (.assign (tm 20))] af w3.drew
 refine db h (.t rfl) (by omega) fun a h=>db h (.t rfl) (by omega) fun a h=>fw h (cs:=cs) (.t rfl) (by rw[I3];exact T.vT) (fun w' hI=>ao.kn hI Kd) (by omega) fun a h=>jB ?_
 have IS:ac (fun _=>False) w3 w3.drew:=ac.drew _ _
 refine cR h IS L.bE (vs:=[]) (fun _ _ _=>rfl) (L.bC _) (by omega) fun e w4 hR=>?_
 obtain⟨fv,rfl,GV,GH⟩:=hR
 have HX:=IS.trans GH
 refine⟨_,rfl,fun a h=>cR h HX L.vE (vs:=[.int .u8 (x0:Int),.int .i64 (most:Int)]) (fun n a h=>by
  simp only[List.map_cons,List.map_nil]
  rw[Hd.t (l:=_) (i:=16) rfl n a h,Hd.t (l:=_) (i:=17) rfl n a h]) (L.vC x0 w4 hx) (by omega) fun e w5 hR=>?_⟩
 obtain⟨rfl,HC⟩:=hR
 rw[<- JO]
 have HE:=HX.trans HC
 refine⟨_,rfl,fun a h=>cR h HE L.wE (vs:=[.agg [fv,.int .i64 flex].toArray,.int .i64 ver,.agg cs.toArray]) (fun n a h=>by
  simp only[List.map_cons,List.map_nil]
  rw[Hd.t (l:=_) (i:=15) rfl n a h,Hd.t (l:=_) (i:=18) rfl n a h,Hd.t (l:=_) (i:=19) rfl n a h]) (L.wC w5 ver k cs t fv (GV.kn HC) (ht.far (cv.of (Ig.trans HE))) Gp) (by omega) fun e w6 hR=>?_⟩
 obtain⟨v,rfl,hd,I4⟩:=hR
 have ID:=HE.trans I4
 refine⟨_,rfl,fun a h=>fZ h ID (.t rfl) (by omega) fun a h=>j7 ID ?_⟩
 have Mp:=Ig.trans ID
 have N6:cO w6 (fun _=>False) v (aM ver (o9 flex ver) sf t):=hd.sl
 generalize aM ver (o9 flex ver) sf t=bs at Gp G1 Id N6 hd
 have h:St 35 a [(0,.int .u8 (x0:Int)),(5,.int .i64 (most:Int)),(6,v)]:=h.pick ⟨rfl,rfl,rfl,trivial⟩
 refine aw (aW (al h (.t rfl) (by omega) fun a h=>al h (.t rfl) (by omega) fun a h=>br h L.vE (vs:=[.int .u8 (x0:Int),.int .i64 (most:Int)]) (fun n a h=>by
  simp only[List.map_cons,List.map_nil]
  rw[Hd.t (l:=_) (i:=22) rfl n a h,Hd.t (l:=_) (i:=23) rfl n a h]) (L.vC x0 w6 hx) (by omega) fun e w7 hR=>?_))
 obtain⟨rfl,NG⟩:=hR
 rw[<- JO]
 have Q5:=Mp.trans NG
 refine⟨_,rfl,fun a h=>al h (.t rfl) (by omega) fun a h=>br h L.aE (vs:=[.int .i64 ver,v]) (fun n a h=>by
  simp only[List.map_cons,List.map_nil]
  rw[Hd.t (l:=_) (i:=24) rfl n a h,Hd.t (l:=_) (i:=25) rfl n a h]) (L.aC w7 ver v bs (N6.keep NG) (herr.keep Q5 id) G1) (by omega) fun e w8 hR=>?_⟩
 obtain⟨y,b,rfl,Mo,_,Io⟩:=hR
 obtain⟨rfl,hy⟩:=Io bs Id
 refine⟨_,rfl,fun a h=>al h (.t rfl) (by omega) fun a h=>k8 h (.t rfl) rfl (by omega) fun a h=>k8 h (.t rfl) rfl (by omega) fun a h=>ah h (.t rfl) (by omega) fun a h=>ah h (.t rfl) (by omega) fun a h=>wpList_nil ?_⟩
 have TP:=Q5.trans Mo
 have h:St 35 a [(6,v),(7,y),(8,.bool true)]:=h.pick ⟨rfl,rfl,rfl,trivial⟩
 refine aw (aW (al h (.t rfl) (by omega) fun a h=>al h (.t rfl) (by omega) fun a h=>gU h rfl rfl rfl (by omega) (.t rfl) (by omega) fun a h=>gU h rfl rfl rfl (by omega) (.t rfl) (by omega) fun a h=>?_))
 refine uK (args:=[tm 31,tm 32]) (vs:=[y,v]) h rfl rfl rfl (by omega) UQ (fun n a h=>by
  simp only[List.map_cons,List.map_nil]
  rw[Hd.t (l:=_) (i:=31) rfl n a h,Hd.t (l:=_) (i:=32) rfl n a h]) (hSC w8 y v bs bs hy ((N6.keep NG).keep Mo) (by simp only[d7,maxLen]at Gp ⊢;omega)) (by omega) fun e w9 hR=>?_
 obtain⟨rfl,hk9⟩:=hR
 refine⟨_,rfl,fun a h=>cC h (.t rfl) (.t rfl) .c (by omega) fun a h=>ah h (.t rfl) (by omega) fun a h=>wpList_nil (.ret ?_)⟩
 exact rk h rfl (by simp) (TP.trans hk9)
end
end
theorem j5 {x:Nat}(h:x<34359738368):(uvar x).length<=5:=by
 simp only[uvar,cj]
 repeat' split
 all_goals first|(simp;done)|(exfalso;omega)
theorem n9 {α:Type}(f:α->Bs)(b:Nat):∀ (l:List α),(∀ x∈l,(f x).length<=b)->((l.map f).flatten).length<=l.length*b
 | [],_=>by simp
 | x::r,h=>by
  have h1:=h x (List.mem_cons_self ..)
  have h2:=n9 f b r fun y hy=>h y (List.mem_cons_of_mem _ hy)
  simp only[List.map_cons,List.flatten_cons,List.length_append,List.length_cons]
  rw[Nat.add_mul]
  omega
theorem yi (null:Bool)(l:Bs):(ez null l).length<=aK/\(ez null l).length<=l.length:=by
 unfold ez
 split
 ·simp
 ·rw[List.length_take];omega
theorem qg (fx null:Bool){n k:Nat}(hn:n<=aK)(hk:k<=4):(gW fx null n k).length<=5:=by
 have hu:(uvar (n+1)).length<=5:=j5 (by simp only[aK]at hn;omega)
 unfold gW
 split<;>split<;>first|exact hu|(rw[bV];omega)|(simp;done)
theorem lr (fx null:Bool){k:Nat}(l:Bs)(hk:k<=4):(eu fx null k l).length<=5+aK/\(eu fx null k l).length<=5+l.length:=by
 obtain⟨a,b⟩:=yi null l
 have:=qg fx null (k:=k) a hk
 simp only[eu,List.length_append]
 omega
theorem we (kind:Nat):bv kind<=8:=by
 unfold bv
 repeat' split
 all_goals omega
def CZ (kind p:Nat):Nat:=if kind=0 then 1 else if kind=7 then 16 else if kind=8 \/ kind=9 then 5+aK else if kind=10 then p else bv kind
def FU (kind of p:Nat):Nat:=if kind=11 then 5+aK*CZ of p else if kind=10 then 1+p else CZ kind p
theorem qe {kind p:Nat}(null fx:Bool){pt:Tr->Bs}(hp:∀ t,(pt t).length<=p)(t:Tr):(eq kind null fx pt t).length<=CZ kind p:=by
 unfold eq CZ
 by_cases h0:kind=0
 ·rw[if_pos h0,if_pos h0];simp
 rw[if_neg h0,if_neg h0]
 by_cases h7:kind=7
 ·rw[if_pos h7,if_pos h7,jZ];omega
 rw[if_neg h7,if_neg h7]
 by_cases h8:kind=8
 ·rw[if_pos h8,if_pos (.inl h8)];exact(lr fx null _ (by omega)).1
 rw[if_neg h8]
 by_cases h9:kind=9
 ·rw[if_pos h9,if_pos (.inr h9)];exact(lr fx null _ (by omega)).1
 rw[if_neg h9,if_neg (show ¬(kind=8 \/ kind=9) from fun h=>h.elim h8 h9)]
 by_cases Iz:kind=10
 ·rw[if_pos Iz,if_pos Iz];exact hp t
 ·rw[if_neg Iz,if_neg Iz,bV];exact Nat.le_refl _
theorem nJ (null:Bool)(t:Tr):(dc null t).length<=aK:=by
 unfold dc
 split
 ·simp
 ·rw[List.length_take];omega
theorem AO {kind of p:Nat}(nul ver:Int)(fx:Bool){pt:Tr->Bs}(hp:∀ t,(pt t).length<=p)(t:Tr):(dZ kind nul of ver fx pt t).length<=FU kind of p:=by
 unfold dZ FU
 by_cases Is:kind=11
 ·rw[if_pos Is,if_pos Is,List.length_append]
  have hl:=nJ (t.null&&bh nul ver) t
  have h1:=qg fx (t.null&&bh nul ver) (k:=4) hl (by omega)
  have h2:=n9 (eq of false fx pt) (CZ of p) (dc (t.null&&bh nul ver) t) fun x _=>qe false fx hp x
  have h3:=Nat.mul_le_mul_right (CZ of p) hl
  omega
 rw[if_neg Is,if_neg Is]
 by_cases Iz:kind=10
 ·rw[if_pos Iz]
  by_cases hn:kind=10/\0<=nul
  ·rw[if_pos hn]
   have:=hp t
   split<;>simp<;>omega
  ·rw[if_neg hn]
   have:=qe (kind:=kind) (t.null&&bh nul ver) fx hp t
   have e:CZ kind p=p:=by subst Iz;rfl
   omega
 ·rw[if_neg (fun h=>Iz h.1),if_neg Iz]
  exact qe _ fx hp t
theorem Cv (p:Nat × Bs)(h:p.1<4294967296):(iD (p.1,p.2.take aK)).length<=10+aK:=by
 have h1:(uvar p.1).length<=5:=j5 (by omega)
 have h2:=fe p.2
 have h3:(uvar (p.2.take aK).length).length<=5:=j5 (by simp only[aK]at h2 ⊢;omega)
 simp only[iD,List.length_append]
 omega
def xl:List (UInt32 × Bs)->Nat
 | []=>0
 | p::r=>1+p.2.length+xl r
mutual
def Tr.wt:Tr->Nat
 | .mk _ s _ l u=>1+s.length+wtL l+xl u
def wtL:List Tr->Nat
 | []=>0
 | t::r=>t.wt+wtL r
end
theorem qN (t:Tr):t.wt=1+t.octets.length+wtL t.list+xl t.raw:=by cases t;simp[Tr.wt,Tr.octets,Tr.list,Tr.raw]
theorem qP (n:Nat):∀ l:List Tr,wtL (l.take n)<=wtL l
 | []=>by simp
 | t::r=>by
  cases n with
  | zero=>simp[wtL]
  | succ n=>
   have:=qP n r
   simp only[List.take_succ_cons,wtL]
   omega
theorem uw:∀ (l:List Tr) (i:Nat) (t:Tr),l[i]?=some t->t.wt<=wtL l
 | [],_,_,h=>by simp at h
 | x::r,0,t,h=>by
  simp only[List.getElem?_cons_zero,Option.some.injEq]at h
  subst h
  simp only[wtL];omega
 | x::r,i+1,t,h=>by
  have:=uw r i t (by simpa using h)
  simp only[wtL];omega
theorem D2 (t:Tr)(i:Nat):(t.at i).wt<=t.wt:=by
 have h:=qN t
 unfold Tr.at
 rw[List.getD_eq_getElem?_getD]
 cases hx:t.list[i]? with
 | none=>
  have:(Tr.zero).wt=1:=by simp[qN,Tr.zero,Tr.octets,Tr.list,Tr.raw,wtL,xl]
  simp only[Option.getD_none]
  omega
 | some x=>
  have:=uw t.list i x hx
  simp only[Option.getD_some]
  omega
theorem xO (f:Tr->Bs)(k:Nat):∀ (l:List Tr),(∀ x∈l,(f x).length<=k*x.wt)->((l.map f).flatten).length<=k*wtL l
 | [],_=>by simp
 | x::r,h=>by
  have h1:=h x (List.mem_cons_self ..)
  have h2:=xO f k r fun y hy=>h y (List.mem_cons_of_mem _ hy)
  simp only[List.map_cons,List.flatten_cons,List.length_append,wtL]
  rw[Nat.mul_add]
  omega
def kV (kind p:Nat):Nat:=if kind=10 then p else 16
def kF (kind of p:Nat):Nat:=if kind=11 then 5+kV of p else if kind=10 then 1+p else 16
theorem s4 (t:Tr):1+t.octets.length<=t.wt:=by have:=qN t;omega
theorem sV {kind p:Nat}(null fx:Bool){pt:Tr->Bs}(hp:∀ t,(pt t).length<=p*t.wt)(t:Tr):(eq kind null fx pt t).length<=kV kind p*t.wt:=by
 have hw:=s4 t
 by_cases Iz:kind=10
 ·subst Iz
  exact hp t
 have e:kV kind p=16:=by unfold kV;rw[if_neg Iz]
 rw[e]
 unfold eq
 split
 ·simp;omega
 split
 ·rw[jZ];omega
 split
 ·have:=(lr fx null (k:=2) t.octets (by omega)).2;omega
 split
 ·have:=(lr fx null (k:=4) t.octets (by omega)).2;omega
 rw[bV]
 have:=we kind
 omega
theorem C9 {kind of p:Nat}(nul ver:Int)(fx:Bool){pt:Tr->Bs}(hp:∀ t,(pt t).length<=p*t.wt)(t:Tr):(dZ kind nul of ver fx pt t).length<=kF kind of p*t.wt:=by
 have hw:=s4 t
 unfold dZ kF
 by_cases Is:kind=11
 ·rw[if_pos Is,if_pos Is,List.length_append]
  have hl:=nJ (t.null&&bh nul ver) t
  have h1:=qg fx (t.null&&bh nul ver) (k:=4) hl (by omega)
  have h2:=xO (eq of false fx pt) (kV of p) (dc (t.null&&bh nul ver) t) fun x _=>sV false fx hp x
  have h3:wtL (dc (t.null&&bh nul ver) t)<=t.wt:=by
   have h4:=qP aK t.list
   have h5:=qN t
   unfold dc
   split
   ·simp[wtL]
   ·omega
  have h4:=Nat.mul_le_mul_left (kV of p) h3
  rw[Nat.add_mul]
  omega
 rw[if_neg Is,if_neg Is]
 by_cases Iz:kind=10
 ·rw[if_pos Iz]
  have:=hp t
  rw[Nat.add_mul]
  by_cases hn:kind=10/\0<=nul
  ·rw[if_pos hn]
   split<;>simp<;>omega
  ·rw[if_neg hn]
   have:=sV (kind:=kind) (t.null&&bh nul ver) fx hp t
   have e:kV kind p=p:=by subst Iz;rfl
   rw[e]at this
   omega
 ·rw[if_neg (fun h=>Iz h.1),if_neg Iz]
  have:=sV (kind:=kind) (t.null&&bh nul ver) fx hp t
  have e:kV kind p=16:=by unfold kV;rw[if_neg Iz]
  rw[e]at this
  exact this
def mX:List (Nat × Bs)->Nat
 | []=>0
 | p::r=>1+p.2.length+mX r
theorem ut (k:Nat)(v:Bs):∀ l,mX (bP k v l)<=1+v.length+mX l
 | []=>by simp[bP,mX]
 | (j,u)::r=>by
  have:=ut k v r
  simp only[bP]
  split
  ·simp[mX]
  ·split
   ·simp only[mX];omega
   ·simp only[mX];omega
theorem mW (n:Nat):∀ (l acc:List (Nat × Bs)),mX (gN n l acc)<=mX l+mX acc
 | [],acc=>by simp[gN,mX]
 | (k,v)::r,acc=>by
  simp only[gN,mX]
  split
  ·have:=mW n r acc;omega
  ·have h1:=mW n r (bP k v acc)
   have h2:=ut k v acc
   omega
theorem qO (n:Nat):∀ l:List (Nat × Bs),mX (l.take n)<=mX l
 | []=>by simp
 | p::r=>by
  cases n with
  | zero=>simp[mX]
  | succ n=>
   have:=qO n r
   simp only[List.take_succ_cons,mX]
   omega
theorem ur:∀ u:List (UInt32 × Bs),mX (u.map fun p=>(p.1.toNat,p.2))=xl u
 | []=>rfl
 | p::r=>by simp only[List.map_cons,mX,xl,ur r]
theorem Aq (n:Nat)(t:Tr):mX (de n t.tags)<=xl t.raw:=by
 have h1:=mW n (t.tags.take aK) []
 have h2:=qO aK t.tags
 have h3:mX t.tags=xl t.raw:=by cases t with|mk a b c d e=>exact ur e
 simp only[mX]at h1
 unfold de
 omega
theorem uF:∀ (l:List (Nat × Bs)),(∀ x∈l,x.1<4294967296)->((l.map fun p=>iD (p.1,p.2.take aK)).flatten).length<=10*mX l
 | [],_=>by simp
 | p::r,h=>by
  have h1:(uvar p.1).length<=5:=j5 (by have:=h p (List.mem_cons_self ..);omega)
  have h2:=fe p.2
  have h2':(p.2.take aK).length<=p.2.length:=by rw[List.length_take];omega
  have h3:(uvar (p.2.take aK).length).length<=5:=j5 (by simp only[aK]at h2 ⊢;omega)
  have h4:=uF r fun y hy=>h y (List.mem_cons_of_mem _ hy)
  have h5:(iD (p.1,p.2.take aK)).length<=10+p.2.length:=by
   simp only[iD,List.length_append]
   omega
  simp only[List.map_cons,List.flatten_cons,List.length_append,mX]
  omega
def okInL (hf:Bool)(flexN:Nat)(fs:Fds)(most:Nat)(x:Int)(l:Bs):Prop:=(∃ v:Nat,v<=most/\x=(v:Int))/\l.length<=d7/\jw hf flexN fs x (m4 l)≠.stuck/\∀ bs,againOut false hf flexN fs x l=some bs->bs.length<=d7
section
variable {P:Program} {S:SN} {N:LN} {gErr T flexN:Nat} {hf:Bool} {fs:Fds} {toff:Option Nat} {z:Array Value} {fN fS fR fA:Nat}
theorem lawC_of (RT:RefT P S)(M:MsgC P gErr S.tU8 false hf flexN fs toff T z fN fS fR fA){tI16 tErr fMV ntAg ntV ntSm ntM ntMV most:Nat}(hI:P.underlying tI16=some (.int .i16))(M4:∃ ms,P.underlying tErr=some (.interface ms))(hU:P.underlying S.tU16=some (.int .u16) \/ S.tU16=999999)
  (Wv:FnIs P N.fA ntAg [4,5] (cAgain tI16 S.tInt S.tSl tErr fN fS fR fA)) (T6:19<=ntAg) (hV:FnIs P N.fV ntV [4] (cVer S.tU8 S.tInt)) (hnV:10<=ntV) (R4:S.fSame=999999 \/ FnIs P S.fSame ntSm [4] (cSame S.tSl S.tU8 S.tInt)) (T3:26<=ntSm)
  (hM:FnIs P N.fM ntM [0] (cMax tI16 S.tInt fN fMV)) (hnM:4<=ntM) (Wk:FnIs P fMV ntMV [2] (cMaxV (most:Int))) (T4:3<=ntMV) (I1:most<32768)
  (h4:FnIs P S.fZ4 7 [2] (csZ4 S)) (h3:FnIs P S.fZ3 18 [2] (csZ3 S)) (h2:FnIs P S.fZ2 15 [2] (csZ2 S)) {flex:Int} {sf:SFs} (hB:Ent P N.fB/\MsgBC P N.fB flex sf)
  (Wa:FnIs P S.fWrite 21 [6] (csWr S)) (Pk:Ent P S.fPart) (R7:p5 P S sf):LawC P S N gErr most flex sf (fun x l=>againOut false hf flexN fs x l) (okInL hf flexN fs most) where
 tab:=RT
 dU16:=hU
 zE:=h2.ent
 zC w k cs t ht:=xi RT h4 h3 h2 w ht
 mE:=hM.ent
 mC w:=wD RT.mixed hI RT.dInt I1 hM hnM M.newE ((M.newC w).mono fun e w' h=>⟨h.1,h.2.1⟩) Wk.ent fun w=>tJ RT.mixed Wk T4
 bE:=hB.1
 bC:=hB.2
 vE:=hV.ent
 vC x w hx:=vI RT.mixed RT.dU8 RT.dInt hx I1 hV hnV
 wE:=Wa.ent
 wC W ver k cs t fv GV ht hlim:=xr RT Wa Pk R7 W GV ht hlim
 aE:=Wv.ent
 aC:=by
  obtain⟨ms,M4⟩:=M4
  intro w x srcv l hs he G1
  obtain⟨⟨v,hv,rfl⟩,Gp,JZ,hlim⟩:=G1
  have hw:IntKind.i16.wrap (v:Int)=v:=by simp[IntKind.wrap,IntKind.bits,IntKind.signed];omega
  have:=sk RT.mixed M RT.oct hI RT.dInt M4 Wv T6 (x:=(v:Int)) hs Gp he (by rw[hw];exact JZ) (by rw[hw];exact hlim)
  rw[hw]at this
  exact this
 sE:=R4.imp id fun h=>h.ent
 sC:=R4.imp id fun h=>fun _ _ _ _ _ ha hb Ml=>nE RT.mixed RT.oct RT.vU8 h T3 ha hb Ml
variable {most:Nat} {flex:Int} {sf:SFs}
end
section
open Go Go.ChangeShapes Go.WideShapes Go.RowKit Go.Deep
def FO (P:Program)(t n:Nat):Bool:=match P.underlying t with
 | some (.struct fs)=>fs.size==n
 | _=>false
theorem xQ {P:Program}{t n:Nat}(h:FO P t n=true){fs:Array Field}(hf:P.underlying t=some (.struct fs)):fs.size=n:=by
 unfold FO at h
 rw[hf]at h
 simpa using h
structure TreT (P:Program)(S:SN):Prop where
 tab:RefT P S
 cT:P.cellsOf S.tT=5
 cG:P.cellsOf S.tG=2
 cI:P.cellsOf S.tI64=1
 cSl:P.cellsOf S.tSl=1
 cB:P.cellsOf S.tB=1
 cTs:P.cellsOf S.tTs=1
 cGs:P.cellsOf S.tGs=1
 cU:P.cellsOf S.tU32=1
 c8:P.cellsOf S.tU8=1
 dB:P.underlying S.tB=some .bool
 nT:FO P S.tT 5=true
 nG:FO P S.tG 2=true
section
variable {H:Type} {enc:TypeId × Value->H} {P:Program} {S:SN} {W:World}
theorem oS {a:Addr}{v:Value}(h:W.cell? a=some v):a.spot=none/\a.block<W.heap.size:=by
 obtain⟨b,o,s⟩:=a
 cases s with
 | none=>exact⟨rfl,cM h⟩
 | some s=>
  simp[World.cell?]at h
  split at h<;>cases h
theorem om (d:DataW H):1<=Rows.uptoBulk d:=by
 cases d with
 | lit l=>cases l<;>simp[Rows.uptoBulk]
 | _=>simp[Rows.uptoBulk]
theorem my:∀ l:List (DataW H),l.length<=Rows.uptoBulkAll l
 | []=>by simp
 | d::r=>by
  have h1:=om d
  have h2:=my r
  simp only[Rows.uptoBulkAll,List.length_cons]
  omega
theorem ph (T:TreT P S){fuel:Nat}{v:Value}{x:DataW H × List MemPlace}(h:DataW.trod enc P W 0 (fun _=>true) true fuel S.tSl [v]=some x):∃ l:Bs,js W v l/\l.length+1<=Rows.uptoBulk x.1:=by
 rcases open_ints T.tab.oct.und T.tab.dU8 T.c8 h with⟨GE,rfl⟩|⟨a,len,cap,zs,GE,_,hl,hm,MR,rfl,Gn,hw⟩
 ·simp only[List.cons.injEq,and_true]at GE
  exact⟨[],.inl ⟨none,GE,rfl⟩,by simp[Rows.uptoBulk]⟩
 ·simp only[List.cons.injEq,and_true]at GE
  subst GE
  have MR:zs.length=cap:=by simpa using MR
  have Gp:((zs.take len).map fun z=>UInt8.ofNat z.toNat).length=len:=by simp only[List.length_map,List.length_take];omega
  refine⟨(zs.take len).map fun z=>UInt8.ofNat z.toNat,?_,?_⟩
  ·by_cases h0:cap=0
   ·obtain rfl:len=0:=by omega
    subst h0
    exact .inl ⟨_,rfl,by simp⟩
   ·have Ke:=Gn 0 (by omega)
    have e0:a.add 0=a:=rfl
    rw[e0]at Ke
    obtain⟨hs,Gq⟩:=oS Ke
    obtain⟨b,o,s⟩:=a
    simp only at hs
    subst hs
    refine .inr (.inr ⟨b,o,cap,by rw[Gp],id,Gq,by rw[Gp];exact hl,hm,fun i x hx=>?_⟩)
    simp only[List.getElem?_map,Option.map_eq_some_iff]at hx
    obtain⟨z,hz,rfl⟩:=hx
    have hi:i<len:=by
     rcases Nat.lt_or_ge i len with h|h
     ·exact h
     ·rw[List.getElem?_take,if_neg (by omega)]at hz;cases hz
    rw[List.getElem?_take,if_pos hi]at hz
    have MQ:=hw z (List.mem_of_getElem? hz)
    have MQ:0<=z/\z<256:=by simp[Lit.wf,IntKind.min,IntKind.max,IntKind.bits,IntKind.signed]at MQ;omega
    have MJ:=Gn i (by omega)
    rw[add_plain]at MJ
    rw[MJ]
    have e1:zs.getD i 0=z:=by simp[List.getD,hz]
    have e2:(UInt8.ofNat z.toNat).toNat=z.toNat:=UInt8.toNat_ofNat_of_lt (by simpa using(by omega:z.toNat<256))
    rw[e1,e2,Int.toNat_of_nonneg MQ.1]
  ·rw[Gp]
   have h1:=my (lits (H:=H) .u8 (zs.take len))
   have h2:(lits (H:=H) .u8 (zs.take len)).length=len:=by simp only[lits,List.length_map,List.length_take];omega
   simp only[Rows.uptoBulk]
   omega
theorem CA {α:Type}{El:List Value->α->Prop}{sz len cap:Nat}{a:Addr}(G0:0<sz)(hl:len<=cap)(hm:cap<=maxLen)(wt:α->Nat)(D:Nat->Nat)(h:∀ i,i<cap->∃ cs',W.cells? 0 (a.add (i*sz)) sz=some cs'/\(i<len->∃ x,El cs' x/\wt x<=D i)) :
  ∃ xs:List α,du W sz El (.slice (some a) len cap) xs/\xs.length=len/\∀ i x,xs[i]?=some x->wt x<=D i:=by
 by_cases h0:cap=0
 ·obtain rfl:len=0:=by omega
  subst h0
  exact⟨[],.inl ⟨_,rfl,rfl⟩,rfl,fun i x hx=>by simp at hx⟩
 ·obtain⟨cs0,Ke,_⟩:=h 0 (by omega)
  obtain⟨_,MD,Pa⟩:=World.cells?_some Ke
  have h1:=Pa 0 G0
  rw[List.getElem?_eq_getElem (by omega)]at h1
  have e0:(a.add (0*sz)).add 0=a:=by rw[Nat.zero_mul];rfl
  rw[e0]at h1
  obtain⟨hs,Gq⟩:=oS h1
  obtain⟨b,o,s⟩:=a
  simp only at hs
  subst hs
  have Je:∀ i:Fin len,∃ x,(∃ cs',W.cells? 0 ((⟨b,o,none⟩:Addr).add (i.val*sz)) sz=some cs'/\El cs' x)/\wt x<=D i.val:=fun i=>by
   obtain⟨cs',e1,e2⟩:=h i.val (by omega)
   obtain⟨x,e3,e4⟩:=e2 i.isLt
   exact⟨x,⟨cs',e1,e3⟩,e4⟩
  let f:Fin len->α:=fun i=>Classical.choose (Je i)
  have hf:∀ i:Fin len,(∃ cs',W.cells? 0 ((⟨b,o,none⟩:Addr).add (i.val*sz)) sz=some cs'/\El cs' (f i))/\wt (f i)<=D i.val:=fun i=>Classical.choose_spec (Je i)
  have Ih:∀ i x,(List.ofFn f)[i]?=some x->∃ hi:i<len,x=f ⟨i,hi⟩:=fun i x hx=>by
   obtain⟨hi,e⟩:=List.getElem?_eq_some_iff.1 hx
   have JY:i<len:=by simpa using hi
   exact⟨JY,by rw[<- e];simp⟩
  refine⟨List.ofFn f,.inr ⟨b,o,cap,by rw[List.length_ofFn],by rw[List.length_ofFn];exact hl,hm,fun i x hx=>?_⟩,List.length_ofFn ..,fun i x hx=>?_⟩
  ·obtain⟨hi,rfl⟩:=Ih i x hx
   obtain⟨⟨cs',e1,e2⟩,_⟩:=hf ⟨i,hi⟩
   obtain⟨_,e3,e4⟩:=World.cells?_some e1
   refine⟨cs',e3,fun j v hj=>?_,e2⟩
   have:=e4 j (by have:=(List.getElem?_eq_some_iff.1 hj).1;omega)
   rw[hj,add_plain,add_plain]at this
   rw[<- this]
  ·obtain⟨hi,rfl⟩:=Ih i x hx
   exact(hf ⟨i,hi⟩).2
theorem ze (T:TreT P S){fuel:Nat}{cs:List Value}{x:DataW H × List MemPlace}(h:DataW.trod enc P W 0 (fun _=>true) true fuel S.tG cs=some x):∃ p,gE W cs p/\1+p.2.length<=Rows.uptoBulk x.1:=by
 obtain⟨fs,f0,hu,Uo,o0,ty0⟩:=T.tab.g0.fld
 obtain⟨fs',f1,Lp,KD,o1,ty1⟩:=T.tab.g1.fld
 obtain rfl:fs=fs':=by rw[hu]at Lp;simpa using Lp
 obtain⟨xs,n,rfl,rfl,KG,MV,GV⟩:=DataW.trod_struct hu h
 rw[T.cG]at KG
 rw[xQ T.nG hu]at MV
 match cs,KG,xs,MV with
 | [c0,c1],_,[y0,y1],_=>
  have h0:=GV 0 f0 Uo
  have h1:=GV 1 f1 KD
  rw[o0,ty0,T.cU]at h0
  rw[o1,ty1,T.cSl]at h1
  simp only[List.drop_zero,List.take_succ_cons,List.take_zero,List.getElem?_cons_zero]at h0
  simp only[List.drop_succ_cons,List.drop_zero,List.take_succ_cons,List.take_zero,List.getElem?_cons_succ,List.getElem?_cons_zero]at h1
  obtain⟨m,e0,_,hw⟩:=DataW.trod_int T.tab.dU32 h0
  obtain⟨l,hl,hb⟩:=ph T h1
  simp only[List.cons.injEq,and_true]at e0
  have hm:0<=m/\m<4294967296:=by simp[Lit.wf,IntKind.min,IntKind.max,IntKind.bits,IntKind.signed]at hw;omega
  refine⟨(UInt32.ofNat m.toNat,l),⟨c1,?_,hl⟩,?_⟩
  ·have e2:(UInt32.ofNat m.toNat).toNat=m.toNat:=UInt32.toNat_ofNat_of_lt (by simpa using(by omega:m.toNat<4294967296))
   simp only[e2,Int.toNat_of_nonneg hm.1]
   rw[e0]
  ·simp only[Rows.uptoBulk,List.map_cons,List.map_nil,Rows.uptoBulkAll]
   omega
theorem rH {α:Type}{e t sz:Nat}(SH:P.underlying t=some (.slice e))(MK:P.cellsOf e=sz)(G0:0<sz){El:List Value->α->Prop}(wt:α->Nat){fuel:Nat}{v:Value}{x:DataW H × List MemPlace}(h:DataW.trod enc P W 0 (fun _=>true) true fuel t [v]=some x)
  (IZ:∀ (n:Nat) (cs:List Value) (y:DataW H × List MemPlace),n<fuel->DataW.trod enc P W 0 (fun _=>true) true n e cs=some y->∃ a,El cs a/\wt a<=Rows.uptoBulk y.1) :
  ∃ (xs:List α) (ds:List (DataW H)),du W sz El v xs/\Rows.uptoBulkAll ds+1<=Rows.uptoBulk x.1/\xs.length=ds.length/\∀ (i:Nat) (a:α) (d:DataW H),xs[i]?=some a->ds[i]?=some d->wt a<=Rows.uptoBulk d:=by
 rcases DataW.trod_slice SH h with⟨e3,rfl⟩|⟨a,len,cap,elems,rest,n,rfl,e3,rfl,_,hl,hm,Gp,he,SU,_⟩
 ·simp only[List.cons.injEq,and_true]at e3
  exact⟨[],[],.inl ⟨none,e3,rfl⟩,by simp[Rows.uptoBulk,Rows.uptoBulkAll],rfl,fun i a d hi=>by simp at hi⟩
 simp only[List.cons.injEq,and_true]at e3
 subst e3
 obtain⟨JB,hr⟩:=SU rfl
 rw[MK]at he hr
 obtain⟨xs,GB,MV,L9⟩:=CA (W:=W) (El:=El) (sz:=sz) (a:=a) G0 hl hm wt (fun i=>match elems[i]? with|some y=>Rows.uptoBulk y.1|none=>0) (fun i hi=>by
  by_cases Mq:i<len
  ·have h1:=he i Mq
   rw[List.getElem?_eq_getElem (by omega)]at h1
   obtain⟨cs',h2,h3⟩:=Option.bind_eq_some_iff.1 h1
   obtain⟨b,h4,h5⟩:=IZ n cs' _ (Nat.lt_succ_self n) h3
   refine⟨cs',h2,fun _=>⟨b,h4,?_⟩⟩
   rw[List.getElem?_eq_getElem (by omega)]
   exact h5
  ·have h1:=hr (i-len) (by omega)
   rw[List.getElem?_eq_getElem (by omega),show len+(i-len)=i by omega]at h1
   obtain⟨cs',h2,_⟩:=Option.bind_eq_some_iff.1 h1
   exact⟨cs',h2,fun h=>absurd h Mq⟩)
 refine⟨xs,elems.map (·.1),GB,by simp only[Rows.uptoBulk];omega,by rw[MV,List.length_map,Gp],fun i b d hb hd=>?_⟩
 have:=L9 i b hb
 rw[List.getElem?_map,Option.map_eq_some_iff]at hd
 obtain⟨y,hy,rfl⟩:=hd
 simpa[hy]using this
theorem xm:∀ (l:List Tr) (ds:List (DataW H)),l.length=ds.length->(∀ (i:Nat) (x:Tr) (d:DataW H),l[i]?=some x->ds[i]?=some d->x.wt<=Rows.uptoBulk d)->wtL l<=Rows.uptoBulkAll ds
 | [],_,_,_=>by simp[wtL]
 | t::r,[],h,_=>by simp at h
 | t::r,d::ds,h,hh=>by
  have h0:=hh 0 t d rfl rfl
  have h1:=xm r ds (by simpa using h) fun i x y hx hy=>hh (i+1) x y (by simpa using hx) (by simpa using hy)
  simp only[wtL,Rows.uptoBulkAll]
  omega
theorem xk:∀ (l:List (UInt32 × Bs)) (ds:List (DataW H)),l.length=ds.length->(∀ (i:Nat) (x:UInt32 × Bs) (d:DataW H),l[i]?=some x->ds[i]?=some d->1+x.2.length<=Rows.uptoBulk d)->xl l<=Rows.uptoBulkAll ds
 | [],_,_,_=>by simp[xl]
 | t::r,[],h,_=>by simp at h
 | t::r,d::ds,h,hh=>by
  have h0:=hh 0 t d rfl rfl
  have h1:=xk r ds (by simpa using h) fun i x y hx hy=>hh (i+1) x y (by simpa using hx) (by simpa using hy)
  simp only[xl,Rows.uptoBulkAll]
  omega
theorem wx (T:TreT P S):∀ (fuel:Nat) (cs:List Value) (x:DataW H × List MemPlace),DataW.trod enc P W 0 (fun _=>true) true fuel S.tT cs=some x->∃ t,TrRp W fuel cs t/\t.wt<=Rows.uptoBulk x.1:=by
 intro fuel
 induction fuel using Nat.strongRecOn with
 | _ fuel ih=>
 intro cs x h
 obtain⟨fs,f0,hu,Uo,o0,ty0⟩:=T.tab.t0.fld
 obtain⟨fs1,f1,Kr,KD,o1,ty1⟩:=T.tab.t1.fld
 obtain⟨fs2,f2,Na,KX,o2,ty2⟩:=T.tab.t2.fld
 obtain⟨fs3,f3,V0,Km,o3,ty3⟩:=T.tab.t3.fld
 obtain⟨fs4,f4,Vz,K6,o4,ty4⟩:=T.tab.t4.fld
 obtain rfl:fs=fs1:=by rw[hu]at Kr;simpa using Kr
 obtain rfl:fs=fs2:=by rw[hu]at Na;simpa using Na
 obtain rfl:fs=fs3:=by rw[hu]at V0;simpa using V0
 obtain rfl:fs=fs4:=by rw[hu]at Vz;simpa using Vz
 obtain⟨xs,n,rfl,rfl,KG,MV,GV⟩:=DataW.trod_struct hu h
 rw[T.cT]at KG
 rw[xQ T.nT hu]at MV
 match cs,KG,xs,MV with
 | [c0,c1,c2,c3,c4],_,[y0,y1,y2,y3,y4],_=>
  have h0:=GV 0 f0 Uo
  have h1:=GV 1 f1 KD
  have h2:=GV 2 f2 KX
  have h3:=GV 3 f3 Km
  have h4:=GV 4 f4 K6
  rw[o0,ty0,T.cI]at h0
  rw[o1,ty1,T.cSl]at h1
  rw[o2,ty2,T.cB]at h2
  rw[o3,ty3,T.cTs]at h3
  rw[o4,ty4,T.cGs]at h4
  simp only[List.drop_zero,List.drop_succ_cons,List.take_succ_cons,List.take_zero,List.getElem?_cons_zero,List.getElem?_cons_succ]at h0 h1 h2 h3 h4
  obtain⟨m,e0,ey0,_⟩:=DataW.trod_int T.tab.dI64 h0
  obtain⟨l,hl,Hc⟩:=ph T h1
  obtain⟨nl,e2,ey2⟩:=DataW.trod_bool T.dB h2
  simp only[List.cons.injEq,and_true]at e0 e2
  obtain⟨ts,ds3,hts,JJ,Lx,Kp⟩:=rH (El:=TrRp W n) T.tab.dTs T.cT (by omega) Tr.wt h3 fun n' cs y hn hy=>by
   obtain⟨t,ht,hw⟩:=ih n' (by omega) cs y hy
   exact⟨t,ht.up (by omega),hw⟩
  obtain⟨us,ds4,IM,hb4,P1,PG⟩:=rH (El:=gE W) T.tab.dGs T.cG (by omega) (fun p:UInt32 × Bs=>1+p.2.length) h4 fun n' cs y _ hy=>ze T hy
  have hwL:=xm ts ds3 Lx Kp
  have hwU:=xk us ds4 P1 PG
  refine⟨.mk m l nl ts us,⟨c1,c3,c4,?_,hl,hts,IM⟩,?_⟩
  ·rw[e0,e2];rfl
  ·have b0:=om y0.1
   have b2:=om y2.1
   simp only[Tr.wt,Rows.uptoBulk,List.map_cons,List.map_nil,Rows.uptoBulkAll]
   omega
theorem Ac (T:TreT P S){base:Nat}{v:Value}{d:DataW H}{p:List MemPlace}(hval:Value.okWide P W .any base S.tT v)(h:DataW.Trod enc P W 0 (fun _=>true) true S.tT v d p):∃ (k:Nat) (cs:List Value) (t:Tr),v=.agg cs.toArray/\TrRp W k cs t/\t.wt<=Rows.uptoBulk d:=by
 obtain⟨fs,f0,hu,_⟩:=T.tab.t0.fld
 obtain⟨cs,rfl,_⟩:=okWide_struct hu hval
 obtain⟨fuel,hf⟩:=h
 obtain⟨t,ht,hw⟩:=wx T fuel _ _ hf
 exact⟨fuel,cs.toList,t,by simp,by simpa[Value.cells]using ht,hw⟩
theorem ac.below {W W':World}(h:ac (fun _=>False) W W'):Below W.heap.size W W':=⟨h.os,h.tape,h.output,h.size,fun i hi=>h.block i hi id⟩
theorem rowT (T:TreT P S)(HG:laidOutB P=true)(hrr:P.readableRec S.tT=true)(Gq:S.tT<P.types.size){f:FuncId}{fn:Func}{s:ChangeSpec}{tX tB:TypeId}(O0:fn.params.toList=[tX,S.tT])(Oq:fn.resultTypes=#[tB])(hX:P.underlying tX=some (.int .u8))(hB:P.underlying tB=some .bool)
  (hv:s.vars=[]) (hs:∀ d1 d2:DataW H,s.fn H [d1,d2]={ results:=[.lit (.bool true)],args:=[d1,d2] }) {base:Nat} {args:Array Value} {ds gs:List (DataW H)} {before:List MemPlace}
  (hval:∀ (j:Nat) t v,fn.params[j]?=some t->args[j]?=some v->Value.okWide P W .any base t v) (hW:DataW.Whole enc P fn.params.toList s.vars false W args.toList ds gs before)
  (Rq:∀ (x0 k:Nat) (cs:List Value) (t:Tr),x0<256->TrRp W k cs t->t.wt<=Rows.uptoBulkAll (ds++gs)->Calls P f [.int .u8 (x0:Int),.agg cs.toArray].toArray W (TrueC W)) :
  Calls P f args W fun e W'=>∃ v,e=.returned v/\s.post enc P fn false true false false W args v W':=by
 have Wc:=hW
 obtain⟨p,q,hA0,hV,rfl,hfz,Qp⟩:=hW
 have hA:DataW.TrodAll enc P W 0 (fun _=>true) true fn.params.toList args.toList ds p:=hA0
 have RZ:∀ j,fn.params[j]?=([tX,S.tT]:List TypeId)[j]?:=fun j=>by rw[<- O0,Array.getElem?_toList]
 rw[O0]at hA
 obtain⟨v0,v1,d0,d1,p0,p1,rfl,rfl,rfl,h0,h1⟩:=trodAll_two hA
 rw[hv]at hV
 obtain⟨rfl,rfl⟩:=trodVars_none hV
 obtain⟨n,rfl,rfl,rfl,hn⟩:=open_int hX (hval 0 tX v0 (by rw[RZ];rfl) rfl) h0
 obtain⟨k,cs,t,rfl,ht,L9⟩:=Ac T (hval 1 S.tT v1 (by rw[RZ];rfl) rfl) h1
 have hn':0<=n/\n<256:=by
  simp[Lit.wf,IntKind.min,IntKind.max,IntKind.bits,IntKind.signed]at hn
  omega
 have e:n=((n.toNat:Nat):Int):=by omega
 have KG:=Rq n.toNat k cs t (by omega) ht (by simp only[List.cons_append,List.nil_append,Rows.uptoBulkAll];omega)
 rw[<- e]at KG
 refine KG.mono fun e W' ⟨he,hk⟩=>?_
 subst he
 refine⟨_,rfl,_,_,_,[],p1,[],Wc,?_,?_,?_,hk.butNone _,fun h=>by cases h⟩
 ·rw[Oq]
  simp only[List.append_nil,hs]
  exact trodAll_mk1 (shut_bool hB true)
 ·rw[O0]
  simp only[List.append_nil,hs]
  have:=trodAll_mk2 (p:=[]) (shut_int (enc:=enc) (w:=W') (base:=0) (spare:=fun b=>decide (b<W.heap.size)) (held:=true) hX hn) (Below.trod HG hrr Gq h1 hk.below fun x hx=>by
   have:=Wc.lt x (by simp[hx])
   simpa using this)
  simpa using this
 ·rw[hv]
  simp only[List.append_nil,hs]
  rfl
end
end
theorem nw:∀ (f x:Nat),(cj f x).length<=f+1
 | 0,x=>by simp[cj]
 | f+1,x=>by
  simp only[cj]
  split
  ·simp
  ·have:=nw f (x/128)
   simp only[List.length_cons];omega
theorem lN (x:Nat):(uvar x).length<=10:=nw 9 x
def wY:List (Nat × Bs)->Nat
 | []=>0
 | p::r=>20+p.2.length+wY r
theorem AN (p:Nat × Bs):(iD p).length<=20+p.2.length:=by
 have h1:=lN p.1
 have h2:=lN p.2.length
 simp only[iD,List.length_append]
 omega
theorem oW (a b:List (Nat × Bs)):(bH (a++b)).length=(bH a).length+(bH b).length:=by simp[bH]
theorem kG (n:Nat)(l:List (Nat × Bs)):dh (n+1) l=dh n l++l.filter fun p=>p.1==n:=by
 simp[dh,List.range_succ]
theorem oT (p:Nat × Bs)(r:List (Nat × Bs)):∀ n,(bH (dh n (p::r))).length<=(if p.1<n then(iD p).length else 0)+(bH (dh n r)).length
 | 0=>by simp[dh,bH]
 | n+1=>by
  have ih:=oT p r n
  rw[kG,kG,oW,oW]
  by_cases hp:p.1=n
  ·rw[List.filter_cons_of_pos (by simpa using hp)]
   have e:bH (p::r.filter fun q=>q.1==n)=iD p++bH (r.filter fun q=>q.1==n):=rfl
   rw[e,List.length_append]
   rw[if_neg (by omega)]at ih
   rw[if_pos (by omega)]
   omega
  ·rw[List.filter_cons_of_neg (by simpa using hp)]
   split
   ·split at ih<;>omega
   ·rw[if_neg (by omega)]at ih
    omega
theorem ru:∀ n,dh n []=[]
 | 0=>rfl
 | n+1=>by rw[kG,ru n];rfl
theorem uI (n:Nat):∀ l,(bH (dh n l)).length<=wY l
 | []=>by rw[ru];simp[bH,wY]
 | p::r=>by
  have h1:=oT p r n
  have h2:=uI n r
  have h3:=AN p
  simp only[wY]
  split at h1<;>omega
def py:Nat:=10 + aK*(10+aK)
theorem mK (fx:Bool)(n:Nat)(tg:List (Nat × Bs))(t:Tr):(gy fx n tg t.tags).length<=py+wY tg/\(gy fx n tg t.tags).length<=20*t.wt+wY tg:=by
 obtain⟨_,h2,h3⟩:=qf n t
 have hw:=qN t
 have hu:=Aq n t
 have hs:=uI n tg
 unfold gy py
 split
 ·have h4:=lN ((dh n tg).length+(de n t.tags).length)
  have h5:=n9 (fun p:Nat × Bs=>iD (p.1,p.2.take aK)) (10+aK) (de n t.tags) fun x hx=>Cv x (h2 x hx)
  have h6:=Nat.mul_le_mul_right (10+aK) h3
  have h7:=uF (de n t.tags) h2
  have e:bH ((de n t.tags).map fun p=>(p.1,p.2.take aK))=((de n t.tags).map fun p=>iD (p.1,p.2.take aK)).flatten:=by
   simp only[bH,List.map_map]
   rfl
  simp only[List.length_append]
  rw[e]
  omega
 ·simp
def tH:SFs->Nat
 | .nil=>0
 | .cons kind _ _ _ _ _ of sub r=>20+FU kind of (tH sub+py)+tH r
def BX:SFs->Nat
 | .nil=>0
 | .cons kind _ _ _ _ _ of sub r=>20+kF kind of (BX sub+20)+BX r
theorem yj (ver:Int)(fx:Bool):∀ (sf:SFs) (i:Nat) (t:Tr),(cD ver fx sf i t).length+wY (sTgd ver fx sf i t)<=tH sf
 | .nil,_,_=>by simp[cD,sTgd,wY]
 | .cons kind lo hi nul tag df of sub r,i,t=>by
  have hr:=yj ver fx r (i+1) t
  have Hs:∀ t',(cD ver fx sub 0 t'++gy fx (ar sub) (sTgd ver fx sub 0 t') t'.tags).length<=tH sub+py:=fun t'=>by
   have h1:=yj ver fx sub 0 t'
   have h2:=(mK fx (ar sub) (sTgd ver fx sub 0 t') t').1
   rw[List.length_append]
   omega
  have hf:=AO (kind:=kind) (of:=of) nul ver fx Hs (t.at i)
  simp only[cD,sTgd,tH,List.length_append]
  by_cases ht:tag<0
  ·rw[if_neg (show ¬(0<=tag/\_) from fun h=>by have:=h.1;omega),List.nil_append]
   split
   ·omega
   ·simp only[List.length_nil];omega
  ·rw[if_neg (show ¬(tag<0/\_) from fun h=>ht h.1),List.length_nil]
   split
   ·simp only[List.cons_append,List.nil_append,wY];omega
   ·simp only[List.nil_append];omega
theorem C8 (ver:Int)(fx:Bool):∀ (sf:SFs) (i:Nat) (t:Tr),(cD ver fx sf i t).length+wY (sTgd ver fx sf i t)<=BX sf*t.wt
 | .nil,_,_=>by simp[cD,sTgd,wY]
 | .cons kind lo hi nul tag df of sub r,i,t=>by
  have hr:=C8 ver fx r (i+1) t
  have hw:=s4 t
  have Hs:∀ t',(cD ver fx sub 0 t'++gy fx (ar sub) (sTgd ver fx sub 0 t') t'.tags).length<=(BX sub+20)*t'.wt:=fun t'=>by
   have h1:=C8 ver fx sub 0 t'
   have h2:=(mK fx (ar sub) (sTgd ver fx sub 0 t') t').2
   rw[List.length_append,Nat.add_mul]
   omega
  have hf:=C9 (kind:=kind) (of:=of) nul ver fx Hs (t.at i)
  have hm:=Nat.mul_le_mul_left (kF kind of (BX sub+20)) (D2 t i)
  simp only[cD,sTgd,BX,List.length_append]
  rw[Nat.add_mul,Nat.add_mul]
  by_cases ht:tag<0
  ·rw[if_neg (show ¬(0<=tag/\_) from fun h=>by have:=h.1;omega),List.nil_append]
   split
   ·omega
   ·simp only[List.length_nil];omega
  ·rw[if_neg (show ¬(tag<0/\_) from fun h=>ht h.1),List.length_nil]
   split
   ·simp only[List.cons_append,List.nil_append,wY];omega
   ·simp only[List.nil_append];omega
theorem wh (ver:Int)(fx:Bool)(sf:SFs)(t:Tr):(aM ver fx sf t).length<=tH sf+py:=by
 have h1:=yj ver fx sf 0 t
 have h2:=(mK fx (ar sf) (sTgd ver fx sf 0 t) t).1
 simp only[aM,List.length_append]
 omega
theorem yh (ver:Int)(fx:Bool)(sf:SFs)(t:Tr):(aM ver fx sf t).length<=(BX sf+20)*t.wt:=by
 have h1:=C8 ver fx sf 0 t
 have h2:=(mK fx (ar sf) (sTgd ver fx sf 0 t) t).2
 simp only[aM,List.length_append]
 rw[Nat.add_mul]
 omega
def qB (hf:Bool)(flexN most:Nat)(flex:Int)(fs:Fds)(sf:SFs):Bool:=lT fs&&(List.range (most+1)).all fun v=>fitGFds (v:Int) (o9 flex (v:Int)) fs sf&&((hf&&decide ((flexN:Int)<=(v:Int)))==o9 flex (v:Int))
theorem Bg {hf:Bool}{flexN most:Nat}{flex:Int}{fs:Fds}{sf:SFs}(h:qB hf flexN most flex fs sf=true){v:Nat}(hv:v<=most):(fitGFds (v:Int) (o9 flex (v:Int)) fs sf&&lT fs)=true/\(hf&&decide ((flexN:Int)<=(v:Int)))=o9 flex (v:Int):=by
 simp only[qB,Bool.and_eq_true]at h
 have:=List.all_eq_true.1 h.2 v (by simp;omega)
 simp only[Bool.and_eq_true,beq_iff_eq]at this
 exact⟨by simp[this.1,h.1],this.2⟩
section
variable {P:Program} {S:SN} {N:LN} {gErr flexN:Nat} {hf:Bool} {fs:Fds} {most:Nat} {flex:Int} {sf:SFs}
theorem again_lawG (L:LawC P S N gErr most flex sf (fun x l=>againOut false hf flexN fs x l) (okInL hf flexN fs most))(Il:qB hf flexN most flex fs sf=true)(hS:(S.fSame != 999999)=true){f:Nat}(hfn:FnIs P f 35 [4] (cLag S N)){x0:Nat}(hx:x0<256){W:World}{k:Nat}{cs:List Value}{t:Tr}(ht:TrRp W k cs t)(herr:ErrAt gErr W)
  (Gp:∀ v:Nat,(aM (v:Int) (o9 flex (v:Int)) sf t).length<oD):Calls P f [.int .u8 (x0:Int),.agg cs.toArray].toArray W (TrueC W):=by
 have hv:x0%(most+1)<=most:=by have:=Nat.mod_lt x0 (show 0<most+1 by omega);omega
 obtain⟨h1,h2⟩:=Bg Il hv
 have hl:=Gp (x0%(most+1))
 have JE:(aM ((x0%(most+1):Nat):Int) (o9 flex ((x0%(most+1):Nat):Int)) sf t).length<=d7:=by simp only[oD]at hl;simp only[d7];omega
 have ha:=ug h2 h1 t hl
 refine wI L (by simpa using hS) hfn hx ht herr rfl JE ⟨⟨_,hv,rfl⟩,JE,?_,fun bs KH=>?_⟩ ha
 ·obtain⟨v,nl,e,_⟩:=rY h2 h1 t hl
  rw[e]
  intro hh
  cases hh
 ·rw[ha]at KH
  rw[<- Option.some.inj KH]
  exact JE
theorem mx_limG {sf:SFs}(h:decide (tH sf+py<oD)=true)(t:Tr)(ver:Int)(fx:Bool):(aM ver fx sf t).length<oD:=Nat.lt_of_le_of_lt (wh ver fx sf t) (of_decide_eq_true h)
theorem k_limG {sf:SFs}(h:decide ((BX sf+20)*1048576<oD)=true){t:Tr}(hw:t.wt<=1048576)(ver:Int)(fx:Bool):(aM ver fx sf t).length<oD:=
 Nat.lt_of_le_of_lt (yh ver fx sf t) (Nat.lt_of_le_of_lt (Nat.mul_le_mul_left _ hw) (of_decide_eq_true h))
end
end Go.Proofs.YtbgklecbmhaadaaGreatDoor.Kx