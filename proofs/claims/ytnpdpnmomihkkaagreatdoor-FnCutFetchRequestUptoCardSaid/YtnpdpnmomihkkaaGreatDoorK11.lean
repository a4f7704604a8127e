/- messages, part 11 -/
import Derived.Test.YtnpdpnmomihkkaaGreatDoorK10
import Derived.Laws.MakeOwn
import Derived.Maps.RangeRun

namespace Go.Proofs.YtnpdpnmomihkkaaGreatDoor.Kx
open Go
section
variable {P:Program} {g:GW} {av:PF->Bool} {fl nl:Bool} {te:Nat}
theorem ic (hm:P.follows .mixedOrders=true){f ntmps:Nat}{res:List Nat}{c:Code}{w:World}{RR:Ending->World->Prop}(hfn:FnIs P f ntmps res c)(hl:res.length<=2)(args:List Value)(Jg:args.length<=ntmps)
  (h:∀ a,(∀ i v,args[i]?=some v->a.get i=v)->a.tmps.size=ntmps->a.defers=[]->cf P c (Rt (λa' w'=>a'.defers=[]/\RR (.returned (cE res a')) w') (λa' w'=>a'.defers=[]/\RR (.returned (cE res a')) w')) a w):Calls P f args.toArray w RR:=by
 refine hfn.calls hm hl ?_
 refine h _ (λi v hi=>?_) (dw args.toArray ntmps (by simpa using Jg)) rfl
 have IU:i<args.length:=(ah.1 hi).1
 rw[db _ _ _ (by simpa using IU)]
 have:=(ah.1 hi).2
 simpa using this
def mZ (cx:Cx)(v6:Nat):Nat:=max (max cx.ver cx.fx) (max v6 4)+1
def vH (e:z9)(kept:Bool)(cx:Cx)(fs:Fds)(T kt:Nat)(toff:Option Nat)(v6 n0 ntmps:Nat)(nm:Nm)(used:Nat):Bool:=
 decide (cx.s=0/\4<cx.ver/\(cx.hf=true->4<cx.fx/\cx.fx≠cx.ver)/\(cx.hf=false->cx.fx=0)/\(kept=true->4<v6/\v6≠cx.ver/\v6≠cx.fx)/\mZ cx v6<=n0)&&decide (used<=ntmps)&&gC e.P T 0 e.g.tVer 0 false 1&&(!kept || e.av .i16) &&
 kK e cx.hf (mZ cx v6) n0 T kt toff fs nm (okTagdW e cx.hf (nm.n 2+1) n0 T fs nm.s)&&okFdsW e cx.hf (mZ cx v6) n0 T fs nm.s
def p7 (g:GW)(kept:Bool)(cx:Cx)(fs:Fds)(T kt flex v6 n0:Nat)(nm:Nm):Nat:=(gL (qf g kept cx T flex v6++(gwFds g cx fs nm.s++di g cx fs T kt nm++kv)) n0).2
theorem zP (K0:KW P g av fl nl te){f ntmps:Nat}{kept:Bool}{cx:Cx}{fs:Fds}{T kt flex v6 n0:Nat}{toff:Option Nat}{nm:Nm}(Jb:cx.hf=true->fl=true)(hfn:FnIs P f ntmps [4] (gWrite g kept cx fs T kt flex v6 n0 nm))
  (Mn:vH ⟨P,g,av,nl⟩ kept cx fs T kt toff v6 n0 ntmps nm (p7 g kept cx fs T kt flex v6 n0 nm)=true) {w:World} {B:Nat} {ver:Int} {vs:List V} {t:List (Nat × Bs)} (Mx:-32768<=ver/\ver<32768) (hB:B<w.heap.size) (IS:w.cell? ⟨B,0,none⟩=some (.int .i16 ver))
  (hr:RpF w (λk=>w.heap.size<=k) fs B 0 vs) (ht:gM w (λk=>w.heap.size<=k) B 0 toff t) (hlim:(iJ kept cx.hf flex fs ver (.st vs t)).length<=fq) :
  Calls P f #[pt B 0,bR] w λe w'=>∃ d',e=.returned d'/\bS w' w.heap.size te d' (iJ kept cx.hf flex fs ver (.st vs t))/\br (λ_=>False) w w':=by
 simp only[vH,ac,aH,Bool.not_eq_true',ai]at Mn
 obtain⟨⟨⟨⟨⟨⟨LU,NX,RO,Xm,Nv,hM⟩,Kk⟩,Kf⟩,Qo⟩,JL⟩,ML⟩:=Mn
 have YL:cx.ver<mZ cx v6/\cx.fx<mZ cx v6/\v6<mZ cx v6/\4<mZ cx v6:=by simp only[mZ];omega
 refine ic K0.mixed hfn ab [pt B 0,bR] ?_ λa harg hs hd=>?_
 ·simp only[List.length_cons,List.length_nil]
  have:n0<=p7 g kept cx fs T kt flex v6 n0 nm:=by
   refine bN ?_ (bN (bN (upL_wfds g fs cx nm.s) (iK g cx fs T kt nm)) (bw (bD _ _) (bw (dc _) bK))) n0
   exact bN (bN (bw (bD _ _) (bw (bD _ _) (bw (bD _ _) bK))) (fJ (bw (bD _ _) (bw (bD _ _) bK)) bK)) (fJ (bw (gH (bw (bD _ _) (bw (bD _ _) bK))) bK) bK)
  omega
 have h0:=harg 0 _ rfl
 have h1:=harg 1 _ rfl
 have hF:=fldB_ok Kf
 have KJ:bS w w.heap.size te bR []:=bS.nil _ _ _
 have fields:∀ (n:Nat) (a1:Act) (w1:World) (d1:Value) (bs1:Bs),n0<=n->bs1=(if kept then be 2 ver else[])->a1.tmps.size=ntmps->a1.defers=[]->a1.get 0=pt B 0->a1.get cx.ver=.int .i16 ver->(cx.hf=true->a1.get cx.fx=.bool (decide ((flex:Int)<=ver)))->a1.get 1=d1->Gr w.heap.size te bR w d1 bs1 w1 ->
   (gL (gwFds g cx fs nm.s++di g cx fs T kt nm++kv) n).2<=ntmps ->
   LW P (gwFds g cx fs nm.s++di g cx fs T kt nm++kv) n (Rt (λa' w'=>a'.defers=[]/\∃ d',.returned (cE [4] a')=Ending.returned d'/\bS w' w.heap.size te d' (iJ kept cx.hf flex fs ver (.st vs t))/\br (λ_=>False) w w') (λa' w'=>a'.defers=[]/\∃ d',.returned (cE [4] a')=Ending.returned d'/\bS w' w.heap.size te d' (iJ kept cx.hf flex fs ver (.st vs t))/\br (λ_=>False) w w')) a1 w1:=by
  intro n a1 w1 d1 bs1 hn MY Jc J3 Ke OB Ov IY PC Kk
  rw[cz]at Kk
  have Nj:(gL (gwFds g cx fs nm.s++di g cx fs T kt nm) n).2+1<=ntmps:=Kk
  have JT:=Gr.far KJ PC
  have hwc:WC cx (cx.hf&&decide ((flex:Int)<=ver)) ver te w.heap.size B 0 d1 bs1 a1 w1:=
   ⟨PC.dst,IY,by rw[LU];exact Ke,OB,λhf=>by rw[Ov hf,hf];rfl,λhf=>by rw[hf];rfl,hB,PC.keeps.size⟩
  have X0:pe cx (mZ cx v6) n0:=⟨⟨by omega,by omega⟩,⟨YL.1,by omega⟩,⟨YL.2.1,by
   cases hh:cx.hf with
   | true=>have:=RO hh;omega
   | false=>rw[Xm hh];omega⟩,by omega,hM⟩
  have T3:iJ kept cx.hf flex fs ver (.st vs t)=bs1++(wrFds (cx.hf&&decide ((flex:Int)<=ver)) ver fs vs++ig (cx.hf&&decide ((flex:Int)<=ver)) (wrTgd (cx.hf&&decide ((flex:Int)<=ver)) ver fs vs) t):=by
   simp only[iJ,V.fields,V.tags,MY]
  have KM:=bN (upL_wfds g fs cx nm.s) (iK g cx fs T kt nm) n
  refine ip ?_
  rw[cn]
  refine CD (wr_fds K0 fs) (C7 K0 fs) JL ML hwc X0 Jb hn aa aa (hr.far JT hB (ae _)) (ht.far JT hB (ae _)) (by rw[<- ad,<- T3];exact hlim) λa2 w2 d2 IR Ja hgr2=>?_
  have Jr:=IR.size
  refine bt (bF (bv (b7 (wpList_nil (bt (.ret ⟨?_,d2,?_,?_,?_⟩))))))
  ·simp only[b6];rw[IR.defers];exact J3
  ·show Ending.returned (Act.get _ 4)=_
   rw[bA (by simp only[bq];omega),bp,bA aa,bp,Ja]
  ·rw[T3];exact hgr2.dst
  ·exact(PC.trans hgr2).keeps.mono λk _ hk=>by simp[Value.ownBlock,bR]at hk
 have kpt:∀ (n:Nat) (a1:Act),n0<=n->a1.tmps.size=ntmps->a1.defers=[]->a1.get 0=pt B 0->a1.get cx.ver=.int .i16 ver->(cx.hf=true->a1.get cx.fx=.bool (decide ((flex:Int)<=ver)))->a1.get 1=bR ->
   (gL ((if kept then[gS [dO 0 v6 T 0 g.tVer,cV (g.ap .i16) v6]] else[])++(gwFds g cx fs nm.s++di g cx fs T kt nm++kv)) n).2<=ntmps ->
   LW P ((if kept then[gS [dO 0 v6 T 0 g.tVer,cV (g.ap .i16) v6]] else[])++(gwFds g cx fs nm.s++di g cx fs T kt nm++kv)) n (Rt (λa' w'=>a'.defers=[]/\∃ d',.returned (cE [4] a')=Ending.returned d'/\bS w' w.heap.size te d' (iJ kept cx.hf flex fs ver (.st vs t))/\br (λ_=>False) w w') (λa' w'=>a'.defers=[]/\∃ d',.returned (cE [4] a')=Ending.returned d'/\bS w' w.heap.size te d' (iJ kept cx.hf flex fs ver (.st vs t))/\br (λ_=>False) w w')) a1 w:=by
  intro n a1 hn Jc J3 Ke OB Ov IY Kk
  have PW:=bN (bN (upL_wfds g fs cx nm.s) (iK g cx fs T kt nm)) (bw (bD 1 λn=>[mk (some n) (.move (tm 1)),mk (some 4) (.assign (tm n))]) (bw (dc .ret) bK))
  by_cases hk:kept=true
  ·obtain⟨Yh,h6v,h6f⟩:=Nv hk
   rw[ax hk]at Kk ⊢
   have Mc:av .i16=true:=by rcases Qo with h|h;rw[hk]at h;cases h;exact h
   have Nj:(gL (gwFds g cx fs nm.s++di g cx fs T kt nm++kv) (n+4+3)).2<=ntmps:=Kk
   have:=PW (n+4+3)
   have hn7:n+4+3<=ntmps:=am this Nj
   refine bt ?_
   rw[cn]
   refine cC (bt (j7 (x:=v6) (m:=n0) (k0:=n0) (off:=0) Ke hF (by rw[aN];exact IS) (.inl rfl) (ae _) hn aa aa λa2 IR Ja=>?_))
   have Jr:=IR.size
   refine bt (rT (m:=n0) (k0:=n0) (L:=w.heap.size) (bs:=[]) (enc:=PF.wr .i16 (.n ver)) (K0.apE .i16 Mc) (K0.apC .i16 Mc w w.heap.size [.int .i16 ver] (.int .i16 ver) (.n ver) ⟨ver,rfl,rfl,Mx⟩ rfl) (by rw[IR.get 1 aa (.inl aa)];exact IY) Ja (by show v6<n+4;omega) KJ (ae _) ?_ (ae _) (by show n0<=n+4;omega) (by show 1<n+4;omega) (by show n+4+3<=_;omega) λa3 w3 d3 IW Jw hgr3=>?_)
   ·have:(PF.wr .i16 (.n ver)).length=2:=by simp[PF.wr,be]
    rw[this];decide
   have hp:∀ s,s<n0->s≠v6->s≠1->a3.get s=a1.get s:=λs hs Vd IX=>by rw[IW.get s IX (.inl hs),IR.get s Vd (.inl hs)]
   refine cD (fields (n+4+3) a3 w3 d3 _ aa (by rw[ax hk];rfl) (by rw[IW.size,Jr];exact Jc) (by rw[IW.defers,IR.defers];exact J3) (by rw[hp 0 aa aa aa];exact Ke) (by rw[hp cx.ver aa aa aa];exact OB)
    (λhf=>by have:=RO hf;rw[hp cx.fx aa aa aa];exact Ov hf) Jw hgr3 Nj)
  ·rw[al hk]at Kk ⊢
   exact fields n a1 w bR [] hn (by rw[al hk]) Jc J3 Ke OB Ov IY (Gr.refl KJ) Kk
 have hused':(gL (qf g kept cx T flex v6++(gwFds g cx fs nm.s++di g cx fs T kt nm++kv)) n0).2<=ntmps:=Kk
 unfold gWrite
 refine cC ?_
 have e1:qf g kept cx T flex v6++(gwFds g cx fs nm.s++di g cx fs T kt nm++kv)=co 4 (.slice none 0 0)::dO 0 cx.ver T 0 g.tVer::bL 1 (λn=>[mk (some n) (.move (tm cx.ver))]) ::
   ((if cx.hf then[bL 2 λn=>[mk (some n) (.move (tm cx.ver)),mk (some (n+1)) (.binOp .geq g.tVer (tm n) (ki .i16 flex) 0),mk (some cx.fx) (.assign (tm (n+1)))],bL 1 λn=>[mk (some n) (.move (tm cx.fx))]] else[]) ++
    ((if kept then[gS [dO 0 v6 T 0 g.tVer,cV (g.ap .i16) v6]] else[])++(gwFds g cx fs nm.s++di g cx fs T kt nm++kv))):=by
  simp only[qf,aS,aF,ao]
 rw[e1]at hused' ⊢
 have SU:(gL ((if cx.hf then[bL 2 λn=>[mk (some n) (.move (tm cx.ver)),mk (some (n+1)) (.binOp .geq g.tVer (tm n) (ki .i16 flex) 0),mk (some cx.fx) (.assign (tm (n+1)))],bL 1 λn=>[mk (some n) (.move (tm cx.fx))]] else[]) ++
    ((if kept then[gS [dO 0 v6 T 0 g.tVer,cV (g.ap .i16) v6]] else[])++(gwFds g cx fs nm.s++di g cx fs T kt nm++kv))) (n0+4+1)).2<=ntmps:=hused'
 have OM:ka ((if kept then[gS [dO 0 v6 T 0 g.tVer,cV (g.ap .i16) v6]] else[])++(gwFds g cx fs nm.s++di g cx fs T kt nm++kv)):=
  bN (fJ (bw (gH (bw (bD _ _) (bw (bD _ _) bK))) bK) bK) (bN (bN (upL_wfds g fs cx nm.s) (iK g cx fs T kt nm)) (bw (bD _ _) (bw (dc _) bK)))
 have YK:n0+4+1<=ntmps:=am (bN (fJ (bw (bD _ _) (bw (bD _ _) bK)) bK) OM _) SU
 refine bt (eW (x:=4) (m:=0) (k0:=0) (.inl rfl) aa λa1 IP _=>?_)
 have IX:=IP.size
 refine bt (j7 (x:=cx.ver) (m:=n0) (k0:=n0) (off:=0) (by rw[IP.get 0 aa (.inr aa)];exact h0) hF (by rw[aN];exact IS) (.inl rfl) (ae _) (by show n0<=n0+0;omega) (by show n0+0+4<=_;omega) aa λa2 IR Ja=>?_)
 have Jr:=IR.size
 refine bt (bF (bv (wpList_nil ?_)))
 have hb:∀ s,s<n0->s≠4->s≠cx.ver->(a2.put (some (n0+0+4)) (a2.eval (tm cx.ver))).get s=a.get s:=λs hs L3 LT=>by
  rw[b8 aa,IR.get s LT (.inl hs),IP.get s L3 (.inr ⟨by omega,by omega⟩)]
 have Vq:(a2.put (some (n0+0+4)) (a2.eval (tm cx.ver))).get cx.ver=.int .i16 ver:=by rw[b8 aa];exact Ja
 have MY:(a2.put (some (n0+0+4)) (a2.eval (tm cx.ver))).tmps.size=ntmps:=by rw[bq,Jr,IX];exact hs
 have XC:(a2.put (some (n0+0+4)) (a2.eval (tm cx.ver))).defers=[]:=by rw[b6,IR.defers,IP.defers];exact hd
 show LW P _ (n0+0+4+1) _ (a2.put (some (n0+0+4)) (a2.eval (tm cx.ver))) w
 generalize a2.put (some (n0+0+4)) (a2.eval (tm cx.ver))=a3 at hb Vq MY XC ⊢
 by_cases hf:cx.hf=true
 ·obtain⟨Ny,NL⟩:=RO hf
  rw[ax hf]at SU ⊢
  have Nj:(gL ((if kept then[gS [dO 0 v6 T 0 g.tVer,cV (g.ap .i16) v6]] else[])++(gwFds g cx fs nm.s++di g cx fs T kt nm++kv)) (n0+4+1+2+1)).2<=ntmps:=SU
  have hn8:=am (OM _) Nj
  refine bt (bF (bv ?_))
  rw[bp,Vq]
  refine cZ (b:=decide ((flex:Int)<=ver)) (p:=ver) (q:=flex) (k:=.i16) (by rw[bp,bA aa]) rfl (.inl ⟨rfl,rfl⟩) (b7 (wpList_nil ?_))
  rw[bp,bA (by simp only[bq];omega)]
  refine bt (bF (bv (wpList_nil ?_)))
  refine kpt (n0+4+1+2+1) _ aa (by simp only[bq];exact MY) (by simp only[b6];exact XC) ?_ ?_ (λ_=>?_) ?_ Nj
  ·rw[b8 (by show(0:Nat)≠n0+0+4+1+2;omega),b8 aa,b8 aa,b8 aa,hb 0 aa aa aa];exact h0
  ·rw[b8 (by show cx.ver≠n0+0+4+1+2;omega),b8 aa,b8 aa,b8 aa];exact Vq
  ·rw[b8 (by show cx.fx≠n0+0+4+1+2;omega),bA (by simp only[bq];omega)]
  ·rw[b8 (by show(1:Nat)≠n0+0+4+1+2;omega),b8 aa,b8 aa,b8 aa,hb 1 aa aa aa];exact h1
 ·rw[al hf]at SU ⊢
  exact kpt (n0+4+1) a3 aa MY XC ((hb 0 aa aa aa).trans h0) Vq (λh=>absurd h hf) ((hb 1 aa aa aa).trans h1) SU
end
section
variable {P:Program}
theorem fc (t:Nat)(a:Act):cE [t] a=a.get t:=rfl
theorem k8 {ops:Array Oper}{Q:Exit->Act->World->Prop}{r:List Oper}{a:Act}{w:World}{d:Option Nat}{x:Operand}{i:Nat}{vs:Array Value}{v:Value}(hx:a.eval x=.tuple vs)(hv:vs[i]?=some v)(h:wpList P ops Q r (a.put d v) w):wpList P ops Q (mk d (.extract x i)::r) a w:=by
 refine bP ?_ h
 simp[execOp,mk,hx,Instr.extract,hv]
theorem Aa {ops:Array Oper}{Q:Exit->Act->World->Prop}{r:List Oper}{a:Act}{w:World}{d:Option Nat}{x:Operand}{T:Nat}{ms:Array (String × TypeId)}{v:Value}{b:Bool}(hT:P.underlying T=some (.interface ms))(hx:a.eval x=v)(hv:(v=.nilIface/\b=false) \/ ((∃ t y,v=.iface t y)/\b=true))
  (h:wpList P ops Q r (a.put d (.bool b)) w):wpList P ops Q (mk d (.binOp .neq T x (.const .nilIface) 0)::r) a w:=by
 refine bP ?_ h
 have e2:a.eval (.const .nilIface)=.nilIface:=rfl
 have he:(eqGuard .neq T x (.const .nilIface) v .nilIface).run P w=.ok () w:=by
  rcases hv with⟨rfl,_⟩|⟨⟨t,y,rfl⟩,_⟩<;>simp[eqGuard]
 simp[execOp,mk,hx,e2,he,qU hT hv w]
theorem sB (hm:P.follows .mixedOrders=true){f nt T fD:Nat}{zv:Value}{wr:List (Nat × Value)}(hfn:FnIs P f nt [0] (cNewPtr T fD))(Jg:3<=nt)(hz:zeroOf P T=some zv)(hE:Ent P fD)(hD:DfC P fD wr)(JO:∀ p∈wr,p.1<zv.cells.size)(w:World) :
  Calls P f #[] w λe w'=>e=.returned (pt w.heap.size 0)/\br (λ_=>False) w w'/\w'.heap[w.heap.size]?=some (.cells (applyWr zv.cells 0 wr) T (0,0)):=by
 refine ic hm hfn ab [] ab λa _ hs hd=>?_
 unfold cNewPtr
 refine bJ (bF (b7 (wpList_nil ?_)))
 refine bJ (bF (fe (zeroOf_ok hz w) (wpList_nil ?_)))
 have hb:(w.alloc (.cells zv.cells T (0,0))).heap[w.heap.size]?=some (.cells zv.cells T (0,0)):=bO _ _
 refine bJ (bF (cj (vs:=#[pt w.heap.size 0]) hE ?_ (hD _ w.heap.size 0 zv.cells T hb (λp hp=>by simpa using JO p hp)) λe w' hR=>⟨_,hR.1,wpList_nil ?_⟩))
 ·simp only[List.map_cons,List.map_nil,bp]
  rw[bA (by simp only[bq];omega)]
  rfl
 refine bJ (bF (b7 (wpList_nil (bJ (.ret ⟨?_,?_,?_,hR.2.2⟩)))))
 ·simp only[b6];exact hd
 ·rw[fc,bA (by simp only[bq];omega),bp,b8 aa,bA (by simp only[bq];omega)]
  rfl
 ·have hk:br (λk=>w.heap.size<=k) w w':=(br.alloc _ _ _).trans (hR.2.1.mono λk _ hk=>by omega)
  exact hk.mono λk hk hX=>by omega
theorem vP (hm:P.follows .mixedOrders=true){f nt T tI B te:Nat}{cur:Array Value}{x:Int}{w:World}(hfn:FnIs P f nt [] (cSetV T tI))(Jg:8<=nt)(hF:cO P T 0 tI 0 false 1)(hB:w.heap[B]?=some (.cells cur te (0,0)))(h0:0<cur.size) :
  Calls P f #[pt B 0,.int .i16 x] w λe w'=>e=.returned (.tuple #[])/\br (·=B) w w'/\w'.heap[B]?=some (.cells (cur.setIfInBounds 0 (.int .i16 x)) te (0,0)):=by
 refine ic hm hfn ab [pt B 0,.int .i16 x] (by simp;omega) λa harg hs hd=>?_
 have g0:=harg 0 _ rfl
 have g1:=harg 1 _ rfl
 refine .reg (bv (bv ?_))
 rw[bp,g0,bp,b8 aa,g1]
 refine bY (by rw[bp,b8 aa,bA aa];rfl) ?_
 refine dt (by rw[bp,bA (by simp only[bq];omega)]) hF ?_
 refine cK (g:=B) (o:=0) (cur:=cur) (t:=te) (v:=.int .i16 x) (vs:=[.int .i16 x]) (by rw[bp,bA (by simp only[bq];omega)]) (by rw[bp,b8 aa,b8 aa,bA (by simp only[bq];omega)]) rfl (hF.var.size w) hB (by simp only[List.length_cons,List.length_nil];omega) (by simp[Value.oneCell']) (wpList_nil ⟨?_,rfl,br.setRow _ _ _ _ rfl,?_⟩)
 ·simp only[b6];exact hd
 ·rw[setRow_heap _ _ _ _ _ _ hB,j6 h0]
theorem wK (hm:P.follows .mixedOrders=true){f nt:Nat}{k:Int}{x:Value}{w:World}(hfn:FnIs P f nt [2] (cMaxV k))(Jg:3<=nt):Calls P f #[x] w λe w'=>e=.returned (.int .i16 k)/\br (λ_=>False) w w':=by
 refine ic hm hfn ab [x] (by simp;omega) λa harg hs hd=>?_
 refine bJ (bF (b7 (wpList_nil (bJ (bF (b7 (wpList_nil (bJ (.ret ⟨?_,?_,br.refl _ _⟩)))))))))
 ·simp only[b6];exact hd
 ·rw[fc,bA (by simp only[bq];omega)]
  rfl
theorem yZ (hm:P.follows .mixedOrders=true){f nt tI16 tInt f1 f2:Nat}{k:Nat}{x:Value}{w:World}(hI:P.underlying tI16=some (.int .i16))(Ms:P.underlying tInt=some (.int .i64))(hk:k<32768)(hfn:FnIs P f nt [0] (cMax tI16 tInt f1 f2))(Jg:4<=nt)
  (h1E:Ent P f1) (h1:Calls P f1 #[] w λe w'=>e=.returned x/\br (λ_=>False) w w') (h2E:Ent P f2) (h2:∀ w,Calls P f2 #[x] w λe w'=>e=.returned (.int .i16 (k:Int))/\br (λ_=>False) w w'):Calls P f #[] w λe w'=>e=.returned (.int .i64 (k:Int))/\br (λ_=>False) w w':=by
 refine ic hm hfn ab [] ab λa _ hs hd=>?_
 refine bJ (bF (b7 (wpList_nil (bJ (bF ?_)))))
 refine cj (vs:=#[]) h1E rfl h1 λe w1 hR1=>⟨_,hR1.1,?_⟩
 refine cj (vs:=#[x]) h2E ?_ (h2 w1) λe w2 Kr=>⟨_,Kr.1,?_⟩
 ·simp only[List.map_cons,List.map_nil,bp]
  rw[bA (by simp only[bq];omega)]
 refine ci (k:=.i16) (k':=.i64) (m:=(k:Int)) (by rw[bp,bA (by simp only[bq];omega)]) hI Ms ?_
 have hw:IntKind.i64.wrap (k:Int)=(k:Int):=by simp[IntKind.wrap,IntKind.bits,IntKind.signed];omega
 rw[hw]
 refine b7 (wpList_nil (bJ (.ret ⟨?_,?_,hR1.2.trans Kr.2⟩)))
 ·simp only[b6];exact hd
 ·rw[fc,bA (by simp only[bq];omega),bp,bA (by simp only[bq];omega)]
theorem yP (hm:P.follows .mixedOrders=true){f nt f2:Nat}{x y:Value}{w:World}{RR:Value->World->Prop}(hfn:FnIs P f nt [4] (cRdF f2))(Jg:8<=nt)(hE:Ent P f2)(h:Calls P f2 #[x,y,.bool false] w λe w'=>∃ v,e=.returned v/\RR v w'):Calls P f #[x,y] w λe w'=>∃ v,e=.returned v/\RR v w':=by
 refine ic hm hfn ab [x,y] (by simp;omega) λa harg hs hd=>?_
 have g0:=harg 0 _ rfl
 have g1:=harg 1 _ rfl
 refine bJ (bF (b7 (wpList_nil (bJ (bF (bv (bv ?_)))))))
 refine cj (vs:=#[x,y,.bool false]) hE ?_ h λe w1 hR=>?_
 ·simp only[List.map_cons,List.map_nil,bp]
  rw[b8 aa,bA (by simp only[bq];omega),b8 aa,g0,bA (by simp only[bq];omega),b8 aa,b8 aa,g1]
  rfl
 obtain⟨v,he,hv⟩:=hR
 refine⟨v,he,b7 (wpList_nil (bJ (.ret ⟨?_,v,?_,hv⟩)))⟩
 ·simp only[b6];exact hd
 ·rw[fc,bA (by simp only[bq];omega),bp,bA (by simp only[bq];omega)]
theorem xL {k:IntKind}{A:Nat}{x y:Int}(hy:y≠0)(w:World):(binOp .rem A (.int k x) (.int k y)).run P w=.ok (.int k (x.tmod y)) w:=by
 simp[binOp,Op.intDiv,hy]
theorem yw (hm:P.follows .mixedOrders=true){f nt tU8 tInt x most:Nat}{w:World}(h8:P.underlying tU8=some (.int .u8))(Ms:P.underlying tInt=some (.int .i64))(hx:x<256)(Lq:most<32768)(hfn:FnIs P f nt [4] (cVer tU8 tInt))(Jg:10<=nt) :
  Calls P f #[.int .u8 x,.int .i64 most] w λe w'=>e=.returned (.int .i64 ((x%(most+1):Nat):Int))/\br (λ_=>False) w w':=by
 refine ic hm hfn ab [.int .u8 x,.int .i64 most] (by simp;omega) λa harg hs hd=>?_
 have g0:=harg 0 _ rfl
 have g1:=harg 1 _ rfl
 refine bJ (bF (b7 (wpList_nil (bJ (bF (bv ?_))))))
 rw[bp,b8 aa,g0]
 refine ci (k:=.u8) (k':=.i64) (m:=x) (by rw[bp,bA (by simp only[bq];omega)]) h8 Ms (bv ?_)
 have hw:IntKind.i64.wrap (x:Int)=(x:Int):=by simp[IntKind.wrap,IntKind.bits,IntKind.signed];omega
 rw[hw,bp,b8 aa,b8 aa,b8 aa,g1]
 have KV:IntKind.i64.wrap ((most:Int)+1)=((most+1:Nat):Int):=by simp[IntKind.wrap,IntKind.bits,IntKind.signed];omega
 refine ee (k:=.i64) (m:=most) (n:=1) (v:=.int .i64 ((most+1:Nat):Int)) (by rw[bp,bA (by simp only[bq];omega)]) rfl ab (by simp[binOp,Op.intArith,KV]) ?_
 have Rv:(binOp .rem tInt (.int .i64 (x:Int)) (.int .i64 ((most+1:Nat):Int))).run P w=.ok (.int .i64 ((x%(most+1):Nat):Int)) w:=by
  have h1:=xL (P:=P) (k:=.i64) (A:=tInt) (x:=(x:Int)) (y:=((most+1:Nat):Int)) aa w
  have h2:(x:Int).tmod ((most+1:Nat):Int)=((x%(most+1):Nat):Int):=(Int.ofNat_tmod x (most+1)).symm
  rw[h2]at h1
  exact h1
 refine ee (k:=.i64) (m:=x) (n:=((most+1:Nat):Int)) (by rw[bp,b8 aa,b8 aa,bA (by simp only[bq];omega)]) (by rw[bp,bA (by simp only[bq];omega)]) ab Rv ?_
 refine b7 (wpList_nil (bJ (.ret ⟨?_,?_,br.refl _ _⟩)))
 ·simp only[b6];exact hd
 ·rw[fc,bA (by simp only[bq];omega),bp,bA (by simp only[bq];omega)]
theorem oJ {tSl te tx ty:Nat}(ot:OctT P tSl te){x:Value}{w:World}(hs:Src P 1 tx x 0 [] w):(Builtin.append_ #[tSl,tx] ty #[bR,x]).run P w=.ok bR w:=by
 obtain⟨i,z,hi,hz,Jc,O1,L4⟩:=ot.info
 have ht:=ot.und
 have h1:=hs.len
 have h2:=hs.cells
 rcases hs.kind with⟨e',hk⟩|hk<;>simp[bR,Builtin.append_,run_underlying ht,run_underlying hk,sizeOf,typeInfo,hi,Jc,h1,h2]
end
section
variable {P:Program} {te:Nat}
theorem en.form {w:World}{X:Nat->Prop}{v:Value}{l:Bs}(h:en w X v l):∃ base c,v=.slice base l.length c/\(l=[] \/ ∃ b o,base=some ⟨b,o,none⟩/\io w b o l):=by
 rcases h with⟨rfl,rfl⟩|⟨b,o,c,rfl,_,_,_,_,ho⟩
 ·exact⟨none,0,rfl,.inl rfl⟩
 ·exact⟨some ⟨b,o,none⟩,c,rfl,.inr ⟨b,o,rfl,ho⟩⟩
theorem pF (hm:P.follows .mixedOrders=true){f nt tSl tU8 tInt:Nat}(ot:OctT P tSl tU8)(h8:cv P tU8 false 1)(hfn:FnIs P f nt [4] (cSame tSl tU8 tInt))(Jg:26<=nt){w:World}{X:Nat->Prop}{va vb:Value}{la lb:Bs}(ha:en w X va la)(hb:en w X vb lb)(Pg:la.length<=maxLen) :
  Calls P f #[va,vb] w λe w'=>e=.returned (.bool (decide (la=lb)))/\br (λ_=>False) w w':=by
 obtain⟨ba,ca,rfl,hoa⟩:=ha.form
 obtain⟨bb,cb,rfl,hob⟩:=hb.form
 refine ic hm hfn ab [_,_] (by simp;omega) λa harg hs hd=>?_
 have g0:=harg 0 _ rfl
 have g1:=harg 1 _ rfl
 have retF:∀ (a1:Act) (w1:World) (N:Act->World->Prop) (b:Bool),a1.tmps.size=nt->a1.defers=[]->br (λ_=>False) w w1->b=decide (la=lb)->cf P (EV b) (Rt N (λa' w'=>a'.defers=[]/\(Ending.returned (cE [4] a')=.returned (.bool (decide (la=lb)))/\br (λ_=>False) w w'))) a1 w1:=by
  intro a1 w1 N b IX Ma hk KN
  refine bJ (cs:=[.ret]) (bF (b7 (wpList_nil (.ret ⟨?_,?_,hk⟩))))
  ·simp only[b6];exact Ma
  ·rw[fc,bA aa,KN]
   rfl
 unfold cSame
 refine bJ (bF (b7 (wpList_nil ?_)))
 refine bJ ?_
 rw[cn]
 have Jh:∀ (b:Bool),b=decide (la.length≠lb.length)->∀ (Y:Act->World->Prop) (E:Act->World->Prop),(∀ a1,a1.get 10=.bool b->a1.get 0=.slice ba la.length ca->a1.get 1=.slice bb lb.length cb->a1.tmps.size=nt->a1.defers=[]->Y a1 w) ->
   cf P (rg [mk (some 6) (.move (tm 0)),bi (some 7) .len [tm 6] [tSl] tInt,mk (some 8) (.move (tm 1)),bi (some 9) .len [tm 8] [tSl] tInt,mk (some 10) (.binOp .neq tInt (tm 7) (tm 9) 0)]) (Rt Y E) (a.put (some 4) (Act.eval a (.const (.bool false)))) w:=by
  intro b KN Y E hY
  refine .reg (bv ?_)
  rw[bp,b8 aa,g0]
  refine gi (base:=ba) (n:=la.length) (c:=ca) (by rw[bp,bA (by simp only[bq];omega)]) ot.und (bv ?_)
  rw[bp,b8 aa,b8 aa,b8 aa,g1]
  refine gi (base:=bb) (n:=lb.length) (c:=cb) (by rw[bp,bA (by simp only[bq];omega)]) ot.und ?_
  refine cZ (b:=b) (p:=la.length) (q:=lb.length) (k:=.i64) (by rw[bp,b8 aa,b8 aa,bA (by simp only[bq];omega)]) (by rw[bp,bA (by simp only[bq];omega)]) (.inr (.inr (.inr (.inr (.inr ⟨rfl,by rw[KN];exact decide_eq_decide.2 aa⟩))))) (wpList_nil (hY _ ?_ ?_ ?_ ?_ ?_))
  ·rw[bA (by simp only[bq];omega)]
  ·rw[b8 aa,b8 aa,b8 aa,b8 aa,b8 aa,b8 aa];exact g0
  ·rw[b8 aa,b8 aa,b8 aa,b8 aa,b8 aa,b8 aa];exact g1
  ·simp only[bq];exact hs
  ·simp only[b6];exact hd
 by_cases KH:la.length≠lb.length
 ·refine .seq (Jh true (by simp[KH]) _ _ λa1 Lm _ _ IX Ma=>?_) (λa1 w1 hh=>hh) (λe a w he hq=>by cases e<;>first|exact absurd rfl he|exact hq|exact hq.elim)
  refine .condT Lm (retF a1 w _ false IX Ma (br.refl _ _) ?_)
  have:la≠lb:=λh=>KH (by rw[h])
  simp[this]
 have IT:la.length=lb.length:=by omega
 refine .seq (Jh false (by simp[IT]) _ _ λa1 Lm e0 e1 IX Ma=>?_) (λa1 w1 hh=>hh) (λe a w he hq=>by cases e<;>first|exact absurd rfl he|exact hq|exact hq.elim)
 refine .condF Lm (.skip (bJ ?_))
 rw[cn]
 refine .seq (R:=Rt (λa2 w2=>a2.get 0=.slice ba la.length ca/\a2.get 1=.slice bb lb.length cb/\a2.get 12=.int .i64 (la.length:Int)/\a2.get 13=.int .i64 ((0:Nat):Int)/\a2.tmps.size=nt/\a2.defers=[]/\w2=w) λ_ _=>False) (.reg (bv ?_)) (λa2 w2 hh=>?_) (λe a w he hq=>by cases e<;>first|exact absurd rfl he|exact hq.elim)
 ·rw[bp,e0]
  refine gi (base:=ba) (n:=la.length) (c:=ca) (by rw[bp,bA aa]) ot.und (bv (wpList_nil ⟨?_,?_,?_,?_,?_,?_,rfl⟩))
  ·rw[b8 aa,b8 aa,b8 aa];exact e0
  ·rw[b8 aa,b8 aa,b8 aa];exact e1
  ·rw[b8 aa,bA (by simp only[bq];omega)]
  ·rw[bA (by simp only[bq];omega)];rfl
  ·simp only[bq];exact IX
  ·simp only[b6];exact Ma
 obtain⟨e0,e1,e12,e13,Jr,JW,rfl⟩:=hh
 refine .block (.loop (λa3 w3=>∃ j:Nat,j<=la.length/\a3.get 0=.slice ba la.length ca/\a3.get 1=.slice bb lb.length cb/\a3.get 12=.int .i64 (la.length:Int)/\a3.get 13=.int .i64 (j:Int)/\a3.tmps.size=nt/\a3.defers=[]/\br (λ_=>False) w2 w3/\la.take j=lb.take j)
  (λa3 _=>((la.length:Int)-(match a3.get 13 with|.int _ q=>q|_=>0)).toNat) ⟨0,by omega,e0,e1,e12,e13,Jr,JW,br.refl _ _,by simp⟩ ?_)
 rintro a3 w3 ⟨j,hj,f0,f1,f12,f13,JI,Kp,IZ,M3⟩
 have OQ:∀ (b:Bool) (E:Act->World->Prop),b=decide ((j:Int)<(la.length:Int))->cf P (rg [mk (some 14) (.binOp .lss tInt (tm 13) (tm 12) 0)]) (Rt (λa' w'=>a'.get 14=.bool b/\a'=a3.put (some 14) (.bool b)/\w'=w3) E) a3 w3:=by
  intro b E KN
  refine .reg (cZ (b:=b) (p:=j) (q:=la.length) (k:=.i64) f13 f12 (.inr (.inr (.inl ⟨rfl,KN⟩))) (wpList_nil ⟨bA aa,rfl,rfl⟩))
 by_cases IU:j<la.length
 ·refine .seq (OQ true _ (by simp[IU])) (λa4 w4 hh=>?_) (λe a w he hq=>by cases e<;>first|exact absurd rfl he|exact hq|exact hq.elim)
  obtain⟨Nb,rfl,rfl⟩:=hh
  refine .seq (R:=Rt (λa' w'=>a'=a3.put (some 14) (.bool true)/\w'=w4) λ_ _=>False) (.condT Nb (.skip ⟨rfl,rfl⟩)) (λa5 w5 hh=>?_) (λe a w he hq=>by cases e<;>first|exact absurd rfl he|exact hq.elim)
  obtain⟨rfl,rfl⟩:=hh
  refine .seq (R:=Rt (λa6 w6=>a6.get 0=.slice ba la.length ca/\a6.get 1=.slice bb lb.length cb/\a6.get 12=.int .i64 (la.length:Int)/\a6.get 13=.int .i64 (j:Int)/\a6.tmps.size=nt/\a6.defers=[]/\br (λ_=>False) w2 w6/\la.take (j+1)=lb.take (j+1)) (λa' w'=>a'.defers=[]/\(Ending.returned (cE [4] a')=.returned (.bool (decide (la=lb)))/\br (λ_=>False) w2 w')))
   (.block ?_) (λa6 w6 hh=>?_) (λe a w he hq=>by cases e<;>first|exact absurd rfl he|exact hq|exact hq.elim)
  ·-- the round
   refine .seq (R:=Rt (λa6 w6=>a6.get 0=.slice ba la.length ca/\a6.get 1=.slice bb lb.length cb/\a6.get 12=.int .i64 (la.length:Int)/\a6.get 13=.int .i64 (j:Int)/\a6.get 5=.int .i64 (j:Int)/\a6.tmps.size=nt/\a6.defers=[]/\w6=w5) λ_ _=>False) (.reg (bv ?_)) (λa6 w6 hh=>?_) (λe a w he hq=>by cases e<;>first|exact absurd rfl he|exact hq.elim)
   ·rw[bp,b8 aa,f13]
    refine b7 (wpList_nil ⟨?_,?_,?_,?_,?_,?_,?_,rfl⟩)
    ·rw[b8 aa,b8 aa,b8 aa];exact f0
    ·rw[b8 aa,b8 aa,b8 aa];exact f1
    ·rw[b8 aa,b8 aa,b8 aa];exact f12
    ·rw[b8 aa,b8 aa,b8 aa];exact f13
    ·rw[bA (by simp only[bq];omega),bp,bA (by simp only[bq];omega)]
    ·simp only[bq];exact JI
    ·simp only[b6];exact Kp
   obtain⟨k0,k1,k12,k13,k5,Vd,Qs,rfl⟩:=hh
   have Kh:fo (rS tSl tU8)=[false,false,false,false,false,false,false,false,false]:=by kernel_rfl
   obtain⟨xa,UX⟩:∃ x,la[j]?=some x:=⟨la[j],aq IU⟩
   obtain⟨xb,V7⟩:∃ x,lb[j]?=some x:=⟨lb[j]' aa,aq aa⟩
   have XJ:la≠[]:=λh=>by rw[h]at IU;simp at IU
   have XA:lb≠[]:=λh=>by rw[IT,h]at IU;simp at IU
   obtain⟨pa,oa,rfl,Wx⟩:=hoa.resolve_left XJ
   obtain⟨pb,ob,rfl,Ww⟩:=hob.resolve_left XA
   have hca:∀ w':World,w'.heap=w6.heap->w'.cell? ⟨pa,oa+j*1,none⟩=some (.int .u8 (xa.toNat:Int)):=λw' hw=>by
    have h1:=IZ.cell id (Wx j xa UX)
    rw[Nat.mul_one]
    simpa[World.cell?,hw]using h1
   have hcb:∀ w':World,w'.heap=w6.heap->w'.cell? ⟨pb,ob+j*1,none⟩=some (.int .u8 (xb.toNat:Int)):=λw' hw=>by
    have h1:=IZ.cell id (Ww j xb V7)
    rw[Nat.mul_one]
    simpa[World.cell?,hw]using h1
   refine .seq (R:=Rt (λa7 w7=>a7.get 24=.bool (decide (xa≠xb))/\a7.get 0=.slice (some ⟨pa,oa,none⟩) la.length ca/\a7.get 1=.slice (some ⟨pb,ob,none⟩) lb.length cb/\a7.get 12=.int .i64 (la.length:Int)/\a7.get 13=.int .i64 (j:Int)/\a7.tmps.size=nt/\a7.defers=[]/\w7=w6.drew) λ_ _=>False) (.drw (λw'=>w'.heap=w6.heap) ?_) (λa7 w7 hh=>?_) (λe a w he hq=>by cases e<;>first|exact absurd rfl he|exact hq.elim)
   ·rw[Kh]
    show iR P _ (rS tSl tU8) a6 λaf=>gF P _ _ [] af w6.drew
    refine iF (iF ?_)
    rw[bp,k0,bp,b8 aa,k5]
    refine jC (b:=pa) (o:=oa) (m:=la.length) (c:=ca) (i:=j) (k:=.i64) (sz:=1) (by rw[bp,b8 aa,bA aa]) (by rw[bp,bA (by simp only[bq];omega)]) IU ot.und h8.size ?_
    refine gT (p:=⟨pa,oa+j*1,none⟩) (v:=.int .u8 (xa.toNat:Int)) (by rw[bp,bA (by simp only[bq];omega)]) h8.agg hca (iF (iF ?_))
    rw[bp,b8 aa,b8 aa,b8 aa,b8 aa,k1,bp,b8 aa,b8 aa,b8 aa,b8 aa,b8 aa,k5]
    refine jC (b:=pb) (o:=ob) (m:=lb.length) (c:=cb) (i:=j) (k:=.i64) (sz:=1) (by rw[bp,b8 aa,bA (by simp only[bq];omega)]) (by rw[bp,bA (by simp only[bq];omega)]) aa ot.und h8.size ?_
    refine gT (p:=⟨pb,ob+j*1,none⟩) (v:=.int .u8 (xb.toNat:Int)) (by rw[bp,bA (by simp only[bq];omega)]) h8.agg hcb ?_
    refine sU (k:=.u8) (k2:=.u8) (m:=(xa.toNat:Int)) (m2:=(xb.toNat:Int)) (v:=.bool (decide (xa≠xb))) ?_ ?_ ?_ ⟨rfl,?_,?_,?_,?_,?_,?_,?_,rfl⟩
    ·rw[bp,b8 aa,b8 aa,b8 aa,b8 aa,bA (by simp only[bq];omega)]
    ·rw[bp,bA (by simp only[bq];omega)]
    ·intro w'
     refine jK (.inr (.inr (.inr (.inr (.inr ⟨rfl,?_⟩)))))
     have:xa≠xb ↔ (xa.toNat:Int)≠(xb.toNat:Int):=by
      rw[Ne,Ne,UInt8.toNat_inj.symm];omega
     simp only[this]
    ·rw[bA (by simp only[bq];omega)]
    ·iterate 9 rw[b8 aa]
     exact k0
    ·iterate 9 rw[b8 aa]
     exact k1
    ·iterate 9 rw[b8 aa]
     exact k12
    ·iterate 9 rw[b8 aa]
     exact k13
    ·simp only[bq];exact Vd
    ·simp only[b6];exact Qs
   ·obtain⟨V4,l0,l1,l12,l13,Tb,SA,rfl⟩:=hh
    have QG:br (λ_=>False) w2 w6.drew:=IZ.trans (br.drew _ _)
    have hta:la.take (j+1)=la.take j++[xa]:=by rw[List.take_add_one,UX];rfl
    have N4:lb.take (j+1)=lb.take j++[xb]:=by rw[List.take_add_one,V7];rfl
    by_cases hxx:xa=xb
    ·refine .condF (by rw[bp,V4];simp[hxx]) (.skip ?_)
     exact⟨l0,l1,l12,l13,Tb,SA,QG,by rw[hta,N4,M3,hxx]⟩
    ·refine .condT (by rw[bp,V4];simp[hxx]) (.mono (retF a7 w6.drew (λ_ _=>False) false Tb SA QG ?_) λe a w hq=>by cases e<;>first|exact hq|exact hq.elim)
     have:la≠lb:=λh=>by rw[h,V7]at UX;exact hxx (au UX).symm
     simp[this]
  ·obtain⟨l0,l1,l12,l13,Tb,SA,QG,ht7⟩:=hh
   have JO:IntKind.i64.wrap ((j:Int)+1)=((j+1:Nat):Int):=by simp only[maxLen]at Pg;simp[IntKind.wrap,IntKind.bits,IntKind.signed];omega
   refine .reg (ee (v:=.int .i64 ((j+1:Nat):Int)) (k:=.i64) (m:=j) (n:=1) l13 rfl ab (by simp[binOp,Op.intArith,JO]) (bv (wpList_nil ?_)))
   rw[bp,bA aa]
   have hg:((a6.put (some 25) (.int .i64 ((j+1:Nat):Int))).put (some 13) (.int .i64 ((j+1:Nat):Int))).get 13=.int .i64 ((j+1:Nat):Int):=bA (by simp only[bq];omega)
   refine⟨⟨j+1,by omega,?_,?_,?_,hg,by simp only[bq];exact Tb,by simp only[b6];exact SA,QG,ht7⟩,?_⟩
   ·rw[b8 aa,b8 aa];exact l0
   ·rw[b8 aa,b8 aa];exact l1
   ·rw[b8 aa,b8 aa];exact l12
   ·rw[hg,f13]
    simp only
    omega
 ·have Lv:j=la.length:=by omega
  subst Lv
  refine .seq (OQ false _ ab) (λa4 w4 hh=>?_) (λe a w he hq=>by cases e<;>first|exact absurd rfl he|exact hq|exact hq.elim)
  obtain⟨Nb,rfl,rfl⟩:=hh
  refine .seq (R:=λe a w=>e≠.normal/\Exit.inBlock 0 (Rt (λa' w'=>a'.tmps.size=nt/\a'.defers=[]/\br (λ_=>False) w2 w') λ_ _=>False) e a w) (.condF Nb (.exit ?_)) (λa2 w2 hh=>absurd rfl hh.1) (λe a w he hq=>?_)
  ·simp only[Exit.inBlock,aw]
   exact⟨by simp,by simp only[bq];exact JI,by simp only[b6];exact Kp,IZ⟩
  ·rw[dY he]
   have MI:=hq.2
   cases e with
   | normal=>exact absurd rfl he
   | exit i=>
    simp only[Exit.inBlock]at MI ⊢
    split at MI
    ·rename_i hi
     rw[ax hi]
     obtain⟨OV,N7,JZ⟩:=MI
     refine bJ (bF (b7 (wpList_nil (.ret ⟨?_,?_,JZ⟩))))
     ·simp only[b6];exact N7
     ·rw[fc,bA aa]
      have:la=lb:=by
       rw[List.take_length]at M3
       rw[M3,IT,List.take_length]
      simp[this]
      rfl
    ·exact MI.elim
   | _=>exact MI.elim
end
section
variable {P:Program}
def AgC (P:Program)(fA:Nat)(gErr:Nat)(out:Int->Bs->Option Bs)(okIn:Int->Bs->Prop):Prop:=
 ∀ (w:World) (x:Int) (srcv:Value) (l:Bs),en w (λ_=>False) srcv l->ErrAt gErr w->okIn x l->Calls P fA #[.int .i64 x,srcv] w λe w'=>∃ y b,e=.returned (.tuple #[y,.bool b])/\br (λ_=>False) w w' /\
   (out x l=none->b=false/\y=bR)/\(∀ bs,out x l=some bs->b=true/\en w' (λ_=>False) y bs)
end
structure St (n:Nat)(a:Act)(l:List (Nat × Value)):Prop where
 size:a.tmps.size=n
 defers:a.defers=[]
 get:∀ i v,l.lookup i=some v->a.get i=v
def Hd (l:List (Nat × Value))(x:Operand)(v:Value):Prop:=∀ (n:Nat) (a:Act),St n a l->a.eval x=v
section
variable {P:Program} {ops:Array Oper} {Q:Exit->Act->World->Prop} {r:List Oper} {n:Nat} {a:Act} {w:World} {l:List (Nat × Value)}
theorem Hd.t {i:Nat}{v:Value}(h:l.lookup i=some v):Hd l (tm i) v:=λ_ _ hs=>hs.get i v h
theorem Hd.c {v:Value}:Hd l (.const v) v:=λ_ _ _=>rfl
theorem Hd.i {k:IntKind}{x:Int}:Hd l (ki k x) (.int k x):=λ_ _ _=>rfl
theorem St.put (h:St n a l){d:Nat}(v:Value)(hd:d<n):St n (a.put (some d) v) ((d,v)::l):=by
 refine⟨by rw[bq];exact h.size,by rw[b6];exact h.defers,λi x hx=>?_⟩
 simp only[bh]at hx
 by_cases hi:i=d
 ·subst hi
  simp only[beq_self_eq_true]at hx
  rw[bA (by rw[h.size];exact hd)]
  exact au hx
 ·have:(i==d)=false:=by simp[hi]
  rw[this]at hx
  rw[iP _ _ _ _ hi]
  exact h.get i x hx
theorem St.sub (h:St n a l)(m:List (Nat × Value))(hm:∀ p∈m,l.lookup p.1=some p.2):St n a m:=by
 refine⟨h.size,h.defers,λi v hv=>h.get i v ?_⟩
 have:(i,v)∈m:=by
  clear hm
  induction m with
  | nil=>cases hv
  | cons p m ih=>
   obtain⟨q,u⟩:=p
   simp only[bh]at hv
   by_cases hi:i=q
   ·subst hi
    simp only[beq_self_eq_true]at hv
    rw[<- au hv]
    exact aB ..
   ·have:(i==q)=false:=by simp[hi]
    rw[this]at hv
    exact aA _ (ih hv)
 exact hm (i,v) this
def IE (l:List (Nat × Value)):List (Nat × Value)->Prop
 | []=>True
 | p::m=>l.lookup p.1=some p.2/\IE l m
theorem St.pick (h:St n a l){m:List (Nat × Value)}(hm:IE l m):St n a m:=h.sub m (by
 induction m with
 | nil=>intro p hp;cases hp
 | cons q m ih=>
  intro p hp
  rcases aI.1 hp with rfl|hp
  ·exact hm.1
  ·exact ih hm.2 p hp)
theorem b9 (h:St n a l){d:Nat}{x:Operand}{v:Value}(hx:Hd l x v)(hd:d<n)(k:∀ a',St n a' ((d,v)::l)->wpList P ops Q r a' w):wpList P ops Q (mk (some d) (.move x)::r) a w:=
 bv (k _ (by rw[hx n a h];exact h.put v hd))
theorem b5 (h:St n a l){d:Nat}{x:Operand}{v:Value}(hx:Hd l x v)(hd:d<n)(k:∀ a',St n a' ((d,v)::l)->wpList P ops Q r a' w):wpList P ops Q (mk (some d) (.assign x)::r) a w:=
 b7 (k _ (by rw[hx n a h];exact h.put v hd))
def cg:BinOp->Int->Int->Bool
 | .geq,p,q=>decide (q<=p)
 | .leq,p,q=>decide (p<=q)
 | .lss,p,q=>decide (p<q)
 | .gtr,p,q=>decide (q<p)
 | .eql,p,q=>decide (p=q)
 | _,p,q=>decide (p≠q)
def uQ (o:BinOp):Bool:=match o with|.geq|.leq|.lss|.gtr|.eql|.neq=>true|_=>false
theorem sY {o:BinOp}(h:uQ o=true)(p q:Int):(o=.geq/\cg o p q=decide (q<=p)) \/ (o=.leq/\cg o p q=decide (p<=q)) \/ (o=.lss/\cg o p q=decide (p<q)) \/ (o=.gtr/\cg o p q=decide (q<p)) \/ (o=.eql/\cg o p q=decide (p=q)) \/ (o=.neq/\cg o p q=decide (p≠q)):=by
 cases o<;>simp[uQ]at h<;>simp[cg]
theorem cy (h:St n a l){d:Nat}{x y:Operand}{o:BinOp}{T:Nat}{k:IntKind}{p q:Int}(ho:uQ o=true)(hx:Hd l x (.int k p))(hy:Hd l y (.int k q))(hd:d<n)(c:∀ a',St n a' ((d,.bool (cg o p q))::l)->wpList P ops Q r a' w) :
  wpList P ops Q (mk (some d) (.binOp o T x y 0)::r) a w:=
 cZ (hx n a h) (hy n a h) (sY ho p q) (c _ (h.put _ hd))
theorem e7 (h:St n a l){d:Nat}{x y:Operand}{o:BinOp}{T:Nat}{k:IntKind}{p q:Int}{v:Value}(hx:Hd l x (.int k p))(hy:Hd l y (.int k q))(ho:o≠.shl/\o≠.shr)(Jl:(binOp o T (.int k p) (.int k q)).run P w=.ok v w)(hd:d<n)(c:∀ a',St n a' ((d,v)::l)->wpList P ops Q r a' w) :
  wpList P ops Q (mk (some d) (.binOp o T x y 0)::r) a w:=
 ee (hx n a h) (hy n a h) ho Jl (c _ (h.put _ hd))
theorem eL {k:IntKind}{A:Nat}{x y:Int}(w:World):(binOp .add A (.int k x) (.int k y)).run P w=.ok (.int k (k.wrap (x+y))) w:=by simp[binOp,Op.intArith]
theorem l4 {k:IntKind}{A:Nat}{x y:Int}(w:World):(binOp .sub A (.int k x) (.int k y)).run P w=.ok (.int k (k.wrap (x-y))) w:=by simp[binOp,Op.intArith]
theorem AI {k:IntKind}{A:Nat}{x y:Int}(w:World):(binOp .mul A (.int k x) (.int k y)).run P w=.ok (.int k (k.wrap (x*y))) w:=by simp[binOp,Op.intArith]
theorem gV (h:St n a l){d:Nat}{x:Operand}{S T:Nat}{k k':IntKind}{m:Int}(hx:Hd l x (.int k m))(hS:P.underlying S=some (.int k))(hT:P.underlying T=some (.int k'))(hd:d<n)(c:∀ a',St n a' ((d,.int k' (k'.wrap m))::l)->wpList P ops Q r a' w) :
  wpList P ops Q (mk (some d) (.convert S T x)::r) a w:=ci (hx n a h) hS hT (c _ (h.put _ hd))
theorem rR (h:St n a l){d:Nat}{x:Operand}{T:Nat}{b:Bool}(hx:Hd l x (.bool b))(hd:d<n)(c:∀ a',St n a' ((d,.bool !b)::l)->wpList P ops Q r a' w) :
  wpList P ops Q (mk (some d) (.unOp .not T x)::r) a w:=pp (hx n a h) (c _ (h.put _ hd))
theorem dZ (h:St n a l){d:Nat}{x y z:Operand}{b:Bool}{u v:Value}(hx:Hd l x (.bool b))(hy:Hd l y u)(hz:Hd l z v)(hd:d<n)(c:∀ a',St n a' ((d,if b then u else v)::l)->wpList P ops Q r a' w) :
  wpList P ops Q (mk (some d) (.pick x y z)::r) a w:=ir (hx n a h) (by rw[hy n a h,hz n a h];exact c _ (h.put _ hd))
theorem mu (h:St n a l){d i:Nat}{x:Operand}{vs:Array Value}{v:Value}(hx:Hd l x (.tuple vs))(hv:vs[i]?=some v)(hd:d<n)(c:∀ a',St n a' ((d,v)::l)->wpList P ops Q r a' w) :
  wpList P ops Q (mk (some d) (.extract x i)::r) a w:=k8 (hx n a h) hv (c _ (h.put _ hd))
theorem dP (h:St n a l){d:Nat}{x:Operand}{F E ty m c:Nat}{base:Option Addr}(hx:Hd l x (.slice base m c))(hF:P.underlying F=some (.slice E))(hd:d<n)(k:∀ a',St n a' ((d,.int .i64 (m:Int))::l)->wpList P ops Q r a' w) :
  wpList P ops Q (bi (some d) .len [x] [F] ty::r) a w:=gi (hx n a h) hF (k _ (h.put _ hd))
theorem cH (h:St n a l){d:Nat}{x:Operand}{T k F B O off sz:Nat}{agg:Bool}(hx:Hd l x (pt B O))(hF:cO P T k F off agg sz)(hd:d<n)(c:∀ a',St n a' ((d,pt B (O+off))::l)->wpList P ops Q r a' w) :
  wpList P ops Q (mk (some d) (.fieldAddr T x k)::r) a w:=dt (hx n a h) hF (c _ (h.put _ hd))
theorem ce (h:St n a l){d:Nat}{x:Operand}{F B O sz:Nat}{v:Value}(hx:Hd l x (pt B O))(hF:cv P F false sz)(hv:w.cell? ⟨B,O,none⟩=some v)(hd:d<n)(c:∀ a',St n a' ((d,v)::l)->wpList P ops Q r a' w) :
  wpList P ops Q (mk (some d) (.load F x)::r) a w:=cL (hx n a h) (hF.agg w) hv (c _ (h.put _ hd))
theorem dK (h:St n a l){d:Nat}{x:Operand}{F B O:Nat}{cs:List Value}(hx:Hd l x (pt B O))(hF:cv P F true cs.length)(hv:bB w B O cs)(hd:d<n)(c:∀ a',St n a' ((d,.agg cs.toArray)::l)->wpList P ops Q r a' w) :
  wpList P ops Q (mk (some d) (.load F x)::r) a w:=gN (hx n a h) (hF.agg w) (hF.size w) (λj v hj=>hv j v hj) (c _ (h.put _ hd))
theorem fy (h:St n a l){d:Nat}{x:Operand}{T:Nat}{cs:List Value}(hx:Hd l x (.agg cs.toArray))(hd:d<n)(c:∀ a',St n a' ((d,pt w.heap.size 0)::l)->wpList P ops Q r a' (w.alloc (.cells cs.toArray T (0,0)))) :
  wpList P ops Q (mk (some d) (.box T x)::r) a w:=by
 refine bP (v:=pt w.heap.size 0) (w':=w.alloc (.cells cs.toArray T (0,0))) ?_ (c _ (h.put _ hd))
 have:=hx n a h
 simp[execOp,mk,this,Instr.box,newVar,newRow,newObj,Sem.run,pt,Value.cells]
theorem gP (h:St n a l){d:Nat}{T:Nat}{z:Value}(hz:(zeroValue T).run P w=.ok z w)(hd:d<n)(c:∀ a',St n a' ((d,pt w.heap.size 0)::l)->wpList P ops Q r a' (w.alloc (.cells z.cells T (0,0)))) :
  wpList P ops Q (mk (some d) (.alloc T)::r) a w:=fe hz (c _ (h.put _ hd))
theorem ix (h:St n a l){x y:Operand}{F g:Nat}{cur:Array Value}{t:Nat}{cs:List Value}{v:Value}(hx:Hd l x (pt g 0))(hy:Hd l y v)(hv:v.cells.toList=cs)(hF:∀ w,(sizeOf F).run P w=.ok cs.length w)(hg:w.heap[g]?=some (.cells cur t (0,0)))(hs:cur.size=cs.length)(h1:∀ u∈cs,u.oneCell'=true)
  (c:wpList P ops Q r a (w.setRow g cs.toArray)):wpList P ops Q (mk none (.store F x y)::r) a w:=by
 refine cK (vs:=cs) (hx n a h) (hy n a h) hv (hF w) hg aa h1 ?_
 have:bV cur 0 cs=cs.toArray:=by
  apply Array.ext'
  simp[bV,bo (show cur.toList.length<=cs.length by simp[hs])]
 rw[this];exact c
theorem cX (h:St n a l){d f:Nat}{args:List Operand}{vs:List Value}{R:Ending->World->Prop}(hf:Ent P f)(J4:∀ (n:Nat) (a:Act),St n a l->args.map a.eval=vs)(hc:Calls P f vs.toArray w R)(hd:d<n)
  (c:∀ e w',R e w'->∃ v,e=.returned v/\∀ a',St n a' ((d,v)::l)->wpList P ops Q r a' w'):wpList P ops Q (cl (some d) f args::r) a w:=
 cj (vs:=vs.toArray) hf (by rw[J4 n a h]) hc λe w' hR=>by
  obtain⟨v,he,hk⟩:=c e w' hR
  exact⟨v,he,hk _ (h.put _ hd)⟩
theorem fw (h:St n a l){d:Nat}{x y:Operand}{F E b o m c i sz:Nat}{k:IntKind}(hx:Hd l x (.slice (some ⟨b,o,none⟩) m c))(hy:Hd l y (.int k (i:Nat)))(hi:i<m)(hF:P.underlying F=some (.slice E))(hs:∀ w,(sizeOf E).run P w=.ok sz w)(hd:d<n)
  (q:∀ a',St n a' ((d,pt b (o+i*sz))::l)->wpList P ops Q r a' w):wpList P ops Q (mk (some d) (.indexAddr F x y)::r) a w:=dJ (hx n a h) (hy n a h) hi hF (hs w) (q _ (h.put _ hd))
theorem ox (h:St n a l){d j jd:Nat}{op:Op}{b:Bool}{v:Value}{o:Oper}(ho:ops[j]?=some o)(Lb:o.dst=some jd)(hj:l.lookup jd=some (.bool b))(Lv:jd<n)(Jl:(execOp a.eval (mk (some d) op)).run P w=.ok (.value v) w)(hd:d<n)
  (c:∀ a',St n a' ((d,v)::l)->wpList P ops Q r a' w):wpList P ops Q (gd d op j b::r) a w:=
 iv (dz ho Lb (by rw[h.size];exact Lv) (h.get _ _ hj)) Jl (c _ (h.put _ hd))
theorem cm (h:St n a l){d j jd:Nat}{op:Op}{b b':Bool}{o:Oper}(ho:ops[j]?=some o)(Lb:o.dst=some jd)(hj:l.lookup jd=some (.bool b'))(Lv:jd<n)(hb:b'≠b)(hd:d<n)
  (c:∀ a',St n a' ((d,undef)::l)->wpList P ops Q r a' w):wpList P ops Q (gd d op j b::r) a w:=
 fr (dz ho Lb (by rw[h.size];exact Lv) (h.get _ _ hj)) hb (c _ (h.put _ hd))
theorem bI {x y:Code}{R:Exit->Act->World->Prop}(h:cf P x (Exit.then (cf P y R) R) a w):cf P (.seq x y) R a w:=
 .seq h (λ_ _ h=>h) (λe a w he hq=>by rwa [dY he]at hq)
theorem cq {l':List Oper}{R:Exit->Act->World->Prop}(h:wpList P l'.toArray R l' a w):cf P (rg l') R a w:=.reg h
theorem cA (h:St n a l){c:Nat}{x y:Code}{b:Bool}{R:Exit->Act->World->Prop}(hc:l.lookup c=some (.bool b))(hT:b=true->cf P x R a w)(hF:b=false->cf P y R a w):cf P (.cond (tm c) x y) R a w:=by
 cases b with
 | true=>exact .condT (h.get _ _ hc) (hT rfl)
 | false=>exact .condF (h.get _ _ hc) (hF rfl)
theorem iU (h:St n a l){c:Nat}{x y z:Code}{b:Bool}{R:Exit->Act->World->Prop}(hc:l.lookup c=some (.bool b))(hT:b=true->cf P x (Exit.then (cf P z R) R) a w)(hF:b=false->cf P y (Exit.then (cf P z R) R) a w):cf P (.seq (.cond (tm c) x y) z) R a w:=
 bI (cA h hc hT hF)
theorem fY {i:Nat}{c:Code}{R:Exit->Act->World->Prop}(I:Nat->Act->World->Prop)(top:Nat)(h0:∃ m,m<=top/\I m a w)(hI:∀ m a w,m<=top->I m a w->cf P c (Exit.then (λa' w'=>∃ m',m'<=top/\m'<m/\I m' a' w') (Exit.inBlock i R)) a w):cf P (.block i (.loop c)) R a w:=by
 classical
 obtain⟨m0,M1,h0⟩:=h0
 let J:Act->World->Prop:=λa w=>∃ m,m<=top/\I m a w
 have key:∀ a w,J a w->∃ m,m<=top/\I m a w/\∀ m',m'<=top->I m' a w->m<=m':=λa w hJ=>by
  obtain⟨m,hm,hi⟩:=hJ
  induction m using Nat.strongRecOn with
  | _ m ih=>
   by_cases LY:∃ m',m'<m/\m'<=top/\I m' a w
   ·obtain⟨m',h1,h2,h3⟩:=LY
    exact ih m' h1 h2 h3
   ·exact⟨m,hm,hi,λm' h1 h2=>by
     rcases bm m' m with h|h
     ·exact absurd ⟨m',h,h1,h2⟩ LY
     ·exact h⟩
 let μ:Act->World->Nat:=λa w=>if hJ:J a w then Classical.choose (key a w hJ)else 0
 refine .block (.loop J μ ⟨m0,M1,h0⟩ λa w hJ=>?_)
 have hs:=Classical.choose_spec (key a w hJ)
 have hμ:μ a w=Classical.choose (key a w hJ):=by simp only[μ,dif_pos hJ]
 refine .mono (hI _ a w hs.1 hs.2.1) λe a' w' hq=>?_
 by_cases he:e=.normal
 ·subst he
  obtain⟨m',h1,h2,h3⟩:=hq
  have Vz:J a' w':=⟨m',h1,h3⟩
  refine⟨Vz,?_⟩
  have Mh:=Classical.choose_spec (key a' w' Vz)
  have hμ':μ a' w'=Classical.choose (key a' w' Vz):=by simp only[μ,dif_pos Vz]
  have:=Mh.2.2 m' h1 h3
  rw[hμ,hμ']
  omega
 ·rw[dY he]at hq ⊢
  exact hq
end
section
variable {P:Program}
theorem eA.len {w:World}{X:Nat->Prop}{m:Value}{t:List (Nat × Bs)}(h:eA w X m t):(m=.map none/\t=[]) \/ ∃ (r clock:Nat) (es:List ch),m=.map (some r)/\w.heap[r]?=some (.map (es.map ch.entry).toArray clock)/\es.length=t.length:=by
 rcases h with h|⟨r,rfl,_,_,⟨es,clock,f,hb,_,_,_,hp,_⟩,_⟩
 ·exact .inl h
 ·refine .inr ⟨r,clock,es,rfl,hb,?_⟩
  have:=hp.length_eq
  simpa using this
theorem nP {tM kt et:Nat}(hM:P.underlying tM=some (.map kt et)){ops:Array Oper}{Q:Exit->Act->World->Prop}{r:List Oper}{a:Act}{w:World}{d:Option Nat}{y:Operand}{ty:Nat}{m:Value}{X:Nat->Prop}{t:List (Nat × Bs)}(hy:a.eval y=m)(ht:eA w X m t)
  (h:wpList P ops Q r (a.put d (.int .i64 t.length)) w):wpList P ops Q (bi d .len [y] [tM] ty::r) a w:=by
 refine wpList_plain rfl λ_ hK=>?_
 unfold Oper.wp
 have hx:(execOp a.eval (bi d .len [y] [tM] ty)).run P w=.ok (.value (.int .i64 t.length)) w:=by
  rcases ht.len with⟨rfl,rfl⟩|⟨q,clock,es,rfl,hb,hl⟩
  ·simp[execOp,bi,resolve,invoke,hy,builtin,Builtin.len_,run_underlying hM,goInt]
  ·simp[execOp,bi,resolve,invoke,hy,builtin,Builtin.len_,run_underlying hM,goInt,getObj,Sem.run,hb,hl]
 rw[hx]
 exact hK _ _ h
theorem tlen_calls (hm:P.follows .mixedOrders=true){K:Kn}{f ntmps tTags tM kt et:Nat}(hM:P.underlying tM=some (.map kt et))(hF:cO P tTags 0 tM 0 false 1)(hfn:FnIs P f ntmps [2] (cTLen K tTags tM))(Jg:8<=ntmps)
  {w:World} {b o:Nat} {m:Value} {X:Nat->Prop} {t:List (Nat × Bs)} (hc:w.cell? ⟨b,o,none⟩=some m) (ht:eA w X m t):Calls P f #[pt b o] w λe w'=>e=.returned (.int .i64 t.length)/\br (λ_=>False) w w':=by
 refine ic hm hfn ab [pt b o] (by simp;omega) λa harg hs hd=>?_
 have g0:=harg 0 _ rfl
 refine cC (bt (bF (b7 (wpList_nil ?_))))
 rw[show(co 2 (.int .i64 0) 3).2=3 from rfl]
 refine bt (bF (bv ?_))
 rw[bp,b8 aa,g0]
 refine bY (p:=⟨b,o,none⟩) (by rw[bp,bA (by simp only[bq];omega)];rfl) ?_
 refine dt (by rw[bp,bA (by simp only[bq];omega)]) hF ?_
 refine cL (p:=⟨b,o+0,none⟩) (v:=m) (by rw[bp,bA (by simp only[bq];omega)]) (hF.var.agg _) hc ?_
 refine nP hM (by rw[bp,bA (by simp only[bq];omega)]) ht (b7 (wpList_nil (bt (.ret ⟨?_,?_,br.refl _ _⟩))))
 ·simp only[b6];exact hd
 ·rw[show cE [2] _=Act.get _ 2 from rfl,bA (by simp only[bq];omega),bp,bA (by simp only[bq];omega)]
end
section
open Go Go.MapKept
section
variable {P:Program} {w:World}
def d8 (k:Nat):Value:=.int .u32 (k:Int)
theorem wd {mty kt et r clock key j:Nat}{es:List ch}{e:ch}(hm:P.underlying mty=some (.map kt et))(hd:P.underlying kt=some (.int .u32))(hb:w.heap[r]?=some (.map (es.map ch.entry).toArray clock))(hn:(es.map ch.key).Nodup)(hj:es[j]?=some e)(hk:e.key=key) :
  (Instr.lookup mty (.map (some r)) (d8 key) false).run P w=.ok e.val w:=by
 have Ka:∀ x∈(es.map ch.entry).toArray.toList,IsKey (.int .u32) x.key:=by
  intro x hx
  simp only[aP]at hx
  obtain⟨e,_,rfl⟩:=hx
  exact il e.key
 rcases findNow_spec (il key) (es.map ch.entry).toArray.toList 0 Ka with⟨h1,h2⟩|⟨j',e',h1,h2,h3⟩
 ·have:=h2 e.entry (by simp;exact⟨e,bc hj,rfl⟩)
  simp[ch.entry,hk]at this
 ·have h2':(es[j']?).map ch.entry=some e':=by simpa using h2
  obtain⟨e1,Oc,rfl⟩:=aK.1 h2'
  have Jd:e1.key=key:=by
   simp only[ch.entry,Value.int.injEq,true_and]at h3
   omega
  have TO:j'=j:=by
   have a1:(es.map ch.key)[j']?=some key:=by rw[aD,Oc];simp[Jd]
   have a2:(es.map ch.key)[j]?=some key:=by rw[aD,hj];simp[hk]
   have IU:=(ah.1 a1).1
   exact(List.getElem?_inj IU hn).1 (a1.trans a2.symm)
  subst TO
  obtain rfl:=au (Oc.symm.trans hj)
  have h1':Instr.findNow (.int .u32) (.int .u32 (key:Int)) (es.map ch.entry).toArray.toList 0=some (some (0+j',e1.entry.val)):=h1
  simp[Instr.lookup,d8,run_underlying hm,MapKept.run_getObj_map hb,MapKept.run_checkKey hd (il key),MapKept.run_findKey hd h1',ch.entry]
theorem oI {tS te G n:Nat}{cur:Array Value}{v:Value}{X c x:Nat}{ty:TypeId}(hS:P.underlying tS=some (.slice te))(hi:∃ i,P.info? te=some i/\i.size=1)(hG:w.heap[G]?=some (.cells cur te (0,0)))(Js:cur.size=n)(hx:x<n)(hX:w.cell? ⟨X,0,none⟩=some v)(hv:v.oneCell'=true) :
  (Builtin.append_ #[tS,tS] ty #[.slice (some ⟨G,0,none⟩) x n,.slice (some ⟨X,0,none⟩) 1 c]).run P w=.ok (.slice (some ⟨G,0,none⟩) (x+1) n) (w.setRow G (cur.setIfInBounds x v)):=by
 obtain⟨i,hi,Jc⟩:=hi
 have hs:Src P 1 tS (.slice (some ⟨X,0,none⟩) 1 c) 1 [v] w:=Src.ofSlice w hS ⟨X,0,none⟩ 1 c [v] ab (λj u hj=>by
  cases j with
  | zero=>simp at hj;subst hj;simpa[Addr.add_lit]using hX
  | succ j=>simp at hj) (by simpa using hv)
 have JL:=run_storeCells_at P G x te [v] 0 cur w hG (by simp;omega) hs.one
 simp only[Nat.add_zero]at JL
 have JV:x+1<=n:=by omega
 have e1:bV cur x [v]=cur.setIfInBounds x v:=j6 aa
 rw[<- e1]
 simp[Builtin.append_,run_underlying hS,sizeOf,typeInfo,hi,Jc,hs.len,JV,hs.cells,Addr.add_lit,JL,bV]
theorem yo {ops:Array Oper}{Q:Exit->Act->World->Prop}{r:List Oper}{a:Act}{d:Option Nat}{f:Nat}{y:Operand}{args:List Operand}{vs cap:Array Value}{R:Ending->World->Prop}(hf:Ent P f)(hy:a.eval y=.func (.func f) #[] cap)(J4:(args.map a.eval).toArray=vs)
  (hc:Calls P f (vs++cap) w R) (h:∀ e w',R e w'->∃ v,e=.returned v/\wpList P ops Q r (a.put d v) w'):wpList P ops Q (mk d (.call ⟨.value y,args.toArray,#[]⟩)::r) a w:=by
 refine mM ?_
 unfold Oper.wp
 have:(execOp a.eval (mk d (.call ⟨.value y,args.toArray,#[]⟩))).run P w=.ok (.enter f (vs++cap)) w:=by
  simp only[execOp,mk,resolve,hy,Deferred.ofValue,invoke,Sem.run_bind,Sem.run_pure,Result.andThen_ok,Array.empty_append,List.map_toArray,J4]
  exact hf _ _
 rw[this]
 exact hc.mono λe w' hR=>by
  obtain⟨v,rfl,hh⟩:=h e w' hR
  exact hh
end
end
section
open Go Go.ChangeMaps
section
variable {P:Program}
theorem gp {a:Act}{d i:Nat}{v:Value}(h:d<a.tmps.size):(a.put (some d) v).get i=if i=d then v else a.get i:=by
 by_cases hi:i=d
 ·rw[ax hi,hi];exact fh _ _ _ h
 ·rw[al hi];exact iP _ _ _ _ hi
structure TF (P:Program)(T:TN):Prop where
 map:∃ kt et,P.underlying T.tM=some (.map kt et)/\P.underlying kt=some (.int .u32)
 fld:cO P T.tTags 0 T.tM 0 false 1
 sl:P.underlying T.tKs=some (.slice T.tU32)
 info:∃ i z,P.info? T.tU32=some i/\i.zero=some z/\i.size=1/\i.bytes=4
 vU:cv P T.tU32 false 1
 vK:cv P T.tKs false 1
 zK:∀ w,(zeroValue T.tKs).run P w=.ok (.slice none 0 0) w
 dInt:P.underlying T.tInt=some (.int .i64)
 dU32:P.underlying T.tU32=some (.int .u32)
structure oq (T:TN)(w0:World)(q it V G clock:Nat)(es L:List ch)(w:World):Prop where
 keeps:br (λ_=>False) w0 w
 mp:w.heap[q]?=some (.map (es.map ch.entry).toArray clock)
 iter:w.heap[it]?=some (.mapIter (some q) clock (L.map ch.born).toArray clock)
 box:w.heap[V]?=some (.cells #[.slice (some ⟨G,0,none⟩) L.length es.length] T.tKs (0,0))
 row:∃ cur,w.heap[G]?=some (.cells cur T.tU32 (0,0))/\cur.size=es.length/\∀ (i:Nat) (e:ch),L[i]?=some e->cur[i]?=some (d8 e.key)
 sub:∀ e∈L,e∈es
 nod:(L.map ch.born).Nodup
 new:w0.heap.size<=V/\w0.heap.size<=G/\w0.heap.size<=it/\V≠G/\V≠it/\G≠it/\q<w0.heap.size
theorem q8 {w:World}{b:Nat}{o:Obj}(h:b<w.heap.size):(setBlock w b o).heap[b]?=some o:=by
 show(w.heap.setIfInBounds b o)[b]?=some o
 rw[ay,ax rfl,ax h]
theorem oA {w:World}{b k:Nat}{o:Obj}(h:k≠b):(setBlock w b o).heap[k]?=w.heap[k]?:=by
 show(w.heap.setIfInBounds b o)[k]?=_
 rw[ay,al (λe=>h e.symm)]
theorem zf {X:Nat->Prop}{w:World}{b:Nat}{o:Obj}(h:X b):br X w (setBlock w b o):=
 ⟨rfl,rfl,rfl,by show w.heap.size<=(w.heap.setIfInBounds b o).size;simp,λ_ _ hx=>oA λe=>hx (e ▸ h)⟩
theorem oq.le {T:TN}{w0:World}{q it V G clock:Nat}{es L:List ch}{w:World}(h:oq T w0 q it V G clock es L w)    :L.length<=es.length:=by
 have key:∀ (l m:List Nat),l.Nodup->(∀ x∈l,x∈m)->l.length<=m.length:=by
  intro l
  induction l with
  | nil=>intro m _ _;simp
  | cons a l ih=>
   intro m hl hs
   obtain⟨h1,h2⟩:=List.nodup_cons.1 hl
   have hm:a∈m:=hs a ab
   have:=ih (m.erase a) h2 λx hx=>(List.mem_erase_of_ne (λe=>h1 (by rw[<- e];exact hx))).2 (hs x (by simp[hx]))
   rw[List.length_erase_of_mem hm]at this
   have:=List.length_pos_of_mem hm
   simp only[List.length_cons]
   omega
 have h1:=key (L.map ch.born) (es.map ch.born) h.nod λx hx=>by
  obtain⟨e,he,rfl⟩:=aP.1 hx
  exact aP.2 ⟨e,h.sub e he,rfl⟩
 simpa using h1
theorem oq.next {T:TN}{w0:World}{q it V G clock:Nat}{es L:List ch}{w:World}(h:oq T w0 q it V G clock es L w)(hb:∀ e∈es,e.born<clock)(ty:TypeId) :
  ((∀ e∈es,e.born∈L.map ch.born)/\(Instr.next (pt it 0) false ty).run P w=.ok (.tuple #[.bool false]) w) \/
  ∃ e∈es,e.born∉L.map ch.born/\∃ w1,(w1=w \/ w1=w.drew)/\(Instr.next (pt it 0) false ty).run P w=.ok (.tuple #[.bool true,d8 e.key,e.val]) (setBlock w1 it (.mapIter (some q) clock ((L++[e]).map ch.born).toArray clock)):=by
 rcases run_next_at (P:=P) w ty it q clock clock _ _ clock h.iter h.mp (λx hx=>by
  simp only[aP]at hx
  obtain⟨e,he,rfl⟩:=hx
  exact hb e he) (ae _) with⟨h0,hr⟩|⟨e,he,w1,LS,hr⟩
 ·refine .inl ⟨λe he=>?_,hr⟩
  have h1:leftOf (es.map ch.entry).toArray (L.map ch.born).toArray=#[]:=Array.eq_empty_of_size_eq_zero h0
  unfold leftOf at h1
  rw[Array.filter_eq_empty_iff]at h1
  have:=h1 e.entry (by simpa using⟨e,he,rfl⟩)
  simpa[ch.entry]using this
 ·unfold leftOf at he
  have KU:e∈(es.map ch.entry).toArray/\(!(L.map ch.born).toArray.contains e.born)=true:=by
   have:=Array.mem_def.2 he
   simpa using this
  obtain⟨hm,hc⟩:=KU
  simp only[List.mem_toArray,aP]at hm
  obtain⟨e1,Oc,rfl⟩:=hm
  refine .inr ⟨e1,Oc,?_,w1,LS,?_⟩
  ·simpa[ch.entry]using hc
  ·rw[show pt it 0=.pointer (some ⟨it,0,none⟩) from rfl,hr]
   simp[ch.entry,d8]
end
end
section
open Go Go.ChangeMaps
section
variable {P:Program}
def SortOk (P:Program)(T:TN):Prop:=
 Ent P T.fSort/\∀ (w:World) (V G n:Nat) (ks:List Nat) (cur:Array Value),ks.length=n->n<4611686018427387904->(∀ x∈ks,x<4294967296)->w.heap[V]?=some (.cells #[.slice (some ⟨G,0,none⟩) n n] T.tKs (0,0))->w.heap[G]?=some (.cells cur T.tU32 (0,0))->cur.size=n->V≠G ->
  (∀ (i:Nat) (x:Nat),ks[i]?=some x->cur[i]?=some (d8 x)) ->
  Calls P T.fSort #[.iface T.tKs (.slice (some ⟨G,0,none⟩) n n),.func (.func T.fLess) #[] #[pt V 0]] w λe w'=>e=.returned (.tuple #[])/\br (λk=>k=G) w w' /\
   ∃ (cur':Array Value) (ks':List Nat),w'.heap[G]?=some (.cells cur' T.tU32 (0,0))/\ks'.Perm ks/\ks'.Pairwise (·<=·)/\∀ (i:Nat) (x:Nat),ks'[i]?=some x->cur'[i]?=some (d8 x)
theorem Ck:∀ {es:List ch},(es.map ch.born).Nodup->∀ x∈es,∀ y∈es,x.born=y.born->x=y
 | [],_,_,hx,_,_,_=>by simp at hx
 | a::r,hn,x,hx,y,hy,h=>by
  simp only[List.map_cons,List.nodup_cons,aP,not_exists,not_and]at hn
  rcases aI.1 hx with ex|hx'
  ·rcases aI.1 hy with ey|hy'
   ·rw[ex,ey]
   ·exact absurd (by rw[<- h,ex]) (hn.1 y hy')
  ·rcases aI.1 hy with ey|hy'
   ·exact absurd (by rw[h,ey]) (hn.1 x hx')
   ·exact Ck hn.2 x hx' y hy' h
theorem u9:∀ (l m:List ch),(l.map ch.born).Nodup->(m.map ch.born).Nodup->(∀ x∈l,x∈m)->(∀ x∈m,x.born∈l.map ch.born)->(l.map ch.key).Perm (m.map ch.key):=by
 intro l
 induction l with
 | nil=>
  intro m _ _ _ hm
  cases m with
  | nil=>exact .refl _
  | cons a r=>have:=hm a ab;simp at this
 | cons a l ih=>
  intro m hl hmn hs hm
  simp only[List.map_cons,List.nodup_cons]at hl
  have ha:a∈m:=hs a ab
  obtain⟨m1,m2,rfl⟩:=List.append_of_mem ha
  have hp:(m1++a::m2).Perm (a::(m1++m2)):=List.perm_middle
  have hmn':((a::(m1++m2)).map ch.born).Nodup:=(hp.map ch.born).nodup_iff.1 hmn
  simp only[List.map_cons,List.nodup_cons]at hmn'
  refine .trans ?_ (hp.map ch.key).symm
  simp only[List.map_cons]
  refine List.Perm.cons _ (ih (m1++m2) hl.2 hmn'.2 (λx hx=>?_) λx hx=>?_)
  ·have:=(hp.mem_iff).1 (hs x (by simp[hx]))
   rcases aI.1 this with e|h
   ·exact absurd (aP.2 ⟨x,hx,by rw[e]⟩) hl.1
   ·exact h
  ·have:=hm x (hp.mem_iff.2 (by simp only[aI];exact .inr hx))
   simp only[List.map_cons,aI]at this
   rcases this with e|h
   ·exact absurd (aP.2 ⟨x,hx,e⟩) hmn'.1
   ·exact h
theorem yO {l:List (Nat × Bs)}(h:jm l):(l.map (·.1)).Pairwise (·<=·):=by
 induction l with
 | nil=>simp
 | cons a r ih=>
  cases r with
  | nil=>simp
  | cons b r=>
   simp only[jm]at h
   have hr:=ih h.2
   simp only[List.map_cons,List.pairwise_cons]at hr ⊢
   refine⟨λx hx=>?_,hr⟩
   simp only[aI]at hx
   rcases hx with rfl|hx
   ·omega
   ·have:=hr.1 x hx;omega
theorem ue {l m:List Nat}(hp:l.Perm m)(hl:l.Pairwise (·<=·))(hm:m.Pairwise (·<=·)):l=m:=
 List.Perm.eq_of_pairwise (le:=(·<=·)) (λ_ _ _ _ h1 h2=>Nat.le_antisymm h1 h2) hl hm hp
theorem pq {T:TN}(tf:TF P T){ops:Array Oper}{Q:Exit->Act->World->Prop}{r:List Oper}{a:Act}{w:World}{b o n:Nat}{m:Value}(h0:a.get 0=pt b o)(hc:w.cell? ⟨b,o,none⟩=some m)(_hn:0<n)(hs:n+3<a.tmps.size)
  (h:∀ a',(∀ i,i<n->a'.get i=a.get i)->a'.get (n+3)=m->a'.tmps.size=a.tmps.size->a'.defers=a.defers->wpList P ops Q r a' w):wpList P ops Q (rk T n++r) a w:=by
 show wpList P ops Q (mk (some n) (.move (tm 0))::mk (some (n+1)) (.nilCheck (tm n))::mk (some (n+2)) (.fieldAddr T.tTags (tm (n+1)) 0)::mk (some (n+3)) (.load T.tM (tm (n+2)))::r) a w
 refine bv ?_
 rw[bp,h0]
 refine bY (p:=⟨b,o,none⟩) (by rw[bp,bA aa];rfl) ?_
 refine dt (B:=b) (O:=o) (by rw[bp,bA (by simp only[bq];omega)]) tf.fld ?_
 refine cL (p:=⟨b,o+0,none⟩) (v:=m) (by rw[bp,bA (by simp only[bq];omega)]) (tf.fld.var.agg _) hc (h _ (λi hi=>?_) ?_ ?_ ?_)
 ·iterate 4 rw[b8 aa]
 ·rw[bA (by simp only[bq];omega)]
 ·simp only[bq]
 ·simp only[b6]
end
end
