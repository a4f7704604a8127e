/-
  PLAIN LAWS AND CONTRACTS of messages, part 11.
-/
import Derived.Test.YtbgklecbmhaadaaGreatDoorK10
import Derived.Laws.MakeOwn
import Derived.Maps.RangeRun

namespace Go.Proofs.YtbgklecbmhaadaaGreatDoor.Kx
open Go
section
variable {P:Program} {g:GW} {av:PF->Bool} {fl nl:Bool} {te:Nat}
theorem fb (hm:P.follows .mixedOrders=true){f ntmps:Nat}{res:List Nat}{c:Code}{w:World}{RR:Ending->World->Prop}(hfn:FnIs P f ntmps res c)(hl:res.length<=2)(args:List Value)(G8:args.length<=ntmps)
  (h:∀ a,(∀ i v,args[i]?=some v->a.get i=v)->a.tmps.size=ntmps->a.defers=[]->aQ P c (Rt (fun a' w'=>a'.defers=[]/\RR (.returned (bj res a')) w') (fun a' w'=>a'.defers=[]/\RR (.returned (bj res a')) w')) a w):Calls P f args.toArray w RR:=by
 refine hfn.calls hm hl ?_
 refine h _ (fun i v hi=>?_) (cH args.toArray ntmps (by simpa using G8)) rfl
 have Gq:i<args.length:=(List.getElem?_eq_some_iff.1 hi).1
 rw[bX _ _ _ (by simpa using Gq)]
 have:=(List.getElem?_eq_some_iff.1 hi).2
 simpa using this
def lm (cx:Cx)(v6:Nat):Nat:=max (max cx.ver cx.fx) (max v6 4)+1
def sI (e:xc)(kept:Bool)(cx:Cx)(fs:Fds)(T kt:Nat)(toff:Option Nat)(v6 n0 ntmps:Nat)(nm:Nm)(used:Nat):Bool:=
 decide (cx.s=0/\4<cx.ver/\(cx.hf=true->4<cx.fx/\cx.fx≠cx.ver)/\(cx.hf=false->cx.fx=0)/\(kept=true->4<v6/\v6≠cx.ver/\v6≠cx.fx)/\lm cx v6<=n0)&&decide (used<=ntmps)&&eB e.P T 0 e.g.tVer 0 false 1&&(!kept || e.av .i16) &&
 jm e cx.hf (lm cx v6) n0 T kt toff fs nm (okTagdW e cx.hf (nm.n 2+1) n0 T fs nm.s)&&okFdsW e cx.hf (lm cx v6) n0 T fs nm.s
def nz (g:GW)(kept:Bool)(cx:Cx)(fs:Fds)(T kt flex v6 n0:Nat)(nm:Nm):Nat:=(gL (oe g kept cx T flex v6++(gwFds g cx fs nm.s++bJ g cx fs T kt nm++iY)) n0).2
theorem xn (K0:KW P g av fl nl te){f ntmps:Nat}{kept:Bool}{cx:Cx}{fs:Fds}{T kt flex v6 n0:Nat}{toff:Option Nat}{nm:Nm}(Gw:cx.hf=true->fl=true)(hfn:FnIs P f ntmps [4] (gWrite g kept cx fs T kt flex v6 n0 nm))
  (Jv:sI ⟨P,g,av,nl⟩ kept cx fs T kt toff v6 n0 ntmps nm (nz g kept cx fs T kt flex v6 n0 nm)=true) {w:World} {B:Nat} {ver:Int} {vs:List V} {t:List (Nat × Bs)} (JO:-32768<=ver/\ver<32768) (hB:B<w.heap.size) (Gn:w.cell? ⟨B,0,none⟩=some (.int .i16 ver))
  (hr:RpF w (fun k=>w.heap.size<=k) fs B 0 vs) (ht:eJ w (fun k=>w.heap.size<=k) B 0 toff t) (hlim:(fU kept cx.hf flex fs ver (.st vs t)).length<=d7) :
  Calls P f #[pt B 0,aG] w fun e w'=>∃ d',e=.returned d'/\aH w' w.heap.size te d' (fU kept cx.hf flex fs ver (.st vs t))/\ac (fun _=>False) w w':=by
 simp only[sI,Bool.and_eq_true,Bool.or_eq_true,Bool.not_eq_true',decide_eq_true_eq]at Jv
 obtain⟨⟨⟨⟨⟨⟨Jn,M6,OL,Ui,K2,hM⟩,H3⟩,Hy⟩,Nu⟩,Hl⟩,JV⟩:=Jv
 have VI:cx.ver<lm cx v6/\cx.fx<lm cx v6/\v6<lm cx v6/\4<lm cx v6:=by simp only[lm];omega
 refine fb K0.mixed hfn (by simp) [pt B 0,aG] ?_ fun a harg hs hd=>?_
 ·simp only[List.length_cons,List.length_nil]
  have:n0<=nz g kept cx fs T kt flex v6 n0 nm:=by
   refine ay ?_ (ay (ay (upL_wfds g fs cx nm.s) (fX g cx fs T kt nm)) (ae (aq _ _) (ae (b7 _) ax))) n0
   exact ay (ay (ae (aq _ _) (ae (aq _ _) (ae (aq _ _) ax))) (dS (ae (aq _ _) (ae (aq _ _) ax)) ax)) (dS (ae (eE (ae (aq _ _) (ae (aq _ _) ax))) ax) ax)
  omega
 have h0:=harg 0 _ rfl
 have h1:=harg 1 _ rfl
 have hF:=fldB_ok Hy
 have HW:aH w w.heap.size te aG []:=aH.nil _ _ _
 have fields:∀ (n:Nat) (a1:Act) (w1:World) (d1:Value) (bs1:Bs),n0<=n->bs1=(if kept then be 2 ver else[])->a1.tmps.size=ntmps->a1.defers=[]->a1.get 0=pt B 0->a1.get cx.ver=.int .i16 ver->(cx.hf=true->a1.get cx.fx=.bool (decide ((flex:Int)<=ver)))->a1.get 1=d1->Gr w.heap.size te aG w d1 bs1 w1 ->
   (gL (gwFds g cx fs nm.s++bJ g cx fs T kt nm++iY) n).2<=ntmps ->
   LW P (gwFds g cx fs nm.s++bJ g cx fs T kt nm++iY) n (Rt (fun a' w'=>a'.defers=[]/\∃ d',.returned (bj [4] a')=Ending.returned d'/\aH w' w.heap.size te d' (fU kept cx.hf flex fs ver (.st vs t))/\ac (fun _=>False) w w') (fun a' w'=>a'.defers=[]/\∃ d',.returned (bj [4] a')=Ending.returned d'/\aH w' w.heap.size te d' (fU kept cx.hf flex fs ver (.st vs t))/\ac (fun _=>False) w w')) a1 w1:=by
  intro n a1 w1 d1 bs1 hn KH G0 GS HS LH L0 Gv hgr H3
  rw[bc]at H3
  have Kr:(gL (gwFds g cx fs nm.s++bJ g cx fs T kt nm) n).2+1<=ntmps:=H3
  have Ho:=Gr.far HW hgr
  have hwc:WC cx (cx.hf&&decide ((flex:Int)<=ver)) ver te w.heap.size B 0 d1 bs1 a1 w1:=
   ⟨hgr.dst,Gv,by rw[Jn];exact HS,LH,fun hf=>by rw[L0 hf,hf];rfl,fun hf=>by rw[hf];rfl,hB,hgr.keeps.size⟩
  have Ux:mU cx (lm cx v6) n0:=⟨⟨by omega,by omega⟩,⟨VI.1,by omega⟩,⟨VI.2.1,by
   cases hh:cx.hf with
   | true=>have:=OL hh;omega
   | false=>rw[Ui hh];omega⟩,by omega,hM⟩
  have Qr:fU kept cx.hf flex fs ver (.st vs t)=bs1++(wrFds (cx.hf&&decide ((flex:Int)<=ver)) ver fs vs++fc (cx.hf&&decide ((flex:Int)<=ver)) (wrTgd (cx.hf&&decide ((flex:Int)<=ver)) ver fs vs) t):=by
   simp only[fU,V.fields,V.tags,KH]
  have Ib:=ay (upL_wfds g fs cx nm.s) (fX g cx fs T kt nm) n
  refine fj ?_
  rw[aV]
  refine Ax (wr_fds K0 fs) (Ar K0 fs) Hl JV hwc Ux Gw hn (by omega) (by omega) (hr.far Ho hB (Nat.le_refl _)) (ht.far Ho hB (Nat.le_refl _)) (by rw[<- List.length_append,<- Qr];exact hlim) fun a2 w2 d2 Gm G2 hgr2=>?_
  have G9:=Gm.size
  refine ad (au (ag (aj (wpList_nil (ad (.ret ⟨?_,d2,?_,?_,?_⟩))))))
  ·simp only[ai];rw[Gm.defers];exact GS
  ·show Ending.returned (Act.get _ 4)=_
   rw[am (by simp only[ab];omega),aa,am (by omega),aa,G2]
  ·rw[Qr];exact hgr2.dst
  ·exact(hgr.trans hgr2).keeps.mono fun k _ hk=>by simp[Value.ownBlock,aG]at hk
 have kpt:∀ (n:Nat) (a1:Act),n0<=n->a1.tmps.size=ntmps->a1.defers=[]->a1.get 0=pt B 0->a1.get cx.ver=.int .i16 ver->(cx.hf=true->a1.get cx.fx=.bool (decide ((flex:Int)<=ver)))->a1.get 1=aG ->
   (gL ((if kept then[gS [co 0 v6 T 0 g.tVer,bq (g.ap .i16) v6]] else[])++(gwFds g cx fs nm.s++bJ g cx fs T kt nm++iY)) n).2<=ntmps ->
   LW P ((if kept then[gS [co 0 v6 T 0 g.tVer,bq (g.ap .i16) v6]] else[])++(gwFds g cx fs nm.s++bJ g cx fs T kt nm++iY)) n (Rt (fun a' w'=>a'.defers=[]/\∃ d',.returned (bj [4] a')=Ending.returned d'/\aH w' w.heap.size te d' (fU kept cx.hf flex fs ver (.st vs t))/\ac (fun _=>False) w w') (fun a' w'=>a'.defers=[]/\∃ d',.returned (bj [4] a')=Ending.returned d'/\aH w' w.heap.size te d' (fU kept cx.hf flex fs ver (.st vs t))/\ac (fun _=>False) w w')) a1 w:=by
  intro n a1 hn G0 GS HS LH L0 Gv H3
  have MZ:=ay (ay (upL_wfds g fs cx nm.s) (fX g cx fs T kt nm)) (ae (aq 1 fun n=>[mk (some n) (.move (tm 1)),mk (some 4) (.assign (tm n))]) (ae (b7 .ret) ax))
  by_cases hk:kept=true
  ·obtain⟨h64,h6v,h6f⟩:=K2 hk
   rw[if_pos hk]at H3 ⊢
   have Ji:av .i16=true:=by rcases Nu with h|h;rw[hk]at h;cases h;exact h
   have Kr:(gL (gwFds g cx fs nm.s++bJ g cx fs T kt nm++iY) (n+4+3)).2<=ntmps:=H3
   have:=MZ (n+4+3)
   have hn7:n+4+3<=ntmps:=Nat.le_trans this Kr
   refine ad ?_
   rw[aV]
   refine bm (ad (im (x:=v6) (m:=n0) (k0:=n0) (off:=0) HS hF (by rw[Nat.zero_add];exact Gn) (.inl rfl) (Nat.le_refl _) hn (by omega) (by omega) fun a2 Gm G2=>?_))
   have G9:=Gm.size
   refine ad (pV (m:=n0) (k0:=n0) (L:=w.heap.size) (bs:=[]) (enc:=PF.wr .i16 (.n ver)) (K0.apE .i16 Ji) (K0.apC .i16 Ji w w.heap.size [.int .i16 ver] (.int .i16 ver) (.n ver) ⟨ver,rfl,rfl,JO⟩ rfl) (by rw[Gm.get 1 (by omega) (.inl (by omega))];exact Gv) G2 (by show v6<n+4;omega) HW (Nat.le_refl _) ?_ (Nat.le_refl _) (by show n0<=n+4;omega) (by show 1<n+4;omega) (by show n+4+3<=_;omega) fun a3 w3 d3 Gt GI hgr3=>?_)
   ·have:(PF.wr .i16 (.n ver)).length=2:=by simp[PF.wr,be]
    rw[this];decide
   have hp:∀ s,s<n0->s≠v6->s≠1->a3.get s=a1.get s:=fun s hs RU Gu=>by rw[Gt.get s Gu (.inl hs),Gm.get s RU (.inl hs)]
   refine bg (fields (n+4+3) a3 w3 d3 _ (by omega) (by rw[if_pos hk];rfl) (by rw[Gt.size,G9];exact G0) (by rw[Gt.defers,Gm.defers];exact GS) (by rw[hp 0 (by omega) (by omega) (by omega)];exact HS) (by rw[hp cx.ver (by omega) (by omega) (by omega)];exact LH)
    (fun hf=>by have:=OL hf;rw[hp cx.fx (by omega) (by omega) (by omega)];exact L0 hf) GI hgr3 Kr)
  ·rw[if_neg hk]at H3 ⊢
   exact fields n a1 w aG [] hn (by rw[if_neg hk]) G0 GS HS LH L0 Gv (Gr.refl HW) H3
 have hused':(gL (oe g kept cx T flex v6++(gwFds g cx fs nm.s++bJ g cx fs T kt nm++iY)) n0).2<=ntmps:=H3
 unfold gWrite
 refine bm ?_
 have e1:oe g kept cx T flex v6++(gwFds g cx fs nm.s++bJ g cx fs T kt nm++iY)=aU 4 (.slice none 0 0)::co 0 cx.ver T 0 g.tVer::aA 1 (fun n=>[mk (some n) (.move (tm cx.ver))]) ::
   ((if cx.hf then[aA 2 fun n=>[mk (some n) (.move (tm cx.ver)),mk (some (n+1)) (.binOp .geq g.tVer (tm n) (ki .i16 flex) 0),mk (some cx.fx) (.assign (tm (n+1)))],aA 1 fun n=>[mk (some n) (.move (tm cx.fx))]] else[]) ++
    ((if kept then[gS [co 0 v6 T 0 g.tVer,bq (g.ap .i16) v6]] else[])++(gwFds g cx fs nm.s++bJ g cx fs T kt nm++iY))):=by
  simp only[oe,List.cons_append,List.nil_append,List.append_assoc]
 rw[e1]at hused' ⊢
 have PM:(gL ((if cx.hf then[aA 2 fun n=>[mk (some n) (.move (tm cx.ver)),mk (some (n+1)) (.binOp .geq g.tVer (tm n) (ki .i16 flex) 0),mk (some cx.fx) (.assign (tm (n+1)))],aA 1 fun n=>[mk (some n) (.move (tm cx.fx))]] else[]) ++
    ((if kept then[gS [co 0 v6 T 0 g.tVer,bq (g.ap .i16) v6]] else[])++(gwFds g cx fs nm.s++bJ g cx fs T kt nm++iY))) (n0+4+1)).2<=ntmps:=hused'
 have LS:iM ((if kept then[gS [co 0 v6 T 0 g.tVer,bq (g.ap .i16) v6]] else[])++(gwFds g cx fs nm.s++bJ g cx fs T kt nm++iY)):=
  ay (dS (ae (eE (ae (aq _ _) (ae (aq _ _) ax))) ax) ax) (ay (ay (upL_wfds g fs cx nm.s) (fX g cx fs T kt nm)) (ae (aq _ _) (ae (b7 _) ax)))
 have VH:n0+4+1<=ntmps:=Nat.le_trans (ay (dS (ae (aq _ _) (ae (aq _ _) ax)) ax) LS _) PM
 refine ad (dH (x:=4) (m:=0) (k0:=0) (.inl rfl) (by omega) fun a1 Gk _=>?_)
 have Gu:=Gk.size
 refine ad (im (x:=cx.ver) (m:=n0) (k0:=n0) (off:=0) (by rw[Gk.get 0 (by omega) (.inr (by omega))];exact h0) hF (by rw[Nat.zero_add];exact Gn) (.inl rfl) (Nat.le_refl _) (by show n0<=n0+0;omega) (by show n0+0+4<=_;omega) (by omega) fun a2 Gm G2=>?_)
 have G9:=Gm.size
 refine ad (au (ag (wpList_nil ?_)))
 have hb:∀ s,s<n0->s≠4->s≠cx.ver->(a2.put (some (n0+0+4)) (a2.eval (tm cx.ver))).get s=a.get s:=fun s hs IP Jd=>by
  rw[ak (by omega),Gm.get s Jd (.inl hs),Gk.get s IP (.inr ⟨by omega,by omega⟩)]
 have Si:(a2.put (some (n0+0+4)) (a2.eval (tm cx.ver))).get cx.ver=.int .i16 ver:=by rw[ak (by omega)];exact G2
 have KH:(a2.put (some (n0+0+4)) (a2.eval (tm cx.ver))).tmps.size=ntmps:=by rw[ab,G9,Gu];exact hs
 have UA:(a2.put (some (n0+0+4)) (a2.eval (tm cx.ver))).defers=[]:=by rw[ai,Gm.defers,Gk.defers];exact hd
 show LW P _ (n0+0+4+1) _ (a2.put (some (n0+0+4)) (a2.eval (tm cx.ver))) w
 generalize a2.put (some (n0+0+4)) (a2.eval (tm cx.ver))=a3 at hb Si KH UA ⊢
 by_cases hf:cx.hf=true
 ·obtain⟨K6,KV⟩:=OL hf
  rw[if_pos hf]at PM ⊢
  have Kr:(gL ((if kept then[gS [co 0 v6 T 0 g.tVer,bq (g.ap .i16) v6]] else[])++(gwFds g cx fs nm.s++bJ g cx fs T kt nm++iY)) (n0+4+1+2+1)).2<=ntmps:=PM
  have hn8:=Nat.le_trans (LS _) Kr
  refine ad (au (ag ?_))
  rw[aa,Si]
  refine bt (b:=decide ((flex:Int)<=ver)) (p:=ver) (q:=flex) (k:=.i16) (by rw[aa,am (by omega)]) rfl (.inl ⟨rfl,rfl⟩) (aj (wpList_nil ?_))
  rw[aa,am (by simp only[ab];omega)]
  refine ad (au (ag (wpList_nil ?_)))
  refine kpt (n0+4+1+2+1) _ (by omega) (by simp only[ab];exact KH) (by simp only[ai];exact UA) ?_ ?_ (fun _=>?_) ?_ Kr
  ·rw[ak (by show(0:Nat)≠n0+0+4+1+2;omega),ak (by omega),ak (by omega),ak (by omega),hb 0 (by omega) (by omega) (by omega)];exact h0
  ·rw[ak (by show cx.ver≠n0+0+4+1+2;omega),ak (by omega),ak (by omega),ak (by omega)];exact Si
  ·rw[ak (by show cx.fx≠n0+0+4+1+2;omega),am (by simp only[ab];omega)]
  ·rw[ak (by show(1:Nat)≠n0+0+4+1+2;omega),ak (by omega),ak (by omega),ak (by omega),hb 1 (by omega) (by omega) (by omega)];exact h1
 ·rw[if_neg hf]at PM ⊢
  exact kpt (n0+4+1) a3 (by omega) KH UA ((hb 0 (by omega) (by omega) (by omega)).trans h0) Si (fun h=>absurd h hf) ((hb 1 (by omega) (by omega) (by omega)).trans h1) PM
end
section
variable {P:Program}
theorem dn (t:Nat)(a:Act):bj [t] a=a.get t:=rfl
theorem jc {ops:Array Oper}{Q:Exit->Act->World->Prop}{r:List Oper}{a:Act}{w:World}{d:Option Nat}{x:Operand}{i:Nat}{vs:Array Value}{v:Value}(hx:a.eval x=.tuple vs)(hv:vs[i]?=some v)(h:wpList P ops Q r (a.put d v) w):wpList P ops Q (mk d (.extract x i)::r) a w:=by
 refine aD ?_ h
 simp[execOp,mk,hx,Instr.extract,hv]
theorem xx {ops:Array Oper}{Q:Exit->Act->World->Prop}{r:List Oper}{a:Act}{w:World}{d:Option Nat}{x:Operand}{T:Nat}{ms:Array (String × TypeId)}{v:Value}{b:Bool}(hT:P.underlying T=some (.interface ms))(hx:a.eval x=v)(hv:(v=.nilIface/\b=false) \/ ((∃ t y,v=.iface t y)/\b=true))
  (h:wpList P ops Q r (a.put d (.bool b)) w):wpList P ops Q (mk d (.binOp .neq T x (.const .nilIface) 0)::r) a w:=by
 refine aD ?_ h
 have e2:a.eval (.const .nilIface)=.nilIface:=rfl
 have he:(eqGuard .neq T x (.const .nilIface) v .nilIface).run P w=.ok () w:=by
  rcases hv with⟨rfl,_⟩|⟨⟨t,y,rfl⟩,_⟩<;>simp[eqGuard]
 simp[execOp,mk,hx,e2,he,oX hT hv w]
theorem qv (hm:P.follows .mixedOrders=true){f nt T fD:Nat}{zv:Value}{wr:List (Nat × Value)}(hfn:FnIs P f nt [0] (cNewPtr T fD))(G8:3<=nt)(hz:zeroOf P T=some zv)(hE:Ent P fD)(hD:DfC P fD wr)(Hn:∀ p∈wr,p.1<zv.cells.size)(w:World) :
  Calls P f #[] w fun e w'=>e=.returned (pt w.heap.size 0)/\ac (fun _=>False) w w'/\w'.heap[w.heap.size]?=some (.cells (applyWr zv.cells 0 wr) T (0,0)):=by
 refine fb hm hfn (by simp) [] (by simp) fun a _ hs hd=>?_
 unfold cNewPtr
 refine az (au (aj (wpList_nil ?_)))
 refine az (au (ep (zeroOf_ok hz w) (wpList_nil ?_)))
 have hb:(w.alloc (.cells zv.cells T (0,0))).heap[w.heap.size]?=some (.cells zv.cells T (0,0)):=aB _ _
 refine az (au (aR (vs:=#[pt w.heap.size 0]) hE ?_ (hD _ w.heap.size 0 zv.cells T hb (fun p hp=>by simpa using Hn p hp)) fun e w' hR=>⟨_,hR.1,wpList_nil ?_⟩))
 ·simp only[List.map_cons,List.map_nil,aa]
  rw[am (by simp only[ab];omega)]
  rfl
 refine az (au (aj (wpList_nil (az (.ret ⟨?_,?_,?_,hR.2.2⟩)))))
 ·simp only[ai];exact hd
 ·rw[dn,am (by simp only[ab];omega),aa,ak (by omega),am (by simp only[ab];omega)]
  rfl
 ·have hk:ac (fun k=>w.heap.size<=k) w w':=(ac.alloc _ _ _).trans (hR.2.1.mono fun k _ hk=>by omega)
  exact hk.mono fun k hk hX=>by omega
theorem sO (hm:P.follows .mixedOrders=true){f nt T tI B te:Nat}{cur:Array Value}{x:Int}{w:World}(hfn:FnIs P f nt [] (cSetV T tI))(G8:8<=nt)(hF:bp P T 0 tI 0 false 1)(hB:w.heap[B]?=some (.cells cur te (0,0)))(h0:0<cur.size) :
  Calls P f #[pt B 0,.int .i16 x] w fun e w'=>e=.returned (.tuple #[])/\ac (·=B) w w'/\w'.heap[B]?=some (.cells (cur.setIfInBounds 0 (.int .i16 x)) te (0,0)):=by
 refine fb hm hfn (by simp) [pt B 0,.int .i16 x] (by simp;omega) fun a harg hs hd=>?_
 have g0:=harg 0 _ rfl
 have g1:=harg 1 _ rfl
 refine .reg (ag (ag ?_))
 rw[aa,g0,aa,ak (by omega),g1]
 refine aL (by rw[aa,ak (by omega),am (by omega)];rfl) ?_
 refine bR (by rw[aa,am (by simp only[ab];omega)]) hF ?_
 refine bw (g:=B) (o:=0) (cur:=cur) (t:=te) (v:=.int .i16 x) (vs:=[.int .i16 x]) (by rw[aa,am (by simp only[ab];omega)]) (by rw[aa,ak (by omega),ak (by omega),am (by simp only[ab];omega)]) rfl (hF.var.size w) hB (by simp only[List.length_cons,List.length_nil];omega) (by simp[Value.oneCell']) (wpList_nil ⟨?_,rfl,ac.setRow _ _ _ _ rfl,?_⟩)
 ·simp only[ai];exact hd
 ·rw[setRow_heap _ _ _ _ _ _ hB,il h0]
theorem tJ (hm:P.follows .mixedOrders=true){f nt:Nat}{k:Int}{x:Value}{w:World}(hfn:FnIs P f nt [2] (cMaxV k))(G8:3<=nt):Calls P f #[x] w fun e w'=>e=.returned (.int .i16 k)/\ac (fun _=>False) w w':=by
 refine fb hm hfn (by simp) [x] (by simp;omega) fun a harg hs hd=>?_
 refine az (au (aj (wpList_nil (az (au (aj (wpList_nil (az (.ret ⟨?_,?_,ac.refl _ _⟩)))))))))
 ·simp only[ai];exact hd
 ·rw[dn,am (by simp only[ab];omega)]
  rfl
theorem wD (hm:P.follows .mixedOrders=true){f nt tI16 tInt f1 f2:Nat}{k:Nat}{x:Value}{w:World}(hI:P.underlying tI16=some (.int .i16))(Jz:P.underlying tInt=some (.int .i64))(hk:k<32768)(hfn:FnIs P f nt [0] (cMax tI16 tInt f1 f2))(G8:4<=nt)
  (h1E:Ent P f1) (h1:Calls P f1 #[] w fun e w'=>e=.returned x/\ac (fun _=>False) w w') (h2E:Ent P f2) (h2:∀ w,Calls P f2 #[x] w fun e w'=>e=.returned (.int .i16 (k:Int))/\ac (fun _=>False) w w'):Calls P f #[] w fun e w'=>e=.returned (.int .i64 (k:Int))/\ac (fun _=>False) w w':=by
 refine fb hm hfn (by simp) [] (by simp) fun a _ hs hd=>?_
 refine az (au (aj (wpList_nil (az (au ?_)))))
 refine aR (vs:=#[]) h1E rfl h1 fun e w1 hR1=>⟨_,hR1.1,?_⟩
 refine aR (vs:=#[x]) h2E ?_ (h2 w1) fun e w2 HP=>⟨_,HP.1,?_⟩
 ·simp only[List.map_cons,List.map_nil,aa]
  rw[am (by simp only[ab];omega)]
 refine aT (k:=.i16) (k':=.i64) (m:=(k:Int)) (by rw[aa,am (by simp only[ab];omega)]) hI Jz ?_
 have hw:IntKind.i64.wrap (k:Int)=(k:Int):=by simp[IntKind.wrap,IntKind.bits,IntKind.signed];omega
 rw[hw]
 refine aj (wpList_nil (az (.ret ⟨?_,?_,hR1.2.trans HP.2⟩)))
 ·simp only[ai];exact hd
 ·rw[dn,am (by simp only[ab];omega),aa,am (by simp only[ab];omega)]
theorem wo (hm:P.follows .mixedOrders=true){f nt f2:Nat}{x y:Value}{w:World}{RR:Value->World->Prop}(hfn:FnIs P f nt [4] (cRdF f2))(G8:8<=nt)(hE:Ent P f2)(h:Calls P f2 #[x,y,.bool false] w fun e w'=>∃ v,e=.returned v/\RR v w'):Calls P f #[x,y] w fun e w'=>∃ v,e=.returned v/\RR v w':=by
 refine fb hm hfn (by simp) [x,y] (by simp;omega) fun a harg hs hd=>?_
 have g0:=harg 0 _ rfl
 have g1:=harg 1 _ rfl
 refine az (au (aj (wpList_nil (az (au (ag (ag ?_)))))))
 refine aR (vs:=#[x,y,.bool false]) hE ?_ h fun e w1 hR=>?_
 ·simp only[List.map_cons,List.map_nil,aa]
  rw[ak (by omega),am (by simp only[ab];omega),ak (by omega),g0,am (by simp only[ab];omega),ak (by omega),ak (by omega),g1]
  rfl
 obtain⟨v,he,hv⟩:=hR
 refine⟨v,he,aj (wpList_nil (az (.ret ⟨?_,v,?_,hv⟩)))⟩
 ·simp only[ai];exact hd
 ·rw[dn,am (by simp only[ab];omega),aa,am (by simp only[ab];omega)]
theorem AP {k:IntKind}{A:Nat}{x y:Int}(hy:y≠0)(w:World):(binOp .rem A (.int k x) (.int k y)).run P w=.ok (.int k (x.tmod y)) w:=by
 simp[binOp,Op.intDiv,hy]
theorem vI (hm:P.follows .mixedOrders=true){f nt tU8 tInt x most:Nat}{w:World}(h8:P.underlying tU8=some (.int .u8))(Jz:P.underlying tInt=some (.int .i64))(hx:x<256)(I1:most<32768)(hfn:FnIs P f nt [4] (cVer tU8 tInt))(G8:10<=nt) :
  Calls P f #[.int .u8 x,.int .i64 most] w fun e w'=>e=.returned (.int .i64 ((x%(most+1):Nat):Int))/\ac (fun _=>False) w w':=by
 refine fb hm hfn (by simp) [.int .u8 x,.int .i64 most] (by simp;omega) fun a harg hs hd=>?_
 have g0:=harg 0 _ rfl
 have g1:=harg 1 _ rfl
 refine az (au (aj (wpList_nil (az (au (ag ?_))))))
 rw[aa,ak (by omega),g0]
 refine aT (k:=.u8) (k':=.i64) (m:=x) (by rw[aa,am (by simp only[ab];omega)]) h8 Jz (ag ?_)
 have hw:IntKind.i64.wrap (x:Int)=(x:Int):=by simp[IntKind.wrap,IntKind.bits,IntKind.signed];omega
 rw[hw,aa,ak (by omega),ak (by omega),ak (by omega),g1]
 have Ik:IntKind.i64.wrap ((most:Int)+1)=((most+1:Nat):Int):=by simp[IntKind.wrap,IntKind.bits,IntKind.signed];omega
 refine cE (k:=.i64) (m:=most) (n:=1) (v:=.int .i64 ((most+1:Nat):Int)) (by rw[aa,am (by simp only[ab];omega)]) rfl (by simp) (by simp[binOp,Op.intArith,Ik]) ?_
 have Ta:(binOp .rem tInt (.int .i64 (x:Int)) (.int .i64 ((most+1:Nat):Int))).run P w=.ok (.int .i64 ((x%(most+1):Nat):Int)) w:=by
  have h1:=AP (P:=P) (k:=.i64) (A:=tInt) (x:=(x:Int)) (y:=((most+1:Nat):Int)) (by omega) w
  have h2:(x:Int).tmod ((most+1:Nat):Int)=((x%(most+1):Nat):Int):=(Int.ofNat_tmod x (most+1)).symm
  rw[h2]at h1
  exact h1
 refine cE (k:=.i64) (m:=x) (n:=((most+1:Nat):Int)) (by rw[aa,ak (by omega),ak (by omega),am (by simp only[ab];omega)]) (by rw[aa,am (by simp only[ab];omega)]) (by simp) Ta ?_
 refine aj (wpList_nil (az (.ret ⟨?_,?_,ac.refl _ _⟩)))
 ·simp only[ai];exact hd
 ·rw[dn,am (by simp only[ab];omega),aa,am (by simp only[ab];omega)]
theorem m7 {tSl te tx ty:Nat}(ot:OctT P tSl te){x:Value}{w:World}(hs:Src P 1 tx x 0 [] w):(Builtin.append_ #[tSl,tx] ty #[aG,x]).run P w=.ok aG w:=by
 obtain⟨i,z,hi,hz,G0,L5,IE⟩:=ot.info
 have ht:=ot.und
 have h1:=hs.len
 have h2:=hs.cells
 rcases hs.kind with⟨e',hk⟩|hk<;>simp[aG,Builtin.append_,run_underlying ht,run_underlying hk,sizeOf,typeInfo,hi,G0,h1,h2]
end
section
variable {P:Program} {te:Nat}
theorem cO.form {w:World}{X:Nat->Prop}{v:Value}{l:Bs}(h:cO w X v l):∃ base c,v=.slice base l.length c/\(l=[] \/ ∃ b o,base=some ⟨b,o,none⟩/\fP w b o l):=by
 rcases h with⟨rfl,rfl⟩|⟨b,o,c,rfl,_,_,_,_,ho⟩
 ·exact⟨none,0,rfl,.inl rfl⟩
 ·exact⟨some ⟨b,o,none⟩,c,rfl,.inr ⟨b,o,rfl,ho⟩⟩
theorem nE (hm:P.follows .mixedOrders=true){f nt tSl tU8 tInt:Nat}(ot:OctT P tSl tU8)(h8:bd P tU8 false 1)(hfn:FnIs P f nt [4] (cSame tSl tU8 tInt))(G8:26<=nt){w:World}{X:Nat->Prop}{va vb:Value}{la lb:Bs}(ha:cO w X va la)(hb:cO w X vb lb)(Ml:la.length<=maxLen) :
  Calls P f #[va,vb] w fun e w'=>e=.returned (.bool (decide (la=lb)))/\ac (fun _=>False) w w':=by
 obtain⟨ba,ca,rfl,hoa⟩:=ha.form
 obtain⟨bb,cb,rfl,hob⟩:=hb.form
 refine fb hm hfn (by simp) [_,_] (by simp;omega) fun a harg hs hd=>?_
 have g0:=harg 0 _ rfl
 have g1:=harg 1 _ rfl
 have retF:∀ (a1:Act) (w1:World) (N:Act->World->Prop) (b:Bool),a1.tmps.size=nt->a1.defers=[]->ac (fun _=>False) w w1->b=decide (la=lb)->aQ P (CB b) (Rt N (fun a' w'=>a'.defers=[]/\(Ending.returned (bj [4] a')=.returned (.bool (decide (la=lb)))/\ac (fun _=>False) w w'))) a1 w1:=by
  intro a1 w1 N b Gu Jg hk HZ
  refine az (cs:=[.ret]) (au (aj (wpList_nil (.ret ⟨?_,?_,hk⟩))))
  ·simp only[ai];exact Jg
  ·rw[dn,am (by omega),HZ]
   rfl
 unfold cSame
 refine az (au (aj (wpList_nil ?_)))
 refine az ?_
 rw[aV]
 have G3:∀ (b:Bool),b=decide (la.length≠lb.length)->∀ (Y:Act->World->Prop) (E:Act->World->Prop),(∀ a1,a1.get 10=.bool b->a1.get 0=.slice ba la.length ca->a1.get 1=.slice bb lb.length cb->a1.tmps.size=nt->a1.defers=[]->Y a1 w) ->
   aQ P (rg [mk (some 6) (.move (tm 0)),bi (some 7) .len [tm 6] [tSl] tInt,mk (some 8) (.move (tm 1)),bi (some 9) .len [tm 8] [tSl] tInt,mk (some 10) (.binOp .neq tInt (tm 7) (tm 9) 0)]) (Rt Y E) (a.put (some 4) (Act.eval a (.const (.bool false)))) w:=by
  intro b HZ Y E hY
  refine .reg (ag ?_)
  rw[aa,ak (by omega),g0]
  refine en (base:=ba) (n:=la.length) (c:=ca) (by rw[aa,am (by simp only[ab];omega)]) ot.und (ag ?_)
  rw[aa,ak (by omega),ak (by omega),ak (by omega),g1]
  refine en (base:=bb) (n:=lb.length) (c:=cb) (by rw[aa,am (by simp only[ab];omega)]) ot.und ?_
  refine bt (b:=b) (p:=la.length) (q:=lb.length) (k:=.i64) (by rw[aa,ak (by omega),ak (by omega),am (by simp only[ab];omega)]) (by rw[aa,am (by simp only[ab];omega)]) (.inr (.inr (.inr (.inr (.inr ⟨rfl,by rw[HZ];exact decide_eq_decide.2 (by omega)⟩))))) (wpList_nil (hY _ ?_ ?_ ?_ ?_ ?_))
  ·rw[am (by simp only[ab];omega)]
  ·rw[ak (by omega),ak (by omega),ak (by omega),ak (by omega),ak (by omega),ak (by omega)];exact g0
  ·rw[ak (by omega),ak (by omega),ak (by omega),ak (by omega),ak (by omega),ak (by omega)];exact g1
  ·simp only[ab];exact hs
  ·simp only[ai];exact hd
 by_cases Ie:la.length≠lb.length
 ·refine .seq (G3 true (by simp[Ie]) _ _ fun a1 Iz _ _ Gu Jg=>?_) (fun a1 w1 hh=>hh) (fun e a w he hq=>by cases e<;>first|exact absurd rfl he|exact hq|exact hq.elim)
  refine .condT Iz (retF a1 w _ false Gu Jg (ac.refl _ _) ?_)
  have:la≠lb:=fun h=>Ie (by rw[h])
  simp[this]
 have Gp:la.length=lb.length:=by omega
 refine .seq (G3 false (by simp[Gp]) _ _ fun a1 Iz e0 e1 Gu Jg=>?_) (fun a1 w1 hh=>hh) (fun e a w he hq=>by cases e<;>first|exact absurd rfl he|exact hq|exact hq.elim)
 refine .condF Iz (.skip (az ?_))
 rw[aV]
 refine .seq (R:=Rt (fun a2 w2=>a2.get 0=.slice ba la.length ca/\a2.get 1=.slice bb lb.length cb/\a2.get 12=.int .i64 (la.length:Int)/\a2.get 13=.int .i64 ((0:Nat):Int)/\a2.tmps.size=nt/\a2.defers=[]/\w2=w) fun _ _=>False) (.reg (ag ?_)) (fun a2 w2 hh=>?_) (fun e a w he hq=>by cases e<;>first|exact absurd rfl he|exact hq.elim)
 ·rw[aa,e0]
  refine en (base:=ba) (n:=la.length) (c:=ca) (by rw[aa,am (by omega)]) ot.und (ag (wpList_nil ⟨?_,?_,?_,?_,?_,?_,rfl⟩))
  ·rw[ak (by omega),ak (by omega),ak (by omega)];exact e0
  ·rw[ak (by omega),ak (by omega),ak (by omega)];exact e1
  ·rw[ak (by omega),am (by simp only[ab];omega)]
  ·rw[am (by simp only[ab];omega)];rfl
  ·simp only[ab];exact Gu
  ·simp only[ai];exact Jg
 obtain⟨e0,e1,e12,e13,G9,H7,rfl⟩:=hh
 refine .block (.loop (fun a3 w3=>∃ j:Nat,j<=la.length/\a3.get 0=.slice ba la.length ca/\a3.get 1=.slice bb lb.length cb/\a3.get 12=.int .i64 (la.length:Int)/\a3.get 13=.int .i64 (j:Int)/\a3.tmps.size=nt/\a3.defers=[]/\ac (fun _=>False) w2 w3/\la.take j=lb.take j)
  (fun a3 _=>((la.length:Int)-(match a3.get 13 with|.int _ q=>q|_=>0)).toNat) ⟨0,by omega,e0,e1,e12,e13,G9,H7,ac.refl _ _,by simp⟩ ?_)
 rintro a3 w3 ⟨j,hj,f0,f1,f12,f13,Hh,H6,Gx,JA⟩
 have LX:∀ (b:Bool) (E:Act->World->Prop),b=decide ((j:Int)<(la.length:Int))->aQ P (rg [mk (some 14) (.binOp .lss tInt (tm 13) (tm 12) 0)]) (Rt (fun a' w'=>a'.get 14=.bool b/\a'=a3.put (some 14) (.bool b)/\w'=w3) E) a3 w3:=by
  intro b E HZ
  refine .reg (bt (b:=b) (p:=j) (q:=la.length) (k:=.i64) f13 f12 (.inr (.inr (.inl ⟨rfl,HZ⟩))) (wpList_nil ⟨am (by omega),rfl,rfl⟩))
 by_cases Gq:j<la.length
 ·refine .seq (LX true _ (by simp[Gq])) (fun a4 w4 hh=>?_) (fun e a w he hq=>by cases e<;>first|exact absurd rfl he|exact hq|exact hq.elim)
  obtain⟨Kj,rfl,rfl⟩:=hh
  refine .seq (R:=Rt (fun a' w'=>a'=a3.put (some 14) (.bool true)/\w'=w4) fun _ _=>False) (.condT Kj (.skip ⟨rfl,rfl⟩)) (fun a5 w5 hh=>?_) (fun e a w he hq=>by cases e<;>first|exact absurd rfl he|exact hq.elim)
  obtain⟨rfl,rfl⟩:=hh
  refine .seq (R:=Rt (fun a6 w6=>a6.get 0=.slice ba la.length ca/\a6.get 1=.slice bb lb.length cb/\a6.get 12=.int .i64 (la.length:Int)/\a6.get 13=.int .i64 (j:Int)/\a6.tmps.size=nt/\a6.defers=[]/\ac (fun _=>False) w2 w6/\la.take (j+1)=lb.take (j+1)) (fun a' w'=>a'.defers=[]/\(Ending.returned (bj [4] a')=.returned (.bool (decide (la=lb)))/\ac (fun _=>False) w2 w')))
   (.block ?_) (fun a6 w6 hh=>?_) (fun e a w he hq=>by cases e<;>first|exact absurd rfl he|exact hq|exact hq.elim)
  ·-- the round
   refine .seq (R:=Rt (fun a6 w6=>a6.get 0=.slice ba la.length ca/\a6.get 1=.slice bb lb.length cb/\a6.get 12=.int .i64 (la.length:Int)/\a6.get 13=.int .i64 (j:Int)/\a6.get 5=.int .i64 (j:Int)/\a6.tmps.size=nt/\a6.defers=[]/\w6=w5) fun _ _=>False) (.reg (ag ?_)) (fun a6 w6 hh=>?_) (fun e a w he hq=>by cases e<;>first|exact absurd rfl he|exact hq.elim)
   ·rw[aa,ak (by omega),f13]
    refine aj (wpList_nil ⟨?_,?_,?_,?_,?_,?_,?_,rfl⟩)
    ·rw[ak (by omega),ak (by omega),ak (by omega)];exact f0
    ·rw[ak (by omega),ak (by omega),ak (by omega)];exact f1
    ·rw[ak (by omega),ak (by omega),ak (by omega)];exact f12
    ·rw[ak (by omega),ak (by omega),ak (by omega)];exact f13
    ·rw[am (by simp only[ab];omega),aa,am (by simp only[ab];omega)]
    ·simp only[ab];exact Hh
    ·simp only[ai];exact H6
   obtain⟨k0,k1,k12,k13,k5,RU,Ny,rfl⟩:=hh
   have HG:dW (pU tSl tU8)=[false,false,false,false,false,false,false,false,false]:=by kernel_rfl
   obtain⟨xa,RL⟩:∃ x,la[j]?=some x:=⟨la[j],List.getElem?_eq_getElem Gq⟩
   obtain⟨xb,Sz⟩:∃ x,lb[j]?=some x:=⟨lb[j]'(by omega),List.getElem?_eq_getElem (by omega)⟩
   have UI:la≠[]:=fun h=>by rw[h]at Gq;simp at Gq
   have U8:lb≠[]:=fun h=>by rw[Gp,h]at Gq;simp at Gq
   obtain⟨pa,oa,rfl,Tq⟩:=hoa.resolve_left UI
   obtain⟨pb,ob,rfl,Tp⟩:=hob.resolve_left U8
   have hca:∀ w':World,w'.heap=w6.heap->w'.cell? ⟨pa,oa+j*1,none⟩=some (.int .u8 (xa.toNat:Int)):=fun w' hw=>by
    have h1:=Gx.cell id (Tq j xa RL)
    rw[Nat.mul_one]
    simpa[World.cell?,hw]using h1
   have hcb:∀ w':World,w'.heap=w6.heap->w'.cell? ⟨pb,ob+j*1,none⟩=some (.int .u8 (xb.toNat:Int)):=fun w' hw=>by
    have h1:=Gx.cell id (Tp j xb Sz)
    rw[Nat.mul_one]
    simpa[World.cell?,hw]using h1
   refine .seq (R:=Rt (fun a7 w7=>a7.get 24=.bool (decide (xa≠xb))/\a7.get 0=.slice (some ⟨pa,oa,none⟩) la.length ca/\a7.get 1=.slice (some ⟨pb,ob,none⟩) lb.length cb/\a7.get 12=.int .i64 (la.length:Int)/\a7.get 13=.int .i64 (j:Int)/\a7.tmps.size=nt/\a7.defers=[]/\w7=w6.drew) fun _ _=>False) (.drw (fun w'=>w'.heap=w6.heap) ?_) (fun a7 w7 hh=>?_) (fun e a w he hq=>by cases e<;>first|exact absurd rfl he|exact hq.elim)
   ·rw[HG]
    show gn P _ (pU tSl tU8) a6 fun af=>eK P _ _ [] af w6.drew
    refine fO (fO ?_)
    rw[aa,k0,aa,ak (by omega),k5]
    refine iu (b:=pa) (o:=oa) (m:=la.length) (c:=ca) (i:=j) (k:=.i64) (sz:=1) (by rw[aa,ak (by omega),am (by omega)]) (by rw[aa,am (by simp only[ab];omega)]) Gq ot.und h8.size ?_
    refine eQ (p:=⟨pa,oa+j*1,none⟩) (v:=.int .u8 (xa.toNat:Int)) (by rw[aa,am (by simp only[ab];omega)]) h8.agg hca (fO (fO ?_))
    rw[aa,ak (by omega),ak (by omega),ak (by omega),ak (by omega),k1,aa,ak (by omega),ak (by omega),ak (by omega),ak (by omega),ak (by omega),k5]
    refine iu (b:=pb) (o:=ob) (m:=lb.length) (c:=cb) (i:=j) (k:=.i64) (sz:=1) (by rw[aa,ak (by omega),am (by simp only[ab];omega)]) (by rw[aa,am (by simp only[ab];omega)]) (by omega) ot.und h8.size ?_
    refine eQ (p:=⟨pb,ob+j*1,none⟩) (v:=.int .u8 (xb.toNat:Int)) (by rw[aa,am (by simp only[ab];omega)]) h8.agg hcb ?_
    refine qC (k:=.u8) (k2:=.u8) (m:=(xa.toNat:Int)) (m2:=(xb.toNat:Int)) (v:=.bool (decide (xa≠xb))) ?_ ?_ ?_ ⟨rfl,?_,?_,?_,?_,?_,?_,?_,rfl⟩
    ·rw[aa,ak (by omega),ak (by omega),ak (by omega),ak (by omega),am (by simp only[ab];omega)]
    ·rw[aa,am (by simp only[ab];omega)]
    ·intro w'
     refine i5 (.inr (.inr (.inr (.inr (.inr ⟨rfl,?_⟩)))))
     have:xa≠xb ↔ (xa.toNat:Int)≠(xb.toNat:Int):=by
      rw[Ne,Ne,UInt8.toNat_inj.symm];omega
     simp only[this]
    ·rw[am (by simp only[ab];omega)]
    ·iterate 9 rw[ak (by omega)]
     exact k0
    ·iterate 9 rw[ak (by omega)]
     exact k1
    ·iterate 9 rw[ak (by omega)]
     exact k12
    ·iterate 9 rw[ak (by omega)]
     exact k13
    ·simp only[ab];exact RU
    ·simp only[ai];exact Ny
   ·obtain⟨Sv,l0,l1,l12,l13,PU,P5,rfl⟩:=hh
    have NG:ac (fun _=>False) w2 w6.drew:=Gx.trans (ac.drew _ _)
    have hta:la.take (j+1)=la.take j++[xa]:=by rw[List.take_add_one,RL];rfl
    have KC:lb.take (j+1)=lb.take j++[xb]:=by rw[List.take_add_one,Sz];rfl
    by_cases hxx:xa=xb
    ·refine .condF (by rw[aa,Sv];simp[hxx]) (.skip ?_)
     exact⟨l0,l1,l12,l13,PU,P5,NG,by rw[hta,KC,JA,hxx]⟩
    ·refine .condT (by rw[aa,Sv];simp[hxx]) (.mono (retF a7 w6.drew (fun _ _=>False) false PU P5 NG ?_) fun e a w hq=>by cases e<;>first|exact hq|exact hq.elim)
     have:la≠lb:=fun h=>by rw[h,Sz]at RL;exact hxx (Option.some.inj RL).symm
     simp[this]
  ·obtain⟨l0,l1,l12,l13,PU,P5,NG,ht7⟩:=hh
   have Hn:IntKind.i64.wrap ((j:Int)+1)=((j+1:Nat):Int):=by simp only[maxLen]at Ml;simp[IntKind.wrap,IntKind.bits,IntKind.signed];omega
   refine .reg (cE (v:=.int .i64 ((j+1:Nat):Int)) (k:=.i64) (m:=j) (n:=1) l13 rfl (by simp) (by simp[binOp,Op.intArith,Hn]) (ag (wpList_nil ?_)))
   rw[aa,am (by omega)]
   have hg:((a6.put (some 25) (.int .i64 ((j+1:Nat):Int))).put (some 13) (.int .i64 ((j+1:Nat):Int))).get 13=.int .i64 ((j+1:Nat):Int):=am (by simp only[ab];omega)
   refine⟨⟨j+1,by omega,?_,?_,?_,hg,by simp only[ab];exact PU,by simp only[ai];exact P5,NG,ht7⟩,?_⟩
   ·rw[ak (by omega),ak (by omega)];exact l0
   ·rw[ak (by omega),ak (by omega)];exact l1
   ·rw[ak (by omega),ak (by omega)];exact l12
   ·rw[hg,f13]
    simp only
    omega
 ·have I6:j=la.length:=by omega
  subst I6
  refine .seq (LX false _ (by simp)) (fun a4 w4 hh=>?_) (fun e a w he hq=>by cases e<;>first|exact absurd rfl he|exact hq|exact hq.elim)
  obtain⟨Kj,rfl,rfl⟩:=hh
  refine .seq (R:=fun e a w=>e≠.normal/\Exit.inBlock 0 (Rt (fun a' w'=>a'.tmps.size=nt/\a'.defers=[]/\ac (fun _=>False) w2 w') fun _ _=>False) e a w) (.condF Kj (.exit ?_)) (fun a2 w2 hh=>absurd rfl hh.1) (fun e a w he hq=>?_)
  ·simp only[Exit.inBlock,if_true]
   exact⟨by simp,by simp only[ab];exact Hh,by simp only[ai];exact H6,Gx⟩
  ·rw[cA he]
   have JS:=hq.2
   cases e with
   | normal=>exact absurd rfl he
   | exit i=>
    simp only[Exit.inBlock]at JS ⊢
    split at JS
    ·rename_i hi
     rw[if_pos hi]
     obtain⟨Nd,LK,HC⟩:=JS
     refine az (au (aj (wpList_nil (.ret ⟨?_,?_,HC⟩))))
     ·simp only[ai];exact LK
     ·rw[dn,am (by omega)]
      have:la=lb:=by
       rw[List.take_length]at JA
       rw[JA,Gp,List.take_length]
      simp[this]
      rfl
    ·exact JS.elim
   | _=>exact JS.elim
end
section
variable {P:Program}
def AgC (P:Program)(fA:Nat)(gErr:Nat)(out:Int->Bs->Option Bs)(okIn:Int->Bs->Prop):Prop:=
 ∀ (w:World) (x:Int) (srcv:Value) (l:Bs),cO w (fun _=>False) srcv l->ErrAt gErr w->okIn x l->Calls P fA #[.int .i64 x,srcv] w fun e w'=>∃ y b,e=.returned (.tuple #[y,.bool b])/\ac (fun _=>False) w w' /\
   (out x l=none->b=false/\y=aG)/\(∀ bs,out x l=some bs->b=true/\cO w' (fun _=>False) y bs)
end
structure St (n:Nat)(a:Act)(l:List (Nat × Value)):Prop where
 size:a.tmps.size=n
 defers:a.defers=[]
 get:∀ i v,l.lookup i=some v->a.get i=v
def Hd (l:List (Nat × Value))(x:Operand)(v:Value):Prop:=∀ (n:Nat) (a:Act),St n a l->a.eval x=v
section
variable {P:Program} {ops:Array Oper} {Q:Exit->Act->World->Prop} {r:List Oper} {n:Nat} {a:Act} {w:World} {l:List (Nat × Value)}
theorem Hd.t {i:Nat}{v:Value}(h:l.lookup i=some v):Hd l (tm i) v:=fun _ _ hs=>hs.get i v h
theorem Hd.c {v:Value}:Hd l (.const v) v:=fun _ _ _=>rfl
theorem Hd.i {k:IntKind}{x:Int}:Hd l (ki k x) (.int k x):=fun _ _ _=>rfl
theorem St.put (h:St n a l){d:Nat}(v:Value)(hd:d<n):St n (a.put (some d) v) ((d,v)::l):=by
 refine⟨by rw[ab];exact h.size,by rw[ai];exact h.defers,fun i x hx=>?_⟩
 simp only[List.lookup_cons]at hx
 by_cases hi:i=d
 ·subst hi
  simp only[beq_self_eq_true]at hx
  rw[am (by rw[h.size];exact hd)]
  exact Option.some.inj hx
 ·have:(i==d)=false:=by simp[hi]
  rw[this]at hx
  rw[ge _ _ _ _ hi]
  exact h.get i x hx
theorem St.sub (h:St n a l)(m:List (Nat × Value))(hm:∀ p∈m,l.lookup p.1=some p.2):St n a m:=by
 refine⟨h.size,h.defers,fun i v hv=>h.get i v ?_⟩
 have:(i,v)∈m:=by
  clear hm
  induction m with
  | nil=>cases hv
  | cons p m ih=>
   obtain⟨q,u⟩:=p
   simp only[List.lookup_cons]at hv
   by_cases hi:i=q
   ·subst hi
    simp only[beq_self_eq_true]at hv
    rw[<- Option.some.inj hv]
    exact List.mem_cons_self ..
   ·have:(i==q)=false:=by simp[hi]
    rw[this]at hv
    exact List.mem_cons_of_mem _ (ih hv)
 exact hm (i,v) this
def Gb (l:List (Nat × Value)):List (Nat × Value)->Prop
 | []=>True
 | p::m=>l.lookup p.1=some p.2/\Gb l m
theorem St.pick (h:St n a l){m:List (Nat × Value)}(hm:Gb l m):St n a m:=h.sub m (by
 induction m with
 | nil=>intro p hp;cases hp
 | cons q m ih=>
  intro p hp
  rcases List.mem_cons.1 hp with rfl|hp
  ·exact hm.1
  ·exact ih hm.2 p hp)
theorem al (h:St n a l){d:Nat}{x:Operand}{v:Value}(hx:Hd l x v)(hd:d<n)(k:∀ a',St n a' ((d,v)::l)->wpList P ops Q r a' w):wpList P ops Q (mk (some d) (.move x)::r) a w:=
 ag (k _ (by rw[hx n a h];exact h.put v hd))
theorem ah (h:St n a l){d:Nat}{x:Operand}{v:Value}(hx:Hd l x v)(hd:d<n)(k:∀ a',St n a' ((d,v)::l)->wpList P ops Q r a' w):wpList P ops Q (mk (some d) (.assign x)::r) a w:=
 aj (k _ (by rw[hx n a h];exact h.put v hd))
def aO:BinOp->Int->Int->Bool
 | .geq,p,q=>decide (q<=p)
 | .leq,p,q=>decide (p<=q)
 | .lss,p,q=>decide (p<q)
 | .gtr,p,q=>decide (q<p)
 | .eql,p,q=>decide (p=q)
 | _,p,q=>decide (p≠q)
def rV (o:BinOp):Bool:=match o with|.geq|.leq|.lss|.gtr|.eql|.neq=>true|_=>false
theorem qG {o:BinOp}(h:rV o=true)(p q:Int):(o=.geq/\aO o p q=decide (q<=p)) \/ (o=.leq/\aO o p q=decide (p<=q)) \/ (o=.lss/\aO o p q=decide (p<q)) \/ (o=.gtr/\aO o p q=decide (q<p)) \/ (o=.eql/\aO o p q=decide (p=q)) \/ (o=.neq/\aO o p q=decide (p≠q)):=by
 cases o<;>simp[rV]at h<;>simp[aO]
theorem aZ (h:St n a l){d:Nat}{x y:Operand}{o:BinOp}{T:Nat}{k:IntKind}{p q:Int}(ho:rV o=true)(hx:Hd l x (.int k p))(hy:Hd l y (.int k q))(hd:d<n)(c:∀ a',St n a' ((d,.bool (aO o p q))::l)->wpList P ops Q r a' w) :
  wpList P ops Q (mk (some d) (.binOp o T x y 0)::r) a w:=
 bt (hx n a h) (hy n a h) (qG ho p q) (c _ (h.put _ hd))
theorem cK (h:St n a l){d:Nat}{x y:Operand}{o:BinOp}{T:Nat}{k:IntKind}{p q:Int}{v:Value}(hx:Hd l x (.int k p))(hy:Hd l y (.int k q))(ho:o≠.shl/\o≠.shr)(GF:(binOp o T (.int k p) (.int k q)).run P w=.ok v w)(hd:d<n)(c:∀ a',St n a' ((d,v)::l)->wpList P ops Q r a' w) :
  wpList P ops Q (mk (some d) (.binOp o T x y 0)::r) a w:=
 cE (hx n a h) (hy n a h) ho GF (c _ (h.put _ hd))
theorem cY {k:IntKind}{A:Nat}{x y:Int}(w:World):(binOp .add A (.int k x) (.int k y)).run P w=.ok (.int k (k.wrap (x+y))) w:=by simp[binOp,Op.intArith]
theorem jF {k:IntKind}{A:Nat}{x y:Int}(w:World):(binOp .sub A (.int k x) (.int k y)).run P w=.ok (.int k (k.wrap (x-y))) w:=by simp[binOp,Op.intArith]
theorem yp {k:IntKind}{A:Nat}{x y:Int}(w:World):(binOp .mul A (.int k x) (.int k y)).run P w=.ok (.int k (k.wrap (x*y))) w:=by simp[binOp,Op.intArith]
theorem eT (h:St n a l){d:Nat}{x:Operand}{S T:Nat}{k k':IntKind}{m:Int}(hx:Hd l x (.int k m))(hS:P.underlying S=some (.int k))(hT:P.underlying T=some (.int k'))(hd:d<n)(c:∀ a',St n a' ((d,.int k' (k'.wrap m))::l)->wpList P ops Q r a' w) :
  wpList P ops Q (mk (some d) (.convert S T x)::r) a w:=aT (hx n a h) hS hT (c _ (h.put _ hd))
theorem pS (h:St n a l){d:Nat}{x:Operand}{T:Nat}{b:Bool}(hx:Hd l x (.bool b))(hd:d<n)(c:∀ a',St n a' ((d,.bool !b)::l)->wpList P ops Q r a' w) :
  wpList P ops Q (mk (some d) (.unOp .not T x)::r) a w:=nk (hx n a h) (c _ (h.put _ hd))
theorem cC (h:St n a l){d:Nat}{x y z:Operand}{b:Bool}{u v:Value}(hx:Hd l x (.bool b))(hy:Hd l y u)(hz:Hd l z v)(hd:d<n)(c:∀ a',St n a' ((d,if b then u else v)::l)->wpList P ops Q r a' w) :
  wpList P ops Q (mk (some d) (.pick x y z)::r) a w:=fm (hx n a h) (by rw[hy n a h,hz n a h];exact c _ (h.put _ hd))
theorem k8 (h:St n a l){d i:Nat}{x:Operand}{vs:Array Value}{v:Value}(hx:Hd l x (.tuple vs))(hv:vs[i]?=some v)(hd:d<n)(c:∀ a',St n a' ((d,v)::l)->wpList P ops Q r a' w) :
  wpList P ops Q (mk (some d) (.extract x i)::r) a w:=jc (hx n a h) hv (c _ (h.put _ hd))
theorem cr (h:St n a l){d:Nat}{x:Operand}{F E ty m c:Nat}{base:Option Addr}(hx:Hd l x (.slice base m c))(hF:P.underlying F=some (.slice E))(hd:d<n)(k:∀ a',St n a' ((d,.int .i64 (m:Int))::l)->wpList P ops Q r a' w) :
  wpList P ops Q (bi (some d) .len [x] [F] ty::r) a w:=en (hx n a h) hF (k _ (h.put _ hd))
theorem bk (h:St n a l){d:Nat}{x:Operand}{T k F B O off sz:Nat}{agg:Bool}(hx:Hd l x (pt B O))(hF:bp P T k F off agg sz)(hd:d<n)(c:∀ a',St n a' ((d,pt B (O+off))::l)->wpList P ops Q r a' w) :
  wpList P ops Q (mk (some d) (.fieldAddr T x k)::r) a w:=bR (hx n a h) hF (c _ (h.put _ hd))
theorem aN (h:St n a l){d:Nat}{x:Operand}{F B O sz:Nat}{v:Value}(hx:Hd l x (pt B O))(hF:bd P F false sz)(hv:w.cell? ⟨B,O,none⟩=some v)(hd:d<n)(c:∀ a',St n a' ((d,v)::l)->wpList P ops Q r a' w) :
  wpList P ops Q (mk (some d) (.load F x)::r) a w:=b5 (hx n a h) (hF.agg w) hv (c _ (h.put _ hd))
theorem ck (h:St n a l){d:Nat}{x:Operand}{F B O:Nat}{cs:List Value}(hx:Hd l x (pt B O))(hF:bd P F true cs.length)(hv:ao w B O cs)(hd:d<n)(c:∀ a',St n a' ((d,.agg cs.toArray)::l)->wpList P ops Q r a' w) :
  wpList P ops Q (mk (some d) (.load F x)::r) a w:=fo (hx n a h) (hF.agg w) (hF.size w) (fun j v hj=>hv j v hj) (c _ (h.put _ hd))
theorem dG (h:St n a l){d:Nat}{x:Operand}{T:Nat}{cs:List Value}(hx:Hd l x (.agg cs.toArray))(hd:d<n)(c:∀ a',St n a' ((d,pt w.heap.size 0)::l)->wpList P ops Q r a' (w.alloc (.cells cs.toArray T (0,0)))) :
  wpList P ops Q (mk (some d) (.box T x)::r) a w:=by
 refine aD (v:=pt w.heap.size 0) (w':=w.alloc (.cells cs.toArray T (0,0))) ?_ (c _ (h.put _ hd))
 have:=hx n a h
 simp[execOp,mk,this,Instr.box,newVar,newRow,newObj,Sem.run,pt,Value.cells]
theorem eM (h:St n a l){d:Nat}{T:Nat}{z:Value}(hz:(zeroValue T).run P w=.ok z w)(hd:d<n)(c:∀ a',St n a' ((d,pt w.heap.size 0)::l)->wpList P ops Q r a' (w.alloc (.cells z.cells T (0,0)))) :
  wpList P ops Q (mk (some d) (.alloc T)::r) a w:=ep hz (c _ (h.put _ hd))
theorem fr (h:St n a l){x y:Operand}{F g:Nat}{cur:Array Value}{t:Nat}{cs:List Value}{v:Value}(hx:Hd l x (pt g 0))(hy:Hd l y v)(hv:v.cells.toList=cs)(hF:∀ w,(sizeOf F).run P w=.ok cs.length w)(hg:w.heap[g]?=some (.cells cur t (0,0)))(hs:cur.size=cs.length)(h1:∀ u∈cs,u.oneCell'=true)
  (c:wpList P ops Q r a (w.setRow g cs.toArray)):wpList P ops Q (mk none (.store F x y)::r) a w:=by
 refine bw (vs:=cs) (hx n a h) (hy n a h) hv (hF w) hg (by omega) h1 ?_
 have:aI cur 0 cs=cs.toArray:=by
  apply Array.ext'
  simp[aI,List.drop_of_length_le (show cur.toList.length<=cs.length by simp[hs])]
 rw[this];exact c
theorem br (h:St n a l){d f:Nat}{args:List Operand}{vs:List Value}{R:Ending->World->Prop}(hf:Ent P f)(GY:∀ (n:Nat) (a:Act),St n a l->args.map a.eval=vs)(hc:Calls P f vs.toArray w R)(hd:d<n)
  (c:∀ e w',R e w'->∃ v,e=.returned v/\∀ a',St n a' ((d,v)::l)->wpList P ops Q r a' w'):wpList P ops Q (cl (some d) f args::r) a w:=
 aR (vs:=vs.toArray) hf (by rw[GY n a h]) hc fun e w' hR=>by
  obtain⟨v,he,hk⟩:=c e w' hR
  exact⟨v,he,hk _ (h.put _ hd)⟩
theorem dF (h:St n a l){d:Nat}{x y:Operand}{F E b o m c i sz:Nat}{k:IntKind}(hx:Hd l x (.slice (some ⟨b,o,none⟩) m c))(hy:Hd l y (.int k (i:Nat)))(hi:i<m)(hF:P.underlying F=some (.slice E))(hs:∀ w,(sizeOf E).run P w=.ok sz w)(hd:d<n)
  (q:∀ a',St n a' ((d,pt b (o+i*sz))::l)->wpList P ops Q r a' w):wpList P ops Q (mk (some d) (.indexAddr F x y)::r) a w:=cz (hx n a h) (hy n a h) hi hF (hs w) (q _ (h.put _ hd))
theorem nA (h:St n a l){d j jd:Nat}{op:Op}{b:Bool}{v:Value}{o:Oper}(ho:ops[j]?=some o)(Iq:o.dst=some jd)(hj:l.lookup jd=some (.bool b))(I6:jd<n)(GF:(execOp a.eval (mk (some d) op)).run P w=.ok (.value v) w)(hd:d<n)
  (c:∀ a',St n a' ((d,v)::l)->wpList P ops Q r a' w):wpList P ops Q (gd d op j b::r) a w:=
 fp (bY ho Iq (by rw[h.size];exact I6) (h.get _ _ hj)) GF (c _ (h.put _ hd))
theorem aS (h:St n a l){d j jd:Nat}{op:Op}{b b':Bool}{o:Oper}(ho:ops[j]?=some o)(Iq:o.dst=some jd)(hj:l.lookup jd=some (.bool b'))(I6:jd<n)(hb:b'≠b)(hd:d<n)
  (c:∀ a',St n a' ((d,undef)::l)->wpList P ops Q r a' w):wpList P ops Q (gd d op j b::r) a w:=
 d8 (bY ho Iq (by rw[h.size];exact I6) (h.get _ _ hj)) hb (c _ (h.put _ hd))
theorem aw {x y:Code}{R:Exit->Act->World->Prop}(h:aQ P x (Exit.then (aQ P y R) R) a w):aQ P (.seq x y) R a w:=
 .seq h (fun _ _ h=>h) (fun e a w he hq=>by rwa [cA he]at hq)
theorem aW {l':List Oper}{R:Exit->Act->World->Prop}(h:wpList P l'.toArray R l' a w):aQ P (rg l') R a w:=.reg h
theorem bf (h:St n a l){c:Nat}{x y:Code}{b:Bool}{R:Exit->Act->World->Prop}(hc:l.lookup c=some (.bool b))(hT:b=true->aQ P x R a w)(hF:b=false->aQ P y R a w):aQ P (.cond (tm c) x y) R a w:=by
 cases b with
 | true=>exact .condT (h.get _ _ hc) (hT rfl)
 | false=>exact .condF (h.get _ _ hc) (hF rfl)
theorem gm (h:St n a l){c:Nat}{x y z:Code}{b:Bool}{R:Exit->Act->World->Prop}(hc:l.lookup c=some (.bool b))(hT:b=true->aQ P x (Exit.then (aQ P z R) R) a w)(hF:b=false->aQ P y (Exit.then (aQ P z R) R) a w):aQ P (.seq (.cond (tm c) x y) z) R a w:=
 aw (bf h hc hT hF)
theorem ee {i:Nat}{c:Code}{R:Exit->Act->World->Prop}(I:Nat->Act->World->Prop)(top:Nat)(h0:∃ m,m<=top/\I m a w)(hI:∀ m a w,m<=top->I m a w->aQ P c (Exit.then (fun a' w'=>∃ m',m'<=top/\m'<m/\I m' a' w') (Exit.inBlock i R)) a w):aQ P (.block i (.loop c)) R a w:=by
 classical
 obtain⟨m0,J9,h0⟩:=h0
 let J:Act->World->Prop:=fun a w=>∃ m,m<=top/\I m a w
 have key:∀ a w,J a w->∃ m,m<=top/\I m a w/\∀ m',m'<=top->I m' a w->m<=m':=fun a w hJ=>by
  obtain⟨m,hm,hi⟩:=hJ
  induction m using Nat.strongRecOn with
  | _ m ih=>
   by_cases Je:∃ m',m'<m/\m'<=top/\I m' a w
   ·obtain⟨m',h1,h2,h3⟩:=Je
    exact ih m' h1 h2 h3
   ·exact⟨m,hm,hi,fun m' h1 h2=>by
     rcases Nat.lt_or_ge m' m with h|h
     ·exact absurd ⟨m',h,h1,h2⟩ Je
     ·exact h⟩
 let μ:Act->World->Nat:=fun a w=>if hJ:J a w then Classical.choose (key a w hJ)else 0
 refine .block (.loop J μ ⟨m0,J9,h0⟩ fun a w hJ=>?_)
 have hs:=Classical.choose_spec (key a w hJ)
 have hμ:μ a w=Classical.choose (key a w hJ):=by simp only[μ,dif_pos hJ]
 refine .mono (hI _ a w hs.1 hs.2.1) fun e a' w' hq=>?_
 by_cases he:e=.normal
 ·subst he
  obtain⟨m',h1,h2,h3⟩:=hq
  have Sq:J a' w':=⟨m',h1,h3⟩
  refine⟨Sq,?_⟩
  have hs':=Classical.choose_spec (key a' w' Sq)
  have hμ':μ a' w'=Classical.choose (key a' w' Sq):=by simp only[μ,dif_pos Sq]
  have:=hs'.2.2 m' h1 h3
  rw[hμ,hμ']
  omega
 ·rw[cA he]at hq ⊢
  exact hq
end
section
variable {P:Program}
theorem cN.len {w:World}{X:Nat->Prop}{m:Value}{t:List (Nat × Bs)}(h:cN w X m t):(m=.map none/\t=[]) \/ ∃ (r clock:Nat) (es:List aP),m=.map (some r)/\w.heap[r]?=some (.map (es.map aP.entry).toArray clock)/\es.length=t.length:=by
 rcases h with h|⟨r,rfl,_,_,⟨es,clock,f,hb,_,_,_,hp,_⟩,_⟩
 ·exact .inl h
 ·refine .inr ⟨r,clock,es,rfl,hb,?_⟩
  have:=hp.length_eq
  simpa using this
theorem lK {tM kt et:Nat}(hM:P.underlying tM=some (.map kt et)){ops:Array Oper}{Q:Exit->Act->World->Prop}{r:List Oper}{a:Act}{w:World}{d:Option Nat}{y:Operand}{ty:Nat}{m:Value}{X:Nat->Prop}{t:List (Nat × Bs)}(hy:a.eval y=m)(ht:cN w X m t)
  (h:wpList P ops Q r (a.put d (.int .i64 t.length)) w):wpList P ops Q (bi d .len [y] [tM] ty::r) a w:=by
 refine wpList_plain rfl fun _ hK=>?_
 unfold Oper.wp
 have hx:(execOp a.eval (bi d .len [y] [tM] ty)).run P w=.ok (.value (.int .i64 t.length)) w:=by
  rcases ht.len with⟨rfl,rfl⟩|⟨q,clock,es,rfl,hb,hl⟩
  ·simp[execOp,bi,resolve,invoke,hy,builtin,Builtin.len_,run_underlying hM,goInt]
  ·simp[execOp,bi,resolve,invoke,hy,builtin,Builtin.len_,run_underlying hM,goInt,getObj,Sem.run,hb,hl]
 rw[hx]
 exact hK _ _ h
theorem tlen_calls (hm:P.follows .mixedOrders=true){K:Kn}{f ntmps tTags tM kt et:Nat}(hM:P.underlying tM=some (.map kt et))(hF:bp P tTags 0 tM 0 false 1)(hfn:FnIs P f ntmps [2] (cTLen K tTags tM))(G8:8<=ntmps)
  {w:World} {b o:Nat} {m:Value} {X:Nat->Prop} {t:List (Nat × Bs)} (hc:w.cell? ⟨b,o,none⟩=some m) (ht:cN w X m t):Calls P f #[pt b o] w fun e w'=>e=.returned (.int .i64 t.length)/\ac (fun _=>False) w w':=by
 refine fb hm hfn (by simp) [pt b o] (by simp;omega) fun a harg hs hd=>?_
 have g0:=harg 0 _ rfl
 refine bm (ad (au (aj (wpList_nil ?_))))
 rw[show(aU 2 (.int .i64 0) 3).2=3 from rfl]
 refine ad (au (ag ?_))
 rw[aa,ak (by omega),g0]
 refine aL (p:=⟨b,o,none⟩) (by rw[aa,am (by simp only[ab];omega)];rfl) ?_
 refine bR (by rw[aa,am (by simp only[ab];omega)]) hF ?_
 refine b5 (p:=⟨b,o+0,none⟩) (v:=m) (by rw[aa,am (by simp only[ab];omega)]) (hF.var.agg _) hc ?_
 refine lK hM (by rw[aa,am (by simp only[ab];omega)]) ht (aj (wpList_nil (ad (.ret ⟨?_,?_,ac.refl _ _⟩))))
 ·simp only[ai];exact hd
 ·rw[show bj [2] _=Act.get _ 2 from rfl,am (by simp only[ab];omega),aa,am (by simp only[ab];omega)]
end
section
open Go Go.MapKept
section
variable {P:Program} {w:World}
def cd (k:Nat):Value:=.int .u32 (k:Int)
theorem sY {mty kt et r clock key j:Nat}{es:List aP}{e:aP}(hm:P.underlying mty=some (.map kt et))(hd:P.underlying kt=some (.int .u32))(hb:w.heap[r]?=some (.map (es.map aP.entry).toArray clock))(hn:(es.map aP.key).Nodup)(hj:es[j]?=some e)(hk:e.key=key) :
  (Instr.lookup mty (.map (some r)) (cd key) false).run P w=.ok e.val w:=by
 have Hu:∀ x∈(es.map aP.entry).toArray.toList,IsKey (.int .u32) x.key:=by
  intro x hx
  simp only[List.mem_map]at hx
  obtain⟨e,_,rfl⟩:=hx
  exact fh e.key
 rcases findNow_spec (fh key) (es.map aP.entry).toArray.toList 0 Hu with⟨h1,h2⟩|⟨j',e',h1,h2,h3⟩
 ·have:=h2 e.entry (by simp;exact⟨e,List.mem_of_getElem? hj,rfl⟩)
  simp[aP.entry,hk]at this
 ·have h2':(es[j']?).map aP.entry=some e':=by simpa using h2
  obtain⟨e1,Mz,rfl⟩:=Option.map_eq_some_iff.1 h2'
  have Gy:e1.key=key:=by
   simp only[aP.entry,Value.int.injEq,true_and]at h3
   omega
  have Q9:j'=j:=by
   have a1:(es.map aP.key)[j']?=some key:=by rw[List.getElem?_map,Mz];simp[Gy]
   have a2:(es.map aP.key)[j]?=some key:=by rw[List.getElem?_map,hj];simp[hk]
   have Gq:=(List.getElem?_eq_some_iff.1 a1).1
   exact(List.getElem?_inj Gq hn).1 (a1.trans a2.symm)
  subst Q9
  obtain rfl:=Option.some.inj (Mz.symm.trans hj)
  have h1':Instr.findNow (.int .u32) (.int .u32 (key:Int)) (es.map aP.entry).toArray.toList 0=some (some (0+j',e1.entry.val)):=h1
  simp[Instr.lookup,cd,run_underlying hm,MapKept.run_getObj_map hb,MapKept.run_checkKey hd (fh key),MapKept.run_findKey hd h1',aP.entry]
theorem m6 {tS te G n:Nat}{cur:Array Value}{v:Value}{X c x:Nat}{ty:TypeId}(hS:P.underlying tS=some (.slice te))(hi:∃ i,P.info? te=some i/\i.size=1)(hG:w.heap[G]?=some (.cells cur te (0,0)))(GE:cur.size=n)(hx:x<n)(hX:w.cell? ⟨X,0,none⟩=some v)(hv:v.oneCell'=true) :
  (Builtin.append_ #[tS,tS] ty #[.slice (some ⟨G,0,none⟩) x n,.slice (some ⟨X,0,none⟩) 1 c]).run P w=.ok (.slice (some ⟨G,0,none⟩) (x+1) n) (w.setRow G (cur.setIfInBounds x v)):=by
 obtain⟨i,hi,G0⟩:=hi
 have hs:Src P 1 tS (.slice (some ⟨X,0,none⟩) 1 c) 1 [v] w:=Src.ofSlice w hS ⟨X,0,none⟩ 1 c [v] (by simp) (fun j u hj=>by
  cases j with
  | zero=>simp at hj;subst hj;simpa[Addr.add_lit]using hX
  | succ j=>simp at hj) (by simpa using hv)
 have Hl:=run_storeCells_at P G x te [v] 0 cur w hG (by simp;omega) hs.one
 simp only[Nat.add_zero]at Hl
 have Hq:x+1<=n:=by omega
 have e1:aI cur x [v]=cur.setIfInBounds x v:=il (by omega)
 rw[<- e1]
 simp[Builtin.append_,run_underlying hS,sizeOf,typeInfo,hi,G0,hs.len,Hq,hs.cells,Addr.add_lit,Hl,aI]
theorem vw {ops:Array Oper}{Q:Exit->Act->World->Prop}{r:List Oper}{a:Act}{d:Option Nat}{f:Nat}{y:Operand}{args:List Operand}{vs cap:Array Value}{R:Ending->World->Prop}(hf:Ent P f)(hy:a.eval y=.func (.func f) #[] cap)(GY:(args.map a.eval).toArray=vs)
  (hc:Calls P f (vs++cap) w R) (h:∀ e w',R e w'->∃ v,e=.returned v/\wpList P ops Q r (a.put d v) w'):wpList P ops Q (mk d (.call ⟨.value y,args.toArray,#[]⟩)::r) a w:=by
 refine kW ?_
 unfold Oper.wp
 have:(execOp a.eval (mk d (.call ⟨.value y,args.toArray,#[]⟩))).run P w=.ok (.enter f (vs++cap)) w:=by
  simp only[execOp,mk,resolve,hy,Deferred.ofValue,invoke,Sem.run_bind,Sem.run_pure,Result.andThen_ok,Array.empty_append,List.map_toArray,GY]
  exact hf _ _
 rw[this]
 exact hc.mono fun e w' hR=>by
  obtain⟨v,rfl,hh⟩:=h e w' hR
  exact hh
end
end
section
open Go Go.ChangeMaps
section
variable {P:Program}
theorem gp {a:Act}{d i:Nat}{v:Value}(h:d<a.tmps.size):(a.put (some d) v).get i=if i=d then v else a.get i:=by
 by_cases hi:i=d
 ·rw[if_pos hi,hi];exact dA _ _ _ h
 ·rw[if_neg hi];exact ge _ _ _ _ hi
structure TF (P:Program)(T:TN):Prop where
 map:∃ kt et,P.underlying T.tM=some (.map kt et)/\P.underlying kt=some (.int .u32)
 fld:bp P T.tTags 0 T.tM 0 false 1
 sl:P.underlying T.tKs=some (.slice T.tU32)
 info:∃ i z,P.info? T.tU32=some i/\i.zero=some z/\i.size=1/\i.bytes=4
 vU:bd P T.tU32 false 1
 vK:bd P T.tKs false 1
 zK:∀ w,(zeroValue T.tKs).run P w=.ok (.slice none 0 0) w
 dInt:P.underlying T.tInt=some (.int .i64)
 dU32:P.underlying T.tU32=some (.int .u32)
structure md (T:TN)(w0:World)(q it V G clock:Nat)(es L:List aP)(w:World):Prop where
 keeps:ac (fun _=>False) w0 w
 mp:w.heap[q]?=some (.map (es.map aP.entry).toArray clock)
 iter:w.heap[it]?=some (.mapIter (some q) clock (L.map aP.born).toArray clock)
 box:w.heap[V]?=some (.cells #[.slice (some ⟨G,0,none⟩) L.length es.length] T.tKs (0,0))
 row:∃ cur,w.heap[G]?=some (.cells cur T.tU32 (0,0))/\cur.size=es.length/\∀ (i:Nat) (e:aP),L[i]?=some e->cur[i]?=some (cd e.key)
 sub:∀ e∈L,e∈es
 nod:(L.map aP.born).Nodup
 new:w0.heap.size<=V/\w0.heap.size<=G/\w0.heap.size<=it/\V≠G/\V≠it/\G≠it/\q<w0.heap.size
theorem oC {w:World}{b:Nat}{o:Obj}(h:b<w.heap.size):(setBlock w b o).heap[b]?=some o:=by
 show(w.heap.setIfInBounds b o)[b]?=some o
 rw[Array.getElem?_setIfInBounds,if_pos rfl,if_pos h]
theorem mt {w:World}{b k:Nat}{o:Obj}(h:k≠b):(setBlock w b o).heap[k]?=w.heap[k]?:=by
 show(w.heap.setIfInBounds b o)[k]?=_
 rw[Array.getElem?_setIfInBounds,if_neg (fun e=>h e.symm)]
theorem wJ {X:Nat->Prop}{w:World}{b:Nat}{o:Obj}(h:X b):ac X w (setBlock w b o):=
 ⟨rfl,rfl,rfl,by show w.heap.size<=(w.heap.setIfInBounds b o).size;simp,fun _ _ hx=>mt fun e=>hx (e ▸ h)⟩
theorem md.le {T:TN}{w0:World}{q it V G clock:Nat}{es L:List aP}{w:World}(h:md T w0 q it V G clock es L w)    :L.length<=es.length:=by
 have key:∀ (l m:List Nat),l.Nodup->(∀ x∈l,x∈m)->l.length<=m.length:=by
  intro l
  induction l with
  | nil=>intro m _ _;simp
  | cons a l ih=>
   intro m hl hs
   obtain⟨h1,h2⟩:=List.nodup_cons.1 hl
   have hm:a∈m:=hs a (by simp)
   have:=ih (m.erase a) h2 fun x hx=>(List.mem_erase_of_ne (fun e=>h1 (by rw[<- e];exact hx))).2 (hs x (by simp[hx]))
   rw[List.length_erase_of_mem hm]at this
   have:=List.length_pos_of_mem hm
   simp only[List.length_cons]
   omega
 have h1:=key (L.map aP.born) (es.map aP.born) h.nod fun x hx=>by
  obtain⟨e,he,rfl⟩:=List.mem_map.1 hx
  exact List.mem_map.2 ⟨e,h.sub e he,rfl⟩
 simpa using h1
theorem md.next {T:TN}{w0:World}{q it V G clock:Nat}{es L:List aP}{w:World}(h:md T w0 q it V G clock es L w)(hb:∀ e∈es,e.born<clock)(ty:TypeId) :
  ((∀ e∈es,e.born∈L.map aP.born)/\(Instr.next (pt it 0) false ty).run P w=.ok (.tuple #[.bool false]) w) \/
  ∃ e∈es,e.born∉L.map aP.born/\∃ w1,(w1=w \/ w1=w.drew)/\(Instr.next (pt it 0) false ty).run P w=.ok (.tuple #[.bool true,cd e.key,e.val]) (setBlock w1 it (.mapIter (some q) clock ((L++[e]).map aP.born).toArray clock)):=by
 rcases run_next_at (P:=P) w ty it q clock clock _ _ clock h.iter h.mp (fun x hx=>by
  simp only[List.mem_map]at hx
  obtain⟨e,he,rfl⟩:=hx
  exact hb e he) (Nat.le_refl _) with⟨h0,hr⟩|⟨e,he,w1,Jc,hr⟩
 ·refine .inl ⟨fun e he=>?_,hr⟩
  have h1:leftOf (es.map aP.entry).toArray (L.map aP.born).toArray=#[]:=Array.eq_empty_of_size_eq_zero h0
  unfold leftOf at h1
  rw[Array.filter_eq_empty_iff]at h1
  have:=h1 e.entry (by simpa using⟨e,he,rfl⟩)
  simpa[aP.entry]using this
 ·unfold leftOf at he
  have Ij:e∈(es.map aP.entry).toArray/\(!(L.map aP.born).toArray.contains e.born)=true:=by
   have:=Array.mem_def.2 he
   simpa using this
  obtain⟨hm,hc⟩:=Ij
  simp only[List.mem_toArray,List.mem_map]at hm
  obtain⟨e1,Mz,rfl⟩:=hm
  refine .inr ⟨e1,Mz,?_,w1,Jc,?_⟩
  ·simpa[aP.entry]using hc
  ·rw[show pt it 0=.pointer (some ⟨it,0,none⟩) from rfl,hr]
   simp[aP.entry,cd]
end
end
section
open Go Go.ChangeMaps
section
variable {P:Program}
def SortOk (P:Program)(T:TN):Prop:=
 Ent P T.fSort/\∀ (w:World) (V G n:Nat) (ks:List Nat) (cur:Array Value),ks.length=n->n<4611686018427387904->(∀ x∈ks,x<4294967296)->w.heap[V]?=some (.cells #[.slice (some ⟨G,0,none⟩) n n] T.tKs (0,0))->w.heap[G]?=some (.cells cur T.tU32 (0,0))->cur.size=n->V≠G ->
  (∀ (i:Nat) (x:Nat),ks[i]?=some x->cur[i]?=some (cd x)) ->
  Calls P T.fSort #[.iface T.tKs (.slice (some ⟨G,0,none⟩) n n),.func (.func T.fLess) #[] #[pt V 0]] w fun e w'=>e=.returned (.tuple #[])/\ac (fun k=>k=G) w w' /\
   ∃ (cur':Array Value) (ks':List Nat),w'.heap[G]?=some (.cells cur' T.tU32 (0,0))/\ks'.Perm ks/\ks'.Pairwise (·<=·)/\∀ (i:Nat) (x:Nat),ks'[i]?=some x->cur'[i]?=some (cd x)
theorem zW:∀ {es:List aP},(es.map aP.born).Nodup->∀ x∈es,∀ y∈es,x.born=y.born->x=y
 | [],_,_,hx,_,_,_=>by simp at hx
 | a::r,hn,x,hx,y,hy,h=>by
  simp only[List.map_cons,List.nodup_cons,List.mem_map,not_exists,not_and]at hn
  rcases List.mem_cons.1 hx with ex|hx'
  ·rcases List.mem_cons.1 hy with ey|hy'
   ·rw[ex,ey]
   ·exact absurd (by rw[<- h,ex]) (hn.1 y hy')
  ·rcases List.mem_cons.1 hy with ey|hy'
   ·exact absurd (by rw[h,ey]) (hn.1 x hx')
   ·exact zW hn.2 x hx' y hy' h
theorem rF:∀ (l m:List aP),(l.map aP.born).Nodup->(m.map aP.born).Nodup->(∀ x∈l,x∈m)->(∀ x∈m,x.born∈l.map aP.born)->(l.map aP.key).Perm (m.map aP.key):=by
 intro l
 induction l with
 | nil=>
  intro m _ _ _ hm
  cases m with
  | nil=>exact .refl _
  | cons a r=>have:=hm a (by simp);simp at this
 | cons a l ih=>
  intro m hl hmn hs hm
  simp only[List.map_cons,List.nodup_cons]at hl
  have ha:a∈m:=hs a (by simp)
  obtain⟨m1,m2,rfl⟩:=List.append_of_mem ha
  have hp:(m1++a::m2).Perm (a::(m1++m2)):=List.perm_middle
  have hmn':((a::(m1++m2)).map aP.born).Nodup:=(hp.map aP.born).nodup_iff.1 hmn
  simp only[List.map_cons,List.nodup_cons]at hmn'
  refine .trans ?_ (hp.map aP.key).symm
  simp only[List.map_cons]
  refine List.Perm.cons _ (ih (m1++m2) hl.2 hmn'.2 (fun x hx=>?_) fun x hx=>?_)
  ·have:=(hp.mem_iff).1 (hs x (by simp[hx]))
   rcases List.mem_cons.1 this with e|h
   ·exact absurd (List.mem_map.2 ⟨x,hx,by rw[e]⟩) hl.1
   ·exact h
  ·have:=hm x (hp.mem_iff.2 (by simp only[List.mem_cons];exact .inr hx))
   simp only[List.map_cons,List.mem_cons]at this
   rcases this with e|h
   ·exact absurd (List.mem_map.2 ⟨x,hx,e⟩) hmn'.1
   ·exact h
theorem wn {l:List (Nat × Bs)}(h:gK l):(l.map (·.1)).Pairwise (·<=·):=by
 induction l with
 | nil=>simp
 | cons a r ih=>
  cases r with
  | nil=>simp
  | cons b r=>
   simp only[gK]at h
   have hr:=ih h.2
   simp only[List.map_cons,List.pairwise_cons]at hr ⊢
   refine⟨fun x hx=>?_,hr⟩
   simp only[List.mem_cons]at hx
   rcases hx with rfl|hx
   ·omega
   ·have:=hr.1 x hx;omega
theorem rr {l m:List Nat}(hp:l.Perm m)(hl:l.Pairwise (·<=·))(hm:m.Pairwise (·<=·)):l=m:=
 List.Perm.eq_of_pairwise (le:=(·<=·)) (fun _ _ _ _ h1 h2=>Nat.le_antisymm h1 h2) hl hm hp
theorem no {T:TN}(tf:TF P T){ops:Array Oper}{Q:Exit->Act->World->Prop}{r:List Oper}{a:Act}{w:World}{b o n:Nat}{m:Value}(h0:a.get 0=pt b o)(hc:w.cell? ⟨b,o,none⟩=some m)(_hn:0<n)(hs:n+3<a.tmps.size)
  (h:∀ a',(∀ i,i<n->a'.get i=a.get i)->a'.get (n+3)=m->a'.tmps.size=a.tmps.size->a'.defers=a.defers->wpList P ops Q r a' w):wpList P ops Q (pl T n++r) a w:=by
 show wpList P ops Q (mk (some n) (.move (tm 0))::mk (some (n+1)) (.nilCheck (tm n))::mk (some (n+2)) (.fieldAddr T.tTags (tm (n+1)) 0)::mk (some (n+3)) (.load T.tM (tm (n+2)))::r) a w
 refine ag ?_
 rw[aa,h0]
 refine aL (p:=⟨b,o,none⟩) (by rw[aa,am (by omega)];rfl) ?_
 refine bR (B:=b) (O:=o) (by rw[aa,am (by simp only[ab];omega)]) tf.fld ?_
 refine b5 (p:=⟨b,o+0,none⟩) (v:=m) (by rw[aa,am (by simp only[ab];omega)]) (tf.fld.var.agg _) hc (h _ (fun i hi=>?_) ?_ ?_ ?_)
 ·iterate 4 rw[ak (by omega)]
 ·rw[am (by simp only[ab];omega)]
 ·simp only[ab]
 ·simp only[ai]
end
end
end Go.Proofs.YtbgklecbmhaadaaGreatDoor.Kx