/-
  PLAIN LAWS AND CONTRACTS of messages, part 11.
-/
import Derived.Test.YtpoeajgpacfpoaaGreatDoorK10
import Derived.Laws.MakeOwn
import Derived.Maps.RangeRun

namespace Go.Proofs.YtpoeajgpacfpoaaGreatDoor.Kx
open Go
section
variable {P:Program} {g:GW} {av:PF->Bool} {fl nl:Bool} {te:Nat}
theorem eB (hm:P.follows .mixedOrders=true){f ntmps:Nat}{res:List Nat}{c:Code}{w:World}{RR:Ending->World->Prop}(hfn:FnIs P f ntmps res c)(hl:res.length<=2)(args:List Value)(Iv:args.length<=ntmps)
  (h:∀ a,(∀ i v,args[i]?=some v->a.get i=v)->a.tmps.size=ntmps->a.defers=[]->aK P c (Rt (fun a' w'=>a'.defers=[]/\RR (.returned (bj res a')) w') (fun a' w'=>a'.defers=[]/\RR (.returned (bj res a')) w')) a w):Calls P f args.toArray w RR:=by
 refine hfn.calls hm hl ?_
 refine h _ (fun i v hi=>?_) (ck args.toArray ntmps (by simpa using Iv)) rfl
 have Id:i<args.length:=(List.getElem?_eq_some_iff.1 hi).1
 rw[b9 _ _ _ (by simpa using Id)]
 have:=(List.getElem?_eq_some_iff.1 hi).2
 simpa using this
def gD (cx:Cx)(v6:Nat):Nat:=max (max cx.ver cx.fx) (max v6 4)+1
def nk (e:wy)(kept:Bool)(cx:Cx)(fs:Fds)(T kt:Nat)(toff:Option Nat)(v6 n0 ntmps:Nat)(nm:Nm)(used:Nat):Bool:=
 decide (cx.s=0/\4<cx.ver/\(cx.hf=true->4<cx.fx/\cx.fx≠cx.ver)/\(cx.hf=false->cx.fx=0)/\(kept=true->4<v6/\v6≠cx.ver/\v6≠cx.fx)/\gD cx v6<=n0)&&decide (used<=ntmps)&&eA e.P T 0 e.g.tVer 0 false 1&&(!kept || e.av .i16) &&
 ja e cx.hf (gD cx v6) n0 T kt toff fs nm (okTagdW e cx.hf (nm.n 2+1) n0 T fs nm.s)&&okFdsW e cx.hf (gD cx v6) n0 T fs nm.s
def jy (g:GW)(kept:Bool)(cx:Cx)(fs:Fds)(T kt flex v6 n0:Nat)(nm:Nm):Nat:=(gL (jI g kept cx T flex v6++(gwFds g cx fs nm.s++bd g cx fs T kt nm++eK)) n0).2
theorem wK (K0:KW P g av fl nl te){f ntmps:Nat}{kept:Bool}{cx:Cx}{fs:Fds}{T kt flex v6 n0:Nat}{toff:Option Nat}{nm:Nm}(Ih:cx.hf=true->fl=true)(hfn:FnIs P f ntmps [4] (gWrite g kept cx fs T kt flex v6 n0 nm))
  (Ku:nk ⟨P,g,av,nl⟩ kept cx fs T kt toff v6 n0 ntmps nm (jy g kept cx fs T kt flex v6 n0 nm)=true) {w:World} {B:Nat} {ver:Int} {vs:List V} {t:List (Nat × Bs)} (hver:-32768<=ver/\ver<32768) (hB:B<w.heap.size) (Ia:w.cell? ⟨B,0,none⟩=some (.int .i16 ver))
  (hr:RpF w (fun k=>w.heap.size<=k) fs B 0 vs) (ht:dJ w (fun k=>w.heap.size<=k) B 0 toff t) (hlim:(dD kept cx.hf flex fs ver (.st vs t)).length<=di) :
  Calls P f #[pt B 0,aF] w fun e w'=>∃ d',e=.returned d'/\aA w' w.heap.size te d' (dD kept cx.hf flex fs ver (.st vs t))/\ac (fun _=>False) w w':=by
 simp only[nk,Bool.and_eq_true,Bool.or_eq_true,Bool.not_eq_true',decide_eq_true_eq]at Ku
 obtain⟨⟨⟨⟨⟨⟨KF,Mm,MT,Ql,Lv,hM⟩,IL⟩,Jl⟩,NH⟩,IN⟩,KZ⟩:=Ku
 have RH:cx.ver<gD cx v6/\cx.fx<gD cx v6/\v6<gD cx v6/\4<gD cx v6:=by simp only[gD];omega
 refine eB K0.mixed hfn (by simp) [pt B 0,aF] ?_ fun a harg hs hd=>?_
 ·simp only[List.length_cons,List.length_nil]
  have:n0<=jy g kept cx fs T kt flex v6 n0 nm:=by
   refine ax ?_ (ax (ax (upL_wfds g fs cx nm.s) (dL g cx fs T kt nm)) (ag (am _ _) (ag (bq _) ar))) n0
   exact ax (ax (ag (am _ _) (ag (am _ _) (ag (am _ _) ar))) (cQ (ag (am _ _) (ag (am _ _) ar)) ar)) (cQ (ag (ei (ag (am _ _) (ag (am _ _) ar))) ar) ar)
  omega
 have h0:=harg 0 _ rfl
 have h1:=harg 1 _ rfl
 have hF:=fldB_ok Jl
 have Jz:aA w w.heap.size te aF []:=aA.nil _ _ _
 have fields:∀ (n:Nat) (a1:Act) (w1:World) (d1:Value) (bs1:Bs),n0<=n->bs1=(if kept then be 2 ver else[])->a1.tmps.size=ntmps->a1.defers=[]->a1.get 0=pt B 0->a1.get cx.ver=.int .i16 ver->(cx.hf=true->a1.get cx.fx=.bool (decide ((flex:Int)<=ver)))->a1.get 1=d1->Gr w.heap.size te aF w d1 bs1 w1 ->
   (gL (gwFds g cx fs nm.s++bd g cx fs T kt nm++eK) n).2<=ntmps ->
   LW P (gwFds g cx fs nm.s++bd g cx fs T kt nm++eK) n (Rt (fun a' w'=>a'.defers=[]/\∃ d',.returned (bj [4] a')=Ending.returned d'/\aA w' w.heap.size te d' (dD kept cx.hf flex fs ver (.st vs t))/\ac (fun _=>False) w w') (fun a' w'=>a'.defers=[]/\∃ d',.returned (bj [4] a')=Ending.returned d'/\aA w' w.heap.size te d' (dD kept cx.hf flex fs ver (.st vs t))/\ac (fun _=>False) w w')) a1 w1:=by
  intro n a1 w1 d1 bs1 hn Nr Ii I4 Jp Mb Mu Ig hgr IL
  rw[aX]at IL
  have L0:(gL (gwFds g cx fs nm.s++bd g cx fs T kt nm) n).2+1<=ntmps:=IL
  have IV:=Gr.far Jz hgr
  have Uq:WC cx (cx.hf&&decide ((flex:Int)<=ver)) ver te w.heap.size B 0 d1 bs1 a1 w1:=
   ⟨hgr.dst,Ig,by rw[KF];exact Jp,Mb,fun hf=>by rw[Mu hf,hf];rfl,fun hf=>by rw[hf];rfl,hB,hgr.keeps.size⟩
  have SE:mc cx (gD cx v6) n0:=⟨⟨by omega,by omega⟩,⟨RH.1,by omega⟩,⟨RH.2.1,by
   cases hh:cx.hf with
   | true=>have:=MT hh;omega
   | false=>rw[Ql hh];omega⟩,by omega,hM⟩
  have N9:dD kept cx.hf flex fs ver (.st vs t)=bs1++(wrFds (cx.hf&&decide ((flex:Int)<=ver)) ver fs vs++fy (cx.hf&&decide ((flex:Int)<=ver)) (wrTgd (cx.hf&&decide ((flex:Int)<=ver)) ver fs vs) t):=by
   simp only[dD,V.fields,V.tags,Nr]
  have JE:=ax (upL_wfds g fs cx nm.s) (dL g cx fs T kt nm) n
  refine ep ?_
  rw[aO]
  refine wV (wr_fds K0 fs) (tC K0 fs) IN KZ Uq SE Ih hn (by omega) (by omega) (hr.far IV hB (Nat.le_refl _)) (ht.far IV hB (Nat.le_refl _)) (by rw[<- List.length_append,<- N9];exact hlim) fun a2 w2 d2 HZ Ij hgr2=>?_
  have Iw:=HZ.size
  refine ad (aq (ah (ak (wpList_nil (ad (.ret ⟨?_,d2,?_,?_,?_⟩))))))
  ·simp only[aj];rw[HZ.defers];exact I4
  ·show Ending.returned (Act.get _ 4)=_
   rw[ao (by simp only[ab];omega),aa,ao (by omega),aa,Ij]
  ·rw[N9];exact hgr2.dst
  ·exact(hgr.trans hgr2).keeps.mono fun k _ hk=>by simp[Value.ownBlock,aF]at hk
 have kpt:∀ (n:Nat) (a1:Act),n0<=n->a1.tmps.size=ntmps->a1.defers=[]->a1.get 0=pt B 0->a1.get cx.ver=.int .i16 ver->(cx.hf=true->a1.get cx.fx=.bool (decide ((flex:Int)<=ver)))->a1.get 1=aF ->
   (gL ((if kept then[gS [cg 0 v6 T 0 g.tVer,bv (g.ap .i16) v6]] else[])++(gwFds g cx fs nm.s++bd g cx fs T kt nm++eK)) n).2<=ntmps ->
   LW P ((if kept then[gS [cg 0 v6 T 0 g.tVer,bv (g.ap .i16) v6]] else[])++(gwFds g cx fs nm.s++bd g cx fs T kt nm++eK)) n (Rt (fun a' w'=>a'.defers=[]/\∃ d',.returned (bj [4] a')=Ending.returned d'/\aA w' w.heap.size te d' (dD kept cx.hf flex fs ver (.st vs t))/\ac (fun _=>False) w w') (fun a' w'=>a'.defers=[]/\∃ d',.returned (bj [4] a')=Ending.returned d'/\aA w' w.heap.size te d' (dD kept cx.hf flex fs ver (.st vs t))/\ac (fun _=>False) w w')) a1 w:=by
  intro n a1 hn Ii I4 Jp Mb Mu Ig IL
  have Ox:=ax (ax (upL_wfds g fs cx nm.s) (dL g cx fs T kt nm)) (ag (am 1 fun n=>[mk (some n) (.move (tm 1)),mk (some 4) (.assign (tm n))]) (ag (bq .ret) ar))
  by_cases hk:kept=true
  ·obtain⟨h64,h6v,h6f⟩:=Lv hk
   rw[if_pos hk]at IL ⊢
   have KS:av .i16=true:=by rcases NH with h|h;rw[hk]at h;cases h;exact h
   have L0:(gL (gwFds g cx fs nm.s++bd g cx fs T kt nm++eK) (n+4+3)).2<=ntmps:=IL
   have:=Ox (n+4+3)
   have hn7:n+4+3<=ntmps:=Nat.le_trans this L0
   refine ad ?_
   rw[aO]
   refine aY (ad (fZ (x:=v6) (m:=n0) (k0:=n0) (off:=0) Jp hF (by rw[Nat.zero_add];exact Ia) (.inl rfl) (Nat.le_refl _) hn (by omega) (by omega) fun a2 HZ Ij=>?_))
   have Iw:=HZ.size
   refine ad (pE (m:=n0) (k0:=n0) (L:=w.heap.size) (bs:=[]) (enc:=PF.wr .i16 (.n ver)) (K0.apE .i16 KS) (K0.apC .i16 KS w w.heap.size [.int .i16 ver] (.int .i16 ver) (.n ver) ⟨ver,rfl,rfl,hver⟩ rfl) (by rw[HZ.get 1 (by omega) (.inl (by omega))];exact Ig) Ij (by show v6<n+4;omega) Jz (Nat.le_refl _) ?_ (Nat.le_refl _) (by show n0<=n+4;omega) (by show 1<n+4;omega) (by show n+4+3<=_;omega) fun a3 w3 d3 Ie I2 hgr3=>?_)
   ·have:(PF.wr .i16 (.n ver)).length=2:=by simp[PF.wr,be]
    rw[this];decide
   have hp:∀ s,s<n0->s≠v6->s≠1->a3.get s=a1.get s:=fun s hs T5 If=>by rw[Ie.get s If (.inl hs),HZ.get s T5 (.inl hs)]
   refine bf (fields (n+4+3) a3 w3 d3 _ (by omega) (by rw[if_pos hk];rfl) (by rw[Ie.size,Iw];exact Ii) (by rw[Ie.defers,HZ.defers];exact I4) (by rw[hp 0 (by omega) (by omega) (by omega)];exact Jp) (by rw[hp cx.ver (by omega) (by omega) (by omega)];exact Mb)
    (fun hf=>by have:=MT hf;rw[hp cx.fx (by omega) (by omega) (by omega)];exact Mu hf) I2 hgr3 L0)
  ·rw[if_neg hk]at IL ⊢
   exact fields n a1 w aF [] hn (by rw[if_neg hk]) Ii I4 Jp Mb Mu Ig (Gr.refl Jz) IL
 have hused':(gL (jI g kept cx T flex v6++(gwFds g cx fs nm.s++bd g cx fs T kt nm++eK)) n0).2<=ntmps:=IL
 unfold gWrite
 refine aY ?_
 have e1:jI g kept cx T flex v6++(gwFds g cx fs nm.s++bd g cx fs T kt nm++eK)=aR 4 (.slice none 0 0)::cg 0 cx.ver T 0 g.tVer::ay 1 (fun n=>[mk (some n) (.move (tm cx.ver))]) ::
   ((if cx.hf then[ay 2 fun n=>[mk (some n) (.move (tm cx.ver)),mk (some (n+1)) (.binOp .geq g.tVer (tm n) (ki .i16 flex) 0),mk (some cx.fx) (.assign (tm (n+1)))],ay 1 fun n=>[mk (some n) (.move (tm cx.fx))]] else[]) ++
    ((if kept then[gS [cg 0 v6 T 0 g.tVer,bv (g.ap .i16) v6]] else[])++(gwFds g cx fs nm.s++bd g cx fs T kt nm++eK))):=by
  simp only[jI,List.cons_append,List.nil_append,List.append_assoc]
 rw[e1]at hused' ⊢
 have Nw:(gL ((if cx.hf then[ay 2 fun n=>[mk (some n) (.move (tm cx.ver)),mk (some (n+1)) (.binOp .geq g.tVer (tm n) (ki .i16 flex) 0),mk (some cx.fx) (.assign (tm (n+1)))],ay 1 fun n=>[mk (some n) (.move (tm cx.fx))]] else[]) ++
    ((if kept then[gS [cg 0 v6 T 0 g.tVer,bv (g.ap .i16) v6]] else[])++(gwFds g cx fs nm.s++bd g cx fs T kt nm++eK))) (n0+4+1)).2<=ntmps:=hused'
 have KX:i6 ((if kept then[gS [cg 0 v6 T 0 g.tVer,bv (g.ap .i16) v6]] else[])++(gwFds g cx fs nm.s++bd g cx fs T kt nm++eK)):=
  ax (cQ (ag (ei (ag (am _ _) (ag (am _ _) ar))) ar) ar) (ax (ax (upL_wfds g fs cx nm.s) (dL g cx fs T kt nm)) (ag (am _ _) (ag (bq _) ar)))
 have Vi:n0+4+1<=ntmps:=Nat.le_trans (ax (cQ (ag (am _ _) (ag (am _ _) ar)) ar) KX _) Nw
 refine ad (cV (x:=4) (m:=0) (k0:=0) (.inl rfl) (by omega) fun a1 HX _=>?_)
 have If:=HX.size
 refine ad (fZ (x:=cx.ver) (m:=n0) (k0:=n0) (off:=0) (by rw[HX.get 0 (by omega) (.inr (by omega))];exact h0) hF (by rw[Nat.zero_add];exact Ia) (.inl rfl) (Nat.le_refl _) (by show n0<=n0+0;omega) (by show n0+0+4<=_;omega) (by omega) fun a2 HZ Ij=>?_)
 have Iw:=HZ.size
 refine ad (aq (ah (wpList_nil ?_)))
 have hb:∀ s,s<n0->s≠4->s≠cx.ver->(a2.put (some (n0+0+4)) (a2.eval (tm cx.ver))).get s=a.get s:=fun s hs Kb Lh=>by
  rw[al (by omega),HZ.get s Lh (.inl hs),HX.get s Kb (.inr ⟨by omega,by omega⟩)]
 have OI:(a2.put (some (n0+0+4)) (a2.eval (tm cx.ver))).get cx.ver=.int .i16 ver:=by rw[al (by omega)];exact Ij
 have Nr:(a2.put (some (n0+0+4)) (a2.eval (tm cx.ver))).tmps.size=ntmps:=by rw[ab,Iw,If];exact hs
 have Q1:(a2.put (some (n0+0+4)) (a2.eval (tm cx.ver))).defers=[]:=by rw[aj,HZ.defers,HX.defers];exact hd
 show LW P _ (n0+0+4+1) _ (a2.put (some (n0+0+4)) (a2.eval (tm cx.ver))) w
 generalize a2.put (some (n0+0+4)) (a2.eval (tm cx.ver))=a3 at hb OI Nr Q1 ⊢
 by_cases hf:cx.hf=true
 ·obtain⟨LJ,MU⟩:=MT hf
  rw[if_pos hf]at Nw ⊢
  have L0:(gL ((if kept then[gS [cg 0 v6 T 0 g.tVer,bv (g.ap .i16) v6]] else[])++(gwFds g cx fs nm.s++bd g cx fs T kt nm++eK)) (n0+4+1+2+1)).2<=ntmps:=Nw
  have hn8:=Nat.le_trans (KX _) L0
  refine ad (aq (ah ?_))
  rw[aa,OI]
  refine bk (b:=decide ((flex:Int)<=ver)) (p:=ver) (q:=flex) (k:=.i16) (by rw[aa,ao (by omega)]) rfl (.inl ⟨rfl,rfl⟩) (ak (wpList_nil ?_))
  rw[aa,ao (by simp only[ab];omega)]
  refine ad (aq (ah (wpList_nil ?_)))
  refine kpt (n0+4+1+2+1) _ (by omega) (by simp only[ab];exact Nr) (by simp only[aj];exact Q1) ?_ ?_ (fun _=>?_) ?_ L0
  ·rw[al (by show(0:Nat)≠n0+0+4+1+2;omega),al (by omega),al (by omega),al (by omega),hb 0 (by omega) (by omega) (by omega)];exact h0
  ·rw[al (by show cx.ver≠n0+0+4+1+2;omega),al (by omega),al (by omega),al (by omega)];exact OI
  ·rw[al (by show cx.fx≠n0+0+4+1+2;omega),ao (by simp only[ab];omega)]
  ·rw[al (by show(1:Nat)≠n0+0+4+1+2;omega),al (by omega),al (by omega),al (by omega),hb 1 (by omega) (by omega) (by omega)];exact h1
 ·rw[if_neg hf]at Nw ⊢
  exact kpt (n0+4+1) a3 (by omega) Nr Q1 ((hb 0 (by omega) (by omega) (by omega)).trans h0) OI (fun h=>absurd h hf) ((hb 1 (by omega) (by omega) (by omega)).trans h1) Nw
end
section
variable {P:Program}
theorem dp (t:Nat)(a:Act):bj [t] a=a.get t:=rfl
theorem iR {ops:Array Oper}{Q:Exit->Act->World->Prop}{r:List Oper}{a:Act}{w:World}{d:Option Nat}{x:Operand}{i:Nat}{vs:Array Value}{v:Value}(hx:a.eval x=.tuple vs)(hv:vs[i]?=some v)(h:wpList P ops Q r (a.put d v) w):wpList P ops Q (mk d (.extract x i)::r) a w:=by
 refine aB ?_ h
 simp[execOp,mk,hx,Instr.extract,hv]
theorem wS {ops:Array Oper}{Q:Exit->Act->World->Prop}{r:List Oper}{a:Act}{w:World}{d:Option Nat}{x:Operand}{T:Nat}{ms:Array (String × TypeId)}{v:Value}{b:Bool}(hT:P.underlying T=some (.interface ms))(hx:a.eval x=v)(hv:(v=.nilIface/\b=false) \/ ((∃ t y,v=.iface t y)/\b=true))
  (h:wpList P ops Q r (a.put d (.bool b)) w):wpList P ops Q (mk d (.binOp .neq T x (.const .nilIface) 0)::r) a w:=by
 refine aB ?_ h
 have e2:a.eval (.const .nilIface)=.nilIface:=rfl
 have he:(eqGuard .neq T x (.const .nilIface) v .nilIface).run P w=.ok () w:=by
  rcases hv with⟨rfl,_⟩|⟨⟨t,y,rfl⟩,_⟩<;>simp[eqGuard]
 simp[execOp,mk,hx,e2,he,oR hT hv w]
theorem qa (hm:P.follows .mixedOrders=true){f nt T fD:Nat}{zv:Value}{wr:List (Nat × Value)}(hfn:FnIs P f nt [0] (cNewPtr T fD))(Iv:3<=nt)(hz:zeroOf P T=some zv)(hE:Ent P fD)(hD:DfC P fD wr)(IR:∀ p∈wr,p.1<zv.cells.size)(w:World) :
  Calls P f #[] w fun e w'=>e=.returned (pt w.heap.size 0)/\ac (fun _=>False) w w'/\w'.heap[w.heap.size]?=some (.cells (applyWr zv.cells 0 wr) T (0,0)):=by
 refine eB hm hfn (by simp) [] (by simp) fun a _ hs hd=>?_
 unfold cNewPtr
 refine az (aq (ak (wpList_nil ?_)))
 refine az (aq (cZ (zeroOf_ok hz w) (wpList_nil ?_)))
 have hb:(w.alloc (.cells zv.cells T (0,0))).heap[w.heap.size]?=some (.cells zv.cells T (0,0)):=aE _ _
 refine az (aq (aN (vs:=#[pt w.heap.size 0]) hE ?_ (hD _ w.heap.size 0 zv.cells T hb (fun p hp=>by simpa using IR p hp)) fun e w' hR=>⟨_,hR.1,wpList_nil ?_⟩))
 ·simp only[List.map_cons,List.map_nil,aa]
  rw[ao (by simp only[ab];omega)]
  rfl
 refine az (aq (ak (wpList_nil (az (.ret ⟨?_,?_,?_,hR.2.2⟩)))))
 ·simp only[aj];exact hd
 ·rw[dp,ao (by simp only[ab];omega),aa,al (by omega),ao (by simp only[ab];omega)]
  rfl
 ·have hk:ac (fun k=>w.heap.size<=k) w w':=(ac.alloc _ _ _).trans (hR.2.1.mono fun k _ hk=>by omega)
  exact hk.mono fun k hk hX=>by omega
theorem sj (hm:P.follows .mixedOrders=true){f nt T tI B te:Nat}{cur:Array Value}{x:Int}{w:World}(hfn:FnIs P f nt [] (cSetV T tI))(Iv:8<=nt)(hF:bw P T 0 tI 0 false 1)(hB:w.heap[B]?=some (.cells cur te (0,0)))(h0:0<cur.size) :
  Calls P f #[pt B 0,.int .i16 x] w fun e w'=>e=.returned (.tuple #[])/\ac (·=B) w w'/\w'.heap[B]?=some (.cells (cur.setIfInBounds 0 (.int .i16 x)) te (0,0)):=by
 refine eB hm hfn (by simp) [pt B 0,.int .i16 x] (by simp;omega) fun a harg hs hd=>?_
 have g0:=harg 0 _ rfl
 have g1:=harg 1 _ rfl
 refine .reg (ah (ah ?_))
 rw[aa,g0,aa,al (by omega),g1]
 refine aG (by rw[aa,al (by omega),ao (by omega)];rfl) ?_
 refine bN (by rw[aa,ao (by simp only[ab];omega)]) hF ?_
 refine bm (g:=B) (o:=0) (cur:=cur) (t:=te) (v:=.int .i16 x) (vs:=[.int .i16 x]) (by rw[aa,ao (by simp only[ab];omega)]) (by rw[aa,al (by omega),al (by omega),ao (by simp only[ab];omega)]) rfl (hF.var.size w) hB (by simp only[List.length_cons,List.length_nil];omega) (by simp[Value.oneCell']) (wpList_nil ⟨?_,rfl,ac.setRow _ _ _ _ rfl,?_⟩)
 ·simp only[aj];exact hd
 ·rw[setRow_heap _ _ _ _ _ _ hB,gF h0]
theorem sR (hm:P.follows .mixedOrders=true){f nt:Nat}{k:Int}{x:Value}{w:World}(hfn:FnIs P f nt [2] (cMaxV k))(Iv:3<=nt):Calls P f #[x] w fun e w'=>e=.returned (.int .i16 k)/\ac (fun _=>False) w w':=by
 refine eB hm hfn (by simp) [x] (by simp;omega) fun a harg hs hd=>?_
 refine az (aq (ak (wpList_nil (az (aq (ak (wpList_nil (az (.ret ⟨?_,?_,ac.refl _ _⟩)))))))))
 ·simp only[aj];exact hd
 ·rw[dp,ao (by simp only[ab];omega)]
  rfl
theorem vJ (hm:P.follows .mixedOrders=true){f nt tI16 tInt f1 f2:Nat}{k:Nat}{x:Value}{w:World}(hI:P.underlying tI16=some (.int .i16))(LE:P.underlying tInt=some (.int .i64))(hk:k<32768)(hfn:FnIs P f nt [0] (cMax tI16 tInt f1 f2))(Iv:4<=nt)
  (h1E:Ent P f1) (h1:Calls P f1 #[] w fun e w'=>e=.returned x/\ac (fun _=>False) w w') (h2E:Ent P f2) (h2:∀ w,Calls P f2 #[x] w fun e w'=>e=.returned (.int .i16 (k:Int))/\ac (fun _=>False) w w'):Calls P f #[] w fun e w'=>e=.returned (.int .i64 (k:Int))/\ac (fun _=>False) w w':=by
 refine eB hm hfn (by simp) [] (by simp) fun a _ hs hd=>?_
 refine az (aq (ak (wpList_nil (az (aq ?_)))))
 refine aN (vs:=#[]) h1E rfl h1 fun e w1 hR1=>⟨_,hR1.1,?_⟩
 refine aN (vs:=#[x]) h2E ?_ (h2 w1) fun e w2 JD=>⟨_,JD.1,?_⟩
 ·simp only[List.map_cons,List.map_nil,aa]
  rw[ao (by simp only[ab];omega)]
 refine aL (k:=.i16) (k':=.i64) (m:=(k:Int)) (by rw[aa,ao (by simp only[ab];omega)]) hI LE ?_
 have hw:IntKind.i64.wrap (k:Int)=(k:Int):=by simp[IntKind.wrap,IntKind.bits,IntKind.signed];omega
 rw[hw]
 refine ak (wpList_nil (az (.ret ⟨?_,?_,hR1.2.trans JD.2⟩)))
 ·simp only[aj];exact hd
 ·rw[dp,ao (by simp only[ab];omega),aa,ao (by simp only[ab];omega)]
theorem vu (hm:P.follows .mixedOrders=true){f nt f2:Nat}{x y:Value}{w:World}{RR:Value->World->Prop}(hfn:FnIs P f nt [4] (cRdF f2))(Iv:8<=nt)(hE:Ent P f2)(h:Calls P f2 #[x,y,.bool false] w fun e w'=>∃ v,e=.returned v/\RR v w'):Calls P f #[x,y] w fun e w'=>∃ v,e=.returned v/\RR v w':=by
 refine eB hm hfn (by simp) [x,y] (by simp;omega) fun a harg hs hd=>?_
 have g0:=harg 0 _ rfl
 have g1:=harg 1 _ rfl
 refine az (aq (ak (wpList_nil (az (aq (ah (ah ?_)))))))
 refine aN (vs:=#[x,y,.bool false]) hE ?_ h fun e w1 hR=>?_
 ·simp only[List.map_cons,List.map_nil,aa]
  rw[al (by omega),ao (by simp only[ab];omega),al (by omega),g0,ao (by simp only[ab];omega),al (by omega),al (by omega),g1]
  rfl
 obtain⟨v,he,hv⟩:=hR
 refine⟨v,he,ak (wpList_nil (az (.ret ⟨?_,v,?_,hv⟩)))⟩
 ·simp only[aj];exact hd
 ·rw[dp,ao (by simp only[ab];omega),aa,ao (by simp only[ab];omega)]
theorem Ah {k:IntKind}{A:Nat}{x y:Int}(hy:y≠0)(w:World):(binOp .rem A (.int k x) (.int k y)).run P w=.ok (.int k (x.tmod y)) w:=by
 simp[binOp,Op.intDiv,hy]
theorem uS (hm:P.follows .mixedOrders=true){f nt tU8 tInt x most:Nat}{w:World}(h8:P.underlying tU8=some (.int .u8))(LE:P.underlying tInt=some (.int .i64))(hx:x<256)(JA:most<32768)(hfn:FnIs P f nt [4] (cVer tU8 tInt))(Iv:10<=nt) :
  Calls P f #[.int .u8 x,.int .i64 most] w fun e w'=>e=.returned (.int .i64 ((x%(most+1):Nat):Int))/\ac (fun _=>False) w w':=by
 refine eB hm hfn (by simp) [.int .u8 x,.int .i64 most] (by simp;omega) fun a harg hs hd=>?_
 have g0:=harg 0 _ rfl
 have g1:=harg 1 _ rfl
 refine az (aq (ak (wpList_nil (az (aq (ah ?_))))))
 rw[aa,al (by omega),g0]
 refine aL (k:=.u8) (k':=.i64) (m:=x) (by rw[aa,ao (by simp only[ab];omega)]) h8 LE (ah ?_)
 have hw:IntKind.i64.wrap (x:Int)=(x:Int):=by simp[IntKind.wrap,IntKind.bits,IntKind.signed];omega
 rw[hw,aa,al (by omega),al (by omega),al (by omega),g1]
 have Ka:IntKind.i64.wrap ((most:Int)+1)=((most+1:Nat):Int):=by simp[IntKind.wrap,IntKind.bits,IntKind.signed];omega
 refine co (k:=.i64) (m:=most) (n:=1) (v:=.int .i64 ((most+1:Nat):Int)) (by rw[aa,ao (by simp only[ab];omega)]) rfl (by simp) (by simp[binOp,Op.intArith,Ka]) ?_
 have UI:(binOp .rem tInt (.int .i64 (x:Int)) (.int .i64 ((most+1:Nat):Int))).run P w=.ok (.int .i64 ((x%(most+1):Nat):Int)) w:=by
  have h1:=Ah (P:=P) (k:=.i64) (A:=tInt) (x:=(x:Int)) (y:=((most+1:Nat):Int)) (by omega) w
  have h2:(x:Int).tmod ((most+1:Nat):Int)=((x%(most+1):Nat):Int):=(Int.ofNat_tmod x (most+1)).symm
  rw[h2]at h1
  exact h1
 refine co (k:=.i64) (m:=x) (n:=((most+1:Nat):Int)) (by rw[aa,al (by omega),al (by omega),ao (by simp only[ab];omega)]) (by rw[aa,ao (by simp only[ab];omega)]) (by simp) UI ?_
 refine ak (wpList_nil (az (.ret ⟨?_,?_,ac.refl _ _⟩)))
 ·simp only[aj];exact hd
 ·rw[dp,ao (by simp only[ab];omega),aa,ao (by simp only[ab];omega)]
theorem jm {tSl te tx ty:Nat}(ot:OctT P tSl te){x:Value}{w:World}(hs:Src P 1 tx x 0 [] w):(Builtin.append_ #[tSl,tx] ty #[aF,x]).run P w=.ok aF w:=by
 obtain⟨i,z,hi,hz,Ii,MD,K7⟩:=ot.info
 have ht:=ot.und
 have h1:=hs.len
 have h2:=hs.cells
 rcases hs.kind with⟨e',hk⟩|hk<;>simp[aF,Builtin.append_,run_underlying ht,run_underlying hk,sizeOf,typeInfo,hi,Ii,h1,h2]
end
section
variable {P:Program} {te:Nat}
theorem ci.form {w:World}{X:Nat->Prop}{v:Value}{l:Bs}(h:ci w X v l):∃ base c,v=.slice base l.length c/\(l=[] \/ ∃ b o,base=some ⟨b,o,none⟩/\ez w b o l):=by
 rcases h with⟨rfl,rfl⟩|⟨b,o,c,rfl,_,_,_,_,ho⟩
 ·exact⟨none,0,rfl,.inl rfl⟩
 ·exact⟨some ⟨b,o,none⟩,c,rfl,.inr ⟨b,o,rfl,ho⟩⟩
theorem sk (hm:P.follows .mixedOrders=true){f nt tSl tU8 tInt:Nat}(ot:OctT P tSl tU8)(h8:bc P tU8 false 1)(hfn:FnIs P f nt [4] (cSame tSl tU8 tInt))(Iv:26<=nt){w:World}{X:Nat->Prop}{va vb:Value}{la lb:Bs}(ha:ci w X va la)(hb:ci w X vb lb)(OA:la.length<=maxLen) :
  Calls P f #[va,vb] w fun e w'=>e=.returned (.bool (decide (la=lb)))/\ac (fun _=>False) w w':=by
 obtain⟨ba,ca,rfl,hoa⟩:=ha.form
 obtain⟨bb,cb,rfl,hob⟩:=hb.form
 refine eB hm hfn (by simp) [_,_] (by simp;omega) fun a harg hs hd=>?_
 have g0:=harg 0 _ rfl
 have g1:=harg 1 _ rfl
 have retF:∀ (a1:Act) (w1:World) (N:Act->World->Prop) (b:Bool),a1.tmps.size=nt->a1.defers=[]->ac (fun _=>False) w w1->b=decide (la=lb)->aK P (BT b) (Rt N (fun a' w'=>a'.defers=[]/\(Ending.returned (bj [4] a')=.returned (.bool (decide (la=lb)))/\ac (fun _=>False) w w'))) a1 w1:=by
  intro a1 w1 N b If Ks hk JT
  refine az (cs:=[.ret]) (aq (ak (wpList_nil (.ret ⟨?_,?_,hk⟩))))
  ·simp only[aj];exact Ks
  ·rw[dp,ao (by omega),JT]
   rfl
 unfold cSame
 refine az (aq (ak (wpList_nil ?_)))
 refine az ?_
 rw[aO]
 have Ip:∀ (b:Bool),b=decide (la.length≠lb.length)->∀ (Y:Act->World->Prop) (E:Act->World->Prop),(∀ a1,a1.get 10=.bool b->a1.get 0=.slice ba la.length ca->a1.get 1=.slice bb lb.length cb->a1.tmps.size=nt->a1.defers=[]->Y a1 w) ->
   aK P (rg [mk (some 6) (.move (tm 0)),bi (some 7) .len [tm 6] [tSl] tInt,mk (some 8) (.move (tm 1)),bi (some 9) .len [tm 8] [tSl] tInt,mk (some 10) (.binOp .neq tInt (tm 7) (tm 9) 0)]) (Rt Y E) (a.put (some 4) (Act.eval a (.const (.bool false)))) w:=by
  intro b JT Y E hY
  refine .reg (ah ?_)
  rw[aa,al (by omega),g0]
  refine dV (base:=ba) (n:=la.length) (c:=ca) (by rw[aa,ao (by simp only[ab];omega)]) ot.und (ah ?_)
  rw[aa,al (by omega),al (by omega),al (by omega),g1]
  refine dV (base:=bb) (n:=lb.length) (c:=cb) (by rw[aa,ao (by simp only[ab];omega)]) ot.und ?_
  refine bk (b:=b) (p:=la.length) (q:=lb.length) (k:=.i64) (by rw[aa,al (by omega),al (by omega),ao (by simp only[ab];omega)]) (by rw[aa,ao (by simp only[ab];omega)]) (.inr (.inr (.inr (.inr (.inr ⟨rfl,by rw[JT];exact decide_eq_decide.2 (by omega)⟩))))) (wpList_nil (hY _ ?_ ?_ ?_ ?_ ?_))
  ·rw[ao (by simp only[ab];omega)]
  ·rw[al (by omega),al (by omega),al (by omega),al (by omega),al (by omega),al (by omega)];exact g0
  ·rw[al (by omega),al (by omega),al (by omega),al (by omega),al (by omega),al (by omega)];exact g1
  ·simp only[ab];exact hs
  ·simp only[aj];exact hd
 by_cases Kl:la.length≠lb.length
 ·refine .seq (Ip true (by simp[Kl]) _ _ fun a1 LG _ _ If Ks=>?_) (fun a1 w1 hh=>hh) (fun e a w he hq=>by cases e<;>first|exact absurd rfl he|exact hq|exact hq.elim)
  refine .condT LG (retF a1 w _ false If Ks (ac.refl _ _) ?_)
  have:la≠lb:=fun h=>Kl (by rw[h])
  simp[this]
 have Ib:la.length=lb.length:=by omega
 refine .seq (Ip false (by simp[Ib]) _ _ fun a1 LG e0 e1 If Ks=>?_) (fun a1 w1 hh=>hh) (fun e a w he hq=>by cases e<;>first|exact absurd rfl he|exact hq|exact hq.elim)
 refine .condF LG (.skip (az ?_))
 rw[aO]
 refine .seq (R:=Rt (fun a2 w2=>a2.get 0=.slice ba la.length ca/\a2.get 1=.slice bb lb.length cb/\a2.get 12=.int .i64 (la.length:Int)/\a2.get 13=.int .i64 ((0:Nat):Int)/\a2.tmps.size=nt/\a2.defers=[]/\w2=w) fun _ _=>False) (.reg (ah ?_)) (fun a2 w2 hh=>?_) (fun e a w he hq=>by cases e<;>first|exact absurd rfl he|exact hq.elim)
 ·rw[aa,e0]
  refine dV (base:=ba) (n:=la.length) (c:=ca) (by rw[aa,ao (by omega)]) ot.und (ah (wpList_nil ⟨?_,?_,?_,?_,?_,?_,rfl⟩))
  ·rw[al (by omega),al (by omega),al (by omega)];exact e0
  ·rw[al (by omega),al (by omega),al (by omega)];exact e1
  ·rw[al (by omega),ao (by simp only[ab];omega)]
  ·rw[ao (by simp only[ab];omega)];rfl
  ·simp only[ab];exact If
  ·simp only[aj];exact Ks
 obtain⟨e0,e1,e12,e13,Iw,IG,rfl⟩:=hh
 refine .block (.loop (fun a3 w3=>∃ j:Nat,j<=la.length/\a3.get 0=.slice ba la.length ca/\a3.get 1=.slice bb lb.length cb/\a3.get 12=.int .i64 (la.length:Int)/\a3.get 13=.int .i64 (j:Int)/\a3.tmps.size=nt/\a3.defers=[]/\ac (fun _=>False) w2 w3/\la.take j=lb.take j)
  (fun a3 _=>((la.length:Int)-(match a3.get 13 with|.int _ q=>q|_=>0)).toNat) ⟨0,by omega,e0,e1,e12,e13,Iw,IG,ac.refl _ _,by simp⟩ ?_)
 rintro a3 w3 ⟨j,hj,f0,f1,f12,f13,IJ,J9,Il,Lq⟩
 have Nx:∀ (b:Bool) (E:Act->World->Prop),b=decide ((j:Int)<(la.length:Int))->aK P (rg [mk (some 14) (.binOp .lss tInt (tm 13) (tm 12) 0)]) (Rt (fun a' w'=>a'.get 14=.bool b/\a'=a3.put (some 14) (.bool b)/\w'=w3) E) a3 w3:=by
  intro b E JT
  refine .reg (bk (b:=b) (p:=j) (q:=la.length) (k:=.i64) f13 f12 (.inr (.inr (.inl ⟨rfl,JT⟩))) (wpList_nil ⟨ao (by omega),rfl,rfl⟩))
 by_cases Id:j<la.length
 ·refine .seq (Nx true _ (by simp[Id])) (fun a4 w4 hh=>?_) (fun e a w he hq=>by cases e<;>first|exact absurd rfl he|exact hq|exact hq.elim)
  obtain⟨LF,rfl,rfl⟩:=hh
  refine .seq (R:=Rt (fun a' w'=>a'=a3.put (some 14) (.bool true)/\w'=w4) fun _ _=>False) (.condT LF (.skip ⟨rfl,rfl⟩)) (fun a5 w5 hh=>?_) (fun e a w he hq=>by cases e<;>first|exact absurd rfl he|exact hq.elim)
  obtain⟨rfl,rfl⟩:=hh
  refine .seq (R:=Rt (fun a6 w6=>a6.get 0=.slice ba la.length ca/\a6.get 1=.slice bb lb.length cb/\a6.get 12=.int .i64 (la.length:Int)/\a6.get 13=.int .i64 (j:Int)/\a6.tmps.size=nt/\a6.defers=[]/\ac (fun _=>False) w2 w6/\la.take (j+1)=lb.take (j+1)) (fun a' w'=>a'.defers=[]/\(Ending.returned (bj [4] a')=.returned (.bool (decide (la=lb)))/\ac (fun _=>False) w2 w')))
   (.block ?_) (fun a6 w6 hh=>?_) (fun e a w he hq=>by cases e<;>first|exact absurd rfl he|exact hq|exact hq.elim)
  ·-- the round
   refine .seq (R:=Rt (fun a6 w6=>a6.get 0=.slice ba la.length ca/\a6.get 1=.slice bb lb.length cb/\a6.get 12=.int .i64 (la.length:Int)/\a6.get 13=.int .i64 (j:Int)/\a6.get 5=.int .i64 (j:Int)/\a6.tmps.size=nt/\a6.defers=[]/\w6=w5) fun _ _=>False) (.reg (ah ?_)) (fun a6 w6 hh=>?_) (fun e a w he hq=>by cases e<;>first|exact absurd rfl he|exact hq.elim)
   ·rw[aa,al (by omega),f13]
    refine ak (wpList_nil ⟨?_,?_,?_,?_,?_,?_,?_,rfl⟩)
    ·rw[al (by omega),al (by omega),al (by omega)];exact f0
    ·rw[al (by omega),al (by omega),al (by omega)];exact f1
    ·rw[al (by omega),al (by omega),al (by omega)];exact f12
    ·rw[al (by omega),al (by omega),al (by omega)];exact f13
    ·rw[ao (by simp only[ab];omega),aa,ao (by simp only[ab];omega)]
    ·simp only[ab];exact IJ
    ·simp only[aj];exact J9
   obtain⟨k0,k1,k12,k13,k5,T5,Qr,rfl⟩:=hh
   have Jk:dq (pD tSl tU8)=[false,false,false,false,false,false,false,false,false]:=by kernel_rfl
   obtain⟨xa,Tt⟩:∃ x,la[j]?=some x:=⟨la[j],List.getElem?_eq_getElem Id⟩
   obtain⟨xb,Ul⟩:∃ x,lb[j]?=some x:=⟨lb[j]'(by omega),List.getElem?_eq_getElem (by omega)⟩
   have Wl:la≠[]:=fun h=>by rw[h]at Id;simp at Id
   have Wb:lb≠[]:=fun h=>by rw[Ib,h]at Id;simp at Id
   obtain⟨pa,oa,rfl,UX⟩:=hoa.resolve_left Wl
   obtain⟨pb,ob,rfl,UW⟩:=hob.resolve_left Wb
   have hca:∀ w':World,w'.heap=w6.heap->w'.cell? ⟨pa,oa+j*1,none⟩=some (.int .u8 (xa.toNat:Int)):=fun w' hw=>by
    have h1:=Il.cell id (UX j xa Tt)
    rw[Nat.mul_one]
    simpa[World.cell?,hw]using h1
   have hcb:∀ w':World,w'.heap=w6.heap->w'.cell? ⟨pb,ob+j*1,none⟩=some (.int .u8 (xb.toNat:Int)):=fun w' hw=>by
    have h1:=Il.cell id (UW j xb Ul)
    rw[Nat.mul_one]
    simpa[World.cell?,hw]using h1
   refine .seq (R:=Rt (fun a7 w7=>a7.get 24=.bool (decide (xa≠xb))/\a7.get 0=.slice (some ⟨pa,oa,none⟩) la.length ca/\a7.get 1=.slice (some ⟨pb,ob,none⟩) lb.length cb/\a7.get 12=.int .i64 (la.length:Int)/\a7.get 13=.int .i64 (j:Int)/\a7.tmps.size=nt/\a7.defers=[]/\w7=w6.drew) fun _ _=>False) (.drw (fun w'=>w'.heap=w6.heap) ?_) (fun a7 w7 hh=>?_) (fun e a w he hq=>by cases e<;>first|exact absurd rfl he|exact hq.elim)
   ·rw[Jk]
    show eT P _ (pD tSl tU8) a6 fun af=>eg P _ _ [] af w6.drew
    refine fq (fq ?_)
    rw[aa,k0,aa,al (by omega),k5]
    refine gQ (b:=pa) (o:=oa) (m:=la.length) (c:=ca) (i:=j) (k:=.i64) (sz:=1) (by rw[aa,al (by omega),ao (by omega)]) (by rw[aa,ao (by simp only[ab];omega)]) Id ot.und h8.size ?_
    refine eL (p:=⟨pa,oa+j*1,none⟩) (v:=.int .u8 (xa.toNat:Int)) (by rw[aa,ao (by simp only[ab];omega)]) h8.agg hca (fq (fq ?_))
    rw[aa,al (by omega),al (by omega),al (by omega),al (by omega),k1,aa,al (by omega),al (by omega),al (by omega),al (by omega),al (by omega),k5]
    refine gQ (b:=pb) (o:=ob) (m:=lb.length) (c:=cb) (i:=j) (k:=.i64) (sz:=1) (by rw[aa,al (by omega),ao (by simp only[ab];omega)]) (by rw[aa,ao (by simp only[ab];omega)]) (by omega) ot.und h8.size ?_
    refine eL (p:=⟨pb,ob+j*1,none⟩) (v:=.int .u8 (xb.toNat:Int)) (by rw[aa,ao (by simp only[ab];omega)]) h8.agg hcb ?_
    refine oh (k:=.u8) (k2:=.u8) (m:=(xa.toNat:Int)) (m2:=(xb.toNat:Int)) (v:=.bool (decide (xa≠xb))) ?_ ?_ ?_ ⟨rfl,?_,?_,?_,?_,?_,?_,?_,rfl⟩
    ·rw[aa,al (by omega),al (by omega),al (by omega),al (by omega),ao (by simp only[ab];omega)]
    ·rw[aa,ao (by simp only[ab];omega)]
    ·intro w'
     refine ik (.inr (.inr (.inr (.inr (.inr ⟨rfl,?_⟩)))))
     have:xa≠xb ↔ (xa.toNat:Int)≠(xb.toNat:Int):=by
      rw[Ne,Ne,UInt8.toNat_inj.symm];omega
     simp only[this]
    ·rw[ao (by simp only[ab];omega)]
    ·iterate 9 rw[al (by omega)]
     exact k0
    ·iterate 9 rw[al (by omega)]
     exact k1
    ·iterate 9 rw[al (by omega)]
     exact k12
    ·iterate 9 rw[al (by omega)]
     exact k13
    ·simp only[ab];exact T5
    ·simp only[aj];exact Qr
   ·obtain⟨Ui,l0,l1,l12,l13,Rr,Qq,rfl⟩:=hh
    have Nl:ac (fun _=>False) w2 w6.drew:=Il.trans (ac.drew _ _)
    have hta:la.take (j+1)=la.take j++[xa]:=by rw[List.take_add_one,Tt];rfl
    have Oz:lb.take (j+1)=lb.take j++[xb]:=by rw[List.take_add_one,Ul];rfl
    by_cases hxx:xa=xb
    ·refine .condF (by rw[aa,Ui];simp[hxx]) (.skip ?_)
     exact⟨l0,l1,l12,l13,Rr,Qq,Nl,by rw[hta,Oz,Lq,hxx]⟩
    ·refine .condT (by rw[aa,Ui];simp[hxx]) (.mono (retF a7 w6.drew (fun _ _=>False) false Rr Qq Nl ?_) fun e a w hq=>by cases e<;>first|exact hq|exact hq.elim)
     have:la≠lb:=fun h=>by rw[h,Ul]at Tt;exact hxx (Option.some.inj Tt).symm
     simp[this]
  ·obtain⟨l0,l1,l12,l13,Rr,Qq,Nl,ht7⟩:=hh
   have IR:IntKind.i64.wrap ((j:Int)+1)=((j+1:Nat):Int):=by simp only[maxLen]at OA;simp[IntKind.wrap,IntKind.bits,IntKind.signed];omega
   refine .reg (co (v:=.int .i64 ((j+1:Nat):Int)) (k:=.i64) (m:=j) (n:=1) l13 rfl (by simp) (by simp[binOp,Op.intArith,IR]) (ah (wpList_nil ?_)))
   rw[aa,ao (by omega)]
   have hg:((a6.put (some 25) (.int .i64 ((j+1:Nat):Int))).put (some 13) (.int .i64 ((j+1:Nat):Int))).get 13=.int .i64 ((j+1:Nat):Int):=ao (by simp only[ab];omega)
   refine⟨⟨j+1,by omega,?_,?_,?_,hg,by simp only[ab];exact Rr,by simp only[aj];exact Qq,Nl,ht7⟩,?_⟩
   ·rw[al (by omega),al (by omega)];exact l0
   ·rw[al (by omega),al (by omega)];exact l1
   ·rw[al (by omega),al (by omega)];exact l12
   ·rw[hg,f13]
    simp only
    omega
 ·have JQ:j=la.length:=by omega
  subst JQ
  refine .seq (Nx false _ (by simp)) (fun a4 w4 hh=>?_) (fun e a w he hq=>by cases e<;>first|exact absurd rfl he|exact hq|exact hq.elim)
  obtain⟨LF,rfl,rfl⟩:=hh
  refine .seq (R:=fun e a w=>e≠.normal/\Exit.inBlock 0 (Rt (fun a' w'=>a'.tmps.size=nt/\a'.defers=[]/\ac (fun _=>False) w2 w') fun _ _=>False) e a w) (.condF LF (.exit ?_)) (fun a2 w2 hh=>absurd rfl hh.1) (fun e a w he hq=>?_)
  ·simp only[Exit.inBlock,if_true]
   exact⟨by simp,by simp only[ab];exact IJ,by simp only[aj];exact J9,Il⟩
  ·rw[cq he]
   have Lk:=hq.2
   cases e with
   | normal=>exact absurd rfl he
   | exit i=>
    simp only[Exit.inBlock]at Lk ⊢
    split at Lk
    ·rename_i hi
     rw[if_pos hi]
     obtain⟨N2,MC,Jc⟩:=Lk
     refine az (aq (ak (wpList_nil (.ret ⟨?_,?_,Jc⟩))))
     ·simp only[aj];exact MC
     ·rw[dp,ao (by omega)]
      have:la=lb:=by
       rw[List.take_length]at Lq
       rw[Lq,Ib,List.take_length]
      simp[this]
      rfl
    ·exact Lk.elim
   | _=>exact Lk.elim
end
structure St (n:Nat)(a:Act)(l:List (Nat × Value)):Prop where
 size:a.tmps.size=n
 defers:a.defers=[]
 get:∀ i v,l.lookup i=some v->a.get i=v
def Hd (l:List (Nat × Value))(x:Operand)(v:Value):Prop:=∀ (n:Nat) (a:Act),St n a l->a.eval x=v
section
variable {P:Program} {ops:Array Oper} {Q:Exit->Act->World->Prop} {r:List Oper} {n:Nat} {a:Act} {w:World} {l:List (Nat × Value)}
theorem Hd.t {i:Nat}{v:Value}(h:l.lookup i=some v):Hd l (tm i) v:=fun _ _ hs=>hs.get i v h
theorem Hd.c {v:Value}:Hd l (.const v) v:=fun _ _ _=>rfl
theorem Hd.i {k:IntKind}{x:Int}:Hd l (ki k x) (.int k x):=fun _ _ _=>rfl
theorem St.put (h:St n a l){d:Nat}(v:Value)(hd:d<n):St n (a.put (some d) v) ((d,v)::l):=by
 refine⟨by rw[ab];exact h.size,by rw[aj];exact h.defers,fun i x hx=>?_⟩
 simp only[List.lookup_cons]at hx
 by_cases hi:i=d
 ·subst hi
  simp only[beq_self_eq_true]at hx
  rw[ao (by rw[h.size];exact hd)]
  exact Option.some.inj hx
 ·have:(i==d)=false:=by simp[hi]
  rw[this]at hx
  rw[fH _ _ _ _ hi]
  exact h.get i x hx
theorem St.sub (h:St n a l)(m:List (Nat × Value))(hm:∀ p∈m,l.lookup p.1=some p.2):St n a m:=by
 refine⟨h.size,h.defers,fun i v hv=>h.get i v ?_⟩
 have:(i,v)∈m:=by
  clear hm
  induction m with
  | nil=>cases hv
  | cons p m ih=>
   obtain⟨q,u⟩:=p
   simp only[List.lookup_cons]at hv
   by_cases hi:i=q
   ·subst hi
    simp only[beq_self_eq_true]at hv
    rw[<- Option.some.inj hv]
    exact List.mem_cons_self ..
   ·have:(i==q)=false:=by simp[hi]
    rw[this]at hv
    exact List.mem_cons_of_mem _ (ih hv)
 exact hm (i,v) this
def HN (l:List (Nat × Value)):List (Nat × Value)->Prop
 | []=>True
 | p::m=>l.lookup p.1=some p.2/\HN l m
theorem St.pick (h:St n a l){m:List (Nat × Value)}(hm:HN l m):St n a m:=h.sub m (by
 induction m with
 | nil=>intro p hp;cases hp
 | cons q m ih=>
  intro p hp
  rcases List.mem_cons.1 hp with rfl|hp
  ·exact hm.1
  ·exact ih hm.2 p hp)
theorem ai (h:St n a l){d:Nat}{x:Operand}{v:Value}(hx:Hd l x v)(hd:d<n)(k:∀ a',St n a' ((d,v)::l)->wpList P ops Q r a' w):wpList P ops Q (mk (some d) (.move x)::r) a w:=
 ah (k _ (by rw[hx n a h];exact h.put v hd))
theorem ae (h:St n a l){d:Nat}{x:Operand}{v:Value}(hx:Hd l x v)(hd:d<n)(k:∀ a',St n a' ((d,v)::l)->wpList P ops Q r a' w):wpList P ops Q (mk (some d) (.assign x)::r) a w:=
 ak (k _ (by rw[hx n a h];exact h.put v hd))
def aW:BinOp->Int->Int->Bool
 | .geq,p,q=>decide (q<=p)
 | .leq,p,q=>decide (p<=q)
 | .lss,p,q=>decide (p<q)
 | .gtr,p,q=>decide (q<p)
 | .eql,p,q=>decide (p=q)
 | _,p,q=>decide (p≠q)
def rq (o:BinOp):Bool:=match o with|.geq|.leq|.lss|.gtr|.eql|.neq=>true|_=>false
theorem mQ {o:BinOp}(h:rq o=true)(p q:Int):(o=.geq/\aW o p q=decide (q<=p)) \/ (o=.leq/\aW o p q=decide (p<=q)) \/ (o=.lss/\aW o p q=decide (p<q)) \/ (o=.gtr/\aW o p q=decide (q<p)) \/ (o=.eql/\aW o p q=decide (p=q)) \/ (o=.neq/\aW o p q=decide (p≠q)):=by
 cases o<;>simp[rq]at h<;>simp[aW]
theorem br (h:St n a l){d:Nat}{x y:Operand}{o:BinOp}{T:Nat}{k:IntKind}{p q:Int}(ho:rq o=true)(hx:Hd l x (.int k p))(hy:Hd l y (.int k q))(hd:d<n)(c:∀ a',St n a' ((d,.bool (aW o p q))::l)->wpList P ops Q r a' w) :
  wpList P ops Q (mk (some d) (.binOp o T x y 0)::r) a w:=
 bk (hx n a h) (hy n a h) (mQ ho p q) (c _ (h.put _ hd))
theorem dn (h:St n a l){d:Nat}{x y:Operand}{o:BinOp}{T:Nat}{k:IntKind}{p q:Int}{v:Value}(hx:Hd l x (.int k p))(hy:Hd l y (.int k q))(ho:o≠.shl/\o≠.shr)(Im:(binOp o T (.int k p) (.int k q)).run P w=.ok v w)(hd:d<n)(c:∀ a',St n a' ((d,v)::l)->wpList P ops Q r a' w) :
  wpList P ops Q (mk (some d) (.binOp o T x y 0)::r) a w:=
 co (hx n a h) (hy n a h) ho Im (c _ (h.put _ hd))
theorem dZ {k:IntKind}{A:Nat}{x y:Int}(w:World):(binOp .add A (.int k x) (.int k y)).run P w=.ok (.int k (k.wrap (x+y))) w:=by simp[binOp,Op.intArith]
theorem j6 {k:IntKind}{A:Nat}{x y:Int}(w:World):(binOp .sub A (.int k x) (.int k y)).run P w=.ok (.int k (k.wrap (x-y))) w:=by simp[binOp,Op.intArith]
theorem xJ {k:IntKind}{A:Nat}{x y:Int}(w:World):(binOp .mul A (.int k x) (.int k y)).run P w=.ok (.int k (k.wrap (x*y))) w:=by simp[binOp,Op.intArith]
theorem dP (h:St n a l){d:Nat}{x:Operand}{S T:Nat}{k k':IntKind}{m:Int}(hx:Hd l x (.int k m))(hS:P.underlying S=some (.int k))(hT:P.underlying T=some (.int k'))(hd:d<n)(c:∀ a',St n a' ((d,.int k' (k'.wrap m))::l)->wpList P ops Q r a' w) :
  wpList P ops Q (mk (some d) (.convert S T x)::r) a w:=aL (hx n a h) hS hT (c _ (h.put _ hd))
theorem nr (h:St n a l){d:Nat}{x:Operand}{T:Nat}{b:Bool}(hx:Hd l x (.bool b))(hd:d<n)(c:∀ a',St n a' ((d,.bool !b)::l)->wpList P ops Q r a' w) :
  wpList P ops Q (mk (some d) (.unOp .not T x)::r) a w:=mY (hx n a h) (c _ (h.put _ hd))
theorem cr (h:St n a l){d:Nat}{x y z:Operand}{b:Bool}{u v:Value}(hx:Hd l x (.bool b))(hy:Hd l y u)(hz:Hd l z v)(hd:d<n)(c:∀ a',St n a' ((d,if b then u else v)::l)->wpList P ops Q r a' w) :
  wpList P ops Q (mk (some d) (.pick x y z)::r) a w:=iQ (hx n a h) (by rw[hy n a h,hz n a h];exact c _ (h.put _ hd))
theorem iW (h:St n a l){d i:Nat}{x:Operand}{vs:Array Value}{v:Value}(hx:Hd l x (.tuple vs))(hv:vs[i]?=some v)(hd:d<n)(c:∀ a',St n a' ((d,v)::l)->wpList P ops Q r a' w) :
  wpList P ops Q (mk (some d) (.extract x i)::r) a w:=iR (hx n a h) hv (c _ (h.put _ hd))
theorem cM (h:St n a l){d:Nat}{x:Operand}{F E ty m c:Nat}{base:Option Addr}(hx:Hd l x (.slice base m c))(hF:P.underlying F=some (.slice E))(hd:d<n)(k:∀ a',St n a' ((d,.int .i64 (m:Int))::l)->wpList P ops Q r a' w) :
  wpList P ops Q (bi (some d) .len [x] [F] ty::r) a w:=dV (hx n a h) hF (k _ (h.put _ hd))
theorem bO (h:St n a l){d:Nat}{x:Operand}{T k F B O off sz:Nat}{agg:Bool}(hx:Hd l x (pt B O))(hF:bw P T k F off agg sz)(hd:d<n)(c:∀ a',St n a' ((d,pt B (O+off))::l)->wpList P ops Q r a' w) :
  wpList P ops Q (mk (some d) (.fieldAddr T x k)::r) a w:=bN (hx n a h) hF (c _ (h.put _ hd))
theorem aU (h:St n a l){d:Nat}{x:Operand}{F B O sz:Nat}{v:Value}(hx:Hd l x (pt B O))(hF:bc P F false sz)(hv:w.cell? ⟨B,O,none⟩=some v)(hd:d<n)(c:∀ a',St n a' ((d,v)::l)->wpList P ops Q r a' w) :
  wpList P ops Q (mk (some d) (.load F x)::r) a w:=bg (hx n a h) (hF.agg w) hv (c _ (h.put _ hd))
theorem cn (h:St n a l){d:Nat}{x:Operand}{F B O:Nat}{cs:List Value}(hx:Hd l x (pt B O))(hF:bc P F true cs.length)(hv:au w B O cs)(hd:d<n)(c:∀ a',St n a' ((d,.agg cs.toArray)::l)->wpList P ops Q r a' w) :
  wpList P ops Q (mk (some d) (.load F x)::r) a w:=eC (hx n a h) (hF.agg w) (hF.size w) (fun j v hj=>hv j v hj) (c _ (h.put _ hd))
theorem dx (h:St n a l){d:Nat}{x:Operand}{T:Nat}{cs:List Value}(hx:Hd l x (.agg cs.toArray))(hd:d<n)(c:∀ a',St n a' ((d,pt w.heap.size 0)::l)->wpList P ops Q r a' (w.alloc (.cells cs.toArray T (0,0)))) :
  wpList P ops Q (mk (some d) (.box T x)::r) a w:=by
 refine aB (v:=pt w.heap.size 0) (w':=w.alloc (.cells cs.toArray T (0,0))) ?_ (c _ (h.put _ hd))
 have:=hx n a h
 simp[execOp,mk,this,Instr.box,newVar,newRow,newObj,Sem.run,pt,Value.cells]
theorem gE (h:St n a l){d:Nat}{T:Nat}{z:Value}(hz:(zeroValue T).run P w=.ok z w)(hd:d<n)(c:∀ a',St n a' ((d,pt w.heap.size 0)::l)->wpList P ops Q r a' (w.alloc (.cells z.cells T (0,0)))) :
  wpList P ops Q (mk (some d) (.alloc T)::r) a w:=cZ hz (c _ (h.put _ hd))
theorem iD (h:St n a l){x y:Operand}{F g:Nat}{cur:Array Value}{t:Nat}{cs:List Value}{v:Value}(hx:Hd l x (pt g 0))(hy:Hd l y v)(hv:v.cells.toList=cs)(hF:∀ w,(sizeOf F).run P w=.ok cs.length w)(hg:w.heap[g]?=some (.cells cur t (0,0)))(hs:cur.size=cs.length)(h1:∀ u∈cs,u.oneCell'=true)
  (c:wpList P ops Q r a (w.setRow g cs.toArray)):wpList P ops Q (mk none (.store F x y)::r) a w:=by
 refine bm (vs:=cs) (hx n a h) (hy n a h) hv (hF w) hg (by omega) h1 ?_
 have:aD cur 0 cs=cs.toArray:=by
  apply Array.ext'
  simp[aD,List.drop_of_length_le (show cur.toList.length<=cs.length by simp[hs])]
 rw[this];exact c
theorem aT (h:St n a l){d f:Nat}{args:List Operand}{vs:List Value}{R:Ending->World->Prop}(hf:Ent P f)(IH:∀ (n:Nat) (a:Act),St n a l->args.map a.eval=vs)(hc:Calls P f vs.toArray w R)(hd:d<n)
  (c:∀ e w',R e w'->∃ v,e=.returned v/\∀ a',St n a' ((d,v)::l)->wpList P ops Q r a' w'):wpList P ops Q (cl (some d) f args::r) a w:=
 aN (vs:=vs.toArray) hf (by rw[IH n a h]) hc fun e w' hR=>by
  obtain⟨v,he,hk⟩:=c e w' hR
  exact⟨v,he,hk _ (h.put _ hd)⟩
theorem eD (h:St n a l){d:Nat}{x y:Operand}{F E b o m c i sz:Nat}{k:IntKind}(hx:Hd l x (.slice (some ⟨b,o,none⟩) m c))(hy:Hd l y (.int k (i:Nat)))(hi:i<m)(hF:P.underlying F=some (.slice E))(hs:∀ w,(sizeOf E).run P w=.ok sz w)(hd:d<n)
  (q:∀ a',St n a' ((d,pt b (o+i*sz))::l)->wpList P ops Q r a' w):wpList P ops Q (mk (some d) (.indexAddr F x y)::r) a w:=bS (hx n a h) (hy n a h) hi hF (hs w) (q _ (h.put _ hd))
theorem ld (h:St n a l){d j jd:Nat}{op:Op}{b:Bool}{v:Value}{o:Oper}(ho:ops[j]?=some o)(JN:o.dst=some jd)(hj:l.lookup jd=some (.bool b))(JQ:jd<n)(Im:(execOp a.eval (mk (some d) op)).run P w=.ok (.value v) w)(hd:d<n)
  (c:∀ a',St n a' ((d,v)::l)->wpList P ops Q r a' w):wpList P ops Q (gd d op j b::r) a w:=
 ju (dt ho JN (by rw[h.size];exact JQ) (h.get _ _ hj)) Im (c _ (h.put _ hd))
theorem aM (h:St n a l){d j jd:Nat}{op:Op}{b b':Bool}{o:Oper}(ho:ops[j]?=some o)(JN:o.dst=some jd)(hj:l.lookup jd=some (.bool b'))(JQ:jd<n)(hb:b'≠b)(hd:d<n)
  (c:∀ a',St n a' ((d,undef)::l)->wpList P ops Q r a' w):wpList P ops Q (gd d op j b::r) a w:=
 jQ (dt ho JN (by rw[h.size];exact JQ) (h.get _ _ hj)) hb (c _ (h.put _ hd))
theorem aw {x y:Code}{R:Exit->Act->World->Prop}(h:aK P x (Exit.then (aK P y R) R) a w):aK P (.seq x y) R a w:=
 .seq h (fun _ _ h=>h) (fun e a w he hq=>by rwa [cq he]at hq)
theorem aP {l':List Oper}{R:Exit->Act->World->Prop}(h:wpList P l'.toArray R l' a w):aK P (rg l') R a w:=.reg h
theorem bn (h:St n a l){c:Nat}{x y:Code}{b:Bool}{R:Exit->Act->World->Prop}(hc:l.lookup c=some (.bool b))(hT:b=true->aK P x R a w)(hF:b=false->aK P y R a w):aK P (.cond (tm c) x y) R a w:=by
 cases b with
 | true=>exact .condT (h.get _ _ hc) (hT rfl)
 | false=>exact .condF (h.get _ _ hc) (hF rfl)
theorem gn (h:St n a l){c:Nat}{x y z:Code}{b:Bool}{R:Exit->Act->World->Prop}(hc:l.lookup c=some (.bool b))(hT:b=true->aK P x (Exit.then (aK P z R) R) a w)(hF:b=false->aK P y (Exit.then (aK P z R) R) a w):aK P (.seq (.cond (tm c) x y) z) R a w:=
 aw (bn h hc hT hF)
theorem ej {i:Nat}{c:Code}{R:Exit->Act->World->Prop}(I:Nat->Act->World->Prop)(top:Nat)(h0:∃ m,m<=top/\I m a w)(hI:∀ m a w,m<=top->I m a w->aK P c (Exit.then (fun a' w'=>∃ m',m'<=top/\m'<m/\I m' a' w') (Exit.inBlock i R)) a w):aK P (.block i (.loop c)) R a w:=by
 classical
 obtain⟨m0,LY,h0⟩:=h0
 let J:Act->World->Prop:=fun a w=>∃ m,m<=top/\I m a w
 have key:∀ a w,J a w->∃ m,m<=top/\I m a w/\∀ m',m'<=top->I m' a w->m<=m':=fun a w hJ=>by
  obtain⟨m,hm,hi⟩:=hJ
  induction m using Nat.strongRecOn with
  | _ m ih=>
   by_cases KO:∃ m',m'<m/\m'<=top/\I m' a w
   ·obtain⟨m',h1,h2,h3⟩:=KO
    exact ih m' h1 h2 h3
   ·exact⟨m,hm,hi,fun m' h1 h2=>by
     rcases Nat.lt_or_ge m' m with h|h
     ·exact absurd ⟨m',h,h1,h2⟩ KO
     ·exact h⟩
 let μ:Act->World->Nat:=fun a w=>if hJ:J a w then Classical.choose (key a w hJ)else 0
 refine .block (.loop J μ ⟨m0,LY,h0⟩ fun a w hJ=>?_)
 have hs:=Classical.choose_spec (key a w hJ)
 have hμ:μ a w=Classical.choose (key a w hJ):=by simp only[μ,dif_pos hJ]
 refine .mono (hI _ a w hs.1 hs.2.1) fun e a' w' hq=>?_
 by_cases he:e=.normal
 ·subst he
  obtain⟨m',h1,h2,h3⟩:=hq
  have Ud:J a' w':=⟨m',h1,h3⟩
  refine⟨Ud,?_⟩
  have KY:=Classical.choose_spec (key a' w' Ud)
  have hμ':μ a' w'=Classical.choose (key a' w' Ud):=by simp only[μ,dif_pos Ud]
  have:=KY.2.2 m' h1 h3
  rw[hμ,hμ']
  omega
 ·rw[cq he]at hq ⊢
  exact hq
end
section
variable {P:Program}
theorem cF.len {w:World}{X:Nat->Prop}{m:Value}{t:List (Nat × Bs)}(h:cF w X m t):(m=.map none/\t=[]) \/ ∃ (r clock:Nat) (es:List aI),m=.map (some r)/\w.heap[r]?=some (.map (es.map aI.entry).toArray clock)/\es.length=t.length:=by
 rcases h with h|⟨r,rfl,_,_,⟨es,clock,f,hb,_,_,_,hp,_⟩,_⟩
 ·exact .inl h
 ·refine .inr ⟨r,clock,es,rfl,hb,?_⟩
  have:=hp.length_eq
  simpa using this
theorem lJ {tM kt et:Nat}(hM:P.underlying tM=some (.map kt et)){ops:Array Oper}{Q:Exit->Act->World->Prop}{r:List Oper}{a:Act}{w:World}{d:Option Nat}{y:Operand}{ty:Nat}{m:Value}{X:Nat->Prop}{t:List (Nat × Bs)}(hy:a.eval y=m)(ht:cF w X m t)
  (h:wpList P ops Q r (a.put d (.int .i64 t.length)) w):wpList P ops Q (bi d .len [y] [tM] ty::r) a w:=by
 refine wpList_plain rfl fun _ hK=>?_
 unfold Oper.wp
 have hx:(execOp a.eval (bi d .len [y] [tM] ty)).run P w=.ok (.value (.int .i64 t.length)) w:=by
  rcases ht.len with⟨rfl,rfl⟩|⟨q,clock,es,rfl,hb,hl⟩
  ·simp[execOp,bi,resolve,invoke,hy,builtin,Builtin.len_,run_underlying hM,goInt]
  ·simp[execOp,bi,resolve,invoke,hy,builtin,Builtin.len_,run_underlying hM,goInt,getObj,Sem.run,hb,hl]
 rw[hx]
 exact hK _ _ h
theorem tlen_calls (hm:P.follows .mixedOrders=true){K:Kn}{f ntmps tTags tM kt et:Nat}(hM:P.underlying tM=some (.map kt et))(hF:bw P tTags 0 tM 0 false 1)(hfn:FnIs P f ntmps [2] (cTLen K tTags tM))(Iv:8<=ntmps)
  {w:World} {b o:Nat} {m:Value} {X:Nat->Prop} {t:List (Nat × Bs)} (hc:w.cell? ⟨b,o,none⟩=some m) (ht:cF w X m t):Calls P f #[pt b o] w fun e w'=>e=.returned (.int .i64 t.length)/\ac (fun _=>False) w w':=by
 refine eB hm hfn (by simp) [pt b o] (by simp;omega) fun a harg hs hd=>?_
 have g0:=harg 0 _ rfl
 refine aY (ad (aq (ak (wpList_nil ?_))))
 rw[show(aR 2 (.int .i64 0) 3).2=3 from rfl]
 refine ad (aq (ah ?_))
 rw[aa,al (by omega),g0]
 refine aG (p:=⟨b,o,none⟩) (by rw[aa,ao (by simp only[ab];omega)];rfl) ?_
 refine bN (by rw[aa,ao (by simp only[ab];omega)]) hF ?_
 refine bg (p:=⟨b,o+0,none⟩) (v:=m) (by rw[aa,ao (by simp only[ab];omega)]) (hF.var.agg _) hc ?_
 refine lJ hM (by rw[aa,ao (by simp only[ab];omega)]) ht (ak (wpList_nil (ad (.ret ⟨?_,?_,ac.refl _ _⟩))))
 ·simp only[aj];exact hd
 ·rw[show bj [2] _=Act.get _ 2 from rfl,ao (by simp only[ab];omega),aa,ao (by simp only[ab];omega)]
end
section
open Go Go.MapKept
section
variable {P:Program} {w:World}
def bU (k:Nat):Value:=.int .u32 (k:Int)
theorem s7 {mty kt et r clock key j:Nat}{es:List aI}{e:aI}(hm:P.underlying mty=some (.map kt et))(hd:P.underlying kt=some (.int .u32))(hb:w.heap[r]?=some (.map (es.map aI.entry).toArray clock))(hn:(es.map aI.key).Nodup)(hj:es[j]?=some e)(hk:e.key=key) :
  (Instr.lookup mty (.map (some r)) (bU key) false).run P w=.ok e.val w:=by
 have Jb:∀ x∈(es.map aI.entry).toArray.toList,IsKey (.int .u32) x.key:=by
  intro x hx
  simp only[List.mem_map]at hx
  obtain⟨e,_,rfl⟩:=hx
  exact eY e.key
 rcases findNow_spec (eY key) (es.map aI.entry).toArray.toList 0 Jb with⟨h1,h2⟩|⟨j',e',h1,h2,h3⟩
 ·have:=h2 e.entry (by simp;exact⟨e,List.mem_of_getElem? hj,rfl⟩)
  simp[aI.entry,hk]at this
 ·have h2':(es[j']?).map aI.entry=some e':=by simpa using h2
  obtain⟨e1,NQ,rfl⟩:=Option.map_eq_some_iff.1 h2'
  have Ir:e1.key=key:=by
   simp only[aI.entry,Value.int.injEq,true_and]at h3
   omega
  have Se:j'=j:=by
   have a1:(es.map aI.key)[j']?=some key:=by rw[List.getElem?_map,NQ];simp[Ir]
   have a2:(es.map aI.key)[j]?=some key:=by rw[List.getElem?_map,hj];simp[hk]
   have Id:=(List.getElem?_eq_some_iff.1 a1).1
   exact(List.getElem?_inj Id hn).1 (a1.trans a2.symm)
  subst Se
  obtain rfl:=Option.some.inj (NQ.symm.trans hj)
  have h1':Instr.findNow (.int .u32) (.int .u32 (key:Int)) (es.map aI.entry).toArray.toList 0=some (some (0+j',e1.entry.val)):=h1
  simp[Instr.lookup,bU,run_underlying hm,MapKept.run_getObj_map hb,MapKept.run_checkKey hd (eY key),MapKept.run_findKey hd h1',aI.entry]
theorem mA {tS te G n:Nat}{cur:Array Value}{v:Value}{X c x:Nat}{ty:TypeId}(hS:P.underlying tS=some (.slice te))(hi:∃ i,P.info? te=some i/\i.size=1)(hG:w.heap[G]?=some (.cells cur te (0,0)))(Iz:cur.size=n)(hx:x<n)(hX:w.cell? ⟨X,0,none⟩=some v)(hv:v.oneCell'=true) :
  (Builtin.append_ #[tS,tS] ty #[.slice (some ⟨G,0,none⟩) x n,.slice (some ⟨X,0,none⟩) 1 c]).run P w=.ok (.slice (some ⟨G,0,none⟩) (x+1) n) (w.setRow G (cur.setIfInBounds x v)):=by
 obtain⟨i,hi,Ii⟩:=hi
 have hs:Src P 1 tS (.slice (some ⟨X,0,none⟩) 1 c) 1 [v] w:=Src.ofSlice w hS ⟨X,0,none⟩ 1 c [v] (by simp) (fun j u hj=>by
  cases j with
  | zero=>simp at hj;subst hj;simpa[Addr.add_lit]using hX
  | succ j=>simp at hj) (by simpa using hv)
 have IN:=run_storeCells_at P G x te [v] 0 cur w hG (by simp;omega) hs.one
 simp only[Nat.add_zero]at IN
 have IZ:x+1<=n:=by omega
 have e1:aD cur x [v]=cur.setIfInBounds x v:=gF (by omega)
 rw[<- e1]
 simp[Builtin.append_,run_underlying hS,sizeOf,typeInfo,hi,Ii,hs.len,IZ,hs.cells,Addr.add_lit,IN,aD]
theorem oE {ops:Array Oper}{Q:Exit->Act->World->Prop}{r:List Oper}{a:Act}{d:Option Nat}{f:Nat}{y:Operand}{args:List Operand}{vs cap:Array Value}{R:Ending->World->Prop}(hf:Ent P f)(hy:a.eval y=.func (.func f) #[] cap)(IH:(args.map a.eval).toArray=vs)
  (hc:Calls P f (vs++cap) w R) (h:∀ e w',R e w'->∃ v,e=.returned v/\wpList P ops Q r (a.put d v) w'):wpList P ops Q (mk d (.call ⟨.value y,args.toArray,#[]⟩)::r) a w:=by
 refine jr ?_
 unfold Oper.wp
 have:(execOp a.eval (mk d (.call ⟨.value y,args.toArray,#[]⟩))).run P w=.ok (.enter f (vs++cap)) w:=by
  simp only[execOp,mk,resolve,hy,Deferred.ofValue,invoke,Sem.run_bind,Sem.run_pure,Result.andThen_ok,Array.empty_append,List.map_toArray,IH]
  exact hf _ _
 rw[this]
 exact hc.mono fun e w' hR=>by
  obtain⟨v,rfl,hh⟩:=h e w' hR
  exact hh
end
end
section
open Go Go.ChangeMaps
section
variable {P:Program}
theorem gp {a:Act}{d i:Nat}{v:Value}(h:d<a.tmps.size):(a.put (some d) v).get i=if i=d then v else a.get i:=by
 by_cases hi:i=d
 ·rw[if_pos hi,hi];exact db _ _ _ h
 ·rw[if_neg hi];exact fH _ _ _ _ hi
structure TF (P:Program)(T:TN):Prop where
 map:∃ kt et,P.underlying T.tM=some (.map kt et)/\P.underlying kt=some (.int .u32)
 fld:bw P T.tTags 0 T.tM 0 false 1
 sl:P.underlying T.tKs=some (.slice T.tU32)
 info:∃ i z,P.info? T.tU32=some i/\i.zero=some z/\i.size=1/\i.bytes=4
 vU:bc P T.tU32 false 1
 vK:bc P T.tKs false 1
 zK:∀ w,(zeroValue T.tKs).run P w=.ok (.slice none 0 0) w
 dInt:P.underlying T.tInt=some (.int .i64)
 dU32:P.underlying T.tU32=some (.int .u32)
structure mb (T:TN)(w0:World)(q it V G clock:Nat)(es L:List aI)(w:World):Prop where
 keeps:ac (fun _=>False) w0 w
 mp:w.heap[q]?=some (.map (es.map aI.entry).toArray clock)
 iter:w.heap[it]?=some (.mapIter (some q) clock (L.map aI.born).toArray clock)
 box:w.heap[V]?=some (.cells #[.slice (some ⟨G,0,none⟩) L.length es.length] T.tKs (0,0))
 row:∃ cur,w.heap[G]?=some (.cells cur T.tU32 (0,0))/\cur.size=es.length/\∀ (i:Nat) (e:aI),L[i]?=some e->cur[i]?=some (bU e.key)
 sub:∀ e∈L,e∈es
 nod:(L.map aI.born).Nodup
 new:w0.heap.size<=V/\w0.heap.size<=G/\w0.heap.size<=it/\V≠G/\V≠it/\G≠it/\q<w0.heap.size
theorem oA {w:World}{b:Nat}{o:Obj}(h:b<w.heap.size):(setBlock w b o).heap[b]?=some o:=by
 show(w.heap.setIfInBounds b o)[b]?=some o
 rw[Array.getElem?_setIfInBounds,if_pos rfl,if_pos h]
theorem mz {w:World}{b k:Nat}{o:Obj}(h:k≠b):(setBlock w b o).heap[k]?=w.heap[k]?:=by
 show(w.heap.setIfInBounds b o)[k]?=_
 rw[Array.getElem?_setIfInBounds,if_neg (fun e=>h e.symm)]
theorem vS {X:Nat->Prop}{w:World}{b:Nat}{o:Obj}(h:X b):ac X w (setBlock w b o):=
 ⟨rfl,rfl,rfl,by show w.heap.size<=(w.heap.setIfInBounds b o).size;simp,fun _ _ hx=>mz fun e=>hx (e ▸ h)⟩
theorem mb.le {T:TN}{w0:World}{q it V G clock:Nat}{es L:List aI}{w:World}(h:mb T w0 q it V G clock es L w)    :L.length<=es.length:=by
 have key:∀ (l m:List Nat),l.Nodup->(∀ x∈l,x∈m)->l.length<=m.length:=by
  intro l
  induction l with
  | nil=>intro m _ _;simp
  | cons a l ih=>
   intro m hl hs
   obtain⟨h1,h2⟩:=List.nodup_cons.1 hl
   have hm:a∈m:=hs a (by simp)
   have:=ih (m.erase a) h2 fun x hx=>(List.mem_erase_of_ne (fun e=>h1 (by rw[<- e];exact hx))).2 (hs x (by simp[hx]))
   rw[List.length_erase_of_mem hm]at this
   have:=List.length_pos_of_mem hm
   simp only[List.length_cons]
   omega
 have h1:=key (L.map aI.born) (es.map aI.born) h.nod fun x hx=>by
  obtain⟨e,he,rfl⟩:=List.mem_map.1 hx
  exact List.mem_map.2 ⟨e,h.sub e he,rfl⟩
 simpa using h1
theorem mb.next {T:TN}{w0:World}{q it V G clock:Nat}{es L:List aI}{w:World}(h:mb T w0 q it V G clock es L w)(hb:∀ e∈es,e.born<clock)(ty:TypeId) :
  ((∀ e∈es,e.born∈L.map aI.born)/\(Instr.next (pt it 0) false ty).run P w=.ok (.tuple #[.bool false]) w) \/
  ∃ e∈es,e.born∉L.map aI.born/\∃ w1,(w1=w \/ w1=w.drew)/\(Instr.next (pt it 0) false ty).run P w=.ok (.tuple #[.bool true,bU e.key,e.val]) (setBlock w1 it (.mapIter (some q) clock ((L++[e]).map aI.born).toArray clock)):=by
 rcases run_next_at (P:=P) w ty it q clock clock _ _ clock h.iter h.mp (fun x hx=>by
  simp only[List.mem_map]at hx
  obtain⟨e,he,rfl⟩:=hx
  exact hb e he) (Nat.le_refl _) with⟨h0,hr⟩|⟨e,he,w1,K8,hr⟩
 ·refine .inl ⟨fun e he=>?_,hr⟩
  have h1:leftOf (es.map aI.entry).toArray (L.map aI.born).toArray=#[]:=Array.eq_empty_of_size_eq_zero h0
  unfold leftOf at h1
  rw[Array.filter_eq_empty_iff]at h1
  have:=h1 e.entry (by simpa using⟨e,he,rfl⟩)
  simpa[aI.entry]using this
 ·unfold leftOf at he
  have JO:e∈(es.map aI.entry).toArray/\(!(L.map aI.born).toArray.contains e.born)=true:=by
   have:=Array.mem_def.2 he
   simpa using this
  obtain⟨hm,hc⟩:=JO
  simp only[List.mem_toArray,List.mem_map]at hm
  obtain⟨e1,NQ,rfl⟩:=hm
  refine .inr ⟨e1,NQ,?_,w1,K8,?_⟩
  ·simpa[aI.entry]using hc
  ·rw[show pt it 0=.pointer (some ⟨it,0,none⟩) from rfl,hr]
   simp[aI.entry,bU]
end
end
section
open Go Go.ChangeMaps
section
variable {P:Program}
def SortOk (P:Program)(T:TN):Prop:=
 Ent P T.fSort/\∀ (w:World) (V G n:Nat) (ks:List Nat) (cur:Array Value),ks.length=n->n<4611686018427387904->(∀ x∈ks,x<4294967296)->w.heap[V]?=some (.cells #[.slice (some ⟨G,0,none⟩) n n] T.tKs (0,0))->w.heap[G]?=some (.cells cur T.tU32 (0,0))->cur.size=n->V≠G ->
  (∀ (i:Nat) (x:Nat),ks[i]?=some x->cur[i]?=some (bU x)) ->
  Calls P T.fSort #[.iface T.tKs (.slice (some ⟨G,0,none⟩) n n),.func (.func T.fLess) #[] #[pt V 0]] w fun e w'=>e=.returned (.tuple #[])/\ac (fun k=>k=G) w w' /\
   ∃ (cur':Array Value) (ks':List Nat),w'.heap[G]?=some (.cells cur' T.tU32 (0,0))/\ks'.Perm ks/\ks'.Pairwise (·<=·)/\∀ (i:Nat) (x:Nat),ks'[i]?=some x->cur'[i]?=some (bU x)
theorem zc:∀ {es:List aI},(es.map aI.born).Nodup->∀ x∈es,∀ y∈es,x.born=y.born->x=y
 | [],_,_,hx,_,_,_=>by simp at hx
 | a::r,hn,x,hx,y,hy,h=>by
  simp only[List.map_cons,List.nodup_cons,List.mem_map,not_exists,not_and]at hn
  rcases List.mem_cons.1 hx with ex|hx'
  ·rcases List.mem_cons.1 hy with ey|hy'
   ·rw[ex,ey]
   ·exact absurd (by rw[<- h,ex]) (hn.1 y hy')
  ·rcases List.mem_cons.1 hy with ey|hy'
   ·exact absurd (by rw[h,ey]) (hn.1 x hx')
   ·exact zc hn.2 x hx' y hy' h
theorem qX:∀ (l m:List aI),(l.map aI.born).Nodup->(m.map aI.born).Nodup->(∀ x∈l,x∈m)->(∀ x∈m,x.born∈l.map aI.born)->(l.map aI.key).Perm (m.map aI.key):=by
 intro l
 induction l with
 | nil=>
  intro m _ _ _ hm
  cases m with
  | nil=>exact .refl _
  | cons a r=>have:=hm a (by simp);simp at this
 | cons a l ih=>
  intro m hl hmn hs hm
  simp only[List.map_cons,List.nodup_cons]at hl
  have ha:a∈m:=hs a (by simp)
  obtain⟨m1,m2,rfl⟩:=List.append_of_mem ha
  have hp:(m1++a::m2).Perm (a::(m1++m2)):=List.perm_middle
  have hmn':((a::(m1++m2)).map aI.born).Nodup:=(hp.map aI.born).nodup_iff.1 hmn
  simp only[List.map_cons,List.nodup_cons]at hmn'
  refine .trans ?_ (hp.map aI.key).symm
  simp only[List.map_cons]
  refine List.Perm.cons _ (ih (m1++m2) hl.2 hmn'.2 (fun x hx=>?_) fun x hx=>?_)
  ·have:=(hp.mem_iff).1 (hs x (by simp[hx]))
   rcases List.mem_cons.1 this with e|h
   ·exact absurd (List.mem_map.2 ⟨x,hx,by rw[e]⟩) hl.1
   ·exact h
  ·have:=hm x (hp.mem_iff.2 (by simp only[List.mem_cons];exact .inr hx))
   simp only[List.map_cons,List.mem_cons]at this
   rcases this with e|h
   ·exact absurd (List.mem_map.2 ⟨x,hx,e⟩) hmn'.1
   ·exact h
theorem vt {l:List (Nat × Bs)}(h:gi l):(l.map (·.1)).Pairwise (·<=·):=by
 induction l with
 | nil=>simp
 | cons a r ih=>
  cases r with
  | nil=>simp
  | cons b r=>
   simp only[gi]at h
   have hr:=ih h.2
   simp only[List.map_cons,List.pairwise_cons]at hr ⊢
   refine⟨fun x hx=>?_,hr⟩
   simp only[List.mem_cons]at hx
   rcases hx with rfl|hx
   ·omega
   ·have:=hr.1 x hx;omega
theorem qH {l m:List Nat}(hp:l.Perm m)(hl:l.Pairwise (·<=·))(hm:m.Pairwise (·<=·)):l=m:=
 List.Perm.eq_of_pairwise (le:=(·<=·)) (fun _ _ _ _ h1 h2=>Nat.le_antisymm h1 h2) hl hm hp
theorem mZ {T:TN}(tf:TF P T){ops:Array Oper}{Q:Exit->Act->World->Prop}{r:List Oper}{a:Act}{w:World}{b o n:Nat}{m:Value}(h0:a.get 0=pt b o)(hc:w.cell? ⟨b,o,none⟩=some m)(_hn:0<n)(hs:n+3<a.tmps.size)
  (h:∀ a',(∀ i,i<n->a'.get i=a.get i)->a'.get (n+3)=m->a'.tmps.size=a.tmps.size->a'.defers=a.defers->wpList P ops Q r a' w):wpList P ops Q (pc T n++r) a w:=by
 show wpList P ops Q (mk (some n) (.move (tm 0))::mk (some (n+1)) (.nilCheck (tm n))::mk (some (n+2)) (.fieldAddr T.tTags (tm (n+1)) 0)::mk (some (n+3)) (.load T.tM (tm (n+2)))::r) a w
 refine ah ?_
 rw[aa,h0]
 refine aG (p:=⟨b,o,none⟩) (by rw[aa,ao (by omega)];rfl) ?_
 refine bN (B:=b) (O:=o) (by rw[aa,ao (by simp only[ab];omega)]) tf.fld ?_
 refine bg (p:=⟨b,o+0,none⟩) (v:=m) (by rw[aa,ao (by simp only[ab];omega)]) (tf.fld.var.agg _) hc (h _ (fun i hi=>?_) ?_ ?_ ?_)
 ·iterate 4 rw[al (by omega)]
 ·rw[ao (by simp only[ab];omega)]
 ·simp only[ab]
 ·simp only[aj]
end
end
section
variable {P:Program} {K:Kn}
def pZ (c:Value)(f1:Nat)(rest:List Oper):Code:=
 .seq (rg [mk (some 6) (.assign (.const aF))]) (.seq (.seq (rg [mk (some 7) (.move (tm 2))]) (.cond (tm 7) (.seq (rg [mk (some 8) (.move (tm 0)),cl (some 9) f1 [tm 8,.const c],mk (some 6) (.assign (tm 9))]) .ret) .skip)) (.seq (rg rest) .ret))
theorem wj (f:Nat):cANLen K f=pZ (.int .i32 (-1)) f [mk (some 10) (.move (tm 0)),mk (some 11) (.move (tm 1)),mk (some 12) (.convert K.tInt K.tI32 (tm 11)),cl (some 13) f [tm 10,tm 12],mk (some 6) (.assign (tm 13))]:=rfl
theorem tu (f:Nat):cACNLen K f=pZ (.int .u32 0) f [mk (some 10) (.move (tm 0)),mk (some 11) (.move (tm 1)),mk (some 12) (.convert K.tInt K.tU32 (tm 11)),mk (some 13) (.binOp .add K.tU32 (ki .u32 1) (tm 12) 0),cl (some 14) f [tm 10,tm 13],mk (some 6) (.assign (tm 14))]:=rfl
theorem re (hm:P.follows .mixedOrders=true){te f f1 ntmps:Nat}{c:Value}{rest:List Oper}{enc0 enc1:Bs}{w:World}{L:Nat}{x d:Value}{bs:Bs}{b:Bool}(hE:Ent P f1)(hfn:FnIs P f ntmps [6] (pZ c f1 rest))(Iv:14<=ntmps)(Ln:ApC P te f1 c enc0 w)
  (Ru:∀ (a:Act) (Q:Act->World->Prop),ntmps<=a.tmps.size->a.get 0=d->a.get 1=x->bs.length+enc1.length<=di->(∀ a' w' d',a'.defers=a.defers->a'.get 6=d'->Gr L te d w d' (bs++enc1) w'->Q a' w')->wpList P rest.toArray (Rt Q fun _ _=>False) rest a w)
  (hd:aA w L te d bs) (hL:L<=w.heap.size) (hlim:bs.length+(if b then enc0 else enc1).length<=di) :
  Calls P f #[d,x,.bool b] w fun e w'=>∃ d',e=.returned d'/\Gr L te d w d' (bs++(if b then enc0 else enc1)) w':=by
 refine eB hm hfn (by simp) [d,x,.bool b] (by simp;omega) fun a harg hs I4=>?_
 have g0:=harg 0 _ rfl
 have g1:=harg 1 _ rfl
 have g2:=harg 2 _ rfl
 have lt:∀ i,i<14->i<a.tmps.size:=fun i hi=>by omega
 unfold pZ
 refine .seq (R:=Rt (fun a1 w1=>a1=a.put (some 6) aF/\w1=w) fun _ _=>False) (.reg (ak (wpList_nil ⟨rfl,rfl⟩))) (fun a1 w1 hh=>?_) (fun e a w he hq=>by cases e<;>first|exact absurd rfl he|exact hq.elim)
 obtain⟨rfl,rfl⟩:=hh
 have hw:wpList P [mk (some 7) (.move (tm 2))].toArray (Rt (fun a2 w2=>a2=(a.put (some 6) aF).put (some 7) (.bool b)/\w2=w1) fun _ _=>False) [mk (some 7) (.move (tm 2))] (a.put (some 6) aF) w1:=by
  refine ah (wpList_nil ⟨?_,rfl⟩)
  rw[aa,al (by omega),g2]
 cases b with
 | true=>
  simp only[if_true]at hlim ⊢
  refine .seq (R:=Rt (fun _ _=>False) (fun a' w'=>a'.defers=[]/\∃ d',Ending.returned (bj [6] a')=.returned d'/\Gr L te d w1 d' (bs++enc0) w')) (.seq (.reg hw) (fun a2 w2 hh=>?_) (fun e a w he hq=>by cases e<;>first|exact absurd rfl he|exact hq.elim)) (fun _ _ hh=>hh.elim) (fun e a w he hq=>by cases e<;>first|exact absurd rfl he|exact hq)
  obtain⟨rfl,rfl⟩:=hh
  refine .condT (by simp[aa,gp,lt,ab]) (.seq (R:=Rt (fun a' w'=>a'.defers=[]/\∃ d',a'.get 6=d'/\Gr L te d w2 d' (bs++enc0) w') fun _ _=>False) (.reg (ah ?_)) (fun a3 w3 hh=>?_) (fun e a w he hq=>by cases e<;>first|exact absurd rfl he|exact hq.elim))
  ·rw[aa,al (by omega),al (by omega),g0]
   refine aN (vs:=#[d,c]) hE (by simp[aa,dg,gp,lt,ab]) (Ln L d bs hd hL hlim) fun e w' hR=>?_
   obtain⟨d',he,hg⟩:=hR
   refine⟨d',he,ak (wpList_nil ⟨?_,d',?_,hg⟩)⟩
   ·simp only[aj];exact I4
   ·simp[aa,gp,lt,ab]
  ·obtain⟨h1,d',h2,h3⟩:=hh
   exact .ret ⟨h1,d',by show Ending.returned (Act.get _ 6)=_;rw[h2],h3⟩
 | false=>
  simp only[Bool.false_eq_true,if_false]at hlim ⊢
  refine .seq (R:=Rt (fun a2 w2=>a2=(a.put (some 6) aF).put (some 7) (.bool false)/\w2=w1) fun _ _=>False) (.seq (.reg hw) (fun a2 w2 hh=>?_) (fun e a w he hq=>by cases e<;>first|exact absurd rfl he|exact hq.elim)) (fun a2 w2 hh=>?_) (fun e a w he hq=>by cases e<;>first|exact absurd rfl he|exact hq.elim)
  ·obtain⟨rfl,rfl⟩:=hh
   exact .condF (by simp[aa,gp,lt,ab]) (.skip ⟨rfl,rfl⟩)
  obtain⟨rfl,rfl⟩:=hh
  refine .seq (R:=Rt (fun a' w'=>a'.defers=[]/\∃ d',a'.get 6=d'/\Gr L te d w2 d' (bs++enc1) w') fun _ _=>False) (.reg (Ru _ _ (by simp only[ab];omega) (by simp[gp,lt,ab,g0]) (by simp[gp,lt,ab,g1]) hlim fun a' w' d' h1 h2 h3=>⟨?_,d',h2,h3⟩)) (fun a3 w3 hh=>?_) (fun e a w he hq=>by cases e<;>first|exact absurd rfl he|exact hq.elim)
  ·rw[h1];simp only[aj];exact I4
  ·obtain⟨h1,d',h2,h3⟩:=hh
   exact .ret ⟨h1,d',by show Ending.returned (Act.get _ 6)=_;rw[h2],h3⟩
theorem anlen_calls (wt:WT P K){f f1 ntmps:Nat}(hE:Ent P f1)(hc:∀ (x:Int) (w:World),ApC P K.tU8 f1 (.int .i32 x) (be 4 x) w)(hfn:FnIs P f ntmps [6] (cANLen K f1))(Iv:14<=ntmps)(n:Nat)(b:Bool)(w:World)(L:Nat)(d:Value)(bs:Bs)(hd:aA w L K.tU8 d bs)(hL:L<=w.heap.size)(hlim:bs.length+(if b then cf false 4 else fe false n).length<=di) :
  Calls P f #[d,.int .i64 (n:Int),.bool b] w fun e w'=>∃ d',e=.returned d'/\Gr L K.tU8 d w d' (bs++(if b then cf false 4 else fe false n)) w':=by
 rw[wj]at hfn
 refine re wt.mixed (enc0:=cf false 4) (enc1:=fe false n) hE hfn Iv (hc (-1) w) (fun a Q hs h0 h1 hl h=>?_) hd hL hlim
 have lt:∀ i,i<14->i<a.tmps.size:=fun i hi=>by omega
 refine ah (ah ?_)
 rw[aa,h0,aa,al (by omega),h1]
 refine aL (k:=.i64) (k':=.i32) (m:=(n:Int)) (by simp[aa,gp,lt,ab]) wt.dInt wt.dI32 ?_
 have Xz:=hc (IntKind.i32.wrap (n:Int)) w
 rw[io (.inr (.inr (.inl ⟨.inl rfl,rfl⟩)))]at Xz
 refine aN (vs:=#[d,.int .i32 (IntKind.i32.wrap (n:Int))]) hE (by simp[aa,gp,lt,ab]) (Xz L d bs hd hL hl) fun e w' hR=>?_
 obtain⟨d',he,hg⟩:=hR
 exact⟨d',he,ak (wpList_nil (h _ w' d' (by simp only[aj]) (by simp[aa,gp,lt,ab]) hg))⟩
theorem acnlen_calls (wt:WT P K){f f1 ntmps:Nat}(hE:Ent P f1)(hc:∀ (x:Nat) (w:World),x<4294967296->ApC P K.tU8 f1 (.int .u32 x) (uvar x) w)(hfn:FnIs P f ntmps [6] (cACNLen K f1))(Iv:15<=ntmps)(n:Nat)(b:Bool)(w:World)(L:Nat)(d:Value)(bs:Bs)(hd:aA w L K.tU8 d bs)(hL:L<=w.heap.size)(hlim:bs.length+(if b then cf true 4 else fe true n).length<=di) :
  Calls P f #[d,.int .i64 (n:Int),.bool b] w fun e w'=>∃ d',e=.returned d'/\Gr L K.tU8 d w d' (bs++(if b then cf true 4 else fe true n)) w':=by
 rw[tu]at hfn
 refine re wt.mixed (enc0:=cf true 4) (enc1:=fe true n) hE hfn (by omega) (hc 0 w (by omega)) (fun a Q hs h0 h1 hl h=>?_) hd hL hlim
 have lt:∀ i,i<15->i<a.tmps.size:=fun i hi=>by omega
 refine ah (ah ?_)
 rw[aa,h0,aa,al (by omega),h1]
 refine aL (k:=.i64) (k':=.u32) (m:=(n:Int)) (by simp[aa,gp,lt,ab]) wt.dInt wt.dU32 ?_
 have e1:IntKind.u32.wrap (1+IntKind.u32.wrap (n:Int))=((dj (n+1):Nat):Int):=by simp[IntKind.wrap,IntKind.bits,IntKind.signed,dj];omega
 refine co (k:=.u32) (m:=1) (n:=IntKind.u32.wrap (n:Int)) (v:=.int .u32 ((dj (n+1):Nat):Int)) rfl (by simp[aa,gp,lt,ab]) (by simp) (by simp[binOp,Op.intArith,e1]) ?_
 refine aN (vs:=#[d,.int .u32 ((dj (n+1):Nat):Int)]) hE (by simp[aa,gp,lt,ab]) (hc (dj (n+1)) w (by simp only[dj];omega) L d bs hd hL hl) fun e w' hR=>?_
 obtain⟨d',he,hg⟩:=hR
 exact⟨d',he,ak (wpList_nil (h _ w' d' (by simp only[aj]) (by simp[aa,gp,lt,ab]) hg))⟩
end
end Go.Proofs.YtpoeajgpacfpoaaGreatDoor.Kx