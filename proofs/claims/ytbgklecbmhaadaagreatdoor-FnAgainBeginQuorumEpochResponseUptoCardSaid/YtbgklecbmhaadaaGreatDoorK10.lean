/-
  PLAIN LAWS AND CONTRACTS of messages, part 10.
-/
import Derived.Test.YtbgklecbmhaadaaGreatDoorK9

namespace Go.Proofs.YtbgklecbmhaadaaGreatDoor.Kx
open Go
theorem RpF.far {L:Nat}{w w':World}(hk:ac (fun k=>L<=k) w w'){fs:Fds}{b o:Nat}{vs:List V}(h:RpF w (fun k=>L<=k) fs b o vs)(hb:b<L)(hL:L<=w.heap.size):RpF w' (fun k=>L<=k) fs b o vs:=
 RpF.frame hk fs b o vs 0 h fun j _ _=>ci (hk.block b (by omega) (by omega)) j
structure TG (L tU:Nat)(v:Value)(w:World)(v':Value)(ks':List Nat)(w':World):Prop where
 at_:jr w' L tU v' ks'
 keeps:ac (fun j=>v.ownBlock=some j) w w'
 own:∀ j,v'.ownBlock=some j->v.ownBlock=some j \/ w.heap.size<=j
def iN:Fds->List V->List Nat
 | .nil,_=>[]
 | .cons _ _ tag df _ ty r,vs=>(match tag with|some k=>if iX ty df (vs.headD .nul) then[] else[k]|none=>[])++iN r vs.tail
def Fds.tagsOf:Fds->List Nat
 | .nil=>[]
 | .cons _ _ tag _ _ _ r=>(match tag with|some k=>[k]|none=>[])++r.tagsOf
def Fds.len:Fds->Nat
 | .nil=>0
 | .cons _ _ _ _ _ _ r=>r.len+1
theorem qR:∀ (fs:Fds) (vs:List V),(iN fs vs).length<=fs.len
 | .nil,_=>Nat.le_refl _
 | .cons _ _ tag df _ ty r,vs=>by
  have:=qR r vs.tail
  simp only[iN,Fds.len,List.length_append]
  cases tag with
  | none=>simp;omega
  | some k=>
   simp only
   split<;>simp<;>omega
theorem na (fx:Bool)(ver:Int):∀ (fs:Fds) (vs:List V),(wrTgd fx ver fs vs).map (·.1)=iN fs vs
 | .nil,_=>by simp only[wrTgd,iN,List.map_nil]
 | .cons _ _ tag df _ ty r,vs=>by
  have:=na fx ver r vs.tail
  simp only[wrTgd,iN,List.map_append,this]
  cases tag with
  | none=>rfl
  | some k=>
   simp only
   split<;>rfl
theorem oF (fx:Bool)(ver:Int):∀ (fs:Fds) (vs:List V),∀ y∈wrTgd fx ver fs vs,y.1∈fs.tagsOf
 | .nil,_,y,hy=>by simp[wrTgd]at hy
 | .cons _ _ tag df _ ty r,vs,y,hy=>by
  simp only[wrTgd,List.mem_append]at hy
  simp only[Fds.tagsOf,List.mem_append]
  rcases hy with hy|hy
  ·left
   cases tag with
   | none=>simp at hy
   | some k=>
    simp only at hy
    split at hy
    ·simp at hy
    ·simp only[List.mem_singleton]at hy
     rw[hy]
     simp
  ·exact .inr (oF fx ver r vs.tail y hy)
def iU (P:Program)(av:PF->Bool)(g:GW)(T:Nat):Fds->List Nm->Bool
 | .nil,_=>true
 | .cons _ _ tag _ off ty r,ms=>(match tag with|some k=>decide (k<4294967296)&&qp P av g T off ty (ms.headD (.mk [] []))|none=>true)&&iU P av g T r ms.tail
section
variable {P:Program} {tKs tU L:Nat} {v v1 v':Value} {ks ks1 ks':List Nat} {w w1 w':World}
theorem TG.refl (h:jr w L tU v ks):TG L tU v w v ks w:=⟨h,ac.refl _ _,fun _ h=>.inl h⟩
theorem TG.trans (h:TG L tU v w v1 ks1 w1)(k:TG L tU v1 w1 v' ks' w'):TG L tU v w v' ks' w':=
 ⟨k.at_,⟨k.keeps.os.trans h.keeps.os,k.keeps.tape.trans h.keeps.tape,k.keeps.output.trans h.keeps.output,Nat.le_trans h.keeps.size k.keeps.size,fun i hi hx=>by
   have hs:=h.keeps.size
   rw[k.keeps.block i (by omega) (fun hh=>by rcases h.own i hh with h1|h1;exact hx h1;omega),h.keeps.block i hi hx]⟩,
  fun i hi=>by
   have hs:=h.keeps.size
   rcases k.own i hi with h1|h1
   ·exact h.own i h1
   ·exact .inr (by omega)⟩
theorem TG.pre (hk:ac (fun _=>False) w w1)(h:TG L tU v w1 v' ks' w'):TG L tU v w v' ks' w':=
 ⟨h.at_,(hk.mono fun _ _ h=>h.elim).trans h.keeps,fun j hj=>by
  have:=hk.size
  rcases h.own j hj with h1|h1
  ·exact .inl h1
  ·exact .inr (by omega)⟩
theorem u7 (g:GW)(s:Nat)(ty:Ty)(df:Int)(m:Nm){A:GC}(hA:Up A):Up (ga g s ty df m A):=by
 unfold ga
 split
 all_goals first|exact cg hA (b7 _)|exact b7 _|skip
 exact fun n=>Nat.le_trans (Nat.le_add_right n 7) (hA (n+7))
theorem iQ (g:GW)(s te tKs:Nat):∀ (fs:Fds) (ms:List Nm),iM (cJ g s te tKs fs ms)
 | .nil,_=>ax
 | .cons _ _ tag df _ ty r,ms=>by
  simp only[cJ]
  split
  ·exact ae (u7 g s ty df _ (aq _ _)) (iQ g s te tKs r ms.tail)
  ·exact iQ g s te tKs r ms.tail
variable {g:GW} {m k0 n B O s te:Nat} {Q:Exit->Act->World->Prop} {a:Act}
theorem qb {av:PF->Bool}{fl nl:Bool}{te':Nat}(K0:KW P g av fl nl te')(T:Ds P tKs tU)(Jz:P.underlying g.tInt=some (.int .i64)){TT:Nat}{rest:List GC}(G7:m<=te/\te<k0)(hs:s<m)(Hk:m<=k0)(RE:B<L):∀ (fs:Fds) (ms:List Nm) (vs:List V) (n:Nat) (v:Value) (ks:List Nat) (a:Act) (w:World),iU P av g TT fs ms=true->a.get s=pt B O->a.get te=v->jr w L tU v ks->RpF w (fun k=>L<=k) fs B O vs->L<=w.heap.size->ks.length+fs.len<=1000->k0<=n->(gL (cJ g s te tKs fs ms) n).2<=a.tmps.size ->
  (∀ a' w' v',Pv te m k0 n a a'->a'.get te=v'->TG L tU v w v' (ks++iN fs vs) w'->LW P rest (gL (cJ g s te tKs fs ms) n).2 Q a' w')->LW P (cJ g s te tKs fs ms++rest) n Q a w
 | .nil,ms,vs,n,v,ks,a,w,_,_,Oj,hv,_,_,_,_,_,h=>h a w v (Pv.refl _ _ _ _ _) Oj (by simpa[iN]using TG.refl hv)
 | .cons lo hi tag df off ty r,ms,vs,n,v,ks,a,w,G1,LC,Oj,hv,hr,hL,hlim,hk,hn,h=>by
  obtain⟨x,vs',rfl,hx,HU⟩:=hr
  simp only[iU,Bool.and_eq_true]at G1
  simp only[Fds.len]at hlim
  cases tag with
  | none=>
   have e1:cJ g s te tKs (.cons lo hi none df off ty r) ms=cJ g s te tKs r ms.tail:=by simp only[cJ]
   have e2:iN (.cons lo hi none df off ty r) (x::vs')=iN r vs':=by simp only[iN,List.nil_append,List.tail_cons]
   rw[e1]at hn h ⊢
   rw[e2]at h
   exact qb K0 T Jz G7 hs Hk RE r ms.tail vs' n v ks a w G1.2 LC Oj hv HU hL (by omega) hk hn h
  | some t=>
   simp only[Bool.and_eq_true,decide_eq_true_eq]at G1
   have e1:cJ g s te tKs (.cons lo hi (some t) df off ty r) ms=ga g s ty df (ms.headD (.mk [] [])) (l7 tKs te t)::cJ g s te tKs r ms.tail:=by simp only[cJ]
   have e2:iN (.cons lo hi (some t) df off ty r) (x::vs')=(if iX ty df x then[] else[t])++iN r vs':=by simp only[iN,List.headD_cons,List.tail_cons];rfl
   rw[e1]at hn h ⊢
   rw[e2]at h
   have LT:Up (l7 tKs te t):=aq _ _
   have Of:=u7 g s ty df (ms.headD (.mk [] [])) LT n
   have SG:=iQ g s te tKs r ms.tail (ga g s ty df (ms.headD (.mk [] [])) (l7 tKs te t) n).2
   have If:(gL (cJ g s te tKs r ms.tail) (ga g s ty df (ms.headD (.mk [] [])) (l7 tKs te t) n).2).2<=a.tmps.size:=hn
   have next:∀ (a1:Act) (w1:World) (v1:Value),Pv te m k0 n a a1->a1.get te=v1->TG L tU v w v1 (ks++(if iX ty df x then[] else[t])) w1->LW P (cJ g s te tKs r ms.tail++rest) (ga g s ty df (ms.headD (.mk [] [])) (l7 tKs te t) n).2 Q a1 w1:=by
    intro a1 w1 v1 Gk RP Gv
    have Gu:=Gk.size
    have Ho:ac (fun k=>L<=k) w w1:=Gv.keeps.mono fun k _ hk=>(hv.own hk).1
    refine qb K0 T Jz G7 hs Hk RE r ms.tail vs' _ v1 _ a1 w1 G1.2 ((Gk.get s (by omega) (.inl hs)).trans LC) RP Gv.at_ (HU.far Ho RE hL) (Nat.le_trans hL Gv.keeps.size) ?_ (by omega) (by omega) fun a' w' v' GK ht' GA=>h a' w' v' (Gk.trans (GK.mono (Nat.le_refl _) Of)) ht' ?_
    ·rw[List.length_append]
     split<;>simp<;>omega
    ·rw[<- List.append_assoc]
     exact Gv.trans GA
   show LW P (ga g s ty df (ms.headD (.mk [] [])) (l7 tKs te t)::(cJ g s te tKs r ms.tail++rest)) n Q a w
   refine ad (C6 K0 (k0:=k0) G1.1.2 Jz LC hx LT (by omega) hk (by omega) (fun hd a1 w1 n1 Gk hlow1 Gy MA G0=>?_) (fun hd a1 w1 Gk hlow1 Gy=>?_))
   ·have Gu:=Gk.size
    have hsz':(ga g s ty df (ms.headD (.mk [] [])) (l7 tKs te t) n).2=n1+3:=G0
    have Iu:=hv.keep Gy fun _ _ h=>h
    refine DF T (m:=m) (k0:=k0) (v:=v) (ks:=ks) ((hlow1 te (by omega)).trans Oj) Iu (Nat.le_trans hL Gy.size) (by omega) G7 (by omega) (by omega) fun a2 w2 v2 Gm RO Jl Gs No=>next a2 w2 v2 ?_ RO ?_
    ·exact⟨Gm.size.trans Gk.size,Gm.defers.trans Gk.defers,fun i hi hi2=>(Gm.get i hi (by omega)).trans (hlow1 i (by omega))⟩
    ·rw[hd]
     exact TG.pre Gy ⟨Jl,Gs,No⟩
   ·have Gu:=Gk.size
    refine next a1 w1 v ⟨Gk.size,Gk.defers,fun i _ hi2=>hlow1 i (by omega)⟩ ((hlow1 te (by omega)).trans Oj) ?_
    rw[hd]
    simp only[if_true,List.append_nil]
    exact TG.pre Gy (TG.refl (hv.keep Gy fun _ _ h=>h))
end
section
variable {P:Program} {g:GW} {av:PF->Bool} {fl nl:Bool} {te:Nat} {L m k0 n B O:Nat} {d:Value} {bs:Bs} {K E:Act->World->Prop} {Q:Exit->Act->World->Prop} {a:Act} {w:World}
theorem AJ (K0:KW P g av fl nl te)(Gw:fl=true){tKs tU q s TT kt o F sz cnt c:Nat}{agg:Bool}{base:Option Addr}{mm:Value}{t:List (Nat × Bs)}{X:Nat->Prop}(T:Ds P tKs tU)(hq:a.get q=.slice base cnt c)(hs:a.get s=pt B O)(hF:bp P TT kt F o agg sz)(IQ:w.cell? ⟨B,O+o,none⟩=some mm)(ht:cN w X mm t)(KM:t.length<4611686018427387904)(hcnt:cnt<=1000)
  (h1:a.get 1=d) (hd:aH w L te d bs) (hL:L<=w.heap.size) (hlim:bs.length+(uvar (dL (cnt+t.length))).length<=d7) (PZ:q<n/\s<n) (HF:1<k0) (hk:k0<=n) (hn:n+10<=a.tmps.size)
  (h:∀ a' w' d',Pv 1 k0 k0 n a a'->a'.get 1=d'->Gr L te d w d' (bs++uvar (dL (cnt+t.length))) w'->K a' w'):aQ P (mP g s TT kt q tKs n).1 (Exit.then K Q) a w:=by
 refine au (ag (ag ?_))
 rw[aa,h1,aa,ak (by omega),hq]
 refine en (base:=base) (n:=cnt) (c:=c) (by rw[aa,am (by simp only[ab];omega)]) T.sl (ag ?_)
 rw[aa,ak (by omega),ak (by omega),ak (by omega),hs]
 refine aL (by rw[aa,am (by simp only[ab];omega)];rfl) ?_
 refine bR (by rw[aa,am (by simp only[ab];omega)]) hF ?_
 refine aR (vs:=#[pt B (O+o)]) (K0.tlE Gw) ?_ (K0.tlC Gw w B (O+o) mm _ t IQ ht) fun e2 w2 hR=>⟨_,hR.1,?_⟩
 ·simp only[List.map_cons,List.map_nil,aa]
  rw[am (by simp only[ab];omega)]
  rfl
 have Gs:=hR.2
 refine cE (k:=.i64) (m:=cnt) (n:=t.length) (by rw[aa,ak (by omega),ak (by omega),ak (by omega),ak (by omega),am (by simp only[ab];omega)]) (by rw[aa,am (by simp only[ab];omega)]) (by simp) (ka w2) ?_
 refine aT (k:=.i64) (k':=.u32) (m:=IntKind.i64.wrap ((cnt:Int)+(t.length:Int))) (by rw[aa,am (by simp only[ab];omega)]) K0.dInt (K0.dU32 Gw) ?_
 have Hn:IntKind.u32.wrap (IntKind.i64.wrap ((cnt:Int)+(t.length:Int)))=(dL (cnt+t.length):Nat):=by
  have:IntKind.i64.wrap ((cnt:Int)+(t.length:Int))=((cnt+t.length:Nat):Int):=by simp[IntKind.wrap,IntKind.bits,IntKind.signed];omega
  rw[this]
  simp[IntKind.wrap,IntKind.bits,IntKind.signed,dL]
 rw[Hn]
 refine dR (K0.uvE Gw) ?_ (K0.uvC Gw (dL (cnt+t.length)) w2 (lM _) L) (hd.keep Gs fun _ _ h=>h) (Nat.le_trans hL Gs.size) hlim (by simp only[ab];omega) fun w3 d3 GI=>wpList_nil (h _ w3 d3 ?_ (am (by simp only[ab];omega)) (Gr.pre Gs (fun _ _ h=>h) GI))
 ·simp only[List.map_cons,List.map_nil,aa]
  rw[ak (by omega),ak (by omega),ak (by omega),ak (by omega),ak (by omega),ak (by omega),ak (by omega),ak (by omega),am (by omega),am (by simp only[ab];omega)]
 ·exact((((((((((((Pv.refl _ _ _ _ _).put _ (by omega)).put _ (by omega)).put _ (by omega)).put _ (by omega)).put _ (by omega)).put _ (by omega)).put _ (by omega)).put _ (by omega)).put _ (by omega)).put _ (by omega)).put _ (.inl rfl))
theorem AF {x key:Nat}{t:Nat}{A:GC}{l:List (Nat × GC)}{kk:Nat}(HJ:a.get key=.int .u32 kk)(_hkn:key<n)(hm:m<=k0)(hk:k0<=n)(hn:n+2<=a.tmps.size)
  (GP:kk=t->∀ a',Pv x m k0 n a a'->(∀ i,i<n->a'.get i=a.get i)->aQ P (A (n+2)).1 Q a' w) (H1:kk≠t->∀ a',Pv x m k0 n a a'->(∀ i,i<n->a'.get i=a.get i)->aQ P (cf g key l (A (n+2)).2).1 Q a' w):aQ P (cf g key ((t,A)::l) n).1 Q a w:=by
 have G3:∀ (b:Bool) (K':Act->World->Prop),b=decide ((kk:Int)=(t:Int))->(∀ a',a'.eval (tm n)=.bool b->Pv x m k0 n a a'->(∀ i,i<n->a'.get i=a.get i)->K' a' w) ->
   wpList P [mk (some (n+1)) (.binOp .eql g.tU32 (tm key) (ki .u32 t) 0),mk (some n) (.assign (tm (n+1)))].toArray (Exit.then K' Q) [mk (some (n+1)) (.binOp .eql g.tU32 (tm key) (ki .u32 t) 0),mk (some n) (.assign (tm (n+1)))] a w:=by
  intro b K' hb hK'
  refine bt (b:=b) (p:=kk) (q:=t) (k:=.u32) (by rw[aa,HJ]) rfl (.inr (.inr (.inr (.inr (.inl ⟨rfl,hb⟩))))) (aj (wpList_nil (hK' _ ?_ (((Pv.refl _ _ _ _ _).put _ (by omega)).put _ (by omega)) fun i hi=>?_)))
  ·rw[aa,aa,am (by simp only[ab];omega),am (by omega)]
  ·rw[ak (by omega),ak (by omega)]
 by_cases Jr:kk=t
 ·exact .seq (.reg (G3 true (fun a' w'=>a'.eval (tm n)=.bool true/\aQ P (A (n+2)).1 Q a' w') (by simp[Jr]) fun a' he hp hl=>⟨he,GP Jr a' hp hl⟩)) (fun a' w' h=>.condT h.1 h.2) (fun e a w he hq=>by rw[cA he]at hq;exact hq)
 ·exact .seq (.reg (G3 false (fun a' w'=>a'.eval (tm n)=.bool false/\aQ P (cf g key l (A (n+2)).2).1 Q a' w') (by simp;omega) fun a' he hp hl=>⟨he,H1 Jr a' hp hl⟩)) (fun a' w' h=>.condF h.1 h.2) (fun e a w he hq=>by rw[cA he]at hq;exact hq)
end
section
variable {P:Program} {g:GW} {av:PF->Bool} {fl nl:Bool} {te:Nat} {L m k0 n:Nat} {d:Value} {bs:Bs} {K E:Act->World->Prop} {Q:Exit->Act->World->Prop} {a:Act} {w:World}
theorem xW (_hInt:P.underlying g.tInt=some (.int .i64)){q tKs tv b1 b2 b3:Nat}{cs:List (Nat × GC)}{v:Value}{ks:List Nat}{es:List Bs}(T:Ds P tKs g.tU32)(hq:a.get q=v)(hv:jr w L g.tU32 v ks)(RN:∀ j,v.ownBlock=some j->d.ownBlock≠some j)(h1:a.get 1=d)(hd:aH w L te d bs)(Gp:ks.length<=1000)(Jf:es.length=ks.length)
  (V7:q<n) (V1:m<=tv/\tv<k0) (h1t:1<tv) (hk:k0<=n) (hn:(ip g q tKs tv b1 b2 b3 cs n).2<=a.tmps.size) (Ib:n+7<=(cf g (n+6) cs (n+7)).2)
  (Rn:∀ (j k:Nat) (e:Bs) (a1:Act) (w1:World) (d1:Value),ks[j]?=some k->es[j]?=some e->Pv 1 tv k0 n a a1->a1.get (n+6)=.int .u32 (k:Int)->a1.get 1=d1->Gr L te d w d1 (bs++(es.take j).flatten) w1 ->
   aQ P (cf g (n+6) cs (n+7)).1 (Rt (fun a2 w2=>∃ d2,Pv 1 (tv+1) k0 (n+6) a1 a2/\a2.get 1=d2/\Gr L te d1 w1 d2 ((bs++(es.take j).flatten)++e) w2) E) a1 w1)
  (h:∀ a' w' d',Pv 1 tv k0 n a a'->a'.get 1=d'->Gr L te d w d' (bs++es.flatten) w'->K a' w'):aQ P (ip g q tKs tv b1 b2 b3 cs n).1 (Rt K E) a w:=by
 have hn':(cf g (n+6) cs (n+7)).2+1<=a.tmps.size:=hn
 obtain⟨base,c,HT⟩:=hv.form
 unfold ip
 generalize hz:(cf g (n+6) cs (n+7)).2=z at hn' Ib
 refine .seq (R:=Rt (fun a' w'=>Pv 1 tv k0 n a a'/\a'.get n=v/\a'.get (n+1)=.int .i64 (ks.length:Int)/\a'.get (n+2)=.int .i64 ((0:Nat):Int)/\a'.get 1=d/\w'=w) E) (.reg (ag ?_)) (fun a' w' hh=>?_) (fun e a w he hq=>by cases e<;>first|exact absurd rfl he|exact hq)
 ·rw[aa,hq]
  refine en (base:=base) (n:=ks.length) (c:=c) (by rw[aa,am (by omega),HT]) T.sl (ag (wpList_nil ⟨?_,?_,?_,?_,?_,rfl⟩))
  ·exact(((Pv.refl _ _ _ _ _).put _ (by omega)).put _ (by omega)).put _ (by omega)
  ·rw[ak (by omega),ak (by omega),am (by omega)]
  ·rw[ak (by omega),am (by simp only[ab];omega)]
  ·rw[am (by simp only[ab];omega)];rfl
  ·rw[ak (by omega),ak (by omega),ak (by omega)];exact h1
 ·obtain⟨hp,LH,LJ,OI,Gv,rfl⟩:=hh
  refine .block (.loop (fun a1 w1=>∃ j:Nat,j<=ks.length/\Pv 1 tv k0 n a a1/\a1.get n=v/\a1.get (n+1)=.int .i64 (ks.length:Int)/\a1.get (n+2)=.int .i64 (j:Int)/\∃ d1,a1.get 1=d1/\Gr L te d w' d1 (bs++(es.take j).flatten) w1) (fun a1 _=>((ks.length:Int)-(match a1.get (n+2)with|.int _ q=>q|_=>0)).toNat) ⟨0,by omega,hp,LH,LJ,OI,d,Gv,by simpa using Gr.refl hd⟩ ?_)
  rintro a1 w1 ⟨j,hj,Gk,QF,Mr,Ka,d1,Is,hG⟩
  have Gu:=Gk.size
  have G3:∀ (b:Bool),b=decide ((j:Int)<(ks.length:Int))->wpList P [mk (some (n+3)) (.binOp .lss g.tInt (tm (n+2)) (tm (n+1)) 0)].toArray
    (Rt (fun a' w'=>a'.eval (tm (n+3))=.bool b/\a'=a1.put (some (n+3)) (.bool b)/\w'=w1) E) [mk (some (n+3)) (.binOp .lss g.tInt (tm (n+2)) (tm (n+1)) 0)] a1 w1:=by
   intro b hb
   refine bt (b:=b) (p:=j) (q:=ks.length) (k:=.i64) Ka Mr (.inr (.inr (.inl ⟨rfl,hb⟩))) (wpList_nil ?_)
   exact⟨by rw[aa,am (by omega)],rfl,rfl⟩
  by_cases Gq:j<ks.length
  ·obtain⟨k,OA⟩:∃ k,ks[j]?=some k:=⟨ks[j],List.getElem?_eq_getElem Gq⟩
   obtain⟨e0,OU⟩:∃ e,es[j]?=some e:=⟨es[j]'(by omega),List.getElem?_eq_getElem (by omega)⟩
   refine .seq (R:=Rt (fun a' w'=>a'.eval (tm (n+3))=.bool true/\a'=a1.put (some (n+3)) (.bool true)/\w'=w1) E) (.reg (G3 true (by simp[Gq]))) (fun a2 w2 hh=>?_) (fun e a w he hq=>by cases e<;>first|exact absurd rfl he|exact hq|exact hq.elim)
   obtain⟨IB,rfl,rfl⟩:=hh
   refine .seq (R:=Rt (fun a' w'=>a'=a1.put (some (n+3)) (.bool true)/\w'=w2) E) (.condT IB (.skip ⟨rfl,rfl⟩)) (fun a2 w3 hh=>?_) (fun e a w he hq=>by cases e<;>first|exact absurd rfl he|exact hq|exact hq.elim)
   obtain⟨rfl,rfl⟩:=hh
   have Iu:jr w3 L g.tU32 v ks:=hv.keep hG.keeps fun j hj hX=>RN j hj hX
   have Gn:∃ G c',v=.slice (some ⟨G,0,none⟩) ks.length c'/\w3.cell? ⟨G,0+j*1,none⟩=some (lW k):=by
    rcases Iu with⟨_,rfl⟩|⟨G,c',cur,e1,_,e2,_,_,_,e3⟩
    ·simp at Gq
    ·refine⟨G,c',e1,?_⟩
     have:=e3 j k OA
     simp[World.cell?,e2,this]
   obtain⟨G,c',hvG,Gn⟩:=Gn
   refine .seq (R:=Rt (fun a3 w4=>Pv 1 tv k0 n a a3/\a3.get n=v/\a3.get (n+1)=.int .i64 (ks.length:Int)/\a3.get (n+2)=.int .i64 (j:Int)/\∃ d3,a3.get 1=d3/\Gr L te d w' d3 (bs++(es.take (j+1)).flatten) w4) E) (.block ?_)
    (fun a3 w4 hh=>?_) (fun e a w he hq=>by cases e<;>first|exact absurd rfl he|exact hq|exact hq.elim)
   ·refine .seq (R:=Rt (fun a3 w4=>Pv 1 tv k0 n a a3/\a3.get n=v/\a3.get (n+1)=.int .i64 (ks.length:Int)/\a3.get (n+2)=.int .i64 (j:Int)/\a3.get tv=lW k/\a3.get 1=d1/\w4=w3) E) (.reg ?_) (fun a3 w4 hh=>?_) (fun e a w he hq=>by cases e<;>first|exact absurd rfl he|exact hq|exact hq.elim)
    ·refine cz (b:=G) (o:=0) (n:=ks.length) (c:=c') (i:=j) (k:=.i64) (sz:=1) (by rw[aa,ak (by omega),QF,hvG]) (by rw[aa,ak (by omega),Ka]) Gq T.sl (T.vU.size _) ?_
     refine b5 (p:=⟨G,0+j*1,none⟩) (v:=lW k) (by rw[aa,am (by simp only[ab];omega)]) (T.vU.agg _) Gn (aj (wpList_nil ⟨?_,?_,?_,?_,?_,?_,rfl⟩))
     ·exact(((Gk.put _ (by omega)).put _ (by omega)).put _ (by omega)).put _ (by omega)
     ·rw[ak (by omega),ak (by omega),ak (by omega),ak (by omega)];exact QF
     ·rw[ak (by omega),ak (by omega),ak (by omega),ak (by omega)];exact Mr
     ·rw[ak (by omega),ak (by omega),ak (by omega),ak (by omega)];exact Ka
     ·rw[am (by simp only[ab];omega),aa,am (by simp only[ab];omega)]
     ·rw[ak (by omega),ak (by omega),ak (by omega),ak (by omega)];exact Is
    ·obtain⟨Gt,OH,KQ,KR,TZ,Ia,rfl⟩:=hh
     have Hh:=Gt.size
     refine .seq (R:=Rt (fun a4 w5=>Pv 1 tv k0 n a a4/\a4.get n=v/\a4.get (n+1)=.int .i64 (ks.length:Int)/\a4.get (n+2)=.int .i64 (j:Int)/\a4.get (n+6)=.int .u32 (k:Int)/\a4.get 1=d1/\w5=w4) E) (.reg (ag (wpList_nil ?_))) (fun a4 w5 hh=>?_) (fun e a w he hq=>by cases e<;>first|exact absurd rfl he|exact hq|exact hq.elim)
     ·rw[aa,TZ]
      refine⟨Gt.put _ (by omega),?_,?_,?_,?_,?_,rfl⟩
      ·rw[ak (by omega)];exact OH
      ·rw[ak (by omega)];exact KQ
      ·rw[ak (by omega)];exact KR
      ·exact am (by omega)
      ·rw[ak (by omega)];exact Ia
     ·obtain⟨GD,TY,Ua,Ub,GH,Kj,rfl⟩:=hh
      refine .block (.mono (Rn j k e0 a4 w5 d1 OA OU GD GH Kj hG) fun e a5 w6 hq=>?_)
      cases e<;>first|exact hq.elim|skip
      ·obtain⟨d2,HB,N4,II⟩:=hq
       refine⟨GD.trans (HB.mono (by omega) (by omega)),by rw[HB.get _ (by omega) (.inr (by omega))];exact TY,by rw[HB.get _ (by omega) (.inr (by omega))];exact Ua,by rw[HB.get _ (by omega) (.inr (by omega))];exact Ub,d2,N4,?_⟩
       have e1:(es.take (j+1)).flatten=(es.take j).flatten++e0:=by
        rw[List.take_add_one,OU]
        simp
       rw[e1,<- List.append_assoc]
       exact hG.trans II
      ·exact hq
   ·obtain⟨Gt,OH,KQ,KR,d3,Ia,LL⟩:=hh
    have Hh:=Gt.size
    have Hn:IntKind.i64.wrap ((j:Int)+1)=((j+1:Nat):Int):=by simp[IntKind.wrap,IntKind.bits,IntKind.signed];omega
    refine .reg (cE (v:=.int .i64 ((j+1:Nat):Int)) (k:=.i64) (m:=j) (n:=1) KR rfl (by simp) (by simp[binOp,Op.intArith,Hn]) (ag (wpList_nil ?_)))
    rw[aa,am (by omega)]
    have I7:((a3.put (some z) (.int .i64 ((j+1:Nat):Int))).put (some (n+2)) (.int .i64 ((j+1:Nat):Int))).get (n+2)=.int .i64 ((j+1:Nat):Int):=am (by simp only[ab];omega)
    refine⟨⟨j+1,by omega,(Gt.put _ (by omega)).put _ (by omega),?_,?_,I7,d3,?_,LL⟩,?_⟩
    ·rw[ak (by omega),ak (by omega)];exact OH
    ·rw[ak (by omega),ak (by omega)];exact KQ
    ·rw[ak (by omega),ak (by omega)];exact Ia
    ·rw[I7,Ka]
     simp only
     omega
  ·have QA:j=ks.length:=by omega
   subst QA
   refine .seq (R:=Rt (fun a' w'=>a'.eval (tm (n+3))=.bool false/\a'=a1.put (some (n+3)) (.bool false)/\w'=w1) E) (.reg (G3 false (by simp))) (fun a2 w2 hh=>?_) (fun e a w he hq=>by cases e<;>first|exact absurd rfl he|exact hq|exact hq.elim)
   obtain⟨IB,rfl,rfl⟩:=hh
   refine .seq (R:=fun e a w=>e≠.normal/\Exit.inBlock b1 (Rt K E) e a w) (.condF IB (.exit ?_)) (fun a2 w2 hh=>absurd rfl hh.1) (fun e a w he hq=>?_)
   ·simp only[Exit.inBlock,if_true]
    rw[<- Jf,List.take_length]at hG
    exact⟨by simp,h _ _ d1 (Gk.put _ (by omega)) (by rw[ak (by omega)];exact Is) hG⟩
   ·rw[cA he];exact hq.2
end
def nS (e:xc)(hf:Bool)(T kt:Nat)(toff:Option Nat):Bool:=match toff with|some o=>hf&&eB e.P T kt (qA e.P T kt) o true 1|none=>!hf
def qq (e:xc)(hf:Bool)(m k0 F:Nat):Fds->List Nm->Bool
 | .nil,_=>true
 | .cons _ _ _ _ off ty r,ms=>eB e.P F ((ms.headD (.mk [] [])).n 1) ((ms.headD (.mk [] [])).n 2) off false 1&&dQ e hf m k0 ty ((ms.headD (.mk [] [])).n 0) []&&qq e hf m k0 F r ms.tail
def FR (P:Program)(tKs tU:Nat):Bool:=(match P.underlying tKs with|some (.slice E)=>E==tU|_=>false)&&(match P.info? tU with|some i=>(match i.zero with|some z=>i.size==1&&i.bytes==4&&z.cells.size==1|none=>false)|none=>false)&&jg P tU false 1&&(match P.underlying tU with|some (.int .u32)=>true|_=>false)
theorem Cu {P:Program}{tKs tU:Nat}(h:FR P tKs tU=true):Ds P tKs tU:=by
 simp only[FR,Bool.and_eq_true]at h
 obtain⟨⟨⟨h1,h2⟩,h3⟩,h4⟩:=h
 refine⟨?_,?_,varB_ok h3,?_⟩
 ·split at h1
  ·rename_i E hE
   simp only[beq_iff_eq]at h1
   rw[hE,h1]
  ·cases h1
 ·split at h2
  ·rename_i i hi
   split at h2
   ·rename_i z hz
    simp only[Bool.and_eq_true,beq_iff_eq]at h2
    exact⟨i,z,hi,hz,h2.1.1,h2.1.2,h2.2⟩
   ·cases h2
  ·cases h2
 ·split at h4
  ·assumption
  ·cases h4
def jm (e:xc)(hf:Bool)(m k0 T kt:Nat)(toff:Option Nat)(fs:Fds)(nm:Nm)(okb:Bool):Bool:=nS e hf T kt toff &&
 (!fs.tagged || (decide (m<=nm.n 0/\nm.n 0<nm.n 2/\nm.n 2<k0/\fs.len<=1000)&&FR e.P (nm.n 1) e.g.tU32&&iU e.P e.av e.g T fs nm.s&&decide fs.tagsOf.Nodup&&okb))
mutual
def lw (e:xc)(hf:Bool)(m k0 T off:Nat):Ty->Nm->Bool
 | .prim p,nm=>dQ e hf m k0 (.prim p) (nm.n 0) (nm.l.drop 4)&&nm.n 1==T&&eB e.P T (nm.n 2) (nm.n 3) off (Ty.agg (.prim p)) (Ty.sz (.prim p))&&(p != .uuid || nm.n 3==e.g.tUuid)
 | .str nul,nm=>dQ e hf m k0 (.str nul) (nm.n 0) (nm.l.drop 4)&&nm.n 1==T&&eB e.P T (nm.n 2) (nm.n 3) off false 1
 | .bytes nul,nm=>dQ e hf m k0 (.bytes nul) (nm.n 0) []&&nm.n 1==T&&eB e.P T (nm.n 2) (nm.n 3) off false 1
 | .list nul esz el,nm=>
  decide (m<=nm.n 0/\nm.n 0<nm.n 4/\nm.n 4<k0)&&nm.n 1==T&&eB e.P T (nm.n 2) (nm.n 3) off false 1&&(!nul.isSome || e.nl) &&
  (match nP e.P (nm.n 3) with
   | some (E,sz,_)=>sz==esz&&okElW e hf (nm.n 4+1) k0 E esz el (nm.sub 0)&&(nul.isSome || l5 e.g hf)
   | none=>false)
 | .struct none toff fs,nm=>
  decide (m<=nm.n 0/\nm.n 0<k0)&&nm.n 1==T&&eB e.P T (nm.n 2) (qA e.P T (nm.n 2)) off true (nB e.P (qA e.P T (nm.n 2)))&&jm e hf (nm.n 0+1) k0 (nm.n 3) (nm.n 4) toff fs (nm.sub 0) (okTagdW e hf ((nm.sub 0).n 2+1) k0 (nm.n 3) fs (nm.sub 0).s)&&okFdsW e hf (nm.n 0+1) k0 (nm.n 3) fs (nm.sub 0).s
 | .struct (some _) toff fs,nm=>
  decide (m<=nm.n 0/\nm.n 0<k0)&&nm.n 1==T&&eB e.P T (nm.n 2) (nm.n 3) off false 1&&wu e.P (nm.n 3)&&jm e hf (nm.n 0+1) k0 (nm.n 4) (nm.n 5) toff fs (nm.sub 0) (okTagdW e hf ((nm.sub 0).n 2+1) k0 (nm.n 4) fs (nm.sub 0).s)&&okFdsW e hf (nm.n 0+1) k0 (nm.n 4) fs (nm.sub 0).s
def okElW (e:xc)(hf:Bool)(m k0 E esz:Nat):Ty->Nm->Bool
 | .struct none toff fs,nm=>decide (m<=nm.n 0/\nm.n 0<k0)&&jm e hf (nm.n 0+1) k0 (nm.n 1) (nm.n 2) toff fs (nm.sub 0) (okTagdW e hf ((nm.sub 0).n 2+1) k0 (nm.n 1) fs (nm.sub 0).s)&&okFdsW e hf (nm.n 0+1) k0 (nm.n 1) fs (nm.sub 0).s
 | .struct (some _) _ _,_=>false
 | .list _ _ _,_=>false
 | .prim p,nm=>dQ e hf m k0 (.prim p) (nm.n 0) (nm.l.drop 2)&&nm.n 1==E&&jg e.P E (Ty.agg (.prim p)) (Ty.sz (.prim p))&&Ty.sz (.prim p)==esz&&(p != .uuid || E==e.g.tUuid)
 | .str nul,nm=>dQ e hf m k0 (.str nul) (nm.n 0) (nm.l.drop 2)&&nm.n 1==E&&jg e.P E false 1&&1==esz
 | .bytes nul,nm=>dQ e hf m k0 (.bytes nul) (nm.n 0) (nm.l.drop 2)&&nm.n 1==E&&jg e.P E false 1&&1==esz
def okFdsW (e:xc)(hf:Bool)(m k0 T:Nat):Fds->List Nm->Bool
 | .nil,_=>true
 | .cons _ _ tag _ off ty r,ms=>(tag.isSome || lw e hf m k0 T off ty (ms.headD (.mk [] [])))&&okFdsW e hf m k0 T r ms.tail
def okTagdW (e:xc)(hf:Bool)(m k0 T:Nat):Fds->List Nm->Bool
 | .nil,_=>true
 | .cons _ _ tag _ off ty r,ms=>(tag.isNone || okBodyW e hf m k0 T off ty (ms.headD (.mk [] [])))&&okTagdW e hf m k0 T r ms.tail
def okBodyW (e:xc)(hf:Bool)(m k0 T off:Nat):Ty->Nm->Bool
 | .prim p,nm=>if p=.uuid then e.av .uuid&&dQ e hf m k0 (.prim .uuid) (nm.n 0) []&&nm.n 1==T&&nm.n 3==e.g.tUuid&&eB e.P T (nm.n 2) (nm.n 3) off true 16 else AU p&&dQ e hf m k0 (.prim p) (nm.n 0) []&&nm.n 1==T&&eB e.P T (nm.n 2) (nm.n 3) off false 1
 | .str nul,nm=>decide (m<=nm.n 0/\nm.n 0<nm.n 4/\nm.n 0<nm.n 5/\nm.n 4≠nm.n 5/\nm.n 4<k0/\nm.n 5<k0)&&qW e hf (max (nm.n 4) (nm.n 5)+1) k0 (.str nul) (nm.n 0) []&&nm.n 1==T&&eB e.P T (nm.n 2) (nm.n 3) off false 1
 | .list nul esz el,nm=>
  decide (m<=nm.n 0/\nm.n 0<nm.n 4/\nm.n 0<nm.n 5/\nm.n 4≠nm.n 5/\nm.n 4<nm.n 12/\nm.n 5<nm.n 12/\nm.n 12<k0)&&nm.n 1==T&&eB e.P T (nm.n 2) (nm.n 3) off false 1&&(!nul.isSome || e.nl) &&
  (match nP e.P (nm.n 3) with
   | some (E,sz,_)=>sz==esz&&okElW e hf (nm.n 12+1) k0 E esz el (nm.sub 0)&&(nul.isSome || l5 e.g hf)
   | none=>false)
 | .struct none (some o) fs,nm=>decide (m<=nm.n 0/\nm.n 0<nm.n 4/\nm.n 0<nm.n 5/\nm.n 4≠nm.n 5/\nm.n 4<k0/\nm.n 5<k0)&&FP e.g nm o fs&&nm.n 1==T&&eB e.P T (nm.n 2) (nm.n 3) off true (nB e.P (nm.n 3))&&qq e hf (max (nm.n 4) (nm.n 5)+1) k0 (nm.n 3) fs (nm.sub 0).s&&nS e hf (nm.n 3) (nm.n 11) (some o)
 | _,_=>false
end
def toG (g:GW):G:=⟨fun _=>0,fun _=>0,0,0,0,0,0,0,0,0,0,0,g.tVer,0,0,0,0,0,0,0,0,0,0⟩
theorem ua (g:GW)(cx:Cx)(lo:Nat)(hi:Option Nat)(A:GC):i6 g cx lo hi A=dX (toG g) cx lo hi A:=by cases hi<;>rfl
theorem pI {cx:Cx}{A B:GC}(hA:Up A)(hB:Up B):Up (fk cx A B):=fq (cg hA hB) hB
theorem cn (g:GW)(cx:Cx)(ty:Ty)(v:Nat)(x:List Nat):iM (bo g cx ty v x):=by
 unfold bo
 split
 ·exact ae (aq _ _) ax
 ·split
  ·exact ae (aq _ _) (ae (aq _ _) ax)
  ·exact ae (aq _ _) ax
 all_goals first|exact ae (pI (aq _ _) (aq _ _)) ax|exact ae (cg (eE (ae (aq _ _) (ae (cg (aq _ _) (b7 _)) (ae (aq _ _) (ae (pI (aq _ _) (aq _ _)) ax))))) (pI (aq _ _) (aq _ _))) ax|exact ax
theorem vQ (g:GW)(cx:Cx)(T kt:Nat):iM (gJ g cx T kt):=
 dS (ae (cg (eE (ae (aq _ _) (ae (aq _ _) ax))) (b7 _)) ax) ax
theorem lf (g:GW)(cx:Cx)(nul:Option Nat)(v F:Nat):Up (fG g cx nul v F):=by
 cases nul<;>exact pI (aq _ _) (aq _ _)
theorem lg (g:GW)(v i b1 b2 F:Nat){body:List GC}(h:iM body):Up (g9 g v i b1 b2 F body):=fun n=>by
 have:=h (n+5)
 show n<=(gL body (n+5)).2+1
 omega
theorem oM {g:GW}{cx:Cx}{lo:Nat}{hi:Option Nat}{A:GC}(h:Up A):Up (i6 g cx lo hi A):=by
 cases hi with
 | none=>exact fq h (cg h (b7 _))
 | some q=>exact cg h (b7 _)
theorem u5 (ty:Ty)(s v T k F:Nat):Up (iq ty s v T k F):=fq (aq _ _) (aq _ _)
theorem mF (ty:Ty)(v i e F E:Nat):Up (jN ty v i e F E):=fq (aq _ _) (aq _ _)
theorem jW (g:GW)(key:Nat):∀ (cs:List (Nat × GC)),(∀ p∈cs,Up p.2)->∀ n,n<=(cf g key cs n).2
 | [],_,n=>Nat.le_refl n
 | (t,x)::r,h,n=>by
  have h1:=h (t,x) (by simp) (n+2)
  have h2:=jW g key r (fun p hp=>h p (by simp[hp])) (x (n+2)).2
  show n<=(cf g key r (x (n+2)).2).2
  simp only at h1
  omega
theorem lh {l:List GC}(h:iM l):Up (jO l):=h
theorem j6 (g:GW)(cx:Cx)(fs:Fds)(T kt:Nat)(m:Nm){cs:List (Nat × GC)}(h:∀ p∈cs,Up p.2):iM (gZ g cx fs T kt m cs):=by
 unfold gZ
 refine dS (dS (ae (cg (eE (ay (ay (ae (aq _ _) ax) (iQ g _ _ _ fs m.s)) (ae (aq _ _) (ae (fun n=>?_) (ae (aq _ _) ax))))) (b7 _)) ax) ax) (vQ _ _ _ _)
 have:=jW g (n+6) cs h (n+7)
 show n<=(cf g (n+6) cs (n+7)).2+1
 omega
theorem lj (g:GW)(cx:Cx)(b F:Nat):∀ (fs:Fds) (ms:List Nm),iM (e9 g cx b F fs ms)
 | .nil,_=>ax
 | .cons _ _ _ _ _ ty r,ms=>ae (eE (ae (aq _ _) (cn g cx ty _ _))) (lj g cx b F r ms.tail)
theorem mH (g:GW)(z lenAt l tB:Nat):Up (cV g z lenAt l tB):=cg (eE (ae (fun n=>Nat.le_add_right n 9) (ae (aq _ _) (ae (b7 _) ax)))) (b7 _)
theorem pJ (g:GW)(z lenAt l:Nat):iM (rW g z lenAt l):=ae (aq _ _) (ae (aq _ _) (ae (b7 _) ax))
mutual
theorem u9 (g:GW):∀ (ty:Ty) (cx:Cx) (nm:Nm),iM (lX g cx ty nm)
 | .prim _,_cx,_nm=>ae (u5 _ _ _ _ _ _) (cn _ _ _ _ _)
 | .str _,_cx,_nm=>ae (aq _ _) (cn _ _ _ _ _)
 | .bytes _,_cx,_nm=>ae (aq _ _) (cn _ _ _ _ _)
 | .list _nul _ e,cx,_nm=>ae (aq _ _) (ae (lf _ _ _ _ _) (ae (lg _ _ _ _ _ _ (upL_wel g e cx _ _ _ _)) ax))
 | .struct none _ fs,_cx,_nm=>ae (aq _ _) (ay (upL_wfds g fs _ _) (j6 _ _ _ _ _ _ (up_wtagd g fs _ _)))
 | .struct (some _) _ fs,_cx,_nm=>ae (aq _ _) (ae (cg (aq _ _) (eE (ae (aq _ _) (ay (upL_wfds g fs _ _) (j6 _ _ _ _ _ _ (up_wtagd g fs _ _)))))) ax)
theorem upL_wel (g:GW):∀ (ty:Ty) (cx:Cx) (v i F:Nat) (nm:Nm),iM (gwEl g cx ty v i F nm)
 | .prim _,_cx,_v,_i,_F,_nm=>ae (mF _ _ _ _ _ _) (cn _ _ _ _ _)
 | .str _,_cx,_v,_i,_F,_nm=>ae (mF _ _ _ _ _ _) (cn _ _ _ _ _)
 | .bytes _,_cx,_v,_i,_F,_nm=>ae (mF _ _ _ _ _ _) (cn _ _ _ _ _)
 | .list _ _ _,_cx,_v,_i,_F,_nm=>ae (mF _ _ _ _ _ _) (cn _ _ _ _ _)
 | .struct _ _ fs,_cx,_v,_i,_F,_nm=>ae (aq _ _) (ay (upL_wfds g fs _ _) (j6 _ _ _ _ _ _ (up_wtagd g fs _ _)))
theorem upL_wfds (g:GW):∀ (fs:Fds) (cx:Cx) (ms:List Nm),iM (gwFds g cx fs ms)
 | .nil,_,_=>ax
 | .cons _lo _hi _tag _ _ ty r,cx,_ms=>dS (ae (oM (eE (u9 g ty cx _))) (upL_wfds g r cx _)) (upL_wfds g r cx _)
theorem up_wtagd (g:GW):∀ (fs:Fds) (cx:Cx) (ms:List Nm),∀ p∈gwTagd g cx fs ms,Up p.2
 | .nil,_,_,p,hp=>by simp[gwTagd]at hp
 | .cons _ _ (some t) _ _ ty r,cx,ms,p,hp=>by
  simp only[gwTagd,List.mem_cons]at hp
  rcases hp with rfl|hp
  ·exact up_wbody g ty cx t _
  ·exact up_wtagd g r cx ms.tail p hp
 | .cons _ _ none _ _ ty r,cx,ms,p,hp=>by
  simp only[gwTagd]at hp
  exact up_wtagd g r cx ms.tail p hp
theorem up_wbody (g:GW):∀ (ty:Ty) (cx:Cx) (t:Nat) (nm:Nm),Up (gwBody g cx t ty nm)
 | .prim _,_cx,_t,_nm=>eE (ay (ae (u5 _ _ _ _ _ _) (ae (aq _ _) (ae (aq _ _) ax))) (cn _ _ _ _ _))
 | .str _,_cx,_t,_nm=>lh (ay (ay (ay (ae (aq _ _) (ae (aq _ _) ax)) (pJ _ _ _ _)) (cn _ _ _ _ _)) (ae (mH _ _ _ _ _) ax))
 | .bytes _,_cx,_t,_nm=>lh (ay (ay (ay (ae (aq _ _) (ae (aq _ _) ax)) (pJ _ _ _ _)) (cn _ _ _ _ _)) (ae (mH _ _ _ _ _) ax))
 | .list _ _ e,cx,_t,_nm=>lh (ay (ay (ay (ae (aq _ _) (ae (aq _ _) ax)) (pJ _ _ _ _)) (ae (lf _ _ _ _ _) (ae (lg _ _ _ _ _ _ (upL_wel g e cx _ _ _ _)) ax))) (ae (mH _ _ _ _ _) ax))
 | .struct _ _ fs,cx,_t,_nm=>lh (ay (ay (ay (ae (aq _ _) (ae (aq _ _) ax)) (pJ _ _ _ _)) (ay (lj g cx _ _ fs _) (ae (cg (eE (ae (aq _ _) (ae (aq _ _) ax))) (b7 _)) ax))) (ae (mH _ _ _ _ _) ax))
end
theorem eJ.far {L:Nat}{w w':World}(hk:ac (fun k=>L<=k) w w'){toff:Option Nat}{b o:Nat}{t:List (Nat × Bs)}(h:eJ w (fun k=>L<=k) b o toff t)(hb:b<L)(hL:L<=w.heap.size):eJ w' (fun k=>L<=k) b o toff t:=
 h.frame hk fun k _=>ci (hk.block b (by omega) (by omega)) _
theorem ac.none {X:Nat->Prop}{w w':World}(h:ac (fun _=>False) w w'):ac X w w':=h.mono fun _ _ h=>h.elim
theorem fX (g:GW)(cx:Cx)(fs:Fds)(T kt:Nat)(m:Nm):iM (bJ g cx fs T kt m):=j6 g cx fs T kt m (up_wtagd g fs cx m.s)
section
variable (P:Program) (g:GW) (av:PF->Bool) (fl nl:Bool) (te:Nat)
def wV (ty:Ty):Prop:=
 ∀ (nm:Nm) (cx:Cx) (fx:Bool) (ver:Int) (B O L m k0 n T off:Nat) (v:V) (d:Value) (bs:Bs) (K E:Act->World->Prop) (a:Act) (w:World),
  lw ⟨P,g,av,nl⟩ cx.hf m k0 T off ty nm=true->WC cx fx ver te L B O d bs a w->mU cx m k0->(cx.hf=true->fl=true)->k0<=n->k0<=a.tmps.size->(gL (lX g cx ty nm) n).2<=a.tmps.size ->
  Rp w (fun k=>L<=k) ty B (O+off) v->bs.length+(bO fx ver ty v).length<=d7 ->
  (∀ a' w' d',Pv 1 m k0 n a a'->a'.get 1=d'->Gr L te d w d' (bs++bO fx ver ty v) w'->K a' w')->LW P (lX g cx ty nm) n (Rt K E) a w
def wW (ty:Ty):Prop:=
 ∀ (nm:Nm) (cx:Cx) (fx:Bool) (ver:Int) (B O L m k0 n esz vs i F E' p q cnt c j:Nat) (v:V) (d:Value) (bs:Bs) (K E:Act->World->Prop) (a:Act) (w:World),
  okElW ⟨P,g,av,nl⟩ cx.hf m k0 E' esz ty nm=true->WC cx fx ver te L B O d bs a w->mU cx m k0->(cx.hf=true->fl=true)->k0<=n->k0<=a.tmps.size->(gL (gwEl g cx ty vs i F nm) n).2<=a.tmps.size ->
  a.get vs=.slice (some ⟨p,q,none⟩) cnt c->a.get i=.int .i64 j->j<cnt->vs<m->i<m->P.underlying F=some (.slice E')->(∀ w,(sizeOf E').run P w=.ok esz w)->p<L ->
  Rp w (fun k=>L<=k) ty p (q+j*esz) v->bs.length+(bO fx ver ty v).length<=d7 ->
  (∀ a' w' d',Pv 1 m k0 n a a'->a'.get 1=d'->Gr L te d w d' (bs++bO fx ver ty v) w'->K a' w')->LW P (gwEl g cx ty vs i F nm) n (Rt K E) a w
def mz (fs:Fds):Prop:=
 ∀ (ms:List Nm) (cx:Cx) (fx:Bool) (ver:Int) (B O L m k0 n T:Nat) (vs:List V) (d:Value) (bs:Bs) (K E:Act->World->Prop) (a:Act) (w:World),
  okFdsW ⟨P,g,av,nl⟩ cx.hf m k0 T fs ms=true->WC cx fx ver te L B O d bs a w->mU cx m k0->(cx.hf=true->fl=true)->k0<=n->k0<=a.tmps.size->(gL (gwFds g cx fs ms) n).2<=a.tmps.size ->
  RpF w (fun k=>L<=k) fs B O vs->bs.length+(wrFds fx ver fs vs).length<=d7 ->
  (∀ a' w' d',Pv 1 m k0 n a a'->a'.get 1=d'->Gr L te d w d' (bs++wrFds fx ver fs vs) w'->K a' w')->LW P (gwFds g cx fs ms) n (Rt K E) a w
def kO (ty:Ty):Prop:=
 ∀ (nm:Nm) (cx:Cx) (ver:Int) (B O L m k0 n T off t:Nat) (v:V) (d:Value) (bs:Bs) (K E:Act->World->Prop) (a:Act) (w:World),
  okBodyW ⟨P,g,av,nl⟩ cx.hf m k0 T off ty nm=true->cx.hf=true->t<4294967296->WC cx true ver te L B O d bs a w->mU cx m k0->fl=true->k0<=n->k0<=a.tmps.size->(gwBody g cx t ty nm n).2<=a.tmps.size ->
  Rp w (fun k=>L<=k) ty B (O+off) v->bs.length+(dj (t,bO true ver ty v)).length<=d7 ->
  (∀ a' w' d',Pv 1 m k0 n a a'->a'.get 1=d'->Gr L te d w d' (bs++dj (t,bO true ver ty v)) w'->K a' w')->aQ P (gwBody g cx t ty nm n).1 (Rt K E) a w
def qK:Fds->Prop
 | .nil=>True
 | .cons _ _ _ _ _ ty r=>kO P g av fl nl te ty/\qK r
def mc (fs:Fds):Prop:=
 ∀ (nm:Nm) (cx:Cx) (fx:Bool) (ver:Int) (B O L m k0 n T kt:Nat) (toff:Option Nat) (vs:List V) (t:List (Nat × Bs)) (d:Value) (bs:Bs) (K E:Act->World->Prop) (a:Act) (w:World),
  jm ⟨P,g,av,nl⟩ cx.hf m k0 T kt toff fs nm (okTagdW ⟨P,g,av,nl⟩ cx.hf (nm.n 2+1) k0 T fs nm.s)=true->WC cx fx ver te L B O d bs a w->mU cx m k0->(cx.hf=true->fl=true)->k0<=n->k0<=a.tmps.size->(gL (bJ g cx fs T kt nm) n).2<=a.tmps.size ->
  RpF w (fun k=>L<=k) fs B O vs->eJ w (fun k=>L<=k) B O toff t->bs.length+(fc fx (wrTgd fx ver fs vs) t).length<=d7 ->
  (∀ a' w' d',Pv 1 m k0 n a a'->a'.get 1=d'->Gr L te d w d' (bs++fc fx (wrTgd fx ver fs vs) t) w'->K a' w')->LW P (bJ g cx fs T kt nm) n (Rt K E) a w
end
section
variable {P:Program} {g:GW} {av:PF->Bool} {fl nl:Bool} {te:Nat}
theorem Ax {fs:Fds}(GV:mz P g av fl nl te fs)(KM:mc P g av fl nl te fs){nm:Nm}{cx:Cx}{fx:Bool}{ver:Int}{B O L m k0 n T kt:Nat}{toff:Option Nat}{vs:List V}{t:List (Nat × Bs)}{d:Value}{bs:Bs}{K E:Act->World->Prop}{a:Act}{w:World}
  (Hl:jm ⟨P,g,av,nl⟩ cx.hf m k0 T kt toff fs nm (okTagdW ⟨P,g,av,nl⟩ cx.hf (nm.n 2+1) k0 T fs nm.s)=true) (G1:okFdsW ⟨P,g,av,nl⟩ cx.hf m k0 T fs nm.s=true) (hw:WC cx fx ver te L B O d bs a w) (hc:mU cx m k0) (Gw:cx.hf=true->fl=true) (hk:k0<=n) (Hk:k0<=a.tmps.size) (hn:(gL (gwFds g cx fs nm.s++bJ g cx fs T kt nm) n).2<=a.tmps.size)
  (hr:RpF w (fun k=>L<=k) fs B O vs) (ht:eJ w (fun k=>L<=k) B O toff t) (hlim:bs.length+(wrFds fx ver fs vs++fc fx (wrTgd fx ver fs vs) t).length<=d7)
  (h:∀ a' w' d',Pv 1 m k0 n a a'->a'.get 1=d'->Gr L te d w d' (bs++(wrFds fx ver fs vs++fc fx (wrTgd fx ver fs vs) t)) w'->K a' w'):LW P (gwFds g cx fs nm.s++bJ g cx fs T kt nm) n (Rt K E) a w:=by
 rw[bc]at hn
 rw[List.length_append]at hlim
 have Ib:=j6 g cx fs T kt nm (up_wtagd g fs cx nm.s) (gL (gwFds g cx fs nm.s) n).2
 have Of:=upL_wfds g fs cx nm.s n
 refine fj ?_
 rw[aV]
 refine GV nm.s cx fx ver B O L m k0 n T vs d bs _ E a w G1 hw hc Gw hk Hk (Nat.le_trans Ib hn) hr (by omega) fun a1 w1 d1 Gk Gv Js=>?_
 have Gu:=Gk.size
 have Jc:=hw.step hc Gk Gv Js
 have Ho:=Gr.far hw.dst Js
 refine KM nm cx fx ver B O L m k0 _ T kt toff vs t d1 _ K E a1 w1 Hl Jc hc Gw (by omega) (by omega) (by rw[Gu];exact hn) (hr.far Ho hw.BL hw.Lw) (ht.far Ho hw.BL hw.Lw) (by rw[List.length_append];omega) fun a' w' d' GK h1' GA=>h a' w' d' (Gk.trans (GK.mono (Nat.le_refl _) Of)) h1' ?_
 rw[<- List.append_assoc];exact Js.trans GA
theorem x7:mz P g av fl nl te .nil:=fun ms cx fx ver B O L m k0 n T vs d bs K E a w G1 hw hc Gw hk Hk hn hr hlim h=>
 bg (h a w d (Pv.refl _ _ _ _ _) hw.s1 (by simpa[wrFds]using Gr.refl hw.dst))
theorem vA {lo:Nat}{hi tag:Option Nat}{df:Int}{off:Nat}{ty:Ty}{r:Fds}(IF:wV P g av fl nl te ty)(RW:mz P g av fl nl te r):mz P g av fl nl te (.cons lo hi tag df off ty r):=by
 intro ms cx fx ver B O L m k0 n T vs d bs K E a w G1 hw hc Gw hk Hk hn hr hlim h
 simp only[okFdsW,Bool.and_eq_true,Bool.or_eq_true]at G1
 obtain⟨GM,Kw⟩:=G1
 obtain⟨v,vs',rfl,hv,HU⟩:=hr
 cases Hv:tag.isNone with
 | false=>
  have Hr:gwFds g cx (.cons lo hi tag df off ty r) ms=gwFds g cx r ms.tail:=by simp only[gwFds,Hv,Bool.false_eq_true,if_false]
  have Hn:wrFds fx ver (.cons lo hi tag df off ty r) (v::vs')=wrFds fx ver r vs':=by simp only[wrFds,Hv,Bool.false_and,Bool.false_eq_true,if_false,List.nil_append,List.tail_cons]
  rw[Hr]at hn ⊢
  rw[Hn]at hlim h
  exact RW ms.tail cx fx ver B O L m k0 n T vs' d bs K E a w Kw hw hc Gw hk Hk hn HU hlim h
 | true=>
 have JQ:tag.isNone=true:=Hv
 replace GM:=GM.resolve_left (by cases tag<;>simp at JQ ⊢)
 have Hr:gwFds g cx (.cons lo hi tag df off ty r) ms=i6 g cx lo hi (gS (lX g cx ty (ms.headD (.mk [] []))))::gwFds g cx r ms.tail:=by simp only[gwFds,JQ,if_true]
 have Hn:wrFds fx ver (.cons lo hi tag df off ty r) (v::vs')=(if l6 lo hi ver then bO fx ver ty v else[])++wrFds fx ver r vs':=by
  simp only[wrFds,JQ,Bool.true_and,List.headD_cons,List.tail_cons]
 rw[Hr]at hn ⊢
 rw[Hn]at hlim h
 rw[List.length_append]at hlim
 have LT:Up (gS (lX g cx ty (ms.headD (.mk [] [])))):=eE (u9 g ty cx _)
 have Oe:=upL_wfds g r cx ms.tail (i6 g cx lo hi (gS (lX g cx ty (ms.headD (.mk [] [])))) n).2
 have MY:n<=(i6 g cx lo hi (gS (lX g cx ty (ms.headD (.mk [] [])))) n).2:=oM LT n
 have If:(i6 g cx lo hi (gS (lX g cx ty (ms.headD (.mk [] [])))) n).2<=a.tmps.size:=Nat.le_trans Oe hn
 have G5:=hc.le
 have HF:=hc.one
 have JM:=hc.ver
 have rest:∀ (a1:Act) (w1:World) (d1:Value) (enc:Bs),Pv 1 m k0 n a a1->a1.get 1=d1->Gr L te d w d1 (bs++enc) w1->enc=(if l6 lo hi ver then bO fx ver ty v else[])->LW P (gwFds g cx r ms.tail) (i6 g cx lo hi (gS (lX g cx ty (ms.headD (.mk [] [])))) n).2 (Rt K E) a1 w1:=by
  intro a1 w1 d1 enc Gk Gv Js he
  have Gu:=Gk.size
  refine RW ms.tail cx fx ver B O L m k0 _ T vs' d1 (bs++enc) K E a1 w1 Kw (hw.step hc Gk Gv Js) hc Gw (by omega) (by omega) (by rw[Gu];exact hn) (HU.far (Gr.far hw.dst Js) hw.BL hw.Lw) (by rw[List.length_append,he];omega) fun a' w' d' GK h1' GA=>h a' w' d' (Gk.trans (GK.mono (Nat.le_refl _) MY)) h1' ?_
  rw[<- he,<- List.append_assoc]
  exact Js.trans GA
 refine ad ?_
 rw[aV]
 rw[ua]at If MY rest ⊢
 refine qa (x:=n) (m:=m) (k0:=k0) hw.sv G5 hk (by omega) LT If (fun a1 n1 Gk MA VG hgg H2=>?_) (fun a1 Gk H2=>?_)
 ·have hp1':Pv 1 m k0 n a a1:=⟨Gk.size,Gk.defers,fun s hs G9=>Gk.get s (by omega) G9⟩
  have Gu:=Gk.size
  have Gv:a1.get 1=d:=by rw[Gk.get 1 (by omega) (.inl HF)];exact hw.s1
  refine bm (IF (ms.headD (.mk [] [])) cx fx ver B O L m k0 n1 T off v d bs _ E a1 w GM (hw.step hc hp1' Gv (Gr.refl hw.dst)) hc Gw (by omega) (by omega) ?_ hv (by rw[if_pos H2]at hlim;omega) fun a' w' d' GK h1' GA=>rest a' w' d' _ (hp1'.trans (GK.mono (Nat.le_refl _) MA)) h1' GA (by rw[if_pos H2]))
  rw[Gu]
  have:(gL (lX g cx ty (ms.headD (.mk [] []))) n1).2=(gS (lX g cx ty (ms.headD (.mk [] []))) n1).2:=rfl
  rw[this,<- hgg];exact If
 ·have hp1':Pv 1 m k0 n a a1:=⟨Gk.size,Gk.defers,fun s hs G9=>Gk.get s (by omega) G9⟩
  have Gv:a1.get 1=d:=by rw[Gk.get 1 (by omega) (.inl HF)];exact hw.s1
  exact rest a1 w d [] hp1' Gv (by simpa using Gr.refl hw.dst) (by rw[H2];rfl)
theorem je {e:xc}{hf:Bool}{m k0:Nat}{ty:Ty}{v:Nat}{x:List Nat}(h:dQ e hf m k0 ty v x=true):qW e hf m k0 ty v x=true/\m<=v/\v<k0:=by
 simp only[dQ,Bool.and_eq_true,decide_eq_true_eq]at h
 refine⟨h.1,h.2,?_⟩
 have:=h.1
 simp only[qW,Bool.and_eq_true,decide_eq_true_eq]at this
 exact this.1.1.2
theorem qy (fx:Bool)(ver:Int)(ty:Ty)(v:V)(h:ty.leaf=true):bO fx ver ty v=(cZ fx ver ty).wr v:=by
 cases ty with
 | prim p=>simp[bO]
 | str q=>simp[bO]
 | bytes q=>simp[bO]
 | list _ _ _=>cases h
 | struct _ _ _=>cases h
theorem mV (K0:KW P g av fl nl te){ty:Ty}(hl:ty.leaf=true){x:Nm->List Nat}(Hr:∀ cx nm,lX g cx ty nm=iq ty cx.s (nm.n 0) (nm.n 1) (nm.n 2) (nm.n 3)::bo g cx ty (nm.n 0) (x nm))
  (G1:∀ hf m k0 T off nm,lw ⟨P,g,av,nl⟩ hf m k0 T off ty nm=true->dQ ⟨P,g,av,nl⟩ hf m k0 ty (nm.n 0) (x nm)=true/\nm.n 1=T/\eB P T (nm.n 2) (nm.n 3) off ty.agg ty.sz=true/\(fF ty=true->nm.n 3=g.tUuid/\av .uuid=true)):wV P g av fl nl te ty:=by
 intro nm cx fx ver B O L m k0 n T off v d bs K E a w GM hw hc Gw hk Hk hn hr hlim h
 obtain⟨h1,hT,h2,h3⟩:=G1 _ _ _ _ _ _ GM
 subst hT
 rw[Hr]at hn ⊢
 rw[qy fx ver ty v hl]at hlim h
 have Hz:m<=nm.n 0/\nm.n 0<k0:=(je h1).2
 replace h1:=(je h1).1
 have Ib:=cn g cx ty (nm.n 0) (x nm) (iq ty cx.s (nm.n 0) (nm.n 1) (nm.n 2) (nm.n 3) n).2
 have Ih:(iq ty cx.s (nm.n 0) (nm.n 1) (nm.n 2) (nm.n 3) n).2=n+4:=by unfold iq;split<;>rfl
 have GU:(gL (bo g cx ty (nm.n 0) (x nm)) (iq ty cx.s (nm.n 0) (nm.n 1) (nm.n 2) (nm.n 3) n).2).2<=a.tmps.size:=hn
 rw[Ih]at Ib GU
 refine ad (C2 (off:=off) (X:=fun k=>L<=k) hl hw.ss (fldB_ok h2) (fun hu=>by obtain⟨e1,e2⟩:=h3 hu;rw[e1];exact K0.uuid e2) (fun _ _ _=>trivial) hr Hz hc.le hk (by omega) hc.one fun a1 w1 cs Gk Gv Gy Ml LF=>?_)
 rw[Ih]
 have Gu:=Gk.size
 have Js:Gr L te d w d bs w1:=Gr.pre Gy (fun _ _ h=>h) (Gr.refl (hw.dst.keep Gy fun _ _ h=>h))
 have e:bo g cx ty (nm.n 0) (x nm)=bo g cx ty (nm.n 0) (x nm)++[]:=(List.append_nil _).symm
 rw[e]
 exact lq K0 h1 (hw.step hc Gk (Gv.trans hw.s1) Js) hc (by omega) (by omega) (by rw[Gu];exact GU) Ml LF hlim fun a' w' d' GK h1' GA=>bg (h a' w' d' (Gk.trans (GK.mono (Nat.le_refl _) (by omega))) h1' (Gr.pre Gy (fun _ _ h=>h) GA))
theorem nr (K0:KW P g av fl nl te){ty:Ty}(hl:ty.leaf=true)(Hr:∀ cx v i F nm,gwEl g cx ty v i F nm=jN ty v i (nm.n 0) F (nm.n 1)::bo g cx ty (nm.n 0) (nm.l.drop 2))
  (G1:∀ hf m k0 E' esz nm,okElW ⟨P,g,av,nl⟩ hf m k0 E' esz ty nm=true->dQ ⟨P,g,av,nl⟩ hf m k0 ty (nm.n 0) (nm.l.drop 2)=true/\nm.n 1=E'/\jg P E' ty.agg ty.sz=true/\ty.sz=esz/\(fF ty=true->E'=g.tUuid/\av .uuid=true)):wW P g av fl nl te ty:=by
 intro nm cx fx ver B O L m k0 n esz vs i F E' p q cnt c j v d bs K E a w GM hw hc Gw hk Hk hn Hz hi hj JM Lz hF hE ND hr hlim h
 obtain⟨h1,hE',h2,rfl,h3⟩:=G1 _ _ _ _ _ _ GM
 rw[Hr,hE']at hn ⊢
 rw[qy fx ver ty v hl]at hlim h
 have G7:m<=nm.n 0/\nm.n 0<k0:=(je h1).2
 replace h1:=(je h1).1
 have G5:=hc.le
 have Ih:(jN ty vs i (nm.n 0) F E' n).2=n+4:=by unfold jN;split<;>rfl
 have Ib:=cn g cx ty (nm.n 0) (nm.l.drop 2) (n+4)
 have GU:(gL (bo g cx ty (nm.n 0) (nm.l.drop 2)) (jN ty vs i (nm.n 0) F E' n).2).2<=a.tmps.size:=hn
 rw[Ih]at GU
 refine ad (C1 (X:=fun k=>L<=k) hl Hz hi hj hF (varB_ok h2) (fun hu=>by obtain⟨e1,e2⟩:=h3 hu;rw[e1];exact K0.uuid e2) hr G7 (by omega) (by omega) G5 hk (by omega) hc.one fun a1 w1 cs Gk Gv Gy Ml LF=>?_)
 rw[Ih]
 have Gu:=Gk.size
 have Js:Gr L te d w d bs w1:=Gr.pre Gy (fun _ _ h=>h) (Gr.refl (hw.dst.keep Gy fun _ _ h=>h))
 have e:bo g cx ty (nm.n 0) (nm.l.drop 2)=bo g cx ty (nm.n 0) (nm.l.drop 2)++[]:=(List.append_nil _).symm
 rw[e]
 exact lq K0 h1 (hw.step hc Gk (Gv.trans hw.s1) Js) hc (by omega) (by omega) (by rw[Gu];exact GU) Ml LF hlim fun a' w' d' GK h1' GA=>bg (h a' w' d' (Gk.trans (GK.mono (Nat.le_refl _) (by omega))) h1' (Gr.pre Gy (fun _ _ h=>h) GA))
end
section
variable {P:Program} {g:GW} {av:PF->Bool} {fl nl:Bool} {te:Nat} {cx:Cx} {fx:Bool} {ver:Int} {L B O m k0 n:Nat} {d:Value} {bs:Bs} {K N E:Act->World->Prop} {Q:Exit->Act->World->Prop} {a:Act} {w:World}
theorem Au {F n v sz:Nat}{cs:List Value}{z:Value}{ops:Array Oper}{QQ:Exit->Act->World->Prop}(hV:bd P F true sz)(hz:∀ w,(zeroValue F).run P w=.ok z w)(IE:z.cells.size=sz)(hl:cs.length=sz)(h1:∀ u∈cs,u.oneCell'=true)(hn:a.get n=.agg cs.toArray)(Mi:n≠v)(Hz:v<a.tmps.size)
  (h:∀ w',ac (fun _=>False) w w'->w.heap.size<w'.heap.size->ao w' w.heap.size 0 cs->wpList P ops QQ [] (a.put (some v) (pt w.heap.size 0)) w') :
  wpList P ops QQ [mk (some v) (.alloc F),mk none (.store F (tm v) (tm n))] a w:=by
 refine ep (hz w) ?_
 let Z:Obj:=.cells z.cells F (0,0)
 have hb:(w.alloc Z).heap[w.heap.size]?=some Z:=aB w Z
 refine bw (g:=w.heap.size) (o:=0) (cur:=z.cells) (t:=F) (v:=.agg cs.toArray) (vs:=cs) (by rw[aa,dA _ _ _ Hz]) (by rw[aa,ge _ _ _ _ Mi];exact hn) rfl (by rw[hl];exact hV.size _) hb (by rw[hl];omega) h1 ?_
 rw[fu (by rw[hl];exact IE.symm)]
 have hk:ac (fun k=>w.heap.size<=k) w ((w.alloc Z).setRow w.heap.size cs.toArray):=(ac.alloc _ _ _).trans (ac.setRow (fun k=>w.heap.size<=k) _ _ _ (Nat.le_refl _))
 have Hj:=setRow_heap _ _ _ cs.toArray _ _ hb
 exact h _ (hk.mono fun k hk hX=>by omega) (Array.getElem?_eq_some_iff.1 Hj).1 (i7 Hj)
theorem oV {s v T k F off sz:Nat}{cs:List Value}{z:Value}(hs:a.get s=pt B O)(hF:bp P T k F off true sz)(hz:∀ w,(zeroValue F).run P w=.ok z w)(IE:z.cells.size=sz)(hl:cs.length=sz)(GG:∀ u∈cs,u.oneCell'=true)(hc:ao w B (O+off) cs)
  (hv:m<=v/\v<k0) (_hm:m<=k0) (hk:k0<=n) (hn:n+4<=a.tmps.size) (h1:1<m)
  (h:∀ a' w',Pv 1 m k0 n a a'->a'.get 1=a.get 1->a'.get v=pt w.heap.size 0->ac (fun _=>False) w w'->w.heap.size<w'.heap.size->ao w' w.heap.size 0 cs->K a' w'):aQ P (ia s v T k F n).1 (Exit.then K Q) a w:=by
 refine au (ag ?_)
 rw[aa,hs]
 refine aL (by rw[aa,am (by omega)];rfl) ?_
 refine bR (by rw[aa,am (by simp only[ab];omega)]) hF ?_
 refine fo (b:=B) (o:=O+off) (cs:=cs) (by rw[aa,am (by simp only[ab];omega)]) (hF.var.agg w) (by rw[hl];exact hF.var.size w) hc ?_
 refine Au hF.var hz IE hl GG (am (by simp only[ab];omega)) (by omega) (by simp only[ab];omega) fun w' H5 Gq Pb=>wpList_nil (h _ w' ?_ ?_ ?_ H5 Gq Pb)
 ·exact(((((Pv.refl _ _ _ _ _).put _ (by omega)).put _ (by omega)).put _ (by omega)).put _ (by omega)).put _ (by omega)
 ·rw[ak (by omega),ak (by omega),ak (by omega),ak (by omega),ak (by omega)]
 ·exact am (by simp only[ab];omega)
structure oy (w:World)(p:Nat)(cs:List Value)(d:Value):Prop where
 cells:ao w p 0 cs
 lt:p<w.heap.size
 ne:d.ownBlock≠some p
theorem oy.gr {p:Nat}{cs:List Value}{d':Value}{bs':Bs}{w':World}(h:oy w p cs d)(hg:Gr L te d w d' bs' w'):oy w' p cs d':=
 ⟨fun j c hj=>hg.keeps.cell h.ne (h.cells j c hj),Nat.lt_of_lt_of_le h.lt hg.keeps.size,fun hh=>by
  rcases hg.own p hh with h1|h1
  ·exact h.ne h1
  ·have:=h.lt;omega⟩
theorem wR (K0:KW P g av fl nl te):kO P g av fl nl te (.prim .uuid):=by
 intro nm cx ver B O L m k0 n T off t v d bs K E a w GM GR ht hw hc Gw hk Hk hn hr hlim h
 simp only[okBodyW,if_true,Bool.and_eq_true,beq_iff_eq]at GM
 obtain⟨⟨⟨⟨Ji,GL⟩,hT⟩,hF3⟩,Hy⟩:=GM
 subst hT
 obtain⟨M5,Lh,MX⟩:=je GL
 have G5:=hc.le
 have HF:=hc.one
 obtain⟨hV,hz⟩:=K0.uuid Ji
 obtain⟨cs,GE,hl⟩:=hr
 obtain⟨Gp,GG⟩:=ma hl
 obtain⟨l,JW,_,rfl⟩:=hl
 have La:bO true ver (.prim .uuid) (.s l)=l:=by simp[bO,cZ,bN,PF.wr,V.octets]
 have L9:(dj (t,bO true ver (.prim .uuid) (.s l))).length=(uvar t).length+((uvar 16).length+16):=by simp[dj,La,JW,dL]
 rw[L9]at hlim
 have GU:n+4+2+2+3<=a.tmps.size:=hn
 show aQ P (gS (ia cx.s (nm.n 0) (nm.n 1) (nm.n 2) (nm.n 3)::iH g t::iH g 16::[ub g (g.ap .uuid) (nm.n 0)]) n).1 (Rt K E) a w
 refine bm (ad (oV (m:=m) (k0:=k0) hw.ss (fldB_ok Hy) (fun w=>by rw[hF3];exact hz w) (by simp[Value.cells]) Gp GG GE ⟨Lh,MX⟩ G5 hk (by omega) HF fun a1 w1 Gk Is Iu Gy O6 GZ=>?_))
 have Gu:=Gk.size
 have Jg:aH w1 L te d bs:=hw.dst.keep Gy fun _ _ h=>h
 have RA:=Nat.le_trans hw.Lw Gy.size
 have L7:oy w1 w.heap.size cs d:=⟨GZ,O6,fun hh=>by have:=(hw.dst.own hh).2;omega⟩
 refine ad (sR (m:=m) K0 Gw ht (Is.trans hw.s1) Jg RA (by omega) G5 (by show k0<=n+4;omega) HF (by show n+4+2<=_;omega) fun a2 w2 d2 Gm J4 G2=>?_)
 have G9:=Gm.size
 have L8:=Nat.le_trans RA G2.keeps.size
 have Pc:=L7.gr G2
 refine ad (sR (m:=m) K0 Gw (by omega) J4 G2.dst L8 (by rw[List.length_append];omega) G5 (by show k0<=n+4+2;omega) HF (by show n+4+2+2<=_;omega) fun a3 w3 d3 Gt Ia GI=>?_)
 have Hh:=Gt.size
 have K8:=Pc.gr GI
 have R9:=Nat.le_trans L8 GI.keeps.size
 have LA:a3.get (nm.n 0)=pt w.heap.size 0:=by rw[Gt.get _ (by omega) (.inl (by omega)),Gm.get _ (by omega) (.inl (by omega))];exact Iu
 have hap:=K0.apC .uuid Ji w3 L cs (.agg cs.toArray) (.s l) ⟨l,JW,by assumption,rfl⟩ rfl
 refine ad (uO (m:=m) (k0:=k0) hV (K0.apE _ Ji) hap Ia LA K8.cells Gp (by show nm.n 0<n+4+2+2;omega) GI.dst R9 ?_ G5 (by show k0<=n+4+2+2;omega) (by show 1<n+4+2+2;omega) (by show n+4+2+2+3<=_;omega) fun a4 w4 d4 GD Kj Ht=>bg (h a4 w4 d4 ?_ Kj ?_))
 ·simp only[List.length_append,PF.wr,V.octets]
  omega
 ·exact((Gk.trans (Gm.mono G5 (by show n<=n+4;omega))).trans (Gt.mono G5 (by show n<=n+4+2;omega))).trans (GD.mono (Nat.le_refl _) (by show n<=n+4+2+2;omega))
 ·have:=(Gr.pre Gy (fun _ _ h=>h) (G2.trans GI)).trans Ht
  simpa[dj,La,JW,dL,PF.wr,V.octets,List.append_assoc]using this
theorem tc {ty:Ty}{p:Option cP}(h:kJ ty=some p):ty.leaf=true/\fF ty=false:=by
 cases ty with
 | prim q=>
  simp only[kJ]at h
  split at h
  ·rename_i hq
   refine⟨rfl,?_⟩
   cases q<;>first|rfl|cases hq
  ·cases h
 | str nul=>exact⟨rfl,rfl⟩
 | bytes _=>cases h
 | list _ _ _=>cases h
 | struct _ _ _=>cases h
theorem Bu (K0:KW P g av fl nl te){b F p:Nat}{cs:List Value}{rest:List GC}(hb:b<m/\b≠1):∀ (fs:Fds) (l:List (Nat × Option cP × Int)) (ms:List Nm) (vs:List V) (n:Nat) (a:Act) (w:World) (d:Value) (bs:Bs),m9 fs=some l->qq ⟨P,g,av,nl⟩ cx.hf m k0 F fs ms=true->uq (fun j=>cs[j]?) fs vs->oy w p cs d->a.get b=pt p 0 ->
  WC cx true ver te L B O d bs a w->mU cx m k0->k0<=n->k0<=a.tmps.size->(gL (e9 g cx b F fs ms) n).2<=a.tmps.size->bs.length+(wrFds true ver fs vs).length<=d7 ->
  (∀ a' w' d',Pv 1 m k0 n a a'->a'.get 1=d'->Gr L te d w d' (bs++wrFds true ver fs vs) w'->LW P rest (gL (e9 g cx b F fs ms) n).2 Q a' w')->LW P (e9 g cx b F fs ms++rest) n Q a w
 | .nil,l,ms,vs,n,a,w,d,bs,_,_,_,_,_,hw,_,_,_,_,_,h=>by
  have e:e9 g cx b F .nil ms=[]:=by simp only[e9]
  rw[e]at h ⊢
  exact h a w d (Pv.refl _ _ _ _ _) hw.s1 (by simpa[wrFds]using Gr.refl hw.dst)
 | .cons lo hi tag df off ty r,l,ms,vs,n,a,w,d,bs,hl,G1,P6,Kf,MH,hw,hc,hk,Hk,hn,hlim,h=>by
  obtain⟨rfl,rfl,rfl,q,l',hp,hr,rfl⟩:=iZ hl
  obtain⟨y,v,vs',rfl,hy,Qa,HU⟩:=P6
  obtain⟨GL,Sa⟩:=tc hp
  simp only[qq,Bool.and_eq_true]at G1
  obtain⟨⟨hF,hwo⟩,Kw⟩:=G1
  have hF:=fldB_ok hF
  obtain⟨M5,NY,hxk⟩:=je hwo
  have G5:=hc.le
  have HF:=hc.one
  have e:e9 g cx b F (.cons 0 none none df off ty r) ms=gS ((aA 2 fun n=>[mk (some n) (.fieldAddr F (tm b) ((ms.headD (.mk [] [])).n 1)),mk (some (n+1)) (.load ((ms.headD (.mk [] [])).n 2) (tm n)),mk (some ((ms.headD (.mk [] [])).n 0)) (.assign (tm (n+1)))])::bo g cx ty ((ms.headD (.mk [] [])).n 0) [])::e9 g cx b F r ms.tail:=by simp only[e9]
  have ew:wrFds true ver (.cons 0 none none df off ty r) (v::vs')=bO true ver ty v++wrFds true ver r vs':=by simp[wrFds,l6]
  rw[e]at hn h ⊢
  rw[ew]at hlim h
  rw[List.length_append]at hlim
  have If:(gL (e9 g cx b F r ms.tail) (gL (bo g cx ty ((ms.headD (.mk [] [])).n 0) []) (n+2)).2).2<=a.tmps.size:=hn
  have Kr:=cn g cx ty ((ms.headD (.mk [] [])).n 0) [] (n+2)
  have Na:=lj g cx b F r ms.tail (gL (bo g cx ty ((ms.headD (.mk [] [])).n 0) []) (n+2)).2
  show LW P (gS _::(e9 g cx b F r ms.tail++rest)) n Q a w
  refine ad (bm (ad (au ?_)))
  have Gn:w.cell? ⟨p,0+off,none⟩=some y:=Kf.cells off y hy
  refine bR (B:=p) (O:=0) (by rw[aa];exact MH) hF (b5 (p:=⟨p,0+off,none⟩) (v:=y) (by rw[aa,am (by omega)]) (hF.var.agg w) Gn (aj (wpList_nil ?_)))
  have Gk:Pv 1 m k0 n a (((a.put (some n) (.pointer (some ⟨p,0+off,none⟩))).put (some (n+1)) y).put (some ((ms.headD (.mk [] [])).n 0)) y):=(((Pv.refl _ _ _ _ _).put _ (by omega)).put _ (by omega)).put _ (by omega)
  have VT:(((a.put (some n) (.pointer (some ⟨p,0+off,none⟩))).put (some (n+1)) y).put (some ((ms.headD (.mk [] [])).n 0)) y).get ((ms.headD (.mk [] [])).n 0)=y:=am (by simp only[ab];omega)
  have Gv:(((a.put (some n) (.pointer (some ⟨p,0+off,none⟩))).put (some (n+1)) y).put (some ((ms.headD (.mk [] [])).n 0)) y).get 1=d:=by rw[ak (by omega),ak (by omega),ak (by omega)];exact hw.s1
  have QX:((a.put (some n) (.pointer (some ⟨p,0+off,none⟩))).put (some (n+1)) y).eval (tm (n+1))=y:=by rw[aa,am (by simp only[ab];omega)]
  rw[QX]
  show LW P _ (n+2) _ (((a.put (some n) (.pointer (some ⟨p,0+off,none⟩))).put (some (n+1)) y).put (some ((ms.headD (.mk [] [])).n 0)) y) w
  generalize((a.put (some n) (.pointer (some ⟨p,0+off,none⟩))).put (some (n+1)) y).put (some ((ms.headD (.mk [] [])).n 0)) y=a1 at Gk VT Gv ⊢
  have Gu:=Gk.size
  have Jc:=hw.step hc Gk Gv (Gr.refl hw.dst)
  have VM:=qy true ver ty v GL
  suffices HJ:LW P (bo g cx ty ((ms.headD (.mk [] [])).n 0) []++[]) (n+2) (Exit.then (LW P (e9 g cx b F r ms.tail++rest) (gL (bo g cx ty ((ms.headD (.mk [] [])).n 0) []) (n+2)).2 Q) Q) a1 w by
   rw[List.append_nil]at HJ
   exact HJ
  refine lq K0 M5 Jc hc (by omega) (by omega) (by rw[Gu];omega) (by simp only[jV,Sa,Bool.false_eq_true,if_false];exact⟨y,VT,rfl⟩) (Qa w _) (by rw[<- VM];omega) fun a2 w2 d2 Gm J4 G2=>bg ?_
  rw[<- VM]at G2
  have G9:=Gm.size
  have GQ:Pv 1 m k0 n a a2:=Gk.trans (Gm.mono (Nat.le_refl _) (by omega))
  have OJ:a2.get b=pt p 0:=by rw[GQ.get _ hb.2 (.inl hb.1)];exact MH
  have Ik:=hw.step hc GQ J4 G2
  refine Bu K0 hb r l' ms.tail vs' _ a2 w2 d2 _ hr Kw HU (Kf.gr G2) OJ Ik hc (by omega) (by omega) (by rw[G9,Gu];exact If) (by rw[List.length_append];omega) fun a3 w3 d3 Gt Ia GI=>h a3 w3 d3 (GQ.trans (Gt.mono (Nat.le_refl _) (by omega))) Ia ?_
  rw[<- List.append_assoc]
  exact G2.trans GI
theorem vD (K0:KW P g av fl nl te)(hf:cx.hf=true)(Gw:fl=true){b F p kt o sz:Nat}{F':Nat}{agg:Bool}{cs:List Value}{mm:Value}{t:List (Nat × Bs)}(hb:b<m/\b≠1)(hF:bp P F kt F' o agg sz)(GE:cs[o]?=some mm)(Hv:cN w (fun k=>L<=k) mm t)(Kf:oy w p cs d)(MH:a.get b=pt p 0)
  (hw:WC cx true ver te L B O d bs a w) (hc:mU cx m k0) (hk:k0<=n) (hn:n+1+6+3<=a.tmps.size) (hlim:bs.length+(bZ true t).length<=d7)
  (h:∀ a' w' d',Pv 1 m k0 n a a'->a'.get 1=d'->Gr L te d w d' (bs++bZ true t) w'->K a' w'):aQ P (eD g cx b F kt n).1 (Exit.then K Q) a w:=by
 have G5:=hc.le
 have HF:=hc.one
 refine o8 (x:=n) (m:=m) (k0:=k0) (hw.sf hf) G5 hk (by omega) fun a1 Gk=>?_
 have hp1':Pv 1 m k0 n a a1:=⟨Gk.size,Gk.defers,fun s hs G9=>Gk.get s (by omega) G9⟩
 have Gu:=Gk.size
 have Gv:a1.get 1=d:=by rw[Gk.get 1 (by omega) (.inl HF)];exact hw.s1
 have Hc:a1.get b=pt p 0:=by rw[Gk.get b (by omega) (.inl hb.1)];exact MH
 simp only[if_true]
 have Gp:(bZ true t).length=(uvar (dL t.length)).length+(bn t).length:=by simp[bZ]
 rw[Gp]at hlim
 have IQ:w.cell? ⟨p,0+o,none⟩=some mm:=Kf.cells o mm GE
 refine bm (ad (au (ag ?_)))
 rw[aa,Gv]
 refine bR (B:=p) (O:=0) (by rw[aa,ak (by omega)];exact Hc) hF ?_
 refine aR (vs:=#[pt p (0+o)]) (K0.tlE Gw) ?_ (K0.tlC Gw w p (0+o) mm _ t IQ Hv) fun e2 w2 hR=>⟨_,hR.1,?_⟩
 ·simp only[List.map_cons,List.map_nil,aa]
  rw[am (by simp only[ab];omega)]
  rfl
 have Gs:=hR.2
 refine aT (k:=.i64) (k':=.u32) (m:=t.length) (by rw[aa,am (by simp only[ab];omega)]) K0.dInt (K0.dU32 Gw) ?_
 refine cE (k:=.u32) (m:=0) (n:=IntKind.u32.wrap t.length) rfl (by rw[aa,am (by simp only[ab];omega)]) (by simp) (ka w2) ?_
 have Hn:IntKind.u32.wrap (0+IntKind.u32.wrap (t.length:Int))=(dL t.length:Nat):=by simp[IntKind.wrap,IntKind.bits,IntKind.signed,dL]
 rw[Hn]
 refine dR (K0.uvE Gw) ?_ (K0.uvC Gw (dL t.length) w2 (lM _) L) (hw.dst.keep Gs fun _ _ h=>h) (Nat.le_trans hw.Lw Gs.size) (by omega) (by simp only[ab];omega) fun w3 d3 GI=>wpList_nil ?_
 ·simp only[List.map_cons,List.map_nil,aa]
  rw[ak (by omega),ak (by omega),ak (by omega),ak (by omega),am (by omega),am (by simp only[ab];omega)]
 have HV:Gr L te d w d3 (bs++uvar (dL t.length)) w3:=Gr.pre Gs (fun _ _ h=>h) GI
 have Ho:=Gr.far hw.dst HV
 have K8:=Kf.gr HV
 have KO:w3.cell? ⟨p,0+o,none⟩=some mm:=K8.cells o mm GE
 have J6:=Hv.keep Ho
 have key:∀ (a2:Act),Pv 1 m k0 n a a2->a2.get 1=d3->a2.get b=pt p 0->LW P [aA 3 fun n=>[mk (some n) (.fieldAddr F (tm b) kt),mk (some (n+1)) (.move (tm 1)),cl (some (n+2)) g.teach [tm n,tm (n+1)],mk (some 1) (.assign (tm (n+2)))]] (n+1+6) (Exit.then K Q) a2 w3:=by
  intro a2 Gm G2 LY
  have G9:=Gm.size
  refine ad (au ?_)
  refine bR (B:=p) (O:=0) (by rw[aa];exact LY) hF (ag ?_)
  rw[aa,ak (by omega),G2]
  refine aR (vs:=#[pt p (0+o),d3]) (K0.teE Gw) ?_ (K0.teC Gw w3 p (0+o) mm L t d3 _ KO ⟨K8.lt,K8.ne⟩ J6 HV.dst (Nat.le_trans hw.Lw HV.keeps.size) (by rw[List.length_append];omega)) fun e4 w4 hR4=>?_
  ·simp only[List.map_cons,List.map_nil,aa]
   rw[ak (by omega),am (by omega),am (by simp only[ab];omega)]
   rfl
  obtain⟨d4,QZ,Ht⟩:=hR4
  refine⟨d4,QZ,aj (wpList_nil (bg (h _ w4 d4 ?_ ?_ ?_)))⟩
  ·exact Gm.trans (((((Pv.refl _ _ _ _ _).put _ (by omega)).put _ (by omega)).put _ (by omega)).put _ (.inl rfl))
  ·rw[am (by simp only[ab];omega),aa,am (by simp only[ab];omega)]
  ·have:=HV.trans Ht
   simpa[bZ,List.append_assoc]using this
 refine key _ ?_ (am (by simp only[ab];omega)) ?_
 ·exact hp1'.trans (((((((Pv.refl _ _ _ _ _).put _ (by omega)).put _ (by omega)).put _ (by omega)).put _ (by omega)).put _ (by omega)).put _ (by omega) |>.put _ (.inl rfl))
 ·rw[ak (by omega),ak (by omega),ak (by omega),ak (by omega),ak (by omega),ak (by omega),ak (by omega)];exact Hc
theorem ol:∀ (fs:Fds) (l:List (Nat × Option cP × Int)),m9 fs=some l->fs.tagged=false
 | .nil,_,_=>rfl
 | .cons lo hi tag df off ty r,l,hl=>by
  obtain⟨_,_,rfl,_,l',_,hr,_⟩:=iZ hl
  simp only[Fds.tagged,Option.isSome_none,Bool.false_or]
  exact ol r l' hr
theorem sj (K0:KW P g av fl nl te)(toff:Option Nat)(fs:Fds):kO P g av fl nl te (.struct none toff fs):=by
 intro nm cx ver B O L m k0 n T off t v d bs K E a w GM GR ht hw hc Gw hk Hk hn hr hlim h
 cases toff with
 | none=>simp[okBodyW]at GM
 | some o=>
 simp only[okBodyW,Bool.and_eq_true,decide_eq_true_eq,beq_iff_eq]at GM
 obtain⟨⟨⟨⟨⟨G7,Lr⟩,hT⟩,Hy⟩,Kg⟩,Hl⟩:=GM
 subst hT
 simp only[nS,Bool.and_eq_true]at Hl
 have hFt:=fldB_ok Hl.2
 have hF:=fldB_ok Hy
 have G5:=hc.le
 have HF:=hc.one
 obtain⟨s0,Jn,_,_,e3,e4,L3,L4⟩:=xS Lr
 have C:=K0.smC s0 Jn
 obtain⟨z,IE,hz⟩:=C.zC
 have Nc:nB P (nm.n 3)=s0.sz:=by
  have h1:=hF.var.size w
  have h2:=C.var.size w
  rw[e3]at h2
  rw[h1]at h2
  simpa using h2
 obtain⟨cs,mm,vs,tg,rfl,Gp,HD,GG,SI,_,Hv,P6⟩:=si L3 L4 hr
 have Oz:fs.tagged=false:=ol fs s0.ds L3
 have La:bO true ver (.struct none (some o) fs) (.st vs tg)=wrFds true ver fs vs++bZ true tg:=by simp only[bO,V.fields,V.tags,iy true ver fs vs Oz,lL]
 have L9:(dj (t,bO true ver (.struct none (some o) fs) (.st vs tg))).length=(uvar t).length+((uvar (dL (wrFds true ver fs vs++bZ true tg).length)).length+(wrFds true ver fs vs++bZ true tg).length):=by rw[La];simp[dj]
 rw[L9]at hlim
 have Jm:Up (eD g cx (nm.n 0) (nm.n 3) (nm.n 11)):=cg (eE (ae (aq _ _) (ae (aq _ _) ax))) (b7 _)
 have Kq:iM (e9 g cx (nm.n 0) (nm.n 3) fs (nm.sub 0).s++[eD g cx (nm.n 0) (nm.n 3) (nm.n 11)]):=ay (lj _ _ _ _ _ _) (ae Jm ax)
 have GU:(gL ((e9 g cx (nm.n 0) (nm.n 3) fs (nm.sub 0).s++[eD g cx (nm.n 0) (nm.n 3) (nm.n 11)])++[cV g (nm.n 4) (nm.n 5) (nm.n 6) (nm.n 9)]) (n+4+2+2)).2<=a.tmps.size:=by
  have hh:(gL ([ia cx.s (nm.n 0) (nm.n 1) (nm.n 2) (nm.n 3),iH g t]++rW g (nm.n 4) (nm.n 5) (nm.n 6)++(e9 g cx (nm.n 0) (nm.n 3) fs (nm.sub 0).s++[eD g cx (nm.n 0) (nm.n 3) (nm.n 11)])++[cV g (nm.n 4) (nm.n 5) (nm.n 6) (nm.n 9)]) n).2<=a.tmps.size:=hn
  rw[List.append_assoc,bc]at hh
  exact hh
 have P0:(gL (e9 g cx (nm.n 0) (nm.n 3) fs (nm.sub 0).s++[eD g cx (nm.n 0) (nm.n 3) (nm.n 11)]) (n+4+2+2)).2+11<=a.tmps.size:=by rw[bc]at GU;exact GU
 have Ib:=Kq (n+4+2+2)
 have Hr:gwBody g cx t (.struct none (some o) fs) nm=jO ([ia cx.s (nm.n 0) (nm.n 1) (nm.n 2) (nm.n 3),iH g t,aU (nm.n 4) (.bool false),aA 2 fun n=>[mk (some n) (.move (tm 1)),bi (some (n+1)) .len [tm n] [g.tSl] g.tInt,mk (some (nm.n 5)) (.assign (tm (n+1)))]] ++
  (aY (.label (nm.n 6))::((e9 g cx (nm.n 0) (nm.n 3) fs (nm.sub 0).s++[eD g cx (nm.n 0) (nm.n 3) (nm.n 11)])++[cV g (nm.n 4) (nm.n 5) (nm.n 6) (nm.n 9)]))):=by
  simp only[gwBody,rW,List.cons_append,List.nil_append,List.append_assoc]
 rw[Hr]
 refine pX (fun c hc=>?_) ?_ ?_
 ·simp only[gL,ia,iH,aU,aA,rg,List.mem_cons,List.not_mem_nil,or_false]at hc
  rcases hc with rfl|rfl|rfl|rfl<;>rfl
 ·rw[bc]
  simp[gL]
 show LW P (ia cx.s (nm.n 0) (nm.n 1) (nm.n 2) (nm.n 3)::iH g t::([aU (nm.n 4) (.bool false),aA 2 fun n=>[mk (some n) (.move (tm 1)),bi (some (n+1)) .len [tm n] [g.tSl] g.tInt,mk (some (nm.n 5)) (.assign (tm (n+1)))],aY (.label (nm.n 6))] ++
  ((e9 g cx (nm.n 0) (nm.n 3) fs (nm.sub 0).s++[eD g cx (nm.n 0) (nm.n 3) (nm.n 11)])++[cV g (nm.n 4) (nm.n 5) (nm.n 6) (nm.n 9)]))) n _ a w
 refine ad (oV (m:=m) (k0:=k0) hw.ss hF (fun w=>by rw[<- e3];exact hz w) (IE.trans Nc.symm) (Gp.trans Nc.symm) GG HD ⟨G7.1,by omega⟩ G5 hk (by omega) HF fun a1 w1 Gk Is Iu Gy O6 GZ=>?_)
 have Gu:=Gk.size
 have Jg:aH w1 L te d bs:=hw.dst.keep Gy fun _ _ h=>h
 have RA:=Nat.le_trans hw.Lw Gy.size
 have L7:oy w1 w.heap.size cs d:=⟨GZ,O6,fun hh=>by have:=(hw.dst.own hh).2;omega⟩
 refine ad (sR (m:=m) K0 Gw ht (Is.trans hw.s1) Jg RA (by omega) G5 (by show k0<=n+4;omega) HF (by show n+4+2<=_;omega) fun a2 w2 d2 Gm J4 G2=>?_)
 have G9:=Gm.size
 have GQ:Pv 1 m k0 n a a2:=Gk.trans (Gm.mono G5 (by show n<=n+4;omega))
 have Jl:a2.get (nm.n 0)=pt w.heap.size 0:=(Gm.get _ (by omega) (.inl (by omega))).trans Iu
 have L8:=Nat.le_trans RA G2.keeps.size
 have KU:Gr L te d w d2 (bs++uvar t) w2:=Gr.pre Gy (fun _ _ h=>h) G2
 have Pc:=L7.gr G2
 have JP:cN w2 (fun k=>L<=k) (.map mm) tg:=Hv.keep (Gr.far hw.dst KU)
 show LW P _ (n+4+2) _ a2 w2
 refine pW K0 Gw (k0:=k0) (m0:=nm.n 0+1) (mB:=max (nm.n 4) (nm.n 5)+1) (enc:=wrFds true ver fs vs++bZ true tg) J4 G2.dst L8 (by rw[List.length_append (as:=bs)];omega) (by omega) (by omega) (by omega) (by omega) Kq (by rw[G9,Gu];exact GU) (fun a3 w3 d3 bs3 K3 Ja Ia hg3' Kz h3=>?_) fun a3 w3 d3 Ja Ia GI=>h a3 w3 d3 ?_ Ia ?_
 ·have Hh:=Ja.size
  have Gx:=Gr.far G2.dst hg3'
  have Ik:=hw.step hc GQ J4 KU
  have Hm:∀ q,q<m->q≠1->a3.get q=a2.get q:=fun q hq Ip=>Ja.get q Ip (by omega) (.inl (by omega))
  have Kp:WC cx true ver te L B O d3 bs3 a3 w3:=⟨hg3'.dst,Ia,by rw[Hm _ hc.s.1 hc.s.2];exact Ik.ss,by rw[Hm _ hc.ver.1 hc.ver.2];exact Ik.sv,fun hf=>by rw[Hm _ hc.fx.1 hc.fx.2];exact Ik.sf hf,Ik.nf,Ik.BL,Nat.le_trans L8 Gx.size⟩
  have LA:a3.get (nm.n 0)=pt w.heap.size 0:=(Ja.get _ (by omega) (by omega) (.inl (by omega))).trans Jl
  have U3:mU cx (max (nm.n 4) (nm.n 5)+1) k0:=hc.mono (by omega) (by omega)
  have K8:=Pc.gr hg3'
  have VN:(wrFds true ver fs vs++bZ true tg).length=(wrFds true ver fs vs).length+(bZ true tg).length:=List.length_append
  have hnB:(gL (e9 g cx (nm.n 0) (nm.n 3) fs (nm.sub 0).s) (n+4+2+2)).2+1+6+3<=a.tmps.size:=by
   rw[bc]at P0
   have:(gL (e9 g cx (nm.n 0) (nm.n 3) fs (nm.sub 0).s) (n+4+2+2)).2+1+6+3+11<=a.tmps.size:=P0
   omega
  have hupX:=lj g cx (nm.n 0) (nm.n 3) fs (nm.sub 0).s (n+4+2+2)
  refine Bu K0 (cx:=cx) (m:=max (nm.n 4) (nm.n 5)+1) (k0:=k0) (F:=nm.n 3) (p:=w.heap.size) (cs:=cs) ⟨by omega,by omega⟩ fs s0.ds (nm.sub 0).s vs (n+4+2+2) a3 w3 d3 bs3 L3 Kg P6 K8 LA Kp U3 (by omega) (by omega) (by omega) (by omega) fun a4 w4 d4 GD Kj Ht=>?_
  have IP:=GD.size
  have M6:a4.get (nm.n 0)=pt w.heap.size 0:=(GD.get _ (by omega) (.inl (by omega))).trans LA
  have PG:=Kp.step U3 GD Kj Ht
  refine ad ?_
  rw[aV]
  have K5:=vD (w:=w4) K0 GR Gw (b:=nm.n 0) (m:=max (nm.n 4) (nm.n 5)+1) (k0:=k0) (n:=(gL (e9 g cx (nm.n 0) (nm.n 3) fs (nm.sub 0).s) (n+4+2+2)).2) (a:=a4) (K:=K3) (Q:=Rt K3 E) (p:=w.heap.size) (cs:=cs) (mm:=.map mm) (t:=tg) ⟨by omega,by omega⟩ hFt SI ((JP.keep Gx).keep (Gr.far hg3'.dst Ht)) (K8.gr Ht) M6 PG U3 (by omega) (by omega) (by rw[List.length_append];omega) fun a5 w5 d5 HB N4 II=>h3 a5 w5 d5 (GD.trans (HB.mono (Nat.le_refl _) (by omega))) N4 (by rw[<- List.append_assoc];exact Ht.trans II)
  rw[aV]at K5
  exact K5.mono fun e a w hq=>by
   cases e<;>first|exact bg hq|exact hq
 ·exact GQ.trans ⟨Ja.size,Ja.defers,fun i hi hi2=>Ja.get i hi (by omega) (by omega)⟩
 ·have:=KU.trans GI
  rw[La]
  simpa[dj,List.append_assoc]using this
end
section
variable {P:Program} {g:GW} {av:PF->Bool} {fl nl:Bool} {te:Nat}
theorem sA {toff:Option Nat}{fs:Fds}(GV:mz P g av fl nl te fs)(KM:mc P g av fl nl te fs):wW P g av fl nl te (.struct none toff fs):=by
 intro nm cx fx ver B O L m k0 n esz vs i F E' p q cnt c j v d bs K E a w GM hw hc Gw hk Hk hn Hz hi hj JM Lz hF hE ND hr hlim h
 simp only[okElW,Bool.and_eq_true,decide_eq_true_eq]at GM
 obtain⟨⟨G7,Hl⟩,JV⟩:=GM
 obtain⟨vv,t,rfl,PV,ht⟩:=hr
 have G5:=hc.le
 have GU:(gL (gwFds g { cx with s:=nm.n 0 } fs (nm.sub 0).s++bJ g { cx with s:=nm.n 0 } fs (nm.n 1) (nm.n 2) (nm.sub 0)) (n+3)).2<=a.tmps.size:=hn
 have Ib:=ay (upL_wfds g fs { cx with s:=nm.n 0 } (nm.sub 0).s) (fX g { cx with s:=nm.n 0 } fs (nm.n 1) (nm.n 2) (nm.sub 0)) (n+3)
 show LW P (ea vs i (nm.n 0) F::(gwFds g { cx with s:=nm.n 0 } fs (nm.sub 0).s++bJ g { cx with s:=nm.n 0 } fs (nm.n 1) (nm.n 2) (nm.sub 0))) n (Rt K E) a w
 refine ad (sQ Hz hi hj hF hE G7 (by omega) (by omega) G5 hk (by omega) hc.one fun a1 Gk Gv Mz=>?_)
 have Gu:=Gk.size
 show LW P _ (n+3) (Rt K E) a1 w
 have Jc:=hw.at hc Gk (Gv.trans hw.s1) Mz ND
 exact Ax GV KM (cx:={ cx with s:=nm.n 0 }) Hl JV Jc (hc.at (m':=nm.n 0+1) ⟨G7.1,by omega⟩ (by omega) (by omega)) Gw (by omega) (by omega) (by rw[Gu];exact GU) PV ht (by simpa[bO,V.fields,V.tags]using hlim) fun a' w' d' GK h1' GA=>h a' w' d' (Gk.trans (GK.mono (by omega) (by omega))) h1' (by simpa[bO,V.fields,V.tags]using GA)
theorem nh (K0:KW P g av fl nl te){nul:Option Nat}{sz:Nat}{e:Ty}(he:wW P g av fl nl te e){v0 F i b1 b2 E' len c:Nat}{sub:Nm}{z:Array Value}{base:Option Addr}{cx:Cx}{fx:Bool}{ver:Int}{B O L m k0 n:Nat}{v:V}{d:Value}{bs:Bs}{K E:Act->World->Prop}{a:Act}{w:World}
  (G7:v0<m/\m<=i/\i<k0/\v0≠1) (hR:m3 P F E' sz z) (Ky:okElW ⟨P,g,av,nl⟩ cx.hf (i+1) k0 E' sz e sub=true) (Hi:nul.isSome=true->nl=true) (JH:nul.isSome=false->l5 g cx.hf=true) (hw:WC cx fx ver te L B O d bs a w) (hc:mU cx m k0) (Gw:cx.hf=true->fl=true) (hk:k0<=n) (Hk:k0<=a.tmps.size)
  (hn:(gL [fG g cx nul v0 F,g9 g v0 i b1 b2 F (gwEl g cx e v0 i F sub)] n).2<=a.tmps.size) (Lh:a.get v0=.slice base len c) (Gp:len=v.list.length) (Iw:len<=maxLen) (He:base.isNone=v.isNul) (Mx:∀ i x,v.list[i]?=some x->∃ p q,base=some ⟨p,q,none⟩/\p<L/\Rp w (fun k=>L<=k) e p (q+i*sz) x)
  (hlim:bs.length+(bO fx ver (.list nul sz e) v).length<=d7) (h:∀ a' w' d',Pv 1 m k0 n a a'->a'.get 1=d'->Gr L te d w d' (bs++bO fx ver (.list nul sz e) v) w'->K a' w'):LW P [fG g cx nul v0 F,g9 g v0 i b1 b2 F (gwEl g cx e v0 i F sub)] n (Rt K E) a w:=by
 have G5:=hc.le
 have HF:=hc.one
 have Hn:bO fx ver (.list nul sz e) v=(if nul.isSome&&base.isNone then dp fx 4 else iP fx len)++iO (bO fx ver e) v.list:=by simp only[bO,He,Gp]
 rw[Hn]at hlim h
 rw[List.length_append]at hlim
 have LQ:=lf g cx nul v0 F n
 have N7:=upL_wel g e cx v0 i F sub
 have LR:=lg g v0 i b1 b2 F N7 (fG g cx nul v0 F n).2
 have GU:(g9 g v0 i b1 b2 F (gwEl g cx e v0 i F sub) (fG g cx nul v0 F n).2).2<=a.tmps.size:=hn
 refine ad (C0 (m:=m) (k0:=k0) K0 Hi JH Gw hw hc Lh hR.und (by omega) (by omega) (by omega) (by omega) fun a2 w2 d2 Gm J4 hgr2=>?_)
 have G9:=Gm.size
 have G2:a2.get v0=.slice base len c:=by rw[Gm.get _ (by omega) (.inl (by omega))];exact Lh
 generalize VE:(fG g cx nul v0 F n).2=np at LQ LR GU ⊢
 refine ad ?_
 rw[aV]
 refine C3 (m:=m) (k0:=k0) (W:=fun j d' w'=>Gr L te d w d' (bs++(if nul.isSome&&base.isNone then dp fx 4 else iP fx len)++iO (bO fx ver e) (v.list.take j)) w') G2 hR.und (by omega) (by omega) (by omega) (by omega) (by rw[G9];exact GU) (N7 _) Iw ?_ (fun j a3 w3 hj Gt hi3 hW=>?_) (fun a3 w3 Gt hW=>?_)
 ·rw[J4]
  simpa[iO]using hgr2
 ·have Hh:=Gt.size
  obtain⟨x,hx⟩:∃ x,v.list[j]?=some x:=⟨v.list[j]'(by omega),List.getElem?_eq_getElem (by omega)⟩
  obtain⟨p,q,rfl,ND,hrx⟩:=Mx j x hx
  have JA:v.list.take (j+1)=v.list.take j++[x]:=by rw[List.take_add_one,hx];rfl
  have VJ:(iO (bO fx ver e) v.list).length=(iO (bO fx ver e) (v.list.take j)).length+(bO fx ver e x).length+(iO (bO fx ver e) (v.list.drop (j+1))).length:=by
   conv=>lhs;rw[<- List.take_append_drop (j+1) v.list,JA]
   simp only[iO,List.map_append,List.flatten_append,List.length_append,List.map_cons,List.map_nil,List.flatten_cons,List.flatten_nil,List.append_nil]
  have Nj:Pv 1 m k0 n a a3:=Gm.trans (Gt.mono (by omega) (by omega))
  have Kp:=hw.step hc Nj rfl hW
  have Ho:=Gr.far hw.dst hW
  have S4:a3.get v0=.slice (some ⟨p,q,none⟩) len c:=by rw[Gt.get _ (by omega) (.inl (by omega))];exact G2
  refine bm (he sub cx fx ver B O L (i+1) k0 (np+5) sz v0 i F E' p q len c j x (a3.get 1) _ _ E a3 w3 Ky Kp (hc.mono (by omega) (by omega)) Gw (by omega) (by omega) ?_ S4 hi3 hj (by omega) (by omega) hR.und hR.size ND (Rp.keep Ho hrx (by omega) (by have:=hw.Lw;omega)) ?_ fun a4 w4 d4 GD Kj Ht=>⟨GD,?_⟩)
  ·have h9:(gL (gwEl g cx e v0 i F sub) (np+5)).2+1<=a.tmps.size:=GU
   omega
  ·rw[List.length_append,List.length_append]
   omega
  ·rw[Kj,JA]
   have:=hW.trans Ht
   simpa[iO,List.append_assoc]using this
 ·refine bg (h a3 w3 (a3.get 1) (Gm.trans (Gt.mono (by omega) (by omega))) rfl ?_)
  rw[Gp,List.take_length]at hW
  rw[Gp,<- List.append_assoc]
  exact hW
theorem pk {w:World}{L b o sz:Nat}{nul:Option Nat}{e:Ty}{v:V}(hr:Rp w (fun k=>L<=k) (.list nul sz e) b o v):∃ base len c,w.cell? ⟨b,o,none⟩=some (.slice base len c)/\len=v.list.length/\len<=maxLen/\base.isNone=v.isNul/\(∀ i x,v.list[i]?=some x->∃ p q,base=some ⟨p,q,none⟩/\p<L/\Rp w (fun k=>L<=k) e p (q+i*sz) x):=by
 rcases hr with⟨h1,rfl⟩|⟨xs,p,q,c,h1,h2,h3,h4,h5,rfl,h7⟩
 ·exact⟨none,0,0,h1,rfl,by simp[maxLen],rfl,fun i x hx=>by simp[V.list]at hx⟩
 ·exact⟨some ⟨p,q,none⟩,xs.length,c,h1,rfl,by omega,rfl,fun i x hx=>⟨p,q,rfl,by omega,h7 i x hx⟩⟩
theorem xj (K0:KW P g av fl nl te){nul:Option Nat}{esz:Nat}{e:Ty}(he:wW P g av fl nl te e):wV P g av fl nl te (.list nul esz e):=by
 intro nm cx fx ver B O L m k0 n T off v d bs K E a w GM hw hc Gw hk Hk hn hr hlim h
 simp only[lw,Bool.and_eq_true,Bool.or_eq_true,Bool.not_eq_true',decide_eq_true_eq,beq_iff_eq]at GM
 obtain⟨⟨⟨⟨G7,hT⟩,Hy⟩,Hi⟩,GB⟩:=GM
 subst hT
 cases hro:nP P (nm.n 3) with
 | none=>rw[hro]at GB;cases GB
 | some row=>
 obtain⟨E',sz,z⟩:=row
 rw[hro]at GB
 simp only[Bool.and_eq_true,Bool.or_eq_true,beq_iff_eq]at GB
 obtain⟨⟨rfl,Ky⟩,JH⟩:=GB
 have G5:=hc.le
 have HF:=hc.one
 obtain⟨base,len,c,Gn,Gp,Iw,He,Mx⟩:=pk hr
 have LQ:=lf g cx nul (nm.n 0) (nm.n 3) (n+4)
 have LR:=lg g (nm.n 0) (nm.n 4) (nm.n 5) (nm.n 6) (nm.n 3) (upL_wel g e cx (nm.n 0) (nm.n 4) (nm.n 3) (nm.sub 0)) (fG g cx nul (nm.n 0) (nm.n 3) (n+4)).2
 have GU:(g9 g (nm.n 0) (nm.n 4) (nm.n 5) (nm.n 6) (nm.n 3) (gwEl g cx e (nm.n 0) (nm.n 4) (nm.n 3) (nm.sub 0)) (fG g cx nul (nm.n 0) (nm.n 3) (n+4)).2).2<=a.tmps.size:=hn
 show LW P [co cx.s (nm.n 0) (nm.n 1) (nm.n 2) (nm.n 3),fG g cx nul (nm.n 0) (nm.n 3),g9 g (nm.n 0) (nm.n 4) (nm.n 5) (nm.n 6) (nm.n 3) (gwEl g cx e (nm.n 0) (nm.n 4) (nm.n 3) (nm.sub 0))] n (Rt K E) a w
 refine ad (im (x:=nm.n 0) (m:=m) (k0:=k0) hw.ss (fldB_ok Hy) Gn (.inl rfl) G5 hk (by omega) (by omega) fun a1 Gk Gv=>?_)
 have Gu:=Gk.size
 have hp1':=Gk.x1 ⟨G7.1,by omega⟩
 have Is:a1.get 1=d:=(Gk.g1 ⟨G7.1,by omega⟩ HF).trans hw.s1
 have Jc:=hw.step hc hp1' Is (Gr.refl hw.dst)
 show LW P [fG g cx nul (nm.n 0) (nm.n 3),g9 g (nm.n 0) (nm.n 4) (nm.n 5) (nm.n 6) (nm.n 3) (gwEl g cx e (nm.n 0) (nm.n 4) (nm.n 3) (nm.sub 0))] (n+4) (Rt K E) a1 w
 exact nh K0 he (m:=nm.n 0+1) (by omega) (nO hro) Ky (fun hs=>by rcases Hi with hh|hh;rw[hs]at hh;cases hh;exact hh) (fun h=>JH.resolve_left (by rw[h];simp)) Jc (hc.mono (by omega) (by omega)) Gw (by omega) (by omega) (by rw[Gu];exact GU) Gv Gp Iw He Mx hlim fun a' w' d' GK h1' GA=>h a' w' d' (hp1'.trans (GK.mono (by omega) (by omega))) h1' GA
theorem Ap {toff:Option Nat}{fs:Fds}(GV:mz P g av fl nl te fs)(KM:mc P g av fl nl te fs):wV P g av fl nl te (.struct none toff fs):=by
 intro nm cx fx ver B O L m k0 n T off v d bs K E a w GM hw hc Gw hk Hk hn hr hlim h
 simp only[lw,Bool.and_eq_true,decide_eq_true_eq,beq_iff_eq]at GM
 obtain⟨⟨⟨⟨G7,hT⟩,Hy⟩,Hl⟩,JV⟩:=GM
 subst hT
 obtain⟨vv,t,rfl,PV,ht⟩:=hr
 have G5:=hc.le
 have GU:(gL (gwFds g { cx with s:=nm.n 0 } fs (nm.sub 0).s++bJ g { cx with s:=nm.n 0 } fs (nm.n 3) (nm.n 4) (nm.sub 0)) (n+3)).2<=a.tmps.size:=hn
 have Ib:=ay (upL_wfds g fs { cx with s:=nm.n 0 } (nm.sub 0).s) (fX g { cx with s:=nm.n 0 } fs (nm.n 3) (nm.n 4) (nm.sub 0)) (n+3)
 show LW P (eY cx.s (nm.n 0) (nm.n 1) (nm.n 2)::(gwFds g { cx with s:=nm.n 0 } fs (nm.sub 0).s++bJ g { cx with s:=nm.n 0 } fs (nm.n 3) (nm.n 4) (nm.sub 0))) n (Rt K E) a w
 refine ad (jD (x:=nm.n 0) (m:=m) (k0:=k0) hw.ss (fldB_ok Hy) (.inl rfl) G5 hk (by omega) (by omega) fun a1 Gk Gv=>?_)
 have Gu:=Gk.size
 have hp1':=Gk.x1 G7
 show LW P _ (n+3) (Rt K E) a1 w
 have Jc:=hw.at hc hp1' ((Gk.g1 G7 hc.one).trans hw.s1) Gv hw.BL
 exact Ax GV KM (cx:={ cx with s:=nm.n 0 }) Hl JV Jc (hc.at (m':=nm.n 0+1) ⟨G7.1,by omega⟩ (by omega) (by omega)) Gw (by omega) (by omega) (by rw[Gu];exact GU) PV ht (by simpa[bO,V.fields,V.tags]using hlim) fun a' w' d' GK h1' GA=>h a' w' d' (hp1'.trans (GK.mono (by omega) (by omega))) h1' (by simpa[bO,V.fields,V.tags]using GA)
theorem Ao (K0:KW P g av fl nl te){q:Nat}{toff:Option Nat}{fs:Fds}(GV:mz P g av fl nl te fs)(KM:mc P g av fl nl te fs):wV P g av fl nl te (.struct (some q) toff fs):=by
 intro nm cx fx ver B O L m k0 n T off v d bs K E a w GM hw hc Gw hk Hk hn hr hlim h
 simp only[lw,Bool.and_eq_true,decide_eq_true_eq,beq_iff_eq]at GM
 obtain⟨⟨⟨⟨⟨G7,hT⟩,Hy⟩,I0⟩,Hl⟩,JV⟩:=GM
 subst hT
 obtain⟨el,IZ⟩:∃ el,P.underlying (nm.n 3)=some (.pointer el):=by
  unfold wu at I0
  split at I0
  ·rename_i el h;exact⟨el,h⟩
  ·cases I0
 have G5:=hc.le
 have HF:=hc.one
 have GU:(gL (gb g 1::(gwFds g { cx with s:=nm.n 0 } fs (nm.sub 0).s++bJ g { cx with s:=nm.n 0 } fs (nm.n 4) (nm.n 5) (nm.sub 0))) (n+4+2+3)).2<=a.tmps.size:=hn
 have P0:(gL (gwFds g { cx with s:=nm.n 0 } fs (nm.sub 0).s++bJ g { cx with s:=nm.n 0 } fs (nm.n 4) (nm.n 5) (nm.sub 0)) (n+4+2+3+3)).2<=a.tmps.size:=hn
 have Ib:=ay (upL_wfds g fs { cx with s:=nm.n 0 } (nm.sub 0).s) (fX g { cx with s:=nm.n 0 } fs (nm.n 4) (nm.n 5) (nm.sub 0)) (n+4+2+3+3)
 show LW P [co cx.s (nm.n 0) (nm.n 1) (nm.n 2) (nm.n 3),zA (nm.n 0) (nm.n 3) (gb g 255) (gS (gb g 1::(gwFds g { cx with s:=nm.n 0 } fs (nm.sub 0).s++bJ g { cx with s:=nm.n 0 } fs (nm.n 4) (nm.n 5) (nm.sub 0))))] n (Rt K E) a w
 have Gn:∃ m',w.cell? ⟨B,O+off,none⟩=some (.pointer m'):=by
  rcases hr with⟨h1,_⟩|⟨p,q,vs,t,h1,_⟩
  ·exact⟨none,h1⟩
  ·exact⟨_,h1⟩
 obtain⟨ptr,Gn⟩:=Gn
 refine ad (im (x:=nm.n 0) (m:=m) (k0:=k0) hw.ss (fldB_ok Hy) Gn (.inl rfl) G5 hk (by omega) (by omega) fun a1 Gk Gv=>?_)
 have Gu:=Gk.size
 have hp1':=Gk.x1 G7
 have Is:a1.get 1=d:=(Gk.g1 G7 HF).trans hw.s1
 show LW P [zA (nm.n 0) (nm.n 3) (gb g 255) (gS (gb g 1::(gwFds g { cx with s:=nm.n 0 } fs (nm.sub 0).s++bJ g { cx with s:=nm.n 0 } fs (nm.n 4) (nm.n 5) (nm.sub 0))))] (n+4) (Rt K E) a1 w
 refine ad ?_
 rw[aV]
 have G3:∀ (b:Bool),b=ptr.isNone->∀ (X:Act->World->Prop),(∀ a2,Pv 1 m k0 (n+4) a1 a2->a2.get 1=d->a2.get (nm.n 0)=.pointer ptr->X a2 w) ->
   wpList P [mk (some (n+4)) (.move (tm (nm.n 0))),mk (some (n+4+1)) (.binOp .eql (nm.n 3) (tm (n+4)) (.const (.pointer none)) 0)].toArray (Exit.then (fun a' w'=>a'.eval (tm (n+4+1))=.bool b/\X a' w') (Rt (LW P [] ((gS (gb g 1::(gwFds g { cx with s:=nm.n 0 } fs (nm.sub 0).s++bJ g { cx with s:=nm.n 0 } fs (nm.n 4) (nm.n 5) (nm.sub 0)))) (n+4+2+3)).2 (Rt K E)) E))
    [mk (some (n+4)) (.move (tm (nm.n 0))),mk (some (n+4+1)) (.binOp .eql (nm.n 3) (tm (n+4)) (.const (.pointer none)) 0)] a1 w:=by
  intro b hb X hX
  refine ag (vu (m:=ptr) IZ (by rw[aa,am (by omega),aa];exact Gv) (wpList_nil ⟨by rw[aa,am (by simp only[ab];omega),hb],hX _ ?_ ?_ ?_⟩))
  ·exact((Pv.refl _ _ _ _ _).put _ (by omega)).put _ (by omega)
  ·rw[ak (by omega),ak (by omega)];exact Is
  ·rw[ak (by omega),ak (by omega)];exact Gv
 rcases hr with⟨h1,rfl⟩|⟨p,q',vs,t,h1,h2,h3,rfl,h5,h6⟩
 ·rw[h1]at Gn
  obtain rfl:(none:Option Addr)=ptr:=by simpa using Gn
  have Hn:bO fx ver (.struct (some q) toff fs) .nul=[255]:=by simp[bO,V.isNul]
  rw[Hn]at hlim h
  refine dt (G3 true rfl _ fun a2 Gm J4 G2=>?_)
  have G9:=Gm.size
  have e:Rt (LW P [] ((gS (gb g 1::(gwFds g { cx with s:=nm.n 0 } fs (nm.sub 0).s++bJ g { cx with s:=nm.n 0 } fs (nm.n 4) (nm.n 5) (nm.sub 0)))) (n+4+2+3)).2 (Rt K E)) E=Exit.then (LW P [] ((gS (gb g 1::(gwFds g { cx with s:=nm.n 0 } fs (nm.sub 0).s++bJ g { cx with s:=nm.n 0 } fs (nm.n 4) (nm.n 5) (nm.sub 0)))) (n+4+2+3)).2 (Rt K E)) (Rt K E):=aV.symm
  show aQ P (gb g ((255:Nat):Int) (n+4+2)).1 (Rt _ E) a2 w
  have:=uN K0 (c:=255) (m:=m) (k0:=k0) (n:=n+4+2) (Q:=Rt K E) (a:=a2) (w:=w) (d:=d) (bs:=bs) (L:=L) (K:=LW P [] ((gS (gb g 1::(gwFds g { cx with s:=nm.n 0 } fs (nm.sub 0).s++bJ g { cx with s:=nm.n 0 } fs (nm.n 4) (nm.n 5) (nm.sub 0)))) (n+4+2+3)).2 (Rt K E)) (by omega) J4 hw.dst hw.Lw (by simpa using hlim) G5 (by omega) (by omega) (by omega) fun a3 w3 d3 Gt Ia GI=>bg (h a3 w3 d3 ((hp1'.trans (Gm.mono (Nat.le_refl _) (by omega))).trans (Gt.mono (Nat.le_refl _) (by omega))) Ia GI)
  rw[aV]at this
  exact this
 ·rw[h1]at Gn
  obtain rfl:some (⟨p,q',none⟩:Addr)=ptr:=by simpa using Gn
  have Hn:bO fx ver (.struct (some q) toff fs) (.st vs t)=[1]++(wrFds fx ver fs vs++fc fx (wrTgd fx ver fs vs) t):=by simp[bO,V.isNul,V.fields,V.tags]
  rw[Hn]at hlim h
  rw[List.length_append]at hlim
  simp only[List.length_cons,List.length_nil]at hlim
  refine dg (G3 false rfl _ fun a2 Gm J4 G2=>?_)
  have G9:=Gm.size
  refine bm (ad (uN (m:=nm.n 0+1) (k0:=k0) (L:=L) (bs:=bs) (d:=d) K0 (c:=1) (by omega) J4 hw.dst hw.Lw (by omega) (by omega) (by show k0<=n+4+2+3;omega) (by show 1<n+4+2+3;omega) (by show n+4+2+3+3<=_;omega) fun a3 w3 d3 Gt Ia GI=>?_))
  have Hh:=Gt.size
  have Uf:a3.get (nm.n 0)=pt p q':=by rw[Gt.get _ (by omega) (.inl (by omega))];exact G2
  have Hw:Pv 1 m k0 n a a3:=(hp1'.trans (Gm.mono (Nat.le_refl _) (by omega))).trans (Gt.mono (by omega) (by show n<=n+4+2+3;omega))
  have Kp:=hw.step hc Hw Ia GI
  have Ho:=Gr.far hw.dst GI
  have ND:p<L:=by omega
  have hw3':WC { cx with s:=nm.n 0 } fx ver te L p q' d3 (bs++[UInt8.ofNat 1]) a3 w3:=Kp.at (a':=a3) hc (Pv.refl _ _ _ k0 _) Ia Uf ND
  refine Ax GV KM (cx:={ cx with s:=nm.n 0 }) (L:=L) Hl JV hw3' (hc.at (m':=nm.n 0+1) ⟨G7.1,by omega⟩ (by omega) (by omega)) Gw (by show k0<=n+4+2+3+3;omega) (by omega) (by rw[Hh,G9,Gu];exact P0) (h5.far Ho ND hw.Lw) (h6.far Ho ND hw.Lw) (by rw[List.length_append (as:=bs)];simp only[List.length_cons,List.length_nil];omega) fun a' w' d' GK h1' GA=>bg (h a' w' d' (Hw.trans (GK.mono (by omega) (by show n<=n+4+2+3+3;omega))) h1' ?_)
  have:=GI.trans GA
  simpa[List.append_assoc]using this
theorem wT (K0:KW P g av fl nl te){nul:Option Nat}{esz:Nat}{e:Ty}(he:wW P g av fl nl te e):kO P g av fl nl te (.list nul esz e):=by
 intro nm cx ver B O L m k0 n T off t v d bs K E a w GM GR ht hw hc Gw hk Hk hn hr hlim h
 simp only[okBodyW,Bool.and_eq_true,Bool.or_eq_true,Bool.not_eq_true',decide_eq_true_eq,beq_iff_eq]at GM
 obtain⟨⟨⟨⟨G7,hT⟩,Hy⟩,Hi⟩,GB⟩:=GM
 subst hT
 cases hro:nP P (nm.n 3) with
 | none=>rw[hro]at GB;cases GB
 | some row=>
 obtain⟨E',sz,z⟩:=row
 rw[hro]at GB
 simp only[Bool.and_eq_true,Bool.or_eq_true,beq_iff_eq]at GB
 obtain⟨⟨rfl,Ky⟩,JH⟩:=GB
 have G5:=hc.le
 have HF:=hc.one
 obtain⟨base,len,c,Gn,Gp,Iw,He,Mx⟩:=pk hr
 have L9:(dj (t,bO true ver (.list nul sz e) v)).length=(uvar t).length+((uvar (dL (bO true ver (.list nul sz e) v).length)).length+(bO true ver (.list nul sz e) v).length):=by simp[dj]
 rw[L9]at hlim
 have Kq:iM [fG g cx nul (nm.n 0) (nm.n 3),g9 g (nm.n 0) (nm.n 12) (nm.n 13) (nm.n 14) (nm.n 3) (gwEl g cx e (nm.n 0) (nm.n 12) (nm.n 3) (nm.sub 0))]:=ae (lf _ _ _ _ _) (ae (lg _ _ _ _ _ _ (upL_wel g e cx _ _ _ _)) ax)
 have GU:(gL ([fG g cx nul (nm.n 0) (nm.n 3),g9 g (nm.n 0) (nm.n 12) (nm.n 13) (nm.n 14) (nm.n 3) (gwEl g cx e (nm.n 0) (nm.n 12) (nm.n 3) (nm.sub 0))]++[cV g (nm.n 4) (nm.n 5) (nm.n 6) (nm.n 9)]) (n+4+2+2)).2<=a.tmps.size:=hn
 have P0:(gL [fG g cx nul (nm.n 0) (nm.n 3),g9 g (nm.n 0) (nm.n 12) (nm.n 13) (nm.n 14) (nm.n 3) (gwEl g cx e (nm.n 0) (nm.n 12) (nm.n 3) (nm.sub 0))] (n+4+2+2)).2+11<=a.tmps.size:=by rw[bc]at GU;exact GU
 have Ib:=Kq (n+4+2+2)
 show aQ P (jO ([co cx.s (nm.n 0) (nm.n 1) (nm.n 2) (nm.n 3),iH g t,aU (nm.n 4) (.bool false),aA 2 fun n=>[mk (some n) (.move (tm 1)),bi (some (n+1)) .len [tm n] [g.tSl] g.tInt,mk (some (nm.n 5)) (.assign (tm (n+1)))]] ++
  (aY (.label (nm.n 6))::([fG g cx nul (nm.n 0) (nm.n 3),g9 g (nm.n 0) (nm.n 12) (nm.n 13) (nm.n 14) (nm.n 3) (gwEl g cx e (nm.n 0) (nm.n 12) (nm.n 3) (nm.sub 0))]++[cV g (nm.n 4) (nm.n 5) (nm.n 6) (nm.n 9)]))) n).1 (Rt K E) a w
 refine pX (fun c hc=>?_) (by simp[gL]) ?_
 ·simp only[gL,co,iH,aU,aA,rg,List.mem_cons,List.not_mem_nil,or_false]at hc
  rcases hc with rfl|rfl|rfl|rfl<;>rfl
 show LW P (co cx.s (nm.n 0) (nm.n 1) (nm.n 2) (nm.n 3)::iH g t::([aU (nm.n 4) (.bool false),aA 2 fun n=>[mk (some n) (.move (tm 1)),bi (some (n+1)) .len [tm n] [g.tSl] g.tInt,mk (some (nm.n 5)) (.assign (tm (n+1)))],aY (.label (nm.n 6))] ++
  ([fG g cx nul (nm.n 0) (nm.n 3),g9 g (nm.n 0) (nm.n 12) (nm.n 13) (nm.n 14) (nm.n 3) (gwEl g cx e (nm.n 0) (nm.n 12) (nm.n 3) (nm.sub 0))]++[cV g (nm.n 4) (nm.n 5) (nm.n 6) (nm.n 9)]))) n _ a w
 refine ad (im (x:=nm.n 0) (m:=m) (k0:=k0) hw.ss (fldB_ok Hy) Gn (.inl rfl) G5 hk (by omega) (by omega) fun a1 Gk Gv=>?_)
 have Gu:=Gk.size
 have hp1':=Gk.x1 ⟨G7.1,by omega⟩
 have Is:a1.get 1=d:=(Gk.g1 ⟨G7.1,by omega⟩ HF).trans hw.s1
 refine ad (sR (m:=m) K0 Gw ht Is hw.dst hw.Lw (by omega) G5 (by show k0<=n+4;omega) HF (by show n+4+2<=_;omega) fun a2 w2 d2 Gm J4 G2=>?_)
 have G9:=Gm.size
 have GQ:Pv 1 m k0 n a a2:=hp1'.trans (Gm.mono G5 (by show n<=n+4;omega))
 have Jl:a2.get (nm.n 0)=.slice base len c:=(Gm.get _ (by omega) (.inl (by omega))).trans Gv
 have L8:=Nat.le_trans hw.Lw G2.keeps.size
 show LW P _ (n+4+2) _ a2 w2
 refine pW K0 Gw (k0:=k0) (m0:=nm.n 0+1) (mB:=nm.n 12) (enc:=bO true ver (.list nul sz e) v) J4 G2.dst L8 (by rw[List.length_append];omega) (by omega) (by omega) (by omega) (by omega) Kq (by rw[G9,Gu];exact GU) (fun a3 w3 d3 bs3 K3 Ja Ia hg3' Kz h3=>?_) fun a3 w3 d3 Ja Ia GI=>h a3 w3 d3 ?_ Ia ?_
 ·have Hh:=Ja.size
  have H6:=hg3'.dst
  have Gx:=Gr.far G2.dst hg3'
  have Ho:ac (fun k=>L<=k) w w3:=(Gr.far hw.dst G2).trans Gx
  have Ik:=hw.step hc GQ J4 G2
  have Hm:∀ q,q<m->q≠1->a3.get q=a2.get q:=fun q hq Ip=>Ja.get q Ip (by omega) (.inl (by omega))
  have Kp:WC cx true ver te L B O d3 bs3 a3 w3:=⟨H6,Ia,by rw[Hm _ hc.s.1 hc.s.2];exact Ik.ss,by rw[Hm _ hc.ver.1 hc.ver.2];exact Ik.sv,fun hf=>by rw[Hm _ hc.fx.1 hc.fx.2];exact Ik.sf hf,Ik.nf,Ik.BL,Nat.le_trans L8 Gx.size⟩
  exact nh K0 he (m:=nm.n 12) (by omega) (nO hro) Ky (fun hs=>by rcases Hi with hh|hh;rw[hs]at hh;cases hh;exact hh) (fun h=>JH.resolve_left (by rw[h];simp)) Kp (hc.mono (by omega) (by omega)) (fun _=>Gw) (by omega) (by omega) (by rw[Hh,G9,Gu];omega) ((Ja.get _ (by omega) (by omega) (.inl (by omega))).trans Jl) Gp Iw He (fun i x hx=>by
   obtain⟨p,q,e1,e2,e3⟩:=Mx i x hx
   exact⟨p,q,e1,e2,Rp.keep Ho e3 (by omega) (by have:=hw.Lw;omega)⟩) Kz fun a4 w4 d4 GD Kj Ht=>h3 a4 w4 d4 GD Kj Ht
 ·exact GQ.trans ⟨Ja.size,Ja.defers,fun i hi hi2=>Ja.get i hi (by omega) (by omega)⟩
 ·have:=G2.trans GI
  simpa[dj,List.append_assoc]using this
theorem s5 {w:World}{X:Nat->Prop}{p:cP}{cs:List Value}{v:V}(hp:AU p=true)(_h:iv w X (.prim p) cs v):((bN p).wr v).length=jl p:=by
 cases p<;>first|(exact absurd hp (by decide))|rfl
theorem wS (K0:KW P g av fl nl te)(p:cP):kO P g av fl nl te (.prim p):=by
 by_cases hpu:p=.uuid
 ·subst hpu;exact wR K0
 intro nm cx ver B O L m k0 n T off t v d bs K E a w GM GR ht hw hc Gw hk Hk hn hr hlim h
 simp only[okBodyW,if_neg hpu,Bool.and_eq_true,beq_iff_eq]at GM
 obtain⟨⟨⟨Lu,GL⟩,hT⟩,Hy⟩:=GM
 subst hT
 obtain⟨M5,Lh,MX⟩:=je GL
 have G5:=hc.le
 have HF:=hc.one
 have Sa:fF (.prim p)=false:=by cases p<;>first|rfl|cases Lu
 have Jy:Ty.agg (.prim p)=false/\Ty.sz (.prim p)=1:=by cases p<;>first|exact⟨rfl,rfl⟩|cases Lu
 have Hr:bo g cx (.prim p) (nm.n 0) []=[bq (g.ap (bN p)) (nm.n 0)]:=by cases p<;>first|rfl|cases Lu
 have SB:=cn g cx (.prim p) (nm.n 0) []
 have Ih:iq (.prim p) cx.s (nm.n 0) (nm.n 1) (nm.n 2) (nm.n 3)=co cx.s (nm.n 0) (nm.n 1) (nm.n 2) (nm.n 3):=by unfold iq;rw[Sa];rfl
 obtain⟨cs,GE,hl⟩:=hr
 obtain⟨y,rfl⟩:∃ y,cs=[y]:=by
  have:=hl.len
  rw[Jy.2]at this
  exact List.length_eq_one_iff.1 this
 have La:(bO true ver (.prim p) v).length=jl p:=by
  simp only[bO,cZ]
  exact s5 Lu hl
 have L9:(dj (t,bO true ver (.prim p) v)).length=(uvar t).length+((uvar (dL (jl p))).length+jl p):=by simp[dj,La]
 have IU:dL (jl p)=jl p:=by cases p<;>rfl
 have RY:jl p<4294967296:=by cases p<;>decide
 rw[L9,IU]at hlim
 have GU:(gL (bo g cx (.prim p) (nm.n 0) []) (n+4+2+2)).2<=a.tmps.size:=by
  have:(iq (.prim p) cx.s (nm.n 0) (nm.n 1) (nm.n 2) (nm.n 3) n).2=n+4:=by rw[Ih];rfl
  have hh:(gL (bo g cx (.prim p) (nm.n 0) []) ((iq (.prim p) cx.s (nm.n 0) (nm.n 1) (nm.n 2) (nm.n 3) n).2+2+2)).2<=a.tmps.size:=hn
  rw[this]at hh
  exact hh
 have hu:=SB (n+4+2+2)
 show aQ P (gS (iq (.prim p) cx.s (nm.n 0) (nm.n 1) (nm.n 2) (nm.n 3)::iH g t::iH g (jl p)::bo g cx (.prim p) (nm.n 0) []) n).1 (Rt K E) a w
 rw[Ih]
 refine bm (ad (im (x:=nm.n 0) (m:=m) (k0:=k0) hw.ss (fldB_ok Hy) (GE 0 y rfl) (.inl rfl) G5 hk (by omega) (by omega) fun a1 Gk Gv=>?_))
 have Gu:=Gk.size
 have hp1':=Gk.x1 ⟨Lh,MX⟩
 have Is:a1.get 1=d:=(Gk.g1 ⟨Lh,MX⟩ HF).trans hw.s1
 refine ad (sR (m:=m) K0 Gw ht Is hw.dst hw.Lw (by omega) G5 (by show k0<=n+4;omega) HF (by show n+4+2<=_;omega) fun a2 w2 d2 Gm J4 G2=>?_)
 have G9:=Gm.size
 have L8:=Nat.le_trans hw.Lw G2.keeps.size
 refine ad (sR (m:=m) K0 Gw RY J4 G2.dst L8 (by rw[List.length_append];omega) G5 (by show k0<=n+4+2;omega) HF (by show n+4+2+2<=_;omega) fun a3 w3 d3 Gt Ia GI=>?_)
 have Hh:=Gt.size
 have HV:=G2.trans GI
 have Hw:Pv 1 m k0 n a a3:=(hp1'.trans (Gm.mono G5 (by show n<=n+4;omega))).trans (Gt.mono G5 (by show n<=n+4+2;omega))
 have LA:a3.get (nm.n 0)=y:=by rw[Gt.get _ (by omega) (.inl (by omega)),Gm.get _ (by omega) (.inl (by omega))];exact Gv
 have Kp:=hw.step hc Hw Ia HV
 have e:bo g cx (.prim p) (nm.n 0) []=bo g cx (.prim p) (nm.n 0) []++[]:=(List.append_nil _).symm
 rw[e]
 refine lq K0 M5 Kp hc (by show k0<=n+4+2+2;omega) (by omega) (by rw[Hh,G9,Gu];exact GU) (by simp only[jV,Sa,Bool.false_eq_true,if_false];exact⟨y,LA,rfl⟩) (hl.keep (Gr.far hw.dst HV)) ?_ fun a' w' d' GK h1' GA=>bg (h a' w' d' (Hw.trans (GK.mono (Nat.le_refl _) (by show n<=n+4+2+2;omega))) h1' ?_)
 ·have:=s5 Lu hl
  simp only[cZ,List.length_append]
  omega
 ·have:=HV.trans GA
  simp only[cZ]at this
  simp only[dj,bO,cZ,s5 Lu hl,IU]
  simpa[List.append_assoc]using this
theorem zX (K0:KW P g av fl nl te)(nul:Option Nat):kO P g av fl nl te (.str nul):=by
 intro nm cx ver B O L m k0 n T off t v d bs K E a w GM GR ht hw hc Gw hk Hk hn hr hlim h
 simp only[okBodyW,Bool.and_eq_true,decide_eq_true_eq,beq_iff_eq]at GM
 obtain⟨⟨⟨G7,M5⟩,hT⟩,Hy⟩:=GM
 subst hT
 have G5:=hc.le
 have HF:=hc.one
 obtain⟨cs,GE,hl⟩:=hr
 obtain⟨y,rfl⟩:∃ y,cs=[y]:=List.length_eq_one_iff.1 hl.len
 have L9:(dj (t,bO true ver (.str nul) v)).length=(uvar t).length+((uvar (dL (bO true ver (.str nul) v).length)).length+(bO true ver (.str nul) v).length):=by simp[dj]
 rw[L9]at hlim
 have Kq:iM (bo g cx (.str nul) (nm.n 0) []):=cn _ _ _ _ _
 have GU:(gL (bo g cx (.str nul) (nm.n 0) []++[cV g (nm.n 4) (nm.n 5) (nm.n 6) (nm.n 9)]) (n+4+2+2)).2<=a.tmps.size:=by
  have hh:(gL ([co cx.s (nm.n 0) (nm.n 1) (nm.n 2) (nm.n 3),iH g t]++rW g (nm.n 4) (nm.n 5) (nm.n 6)++bo g cx (.str nul) (nm.n 0) []++[cV g (nm.n 4) (nm.n 5) (nm.n 6) (nm.n 9)]) n).2<=a.tmps.size:=hn
  rw[List.append_assoc,bc]at hh
  exact hh
 have P0:(gL (bo g cx (.str nul) (nm.n 0) []) (n+4+2+2)).2+11<=a.tmps.size:=by rw[bc]at GU;exact GU
 have Ib:=Kq (n+4+2+2)
 have Hr:gwBody g cx t (.str nul) nm=jO ([co cx.s (nm.n 0) (nm.n 1) (nm.n 2) (nm.n 3),iH g t,aU (nm.n 4) (.bool false),aA 2 fun n=>[mk (some n) (.move (tm 1)),bi (some (n+1)) .len [tm n] [g.tSl] g.tInt,mk (some (nm.n 5)) (.assign (tm (n+1)))]] ++
  (aY (.label (nm.n 6))::(bo g cx (.str nul) (nm.n 0) []++[cV g (nm.n 4) (nm.n 5) (nm.n 6) (nm.n 9)]))):=by
  simp only[gwBody,rW,List.cons_append,List.nil_append]
 rw[Hr]
 refine pX (fun c hc=>?_) ?_ ?_
 ·simp only[gL,co,iH,aU,aA,rg,List.mem_cons,List.not_mem_nil,or_false]at hc
  rcases hc with rfl|rfl|rfl|rfl<;>rfl
 ·rw[bc]
  simp[gL]
 show LW P (co cx.s (nm.n 0) (nm.n 1) (nm.n 2) (nm.n 3)::iH g t::([aU (nm.n 4) (.bool false),aA 2 fun n=>[mk (some n) (.move (tm 1)),bi (some (n+1)) .len [tm n] [g.tSl] g.tInt,mk (some (nm.n 5)) (.assign (tm (n+1)))],aY (.label (nm.n 6))] ++
  (bo g cx (.str nul) (nm.n 0) []++[cV g (nm.n 4) (nm.n 5) (nm.n 6) (nm.n 9)]))) n _ a w
 refine ad (im (x:=nm.n 0) (m:=m) (k0:=k0) hw.ss (fldB_ok Hy) (GE 0 y rfl) (.inl rfl) G5 hk (by omega) (by omega) fun a1 Gk Gv=>?_)
 have Gu:=Gk.size
 have hp1':=Gk.x1 ⟨G7.1,by omega⟩
 have Is:a1.get 1=d:=(Gk.g1 ⟨G7.1,by omega⟩ HF).trans hw.s1
 refine ad (sR (m:=m) K0 Gw ht Is hw.dst hw.Lw (by omega) G5 (by show k0<=n+4;omega) HF (by show n+4+2<=_;omega) fun a2 w2 d2 Gm J4 G2=>?_)
 have G9:=Gm.size
 have GQ:Pv 1 m k0 n a a2:=hp1'.trans (Gm.mono G5 (by show n<=n+4;omega))
 have Jl:a2.get (nm.n 0)=y:=(Gm.get _ (by omega) (.inl (by omega))).trans Gv
 have L8:=Nat.le_trans hw.Lw G2.keeps.size
 show LW P _ (n+4+2) _ a2 w2
 refine pW K0 Gw (k0:=k0) (m0:=nm.n 0+1) (mB:=max (nm.n 4) (nm.n 5)+1) (enc:=bO true ver (.str nul) v) J4 G2.dst L8 (by rw[List.length_append];omega) (by omega) (by omega) (by omega) (by omega) Kq (by rw[G9,Gu];exact GU) (fun a3 w3 d3 bs3 K3 Ja Ia hg3' Kz h3=>?_) fun a3 w3 d3 Ja Ia GI=>h a3 w3 d3 ?_ Ia ?_
 ·have Hh:=Ja.size
  have H6:=hg3'.dst
  have Gx:=Gr.far G2.dst hg3'
  have Ho:ac (fun k=>L<=k) w w3:=(Gr.far hw.dst G2).trans Gx
  have Ik:=hw.step hc GQ J4 G2
  have Hm:∀ q,q<m->q≠1->a3.get q=a2.get q:=fun q hq Ip=>Ja.get q Ip (by omega) (.inl (by omega))
  have Kp:WC cx true ver te L B O d3 bs3 a3 w3:=⟨H6,Ia,by rw[Hm _ hc.s.1 hc.s.2];exact Ik.ss,by rw[Hm _ hc.ver.1 hc.ver.2];exact Ik.sv,fun hf=>by rw[Hm _ hc.fx.1 hc.fx.2];exact Ik.sf hf,Ik.nf,Ik.BL,Nat.le_trans L8 Gx.size⟩
  have e:bo g cx (.str nul) (nm.n 0) []=bo g cx (.str nul) (nm.n 0) []++[]:=(List.append_nil _).symm
  rw[e]
  have Hn:bO true ver (.str nul) v=(cZ true ver (.str nul)).wr v:=by simp only[bO]
  rw[Hn]at Kz h3
  exact lq K0 M5 Kp (hc.mono (by omega) (by omega)) (by omega) (by omega) (by rw[Hh,G9,Gu];omega) ⟨y,(Ja.get _ (by omega) (by omega) (.inl (by omega))).trans Jl,rfl⟩ (hl.keep Ho) Kz fun a4 w4 d4 GD Kj Ht=>bg (h3 a4 w4 d4 GD Kj Ht)
 ·exact GQ.trans ⟨Ja.size,Ja.defers,fun i hi hi2=>Ja.get i hi (by omega) (by omega)⟩
 ·have:=G2.trans GI
  simpa[dj,List.append_assoc]using this
theorem qc {cx:Cx}{ver:Int}{B O L m k0 T key t:Nat}{enc:Bs}{d:Value}{bs:Bs}{K E:Act->World->Prop}(GR:cx.hf=true)(Gw:fl=true)(VO:m<=key):∀ (fs:Fds) (ms:List Nm) (vs:List V) (n:Nat) (a:Act) (w:World),qK P g av fl nl te fs->okTagdW ⟨P,g,av,nl⟩ cx.hf m k0 T fs ms=true->iU P av g T fs ms=true->fs.tagsOf.Nodup->(t,enc)∈wrTgd true ver fs vs ->
  WC cx true ver te L B O d bs a w->mU cx m k0->a.get key=.int .u32 (t:Int)->key<n->k0<=key->k0<=a.tmps.size->(cf g key (gwTagd g cx fs ms) n).2<=a.tmps.size->RpF w (fun k=>L<=k) fs B O vs->bs.length+(dj (t,enc)).length<=d7 ->
  (∀ a' w' d',Pv 1 m k0 n a a'->a'.get 1=d'->Gr L te d w d' (bs++dj (t,enc)) w'->K a' w')->aQ P (cf g key (gwTagd g cx fs ms) n).1 (Rt K E) a w
 | .nil,ms,vs,n,a,w,_,_,_,_,IX,_,_,_,_,_,_,_,_,_,_=>by simp[wrTgd]at IX
 | .cons lo hi tag df off ty r,ms,vs,n,a,w,hb,G1,Rm,Qp,IX,hw,hc,HJ,Kl,HM,Hk,hn,hr,hlim,h=>by
  obtain⟨x,vs',rfl,hx,HU⟩:=hr
  simp only[okTagdW,Bool.and_eq_true,Bool.or_eq_true]at G1
  simp only[iU,Bool.and_eq_true]at Rm
  cases tag with
  | none=>
   have e1:gwTagd g cx (.cons lo hi none df off ty r) ms=gwTagd g cx r ms.tail:=by simp only[gwTagd]
   have e2:wrTgd true ver (.cons lo hi none df off ty r) (x::vs')=wrTgd true ver r vs':=by simp only[wrTgd,List.nil_append,List.tail_cons]
   rw[e1]at hn ⊢
   rw[e2]at IX
   exact qc GR Gw VO r ms.tail vs' n a w hb.2 G1.2 Rm.2 (by simpa[Fds.tagsOf]using Qp) IX hw hc HJ Kl HM Hk hn HU hlim h
  | some q=>
   simp only[Bool.and_eq_true,decide_eq_true_eq]at Rm
   have GM:=G1.1.resolve_left (by simp)
   have e1:gwTagd g cx (.cons lo hi (some q) df off ty r) ms=(q,gwBody g cx q ty (ms.headD (.mk [] [])))::gwTagd g cx r ms.tail:=by simp only[gwTagd]
   have e2:wrTgd true ver (.cons lo hi (some q) df off ty r) (x::vs')=(if iX ty df x then[] else[(q,bO true ver ty x)])++wrTgd true ver r vs':=by simp only[wrTgd,List.headD_cons,List.tail_cons];rfl
   have hnd':q∉r.tagsOf/\r.tagsOf.Nodup:=by simpa[Fds.tagsOf]using Qp
   have JF:∀ y∈wrTgd true ver r vs',y.1∈r.tagsOf:=fun y hy=>oF true ver r vs' y hy
   rw[e1]at hn ⊢
   rw[e2,List.mem_append]at IX
   have SG:=up_wbody g ty cx q (ms.headD (.mk [] [])) (n+2)
   have hup2:=jW g key (gwTagd g cx r ms.tail) (up_wtagd g r cx ms.tail) (gwBody g cx q ty (ms.headD (.mk [] [])) (n+2)).2
   have If:(cf g key (gwTagd g cx r ms.tail) (gwBody g cx q ty (ms.headD (.mk [] [])) (n+2)).2).2<=a.tmps.size:=hn
   have G5:=hc.le
   have HF:=hc.one
   have wcOf:∀ a',Pv key m k0 n a a'->(∀ i,i<n->a'.get i=a.get i)->WC cx true ver te L B O d bs a' w:=fun a' hp Gz=>⟨hw.dst,by rw[Gz 1 (by omega)];exact hw.s1,by rw[Gz _ (by have:=hc.s;omega)];exact hw.ss,by rw[Gz _ (by have:=hc.ver;omega)];exact hw.sv,fun hf=>by rw[Gz _ (by have:=hc.fx;omega)];exact hw.sf hf,hw.nf,hw.BL,hw.Lw⟩
   have pvOf:∀ a',Pv key m k0 n a a'->(∀ i,i<n->a'.get i=a.get i)->Pv 1 m k0 n a a':=fun a' hp Gz=>⟨hp.size,hp.defers,fun i _ hi=>Gz i (by omega)⟩
   refine AF (x:=key) (m:=m) (k0:=k0) HJ Kl G5 (by omega) (by omega) (fun Jr a1 Gk Gz=>?_) (fun Jr a1 Gk Gz=>?_)
   ·subst Jr
    have Gu:=Gk.size
    have TA:iX ty df x=false/\enc=bO true ver ty x:=by
     rcases IX with hm|hm
     ·split at hm
      ·simp at hm
      ·rename_i GS
       simp only[List.mem_singleton,Prod.mk.injEq]at hm
       exact⟨by simpa using GS,hm.2⟩
     ·exact absurd (JF _ hm) hnd'.1
    obtain⟨_,rfl⟩:=TA
    exact hb.1 (ms.headD (.mk [] [])) cx ver B O L m k0 (n+2) T off t x d bs K E a1 w GM GR Rm.1.1 (wcOf a1 Gk Gz) hc Gw (by omega) (by omega) (by omega) hx hlim fun a' w' d' GK h1' GA=>h a' w' d' ((pvOf a1 Gk Gz).trans (GK.mono (Nat.le_refl _) (by omega))) h1' GA
   ·have Gu:=Gk.size
    have hm:(t,enc)∈wrTgd true ver r vs':=by
     rcases IX with hm|hm
     ·split at hm
      ·simp at hm
      ·simp only[List.mem_singleton,Prod.mk.injEq]at hm
       exact absurd hm.1 Jr
     ·exact hm
    exact qc GR Gw VO r ms.tail vs' _ a1 w hb.2 G1.2 Rm.2 hnd'.2 hm (wcOf a1 Gk Gz) hc ((Gz key Kl).trans HJ) (by omega) HM (by omega) (by omega) HU hlim fun a' w' d' GK h1' GA=>h a' w' d' ((pvOf a1 Gk Gz).trans (GK.mono (Nat.le_refl _) (by omega))) h1' GA
theorem sP (K0:KW P g av fl nl te)(Gw:fl=true){s TT kt o F sz B O L k0 n:Nat}{agg:Bool}{mm:Value}{t:List (Nat × Bs)}{d:Value}{bs:Bs}{K:Act->World->Prop}{Q:Exit->Act->World->Prop}{a:Act}{w:World}(LC:a.get s=pt B O)(hF:bp P TT kt F o agg sz)(IQ:w.cell? ⟨B,O+o,none⟩=some mm)(RE:B<w.heap.size/\d.ownBlock≠some B)(Hv:cN w (fun k=>L<=k) mm t)
  (h1:a.get 1=d) (hd:aH w L te d bs) (hL:L<=w.heap.size) (hlim:bs.length+(bn t).length<=d7) (HF:1<k0) (hk:k0<=n) (hn:n+5<=a.tmps.size)
  (h:∀ a' w' d',Pv 1 k0 k0 n a a'->a'.get 1=d'->Gr L te d w d' (bs++bn t) w'->K a' w'):aQ P (eC g s TT kt n).1 (Exit.then K Q) a w:=by
 refine au (ag ?_)
 rw[aa,LC]
 refine aL (by rw[aa,am (by omega)];rfl) ?_
 refine bR (by rw[aa,am (by simp only[ab];omega)]) hF (ag ?_)
 rw[aa,ak (by omega),ak (by omega),ak (by omega),h1]
 refine aR (vs:=#[pt B (O+o),d]) (K0.teE Gw) ?_ (K0.teC Gw w B (O+o) mm L t d _ IQ RE Hv hd hL hlim) fun e4 w4 hR4=>?_
 ·simp only[List.map_cons,List.map_nil,aa]
  rw[ak (by omega),am (by simp only[ab];omega),am (by simp only[ab];omega)]
  rfl
 obtain⟨d4,QZ,Ht⟩:=hR4
 refine⟨d4,QZ,aj (wpList_nil (h _ w4 d4 ?_ ?_ Ht))⟩
 ·exact((((((Pv.refl _ _ _ _ _).put _ (by omega)).put _ (by omega)).put _ (by omega)).put _ (by omega)).put _ (by omega)).put _ (.inl rfl)
 ·rw[am (by simp only[ab];omega),aa,am (by simp only[ab];omega)]
theorem dq (x:Nat):0<(uvar x).length:=by
 show 0<(cj (8+1) x).length
 simp only[cj]
 split<;>simp
theorem qZ:∀ t:List (Nat × Bs),t.length<=(bn t).length
 | []=>Nat.le_refl _
 | p::t=>by
  have:=qZ t
  have:=dq p.1
  simp only[bn,List.map_cons,List.flatten_cons,List.length_append,List.length_cons,dj]at *
  omega
theorem pE (K0:KW P g av fl nl te){fs:Fds}(hb:qK P g av fl nl te fs):mc P g av fl nl te fs:=by
 intro nm cx fx ver B O L m k0 n T kt toff vs t d bs K E a w G1 hw hc Gw hk Hk hn hr ht hlim h
 simp only[jm,Bool.and_eq_true,Bool.or_eq_true,Bool.not_eq_true',decide_eq_true_eq]at G1
 obtain⟨Hl,G1⟩:=G1
 have G5:=hc.le
 have HF:=hc.one
 cases Hv:fs.tagged with
 | false=>
  have e:bJ g cx fs T kt nm=gJ g cx T kt:=by simp[bJ,gZ,Hv]
  have e2:fc fx (wrTgd fx ver fs vs) t=bZ fx t:=by rw[iy fx ver fs vs Hv,lL]
  rw[e]at hn ⊢
  rw[e2]at hlim h
  have e3:gJ g cx T kt=gJ g cx T kt++[]:=(List.append_nil _).symm
  rw[e3]
  refine AE (_off:=0) (F:=qA P T kt) (sz:=1) (agg:=true) K0 Gw hw hc hk hn ?_ ht hlim fun a' w' d' GK h1' GA=>bg (h a' w' d' GK h1' GA)
  cases toff with
  | none=>simpa[nS]using Hl
  | some o=>
   simp only[nS,Bool.and_eq_true]at Hl
   exact⟨Hl.1,fldB_ok Hl.2⟩
 | true=>
  obtain⟨⟨⟨⟨G7,SM⟩,Rl⟩,Qp⟩,U7⟩:=G1.resolve_left (by rw[Hv];simp)
  cases toff with
  | none=>
   have hf:cx.hf=false:=by simpa[nS]using Hl
   have HN:=hw.nf hf
   subst HN
   have e:bJ g cx fs T kt nm=[]:=by simp[bJ,gZ,Hv,hf]
   rw[e]
   exact bg (h a w d (Pv.refl _ _ _ _ _) hw.s1 (by simpa[fc]using Gr.refl hw.dst))
  | some o=>
  simp only[nS,Bool.and_eq_true]at Hl
  have hf:=Hl.1
  have hF:=fldB_ok Hl.2
  have hfl':=Gw hf
  have T':=Cu SM
  obtain⟨mm,IQ,PO⟩:=ht
  have Lr:=hc.s
  have e:bJ g cx fs T kt nm=[ix cx (gS (aU (nm.n 0) (.slice none 0 0)::(cJ g cx.s (nm.n 0) (nm.n 1) fs nm.s++[mP g cx.s T kt (nm.n 0) (nm.n 1),ip g (nm.n 0) (nm.n 1) (nm.n 2) (nm.n 3) (nm.n 4) (nm.n 5) (gwTagd g cx fs nm.s),eC g cx.s T kt]))) b6]:=by
   simp[bJ,gZ,Hv,hf]
  rw[e]at hn ⊢
  have J1:(gL (cJ g cx.s (nm.n 0) (nm.n 1) fs nm.s++[mP g cx.s T kt (nm.n 0) (nm.n 1),ip g (nm.n 0) (nm.n 1) (nm.n 2) (nm.n 3) (nm.n 4) (nm.n 5) (gwTagd g cx fs nm.s),eC g cx.s T kt]) (n+1)).2<=a.tmps.size:=hn
  rw[bc]at J1
  have SF:=iQ g cx.s (nm.n 0) (nm.n 1) fs nm.s (n+1)
  generalize Qq:(gL (cJ g cx.s (nm.n 0) (nm.n 1) fs nm.s) (n+1)).2=nc at J1 SF
  have If:(cf g (nc+10+6) (gwTagd g cx fs nm.s) (nc+10+7)).2+1+5<=a.tmps.size:=J1
  have SE:=jW g (nc+10+6) (gwTagd g cx fs nm.s) (up_wtagd g fs cx nm.s) (nc+10+7)
  refine ad (o8 (x:=n) (m:=m) (k0:=k0) (hw.sf hf) G5 hk (by omega) fun a1 Gk=>?_)
  have hp1':Pv 1 m k0 n a a1:=⟨Gk.size,Gk.defers,fun s hs G9=>Gk.get s (by omega) G9⟩
  have Gu:=Gk.size
  have Gv:a1.get 1=d:=by rw[Gk.get 1 (by omega) (.inl HF)];exact hw.s1
  have LC:a1.get cx.s=pt B O:=by rw[Gk.get _ (by omega) (.inl Lr.1)];exact hw.ss
  cases fx with
  | false=>
   simp only[Bool.false_eq_true,if_false]
   exact .skip (bg (h a1 w d hp1' Gv (by simpa[fc]using Gr.refl hw.dst)))
  | true=>
   simp only[if_true]
   have Hu:=na true ver fs vs
   have P2:(wrTgd true ver fs vs).length=(iN fs vs).length:=by rw[<- Hu,List.length_map]
   have Kl:=qR fs vs
   have M5:(fc true (wrTgd true ver fs vs) t).length=(uvar (dL ((iN fs vs).length+t.length))).length+((bn (wrTgd true ver fs vs)).length+(bn t).length):=by simp[fc,P2]
   rw[M5]at hlim
   have KM:=qZ t
   refine bm (ad (au (aj (wpList_nil ?_))))
   show LW P _ (n+1) _ (a1.put (some (nm.n 0)) (.slice none 0 0)) w
   have g21:(a1.put (some (nm.n 0)) (.slice none 0 0)).get 1=d:=by rw[ak (by omega)];exact Gv
   have g2s:(a1.put (some (nm.n 0)) (.slice none 0 0)).get cx.s=pt B O:=by rw[ak (by omega)];exact LC
   have g2q:(a1.put (some (nm.n 0)) (.slice none 0 0)).get (nm.n 0)=.slice none 0 0:=am (by omega)
   have Gm:Pv 1 m k0 n a (a1.put (some (nm.n 0)) (.slice none 0 0)):=hp1'.put _ (by omega)
   generalize a1.put (some (nm.n 0)) (.slice none 0 0)=a2 at g21 g2s g2q Gm ⊢
   have G9:=Gm.size
   refine qb K0 (te:=nm.n 0) (m:=m) (k0:=k0) (TT:=T) (B:=B) (O:=O) (L:=L) T' K0.dInt ⟨G7.1,by omega⟩ Lr.1 G5 hw.BL fs nm.s vs (n+1) (.slice none 0 0) [] a2 w Rl g2s g2q (.inl ⟨rfl,rfl⟩) hr hw.Lw (by simp;omega) (by omega) (by rw[Qq];omega) fun a3 w3 v3 Gt N9 LL=>?_
   rw[List.nil_append]at LL
   rw[Qq]
   have Hh:=Gt.size
   have Gx:ac (fun _=>False) w w3:=LL.keeps.mono fun k _ hk=>by simp[Value.ownBlock]at hk
   have g31:a3.get 1=d:=by rw[Gt.get 1 (by omega) (.inl HF)];exact g21
   have g3s:a3.get cx.s=pt B O:=by rw[Gt.get _ (by omega) (.inl Lr.1)];exact g2s
   have Hw:Pv 1 m k0 n a a3:=Gm.trans ⟨Gt.size,Gt.defers,fun i _ hi=>Gt.get i (by omega) (by omega)⟩
   have H6:aH w3 L te d bs:=hw.dst.keep Gx fun _ _ h=>h
   have RN:∀ j,v3.ownBlock=some j->d.ownBlock≠some j:=fun j hj IJ=>by
    have h1:=(hw.dst.own IJ).2
    rcases LL.own j hj with h2|h2
    ·simp[Value.ownBlock]at h2
    ·omega
   have R9:=Nat.le_trans hw.Lw Gx.size
   have KO:w3.cell? ⟨B,O+o,none⟩=some mm:=(Gx.mono (Y:=fun k=>L<=k) fun _ _ h=>h.elim).cell (by have:=hw.BL;omega) IQ
   have J6:cN w3 (fun k=>L<=k) mm t:=PO.keep (Gx.mono fun _ _ h=>h.elim)
   obtain⟨base3,c3,ON⟩:=LL.at_.form
   refine ad (AJ K0 hfl' T' (k0:=k0) (q:=nm.n 0) (s:=cx.s) (cnt:=(iN fs vs).length) (c:=c3) (base:=base3) (by rw[N9];exact ON) g3s hF KO J6 (by simp only[d7]at hlim;omega) (by omega) g31 H6 R9 (by omega) ⟨by omega,by omega⟩ (by omega) (by omega) (by omega) fun a4 w4 d4 GD Kj Ht=>?_)
   show LW P [ip g (nm.n 0) (nm.n 1) (nm.n 2) (nm.n 3) (nm.n 4) (nm.n 5) (gwTagd g cx fs nm.s),eC g cx.s T kt] (nc+10) _ a4 w4
   have IP:=GD.size
   have Ku:Pv 1 m k0 n a a4:=Hw.trans (GD.mono G5 (by omega))
   have KS:Gr L te d w d4 (bs++uvar (dL ((iN fs vs).length+t.length))) w4:=Gr.pre Gx (fun _ _ h=>h) Ht
   have hL4:=Nat.le_trans hw.Lw KS.keeps.size
   have M6:jr w4 L g.tU32 v3 (iN fs vs):=LL.at_.keep Ht.keeps fun j hj hX=>RN j hj hX
   have S5:∀ j,v3.ownBlock=some j->d4.ownBlock≠some j:=fun j hj IJ=>by
    rcases Ht.own j IJ with h2|h2
    ·exact RN j hj h2
    ·have:=(LL.at_.own hj).2
     omega
   refine ad ?_
   rw[aV,aV]
   refine xW (m:=m) (k0:=k0) (tv:=nm.n 2) (n:=nc+10) (L:=L) (es:=(wrTgd true ver fs vs).map dj) K0.dInt T' ((GD.get (nm.n 0) (by omega) (.inl (by omega))).trans N9) M6 S5 Kj KS.dst (by omega) (by rw[List.length_map,P2]) (by omega) ⟨by omega,G7.2.2.1⟩ (by omega) (by omega) (by show(cf g (nc+10+6) (gwTagd g cx fs nm.s) (nc+10+7)).2+1<=_;omega) SE (fun j k e a5 w5 d5 OA OU HB HC N4 II=>?_) fun a5 w5 d5 HB N4 II=>?_
   ·have Nd:=HB.size
    rw[List.getElem?_map,Option.map_eq_some_iff]at OU
    obtain⟨⟨k',enc⟩,hp,rfl⟩:=OU
    have HM:k=k':=by
     have:(iN fs vs)[j]?=some k':=by rw[<- Hu,List.getElem?_map,hp];rfl
     rw[OA]at this
     exact Option.some.inj this
    subst HM
    have Iv:Pv 1 m k0 n a a5:=Ku.trans (HB.mono (by omega) (by omega))
    have Kb:=KS.trans II
    have PE:=hw.step hc Iv N4 Kb
    have hsum:(((wrTgd true ver fs vs).map dj).take j).flatten.length+(dj (k,enc)).length<=(bn (wrTgd true ver fs vs)).length:=by
     have hj:j<(wrTgd true ver fs vs).length:=(List.getElem?_eq_some_iff.1 hp).1
     have e1:bn (wrTgd true ver fs vs)=(((wrTgd true ver fs vs).map dj).take (j+1)).flatten++(((wrTgd true ver fs vs).map dj).drop (j+1)).flatten:=by rw[<- List.flatten_append,List.take_append_drop];rfl
     have e2:((wrTgd true ver fs vs).map dj).take (j+1)=((wrTgd true ver fs vs).map dj).take j++[dj (k,enc)]:=by rw[List.take_add_one,List.getElem?_map,hp];rfl
     rw[e1,e2]
     simp only[List.flatten_append,List.flatten_cons,List.flatten_nil,List.append_nil,List.length_append]
     omega
    exact qc hf hfl' (m:=nm.n 2+1) (key:=nc+10+6) (T:=T) (by omega) fs nm.s vs (nc+10+7) a5 w5 hb U7 Rl Qp (List.mem_of_getElem? hp) PE (hc.mono (by omega) (by omega)) HC (by omega) (by omega) (by omega) (by omega) (hr.far (Gr.far hw.dst Kb) hw.BL hw.Lw) (by simp only[List.length_append];omega) fun a6 w6 d6 hp6 LM OK=>⟨d6,hp6.mono (Nat.le_refl _) (by omega),LM,OK⟩
   ·have Nd:=HB.size
    have Iv:Pv 1 m k0 n a a5:=Ku.trans (HB.mono (by omega) (by omega))
    have Kb:=KS.trans II
    have Ho:=Gr.far hw.dst Kb
    refine ad (sP K0 hfl' (k0:=k0) ((Iv.get _ Lr.2 (.inl Lr.1)).trans hw.ss) hF (Ho.cell (by have:=hw.BL;omega) IQ) (Kb.dst.away hw.BL (Nat.le_trans hw.Lw Kb.keeps.size)) (PO.keep Ho) N4 Kb.dst (Nat.le_trans hw.Lw Kb.keeps.size) ?_ (by omega) (by show k0<=(cf g (nc+10+6) (gwTagd g cx fs nm.s) (nc+10+7)).2+1;omega) (by show(cf g (nc+10+6) (gwTagd g cx fs nm.s) (nc+10+7)).2+1+5<=_;omega) fun a6 w6 d6 hp6 LM OK=>bg (bg (h a6 w6 d6 (Iv.trans (hp6.mono G5 (by show n<=(cf g (nc+10+6) (gwTagd g cx fs nm.s) (nc+10+7)).2+1;omega))) LM ?_)))
    ·have:(((wrTgd true ver fs vs).map dj).flatten).length=(bn (wrTgd true ver fs vs)).length:=rfl
     simp only[List.length_append,this]
     omega
    ·have:=Kb.trans OK
     simpa[fc,P2,bn,List.append_assoc]using this
mutual
theorem D3 (K0:KW P g av fl nl te):∀ ty:Ty,wV P g av fl nl te ty
 | .prim p=>mV K0 (ty:=.prim p) (x:=fun nm=>nm.l.drop 4) rfl (fun _ _=>rfl) (fun hf m k0 T off nm h=>by
   simp only[lw,Bool.and_eq_true,beq_iff_eq,Bool.or_eq_true]at h
   refine⟨h.1.1.1,h.1.1.2,h.1.2,fun hu=>?_⟩
   obtain rfl:p=.uuid:=by cases p<;>first|rfl|cases hu
   rcases h.2 with h2|h2
   ·cases h2
   ·have:=h.1.1.1
    simp only[dQ,qW,Bool.and_eq_true]at this
    exact⟨h2,this.1.1.1.1⟩)
 | .str nul=>mV K0 (ty:=.str nul) (x:=fun nm=>nm.l.drop 4) rfl (fun _ _=>rfl) (fun hf m k0 T off nm h=>by
   simp only[lw,Bool.and_eq_true,beq_iff_eq]at h
   exact⟨h.1.1,h.1.2,h.2,fun hu=>by cases hu⟩)
 | .bytes nul=>mV K0 (ty:=.bytes nul) (x:=fun _=>[]) rfl (fun _ _=>rfl) (fun hf m k0 T off nm h=>by
   simp only[lw,Bool.and_eq_true,beq_iff_eq]at h
   exact⟨h.1.1,h.1.2,h.2,fun hu=>by cases hu⟩)
 | .list _ _ e=>xj K0 (wr_el K0 e)
 | .struct none _ fs=>Ap (wr_fds K0 fs) (pE K0 (wr_tagd K0 fs))
 | .struct (some _) _ fs=>Ao K0 (wr_fds K0 fs) (pE K0 (wr_tagd K0 fs))
theorem wr_el (K0:KW P g av fl nl te):∀ ty:Ty,wW P g av fl nl te ty
 | .prim p=>nr K0 (ty:=.prim p) rfl (fun _ _ _ _ _=>rfl) (fun hf m k0 E' esz nm h=>by
   simp only[okElW,Bool.and_eq_true,beq_iff_eq,Bool.or_eq_true]at h
   refine⟨h.1.1.1.1,h.1.1.1.2,h.1.1.2,h.1.2,fun hu=>?_⟩
   obtain rfl:p=.uuid:=by cases p<;>first|rfl|cases hu
   rcases h.2 with h2|h2
   ·cases h2
   ·have:=h.1.1.1.1
    simp only[dQ,qW,Bool.and_eq_true]at this
    exact⟨h2,this.1.1.1.1⟩)
 | .str nul=>nr K0 (ty:=.str nul) rfl (fun _ _ _ _ _=>rfl) (fun hf m k0 E' esz nm h=>by
   simp only[okElW,Bool.and_eq_true,beq_iff_eq]at h
   exact⟨h.1.1.1,h.1.1.2,h.1.2,h.2,fun hu=>by cases hu⟩)
 | .bytes nul=>nr K0 (ty:=.bytes nul) rfl (fun _ _ _ _ _=>rfl) (fun hf m k0 E' esz nm h=>by
   simp only[okElW,Bool.and_eq_true,beq_iff_eq]at h
   exact⟨h.1.1.1,h.1.1.2,h.1.2,h.2,fun hu=>by cases hu⟩)
 | .list _ _ _=>fun _ _ _ _ _ _ _ _ _ _ _ _ _ _ _ _ _ _ _ _ _ _ _ _ _ _ _ h=>by simp[okElW]at h
 | .struct none _ fs=>sA (wr_fds K0 fs) (pE K0 (wr_tagd K0 fs))
 | .struct (some _) _ _=>fun _ _ _ _ _ _ _ _ _ _ _ _ _ _ _ _ _ _ _ _ _ _ _ _ _ _ _ h=>by simp[okElW]at h
theorem wr_fds (K0:KW P g av fl nl te):∀ fs:Fds,mz P g av fl nl te fs
 | .nil=>x7
 | .cons _ _ _ _ _ ty r=>vA (D3 K0 ty) (wr_fds K0 r)
theorem wr_tagd (K0:KW P g av fl nl te):∀ fs:Fds,qK P g av fl nl te fs
 | .nil=>trivial
 | .cons _ _ _ _ _ ty r=>⟨wr_body K0 ty,wr_tagd K0 r⟩
theorem wr_body (K0:KW P g av fl nl te):∀ ty:Ty,kO P g av fl nl te ty
 | .prim p=>wS K0 p
 | .str nul=>zX K0 nul
 | .list _ _ e=>wT K0 (wr_el K0 e)
 | .bytes _=>fun _ _ _ _ _ _ _ _ _ _ _ _ _ _ _ _ _ _ _ h=>by simp[okBodyW]at h
 | .struct none toff fs=>sj K0 toff fs
 | .struct (some _) _ _=>fun _ _ _ _ _ _ _ _ _ _ _ _ _ _ _ _ _ _ _ h=>by simp[okBodyW]at h
end
theorem Ar (K0:KW P g av fl nl te)(fs:Fds):mc P g av fl nl te fs:=pE K0 (wr_tagd K0 fs)
end
section
variable {P:Program} {K:Kn}
def z9 (P:Program)(T:Nat):Bool:=match P.underlying T with|some (.interface _)=>true|_=>false
theorem ifaceB_ok {T:Nat}(h:z9 P T=true):∃ ms,P.underlying T=some (.interface ms):=by
 unfold z9 at h
 split at h
 ·rename_i ms hms
  exact⟨ms,hms⟩
 ·cases h
def D9 (P:Program)(T:Nat):Bool:=
 match P.underlying T with
 | some (.struct fs)=>(match fs.toList with|[f0,f1]=>f0.offset==0&&f1.offset==1&&jg P f0.type false 1&&jg P f1.type false 1|_=>false)
 | _=>false
theorem twoB_ok {T:Nat}(h:D9 P T=true):∃ fs f0 f1,P.underlying T=some (.struct fs)/\fs.toList=[f0,f1]/\f0.offset=0/\f1.offset=1/\bd P f0.type false 1/\bd P f1.type false 1:=by
 unfold D9 at h
 split at h
 ·rename_i fs GV
  split at h
  ·rename_i f0 f1 hl
   simp only[Bool.and_eq_true,beq_iff_eq]at h
   exact⟨fs,f0,f1,GV,hl,h.1.1.1,h.1.1.2,varB_ok h.1.2,varB_ok h.2⟩
  ·cases h
 ·cases h
def Fk (P:Program)(S U:Nat):Bool:=
 (match P.underlying S with|some (.slice e)=>e==U|_=>false)&&(match P.info? U with|some i=>(match i.zero with|some z=>i.size==1&&i.bytes==1&&z.cells.size==1|none=>false)|none=>false)
theorem octB_ok {S U:Nat}(h:Fk P S U=true):OctT P S U:=by
 simp only[Fk,Bool.and_eq_true]at h
 obtain⟨h1,h2⟩:=h
 refine⟨?_,?_⟩
 ·split at h1
  ·rename_i e he
   rw[he,beq_iff_eq.1 h1]
  ·cases h1
 ·split at h2
  ·rename_i i hi
   split at h2
   ·rename_i z hz
    simp only[Bool.and_eq_true,beq_iff_eq]at h2
    exact⟨i,z,hi,hz,h2.1.1,h2.1.2,h2.2⟩
   ·cases h2
  ·cases h2
def oneF (P:Program)(T:Nat):Option Field:=match P.underlying T with|some (.struct fs)=>(match fs.toList with|[f]=>some f|_=>none)|_=>none
theorem oneF_ok {T:Nat}{f:Field}(h:oneF P T=some f):P.underlying T=some (.struct #[f]):=by
 unfold oneF at h
 split at h
 ·rename_i fs GV
  split at h
  ·rename_i f' hl
   obtain rfl:=Option.some.inj h
   rw[GV,<- hl]
  ·cases h
 ·cases h
def AppOk (P:Program)(te:Nat)(p:PF)(f:Nat):Prop:=
 Ent P f/\∀ (w:World) (L:Nat) (cs:List Value) (val:Value) (v:V),iv w (fun k=>L<=k) (iE p) cs v->lH p cs val->Bt P te f val (p.wr v) w L
theorem nv {p:PF}(hp:p≠.uuid){x val:Value}(h:lH p [x] val):val=x:=by
 unfold lH at h
 rw[if_neg hp]at h
 simpa using h.symm
theorem qJ {p:PF}{k:IntKind}{m f:Nat}(hp:∀ w X cs v,iv w X (iE p) cs v->∃ x:Int,cs=[.int k x]/\v=.n x/\(p=.u16->0<=x/\x<65536))(hu:p≠.uuid)(hw:∀ x,p.wr (.n x)=be m x)(hE:Ent P f)(hc:∀ (x:Int) (w:World),(p=.u16->0<=x/\x<65536)->ApC P K.tU8 f (.int k x) (be m x) w):AppOk P K.tU8 p f:=by
 refine⟨hE,fun w L cs val v hl hv=>?_⟩
 obtain⟨x,rfl,rfl,hx⟩:=hp _ _ _ _ hl
 obtain rfl:val=.int k x:=nv hu hv
 rw[hw]
 exact hc x w hx L
theorem app_u16 (wt:WT P K)(hF:bL K.tU16=true){f ntmps:Nat}(hfn:FnIs P f ntmps [4] (cAU16 K))(G8:13<=ntmps):AppOk P K.tU8 .u16 f:=
 qJ (k:=.u16) (m:=2) (fun w X cs v h=>by
  obtain⟨x,h1,h2,h3⟩:=h
  refine⟨x,h1,h2,fun _=>?_⟩
  simp[cP.fits]at h3
  omega) (by simp) (fun _=>rfl) hfn.ent fun x w h=>Ad wt hF hfn G8 (h rfl) w
theorem app_i16 (wt:WT P K)(hF:bL K.tU16=true){f f2 ntmps nt2:Nat}(I8:FnIs P f2 nt2 [4] (cAU16 K))(Jo:13<=nt2)(hfn:FnIs P f ntmps [4] (cACv K.tI16 K.tU16 f2))(G8:9<=ntmps):AppOk P K.tU8 .i16 f:=
 qJ (k:=.i16) (m:=2) (fun w X cs v h=>by obtain⟨x,h1,h2,_⟩:=h;exact⟨x,h1,h2,fun h=>by cases h⟩) (by simp) (fun _=>rfl) hfn.ent fun x w _=>ap_i16 wt hF I8 Jo hfn G8 x w
theorem app_i32 (wt:WT P K){f f2 ntmps nt2:Nat}(I8:FnIs P f2 nt2 [4] (cAU32 K))(Jo:19<=nt2)(hfn:FnIs P f ntmps [4] (cACv K.tI32 K.tU32 f2))(G8:9<=ntmps):AppOk P K.tU8 .i32 f:=
 qJ (k:=.i32) (m:=4) (fun w X cs v h=>by obtain⟨x,h1,h2,_⟩:=h;exact⟨x,h1,h2,fun h=>by cases h⟩) (by simp) (fun _=>rfl) hfn.ent fun x w _=>ap_i32 wt I8 Jo hfn G8 x w
theorem app_str (wt:WT P K){f f2 ntmps:Nat}(hA:AppOk P K.tU8 .i16 f2)(hc:∀ (x:Int) (w:World),ApC P K.tU8 f2 (.int .i16 x) (be 2 x) w)(hfn:FnIs P f ntmps [4] (cAStr K K.tStr K.tI16 f2))(G8:13<=ntmps):AppOk P K.tU8 .str f:=by
 refine⟨hfn.ent,fun w L cs val v hl hv=>?_⟩
 obtain⟨l,rfl,rfl,_⟩:=hl
 obtain rfl:val=.string ⟨l.toArray⟩:=nv (by simp) hv
 have h:=hc (IntKind.i16.wrap (l.length:Int)) w
 rw[mT (.inr (.inl ⟨.inl rfl,rfl⟩))]at h
 exact Dn wt wt.dI16 (uC wt.dStr l L w) hA.1 h hfn G8
theorem app_cstr (wt:WT P K){f f2 ntmps:Nat}(hE:Ent P f2)(hc:∀ x w,x<4294967296->ApC P K.tU8 f2 (.int .u32 (x:Nat)) (uvar x) w)(hfn:FnIs P f ntmps [4] (cACStr K K.tStr f2))(G8:14<=ntmps):AppOk P K.tU8 .cstr f:=by
 refine⟨hfn.ent,fun w L cs val v hl hv=>?_⟩
 obtain⟨l,rfl,rfl,_⟩:=hl
 obtain rfl:val=.string ⟨l.toArray⟩:=nv (by simp) hv
 exact Bo wt (uC wt.dStr l L w) hE hc hfn G8
end
def cNewPtr (T f:Nat):Code:=sq [rg [mk (some 0) (.assign (.const (.pointer none)))],rg [mk (some 1) (.alloc T)],rg [cl (some 2) f [tm 1]],rg [mk (some 0) (.assign (tm 1))],.ret]
def cMaxV (k:Int):Code:=sq [rg [mk (some 2) (.assign (ki .i16 0))],rg [mk (some 2) (.assign (ki .i16 k))],.ret]
def cMax (tI16 tInt f1 f2:Nat):Code:=sq [rg [mk (some 0) (.assign (ki .i64 0))],rg [cl (some 1) f1 [],cl (some 2) f2 [tm 1],mk (some 3) (.convert tI16 tInt (tm 2)),mk (some 0) (.assign (tm 3))],.ret]
def cSetV (T tI16:Nat):Code:=rg [mk (some 4) (.move (tm 0)),mk (some 5) (.move (tm 1)),mk (some 6) (.nilCheck (tm 4)),mk (some 7) (.fieldAddr T (tm 6) 0),mk none (.store tI16 (tm 7) (tm 5))]
def cRdF (f:Nat):Code:=sq [rg [mk (some 4) (.assign (.const .nilIface))],rg [mk (some 5) (.move (tm 0)),mk (some 6) (.move (tm 1)),cl (some 7) f [tm 5,tm 6,.const (.bool false)],mk (some 4) (.assign (tm 7))],.ret]
def cAgain (tI16 tInt tSl tErr f1 f2 f3 f4:Nat):Code:=sq [rg [mk (some 4) (.assign (.const aG)),mk (some 5) (.assign (.const (.bool false)))],rg [cl (some 7) f1 [],mk (some 6) (.assign (tm 7))],
 rg [mk (some 8) (.move (tm 6)),mk (some 9) (.move (tm 0)),mk (some 10) (.convert tInt tI16 (tm 9)),cl (some 11) f2 [tm 8,tm 10]],
 .seq (rg [mk (some 12) (.move (tm 6)),mk (some 13) (.move (tm 1)),bi (some 14) .append [.const aG,tm 13] [tSl,tSl] tSl,cl (some 15) f3 [tm 12,tm 14],mk (some 16) (.binOp .neq tErr (tm 15) (.const .nilIface) 0)])
  (.cond (tm 16) (.seq (rg [mk (some 4) (.assign (.const aG)),mk (some 5) (.assign (.const (.bool false)))]) .ret) .skip),
 rg [mk (some 17) (.move (tm 6)),cl (some 18) f4 [tm 17,.const aG],mk (some 4) (.assign (tm 18)),mk (some 5) (.assign (.const (.bool true)))],.ret]
def cVer (tU8 tInt:Nat):Code:=sq [rg [mk (some 4) (.assign (ki .i64 0))],rg [mk (some 5) (.move (tm 0)),mk (some 6) (.convert tU8 tInt (tm 5)),mk (some 7) (.move (tm 1)),mk (some 8) (.binOp .add tInt (tm 7) (ki .i64 1) 0),mk (some 9) (.binOp .rem tInt (tm 6) (tm 8) 0),mk (some 4) (.assign (tm 9))],.ret]
def pU (tSl tU8:Nat):List Oper:=[mk (some 16) (.move (tm 0)),mk (some 17) (.move (tm 5)),mk (some 18) (.indexAddr tSl (tm 16) (tm 17)),mk (some 19) (.load tU8 (tm 18)),mk (some 20) (.move (tm 1)),mk (some 21) (.move (tm 5)),mk (some 22) (.indexAddr tSl (tm 20) (tm 21)),mk (some 23) (.load tU8 (tm 22)),mk (some 24) (.binOp .neq tU8 (tm 19) (tm 23) 0)]
def CB (b:Bool):Code:=.seq (rg [mk (some 4) (.assign (.const (.bool b)))]) .ret
def cSame (tSl tU8 tInt:Nat):Code:=sq [rg [mk (some 4) (.assign (.const (.bool false)))],
 .seq (rg [mk (some 6) (.move (tm 0)),bi (some 7) .len [tm 6] [tSl] tInt,mk (some 8) (.move (tm 1)),bi (some 9) .len [tm 8] [tSl] tInt,mk (some 10) (.binOp .neq tInt (tm 7) (tm 9) 0)]) (.cond (tm 10) (CB false) .skip),
 .seq (rg [mk (some 11) (.move (tm 0)),bi (some 12) .len [tm 11] [tSl] tInt,mk (some 13) (.move (ki .i64 0))])
  (.block 0 (.loop (.seq (rg [mk (some 14) (.binOp .lss tInt (tm 13) (tm 12) 0)]) (.seq (.cond (tm 14) .skip (.exit 0))
   (.seq (.block 1 (.seq (rg [mk (some 15) (.move (tm 13)),mk (some 5) (.assign (tm 15))]) (.seq (.region 1 (pU tSl tU8).toArray true) (.cond (tm 24) (CB false) .skip))))
    (rg [mk (some 25) (.binOp .add tInt (tm 13) (ki .i64 1) 0),mk (some 13) (.move (tm 25))])))))),
 rg [mk (some 4) (.assign (.const (.bool true)))],.ret]
end Go.Proofs.YtbgklecbmhaadaaGreatDoor.Kx