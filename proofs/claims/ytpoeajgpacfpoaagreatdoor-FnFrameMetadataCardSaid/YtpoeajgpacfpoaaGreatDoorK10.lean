/-
  PLAIN LAWS AND CONTRACTS of messages, part 10.
-/
import Derived.Test.YtpoeajgpacfpoaaGreatDoorK9

namespace Go.Proofs.YtpoeajgpacfpoaaGreatDoor.Kx
open Go
theorem RpF.far {L:Nat}{w w':World}(hk:ac (fun k=>L<=k) w w'){fs:Fds}{b o:Nat}{vs:List V}(h:RpF w (fun k=>L<=k) fs b o vs)(hb:b<L)(hL:L<=w.heap.size):RpF w' (fun k=>L<=k) fs b o vs:=
 RpF.frame hk fs b o vs 0 h fun j _ _=>bF (hk.block b (by omega) (by omega)) j
structure TG (L tU:Nat)(v:Value)(w:World)(v':Value)(ks':List Nat)(w':World):Prop where
 at_:jg w' L tU v' ks'
 keeps:ac (fun j=>v.ownBlock=some j) w w'
 own:∀ j,v'.ownBlock=some j->v.ownBlock=some j \/ w.heap.size<=j
def i7:Fds->List V->List Nat
 | .nil,_=>[]
 | .cons _ _ tag df _ ty r,vs=>(match tag with|some k=>if lw ty df (vs.headD .nul) then[] else[k]|none=>[])++i7 r vs.tail
def Fds.tagsOf:Fds->List Nat
 | .nil=>[]
 | .cons _ _ tag _ _ _ r=>(match tag with|some k=>[k]|none=>[])++r.tagsOf
def Fds.len:Fds->Nat
 | .nil=>0
 | .cons _ _ _ _ _ _ r=>r.len+1
theorem q0:∀ (fs:Fds) (vs:List V),(i7 fs vs).length<=fs.len
 | .nil,_=>Nat.le_refl _
 | .cons _ _ tag df _ ty r,vs=>by
  have:=q0 r vs.tail
  simp only[i7,Fds.len,List.length_append]
  cases tag with
  | none=>simp;omega
  | some k=>
   simp only
   split<;>simp<;>omega
theorem mT (fx:Bool)(ver:Int):∀ (fs:Fds) (vs:List V),(wrTgd fx ver fs vs).map (·.1)=i7 fs vs
 | .nil,_=>by simp only[wrTgd,i7,List.map_nil]
 | .cons _ _ tag df _ ty r,vs=>by
  have:=mT fx ver r vs.tail
  simp only[wrTgd,i7,List.map_append,this]
  cases tag with
  | none=>rfl
  | some k=>
   simp only
   split<;>rfl
theorem oC (fx:Bool)(ver:Int):∀ (fs:Fds) (vs:List V),∀ y∈wrTgd fx ver fs vs,y.1∈fs.tagsOf
 | .nil,_,y,hy=>by simp[wrTgd]at hy
 | .cons _ _ tag df _ ty r,vs,y,hy=>by
  simp only[wrTgd,List.mem_append]at hy
  simp only[Fds.tagsOf,List.mem_append]
  rcases hy with hy|hy
  ·left
   cases tag with
   | none=>simp at hy
   | some k=>
    simp only at hy
    split at hy
    ·simp at hy
    ·simp only[List.mem_singleton]at hy
     rw[hy]
     simp
  ·exact .inr (oC fx ver r vs.tail y hy)
def iJ (P:Program)(av:PF->Bool)(g:GW)(T:Nat):Fds->List Nm->Bool
 | .nil,_=>true
 | .cons _ _ tag _ off ty r,ms=>(match tag with|some k=>decide (k<4294967296)&&pV P av g T off ty (ms.headD (.mk [] []))|none=>true)&&iJ P av g T r ms.tail
section
variable {P:Program} {tKs tU L:Nat} {v v1 v':Value} {ks ks1 ks':List Nat} {w w1 w':World}
theorem TG.refl (h:jg w L tU v ks):TG L tU v w v ks w:=⟨h,ac.refl _ _,fun _ h=>.inl h⟩
theorem TG.trans (h:TG L tU v w v1 ks1 w1)(k:TG L tU v1 w1 v' ks' w'):TG L tU v w v' ks' w':=
 ⟨k.at_,⟨k.keeps.os.trans h.keeps.os,k.keeps.tape.trans h.keeps.tape,k.keeps.output.trans h.keeps.output,Nat.le_trans h.keeps.size k.keeps.size,fun i hi hx=>by
   have hs:=h.keeps.size
   rw[k.keeps.block i (by omega) (fun hh=>by rcases h.own i hh with h1|h1;exact hx h1;omega),h.keeps.block i hi hx]⟩,
  fun i hi=>by
   have hs:=h.keeps.size
   rcases k.own i hi with h1|h1
   ·exact h.own i h1
   ·exact .inr (by omega)⟩
theorem TG.pre (hk:ac (fun _=>False) w w1)(h:TG L tU v w1 v' ks' w'):TG L tU v w v' ks' w':=
 ⟨h.at_,(hk.mono fun _ _ h=>h.elim).trans h.keeps,fun j hj=>by
  have:=hk.size
  rcases h.own j hj with h1|h1
  ·exact .inl h1
  ·exact .inr (by omega)⟩
theorem tQ (g:GW)(s:Nat)(ty:Ty)(df:Int)(m:Nm){A:GC}(hA:Up A):Up (fF g s ty df m A):=by
 unfold fF
 split
 all_goals first|exact bX hA (bq _)|exact bq _|skip
 exact fun n=>Nat.le_trans (Nat.le_add_right n 7) (hA (n+7))
theorem iC (g:GW)(s te tKs:Nat):∀ (fs:Fds) (ms:List Nm),i6 (c9 g s te tKs fs ms)
 | .nil,_=>ar
 | .cons _ _ tag df _ ty r,ms=>by
  simp only[c9]
  split
  ·exact ag (tQ g s ty df _ (am _ _)) (iC g s te tKs r ms.tail)
  ·exact iC g s te tKs r ms.tail
variable {g:GW} {m k0 n B O s te:Nat} {Q:Exit->Act->World->Prop} {a:Act}
theorem pK {av:PF->Bool}{fl nl:Bool}{te':Nat}(K0:KW P g av fl nl te')(T:E9 P tKs tU)(LE:P.underlying g.tInt=some (.int .i64)){TT:Nat}{rest:List GC}(Iu:m<=te/\te<k0)(hs:s<m)(Jo:m<=k0)(Tn:B<L):∀ (fs:Fds) (ms:List Nm) (vs:List V) (n:Nat) (v:Value) (ks:List Nat) (a:Act) (w:World),iJ P av g TT fs ms=true->a.get s=pt B O->a.get te=v->jg w L tU v ks->RpF w (fun k=>L<=k) fs B O vs->L<=w.heap.size->ks.length+fs.len<=1000->k0<=n->(gL (c9 g s te tKs fs ms) n).2<=a.tmps.size ->
  (∀ a' w' v',Pv te m k0 n a a'->a'.get te=v'->TG L tU v w v' (ks++i7 fs vs) w'->LW P rest (gL (c9 g s te tKs fs ms) n).2 Q a' w')->LW P (c9 g s te tKs fs ms++rest) n Q a w
 | .nil,ms,vs,n,v,ks,a,w,_,_,P9,hv,_,_,_,_,_,h=>h a w v (Pv.refl _ _ _ _ _) P9 (by simpa[i7]using TG.refl hv)
 | .cons lo hi tag df off ty r,ms,vs,n,v,ks,a,w,Io,Ng,P9,hv,hr,hL,hlim,hk,hn,h=>by
  obtain⟨x,vs',rfl,hx,J4⟩:=hr
  simp only[iJ,Bool.and_eq_true]at Io
  simp only[Fds.len]at hlim
  cases tag with
  | none=>
   have e1:c9 g s te tKs (.cons lo hi none df off ty r) ms=c9 g s te tKs r ms.tail:=by simp only[c9]
   have e2:i7 (.cons lo hi none df off ty r) (x::vs')=i7 r vs':=by simp only[i7,List.nil_append,List.tail_cons]
   rw[e1]at hn h ⊢
   rw[e2]at h
   exact pK K0 T LE Iu hs Jo Tn r ms.tail vs' n v ks a w Io.2 Ng P9 hv J4 hL (by omega) hk hn h
  | some t=>
   simp only[Bool.and_eq_true,decide_eq_true_eq]at Io
   have e1:c9 g s te tKs (.cons lo hi (some t) df off ty r) ms=fF g s ty df (ms.headD (.mk [] [])) (lz tKs te t)::c9 g s te tKs r ms.tail:=by simp only[c9]
   have e2:i7 (.cons lo hi (some t) df off ty r) (x::vs')=(if lw ty df x then[] else[t])++i7 r vs':=by simp only[i7,List.headD_cons,List.tail_cons];rfl
   rw[e1]at hn h ⊢
   rw[e2]at h
   have MJ:Up (lz tKs te t):=am _ _
   have P6:=tQ g s ty df (ms.headD (.mk [] [])) MJ n
   have U2:=iC g s te tKs r ms.tail (fF g s ty df (ms.headD (.mk [] [])) (lz tKs te t) n).2
   have Kf:(gL (c9 g s te tKs r ms.tail) (fF g s ty df (ms.headD (.mk [] [])) (lz tKs te t) n).2).2<=a.tmps.size:=hn
   have next:∀ (a1:Act) (w1:World) (v1:Value),Pv te m k0 n a a1->a1.get te=v1->TG L tU v w v1 (ks++(if lw ty df x then[] else[t])) w1->LW P (c9 g s te tKs r ms.tail++rest) (fF g s ty df (ms.headD (.mk [] [])) (lz tKs te t) n).2 Q a1 w1:=by
    intro a1 w1 v1 HX T3 Ig
    have If:=HX.size
    have IV:ac (fun k=>L<=k) w w1:=Ig.keeps.mono fun k _ hk=>(hv.own hk).1
    refine pK K0 T LE Iu hs Jo Tn r ms.tail vs' _ v1 _ a1 w1 Io.2 ((HX.get s (by omega) (.inl hs)).trans Ng) T3 Ig.at_ (J4.far IV Tn hL) (Nat.le_trans hL Ig.keeps.size) ?_ (by omega) (by omega) fun a' w' v' I3 ht' I0=>h a' w' v' (HX.trans (I3.mono (Nat.le_refl _) P6)) ht' ?_
    ·rw[List.length_append]
     split<;>simp<;>omega
    ·rw[<- List.append_assoc]
     exact Ig.trans I0
   show LW P (fF g s ty df (ms.headD (.mk [] [])) (lz tKs te t)::(c9 g s te tKs r ms.tail++rest)) n Q a w
   refine ad (BO K0 (k0:=k0) Io.1.2 LE Ng hx MJ (by omega) hk (by omega) (fun hd a1 w1 n1 HX hlow1 Ir Oc Ii=>?_) (fun hd a1 w1 HX hlow1 Ir=>?_))
   ·have If:=HX.size
    have hsz':(fF g s ty df (ms.headD (.mk [] [])) (lz tKs te t) n).2=n1+3:=Ii
    have JI:=hv.keep Ir fun _ _ h=>h
    refine EQ T (m:=m) (k0:=k0) (v:=v) (ks:=ks) ((hlow1 te (by omega)).trans P9) JI (Nat.le_trans hL Ir.size) (by omega) Iu (by omega) (by omega) fun a2 w2 v2 HZ T0 KU Ic PR=>next a2 w2 v2 ?_ T0 ?_
    ·exact⟨HZ.size.trans HX.size,HZ.defers.trans HX.defers,fun i hi NG=>(HZ.get i hi (by omega)).trans (hlow1 i (by omega))⟩
    ·rw[hd]
     exact TG.pre Ir ⟨KU,Ic,PR⟩
   ·have If:=HX.size
    refine next a1 w1 v ⟨HX.size,HX.defers,fun i _ NG=>hlow1 i (by omega)⟩ ((hlow1 te (by omega)).trans P9) ?_
    rw[hd]
    simp only[if_true,List.append_nil]
    exact TG.pre Ir (TG.refl (hv.keep Ir fun _ _ h=>h))
end
section
variable {P:Program} {g:GW} {av:PF->Bool} {fl nl:Bool} {te:Nat} {L m k0 n B O:Nat} {d:Value} {bs:Bs} {K E:Act->World->Prop} {Q:Exit->Act->World->Prop} {a:Act} {w:World}
theorem Ad (K0:KW P g av fl nl te)(Ih:fl=true){tKs tU q s TT kt o F sz cnt c:Nat}{agg:Bool}{base:Option Addr}{mm:Value}{t:List (Nat × Bs)}{X:Nat->Prop}(T:E9 P tKs tU)(hq:a.get q=.slice base cnt c)(hs:a.get s=pt B O)(hF:bw P TT kt F o agg sz)(K9:w.cell? ⟨B,O+o,none⟩=some mm)(ht:cF w X mm t)(Mo:t.length<4611686018427387904)(hcnt:cnt<=1000)
  (h1:a.get 1=d) (hd:aA w L te d bs) (hL:L<=w.heap.size) (hlim:bs.length+(uvar (dj (cnt+t.length))).length<=di) (Ry:q<n/\s<n) (Jm:1<k0) (hk:k0<=n) (hn:n+10<=a.tmps.size)
  (h:∀ a' w' d',Pv 1 k0 k0 n a a'->a'.get 1=d'->Gr L te d w d' (bs++uvar (dj (cnt+t.length))) w'->K a' w'):aK P (mN g s TT kt q tKs n).1 (Exit.then K Q) a w:=by
 refine aq (ah (ah ?_))
 rw[aa,h1,aa,al (by omega),hq]
 refine dV (base:=base) (n:=cnt) (c:=c) (by rw[aa,ao (by simp only[ab];omega)]) T.sl (ah ?_)
 rw[aa,al (by omega),al (by omega),al (by omega),hs]
 refine aG (by rw[aa,ao (by simp only[ab];omega)];rfl) ?_
 refine bN (by rw[aa,ao (by simp only[ab];omega)]) hF ?_
 refine aN (vs:=#[pt B (O+o)]) (K0.tlE Ih) ?_ (K0.tlC Ih w B (O+o) mm _ t K9 ht) fun e2 w2 hR=>⟨_,hR.1,?_⟩
 ·simp only[List.map_cons,List.map_nil,aa]
  rw[ao (by simp only[ab];omega)]
  rfl
 have Ic:=hR.2
 refine co (k:=.i64) (m:=cnt) (n:=t.length) (by rw[aa,al (by omega),al (by omega),al (by omega),al (by omega),ao (by simp only[ab];omega)]) (by rw[aa,ao (by simp only[ab];omega)]) (by simp) (jU w2) ?_
 refine aL (k:=.i64) (k':=.u32) (m:=IntKind.i64.wrap ((cnt:Int)+(t.length:Int))) (by rw[aa,ao (by simp only[ab];omega)]) K0.dInt (K0.dU32 Ih) ?_
 have IR:IntKind.u32.wrap (IntKind.i64.wrap ((cnt:Int)+(t.length:Int)))=(dj (cnt+t.length):Nat):=by
  have:IntKind.i64.wrap ((cnt:Int)+(t.length:Int))=((cnt+t.length:Nat):Int):=by simp[IntKind.wrap,IntKind.bits,IntKind.signed];omega
  rw[this]
  simp[IntKind.wrap,IntKind.bits,IntKind.signed,dj]
 rw[IR]
 refine dw (K0.uvE Ih) ?_ (K0.uvC Ih (dj (cnt+t.length)) w2 (lK _) L) (hd.keep Ic fun _ _ h=>h) (Nat.le_trans hL Ic.size) hlim (by simp only[ab];omega) fun w3 d3 I2=>wpList_nil (h _ w3 d3 ?_ (ao (by simp only[ab];omega)) (Gr.pre Ic (fun _ _ h=>h) I2))
 ·simp only[List.map_cons,List.map_nil,aa]
  rw[al (by omega),al (by omega),al (by omega),al (by omega),al (by omega),al (by omega),al (by omega),al (by omega),ao (by omega),ao (by simp only[ab];omega)]
 ·exact((((((((((((Pv.refl _ _ _ _ _).put _ (by omega)).put _ (by omega)).put _ (by omega)).put _ (by omega)).put _ (by omega)).put _ (by omega)).put _ (by omega)).put _ (by omega)).put _ (by omega)).put _ (by omega)).put _ (.inl rfl))
theorem zZ {x key:Nat}{t:Nat}{A:GC}{l:List (Nat × GC)}{kk:Nat}(Jf:a.get key=.int .u32 kk)(_hkn:key<n)(hm:m<=k0)(hk:k0<=n)(hn:n+2<=a.tmps.size)
  (IF:kk=t->∀ a',Pv x m k0 n a a'->(∀ i,i<n->a'.get i=a.get i)->aK P (A (n+2)).1 Q a' w) (Jt:kk≠t->∀ a',Pv x m k0 n a a'->(∀ i,i<n->a'.get i=a.get i)->aK P (cd g key l (A (n+2)).2).1 Q a' w):aK P (cd g key ((t,A)::l) n).1 Q a w:=by
 have Ip:∀ (b:Bool) (K':Act->World->Prop),b=decide ((kk:Int)=(t:Int))->(∀ a',a'.eval (tm n)=.bool b->Pv x m k0 n a a'->(∀ i,i<n->a'.get i=a.get i)->K' a' w) ->
   wpList P [mk (some (n+1)) (.binOp .eql g.tU32 (tm key) (ki .u32 t) 0),mk (some n) (.assign (tm (n+1)))].toArray (Exit.then K' Q) [mk (some (n+1)) (.binOp .eql g.tU32 (tm key) (ki .u32 t) 0),mk (some n) (.assign (tm (n+1)))] a w:=by
  intro b K' hb hK'
  refine bk (b:=b) (p:=kk) (q:=t) (k:=.u32) (by rw[aa,Jf]) rfl (.inr (.inr (.inr (.inr (.inl ⟨rfl,hb⟩))))) (ak (wpList_nil (hK' _ ?_ (((Pv.refl _ _ _ _ _).put _ (by omega)).put _ (by omega)) fun i hi=>?_)))
  ·rw[aa,aa,ao (by simp only[ab];omega),ao (by omega)]
  ·rw[al (by omega),al (by omega)]
 by_cases M9:kk=t
 ·exact .seq (.reg (Ip true (fun a' w'=>a'.eval (tm n)=.bool true/\aK P (A (n+2)).1 Q a' w') (by simp[M9]) fun a' he hp hl=>⟨he,IF M9 a' hp hl⟩)) (fun a' w' h=>.condT h.1 h.2) (fun e a w he hq=>by rw[cq he]at hq;exact hq)
 ·exact .seq (.reg (Ip false (fun a' w'=>a'.eval (tm n)=.bool false/\aK P (cd g key l (A (n+2)).2).1 Q a' w') (by simp;omega) fun a' he hp hl=>⟨he,Jt M9 a' hp hl⟩)) (fun a' w' h=>.condF h.1 h.2) (fun e a w he hq=>by rw[cq he]at hq;exact hq)
end
section
variable {P:Program} {g:GW} {av:PF->Bool} {fl nl:Bool} {te:Nat} {L m k0 n:Nat} {d:Value} {bs:Bs} {K E:Act->World->Prop} {Q:Exit->Act->World->Prop} {a:Act} {w:World}
theorem xy (_hInt:P.underlying g.tInt=some (.int .i64)){q tKs tv b1 b2 b3:Nat}{cs:List (Nat × GC)}{v:Value}{ks:List Nat}{es:List Bs}(T:E9 P tKs g.tU32)(hq:a.get q=v)(hv:jg w L g.tU32 v ks)(Tv:∀ j,v.ownBlock=some j->d.ownBlock≠some j)(h1:a.get 1=d)(hd:aA w L te d bs)(Ib:ks.length<=1000)(KP:es.length=ks.length)
  (Xb:q<n) (WW:m<=tv/\tv<k0) (h1t:1<tv) (hk:k0<=n) (hn:(gN g q tKs tv b1 b2 b3 cs n).2<=a.tmps.size) (JE:n+7<=(cd g (n+6) cs (n+7)).2)
  (SL:∀ (j k:Nat) (e:Bs) (a1:Act) (w1:World) (d1:Value),ks[j]?=some k->es[j]?=some e->Pv 1 tv k0 n a a1->a1.get (n+6)=.int .u32 (k:Int)->a1.get 1=d1->Gr L te d w d1 (bs++(es.take j).flatten) w1 ->
   aK P (cd g (n+6) cs (n+7)).1 (Rt (fun a2 w2=>∃ d2,Pv 1 (tv+1) k0 (n+6) a1 a2/\a2.get 1=d2/\Gr L te d1 w1 d2 ((bs++(es.take j).flatten)++e) w2) E) a1 w1)
  (h:∀ a' w' d',Pv 1 tv k0 n a a'->a'.get 1=d'->Gr L te d w d' (bs++es.flatten) w'->K a' w'):aK P (gN g q tKs tv b1 b2 b3 cs n).1 (Rt K E) a w:=by
 have hn':(cd g (n+6) cs (n+7)).2+1<=a.tmps.size:=hn
 obtain⟨base,c,JB⟩:=hv.form
 unfold gN
 generalize hz:(cd g (n+6) cs (n+7)).2=z at hn' JE
 refine .seq (R:=Rt (fun a' w'=>Pv 1 tv k0 n a a'/\a'.get n=v/\a'.get (n+1)=.int .i64 (ks.length:Int)/\a'.get (n+2)=.int .i64 ((0:Nat):Int)/\a'.get 1=d/\w'=w) E) (.reg (ah ?_)) (fun a' w' hh=>?_) (fun e a w he hq=>by cases e<;>first|exact absurd rfl he|exact hq)
 ·rw[aa,hq]
  refine dV (base:=base) (n:=ks.length) (c:=c) (by rw[aa,ao (by omega),JB]) T.sl (ah (wpList_nil ⟨?_,?_,?_,?_,?_,rfl⟩))
  ·exact(((Pv.refl _ _ _ _ _).put _ (by omega)).put _ (by omega)).put _ (by omega)
  ·rw[al (by omega),al (by omega),ao (by omega)]
  ·rw[al (by omega),ao (by simp only[ab];omega)]
  ·rw[ao (by simp only[ab];omega)];rfl
  ·rw[al (by omega),al (by omega),al (by omega)];exact h1
 ·obtain⟨hp,Mb,MA,Qh,Ig,rfl⟩:=hh
  refine .block (.loop (fun a1 w1=>∃ j:Nat,j<=ks.length/\Pv 1 tv k0 n a a1/\a1.get n=v/\a1.get (n+1)=.int .i64 (ks.length:Int)/\a1.get (n+2)=.int .i64 (j:Int)/\∃ d1,a1.get 1=d1/\Gr L te d w' d1 (bs++(es.take j).flatten) w1) (fun a1 _=>((ks.length:Int)-(match a1.get (n+2)with|.int _ q=>q|_=>0)).toNat) ⟨0,by omega,hp,Mb,MA,Qh,d,Ig,by simpa using Gr.refl hd⟩ ?_)
  rintro a1 w1 ⟨j,hj,HX,So,NJ,L7,d1,KM,hG⟩
  have If:=HX.size
  have Ip:∀ (b:Bool),b=decide ((j:Int)<(ks.length:Int))->wpList P [mk (some (n+3)) (.binOp .lss g.tInt (tm (n+2)) (tm (n+1)) 0)].toArray
    (Rt (fun a' w'=>a'.eval (tm (n+3))=.bool b/\a'=a1.put (some (n+3)) (.bool b)/\w'=w1) E) [mk (some (n+3)) (.binOp .lss g.tInt (tm (n+2)) (tm (n+1)) 0)] a1 w1:=by
   intro b hb
   refine bk (b:=b) (p:=j) (q:=ks.length) (k:=.i64) L7 NJ (.inr (.inr (.inl ⟨rfl,hb⟩))) (wpList_nil ?_)
   exact⟨by rw[aa,ao (by omega)],rfl,rfl⟩
  by_cases Id:j<ks.length
  ·obtain⟨k,PZ⟩:∃ k,ks[j]?=some k:=⟨ks[j],List.getElem?_eq_getElem Id⟩
   obtain⟨e0,Qp⟩:∃ e,es[j]?=some e:=⟨es[j]'(by omega),List.getElem?_eq_getElem (by omega)⟩
   refine .seq (R:=Rt (fun a' w'=>a'.eval (tm (n+3))=.bool true/\a'=a1.put (some (n+3)) (.bool true)/\w'=w1) E) (.reg (Ip true (by simp[Id]))) (fun a2 w2 hh=>?_) (fun e a w he hq=>by cases e<;>first|exact absurd rfl he|exact hq|exact hq.elim)
   obtain⟨Kr,rfl,rfl⟩:=hh
   refine .seq (R:=Rt (fun a' w'=>a'=a1.put (some (n+3)) (.bool true)/\w'=w2) E) (.condT Kr (.skip ⟨rfl,rfl⟩)) (fun a2 w3 hh=>?_) (fun e a w he hq=>by cases e<;>first|exact absurd rfl he|exact hq|exact hq.elim)
   obtain⟨rfl,rfl⟩:=hh
   have JI:jg w3 L g.tU32 v ks:=hv.keep hG.keeps fun j hj hX=>Tv j hj hX
   have Ia:∃ G c',v=.slice (some ⟨G,0,none⟩) ks.length c'/\w3.cell? ⟨G,0+j*1,none⟩=some (lS k):=by
    rcases JI with⟨_,rfl⟩|⟨G,c',cur,e1,_,e2,_,_,_,e3⟩
    ·simp at Id
    ·refine⟨G,c',e1,?_⟩
     have:=e3 j k PZ
     simp[World.cell?,e2,this]
   obtain⟨G,c',hvG,Ia⟩:=Ia
   refine .seq (R:=Rt (fun a3 w4=>Pv 1 tv k0 n a a3/\a3.get n=v/\a3.get (n+1)=.int .i64 (ks.length:Int)/\a3.get (n+2)=.int .i64 (j:Int)/\∃ d3,a3.get 1=d3/\Gr L te d w' d3 (bs++(es.take (j+1)).flatten) w4) E) (.block ?_)
    (fun a3 w4 hh=>?_) (fun e a w he hq=>by cases e<;>first|exact absurd rfl he|exact hq|exact hq.elim)
   ·refine .seq (R:=Rt (fun a3 w4=>Pv 1 tv k0 n a a3/\a3.get n=v/\a3.get (n+1)=.int .i64 (ks.length:Int)/\a3.get (n+2)=.int .i64 (j:Int)/\a3.get tv=lS k/\a3.get 1=d1/\w4=w3) E) (.reg ?_) (fun a3 w4 hh=>?_) (fun e a w he hq=>by cases e<;>first|exact absurd rfl he|exact hq|exact hq.elim)
    ·refine bS (b:=G) (o:=0) (n:=ks.length) (c:=c') (i:=j) (k:=.i64) (sz:=1) (by rw[aa,al (by omega),So,hvG]) (by rw[aa,al (by omega),L7]) Id T.sl (T.vU.size _) ?_
     refine bg (p:=⟨G,0+j*1,none⟩) (v:=lS k) (by rw[aa,ao (by simp only[ab];omega)]) (T.vU.agg _) Ia (ak (wpList_nil ⟨?_,?_,?_,?_,?_,?_,rfl⟩))
     ·exact(((HX.put _ (by omega)).put _ (by omega)).put _ (by omega)).put _ (by omega)
     ·rw[al (by omega),al (by omega),al (by omega),al (by omega)];exact So
     ·rw[al (by omega),al (by omega),al (by omega),al (by omega)];exact NJ
     ·rw[al (by omega),al (by omega),al (by omega),al (by omega)];exact L7
     ·rw[ao (by simp only[ab];omega),aa,ao (by simp only[ab];omega)]
     ·rw[al (by omega),al (by omega),al (by omega),al (by omega)];exact KM
    ·obtain⟨Ie,Qg,Ms,Mt,V4,JH,rfl⟩:=hh
     have IJ:=Ie.size
     refine .seq (R:=Rt (fun a4 w5=>Pv 1 tv k0 n a a4/\a4.get n=v/\a4.get (n+1)=.int .i64 (ks.length:Int)/\a4.get (n+2)=.int .i64 (j:Int)/\a4.get (n+6)=.int .u32 (k:Int)/\a4.get 1=d1/\w5=w4) E) (.reg (ah (wpList_nil ?_))) (fun a4 w5 hh=>?_) (fun e a w he hq=>by cases e<;>first|exact absurd rfl he|exact hq|exact hq.elim)
     ·rw[aa,V4]
      refine⟨Ie.put _ (by omega),?_,?_,?_,?_,?_,rfl⟩
      ·rw[al (by omega)];exact Qg
      ·rw[al (by omega)];exact Ms
      ·rw[al (by omega)];exact Mt
      ·exact ao (by omega)
      ·rw[al (by omega)];exact JH
     ·obtain⟨Ix,V3,V5,V6,It,LF,rfl⟩:=hh
      refine .block (.mono (SL j k e0 a4 w5 d1 PZ Qp Ix It LF hG) fun e a5 w6 hq=>?_)
      cases e<;>first|exact hq.elim|skip
      ·obtain⟨d2,Js,OT,Kg⟩:=hq
       refine⟨Ix.trans (Js.mono (by omega) (by omega)),by rw[Js.get _ (by omega) (.inr (by omega))];exact V3,by rw[Js.get _ (by omega) (.inr (by omega))];exact V5,by rw[Js.get _ (by omega) (.inr (by omega))];exact V6,d2,OT,?_⟩
       have e1:(es.take (j+1)).flatten=(es.take j).flatten++e0:=by
        rw[List.take_add_one,Qp]
        simp
       rw[e1,<- List.append_assoc]
       exact hG.trans Kg
      ·exact hq
   ·obtain⟨Ie,Qg,Ms,Mt,d3,JH,Ns⟩:=hh
    have IJ:=Ie.size
    have IR:IntKind.i64.wrap ((j:Int)+1)=((j+1:Nat):Int):=by simp[IntKind.wrap,IntKind.bits,IntKind.signed];omega
    refine .reg (co (v:=.int .i64 ((j+1:Nat):Int)) (k:=.i64) (m:=j) (n:=1) Mt rfl (by simp) (by simp[binOp,Op.intArith,IR]) (ah (wpList_nil ?_)))
    rw[aa,ao (by omega)]
    have Ko:((a3.put (some z) (.int .i64 ((j+1:Nat):Int))).put (some (n+2)) (.int .i64 ((j+1:Nat):Int))).get (n+2)=.int .i64 ((j+1:Nat):Int):=ao (by simp only[ab];omega)
    refine⟨⟨j+1,by omega,(Ie.put _ (by omega)).put _ (by omega),?_,?_,Ko,d3,?_,Ns⟩,?_⟩
    ·rw[al (by omega),al (by omega)];exact Qg
    ·rw[al (by omega),al (by omega)];exact Ms
    ·rw[al (by omega),al (by omega)];exact JH
    ·rw[Ko,L7]
     simp only
     omega
  ·have Sf:j=ks.length:=by omega
   subst Sf
   refine .seq (R:=Rt (fun a' w'=>a'.eval (tm (n+3))=.bool false/\a'=a1.put (some (n+3)) (.bool false)/\w'=w1) E) (.reg (Ip false (by simp))) (fun a2 w2 hh=>?_) (fun e a w he hq=>by cases e<;>first|exact absurd rfl he|exact hq|exact hq.elim)
   obtain⟨Kr,rfl,rfl⟩:=hh
   refine .seq (R:=fun e a w=>e≠.normal/\Exit.inBlock b1 (Rt K E) e a w) (.condF Kr (.exit ?_)) (fun a2 w2 hh=>absurd rfl hh.1) (fun e a w he hq=>?_)
   ·simp only[Exit.inBlock,if_true]
    rw[<- KP,List.take_length]at hG
    exact⟨by simp,h _ _ d1 (HX.put _ (by omega)) (by rw[al (by omega)];exact KM) hG⟩
   ·rw[cq he];exact hq.2
end
def nM (e:wy)(hf:Bool)(T kt:Nat)(toff:Option Nat):Bool:=match toff with|some o=>hf&&eA e.P T kt (qn e.P T kt) o true 1|none=>!hf
def pW (e:wy)(hf:Bool)(m k0 F:Nat):Fds->List Nm->Bool
 | .nil,_=>true
 | .cons _ _ _ _ off ty r,ms=>eA e.P F ((ms.headD (.mk [] [])).n 1) ((ms.headD (.mk [] [])).n 2) off false 1&&du e hf m k0 ty ((ms.headD (.mk [] [])).n 0) []&&pW e hf m k0 F r ms.tail
def HD (P:Program)(tKs tU:Nat):Bool:=(match P.underlying tKs with|some (.slice E)=>E==tU|_=>false)&&(match P.info? tU with|some i=>(match i.zero with|some z=>i.size==1&&i.bytes==4&&z.cells.size==1|none=>false)|none=>false)&&jw P tU false 1&&(match P.underlying tU with|some (.int .u32)=>true|_=>false)
theorem BB {P:Program}{tKs tU:Nat}(h:HD P tKs tU=true):E9 P tKs tU:=by
 simp only[HD,Bool.and_eq_true]at h
 obtain⟨⟨⟨h1,h2⟩,h3⟩,h4⟩:=h
 refine⟨?_,?_,varB_ok h3,?_⟩
 ·split at h1
  ·rename_i E hE
   simp only[beq_iff_eq]at h1
   rw[hE,h1]
  ·cases h1
 ·split at h2
  ·rename_i i hi
   split at h2
   ·rename_i z hz
    simp only[Bool.and_eq_true,beq_iff_eq]at h2
    exact⟨i,z,hi,hz,h2.1.1,h2.1.2,h2.2⟩
   ·cases h2
  ·cases h2
 ·split at h4
  ·assumption
  ·cases h4
def ja (e:wy)(hf:Bool)(m k0 T kt:Nat)(toff:Option Nat)(fs:Fds)(nm:Nm)(okb:Bool):Bool:=nM e hf T kt toff &&
 (!fs.tagged || (decide (m<=nm.n 0/\nm.n 0<nm.n 2/\nm.n 2<k0/\fs.len<=1000)&&HD e.P (nm.n 1) e.g.tU32&&iJ e.P e.av e.g T fs nm.s&&decide fs.tagsOf.Nodup&&okb))
mutual
def ln (e:wy)(hf:Bool)(m k0 T off:Nat):Ty->Nm->Bool
 | .prim p,nm=>du e hf m k0 (.prim p) (nm.n 0) (nm.l.drop 4)&&nm.n 1==T&&eA e.P T (nm.n 2) (nm.n 3) off (Ty.agg (.prim p)) (Ty.sz (.prim p))&&(p != .uuid || nm.n 3==e.g.tUuid)
 | .str nul,nm=>du e hf m k0 (.str nul) (nm.n 0) (nm.l.drop 4)&&nm.n 1==T&&eA e.P T (nm.n 2) (nm.n 3) off false 1
 | .bytes nul,nm=>du e hf m k0 (.bytes nul) (nm.n 0) []&&nm.n 1==T&&eA e.P T (nm.n 2) (nm.n 3) off false 1
 | .list nul esz el,nm=>
  decide (m<=nm.n 0/\nm.n 0<nm.n 4/\nm.n 4<k0)&&nm.n 1==T&&eA e.P T (nm.n 2) (nm.n 3) off false 1&&(!nul.isSome || e.nl) &&
  (match nE e.P (nm.n 3) with
   | some (E,sz,_)=>sz==esz&&okElW e hf (nm.n 4+1) k0 E esz el (nm.sub 0)&&(nul==some 0 || jW e.g hf)
   | none=>false)
 | .struct none toff fs,nm=>
  decide (m<=nm.n 0/\nm.n 0<k0)&&nm.n 1==T&&eA e.P T (nm.n 2) (qn e.P T (nm.n 2)) off true (nw e.P (qn e.P T (nm.n 2)))&&ja e hf (nm.n 0+1) k0 (nm.n 3) (nm.n 4) toff fs (nm.sub 0) (okTagdW e hf ((nm.sub 0).n 2+1) k0 (nm.n 3) fs (nm.sub 0).s)&&okFdsW e hf (nm.n 0+1) k0 (nm.n 3) fs (nm.sub 0).s
 | .struct (some _) toff fs,nm=>
  decide (m<=nm.n 0/\nm.n 0<k0)&&nm.n 1==T&&eA e.P T (nm.n 2) (nm.n 3) off false 1&&vy e.P (nm.n 3)&&ja e hf (nm.n 0+1) k0 (nm.n 4) (nm.n 5) toff fs (nm.sub 0) (okTagdW e hf ((nm.sub 0).n 2+1) k0 (nm.n 4) fs (nm.sub 0).s)&&okFdsW e hf (nm.n 0+1) k0 (nm.n 4) fs (nm.sub 0).s
def okElW (e:wy)(hf:Bool)(m k0 E esz:Nat):Ty->Nm->Bool
 | .struct none toff fs,nm=>decide (m<=nm.n 0/\nm.n 0<k0)&&ja e hf (nm.n 0+1) k0 (nm.n 1) (nm.n 2) toff fs (nm.sub 0) (okTagdW e hf ((nm.sub 0).n 2+1) k0 (nm.n 1) fs (nm.sub 0).s)&&okFdsW e hf (nm.n 0+1) k0 (nm.n 1) fs (nm.sub 0).s
 | .struct (some _) _ _,_=>false
 | .list _ _ _,_=>false
 | .prim p,nm=>du e hf m k0 (.prim p) (nm.n 0) (nm.l.drop 2)&&nm.n 1==E&&jw e.P E (Ty.agg (.prim p)) (Ty.sz (.prim p))&&Ty.sz (.prim p)==esz&&(p != .uuid || E==e.g.tUuid)
 | .str nul,nm=>du e hf m k0 (.str nul) (nm.n 0) (nm.l.drop 2)&&nm.n 1==E&&jw e.P E false 1&&1==esz
 | .bytes nul,nm=>du e hf m k0 (.bytes nul) (nm.n 0) (nm.l.drop 2)&&nm.n 1==E&&jw e.P E false 1&&1==esz
def okFdsW (e:wy)(hf:Bool)(m k0 T:Nat):Fds->List Nm->Bool
 | .nil,_=>true
 | .cons _ _ tag _ off ty r,ms=>(tag.isSome || ln e hf m k0 T off ty (ms.headD (.mk [] [])))&&okFdsW e hf m k0 T r ms.tail
def okTagdW (e:wy)(hf:Bool)(m k0 T:Nat):Fds->List Nm->Bool
 | .nil,_=>true
 | .cons _ _ tag _ off ty r,ms=>(tag.isNone || okBodyW e hf m k0 T off ty (ms.headD (.mk [] [])))&&okTagdW e hf m k0 T r ms.tail
def okBodyW (e:wy)(hf:Bool)(m k0 T off:Nat):Ty->Nm->Bool
 | .prim p,nm=>if p=.uuid then e.av .uuid&&du e hf m k0 (.prim .uuid) (nm.n 0) []&&nm.n 1==T&&nm.n 3==e.g.tUuid&&eA e.P T (nm.n 2) (nm.n 3) off true 16 else Al p&&du e hf m k0 (.prim p) (nm.n 0) []&&nm.n 1==T&&eA e.P T (nm.n 2) (nm.n 3) off false 1
 | .str nul,nm=>decide (m<=nm.n 0/\nm.n 0<nm.n 4/\nm.n 0<nm.n 5/\nm.n 4≠nm.n 5/\nm.n 4<k0/\nm.n 5<k0)&&q7 e hf (max (nm.n 4) (nm.n 5)+1) k0 (.str nul) (nm.n 0) []&&nm.n 1==T&&eA e.P T (nm.n 2) (nm.n 3) off false 1
 | .list nul esz el,nm=>
  decide (m<=nm.n 0/\nm.n 0<nm.n 4/\nm.n 0<nm.n 5/\nm.n 4≠nm.n 5/\nm.n 4<nm.n 12/\nm.n 5<nm.n 12/\nm.n 12<k0)&&nm.n 1==T&&eA e.P T (nm.n 2) (nm.n 3) off false 1&&(!nul.isSome || e.nl) &&
  (match nE e.P (nm.n 3) with
   | some (E,sz,_)=>sz==esz&&okElW e hf (nm.n 12+1) k0 E esz el (nm.sub 0)&&(nul==some 0 || jW e.g hf)
   | none=>false)
 | .struct none (some o) fs,nm=>decide (m<=nm.n 0/\nm.n 0<nm.n 4/\nm.n 0<nm.n 5/\nm.n 4≠nm.n 5/\nm.n 4<k0/\nm.n 5<k0)&&HA e.g nm o fs&&nm.n 1==T&&eA e.P T (nm.n 2) (nm.n 3) off true (nw e.P (nm.n 3))&&pW e hf (max (nm.n 4) (nm.n 5)+1) k0 (nm.n 3) fs (nm.sub 0).s&&nM e hf (nm.n 3) (nm.n 11) (some o)
 | _,_=>false
end
def toG (g:GW):G:=⟨fun _=>0,fun _=>0,0,0,0,0,0,0,0,0,0,0,g.tVer,0,0,0,0,0,0,0,0,0,0⟩
theorem ta (g:GW)(cx:Cx)(lo:Nat)(hi:Option Nat)(A:GC):il g cx lo hi A=dA (toG g) cx lo hi A:=by cases hi<;>rfl
theorem kp {cx:Cx}{A B:GC}(hA:Up A)(hB:Up B):Up (de cx A B):=fg (bX hA hB) hB
theorem cj (g:GW)(cx:Cx)(ty:Ty)(v:Nat)(x:List Nat):i6 (bo g cx ty v x):=by
 unfold bo
 split
 ·exact ag (am _ _) ar
 ·split
  ·exact ag (am _ _) (ag (am _ _) ar)
  ·exact ag (am _ _) ar
 all_goals first|exact ag (kp (am _ _) (am _ _)) ar|exact ag (bX (ei (ag (am _ _) (ag (bX (am _ _) (bq _)) (ag (am _ _) (ag (kp (am _ _) (am _ _)) ar))))) (kp (am _ _) (am _ _))) ar|exact ar
theorem uY (g:GW)(cx:Cx)(T kt:Nat):i6 (gb g cx T kt):=
 cQ (ag (bX (ei (ag (am _ _) (ag (am _ _) ar))) (bq _)) ar) ar
theorem kR (g:GW)(cx:Cx)(nul:Option Nat)(v F:Nat):Up (fk g cx nul v F):=
 match nul with
 | none=>kp (am _ _) (am _ _)
 | some 0=>kp (am _ _) (am _ _)
 | some (_+1)=>bX (kp (am _ _) (am _ _)) (kp (am _ _) (am _ _))
theorem kS (g:GW)(v i b1 b2 F:Nat){body:List GC}(h:i6 body):Up (fU g v i b1 b2 F body):=fun n=>by
 have:=h (n+5)
 show n<=(gL body (n+5)).2+1
 omega
theorem oI {g:GW}{cx:Cx}{lo:Nat}{hi:Option Nat}{A:GC}(h:Up A):Up (il g cx lo hi A):=by
 cases hi with
 | none=>exact fg h (bX h (bq _))
 | some q=>exact bX h (bq _)
theorem tN (ty:Ty)(s v T k F:Nat):Up (gP ty s v T k F):=fg (am _ _) (am _ _)
theorem mH (ty:Ty)(v i e F E:Nat):Up (jH ty v i e F E):=fg (am _ _) (am _ _)
theorem jR (g:GW)(key:Nat):∀ (cs:List (Nat × GC)),(∀ p∈cs,Up p.2)->∀ n,n<=(cd g key cs n).2
 | [],_,n=>Nat.le_refl n
 | (t,x)::r,h,n=>by
  have h1:=h (t,x) (by simp) (n+2)
  have h2:=jR g key r (fun p hp=>h p (by simp[hp])) (x (n+2)).2
  show n<=(cd g key r (x (n+2)).2).2
  simp only at h1
  omega
theorem kT {l:List GC}(h:i6 l):Up (jJ l):=h
theorem jx (g:GW)(cx:Cx)(fs:Fds)(T kt:Nat)(m:Nm){cs:List (Nat × GC)}(h:∀ p∈cs,Up p.2):i6 (gx g cx fs T kt m cs):=by
 unfold gx
 refine cQ (cQ (ag (bX (ei (ax (ax (ag (am _ _) ar) (iC g _ _ _ fs m.s)) (ag (am _ _) (ag (fun n=>?_) (ag (am _ _) ar))))) (bq _)) ar) ar) (uY _ _ _ _)
 have:=jR g (n+6) cs h (n+7)
 show n<=(cd g (n+6) cs (n+7)).2+1
 omega
theorem kV (g:GW)(cx:Cx)(b F:Nat):∀ (fs:Fds) (ms:List Nm),i6 (eb g cx b F fs ms)
 | .nil,_=>ar
 | .cons _ _ _ _ _ ty r,ms=>ag (ei (ag (am _ _) (cj g cx ty _ _))) (kV g cx b F r ms.tail)
theorem mJ (g:GW)(z lenAt l tB:Nat):Up (cJ g z lenAt l tB):=bX (ei (ag (fun n=>Nat.le_add_right n 9) (ag (am _ _) (ag (bq _) ar)))) (bq _)
theorem pw (g:GW)(z lenAt l:Nat):i6 (rr g z lenAt l):=ag (am _ _) (ag (am _ _) (ag (bq _) ar))
mutual
theorem tV (g:GW):∀ (ty:Ty) (cx:Cx) (nm:Nm),i6 (lT g cx ty nm)
 | .prim _,_cx,_nm=>ag (tN _ _ _ _ _ _) (cj _ _ _ _ _)
 | .str _,_cx,_nm=>ag (am _ _) (cj _ _ _ _ _)
 | .bytes _,_cx,_nm=>ag (am _ _) (cj _ _ _ _ _)
 | .list _nul _ e,cx,_nm=>ag (am _ _) (ag (kR _ _ _ _ _) (ag (kS _ _ _ _ _ _ (upL_wel g e cx _ _ _ _)) ar))
 | .struct none _ fs,_cx,_nm=>ag (am _ _) (ax (upL_wfds g fs _ _) (jx _ _ _ _ _ _ (up_wtagd g fs _ _)))
 | .struct (some _) _ fs,_cx,_nm=>ag (am _ _) (ag (bX (am _ _) (ei (ag (am _ _) (ax (upL_wfds g fs _ _) (jx _ _ _ _ _ _ (up_wtagd g fs _ _)))))) ar)
theorem upL_wel (g:GW):∀ (ty:Ty) (cx:Cx) (v i F:Nat) (nm:Nm),i6 (gwEl g cx ty v i F nm)
 | .prim _,_cx,_v,_i,_F,_nm=>ag (mH _ _ _ _ _ _) (cj _ _ _ _ _)
 | .str _,_cx,_v,_i,_F,_nm=>ag (mH _ _ _ _ _ _) (cj _ _ _ _ _)
 | .bytes _,_cx,_v,_i,_F,_nm=>ag (mH _ _ _ _ _ _) (cj _ _ _ _ _)
 | .list _ _ _,_cx,_v,_i,_F,_nm=>ag (mH _ _ _ _ _ _) (cj _ _ _ _ _)
 | .struct _ _ fs,_cx,_v,_i,_F,_nm=>ag (am _ _) (ax (upL_wfds g fs _ _) (jx _ _ _ _ _ _ (up_wtagd g fs _ _)))
theorem upL_wfds (g:GW):∀ (fs:Fds) (cx:Cx) (ms:List Nm),i6 (gwFds g cx fs ms)
 | .nil,_,_=>ar
 | .cons _lo _hi _tag _ _ ty r,cx,_ms=>cQ (ag (oI (ei (tV g ty cx _))) (upL_wfds g r cx _)) (upL_wfds g r cx _)
theorem up_wtagd (g:GW):∀ (fs:Fds) (cx:Cx) (ms:List Nm),∀ p∈gwTagd g cx fs ms,Up p.2
 | .nil,_,_,p,hp=>by simp[gwTagd]at hp
 | .cons _ _ (some t) _ _ ty r,cx,ms,p,hp=>by
  simp only[gwTagd,List.mem_cons]at hp
  rcases hp with rfl|hp
  ·exact up_wbody g ty cx t _
  ·exact up_wtagd g r cx ms.tail p hp
 | .cons _ _ none _ _ ty r,cx,ms,p,hp=>by
  simp only[gwTagd]at hp
  exact up_wtagd g r cx ms.tail p hp
theorem up_wbody (g:GW):∀ (ty:Ty) (cx:Cx) (t:Nat) (nm:Nm),Up (gwBody g cx t ty nm)
 | .prim _,_cx,_t,_nm=>ei (ax (ag (tN _ _ _ _ _ _) (ag (am _ _) (ag (am _ _) ar))) (cj _ _ _ _ _))
 | .str _,_cx,_t,_nm=>kT (ax (ax (ax (ag (am _ _) (ag (am _ _) ar)) (pw _ _ _ _)) (cj _ _ _ _ _)) (ag (mJ _ _ _ _ _) ar))
 | .bytes _,_cx,_t,_nm=>kT (ax (ax (ax (ag (am _ _) (ag (am _ _) ar)) (pw _ _ _ _)) (cj _ _ _ _ _)) (ag (mJ _ _ _ _ _) ar))
 | .list _ _ e,cx,_t,_nm=>kT (ax (ax (ax (ag (am _ _) (ag (am _ _) ar)) (pw _ _ _ _)) (ag (kR _ _ _ _ _) (ag (kS _ _ _ _ _ _ (upL_wel g e cx _ _ _ _)) ar))) (ag (mJ _ _ _ _ _) ar))
 | .struct _ _ fs,cx,_t,_nm=>kT (ax (ax (ax (ag (am _ _) (ag (am _ _) ar)) (pw _ _ _ _)) (ax (kV g cx _ _ fs _) (ag (bX (ei (ag (am _ _) (ag (am _ _) ar))) (bq _)) ar))) (ag (mJ _ _ _ _ _) ar))
end
theorem dJ.far {L:Nat}{w w':World}(hk:ac (fun k=>L<=k) w w'){toff:Option Nat}{b o:Nat}{t:List (Nat × Bs)}(h:dJ w (fun k=>L<=k) b o toff t)(hb:b<L)(hL:L<=w.heap.size):dJ w' (fun k=>L<=k) b o toff t:=
 h.frame hk fun k _=>bF (hk.block b (by omega) (by omega)) _
theorem ac.none {X:Nat->Prop}{w w':World}(h:ac (fun _=>False) w w'):ac X w w':=h.mono fun _ _ h=>h.elim
theorem dL (g:GW)(cx:Cx)(fs:Fds)(T kt:Nat)(m:Nm):i6 (bd g cx fs T kt m):=jx g cx fs T kt m (up_wtagd g fs cx m.s)
section
variable (P:Program) (g:GW) (av:PF->Bool) (fl nl:Bool) (te:Nat)
def wo (ty:Ty):Prop:=
 ∀ (nm:Nm) (cx:Cx) (fx:Bool) (ver:Int) (B O L m k0 n T off:Nat) (v:V) (d:Value) (bs:Bs) (K E:Act->World->Prop) (a:Act) (w:World),
  ln ⟨P,g,av,nl⟩ cx.hf m k0 T off ty nm=true->WC cx fx ver te L B O d bs a w->mc cx m k0->(cx.hf=true->fl=true)->k0<=n->k0<=a.tmps.size->(gL (lT g cx ty nm) n).2<=a.tmps.size ->
  Rp w (fun k=>L<=k) ty B (O+off) v->bs.length+(bL fx ver ty v).length<=di ->
  (∀ a' w' d',Pv 1 m k0 n a a'->a'.get 1=d'->Gr L te d w d' (bs++bL fx ver ty v) w'->K a' w')->LW P (lT g cx ty nm) n (Rt K E) a w
def wq (ty:Ty):Prop:=
 ∀ (nm:Nm) (cx:Cx) (fx:Bool) (ver:Int) (B O L m k0 n esz vs i F E' p q cnt c j:Nat) (v:V) (d:Value) (bs:Bs) (K E:Act->World->Prop) (a:Act) (w:World),
  okElW ⟨P,g,av,nl⟩ cx.hf m k0 E' esz ty nm=true->WC cx fx ver te L B O d bs a w->mc cx m k0->(cx.hf=true->fl=true)->k0<=n->k0<=a.tmps.size->(gL (gwEl g cx ty vs i F nm) n).2<=a.tmps.size ->
  a.get vs=.slice (some ⟨p,q,none⟩) cnt c->a.get i=.int .i64 j->j<cnt->vs<m->i<m->P.underlying F=some (.slice E')->(∀ w,(sizeOf E').run P w=.ok esz w)->p<L ->
  Rp w (fun k=>L<=k) ty p (q+j*esz) v->bs.length+(bL fx ver ty v).length<=di ->
  (∀ a' w' d',Pv 1 m k0 n a a'->a'.get 1=d'->Gr L te d w d' (bs++bL fx ver ty v) w'->K a' w')->LW P (gwEl g cx ty vs i F nm) n (Rt K E) a w
def m6 (fs:Fds):Prop:=
 ∀ (ms:List Nm) (cx:Cx) (fx:Bool) (ver:Int) (B O L m k0 n T:Nat) (vs:List V) (d:Value) (bs:Bs) (K E:Act->World->Prop) (a:Act) (w:World),
  okFdsW ⟨P,g,av,nl⟩ cx.hf m k0 T fs ms=true->WC cx fx ver te L B O d bs a w->mc cx m k0->(cx.hf=true->fl=true)->k0<=n->k0<=a.tmps.size->(gL (gwFds g cx fs ms) n).2<=a.tmps.size ->
  RpF w (fun k=>L<=k) fs B O vs->bs.length+(wrFds fx ver fs vs).length<=di ->
  (∀ a' w' d',Pv 1 m k0 n a a'->a'.get 1=d'->Gr L te d w d' (bs++wrFds fx ver fs vs) w'->K a' w')->LW P (gwFds g cx fs ms) n (Rt K E) a w
def k8 (ty:Ty):Prop:=
 ∀ (nm:Nm) (cx:Cx) (ver:Int) (B O L m k0 n T off t:Nat) (v:V) (d:Value) (bs:Bs) (K E:Act->World->Prop) (a:Act) (w:World),
  okBodyW ⟨P,g,av,nl⟩ cx.hf m k0 T off ty nm=true->cx.hf=true->t<4294967296->WC cx true ver te L B O d bs a w->mc cx m k0->fl=true->k0<=n->k0<=a.tmps.size->(gwBody g cx t ty nm n).2<=a.tmps.size ->
  Rp w (fun k=>L<=k) ty B (O+off) v->bs.length+(dm (t,bL true ver ty v)).length<=di ->
  (∀ a' w' d',Pv 1 m k0 n a a'->a'.get 1=d'->Gr L te d w d' (bs++dm (t,bL true ver ty v)) w'->K a' w')->aK P (gwBody g cx t ty nm n).1 (Rt K E) a w
def qv:Fds->Prop
 | .nil=>True
 | .cons _ _ _ _ _ ty r=>k8 P g av fl nl te ty/\qv r
def ma (fs:Fds):Prop:=
 ∀ (nm:Nm) (cx:Cx) (fx:Bool) (ver:Int) (B O L m k0 n T kt:Nat) (toff:Option Nat) (vs:List V) (t:List (Nat × Bs)) (d:Value) (bs:Bs) (K E:Act->World->Prop) (a:Act) (w:World),
  ja ⟨P,g,av,nl⟩ cx.hf m k0 T kt toff fs nm (okTagdW ⟨P,g,av,nl⟩ cx.hf (nm.n 2+1) k0 T fs nm.s)=true->WC cx fx ver te L B O d bs a w->mc cx m k0->(cx.hf=true->fl=true)->k0<=n->k0<=a.tmps.size->(gL (bd g cx fs T kt nm) n).2<=a.tmps.size ->
  RpF w (fun k=>L<=k) fs B O vs->dJ w (fun k=>L<=k) B O toff t->bs.length+(fy fx (wrTgd fx ver fs vs) t).length<=di ->
  (∀ a' w' d',Pv 1 m k0 n a a'->a'.get 1=d'->Gr L te d w d' (bs++fy fx (wrTgd fx ver fs vs) t) w'->K a' w')->LW P (bd g cx fs T kt nm) n (Rt K E) a w
end
section
variable {P:Program} {g:GW} {av:PF->Bool} {fl nl:Bool} {te:Nat}
theorem wV {fs:Fds}(IQ:m6 P g av fl nl te fs)(Mo:ma P g av fl nl te fs){nm:Nm}{cx:Cx}{fx:Bool}{ver:Int}{B O L m k0 n T kt:Nat}{toff:Option Nat}{vs:List V}{t:List (Nat × Bs)}{d:Value}{bs:Bs}{K E:Act->World->Prop}{a:Act}{w:World}
  (IN:ja ⟨P,g,av,nl⟩ cx.hf m k0 T kt toff fs nm (okTagdW ⟨P,g,av,nl⟩ cx.hf (nm.n 2+1) k0 T fs nm.s)=true) (Io:okFdsW ⟨P,g,av,nl⟩ cx.hf m k0 T fs nm.s=true) (hw:WC cx fx ver te L B O d bs a w) (hc:mc cx m k0) (Ih:cx.hf=true->fl=true) (hk:k0<=n) (Jo:k0<=a.tmps.size) (hn:(gL (gwFds g cx fs nm.s++bd g cx fs T kt nm) n).2<=a.tmps.size)
  (hr:RpF w (fun k=>L<=k) fs B O vs) (ht:dJ w (fun k=>L<=k) B O toff t) (hlim:bs.length+(wrFds fx ver fs vs++fy fx (wrTgd fx ver fs vs) t).length<=di)
  (h:∀ a' w' d',Pv 1 m k0 n a a'->a'.get 1=d'->Gr L te d w d' (bs++(wrFds fx ver fs vs++fy fx (wrTgd fx ver fs vs) t)) w'->K a' w'):LW P (gwFds g cx fs nm.s++bd g cx fs T kt nm) n (Rt K E) a w:=by
 rw[aX]at hn
 rw[List.length_append]at hlim
 have JE:=jx g cx fs T kt nm (up_wtagd g fs cx nm.s) (gL (gwFds g cx fs nm.s) n).2
 have P6:=upL_wfds g fs cx nm.s n
 refine ep ?_
 rw[aO]
 refine IQ nm.s cx fx ver B O L m k0 n T vs d bs _ E a w Io hw hc Ih hk Jo (Nat.le_trans JE hn) hr (by omega) fun a1 w1 d1 HX Ig Ld=>?_
 have If:=HX.size
 have K8:=hw.step hc HX Ig Ld
 have IV:=Gr.far hw.dst Ld
 refine Mo nm cx fx ver B O L m k0 _ T kt toff vs t d1 _ K E a1 w1 IN K8 hc Ih (by omega) (by omega) (by rw[If];exact hn) (hr.far IV hw.BL hw.Lw) (ht.far IV hw.BL hw.Lw) (by rw[List.length_append];omega) fun a' w' d' I3 h1' I0=>h a' w' d' (HX.trans (I3.mono (Nat.le_refl _) P6)) h1' ?_
 rw[<- List.append_assoc];exact Ld.trans I0
theorem wU:m6 P g av fl nl te .nil:=fun ms cx fx ver B O L m k0 n T vs d bs K E a w Io hw hc Ih hk Jo hn hr hlim h=>
 bf (h a w d (Pv.refl _ _ _ _ _) hw.s1 (by simpa[wrFds]using Gr.refl hw.dst))
theorem uP {lo:Nat}{hi tag:Option Nat}{df:Int}{off:Nat}{ty:Ty}{r:Fds}(Kw:wo P g av fl nl te ty)(T7:m6 P g av fl nl te r):m6 P g av fl nl te (.cons lo hi tag df off ty r):=by
 intro ms cx fx ver B O L m k0 n T vs d bs K E a w Io hw hc Ih hk Jo hn hr hlim h
 simp only[okFdsW,Bool.and_eq_true,Bool.or_eq_true]at Io
 obtain⟨I7,LV⟩:=Io
 obtain⟨v,vs',rfl,hv,J4⟩:=hr
 cases IW:tag.isNone with
 | false=>
  have Ja:gwFds g cx (.cons lo hi tag df off ty r) ms=gwFds g cx r ms.tail:=by simp only[gwFds,IW,Bool.false_eq_true,if_false]
  have IR:wrFds fx ver (.cons lo hi tag df off ty r) (v::vs')=wrFds fx ver r vs':=by simp only[wrFds,IW,Bool.false_and,Bool.false_eq_true,if_false,List.nil_append,List.tail_cons]
  rw[Ja]at hn ⊢
  rw[IR]at hlim h
  exact T7 ms.tail cx fx ver B O L m k0 n T vs' d bs K E a w LV hw hc Ih hk Jo hn J4 hlim h
 | true=>
 have L2:tag.isNone=true:=IW
 replace I7:=I7.resolve_left (by cases tag<;>simp at L2 ⊢)
 have Ja:gwFds g cx (.cons lo hi tag df off ty r) ms=il g cx lo hi (gS (lT g cx ty (ms.headD (.mk [] []))))::gwFds g cx r ms.tail:=by simp only[gwFds,L2,if_true]
 have IR:wrFds fx ver (.cons lo hi tag df off ty r) (v::vs')=(if has lo hi ver then bL fx ver ty v else[])++wrFds fx ver r vs':=by
  simp only[wrFds,L2,Bool.true_and,List.headD_cons,List.tail_cons]
 rw[Ja]at hn ⊢
 rw[IR]at hlim h
 rw[List.length_append]at hlim
 have MJ:Up (gS (lT g cx ty (ms.headD (.mk [] [])))):=ei (tV g ty cx _)
 have P5:=upL_wfds g r cx ms.tail (il g cx lo hi (gS (lT g cx ty (ms.headD (.mk [] [])))) n).2
 have Ow:n<=(il g cx lo hi (gS (lT g cx ty (ms.headD (.mk [] [])))) n).2:=oI MJ n
 have Kf:(il g cx lo hi (gS (lT g cx ty (ms.headD (.mk [] [])))) n).2<=a.tmps.size:=Nat.le_trans P5 hn
 have Iq:=hc.le
 have Jm:=hc.one
 have Lp:=hc.ver
 have rest:∀ (a1:Act) (w1:World) (d1:Value) (enc:Bs),Pv 1 m k0 n a a1->a1.get 1=d1->Gr L te d w d1 (bs++enc) w1->enc=(if has lo hi ver then bL fx ver ty v else[])->LW P (gwFds g cx r ms.tail) (il g cx lo hi (gS (lT g cx ty (ms.headD (.mk [] [])))) n).2 (Rt K E) a1 w1:=by
  intro a1 w1 d1 enc HX Ig Ld he
  have If:=HX.size
  refine T7 ms.tail cx fx ver B O L m k0 _ T vs' d1 (bs++enc) K E a1 w1 LV (hw.step hc HX Ig Ld) hc Ih (by omega) (by omega) (by rw[If];exact hn) (J4.far (Gr.far hw.dst Ld) hw.BL hw.Lw) (by rw[List.length_append,he];omega) fun a' w' d' I3 h1' I0=>h a' w' d' (HX.trans (I3.mono (Nat.le_refl _) Ow)) h1' ?_
  rw[<- he,<- List.append_assoc]
  exact Ld.trans I0
 refine ad ?_
 rw[aO]
 rw[ta]at Kf Ow rest ⊢
 refine pJ (x:=n) (m:=m) (k0:=k0) hw.sv Iq hk (by omega) MJ Kf (fun a1 n1 HX Oc Xk hgg Jg=>?_) (fun a1 HX Jg=>?_)
 ·have hp1':Pv 1 m k0 n a a1:=⟨HX.size,HX.defers,fun s hs Iw=>HX.get s (by omega) Iw⟩
  have If:=HX.size
  have Ig:a1.get 1=d:=by rw[HX.get 1 (by omega) (.inl Jm)];exact hw.s1
  refine aY (Kw (ms.headD (.mk [] [])) cx fx ver B O L m k0 n1 T off v d bs _ E a1 w I7 (hw.step hc hp1' Ig (Gr.refl hw.dst)) hc Ih (by omega) (by omega) ?_ hv (by rw[if_pos Jg]at hlim;omega) fun a' w' d' I3 h1' I0=>rest a' w' d' _ (hp1'.trans (I3.mono (Nat.le_refl _) Oc)) h1' I0 (by rw[if_pos Jg]))
  rw[If]
  have:(gL (lT g cx ty (ms.headD (.mk [] []))) n1).2=(gS (lT g cx ty (ms.headD (.mk [] []))) n1).2:=rfl
  rw[this,<- hgg];exact Kf
 ·have hp1':Pv 1 m k0 n a a1:=⟨HX.size,HX.defers,fun s hs Iw=>HX.get s (by omega) Iw⟩
  have Ig:a1.get 1=d:=by rw[HX.get 1 (by omega) (.inl Jm)];exact hw.s1
  exact rest a1 w d [] hp1' Ig (by simpa using Gr.refl hw.dst) (by rw[Jg];rfl)
theorem iT {e:wy}{hf:Bool}{m k0:Nat}{ty:Ty}{v:Nat}{x:List Nat}(h:du e hf m k0 ty v x=true):q7 e hf m k0 ty v x=true/\m<=v/\v<k0:=by
 simp only[du,Bool.and_eq_true,decide_eq_true_eq]at h
 refine⟨h.1,h.2,?_⟩
 have:=h.1
 simp only[q7,Bool.and_eq_true,decide_eq_true_eq]at this
 exact this.1.1.2
theorem qe (fx:Bool)(ver:Int)(ty:Ty)(v:V)(h:ty.leaf=true):bL fx ver ty v=(cN fx ver ty).wr v:=by
 cases ty with
 | prim p=>simp[bL]
 | str q=>simp[bL]
 | bytes q=>simp[bL]
 | list _ _ _=>cases h
 | struct _ _ _=>cases h
theorem mR (K0:KW P g av fl nl te){ty:Ty}(hl:ty.leaf=true){x:Nm->List Nat}(Ja:∀ cx nm,lT g cx ty nm=gP ty cx.s (nm.n 0) (nm.n 1) (nm.n 2) (nm.n 3)::bo g cx ty (nm.n 0) (x nm))
  (Io:∀ hf m k0 T off nm,ln ⟨P,g,av,nl⟩ hf m k0 T off ty nm=true->du ⟨P,g,av,nl⟩ hf m k0 ty (nm.n 0) (x nm)=true/\nm.n 1=T/\eA P T (nm.n 2) (nm.n 3) off ty.agg ty.sz=true/\(fj ty=true->nm.n 3=g.tUuid/\av .uuid=true)):wo P g av fl nl te ty:=by
 intro nm cx fx ver B O L m k0 n T off v d bs K E a w I7 hw hc Ih hk Jo hn hr hlim h
 obtain⟨h1,hT,h2,h3⟩:=Io _ _ _ _ _ _ I7
 subst hT
 rw[Ja]at hn ⊢
 rw[qe fx ver ty v hl]at hlim h
 have Ji:m<=nm.n 0/\nm.n 0<k0:=(iT h1).2
 replace h1:=(iT h1).1
 have JE:=cj g cx ty (nm.n 0) (x nm) (gP ty cx.s (nm.n 0) (nm.n 1) (nm.n 2) (nm.n 3) n).2
 have JK:(gP ty cx.s (nm.n 0) (nm.n 1) (nm.n 2) (nm.n 3) n).2=n+4:=by unfold gP;split<;>rfl
 have IE:(gL (bo g cx ty (nm.n 0) (x nm)) (gP ty cx.s (nm.n 0) (nm.n 1) (nm.n 2) (nm.n 3) n).2).2<=a.tmps.size:=hn
 rw[JK]at JE IE
 refine ad (BJ (off:=off) (X:=fun k=>L<=k) hl hw.ss (fldB_ok h2) (fun hu=>by obtain⟨e1,e2⟩:=h3 hu;rw[e1];exact K0.uuid e2) (fun _ _ _=>trivial) hr Ji hc.le hk (by omega) hc.one fun a1 w1 cs HX Ig Ir OA Nj=>?_)
 rw[JK]
 have If:=HX.size
 have Ld:Gr L te d w d bs w1:=Gr.pre Ir (fun _ _ h=>h) (Gr.refl (hw.dst.keep Ir fun _ _ h=>h))
 have e:bo g cx ty (nm.n 0) (x nm)=bo g cx ty (nm.n 0) (x nm)++[]:=(List.append_nil _).symm
 rw[e]
 exact lg K0 h1 (hw.step hc HX (Ig.trans hw.s1) Ld) hc (by omega) (by omega) (by rw[If];exact IE) OA Nj hlim fun a' w' d' I3 h1' I0=>bf (h a' w' d' (HX.trans (I3.mono (Nat.le_refl _) (by omega))) h1' (Gr.pre Ir (fun _ _ h=>h) I0))
theorem na (K0:KW P g av fl nl te){ty:Ty}(hl:ty.leaf=true)(Ja:∀ cx v i F nm,gwEl g cx ty v i F nm=jH ty v i (nm.n 0) F (nm.n 1)::bo g cx ty (nm.n 0) (nm.l.drop 2))
  (Io:∀ hf m k0 E' esz nm,okElW ⟨P,g,av,nl⟩ hf m k0 E' esz ty nm=true->du ⟨P,g,av,nl⟩ hf m k0 ty (nm.n 0) (nm.l.drop 2)=true/\nm.n 1=E'/\jw P E' ty.agg ty.sz=true/\ty.sz=esz/\(fj ty=true->E'=g.tUuid/\av .uuid=true)):wq P g av fl nl te ty:=by
 intro nm cx fx ver B O L m k0 n esz vs i F E' p q cnt c j v d bs K E a w I7 hw hc Ih hk Jo hn Ji hi hj Lp NE hF hE Pe hr hlim h
 obtain⟨h1,hE',h2,rfl,h3⟩:=Io _ _ _ _ _ _ I7
 rw[Ja,hE']at hn ⊢
 rw[qe fx ver ty v hl]at hlim h
 have Iu:m<=nm.n 0/\nm.n 0<k0:=(iT h1).2
 replace h1:=(iT h1).1
 have Iq:=hc.le
 have JK:(jH ty vs i (nm.n 0) F E' n).2=n+4:=by unfold jH;split<;>rfl
 have JE:=cj g cx ty (nm.n 0) (nm.l.drop 2) (n+4)
 have IE:(gL (bo g cx ty (nm.n 0) (nm.l.drop 2)) (jH ty vs i (nm.n 0) F E' n).2).2<=a.tmps.size:=hn
 rw[JK]at IE
 refine ad (BH (X:=fun k=>L<=k) hl Ji hi hj hF (varB_ok h2) (fun hu=>by obtain⟨e1,e2⟩:=h3 hu;rw[e1];exact K0.uuid e2) hr Iu (by omega) (by omega) Iq hk (by omega) hc.one fun a1 w1 cs HX Ig Ir OA Nj=>?_)
 rw[JK]
 have If:=HX.size
 have Ld:Gr L te d w d bs w1:=Gr.pre Ir (fun _ _ h=>h) (Gr.refl (hw.dst.keep Ir fun _ _ h=>h))
 have e:bo g cx ty (nm.n 0) (nm.l.drop 2)=bo g cx ty (nm.n 0) (nm.l.drop 2)++[]:=(List.append_nil _).symm
 rw[e]
 exact lg K0 h1 (hw.step hc HX (Ig.trans hw.s1) Ld) hc (by omega) (by omega) (by rw[If];exact IE) OA Nj hlim fun a' w' d' I3 h1' I0=>bf (h a' w' d' (HX.trans (I3.mono (Nat.le_refl _) (by omega))) h1' (Gr.pre Ir (fun _ _ h=>h) I0))
end
section
variable {P:Program} {g:GW} {av:PF->Bool} {fl nl:Bool} {te:Nat} {cx:Cx} {fx:Bool} {ver:Int} {L B O m k0 n:Nat} {d:Value} {bs:Bs} {K N E:Act->World->Prop} {Q:Exit->Act->World->Prop} {a:Act} {w:World}
theorem z6 {F n v sz:Nat}{cs:List Value}{z:Value}{ops:Array Oper}{QQ:Exit->Act->World->Prop}(hV:bc P F true sz)(hz:∀ w,(zeroValue F).run P w=.ok z w)(K7:z.cells.size=sz)(hl:cs.length=sz)(h1:∀ u∈cs,u.oneCell'=true)(hn:a.get n=.agg cs.toArray)(PS:n≠v)(Ji:v<a.tmps.size)
  (h:∀ w',ac (fun _=>False) w w'->w.heap.size<w'.heap.size->au w' w.heap.size 0 cs->wpList P ops QQ [] (a.put (some v) (pt w.heap.size 0)) w') :
  wpList P ops QQ [mk (some v) (.alloc F),mk none (.store F (tm v) (tm n))] a w:=by
 refine cZ (hz w) ?_
 let Z:Obj:=.cells z.cells F (0,0)
 have hb:(w.alloc Z).heap[w.heap.size]?=some Z:=aE w Z
 refine bm (g:=w.heap.size) (o:=0) (cur:=z.cells) (t:=F) (v:=.agg cs.toArray) (vs:=cs) (by rw[aa,db _ _ _ Ji]) (by rw[aa,fH _ _ _ _ PS];exact hn) rfl (by rw[hl];exact hV.size _) hb (by rw[hl];omega) h1 ?_
 rw[dy (by rw[hl];exact K7.symm)]
 have hk:ac (fun k=>w.heap.size<=k) w ((w.alloc Z).setRow w.heap.size cs.toArray):=(ac.alloc _ _ _).trans (ac.setRow (fun k=>w.heap.size<=k) _ _ _ (Nat.le_refl _))
 have IK:=setRow_heap _ _ _ cs.toArray _ _ hb
 exact h _ (hk.mono fun k hk hX=>by omega) (Array.getElem?_eq_some_iff.1 IK).1 (m4 IK)
theorem oN {s v T k F off sz:Nat}{cs:List Value}{z:Value}(hs:a.get s=pt B O)(hF:bw P T k F off true sz)(hz:∀ w,(zeroValue F).run P w=.ok z w)(K7:z.cells.size=sz)(hl:cs.length=sz)(I5:∀ u∈cs,u.oneCell'=true)(hc:au w B (O+off) cs)
  (hv:m<=v/\v<k0) (_hm:m<=k0) (hk:k0<=n) (hn:n+4<=a.tmps.size) (h1:1<m)
  (h:∀ a' w',Pv 1 m k0 n a a'->a'.get 1=a.get 1->a'.get v=pt w.heap.size 0->ac (fun _=>False) w w'->w.heap.size<w'.heap.size->au w' w.heap.size 0 cs->K a' w'):aK P (gy s v T k F n).1 (Exit.then K Q) a w:=by
 refine aq (ah ?_)
 rw[aa,hs]
 refine aG (by rw[aa,ao (by omega)];rfl) ?_
 refine bN (by rw[aa,ao (by simp only[ab];omega)]) hF ?_
 refine eC (b:=B) (o:=O+off) (cs:=cs) (by rw[aa,ao (by simp only[ab];omega)]) (hF.var.agg w) (by rw[hl];exact hF.var.size w) hc ?_
 refine z6 hF.var hz K7 hl I5 (ao (by simp only[ab];omega)) (by omega) (by simp only[ab];omega) fun w' J1 Id Qz=>wpList_nil (h _ w' ?_ ?_ ?_ J1 Id Qz)
 ·exact(((((Pv.refl _ _ _ _ _).put _ (by omega)).put _ (by omega)).put _ (by omega)).put _ (by omega)).put _ (by omega)
 ·rw[al (by omega),al (by omega),al (by omega),al (by omega),al (by omega)]
 ·exact ao (by simp only[ab];omega)
structure ov (w:World)(p:Nat)(cs:List Value)(d:Value):Prop where
 cells:au w p 0 cs
 lt:p<w.heap.size
 ne:d.ownBlock≠some p
theorem ov.gr {p:Nat}{cs:List Value}{d':Value}{bs':Bs}{w':World}(h:ov w p cs d)(hg:Gr L te d w d' bs' w'):ov w' p cs d':=
 ⟨fun j c hj=>hg.keeps.cell h.ne (h.cells j c hj),Nat.lt_of_lt_of_le h.lt hg.keeps.size,fun hh=>by
  rcases hg.own p hh with h1|h1
  ·exact h.ne h1
  ·have:=h.lt;omega⟩
theorem wk (K0:KW P g av fl nl te):k8 P g av fl nl te (.prim .uuid):=by
 intro nm cx ver B O L m k0 n T off t v d bs K E a w I7 IC ht hw hc Ih hk Jo hn hr hlim h
 simp only[okBodyW,if_true,Bool.and_eq_true,beq_iff_eq]at I7
 obtain⟨⟨⟨⟨KS,I6⟩,hT⟩,QW⟩,Jl⟩:=I7
 subst hT
 obtain⟨NX,Mi,Ov⟩:=iT I6
 have Iq:=hc.le
 have Jm:=hc.one
 obtain⟨hV,hz⟩:=K0.uuid KS
 obtain⟨cs,Iz,hl⟩:=hr
 obtain⟨Ib,I5⟩:=lY hl
 obtain⟨l,NA,_,rfl⟩:=hl
 have Mz:bL true ver (.prim .uuid) (.s l)=l:=by simp[bL,cN,bI,PF.wr,V.octets]
 have Nd:(dm (t,bL true ver (.prim .uuid) (.s l))).length=(uvar t).length+((uvar 16).length+16):=by simp[dm,Mz,NA,dj]
 rw[Nd]at hlim
 have IE:n+4+2+2+3<=a.tmps.size:=hn
 show aK P (gS (gy cx.s (nm.n 0) (nm.n 1) (nm.n 2) (nm.n 3)::iy g t::iy g 16::[tb g (g.ap .uuid) (nm.n 0)]) n).1 (Rt K E) a w
 refine aY (ad (oN (m:=m) (k0:=k0) hw.ss (fldB_ok Jl) (fun w=>by rw[QW];exact hz w) (by simp[Value.cells]) Ib I5 Iz ⟨Mi,Ov⟩ Iq hk (by omega) Jm fun a1 w1 HX KM JI Ir PW JG=>?_))
 have If:=HX.size
 have Ks:aA w1 L te d bs:=hw.dst.keep Ir fun _ _ h=>h
 have Ti:=Nat.le_trans hw.Lw Ir.size
 have Na:ov w1 w.heap.size cs d:=⟨JG,PW,fun hh=>by have:=(hw.dst.own hh).2;omega⟩
 refine ad (sx (m:=m) K0 Ih ht (KM.trans hw.s1) Ks Ti (by omega) Iq (by show k0<=n+4;omega) Jm (by show n+4+2<=_;omega) fun a2 w2 d2 HZ Li Ij=>?_)
 have Iw:=HZ.size
 have Nb:=Nat.le_trans Ti Ij.keeps.size
 have Q0:=Na.gr Ij
 refine ad (sx (m:=m) K0 Ih (by omega) Li Ij.dst Nb (by rw[List.length_append];omega) Iq (by show k0<=n+4+2;omega) Jm (by show n+4+2+2<=_;omega) fun a3 w3 d3 Ie JH I2=>?_)
 have IJ:=Ie.size
 have Mf:=Q0.gr I2
 have Th:=Nat.le_trans Nb I2.keeps.size
 have Nf:a3.get (nm.n 0)=pt w.heap.size 0:=by rw[Ie.get _ (by omega) (.inl (by omega)),HZ.get _ (by omega) (.inl (by omega))];exact JI
 have TS:=K0.apC .uuid KS w3 L cs (.agg cs.toArray) (.s l) ⟨l,NA,by assumption,rfl⟩ rfl
 refine ad (ui (m:=m) (k0:=k0) hV (K0.apE _ KS) TS JH Nf Mf.cells Ib (by show nm.n 0<n+4+2+2;omega) I2.dst Th ?_ Iq (by show k0<=n+4+2+2;omega) (by show 1<n+4+2+2;omega) (by show n+4+2+2+3<=_;omega) fun a4 w4 d4 Ix LF IU=>bf (h a4 w4 d4 ?_ LF ?_))
 ·simp only[List.length_append,PF.wr,V.octets]
  omega
 ·exact((HX.trans (HZ.mono Iq (by show n<=n+4;omega))).trans (Ie.mono Iq (by show n<=n+4+2;omega))).trans (Ix.mono (Nat.le_refl _) (by show n<=n+4+2+2;omega))
 ·have:=(Gr.pre Ir (fun _ _ h=>h) (Ij.trans I2)).trans IU
  simpa[dm,Mz,NA,dj,PF.wr,V.octets,List.append_assoc]using this
theorem sB {ty:Ty}{p:Option cY}(h:ky ty=some p):ty.leaf=true/\fj ty=false:=by
 cases ty with
 | prim q=>
  simp only[ky]at h
  split at h
  ·rename_i hq
   refine⟨rfl,?_⟩
   cases q<;>first|rfl|cases hq
  ·cases h
 | str nul=>exact⟨rfl,rfl⟩
 | bytes _=>cases h
 | list _ _ _=>cases h
 | struct _ _ _=>cases h
theorem AK (K0:KW P g av fl nl te){b F p:Nat}{cs:List Value}{rest:List GC}(hb:b<m/\b≠1):∀ (fs:Fds) (l:List (Nat × Option cY × Int)) (ms:List Nm) (vs:List V) (n:Nat) (a:Act) (w:World) (d:Value) (bs:Bs),mF fs=some l->pW ⟨P,g,av,nl⟩ cx.hf m k0 F fs ms=true->t9 (fun j=>cs[j]?) fs vs->ov w p cs d->a.get b=pt p 0 ->
  WC cx true ver te L B O d bs a w->mc cx m k0->k0<=n->k0<=a.tmps.size->(gL (eb g cx b F fs ms) n).2<=a.tmps.size->bs.length+(wrFds true ver fs vs).length<=di ->
  (∀ a' w' d',Pv 1 m k0 n a a'->a'.get 1=d'->Gr L te d w d' (bs++wrFds true ver fs vs) w'->LW P rest (gL (eb g cx b F fs ms) n).2 Q a' w')->LW P (eb g cx b F fs ms++rest) n Q a w
 | .nil,l,ms,vs,n,a,w,d,bs,_,_,_,_,_,hw,_,_,_,_,_,h=>by
  have e:eb g cx b F .nil ms=[]:=by simp only[eb]
  rw[e]at h ⊢
  exact h a w d (Pv.refl _ _ _ _ _) hw.s1 (by simpa[wrFds]using Gr.refl hw.dst)
 | .cons lo hi tag df off ty r,l,ms,vs,n,a,w,d,bs,hl,Io,Wd,LA,No,hw,hc,hk,Jo,hn,hlim,h=>by
  obtain⟨rfl,rfl,rfl,q,l',hp,hr,rfl⟩:=iL hl
  obtain⟨y,v,vs',rfl,hy,R0,J4⟩:=Wd
  obtain⟨I6,TA⟩:=sB hp
  simp only[pW,Bool.and_eq_true]at Io
  obtain⟨⟨hF,hwo⟩,LV⟩:=Io
  have hF:=fldB_ok hF
  obtain⟨NX,Ra,hxk⟩:=iT hwo
  have Iq:=hc.le
  have Jm:=hc.one
  have e:eb g cx b F (.cons 0 none none df off ty r) ms=gS ((ay 2 fun n=>[mk (some n) (.fieldAddr F (tm b) ((ms.headD (.mk [] [])).n 1)),mk (some (n+1)) (.load ((ms.headD (.mk [] [])).n 2) (tm n)),mk (some ((ms.headD (.mk [] [])).n 0)) (.assign (tm (n+1)))])::bo g cx ty ((ms.headD (.mk [] [])).n 0) [])::eb g cx b F r ms.tail:=by simp only[eb]
  have ew:wrFds true ver (.cons 0 none none df off ty r) (v::vs')=bL true ver ty v++wrFds true ver r vs':=by simp[wrFds,has]
  rw[e]at hn h ⊢
  rw[ew]at hlim h
  rw[List.length_append]at hlim
  have Kf:(gL (eb g cx b F r ms.tail) (gL (bo g cx ty ((ms.headD (.mk [] [])).n 0) []) (n+2)).2).2<=a.tmps.size:=hn
  have L0:=cj g cx ty ((ms.headD (.mk [] [])).n 0) [] (n+2)
  have P8:=kV g cx b F r ms.tail (gL (bo g cx ty ((ms.headD (.mk [] [])).n 0) []) (n+2)).2
  show LW P (gS _::(eb g cx b F r ms.tail++rest)) n Q a w
  refine ad (aY (ad (aq ?_)))
  have Ia:w.cell? ⟨p,0+off,none⟩=some y:=LA.cells off y hy
  refine bN (B:=p) (O:=0) (by rw[aa];exact No) hF (bg (p:=⟨p,0+off,none⟩) (v:=y) (by rw[aa,ao (by omega)]) (hF.var.agg w) Ia (ak (wpList_nil ?_)))
  have HX:Pv 1 m k0 n a (((a.put (some n) (.pointer (some ⟨p,0+off,none⟩))).put (some (n+1)) y).put (some ((ms.headD (.mk [] [])).n 0)) y):=(((Pv.refl _ _ _ _ _).put _ (by omega)).put _ (by omega)).put _ (by omega)
  have Xx:(((a.put (some n) (.pointer (some ⟨p,0+off,none⟩))).put (some (n+1)) y).put (some ((ms.headD (.mk [] [])).n 0)) y).get ((ms.headD (.mk [] [])).n 0)=y:=ao (by simp only[ab];omega)
  have Ig:(((a.put (some n) (.pointer (some ⟨p,0+off,none⟩))).put (some (n+1)) y).put (some ((ms.headD (.mk [] [])).n 0)) y).get 1=d:=by rw[al (by omega),al (by omega),al (by omega)];exact hw.s1
  have S9:((a.put (some n) (.pointer (some ⟨p,0+off,none⟩))).put (some (n+1)) y).eval (tm (n+1))=y:=by rw[aa,ao (by simp only[ab];omega)]
  rw[S9]
  show LW P _ (n+2) _ (((a.put (some n) (.pointer (some ⟨p,0+off,none⟩))).put (some (n+1)) y).put (some ((ms.headD (.mk [] [])).n 0)) y) w
  generalize((a.put (some n) (.pointer (some ⟨p,0+off,none⟩))).put (some (n+1)) y).put (some ((ms.headD (.mk [] [])).n 0)) y=a1 at HX Xx Ig ⊢
  have If:=HX.size
  have K8:=hw.step hc HX Ig (Gr.refl hw.dst)
  have Xo:=qe true ver ty v I6
  suffices Jf:LW P (bo g cx ty ((ms.headD (.mk [] [])).n 0) []++[]) (n+2) (Exit.then (LW P (eb g cx b F r ms.tail++rest) (gL (bo g cx ty ((ms.headD (.mk [] [])).n 0) []) (n+2)).2 Q) Q) a1 w by
   rw[List.append_nil]at Jf
   exact Jf
  refine lg K0 NX K8 hc (by omega) (by omega) (by rw[If];omega) (by simp only[jP,TA,Bool.false_eq_true,if_false];exact⟨y,Xx,rfl⟩) (R0 w _) (by rw[<- Xo];omega) fun a2 w2 d2 HZ Li Ij=>bf ?_
  rw[<- Xo]at Ij
  have Iw:=HZ.size
  have IB:Pv 1 m k0 n a a2:=HX.trans (HZ.mono (Nat.le_refl _) (by omega))
  have Qi:a2.get b=pt p 0:=by rw[IB.get _ hb.2 (.inl hb.1)];exact No
  have Ka:=hw.step hc IB Li Ij
  refine AK K0 hb r l' ms.tail vs' _ a2 w2 d2 _ hr LV J4 (LA.gr Ij) Qi Ka hc (by omega) (by omega) (by rw[Iw,If];exact Kf) (by rw[List.length_append];omega) fun a3 w3 d3 Ie JH I2=>h a3 w3 d3 (IB.trans (Ie.mono (Nat.le_refl _) (by omega))) JH ?_
  rw[<- List.append_assoc]
  exact Ij.trans I2
theorem uQ (K0:KW P g av fl nl te)(hf:cx.hf=true)(Ih:fl=true){b F p kt o sz:Nat}{F':Nat}{agg:Bool}{cs:List Value}{mm:Value}{t:List (Nat × Bs)}(hb:b<m/\b≠1)(hF:bw P F kt F' o agg sz)(Iz:cs[o]?=some mm)(IW:cF w (fun k=>L<=k) mm t)(LA:ov w p cs d)(No:a.get b=pt p 0)
  (hw:WC cx true ver te L B O d bs a w) (hc:mc cx m k0) (hk:k0<=n) (hn:n+1+6+3<=a.tmps.size) (hlim:bs.length+(bH true t).length<=di)
  (h:∀ a' w' d',Pv 1 m k0 n a a'->a'.get 1=d'->Gr L te d w d' (bs++bH true t) w'->K a' w'):aK P (en g cx b F kt n).1 (Exit.then K Q) a w:=by
 have Iq:=hc.le
 have Jm:=hc.one
 refine o5 (x:=n) (m:=m) (k0:=k0) (hw.sf hf) Iq hk (by omega) fun a1 HX=>?_
 have hp1':Pv 1 m k0 n a a1:=⟨HX.size,HX.defers,fun s hs Iw=>HX.get s (by omega) Iw⟩
 have If:=HX.size
 have Ig:a1.get 1=d:=by rw[HX.get 1 (by omega) (.inl Jm)];exact hw.s1
 have IX:a1.get b=pt p 0:=by rw[HX.get b (by omega) (.inl hb.1)];exact No
 simp only[if_true]
 have Ib:(bH true t).length=(uvar (dj t.length)).length+(bQ t).length:=by simp[bH]
 rw[Ib]at hlim
 have K9:w.cell? ⟨p,0+o,none⟩=some mm:=LA.cells o mm Iz
 refine aY (ad (aq (ah ?_)))
 rw[aa,Ig]
 refine bN (B:=p) (O:=0) (by rw[aa,al (by omega)];exact IX) hF ?_
 refine aN (vs:=#[pt p (0+o)]) (K0.tlE Ih) ?_ (K0.tlC Ih w p (0+o) mm _ t K9 IW) fun e2 w2 hR=>⟨_,hR.1,?_⟩
 ·simp only[List.map_cons,List.map_nil,aa]
  rw[ao (by simp only[ab];omega)]
  rfl
 have Ic:=hR.2
 refine aL (k:=.i64) (k':=.u32) (m:=t.length) (by rw[aa,ao (by simp only[ab];omega)]) K0.dInt (K0.dU32 Ih) ?_
 refine co (k:=.u32) (m:=0) (n:=IntKind.u32.wrap t.length) rfl (by rw[aa,ao (by simp only[ab];omega)]) (by simp) (jU w2) ?_
 have IR:IntKind.u32.wrap (0+IntKind.u32.wrap (t.length:Int))=(dj t.length:Nat):=by simp[IntKind.wrap,IntKind.bits,IntKind.signed,dj]
 rw[IR]
 refine dw (K0.uvE Ih) ?_ (K0.uvC Ih (dj t.length) w2 (lK _) L) (hw.dst.keep Ic fun _ _ h=>h) (Nat.le_trans hw.Lw Ic.size) (by omega) (by simp only[ab];omega) fun w3 d3 I2=>wpList_nil ?_
 ·simp only[List.map_cons,List.map_nil,aa]
  rw[al (by omega),al (by omega),al (by omega),al (by omega),ao (by omega),ao (by simp only[ab];omega)]
 have JC:Gr L te d w d3 (bs++uvar (dj t.length)) w3:=Gr.pre Ic (fun _ _ h=>h) I2
 have IV:=Gr.far hw.dst JC
 have Mf:=LA.gr JC
 have Mq:w3.cell? ⟨p,0+o,none⟩=some mm:=Mf.cells o mm Iz
 have Lj:=IW.keep IV
 have key:∀ (a2:Act),Pv 1 m k0 n a a2->a2.get 1=d3->a2.get b=pt p 0->LW P [ay 3 fun n=>[mk (some n) (.fieldAddr F (tm b) kt),mk (some (n+1)) (.move (tm 1)),cl (some (n+2)) g.teach [tm n,tm (n+1)],mk (some 1) (.assign (tm (n+2)))]] (n+1+6) (Exit.then K Q) a2 w3:=by
  intro a2 HZ Ij Ny
  have Iw:=HZ.size
  refine ad (aq ?_)
  refine bN (B:=p) (O:=0) (by rw[aa];exact Ny) hF (ah ?_)
  rw[aa,al (by omega),Ij]
  refine aN (vs:=#[pt p (0+o),d3]) (K0.teE Ih) ?_ (K0.teC Ih w3 p (0+o) mm L t d3 _ Mq ⟨Mf.lt,Mf.ne⟩ Lj JC.dst (Nat.le_trans hw.Lw JC.keeps.size) (by rw[List.length_append];omega)) fun e4 w4 hR4=>?_
  ·simp only[List.map_cons,List.map_nil,aa]
   rw[al (by omega),ao (by omega),ao (by simp only[ab];omega)]
   rfl
  obtain⟨d4,SB,IU⟩:=hR4
  refine⟨d4,SB,ak (wpList_nil (bf (h _ w4 d4 ?_ ?_ ?_)))⟩
  ·exact HZ.trans (((((Pv.refl _ _ _ _ _).put _ (by omega)).put _ (by omega)).put _ (by omega)).put _ (.inl rfl))
  ·rw[ao (by simp only[ab];omega),aa,ao (by simp only[ab];omega)]
  ·have:=JC.trans IU
   simpa[bH,List.append_assoc]using this
 refine key _ ?_ (ao (by simp only[ab];omega)) ?_
 ·exact hp1'.trans (((((((Pv.refl _ _ _ _ _).put _ (by omega)).put _ (by omega)).put _ (by omega)).put _ (by omega)).put _ (by omega)).put _ (by omega) |>.put _ (.inl rfl))
 ·rw[al (by omega),al (by omega),al (by omega),al (by omega),al (by omega),al (by omega),al (by omega)];exact IX
theorem oe:∀ (fs:Fds) (l:List (Nat × Option cY × Int)),mF fs=some l->fs.tagged=false
 | .nil,_,_=>rfl
 | .cons lo hi tag df off ty r,l,hl=>by
  obtain⟨_,_,rfl,_,l',_,hr,_⟩:=iL hl
  simp only[Fds.tagged,Option.isSome_none,Bool.false_or]
  exact oe r l' hr
theorem rA (K0:KW P g av fl nl te)(toff:Option Nat)(fs:Fds):k8 P g av fl nl te (.struct none toff fs):=by
 intro nm cx ver B O L m k0 n T off t v d bs K E a w I7 IC ht hw hc Ih hk Jo hn hr hlim h
 cases toff with
 | none=>simp[okBodyW]at I7
 | some o=>
 simp only[okBodyW,Bool.and_eq_true,decide_eq_true_eq,beq_iff_eq]at I7
 obtain⟨⟨⟨⟨⟨Iu,ML⟩,hT⟩,Jl⟩,LB⟩,IN⟩:=I7
 subst hT
 simp only[nM,Bool.and_eq_true]at IN
 have hFt:=fldB_ok IN.2
 have hF:=fldB_ok Jl
 have Iq:=hc.le
 have Jm:=hc.one
 obtain⟨s0,KF,_,_,e3,e4,Ol,MX⟩:=xr ML
 have C:=K0.smC s0 KF
 obtain⟨z,K7,hz⟩:=C.zC
 have O0:nw P (nm.n 3)=s0.sz:=by
  have h1:=hF.var.size w
  have h2:=C.var.size w
  rw[e3]at h2
  rw[h1]at h2
  simpa using h2
 obtain⟨cs,mm,vs,tg,rfl,Ib,Ju,I5,U4,_,IW,Wd⟩:=r9 Ol MX hr
 have PN:fs.tagged=false:=oe fs s0.ds Ol
 have Mz:bL true ver (.struct none (some o) fs) (.st vs tg)=wrFds true ver fs vs++bH true tg:=by simp only[bL,V.fields,V.tags,eW true ver fs vs PN,i9]
 have Nd:(dm (t,bL true ver (.struct none (some o) fs) (.st vs tg))).length=(uvar t).length+((uvar (dj (wrFds true ver fs vs++bH true tg).length)).length+(wrFds true ver fs vs++bH true tg).length):=by rw[Mz];simp[dm]
 rw[Nd]at hlim
 have KV:Up (en g cx (nm.n 0) (nm.n 3) (nm.n 11)):=bX (ei (ag (am _ _) (ag (am _ _) ar))) (bq _)
 have LQ:i6 (eb g cx (nm.n 0) (nm.n 3) fs (nm.sub 0).s++[en g cx (nm.n 0) (nm.n 3) (nm.n 11)]):=ax (kV _ _ _ _ _ _) (ag KV ar)
 have IE:(gL ((eb g cx (nm.n 0) (nm.n 3) fs (nm.sub 0).s++[en g cx (nm.n 0) (nm.n 3) (nm.n 11)])++[cJ g (nm.n 4) (nm.n 5) (nm.n 6) (nm.n 9)]) (n+4+2+2)).2<=a.tmps.size:=by
  have hh:(gL ([gy cx.s (nm.n 0) (nm.n 1) (nm.n 2) (nm.n 3),iy g t]++rr g (nm.n 4) (nm.n 5) (nm.n 6)++(eb g cx (nm.n 0) (nm.n 3) fs (nm.sub 0).s++[en g cx (nm.n 0) (nm.n 3) (nm.n 11)])++[cJ g (nm.n 4) (nm.n 5) (nm.n 6) (nm.n 9)]) n).2<=a.tmps.size:=hn
  rw[List.append_assoc,aX]at hh
  exact hh
 have QO:(gL (eb g cx (nm.n 0) (nm.n 3) fs (nm.sub 0).s++[en g cx (nm.n 0) (nm.n 3) (nm.n 11)]) (n+4+2+2)).2+11<=a.tmps.size:=by rw[aX]at IE;exact IE
 have JE:=LQ (n+4+2+2)
 have Ja:gwBody g cx t (.struct none (some o) fs) nm=jJ ([gy cx.s (nm.n 0) (nm.n 1) (nm.n 2) (nm.n 3),iy g t,aR (nm.n 4) (.bool false),ay 2 fun n=>[mk (some n) (.move (tm 1)),bi (some (n+1)) .len [tm n] [g.tSl] g.tInt,mk (some (nm.n 5)) (.assign (tm (n+1)))]] ++
  (aS (.label (nm.n 6))::((eb g cx (nm.n 0) (nm.n 3) fs (nm.sub 0).s++[en g cx (nm.n 0) (nm.n 3) (nm.n 11)])++[cJ g (nm.n 4) (nm.n 5) (nm.n 6) (nm.n 9)]))):=by
  simp only[gwBody,rr,List.cons_append,List.nil_append,List.append_assoc]
 rw[Ja]
 refine pG (fun c hc=>?_) ?_ ?_
 ·simp only[gL,gy,iy,aR,ay,rg,List.mem_cons,List.not_mem_nil,or_false]at hc
  rcases hc with rfl|rfl|rfl|rfl<;>rfl
 ·rw[aX]
  simp[gL]
 show LW P (gy cx.s (nm.n 0) (nm.n 1) (nm.n 2) (nm.n 3)::iy g t::([aR (nm.n 4) (.bool false),ay 2 fun n=>[mk (some n) (.move (tm 1)),bi (some (n+1)) .len [tm n] [g.tSl] g.tInt,mk (some (nm.n 5)) (.assign (tm (n+1)))],aS (.label (nm.n 6))] ++
  ((eb g cx (nm.n 0) (nm.n 3) fs (nm.sub 0).s++[en g cx (nm.n 0) (nm.n 3) (nm.n 11)])++[cJ g (nm.n 4) (nm.n 5) (nm.n 6) (nm.n 9)]))) n _ a w
 refine ad (oN (m:=m) (k0:=k0) hw.ss hF (fun w=>by rw[<- e3];exact hz w) (K7.trans O0.symm) (Ib.trans O0.symm) I5 Ju ⟨Iu.1,by omega⟩ Iq hk (by omega) Jm fun a1 w1 HX KM JI Ir PW JG=>?_)
 have If:=HX.size
 have Ks:aA w1 L te d bs:=hw.dst.keep Ir fun _ _ h=>h
 have Ti:=Nat.le_trans hw.Lw Ir.size
 have Na:ov w1 w.heap.size cs d:=⟨JG,PW,fun hh=>by have:=(hw.dst.own hh).2;omega⟩
 refine ad (sx (m:=m) K0 Ih ht (KM.trans hw.s1) Ks Ti (by omega) Iq (by show k0<=n+4;omega) Jm (by show n+4+2<=_;omega) fun a2 w2 d2 HZ Li Ij=>?_)
 have Iw:=HZ.size
 have IB:Pv 1 m k0 n a a2:=HX.trans (HZ.mono Iq (by show n<=n+4;omega))
 have KU:a2.get (nm.n 0)=pt w.heap.size 0:=(HZ.get _ (by omega) (.inl (by omega))).trans JI
 have Nb:=Nat.le_trans Ti Ij.keeps.size
 have Mw:Gr L te d w d2 (bs++uvar t) w2:=Gr.pre Ir (fun _ _ h=>h) Ij
 have Q0:=Na.gr Ij
 have L1:cF w2 (fun k=>L<=k) (.map mm) tg:=IW.keep (Gr.far hw.dst Mw)
 show LW P _ (n+4+2) _ a2 w2
 refine pF K0 Ih (k0:=k0) (m0:=nm.n 0+1) (mB:=max (nm.n 4) (nm.n 5)+1) (enc:=wrFds true ver fs vs++bH true tg) Li Ij.dst Nb (by rw[List.length_append (as:=bs)];omega) (by omega) (by omega) (by omega) (by omega) LQ (by rw[Iw,If];exact IE) (fun a3 w3 d3 bs3 K3 hS3 JH hg3' LZ h3=>?_) fun a3 w3 d3 hS3 JH I2=>h a3 w3 d3 ?_ JH ?_
 ·have IJ:=hS3.size
  have Il:=Gr.far Ij.dst hg3'
  have Ka:=hw.step hc IB Li Mw
  have Jh:∀ q,q<m->q≠1->a3.get q=a2.get q:=fun q hq JV=>hS3.get q JV (by omega) (.inl (by omega))
  have LP:WC cx true ver te L B O d3 bs3 a3 w3:=⟨hg3'.dst,JH,by rw[Jh _ hc.s.1 hc.s.2];exact Ka.ss,by rw[Jh _ hc.ver.1 hc.ver.2];exact Ka.sv,fun hf=>by rw[Jh _ hc.fx.1 hc.fx.2];exact Ka.sf hf,Ka.nf,Ka.BL,Nat.le_trans Nb Il.size⟩
  have Nf:a3.get (nm.n 0)=pt w.heap.size 0:=(hS3.get _ (by omega) (by omega) (.inl (by omega))).trans KU
  have VY:mc cx (max (nm.n 4) (nm.n 5)+1) k0:=hc.mono (by omega) (by omega)
  have Mf:=Q0.gr hg3'
  have Xp:(wrFds true ver fs vs++bH true tg).length=(wrFds true ver fs vs).length+(bH true tg).length:=List.length_append
  have hnB:(gL (eb g cx (nm.n 0) (nm.n 3) fs (nm.sub 0).s) (n+4+2+2)).2+1+6+3<=a.tmps.size:=by
   rw[aX]at QO
   have:(gL (eb g cx (nm.n 0) (nm.n 3) fs (nm.sub 0).s) (n+4+2+2)).2+1+6+3+11<=a.tmps.size:=QO
   omega
  have hupX:=kV g cx (nm.n 0) (nm.n 3) fs (nm.sub 0).s (n+4+2+2)
  refine AK K0 (cx:=cx) (m:=max (nm.n 4) (nm.n 5)+1) (k0:=k0) (F:=nm.n 3) (p:=w.heap.size) (cs:=cs) ⟨by omega,by omega⟩ fs s0.ds (nm.sub 0).s vs (n+4+2+2) a3 w3 d3 bs3 Ol LB Wd Mf Nf LP VY (by omega) (by omega) (by omega) (by omega) fun a4 w4 d4 Ix LF IU=>?_
  have Kb:=Ix.size
  have Mm:a4.get (nm.n 0)=pt w.heap.size 0:=(Ix.get _ (by omega) (.inl (by omega))).trans Nf
  have Re:=LP.step VY Ix LF IU
  refine ad ?_
  rw[aO]
  have MV:=uQ (w:=w4) K0 IC Ih (b:=nm.n 0) (m:=max (nm.n 4) (nm.n 5)+1) (k0:=k0) (n:=(gL (eb g cx (nm.n 0) (nm.n 3) fs (nm.sub 0).s) (n+4+2+2)).2) (a:=a4) (K:=K3) (Q:=Rt K3 E) (p:=w.heap.size) (cs:=cs) (mm:=.map mm) (t:=tg) ⟨by omega,by omega⟩ hFt U4 ((L1.keep Il).keep (Gr.far hg3'.dst IU)) (Mf.gr IU) Mm Re VY (by omega) (by omega) (by rw[List.length_append];omega) fun a5 w5 d5 Js OT Kg=>h3 a5 w5 d5 (Ix.trans (Js.mono (Nat.le_refl _) (by omega))) OT (by rw[<- List.append_assoc];exact IU.trans Kg)
  rw[aO]at MV
  exact MV.mono fun e a w hq=>by
   cases e<;>first|exact bf hq|exact hq
 ·exact IB.trans ⟨hS3.size,hS3.defers,fun i hi NG=>hS3.get i hi (by omega) (by omega)⟩
 ·have:=Mw.trans I2
  rw[Mz]
  simpa[dm,List.append_assoc]using this
end
section
variable {P:Program} {g:GW} {av:PF->Bool} {fl nl:Bool} {te:Nat}
theorem rS {toff:Option Nat}{fs:Fds}(IQ:m6 P g av fl nl te fs)(Mo:ma P g av fl nl te fs):wq P g av fl nl te (.struct none toff fs):=by
 intro nm cx fx ver B O L m k0 n esz vs i F E' p q cnt c j v d bs K E a w I7 hw hc Ih hk Jo hn Ji hi hj Lp NE hF hE Pe hr hlim h
 simp only[okElW,Bool.and_eq_true,decide_eq_true_eq]at I7
 obtain⟨⟨Iu,IN⟩,KZ⟩:=I7
 obtain⟨vv,t,rfl,Rs,ht⟩:=hr
 have Iq:=hc.le
 have IE:(gL (gwFds g { cx with s:=nm.n 0 } fs (nm.sub 0).s++bd g { cx with s:=nm.n 0 } fs (nm.n 1) (nm.n 2) (nm.sub 0)) (n+3)).2<=a.tmps.size:=hn
 have JE:=ax (upL_wfds g fs { cx with s:=nm.n 0 } (nm.sub 0).s) (dL g { cx with s:=nm.n 0 } fs (nm.n 1) (nm.n 2) (nm.sub 0)) (n+3)
 show LW P (dI vs i (nm.n 0) F::(gwFds g { cx with s:=nm.n 0 } fs (nm.sub 0).s++bd g { cx with s:=nm.n 0 } fs (nm.n 1) (nm.n 2) (nm.sub 0))) n (Rt K E) a w
 refine ad (sw Ji hi hj hF hE Iu (by omega) (by omega) Iq hk (by omega) hc.one fun a1 HX Ig NQ=>?_)
 have If:=HX.size
 show LW P _ (n+3) (Rt K E) a1 w
 have K8:=hw.at hc HX (Ig.trans hw.s1) NQ Pe
 exact wV IQ Mo (cx:={ cx with s:=nm.n 0 }) IN KZ K8 (hc.at (m':=nm.n 0+1) ⟨Iu.1,by omega⟩ (by omega) (by omega)) Ih (by omega) (by omega) (by rw[If];exact IE) Rs ht (by simpa[bL,V.fields,V.tags]using hlim) fun a' w' d' I3 h1' I0=>h a' w' d' (HX.trans (I3.mono (by omega) (by omega))) h1' (by simpa[bL,V.fields,V.tags]using I0)
theorem mV (K0:KW P g av fl nl te){nul:Option Nat}{sz:Nat}{e:Ty}(he:wq P g av fl nl te e){v0 F i b1 b2 E' len c:Nat}{sub:Nm}{z:Array Value}{base:Option Addr}{cx:Cx}{fx:Bool}{ver:Int}{B O L m k0 n:Nat}{v:V}{d:Value}{bs:Bs}{K E:Act->World->Prop}{a:Act}{w:World}
  (Iu:v0<m/\m<=i/\i<k0/\v0≠1) (hR:m7 P F E' sz z) (LX:okElW ⟨P,g,av,nl⟩ cx.hf (i+1) k0 E' sz e sub=true) (Jj:nul.isSome=true->nl=true) (Lm:nul≠some 0->jW g cx.hf=true) (hw:WC cx fx ver te L B O d bs a w) (hc:mc cx m k0) (Ih:cx.hf=true->fl=true) (hk:k0<=n) (Jo:k0<=a.tmps.size)
  (hn:(gL [fk g cx nul v0 F,fU g v0 i b1 b2 F (gwEl g cx e v0 i F sub)] n).2<=a.tmps.size) (Mi:a.get v0=.slice base len c) (Ib:len=v.list.length) (Kd:len<=maxLen) (JM:base.isNone=v.isNul) (NO:∀ i x,v.list[i]?=some x->∃ p q,base=some ⟨p,q,none⟩/\p<L/\Rp w (fun k=>L<=k) e p (q+i*sz) x)
  (hlim:bs.length+(bL fx ver (.list nul sz e) v).length<=di) (h:∀ a' w' d',Pv 1 m k0 n a a'->a'.get 1=d'->Gr L te d w d' (bs++bL fx ver (.list nul sz e) v) w'->K a' w'):LW P [fk g cx nul v0 F,fU g v0 i b1 b2 F (gwEl g cx e v0 i F sub)] n (Rt K E) a w:=by
 have Iq:=hc.le
 have Jm:=hc.one
 have IR:bL fx ver (.list nul sz e) v=(if ce nul ver&&base.isNone then cf fx 4 else fe fx len)++iA (bL fx ver e) v.list:=by simp only[bL,JM,Ib]
 rw[IR]at hlim h
 rw[List.length_append]at hlim
 have Nu:=kR g cx nul v0 F n
 have OV:=upL_wel g e cx v0 i F sub
 have Nv:=kS g v0 i b1 b2 F OV (fk g cx nul v0 F n).2
 have IE:(fU g v0 i b1 b2 F (gwEl g cx e v0 i F sub) (fk g cx nul v0 F n).2).2<=a.tmps.size:=hn
 refine ad (BG (m:=m) (k0:=k0) K0 Jj Lm Ih hw hc Mi hR.und (by omega) (by omega) (by omega) (by omega) fun a2 w2 d2 HZ Li hgr2=>?_)
 have Iw:=HZ.size
 have Ij:a2.get v0=.slice base len c:=by rw[HZ.get _ (by omega) (.inl (by omega))];exact Mi
 generalize Xi:(fk g cx nul v0 F n).2=np at Nu Nv IE ⊢
 refine ad ?_
 rw[aO]
 refine BK (m:=m) (k0:=k0) (W:=fun j d' w'=>Gr L te d w d' (bs++(if ce nul ver&&base.isNone then cf fx 4 else fe fx len)++iA (bL fx ver e) (v.list.take j)) w') Ij hR.und (by omega) (by omega) (by omega) (by omega) (by rw[Iw];exact IE) (OV _) Kd ?_ (fun j a3 w3 hj Ie hi3 hW=>?_) (fun a3 w3 Ie hW=>?_)
 ·rw[Li]
  simpa[iA]using hgr2
 ·have IJ:=Ie.size
  obtain⟨x,hx⟩:∃ x,v.list[j]?=some x:=⟨v.list[j]'(by omega),List.getElem?_eq_getElem (by omega)⟩
  obtain⟨p,q,rfl,Pe,hrx⟩:=NO j x hx
  have Lq:v.list.take (j+1)=v.list.take j++[x]:=by rw[List.take_add_one,hx];rfl
  have Xl:(iA (bL fx ver e) v.list).length=(iA (bL fx ver e) (v.list.take j)).length+(bL fx ver e x).length+(iA (bL fx ver e) (v.list.drop (j+1))).length:=by
   conv=>lhs;rw[<- List.take_append_drop (j+1) v.list,Lq]
   simp only[iA,List.map_append,List.flatten_append,List.length_append,List.map_cons,List.map_nil,List.flatten_cons,List.flatten_nil,List.append_nil]
  have O5:Pv 1 m k0 n a a3:=HZ.trans (Ie.mono (by omega) (by omega))
  have LP:=hw.step hc O5 rfl hW
  have IV:=Gr.far hw.dst hW
  have Us:a3.get v0=.slice (some ⟨p,q,none⟩) len c:=by rw[Ie.get _ (by omega) (.inl (by omega))];exact Ij
  refine aY (he sub cx fx ver B O L (i+1) k0 (np+5) sz v0 i F E' p q len c j x (a3.get 1) _ _ E a3 w3 LX LP (hc.mono (by omega) (by omega)) Ih (by omega) (by omega) ?_ Us hi3 hj (by omega) (by omega) hR.und hR.size Pe (Rp.keep IV hrx (by omega) (by have:=hw.Lw;omega)) ?_ fun a4 w4 d4 Ix LF IU=>⟨Ix,?_⟩)
  ·have h9:(gL (gwEl g cx e v0 i F sub) (np+5)).2+1<=a.tmps.size:=IE
   omega
  ·rw[List.length_append,List.length_append]
   omega
  ·rw[LF,Lq]
   have:=hW.trans IU
   simpa[iA,List.append_assoc]using this
 ·refine bf (h a3 w3 (a3.get 1) (HZ.trans (Ie.mono (by omega) (by omega))) rfl ?_)
  rw[Ib,List.take_length]at hW
  rw[Ib,<- List.append_assoc]
  exact hW
theorem oZ {w:World}{L b o sz:Nat}{nul:Option Nat}{e:Ty}{v:V}(hr:Rp w (fun k=>L<=k) (.list nul sz e) b o v):∃ base len c,w.cell? ⟨b,o,none⟩=some (.slice base len c)/\len=v.list.length/\len<=maxLen/\base.isNone=v.isNul/\(∀ i x,v.list[i]?=some x->∃ p q,base=some ⟨p,q,none⟩/\p<L/\Rp w (fun k=>L<=k) e p (q+i*sz) x):=by
 rcases hr with⟨h1,rfl⟩|⟨xs,p,q,c,h1,h2,h3,h4,h5,rfl,h7⟩
 ·exact⟨none,0,0,h1,rfl,by simp[maxLen],rfl,fun i x hx=>by simp[V.list]at hx⟩
 ·exact⟨some ⟨p,q,none⟩,xs.length,c,h1,rfl,by omega,rfl,fun i x hx=>⟨p,q,rfl,by omega,h7 i x hx⟩⟩
theorem wH (K0:KW P g av fl nl te){nul:Option Nat}{esz:Nat}{e:Ty}(he:wq P g av fl nl te e):wo P g av fl nl te (.list nul esz e):=by
 intro nm cx fx ver B O L m k0 n T off v d bs K E a w I7 hw hc Ih hk Jo hn hr hlim h
 simp only[ln,Bool.and_eq_true,Bool.or_eq_true,Bool.not_eq_true',decide_eq_true_eq,beq_iff_eq]at I7
 obtain⟨⟨⟨⟨Iu,hT⟩,Jl⟩,Jj⟩,Iy⟩:=I7
 subst hT
 cases hro:nE P (nm.n 3) with
 | none=>rw[hro]at Iy;cases Iy
 | some row=>
 obtain⟨E',sz,z⟩:=row
 rw[hro]at Iy
 simp only[Bool.and_eq_true,Bool.or_eq_true,beq_iff_eq]at Iy
 obtain⟨⟨rfl,LX⟩,Lm⟩:=Iy
 have Iq:=hc.le
 have Jm:=hc.one
 obtain⟨base,len,c,Ia,Ib,Kd,JM,NO⟩:=oZ hr
 have Nu:=kR g cx nul (nm.n 0) (nm.n 3) (n+4)
 have Nv:=kS g (nm.n 0) (nm.n 4) (nm.n 5) (nm.n 6) (nm.n 3) (upL_wel g e cx (nm.n 0) (nm.n 4) (nm.n 3) (nm.sub 0)) (fk g cx nul (nm.n 0) (nm.n 3) (n+4)).2
 have IE:(fU g (nm.n 0) (nm.n 4) (nm.n 5) (nm.n 6) (nm.n 3) (gwEl g cx e (nm.n 0) (nm.n 4) (nm.n 3) (nm.sub 0)) (fk g cx nul (nm.n 0) (nm.n 3) (n+4)).2).2<=a.tmps.size:=hn
 show LW P [cg cx.s (nm.n 0) (nm.n 1) (nm.n 2) (nm.n 3),fk g cx nul (nm.n 0) (nm.n 3),fU g (nm.n 0) (nm.n 4) (nm.n 5) (nm.n 6) (nm.n 3) (gwEl g cx e (nm.n 0) (nm.n 4) (nm.n 3) (nm.sub 0))] n (Rt K E) a w
 refine ad (fZ (x:=nm.n 0) (m:=m) (k0:=k0) hw.ss (fldB_ok Jl) Ia (.inl rfl) Iq hk (by omega) (by omega) fun a1 HX Ig=>?_)
 have If:=HX.size
 have hp1':=HX.x1 ⟨Iu.1,by omega⟩
 have KM:a1.get 1=d:=(HX.g1 ⟨Iu.1,by omega⟩ Jm).trans hw.s1
 have K8:=hw.step hc hp1' KM (Gr.refl hw.dst)
 show LW P [fk g cx nul (nm.n 0) (nm.n 3),fU g (nm.n 0) (nm.n 4) (nm.n 5) (nm.n 6) (nm.n 3) (gwEl g cx e (nm.n 0) (nm.n 4) (nm.n 3) (nm.sub 0))] (n+4) (Rt K E) a1 w
 exact mV K0 he (m:=nm.n 0+1) (by omega) (nD hro) LX (fun hs=>by rcases Jj with hh|hh;rw[hs]at hh;cases hh;exact hh) (fun h=>Lm.resolve_left h) K8 (hc.mono (by omega) (by omega)) Ih (by omega) (by omega) (by rw[If];exact IE) Ig Ib Kd JM NO hlim fun a' w' d' I3 h1' I0=>h a' w' d' (hp1'.trans (I3.mono (by omega) (by omega))) h1' I0
theorem z4 {toff:Option Nat}{fs:Fds}(IQ:m6 P g av fl nl te fs)(Mo:ma P g av fl nl te fs):wo P g av fl nl te (.struct none toff fs):=by
 intro nm cx fx ver B O L m k0 n T off v d bs K E a w I7 hw hc Ih hk Jo hn hr hlim h
 simp only[ln,Bool.and_eq_true,decide_eq_true_eq,beq_iff_eq]at I7
 obtain⟨⟨⟨⟨Iu,hT⟩,Jl⟩,IN⟩,KZ⟩:=I7
 subst hT
 obtain⟨vv,t,rfl,Rs,ht⟩:=hr
 have Iq:=hc.le
 have IE:(gL (gwFds g { cx with s:=nm.n 0 } fs (nm.sub 0).s++bd g { cx with s:=nm.n 0 } fs (nm.n 3) (nm.n 4) (nm.sub 0)) (n+3)).2<=a.tmps.size:=hn
 have JE:=ax (upL_wfds g fs { cx with s:=nm.n 0 } (nm.sub 0).s) (dL g { cx with s:=nm.n 0 } fs (nm.n 3) (nm.n 4) (nm.sub 0)) (n+3)
 show LW P (eQ cx.s (nm.n 0) (nm.n 1) (nm.n 2)::(gwFds g { cx with s:=nm.n 0 } fs (nm.sub 0).s++bd g { cx with s:=nm.n 0 } fs (nm.n 3) (nm.n 4) (nm.sub 0))) n (Rt K E) a w
 refine ad (j0 (x:=nm.n 0) (m:=m) (k0:=k0) hw.ss (fldB_ok Jl) (.inl rfl) Iq hk (by omega) (by omega) fun a1 HX Ig=>?_)
 have If:=HX.size
 have hp1':=HX.x1 Iu
 show LW P _ (n+3) (Rt K E) a1 w
 have K8:=hw.at hc hp1' ((HX.g1 Iu hc.one).trans hw.s1) Ig hw.BL
 exact wV IQ Mo (cx:={ cx with s:=nm.n 0 }) IN KZ K8 (hc.at (m':=nm.n 0+1) ⟨Iu.1,by omega⟩ (by omega) (by omega)) Ih (by omega) (by omega) (by rw[If];exact IE) Rs ht (by simpa[bL,V.fields,V.tags]using hlim) fun a' w' d' I3 h1' I0=>h a' w' d' (hp1'.trans (I3.mono (by omega) (by omega))) h1' (by simpa[bL,V.fields,V.tags]using I0)
theorem z1 (K0:KW P g av fl nl te){q:Nat}{toff:Option Nat}{fs:Fds}(IQ:m6 P g av fl nl te fs)(Mo:ma P g av fl nl te fs):wo P g av fl nl te (.struct (some q) toff fs):=by
 intro nm cx fx ver B O L m k0 n T off v d bs K E a w I7 hw hc Ih hk Jo hn hr hlim h
 simp only[ln,Bool.and_eq_true,decide_eq_true_eq,beq_iff_eq]at I7
 obtain⟨⟨⟨⟨⟨Iu,hT⟩,Jl⟩,Kj⟩,IN⟩,KZ⟩:=I7
 subst hT
 obtain⟨el,Md⟩:∃ el,P.underlying (nm.n 3)=some (.pointer el):=by
  unfold vy at Kj
  split at Kj
  ·rename_i el h;exact⟨el,h⟩
  ·cases Kj
 have Iq:=hc.le
 have Jm:=hc.one
 have IE:(gL (fG g 1::(gwFds g { cx with s:=nm.n 0 } fs (nm.sub 0).s++bd g { cx with s:=nm.n 0 } fs (nm.n 4) (nm.n 5) (nm.sub 0))) (n+4+2+3)).2<=a.tmps.size:=hn
 have QO:(gL (gwFds g { cx with s:=nm.n 0 } fs (nm.sub 0).s++bd g { cx with s:=nm.n 0 } fs (nm.n 4) (nm.n 5) (nm.sub 0)) (n+4+2+3+3)).2<=a.tmps.size:=hn
 have JE:=ax (upL_wfds g fs { cx with s:=nm.n 0 } (nm.sub 0).s) (dL g { cx with s:=nm.n 0 } fs (nm.n 4) (nm.n 5) (nm.sub 0)) (n+4+2+3+3)
 show LW P [cg cx.s (nm.n 0) (nm.n 1) (nm.n 2) (nm.n 3),yJ (nm.n 0) (nm.n 3) (fG g 255) (gS (fG g 1::(gwFds g { cx with s:=nm.n 0 } fs (nm.sub 0).s++bd g { cx with s:=nm.n 0 } fs (nm.n 4) (nm.n 5) (nm.sub 0))))] n (Rt K E) a w
 have Ia:∃ m',w.cell? ⟨B,O+off,none⟩=some (.pointer m'):=by
  rcases hr with⟨h1,_⟩|⟨p,q,vs,t,h1,_⟩
  ·exact⟨none,h1⟩
  ·exact⟨_,h1⟩
 obtain⟨ptr,Ia⟩:=Ia
 refine ad (fZ (x:=nm.n 0) (m:=m) (k0:=k0) hw.ss (fldB_ok Jl) Ia (.inl rfl) Iq hk (by omega) (by omega) fun a1 HX Ig=>?_)
 have If:=HX.size
 have hp1':=HX.x1 Iu
 have KM:a1.get 1=d:=(HX.g1 Iu Jm).trans hw.s1
 show LW P [yJ (nm.n 0) (nm.n 3) (fG g 255) (gS (fG g 1::(gwFds g { cx with s:=nm.n 0 } fs (nm.sub 0).s++bd g { cx with s:=nm.n 0 } fs (nm.n 4) (nm.n 5) (nm.sub 0))))] (n+4) (Rt K E) a1 w
 refine ad ?_
 rw[aO]
 have Ip:∀ (b:Bool),b=ptr.isNone->∀ (X:Act->World->Prop),(∀ a2,Pv 1 m k0 (n+4) a1 a2->a2.get 1=d->a2.get (nm.n 0)=.pointer ptr->X a2 w) ->
   wpList P [mk (some (n+4)) (.move (tm (nm.n 0))),mk (some (n+4+1)) (.binOp .eql (nm.n 3) (tm (n+4)) (.const (.pointer none)) 0)].toArray (Exit.then (fun a' w'=>a'.eval (tm (n+4+1))=.bool b/\X a' w') (Rt (LW P [] ((gS (fG g 1::(gwFds g { cx with s:=nm.n 0 } fs (nm.sub 0).s++bd g { cx with s:=nm.n 0 } fs (nm.n 4) (nm.n 5) (nm.sub 0)))) (n+4+2+3)).2 (Rt K E)) E))
    [mk (some (n+4)) (.move (tm (nm.n 0))),mk (some (n+4+1)) (.binOp .eql (nm.n 3) (tm (n+4)) (.const (.pointer none)) 0)] a1 w:=by
  intro b hb X hX
  refine ah (lI (m:=ptr) Md (by rw[aa,ao (by omega),aa];exact Ig) (wpList_nil ⟨by rw[aa,ao (by simp only[ab];omega),hb],hX _ ?_ ?_ ?_⟩))
  ·exact((Pv.refl _ _ _ _ _).put _ (by omega)).put _ (by omega)
  ·rw[al (by omega),al (by omega)];exact KM
  ·rw[al (by omega),al (by omega)];exact Ig
 rcases hr with⟨h1,rfl⟩|⟨p,q',vs,t,h1,h2,h3,rfl,h5,h6⟩
 ·rw[h1]at Ia
  obtain rfl:(none:Option Addr)=ptr:=by simpa using Ia
  have IR:bL fx ver (.struct (some q) toff fs) .nul=[255]:=by simp[bL,V.isNul]
  rw[IR]at hlim h
  refine cL (Ip true rfl _ fun a2 HZ Li Ij=>?_)
  have Iw:=HZ.size
  have e:Rt (LW P [] ((gS (fG g 1::(gwFds g { cx with s:=nm.n 0 } fs (nm.sub 0).s++bd g { cx with s:=nm.n 0 } fs (nm.n 4) (nm.n 5) (nm.sub 0)))) (n+4+2+3)).2 (Rt K E)) E=Exit.then (LW P [] ((gS (fG g 1::(gwFds g { cx with s:=nm.n 0 } fs (nm.sub 0).s++bd g { cx with s:=nm.n 0 } fs (nm.n 4) (nm.n 5) (nm.sub 0)))) (n+4+2+3)).2 (Rt K E)) (Rt K E):=aO.symm
  show aK P (fG g ((255:Nat):Int) (n+4+2)).1 (Rt _ E) a2 w
  have:=uh K0 (c:=255) (m:=m) (k0:=k0) (n:=n+4+2) (Q:=Rt K E) (a:=a2) (w:=w) (d:=d) (bs:=bs) (L:=L) (K:=LW P [] ((gS (fG g 1::(gwFds g { cx with s:=nm.n 0 } fs (nm.sub 0).s++bd g { cx with s:=nm.n 0 } fs (nm.n 4) (nm.n 5) (nm.sub 0)))) (n+4+2+3)).2 (Rt K E)) (by omega) Li hw.dst hw.Lw (by simpa using hlim) Iq (by omega) (by omega) (by omega) fun a3 w3 d3 Ie JH I2=>bf (h a3 w3 d3 ((hp1'.trans (HZ.mono (Nat.le_refl _) (by omega))).trans (Ie.mono (Nat.le_refl _) (by omega))) JH I2)
  rw[aO]at this
  exact this
 ·rw[h1]at Ia
  obtain rfl:some (⟨p,q',none⟩:Addr)=ptr:=by simpa using Ia
  have IR:bL fx ver (.struct (some q) toff fs) (.st vs t)=[1]++(wrFds fx ver fs vs++fy fx (wrTgd fx ver fs vs) t):=by simp[bL,V.isNul,V.fields,V.tags]
  rw[IR]at hlim h
  rw[List.length_append]at hlim
  simp only[List.length_cons,List.length_nil]at hlim
  refine cD (Ip false rfl _ fun a2 HZ Li Ij=>?_)
  have Iw:=HZ.size
  refine aY (ad (uh (m:=nm.n 0+1) (k0:=k0) (L:=L) (bs:=bs) (d:=d) K0 (c:=1) (by omega) Li hw.dst hw.Lw (by omega) (by omega) (by show k0<=n+4+2+3;omega) (by show 1<n+4+2+3;omega) (by show n+4+2+3+3<=_;omega) fun a3 w3 d3 Ie JH I2=>?_))
  have IJ:=Ie.size
  have VA:a3.get (nm.n 0)=pt p q':=by rw[Ie.get _ (by omega) (.inl (by omega))];exact Ij
  have Je:Pv 1 m k0 n a a3:=(hp1'.trans (HZ.mono (Nat.le_refl _) (by omega))).trans (Ie.mono (by omega) (by show n<=n+4+2+3;omega))
  have LP:=hw.step hc Je JH I2
  have IV:=Gr.far hw.dst I2
  have Pe:p<L:=by omega
  have hw3':WC { cx with s:=nm.n 0 } fx ver te L p q' d3 (bs++[UInt8.ofNat 1]) a3 w3:=LP.at (a':=a3) hc (Pv.refl _ _ _ k0 _) JH VA Pe
  refine wV IQ Mo (cx:={ cx with s:=nm.n 0 }) (L:=L) IN KZ hw3' (hc.at (m':=nm.n 0+1) ⟨Iu.1,by omega⟩ (by omega) (by omega)) Ih (by show k0<=n+4+2+3+3;omega) (by omega) (by rw[IJ,Iw,If];exact QO) (h5.far IV Pe hw.Lw) (h6.far IV Pe hw.Lw) (by rw[List.length_append (as:=bs)];simp only[List.length_cons,List.length_nil];omega) fun a' w' d' I3 h1' I0=>bf (h a' w' d' (Je.trans (I3.mono (by omega) (by show n<=n+4+2+3+3;omega))) h1' ?_)
  have:=I2.trans I0
  simpa[List.append_assoc]using this
theorem wm (K0:KW P g av fl nl te){nul:Option Nat}{esz:Nat}{e:Ty}(he:wq P g av fl nl te e):k8 P g av fl nl te (.list nul esz e):=by
 intro nm cx ver B O L m k0 n T off t v d bs K E a w I7 IC ht hw hc Ih hk Jo hn hr hlim h
 simp only[okBodyW,Bool.and_eq_true,Bool.or_eq_true,Bool.not_eq_true',decide_eq_true_eq,beq_iff_eq]at I7
 obtain⟨⟨⟨⟨Iu,hT⟩,Jl⟩,Jj⟩,Iy⟩:=I7
 subst hT
 cases hro:nE P (nm.n 3) with
 | none=>rw[hro]at Iy;cases Iy
 | some row=>
 obtain⟨E',sz,z⟩:=row
 rw[hro]at Iy
 simp only[Bool.and_eq_true,Bool.or_eq_true,beq_iff_eq]at Iy
 obtain⟨⟨rfl,LX⟩,Lm⟩:=Iy
 have Iq:=hc.le
 have Jm:=hc.one
 obtain⟨base,len,c,Ia,Ib,Kd,JM,NO⟩:=oZ hr
 have Nd:(dm (t,bL true ver (.list nul sz e) v)).length=(uvar t).length+((uvar (dj (bL true ver (.list nul sz e) v).length)).length+(bL true ver (.list nul sz e) v).length):=by simp[dm]
 rw[Nd]at hlim
 have LQ:i6 [fk g cx nul (nm.n 0) (nm.n 3),fU g (nm.n 0) (nm.n 12) (nm.n 13) (nm.n 14) (nm.n 3) (gwEl g cx e (nm.n 0) (nm.n 12) (nm.n 3) (nm.sub 0))]:=ag (kR _ _ _ _ _) (ag (kS _ _ _ _ _ _ (upL_wel g e cx _ _ _ _)) ar)
 have IE:(gL ([fk g cx nul (nm.n 0) (nm.n 3),fU g (nm.n 0) (nm.n 12) (nm.n 13) (nm.n 14) (nm.n 3) (gwEl g cx e (nm.n 0) (nm.n 12) (nm.n 3) (nm.sub 0))]++[cJ g (nm.n 4) (nm.n 5) (nm.n 6) (nm.n 9)]) (n+4+2+2)).2<=a.tmps.size:=hn
 have QO:(gL [fk g cx nul (nm.n 0) (nm.n 3),fU g (nm.n 0) (nm.n 12) (nm.n 13) (nm.n 14) (nm.n 3) (gwEl g cx e (nm.n 0) (nm.n 12) (nm.n 3) (nm.sub 0))] (n+4+2+2)).2+11<=a.tmps.size:=by rw[aX]at IE;exact IE
 have JE:=LQ (n+4+2+2)
 show aK P (jJ ([cg cx.s (nm.n 0) (nm.n 1) (nm.n 2) (nm.n 3),iy g t,aR (nm.n 4) (.bool false),ay 2 fun n=>[mk (some n) (.move (tm 1)),bi (some (n+1)) .len [tm n] [g.tSl] g.tInt,mk (some (nm.n 5)) (.assign (tm (n+1)))]] ++
  (aS (.label (nm.n 6))::([fk g cx nul (nm.n 0) (nm.n 3),fU g (nm.n 0) (nm.n 12) (nm.n 13) (nm.n 14) (nm.n 3) (gwEl g cx e (nm.n 0) (nm.n 12) (nm.n 3) (nm.sub 0))]++[cJ g (nm.n 4) (nm.n 5) (nm.n 6) (nm.n 9)]))) n).1 (Rt K E) a w
 refine pG (fun c hc=>?_) (by simp[gL]) ?_
 ·simp only[gL,cg,iy,aR,ay,rg,List.mem_cons,List.not_mem_nil,or_false]at hc
  rcases hc with rfl|rfl|rfl|rfl<;>rfl
 show LW P (cg cx.s (nm.n 0) (nm.n 1) (nm.n 2) (nm.n 3)::iy g t::([aR (nm.n 4) (.bool false),ay 2 fun n=>[mk (some n) (.move (tm 1)),bi (some (n+1)) .len [tm n] [g.tSl] g.tInt,mk (some (nm.n 5)) (.assign (tm (n+1)))],aS (.label (nm.n 6))] ++
  ([fk g cx nul (nm.n 0) (nm.n 3),fU g (nm.n 0) (nm.n 12) (nm.n 13) (nm.n 14) (nm.n 3) (gwEl g cx e (nm.n 0) (nm.n 12) (nm.n 3) (nm.sub 0))]++[cJ g (nm.n 4) (nm.n 5) (nm.n 6) (nm.n 9)]))) n _ a w
 refine ad (fZ (x:=nm.n 0) (m:=m) (k0:=k0) hw.ss (fldB_ok Jl) Ia (.inl rfl) Iq hk (by omega) (by omega) fun a1 HX Ig=>?_)
 have If:=HX.size
 have hp1':=HX.x1 ⟨Iu.1,by omega⟩
 have KM:a1.get 1=d:=(HX.g1 ⟨Iu.1,by omega⟩ Jm).trans hw.s1
 refine ad (sx (m:=m) K0 Ih ht KM hw.dst hw.Lw (by omega) Iq (by show k0<=n+4;omega) Jm (by show n+4+2<=_;omega) fun a2 w2 d2 HZ Li Ij=>?_)
 have Iw:=HZ.size
 have IB:Pv 1 m k0 n a a2:=hp1'.trans (HZ.mono Iq (by show n<=n+4;omega))
 have KU:a2.get (nm.n 0)=.slice base len c:=(HZ.get _ (by omega) (.inl (by omega))).trans Ig
 have Nb:=Nat.le_trans hw.Lw Ij.keeps.size
 show LW P _ (n+4+2) _ a2 w2
 refine pF K0 Ih (k0:=k0) (m0:=nm.n 0+1) (mB:=nm.n 12) (enc:=bL true ver (.list nul sz e) v) Li Ij.dst Nb (by rw[List.length_append];omega) (by omega) (by omega) (by omega) (by omega) LQ (by rw[Iw,If];exact IE) (fun a3 w3 d3 bs3 K3 hS3 JH hg3' LZ h3=>?_) fun a3 w3 d3 hS3 JH I2=>h a3 w3 d3 ?_ JH ?_
 ·have IJ:=hS3.size
  have J9:=hg3'.dst
  have Il:=Gr.far Ij.dst hg3'
  have IV:ac (fun k=>L<=k) w w3:=(Gr.far hw.dst Ij).trans Il
  have Ka:=hw.step hc IB Li Ij
  have Jh:∀ q,q<m->q≠1->a3.get q=a2.get q:=fun q hq JV=>hS3.get q JV (by omega) (.inl (by omega))
  have LP:WC cx true ver te L B O d3 bs3 a3 w3:=⟨J9,JH,by rw[Jh _ hc.s.1 hc.s.2];exact Ka.ss,by rw[Jh _ hc.ver.1 hc.ver.2];exact Ka.sv,fun hf=>by rw[Jh _ hc.fx.1 hc.fx.2];exact Ka.sf hf,Ka.nf,Ka.BL,Nat.le_trans Nb Il.size⟩
  exact mV K0 he (m:=nm.n 12) (by omega) (nD hro) LX (fun hs=>by rcases Jj with hh|hh;rw[hs]at hh;cases hh;exact hh) (fun h=>Lm.resolve_left h) LP (hc.mono (by omega) (by omega)) (fun _=>Ih) (by omega) (by omega) (by rw[IJ,Iw,If];omega) ((hS3.get _ (by omega) (by omega) (.inl (by omega))).trans KU) Ib Kd JM (fun i x hx=>by
   obtain⟨p,q,e1,e2,e3⟩:=NO i x hx
   exact⟨p,q,e1,e2,Rp.keep IV e3 (by omega) (by have:=hw.Lw;omega)⟩) LZ fun a4 w4 d4 Ix LF IU=>h3 a4 w4 d4 Ix LF IU
 ·exact IB.trans ⟨hS3.size,hS3.defers,fun i hi NG=>hS3.get i hi (by omega) (by omega)⟩
 ·have:=Ij.trans I2
  simpa[dm,List.append_assoc]using this
theorem rL {w:World}{X:Nat->Prop}{p:cY}{cs:List Value}{v:V}(hp:Al p=true)(_h:gT w X (.prim p) cs v):((bI p).wr v).length=iZ p:=by
 cases p<;>first|(exact absurd hp (by decide))|rfl
theorem wl (K0:KW P g av fl nl te)(p:cY):k8 P g av fl nl te (.prim p):=by
 by_cases hpu:p=.uuid
 ·subst hpu;exact wk K0
 intro nm cx ver B O L m k0 n T off t v d bs K E a w I7 IC ht hw hc Ih hk Jo hn hr hlim h
 simp only[okBodyW,if_neg hpu,Bool.and_eq_true,beq_iff_eq]at I7
 obtain⟨⟨⟨MO,I6⟩,hT⟩,Jl⟩:=I7
 subst hT
 obtain⟨NX,Mi,Ov⟩:=iT I6
 have Iq:=hc.le
 have Jm:=hc.one
 have TA:fj (.prim p)=false:=by cases p<;>first|rfl|cases MO
 have LD:Ty.agg (.prim p)=false/\Ty.sz (.prim p)=1:=by cases p<;>first|exact⟨rfl,rfl⟩|cases MO
 have Ja:bo g cx (.prim p) (nm.n 0) []=[bv (g.ap (bI p)) (nm.n 0)]:=by cases p<;>first|rfl|cases MO
 have Uw:=cj g cx (.prim p) (nm.n 0) []
 have JK:gP (.prim p) cx.s (nm.n 0) (nm.n 1) (nm.n 2) (nm.n 3)=cg cx.s (nm.n 0) (nm.n 1) (nm.n 2) (nm.n 3):=by unfold gP;rw[TA];rfl
 obtain⟨cs,Iz,hl⟩:=hr
 obtain⟨y,rfl⟩:∃ y,cs=[y]:=by
  have:=hl.len
  rw[LD.2]at this
  exact List.length_eq_one_iff.1 this
 have Mz:(bL true ver (.prim p) v).length=iZ p:=by
  simp only[bL,cN]
  exact rL MO hl
 have Nd:(dm (t,bL true ver (.prim p) v)).length=(uvar t).length+((uvar (dj (iZ p))).length+iZ p):=by simp[dm,Mz]
 have LO:dj (iZ p)=iZ p:=by cases p<;>rfl
 have T9:iZ p<4294967296:=by cases p<;>decide
 rw[Nd,LO]at hlim
 have IE:(gL (bo g cx (.prim p) (nm.n 0) []) (n+4+2+2)).2<=a.tmps.size:=by
  have:(gP (.prim p) cx.s (nm.n 0) (nm.n 1) (nm.n 2) (nm.n 3) n).2=n+4:=by rw[JK];rfl
  have hh:(gL (bo g cx (.prim p) (nm.n 0) []) ((gP (.prim p) cx.s (nm.n 0) (nm.n 1) (nm.n 2) (nm.n 3) n).2+2+2)).2<=a.tmps.size:=hn
  rw[this]at hh
  exact hh
 have hu:=Uw (n+4+2+2)
 show aK P (gS (gP (.prim p) cx.s (nm.n 0) (nm.n 1) (nm.n 2) (nm.n 3)::iy g t::iy g (iZ p)::bo g cx (.prim p) (nm.n 0) []) n).1 (Rt K E) a w
 rw[JK]
 refine aY (ad (fZ (x:=nm.n 0) (m:=m) (k0:=k0) hw.ss (fldB_ok Jl) (Iz 0 y rfl) (.inl rfl) Iq hk (by omega) (by omega) fun a1 HX Ig=>?_))
 have If:=HX.size
 have hp1':=HX.x1 ⟨Mi,Ov⟩
 have KM:a1.get 1=d:=(HX.g1 ⟨Mi,Ov⟩ Jm).trans hw.s1
 refine ad (sx (m:=m) K0 Ih ht KM hw.dst hw.Lw (by omega) Iq (by show k0<=n+4;omega) Jm (by show n+4+2<=_;omega) fun a2 w2 d2 HZ Li Ij=>?_)
 have Iw:=HZ.size
 have Nb:=Nat.le_trans hw.Lw Ij.keeps.size
 refine ad (sx (m:=m) K0 Ih T9 Li Ij.dst Nb (by rw[List.length_append];omega) Iq (by show k0<=n+4+2;omega) Jm (by show n+4+2+2<=_;omega) fun a3 w3 d3 Ie JH I2=>?_)
 have IJ:=Ie.size
 have JC:=Ij.trans I2
 have Je:Pv 1 m k0 n a a3:=(hp1'.trans (HZ.mono Iq (by show n<=n+4;omega))).trans (Ie.mono Iq (by show n<=n+4+2;omega))
 have Nf:a3.get (nm.n 0)=y:=by rw[Ie.get _ (by omega) (.inl (by omega)),HZ.get _ (by omega) (.inl (by omega))];exact Ig
 have LP:=hw.step hc Je JH JC
 have e:bo g cx (.prim p) (nm.n 0) []=bo g cx (.prim p) (nm.n 0) []++[]:=(List.append_nil _).symm
 rw[e]
 refine lg K0 NX LP hc (by show k0<=n+4+2+2;omega) (by omega) (by rw[IJ,Iw,If];exact IE) (by simp only[jP,TA,Bool.false_eq_true,if_false];exact⟨y,Nf,rfl⟩) (hl.keep (Gr.far hw.dst JC)) ?_ fun a' w' d' I3 h1' I0=>bf (h a' w' d' (Je.trans (I3.mono (Nat.le_refl _) (by show n<=n+4+2+2;omega))) h1' ?_)
 ·have:=rL MO hl
  simp only[cN,List.length_append]
  omega
 ·have:=JC.trans I0
  simp only[cN]at this
  simp only[dm,bL,cN,rL MO hl,LO]
  simpa[List.append_assoc]using this
theorem zd (K0:KW P g av fl nl te)(nul:Option Nat):k8 P g av fl nl te (.str nul):=by
 intro nm cx ver B O L m k0 n T off t v d bs K E a w I7 IC ht hw hc Ih hk Jo hn hr hlim h
 simp only[okBodyW,Bool.and_eq_true,decide_eq_true_eq,beq_iff_eq]at I7
 obtain⟨⟨⟨Iu,NX⟩,hT⟩,Jl⟩:=I7
 subst hT
 have Iq:=hc.le
 have Jm:=hc.one
 obtain⟨cs,Iz,hl⟩:=hr
 obtain⟨y,rfl⟩:∃ y,cs=[y]:=List.length_eq_one_iff.1 hl.len
 have Nd:(dm (t,bL true ver (.str nul) v)).length=(uvar t).length+((uvar (dj (bL true ver (.str nul) v).length)).length+(bL true ver (.str nul) v).length):=by simp[dm]
 rw[Nd]at hlim
 have LQ:i6 (bo g cx (.str nul) (nm.n 0) []):=cj _ _ _ _ _
 have IE:(gL (bo g cx (.str nul) (nm.n 0) []++[cJ g (nm.n 4) (nm.n 5) (nm.n 6) (nm.n 9)]) (n+4+2+2)).2<=a.tmps.size:=by
  have hh:(gL ([cg cx.s (nm.n 0) (nm.n 1) (nm.n 2) (nm.n 3),iy g t]++rr g (nm.n 4) (nm.n 5) (nm.n 6)++bo g cx (.str nul) (nm.n 0) []++[cJ g (nm.n 4) (nm.n 5) (nm.n 6) (nm.n 9)]) n).2<=a.tmps.size:=hn
  rw[List.append_assoc,aX]at hh
  exact hh
 have QO:(gL (bo g cx (.str nul) (nm.n 0) []) (n+4+2+2)).2+11<=a.tmps.size:=by rw[aX]at IE;exact IE
 have JE:=LQ (n+4+2+2)
 have Ja:gwBody g cx t (.str nul) nm=jJ ([cg cx.s (nm.n 0) (nm.n 1) (nm.n 2) (nm.n 3),iy g t,aR (nm.n 4) (.bool false),ay 2 fun n=>[mk (some n) (.move (tm 1)),bi (some (n+1)) .len [tm n] [g.tSl] g.tInt,mk (some (nm.n 5)) (.assign (tm (n+1)))]] ++
  (aS (.label (nm.n 6))::(bo g cx (.str nul) (nm.n 0) []++[cJ g (nm.n 4) (nm.n 5) (nm.n 6) (nm.n 9)]))):=by
  simp only[gwBody,rr,List.cons_append,List.nil_append]
 rw[Ja]
 refine pG (fun c hc=>?_) ?_ ?_
 ·simp only[gL,cg,iy,aR,ay,rg,List.mem_cons,List.not_mem_nil,or_false]at hc
  rcases hc with rfl|rfl|rfl|rfl<;>rfl
 ·rw[aX]
  simp[gL]
 show LW P (cg cx.s (nm.n 0) (nm.n 1) (nm.n 2) (nm.n 3)::iy g t::([aR (nm.n 4) (.bool false),ay 2 fun n=>[mk (some n) (.move (tm 1)),bi (some (n+1)) .len [tm n] [g.tSl] g.tInt,mk (some (nm.n 5)) (.assign (tm (n+1)))],aS (.label (nm.n 6))] ++
  (bo g cx (.str nul) (nm.n 0) []++[cJ g (nm.n 4) (nm.n 5) (nm.n 6) (nm.n 9)]))) n _ a w
 refine ad (fZ (x:=nm.n 0) (m:=m) (k0:=k0) hw.ss (fldB_ok Jl) (Iz 0 y rfl) (.inl rfl) Iq hk (by omega) (by omega) fun a1 HX Ig=>?_)
 have If:=HX.size
 have hp1':=HX.x1 ⟨Iu.1,by omega⟩
 have KM:a1.get 1=d:=(HX.g1 ⟨Iu.1,by omega⟩ Jm).trans hw.s1
 refine ad (sx (m:=m) K0 Ih ht KM hw.dst hw.Lw (by omega) Iq (by show k0<=n+4;omega) Jm (by show n+4+2<=_;omega) fun a2 w2 d2 HZ Li Ij=>?_)
 have Iw:=HZ.size
 have IB:Pv 1 m k0 n a a2:=hp1'.trans (HZ.mono Iq (by show n<=n+4;omega))
 have KU:a2.get (nm.n 0)=y:=(HZ.get _ (by omega) (.inl (by omega))).trans Ig
 have Nb:=Nat.le_trans hw.Lw Ij.keeps.size
 show LW P _ (n+4+2) _ a2 w2
 refine pF K0 Ih (k0:=k0) (m0:=nm.n 0+1) (mB:=max (nm.n 4) (nm.n 5)+1) (enc:=bL true ver (.str nul) v) Li Ij.dst Nb (by rw[List.length_append];omega) (by omega) (by omega) (by omega) (by omega) LQ (by rw[Iw,If];exact IE) (fun a3 w3 d3 bs3 K3 hS3 JH hg3' LZ h3=>?_) fun a3 w3 d3 hS3 JH I2=>h a3 w3 d3 ?_ JH ?_
 ·have IJ:=hS3.size
  have J9:=hg3'.dst
  have Il:=Gr.far Ij.dst hg3'
  have IV:ac (fun k=>L<=k) w w3:=(Gr.far hw.dst Ij).trans Il
  have Ka:=hw.step hc IB Li Ij
  have Jh:∀ q,q<m->q≠1->a3.get q=a2.get q:=fun q hq JV=>hS3.get q JV (by omega) (.inl (by omega))
  have LP:WC cx true ver te L B O d3 bs3 a3 w3:=⟨J9,JH,by rw[Jh _ hc.s.1 hc.s.2];exact Ka.ss,by rw[Jh _ hc.ver.1 hc.ver.2];exact Ka.sv,fun hf=>by rw[Jh _ hc.fx.1 hc.fx.2];exact Ka.sf hf,Ka.nf,Ka.BL,Nat.le_trans Nb Il.size⟩
  have e:bo g cx (.str nul) (nm.n 0) []=bo g cx (.str nul) (nm.n 0) []++[]:=(List.append_nil _).symm
  rw[e]
  have IR:bL true ver (.str nul) v=(cN true ver (.str nul)).wr v:=by simp only[bL]
  rw[IR]at LZ h3
  exact lg K0 NX LP (hc.mono (by omega) (by omega)) (by omega) (by omega) (by rw[IJ,Iw,If];omega) ⟨y,(hS3.get _ (by omega) (by omega) (.inl (by omega))).trans KU,rfl⟩ (hl.keep IV) LZ fun a4 w4 d4 Ix LF IU=>bf (h3 a4 w4 d4 Ix LF IU)
 ·exact IB.trans ⟨hS3.size,hS3.defers,fun i hi NG=>hS3.get i hi (by omega) (by omega)⟩
 ·have:=Ij.trans I2
  simpa[dm,List.append_assoc]using this
theorem pL {cx:Cx}{ver:Int}{B O L m k0 T key t:Nat}{enc:Bs}{d:Value}{bs:Bs}{K E:Act->World->Prop}(IC:cx.hf=true)(Ih:fl=true)(Xq:m<=key):∀ (fs:Fds) (ms:List Nm) (vs:List V) (n:Nat) (a:Act) (w:World),qv P g av fl nl te fs->okTagdW ⟨P,g,av,nl⟩ cx.hf m k0 T fs ms=true->iJ P av g T fs ms=true->fs.tagsOf.Nodup->(t,enc)∈wrTgd true ver fs vs ->
  WC cx true ver te L B O d bs a w->mc cx m k0->a.get key=.int .u32 (t:Int)->key<n->k0<=key->k0<=a.tmps.size->(cd g key (gwTagd g cx fs ms) n).2<=a.tmps.size->RpF w (fun k=>L<=k) fs B O vs->bs.length+(dm (t,enc)).length<=di ->
  (∀ a' w' d',Pv 1 m k0 n a a'->a'.get 1=d'->Gr L te d w d' (bs++dm (t,enc)) w'->K a' w')->aK P (cd g key (gwTagd g cx fs ms) n).1 (Rt K E) a w
 | .nil,ms,vs,n,a,w,_,_,_,_,L5,_,_,_,_,_,_,_,_,_,_=>by simp[wrTgd]at L5
 | .cons lo hi tag df off ty r,ms,vs,n,a,w,hb,Io,SK,RF,L5,hw,hc,Jf,Ma,J0,Jo,hn,hr,hlim,h=>by
  obtain⟨x,vs',rfl,hx,J4⟩:=hr
  simp only[okTagdW,Bool.and_eq_true,Bool.or_eq_true]at Io
  simp only[iJ,Bool.and_eq_true]at SK
  cases tag with
  | none=>
   have e1:gwTagd g cx (.cons lo hi none df off ty r) ms=gwTagd g cx r ms.tail:=by simp only[gwTagd]
   have e2:wrTgd true ver (.cons lo hi none df off ty r) (x::vs')=wrTgd true ver r vs':=by simp only[wrTgd,List.nil_append,List.tail_cons]
   rw[e1]at hn ⊢
   rw[e2]at L5
   exact pL IC Ih Xq r ms.tail vs' n a w hb.2 Io.2 SK.2 (by simpa[Fds.tagsOf]using RF) L5 hw hc Jf Ma J0 Jo hn J4 hlim h
  | some q=>
   simp only[Bool.and_eq_true,decide_eq_true_eq]at SK
   have I7:=Io.1.resolve_left (by simp)
   have e1:gwTagd g cx (.cons lo hi (some q) df off ty r) ms=(q,gwBody g cx q ty (ms.headD (.mk [] [])))::gwTagd g cx r ms.tail:=by simp only[gwTagd]
   have e2:wrTgd true ver (.cons lo hi (some q) df off ty r) (x::vs')=(if lw ty df x then[] else[(q,bL true ver ty x)])++wrTgd true ver r vs':=by simp only[wrTgd,List.headD_cons,List.tail_cons];rfl
   have hnd':q∉r.tagsOf/\r.tagsOf.Nodup:=by simpa[Fds.tagsOf]using RF
   have Lu:∀ y∈wrTgd true ver r vs',y.1∈r.tagsOf:=fun y hy=>oC true ver r vs' y hy
   rw[e1]at hn ⊢
   rw[e2,List.mem_append]at L5
   have U2:=up_wbody g ty cx q (ms.headD (.mk [] [])) (n+2)
   have hup2:=jR g key (gwTagd g cx r ms.tail) (up_wtagd g r cx ms.tail) (gwBody g cx q ty (ms.headD (.mk [] [])) (n+2)).2
   have Kf:(cd g key (gwTagd g cx r ms.tail) (gwBody g cx q ty (ms.headD (.mk [] [])) (n+2)).2).2<=a.tmps.size:=hn
   have Iq:=hc.le
   have Jm:=hc.one
   have wcOf:∀ a',Pv key m k0 n a a'->(∀ i,i<n->a'.get i=a.get i)->WC cx true ver te L B O d bs a' w:=fun a' hp Ik=>⟨hw.dst,by rw[Ik 1 (by omega)];exact hw.s1,by rw[Ik _ (by have:=hc.s;omega)];exact hw.ss,by rw[Ik _ (by have:=hc.ver;omega)];exact hw.sv,fun hf=>by rw[Ik _ (by have:=hc.fx;omega)];exact hw.sf hf,hw.nf,hw.BL,hw.Lw⟩
   have pvOf:∀ a',Pv key m k0 n a a'->(∀ i,i<n->a'.get i=a.get i)->Pv 1 m k0 n a a':=fun a' hp Ik=>⟨hp.size,hp.defers,fun i _ hi=>Ik i (by omega)⟩
   refine zZ (x:=key) (m:=m) (k0:=k0) Jf Ma Iq (by omega) (by omega) (fun M9 a1 HX Ik=>?_) (fun M9 a1 HX Ik=>?_)
   ·subst M9
    have If:=HX.size
    have Vm:lw ty df x=false/\enc=bL true ver ty x:=by
     rcases L5 with hm|hm
     ·split at hm
      ·simp at hm
      ·rename_i I4
       simp only[List.mem_singleton,Prod.mk.injEq]at hm
       exact⟨by simpa using I4,hm.2⟩
     ·exact absurd (Lu _ hm) hnd'.1
    obtain⟨_,rfl⟩:=Vm
    exact hb.1 (ms.headD (.mk [] [])) cx ver B O L m k0 (n+2) T off t x d bs K E a1 w I7 IC SK.1.1 (wcOf a1 HX Ik) hc Ih (by omega) (by omega) (by omega) hx hlim fun a' w' d' I3 h1' I0=>h a' w' d' ((pvOf a1 HX Ik).trans (I3.mono (Nat.le_refl _) (by omega))) h1' I0
   ·have If:=HX.size
    have hm:(t,enc)∈wrTgd true ver r vs':=by
     rcases L5 with hm|hm
     ·split at hm
      ·simp at hm
      ·simp only[List.mem_singleton,Prod.mk.injEq]at hm
       exact absurd hm.1 M9
     ·exact hm
    exact pL IC Ih Xq r ms.tail vs' _ a1 w hb.2 Io.2 SK.2 hnd'.2 hm (wcOf a1 HX Ik) hc ((Ik key Ma).trans Jf) (by omega) J0 (by omega) (by omega) J4 hlim fun a' w' d' I3 h1' I0=>h a' w' d' ((pvOf a1 HX Ik).trans (I3.mono (Nat.le_refl _) (by omega))) h1' I0
theorem sp (K0:KW P g av fl nl te)(Ih:fl=true){s TT kt o F sz B O L k0 n:Nat}{agg:Bool}{mm:Value}{t:List (Nat × Bs)}{d:Value}{bs:Bs}{K:Act->World->Prop}{Q:Exit->Act->World->Prop}{a:Act}{w:World}(Ng:a.get s=pt B O)(hF:bw P TT kt F o agg sz)(K9:w.cell? ⟨B,O+o,none⟩=some mm)(Tn:B<w.heap.size/\d.ownBlock≠some B)(IW:cF w (fun k=>L<=k) mm t)
  (h1:a.get 1=d) (hd:aA w L te d bs) (hL:L<=w.heap.size) (hlim:bs.length+(bQ t).length<=di) (Jm:1<k0) (hk:k0<=n) (hn:n+5<=a.tmps.size)
  (h:∀ a' w' d',Pv 1 k0 k0 n a a'->a'.get 1=d'->Gr L te d w d' (bs++bQ t) w'->K a' w'):aK P (em g s TT kt n).1 (Exit.then K Q) a w:=by
 refine aq (ah ?_)
 rw[aa,Ng]
 refine aG (by rw[aa,ao (by omega)];rfl) ?_
 refine bN (by rw[aa,ao (by simp only[ab];omega)]) hF (ah ?_)
 rw[aa,al (by omega),al (by omega),al (by omega),h1]
 refine aN (vs:=#[pt B (O+o),d]) (K0.teE Ih) ?_ (K0.teC Ih w B (O+o) mm L t d _ K9 Tn IW hd hL hlim) fun e4 w4 hR4=>?_
 ·simp only[List.map_cons,List.map_nil,aa]
  rw[al (by omega),ao (by simp only[ab];omega),ao (by simp only[ab];omega)]
  rfl
 obtain⟨d4,SB,IU⟩:=hR4
 refine⟨d4,SB,ak (wpList_nil (h _ w4 d4 ?_ ?_ IU))⟩
 ·exact((((((Pv.refl _ _ _ _ _).put _ (by omega)).put _ (by omega)).put _ (by omega)).put _ (by omega)).put _ (by omega)).put _ (.inl rfl)
 ·rw[ao (by simp only[ab];omega),aa,ao (by simp only[ab];omega)]
theorem dW (x:Nat):0<(uvar x).length:=by
 show 0<(c7 (8+1) x).length
 simp only[c7]
 split<;>simp
theorem q8:∀ t:List (Nat × Bs),t.length<=(bQ t).length
 | []=>Nat.le_refl _
 | p::t=>by
  have:=q8 t
  have:=dW p.1
  simp only[bQ,List.map_cons,List.flatten_cons,List.length_append,List.length_cons,dm]at *
  omega
theorem pp (K0:KW P g av fl nl te){fs:Fds}(hb:qv P g av fl nl te fs):ma P g av fl nl te fs:=by
 intro nm cx fx ver B O L m k0 n T kt toff vs t d bs K E a w Io hw hc Ih hk Jo hn hr ht hlim h
 simp only[ja,Bool.and_eq_true,Bool.or_eq_true,Bool.not_eq_true',decide_eq_true_eq]at Io
 obtain⟨IN,Io⟩:=Io
 have Iq:=hc.le
 have Jm:=hc.one
 cases IW:fs.tagged with
 | false=>
  have e:bd g cx fs T kt nm=gb g cx T kt:=by simp[bd,gx,IW]
  have e2:fy fx (wrTgd fx ver fs vs) t=bH fx t:=by rw[eW fx ver fs vs IW,i9]
  rw[e]at hn ⊢
  rw[e2]at hlim h
  have e3:gb g cx T kt=gb g cx T kt++[]:=(List.append_nil _).symm
  rw[e3]
  refine zY (_off:=0) (F:=qn P T kt) (sz:=1) (agg:=true) K0 Ih hw hc hk hn ?_ ht hlim fun a' w' d' I3 h1' I0=>bf (h a' w' d' I3 h1' I0)
  cases toff with
  | none=>simpa[nM]using IN
  | some o=>
   simp only[nM,Bool.and_eq_true]at IN
   exact⟨IN.1,fldB_ok IN.2⟩
 | true=>
  obtain⟨⟨⟨⟨Iu,U7⟩,SJ⟩,RF⟩,Wa⟩:=Io.resolve_left (by rw[IW];simp)
  cases toff with
  | none=>
   have hf:cx.hf=false:=by simpa[nM]using IN
   have J8:=hw.nf hf
   subst J8
   have e:bd g cx fs T kt nm=[]:=by simp[bd,gx,IW,hf]
   rw[e]
   exact bf (h a w d (Pv.refl _ _ _ _ _) hw.s1 (by simpa[fy]using Gr.refl hw.dst))
  | some o=>
  simp only[nM,Bool.and_eq_true]at IN
  have hf:=IN.1
  have hF:=fldB_ok IN.2
  have hfl':=Ih hf
  have T':=BB U7
  obtain⟨mm,K9,Rl⟩:=ht
  have ML:=hc.s
  have e:bd g cx fs T kt nm=[gX cx (gS (aR (nm.n 0) (.slice none 0 0)::(c9 g cx.s (nm.n 0) (nm.n 1) fs nm.s++[mN g cx.s T kt (nm.n 0) (nm.n 1),gN g (nm.n 0) (nm.n 1) (nm.n 2) (nm.n 3) (nm.n 4) (nm.n 5) (gwTagd g cx fs nm.s),em g cx.s T kt]))) bp]:=by
   simp[bd,gx,IW,hf]
  rw[e]at hn ⊢
  have Mk:(gL (c9 g cx.s (nm.n 0) (nm.n 1) fs nm.s++[mN g cx.s T kt (nm.n 0) (nm.n 1),gN g (nm.n 0) (nm.n 1) (nm.n 2) (nm.n 3) (nm.n 4) (nm.n 5) (gwTagd g cx fs nm.s),em g cx.s T kt]) (n+1)).2<=a.tmps.size:=hn
  rw[aX]at Mk
  have U1:=iC g cx.s (nm.n 0) (nm.n 1) fs nm.s (n+1)
  generalize Pg:(gL (c9 g cx.s (nm.n 0) (nm.n 1) fs nm.s) (n+1)).2=nc at Mk U1
  have Kf:(cd g (nc+10+6) (gwTagd g cx fs nm.s) (nc+10+7)).2+1+5<=a.tmps.size:=Mk
  have U0:=jR g (nc+10+6) (gwTagd g cx fs nm.s) (up_wtagd g fs cx nm.s) (nc+10+7)
  refine ad (o5 (x:=n) (m:=m) (k0:=k0) (hw.sf hf) Iq hk (by omega) fun a1 HX=>?_)
  have hp1':Pv 1 m k0 n a a1:=⟨HX.size,HX.defers,fun s hs Iw=>HX.get s (by omega) Iw⟩
  have If:=HX.size
  have Ig:a1.get 1=d:=by rw[HX.get 1 (by omega) (.inl Jm)];exact hw.s1
  have Ng:a1.get cx.s=pt B O:=by rw[HX.get _ (by omega) (.inl ML.1)];exact hw.ss
  cases fx with
  | false=>
   simp only[Bool.false_eq_true,if_false]
   exact .skip (bf (h a1 w d hp1' Ig (by simpa[fy]using Gr.refl hw.dst)))
  | true=>
   simp only[if_true]
   have Jb:=mT true ver fs vs
   have TD:(wrTgd true ver fs vs).length=(i7 fs vs).length:=by rw[<- Jb,List.length_map]
   have Ma:=q0 fs vs
   have NX:(fy true (wrTgd true ver fs vs) t).length=(uvar (dj ((i7 fs vs).length+t.length))).length+((bQ (wrTgd true ver fs vs)).length+(bQ t).length):=by simp[fy,TD]
   rw[NX]at hlim
   have Mo:=q8 t
   refine aY (ad (aq (ak (wpList_nil ?_))))
   show LW P _ (n+1) _ (a1.put (some (nm.n 0)) (.slice none 0 0)) w
   have g21:(a1.put (some (nm.n 0)) (.slice none 0 0)).get 1=d:=by rw[al (by omega)];exact Ig
   have g2s:(a1.put (some (nm.n 0)) (.slice none 0 0)).get cx.s=pt B O:=by rw[al (by omega)];exact Ng
   have g2q:(a1.put (some (nm.n 0)) (.slice none 0 0)).get (nm.n 0)=.slice none 0 0:=ao (by omega)
   have HZ:Pv 1 m k0 n a (a1.put (some (nm.n 0)) (.slice none 0 0)):=hp1'.put _ (by omega)
   generalize a1.put (some (nm.n 0)) (.slice none 0 0)=a2 at g21 g2s g2q HZ ⊢
   have Iw:=HZ.size
   refine pK K0 (te:=nm.n 0) (m:=m) (k0:=k0) (TT:=T) (B:=B) (O:=O) (L:=L) T' K0.dInt ⟨Iu.1,by omega⟩ ML.1 Iq hw.BL fs nm.s vs (n+1) (.slice none 0 0) [] a2 w SJ g2s g2q (.inl ⟨rfl,rfl⟩) hr hw.Lw (by simp;omega) (by omega) (by rw[Pg];omega) fun a3 w3 v3 Ie OX Ns=>?_
   rw[List.nil_append]at Ns
   rw[Pg]
   have IJ:=Ie.size
   have Il:ac (fun _=>False) w w3:=Ns.keeps.mono fun k _ hk=>by simp[Value.ownBlock]at hk
   have g31:a3.get 1=d:=by rw[Ie.get 1 (by omega) (.inl Jm)];exact g21
   have g3s:a3.get cx.s=pt B O:=by rw[Ie.get _ (by omega) (.inl ML.1)];exact g2s
   have Je:Pv 1 m k0 n a a3:=HZ.trans ⟨Ie.size,Ie.defers,fun i _ hi=>Ie.get i (by omega) (by omega)⟩
   have J9:aA w3 L te d bs:=hw.dst.keep Il fun _ _ h=>h
   have Tv:∀ j,v3.ownBlock=some j->d.ownBlock≠some j:=fun j hj K5=>by
    have h1:=(hw.dst.own K5).2
    rcases Ns.own j hj with h2|h2
    ·simp[Value.ownBlock]at h2
    ·omega
   have Th:=Nat.le_trans hw.Lw Il.size
   have Mq:w3.cell? ⟨B,O+o,none⟩=some mm:=(Il.mono (Y:=fun k=>L<=k) fun _ _ h=>h.elim).cell (by have:=hw.BL;omega) K9
   have Lj:cF w3 (fun k=>L<=k) mm t:=Rl.keep (Il.mono fun _ _ h=>h.elim)
   obtain⟨base3,c3,Qn⟩:=Ns.at_.form
   refine ad (Ad K0 hfl' T' (k0:=k0) (q:=nm.n 0) (s:=cx.s) (cnt:=(i7 fs vs).length) (c:=c3) (base:=base3) (by rw[OX];exact Qn) g3s hF Mq Lj (by simp only[di]at hlim;omega) (by omega) g31 J9 Th (by omega) ⟨by omega,by omega⟩ (by omega) (by omega) (by omega) fun a4 w4 d4 Ix LF IU=>?_)
   show LW P [gN g (nm.n 0) (nm.n 1) (nm.n 2) (nm.n 3) (nm.n 4) (nm.n 5) (gwTagd g cx fs nm.s),em g cx.s T kt] (nc+10) _ a4 w4
   have Kb:=Ix.size
   have LS:Pv 1 m k0 n a a4:=Je.trans (Ix.mono Iq (by omega))
   have Mv:Gr L te d w d4 (bs++uvar (dj ((i7 fs vs).length+t.length))) w4:=Gr.pre Il (fun _ _ h=>h) IU
   have hL4:=Nat.le_trans hw.Lw Mv.keeps.size
   have Mm:jg w4 L g.tU32 v3 (i7 fs vs):=Ns.at_.keep IU.keeps fun j hj hX=>Tv j hj hX
   have Uu:∀ j,v3.ownBlock=some j->d4.ownBlock≠some j:=fun j hj K5=>by
    rcases IU.own j K5 with h2|h2
    ·exact Tv j hj h2
    ·have:=(Ns.at_.own hj).2
     omega
   refine ad ?_
   rw[aO,aO]
   refine xy (m:=m) (k0:=k0) (tv:=nm.n 2) (n:=nc+10) (L:=L) (es:=(wrTgd true ver fs vs).map dm) K0.dInt T' ((Ix.get (nm.n 0) (by omega) (.inl (by omega))).trans OX) Mm Uu LF Mv.dst (by omega) (by rw[List.length_map,TD]) (by omega) ⟨by omega,Iu.2.2.1⟩ (by omega) (by omega) (by show(cd g (nc+10+6) (gwTagd g cx fs nm.s) (nc+10+7)).2+1<=_;omega) U0 (fun j k e a5 w5 d5 PZ Qp Js Jc OT Kg=>?_) fun a5 w5 d5 Js OT Kg=>?_
   ·have N2:=Js.size
    rw[List.getElem?_map,Option.map_eq_some_iff]at Qp
    obtain⟨⟨k',enc⟩,hp,rfl⟩:=Qp
    have J0:k=k':=by
     have:(i7 fs vs)[j]?=some k':=by rw[<- Jb,List.getElem?_map,hp];rfl
     rw[PZ]at this
     exact Option.some.inj this
    subst J0
    have Kc:Pv 1 m k0 n a a5:=LS.trans (Js.mono (by omega) (by omega))
    have L8:=Mv.trans Kg
    have Rc:=hw.step hc Kc OT L8
    have hsum:(((wrTgd true ver fs vs).map dm).take j).flatten.length+(dm (k,enc)).length<=(bQ (wrTgd true ver fs vs)).length:=by
     have hj:j<(wrTgd true ver fs vs).length:=(List.getElem?_eq_some_iff.1 hp).1
     have e1:bQ (wrTgd true ver fs vs)=(((wrTgd true ver fs vs).map dm).take (j+1)).flatten++(((wrTgd true ver fs vs).map dm).drop (j+1)).flatten:=by rw[<- List.flatten_append,List.take_append_drop];rfl
     have e2:((wrTgd true ver fs vs).map dm).take (j+1)=((wrTgd true ver fs vs).map dm).take j++[dm (k,enc)]:=by rw[List.take_add_one,List.getElem?_map,hp];rfl
     rw[e1,e2]
     simp only[List.flatten_append,List.flatten_cons,List.flatten_nil,List.append_nil,List.length_append]
     omega
    exact pL hf hfl' (m:=nm.n 2+1) (key:=nc+10+6) (T:=T) (by omega) fs nm.s vs (nc+10+7) a5 w5 hb Wa SJ RF (List.mem_of_getElem? hp) Rc (hc.mono (by omega) (by omega)) Jc (by omega) (by omega) (by omega) (by omega) (hr.far (Gr.far hw.dst L8) hw.BL hw.Lw) (by simp only[List.length_append];omega) fun a6 w6 d6 hp6 QC Qk=>⟨d6,hp6.mono (Nat.le_refl _) (by omega),QC,Qk⟩
   ·have N2:=Js.size
    have Kc:Pv 1 m k0 n a a5:=LS.trans (Js.mono (by omega) (by omega))
    have L8:=Mv.trans Kg
    have IV:=Gr.far hw.dst L8
    refine ad (sp K0 hfl' (k0:=k0) ((Kc.get _ ML.2 (.inl ML.1)).trans hw.ss) hF (IV.cell (by have:=hw.BL;omega) K9) (L8.dst.away hw.BL (Nat.le_trans hw.Lw L8.keeps.size)) (Rl.keep IV) OT L8.dst (Nat.le_trans hw.Lw L8.keeps.size) ?_ (by omega) (by show k0<=(cd g (nc+10+6) (gwTagd g cx fs nm.s) (nc+10+7)).2+1;omega) (by show(cd g (nc+10+6) (gwTagd g cx fs nm.s) (nc+10+7)).2+1+5<=_;omega) fun a6 w6 d6 hp6 QC Qk=>bf (bf (h a6 w6 d6 (Kc.trans (hp6.mono Iq (by show n<=(cd g (nc+10+6) (gwTagd g cx fs nm.s) (nc+10+7)).2+1;omega))) QC ?_)))
    ·have:(((wrTgd true ver fs vs).map dm).flatten).length=(bQ (wrTgd true ver fs vs)).length:=rfl
     simp only[List.length_append,this]
     omega
    ·have:=L8.trans Qk
     simpa[fy,TD,bQ,List.append_assoc]using this
mutual
theorem EH (K0:KW P g av fl nl te):∀ ty:Ty,wo P g av fl nl te ty
 | .prim p=>mR K0 (ty:=.prim p) (x:=fun nm=>nm.l.drop 4) rfl (fun _ _=>rfl) (fun hf m k0 T off nm h=>by
   simp only[ln,Bool.and_eq_true,beq_iff_eq,Bool.or_eq_true]at h
   refine⟨h.1.1.1,h.1.1.2,h.1.2,fun hu=>?_⟩
   obtain rfl:p=.uuid:=by cases p<;>first|rfl|cases hu
   rcases h.2 with h2|h2
   ·cases h2
   ·have:=h.1.1.1
    simp only[du,q7,Bool.and_eq_true]at this
    exact⟨h2,this.1.1.1.1⟩)
 | .str nul=>mR K0 (ty:=.str nul) (x:=fun nm=>nm.l.drop 4) rfl (fun _ _=>rfl) (fun hf m k0 T off nm h=>by
   simp only[ln,Bool.and_eq_true,beq_iff_eq]at h
   exact⟨h.1.1,h.1.2,h.2,fun hu=>by cases hu⟩)
 | .bytes nul=>mR K0 (ty:=.bytes nul) (x:=fun _=>[]) rfl (fun _ _=>rfl) (fun hf m k0 T off nm h=>by
   simp only[ln,Bool.and_eq_true,beq_iff_eq]at h
   exact⟨h.1.1,h.1.2,h.2,fun hu=>by cases hu⟩)
 | .list _ _ e=>wH K0 (wr_el K0 e)
 | .struct none _ fs=>z4 (wr_fds K0 fs) (pp K0 (wr_tagd K0 fs))
 | .struct (some _) _ fs=>z1 K0 (wr_fds K0 fs) (pp K0 (wr_tagd K0 fs))
theorem wr_el (K0:KW P g av fl nl te):∀ ty:Ty,wq P g av fl nl te ty
 | .prim p=>na K0 (ty:=.prim p) rfl (fun _ _ _ _ _=>rfl) (fun hf m k0 E' esz nm h=>by
   simp only[okElW,Bool.and_eq_true,beq_iff_eq,Bool.or_eq_true]at h
   refine⟨h.1.1.1.1,h.1.1.1.2,h.1.1.2,h.1.2,fun hu=>?_⟩
   obtain rfl:p=.uuid:=by cases p<;>first|rfl|cases hu
   rcases h.2 with h2|h2
   ·cases h2
   ·have:=h.1.1.1.1
    simp only[du,q7,Bool.and_eq_true]at this
    exact⟨h2,this.1.1.1.1⟩)
 | .str nul=>na K0 (ty:=.str nul) rfl (fun _ _ _ _ _=>rfl) (fun hf m k0 E' esz nm h=>by
   simp only[okElW,Bool.and_eq_true,beq_iff_eq]at h
   exact⟨h.1.1.1,h.1.1.2,h.1.2,h.2,fun hu=>by cases hu⟩)
 | .bytes nul=>na K0 (ty:=.bytes nul) rfl (fun _ _ _ _ _=>rfl) (fun hf m k0 E' esz nm h=>by
   simp only[okElW,Bool.and_eq_true,beq_iff_eq]at h
   exact⟨h.1.1.1,h.1.1.2,h.1.2,h.2,fun hu=>by cases hu⟩)
 | .list _ _ _=>fun _ _ _ _ _ _ _ _ _ _ _ _ _ _ _ _ _ _ _ _ _ _ _ _ _ _ _ h=>by simp[okElW]at h
 | .struct none _ fs=>rS (wr_fds K0 fs) (pp K0 (wr_tagd K0 fs))
 | .struct (some _) _ _=>fun _ _ _ _ _ _ _ _ _ _ _ _ _ _ _ _ _ _ _ _ _ _ _ _ _ _ _ h=>by simp[okElW]at h
theorem wr_fds (K0:KW P g av fl nl te):∀ fs:Fds,m6 P g av fl nl te fs
 | .nil=>wU
 | .cons _ _ _ _ _ ty r=>uP (EH K0 ty) (wr_fds K0 r)
theorem wr_tagd (K0:KW P g av fl nl te):∀ fs:Fds,qv P g av fl nl te fs
 | .nil=>trivial
 | .cons _ _ _ _ _ ty r=>⟨wr_body K0 ty,wr_tagd K0 r⟩
theorem wr_body (K0:KW P g av fl nl te):∀ ty:Ty,k8 P g av fl nl te ty
 | .prim p=>wl K0 p
 | .str nul=>zd K0 nul
 | .list _ _ e=>wm K0 (wr_el K0 e)
 | .bytes _=>fun _ _ _ _ _ _ _ _ _ _ _ _ _ _ _ _ _ _ _ h=>by simp[okBodyW]at h
 | .struct none toff fs=>rA K0 toff fs
 | .struct (some _) _ _=>fun _ _ _ _ _ _ _ _ _ _ _ _ _ _ _ _ _ _ _ h=>by simp[okBodyW]at h
end
theorem tC (K0:KW P g av fl nl te)(fs:Fds):ma P g av fl nl te fs:=pp K0 (wr_tagd K0 fs)
end
section
variable {P:Program} {K:Kn}
def yG (P:Program)(T:Nat):Bool:=match P.underlying T with|some (.interface _)=>true|_=>false
theorem ifaceB_ok {T:Nat}(h:yG P T=true):∃ ms,P.underlying T=some (.interface ms):=by
 unfold yG at h
 split at h
 ·rename_i ms hms
  exact⟨ms,hms⟩
 ·cases h
def EM (P:Program)(T:Nat):Bool:=
 match P.underlying T with
 | some (.struct fs)=>(match fs.toList with|[f0,f1]=>f0.offset==0&&f1.offset==1&&jw P f0.type false 1&&jw P f1.type false 1|_=>false)
 | _=>false
theorem twoB_ok {T:Nat}(h:EM P T=true):∃ fs f0 f1,P.underlying T=some (.struct fs)/\fs.toList=[f0,f1]/\f0.offset=0/\f1.offset=1/\bc P f0.type false 1/\bc P f1.type false 1:=by
 unfold EM at h
 split at h
 ·rename_i fs IQ
  split at h
  ·rename_i f0 f1 hl
   simp only[Bool.and_eq_true,beq_iff_eq]at h
   exact⟨fs,f0,f1,IQ,hl,h.1.1.1,h.1.1.2,varB_ok h.1.2,varB_ok h.2⟩
  ·cases h
 ·cases h
def G1 (P:Program)(S U:Nat):Bool:=
 (match P.underlying S with|some (.slice e)=>e==U|_=>false)&&(match P.info? U with|some i=>(match i.zero with|some z=>i.size==1&&i.bytes==1&&z.cells.size==1|none=>false)|none=>false)
theorem octB_ok {S U:Nat}(h:G1 P S U=true):OctT P S U:=by
 simp only[G1,Bool.and_eq_true]at h
 obtain⟨h1,h2⟩:=h
 refine⟨?_,?_⟩
 ·split at h1
  ·rename_i e he
   rw[he,beq_iff_eq.1 h1]
  ·cases h1
 ·split at h2
  ·rename_i i hi
   split at h2
   ·rename_i z hz
    simp only[Bool.and_eq_true,beq_iff_eq]at h2
    exact⟨i,z,hi,hz,h2.1.1,h2.1.2,h2.2⟩
   ·cases h2
  ·cases h2
def oneF (P:Program)(T:Nat):Option Field:=match P.underlying T with|some (.struct fs)=>(match fs.toList with|[f]=>some f|_=>none)|_=>none
theorem oneF_ok {T:Nat}{f:Field}(h:oneF P T=some f):P.underlying T=some (.struct #[f]):=by
 unfold oneF at h
 split at h
 ·rename_i fs IQ
  split at h
  ·rename_i f' hl
   obtain rfl:=Option.some.inj h
   rw[IQ,<- hl]
  ·cases h
 ·cases h
def AppOk (P:Program)(te:Nat)(p:PF)(f:Nat):Prop:=
 Ent P f/\∀ (w:World) (L:Nat) (cs:List Value) (val:Value) (v:V),gT w (fun k=>L<=k) (gK p) cs v->jO p cs val->zy P te f val (p.wr v) w L
theorem iB {p:PF}(hp:p≠.uuid){x val:Value}(h:jO p [x] val):val=x:=by
 unfold jO at h
 rw[if_neg hp]at h
 simpa using h.symm
theorem app_bool (wt:WT P K){f ntmps:Nat}(hfn:FnIs P f ntmps [4] (cABool K))(Iv:12<=ntmps):AppOk P K.tU8 .bool f:=by
 refine⟨hfn.ent,fun w L cs val v hl hv=>?_⟩
 obtain⟨b,rfl,rfl⟩:=hl
 obtain rfl:val=.bool b:=iB (by simp) hv
 have e:PF.wr .bool (.n (if b then 1 else 0))=[if b then 1 else 0]:=by cases b<;>rfl
 rw[e]
 exact AG wt hfn Iv b w L
theorem qu {p:PF}{k:IntKind}{m f:Nat}(hp:∀ w X cs v,gT w X (gK p) cs v->∃ x:Int,cs=[.int k x]/\v=.n x/\(p=.u16->0<=x/\x<65536))(hu:p≠.uuid)(hw:∀ x,p.wr (.n x)=be m x)(hE:Ent P f)(hc:∀ (x:Int) (w:World),(p=.u16->0<=x/\x<65536)->ApC P K.tU8 f (.int k x) (be m x) w):AppOk P K.tU8 p f:=by
 refine⟨hE,fun w L cs val v hl hv=>?_⟩
 obtain⟨x,rfl,rfl,hx⟩:=hp _ _ _ _ hl
 obtain rfl:val=.int k x:=iB hu hv
 rw[hw]
 exact hc x w hx L
theorem app_u16 (wt:WT P K)(hF:b7 K.tU16=true){f ntmps:Nat}(hfn:FnIs P f ntmps [4] (cAU16 K))(Iv:13<=ntmps):AppOk P K.tU8 .u16 f:=
 qu (k:=.u16) (m:=2) (fun w X cs v h=>by
  obtain⟨x,h1,h2,h3⟩:=h
  refine⟨x,h1,h2,fun _=>?_⟩
  simp[cY.fits]at h3
  omega) (by simp) (fun _=>rfl) hfn.ent fun x w h=>zj wt hF hfn Iv (h rfl) w
theorem app_i16 (wt:WT P K)(hF:b7 K.tU16=true){f f2 ntmps nt2:Nat}(Kp:FnIs P f2 nt2 [4] (cAU16 K))(La:13<=nt2)(hfn:FnIs P f ntmps [4] (cACv K.tI16 K.tU16 f2))(Iv:9<=ntmps):AppOk P K.tU8 .i16 f:=
 qu (k:=.i16) (m:=2) (fun w X cs v h=>by obtain⟨x,h1,h2,_⟩:=h;exact⟨x,h1,h2,fun h=>by cases h⟩) (by simp) (fun _=>rfl) hfn.ent fun x w _=>ap_i16 wt hF Kp La hfn Iv x w
theorem app_i32 (wt:WT P K){f f2 ntmps nt2:Nat}(Kp:FnIs P f2 nt2 [4] (cAU32 K))(La:19<=nt2)(hfn:FnIs P f ntmps [4] (cACv K.tI32 K.tU32 f2))(Iv:9<=ntmps):AppOk P K.tU8 .i32 f:=
 qu (k:=.i32) (m:=4) (fun w X cs v h=>by obtain⟨x,h1,h2,_⟩:=h;exact⟨x,h1,h2,fun h=>by cases h⟩) (by simp) (fun _=>rfl) hfn.ent fun x w _=>ap_i32 wt Kp La hfn Iv x w
theorem app_uuid (wt:WT P K)(hV:bc P K.tUuid true 16)(hA:P.underlying K.tUuid=some (.array 16 K.tU8)){f ntmps:Nat}(hfn:FnIs P f ntmps [4] (cAUuid K))(Iv:8<=ntmps):AppOk P K.tU8 .uuid f:=by
 refine⟨hfn.ent,fun w L cs val v hl hv=>?_⟩
 obtain⟨l,K4,rfl,rfl⟩:=hl
 obtain rfl:val=.agg (l.map aJ).toArray:=by
  unfold jO at hv
  rw[if_pos rfl]at hv
  exact hv
 exact AE wt hV hA hfn Iv K4 w L
theorem app_str (wt:WT P K){f f2 ntmps:Nat}(hA:AppOk P K.tU8 .i16 f2)(hc:∀ (x:Int) (w:World),ApC P K.tU8 f2 (.int .i16 x) (be 2 x) w)(hfn:FnIs P f ntmps [4] (cAStr K K.tStr K.tI16 f2))(Iv:13<=ntmps):AppOk P K.tU8 .str f:=by
 refine⟨hfn.ent,fun w L cs val v hl hv=>?_⟩
 obtain⟨l,rfl,rfl,_⟩:=hl
 obtain rfl:val=.string ⟨l.toArray⟩:=iB (by simp) hv
 have h:=hc (IntKind.i16.wrap (l.length:Int)) w
 rw[io (.inr (.inl ⟨.inl rfl,rfl⟩))]at h
 exact zk wt wt.dI16 (pz wt.dStr l L w) hA.1 h hfn Iv
theorem app_cstr (wt:WT P K){f f2 ntmps:Nat}(hE:Ent P f2)(hc:∀ x w,x<4294967296->ApC P K.tU8 f2 (.int .u32 (x:Nat)) (uvar x) w)(hfn:FnIs P f ntmps [4] (cACStr K K.tStr f2))(Iv:14<=ntmps):AppOk P K.tU8 .cstr f:=by
 refine⟨hfn.ent,fun w L cs val v hl hv=>?_⟩
 obtain⟨l,rfl,rfl,_⟩:=hl
 obtain rfl:val=.string ⟨l.toArray⟩:=iB (by simp) hv
 exact AF wt (pz wt.dStr l L w) hE hc hfn Iv
theorem app_nstr (wt:WT P K){p:PF}{fx:Bool}(hp:p=cC true fx){f f1 f2 ntmps tP:Nat}{c:Value}(hP:P.underlying tP=some (.pointer K.tStr))(hE:Ent P f1)(hc:∀ w,ApC P K.tU8 f1 c (cf fx 2) w)(h2:AppOk P K.tU8 (cC false fx) f2)(hfn:FnIs P f ntmps [4] (cANStr K tP c f1 f2))(Iv:14<=ntmps):AppOk P K.tU8 p f:=by
 refine⟨hfn.ent,fun w L cs val v hl hv=>?_⟩
 have e0:gK p=.str (some 0):=by rw[hp];cases fx<;>rfl
 have e1:p.wr .nul=cf fx 2:=by rw[hp];cases fx<;>rfl
 have e2:∀ l,p.wr (.s l)=(cC false fx).wr (.s l):=fun l=>by rw[hp];cases fx<;>rfl
 have e3:p≠.uuid:=by rw[hp];cases fx<;>simp[cC]
 have e4:gK (cC false fx)=.str none:=by cases fx<;>rfl
 have e5:cC false fx≠.uuid:=by cases fx<;>simp[cC]
 rw[e0]at hl
 rcases hl with⟨rfl,rfl⟩|⟨l,b,o,rfl,hX,Ia,rfl,Ib⟩
 ·obtain rfl:val=.pointer none:=iB e3 hv
  rw[e1]
  exact rC wt hP hE (hc w) hfn Iv L
 ·obtain rfl:val=.pointer (some ⟨b,o,none⟩):=iB e3 hv
  rw[e2]
  refine rB wt hP Ia h2.1 (fun L'=>h2.2 w L' [.string ⟨l.toArray⟩] _ _ ?_ ?_) hfn Iv L
  ·rw[e4];exact⟨l,rfl,rfl,by omega⟩
  ·simp[jO,e5]
end
def cNewPtr (T f:Nat):Code:=sq [rg [mk (some 0) (.assign (.const (.pointer none)))],rg [mk (some 1) (.alloc T)],rg [cl (some 2) f [tm 1]],rg [mk (some 0) (.assign (tm 1))],.ret]
def cMaxV (k:Int):Code:=sq [rg [mk (some 2) (.assign (ki .i16 0))],rg [mk (some 2) (.assign (ki .i16 k))],.ret]
def cMax (tI16 tInt f1 f2:Nat):Code:=sq [rg [mk (some 0) (.assign (ki .i64 0))],rg [cl (some 1) f1 [],cl (some 2) f2 [tm 1],mk (some 3) (.convert tI16 tInt (tm 2)),mk (some 0) (.assign (tm 3))],.ret]
def cSetV (T tI16:Nat):Code:=rg [mk (some 4) (.move (tm 0)),mk (some 5) (.move (tm 1)),mk (some 6) (.nilCheck (tm 4)),mk (some 7) (.fieldAddr T (tm 6) 0),mk none (.store tI16 (tm 7) (tm 5))]
def cRdF (f:Nat):Code:=sq [rg [mk (some 4) (.assign (.const .nilIface))],rg [mk (some 5) (.move (tm 0)),mk (some 6) (.move (tm 1)),cl (some 7) f [tm 5,tm 6,.const (.bool false)],mk (some 4) (.assign (tm 7))],.ret]
def cVer (tU8 tInt:Nat):Code:=sq [rg [mk (some 4) (.assign (ki .i64 0))],rg [mk (some 5) (.move (tm 0)),mk (some 6) (.convert tU8 tInt (tm 5)),mk (some 7) (.move (tm 1)),mk (some 8) (.binOp .add tInt (tm 7) (ki .i64 1) 0),mk (some 9) (.binOp .rem tInt (tm 6) (tm 8) 0),mk (some 4) (.assign (tm 9))],.ret]
def pD (tSl tU8:Nat):List Oper:=[mk (some 16) (.move (tm 0)),mk (some 17) (.move (tm 5)),mk (some 18) (.indexAddr tSl (tm 16) (tm 17)),mk (some 19) (.load tU8 (tm 18)),mk (some 20) (.move (tm 1)),mk (some 21) (.move (tm 5)),mk (some 22) (.indexAddr tSl (tm 20) (tm 21)),mk (some 23) (.load tU8 (tm 22)),mk (some 24) (.binOp .neq tU8 (tm 19) (tm 23) 0)]
def BT (b:Bool):Code:=.seq (rg [mk (some 4) (.assign (.const (.bool b)))]) .ret
def cSame (tSl tU8 tInt:Nat):Code:=sq [rg [mk (some 4) (.assign (.const (.bool false)))],
 .seq (rg [mk (some 6) (.move (tm 0)),bi (some 7) .len [tm 6] [tSl] tInt,mk (some 8) (.move (tm 1)),bi (some 9) .len [tm 8] [tSl] tInt,mk (some 10) (.binOp .neq tInt (tm 7) (tm 9) 0)]) (.cond (tm 10) (BT false) .skip),
 .seq (rg [mk (some 11) (.move (tm 0)),bi (some 12) .len [tm 11] [tSl] tInt,mk (some 13) (.move (ki .i64 0))])
  (.block 0 (.loop (.seq (rg [mk (some 14) (.binOp .lss tInt (tm 13) (tm 12) 0)]) (.seq (.cond (tm 14) .skip (.exit 0))
   (.seq (.block 1 (.seq (rg [mk (some 15) (.move (tm 13)),mk (some 5) (.assign (tm 15))]) (.seq (.region 1 (pD tSl tU8).toArray true) (.cond (tm 24) (BT false) .skip))))
    (rg [mk (some 25) (.binOp .add tInt (tm 13) (ki .i64 1) 0),mk (some 13) (.move (tm 25))])))))),
 rg [mk (some 4) (.assign (.const (.bool true)))],.ret]
end Go.Proofs.YtpoeajgpacfpoaaGreatDoor.Kx