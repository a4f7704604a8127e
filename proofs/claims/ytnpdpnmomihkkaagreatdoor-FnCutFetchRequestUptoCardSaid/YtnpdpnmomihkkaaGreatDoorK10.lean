/- messages, part 10 -/
import Derived.Test.YtnpdpnmomihkkaaGreatDoorK9

namespace Go.Proofs.YtnpdpnmomihkkaaGreatDoor.Kx
open Go
theorem RpF.far {L:Nat}{w w':World}(hk:br (λk=>L<=k) w w'){fs:Fds}{b o:Nat}{vs:List V}(h:RpF w (λk=>L<=k) fs b o vs)(hb:b<L)(hL:L<=w.heap.size):RpF w' (λk=>L<=k) fs b o vs:=
 RpF.frame hk fs b o vs 0 h λj _ _=>dI (hk.block b aa aa) j
structure TG (L tU:Nat)(v:Value)(w:World)(v':Value)(ks':List Nat)(w':World):Prop where
 at_:kQ w' L tU v' ks'
 keeps:br (λj=>v.ownBlock=some j) w w'
 own:∀ j,v'.ownBlock=some j->v.ownBlock=some j \/ w.heap.size<=j
def kc:Fds->List V->List Nat
 | .nil,_=>[]
 | .cons _ _ tag df _ ty r,vs=>(match tag with|some k=>if ku ty df (vs.headD .nul) then[] else[k]|none=>[])++kc r vs.tail
def Fds.tagsOf:Fds->List Nat
 | .nil=>[]
 | .cons _ _ tag _ _ _ r=>(match tag with|some k=>[k]|none=>[])++r.tagsOf
def Fds.len:Fds->Nat
 | .nil=>0
 | .cons _ _ _ _ _ _ r=>r.len+1
theorem tt:∀ (fs:Fds) (vs:List V),(kc fs vs).length<=fs.len
 | .nil,_=>ae _
 | .cons _ _ tag df _ ty r,vs=>by
  have:=tt r vs.tail
  simp only[kc,Fds.len,ad]
  cases tag with
  | none=>simp;omega
  | some k=>
   simp only
   split<;>simp<;>omega
theorem pj (fx:Bool)(ver:Int):∀ (fs:Fds) (vs:List V),(wrTgd fx ver fs vs).map (·.1)=kc fs vs
 | .nil,_=>by simp only[wrTgd,kc,List.map_nil]
 | .cons _ _ tag df _ ty r,vs=>by
  have:=pj fx ver r vs.tail
  simp only[wrTgd,kc,List.map_append,this]
  cases tag with
  | none=>rfl
  | some k=>
   simp only
   split<;>rfl
theorem qB (fx:Bool)(ver:Int):∀ (fs:Fds) (vs:List V),∀ y∈wrTgd fx ver fs vs,y.1∈fs.tagsOf
 | .nil,_,y,hy=>by simp[wrTgd]at hy
 | .cons _ _ tag df _ ty r,vs,y,hy=>by
  simp only[wrTgd,List.mem_append]at hy
  simp only[Fds.tagsOf,List.mem_append]
  rcases hy with hy|hy
  ·left
   cases tag with
   | none=>simp at hy
   | some k=>
    simp only at hy
    split at hy
    ·simp at hy
    ·simp only[aY]at hy
     rw[hy]
     simp
  ·exact .inr (qB fx ver r vs.tail y hy)
def ko (P:Program)(av:PF->Bool)(g:GW)(T:Nat):Fds->List Nm->Bool
 | .nil,_=>true
 | .cons _ _ tag _ off ty r,ms=>(match tag with|some k=>decide (k<4294967296)&&s7 P av g T off ty (ms.headD (.mk [] []))|none=>true)&&ko P av g T r ms.tail
section
variable {P:Program} {tKs tU L:Nat} {v v1 v':Value} {ks ks1 ks':List Nat} {w w1 w':World}
theorem TG.refl (h:kQ w L tU v ks):TG L tU v w v ks w:=⟨h,br.refl _ _,λ_ h=>.inl h⟩
theorem TG.trans (h:TG L tU v w v1 ks1 w1)(k:TG L tU v1 w1 v' ks' w'):TG L tU v w v' ks' w':=
 ⟨k.at_,⟨k.keeps.os.trans h.keeps.os,k.keeps.tape.trans h.keeps.tape,k.keeps.output.trans h.keeps.output,am h.keeps.size k.keeps.size,λi hi hx=>by
   have hs:=h.keeps.size
   rw[k.keeps.block i aa (λhh=>by rcases h.own i hh with h1|h1;exact hx h1;omega),h.keeps.block i hi hx]⟩,
  λi hi=>by
   have hs:=h.keeps.size
   rcases k.own i hi with h1|h1
   ·exact h.own i h1
   ·exact .inr aa⟩
theorem TG.pre (hk:br (λ_=>False) w w1)(h:TG L tU v w1 v' ks' w'):TG L tU v w v' ks' w':=
 ⟨h.at_,(hk.mono λ_ _ h=>h.elim).trans h.keeps,λj hj=>by
  have:=hk.size
  rcases h.own j hj with h1|h1
  ·exact .inl h1
  ·exact .inr aa⟩
theorem xt (g:GW)(s:Nat)(ty:Ty)(df:Int)(m:Nm){A:GC}(hA:Up A):Up (iN g s ty df m A):=by
 unfold iN
 split
 all_goals first|exact dG hA (dc _)|exact dc _|skip
 exact λn=>am (Nat.le_add_right n 7) (hA (n+7))
theorem kg (g:GW)(s te tKs:Nat):∀ (fs:Fds) (ms:List Nm),ka (ez g s te tKs fs ms)
 | .nil,_=>bK
 | .cons _ _ tag df _ ty r,ms=>by
  simp only[ez]
  split
  ·exact bw (xt g s ty df _ (bD _ _)) (kg g s te tKs r ms.tail)
  ·exact kg g s te tKs r ms.tail
variable {g:GW} {m k0 n B O s te:Nat} {Q:Exit->Act->World->Prop} {a:Act}
theorem sa {av:PF->Bool}{fl nl:Bool}{te':Nat}(K0:KW P g av fl nl te')(T:FM P tKs tU)(Ms:P.underlying g.tInt=some (.int .i64)){TT:Nat}{rest:List GC}(Jo:m<=te/\te<k0)(hs:s<m)(JM:m<=k0)(UR:B<L):∀ (fs:Fds) (ms:List Nm) (vs:List V) (n:Nat) (v:Value) (ks:List Nat) (a:Act) (w:World),ko P av g TT fs ms=true->a.get s=pt B O->a.get te=v->kQ w L tU v ks->RpF w (λk=>L<=k) fs B O vs->L<=w.heap.size->ks.length+fs.len<=1000->k0<=n->(gL (ez g s te tKs fs ms) n).2<=a.tmps.size ->
  (∀ a' w' v',Pv te m k0 n a a'->a'.get te=v'->TG L tU v w v' (ks++kc fs vs) w'->LW P rest (gL (ez g s te tKs fs ms) n).2 Q a' w')->LW P (ez g s te tKs fs ms++rest) n Q a w
 | .nil,ms,vs,n,v,ks,a,w,_,_,Rm,hv,_,_,_,_,_,h=>h a w v (Pv.refl _ _ _ _ _) Rm (by simpa[kc]using TG.refl hv)
 | .cons lo hi tag df off ty r,ms,vs,n,v,ks,a,w,Jf,O6,Rm,hv,hr,hL,hlim,hk,hn,h=>by
  obtain⟨x,vs',rfl,hx,KG⟩:=hr
  simp only[ko,ac]at Jf
  simp only[Fds.len]at hlim
  cases tag with
  | none=>
   have e1:ez g s te tKs (.cons lo hi none df off ty r) ms=ez g s te tKs r ms.tail:=by simp only[ez]
   have e2:kc (.cons lo hi none df off ty r) (x::vs')=kc r vs':=by simp only[kc,aF,List.tail_cons]
   rw[e1]at hn h ⊢
   rw[e2]at h
   exact sa K0 T Ms Jo hs JM UR r ms.tail vs' n v ks a w Jf.2 O6 Rm hv KG hL aa hk hn h
  | some t=>
   simp only[ac,ai]at Jf
   have e1:ez g s te tKs (.cons lo hi (some t) df off ty r) ms=iN g s ty df (ms.headD (.mk [] [])) (nz tKs te t)::ez g s te tKs r ms.tail:=by simp only[ez]
   have e2:kc (.cons lo hi (some t) df off ty r) (x::vs')=(if ku ty df x then[] else[t])++kc r vs':=by simp only[kc,List.headD_cons,List.tail_cons];rfl
   rw[e1]at hn h ⊢
   rw[e2]at h
   have ON:Up (nz tKs te t):=bD _ _
   have Ri:=xt g s ty df (ms.headD (.mk [] [])) ON n
   have VQ:=kg g s te tKs r ms.tail (iN g s ty df (ms.headD (.mk [] [])) (nz tKs te t) n).2
   have Kj:(gL (ez g s te tKs r ms.tail) (iN g s ty df (ms.headD (.mk [] [])) (nz tKs te t) n).2).2<=a.tmps.size:=hn
   have next:∀ (a1:Act) (w1:World) (v1:Value),Pv te m k0 n a a1->a1.get te=v1->TG L tU v w v1 (ks++(if ku ty df x then[] else[t])) w1->LW P (ez g s te tKs r ms.tail++rest) (iN g s ty df (ms.headD (.mk [] [])) (nz tKs te t) n).2 Q a1 w1:=by
    intro a1 w1 v1 IP Vb IY
    have IX:=IP.size
    have JT:br (λk=>L<=k) w w1:=IY.keeps.mono λk _ hk=>(hv.own hk).1
    refine sa K0 T Ms Jo hs JM UR r ms.tail vs' _ v1 _ a1 w1 Jf.2 ((IP.get s aa (.inl hs)).trans O6) Vb IY.at_ (KG.far JT UR hL) (am hL IY.keeps.size) ?_ aa aa λa' w' v' Jx ht' Jn=>h a' w' v' (IP.trans (Jx.mono (ae _) Ri)) ht' ?_
    ·rw[ad]
     split<;>simp<;>omega
    ·rw[<- ao]
     exact IY.trans Jn
   show LW P (iN g s ty df (ms.headD (.mk [] [])) (nz tKs te t)::(ez g s te tKs r ms.tail++rest)) n Q a w
   refine bt (EP K0 (k0:=k0) Jf.1.2 Ms O6 hx ON aa hk aa (λhd a1 w1 n1 IP hlow1 Jd On Jc=>?_) (λhd a1 w1 IP hlow1 Jd=>?_))
   ·have IX:=IP.size
    have hsz':(iN g s ty df (ms.headD (.mk [] [])) (nz tKs te t) n).2=n1+3:=Jc
    have Lf:=hv.keep Jd λ_ _ h=>h
    refine Gk T (m:=m) (k0:=k0) (v:=v) (ks:=ks) ((hlow1 te aa).trans Rm) Lf (am hL Jd.size) aa Jo aa aa λa2 w2 v2 IR Va Mf IV Qi=>next a2 w2 v2 ?_ Va ?_
    ·exact⟨IR.size.trans IP.size,IR.defers.trans IP.defers,λi hi hi2=>(IR.get i hi aa).trans (hlow1 i aa)⟩
    ·rw[hd]
     exact TG.pre Jd ⟨Mf,IV,Qi⟩
   ·have IX:=IP.size
    refine next a1 w1 v ⟨IP.size,IP.defers,λi _ hi2=>hlow1 i aa⟩ ((hlow1 te aa).trans Rm) ?_
    rw[hd]
    simp only[aw,aL]
    exact TG.pre Jd (TG.refl (hv.keep Jd λ_ _ h=>h))
end
section
variable {P:Program} {g:GW} {av:PF->Bool} {fl nl:Bool} {te:Nat} {L m k0 n B O:Nat} {d:Value} {bs:Bs} {K E:Act->World->Prop} {Q:Exit->Act->World->Prop} {a:Act} {w:World}
theorem Da (K0:KW P g av fl nl te)(Jb:fl=true){tKs tU q s TT kt o F sz cnt c:Nat}{agg:Bool}{base:Option Addr}{mm:Value}{t:List (Nat × Bs)}{X:Nat->Prop}(T:FM P tKs tU)(hq:a.get q=.slice base cnt c)(hs:a.get s=pt B O)(hF:cO P TT kt F o agg sz)(LF:w.cell? ⟨B,O+o,none⟩=some mm)(ht:eA w X mm t)(NC:t.length<4611686018427387904)(hcnt:cnt<=1000)
  (h1:a.get 1=d) (hd:bS w L te d bs) (hL:L<=w.heap.size) (hlim:bs.length+(uvar (f9 (cnt+t.length))).length<=fq) (Tg:q<n/\s<n) (Ky:1<k0) (hk:k0<=n) (hn:n+10<=a.tmps.size)
  (h:∀ a' w' d',Pv 1 k0 k0 n a a'->a'.get 1=d'->Gr L te d w d' (bs++uvar (f9 (cnt+t.length))) w'->K a' w'):cf P (oX g s TT kt q tKs n).1 (Exit.then K Q) a w:=by
 refine bF (bv (bv ?_))
 rw[bp,h1,bp,b8 aa,hq]
 refine gi (base:=base) (n:=cnt) (c:=c) (by rw[bp,bA (by simp only[bq];omega)]) T.sl (bv ?_)
 rw[bp,b8 aa,b8 aa,b8 aa,hs]
 refine bY (by rw[bp,bA (by simp only[bq];omega)];rfl) ?_
 refine dt (by rw[bp,bA (by simp only[bq];omega)]) hF ?_
 refine cj (vs:=#[pt B (O+o)]) (K0.tlE Jb) ?_ (K0.tlC Jb w B (O+o) mm _ t LF ht) λe2 w2 hR=>⟨_,hR.1,?_⟩
 ·simp only[List.map_cons,List.map_nil,bp]
  rw[bA (by simp only[bq];omega)]
  rfl
 have IV:=hR.2
 refine ee (k:=.i64) (m:=cnt) (n:=t.length) (by rw[bp,b8 aa,b8 aa,b8 aa,b8 aa,bA (by simp only[bq];omega)]) (by rw[bp,bA (by simp only[bq];omega)]) ab (lU w2) ?_
 refine ci (k:=.i64) (k':=.u32) (m:=IntKind.i64.wrap ((cnt:Int)+(t.length:Int))) (by rw[bp,bA (by simp only[bq];omega)]) K0.dInt (K0.dU32 Jb) ?_
 have JO:IntKind.u32.wrap (IntKind.i64.wrap ((cnt:Int)+(t.length:Int)))=(f9 (cnt+t.length):Nat):=by
  have:IntKind.i64.wrap ((cnt:Int)+(t.length:Int))=((cnt+t.length:Nat):Int):=by simp[IntKind.wrap,IntKind.bits,IntKind.signed];omega
  rw[this]
  simp[IntKind.wrap,IntKind.bits,IntKind.signed,f9]
 rw[JO]
 refine fI (K0.uvE Jb) ?_ (K0.uvC Jb (f9 (cnt+t.length)) w2 (nR _) L) (hd.keep IV λ_ _ h=>h) (am hL IV.size) hlim (by simp only[bq];omega) λw3 d3 Jw=>wpList_nil (h _ w3 d3 ?_ (bA (by simp only[bq];omega)) (Gr.pre IV (λ_ _ h=>h) Jw))
 ·simp only[List.map_cons,List.map_nil,bp]
  rw[b8 aa,b8 aa,b8 aa,b8 aa,b8 aa,b8 aa,b8 aa,b8 aa,bA aa,bA (by simp only[bq];omega)]
 ·exact((((((((((((Pv.refl _ _ _ _ _).put _ aa).put _ aa).put _ aa).put _ aa).put _ aa).put _ aa).put _ aa).put _ aa).put _ aa).put _ aa).put _ (.inl rfl))
theorem CW {x key:Nat}{t:Nat}{A:GC}{l:List (Nat × GC)}{kk:Nat}(K2:a.get key=.int .u32 kk)(_hkn:key<n)(hm:m<=k0)(hk:k0<=n)(hn:n+2<=a.tmps.size)
  (J5:kk=t->∀ a',Pv x m k0 n a a'->(∀ i,i<n->a'.get i=a.get i)->cf P (A (n+2)).1 Q a' w) (Ki:kk≠t->∀ a',Pv x m k0 n a a'->(∀ i,i<n->a'.get i=a.get i)->cf P (dF g key l (A (n+2)).2).1 Q a' w):cf P (dF g key ((t,A)::l) n).1 Q a w:=by
 have Jh:∀ (b:Bool) (K':Act->World->Prop),b=decide ((kk:Int)=(t:Int))->(∀ a',a'.eval (tm n)=.bool b->Pv x m k0 n a a'->(∀ i,i<n->a'.get i=a.get i)->K' a' w) ->
   wpList P [mk (some (n+1)) (.binOp .eql g.tU32 (tm key) (ki .u32 t) 0),mk (some n) (.assign (tm (n+1)))].toArray (Exit.then K' Q) [mk (some (n+1)) (.binOp .eql g.tU32 (tm key) (ki .u32 t) 0),mk (some n) (.assign (tm (n+1)))] a w:=by
  intro b K' hb hK'
  refine cZ (b:=b) (p:=kk) (q:=t) (k:=.u32) (by rw[bp,K2]) rfl (.inr (.inr (.inr (.inr (.inl ⟨rfl,hb⟩))))) (b7 (wpList_nil (hK' _ ?_ (((Pv.refl _ _ _ _ _).put _ aa).put _ aa) λi hi=>?_)))
  ·rw[bp,bp,bA (by simp only[bq];omega),bA aa]
  ·rw[b8 aa,b8 aa]
 by_cases Mj:kk=t
 ·exact .seq (.reg (Jh true (λa' w'=>a'.eval (tm n)=.bool true/\cf P (A (n+2)).1 Q a' w') (by simp[Mj]) λa' he hp hl=>⟨he,J5 Mj a' hp hl⟩)) (λa' w' h=>.condT h.1 h.2) (λe a w he hq=>by rw[dY he]at hq;exact hq)
 ·exact .seq (.reg (Jh false (λa' w'=>a'.eval (tm n)=.bool false/\cf P (dF g key l (A (n+2)).2).1 Q a' w') (by simp;omega) λa' he hp hl=>⟨he,Ki Mj a' hp hl⟩)) (λa' w' h=>.condF h.1 h.2) (λe a w he hq=>by rw[dY he]at hq;exact hq)
end
section
variable {P:Program} {g:GW} {av:PF->Bool} {fl nl:Bool} {te:Nat} {L m k0 n:Nat} {d:Value} {bs:Bs} {K E:Act->World->Prop} {Q:Exit->Act->World->Prop} {a:Act} {w:World}
theorem A2 (_hInt:P.underlying g.tInt=some (.int .i64)){q tKs tv b1 b2 b3:Nat}{cs:List (Nat × GC)}{v:Value}{ks:List Nat}{es:List Bs}(T:FM P tKs g.tU32)(hq:a.get q=v)(hv:kQ w L g.tU32 v ks)(UZ:∀ j,v.ownBlock=some j->d.ownBlock≠some j)(h1:a.get 1=d)(hd:bS w L te d bs)(IT:ks.length<=1000)(LZ:es.length=ks.length)
  (YA:q<n) (Y4:m<=tv/\tv<k0) (h1t:1<tv) (hk:k0<=n) (hn:(jA g q tKs tv b1 b2 b3 cs n).2<=a.tmps.size) (KM:n+7<=(dF g (n+6) cs (n+7)).2)
  (U0:∀ (j k:Nat) (e:Bs) (a1:Act) (w1:World) (d1:Value),ks[j]?=some k->es[j]?=some e->Pv 1 tv k0 n a a1->a1.get (n+6)=.int .u32 (k:Int)->a1.get 1=d1->Gr L te d w d1 (bs++(es.take j).flatten) w1 ->
   cf P (dF g (n+6) cs (n+7)).1 (Rt (λa2 w2=>∃ d2,Pv 1 (tv+1) k0 (n+6) a1 a2/\a2.get 1=d2/\Gr L te d1 w1 d2 ((bs++(es.take j).flatten)++e) w2) E) a1 w1)
  (h:∀ a' w' d',Pv 1 tv k0 n a a'->a'.get 1=d'->Gr L te d w d' (bs++es.flatten) w'->K a' w'):cf P (jA g q tKs tv b1 b2 b3 cs n).1 (Rt K E) a w:=by
 have hn':(dF g (n+6) cs (n+7)).2+1<=a.tmps.size:=hn
 obtain⟨base,c,KD⟩:=hv.form
 unfold jA
 generalize hz:(dF g (n+6) cs (n+7)).2=z at hn' KM
 refine .seq (R:=Rt (λa' w'=>Pv 1 tv k0 n a a'/\a'.get n=v/\a'.get (n+1)=.int .i64 (ks.length:Int)/\a'.get (n+2)=.int .i64 ((0:Nat):Int)/\a'.get 1=d/\w'=w) E) (.reg (bv ?_)) (λa' w' hh=>?_) (λe a w he hq=>by cases e<;>first|exact absurd rfl he|exact hq)
 ·rw[bp,hq]
  refine gi (base:=base) (n:=ks.length) (c:=c) (by rw[bp,bA aa,KD]) T.sl (bv (wpList_nil ⟨?_,?_,?_,?_,?_,rfl⟩))
  ·exact(((Pv.refl _ _ _ _ _).put _ aa).put _ aa).put _ aa
  ·rw[b8 aa,b8 aa,bA aa]
  ·rw[b8 aa,bA (by simp only[bq];omega)]
  ·rw[bA (by simp only[bq];omega)];rfl
  ·rw[b8 aa,b8 aa,b8 aa];exact h1
 ·obtain⟨hp,OB,OD,RL,IY,rfl⟩:=hh
  refine .block (.loop (λa1 w1=>∃ j:Nat,j<=ks.length/\Pv 1 tv k0 n a a1/\a1.get n=v/\a1.get (n+1)=.int .i64 (ks.length:Int)/\a1.get (n+2)=.int .i64 (j:Int)/\∃ d1,a1.get 1=d1/\Gr L te d w' d1 (bs++(es.take j).flatten) w1) (λa1 _=>((ks.length:Int)-(match a1.get (n+2)with|.int _ q=>q|_=>0)).toNat) ⟨0,by omega,hp,OB,OD,RL,d,IY,by simpa using Gr.refl hd⟩ ?_)
  rintro a1 w1 ⟨j,hj,IP,TV,Pm,MQ,d1,Ld,hG⟩
  have IX:=IP.size
  have Jh:∀ (b:Bool),b=decide ((j:Int)<(ks.length:Int))->wpList P [mk (some (n+3)) (.binOp .lss g.tInt (tm (n+2)) (tm (n+1)) 0)].toArray
    (Rt (λa' w'=>a'.eval (tm (n+3))=.bool b/\a'=a1.put (some (n+3)) (.bool b)/\w'=w1) E) [mk (some (n+3)) (.binOp .lss g.tInt (tm (n+2)) (tm (n+1)) 0)] a1 w1:=by
   intro b hb
   refine cZ (b:=b) (p:=j) (q:=ks.length) (k:=.i64) MQ Pm (.inr (.inr (.inl ⟨rfl,hb⟩))) (wpList_nil ?_)
   exact⟨by rw[bp,bA aa],rfl,rfl⟩
  by_cases IU:j<ks.length
  ·obtain⟨k,RD⟩:∃ k,ks[j]?=some k:=⟨ks[j],aq IU⟩
   obtain⟨e0,Sa⟩:∃ e,es[j]?=some e:=⟨es[j]' aa,aq aa⟩
   refine .seq (R:=Rt (λa' w'=>a'.eval (tm (n+3))=.bool true/\a'=a1.put (some (n+3)) (.bool true)/\w'=w1) E) (.reg (Jh true (by simp[IU]))) (λa2 w2 hh=>?_) (λe a w he hq=>by cases e<;>first|exact absurd rfl he|exact hq|exact hq.elim)
   obtain⟨L0,rfl,rfl⟩:=hh
   refine .seq (R:=Rt (λa' w'=>a'=a1.put (some (n+3)) (.bool true)/\w'=w2) E) (.condT L0 (.skip ⟨rfl,rfl⟩)) (λa2 w3 hh=>?_) (λe a w he hq=>by cases e<;>first|exact absurd rfl he|exact hq|exact hq.elim)
   obtain⟨rfl,rfl⟩:=hh
   have Lf:kQ w3 L g.tU32 v ks:=hv.keep hG.keeps λj hj hX=>UZ j hj hX
   have IS:∃ G c',v=.slice (some ⟨G,0,none⟩) ks.length c'/\w3.cell? ⟨G,0+j*1,none⟩=some (oe k):=by
    rcases Lf with⟨_,rfl⟩|⟨G,c',cur,e1,_,e2,_,_,_,e3⟩
    ·simp at IU
    ·refine⟨G,c',e1,?_⟩
     have:=e3 j k RD
     simp[World.cell?,e2,this]
   obtain⟨G,c',hvG,IS⟩:=IS
   refine .seq (R:=Rt (λa3 w4=>Pv 1 tv k0 n a a3/\a3.get n=v/\a3.get (n+1)=.int .i64 (ks.length:Int)/\a3.get (n+2)=.int .i64 (j:Int)/\∃ d3,a3.get 1=d3/\Gr L te d w' d3 (bs++(es.take (j+1)).flatten) w4) E) (.block ?_)
    (λa3 w4 hh=>?_) (λe a w he hq=>by cases e<;>first|exact absurd rfl he|exact hq|exact hq.elim)
   ·refine .seq (R:=Rt (λa3 w4=>Pv 1 tv k0 n a a3/\a3.get n=v/\a3.get (n+1)=.int .i64 (ks.length:Int)/\a3.get (n+2)=.int .i64 (j:Int)/\a3.get tv=oe k/\a3.get 1=d1/\w4=w3) E) (.reg ?_) (λa3 w4 hh=>?_) (λe a w he hq=>by cases e<;>first|exact absurd rfl he|exact hq|exact hq.elim)
    ·refine dJ (b:=G) (o:=0) (n:=ks.length) (c:=c') (i:=j) (k:=.i64) (sz:=1) (by rw[bp,b8 aa,TV,hvG]) (by rw[bp,b8 aa,MQ]) IU T.sl (T.vU.size _) ?_
     refine cL (p:=⟨G,0+j*1,none⟩) (v:=oe k) (by rw[bp,bA (by simp only[bq];omega)]) (T.vU.agg _) IS (b7 (wpList_nil ⟨?_,?_,?_,?_,?_,?_,rfl⟩))
     ·exact(((IP.put _ aa).put _ aa).put _ aa).put _ aa
     ·rw[b8 aa,b8 aa,b8 aa,b8 aa];exact TV
     ·rw[b8 aa,b8 aa,b8 aa,b8 aa];exact Pm
     ·rw[b8 aa,b8 aa,b8 aa,b8 aa];exact MQ
     ·rw[bA (by simp only[bq];omega),bp,bA (by simp only[bq];omega)]
     ·rw[b8 aa,b8 aa,b8 aa,b8 aa];exact Ld
    ·obtain⟨IW,RK,NG,NH,Xd,KO,rfl⟩:=hh
     have JI:=IW.size
     refine .seq (R:=Rt (λa4 w5=>Pv 1 tv k0 n a a4/\a4.get n=v/\a4.get (n+1)=.int .i64 (ks.length:Int)/\a4.get (n+2)=.int .i64 (j:Int)/\a4.get (n+6)=.int .u32 (k:Int)/\a4.get 1=d1/\w5=w4) E) (.reg (bv (wpList_nil ?_))) (λa4 w5 hh=>?_) (λe a w he hq=>by cases e<;>first|exact absurd rfl he|exact hq|exact hq.elim)
     ·rw[bp,Xd]
      refine⟨IW.put _ aa,?_,?_,?_,?_,?_,rfl⟩
      ·rw[b8 aa];exact RK
      ·rw[b8 aa];exact NG
      ·rw[b8 aa];exact NH
      ·exact bA aa
      ·rw[b8 aa];exact KO
     ·obtain⟨Jp,Xc,Xe,Xf,Jm,Nb,rfl⟩:=hh
      refine .block (.mono (U0 j k e0 a4 w5 d1 RD Sa Jp Jm Nb hG) λe a5 w6 hq=>?_)
      cases e<;>first|exact hq.elim|skip
      ·obtain⟨d2,Kt,Q2,Lj⟩:=hq
       refine⟨Jp.trans (Kt.mono aa aa),by rw[Kt.get _ aa (.inr aa)];exact Xc,by rw[Kt.get _ aa (.inr aa)];exact Xe,by rw[Kt.get _ aa (.inr aa)];exact Xf,d2,Q2,?_⟩
       have e1:(es.take (j+1)).flatten=(es.take j).flatten++e0:=by
        rw[List.take_add_one,Sa]
        simp
       rw[e1,<- ao]
       exact hG.trans Lj
      ·exact hq
   ·obtain⟨IW,RK,NG,NH,d3,KO,OG⟩:=hh
    have JI:=IW.size
    have JO:IntKind.i64.wrap ((j:Int)+1)=((j+1:Nat):Int):=by simp[IntKind.wrap,IntKind.bits,IntKind.signed];omega
    refine .reg (ee (v:=.int .i64 ((j+1:Nat):Int)) (k:=.i64) (m:=j) (n:=1) NH rfl ab (by simp[binOp,Op.intArith,JO]) (bv (wpList_nil ?_)))
    rw[bp,bA aa]
    have Lx:((a3.put (some z) (.int .i64 ((j+1:Nat):Int))).put (some (n+2)) (.int .i64 ((j+1:Nat):Int))).get (n+2)=.int .i64 ((j+1:Nat):Int):=bA (by simp only[bq];omega)
    refine⟨⟨j+1,by omega,(IW.put _ aa).put _ aa,?_,?_,Lx,d3,?_,OG⟩,?_⟩
    ·rw[b8 aa,b8 aa];exact RK
    ·rw[b8 aa,b8 aa];exact NG
    ·rw[b8 aa,b8 aa];exact KO
    ·rw[Lx,MQ]
     simp only
     omega
  ·have TP:j=ks.length:=by omega
   subst TP
   refine .seq (R:=Rt (λa' w'=>a'.eval (tm (n+3))=.bool false/\a'=a1.put (some (n+3)) (.bool false)/\w'=w1) E) (.reg (Jh false ab)) (λa2 w2 hh=>?_) (λe a w he hq=>by cases e<;>first|exact absurd rfl he|exact hq|exact hq.elim)
   obtain⟨L0,rfl,rfl⟩:=hh
   refine .seq (R:=λe a w=>e≠.normal/\Exit.inBlock b1 (Rt K E) e a w) (.condF L0 (.exit ?_)) (λa2 w2 hh=>absurd rfl hh.1) (λe a w he hq=>?_)
   ·simp only[Exit.inBlock,aw]
    rw[<- LZ,List.take_length]at hG
    exact⟨by simp,h _ _ d1 (IP.put _ aa) (by rw[b8 aa];exact Ld) hG⟩
   ·rw[dY he];exact hq.2
end
def pS (e:z9)(hf:Bool)(T kt:Nat)(toff:Option Nat):Bool:=match toff with|some o=>hf&&gC e.P T kt (sP e.P T kt) o true 1|none=>!hf
def s8 (e:z9)(hf:Bool)(m k0 F:Nat):Fds->List Nm->Bool
 | .nil,_=>true
 | .cons _ _ _ _ off ty r,ms=>gC e.P F ((ms.headD (.mk [] [])).n 1) ((ms.headD (.mk [] [])).n 2) off false 1&&fH e hf m k0 ty ((ms.headD (.mk [] [])).n 0) []&&s8 e hf m k0 F r ms.tail
def I0 (P:Program)(tKs tU:Nat):Bool:=(match P.underlying tKs with|some (.slice E)=>E==tU|_=>false)&&(match P.info? tU with|some i=>(match i.zero with|some z=>i.size==1&&i.bytes==4&&z.cells.size==1|none=>false)|none=>false)&&kE P tU false 1&&(match P.underlying tU with|some (.int .u32)=>true|_=>false)
theorem EE {P:Program}{tKs tU:Nat}(h:I0 P tKs tU=true):FM P tKs tU:=by
 simp only[I0,ac]at h
 obtain⟨⟨⟨h1,h2⟩,h3⟩,h4⟩:=h
 refine⟨?_,?_,varB_ok h3,?_⟩
 ·split at h1
  ·rename_i E hE
   simp only[ar]at h1
   rw[hE,h1]
  ·cases h1
 ·split at h2
  ·rename_i i hi
   split at h2
   ·rename_i z hz
    simp only[ac,ar]at h2
    exact⟨i,z,hi,hz,h2.1.1,h2.1.2,h2.2⟩
   ·cases h2
  ·cases h2
 ·split at h4
  ·assumption
  ·cases h4
def kK (e:z9)(hf:Bool)(m k0 T kt:Nat)(toff:Option Nat)(fs:Fds)(nm:Nm)(okb:Bool):Bool:=pS e hf T kt toff &&
 (!fs.tagged || (decide (m<=nm.n 0/\nm.n 0<nm.n 2/\nm.n 2<k0/\fs.len<=1000)&&I0 e.P (nm.n 1) e.g.tU32&&ko e.P e.av e.g T fs nm.s&&decide fs.tagsOf.Nodup&&okb))
mutual
def nk (e:z9)(hf:Bool)(m k0 T off:Nat):Ty->Nm->Bool
 | .prim p,nm=>fH e hf m k0 (.prim p) (nm.n 0) (nm.l.drop 4)&&nm.n 1==T&&gC e.P T (nm.n 2) (nm.n 3) off (Ty.agg (.prim p)) (Ty.sz (.prim p))&&(p != .uuid || nm.n 3==e.g.tUuid)
 | .str nul,nm=>fH e hf m k0 (.str nul) (nm.n 0) (nm.l.drop 4)&&nm.n 1==T&&gC e.P T (nm.n 2) (nm.n 3) off false 1
 | .bytes nul,nm=>fH e hf m k0 (.bytes nul) (nm.n 0) []&&nm.n 1==T&&gC e.P T (nm.n 2) (nm.n 3) off false 1
 | .list nul esz el,nm=>
  decide (m<=nm.n 0/\nm.n 0<nm.n 4/\nm.n 4<k0)&&nm.n 1==T&&gC e.P T (nm.n 2) (nm.n 3) off false 1&&(!nul.isSome || e.nl) &&
  (match pM e.P (nm.n 3) with
   | some (E,sz,_)=>sz==esz&&okElW e hf (nm.n 4+1) k0 E esz el (nm.sub 0)&&(nul.isSome || ny e.g hf)
   | none=>false)
 | .struct none toff fs,nm=>
  decide (m<=nm.n 0/\nm.n 0<k0)&&nm.n 1==T&&gC e.P T (nm.n 2) (sP e.P T (nm.n 2)) off true (pC e.P (sP e.P T (nm.n 2)))&&kK e hf (nm.n 0+1) k0 (nm.n 3) (nm.n 4) toff fs (nm.sub 0) (okTagdW e hf ((nm.sub 0).n 2+1) k0 (nm.n 3) fs (nm.sub 0).s)&&okFdsW e hf (nm.n 0+1) k0 (nm.n 3) fs (nm.sub 0).s
 | .struct (some _) toff fs,nm=>
  decide (m<=nm.n 0/\nm.n 0<k0)&&nm.n 1==T&&gC e.P T (nm.n 2) (nm.n 3) off false 1&&yT e.P (nm.n 3)&&kK e hf (nm.n 0+1) k0 (nm.n 4) (nm.n 5) toff fs (nm.sub 0) (okTagdW e hf ((nm.sub 0).n 2+1) k0 (nm.n 4) fs (nm.sub 0).s)&&okFdsW e hf (nm.n 0+1) k0 (nm.n 4) fs (nm.sub 0).s
def okElW (e:z9)(hf:Bool)(m k0 E esz:Nat):Ty->Nm->Bool
 | .struct none toff fs,nm=>decide (m<=nm.n 0/\nm.n 0<k0)&&kK e hf (nm.n 0+1) k0 (nm.n 1) (nm.n 2) toff fs (nm.sub 0) (okTagdW e hf ((nm.sub 0).n 2+1) k0 (nm.n 1) fs (nm.sub 0).s)&&okFdsW e hf (nm.n 0+1) k0 (nm.n 1) fs (nm.sub 0).s
 | .struct (some _) _ _,_=>false
 | .list _ _ _,_=>false
 | .prim p,nm=>fH e hf m k0 (.prim p) (nm.n 0) (nm.l.drop 2)&&nm.n 1==E&&kE e.P E (Ty.agg (.prim p)) (Ty.sz (.prim p))&&Ty.sz (.prim p)==esz&&(p != .uuid || E==e.g.tUuid)
 | .str nul,nm=>fH e hf m k0 (.str nul) (nm.n 0) (nm.l.drop 2)&&nm.n 1==E&&kE e.P E false 1&&1==esz
 | .bytes nul,nm=>fH e hf m k0 (.bytes nul) (nm.n 0) (nm.l.drop 2)&&nm.n 1==E&&kE e.P E false 1&&1==esz
def okFdsW (e:z9)(hf:Bool)(m k0 T:Nat):Fds->List Nm->Bool
 | .nil,_=>true
 | .cons _ _ tag _ off ty r,ms=>(tag.isSome || nk e hf m k0 T off ty (ms.headD (.mk [] [])))&&okFdsW e hf m k0 T r ms.tail
def okTagdW (e:z9)(hf:Bool)(m k0 T:Nat):Fds->List Nm->Bool
 | .nil,_=>true
 | .cons _ _ tag _ off ty r,ms=>(tag.isNone || okBodyW e hf m k0 T off ty (ms.headD (.mk [] [])))&&okTagdW e hf m k0 T r ms.tail
def okBodyW (e:z9)(hf:Bool)(m k0 T off:Nat):Ty->Nm->Bool
 | .prim p,nm=>if p=.uuid then e.av .uuid&&fH e hf m k0 (.prim .uuid) (nm.n 0) []&&nm.n 1==T&&nm.n 3==e.g.tUuid&&gC e.P T (nm.n 2) (nm.n 3) off true 16 else Dk p&&fH e hf m k0 (.prim p) (nm.n 0) []&&nm.n 1==T&&gC e.P T (nm.n 2) (nm.n 3) off false 1
 | .str nul,nm=>decide (m<=nm.n 0/\nm.n 0<nm.n 4/\nm.n 0<nm.n 5/\nm.n 4≠nm.n 5/\nm.n 4<k0/\nm.n 5<k0)&&t7 e hf (max (nm.n 4) (nm.n 5)+1) k0 (.str nul) (nm.n 0) []&&nm.n 1==T&&gC e.P T (nm.n 2) (nm.n 3) off false 1
 | .list nul esz el,nm=>
  decide (m<=nm.n 0/\nm.n 0<nm.n 4/\nm.n 0<nm.n 5/\nm.n 4≠nm.n 5/\nm.n 4<nm.n 12/\nm.n 5<nm.n 12/\nm.n 12<k0)&&nm.n 1==T&&gC e.P T (nm.n 2) (nm.n 3) off false 1&&(!nul.isSome || e.nl) &&
  (match pM e.P (nm.n 3) with
   | some (E,sz,_)=>sz==esz&&okElW e hf (nm.n 12+1) k0 E esz el (nm.sub 0)&&(nul.isSome || ny e.g hf)
   | none=>false)
 | .struct none (some o) fs,nm=>decide (m<=nm.n 0/\nm.n 0<nm.n 4/\nm.n 0<nm.n 5/\nm.n 4≠nm.n 5/\nm.n 4<k0/\nm.n 5<k0)&&Ix e.g nm o fs&&nm.n 1==T&&gC e.P T (nm.n 2) (nm.n 3) off true (pC e.P (nm.n 3))&&s8 e hf (max (nm.n 4) (nm.n 5)+1) k0 (nm.n 3) fs (nm.sub 0).s&&pS e hf (nm.n 3) (nm.n 11) (some o)
 | _,_=>false
end
def toG (g:GW):G:=⟨λ_=>0,λ_=>0,0,0,0,0,0,0,0,0,0,0,g.tVer,0,0,0,0,0,0,0,0,0,0⟩
theorem wQ (g:GW)(cx:Cx)(lo:Nat)(hi:Option Nat)(A:GC):jL g cx lo hi A=fO (toG g) cx lo hi A:=by cases hi<;>rfl
theorem rG {cx:Cx}{A B:GC}(hA:Up A)(hB:Up B):Up (iq cx A B):=iw (dG hA hB) hB
theorem dN (g:GW)(cx:Cx)(ty:Ty)(v:Nat)(x:List Nat):ka (cN g cx ty v x):=by
 unfold cN
 split
 ·exact bw (bD _ _) bK
 ·split
  ·exact bw (bD _ _) (bw (bD _ _) bK)
  ·exact bw (bD _ _) bK
 all_goals first|exact bw (rG (bD _ _) (bD _ _)) bK|exact bw (dG (gH (bw (bD _ _) (bw (dG (bD _ _) (dc _)) (bw (bD _ _) (bw (rG (bD _ _) (bD _ _)) bK))))) (rG (bD _ _) (bD _ _))) bK|exact bK
theorem y7 (g:GW)(cx:Cx)(T kt:Nat):ka (jk g cx T kt):=
 fJ (bw (dG (gH (bw (bD _ _) (bw (bD _ _) bK))) (dc _)) bK) bK
theorem mR (g:GW)(cx:Cx)(nul:Option Nat)(v F:Nat):Up (iA g cx nul v F):=by
 cases nul<;>exact rG (bD _ _) (bD _ _)
theorem mS (g:GW)(v i b1 b2 F:Nat){body:List GC}(h:ka body):Up (jb g v i b1 b2 F body):=λn=>by
 have:=h (n+5)
 show n<=(gL body (n+5)).2+1
 omega
theorem qI {g:GW}{cx:Cx}{lo:Nat}{hi:Option Nat}{A:GC}(h:Up A):Up (jL g cx lo hi A):=by
 cases hi with
 | none=>exact iw h (dG h (dc _))
 | some q=>exact dG h (dc _)
theorem xq (ty:Ty)(s v T k F:Nat):Up (jB ty s v T k F):=iw (bD _ _) (bD _ _)
theorem oO (ty:Ty)(v i e F E:Nat):Up (lE ty v i e F E):=iw (bD _ _) (bD _ _)
theorem lO (g:GW)(key:Nat):∀ (cs:List (Nat × GC)),(∀ p∈cs,Up p.2)->∀ n,n<=(dF g key cs n).2
 | [],_,n=>ae n
 | (t,x)::r,h,n=>by
  have h1:=h (t,x) ab (n+2)
  have h2:=lO g key r (λp hp=>h p (by simp[hp])) (x (n+2)).2
  show n<=(dF g key r (x (n+2)).2).2
  simp only at h1
  omega
theorem mT {l:List GC}(h:ka l):Up (lF l):=h
theorem lm (g:GW)(cx:Cx)(fs:Fds)(T kt:Nat)(m:Nm){cs:List (Nat × GC)}(h:∀ p∈cs,Up p.2):ka (jv g cx fs T kt m cs):=by
 unfold jv
 refine fJ (fJ (bw (dG (gH (bN (bN (bw (bD _ _) bK) (kg g _ _ _ fs m.s)) (bw (bD _ _) (bw (λn=>?_) (bw (bD _ _) bK))))) (dc _)) bK) bK) (y7 _ _ _ _)
 have:=lO g (n+6) cs h (n+7)
 show n<=(dF g (n+6) cs (n+7)).2+1
 omega
theorem mW (g:GW)(cx:Cx)(b F:Nat):∀ (fs:Fds) (ms:List Nm),ka (g7 g cx b F fs ms)
 | .nil,_=>bK
 | .cons _ _ _ _ _ ty r,ms=>bw (gH (bw (bD _ _) (dN g cx ty _ _))) (mW g cx b F r ms.tail)
theorem oP (g:GW)(z lenAt l tB:Nat):Up (eD g z lenAt l tB):=dG (gH (bw (λn=>Nat.le_add_right n 9) (bw (bD _ _) (bw (dc _) bK)))) (dc _)
theorem rH (g:GW)(z lenAt l:Nat):ka (uR g z lenAt l):=bw (bD _ _) (bw (bD _ _) (bw (dc _) bK))
mutual
theorem xu (g:GW):∀ (ty:Ty) (cx:Cx) (nm:Nm),ka (og g cx ty nm)
 | .prim _,_cx,_nm=>bw (xq _ _ _ _ _ _) (dN _ _ _ _ _)
 | .str _,_cx,_nm=>bw (bD _ _) (dN _ _ _ _ _)
 | .bytes _,_cx,_nm=>bw (bD _ _) (dN _ _ _ _ _)
 | .list _nul _ e,cx,_nm=>bw (bD _ _) (bw (mR _ _ _ _ _) (bw (mS _ _ _ _ _ _ (upL_wel g e cx _ _ _ _)) bK))
 | .struct none _ fs,_cx,_nm=>bw (bD _ _) (bN (upL_wfds g fs _ _) (lm _ _ _ _ _ _ (up_wtagd g fs _ _)))
 | .struct (some _) _ fs,_cx,_nm=>bw (bD _ _) (bw (dG (bD _ _) (gH (bw (bD _ _) (bN (upL_wfds g fs _ _) (lm _ _ _ _ _ _ (up_wtagd g fs _ _)))))) bK)
theorem upL_wel (g:GW):∀ (ty:Ty) (cx:Cx) (v i F:Nat) (nm:Nm),ka (gwEl g cx ty v i F nm)
 | .prim _,_cx,_v,_i,_F,_nm=>bw (oO _ _ _ _ _ _) (dN _ _ _ _ _)
 | .str _,_cx,_v,_i,_F,_nm=>bw (oO _ _ _ _ _ _) (dN _ _ _ _ _)
 | .bytes _,_cx,_v,_i,_F,_nm=>bw (oO _ _ _ _ _ _) (dN _ _ _ _ _)
 | .list _ _ _,_cx,_v,_i,_F,_nm=>bw (oO _ _ _ _ _ _) (dN _ _ _ _ _)
 | .struct _ _ fs,_cx,_v,_i,_F,_nm=>bw (bD _ _) (bN (upL_wfds g fs _ _) (lm _ _ _ _ _ _ (up_wtagd g fs _ _)))
theorem upL_wfds (g:GW):∀ (fs:Fds) (cx:Cx) (ms:List Nm),ka (gwFds g cx fs ms)
 | .nil,_,_=>bK
 | .cons _lo _hi _tag _ _ ty r,cx,_ms=>fJ (bw (qI (gH (xu g ty cx _))) (upL_wfds g r cx _)) (upL_wfds g r cx _)
theorem up_wtagd (g:GW):∀ (fs:Fds) (cx:Cx) (ms:List Nm),∀ p∈gwTagd g cx fs ms,Up p.2
 | .nil,_,_,p,hp=>by simp[gwTagd]at hp
 | .cons _ _ (some t) _ _ ty r,cx,ms,p,hp=>by
  simp only[gwTagd,aI]at hp
  rcases hp with rfl|hp
  ·exact up_wbody g ty cx t _
  ·exact up_wtagd g r cx ms.tail p hp
 | .cons _ _ none _ _ ty r,cx,ms,p,hp=>by
  simp only[gwTagd]at hp
  exact up_wtagd g r cx ms.tail p hp
theorem up_wbody (g:GW):∀ (ty:Ty) (cx:Cx) (t:Nat) (nm:Nm),Up (gwBody g cx t ty nm)
 | .prim _,_cx,_t,_nm=>gH (bN (bw (xq _ _ _ _ _ _) (bw (bD _ _) (bw (bD _ _) bK))) (dN _ _ _ _ _))
 | .str _,_cx,_t,_nm=>mT (bN (bN (bN (bw (bD _ _) (bw (bD _ _) bK)) (rH _ _ _ _)) (dN _ _ _ _ _)) (bw (oP _ _ _ _ _) bK))
 | .bytes _,_cx,_t,_nm=>mT (bN (bN (bN (bw (bD _ _) (bw (bD _ _) bK)) (rH _ _ _ _)) (dN _ _ _ _ _)) (bw (oP _ _ _ _ _) bK))
 | .list _ _ e,cx,_t,_nm=>mT (bN (bN (bN (bw (bD _ _) (bw (bD _ _) bK)) (rH _ _ _ _)) (bw (mR _ _ _ _ _) (bw (mS _ _ _ _ _ _ (upL_wel g e cx _ _ _ _)) bK))) (bw (oP _ _ _ _ _) bK))
 | .struct _ _ fs,cx,_t,_nm=>mT (bN (bN (bN (bw (bD _ _) (bw (bD _ _) bK)) (rH _ _ _ _)) (bN (mW g cx _ _ fs _) (bw (dG (gH (bw (bD _ _) (bw (bD _ _) bK))) (dc _)) bK))) (bw (oP _ _ _ _ _) bK))
end
theorem gM.far {L:Nat}{w w':World}(hk:br (λk=>L<=k) w w'){toff:Option Nat}{b o:Nat}{t:List (Nat × Bs)}(h:gM w (λk=>L<=k) b o toff t)(hb:b<L)(hL:L<=w.heap.size):gM w' (λk=>L<=k) b o toff t:=
 h.frame hk λk _=>dI (hk.block b aa aa) _
theorem br.none {X:Nat->Prop}{w w':World}(h:br (λ_=>False) w w'):br X w w':=h.mono λ_ _ h=>h.elim
theorem iK (g:GW)(cx:Cx)(fs:Fds)(T kt:Nat)(m:Nm):ka (di g cx fs T kt m):=lm g cx fs T kt m (up_wtagd g fs cx m.s)
section
variable (P:Program) (g:GW) (av:PF->Bool) (fl nl:Bool) (te:Nat)
def zx (ty:Ty):Prop:=
 ∀ (nm:Nm) (cx:Cx) (fx:Bool) (ver:Int) (B O L m k0 n T off:Nat) (v:V) (d:Value) (bs:Bs) (K E:Act->World->Prop) (a:Act) (w:World),
  nk ⟨P,g,av,nl⟩ cx.hf m k0 T off ty nm=true->WC cx fx ver te L B O d bs a w->pe cx m k0->(cx.hf=true->fl=true)->k0<=n->k0<=a.tmps.size->(gL (og g cx ty nm) n).2<=a.tmps.size ->
  Rp w (λk=>L<=k) ty B (O+off) v->bs.length+(dp fx ver ty v).length<=fq ->
  (∀ a' w' d',Pv 1 m k0 n a a'->a'.get 1=d'->Gr L te d w d' (bs++dp fx ver ty v) w'->K a' w')->LW P (og g cx ty nm) n (Rt K E) a w
def zy (ty:Ty):Prop:=
 ∀ (nm:Nm) (cx:Cx) (fx:Bool) (ver:Int) (B O L m k0 n esz vs i F E' p q cnt c j:Nat) (v:V) (d:Value) (bs:Bs) (K E:Act->World->Prop) (a:Act) (w:World),
  okElW ⟨P,g,av,nl⟩ cx.hf m k0 E' esz ty nm=true->WC cx fx ver te L B O d bs a w->pe cx m k0->(cx.hf=true->fl=true)->k0<=n->k0<=a.tmps.size->(gL (gwEl g cx ty vs i F nm) n).2<=a.tmps.size ->
  a.get vs=.slice (some ⟨p,q,none⟩) cnt c->a.get i=.int .i64 j->j<cnt->vs<m->i<m->P.underlying F=some (.slice E')->(∀ w,(sizeOf E').run P w=.ok esz w)->p<L ->
  Rp w (λk=>L<=k) ty p (q+j*esz) v->bs.length+(dp fx ver ty v).length<=fq ->
  (∀ a' w' d',Pv 1 m k0 n a a'->a'.get 1=d'->Gr L te d w d' (bs++dp fx ver ty v) w'->K a' w')->LW P (gwEl g cx ty vs i F nm) n (Rt K E) a w
def oE (fs:Fds):Prop:=
 ∀ (ms:List Nm) (cx:Cx) (fx:Bool) (ver:Int) (B O L m k0 n T:Nat) (vs:List V) (d:Value) (bs:Bs) (K E:Act->World->Prop) (a:Act) (w:World),
  okFdsW ⟨P,g,av,nl⟩ cx.hf m k0 T fs ms=true->WC cx fx ver te L B O d bs a w->pe cx m k0->(cx.hf=true->fl=true)->k0<=n->k0<=a.tmps.size->(gL (gwFds g cx fs ms) n).2<=a.tmps.size ->
  RpF w (λk=>L<=k) fs B O vs->bs.length+(wrFds fx ver fs vs).length<=fq ->
  (∀ a' w' d',Pv 1 m k0 n a a'->a'.get 1=d'->Gr L te d w d' (bs++wrFds fx ver fs vs) w'->K a' w')->LW P (gwFds g cx fs ms) n (Rt K E) a w
def mD (ty:Ty):Prop:=
 ∀ (nm:Nm) (cx:Cx) (ver:Int) (B O L m k0 n T off t:Nat) (v:V) (d:Value) (bs:Bs) (K E:Act->World->Prop) (a:Act) (w:World),
  okBodyW ⟨P,g,av,nl⟩ cx.hf m k0 T off ty nm=true->cx.hf=true->t<4294967296->WC cx true ver te L B O d bs a w->pe cx m k0->fl=true->k0<=n->k0<=a.tmps.size->(gwBody g cx t ty nm n).2<=a.tmps.size ->
  Rp w (λk=>L<=k) ty B (O+off) v->bs.length+(eZ (t,dp true ver ty v)).length<=fq ->
  (∀ a' w' d',Pv 1 m k0 n a a'->a'.get 1=d'->Gr L te d w d' (bs++eZ (t,dp true ver ty v)) w'->K a' w')->cf P (gwBody g cx t ty nm n).1 (Rt K E) a w
def td:Fds->Prop
 | .nil=>True
 | .cons _ _ _ _ _ ty r=>mD P g av fl nl te ty/\td r
def oo (fs:Fds):Prop:=
 ∀ (nm:Nm) (cx:Cx) (fx:Bool) (ver:Int) (B O L m k0 n T kt:Nat) (toff:Option Nat) (vs:List V) (t:List (Nat × Bs)) (d:Value) (bs:Bs) (K E:Act->World->Prop) (a:Act) (w:World),
  kK ⟨P,g,av,nl⟩ cx.hf m k0 T kt toff fs nm (okTagdW ⟨P,g,av,nl⟩ cx.hf (nm.n 2+1) k0 T fs nm.s)=true->WC cx fx ver te L B O d bs a w->pe cx m k0->(cx.hf=true->fl=true)->k0<=n->k0<=a.tmps.size->(gL (di g cx fs T kt nm) n).2<=a.tmps.size ->
  RpF w (λk=>L<=k) fs B O vs->gM w (λk=>L<=k) B O toff t->bs.length+(ig fx (wrTgd fx ver fs vs) t).length<=fq ->
  (∀ a' w' d',Pv 1 m k0 n a a'->a'.get 1=d'->Gr L te d w d' (bs++ig fx (wrTgd fx ver fs vs) t) w'->K a' w')->LW P (di g cx fs T kt nm) n (Rt K E) a w
end
section
variable {P:Program} {g:GW} {av:PF->Bool} {fl nl:Bool} {te:Nat}
theorem CD {fs:Fds}(J9:oE P g av fl nl te fs)(NC:oo P g av fl nl te fs){nm:Nm}{cx:Cx}{fx:Bool}{ver:Int}{B O L m k0 n T kt:Nat}{toff:Option Nat}{vs:List V}{t:List (Nat × Bs)}{d:Value}{bs:Bs}{K E:Act->World->Prop}{a:Act}{w:World}
  (JL:kK ⟨P,g,av,nl⟩ cx.hf m k0 T kt toff fs nm (okTagdW ⟨P,g,av,nl⟩ cx.hf (nm.n 2+1) k0 T fs nm.s)=true) (Jf:okFdsW ⟨P,g,av,nl⟩ cx.hf m k0 T fs nm.s=true) (hw:WC cx fx ver te L B O d bs a w) (hc:pe cx m k0) (Jb:cx.hf=true->fl=true) (hk:k0<=n) (JM:k0<=a.tmps.size) (hn:(gL (gwFds g cx fs nm.s++di g cx fs T kt nm) n).2<=a.tmps.size)
  (hr:RpF w (λk=>L<=k) fs B O vs) (ht:gM w (λk=>L<=k) B O toff t) (hlim:bs.length+(wrFds fx ver fs vs++ig fx (wrTgd fx ver fs vs) t).length<=fq)
  (h:∀ a' w' d',Pv 1 m k0 n a a'->a'.get 1=d'->Gr L te d w d' (bs++(wrFds fx ver fs vs++ig fx (wrTgd fx ver fs vs) t)) w'->K a' w'):LW P (gwFds g cx fs nm.s++di g cx fs T kt nm) n (Rt K E) a w:=by
 rw[cz]at hn
 rw[ad]at hlim
 have KM:=lm g cx fs T kt nm (up_wtagd g fs cx nm.s) (gL (gwFds g cx fs nm.s) n).2
 have Ri:=upL_wfds g fs cx nm.s n
 refine ip ?_
 rw[cn]
 refine J9 nm.s cx fx ver B O L m k0 n T vs d bs _ E a w Jf hw hc Jb hk JM (am KM hn) hr aa λa1 w1 d1 IP IY Mk=>?_
 have IX:=IP.size
 have LS:=hw.step hc IP IY Mk
 have JT:=Gr.far hw.dst Mk
 refine NC nm cx fx ver B O L m k0 _ T kt toff vs t d1 _ K E a1 w1 JL LS hc Jb aa aa (by rw[IX];exact hn) (hr.far JT hw.BL hw.Lw) (ht.far JT hw.BL hw.Lw) (by rw[ad];omega) λa' w' d' Jx h1' Jn=>h a' w' d' (IP.trans (Jx.mono (ae _) Ri)) h1' ?_
 rw[<- ao];exact Mk.trans Jn
theorem Ae:oE P g av fl nl te .nil:=λms cx fx ver B O L m k0 n T vs d bs K E a w Jf hw hc Jb hk JM hn hr hlim h=>
 cD (h a w d (Pv.refl _ _ _ _ _) hw.s1 (by simpa[wrFds]using Gr.refl hw.dst))
theorem yt {lo:Nat}{hi tag:Option Nat}{df:Int}{off:Nat}{ty:Ty}{r:Fds}(L5:zx P g av fl nl te ty)(Vf:oE P g av fl nl te r):oE P g av fl nl te (.cons lo hi tag df off ty r):=by
 intro ms cx fx ver B O L m k0 n T vs d bs K E a w Jf hw hc Jb hk JM hn hr hlim h
 simp only[okFdsW,ac,aH]at Jf
 obtain⟨Jz,Nr⟩:=Jf
 obtain⟨v,vs',rfl,hv,KG⟩:=hr
 cases Kb:tag.isNone with
 | false=>
  have JX:gwFds g cx (.cons lo hi tag df off ty r) ms=gwFds g cx r ms.tail:=by simp only[gwFds,Kb,ag,ak]
  have JO:wrFds fx ver (.cons lo hi tag df off ty r) (v::vs')=wrFds fx ver r vs':=by simp only[wrFds,Kb,Bool.false_and,ag,ak,aF,List.tail_cons]
  rw[JX]at hn ⊢
  rw[JO]at hlim h
  exact Vf ms.tail cx fx ver B O L m k0 n T vs' d bs K E a w Nr hw hc Jb hk JM hn KG hlim h
 | true=>
 have MG:tag.isNone=true:=Kb
 replace Jz:=Jz.resolve_left (by cases tag<;>simp at MG ⊢)
 have JX:gwFds g cx (.cons lo hi tag df off ty r) ms=jL g cx lo hi (gS (og g cx ty (ms.headD (.mk [] []))))::gwFds g cx r ms.tail:=by simp only[gwFds,MG,aw]
 have JO:wrFds fx ver (.cons lo hi tag df off ty r) (v::vs')=(if ml lo hi ver then dp fx ver ty v else[])++wrFds fx ver r vs':=by
  simp only[wrFds,MG,Bool.true_and,List.headD_cons,List.tail_cons]
 rw[JX]at hn ⊢
 rw[JO]at hlim h
 rw[ad]at hlim
 have ON:Up (gS (og g cx ty (ms.headD (.mk [] [])))):=gH (xu g ty cx _)
 have Rh:=upL_wfds g r cx ms.tail (jL g cx lo hi (gS (og g cx ty (ms.headD (.mk [] [])))) n).2
 have PV:n<=(jL g cx lo hi (gS (og g cx ty (ms.headD (.mk [] [])))) n).2:=qI ON n
 have Kj:(jL g cx lo hi (gS (og g cx ty (ms.headD (.mk [] [])))) n).2<=a.tmps.size:=am Rh hn
 have Jj:=hc.le
 have Ky:=hc.one
 have MD:=hc.ver
 have rest:∀ (a1:Act) (w1:World) (d1:Value) (enc:Bs),Pv 1 m k0 n a a1->a1.get 1=d1->Gr L te d w d1 (bs++enc) w1->enc=(if ml lo hi ver then dp fx ver ty v else[])->LW P (gwFds g cx r ms.tail) (jL g cx lo hi (gS (og g cx ty (ms.headD (.mk [] [])))) n).2 (Rt K E) a1 w1:=by
  intro a1 w1 d1 enc IP IY Mk he
  have IX:=IP.size
  refine Vf ms.tail cx fx ver B O L m k0 _ T vs' d1 (bs++enc) K E a1 w1 Nr (hw.step hc IP IY Mk) hc Jb aa aa (by rw[IX];exact hn) (KG.far (Gr.far hw.dst Mk) hw.BL hw.Lw) (by rw[ad,he];omega) λa' w' d' Jx h1' Jn=>h a' w' d' (IP.trans (Jx.mono (ae _) PV)) h1' ?_
  rw[<- he,<- ao]
  exact Mk.trans Jn
 refine bt ?_
 rw[cn]
 rw[wQ]at Kj PV rest ⊢
 refine rZ (x:=n) (m:=m) (k0:=k0) hw.sv Jj hk aa ON Kj (λa1 n1 IP On YJ hgg JF=>?_) (λa1 IP JF=>?_)
 ·have hp1':Pv 1 m k0 n a a1:=⟨IP.size,IP.defers,λs hs Jr=>IP.get s aa Jr⟩
  have IX:=IP.size
  have IY:a1.get 1=d:=by rw[IP.get 1 aa (.inl Ky)];exact hw.s1
  refine cC (L5 (ms.headD (.mk [] [])) cx fx ver B O L m k0 n1 T off v d bs _ E a1 w Jz (hw.step hc hp1' IY (Gr.refl hw.dst)) hc Jb aa aa ?_ hv (by rw[ax JF]at hlim;omega) λa' w' d' Jx h1' Jn=>rest a' w' d' _ (hp1'.trans (Jx.mono (ae _) On)) h1' Jn (by rw[ax JF]))
  rw[IX]
  have:(gL (og g cx ty (ms.headD (.mk [] []))) n1).2=(gS (og g cx ty (ms.headD (.mk [] []))) n1).2:=rfl
  rw[this,<- hgg];exact Kj
 ·have hp1':Pv 1 m k0 n a a1:=⟨IP.size,IP.defers,λs hs Jr=>IP.get s aa Jr⟩
  have IY:a1.get 1=d:=by rw[IP.get 1 aa (.inl Ky)];exact hw.s1
  exact rest a1 w d [] hp1' IY (by simpa using Gr.refl hw.dst) (by rw[JF];rfl)
theorem kC {e:z9}{hf:Bool}{m k0:Nat}{ty:Ty}{v:Nat}{x:List Nat}(h:fH e hf m k0 ty v x=true):t7 e hf m k0 ty v x=true/\m<=v/\v<k0:=by
 simp only[fH,ac,ai]at h
 refine⟨h.1,h.2,?_⟩
 have:=h.1
 simp only[t7,ac,ai]at this
 exact this.1.1.2
theorem sG (fx:Bool)(ver:Int)(ty:Ty)(v:V)(h:ty.leaf=true):dp fx ver ty v=(eN fx ver ty).wr v:=by
 cases ty with
 | prim p=>simp[dp]
 | str q=>simp[dp]
 | bytes q=>simp[dp]
 | list _ _ _=>cases h
 | struct _ _ _=>cases h
theorem pf (K0:KW P g av fl nl te){ty:Ty}(hl:ty.leaf=true){x:Nm->List Nat}(JX:∀ cx nm,og g cx ty nm=jB ty cx.s (nm.n 0) (nm.n 1) (nm.n 2) (nm.n 3)::cN g cx ty (nm.n 0) (x nm))
  (Jf:∀ hf m k0 T off nm,nk ⟨P,g,av,nl⟩ hf m k0 T off ty nm=true->fH ⟨P,g,av,nl⟩ hf m k0 ty (nm.n 0) (x nm)=true/\nm.n 1=T/\gC P T (nm.n 2) (nm.n 3) off ty.agg ty.sz=true/\(i9 ty=true->nm.n 3=g.tUuid/\av .uuid=true)):zx P g av fl nl te ty:=by
 intro nm cx fx ver B O L m k0 n T off v d bs K E a w Jz hw hc Jb hk JM hn hr hlim h
 obtain⟨h1,hT,h2,h3⟩:=Jf _ _ _ _ _ _ Jz
 subst hT
 rw[JX]at hn ⊢
 rw[sG fx ver ty v hl]at hlim h
 have Kg:m<=nm.n 0/\nm.n 0<k0:=(kC h1).2
 replace h1:=(kC h1).1
 have KM:=dN g cx ty (nm.n 0) (x nm) (jB ty cx.s (nm.n 0) (nm.n 1) (nm.n 2) (nm.n 3) n).2
 have KR:(jB ty cx.s (nm.n 0) (nm.n 1) (nm.n 2) (nm.n 3) n).2=n+4:=by unfold jB;split<;>rfl
 have J8:(gL (cN g cx ty (nm.n 0) (x nm)) (jB ty cx.s (nm.n 0) (nm.n 1) (nm.n 2) (nm.n 3) n).2).2<=a.tmps.size:=hn
 rw[KR]at KM J8
 refine bt (EL (off:=off) (X:=λk=>L<=k) hl hw.ss (fldB_ok h2) (λhu=>by obtain⟨e1,e2⟩:=h3 hu;rw[e1];exact K0.uuid e2) (λ_ _ _=>trivial) hr Kg hc.le hk aa hc.one λa1 w1 cs IP IY Jd Pg O9=>?_)
 rw[KR]
 have IX:=IP.size
 have Mk:Gr L te d w d bs w1:=Gr.pre Jd (λ_ _ h=>h) (Gr.refl (hw.dst.keep Jd λ_ _ h=>h))
 have e:cN g cx ty (nm.n 0) (x nm)=cN g cx ty (nm.n 0) (x nm)++[]:=(aL _).symm
 rw[e]
 exact nd K0 h1 (hw.step hc IP (IY.trans hw.s1) Mk) hc aa aa (by rw[IX];exact J8) Pg O9 hlim λa' w' d' Jx h1' Jn=>cD (h a' w' d' (IP.trans (Jx.mono (ae _) aa)) h1' (Gr.pre Jd (λ_ _ h=>h) Jn))
theorem pr (K0:KW P g av fl nl te){ty:Ty}(hl:ty.leaf=true)(JX:∀ cx v i F nm,gwEl g cx ty v i F nm=lE ty v i (nm.n 0) F (nm.n 1)::cN g cx ty (nm.n 0) (nm.l.drop 2))
  (Jf:∀ hf m k0 E' esz nm,okElW ⟨P,g,av,nl⟩ hf m k0 E' esz ty nm=true->fH ⟨P,g,av,nl⟩ hf m k0 ty (nm.n 0) (nm.l.drop 2)=true/\nm.n 1=E'/\kE P E' ty.agg ty.sz=true/\ty.sz=esz/\(i9 ty=true->E'=g.tUuid/\av .uuid=true)):zy P g av fl nl te ty:=by
 intro nm cx fx ver B O L m k0 n esz vs i F E' p q cnt c j v d bs K E a w Jz hw hc Jb hk JM hn Kg hi hj MD Ou hF hE QC hr hlim h
 obtain⟨h1,hE',h2,rfl,h3⟩:=Jf _ _ _ _ _ _ Jz
 rw[JX,hE']at hn ⊢
 rw[sG fx ver ty v hl]at hlim h
 have Jo:m<=nm.n 0/\nm.n 0<k0:=(kC h1).2
 replace h1:=(kC h1).1
 have Jj:=hc.le
 have KR:(lE ty vs i (nm.n 0) F E' n).2=n+4:=by unfold lE;split<;>rfl
 have KM:=dN g cx ty (nm.n 0) (nm.l.drop 2) (n+4)
 have J8:(gL (cN g cx ty (nm.n 0) (nm.l.drop 2)) (lE ty vs i (nm.n 0) F E' n).2).2<=a.tmps.size:=hn
 rw[KR]at J8
 refine bt (EK (X:=λk=>L<=k) hl Kg hi hj hF (varB_ok h2) (λhu=>by obtain⟨e1,e2⟩:=h3 hu;rw[e1];exact K0.uuid e2) hr Jo aa aa Jj hk aa hc.one λa1 w1 cs IP IY Jd Pg O9=>?_)
 rw[KR]
 have IX:=IP.size
 have Mk:Gr L te d w d bs w1:=Gr.pre Jd (λ_ _ h=>h) (Gr.refl (hw.dst.keep Jd λ_ _ h=>h))
 have e:cN g cx ty (nm.n 0) (nm.l.drop 2)=cN g cx ty (nm.n 0) (nm.l.drop 2)++[]:=(aL _).symm
 rw[e]
 exact nd K0 h1 (hw.step hc IP (IY.trans hw.s1) Mk) hc aa aa (by rw[IX];exact J8) Pg O9 hlim λa' w' d' Jx h1' Jn=>cD (h a' w' d' (IP.trans (Jx.mono (ae _) aa)) h1' (Gr.pre Jd (λ_ _ h=>h) Jn))
end
section
variable {P:Program} {g:GW} {av:PF->Bool} {fl nl:Bool} {te:Nat} {cx:Cx} {fx:Bool} {ver:Int} {L B O m k0 n:Nat} {d:Value} {bs:Bs} {K N E:Act->World->Prop} {Q:Exit->Act->World->Prop} {a:Act} {w:World}
theorem CA {F n v sz:Nat}{cs:List Value}{z:Value}{ops:Array Oper}{QQ:Exit->Act->World->Prop}(hV:cv P F true sz)(hz:∀ w,(zeroValue F).run P w=.ok z w)(L4:z.cells.size=sz)(hl:cs.length=sz)(h1:∀ u∈cs,u.oneCell'=true)(hn:a.get n=.agg cs.toArray)(Pd:n≠v)(Kg:v<a.tmps.size)
  (h:∀ w',br (λ_=>False) w w'->w.heap.size<w'.heap.size->bB w' w.heap.size 0 cs->wpList P ops QQ [] (a.put (some v) (pt w.heap.size 0)) w') :
  wpList P ops QQ [mk (some v) (.alloc F),mk none (.store F (tm v) (tm n))] a w:=by
 refine fe (hz w) ?_
 let Z:Obj:=.cells z.cells F (0,0)
 have hb:(w.alloc Z).heap[w.heap.size]?=some Z:=bO w Z
 refine cK (g:=w.heap.size) (o:=0) (cur:=z.cells) (t:=F) (v:=.agg cs.toArray) (vs:=cs) (by rw[bp,fh _ _ _ Kg]) (by rw[bp,iP _ _ _ _ Pd];exact hn) rfl (by rw[hl];exact hV.size _) hb (by rw[hl];omega) h1 ?_
 rw[fL (by rw[hl];exact L4.symm)]
 have hk:br (λk=>w.heap.size<=k) w ((w.alloc Z).setRow w.heap.size cs.toArray):=(br.alloc _ _ _).trans (br.setRow (λk=>w.heap.size<=k) _ _ _ (ae _))
 have JH:=setRow_heap _ _ _ cs.toArray _ _ hb
 exact h _ (hk.mono λk hk hX=>by omega) (aj.1 JH).1 (jM JH)
theorem qS {s v T k F off sz:Nat}{cs:List Value}{z:Value}(hs:a.get s=pt B O)(hF:cO P T k F off true sz)(hz:∀ w,(zeroValue F).run P w=.ok z w)(L4:z.cells.size=sz)(hl:cs.length=sz)(Jv:∀ u∈cs,u.oneCell'=true)(hc:bB w B (O+off) cs)
  (hv:m<=v/\v<k0) (_hm:m<=k0) (hk:k0<=n) (hn:n+4<=a.tmps.size) (h1:1<m)
  (h:∀ a' w',Pv 1 m k0 n a a'->a'.get 1=a.get 1->a'.get v=pt w.heap.size 0->br (λ_=>False) w w'->w.heap.size<w'.heap.size->bB w' w.heap.size 0 cs->K a' w'):cf P (jw s v T k F n).1 (Exit.then K Q) a w:=by
 refine bF (bv ?_)
 rw[bp,hs]
 refine bY (by rw[bp,bA aa];rfl) ?_
 refine dt (by rw[bp,bA (by simp only[bq];omega)]) hF ?_
 refine gN (b:=B) (o:=O+off) (cs:=cs) (by rw[bp,bA (by simp only[bq];omega)]) (hF.var.agg w) (by rw[hl];exact hF.var.size w) hc ?_
 refine CA hF.var hz L4 hl Jv (bA (by simp only[bq];omega)) aa (by simp only[bq];omega) λw' Ko IU Si=>wpList_nil (h _ w' ?_ ?_ ?_ Ko IU Si)
 ·exact(((((Pv.refl _ _ _ _ _).put _ aa).put _ aa).put _ aa).put _ aa).put _ aa
 ·rw[b8 aa,b8 aa,b8 aa,b8 aa,b8 aa]
 ·exact bA (by simp only[bq];omega)
structure qw (w:World)(p:Nat)(cs:List Value)(d:Value):Prop where
 cells:bB w p 0 cs
 lt:p<w.heap.size
 ne:d.ownBlock≠some p
theorem qw.gr {p:Nat}{cs:List Value}{d':Value}{bs':Bs}{w':World}(h:qw w p cs d)(hg:Gr L te d w d' bs' w'):qw w' p cs d':=
 ⟨λj c hj=>hg.keeps.cell h.ne (h.cells j c hj),az h.lt hg.keeps.size,λhh=>by
  rcases hg.own p hh with h1|h1
  ·exact h.ne h1
  ·have:=h.lt;omega⟩
theorem zq (K0:KW P g av fl nl te):mD P g av fl nl te (.prim .uuid):=by
 intro nm cx ver B O L m k0 n T off t v d bs K E a w Jz J7 ht hw hc Jb hk JM hn hr hlim h
 simp only[okBodyW,aw,ac,ar]at Jz
 obtain⟨⟨⟨⟨Mc,Jy⟩,hT⟩,hF3⟩,Kf⟩:=Jz
 subst hT
 obtain⟨P3,N3,PU⟩:=kC Jy
 have Jj:=hc.le
 have Ky:=hc.one
 obtain⟨hV,hz⟩:=K0.uuid Mc
 obtain⟨cs,Js,hl⟩:=hr
 obtain⟨IT,Jv⟩:=oj hl
 obtain⟨l,MM,_,rfl⟩:=hl
 have NP:dp true ver (.prim .uuid) (.s l)=l:=by simp[dp,eN,cQ,PF.wr,V.octets]
 have Of:(eZ (t,dp true ver (.prim .uuid) (.s l))).length=(uvar t).length+((uvar 16).length+16):=by simp[eZ,NP,MM,f9]
 rw[Of]at hlim
 have J8:n+4+2+2+3<=a.tmps.size:=hn
 show cf P (gS (jw cx.s (nm.n 0) (nm.n 1) (nm.n 2) (nm.n 3)::jW g t::jW g 16::[wR g (g.ap .uuid) (nm.n 0)]) n).1 (Rt K E) a w
 refine cC (bt (qS (m:=m) (k0:=k0) hw.ss (fldB_ok Kf) (λw=>by rw[hF3];exact hz w) (by simp[Value.cells]) IT Jv Js ⟨N3,PU⟩ Jj hk aa Ky λa1 w1 IP Ld Lf Jd R8 JC=>?_))
 have IX:=IP.size
 have Ma:bS w1 L te d bs:=hw.dst.keep Jd λ_ _ h=>h
 have UN:=am hw.Lw Jd.size
 have O2:qw w1 w.heap.size cs d:=⟨JC,R8,λhh=>by have:=(hw.dst.own hh).2;omega⟩
 refine bt (vV (m:=m) K0 Jb ht (Ld.trans hw.s1) Ma UN aa Jj (by show k0<=n+4;omega) Ky (by show n+4+2<=_;omega) λa2 w2 d2 IR Mv Ja=>?_)
 have Jr:=IR.size
 have O3:=am UN Ja.keeps.size
 have Sj:=O2.gr Ja
 refine bt (vV (m:=m) K0 Jb aa Mv Ja.dst O3 (by rw[ad];omega) Jj (by show k0<=n+4+2;omega) Ky (by show n+4+2+2<=_;omega) λa3 w3 d3 IW KO Jw=>?_)
 have JI:=IW.size
 have N0:=Sj.gr Jw
 have UM:=am O3 Jw.keeps.size
 have O4:a3.get (nm.n 0)=pt w.heap.size 0:=by rw[IW.get _ aa (.inl aa),IR.get _ aa (.inl aa)];exact Lf
 have hap:=K0.apC .uuid Mc w3 L cs (.agg cs.toArray) (.s l) ⟨l,MM,by assumption,rfl⟩ rfl
 refine bt (xG (m:=m) (k0:=k0) hV (K0.apE _ Mc) hap KO O4 N0.cells IT (by show nm.n 0<n+4+2+2;omega) Jw.dst UM ?_ Jj (by show k0<=n+4+2+2;omega) (by show 1<n+4+2+2;omega) (by show n+4+2+2+3<=_;omega) λa4 w4 d4 Jp Nb JS=>cD (h a4 w4 d4 ?_ Nb ?_))
 ·simp only[ad,PF.wr,V.octets]
  omega
 ·exact((IP.trans (IR.mono Jj (by show n<=n+4;omega))).trans (IW.mono Jj (by show n<=n+4+2;omega))).trans (Jp.mono (ae _) (by show n<=n+4+2+2;omega))
 ·have:=(Gr.pre Jd (λ_ _ h=>h) (Ja.trans Jw)).trans JS
  simpa[eZ,NP,MM,f9,PF.wr,V.octets,ao]using this
theorem wk {ty:Ty}{p:Option eH}(h:m6 ty=some p):ty.leaf=true/\i9 ty=false:=by
 cases ty with
 | prim q=>
  simp only[m6]at h
  split at h
  ·rename_i hq
   refine⟨rfl,?_⟩
   cases q<;>first|rfl|cases hq
  ·cases h
 | str nul=>exact⟨rfl,rfl⟩
 | bytes _=>cases h
 | list _ _ _=>cases h
 | struct _ _ _=>cases h
theorem DB (K0:KW P g av fl nl te){b F p:Nat}{cs:List Value}{rest:List GC}(hb:b<m/\b≠1):∀ (fs:Fds) (l:List (Nat × Option eH × Int)) (ms:List Nm) (vs:List V) (n:Nat) (a:Act) (w:World) (d:Value) (bs:Bs),oL fs=some l->s8 ⟨P,g,av,nl⟩ cx.hf m k0 F fs ms=true->xh (λj=>cs[j]?) fs vs->qw w p cs d->a.get b=pt p 0 ->
  WC cx true ver te L B O d bs a w->pe cx m k0->k0<=n->k0<=a.tmps.size->(gL (g7 g cx b F fs ms) n).2<=a.tmps.size->bs.length+(wrFds true ver fs vs).length<=fq ->
  (∀ a' w' d',Pv 1 m k0 n a a'->a'.get 1=d'->Gr L te d w d' (bs++wrFds true ver fs vs) w'->LW P rest (gL (g7 g cx b F fs ms) n).2 Q a' w')->LW P (g7 g cx b F fs ms++rest) n Q a w
 | .nil,l,ms,vs,n,a,w,d,bs,_,_,_,_,_,hw,_,_,_,_,_,h=>by
  have e:g7 g cx b F .nil ms=[]:=by simp only[g7]
  rw[e]at h ⊢
  exact h a w d (Pv.refl _ _ _ _ _) hw.s1 (by simpa[wrFds]using Gr.refl hw.dst)
 | .cons lo hi tag df off ty r,l,ms,vs,n,a,w,d,bs,hl,Jf,SB,MX,PE,hw,hc,hk,JM,hn,hlim,h=>by
  obtain⟨rfl,rfl,rfl,q,l',hp,hr,rfl⟩:=kx hl
  obtain⟨y,v,vs',rfl,hy,Th,KG⟩:=SB
  obtain⟨Jy,Vi⟩:=wk hp
  simp only[s8,ac]at Jf
  obtain⟨⟨hF,hwo⟩,Nr⟩:=Jf
  have hF:=fldB_ok hF
  obtain⟨P3,Ra,hxk⟩:=kC hwo
  have Jj:=hc.le
  have Ky:=hc.one
  have e:g7 g cx b F (.cons 0 none none df off ty r) ms=gS ((bL 2 λn=>[mk (some n) (.fieldAddr F (tm b) ((ms.headD (.mk [] [])).n 1)),mk (some (n+1)) (.load ((ms.headD (.mk [] [])).n 2) (tm n)),mk (some ((ms.headD (.mk [] [])).n 0)) (.assign (tm (n+1)))])::cN g cx ty ((ms.headD (.mk [] [])).n 0) [])::g7 g cx b F r ms.tail:=by simp only[g7]
  have ew:wrFds true ver (.cons 0 none none df off ty r) (v::vs')=dp true ver ty v++wrFds true ver r vs':=by simp[wrFds,ml]
  rw[e]at hn h ⊢
  rw[ew]at hlim h
  rw[ad]at hlim
  have Kj:(gL (g7 g cx b F r ms.tail) (gL (cN g cx ty ((ms.headD (.mk [] [])).n 0) []) (n+2)).2).2<=a.tmps.size:=hn
  have Nj:=dN g cx ty ((ms.headD (.mk [] [])).n 0) [] (n+2)
  have PX:=mW g cx b F r ms.tail (gL (cN g cx ty ((ms.headD (.mk [] [])).n 0) []) (n+2)).2
  show LW P (gS _::(g7 g cx b F r ms.tail++rest)) n Q a w
  refine bt (cC (bt (bF ?_)))
  have IS:w.cell? ⟨p,0+off,none⟩=some y:=MX.cells off y hy
  refine dt (B:=p) (O:=0) (by rw[bp];exact PE) hF (cL (p:=⟨p,0+off,none⟩) (v:=y) (by rw[bp,bA aa]) (hF.var.agg w) IS (b7 (wpList_nil ?_)))
  have IP:Pv 1 m k0 n a (((a.put (some n) (.pointer (some ⟨p,0+off,none⟩))).put (some (n+1)) y).put (some ((ms.headD (.mk [] [])).n 0)) y):=(((Pv.refl _ _ _ _ _).put _ aa).put _ aa).put _ aa
  have YX:(((a.put (some n) (.pointer (some ⟨p,0+off,none⟩))).put (some (n+1)) y).put (some ((ms.headD (.mk [] [])).n 0)) y).get ((ms.headD (.mk [] [])).n 0)=y:=bA (by simp only[bq];omega)
  have IY:(((a.put (some n) (.pointer (some ⟨p,0+off,none⟩))).put (some (n+1)) y).put (some ((ms.headD (.mk [] [])).n 0)) y).get 1=d:=by rw[b8 aa,b8 aa,b8 aa];exact hw.s1
  have Um:((a.put (some n) (.pointer (some ⟨p,0+off,none⟩))).put (some (n+1)) y).eval (tm (n+1))=y:=by rw[bp,bA (by simp only[bq];omega)]
  rw[Um]
  show LW P _ (n+2) _ (((a.put (some n) (.pointer (some ⟨p,0+off,none⟩))).put (some (n+1)) y).put (some ((ms.headD (.mk [] [])).n 0)) y) w
  generalize((a.put (some n) (.pointer (some ⟨p,0+off,none⟩))).put (some (n+1)) y).put (some ((ms.headD (.mk [] [])).n 0)) y=a1 at IP YX IY ⊢
  have IX:=IP.size
  have LS:=hw.step hc IP IY (Gr.refl hw.dst)
  have YP:=sG true ver ty v Jy
  suffices K2:LW P (cN g cx ty ((ms.headD (.mk [] [])).n 0) []++[]) (n+2) (Exit.then (LW P (g7 g cx b F r ms.tail++rest) (gL (cN g cx ty ((ms.headD (.mk [] [])).n 0) []) (n+2)).2 Q) Q) a1 w by
   rw[aL]at K2
   exact K2
  refine nd K0 P3 LS hc aa aa (by rw[IX];omega) (by simp only[lN,Vi,ag,ak];exact⟨y,YX,rfl⟩) (Th w _) (by rw[<- YP];omega) λa2 w2 d2 IR Mv Ja=>cD ?_
  rw[<- YP]at Ja
  have Jr:=IR.size
  have J6:Pv 1 m k0 n a a2:=IP.trans (IR.mono (ae _) aa)
  have RM:a2.get b=pt p 0:=by rw[J6.get _ hb.2 (.inl hb.1)];exact PE
  have KV:=hw.step hc J6 Mv Ja
  refine DB K0 hb r l' ms.tail vs' _ a2 w2 d2 _ hr Nr KG (MX.gr Ja) RM KV hc aa aa (by rw[Jr,IX];exact Kj) (by rw[ad];omega) λa3 w3 d3 IW KO Jw=>h a3 w3 d3 (J6.trans (IW.mono (ae _) aa)) KO ?_
  rw[<- ao]
  exact Ja.trans Jw
theorem yu (K0:KW P g av fl nl te)(hf:cx.hf=true)(Jb:fl=true){b F p kt o sz:Nat}{F':Nat}{agg:Bool}{cs:List Value}{mm:Value}{t:List (Nat × Bs)}(hb:b<m/\b≠1)(hF:cO P F kt F' o agg sz)(Js:cs[o]?=some mm)(Kb:eA w (λk=>L<=k) mm t)(MX:qw w p cs d)(PE:a.get b=pt p 0)
  (hw:WC cx true ver te L B O d bs a w) (hc:pe cx m k0) (hk:k0<=n) (hn:n+1+6+3<=a.tmps.size) (hlim:bs.length+(d7 true t).length<=fq)
  (h:∀ a' w' d',Pv 1 m k0 n a a'->a'.get 1=d'->Gr L te d w d' (bs++d7 true t) w'->K a' w'):cf P (gE g cx b F kt n).1 (Exit.then K Q) a w:=by
 have Jj:=hc.le
 have Ky:=hc.one
 refine q4 (x:=n) (m:=m) (k0:=k0) (hw.sf hf) Jj hk aa λa1 IP=>?_
 have hp1':Pv 1 m k0 n a a1:=⟨IP.size,IP.defers,λs hs Jr=>IP.get s aa Jr⟩
 have IX:=IP.size
 have IY:a1.get 1=d:=by rw[IP.get 1 aa (.inl Ky)];exact hw.s1
 have J2:a1.get b=pt p 0:=by rw[IP.get b aa (.inl hb.1)];exact PE
 simp only[aw]
 have IT:(d7 true t).length=(uvar (f9 t.length)).length+(cM t).length:=by simp[d7]
 rw[IT]at hlim
 have LF:w.cell? ⟨p,0+o,none⟩=some mm:=MX.cells o mm Js
 refine cC (bt (bF (bv ?_)))
 rw[bp,IY]
 refine dt (B:=p) (O:=0) (by rw[bp,b8 aa];exact J2) hF ?_
 refine cj (vs:=#[pt p (0+o)]) (K0.tlE Jb) ?_ (K0.tlC Jb w p (0+o) mm _ t LF Kb) λe2 w2 hR=>⟨_,hR.1,?_⟩
 ·simp only[List.map_cons,List.map_nil,bp]
  rw[bA (by simp only[bq];omega)]
  rfl
 have IV:=hR.2
 refine ci (k:=.i64) (k':=.u32) (m:=t.length) (by rw[bp,bA (by simp only[bq];omega)]) K0.dInt (K0.dU32 Jb) ?_
 refine ee (k:=.u32) (m:=0) (n:=IntKind.u32.wrap t.length) rfl (by rw[bp,bA (by simp only[bq];omega)]) ab (lU w2) ?_
 have JO:IntKind.u32.wrap (0+IntKind.u32.wrap (t.length:Int))=(f9 t.length:Nat):=by simp[IntKind.wrap,IntKind.bits,IntKind.signed,f9]
 rw[JO]
 refine fI (K0.uvE Jb) ?_ (K0.uvC Jb (f9 t.length) w2 (nR _) L) (hw.dst.keep IV λ_ _ h=>h) (am hw.Lw IV.size) aa (by simp only[bq];omega) λw3 d3 Jw=>wpList_nil ?_
 ·simp only[List.map_cons,List.map_nil,bp]
  rw[b8 aa,b8 aa,b8 aa,b8 aa,bA aa,bA (by simp only[bq];omega)]
 have KI:Gr L te d w d3 (bs++uvar (f9 t.length)) w3:=Gr.pre IV (λ_ _ h=>h) Jw
 have JT:=Gr.far hw.dst KI
 have N0:=MX.gr KI
 have NE:w3.cell? ⟨p,0+o,none⟩=some mm:=N0.cells o mm Js
 have My:=Kb.keep JT
 have key:∀ (a2:Act),Pv 1 m k0 n a a2->a2.get 1=d3->a2.get b=pt p 0->LW P [bL 3 λn=>[mk (some n) (.fieldAddr F (tm b) kt),mk (some (n+1)) (.move (tm 1)),cl (some (n+2)) g.teach [tm n,tm (n+1)],mk (some 1) (.assign (tm (n+2)))]] (n+1+6) (Exit.then K Q) a2 w3:=by
  intro a2 IR Ja OR
  have Jr:=IR.size
  refine bt (bF ?_)
  refine dt (B:=p) (O:=0) (by rw[bp];exact OR) hF (bv ?_)
  rw[bp,b8 aa,Ja]
  refine cj (vs:=#[pt p (0+o),d3]) (K0.teE Jb) ?_ (K0.teC Jb w3 p (0+o) mm L t d3 _ NE ⟨N0.lt,N0.ne⟩ My KI.dst (am hw.Lw KI.keeps.size) (by rw[ad];omega)) λe4 w4 hR4=>?_
  ·simp only[List.map_cons,List.map_nil,bp]
   rw[b8 aa,bA aa,bA (by simp only[bq];omega)]
   rfl
  obtain⟨d4,Uo,JS⟩:=hR4
  refine⟨d4,Uo,b7 (wpList_nil (cD (h _ w4 d4 ?_ ?_ ?_)))⟩
  ·exact IR.trans (((((Pv.refl _ _ _ _ _).put _ aa).put _ aa).put _ aa).put _ (.inl rfl))
  ·rw[bA (by simp only[bq];omega),bp,bA (by simp only[bq];omega)]
  ·have:=KI.trans JS
   simpa[d7,ao]using this
 refine key _ ?_ (bA (by simp only[bq];omega)) ?_
 ·exact hp1'.trans (((((((Pv.refl _ _ _ _ _).put _ aa).put _ aa).put _ aa).put _ aa).put _ aa).put _ aa |>.put _ (.inl rfl))
 ·rw[b8 aa,b8 aa,b8 aa,b8 aa,b8 aa,b8 aa,b8 aa];exact J2
theorem qm:∀ (fs:Fds) (l:List (Nat × Option eH × Int)),oL fs=some l->fs.tagged=false
 | .nil,_,_=>rfl
 | .cons lo hi tag df off ty r,l,hl=>by
  obtain⟨_,_,rfl,_,l',_,hr,_⟩:=kx hl
  simp only[Fds.tagged,Option.isSome_none,bj]
  exact qm r l' hr
theorem vd (K0:KW P g av fl nl te)(toff:Option Nat)(fs:Fds):mD P g av fl nl te (.struct none toff fs):=by
 intro nm cx ver B O L m k0 n T off t v d bs K E a w Jz J7 ht hw hc Jb hk JM hn hr hlim h
 cases toff with
 | none=>simp[okBodyW]at Jz
 | some o=>
 simp only[okBodyW,ac,ai,ar]at Jz
 obtain⟨⟨⟨⟨⟨Jo,Oj⟩,hT⟩,Kf⟩,MZ⟩,JL⟩:=Jz
 subst hT
 simp only[pS,ac]at JL
 have hFt:=fldB_ok JL.2
 have hF:=fldB_ok Kf
 have Jj:=hc.le
 have Ky:=hc.one
 obtain⟨s0,LU,_,_,e3,e4,Oy,Oz⟩:=Ay Oj
 have C:=K0.smC s0 LU
 obtain⟨z,L4,hz⟩:=C.zC
 have PZ:pC P (nm.n 3)=s0.sz:=by
  have h1:=hF.var.size w
  have h2:=C.var.size w
  rw[e3]at h2
  rw[h1]at h2
  simpa using h2
 obtain⟨cs,mm,vs,tg,rfl,IT,Kv,Jv,VS,_,Kb,SB⟩:=uZ Oy Oz hr
 have R2:fs.tagged=false:=qm fs s0.ds Oy
 have NP:dp true ver (.struct none (some o) fs) (.st vs tg)=wrFds true ver fs vs++d7 true tg:=by simp only[dp,V.fields,V.tags,jG true ver fs vs R2,nQ]
 have Of:(eZ (t,dp true ver (.struct none (some o) fs) (.st vs tg))).length=(uvar t).length+((uvar (f9 (wrFds true ver fs vs++d7 true tg).length)).length+(wrFds true ver fs vs++d7 true tg).length):=by rw[NP];simp[eZ]
 rw[Of]at hlim
 have Mg:Up (gE g cx (nm.n 0) (nm.n 3) (nm.n 11)):=dG (gH (bw (bD _ _) (bw (bD _ _) bK))) (dc _)
 have Ni:ka (g7 g cx (nm.n 0) (nm.n 3) fs (nm.sub 0).s++[gE g cx (nm.n 0) (nm.n 3) (nm.n 11)]):=bN (mW _ _ _ _ _ _) (bw Mg bK)
 have J8:(gL ((g7 g cx (nm.n 0) (nm.n 3) fs (nm.sub 0).s++[gE g cx (nm.n 0) (nm.n 3) (nm.n 11)])++[eD g (nm.n 4) (nm.n 5) (nm.n 6) (nm.n 9)]) (n+4+2+2)).2<=a.tmps.size:=by
  have hh:(gL ([jw cx.s (nm.n 0) (nm.n 1) (nm.n 2) (nm.n 3),jW g t]++uR g (nm.n 4) (nm.n 5) (nm.n 6)++(g7 g cx (nm.n 0) (nm.n 3) fs (nm.sub 0).s++[gE g cx (nm.n 0) (nm.n 3) (nm.n 11)])++[eD g (nm.n 4) (nm.n 5) (nm.n 6) (nm.n 9)]) n).2<=a.tmps.size:=hn
  rw[ao,cz]at hh
  exact hh
 have QF:(gL (g7 g cx (nm.n 0) (nm.n 3) fs (nm.sub 0).s++[gE g cx (nm.n 0) (nm.n 3) (nm.n 11)]) (n+4+2+2)).2+11<=a.tmps.size:=by rw[cz]at J8;exact J8
 have KM:=Ni (n+4+2+2)
 have JX:gwBody g cx t (.struct none (some o) fs) nm=lF ([jw cx.s (nm.n 0) (nm.n 1) (nm.n 2) (nm.n 3),jW g t,co (nm.n 4) (.bool false),bL 2 λn=>[mk (some n) (.move (tm 1)),bi (some (n+1)) .len [tm n] [g.tSl] g.tInt,mk (some (nm.n 5)) (.assign (tm (n+1)))]] ++
  (cp (.label (nm.n 6))::((g7 g cx (nm.n 0) (nm.n 3) fs (nm.sub 0).s++[gE g cx (nm.n 0) (nm.n 3) (nm.n 11)])++[eD g (nm.n 4) (nm.n 5) (nm.n 6) (nm.n 9)]))):=by
  simp only[gwBody,uR,aS,aF,ao]
 rw[JX]
 refine rW (λc hc=>?_) ?_ ?_
 ·simp only[gL,jw,jW,co,bL,rg,aI,bd,or_false]at hc
  rcases hc with rfl|rfl|rfl|rfl<;>rfl
 ·rw[cz]
  simp[gL]
 show LW P (jw cx.s (nm.n 0) (nm.n 1) (nm.n 2) (nm.n 3)::jW g t::([co (nm.n 4) (.bool false),bL 2 λn=>[mk (some n) (.move (tm 1)),bi (some (n+1)) .len [tm n] [g.tSl] g.tInt,mk (some (nm.n 5)) (.assign (tm (n+1)))],cp (.label (nm.n 6))] ++
  ((g7 g cx (nm.n 0) (nm.n 3) fs (nm.sub 0).s++[gE g cx (nm.n 0) (nm.n 3) (nm.n 11)])++[eD g (nm.n 4) (nm.n 5) (nm.n 6) (nm.n 9)]))) n _ a w
 refine bt (qS (m:=m) (k0:=k0) hw.ss hF (λw=>by rw[<- e3];exact hz w) (L4.trans PZ.symm) (IT.trans PZ.symm) Jv Kv ⟨Jo.1,by omega⟩ Jj hk aa Ky λa1 w1 IP Ld Lf Jd R8 JC=>?_)
 have IX:=IP.size
 have Ma:bS w1 L te d bs:=hw.dst.keep Jd λ_ _ h=>h
 have UN:=am hw.Lw Jd.size
 have O2:qw w1 w.heap.size cs d:=⟨JC,R8,λhh=>by have:=(hw.dst.own hh).2;omega⟩
 refine bt (vV (m:=m) K0 Jb ht (Ld.trans hw.s1) Ma UN aa Jj (by show k0<=n+4;omega) Ky (by show n+4+2<=_;omega) λa2 w2 d2 IR Mv Ja=>?_)
 have Jr:=IR.size
 have J6:Pv 1 m k0 n a a2:=IP.trans (IR.mono Jj (by show n<=n+4;omega))
 have Mf:a2.get (nm.n 0)=pt w.heap.size 0:=(IR.get _ aa (.inl aa)).trans Lf
 have O3:=am UN Ja.keeps.size
 have NJ:Gr L te d w d2 (bs++uvar t) w2:=Gr.pre Jd (λ_ _ h=>h) Ja
 have Sj:=O2.gr Ja
 have MF:eA w2 (λk=>L<=k) (.map mm) tg:=Kb.keep (Gr.far hw.dst NJ)
 show LW P _ (n+4+2) _ a2 w2
 refine rV K0 Jb (k0:=k0) (m0:=nm.n 0+1) (mB:=max (nm.n 4) (nm.n 5)+1) (enc:=wrFds true ver fs vs++d7 true tg) Mv Ja.dst O3 (by rw[ad (as:=bs)];omega) aa aa aa aa Ni (by rw[Jr,IX];exact J8) (λa3 w3 d3 bs3 K3 LQ KO hg3' Nt h3=>?_) λa3 w3 d3 LQ KO Jw=>h a3 w3 d3 ?_ KO ?_
 ·have JI:=LQ.size
  have IZ:=Gr.far Ja.dst hg3'
  have KV:=hw.step hc J6 Mv NJ
  have JN:∀ q,q<m->q≠1->a3.get q=a2.get q:=λq hq La=>LQ.get q La aa (.inl aa)
  have Nh:WC cx true ver te L B O d3 bs3 a3 w3:=⟨hg3'.dst,KO,by rw[JN _ hc.s.1 hc.s.2];exact KV.ss,by rw[JN _ hc.ver.1 hc.ver.2];exact KV.sv,λhf=>by rw[JN _ hc.fx.1 hc.fx.2];exact KV.sf hf,KV.nf,KV.BL,am O3 IZ.size⟩
  have O4:a3.get (nm.n 0)=pt w.heap.size 0:=(LQ.get _ aa aa (.inl aa)).trans Mf
  have X5:pe cx (max (nm.n 4) (nm.n 5)+1) k0:=hc.mono aa aa
  have N0:=Sj.gr hg3'
  have YQ:(wrFds true ver fs vs++d7 true tg).length=(wrFds true ver fs vs).length+(d7 true tg).length:=ad
  have hnB:(gL (g7 g cx (nm.n 0) (nm.n 3) fs (nm.sub 0).s) (n+4+2+2)).2+1+6+3<=a.tmps.size:=by
   rw[cz]at QF
   have:(gL (g7 g cx (nm.n 0) (nm.n 3) fs (nm.sub 0).s) (n+4+2+2)).2+1+6+3+11<=a.tmps.size:=QF
   omega
  have hupX:=mW g cx (nm.n 0) (nm.n 3) fs (nm.sub 0).s (n+4+2+2)
  refine DB K0 (cx:=cx) (m:=max (nm.n 4) (nm.n 5)+1) (k0:=k0) (F:=nm.n 3) (p:=w.heap.size) (cs:=cs) ⟨by omega,by omega⟩ fs s0.ds (nm.sub 0).s vs (n+4+2+2) a3 w3 d3 bs3 Oy MZ SB N0 O4 Nh X5 aa aa aa aa λa4 w4 d4 Jp Nb JS=>?_
  have L3:=Jp.size
  have NX:a4.get (nm.n 0)=pt w.heap.size 0:=(Jp.get _ aa (.inl aa)).trans O4
  have SL:=Nh.step X5 Jp Nb JS
  refine bt ?_
  rw[cn]
  have Nx:=yu (w:=w4) K0 J7 Jb (b:=nm.n 0) (m:=max (nm.n 4) (nm.n 5)+1) (k0:=k0) (n:=(gL (g7 g cx (nm.n 0) (nm.n 3) fs (nm.sub 0).s) (n+4+2+2)).2) (a:=a4) (K:=K3) (Q:=Rt K3 E) (p:=w.heap.size) (cs:=cs) (mm:=.map mm) (t:=tg) ⟨by omega,by omega⟩ hFt VS ((MF.keep IZ).keep (Gr.far hg3'.dst JS)) (N0.gr JS) NX SL X5 aa aa (by rw[ad];omega) λa5 w5 d5 Kt Q2 Lj=>h3 a5 w5 d5 (Jp.trans (Kt.mono (ae _) aa)) Q2 (by rw[<- ao];exact JS.trans Lj)
  rw[cn]at Nx
  exact Nx.mono λe a w hq=>by
   cases e<;>first|exact cD hq|exact hq
 ·exact J6.trans ⟨LQ.size,LQ.defers,λi hi hi2=>LQ.get i hi aa aa⟩
 ·have:=NJ.trans Jw
  rw[NP]
  simpa[eZ,ao]using this
end
section
variable {P:Program} {g:GW} {av:PF->Bool} {fl nl:Bool} {te:Nat}
theorem vt {toff:Option Nat}{fs:Fds}(J9:oE P g av fl nl te fs)(NC:oo P g av fl nl te fs):zy P g av fl nl te (.struct none toff fs):=by
 intro nm cx fx ver B O L m k0 n esz vs i F E' p q cnt c j v d bs K E a w Jz hw hc Jb hk JM hn Kg hi hj MD Ou hF hE QC hr hlim h
 simp only[okElW,ac,ai]at Jz
 obtain⟨⟨Jo,JL⟩,ML⟩:=Jz
 obtain⟨vv,t,rfl,Tc,ht⟩:=hr
 have Jj:=hc.le
 have J8:(gL (gwFds g { cx with s:=nm.n 0 } fs (nm.sub 0).s++di g { cx with s:=nm.n 0 } fs (nm.n 1) (nm.n 2) (nm.sub 0)) (n+3)).2<=a.tmps.size:=hn
 have KM:=bN (upL_wfds g fs { cx with s:=nm.n 0 } (nm.sub 0).s) (iK g { cx with s:=nm.n 0 } fs (nm.n 1) (nm.n 2) (nm.sub 0)) (n+3)
 show LW P (fU vs i (nm.n 0) F::(gwFds g { cx with s:=nm.n 0 } fs (nm.sub 0).s++di g { cx with s:=nm.n 0 } fs (nm.n 1) (nm.n 2) (nm.sub 0))) n (Rt K E) a w
 refine bt (vS Kg hi hj hF hE Jo aa aa Jj hk aa hc.one λa1 IP IY Oc=>?_)
 have IX:=IP.size
 show LW P _ (n+3) (Rt K E) a1 w
 have LS:=hw.at hc IP (IY.trans hw.s1) Oc QC
 exact CD J9 NC (cx:={ cx with s:=nm.n 0 }) JL ML LS (hc.at (m':=nm.n 0+1) ⟨Jo.1,by omega⟩ aa aa) Jb aa aa (by rw[IX];exact J8) Tc ht (by simpa[dp,V.fields,V.tags]using hlim) λa' w' d' Jx h1' Jn=>h a' w' d' (IP.trans (Jx.mono aa aa)) h1' (by simpa[dp,V.fields,V.tags]using Jn)
theorem pm (K0:KW P g av fl nl te){nul:Option Nat}{sz:Nat}{e:Ty}(he:zy P g av fl nl te e){v0 F i b1 b2 E' len c:Nat}{sub:Nm}{z:Array Value}{base:Option Addr}{cx:Cx}{fx:Bool}{ver:Int}{B O L m k0 n:Nat}{v:V}{d:Value}{bs:Bs}{K E:Act->World->Prop}{a:Act}{w:World}
  (Jo:v0<m/\m<=i/\i<k0/\v0≠1) (hR:oF P F E' sz z) (Ns:okElW ⟨P,g,av,nl⟩ cx.hf (i+1) k0 E' sz e sub=true) (JB:nul.isSome=true->nl=true) (M9:nul.isSome=false->ny g cx.hf=true) (hw:WC cx fx ver te L B O d bs a w) (hc:pe cx m k0) (Jb:cx.hf=true->fl=true) (hk:k0<=n) (JM:k0<=a.tmps.size)
  (hn:(gL [iA g cx nul v0 F,jb g v0 i b1 b2 F (gwEl g cx e v0 i F sub)] n).2<=a.tmps.size) (N3:a.get v0=.slice base len c) (IT:len=v.list.length) (Li:len<=maxLen) (JG:base.isNone=v.isNul) (Ps:∀ i x,v.list[i]?=some x->∃ p q,base=some ⟨p,q,none⟩/\p<L/\Rp w (λk=>L<=k) e p (q+i*sz) x)
  (hlim:bs.length+(dp fx ver (.list nul sz e) v).length<=fq) (h:∀ a' w' d',Pv 1 m k0 n a a'->a'.get 1=d'->Gr L te d w d' (bs++dp fx ver (.list nul sz e) v) w'->K a' w'):LW P [iA g cx nul v0 F,jb g v0 i b1 b2 F (gwEl g cx e v0 i F sub)] n (Rt K E) a w:=by
 have Jj:=hc.le
 have Ky:=hc.one
 have JO:dp fx ver (.list nul sz e) v=(if nul.isSome&&base.isNone then eJ fx 4 else kf fx len)++kd (dp fx ver e) v.list:=by simp only[dp,JG,IT]
 rw[JO]at hlim h
 rw[ad]at hlim
 have OK:=mR g cx nul v0 F n
 have Q5:=upL_wel g e cx v0 i F sub
 have OL:=mS g v0 i b1 b2 F Q5 (iA g cx nul v0 F n).2
 have J8:(jb g v0 i b1 b2 F (gwEl g cx e v0 i F sub) (iA g cx nul v0 F n).2).2<=a.tmps.size:=hn
 refine bt (EJ (m:=m) (k0:=k0) K0 JB M9 Jb hw hc N3 hR.und aa aa aa aa λa2 w2 d2 IR Mv hgr2=>?_)
 have Jr:=IR.size
 have Ja:a2.get v0=.slice base len c:=by rw[IR.get _ aa (.inl aa)];exact N3
 generalize YH:(iA g cx nul v0 F n).2=np at OK OL J8 ⊢
 refine bt ?_
 rw[cn]
 refine EM (m:=m) (k0:=k0) (W:=λj d' w'=>Gr L te d w d' (bs++(if nul.isSome&&base.isNone then eJ fx 4 else kf fx len)++kd (dp fx ver e) (v.list.take j)) w') Ja hR.und aa aa aa aa (by rw[Jr];exact J8) (Q5 _) Li ?_ (λj a3 w3 hj IW hi3 hW=>?_) (λa3 w3 IW hW=>?_)
 ·rw[Mv]
  simpa[kd]using hgr2
 ·have JI:=IW.size
  obtain⟨x,hx⟩:∃ x,v.list[j]?=some x:=⟨v.list[j]' aa,aq aa⟩
  obtain⟨p,q,rfl,QC,hrx⟩:=Ps j x hx
  have M3:v.list.take (j+1)=v.list.take j++[x]:=by rw[List.take_add_one,hx];rfl
  have YM:(kd (dp fx ver e) v.list).length=(kd (dp fx ver e) (v.list.take j)).length+(dp fx ver e x).length+(kd (dp fx ver e) (v.list.drop (j+1))).length:=by
   conv=>lhs;rw[<- List.take_append_drop (j+1) v.list,M3]
   simp only[kd,List.map_append,List.flatten_append,ad,List.map_cons,List.map_nil,List.flatten_cons,List.flatten_nil,aL]
  have Qe:Pv 1 m k0 n a a3:=IR.trans (IW.mono aa aa)
  have Nh:=hw.step hc Qe rfl hW
  have JT:=Gr.far hw.dst hW
  have VD:a3.get v0=.slice (some ⟨p,q,none⟩) len c:=by rw[IW.get _ aa (.inl aa)];exact Ja
  refine cC (he sub cx fx ver B O L (i+1) k0 (np+5) sz v0 i F E' p q len c j x (a3.get 1) _ _ E a3 w3 Ns Nh (hc.mono aa aa) Jb aa aa ?_ VD hi3 hj aa aa hR.und hR.size QC (Rp.keep JT hrx aa (by have:=hw.Lw;omega)) ?_ λa4 w4 d4 Jp Nb JS=>⟨Jp,?_⟩)
  ·have h9:(gL (gwEl g cx e v0 i F sub) (np+5)).2+1<=a.tmps.size:=J8
   omega
  ·rw[ad,ad]
   omega
  ·rw[Nb,M3]
   have:=hW.trans JS
   simpa[kd,ao]using this
 ·refine cD (h a3 w3 (a3.get 1) (IR.trans (IW.mono aa aa)) rfl ?_)
  rw[IT,List.take_length]at hW
  rw[IT,<- ao]
  exact hW
theorem rj {w:World}{L b o sz:Nat}{nul:Option Nat}{e:Ty}{v:V}(hr:Rp w (λk=>L<=k) (.list nul sz e) b o v):∃ base len c,w.cell? ⟨b,o,none⟩=some (.slice base len c)/\len=v.list.length/\len<=maxLen/\base.isNone=v.isNul/\(∀ i x,v.list[i]?=some x->∃ p q,base=some ⟨p,q,none⟩/\p<L/\Rp w (λk=>L<=k) e p (q+i*sz) x):=by
 rcases hr with⟨h1,rfl⟩|⟨xs,p,q,c,h1,h2,h3,h4,h5,rfl,h7⟩
 ·exact⟨none,0,0,h1,rfl,by simp[maxLen],rfl,λi x hx=>by simp[V.list]at hx⟩
 ·exact⟨some ⟨p,q,none⟩,xs.length,c,h1,rfl,by omega,rfl,λi x hx=>⟨p,q,rfl,by omega,h7 i x hx⟩⟩
theorem zJ (K0:KW P g av fl nl te){nul:Option Nat}{esz:Nat}{e:Ty}(he:zy P g av fl nl te e):zx P g av fl nl te (.list nul esz e):=by
 intro nm cx fx ver B O L m k0 n T off v d bs K E a w Jz hw hc Jb hk JM hn hr hlim h
 simp only[nk,ac,aH,Bool.not_eq_true',ai,ar]at Jz
 obtain⟨⟨⟨⟨Jo,hT⟩,Kf⟩,JB⟩,Jq⟩:=Jz
 subst hT
 cases Nl:pM P (nm.n 3) with
 | none=>rw[Nl]at Jq;cases Jq
 | some row=>
 obtain⟨E',sz,z⟩:=row
 rw[Nl]at Jq
 simp only[ac,aH,ar]at Jq
 obtain⟨⟨rfl,Ns⟩,M9⟩:=Jq
 have Jj:=hc.le
 have Ky:=hc.one
 obtain⟨base,len,c,IS,IT,Li,JG,Ps⟩:=rj hr
 have OK:=mR g cx nul (nm.n 0) (nm.n 3) (n+4)
 have OL:=mS g (nm.n 0) (nm.n 4) (nm.n 5) (nm.n 6) (nm.n 3) (upL_wel g e cx (nm.n 0) (nm.n 4) (nm.n 3) (nm.sub 0)) (iA g cx nul (nm.n 0) (nm.n 3) (n+4)).2
 have J8:(jb g (nm.n 0) (nm.n 4) (nm.n 5) (nm.n 6) (nm.n 3) (gwEl g cx e (nm.n 0) (nm.n 4) (nm.n 3) (nm.sub 0)) (iA g cx nul (nm.n 0) (nm.n 3) (n+4)).2).2<=a.tmps.size:=hn
 show LW P [dO cx.s (nm.n 0) (nm.n 1) (nm.n 2) (nm.n 3),iA g cx nul (nm.n 0) (nm.n 3),jb g (nm.n 0) (nm.n 4) (nm.n 5) (nm.n 6) (nm.n 3) (gwEl g cx e (nm.n 0) (nm.n 4) (nm.n 3) (nm.sub 0))] n (Rt K E) a w
 refine bt (j7 (x:=nm.n 0) (m:=m) (k0:=k0) hw.ss (fldB_ok Kf) IS (.inl rfl) Jj hk aa aa λa1 IP IY=>?_)
 have IX:=IP.size
 have hp1':=IP.x1 ⟨Jo.1,by omega⟩
 have Ld:a1.get 1=d:=(IP.g1 ⟨Jo.1,by omega⟩ Ky).trans hw.s1
 have LS:=hw.step hc hp1' Ld (Gr.refl hw.dst)
 show LW P [iA g cx nul (nm.n 0) (nm.n 3),jb g (nm.n 0) (nm.n 4) (nm.n 5) (nm.n 6) (nm.n 3) (gwEl g cx e (nm.n 0) (nm.n 4) (nm.n 3) (nm.sub 0))] (n+4) (Rt K E) a1 w
 exact pm K0 he (m:=nm.n 0+1) aa (pL Nl) Ns (λhs=>by rcases JB with hh|hh;rw[hs]at hh;cases hh;exact hh) (λh=>M9.resolve_left (by rw[h];simp)) LS (hc.mono aa aa) Jb aa aa (by rw[IX];exact J8) IY IT Li JG Ps hlim λa' w' d' Jx h1' Jn=>h a' w' d' (hp1'.trans (Jx.mono aa aa)) h1' Jn
theorem C5 {toff:Option Nat}{fs:Fds}(J9:oE P g av fl nl te fs)(NC:oo P g av fl nl te fs):zx P g av fl nl te (.struct none toff fs):=by
 intro nm cx fx ver B O L m k0 n T off v d bs K E a w Jz hw hc Jb hk JM hn hr hlim h
 simp only[nk,ac,ai,ar]at Jz
 obtain⟨⟨⟨⟨Jo,hT⟩,Kf⟩,JL⟩,ML⟩:=Jz
 subst hT
 obtain⟨vv,t,rfl,Tc,ht⟩:=hr
 have Jj:=hc.le
 have J8:(gL (gwFds g { cx with s:=nm.n 0 } fs (nm.sub 0).s++di g { cx with s:=nm.n 0 } fs (nm.n 3) (nm.n 4) (nm.sub 0)) (n+3)).2<=a.tmps.size:=hn
 have KM:=bN (upL_wfds g fs { cx with s:=nm.n 0 } (nm.sub 0).s) (iK g { cx with s:=nm.n 0 } fs (nm.n 3) (nm.n 4) (nm.sub 0)) (n+3)
 show LW P (ia cx.s (nm.n 0) (nm.n 1) (nm.n 2)::(gwFds g { cx with s:=nm.n 0 } fs (nm.sub 0).s++di g { cx with s:=nm.n 0 } fs (nm.n 3) (nm.n 4) (nm.sub 0))) n (Rt K E) a w
 refine bt (ly (x:=nm.n 0) (m:=m) (k0:=k0) hw.ss (fldB_ok Kf) (.inl rfl) Jj hk aa aa λa1 IP IY=>?_)
 have IX:=IP.size
 have hp1':=IP.x1 Jo
 show LW P _ (n+3) (Rt K E) a1 w
 have LS:=hw.at hc hp1' ((IP.g1 Jo hc.one).trans hw.s1) IY hw.BL
 exact CD J9 NC (cx:={ cx with s:=nm.n 0 }) JL ML LS (hc.at (m':=nm.n 0+1) ⟨Jo.1,by omega⟩ aa aa) Jb aa aa (by rw[IX];exact J8) Tc ht (by simpa[dp,V.fields,V.tags]using hlim) λa' w' d' Jx h1' Jn=>h a' w' d' (hp1'.trans (Jx.mono aa aa)) h1' (by simpa[dp,V.fields,V.tags]using Jn)
theorem C4 (K0:KW P g av fl nl te){q:Nat}{toff:Option Nat}{fs:Fds}(J9:oE P g av fl nl te fs)(NC:oo P g av fl nl te fs):zx P g av fl nl te (.struct (some q) toff fs):=by
 intro nm cx fx ver B O L m k0 n T off v d bs K E a w Jz hw hc Jb hk JM hn hr hlim h
 simp only[nk,ac,ai,ar]at Jz
 obtain⟨⟨⟨⟨⟨Jo,hT⟩,Kf⟩,Ln⟩,JL⟩,ML⟩:=Jz
 subst hT
 obtain⟨el,LP⟩:∃ el,P.underlying (nm.n 3)=some (.pointer el):=by
  unfold yT at Ln
  split at Ln
  ·rename_i el h;exact⟨el,h⟩
  ·cases Ln
 have Jj:=hc.le
 have Ky:=hc.one
 have J8:(gL (iO g 1::(gwFds g { cx with s:=nm.n 0 } fs (nm.sub 0).s++di g { cx with s:=nm.n 0 } fs (nm.n 4) (nm.n 5) (nm.sub 0))) (n+4+2+3)).2<=a.tmps.size:=hn
 have QF:(gL (gwFds g { cx with s:=nm.n 0 } fs (nm.sub 0).s++di g { cx with s:=nm.n 0 } fs (nm.n 4) (nm.n 5) (nm.sub 0)) (n+4+2+3+3)).2<=a.tmps.size:=hn
 have KM:=bN (upL_wfds g fs { cx with s:=nm.n 0 } (nm.sub 0).s) (iK g { cx with s:=nm.n 0 } fs (nm.n 4) (nm.n 5) (nm.sub 0)) (n+4+2+3+3)
 show LW P [dO cx.s (nm.n 0) (nm.n 1) (nm.n 2) (nm.n 3),BW (nm.n 0) (nm.n 3) (iO g 255) (gS (iO g 1::(gwFds g { cx with s:=nm.n 0 } fs (nm.sub 0).s++di g { cx with s:=nm.n 0 } fs (nm.n 4) (nm.n 5) (nm.sub 0))))] n (Rt K E) a w
 have IS:∃ m',w.cell? ⟨B,O+off,none⟩=some (.pointer m'):=by
  rcases hr with⟨h1,_⟩|⟨p,q,vs,t,h1,_⟩
  ·exact⟨none,h1⟩
  ·exact⟨_,h1⟩
 obtain⟨ptr,IS⟩:=IS
 refine bt (j7 (x:=nm.n 0) (m:=m) (k0:=k0) hw.ss (fldB_ok Kf) IS (.inl rfl) Jj hk aa aa λa1 IP IY=>?_)
 have IX:=IP.size
 have hp1':=IP.x1 Jo
 have Ld:a1.get 1=d:=(IP.g1 Jo Ky).trans hw.s1
 show LW P [BW (nm.n 0) (nm.n 3) (iO g 255) (gS (iO g 1::(gwFds g { cx with s:=nm.n 0 } fs (nm.sub 0).s++di g { cx with s:=nm.n 0 } fs (nm.n 4) (nm.n 5) (nm.sub 0))))] (n+4) (Rt K E) a1 w
 refine bt ?_
 rw[cn]
 have Jh:∀ (b:Bool),b=ptr.isNone->∀ (X:Act->World->Prop),(∀ a2,Pv 1 m k0 (n+4) a1 a2->a2.get 1=d->a2.get (nm.n 0)=.pointer ptr->X a2 w) ->
   wpList P [mk (some (n+4)) (.move (tm (nm.n 0))),mk (some (n+4+1)) (.binOp .eql (nm.n 3) (tm (n+4)) (.const (.pointer none)) 0)].toArray (Exit.then (λa' w'=>a'.eval (tm (n+4+1))=.bool b/\X a' w') (Rt (LW P [] ((gS (iO g 1::(gwFds g { cx with s:=nm.n 0 } fs (nm.sub 0).s++di g { cx with s:=nm.n 0 } fs (nm.n 4) (nm.n 5) (nm.sub 0)))) (n+4+2+3)).2 (Rt K E)) E))
    [mk (some (n+4)) (.move (tm (nm.n 0))),mk (some (n+4+1)) (.binOp .eql (nm.n 3) (tm (n+4)) (.const (.pointer none)) 0)] a1 w:=by
  intro b hb X hX
  refine bv (nO (m:=ptr) LP (by rw[bp,bA aa,bp];exact IY) (wpList_nil ⟨by rw[bp,bA (by simp only[bq];omega),hb],hX _ ?_ ?_ ?_⟩))
  ·exact((Pv.refl _ _ _ _ _).put _ aa).put _ aa
  ·rw[b8 aa,b8 aa];exact Ld
  ·rw[b8 aa,b8 aa];exact IY
 rcases hr with⟨h1,rfl⟩|⟨p,q',vs,t,h1,h2,h3,rfl,h5,h6⟩
 ·rw[h1]at IS
  obtain rfl:(none:Option Addr)=ptr:=by simpa using IS
  have JO:dp fx ver (.struct (some q) toff fs) .nul=[255]:=by simp[dp,V.isNul]
  rw[JO]at hlim h
  refine eX (Jh true rfl _ λa2 IR Mv Ja=>?_)
  have Jr:=IR.size
  have e:Rt (LW P [] ((gS (iO g 1::(gwFds g { cx with s:=nm.n 0 } fs (nm.sub 0).s++di g { cx with s:=nm.n 0 } fs (nm.n 4) (nm.n 5) (nm.sub 0)))) (n+4+2+3)).2 (Rt K E)) E=Exit.then (LW P [] ((gS (iO g 1::(gwFds g { cx with s:=nm.n 0 } fs (nm.sub 0).s++di g { cx with s:=nm.n 0 } fs (nm.n 4) (nm.n 5) (nm.sub 0)))) (n+4+2+3)).2 (Rt K E)) (Rt K E):=cn.symm
  show cf P (iO g ((255:Nat):Int) (n+4+2)).1 (Rt _ E) a2 w
  have:=xF K0 (c:=255) (m:=m) (k0:=k0) (n:=n+4+2) (Q:=Rt K E) (a:=a2) (w:=w) (d:=d) (bs:=bs) (L:=L) (K:=LW P [] ((gS (iO g 1::(gwFds g { cx with s:=nm.n 0 } fs (nm.sub 0).s++di g { cx with s:=nm.n 0 } fs (nm.n 4) (nm.n 5) (nm.sub 0)))) (n+4+2+3)).2 (Rt K E)) aa Mv hw.dst hw.Lw (by simpa using hlim) Jj aa aa aa λa3 w3 d3 IW KO Jw=>cD (h a3 w3 d3 ((hp1'.trans (IR.mono (ae _) aa)).trans (IW.mono (ae _) aa)) KO Jw)
  rw[cn]at this
  exact this
 ·rw[h1]at IS
  obtain rfl:some (⟨p,q',none⟩:Addr)=ptr:=by simpa using IS
  have JO:dp fx ver (.struct (some q) toff fs) (.st vs t)=[1]++(wrFds fx ver fs vs++ig fx (wrTgd fx ver fs vs) t):=by simp[dp,V.isNul,V.fields,V.tags]
  rw[JO]at hlim h
  rw[ad]at hlim
  simp only[List.length_cons,List.length_nil]at hlim
  refine eK (Jh false rfl _ λa2 IR Mv Ja=>?_)
  have Jr:=IR.size
  refine cC (bt (xF (m:=nm.n 0+1) (k0:=k0) (L:=L) (bs:=bs) (d:=d) K0 (c:=1) aa Mv hw.dst hw.Lw aa aa (by show k0<=n+4+2+3;omega) (by show 1<n+4+2+3;omega) (by show n+4+2+3+3<=_;omega) λa3 w3 d3 IW KO Jw=>?_))
  have JI:=IW.size
  have Xj:a3.get (nm.n 0)=pt p q':=by rw[IW.get _ aa (.inl aa)];exact Ja
  have Kc:Pv 1 m k0 n a a3:=(hp1'.trans (IR.mono (ae _) aa)).trans (IW.mono aa (by show n<=n+4+2+3;omega))
  have Nh:=hw.step hc Kc KO Jw
  have JT:=Gr.far hw.dst Jw
  have QC:p<L:=by omega
  have hw3':WC { cx with s:=nm.n 0 } fx ver te L p q' d3 (bs++[UInt8.ofNat 1]) a3 w3:=Nh.at (a':=a3) hc (Pv.refl _ _ _ k0 _) KO Xj QC
  refine CD J9 NC (cx:={ cx with s:=nm.n 0 }) (L:=L) JL ML hw3' (hc.at (m':=nm.n 0+1) ⟨Jo.1,by omega⟩ aa aa) Jb (by show k0<=n+4+2+3+3;omega) aa (by rw[JI,Jr,IX];exact QF) (h5.far JT QC hw.Lw) (h6.far JT QC hw.Lw) (by rw[ad (as:=bs)];simp only[List.length_cons,List.length_nil];omega) λa' w' d' Jx h1' Jn=>cD (h a' w' d' (Kc.trans (Jx.mono aa (by show n<=n+4+2+3+3;omega))) h1' ?_)
  have:=Jw.trans Jn
  simpa[ao]using this
theorem zu (K0:KW P g av fl nl te){nul:Option Nat}{esz:Nat}{e:Ty}(he:zy P g av fl nl te e):mD P g av fl nl te (.list nul esz e):=by
 intro nm cx ver B O L m k0 n T off t v d bs K E a w Jz J7 ht hw hc Jb hk JM hn hr hlim h
 simp only[okBodyW,ac,aH,Bool.not_eq_true',ai,ar]at Jz
 obtain⟨⟨⟨⟨Jo,hT⟩,Kf⟩,JB⟩,Jq⟩:=Jz
 subst hT
 cases Nl:pM P (nm.n 3) with
 | none=>rw[Nl]at Jq;cases Jq
 | some row=>
 obtain⟨E',sz,z⟩:=row
 rw[Nl]at Jq
 simp only[ac,aH,ar]at Jq
 obtain⟨⟨rfl,Ns⟩,M9⟩:=Jq
 have Jj:=hc.le
 have Ky:=hc.one
 obtain⟨base,len,c,IS,IT,Li,JG,Ps⟩:=rj hr
 have Of:(eZ (t,dp true ver (.list nul sz e) v)).length=(uvar t).length+((uvar (f9 (dp true ver (.list nul sz e) v).length)).length+(dp true ver (.list nul sz e) v).length):=by simp[eZ]
 rw[Of]at hlim
 have Ni:ka [iA g cx nul (nm.n 0) (nm.n 3),jb g (nm.n 0) (nm.n 12) (nm.n 13) (nm.n 14) (nm.n 3) (gwEl g cx e (nm.n 0) (nm.n 12) (nm.n 3) (nm.sub 0))]:=bw (mR _ _ _ _ _) (bw (mS _ _ _ _ _ _ (upL_wel g e cx _ _ _ _)) bK)
 have J8:(gL ([iA g cx nul (nm.n 0) (nm.n 3),jb g (nm.n 0) (nm.n 12) (nm.n 13) (nm.n 14) (nm.n 3) (gwEl g cx e (nm.n 0) (nm.n 12) (nm.n 3) (nm.sub 0))]++[eD g (nm.n 4) (nm.n 5) (nm.n 6) (nm.n 9)]) (n+4+2+2)).2<=a.tmps.size:=hn
 have QF:(gL [iA g cx nul (nm.n 0) (nm.n 3),jb g (nm.n 0) (nm.n 12) (nm.n 13) (nm.n 14) (nm.n 3) (gwEl g cx e (nm.n 0) (nm.n 12) (nm.n 3) (nm.sub 0))] (n+4+2+2)).2+11<=a.tmps.size:=by rw[cz]at J8;exact J8
 have KM:=Ni (n+4+2+2)
 show cf P (lF ([dO cx.s (nm.n 0) (nm.n 1) (nm.n 2) (nm.n 3),jW g t,co (nm.n 4) (.bool false),bL 2 λn=>[mk (some n) (.move (tm 1)),bi (some (n+1)) .len [tm n] [g.tSl] g.tInt,mk (some (nm.n 5)) (.assign (tm (n+1)))]] ++
  (cp (.label (nm.n 6))::([iA g cx nul (nm.n 0) (nm.n 3),jb g (nm.n 0) (nm.n 12) (nm.n 13) (nm.n 14) (nm.n 3) (gwEl g cx e (nm.n 0) (nm.n 12) (nm.n 3) (nm.sub 0))]++[eD g (nm.n 4) (nm.n 5) (nm.n 6) (nm.n 9)]))) n).1 (Rt K E) a w
 refine rW (λc hc=>?_) (by simp[gL]) ?_
 ·simp only[gL,dO,jW,co,bL,rg,aI,bd,or_false]at hc
  rcases hc with rfl|rfl|rfl|rfl<;>rfl
 show LW P (dO cx.s (nm.n 0) (nm.n 1) (nm.n 2) (nm.n 3)::jW g t::([co (nm.n 4) (.bool false),bL 2 λn=>[mk (some n) (.move (tm 1)),bi (some (n+1)) .len [tm n] [g.tSl] g.tInt,mk (some (nm.n 5)) (.assign (tm (n+1)))],cp (.label (nm.n 6))] ++
  ([iA g cx nul (nm.n 0) (nm.n 3),jb g (nm.n 0) (nm.n 12) (nm.n 13) (nm.n 14) (nm.n 3) (gwEl g cx e (nm.n 0) (nm.n 12) (nm.n 3) (nm.sub 0))]++[eD g (nm.n 4) (nm.n 5) (nm.n 6) (nm.n 9)]))) n _ a w
 refine bt (j7 (x:=nm.n 0) (m:=m) (k0:=k0) hw.ss (fldB_ok Kf) IS (.inl rfl) Jj hk aa aa λa1 IP IY=>?_)
 have IX:=IP.size
 have hp1':=IP.x1 ⟨Jo.1,by omega⟩
 have Ld:a1.get 1=d:=(IP.g1 ⟨Jo.1,by omega⟩ Ky).trans hw.s1
 refine bt (vV (m:=m) K0 Jb ht Ld hw.dst hw.Lw aa Jj (by show k0<=n+4;omega) Ky (by show n+4+2<=_;omega) λa2 w2 d2 IR Mv Ja=>?_)
 have Jr:=IR.size
 have J6:Pv 1 m k0 n a a2:=hp1'.trans (IR.mono Jj (by show n<=n+4;omega))
 have Mf:a2.get (nm.n 0)=.slice base len c:=(IR.get _ aa (.inl aa)).trans IY
 have O3:=am hw.Lw Ja.keeps.size
 show LW P _ (n+4+2) _ a2 w2
 refine rV K0 Jb (k0:=k0) (m0:=nm.n 0+1) (mB:=nm.n 12) (enc:=dp true ver (.list nul sz e) v) Mv Ja.dst O3 (by rw[ad];omega) aa aa aa aa Ni (by rw[Jr,IX];exact J8) (λa3 w3 d3 bs3 K3 LQ KO hg3' Nt h3=>?_) λa3 w3 d3 LQ KO Jw=>h a3 w3 d3 ?_ KO ?_
 ·have JI:=LQ.size
  have Kp:=hg3'.dst
  have IZ:=Gr.far Ja.dst hg3'
  have JT:br (λk=>L<=k) w w3:=(Gr.far hw.dst Ja).trans IZ
  have KV:=hw.step hc J6 Mv Ja
  have JN:∀ q,q<m->q≠1->a3.get q=a2.get q:=λq hq La=>LQ.get q La aa (.inl aa)
  have Nh:WC cx true ver te L B O d3 bs3 a3 w3:=⟨Kp,KO,by rw[JN _ hc.s.1 hc.s.2];exact KV.ss,by rw[JN _ hc.ver.1 hc.ver.2];exact KV.sv,λhf=>by rw[JN _ hc.fx.1 hc.fx.2];exact KV.sf hf,KV.nf,KV.BL,am O3 IZ.size⟩
  exact pm K0 he (m:=nm.n 12) aa (pL Nl) Ns (λhs=>by rcases JB with hh|hh;rw[hs]at hh;cases hh;exact hh) (λh=>M9.resolve_left (by rw[h];simp)) Nh (hc.mono aa aa) (λ_=>Jb) aa aa (by rw[JI,Jr,IX];omega) ((LQ.get _ aa aa (.inl aa)).trans Mf) IT Li JG (λi x hx=>by
   obtain⟨p,q,e1,e2,e3⟩:=Ps i x hx
   exact⟨p,q,e1,e2,Rp.keep JT e3 aa (by have:=hw.Lw;omega)⟩) Nt λa4 w4 d4 Jp Nb JS=>h3 a4 w4 d4 Jp Nb JS
 ·exact J6.trans ⟨LQ.size,LQ.defers,λi hi hi2=>LQ.get i hi aa aa⟩
 ·have:=Ja.trans Jw
  simpa[eZ,ao]using this
theorem vm {w:World}{X:Nat->Prop}{p:eH}{cs:List Value}{v:V}(hp:Dk p=true)(_h:jD w X (.prim p) cs v):((cQ p).wr v).length=kJ p:=by
 cases p<;>first|(exact absurd hp (by decide))|rfl
theorem zr (K0:KW P g av fl nl te)(p:eH):mD P g av fl nl te (.prim p):=by
 by_cases hpu:p=.uuid
 ·subst hpu;exact zq K0
 intro nm cx ver B O L m k0 n T off t v d bs K E a w Jz J7 ht hw hc Jb hk JM hn hr hlim h
 simp only[okBodyW,al hpu,ac,ar]at Jz
 obtain⟨⟨⟨Om,Jy⟩,hT⟩,Kf⟩:=Jz
 subst hT
 obtain⟨P3,N3,PU⟩:=kC Jy
 have Jj:=hc.le
 have Ky:=hc.one
 have Vi:i9 (.prim p)=false:=by cases p<;>first|rfl|cases Om
 have Mr:Ty.agg (.prim p)=false/\Ty.sz (.prim p)=1:=by cases p<;>first|exact⟨rfl,rfl⟩|cases Om
 have JX:cN g cx (.prim p) (nm.n 0) []=[cV (g.ap (cQ p)) (nm.n 0)]:=by cases p<;>first|rfl|cases Om
 have VL:=dN g cx (.prim p) (nm.n 0) []
 have KR:jB (.prim p) cx.s (nm.n 0) (nm.n 1) (nm.n 2) (nm.n 3)=dO cx.s (nm.n 0) (nm.n 1) (nm.n 2) (nm.n 3):=by unfold jB;rw[Vi];rfl
 obtain⟨cs,Js,hl⟩:=hr
 obtain⟨y,rfl⟩:∃ y,cs=[y]:=by
  have:=hl.len
  rw[Mr.2]at this
  exact List.length_eq_one_iff.1 this
 have NP:(dp true ver (.prim p) v).length=kJ p:=by
  simp only[dp,eN]
  exact vm Om hl
 have Of:(eZ (t,dp true ver (.prim p) v)).length=(uvar t).length+((uvar (f9 (kJ p))).length+kJ p):=by simp[eZ,NP]
 have LJ:f9 (kJ p)=kJ p:=by cases p<;>rfl
 have Vh:kJ p<4294967296:=by cases p<;>decide
 rw[Of,LJ]at hlim
 have J8:(gL (cN g cx (.prim p) (nm.n 0) []) (n+4+2+2)).2<=a.tmps.size:=by
  have:(jB (.prim p) cx.s (nm.n 0) (nm.n 1) (nm.n 2) (nm.n 3) n).2=n+4:=by rw[KR];rfl
  have hh:(gL (cN g cx (.prim p) (nm.n 0) []) ((jB (.prim p) cx.s (nm.n 0) (nm.n 1) (nm.n 2) (nm.n 3) n).2+2+2)).2<=a.tmps.size:=hn
  rw[this]at hh
  exact hh
 have hu:=VL (n+4+2+2)
 show cf P (gS (jB (.prim p) cx.s (nm.n 0) (nm.n 1) (nm.n 2) (nm.n 3)::jW g t::jW g (kJ p)::cN g cx (.prim p) (nm.n 0) []) n).1 (Rt K E) a w
 rw[KR]
 refine cC (bt (j7 (x:=nm.n 0) (m:=m) (k0:=k0) hw.ss (fldB_ok Kf) (Js 0 y rfl) (.inl rfl) Jj hk aa aa λa1 IP IY=>?_))
 have IX:=IP.size
 have hp1':=IP.x1 ⟨N3,PU⟩
 have Ld:a1.get 1=d:=(IP.g1 ⟨N3,PU⟩ Ky).trans hw.s1
 refine bt (vV (m:=m) K0 Jb ht Ld hw.dst hw.Lw aa Jj (by show k0<=n+4;omega) Ky (by show n+4+2<=_;omega) λa2 w2 d2 IR Mv Ja=>?_)
 have Jr:=IR.size
 have O3:=am hw.Lw Ja.keeps.size
 refine bt (vV (m:=m) K0 Jb Vh Mv Ja.dst O3 (by rw[ad];omega) Jj (by show k0<=n+4+2;omega) Ky (by show n+4+2+2<=_;omega) λa3 w3 d3 IW KO Jw=>?_)
 have JI:=IW.size
 have KI:=Ja.trans Jw
 have Kc:Pv 1 m k0 n a a3:=(hp1'.trans (IR.mono Jj (by show n<=n+4;omega))).trans (IW.mono Jj (by show n<=n+4+2;omega))
 have O4:a3.get (nm.n 0)=y:=by rw[IW.get _ aa (.inl aa),IR.get _ aa (.inl aa)];exact IY
 have Nh:=hw.step hc Kc KO KI
 have e:cN g cx (.prim p) (nm.n 0) []=cN g cx (.prim p) (nm.n 0) []++[]:=(aL _).symm
 rw[e]
 refine nd K0 P3 Nh hc (by show k0<=n+4+2+2;omega) aa (by rw[JI,Jr,IX];exact J8) (by simp only[lN,Vi,ag,ak];exact⟨y,O4,rfl⟩) (hl.keep (Gr.far hw.dst KI)) ?_ λa' w' d' Jx h1' Jn=>cD (h a' w' d' (Kc.trans (Jx.mono (ae _) (by show n<=n+4+2+2;omega))) h1' ?_)
 ·have:=vm Om hl
  simp only[eN,ad]
  omega
 ·have:=KI.trans Jn
  simp only[eN]at this
  simp only[eZ,dp,eN,vm Om hl,LJ]
  simpa[ao]using this
theorem Cl (K0:KW P g av fl nl te)(nul:Option Nat):mD P g av fl nl te (.str nul):=by
 intro nm cx ver B O L m k0 n T off t v d bs K E a w Jz J7 ht hw hc Jb hk JM hn hr hlim h
 simp only[okBodyW,ac,ai,ar]at Jz
 obtain⟨⟨⟨Jo,P3⟩,hT⟩,Kf⟩:=Jz
 subst hT
 have Jj:=hc.le
 have Ky:=hc.one
 obtain⟨cs,Js,hl⟩:=hr
 obtain⟨y,rfl⟩:∃ y,cs=[y]:=List.length_eq_one_iff.1 hl.len
 have Of:(eZ (t,dp true ver (.str nul) v)).length=(uvar t).length+((uvar (f9 (dp true ver (.str nul) v).length)).length+(dp true ver (.str nul) v).length):=by simp[eZ]
 rw[Of]at hlim
 have Ni:ka (cN g cx (.str nul) (nm.n 0) []):=dN _ _ _ _ _
 have J8:(gL (cN g cx (.str nul) (nm.n 0) []++[eD g (nm.n 4) (nm.n 5) (nm.n 6) (nm.n 9)]) (n+4+2+2)).2<=a.tmps.size:=by
  have hh:(gL ([dO cx.s (nm.n 0) (nm.n 1) (nm.n 2) (nm.n 3),jW g t]++uR g (nm.n 4) (nm.n 5) (nm.n 6)++cN g cx (.str nul) (nm.n 0) []++[eD g (nm.n 4) (nm.n 5) (nm.n 6) (nm.n 9)]) n).2<=a.tmps.size:=hn
  rw[ao,cz]at hh
  exact hh
 have QF:(gL (cN g cx (.str nul) (nm.n 0) []) (n+4+2+2)).2+11<=a.tmps.size:=by rw[cz]at J8;exact J8
 have KM:=Ni (n+4+2+2)
 have JX:gwBody g cx t (.str nul) nm=lF ([dO cx.s (nm.n 0) (nm.n 1) (nm.n 2) (nm.n 3),jW g t,co (nm.n 4) (.bool false),bL 2 λn=>[mk (some n) (.move (tm 1)),bi (some (n+1)) .len [tm n] [g.tSl] g.tInt,mk (some (nm.n 5)) (.assign (tm (n+1)))]] ++
  (cp (.label (nm.n 6))::(cN g cx (.str nul) (nm.n 0) []++[eD g (nm.n 4) (nm.n 5) (nm.n 6) (nm.n 9)]))):=by
  simp only[gwBody,uR,aS,aF]
 rw[JX]
 refine rW (λc hc=>?_) ?_ ?_
 ·simp only[gL,dO,jW,co,bL,rg,aI,bd,or_false]at hc
  rcases hc with rfl|rfl|rfl|rfl<;>rfl
 ·rw[cz]
  simp[gL]
 show LW P (dO cx.s (nm.n 0) (nm.n 1) (nm.n 2) (nm.n 3)::jW g t::([co (nm.n 4) (.bool false),bL 2 λn=>[mk (some n) (.move (tm 1)),bi (some (n+1)) .len [tm n] [g.tSl] g.tInt,mk (some (nm.n 5)) (.assign (tm (n+1)))],cp (.label (nm.n 6))] ++
  (cN g cx (.str nul) (nm.n 0) []++[eD g (nm.n 4) (nm.n 5) (nm.n 6) (nm.n 9)]))) n _ a w
 refine bt (j7 (x:=nm.n 0) (m:=m) (k0:=k0) hw.ss (fldB_ok Kf) (Js 0 y rfl) (.inl rfl) Jj hk aa aa λa1 IP IY=>?_)
 have IX:=IP.size
 have hp1':=IP.x1 ⟨Jo.1,by omega⟩
 have Ld:a1.get 1=d:=(IP.g1 ⟨Jo.1,by omega⟩ Ky).trans hw.s1
 refine bt (vV (m:=m) K0 Jb ht Ld hw.dst hw.Lw aa Jj (by show k0<=n+4;omega) Ky (by show n+4+2<=_;omega) λa2 w2 d2 IR Mv Ja=>?_)
 have Jr:=IR.size
 have J6:Pv 1 m k0 n a a2:=hp1'.trans (IR.mono Jj (by show n<=n+4;omega))
 have Mf:a2.get (nm.n 0)=y:=(IR.get _ aa (.inl aa)).trans IY
 have O3:=am hw.Lw Ja.keeps.size
 show LW P _ (n+4+2) _ a2 w2
 refine rV K0 Jb (k0:=k0) (m0:=nm.n 0+1) (mB:=max (nm.n 4) (nm.n 5)+1) (enc:=dp true ver (.str nul) v) Mv Ja.dst O3 (by rw[ad];omega) aa aa aa aa Ni (by rw[Jr,IX];exact J8) (λa3 w3 d3 bs3 K3 LQ KO hg3' Nt h3=>?_) λa3 w3 d3 LQ KO Jw=>h a3 w3 d3 ?_ KO ?_
 ·have JI:=LQ.size
  have Kp:=hg3'.dst
  have IZ:=Gr.far Ja.dst hg3'
  have JT:br (λk=>L<=k) w w3:=(Gr.far hw.dst Ja).trans IZ
  have KV:=hw.step hc J6 Mv Ja
  have JN:∀ q,q<m->q≠1->a3.get q=a2.get q:=λq hq La=>LQ.get q La aa (.inl aa)
  have Nh:WC cx true ver te L B O d3 bs3 a3 w3:=⟨Kp,KO,by rw[JN _ hc.s.1 hc.s.2];exact KV.ss,by rw[JN _ hc.ver.1 hc.ver.2];exact KV.sv,λhf=>by rw[JN _ hc.fx.1 hc.fx.2];exact KV.sf hf,KV.nf,KV.BL,am O3 IZ.size⟩
  have e:cN g cx (.str nul) (nm.n 0) []=cN g cx (.str nul) (nm.n 0) []++[]:=(aL _).symm
  rw[e]
  have JO:dp true ver (.str nul) v=(eN true ver (.str nul)).wr v:=by simp only[dp]
  rw[JO]at Nt h3
  exact nd K0 P3 Nh (hc.mono aa aa) aa aa (by rw[JI,Jr,IX];omega) ⟨y,(LQ.get _ aa aa (.inl aa)).trans Mf,rfl⟩ (hl.keep JT) Nt λa4 w4 d4 Jp Nb JS=>cD (h3 a4 w4 d4 Jp Nb JS)
 ·exact J6.trans ⟨LQ.size,LQ.defers,λi hi hi2=>LQ.get i hi aa aa⟩
 ·have:=Ja.trans Jw
  simpa[eZ,ao]using this
theorem sd {cx:Cx}{ver:Int}{B O L m k0 T key t:Nat}{enc:Bs}{d:Value}{bs:Bs}{K E:Act->World->Prop}(J7:cx.hf=true)(Jb:fl=true)(YR:m<=key):∀ (fs:Fds) (ms:List Nm) (vs:List V) (n:Nat) (a:Act) (w:World),td P g av fl nl te fs->okTagdW ⟨P,g,av,nl⟩ cx.hf m k0 T fs ms=true->ko P av g T fs ms=true->fs.tagsOf.Nodup->(t,enc)∈wrTgd true ver fs vs ->
  WC cx true ver te L B O d bs a w->pe cx m k0->a.get key=.int .u32 (t:Int)->key<n->k0<=key->k0<=a.tmps.size->(dF g key (gwTagd g cx fs ms) n).2<=a.tmps.size->RpF w (λk=>L<=k) fs B O vs->bs.length+(eZ (t,enc)).length<=fq ->
  (∀ a' w' d',Pv 1 m k0 n a a'->a'.get 1=d'->Gr L te d w d' (bs++eZ (t,enc)) w'->K a' w')->cf P (dF g key (gwTagd g cx fs ms) n).1 (Rt K E) a w
 | .nil,ms,vs,n,a,w,_,_,_,_,LM,_,_,_,_,_,_,_,_,_,_=>by simp[wrTgd]at LM
 | .cons lo hi tag df off ty r,ms,vs,n,a,w,hb,Jf,Qt,S2,LM,hw,hc,K2,Nd,K5,JM,hn,hr,hlim,h=>by
  obtain⟨x,vs',rfl,hx,KG⟩:=hr
  simp only[okTagdW,ac,aH]at Jf
  simp only[ko,ac]at Qt
  cases tag with
  | none=>
   have e1:gwTagd g cx (.cons lo hi none df off ty r) ms=gwTagd g cx r ms.tail:=by simp only[gwTagd]
   have e2:wrTgd true ver (.cons lo hi none df off ty r) (x::vs')=wrTgd true ver r vs':=by simp only[wrTgd,aF,List.tail_cons]
   rw[e1]at hn ⊢
   rw[e2]at LM
   exact sd J7 Jb YR r ms.tail vs' n a w hb.2 Jf.2 Qt.2 (by simpa[Fds.tagsOf]using S2) LM hw hc K2 Nd K5 JM hn KG hlim h
  | some q=>
   simp only[ac,ai]at Qt
   have Jz:=Jf.1.resolve_left ab
   have e1:gwTagd g cx (.cons lo hi (some q) df off ty r) ms=(q,gwBody g cx q ty (ms.headD (.mk [] [])))::gwTagd g cx r ms.tail:=by simp only[gwTagd]
   have e2:wrTgd true ver (.cons lo hi (some q) df off ty r) (x::vs')=(if ku ty df x then[] else[(q,dp true ver ty x)])++wrTgd true ver r vs':=by simp only[wrTgd,List.headD_cons,List.tail_cons];rfl
   have hnd':q∉r.tagsOf/\r.tagsOf.Nodup:=by simpa[Fds.tagsOf]using S2
   have M8:∀ y∈wrTgd true ver r vs',y.1∈r.tagsOf:=λy hy=>qB true ver r vs' y hy
   rw[e1]at hn ⊢
   rw[e2,List.mem_append]at LM
   have VQ:=up_wbody g ty cx q (ms.headD (.mk [] [])) (n+2)
   have hup2:=lO g key (gwTagd g cx r ms.tail) (up_wtagd g r cx ms.tail) (gwBody g cx q ty (ms.headD (.mk [] [])) (n+2)).2
   have Kj:(dF g key (gwTagd g cx r ms.tail) (gwBody g cx q ty (ms.headD (.mk [] [])) (n+2)).2).2<=a.tmps.size:=hn
   have Jj:=hc.le
   have Ky:=hc.one
   have wcOf:∀ a',Pv key m k0 n a a'->(∀ i,i<n->a'.get i=a.get i)->WC cx true ver te L B O d bs a' w:=λa' hp Je=>⟨hw.dst,by rw[Je 1 aa];exact hw.s1,by rw[Je _ (by have:=hc.s;omega)];exact hw.ss,by rw[Je _ (by have:=hc.ver;omega)];exact hw.sv,λhf=>by rw[Je _ (by have:=hc.fx;omega)];exact hw.sf hf,hw.nf,hw.BL,hw.Lw⟩
   have pvOf:∀ a',Pv key m k0 n a a'->(∀ i,i<n->a'.get i=a.get i)->Pv 1 m k0 n a a':=λa' hp Je=>⟨hp.size,hp.defers,λi _ hi=>Je i aa⟩
   refine CW (x:=key) (m:=m) (k0:=k0) K2 Nd Jj aa aa (λMj a1 IP Je=>?_) (λMj a1 IP Je=>?_)
   ·subst Mj
    have IX:=IP.size
    have WI:ku ty df x=false/\enc=dp true ver ty x:=by
     rcases LM with hm|hm
     ·split at hm
      ·simp at hm
      ·rename_i J3
       simp only[aY,Prod.mk.injEq]at hm
       exact⟨by simpa using J3,hm.2⟩
     ·exact absurd (M8 _ hm) hnd'.1
    obtain⟨_,rfl⟩:=WI
    exact hb.1 (ms.headD (.mk [] [])) cx ver B O L m k0 (n+2) T off t x d bs K E a1 w Jz J7 Qt.1.1 (wcOf a1 IP Je) hc Jb aa aa aa hx hlim λa' w' d' Jx h1' Jn=>h a' w' d' ((pvOf a1 IP Je).trans (Jx.mono (ae _) aa)) h1' Jn
   ·have IX:=IP.size
    have hm:(t,enc)∈wrTgd true ver r vs':=by
     rcases LM with hm|hm
     ·split at hm
      ·simp at hm
      ·simp only[aY,Prod.mk.injEq]at hm
       exact absurd hm.1 Mj
     ·exact hm
    exact sd J7 Jb YR r ms.tail vs' _ a1 w hb.2 Jf.2 Qt.2 hnd'.2 hm (wcOf a1 IP Je) hc ((Je key Nd).trans K2) aa K5 aa aa KG hlim λa' w' d' Jx h1' Jn=>h a' w' d' ((pvOf a1 IP Je).trans (Jx.mono (ae _) aa)) h1' Jn
theorem vQ (K0:KW P g av fl nl te)(Jb:fl=true){s TT kt o F sz B O L k0 n:Nat}{agg:Bool}{mm:Value}{t:List (Nat × Bs)}{d:Value}{bs:Bs}{K:Act->World->Prop}{Q:Exit->Act->World->Prop}{a:Act}{w:World}(O6:a.get s=pt B O)(hF:cO P TT kt F o agg sz)(LF:w.cell? ⟨B,O+o,none⟩=some mm)(UR:B<w.heap.size/\d.ownBlock≠some B)(Kb:eA w (λk=>L<=k) mm t)
  (h1:a.get 1=d) (hd:bS w L te d bs) (hL:L<=w.heap.size) (hlim:bs.length+(cM t).length<=fq) (Ky:1<k0) (hk:k0<=n) (hn:n+5<=a.tmps.size)
  (h:∀ a' w' d',Pv 1 k0 k0 n a a'->a'.get 1=d'->Gr L te d w d' (bs++cM t) w'->K a' w'):cf P (gD g s TT kt n).1 (Exit.then K Q) a w:=by
 refine bF (bv ?_)
 rw[bp,O6]
 refine bY (by rw[bp,bA aa];rfl) ?_
 refine dt (by rw[bp,bA (by simp only[bq];omega)]) hF (bv ?_)
 rw[bp,b8 aa,b8 aa,b8 aa,h1]
 refine cj (vs:=#[pt B (O+o),d]) (K0.teE Jb) ?_ (K0.teC Jb w B (O+o) mm L t d _ LF UR Kb hd hL hlim) λe4 w4 hR4=>?_
 ·simp only[List.map_cons,List.map_nil,bp]
  rw[b8 aa,bA (by simp only[bq];omega),bA (by simp only[bq];omega)]
  rfl
 obtain⟨d4,Uo,JS⟩:=hR4
 refine⟨d4,Uo,b7 (wpList_nil (h _ w4 d4 ?_ ?_ JS))⟩
 ·exact((((((Pv.refl _ _ _ _ _).put _ aa).put _ aa).put _ aa).put _ aa).put _ aa).put _ (.inl rfl)
 ·rw[bA (by simp only[bq];omega),bp,bA (by simp only[bq];omega)]
theorem fg (x:Nat):0<(uvar x).length:=by
 show 0<(dD (8+1) x).length
 simp only[dD]
 split<;>simp
theorem tA:∀ t:List (Nat × Bs),t.length<=(cM t).length
 | []=>ae _
 | p::t=>by
  have:=tA t
  have:=fg p.1
  simp only[cM,List.map_cons,List.flatten_cons,ad,List.length_cons,eZ]at *
  omega
theorem rC (K0:KW P g av fl nl te){fs:Fds}(hb:td P g av fl nl te fs):oo P g av fl nl te fs:=by
 intro nm cx fx ver B O L m k0 n T kt toff vs t d bs K E a w Jf hw hc Jb hk JM hn hr ht hlim h
 simp only[kK,ac,aH,Bool.not_eq_true',ai]at Jf
 obtain⟨JL,Jf⟩:=Jf
 have Jj:=hc.le
 have Ky:=hc.one
 cases Kb:fs.tagged with
 | false=>
  have e:di g cx fs T kt nm=jk g cx T kt:=by simp[di,jv,Kb]
  have e2:ig fx (wrTgd fx ver fs vs) t=d7 fx t:=by rw[jG fx ver fs vs Kb,nQ]
  rw[e]at hn ⊢
  rw[e2]at hlim h
  have e3:jk g cx T kt=jk g cx T kt++[]:=(aL _).symm
  rw[e3]
  refine CV (_off:=0) (F:=sP P T kt) (sz:=1) (agg:=true) K0 Jb hw hc hk hn ?_ ht hlim λa' w' d' Jx h1' Jn=>cD (h a' w' d' Jx h1' Jn)
  cases toff with
  | none=>simpa[pS]using JL
  | some o=>
   simp only[pS,ac]at JL
   exact⟨JL.1,fldB_ok JL.2⟩
 | true=>
  obtain⟨⟨⟨⟨Jo,VV⟩,Uz⟩,S2⟩,X9⟩:=Jf.resolve_left (by rw[Kb];simp)
  cases toff with
  | none=>
   have hf:cx.hf=false:=by simpa[pS]using JL
   have Ku:=hw.nf hf
   subst Ku
   have e:di g cx fs T kt nm=[]:=by simp[di,jv,Kb,hf]
   rw[e]
   exact cD (h a w d (Pv.refl _ _ _ _ _) hw.s1 (by simpa[ig]using Gr.refl hw.dst))
  | some o=>
  simp only[pS,ac]at JL
  have hf:=JL.1
  have hF:=fldB_ok JL.2
  have hfl':=Jb hf
  have T':=EE VV
  obtain⟨mm,LF,SW⟩:=ht
  have Oj:=hc.s
  have e:di g cx fs T kt nm=[jF cx (gS (co (nm.n 0) (.slice none 0 0)::(ez g cx.s (nm.n 0) (nm.n 1) fs nm.s++[oX g cx.s T kt (nm.n 0) (nm.n 1),jA g (nm.n 0) (nm.n 1) (nm.n 2) (nm.n 3) (nm.n 4) (nm.n 5) (gwTagd g cx fs nm.s),gD g cx.s T kt]))) cY]:=by
   simp[di,jv,Kb,hf]
  rw[e]at hn ⊢
  have Mt:(gL (ez g cx.s (nm.n 0) (nm.n 1) fs nm.s++[oX g cx.s T kt (nm.n 0) (nm.n 1),jA g (nm.n 0) (nm.n 1) (nm.n 2) (nm.n 3) (nm.n 4) (nm.n 5) (gwTagd g cx fs nm.s),gD g cx.s T kt]) (n+1)).2<=a.tmps.size:=hn
  rw[cz]at Mt
  have VP:=kg g cx.s (nm.n 0) (nm.n 1) fs nm.s (n+1)
  generalize T0:(gL (ez g cx.s (nm.n 0) (nm.n 1) fs nm.s) (n+1)).2=nc at Mt VP
  have Kj:(dF g (nc+10+6) (gwTagd g cx fs nm.s) (nc+10+7)).2+1+5<=a.tmps.size:=Mt
  have VO:=lO g (nc+10+6) (gwTagd g cx fs nm.s) (up_wtagd g fs cx nm.s) (nc+10+7)
  refine bt (q4 (x:=n) (m:=m) (k0:=k0) (hw.sf hf) Jj hk aa λa1 IP=>?_)
  have hp1':Pv 1 m k0 n a a1:=⟨IP.size,IP.defers,λs hs Jr=>IP.get s aa Jr⟩
  have IX:=IP.size
  have IY:a1.get 1=d:=by rw[IP.get 1 aa (.inl Ky)];exact hw.s1
  have O6:a1.get cx.s=pt B O:=by rw[IP.get _ aa (.inl Oj.1)];exact hw.ss
  cases fx with
  | false=>
   simp only[ag,ak]
   exact .skip (cD (h a1 w d hp1' IY (by simpa[ig]using Gr.refl hw.dst)))
  | true=>
   simp only[aw]
   have Ka:=pj true ver fs vs
   have S7:(wrTgd true ver fs vs).length=(kc fs vs).length:=by rw[<- Ka,aJ]
   have Nd:=tt fs vs
   have P3:(ig true (wrTgd true ver fs vs) t).length=(uvar (f9 ((kc fs vs).length+t.length))).length+((cM (wrTgd true ver fs vs)).length+(cM t).length):=by simp[ig,S7]
   rw[P3]at hlim
   have NC:=tA t
   refine cC (bt (bF (b7 (wpList_nil ?_))))
   show LW P _ (n+1) _ (a1.put (some (nm.n 0)) (.slice none 0 0)) w
   have g21:(a1.put (some (nm.n 0)) (.slice none 0 0)).get 1=d:=by rw[b8 aa];exact IY
   have g2s:(a1.put (some (nm.n 0)) (.slice none 0 0)).get cx.s=pt B O:=by rw[b8 aa];exact O6
   have g2q:(a1.put (some (nm.n 0)) (.slice none 0 0)).get (nm.n 0)=.slice none 0 0:=bA aa
   have IR:Pv 1 m k0 n a (a1.put (some (nm.n 0)) (.slice none 0 0)):=hp1'.put _ aa
   generalize a1.put (some (nm.n 0)) (.slice none 0 0)=a2 at g21 g2s g2q IR ⊢
   have Jr:=IR.size
   refine sa K0 (te:=nm.n 0) (m:=m) (k0:=k0) (TT:=T) (B:=B) (O:=O) (L:=L) T' K0.dInt ⟨Jo.1,by omega⟩ Oj.1 Jj hw.BL fs nm.s vs (n+1) (.slice none 0 0) [] a2 w Uz g2s g2q (.inl ⟨rfl,rfl⟩) hr hw.Lw (by simp;omega) aa (by rw[T0];omega) λa3 w3 v3 IW Q7 OG=>?_
   rw[aF]at OG
   rw[T0]
   have JI:=IW.size
   have IZ:br (λ_=>False) w w3:=OG.keeps.mono λk _ hk=>by simp[Value.ownBlock]at hk
   have g31:a3.get 1=d:=by rw[IW.get 1 aa (.inl Ky)];exact g21
   have g3s:a3.get cx.s=pt B O:=by rw[IW.get _ aa (.inl Oj.1)];exact g2s
   have Kc:Pv 1 m k0 n a a3:=IR.trans ⟨IW.size,IW.defers,λi _ hi=>IW.get i aa aa⟩
   have Kp:bS w3 L te d bs:=hw.dst.keep IZ λ_ _ h=>h
   have UZ:∀ j,v3.ownBlock=some j->d.ownBlock≠some j:=λj hj LA=>by
    have h1:=(hw.dst.own LA).2
    rcases OG.own j hj with h2|h2
    ·simp[Value.ownBlock]at h2
    ·omega
   have UM:=am hw.Lw IZ.size
   have NE:w3.cell? ⟨B,O+o,none⟩=some mm:=(IZ.mono (Y:=λk=>L<=k) λ_ _ h=>h.elim).cell (by have:=hw.BL;omega) LF
   have My:eA w3 (λk=>L<=k) mm t:=SW.keep (IZ.mono λ_ _ h=>h.elim)
   obtain⟨base3,c3,RQ⟩:=OG.at_.form
   refine bt (Da K0 hfl' T' (k0:=k0) (q:=nm.n 0) (s:=cx.s) (cnt:=(kc fs vs).length) (c:=c3) (base:=base3) (by rw[Q7];exact RQ) g3s hF NE My (by simp only[fq]at hlim;omega) aa g31 Kp UM aa ⟨by omega,by omega⟩ aa aa aa λa4 w4 d4 Jp Nb JS=>?_)
   show LW P [jA g (nm.n 0) (nm.n 1) (nm.n 2) (nm.n 3) (nm.n 4) (nm.n 5) (gwTagd g cx fs nm.s),gD g cx.s T kt] (nc+10) _ a4 w4
   have L3:=Jp.size
   have Np:Pv 1 m k0 n a a4:=Kc.trans (Jp.mono Jj aa)
   have NI:Gr L te d w d4 (bs++uvar (f9 ((kc fs vs).length+t.length))) w4:=Gr.pre IZ (λ_ _ h=>h) JS
   have hL4:=am hw.Lw NI.keeps.size
   have NX:kQ w4 L g.tU32 v3 (kc fs vs):=OG.at_.keep JS.keeps λj hj hX=>UZ j hj hX
   have VF:∀ j,v3.ownBlock=some j->d4.ownBlock≠some j:=λj hj LA=>by
    rcases JS.own j LA with h2|h2
    ·exact UZ j hj h2
    ·have:=(OG.at_.own hj).2
     omega
   refine bt ?_
   rw[cn,cn]
   refine A2 (m:=m) (k0:=k0) (tv:=nm.n 2) (n:=nc+10) (L:=L) (es:=(wrTgd true ver fs vs).map eZ) K0.dInt T' ((Jp.get (nm.n 0) aa (.inl aa)).trans Q7) NX VF Nb NI.dst aa (by rw[aJ,S7]) aa ⟨by omega,Jo.2.2.1⟩ aa aa (by show(dF g (nc+10+6) (gwTagd g cx fs nm.s) (nc+10+7)).2+1<=_;omega) VO (λj k e a5 w5 d5 RD Sa Kt JZ Q2 Lj=>?_) λa5 w5 d5 Kt Q2 Lj=>?_
   ·have OV:=Kt.size
    rw[aD,aK]at Sa
    obtain⟨⟨k',enc⟩,hp,rfl⟩:=Sa
    have K5:k=k':=by
     have:(kc fs vs)[j]?=some k':=by rw[<- Ka,aD,hp];rfl
     rw[RD]at this
     exact au this
    subst K5
    have Lg:Pv 1 m k0 n a a5:=Np.trans (Kt.mono aa aa)
    have MR:=NI.trans Lj
    have SJ:=hw.step hc Lg Q2 MR
    have hsum:(((wrTgd true ver fs vs).map eZ).take j).flatten.length+(eZ (k,enc)).length<=(cM (wrTgd true ver fs vs)).length:=by
     have hj:j<(wrTgd true ver fs vs).length:=(ah.1 hp).1
     have e1:cM (wrTgd true ver fs vs)=(((wrTgd true ver fs vs).map eZ).take (j+1)).flatten++(((wrTgd true ver fs vs).map eZ).drop (j+1)).flatten:=by rw[<- List.flatten_append,List.take_append_drop];rfl
     have e2:((wrTgd true ver fs vs).map eZ).take (j+1)=((wrTgd true ver fs vs).map eZ).take j++[eZ (k,enc)]:=by rw[List.take_add_one,aD,hp];rfl
     rw[e1,e2]
     simp only[List.flatten_append,List.flatten_cons,List.flatten_nil,aL,ad]
     omega
    exact sd hf hfl' (m:=nm.n 2+1) (key:=nc+10+6) (T:=T) aa fs nm.s vs (nc+10+7) a5 w5 hb X9 Uz S2 (bc hp) SJ (hc.mono aa aa) JZ aa aa aa aa (hr.far (Gr.far hw.dst MR) hw.BL hw.Lw) (by simp only[ad];omega) λa6 w6 d6 hp6 OH RN=>⟨d6,hp6.mono (ae _) aa,OH,RN⟩
   ·have OV:=Kt.size
    have Lg:Pv 1 m k0 n a a5:=Np.trans (Kt.mono aa aa)
    have MR:=NI.trans Lj
    have JT:=Gr.far hw.dst MR
    refine bt (vQ K0 hfl' (k0:=k0) ((Lg.get _ Oj.2 (.inl Oj.1)).trans hw.ss) hF (JT.cell (by have:=hw.BL;omega) LF) (MR.dst.away hw.BL (am hw.Lw MR.keeps.size)) (SW.keep JT) Q2 MR.dst (am hw.Lw MR.keeps.size) ?_ aa (by show k0<=(dF g (nc+10+6) (gwTagd g cx fs nm.s) (nc+10+7)).2+1;omega) (by show(dF g (nc+10+6) (gwTagd g cx fs nm.s) (nc+10+7)).2+1+5<=_;omega) λa6 w6 d6 hp6 OH RN=>cD (cD (h a6 w6 d6 (Lg.trans (hp6.mono Jj (by show n<=(dF g (nc+10+6) (gwTagd g cx fs nm.s) (nc+10+7)).2+1;omega))) OH ?_)))
    ·have:(((wrTgd true ver fs vs).map eZ).flatten).length=(cM (wrTgd true ver fs vs)).length:=rfl
     simp only[ad,this]
     omega
    ·have:=MR.trans RN
     simpa[ig,S7,cM,ao]using this
mutual
theorem FY (K0:KW P g av fl nl te):∀ ty:Ty,zx P g av fl nl te ty
 | .prim p=>pf K0 (ty:=.prim p) (x:=λnm=>nm.l.drop 4) rfl (λ_ _=>rfl) (λhf m k0 T off nm h=>by
   simp only[nk,ac,ar,aH]at h
   refine⟨h.1.1.1,h.1.1.2,h.1.2,λhu=>?_⟩
   obtain rfl:p=.uuid:=by cases p<;>first|rfl|cases hu
   rcases h.2 with h2|h2
   ·cases h2
   ·have:=h.1.1.1
    simp only[fH,t7,ac]at this
    exact⟨h2,this.1.1.1.1⟩)
 | .str nul=>pf K0 (ty:=.str nul) (x:=λnm=>nm.l.drop 4) rfl (λ_ _=>rfl) (λhf m k0 T off nm h=>by
   simp only[nk,ac,ar]at h
   exact⟨h.1.1,h.1.2,h.2,λhu=>by cases hu⟩)
 | .bytes nul=>pf K0 (ty:=.bytes nul) (x:=λ_=>[]) rfl (λ_ _=>rfl) (λhf m k0 T off nm h=>by
   simp only[nk,ac,ar]at h
   exact⟨h.1.1,h.1.2,h.2,λhu=>by cases hu⟩)
 | .list _ _ e=>zJ K0 (wr_el K0 e)
 | .struct none _ fs=>C5 (wr_fds K0 fs) (rC K0 (wr_tagd K0 fs))
 | .struct (some _) _ fs=>C4 K0 (wr_fds K0 fs) (rC K0 (wr_tagd K0 fs))
theorem wr_el (K0:KW P g av fl nl te):∀ ty:Ty,zy P g av fl nl te ty
 | .prim p=>pr K0 (ty:=.prim p) rfl (λ_ _ _ _ _=>rfl) (λhf m k0 E' esz nm h=>by
   simp only[okElW,ac,ar,aH]at h
   refine⟨h.1.1.1.1,h.1.1.1.2,h.1.1.2,h.1.2,λhu=>?_⟩
   obtain rfl:p=.uuid:=by cases p<;>first|rfl|cases hu
   rcases h.2 with h2|h2
   ·cases h2
   ·have:=h.1.1.1.1
    simp only[fH,t7,ac]at this
    exact⟨h2,this.1.1.1.1⟩)
 | .str nul=>pr K0 (ty:=.str nul) rfl (λ_ _ _ _ _=>rfl) (λhf m k0 E' esz nm h=>by
   simp only[okElW,ac,ar]at h
   exact⟨h.1.1.1,h.1.1.2,h.1.2,h.2,λhu=>by cases hu⟩)
 | .bytes nul=>pr K0 (ty:=.bytes nul) rfl (λ_ _ _ _ _=>rfl) (λhf m k0 E' esz nm h=>by
   simp only[okElW,ac,ar]at h
   exact⟨h.1.1.1,h.1.1.2,h.1.2,h.2,λhu=>by cases hu⟩)
 | .list _ _ _=>λ_ _ _ _ _ _ _ _ _ _ _ _ _ _ _ _ _ _ _ _ _ _ _ _ _ _ _ h=>by simp[okElW]at h
 | .struct none _ fs=>vt (wr_fds K0 fs) (rC K0 (wr_tagd K0 fs))
 | .struct (some _) _ _=>λ_ _ _ _ _ _ _ _ _ _ _ _ _ _ _ _ _ _ _ _ _ _ _ _ _ _ _ h=>by simp[okElW]at h
theorem wr_fds (K0:KW P g av fl nl te):∀ fs:Fds,oE P g av fl nl te fs
 | .nil=>Ae
 | .cons _ _ _ _ _ ty r=>yt (FY K0 ty) (wr_fds K0 r)
theorem wr_tagd (K0:KW P g av fl nl te):∀ fs:Fds,td P g av fl nl te fs
 | .nil=>trivial
 | .cons _ _ _ _ _ ty r=>⟨wr_body K0 ty,wr_tagd K0 r⟩
theorem wr_body (K0:KW P g av fl nl te):∀ ty:Ty,mD P g av fl nl te ty
 | .prim p=>zr K0 p
 | .str nul=>Cl K0 nul
 | .list _ _ e=>zu K0 (wr_el K0 e)
 | .bytes _=>λ_ _ _ _ _ _ _ _ _ _ _ _ _ _ _ _ _ _ _ h=>by simp[okBodyW]at h
 | .struct none toff fs=>vd K0 toff fs
 | .struct (some _) _ _=>λ_ _ _ _ _ _ _ _ _ _ _ _ _ _ _ _ _ _ _ h=>by simp[okBodyW]at h
end
theorem C7 (K0:KW P g av fl nl te)(fs:Fds):oo P g av fl nl te fs:=rC K0 (wr_tagd K0 fs)
end
section
variable {P:Program} {K:Kn}
def BV (P:Program)(T:Nat):Bool:=match P.underlying T with|some (.interface _)=>true|_=>false
theorem ifaceB_ok {T:Nat}(h:BV P T=true):∃ ms,P.underlying T=some (.interface ms):=by
 unfold BV at h
 split at h
 ·rename_i ms hms
  exact⟨ms,hms⟩
 ·cases h
def Ge (P:Program)(T:Nat):Bool:=
 match P.underlying T with
 | some (.struct fs)=>(match fs.toList with|[f0,f1]=>f0.offset==0&&f1.offset==1&&kE P f0.type false 1&&kE P f1.type false 1|_=>false)
 | _=>false
theorem twoB_ok {T:Nat}(h:Ge P T=true):∃ fs f0 f1,P.underlying T=some (.struct fs)/\fs.toList=[f0,f1]/\f0.offset=0/\f1.offset=1/\cv P f0.type false 1/\cv P f1.type false 1:=by
 unfold Ge at h
 split at h
 ·rename_i fs J9
  split at h
  ·rename_i f0 f1 hl
   simp only[ac,ar]at h
   exact⟨fs,f0,f1,J9,hl,h.1.1.1,h.1.1.2,varB_ok h.1.2,varB_ok h.2⟩
  ·cases h
 ·cases h
def HF (P:Program)(S U:Nat):Bool:=
 (match P.underlying S with|some (.slice e)=>e==U|_=>false)&&(match P.info? U with|some i=>(match i.zero with|some z=>i.size==1&&i.bytes==1&&z.cells.size==1|none=>false)|none=>false)
theorem octB_ok {S U:Nat}(h:HF P S U=true):OctT P S U:=by
 simp only[HF,ac]at h
 obtain⟨h1,h2⟩:=h
 refine⟨?_,?_⟩
 ·split at h1
  ·rename_i e he
   rw[he,ar.1 h1]
  ·cases h1
 ·split at h2
  ·rename_i i hi
   split at h2
   ·rename_i z hz
    simp only[ac,ar]at h2
    exact⟨i,z,hi,hz,h2.1.1,h2.1.2,h2.2⟩
   ·cases h2
  ·cases h2
def oneF (P:Program)(T:Nat):Option Field:=match P.underlying T with|some (.struct fs)=>(match fs.toList with|[f]=>some f|_=>none)|_=>none
theorem oneF_ok {T:Nat}{f:Field}(h:oneF P T=some f):P.underlying T=some (.struct #[f]):=by
 unfold oneF at h
 split at h
 ·rename_i fs J9
  split at h
  ·rename_i f' hl
   obtain rfl:=au h
   rw[J9,<- hl]
  ·cases h
 ·cases h
def AppOk (P:Program)(te:Nat)(p:PF)(f:Nat):Prop:=
 Ent P f/\∀ (w:World) (L:Nat) (cs:List Value) (val:Value) (v:V),jD w (λk=>L<=k) (j8 p) cs v->lL p cs val->C3 P te f val (p.wr v) w L
theorem lj {p:PF}(hp:p≠.uuid){x val:Value}(h:lL p [x] val):val=x:=by
 unfold lL at h
 rw[al hp]at h
 simpa using h.symm
theorem nK {p:PF}{k:IntKind}{m f:Nat}(hp:∀ w X cs v,jD w X (j8 p) cs v->∃ x:Int,cs=[.int k x]/\v=.n x/\(p=.u16->0<=x/\x<65536))(hu:p≠.uuid)(hw:∀ x,p.wr (.n x)=be m x)(hE:Ent P f)(hc:∀ (x:Int) (w:World),(p=.u16->0<=x/\x<65536)->ApC P K.tU8 f (.int k x) (be m x) w):AppOk P K.tU8 p f:=by
 refine⟨hE,λw L cs val v hl hv=>?_⟩
 obtain⟨x,rfl,rfl,hx⟩:=hp _ _ _ _ hl
 obtain rfl:val=.int k x:=lj hu hv
 rw[hw]
 exact hc x w hx L
theorem app_i8 (wt:WT P K)(hF:cJ K.tI8=true){f ntmps:Nat}(hfn:FnIs P f ntmps [4] (cAI8 K))(Jg:10<=ntmps):AppOk P K.tU8 .i8 f:=
 nK (k:=.i8) (m:=1) (λw X cs v h=>by obtain⟨x,h1,h2,_⟩:=h;exact⟨x,h1,h2,λh=>by cases h⟩) ab (λ_=>rfl) hfn.ent λx w _=>Ip wt hF hfn Jg x w
theorem app_u16 (wt:WT P K)(hF:cJ K.tU16=true){f ntmps:Nat}(hfn:FnIs P f ntmps [4] (cAU16 K))(Jg:13<=ntmps):AppOk P K.tU8 .u16 f:=
 nK (k:=.u16) (m:=2) (λw X cs v h=>by
  obtain⟨x,h1,h2,h3⟩:=h
  refine⟨x,h1,h2,λ_=>?_⟩
  simp[eH.fits]at h3
  omega) ab (λ_=>rfl) hfn.ent λx w h=>Cq wt hF hfn Jg (h rfl) w
theorem app_i16 (wt:WT P K)(hF:cJ K.tU16=true){f f2 ntmps nt2:Nat}(KA:FnIs P f2 nt2 [4] (cAU16 K))(Lh:13<=nt2)(hfn:FnIs P f ntmps [4] (cACv K.tI16 K.tU16 f2))(Jg:9<=ntmps):AppOk P K.tU8 .i16 f:=
 nK (k:=.i16) (m:=2) (λw X cs v h=>by obtain⟨x,h1,h2,_⟩:=h;exact⟨x,h1,h2,λh=>by cases h⟩) ab (λ_=>rfl) hfn.ent λx w _=>ap_i16 wt hF KA Lh hfn Jg x w
theorem app_i32 (wt:WT P K){f f2 ntmps nt2:Nat}(KA:FnIs P f2 nt2 [4] (cAU32 K))(Lh:19<=nt2)(hfn:FnIs P f ntmps [4] (cACv K.tI32 K.tU32 f2))(Jg:9<=ntmps):AppOk P K.tU8 .i32 f:=
 nK (k:=.i32) (m:=4) (λw X cs v h=>by obtain⟨x,h1,h2,_⟩:=h;exact⟨x,h1,h2,λh=>by cases h⟩) ab (λ_=>rfl) hfn.ent λx w _=>ap_i32 wt KA Lh hfn Jg x w
theorem app_i64 (wt:WT P K)(hF:cJ K.tU64=true)(UQ:cJ K.tI64=true){f f2 ntmps nt2:Nat}(KA:FnIs P f2 nt2 [4] (cAU64 K))(Lh:31<=nt2)(hfn:FnIs P f ntmps [4] (cACv K.tI64 K.tU64 f2))(Jg:9<=ntmps):AppOk P K.tU8 .i64 f:=
 nK (k:=.i64) (m:=8) (λw X cs v h=>by obtain⟨x,h1,h2,_⟩:=h;exact⟨x,h1,h2,λh=>by cases h⟩) ab (λ_=>rfl) hfn.ent λx w _=>FH wt hF UQ KA Lh hfn Jg x w
theorem app_uuid (wt:WT P K)(hV:cv P K.tUuid true 16)(hA:P.underlying K.tUuid=some (.array 16 K.tU8)){f ntmps:Nat}(hfn:FnIs P f ntmps [4] (cAUuid K))(Jg:8<=ntmps):AppOk P K.tU8 .uuid f:=by
 refine⟨hfn.ent,λw L cs val v hl hv=>?_⟩
 obtain⟨l,L9,rfl,rfl⟩:=hl
 obtain rfl:val=.agg (l.map cP).toArray:=by
  unfold lL at hv
  rw[ax rfl]at hv
  exact hv
 exact D7 wt hV hA hfn Jg L9 w L
theorem app_str (wt:WT P K){f f2 ntmps:Nat}(hA:AppOk P K.tU8 .i16 f2)(hc:∀ (x:Int) (w:World),ApC P K.tU8 f2 (.int .i16 x) (be 2 x) w)(hfn:FnIs P f ntmps [4] (cAStr K K.tStr K.tI16 f2))(Jg:13<=ntmps):AppOk P K.tU8 .str f:=by
 refine⟨hfn.ent,λw L cs val v hl hv=>?_⟩
 obtain⟨l,rfl,rfl,_⟩:=hl
 obtain rfl:val=.string ⟨l.toArray⟩:=lj ab hv
 have h:=hc (IntKind.i16.wrap (l.length:Int)) w
 rw[nE (.inr (.inl ⟨.inl rfl,rfl⟩))]at h
 exact FG wt wt.dI16 (xx wt.dStr l L w) hA.1 h hfn Jg
theorem app_cstr (wt:WT P K){f f2 ntmps:Nat}(hE:Ent P f2)(hc:∀ x w,x<4294967296->ApC P K.tU8 f2 (.int .u32 (x:Nat)) (uvar x) w)(hfn:FnIs P f ntmps [4] (cACStr K K.tStr f2))(Jg:14<=ntmps):AppOk P K.tU8 .cstr f:=by
 refine⟨hfn.ent,λw L cs val v hl hv=>?_⟩
 obtain⟨l,rfl,rfl,_⟩:=hl
 obtain rfl:val=.string ⟨l.toArray⟩:=lj ab hv
 exact D8 wt (xx wt.dStr l L w) hE hc hfn Jg
theorem app_nstr (wt:WT P K){p:PF}{fx:Bool}(hp:p=ej true fx){f f1 f2 ntmps tP:Nat}{c:Value}(hP:P.underlying tP=some (.pointer K.tStr))(hE:Ent P f1)(hc:∀ w,ApC P K.tU8 f1 c (eJ fx 2) w)(h2:AppOk P K.tU8 (ej false fx) f2)(hfn:FnIs P f ntmps [4] (cANStr K tP c f1 f2))(Jg:14<=ntmps):AppOk P K.tU8 p f:=by
 refine⟨hfn.ent,λw L cs val v hl hv=>?_⟩
 have e0:j8 p=.str (some 0):=by rw[hp];cases fx<;>rfl
 have e1:p.wr .nul=eJ fx 2:=by rw[hp];cases fx<;>rfl
 have e2:∀ l,p.wr (.s l)=(ej false fx).wr (.s l):=λl=>by rw[hp];cases fx<;>rfl
 have e3:p≠.uuid:=by rw[hp];cases fx<;>simp[ej]
 have e4:j8 (ej false fx)=.str none:=by cases fx<;>rfl
 have e5:ej false fx≠.uuid:=by cases fx<;>simp[ej]
 rw[e0]at hl
 rcases hl with⟨rfl,rfl⟩|⟨l,b,o,rfl,hX,IS,rfl,IT⟩
 ·obtain rfl:val=.pointer none:=lj e3 hv
  rw[e1]
  exact Cs wt hP hE (hc w) hfn Jg L
 ·obtain rfl:val=.pointer (some ⟨b,o,none⟩):=lj e3 hv
  rw[e2]
  refine Cr wt hP IS h2.1 (λL'=>h2.2 w L' [.string ⟨l.toArray⟩] _ _ ?_ ?_) hfn Jg L
  ·rw[e4];exact⟨l,rfl,rfl,by omega⟩
  ·simp[lL,e5]
end
def cNewPtr (T f:Nat):Code:=sq [rg [mk (some 0) (.assign (.const (.pointer none)))],rg [mk (some 1) (.alloc T)],rg [cl (some 2) f [tm 1]],rg [mk (some 0) (.assign (tm 1))],.ret]
def cMaxV (k:Int):Code:=sq [rg [mk (some 2) (.assign (ki .i16 0))],rg [mk (some 2) (.assign (ki .i16 k))],.ret]
def cMax (tI16 tInt f1 f2:Nat):Code:=sq [rg [mk (some 0) (.assign (ki .i64 0))],rg [cl (some 1) f1 [],cl (some 2) f2 [tm 1],mk (some 3) (.convert tI16 tInt (tm 2)),mk (some 0) (.assign (tm 3))],.ret]
def cSetV (T tI16:Nat):Code:=rg [mk (some 4) (.move (tm 0)),mk (some 5) (.move (tm 1)),mk (some 6) (.nilCheck (tm 4)),mk (some 7) (.fieldAddr T (tm 6) 0),mk none (.store tI16 (tm 7) (tm 5))]
def cRdF (f:Nat):Code:=sq [rg [mk (some 4) (.assign (.const .nilIface))],rg [mk (some 5) (.move (tm 0)),mk (some 6) (.move (tm 1)),cl (some 7) f [tm 5,tm 6,.const (.bool false)],mk (some 4) (.assign (tm 7))],.ret]
def cAgain (tI16 tInt tSl tErr f1 f2 f3 f4:Nat):Code:=sq [rg [mk (some 4) (.assign (.const bR)),mk (some 5) (.assign (.const (.bool false)))],rg [cl (some 7) f1 [],mk (some 6) (.assign (tm 7))],
 rg [mk (some 8) (.move (tm 6)),mk (some 9) (.move (tm 0)),mk (some 10) (.convert tInt tI16 (tm 9)),cl (some 11) f2 [tm 8,tm 10]],
 .seq (rg [mk (some 12) (.move (tm 6)),mk (some 13) (.move (tm 1)),bi (some 14) .append [.const bR,tm 13] [tSl,tSl] tSl,cl (some 15) f3 [tm 12,tm 14],mk (some 16) (.binOp .neq tErr (tm 15) (.const .nilIface) 0)])
  (.cond (tm 16) (.seq (rg [mk (some 4) (.assign (.const bR)),mk (some 5) (.assign (.const (.bool false)))]) .ret) .skip),
 rg [mk (some 17) (.move (tm 6)),cl (some 18) f4 [tm 17,.const bR],mk (some 4) (.assign (tm 18)),mk (some 5) (.assign (.const (.bool true)))],.ret]
def cVer (tU8 tInt:Nat):Code:=sq [rg [mk (some 4) (.assign (ki .i64 0))],rg [mk (some 5) (.move (tm 0)),mk (some 6) (.convert tU8 tInt (tm 5)),mk (some 7) (.move (tm 1)),mk (some 8) (.binOp .add tInt (tm 7) (ki .i64 1) 0),mk (some 9) (.binOp .rem tInt (tm 6) (tm 8) 0),mk (some 4) (.assign (tm 9))],.ret]
def rS (tSl tU8:Nat):List Oper:=[mk (some 16) (.move (tm 0)),mk (some 17) (.move (tm 5)),mk (some 18) (.indexAddr tSl (tm 16) (tm 17)),mk (some 19) (.load tU8 (tm 18)),mk (some 20) (.move (tm 1)),mk (some 21) (.move (tm 5)),mk (some 22) (.indexAddr tSl (tm 20) (tm 21)),mk (some 23) (.load tU8 (tm 22)),mk (some 24) (.binOp .neq tU8 (tm 19) (tm 23) 0)]
def EV (b:Bool):Code:=.seq (rg [mk (some 4) (.assign (.const (.bool b)))]) .ret
def cSame (tSl tU8 tInt:Nat):Code:=sq [rg [mk (some 4) (.assign (.const (.bool false)))],
 .seq (rg [mk (some 6) (.move (tm 0)),bi (some 7) .len [tm 6] [tSl] tInt,mk (some 8) (.move (tm 1)),bi (some 9) .len [tm 8] [tSl] tInt,mk (some 10) (.binOp .neq tInt (tm 7) (tm 9) 0)]) (.cond (tm 10) (EV false) .skip),
 .seq (rg [mk (some 11) (.move (tm 0)),bi (some 12) .len [tm 11] [tSl] tInt,mk (some 13) (.move (ki .i64 0))])
  (.block 0 (.loop (.seq (rg [mk (some 14) (.binOp .lss tInt (tm 13) (tm 12) 0)]) (.seq (.cond (tm 14) .skip (.exit 0))
   (.seq (.block 1 (.seq (rg [mk (some 15) (.move (tm 13)),mk (some 5) (.assign (tm 15))]) (.seq (.region 1 (rS tSl tU8).toArray true) (.cond (tm 24) (EV false) .skip))))
    (rg [mk (some 25) (.binOp .add tInt (tm 13) (ki .i64 1) 0),mk (some 13) (.move (tm 25))])))))),
 rg [mk (some 4) (.assign (.const (.bool true)))],.ret]
