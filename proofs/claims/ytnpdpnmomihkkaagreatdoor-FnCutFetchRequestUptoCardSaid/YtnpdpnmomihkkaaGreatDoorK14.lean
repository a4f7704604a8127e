/- messages, part 14 -/
import Derived.Test.YtnpdpnmomihkkaaGreatDoorK12

namespace Go.Proofs.YtnpdpnmomihkkaaGreatDoor.Kx
open Go
theorem qZ {f:RS->dV V}{w:Tr->Bs}{v:Tr->V}:∀ (ts:List Tr),(∀ t∈ts,∀ rest,f ⟨w t++rest,false,false⟩=.ok (v t) ⟨rest,false,false⟩)->∀ rest,gx f ts.length ⟨(ts.map w).flatten++rest,false,false⟩=.ok (ts.map v) ⟨rest,false,false⟩
 | [],_,rest=>by simp[gx]
 | t::ts,h,rest=>by
  simp only[List.map_cons,List.flatten_cons,List.length_cons,gx,ao]
  rw[h t (aB ..)]
  simp only[dV.bind]
  rw[qZ ts (λt ht=>h t (aA _ ht)) rest]
theorem ju (k:Nat)(v:Bs):∀ (l:List (Nat × Bs)) (y:Nat × Bs),y∈dq k v l->y=(k,v) \/ y∈l
 | [],y,h=>by simpa[dq]using h
 | (j,u)::r,y,h=>by
  simp only[dq]at h
  split at h
  ·simpa using h
  ·split at h
   ·exact .inr h
   ·rcases aI.1 h with h|h
    ·exact .inr (h ▸ aB ..)
    ·rcases ju k v r y h with h|h
     ·exact .inl h
     ·exact .inr (aA _ h)
theorem o9 (k:Nat)(v:Bs):∀ (l:List (Nat × Bs)),l.Pairwise (λa b=>a.1<b.1)->(dq k v l).Pairwise (λa b=>a.1<b.1)
 | [],_=>by simp[dq]
 | (j,u)::r,h=>by
  obtain⟨h1,h2⟩:=List.pairwise_cons.1 h
  simp only[dq]
  split
  ·rename_i hk
   refine List.pairwise_cons.2 ⟨λy hy=>?_,h⟩
   rcases aI.1 hy with rfl|hy
   ·exact hk
   ·exact Nat.lt_trans hk (h1 y hy)
  ·split
   ·exact h
   ·refine List.pairwise_cons.2 ⟨λy hy=>?_,o9 k v r h2⟩
    rcases ju k v r y hy with rfl|hy
    ·show j<k;omega
    ·exact h1 y hy
theorem nw (k:Nat)(v:Bs):∀ (l:List (Nat × Bs)),(dq k v l).length<=l.length+1
 | []=>by simp[dq]
 | (j,u)::r=>by
  have:=nw k v r
  simp only[dq]
  split
  ·simp
  ·split<;>simp<;>omega
theorem pH (n:Nat):∀ (l acc:List (Nat × Bs)),acc.Pairwise (λa b=>a.1<b.1)->(jo n l acc).Pairwise (λa b=>a.1<b.1)/\(∀ y∈jo n l acc,y∈l \/ y∈acc)/\(jo n l acc).length<=l.length+acc.length
 | [],acc,h=>⟨h,λy hy=>.inr hy,by simp[jo]⟩
 | (k,v)::r,acc,h=>by
  simp only[jo]
  split
  ·obtain⟨a,b,c⟩:=pH n r acc h
   refine⟨a,λy hy=>(b y hy).imp (aA _) id,?_⟩
   simp only[List.length_cons];omega
  ·obtain⟨a,b,c⟩:=pH n r (dq k v acc) (o9 k v acc h)
   have hl:=nw k v acc
   refine⟨a,λy hy=>?_,by simp only[List.length_cons];omega⟩
   rcases b y hy with h1|h1
   ·exact .inl (aA _ h1)
   ·rcases ju k v acc y h1 with rfl|h1
    ·exact .inl (aB ..)
    ·exact .inr h1
theorem CP (t:Tr):∀ y∈t.tags,y.1<4294967296:=by
 obtain⟨_,_,_,_,u⟩:=t
 intro y hy
 simp only[Tr.tags,aP]at hy
 obtain⟨p,_,rfl⟩:=hy
 exact p.1.toNat_lt
theorem si (n:Nat)(t:Tr):(eV n t.tags).Pairwise (λa b=>a.1<b.1)/\(∀ y∈eV n t.tags,y.1<4294967296)/\(eV n t.tags).length<=bX:=by
 obtain⟨a,b,c⟩:=pH n (t.tags.take bX) [] List.Pairwise.nil
 refine⟨a,λy hy=>CP t y ?_,?_⟩
 ·rcases b y hy with h|h
  ·exact List.mem_of_mem_take h
  ·cases h
 ·have:(t.tags.take bX).length<=bX:=by rw[aG];exact Nat.min_le_left ..
  simp only[List.length_nil]at c
  exact am c aa
theorem pG (n:Nat)(t:Tr):(dH n t).Pairwise (λa b=>a.1<b.1)/\(∀ y∈dH n t,yk y/\y.2.length<=bX)/\(dH n t).length<=bX/\(dH n t).length=(eV n t.tags).length:=by
 obtain⟨a,b,c⟩:=si n t
 refine⟨?_,λy hy=>?_,by simpa[dH]using c,by simp[dH]⟩
 ·unfold dH
  rw[List.pairwise_map]
  exact a
 ·simp only[dH,aP]at hy
  obtain⟨p,hp,rfl⟩:=hy
  have:=ii p.2
  exact⟨⟨b p hp,by simp only[bX]at *;omega⟩,this⟩
theorem oS:∀ (l:List (Nat × Bs)),(∀ y∈l,yk y)->dh l=cM l
 | [],_=>rfl
 | p::r,h=>by
  have h1:=h p (aB ..)
  have:f9 p.2.length=p.2.length:=aW h1.2
  have e:=oS r λy hy=>h y (aA _ hy)
  simp only[dh,List.map_cons,List.flatten_cons,cM,jT,eZ,this]at e ⊢
  rw[e]
def lz:SFs->Bool
 | .nil=>true
 | .cons _ _ _ _ tag _ _ _ r=>decide (tag<0)&&lz r
theorem m7:∀ sf:SFs,lz sf=true->bH sf=0
 | .nil,_=>rfl
 | .cons _ _ _ _ tag _ _ _ r,h=>by
  simp only[lz,ac,ai]at h
  simp only[bH,m7 r h.2]
  rw[al aa]
theorem xy (ver:Int)(fx:Bool):∀ (sf:SFs) (i:Nat) (t:Tr),lz sf=true->sTgd ver fx sf i t=[]
 | .nil,_,_,_=>by simp[sTgd]
 | .cons _ _ _ _ tag _ _ _ r,i,t,h=>by
  simp only[lz,ac,ai]at h
  simp only[sTgd,xy ver fx r (i+1) t h.2,aL]
  rw[al aa]
theorem ui (fx:Bool)(t:Tr):iY fx 0 [] t.tags=d7 fx (if fx then dH 0 t else[]):=by
 obtain⟨a,b,c,d⟩:=pG 0 t
 cases fx with
 | false=>simp[iY,d7]
 | true=>
  have hw:f9 (dH 0 t).length=(eV 0 t.tags).length:=by rw[d];simp only[f9,bX]at *;omega
  simp only[iY,d7,aw,hw,eY,List.range_zero,List.flatMap_nil,List.length_nil,aN]
  rw[<- oS _ λy hy=>(b y hy).1]
  rfl
theorem uj {ver:Int}{fx:Bool}{sf:SFs}(h:lz sf=true)(t:Tr):bU ver fx sf t=ea ver fx sf 0 t++d7 fx (if fx then dH (bH sf) t else[]):=by
 rw[bU,m7 sf h,xy ver fx sf 0 t h,ui]
theorem Gf {_ver:Int}{fx:Bool}{fields:RS->dV (List V)}{tag:Nat->Option (List V->RS->dV (List V))}{F:Bs}{vs:List V}{t:Tr}(hf:∀ rest nl,(nl=true->F++rest=[])->fields ⟨F++rest,false,nl⟩=.ok vs ⟨rest,false,nl⟩)(rest:Bs)(nl:Bool)
  (JB:nl=true->F++d7 fx (if fx then dH 0 t else[])++rest=[]):dS fx false fields tag ⟨F++d7 fx (if fx then dH 0 t else[])++rest,false,nl⟩=.ok (.st vs (if fx then dH 0 t else[])) ⟨rest,false,nl⟩:=by
 unfold dS
 rw[ao]at JB ⊢
 rw[hf _ nl JB]
 simp only[dV.bind]
 cases fx with
 | false=>simp[d7]
 | true=>
  obtain⟨a,b,c,d⟩:=pG 0 t
  have hw:f9 (dH 0 t).length=(dH 0 t).length:=by simp only[f9,bX]at *;omega
  have hn:nl=false:=by
   refine iZ (l:=d7 true (dH 0 t)) (rest:=rest) (λh=>?_) ?_
   ·have:=JB h
    simp only[aw]at this
    exact(List.append_eq_nil_iff.1 this).2
   ·simp only[d7,aw,ad]
    have:=fg (f9 (dH 0 t).length)
    omega
  subst hn
  simp only[aU,ag,ak,aw,d7,hw,ao]
  rw[f8 (by simp only[bX]at c;omega)]
  simp only
  rw[oz _ [] rest (by simpa using a) λy hy=>(b y hy).1]
  simp
theorem xI (ver:Int):cF (-1) ver=false:=by simp[cF]
theorem yJ {kind:Nat}(h:kind≠11)(of:Nat)(ver:Int)(fx:Bool)(pt:Tr->Bs)(t:Tr):fQ kind (-1) of ver fx pt t=gk kind false fx pt t:=by
 simp only[fQ,al h,xI,Bool.and_false]
 rw[al aa]
theorem yK (fx:Bool)(n:Nat):js fx true n 4=eJ fx 4:=by cases fx<;>rfl
theorem AD (fx:Bool){n:Nat}(h:n<=bX):js fx false n 4=kf fx n:=by
 cases fx with
 | false=>rfl
 | true=>
  have:f9 (n+1)=n+1:=by simp only[f9,bX]at *;omega
  simp[js,kf,this]
def FF (ver:Int)(fx:Bool)(kind:Nat)(nul:Int)(of:Nat)(sub:SFs)(t:Tr):Bs:=fQ kind nul of ver fx (bU ver fx sub) t
def FP (ver:Int)(fx:Bool)(ty:Ty)(F:Tr->Bs)(v:Tr->V):Prop:=
 ∀ t,(∀ (df:Int) rest nl,(nl=true->F t++rest=[])->dy fx ver ty (du df ty) ⟨F t++rest,false,nl⟩=.ok (v t) ⟨rest,false,nl⟩)/\dp fx ver ty (v t)=F t/\(pR fx ver ty=true->0<(F t).length)
theorem wW {ver:Int}{fx:Bool}{ty:Ty}{F:Tr->Bs}{v:Tr->V}{p q:PF}(hr:∀ old r,dy fx ver ty old r=.ok (p.run r).1 (p.run r).2)(hw:∀ x,dp fx ver ty x=q.wr x)(hp:∀ t,p.wr (v t)=F t/\yX p (v t))(hq:∀ t,q.wr (v t)=F t):FP ver fx ty F v:=by
 intro t
 have JK:0<(F t).length:=by rw[<- (hp t).1];exact E0 p _ (hp t).2
 refine⟨λdf rest nl JB=>?_,by rw[hw,hq],λ_=>JK⟩
 obtain rfl:=iZ JB JK
 rw[hr,<- (hp t).1,Gs p _ (hp t).2 rest]
theorem AJ {k:Nat}{r:RS}(h:(rU k r).2.bad=false)(c:Bs)(nl:Bool):rU k ⟨r.src++c,false,nl⟩=((rU k r).1,⟨(rU k r).2.src++c,false,nl⟩):=by
 unfold rU at h ⊢
 by_cases hk:r.src.length<k
 ·rw[ax hk]at h;cases h
 ·rw[al hk,al (by simp;omega)]
  simp only
  rw[List.take_append_of_le_length aa,bg aa]
theorem AK {k:Nat}{r:RS}(h:r.bad=true):(rU k r).2.bad=true:=by
 unfold rU
 split
 ·rfl
 ·exact h
theorem sy {k:Nat}{r:RS}(h:(rI k r).2.bad=false)(c:Bs)(nl:Bool):rI k ⟨r.src++c,false,nl⟩=((rI k r).1,⟨(rI k r).2.src++c,false,nl⟩):=by
 simp only[rI]at h ⊢
 rw[AJ h]
theorem gX {k:Nat}{r:RS}(h:r.bad=true):(rI k r).2.bad=true:=AK h
theorem vx (l c:Bs)(h:0<(cu l).2):cu (l++c)=cu l/\(cu l).2.toNat<=l.length:=by
 refine⟨?_,?_⟩
 ·cases l with
  | nil=>simp[cu]at h
  | cons a l=>
   simp only[cu,aS]at h ⊢
   split
   ·rfl
   ·rename_i ha
    rw[al ha]at h
    cases l with
    | nil=>simp at h
    | cons b l=>
     simp only[aS]at h ⊢
     split
     ·rfl
     ·rename_i hb
      rw[al hb]at h
      cases l with
      | nil=>simp at h
      | cons d l=>
       simp only[aS]at h ⊢
       split
       ·rfl
       ·rename_i hd
        rw[al hd]at h
        cases l with
        | nil=>simp at h
        | cons e l=>
         simp only[aS]at h ⊢
         split
         ·rfl
         ·rename_i he
          rw[al he]at h
          cases l with
          | nil=>simp at h
          | cons f l=>rfl
 ·rcases tJ l with h1|h1
  ·omega
  ·omega
theorem lW {r:RS}(h:(bZ r).2.bad=false)(c:Bs)(nl:Bool):bZ ⟨r.src++c,false,nl⟩=((bZ r).1,⟨(bZ r).2.src++c,false,nl⟩):=by
 unfold bZ at h ⊢
 by_cases hk:(cu r.src).2<=0
 ·rw[ax hk]at h;cases h
 ·obtain⟨e,hl⟩:=vx r.src c aa
  simp only[e]
  rw[al hk,al hk]
  simp only
  rw[bg hl]
theorem eT {r:RS}(h:r.bad=true):(bZ r).2.bad=true:=by
 unfold bZ
 split
 ·rfl
 ·exact h
theorem eu {k:Int}{r:RS}(h:r.bad=true):(cd k r).2.bad=true:=by
 unfold cd
 split
 ·rfl
 ·exact h
theorem uz {fx:Bool}{r:RS}(h:(cW fx r).2.bad=false)(c:Bs)(nl:Bool):cW fx ⟨r.src++c,false,nl⟩=((cW fx r).1,⟨(cW fx r).2.src++c,false,nl⟩):=by
 cases fx with
 | true=>
  unfold cW at h ⊢
  simp only[aw]at h ⊢
  by_cases hk:((bZ r).2.src.length:Int)<eB (eB (bZ r).1-1)
  ·rw[ax hk]at h;cases h
  ·rw[al hk]at h
   simp only at h
   rw[lW h,al hk]
   simp only
   rw[al (by simp;omega)]
 | false=>
  unfold cW at h ⊢
  simp only[ag,ak]at h ⊢
  by_cases hk:((rI 4 r).2.src.length:Int)<(rI 4 r).1
  ·rw[ax hk]at h;cases h
  ·rw[al hk]at h
   rw[sy h,al hk]
   simp only
   rw[al (by simp;omega)]
theorem u4 {fx:Bool}{r:RS}(h:r.bad=true):(cW fx r).2.bad=true:=by
 unfold cW
 cases fx with
 | true=>
  simp only[aw]
  split
  ·rfl
  ·exact eT h
 | false=>
  simp only[ag,ak]
  split
  ·rfl
  ·exact gX h
theorem cr {b:Bool}(h:b≠true):b=false:=by cases b<;>simp at h ⊢
theorem EY (p:PF){r:RS}(h:r.bad=true):(p.run r).2.bad=true:=by
 cases p with
 | bool=>simp only[PF.run,pQ];split<;>first|rfl|exact h
 | i8=>exact gX h
 | i16=>exact gX h
 | u16=>exact AK h
 | i32=>exact gX h
 | i64=>exact gX h
 | uuid=>simp only[PF.run];split<;>first|rfl|exact h
 | str=>exact eu (gX h)
 | cstr=>exact eu (eT h)
 | nstr=>simp only[PF.run];split;exact gX h;exact eu (gX h)
 | cnstr=>simp only[PF.run];split;exact eT h;exact eu (eT h)
 | bytes=>simp only[PF.run];split;exact gX h;exact eu (gX h)
 | cbytes=>simp only[PF.run];split;exact eT h;exact eu (eT h)
 | nbytes=>simp only[PF.run];split;exact gX h;exact eu (gX h)
 | cnbytes=>simp only[PF.run];split;exact eT h;exact eu (eT h)
theorem I5 {k:Nat}{r:RS}{f:Int->RS->V × RS}(hf:∀ x s,s.bad=true->(f x s).2.bad=true)(h:(f (rI k r).1 (rI k r).2).2.bad=false):(rI k r).2.bad=false:=
 cr λhb=>by rw[hf _ _ hb]at h;cases h
theorem Iy {r:RS}{f:Nat->RS->V × RS}(hf:∀ x s,s.bad=true->(f x s).2.bad=true)(h:(f (bZ r).1 (bZ r).2).2.bad=false):(bZ r).2.bad=false:=
 cr λhb=>by rw[hf _ _ hb]at h;cases h
theorem jz:∀ (n:Nat) (acc:List (Nat × Bs)) (r:RS),r.bad=true->(e9 n acc r).2.bad=true
 | 0,_,_,h=>h
 | n+1,acc,r,h=>by
  simp only[e9]
  exact jz n _ _ (eu (eT (eT h)))
def r5:Nat:=4294967296
def us (sub:SFs)(t:Tr):Bool:=dR sub 0 t&&(eV (bH sub) t.tags).isEmpty
mutual
def fk (ver:Int)(fx:Bool):Ty->SFs->Bool->Tr->V
 | .prim .uuid,_,_,t=>.s (z6 t.octets)
 | .prim p,_,_,t=>.n (ji p t.num)
 | .str _,_,null,t=>if null then .nul else .s (t.octets.take bX)
 | .bytes _,_,null,t=>if null then .nul else .s (t.octets.take bX)
 | .list nul _ e,sub,null,t=>if null then .nul else if t.list.isEmpty then(if nul.isSome then .l []else .nul)else .l ((t.list.take bX).map λt=>fk ver fx e sub false t)
 | .struct _ _ fs,sub,null,t=>if null then .nul else .st (tgFds ver fx fs sub 0 t) (if fx then dH (bH sub) t else[])
def tgFds (ver:Int)(fx:Bool):Fds->SFs->Nat->Tr->List V
 | .nil,_,_,_=>[]
 | .cons lo hi tag df _ ty r,sf,i,t=>
  match sf with
  | .nil=>du df ty::tgFds ver fx r .nil (i+1) t
  | .cons kind _ _ nul _ sdf _ sub sr=>
   (if(if tag.isNone then ml lo hi ver else fx&&!ct kind nul sdf (us sub) (t.at i))then fk ver fx ty sub ((t.at i).null&&cF nul ver) (t.at i)else du df ty)::tgFds ver fx r sr (i+1) t
end
def fm (ver:Int)(fx:Bool):Fds->SFs->Nat->Tr->List V
 | .nil,_,_,_=>[]
 | .cons lo hi tag df _ ty r,sf,i,t=>
  match sf with
  | .nil=>du df ty::fm ver fx r .nil (i+1) t
  | .cons _ _ _ nul _ _ _ sub sr=>
   (if tag.isNone&&ml lo hi ver then fk ver fx ty sub ((t.at i).null&&cF nul ver) (t.at i)else du df ty)::fm ver fx r sr (i+1) t
def Fds.above:Fds->Nat->Bool
 | .nil,_=>true
 | .cons _ _ tag _ _ _ r,k=>(match tag with|none=>true|some j=>decide (k<j))&&r.above k
def nj:Fds->Bool
 | .nil=>true
 | .cons _ _ tag _ _ _ r=>(match tag with|none=>true|some k=>r.above k&&decide (k<r5))&&nj r
def jZ (ver:Int):Ty->Int->Nat->Int->Int->Bool
 | .prim .uuid,_,kind,_,_=>kind==7
 | .prim p,df,kind,_,sdf=>kind==fG p&&df==sdf&&ji p df==df
 | .str none,_,kind,n,_=>kind==8&&decide (n<0)
 | .str (some _),_,kind,n,_=>kind==8&&cF n ver
 | .bytes _,_,kind,n,_=>kind==9&&cF n ver
 | _,_,_,_,_=>false
def ma (ver:Int):Fds->SFs->Bool
 | .nil,sf=>match sf with|.nil=>true|_=>false
 | .cons lo hi tag df _ ty r,sf=>
  match sf with
  | .nil=>false
  | .cons kind _ _ nul _ sdf _ _ sr=>tag.isNone&&ml lo hi ver&&jZ ver ty df kind nul sdf&&ma ver r sr
def Cc (ver:Int):Ty->Int->Nat->Int->Int->SFs->Bool
 | .list _ _ _,_,kind,n,_,_=>kind==11&&!cF n ver
 | .struct none _ fs,_,kind,n,_,sub=>kind==10&&decide (n<0)&&ma ver fs sub
 | .struct (some _) _ _,_,_,_,_,_=>false
 | ty,df,kind,n,sdf,_=>jZ ver ty df kind n sdf
mutual
def iE (ver:Int)(fx:Bool):Ty->Nat->Int->Nat->SFs->Bool
 | .prim p,kind,_,_,_=>kind==fG p
 | .str nul,kind,n,_,_=>kind==8&&(!cF n ver || eM nul ver)
 | .bytes nul,kind,n,_,_=>kind==9&&(!cF n ver || eM nul ver)
 | .list nul esz e,kind,n,of,sub=>kind==11&&(!cF n ver || (nul.isSome&&gQ nul ver))&&decide (esz<=10000)&&!e.isList&&pR fx ver e&&iE ver fx e of (-1) 0 sub
 | .struct nul _ fs,kind,n,_,sub=>kind==10&&(nul.isSome==decide (0<=n))&&nj fs&&fitGFds ver fx fs sub
def fitGFds (ver:Int)(fx:Bool):Fds->SFs->Bool
 | .nil,sf=>match sf with|.nil=>true|_=>false
 | .cons lo hi tag df _ ty r,sf=>
  match sf with
  | .nil=>false
  | .cons kind slo shi nul stag sdf of sub sr=>
   (match tag with
    | none=>decide (stag<0)&&(ml lo hi ver==mb slo shi ver)&&(!ml lo hi ver || iE ver fx ty kind nul of sub)
    | some k=>stag==(k:Int)&&(!fx || (pR fx ver ty&&Cc ver ty df kind nul sdf sub&&iE ver fx ty kind nul of sub)))&&fitGFds ver fx r sr
end
theorem FB {k:Nat}{x y:Int}(h:be k x=be k y):x%256^k=y%256^k:=by
 rw[<- rK k x,<- rK k y,h]
theorem Dm (p:eH)(hp:p≠.uuid)(hb:p≠.bool)(x df:Int)(h:ji p df=df):(ji p x==df)=decide (be (da (fG p)) x=be (da (fG p)) df):=by
 rw[Bool.eq_iff_iff]
 simp only[ar,ai]
 constructor
 ·intro e
  refine lK _ ?_
  rw[<- e]
  cases p<;>first|exact absurd rfl hp|exact absurd rfl hb|(simp only[ji,lr,fG,da];simp only[Nat.reduceEqDiff,aw,ak,or_false,or_true,Int.reducePow,Nat.reduceSub,Nat.reducePow];omega)
 ·intro e
  have e:=FB e
  rw[<- h]
  cases p<;>first|exact absurd rfl hp|exact absurd rfl hb|(simp only[ji,lr,fG,da]at e ⊢;simp only[Nat.reduceEqDiff,aw,ak,or_false,or_true,Int.reducePow,Nat.reduceSub,Nat.reducePow]at e ⊢;omega)
theorem vJ (l:Bs):(l.take bX).isEmpty=l.isEmpty:=by cases l<;>simp[bX]
theorem AE (l:Bs):((z6 l).all λb=>b==0)=((l.take 16).all λb=>b==0):=by
 simp only[z6,List.all_append]
 have:((List.replicate (16-l.length) (0:UInt8)).all λb=>b==0)=true:=by
  rw[aT]
  intro b hb
  rw[(List.mem_replicate.1 hb).2];rfl
 rw[this,Bool.and_true]
theorem iQ {ver:Int}{ty:Ty}{df:Int}{kind:Nat}{n sdf:Int}(h:jZ ver ty df kind n sdf=true):i7 ty df (du df ty)=true/\∀ (t:Tr) (sub:SFs) (u:Tr->Bool),i7 ty df (fk ver true ty sub (t.null&&cF n ver) t)=ct kind n sdf u t:=by
 cases ty with
 | prim p=>
  by_cases hp:p=.uuid
  ·subst hp
   simp only[jZ,ar]at h
   subst h
   refine⟨by simp only[du,i7,V.octets];decide,λt sub u=>?_⟩
   simp only[fk,i7,V.octets,AE,ct]
   simp
  ·have h':kind=fG p/\df=sdf/\ji p df=df:=by
    cases p<;>first|exact absurd rfl hp|(simp only[jZ,ac,ar]at h;exact⟨h.1.1,h.1.2,h.2⟩)
   obtain⟨rfl,rfl,hn⟩:=h'
   refine⟨by cases p<;>first|exact absurd rfl hp|simp[du,i7,V.num],λt sub u=>?_⟩
   have e1:i7 (.prim p) df (fk ver true (.prim p) sub (t.null&&cF n ver) t)=(ji p t.num==df):=by cases p<;>first|exact absurd rfl hp|simp[fk,i7,V.num]
   rw[e1]
   by_cases hb:p=.bool
   ·subst hb
    simp only[ji,ct,fG]
    rw[Bool.eq_iff_iff];simp
   ·rw[Dm p hp hb _ _ hn]
    have c0:fG p≠0:=by cases p<;>first|exact absurd rfl hb|decide
    have c7:fG p≠7:=by cases p<;>first|exact absurd rfl hp|decide
    have c8:fG p≠8:=by cases p<;>decide
    have c9:fG p≠9:=by cases p<;>decide
    have c11:fG p≠11:=by cases p<;>decide
    have c10:fG p≠10:=by cases p<;>decide
    simp only[ct,al c0,al c7,al c11,al c10]
    rw[al aa]
 | str nul=>
  cases nul with
  | none=>
   simp only[jZ,ac,ar,ai]at h
   obtain⟨rfl,hn⟩:=h
   refine⟨rfl,λt sub u=>?_⟩
   have hs:cF n ver=false:=by simp only[cF];rw[decide_eq_false aa];rfl
   rw[hs,Bool.and_false]
   simp only[fk,i7,V.octets,vJ,ct,ag,ak]
   rw[al aa,al aa,ax ab,al aa]
  | some m=>
   simp only[jZ,ac,ar]at h
   obtain⟨rfl,hn⟩:=h
   refine⟨rfl,λt sub u=>?_⟩
   have h0:0<=n:=by simp only[cF,ac,ai]at hn;exact hn.1
   rw[hn,Bool.and_true]
   have e:ct 8 n sdf u t=t.null:=by simp[ct,h0]
   rw[e]
   simp only[fk,i7]
   cases t.null<;>simp[V.isNul]
 | bytes nul=>
  simp only[jZ,ac,ar]at h
  obtain⟨rfl,hn⟩:=h
  refine⟨rfl,λt sub u=>?_⟩
  have h0:0<=n:=by simp only[cF,ac,ai]at hn;exact hn.1
  rw[hn,Bool.and_true]
  have e:ct 9 n sdf u t=t.null:=by simp[ct,h0]
  rw[e]
  simp only[fk,i7]
  cases t.null<;>simp[V.isNul]
 | list _ _ _=>simp[jZ]at h
 | struct _ _ _=>simp[jZ]at h
theorem uS (ver:Int):∀ (fs:Fds) (sf:SFs),ma ver fs sf=true->jY fs (dfFds fs)=true/\∀ (i:Nat) (t:Tr),jY fs (tgFds ver true fs sf i t)=dR sf i t
 | .nil,.nil,_=>⟨rfl,λi t=>by simp[jY,dR]⟩
 | .nil,.cons ..,h=>by simp[ma]at h
 | .cons ..,.nil,h=>by simp[ma]at h
 | .cons lo hi tag df off ty r,.cons kind slo shi nul stag sdf of sub sr,h=>by
  simp only[ma,ac]at h
  obtain⟨⟨⟨h1,h2⟩,h3⟩,h4⟩:=h
  obtain⟨i1,i2⟩:=uS ver r sr h4
  obtain⟨j1,j2⟩:=iQ h3
  refine⟨by simp only[dfFds,jY,List.headD_cons,List.tail_cons,j1,i1,Bool.and_self],λi t=>?_⟩
  simp only[tgFds,h1,h2,aw,jY,List.headD_cons,List.tail_cons,dR]
  rw[j2 (t.at i) sub (us sub),i2]
  rfl
theorem Dw {ver:Int}{ty:Ty}{df:Int}{kind:Nat}{n sdf:Int}{sub:SFs}(h:Cc ver ty df kind n sdf sub=true):ku ty df (du df ty)=true/\∀ (t:Tr),ku ty df (fk ver true ty sub (t.null&&cF n ver) t)=ct kind n sdf (us sub) t:=by
 cases ty with
 | list nul esz e=>
  simp only[Cc,ac,ar,Bool.not_eq_true']at h
  obtain⟨rfl,hn⟩:=h
  refine⟨rfl,λt=>?_⟩
  rw[hn,Bool.and_false]
  have e:ct 11 n sdf (us sub) t=t.list.isEmpty:=by simp[ct]
  rw[e]
  simp only[fk,ku,ag,ak]
  cases hl:t.list with
  | nil=>cases nul<;>simp[V.list]
  | cons a l=>simp[V.list,bX]
 | struct nul toff fs=>
  cases nul with
  | none=>
   simp only[Cc,ac,ar,ai]at h
   obtain⟨⟨rfl,hn⟩,hf⟩:=h
   obtain⟨i1,i2⟩:=uS ver fs sub hf
   have hs:cF n ver=false:=by simp only[cF];rw[decide_eq_false aa];rfl
   refine⟨by simp only[du,ku,V.fields,V.tags,i1];rfl,λt=>?_⟩
   rw[hs,Bool.and_false]
   simp only[fk,ku,V.fields,V.tags,i2,ct,ag,ak,aw]
   rw[al aa,al aa,al aa,al aa]
   simp only[us,dH,List.isEmpty_map]
  | some q=>simp[Cc]at h
 | prim p=>exact⟨(iQ (ty:=.prim p) h).1,λt=>(iQ (ty:=.prim p) h).2 t sub (us sub)⟩
 | str p=>exact⟨(iQ (ty:=.str p) h).1,λt=>(iQ (ty:=.str p) h).2 t sub (us sub)⟩
 | bytes p=>exact⟨(iQ (ty:=.bytes p) (df:=df) (sdf:=sdf) h).1,λt=>(iQ (ty:=.bytes p) (df:=df) (sdf:=sdf) h).2 t sub (us sub)⟩
def C1 (ver:Int)(fx:Bool)(ty:Ty)(F:Tr->Bs)(v:Tr->V):Prop:=
 ∀ t,(F t).length<r5->(∀ (df:Int) rest nl,(nl=true->F t++rest=[])->dy fx ver ty (du df ty) ⟨F t++rest,false,nl⟩=.ok (v t) ⟨rest,false,nl⟩)/\dp fx ver ty (v t)=F t/\(pR fx ver ty=true->0<(F t).length)
theorem FP.g {ver:Int}{fx:Bool}{ty:Ty}{F:Tr->Bs}{v:Tr->V}(h:FP ver fx ty F v):C1 ver fx ty F v:=λt _=>h t
theorem uH {w:Tr->Bs}{t:Tr}:∀ (ts:List Tr),t∈ts->(w t).length<=(ts.map w).flatten.length
 | [],h=>by cases h
 | a::ts,h=>by
  simp only[List.map_cons,List.flatten_cons,ad]
  rcases aI.1 h with rfl|h
  ·omega
  ·have:=uH (w:=w) ts h;omega
theorem oB {w:Tr->Bs}:∀ (ts:List Tr),(∀ t∈ts,0<(w t).length)->ts.length<=(ts.map w).flatten.length
 | [],_=>by simp
 | t::ts,h=>by
  have h1:=h t (aB ..)
  have h2:=oB ts λt ht=>h t (aA _ ht)
  simp only[List.map_cons,List.flatten_cons,List.length_cons,ad]
  omega
theorem F6 {ver:Int}{fx:Bool}{nul:Option Nat}{esz of:Nat}{n:Int}{e:Ty}{sub:SFs}(h1:(!cF n ver || (nul.isSome&&gQ nul ver))=true)(hesz:esz<=10000)(JK:pR fx ver e=true)(Wv:of≠11)
  (ih:C1 ver fx e (FF ver fx of (-1) 0 sub) λt=>fk ver fx e sub (t.null&&cF (-1) ver) t):C1 ver fx (.list nul esz e) (FF ver fx 11 n of sub) λt=>fk ver fx (.list nul esz e) sub (t.null&&cF n ver) t:=by
 have er:∀ df r,dy fx ver (.list nul esz e) (du df (.list nul esz e)) r=if(cW fx r).2.bad then .err else if !l5 (cW fx r).1 esz then .stuck else
   if(cW fx r).1<=0 then .ok (if nul.isSome&&(decide ((cW fx r).1=0) || !gQ nul ver)then .l []else .nul) (cW fx r).2
   else(gx (dy fx ver e (du 0 e)) (cW fx r).1.toNat (cW fx r).2).bind λvs r=>.ok (.l vs) r:=λdf r=>by simp only[dy,du,V.isNul,aU,ag,ak]
 have ew:∀ v,dp fx ver (.list nul esz e) v=(if nul.isSome&&v.isNul then eJ fx 4 else kf fx v.list.length)++kd (dp fx ver e) v.list:=λv=>by simp only[dp]
 have eF:∀ t,FF ver fx of (-1) 0 sub t=gk of false fx (bU ver fx sub) t:=λt=>yJ Wv 0 ver fx _ t
 have ev:∀ t,fk ver fx e sub (t.null&&cF (-1) ver) t=fk ver fx e sub false t:=λt=>by rw[xI,Bool.and_false]
 have roomyB:∀ (L:Int),L<=bX->l5 L esz=true:=λL hL=>by
  simp only[l5,ai]
  simp only[bX]at hL
  have h1:(24*(esz:Int)+8)<=240008:=by omega
  by_cases h0:L<=0
  ·have:L*(24*(esz:Int)+8)<=0:=Int.mul_nonpos_of_nonpos_of_nonneg h0 aa
   omega
  ·have h2:L*(24*(esz:Int)+8)<=32767*240008:=Int.mul_le_mul hL h1 aa aa
   omega
 intro t ht
 cases JE:(t.null&&cF n ver) with
 | true=>
  have hs:cF n ver=true:=by simp only[ac]at JE;exact JE.2
  rw[hs]at h1
  simp only[aU,bj,ac]at h1
  have eF0:FF ver fx 11 n of sub t=eJ fx 4:=by simp only[FF,fQ,aw,JE,eR,List.length_nil,List.map_nil,List.flatten_nil,aL,yK]
  have ev0:fk ver fx (.list nul esz e) sub (t.null&&cF n ver) t=.nul:=by rw[JE];simp only[fk,aw]
  simp only[JE]at ev0
  refine⟨λdf rest nl JB=>?_,?_,λ_=>by rw[eF0];exact qF fx⟩
  ·rw[eF0]at JB ⊢
   obtain rfl:=iZ JB (qF fx)
   simp only[JE,ev0,er,yR fx rest]
   rw[roomyB (-1) (by simp only[bX];omega)]
   simp[h1.2]
  ·simp only[JE,ev0,ew,eF0,h1.1,V.isNul,V.list,Bool.and_self,aw,kd,List.map_nil,List.flatten_nil,aL]
 | false=>
  have IT:(t.list.take bX).length<=bX:=by rw[aG];exact Nat.min_le_left ..
  have eF0:FF ver fx 11 n of sub t=kf fx (t.list.take bX).length++((t.list.take bX).map (FF ver fx of (-1) 0 sub)).flatten:=by
   have:FF ver fx of (-1) 0 sub=gk of false fx (bU ver fx sub):=funext eF
   rw[this]
   simp only[FF,fQ,aw,JE,eR,ag,ak,AD fx IT]
  have LP:∀ t'∈t.list.take bX,(FF ver fx of (-1) 0 sub t').length<r5:=λt' h'=>by
   have:=uH (w:=FF ver fx of (-1) 0 sub) _ h'
   rw[eF0,ad]at ht
   omega
  have JN:=oB (w:=FF ver fx of (-1) 0 sub) (t.list.take bX) λt' h'=>(ih t' (LP t' h')).2.2 JK
  have hp:0<(FF ver fx 11 n of sub t).length:=by rw[eF0,ad];have:=Af fx (t.list.take bX).length;omega
  by_cases he:t.list.isEmpty=true
  ·have KU:t.list=[]:=List.isEmpty_iff.1 he
   have ev0:fk ver fx (.list nul esz e) sub (t.null&&cF n ver) t=if nul.isSome then .l []else .nul:=by rw[JE];simp only[fk,he,ag,ak,aw]
   simp only[JE]at ev0
   have eF1:FF ver fx 11 n of sub t=kf fx 0:=by rw[eF0,KU];simp
   refine⟨λdf rest nl JB=>?_,?_,λ_=>hp⟩
   ·obtain rfl:=iZ JB hp
    have hr:=u3 fx (n:=0) aa rest (Nat.zero_le _)
    simp only[JE,ev0,er,eF1,hr]
    rw[show((0:Nat):Int)=0 from rfl,roomyB 0 (by simp only[bX];omega)]
    simp
   ·simp only[JE,ev0,ew,eF1]
    cases nul<;>simp[V.isNul,V.list,kd]
  ·have KH:t.list≠[]:=λh=>he (List.isEmpty_iff.2 h)
   have hpos':0<(t.list.take bX).length:=by
    have:=List.length_pos_iff.2 KH
    rw[aG];simp only[bX];omega
   have ev0:fk ver fx (.list nul esz e) sub (t.null&&cF n ver) t=.l ((t.list.take bX).map λt=>fk ver fx e sub false t):=by rw[JE];simp only[fk,al he,ag,ak]
   simp only[JE]at ev0
   refine⟨λdf rest nl JB=>?_,?_,λ_=>hp⟩
   ·obtain rfl:=iZ JB hp
    have hr:=u3 fx (n:=(t.list.take bX).length) (Nat.lt_of_le_of_lt IT (by simp[bX])) (((t.list.take bX).map (FF ver fx of (-1) 0 sub)).flatten++rest) (by rw[ad];omega)
    simp only[JE,ev0,er,eF0,ao,hr]
    rw[roomyB _ aa]
    simp only[ag,ak,aU,Int.toNat_natCast]
    rw[al aa,qZ (f:=dy fx ver e (du 0 e)) (w:=FF ver fx of (-1) 0 sub) (v:=λt=>fk ver fx e sub false t) (t.list.take bX) (λt' h' rest'=>?_) rest]
    ·rfl
    ·have:=(ih t' (LP t' h')).1 0 rest' false (λh=>by cases h)
     simp only[ev]at this
     exact this
   ·simp only[JE,ev0,ew,eF0,V.isNul,V.list,Bool.and_false,ag,ak,aJ]
    congr 1
    simp only[kd,List.map_map]
    congr 1
    refine List.map_congr_left λt' h'=>?_
    have:=(ih t' (LP t' h')).2.1
    simp only[ev]at this
    exact this
def r6 (ver:Int)(fx:Bool):Fds->SFs->Prop
 | .cons lo hi tag _ _ ty r,.cons kind _ _ nul _ _ of sub sr=>((if tag.isNone then ml lo hi ver else fx)=true->C1 ver fx ty (FF ver fx kind nul of sub) λt=>fk ver fx ty sub (t.null&&cF nul ver) t)/\r6 ver fx r sr
 | _,_=>True
theorem xW (ver:Int)(fx:Bool):∀ (fs:Fds) (sf:SFs) (i:Nat) (t:Tr),fitGFds ver fx fs sf=true->r6 ver fx fs sf->(ea ver fx sf i t).length<r5 ->
  (∀ rest nl,(nl=true->ea ver fx sf i t++rest=[])->rdFds fx ver fs ⟨ea ver fx sf i t++rest,false,nl⟩=.ok (fm ver fx fs sf i t) ⟨rest,false,nl⟩)/\wrFds fx ver fs (tgFds ver fx fs sf i t)=ea ver fx sf i t/\(posFds fx ver fs=true->0<(ea ver fx sf i t).length)
 | .nil,.nil,i,t,_,_,_=>⟨λrest nl _=>by simp[rdFds,fm,ea],by simp[wrFds,ea],λh=>by simp[posFds]at h⟩
 | .nil,.cons ..,_,_,h,_,_=>by simp[fitGFds]at h
 | .cons ..,.nil,_,_,h,_,_=>by simp[fitGFds]at h
 | .cons lo hi (some k) df off ty r,.cons kind slo shi nul stag sdf of sub sr,i,t,h,hF,hl=>by
  simp only[fitGFds,ac,ar]at h
  obtain⟨⟨rfl,_⟩,hr⟩:=h
  have es:ea ver fx (.cons kind slo shi nul (k:Int) sdf of sub sr) i t=ea ver fx sr (i+1) t:=by
   simp only[ea]
   rw[al (λh=>by omega),aF]
  rw[es]at hl ⊢
  obtain⟨i1,i2,i3⟩:=xW ver fx r sr (i+1) t hr hF.2 hl
  refine⟨λrest nl JB=>?_,?_,λhp=>?_⟩
  ·simp only[rdFds,fm,Option.isNone_some,Bool.false_and,ag,ak]
   rw[i1 rest nl JB]
   rfl
  ·simp only[wrFds,tgFds,Option.isNone_some,Bool.false_and,ag,ak,List.tail_cons,i2,aF]
  ·simp only[posFds,Option.isNone_some,Bool.false_and,bj]at hp
   exact i3 hp
 | .cons lo hi none df off ty r,.cons kind slo shi nul stag sdf of sub sr,i,t,h,hF,hl=>by
  simp only[fitGFds,ac,ai,ar]at h
  obtain⟨⟨⟨JL,hh⟩,L5⟩,hr⟩:=h
  cases JF:ml lo hi ver with
  | true=>
   rw[JF]at hh
   have es:ea ver fx (.cons kind slo shi nul stag sdf of sub sr) i t=FF ver fx kind nul of sub (t.at i)++ea ver fx sr (i+1) t:=by
    simp only[ea]
    rw[ax ⟨JL,hh.symm⟩]
    rfl
   rw[es,ad]at hl
   obtain⟨i1,i2,i3⟩:=xW ver fx r sr (i+1) t hr hF.2 aa
   obtain⟨j1,j2,j3⟩:=hF.1 (by simpa using JF) (t.at i) aa
   refine⟨λrest nl JB=>?_,?_,λhp=>?_⟩
   ·rw[es,ao]at JB ⊢
    simp only[rdFds,JF,Option.isNone_none,Bool.and_self,aw,fm]
    rw[j1 df _ nl JB]
    simp only[dV.bind]
    rw[i1 rest nl (λh=>(List.append_eq_nil_iff.1 (JB h)).2)]
   ·simp only[es,tgFds,wrFds,JF,Option.isNone_none,Bool.and_self,aw,List.headD_cons,List.tail_cons,i2,j2]
   ·rw[es,ad]
    simp only[posFds,JF,Option.isNone_none,Bool.true_and,aH]at hp
    rcases hp with hp|hp
    ·have:=j3 hp;omega
    ·have:=i3 hp;omega
  | false=>
   rw[JF]at hh
   have es:ea ver fx (.cons kind slo shi nul stag sdf of sub sr) i t=ea ver fx sr (i+1) t:=by
    simp only[ea]
    rw[al (λh=>by rw[h.2]at hh;cases hh),aF]
   rw[es]at hl ⊢
   obtain⟨i1,i2,i3⟩:=xW ver fx r sr (i+1) t hr hF.2 hl
   refine⟨λrest nl JB=>?_,?_,λhp=>?_⟩
   ·simp only[rdFds,JF,Option.isNone_none,Bool.and_false,ag,ak,fm]
    rw[i1 rest nl JB]
    rfl
   ·simp only[tgFds,wrFds,JF,Option.isNone_none,Bool.and_false,ag,ak,List.tail_cons,i2,aF]
   ·simp only[posFds,JF,Option.isNone_none,Bool.and_false,Bool.false_and,bj]at hp
    exact i3 hp
theorem ry (fx:Bool)(ver:Int):∀ (fs:Fds) (m k:Nat) {g:List V->RS->dV (List V)},fs.above m=true->rdTag fx ver fs k=some g->m<k
 | .nil,_,_,_,_,h=>by simp[rdTag]at h
 | .cons lo hi tag df off ty r,m,k,g,ha,h=>by
  simp only[Fds.above,ac]at ha
  simp only[rdTag]at h
  by_cases ht:(tag==some k)=true
  ·have:tag=some k:=by simpa using ht
   subst this
   simpa using ha.1
  ·rw[al ht]at h
   obtain⟨g',Jn,_⟩:=aK.1 h
   exact ry fx ver r m k ha.2 Jn
theorem qr {α β γ:Type}(x:dV α)(f:α->RS->dV β)(g:β->RS->dV γ):(x.bind f).bind g=x.bind λa r=>(f a r).bind g:=by cases x<;>rfl
theorem xQ {α β:Type}(a:α)(r:RS)(f:α->RS->dV β):(dV.ok a r).bind f=f a r:=rfl
theorem BF {f:Nat->Option (List V->RS->dV (List V))}{g:List V->RS->dV (List V)}{k n:Nat}{v rest:Bs}{vs vs':List V}{acc:List (Nat × Bs)}(hk:k<r5)(hv:v.length<r5)(hf:f k=some g)(hg:g vs ⟨v,false,false⟩=.ok vs' ⟨[],false,false⟩) :
  ck f (n+1) vs acc ⟨eZ (k,v)++rest,false,false⟩=ck f n vs' acc ⟨rest,false,false⟩:=by
 have LJ:f9 v.length=v.length:=aW hv
 have e1:eZ (k,v)++rest=uvar k++(uvar v.length++(v++rest)):=by simp[eZ,LJ]
 simp only[ck]
 rw[e1,f8 hk,f8 hv,gu v _ _ rfl]
 simp only[hf,V.octets,V.isNul,hg,ag,ak]
theorem uI {f:Nat->Option (List V->RS->dV (List V))}{vs:List V}:∀ (t acc:List (Nat × Bs)) (rest:Bs),(acc++t).Pairwise (λa b=>a.1<b.1)->(∀ y∈t,yk y/\f y.1=none)->ck f t.length vs acc ⟨cM t++rest,false,false⟩=.ok (.st vs (acc++t)) ⟨rest,false,false⟩
 | [],acc,rest,_,_=>by simp[ck,cM]
 | (k,v)::t,acc,rest,hp,Jf=>by
  obtain⟨RB,hf⟩:=Jf (k,v) (aB ..)
  have LJ:f9 v.length=v.length:=aW RB.2
  have e1:cM ((k,v)::t)++rest=uvar k++(uvar v.length++(v++(cM t++rest))):=by simp[j0,eZ,LJ]
  have Pf:dM k v acc=acc++[(k,v)]:=lu k v acc λy hy=>(List.pairwise_append.1 hp).2.2 y hy (k,v) (aB ..)
  have hf:f k=none:=hf
  show ck f (t.length+1) vs acc _=_
  simp only[ck]
  rw[e1,f8 RB.1,f8 RB.2,gu v _ _ rfl]
  simp only[hf,V.octets]
  rw[Pf,uI t (acc++[(k,v)]) rest (by simpa using hp) λy hy=>Jf y (aA _ hy)]
  simp
theorem ua {ver:Int}{kind:Nat}{slo shi nul stag sdf:Int}{of:Nat}{sub sr:SFs}(h:stag<0)(i:Nat)(t:Tr):sTgd ver true (.cons kind slo shi nul stag sdf of sub sr) i t=sTgd ver true sr (i+1) t:=by
 simp only[sTgd]
 rw[al (λh=>by omega),aF]
theorem qN {ver:Int}{kind:Nat}{slo shi nul sdf:Int}{of k0:Nat}{sub sr:SFs}{i:Nat}{t:Tr}(LD:ct kind nul sdf (us sub) (t.at i)=true):sTgd ver true (.cons kind slo shi nul (k0:Int) sdf of sub sr) i t=sTgd ver true sr (i+1) t:=by
 have hus':ct kind nul sdf (λt=>dR sub 0 t&&(eV (bH sub) t.tags).isEmpty) (t.at i)=true:=LD
 simp only[sTgd,hus']
 rw[al (λh=>by cases h.2),aF]
theorem tZ {ver:Int}{kind:Nat}{slo shi nul sdf:Int}{of k0:Nat}{sub sr:SFs}{i:Nat}{t:Tr}(LD:ct kind nul sdf (us sub) (t.at i)=false):sTgd ver true (.cons kind slo shi nul (k0:Int) sdf of sub sr) i t=(k0,FF ver true kind nul of sub (t.at i))::sTgd ver true sr (i+1) t:=by
 have hus':ct kind nul sdf (λt=>dR sub 0 t&&(eV (bH sub) t.tags).isEmpty) (t.at i)=false:=LD
 simp only[sTgd,hus']
 rw[ax ⟨by omega,trivial⟩]
 simp only[Int.toNat_natCast,aS,aF]
 rfl
theorem p8 (ver:Int):∀ (fs:Fds) (sf:SFs) (i:Nat) (t:Tr),fitGFds ver true fs sf=true->nj fs=true->(sTgd ver true sf i t).Pairwise (λa b=>a.1<b.1)/\∀ p∈sTgd ver true sf i t,(∀ m,fs.above m=true->m<p.1)/\p.1<r5/\p.1<bH sf
 | .nil,.nil,i,t,_,_=>⟨by simp[sTgd],λp hp=>by simp[sTgd]at hp⟩
 | .nil,.cons ..,_,_,h,_=>by simp[fitGFds]at h
 | .cons ..,.nil,_,_,h,_=>by simp[fitGFds]at h
 | .cons lo hi none df off ty r,.cons kind slo shi nul stag sdf of sub sr,i,t,h,JU=>by
  simp only[fitGFds,ac,ai,ar]at h
  obtain⟨⟨⟨JL,hh⟩,L5⟩,hr⟩:=h
  simp only[nj,Bool.true_and]at JU
  have ek:bH (.cons kind slo shi nul stag sdf of sub sr)=bH sr:=by simp only[bH];rw[al aa]
  obtain⟨i2,i3⟩:=p8 ver r sr (i+1) t hr JU
  rw[ua JL,ek]
  refine⟨i2,λp hp=>⟨λm hm=>(i3 p hp).1 m ?_,(i3 p hp).2⟩⟩
  simp only[Fds.above,Bool.true_and]at hm
  exact hm
 | .cons lo hi (some k0) df off ty r,.cons kind slo shi nul stag sdf of sub sr,i,t,h,JU=>by
  simp only[fitGFds,ac,ar,aU,bj]at h
  obtain⟨⟨rfl,_⟩,hr⟩:=h
  simp only[nj,ac,ai]at JU
  obtain⟨⟨XK,JM⟩,JU⟩:=JU
  have ek:bH (.cons kind slo shi nul (k0:Int) sdf of sub sr)=Nat.max (k0+1) (bH sr):=by simp only[bH];rw[ax aa];simp
  have ek1:k0<Nat.max (k0+1) (bH sr):=az (Nat.lt_succ_self _) (Nat.le_max_left ..)
  have ek2:bH sr<=Nat.max (k0+1) (bH sr):=Nat.le_max_right ..
  obtain⟨i2,i3⟩:=p8 ver r sr (i+1) t hr JU
  have rest:∀ p∈sTgd ver true sr (i+1) t,(∀ m,(Fds.cons lo hi (some k0) df off ty r).above m=true->m<p.1)/\p.1<r5/\p.1<Nat.max (k0+1) (bH sr):=λp hp=>
   ⟨λm hm=>(i3 p hp).1 m (by simp only[Fds.above,ac]at hm;exact hm.2),(i3 p hp).2.1,az (i3 p hp).2.2 ek2⟩
  rw[ek]
  cases LD:ct kind nul sdf (us sub) (t.at i) with
  | true=>rw[qN LD];exact⟨i2,rest⟩
  | false=>
   rw[tZ LD]
   refine⟨List.pairwise_cons.2 ⟨λp hp=>(i3 p hp).1 k0 XK,i2⟩,λp hp=>?_⟩
   rcases aI.1 hp with rfl|hp
   ·exact⟨λm hm=>by simp only[Fds.above,ac,ai]at hm;exact hm.1,JM,ek1⟩
   ·exact rest p hp
theorem sN (ver:Int):∀ (fs:Fds) (sf:SFs) (i:Nat) (t:Tr),fitGFds ver true fs sf=true->r6 ver true fs sf->nj fs=true->(∀ p∈sTgd ver true sf i t,p.2.length<r5) ->
  wrTgd true ver fs (tgFds ver true fs sf i t)=sTgd ver true sf i t /\
  ∀ (f:Nat->Option (List V->RS->dV (List V))) (pre:List V),(∀ k g,rdTag true ver fs k=some g->∃ g',f k=some g'/\∀ vs r,g' (pre++vs) r=(g vs r).bind λvs' r=>.ok (pre++vs') r)->∀ n acc rest,ck f ((sTgd ver true sf i t).length+n) (pre++fm ver true fs sf i t) acc ⟨cM (sTgd ver true sf i t)++rest,false,false⟩=ck f n (pre++tgFds ver true fs sf i t) acc ⟨rest,false,false⟩
 | .nil,.nil,i,t,_,_,_,_=>⟨by simp[wrTgd,sTgd],λf pre _ n acc rest=>by simp[sTgd,fm,tgFds,cM]⟩
 | .nil,.cons ..,_,_,h,_,_,_=>by simp[fitGFds]at h
 | .cons ..,.nil,_,_,h,_,_,_=>by simp[fitGFds]at h
 | .cons lo hi none df off ty r,.cons kind slo shi nul stag sdf of sub sr,i,t,h,hF,JU,hl=>by
  simp only[fitGFds,ac,ai,ar]at h
  obtain⟨⟨⟨JL,hh⟩,L5⟩,hr⟩:=h
  simp only[nj,Bool.true_and]at JU
  rw[ua JL]at hl ⊢
  obtain⟨i1,i4⟩:=sN ver r sr (i+1) t hr hF.2 JU hl
  refine⟨by simp only[wrTgd,tgFds,List.tail_cons,i1,aF],λf pre H n acc rest=>?_⟩
  have eh:fm ver true (.cons lo hi none df off ty r) (.cons kind slo shi nul stag sdf of sub sr) i t=(if ml lo hi ver then fk ver true ty sub ((t.at i).null&&cF nul ver) (t.at i)else du df ty)::fm ver true r sr (i+1) t:=by simp only[fm,Option.isNone_none,Bool.true_and]
  have eg:tgFds ver true (.cons lo hi none df off ty r) (.cons kind slo shi nul stag sdf of sub sr) i t=(if ml lo hi ver then fk ver true ty sub ((t.at i).null&&cF nul ver) (t.at i)else du df ty)::tgFds ver true r sr (i+1) t:=by simp only[tgFds,Option.isNone_none,aw]
  rw[eh,eg]
  generalize(if ml lo hi ver then fk ver true ty sub ((t.at i).null&&cF nul ver) (t.at i)else du df ty)=x
  rw[List.append_cons,List.append_cons pre x (tgFds _ _ _ _ _ _)]
  refine i4 f (pre++[x]) (λk g hg=>?_) n acc rest
  obtain⟨g',QJ,Jn⟩:=H k (λvs r=>(g vs.tail r).bind λvs' r=>.ok (vs.headD .nul::vs') r) (by simp only[rdTag];rw[al ab,hg];rfl)
  refine⟨g',QJ,λvs r=>?_⟩
  have:=Jn (x::vs) r
  simp only[List.tail_cons,List.headD_cons,qr,xQ]at this
  simpa[ao]using this
 | .cons lo hi (some k0) df off ty r,.cons kind slo shi nul stag sdf of sub sr,i,t,h,hF,JU,hl=>by
  simp only[fitGFds,ac,ar,aU,bj]at h
  obtain⟨⟨rfl,⟨JK,hu⟩,L5⟩,hr⟩:=h
  simp only[nj,ac,ai]at JU
  obtain⟨⟨XK,JM⟩,JU⟩:=JU
  obtain⟨u1,u2⟩:=Dw hu
  have eh:fm ver true (.cons lo hi (some k0) df off ty r) (.cons kind slo shi nul (k0:Int) sdf of sub sr) i t=du df ty::fm ver true r sr (i+1) t:=by simp only[fm,Option.isNone_some,Bool.false_and,ag,ak]
  have step:∀ (x:V) (f:Nat->Option (List V->RS->dV (List V))) (pre:List V),(∀ k g,rdTag true ver (.cons lo hi (some k0) df off ty r) k=some g->∃ g',f k=some g'/\∀ vs r,g' (pre++vs) r=(g vs r).bind λvs' r=>.ok (pre++vs') r) ->
    ∀ k g,rdTag true ver r k=some g->∃ g',f k=some g'/\∀ vs r,g' ((pre++[x])++vs) r=(g vs r).bind λvs' r=>.ok ((pre++[x])++vs') r:=by
   intro x f pre H k g hg
   have IU:=ry true ver r k0 k XK hg
   obtain⟨g',QJ,Jn⟩:=H k (λvs r=>(g vs.tail r).bind λvs' r=>.ok (vs.headD .nul::vs') r) (by simp only[rdTag];rw[al (by simp;omega),hg];rfl)
   refine⟨g',QJ,λvs r=>?_⟩
   have:=Jn (x::vs) r
   simp only[List.tail_cons,List.headD_cons,qr,xQ]at this
   simpa[ao]using this
  cases LD:ct kind nul sdf (us sub) (t.at i) with
  | true=>
   have eg:tgFds ver true (.cons lo hi (some k0) df off ty r) (.cons kind slo shi nul (k0:Int) sdf of sub sr) i t=du df ty::tgFds ver true r sr (i+1) t:=by simp only[tgFds,Option.isNone_some,ag,ak,LD,aU,Bool.and_false]
   rw[qN LD]at hl ⊢
   obtain⟨i1,i4⟩:=sN ver r sr (i+1) t hr hF.2 JU hl
   refine⟨by simp only[eg,wrTgd,List.headD_cons,List.tail_cons,u1,aw,i1,aF],λf pre H n acc rest=>?_⟩
   rw[eh,eg,List.append_cons,List.append_cons pre _ (tgFds _ _ _ _ _ _)]
   exact i4 f (pre++[du df ty]) (step _ f pre H) n acc rest
  | false=>
   have eg:tgFds ver true (.cons lo hi (some k0) df off ty r) (.cons kind slo shi nul (k0:Int) sdf of sub sr) i t=fk ver true ty sub ((t.at i).null&&cF nul ver) (t.at i)::tgFds ver true r sr (i+1) t:=by simp only[tgFds,Option.isNone_some,ag,ak,LD,Bool.not_false,Bool.and_self,aw]
   rw[tZ LD]at hl ⊢
   have Pe:=hl _ (aB ..)
   obtain⟨i1,i4⟩:=sN ver r sr (i+1) t hr hF.2 JU λp hp=>hl p (aA _ hp)
   obtain⟨j1,j2,j3⟩:=hF.1 rfl (t.at i) Pe
   have J3:ku ty df (fk ver true ty sub ((t.at i).null&&cF nul ver) (t.at i))=false:=by rw[u2,LD]
   refine⟨by simp only[eg,wrTgd,List.headD_cons,List.tail_cons,J3,ag,ak,i1,j2,aS,aF],λf pre H n acc rest=>?_⟩
   obtain⟨g',QJ,Jn⟩:=H k0 (λvs r=>(dy true ver ty (vs.headD .nul) r).bind λv r=>.ok (v::vs.tail) r) (by simp only[rdTag];rw[ax ab])
   have LV:=j1 df [] false (λh=>by cases h)
   rw[aL]at LV
   have Ke:g' (pre++du df ty::fm ver true r sr (i+1) t) ⟨FF ver true kind nul of sub (t.at i),false,false⟩=.ok (pre++fk ver true ty sub ((t.at i).null&&cF nul ver) (t.at i)::fm ver true r sr (i+1) t) ⟨[],false,false⟩:=by
    rw[Jn]
    simp only[List.headD_cons,List.tail_cons,LV,dV.bind]
   rw[eh,eg,j0,ao]
   have e2:((k0,FF ver true kind nul of sub (t.at i))::sTgd ver true sr (i+1) t).length+n=((sTgd ver true sr (i+1) t).length+n)+1:=by simp only[List.length_cons];omega
   rw[e2,BF JM Pe QJ Ke,List.append_cons,List.append_cons pre _ (tgFds _ _ _ _ _ _)]
   exact i4 f _ (step _ f pre H) n acc rest
theorem mw:∀ (m a:Nat) (l:List (Nat × Bs)),l.Pairwise (λa b=>a.1<b.1)->(∀ p∈l,a<=p.1/\p.1<a+m)->((List.range' a m).flatMap λk=>l.filter λp=>p.1==k)=l
 | 0,a,l,_,hb=>by
  cases l with
  | nil=>rfl
  | cons p r=>have:=hb p (aB ..);omega
 | m+1,a,[],_,_=>by simp
 | m+1,a,p::r,hp,hb=>by
  rw[List.range'_succ,List.flatMap_cons]
  obtain⟨h1,h2⟩:=List.pairwise_cons.1 hp
  have hpb:=hb p (aB ..)
  by_cases hpa:p.1=a
  ·have e0:r.filter (λq=>q.1==a)=[]:=List.filter_eq_nil_iff.2 λq hq=>by
    have:=h1 q hq
    simp;omega
   have e1:(p::r).filter (λq=>q.1==a)=[p]:=by rw[List.filter_cons_of_pos (by simpa using hpa),e0]
   have e2:((List.range' (a+1) m).flatMap λk=>(p::r).filter λq=>q.1==k)=(List.range' (a+1) m).flatMap λk=>r.filter λq=>q.1==k:=by
    simp only[List.flatMap_def]
    congr 1
    refine List.map_congr_left λk hk=>?_
    have:=List.mem_range'_1.1 hk
    rw[List.filter_cons_of_neg (by simp;omega)]
   rw[e1,e2,mw m (a+1) r h2 λq hq=>?_]
   ·rfl
   ·have b1:=h1 q hq
    have b2:=hb q (aA _ hq)
    omega
  ·have e1:(p::r).filter (λq=>q.1==a)=[]:=List.filter_eq_nil_iff.2 λq hq=>by
    rcases aI.1 hq with rfl|hq
    ·simpa using hpa
    ·have:=h1 q hq
     simp;omega
   rw[e1,aF]
   refine mw m (a+1) (p::r) hp λq hq=>?_
   have b2:=hb q hq
   rcases aI.1 hq with rfl|hq
   ·omega
   ·have:=h1 q hq
    omega
theorem AA {n:Nat}{l:List (Nat × Bs)}(hp:l.Pairwise λa b=>a.1<b.1)(hb:∀ p∈l,p.1<n):eY n l=l:=by
 unfold eY
 rw[List.range_eq_range']
 exact mw n 0 l hp λp h=>⟨Nat.zero_le _,by have:=hb p h;omega⟩
theorem xV (ver:Int)(fx:Bool):∀ (fs:Fds) (sf:SFs),fitGFds ver fx fs sf=true->fs.tagged=false->lz sf=true
 | .nil,.nil,_,_=>rfl
 | .nil,.cons ..,h,_=>by simp[fitGFds]at h
 | .cons ..,.nil,h,_=>by simp[fitGFds]at h
 | .cons lo hi (some k) df off ty r,.cons ..,_,ht=>by simp[Fds.tagged]at ht
 | .cons lo hi none df off ty r,.cons kind slo shi nul stag sdf of sub sr,h,ht=>by
  simp only[fitGFds,ac,ai]at h
  simp only[Fds.tagged,Option.isSome_none,bj]at ht
  simp only[lz,xV ver fx r sr h.2 ht,Bool.and_true,ai]
  exact h.1.1.1
theorem sM (ver:Int)(fx:Bool):∀ (fs:Fds) (sf:SFs) (i:Nat) (t:Tr),(fx=false \/ fs.tagged=false)->fm ver fx fs sf i t=tgFds ver fx fs sf i t
 | .nil,_,_,_,_=>by simp[fm,tgFds]
 | .cons lo hi tag df off ty r,.nil,i,t,h=>by
  simp only[fm,tgFds]
  rw[sM ver fx r .nil (i+1) t (h.imp id λh=>by simp only[Fds.tagged,Bool.or_eq_false_iff]at h;exact h.2)]
 | .cons lo hi tag df off ty r,.cons kind slo shi nul stag sdf of sub sr,i,t,h=>by
  simp only[fm,tgFds]
  rw[sM ver fx r sr (i+1) t (h.imp id λh=>by simp only[Fds.tagged,Bool.or_eq_false_iff]at h;exact h.2)]
  congr 1
  cases tag with
  | none=>simp
  | some k=>
   rcases h with rfl|h
   ·simp
   ·simp[Fds.tagged]at h
theorem mA (fx:Bool)(ver:Int):∀ (fs:Fds) (sf:SFs) (k:Nat),fitGFds ver fx fs sf=true->bH sf<=k->rdTag fx ver fs k=none
 | .nil,_,_,_,_=>by simp[rdTag]
 | .cons ..,.nil,_,h,_=>by simp[fitGFds]at h
 | .cons lo hi none df off ty r,.cons kind slo shi nul stag sdf of sub sr,k,h,hk=>by
  simp only[fitGFds,ac,ai]at h
  simp only[bH]at hk
  rw[al (by have:=h.1.1.1;omega)]at hk
  simp only[rdTag]
  rw[al ab,mA fx ver r sr k h.2 hk]
  rfl
 | .cons lo hi (some j) df off ty r,.cons kind slo shi nul stag sdf of sub sr,k,h,hk=>by
  simp only[fitGFds,ac,ar]at h
  obtain⟨⟨rfl,_⟩,hr⟩:=h
  simp only[bH]at hk
  rw[ax aa]at hk
  simp only[Int.toNat_natCast]at hk
  have h1:j+1<=k:=am (Nat.le_max_left ..) hk
  have h2:bH sr<=k:=am (Nat.le_max_right ..) hk
  simp only[rdTag]
  rw[al (by simp;omega),mA fx ver r sr k hr h2]
  rfl
theorem Dd (n:Nat)(t:Tr):∀ y∈dH n t,n<=y.1:=by
 have hm:∀ (k:Nat) (v:Bs) (l:List (Nat × Bs)),(∀ y∈l,n<=y.1)->n<=k->∀ y∈dq k v l,n<=y.1:=λk v l h hk y hy=>by
  rcases ju k v l y hy with rfl|hy
  ·exact hk
  ·exact h y hy
 have key:∀ (l acc:List (Nat × Bs)),(∀ y∈acc,n<=y.1)->∀ y∈jo n l acc,n<=y.1:=by
  intro l
  induction l with
  | nil=>intro acc h y hy;exact h y hy
  | cons p r ih=>
   obtain⟨k,v⟩:=p
   intro acc h y hy
   simp only[jo]at hy
   refine ih _ ?_ y hy
   split
   ·exact h
   ·rename_i hk
    exact hm k v acc h aa
 intro y hy
 simp only[dH,aP]at hy
 obtain⟨p,hp,rfl⟩:=hy
 exact key _ [] (λy hy=>by cases hy) p hp
theorem pw:∀ (l:List (Nat × Bs)),l.length<=(cM l).length
 | []=>by simp[cM]
 | p::r=>by
  have h1:=pw r
  have h2:=tC p
  have h3:=fg p.1
  rw[j0,ad,List.length_cons]
  omega
theorem qE {p:Nat × Bs}:∀ (l:List (Nat × Bs)),p∈l->p.2.length<=(dh l).length
 | [],h=>by cases h
 | a::r,h=>by
  have e:dh (a::r)=jT a++dh r:=rfl
  rw[e,ad]
  rcases aI.1 h with rfl|h
  ·simp only[jT,ad];omega
  ·have:=qE r h;omega
theorem wS {ver:Int}{fx:Bool}{fs:Fds}{sf:SFs}(h:fitGFds ver fx fs sf=true)(hF:r6 ver fx fs sf)(JU:nj fs=true)(t:Tr)(hl:(bU ver fx sf t).length<r5) :
  (∀ rest nl,(nl=true->bU ver fx sf t++rest=[])->dS fx fs.tagged (rdFds fx ver fs) (rdTag fx ver fs) ⟨bU ver fx sf t++rest,false,nl⟩=.ok (.st (tgFds ver fx fs sf 0 t) (if fx then dH (bH sf) t else[])) ⟨rest,false,nl⟩) /\
  wrFds fx ver fs (tgFds ver fx fs sf 0 t)++ig fx (wrTgd fx ver fs (tgFds ver fx fs sf 0 t)) (if fx then dH (bH sf) t else[])=bU ver fx sf t/\((fx || posFds fx ver fs)=true->0<(bU ver fx sf t).length):=by
 have P9:(ea ver fx sf 0 t).length<r5:=by
  rw[bU,ad]at hl;omega
 obtain⟨i1,i2,i3⟩:=xW ver fx fs sf 0 t h hF P9
 cases fx with
 | false=>
  have e:bU ver false sf t=ea ver false sf 0 t:=by simp[bU,iY]
  rw[e]
  refine⟨λrest nl JB=>?_,?_,λhp=>i3 (by simpa using hp)⟩
  ·simp only[dS]
   rw[i1 rest nl JB,sM ver false fs sf 0 t (.inl rfl)]
   simp[dV.bind]
  ·rw[i2];simp[ig]
 | true=>
  have htp:∀ n u,0<(iY true n (sTgd ver true sf 0 t) u).length:=λn u=>by
   simp only[iY,aw,ad]
   have:=fg ((eY n (sTgd ver true sf 0 t)).length+(eV n u).length)
   omega
  have JK:0<(bU ver true sf t).length:=by
   rw[bU,ad]
   have:=htp (bH sf) t.tags
   omega
  cases Kb:fs.tagged with
  | false=>
   have Ll:=xV ver true fs sf h Kb
   have e:=uj (ver:=ver) (fx:=true) Ll t
   rw[m7 sf Ll]at e ⊢
   refine⟨λrest nl JB=>?_,?_,λ_=>JK⟩
   ·rw[e]at JB ⊢
    have:=Gf (_ver:=ver) (fx:=true) (tag:=rdTag true ver fs) (t:=t) i1 rest nl JB
    rw[this,sM ver true fs sf 0 t (.inr Kb)]
   ·rw[i2,jG true ver fs _ Kb,nQ,e]
  | true=>
   obtain⟨k1,k2⟩:=p8 ver fs sf 0 t h JU
   have SX:eY (bH sf) (sTgd ver true sf 0 t)=sTgd ver true sf 0 t:=AA k1 λp hp=>(k2 p hp).2.2
   obtain⟨a,b,c,d⟩:=pG (bH sf) t
   have e0:bU ver true sf t=ea ver true sf 0 t++(uvar ((sTgd ver true sf 0 t).length+(dH (bH sf) t).length)++(dh (sTgd ver true sf 0 t)++dh (dH (bH sf) t))):=by
    rw[bU,iY,ax rfl,SX,<- d]
    rfl
   have Pe:∀ p∈sTgd ver true sf 0 t,p.2.length<r5:=λp hp=>by
    have:=qE _ hp
    rw[e0]at hl
    simp only[ad]at hl
    omega
   have w1:dh (sTgd ver true sf 0 t)=cM (sTgd ver true sf 0 t):=oS _ λy hy=>⟨(k2 y hy).2.1,Pe y hy⟩
   have w2:dh (dH (bH sf) t)=cM (dH (bH sf) t):=oS _ λy hy=>(b y hy).1
   rw[w1,w2]at e0
   have hc:(sTgd ver true sf 0 t).length+(dH (bH sf) t).length<r5:=by
    have g1:=pw (sTgd ver true sf 0 t)
    have g2:=pw (dH (bH sf) t)
    rw[e0]at hl
    simp only[ad]at hl
    omega
   obtain⟨t1,t2⟩:=sN ver fs sf 0 t h hF JU Pe
   refine⟨λrest nl JB=>?_,?_,λ_=>JK⟩
   ·obtain rfl:=iZ JB JK
    have Td:(false=true->ea ver true sf 0 t++(uvar ((sTgd ver true sf 0 t).length+(dH (bH sf) t).length)++(cM (sTgd ver true sf 0 t)++(cM (dH (bH sf) t)++rest)))=[]):=λh=>by cases h
    rw[e0]
    simp only[ao]
    simp only[dS]
    rw[i1 _ false Td]
    simp only[dV.bind,aU,ag,ak,aw]
    rw[f8 hc]
    simp only
    have:=t2 (rdTag true ver fs) [] (λk g hg=>⟨g,hg,λvs r=>by cases hh:g vs r<;>simp[hh,dV.bind]⟩) (dH (bH sf) t).length [] (cM (dH (bH sf) t)++rest)
    rw[aF,aF]at this
    rw[this,uI (dH (bH sf) t) [] rest (by simpa using a) λy hy=>⟨(b y hy).1,mA true ver fs sf y.1 h (Dd _ t y hy)⟩]
    simp
   ·have hw:f9 ((sTgd ver true sf 0 t).length+(dH (bH sf) t).length)=(sTgd ver true sf 0 t).length+(dH (bH sf) t).length:=aW hc
    rw[i2,t1,e0]
    simp only[ig,aw,hw]
mutual
theorem Ij (ver:Int)(fx:Bool):∀ (ty:Ty) (kind:Nat) (n:Int) (of:Nat) (sub:SFs),iE ver fx ty kind n of sub=true->C1 ver fx ty (FF ver fx kind n of sub) λt=>fk ver fx ty sub (t.null&&cF n ver) t
 | .prim p,kind,n,of,sub,h=>by
  simp only[iE,ar]at h
  subst h
  have ev:∀ t:Tr,fk ver fx (.prim p) sub (t.null&&cF n ver) t=jH p t:=λt=>by cases p<;>simp only[fk,jH]
  have eF:∀ t:Tr,FF ver fx (fG p) n of sub t=gk (fG p) (t.null&&cF n ver) fx (bU ver fx sub) t:=λt=>by
   have Ld:fG p≠11:=by cases p<;>simp[fG]
   have Lm:fG p≠10:=by cases p<;>simp[fG]
   simp only[FF,fQ,al Ld]
   rw[al (λh=>Lm h.1)]
  refine(wW (p:=cQ p) (q:=cQ p) (λold r=>by simp only[dy]) (λx=>by simp only[dp,eN]) (λt=>?_) (λt=>?_)).g
  ·rw[ev,eF];exact xm p _ fx _ t
  ·rw[ev,eF];exact(xm p _ fx _ t).1
 | .str nul,kind,n,of,sub,h=>by
  simp only[iE,ac,ar]at h
  obtain⟨rfl,h2⟩:=h
  have ev:∀ t:Tr,fk ver fx (.str nul) sub (t.null&&cF n ver) t=kX (t.null&&cF n ver) t.octets:=λt=>by simp only[fk,kX]
  have eF:∀ t:Tr,FF ver fx 8 n of sub t=gm fx (t.null&&cF n ver) 2 t.octets:=λt=>by simp[FF,fQ,gk]
  have hb:∀ t:Tr,(t.null&&cF n ver)=true->eM nul ver=true:=λt h=>by simp only[ac]at h;rw[h.2]at h2;simpa using h2
  refine(wW (p:=ej (eM nul ver) fx) (q:=ej (eM nul ver) fx) (λold r=>by simp only[dy]) (λx=>by simp only[dp,eN]) (λt=>?_) (λt=>?_)).g
  ·rw[ev,eF];exact zU _ fx _ (hb t) _
  ·rw[ev,eF];exact(zU _ fx _ (hb t) _).1
 | .bytes nul,kind,n,of,sub,h=>by
  simp only[iE,ac,ar]at h
  obtain⟨rfl,h2⟩:=h
  have ev:∀ t:Tr,fk ver fx (.bytes nul) sub (t.null&&cF n ver) t=kX (t.null&&cF n ver) t.octets:=λt=>by simp only[fk,kX]
  have eF:∀ t:Tr,FF ver fx 9 n of sub t=gm fx (t.null&&cF n ver) 4 t.octets:=λt=>by simp[FF,fQ,gk]
  have hb:∀ t:Tr,(t.null&&cF n ver)=true->eM nul ver=true:=λt h=>by simp only[ac]at h;rw[h.2]at h2;simpa using h2
  have hc:eM nul ver=true->nul.isSome=true:=λh=>by cases nul<;>simp[eM]at h ⊢
  refine(wW (p:=dm (eM nul ver) fx) (q:=dm nul.isSome fx) (λold r=>by simp only[dy]) (λx=>by simp only[dp,eN]) (λt=>?_) (λt=>?_)).g
  ·rw[ev,eF];exact tr _ fx _ (hb t) _
  ·rw[ev,eF];exact(tr _ fx _ (λh=>hc (hb t h)) _).1
 | .list nul esz e,kind,n,of,sub,h=>by
  simp only[iE,ac,ar,ai,Bool.not_eq_true']at h
  obtain⟨⟨⟨⟨⟨rfl,h1⟩,h2⟩,h3⟩,h4⟩,h5⟩:=h
  have Wv:of≠11:=by
   cases e with
   | prim p=>simp only[iE,ar]at h5;subst h5;cases p<;>simp[fG]
   | str=>simp only[iE,ac,ar]at h5;have:=h5.1;omega
   | bytes=>simp only[iE,ac,ar]at h5;have:=h5.1;omega
   | list=>cases h3
   | struct=>simp only[iE,ac,ar]at h5;omega
  exact F6 h1 h2 h4 Wv (Ij ver fx e of (-1) 0 sub h5)
 | .struct none toff fs,kind,n,of,sub,h=>by
  simp only[iE,ac,ar,Option.isSome_none]at h
  obtain⟨⟨⟨rfl,h1⟩,JU⟩,h2⟩:=h
  have hn:n<0:=by have:=h1.symm;simp only[decide_eq_false_iff_not]at this;omega
  have hsn:cF n ver=false:=by simp only[cF];rw[decide_eq_false aa];rfl
  have J9:=g_fs ver fx fs sub h2
  intro t hl
  have eF:FF ver fx 10 n of sub t=bU ver fx sub t:=by
   simp only[FF,fQ,gk]
   rw[al aa,al aa,al aa,al aa,al aa,al aa,ax trivial]
  rw[eF]at hl
  obtain⟨i1,i2,i3⟩:=wS h2 J9 JU t hl
  have ev:fk ver fx (.struct none toff fs) sub (t.null&&cF n ver) t=.st (tgFds ver fx fs sub 0 t) (if fx then dH (bH sub) t else[]):=by
   rw[hsn,Bool.and_false];simp only[fk,ag,ak]
  refine⟨λdf rest nl JB=>?_,?_,λJK=>?_⟩
  ·simp only[ev,eF]at JB ⊢
   simp only[dy]
   exact i1 rest nl JB
  ·simp only[ev,eF,dp,V.fields,V.tags]
   exact i2
  ·rw[eF]
   simp only[pR]at JK
   exact i3 JK
 | .struct (some m) toff fs,kind,n,of,sub,h=>by
  simp only[iE,ac,ar,Option.isSome_some]at h
  obtain⟨⟨⟨rfl,h1⟩,JU⟩,h2⟩:=h
  have hn:0<=n:=by have:=h1.symm;simp only[ai]at this;exact this
  have J9:=g_fs ver fx fs sub h2
  intro t hl
  have eF:FF ver fx 10 n of sub t=if(t.null&&cF n ver)=true then[255]else 1::bU ver fx sub t:=by
   simp only[FF,fQ]
   rw[al aa,ax ⟨trivial,hn⟩]
  have ev:fk ver fx (.struct (some m) toff fs) sub (t.null&&cF n ver) t=if(t.null&&cF n ver)=true then .nul else .st (tgFds ver fx fs sub 0 t) (if fx then dH (bH sub) t else[]):=by
   simp only[fk]
  have JK:0<(FF ver fx 10 n of sub t).length:=by rw[eF];split<;>simp
  cases K1:(t.null&&cF n ver) with
  | true=>
   rw[K1]at ev eF
   simp only[aw]at ev eF
   refine⟨λdf rest nl JB=>?_,?_,λ_=>JK⟩
   ·obtain rfl:=iZ JB JK
    have:rI 1 ⟨[255]++rest,false,false⟩=(-1,⟨rest,false,false⟩):=by
     have h:=mg (k:=1) (x:=-1) aa ab rest false
     rwa [show be 1 (-1)=[255] from by decide]at h
    simp only[K1,ev,eF,dy,du,V.isNul,aU,ag,ak,this]
    simp
   ·simp only[K1,ev,eF,dp,V.isNul,aw]
  | false=>
   rw[K1]at ev eF
   simp only[ag,ak]at ev eF
   rw[eF,List.length_cons]at hl
   obtain⟨i1,i2,i3⟩:=wS h2 J9 JU t aa
   refine⟨λdf rest nl JB=>?_,?_,λ_=>JK⟩
   ·obtain rfl:=iZ JB JK
    have:∀ l:Bs,rI 1 ⟨1::l,false,false⟩=(1,⟨l,false,false⟩):=λl=>by
     have h:=mg (k:=1) (x:=1) aa ab l false
     rwa [show be 1 1=[1] from by decide]at h
    simp only[K1,ev,eF,dy,du,V.isNul,aU,ag,ak,aS,this]
    rw[al ab]
    exact i1 rest false (λh=>by cases h)
   ·simp only[K1,ev,eF,dp,V.isNul,V.fields,V.tags,ag,ak,i2]
theorem g_fs (ver:Int)(fx:Bool):∀ (fs:Fds) (sf:SFs),fitGFds ver fx fs sf=true->r6 ver fx fs sf
 | .nil,_,_=>by simp[r6]
 | .cons ..,.nil,h=>by simp[fitGFds]at h
 | .cons lo hi tag df off ty r,.cons kind slo shi nul stag sdf of sub sr,h=>by
  simp only[fitGFds,ac]at h
  refine⟨λhc=>Ij ver fx ty kind nul of sub ?_,g_fs ver fx r sr h.2⟩
  cases tag with
  | none=>
   have h1:=h.1
   simp only[Option.isNone_none,aw]at hc
   simp only[hc,ac,aU,bj]at h1
   exact h1.2
  | some k=>
   have h1:=h.1
   simp only[Option.isNone_some,ag,ak]at hc
   simp only[hc,ac,aU,bj]at h1
   rw[hc]
   exact h1.2.2
end
theorem qk {hf:Bool}{flex:Nat}{fs:Fds}{sf:SFs}{ver:Int}{fx:Bool}(Ku:(hf&&decide ((flex:Int)<=ver))=fx)(h:(fitGFds ver fx fs sf&&nj fs)=true)(t:Tr)(hl:(bU ver fx sf t).length<r5) :
  ∃ v nl,ij hf flex fs ver (kY (bU ver fx sf t))=.ok v ⟨[],false,nl⟩/\iJ false hf flex fs ver v=bU ver fx sf t:=by
 simp only[ac]at h
 obtain⟨i1,i2,_⟩:=wS h.1 (g_fs ver fx fs sf h.1) h.2 t hl
 refine⟨.st (tgFds ver fx fs sf 0 t) (if fx then dH (bH sf) t else[]),(bU ver fx sf t).isEmpty,?_,?_⟩
 ·simp only[ij,Ku,kY]
  have:=i1 [] (bU ver fx sf t).isEmpty (λhh=>by rw[aL];simpa using hh)
  rw[aL]at this
  exact this
 ·simp only[iJ,Ku,ag,ak,aF,V.fields,V.tags]
  exact i2
theorem wX {hf:Bool}{flex:Nat}{fs:Fds}{sf:SFs}{ver:Int}{fx:Bool}(Ku:(hf&&decide ((flex:Int)<=ver))=fx)(h:(fitGFds ver fx fs sf&&nj fs)=true)(t:Tr)(hl:(bU ver fx sf t).length<r5) :
  againOut false hf flex fs ver (bU ver fx sf t)=some (bU ver fx sf t):=by
 obtain⟨v,nl,h1,h2⟩:=qk Ku h t hl
 simp only[againOut,gj,ag,ak,h1,h2]
structure ld {α:Type}(f:RS->dV α):Prop where
 bad:∀ r v r',f r=.ok v r'->r.bad=true->r'.bad=true
 go:∀ r,r.bad=true->f r≠.stuck
 emp:∀ r v r',f r=.ok v r'->r.src=[]->r'.src=[]
 nl:∀ r v r',f r=.ok v r'->r.nl=false->r'.bad=false->r'.nl=false
 ok:∀ r v r',f r=.ok v r'->r.nl=false->r'.bad=false->∀ c:Bs,f ⟨r.src++c,false,false⟩=.ok v ⟨r'.src++c,false,false⟩
 stuck:∀ r,f r=.stuck->r.nl=false->∀ c:Bs,f ⟨r.src++c,false,false⟩=.stuck
theorem qX {k:Nat}{r:RS}(h:(rU k r).2.bad=false):(rU k r).2.nl=r.nl:=by
 unfold rU at h ⊢
 split
 ·rename_i hk;rw[ax hk]at h;cases h
 ·rfl
theorem i5 {k:Nat}{r:RS}(h:r.src=[]):(rU k r).2.src=[]:=by
 unfold rU
 split
 ·rfl
 ·simp[h]
theorem l8 {r:RS}(h:(bZ r).2.bad=false):(bZ r).2.nl=r.nl:=by
 unfold bZ at h ⊢
 split
 ·rename_i hk;rw[ax hk]at h;cases h
 ·rfl
theorem fZ {r:RS}(h:r.src=[]):(bZ r).2.src=[]:=by
 unfold bZ
 split
 ·rfl
 ·simp[h]
theorem uy {k:Int}{r:RS}(h:(cd k r).2.bad=false):(cd k r).2.nl=r.nl:=by
 unfold cd at h ⊢
 split
 ·rename_i hk;rw[ax hk]at h;cases h
 ·rfl
theorem fW {k:Int}{r:RS}(h:r.src=[]):(cd k r).2.src=[]:=by
 unfold cd
 split
 ·rfl
 ·simp[h]
theorem pO {k:Int}{r:RS}(h:(cd k r).2.bad=false)(hn:r.nl=false)(c:Bs):cd k ⟨r.src++c,false,false⟩=((cd k r).1,⟨(cd k r).2.src++c,false,false⟩):=by
 unfold cd at h ⊢
 by_cases hk:(r.src.length:Int)<k \/ k<0
 ·rw[ax hk]at h;cases h
 ·rw[al hk,al (by simp;omega)]
  simp only[hn,ag,ak]
  rw[bg aa,List.take_append_of_le_length aa]
theorem sx {fx:Bool}{r:RS}(h:(cW fx r).2.bad=false):(cW fx r).2.nl=r.nl:=by
 unfold cW at h ⊢
 cases fx with
 | true=>
  simp only[aw]at h ⊢
  split
  ·rename_i hk;rw[ax hk]at h;cases h
  ·rename_i hk;rw[al hk]at h;exact l8 h
 | false=>
  simp only[ag,ak]at h ⊢
  split
  ·rename_i hk;rw[ax hk]at h;cases h
  ·rename_i hk;rw[al hk]at h;exact qX h
theorem u0 {fx:Bool}{r:RS}(h:r.src=[]):(cW fx r).2.src=[]:=by
 unfold cW
 cases fx with
 | true=>
  simp only[aw]
  split
  ·rfl
  ·exact fZ h
 | false=>
  simp only[ag,ak]
  split
  ·rfl
  ·exact i5 h
theorem EX (p:PF){r:RS}(h:r.src=[]):(p.run r).2.src=[]:=by
 cases p with
 | bool=>simp only[PF.run,pQ,h];rfl
 | i8=>exact i5 h
 | i16=>exact i5 h
 | u16=>exact i5 h
 | i32=>exact i5 h
 | i64=>exact i5 h
 | uuid=>simp only[PF.run];split<;>simp[h,RS.fail]
 | str=>exact fW (i5 h)
 | cstr=>exact fW (fZ h)
 | nstr=>simp only[PF.run];split;exact i5 h;exact fW (i5 h)
 | cnstr=>simp only[PF.run];split;exact fZ h;exact fW (fZ h)
 | bytes=>simp only[PF.run];split;exact i5 h;exact fW (i5 h)
 | cbytes=>simp only[PF.run];split;exact fZ h;exact fW (fZ h)
 | nbytes=>simp only[PF.run];split;exact i5 h;exact fW (i5 h)
 | cnbytes=>simp only[PF.run];split;exact fZ h;exact fW (fZ h)
theorem Dl (p:eH){r:RS}(h:r.src=[]):((cQ p).run r).2.bad=true:=by
 cases p<;>simp[cQ,PF.run,pQ,rI,rU,h,RS.fail]
theorem xP (p:PF){r:RS}(h:(p.run r).2.bad=false)(hn:r.nl=false)(c:Bs):p.run ⟨r.src++c,false,false⟩=((p.run r).1,⟨(p.run r).2.src++c,false,false⟩)/\(p.run r).2.nl=false:=by
 have nI:∀ (k:Nat) (f:Int->RS->V × RS),(∀ x s,s.bad=true->(f x s).2.bad=true)->(∀ x s,(f x s).2.bad=false->s.nl=false->f x ⟨s.src++c,false,false⟩=((f x s).1,⟨(f x s).2.src++c,false,false⟩)/\(f x s).2.nl=false) ->
   (f (rI k r).1 (rI k r).2).2.bad=false->f (rI k ⟨r.src++c,false,false⟩).1 (rI k ⟨r.src++c,false,false⟩).2=((f (rI k r).1 (rI k r).2).1,⟨(f (rI k r).1 (rI k r).2).2.src++c,false,false⟩)/\(f (rI k r).1 (rI k r).2).2.nl=false:=λk f hb he hh=>by
  have hk:=I5 hb hh
  rw[sy hk c false]
  exact he _ _ hh ((qX (k:=k) hk).trans hn)
 have nU:∀ (f:Nat->RS->V × RS),(∀ x s,s.bad=true->(f x s).2.bad=true)->(∀ x s,(f x s).2.bad=false->s.nl=false->f x ⟨s.src++c,false,false⟩=((f x s).1,⟨(f x s).2.src++c,false,false⟩)/\(f x s).2.nl=false) ->
   (f (bZ r).1 (bZ r).2).2.bad=false->f (bZ ⟨r.src++c,false,false⟩).1 (bZ ⟨r.src++c,false,false⟩).2=((f (bZ r).1 (bZ r).2).1,⟨(f (bZ r).1 (bZ r).2).2.src++c,false,false⟩)/\(f (bZ r).1 (bZ r).2).2.nl=false:=λf hb he hh=>by
  have hk:=Iy hb hh
  rw[lW hk c false]
  exact he _ _ hh ((l8 hk).trans hn)
 have tb:∀ (x:Int) (s:RS),s.bad=true->(i6 x s).2.bad=true:=λx s hs=>eu (k:=x) hs
 have sb:∀ (x:Int) (s:RS),s.bad=true->(cd x s).2.bad=true:=λx s hs=>eu hs
 have se:∀ (x:Int) (s:RS),(cd x s).2.bad=false->s.nl=false->cd x ⟨s.src++c,false,false⟩=((cd x s).1,⟨(cd x s).2.src++c,false,false⟩)/\(cd x s).2.nl=false:=λx s hs hn=>⟨pO hs hn c,(uy hs).trans hn⟩
 have te:∀ (x:Int) (s:RS),(i6 x s).2.bad=false->s.nl=false->i6 x ⟨s.src++c,false,false⟩=((i6 x s).1,⟨(i6 x s).2.src++c,false,false⟩)/\(i6 x s).2.nl=false:=λx s hs hn=>by
  obtain⟨e1,e2⟩:=se x s hs hn
  exact⟨by simp only[i6,e1],e2⟩
 cases p with
 | bool=>
  obtain⟨src,bad,nl0⟩:=r
  cases src with
  | nil=>simp[PF.run,pQ,RS.fail]at h
  | cons b l=>exact⟨rfl,hn⟩
 | i8=>exact nI 1 (λx s=>(.n x,s)) (λ_ _ h=>h) (λx s _ hn=>⟨rfl,hn⟩) h
 | i16=>exact nI 2 (λx s=>(.n x,s)) (λ_ _ h=>h) (λx s _ hn=>⟨rfl,hn⟩) h
 | i32=>exact nI 4 (λx s=>(.n x,s)) (λ_ _ h=>h) (λx s _ hn=>⟨rfl,hn⟩) h
 | i64=>exact nI 8 (λx s=>(.n x,s)) (λ_ _ h=>h) (λx s _ hn=>⟨rfl,hn⟩) h
 | u16=>
  have e:=AJ (k:=2) (r:=r) h c false
  exact⟨by simp only[PF.run,e],(qX (k:=2) h).trans hn⟩
 | uuid=>
  simp only[PF.run]at h ⊢
  by_cases hk:r.src.length<16
  ·rw[ax hk]at h;cases h
  ·rw[al hk,al (by simp;omega)]
   simp only
   rw[bg aa,List.take_append_of_le_length aa]
   exact⟨rfl,hn⟩
 | str=>exact nI 2 i6 tb te h
 | cstr=>exact nU (λx s=>i6 ((x:Int)-1) s) (λx=>tb _) (λx=>te _) h
 | nstr=>
  exact nI 2 (λx s=>if x<0 then(.nul,s)else i6 x s) (λx s hs=>by split;exact hs;exact tb _ _ hs) (λx s hs hn=>by
   split
   ·exact⟨rfl,hn⟩
   ·rename_i hx;rw[al hx]at hs;exact te _ _ hs hn) h
 | cnstr=>
  exact nU (λx s=>if((x:Int)-1)<0 then(.nul,s)else i6 ((x:Int)-1) s) (λx s hs=>by split;exact hs;exact tb _ _ hs) (λx s hs hn=>by
   split
   ·exact⟨rfl,hn⟩
   ·rename_i hx;rw[al hx]at hs;exact te _ _ hs hn) h
 | bytes=>
  exact nI 4 (λx s=>if x=-1 then(.s [],s)else cd x s) (λx s hs=>by split;exact hs;exact sb _ _ hs) (λx s hs hn=>by
   split
   ·exact⟨rfl,hn⟩
   ·rename_i hx;rw[al hx]at hs;exact se _ _ hs hn) h
 | cbytes=>
  exact nU (λx s=>if((x:Int)-1)=-1 then(.s [],s)else cd ((x:Int)-1) s) (λx s hs=>by split;exact hs;exact sb _ _ hs) (λx s hs hn=>by
   split
   ·exact⟨rfl,hn⟩
   ·rename_i hx;rw[al hx]at hs;exact se _ _ hs hn) h
 | nbytes=>
  exact nI 4 (λx s=>if x<0 then(.nul,s)else cd x s) (λx s hs=>by split;exact hs;exact sb _ _ hs) (λx s hs hn=>by
   split
   ·exact⟨rfl,hn⟩
   ·rename_i hx;rw[al hx]at hs;exact se _ _ hs hn) h
 | cnbytes=>
  exact nU (λx s=>if((x:Int)-1)<0 then(.nul,s)else cd ((x:Int)-1) s) (λx s hs=>by split;exact hs;exact sb _ _ hs) (λx s hs hn=>by
   split
   ·exact⟨rfl,hn⟩
   ·rename_i hx;rw[al hx]at hs;exact se _ _ hs hn) h
theorem qY:∀ (n:Nat) (acc:List (Nat × Bs)) (r:RS),r.src=[]->(e9 n acc r).2.src=[]
 | 0,_,_,h=>h
 | n+1,acc,r,h=>by
  simp only[e9]
  exact qY n _ _ (fW (fZ (fZ h)))
theorem At {r:RS}{α:Type}{F:RS->α}{B:α->Bool}(hB:∀ s,s.bad=true->B (F s)=true)(h:B (F (cd (bZ (bZ r).2).1 (bZ (bZ r).2).2).2)=false):(bZ r).2.bad=false/\(bZ (bZ r).2).2.bad=false/\(cd (bZ (bZ r).2).1 (bZ (bZ r).2).2).2.bad=false:=by
 have h3:(cd (bZ (bZ r).2).1 (bZ (bZ r).2).2).2.bad=false:=cr λhb=>by rw[hB _ hb]at h;cases h
 have h2:(bZ (bZ r).2).2.bad=false:=cr λhb=>by rw[eu hb]at h3;cases h3
 exact⟨cr λhb=>(by rw[eT hb]at h2;cases h2),h2,h3⟩
theorem kh {r:RS}(h1:(bZ r).2.bad=false)(h2:(bZ (bZ r).2).2.bad=false)(h3:(cd (bZ (bZ r).2).1 (bZ (bZ r).2).2).2.bad=false)(hn:r.nl=false)(c:Bs) :
  bZ ⟨r.src++c,false,false⟩=((bZ r).1,⟨(bZ r).2.src++c,false,false⟩)/\bZ ⟨(bZ r).2.src++c,false,false⟩=((bZ (bZ r).2).1,⟨(bZ (bZ r).2).2.src++c,false,false⟩) /\
  cd (bZ (bZ r).2).1 ⟨(bZ (bZ r).2).2.src++c,false,false⟩=((cd (bZ (bZ r).2).1 (bZ (bZ r).2).2).1,⟨(cd (bZ (bZ r).2).1 (bZ (bZ r).2).2).2.src++c,false,false⟩)/\(cd (bZ (bZ r).2).1 (bZ (bZ r).2).2).2.nl=false:=by
 have n1:=(l8 h1).trans hn
 have n2:=(l8 h2).trans n1
 exact⟨lW h1 c false,lW h2 c false,pO h3 n2 c,(uy h3).trans n2⟩
theorem m5:∀ (n:Nat) (acc:List (Nat × Bs)) (r:RS),(e9 n acc r).2.bad=false->r.nl=false->(∀ c:Bs,e9 n acc ⟨r.src++c,false,false⟩=((e9 n acc r).1,⟨(e9 n acc r).2.src++c,false,false⟩))/\(e9 n acc r).2.nl=false
 | 0,acc,r,_,hn=>⟨λc=>rfl,hn⟩
 | n+1,acc,r,h,hn=>by
  simp only[e9]at h ⊢
  obtain⟨h1,h2,h3⟩:=At (F:=λs=>(e9 n (dM (bZ r).1 (cd (bZ (bZ r).2).1 (bZ (bZ r).2).2).1.octets acc) s).2.bad) (B:=id) (λs hs=>jz n _ _ hs) h
  have QF:=(kh h1 h2 h3 hn []).2.2.2
  obtain⟨i1,i2⟩:=m5 n _ _ h QF
  refine⟨λc=>?_,i2⟩
  obtain⟨e1,e2,e3,_⟩:=kh h1 h2 h3 hn c
  simp only[e1,e2,e3]
  exact i1 c
theorem sS (p:PF):ld (λr=>.ok (p.run r).1 (p.run r).2) where
 bad r v r' h hb:=by
  simp only[dV.ok.injEq]at h
  rw[<- h.2];exact EY p hb
 go r hb h:=by cases h
 emp r v r' h he:=by
  simp only[dV.ok.injEq]at h
  rw[<- h.2];exact EX p he
 nl r v r' h hn hb:=by
  simp only[dV.ok.injEq]at h
  rw[<- h.2]at hb ⊢
  exact(xP p hb hn []).2
 ok r v r' h hn hb c:=by
  simp only[dV.ok.injEq]at h
  rw[<- h.2]at hb ⊢
  simp only[(xP p hb hn c).1,<- h.1]
 stuck r h:=by cases h
theorem k6 {α β γ:Type}{f:RS->dV α}{g:α->RS->dV β}(u:α->β->γ)(hf:ld f)(hg:∀ a,ld (g a)):ld (λr=>(f r).bind λa r=>(g a r).bind λb r=>.ok (u a b) r) where
 bad r v r' h hb:=by
  obtain⟨a,r1,h1,h2⟩:=gW h
  obtain⟨b,r2,h3,h4⟩:=gW h2
  simp only[dV.ok.injEq]at h4
  rw[<- h4.2]
  exact(hg a).bad _ _ _ h3 (hf.bad _ _ _ h1 hb)
 emp r v r' h hb:=by
  obtain⟨a,r1,h1,h2⟩:=gW h
  obtain⟨b,r2,h3,h4⟩:=gW h2
  simp only[dV.ok.injEq]at h4
  rw[<- h4.2]
  exact(hg a).emp _ _ _ h3 (hf.emp _ _ _ h1 hb)
 go r hb h:=by
  cases hv:f r with
  | stuck=>exact hf.go r hb hv
  | err=>simp only[hv,dV.bind]at h;cases h
  | ok a r1=>
   simp only[hv,dV.bind]at h
   cases hw:g a r1 with
   | stuck=>exact(hg a).go r1 (hf.bad _ _ _ hv hb) hw
   | err=>rw[hw]at h;cases h
   | ok b r2=>rw[hw]at h;cases h
 nl r v r' h hn hb:=by
  obtain⟨a,r1,h1,h2⟩:=gW h
  obtain⟨b,r2,h3,h4⟩:=gW h2
  simp only[dV.ok.injEq]at h4
  obtain⟨rfl,rfl⟩:=h4
  have J2:r1.bad=false:=cr λhh=>by rw[(hg a).bad _ _ _ h3 hh]at hb;cases hb
  exact(hg a).nl _ _ _ h3 (hf.nl _ _ _ h1 hn J2) hb
 ok r v r' h hn hb c:=by
  obtain⟨a,r1,h1,h2⟩:=gW h
  obtain⟨b,r2,h3,h4⟩:=gW h2
  simp only[dV.ok.injEq]at h4
  obtain⟨rfl,rfl⟩:=h4
  have J2:r1.bad=false:=cr λhh=>by rw[(hg a).bad _ _ _ h3 hh]at hb;cases hb
  rw[hf.ok _ _ _ h1 hn J2 c]
  simp only[dV.bind]
  rw[(hg a).ok _ _ _ h3 (hf.nl _ _ _ h1 hn J2) hb c]
 stuck r h hn c:=by
  cases hv:f r with
  | stuck=>rw[hf.stuck r hv hn c];rfl
  | err=>simp only[hv,dV.bind]at h;cases h
  | ok a r1=>
   simp only[hv,dV.bind]at h
   cases hw:g a r1 with
   | stuck=>
    have J2:r1.bad=false:=cr λhh=>(hg a).go r1 hh hw
    rw[hf.ok _ _ _ hv hn J2 c]
    simp only[dV.bind]
    rw[(hg a).stuck r1 hw (hf.nl _ _ _ hv hn J2) c]
   | err=>rw[hw]at h;cases h
   | ok b r2=>rw[hw]at h;cases h
theorem qn {α:Type}(a:α):ld (λr=>.ok a r) where
 bad r v r' h hb:=by
  simp only[dV.ok.injEq]at h
  rw[<- h.2];exact hb
 go r hb h:=by cases h
 emp r v r' h he:=by
  simp only[dV.ok.injEq]at h
  rw[<- h.2];exact he
 nl r v r' h hn _:=by
  simp only[dV.ok.injEq]at h
  rw[<- h.2];exact hn
 ok r v r' h hn hb c:=by
  simp only[dV.ok.injEq]at h
  rw[<- h.2,<- h.1]
 stuck r h:=by cases h
theorem uU {α β:Type}{f:RS->dV α}(u:α->β)(hf:ld f):ld (λr=>(f r).bind λa r=>.ok (u a) r):=
 k6 (λa (_:Unit)=>u a) hf λ_=>qn ()
theorem kz {f:RS->dV V}(hf:ld f):∀ n,ld (gx f n)
 | 0=>qn []
 | n+1=>k6 (λa b=>a::b) hf λ_=>kz hf n
theorem zi:ld (λr=>.ok (e9 (bZ r).1 [] (bZ r).2).1 (e9 (bZ r).1 [] (bZ r).2).2) where
 bad r v r' h hb:=by
  simp only[dV.ok.injEq]at h
  rw[<- h.2];exact jz _ _ _ (eT hb)
 go r hb h:=by cases h
 emp r v r' h he:=by
  simp only[dV.ok.injEq]at h
  rw[<- h.2];exact qY _ _ _ (fZ he)
 nl r v r' h hn hb:=by
  simp only[dV.ok.injEq]at h
  rw[<- h.2]at hb ⊢
  have h1:(bZ r).2.bad=false:=cr λhh=>by rw[jz _ _ _ hh]at hb;cases hb
  exact(m5 _ _ _ hb ((l8 h1).trans hn)).2
 ok r v r' h hn hb c:=by
  simp only[dV.ok.injEq]at h
  obtain⟨rfl,rfl⟩:=h
  have h1:(bZ r).2.bad=false:=cr λhh=>by rw[jz _ _ _ hh]at hb;cases hb
  have e:=(m5 _ _ _ hb ((l8 h1).trans hn)).1 c
  rw[lW h1 c false]
  simp only
  rw[e]
 stuck r h:=by cases h
section
variable {f:Nat->Option (List V->RS->dV (List V))}
theorem ja:∀ (n:Nat) (vs:List V) (acc:List (Nat × Bs)) (r:RS) (v:V) (r':RS),ck f n vs acc r=.ok v r'->r.bad=true->r'.bad=true
 | 0,vs,acc,r,v,r',h,hb=>by
  simp only[ck,dV.ok.injEq]at h
  rw[<- h.2];exact hb
 | n+1,vs,acc,r,v,r',h,hb=>by
  simp only[ck]at h
  have hs:(cd (bZ (bZ r).2).1 (bZ (bZ r).2).2).2.bad=true:=eu (eT (eT hb))
  split at h
  ·exact ja n _ _ _ _ _ h hs
  ·split at h
   ·split at h
    ·cases h
    ·exact ja n _ _ _ _ _ h hs
   ·cases h
   ·cases h
theorem pV:∀ (n:Nat) (vs:List V) (acc:List (Nat × Bs)) (r:RS) (v:V) (r':RS),ck f n vs acc r=.ok v r'->r.src=[]->r'.src=[]
 | 0,vs,acc,r,v,r',h,hb=>by
  simp only[ck,dV.ok.injEq]at h
  rw[<- h.2];exact hb
 | n+1,vs,acc,r,v,r',h,hb=>by
  simp only[ck]at h
  have hs:(cd (bZ (bZ r).2).1 (bZ (bZ r).2).2).2.src=[]:=fW (fZ (fZ hb))
  split at h
  ·exact pV n _ _ _ _ _ h hs
  ·split at h
   ·split at h
    ·cases h
    ·exact pV n _ _ _ _ _ h hs
   ·cases h
   ·cases h
theorem nu (hf:∀ k g,f k=some g->∀ vs r,g vs r≠.stuck):∀ (n:Nat) (vs:List V) (acc:List (Nat × Bs)) (r:RS),ck f n vs acc r≠.stuck
 | 0,vs,acc,r,h=>by simp only[ck]at h;cases h
 | n+1,vs,acc,r,h=>by
  simp only[ck]at h
  split at h
  ·exact nu hf n _ _ _ h
  ·rename_i g hg
   split at h
   ·split at h
    ·cases h
    ·exact nu hf n _ _ _ h
   ·cases h
   ·rename_i JL
    exact hf _ _ hg _ _ JL
theorem oV:∀ (n:Nat) (vs:List V) (acc:List (Nat × Bs)) (r:RS) (v:V) (r':RS),ck f n vs acc r=.ok v r'->r.nl=false->r'.bad=false->r'.nl=false/\∀ c:Bs,ck f n vs acc ⟨r.src++c,false,false⟩=.ok v ⟨r'.src++c,false,false⟩
 | 0,vs,acc,r,v,r',h,hn,hb=>by
  simp only[ck,dV.ok.injEq]at h ⊢
  obtain⟨rfl,rfl⟩:=h
  exact⟨hn,λc=>⟨rfl,rfl⟩⟩
 | n+1,vs,acc,r,v,r',h,hn,hb=>by
  simp only[ck]at h
  have good:(cd (bZ (bZ r).2).1 (bZ (bZ r).2).2).2.bad=false->(bZ r).2.bad=false/\(bZ (bZ r).2).2.bad=false:=λh3=>by
   have h2:(bZ (bZ r).2).2.bad=false:=cr λhb=>by rw[eu hb]at h3;cases h3
   exact⟨cr λhb=>(by rw[eT hb]at h2;cases h2),h2⟩
  split at h
  ·rename_i hg
   have h3:(cd (bZ (bZ r).2).1 (bZ (bZ r).2).2).2.bad=false:=cr λhh=>by rw[ja n _ _ _ _ _ h hh]at hb;cases hb
   obtain⟨h1,h2⟩:=good h3
   obtain⟨i1,i2⟩:=oV n _ _ _ _ _ h (kh h1 h2 h3 hn []).2.2.2 hb
   refine⟨i1,λc=>?_⟩
   obtain⟨e1,e2,e3,_⟩:=kh h1 h2 h3 hn c
   simp only[ck,e1,e2,e3,hg]
   exact i2 c
  ·rename_i g hg
   split at h
   ·rename_i vs' r1 PC
    split at h
    ·cases h
    ·rename_i hrb
     have h3:(cd (bZ (bZ r).2).1 (bZ (bZ r).2).2).2.bad=false:=cr λhh=>by rw[ja n _ _ _ _ _ h hh]at hb;cases hb
     obtain⟨h1,h2⟩:=good h3
     obtain⟨i1,i2⟩:=oV n _ _ _ _ _ h (kh h1 h2 h3 hn []).2.2.2 hb
     refine⟨i1,λc=>?_⟩
     obtain⟨e1,e2,e3,_⟩:=kh h1 h2 h3 hn c
     simp only[ck,e1,e2,e3,hg,PC,al hrb]
     exact i2 c
   ·cases h
   ·cases h
theorem zj (hf:∀ k g,f k=some g->∀ vs r,g vs r≠.stuck)(vs:List V):ld (λr=>ck f (bZ r).1 vs [] (bZ r).2) where
 bad r v r' h hb:=ja _ _ _ _ _ _ h (eT hb)
 go r _:=nu hf _ _ _ _
 emp r v r' h he:=pV _ _ _ _ _ _ h (fZ he)
 nl r v r' h hn hb:=by
  have h1:(bZ r).2.bad=false:=cr λhh=>by rw[ja _ _ _ _ _ _ h hh]at hb;cases hb
  exact(oV _ _ _ _ _ _ h ((l8 h1).trans hn) hb).1
 ok r v r' h hn hb c:=by
  have h1:(bZ r).2.bad=false:=cr λhh=>by rw[ja _ _ _ _ _ _ h hh]at hb;cases hb
  simp only[lW h1 c false]
  exact(oV _ _ _ _ _ _ h ((l8 h1).trans hn) hb).2 c
 stuck r h:=absurd h (nu hf _ _ _ _)
end
theorem sR {fx tagged:Bool}{fields:RS->dV (List V)}{tag:Nat->Option (List V->RS->dV (List V))}(hf:ld fields)(ht:∀ k g,tag k=some g->∀ vs r,g vs r≠.stuck):ld (dS fx tagged fields tag):=by
 cases fx with
 | false=>
  have e:dS false tagged fields tag=λr=>(fields r).bind λa r=>.ok (.st a []) r:=by funext r;simp[dS]
  rw[e]
  exact uU (λa=>V.st a []) hf
 | true=>
  cases tagged with
  | false=>
   have e:dS true false fields tag=λr=>(fields r).bind λa r=>((λr=>dV.ok (e9 (bZ r).1 [] (bZ r).2).1 (e9 (bZ r).1 [] (bZ r).2).2) r).bind λb r=>.ok (V.st a b) r:=by
    funext r;simp[dS,dV.bind]
   rw[e]
   exact k6 (λa b=>V.st a b) hf λ_=>zi
  | true=>
   have e:dS true true fields tag=λr=>(fields r).bind λa r=>((λr=>ck tag (bZ r).1 a [] (bZ r).2) r).bind λb r=>.ok b r:=by
    funext r
    simp only[dS,aU,ag,ak,aw]
    congr 1
    funext a r
    cases ck tag (bZ r).1 a [] (bZ r).2<;>rfl
   rw[e]
   exact k6 (λ_ b=>b) hf λa=>zj ht a
theorem zk {ver:Int}{fx:Bool}{nul:Option Nat}{esz:Nat}{e:Ty}(he:ld (dy fx ver e (du 0 e)))(df:Int):ld (dy fx ver (.list nul esz e) (du df (.list nul esz e))):=by
 have er:∀ r,dy fx ver (.list nul esz e) (du df (.list nul esz e)) r=if(cW fx r).2.bad then .err else if !l5 (cW fx r).1 esz then .stuck else
   if(cW fx r).1<=0 then .ok (if nul.isSome&&(decide ((cW fx r).1=0) || !gQ nul ver)then .l []else .nul) (cW fx r).2
   else(gx (dy fx ver e (du 0 e)) (cW fx r).1.toNat (cW fx r).2).bind λvs r=>.ok (.l vs) r:=λr=>by simp only[dy,du,V.isNul,aU,ag,ak]
 have open_:∀ {r v r'},dy fx ver (.list nul esz e) (du df (.list nul esz e)) r=.ok v r'->(cW fx r).2.bad=false/\¬ ((!l5 (cW fx r).1 esz)=true) /\
   (((cW fx r).1<=0/\v=(if nul.isSome&&(decide ((cW fx r).1=0) || !gQ nul ver)then .l []else .nul)/\r'=(cW fx r).2) \/ (¬ (cW fx r).1<=0/\∃ vs,gx (dy fx ver e (du 0 e)) (cW fx r).1.toNat (cW fx r).2=.ok vs r'/\v=.l vs)):=by
  intro r v r' h
  rw[er]at h
  split at h
  ·cases h
  ·rename_i Ju
   split at h
   ·cases h
   ·rename_i Nl
    split at h
    ·rename_i hL
     simp only[dV.ok.injEq]at h
     exact⟨cr Ju,Nl,.inl ⟨hL,h.1.symm,h.2.symm⟩⟩
    ·rename_i hL
     obtain⟨vs,r1,h1,h2⟩:=gW h
     simp only[dV.ok.injEq]at h2
     obtain⟨rfl,rfl⟩:=h2
     exact⟨cr Ju,Nl,.inr ⟨hL,vs,h1,rfl⟩⟩
 refine⟨λr v r' h hb=>?_,λr hb h=>?_,λr v r' h hemp=>?_,λr v r' h hn hb=>?_,λr v r' h hn hb c=>?_,λr h hn c=>?_⟩
 ·rw[er,ax (u4 hb)]at h;cases h
 ·rw[er,ax (u4 hb)]at h;cases h
 ·obtain⟨_,_,h1⟩:=open_ h
  rcases h1 with⟨_,_,rfl⟩|⟨_,vs,h1,_⟩
  ·exact u0 hemp
  ·exact(kz he _).emp _ _ _ h1 (u0 hemp)
 ·obtain⟨Ju,_,h1⟩:=open_ h
  have Kj:=(sx Ju).trans hn
  rcases h1 with⟨_,_,rfl⟩|⟨_,vs,h1,_⟩
  ·exact Kj
  ·exact(kz he _).nl _ _ _ h1 Kj hb
 ·obtain⟨Ju,Nl,h1⟩:=open_ h
  have Kj:=(sx Ju).trans hn
  rw[er,uz Ju c false]
  simp only
  rcases h1 with⟨hL,rfl,rfl⟩|⟨hL,vs,h1,rfl⟩
  ·rw[al ab,al Nl,ax hL]
  ·rw[al ab,al Nl,al hL,(kz he _).ok _ _ _ h1 Kj hb c]
   rfl
 ·rw[er]at h
  split at h
  ·cases h
  ·rename_i Ju
   have Ju:(cW fx r).2.bad=false:=cr Ju
   rw[er,uz Ju c false]
   simp only
   rw[al ab]
   split at h
   ·rename_i Nl
    rw[ax Nl]
   ·rename_i Nl
    rw[al Nl]
    split at h
    ·cases h
    ·rename_i hL
     rw[al hL]
     cases hv:gx (dy fx ver e (du 0 e)) (cW fx r).1.toNat (cW fx r).2 with
     | stuck=>rw[(kz he _).stuck _ hv ((sx Ju).trans hn) c];rfl
     | err=>simp only[hv,dV.bind]at h;cases h
     | ok a b=>simp only[hv,dV.bind]at h;cases h
mutual
def wH:Ty->Bool
 | .prim _=>true
 | .str _=>true
 | .bytes _=>true
 | .struct none _ fs=>nsFds fs
 | _=>false
def nsFds:Fds->Bool
 | .nil=>true
 | .cons _ _ tag _ _ ty r=>tag.isNone&&wH ty&&nsFds r
end
theorem uD:∀ fs:Fds,nsFds fs=true->fs.tagged=false
 | .nil,_=>rfl
 | .cons _ _ tag _ _ ty r,h=>by
  simp only[nsFds,ac]at h
  simp only[Fds.tagged,Bool.or_eq_false_iff]
  exact⟨(by cases tag with|none=>rfl|some _=>cases h.1.1),uD r h.2⟩
mutual
theorem Ej (fx:Bool)(ver:Int):∀ (ty:Ty),wH ty=true->∀ old r,dy fx ver ty old r≠.stuck
 | .prim p,_,old,r,h=>by simp only[dy]at h;cases h
 | .str nul,_,old,r,h=>by simp only[dy]at h;cases h
 | .bytes nul,_,old,r,h=>by simp only[dy]at h;cases h
 | .list _ _ _,hh,_,_,_=>by simp[wH]at hh
 | .struct none toff fs,hh,old,r,h=>by
  simp only[wH]at hh
  simp only[dy,uD fs hh,dS]at h
  cases hv:rdFds fx ver fs r with
  | stuck=>exact ns_fds fx ver fs hh r hv
  | err=>rw[hv]at h;cases h
  | ok a b=>
   rw[hv]at h
   simp only[dV.bind,ag,ak]at h
   split at h<;>cases h
 | .struct (some _) _ _,hh,_,_,_=>by simp[wH]at hh
theorem ns_fds (fx:Bool)(ver:Int):∀ (fs:Fds),nsFds fs=true->∀ r,rdFds fx ver fs r≠.stuck
 | .nil,_,r,h=>by simp only[rdFds]at h;cases h
 | .cons lo hi tag df off ty rest,hh,r,h=>by
  simp only[nsFds,ac]at hh
  simp only[rdFds]at h
  split at h
  ·cases hv:dy fx ver ty (du df ty) r with
   | stuck=>exact Ej fx ver ty hh.1.2 _ _ hv
   | err=>rw[hv]at h;cases h
   | ok a b=>
    rw[hv]at h
    simp only[dV.bind]at h
    cases hw:rdFds fx ver rest b with
    | stuck=>exact ns_fds fx ver rest hh.2 _ hw
    | err=>rw[hw]at h;cases h
    | ok x y=>rw[hw]at h;cases h
  ·cases hw:rdFds fx ver rest r with
   | stuck=>exact ns_fds fx ver rest hh.2 _ hw
   | err=>rw[hw]at h;cases h
   | ok x y=>rw[hw]at h;cases h
end
mutual
def rr:Ty->Bool
 | .list _ _ e=>rr e
 | .struct _ _ fs=>cutFds fs
 | .prim _=>true
 | .str _=>true
 | .bytes _=>true
def cutFds:Fds->Bool
 | .nil=>true
 | .cons _ _ tag _ _ ty r=>(tag.isNone || wH ty)&&rr ty&&cutFds r
end
theorem p9 (fx:Bool)(ver:Int):∀ (fs:Fds),cutFds fs=true->∀ k g,rdTag fx ver fs k=some g->∀ vs r,g vs r≠.stuck
 | .nil,_,k,g,h=>by simp[rdTag]at h
 | .cons lo hi tag df off ty rest,hh,k,g,h=>by
  simp only[cutFds,ac,aH]at hh
  simp only[rdTag]at h
  by_cases ht:(tag==some k)=true
  ·rw[ax ht]at h
   obtain rfl:=au h
   have Tv:wH ty=true:=hh.1.1.resolve_left (by have:tag=some k:=(by simpa using ht);rw[this];simp)
   intro vs r hs
   cases hv:dy fx ver ty (vs.headD .nul) r with
   | stuck=>exact Ej fx ver ty Tv _ _ hv
   | err=>simp only[hv,dV.bind]at hs;cases hs
   | ok a b=>simp only[hv,dV.bind]at hs;cases hs
  ·rw[al ht]at h
   obtain⟨g',Jn,rfl⟩:=aK.1 h
   intro vs r hs
   cases hv:g' vs.tail r with
   | stuck=>exact p9 fx ver rest hh.2 k g' Jn _ _ hv
   | err=>simp only[hv,dV.bind]at hs;cases hs
   | ok a b=>simp only[hv,dV.bind]at hs;cases hs
mutual
theorem xY (ver:Int)(fx:Bool):∀ (ty:Ty),rr ty=true->∀ df,ld (dy fx ver ty (du df ty))
 | .prim p,_,df=>by
  have e:dy fx ver (.prim p) (du df (.prim p))=λr=>.ok ((cQ p).run r).1 ((cQ p).run r).2:=by funext r;simp only[dy]
  rw[e];exact sS _
 | .str nul,_,df=>by
  have e:dy fx ver (.str nul) (du df (.str nul))=λr=>.ok ((ej (eM nul ver) fx).run r).1 ((ej (eM nul ver) fx).run r).2:=by funext r;simp only[dy]
  rw[e];exact sS _
 | .bytes nul,_,df=>by
  have e:dy fx ver (.bytes nul) (du df (.bytes nul))=λr=>.ok ((dm (eM nul ver) fx).run r).1 ((dm (eM nul ver) fx).run r).2:=by funext r;simp only[dy]
  rw[e];exact sS _
 | .list nul esz e,h,df=>by
  simp only[rr]at h
  exact zk (xY ver fx e h 0) df
 | .struct none toff fs,h,df=>by
  simp only[rr]at h
  have e:dy fx ver (.struct none toff fs) (du df (.struct none toff fs))=dS fx fs.tagged (rdFds fx ver fs) (rdTag fx ver fs):=by funext r;simp only[dy]
  rw[e]
  exact sR (extV_fds ver fx fs h) (p9 fx ver fs h)
 | .struct (some m) toff fs,h,df=>by
  simp only[rr]at h
  have hs:=sR (fx:=fx) (tagged:=fs.tagged) (extV_fds ver fx fs h) (p9 fx ver fs h)
  have e:∀ r,dy fx ver (.struct (some m) toff fs) (du df (.struct (some m) toff fs)) r=if(rI 1 r).1=-1 \/ (rI 1 r).2.bad=true then .ok .nul (rI 1 r).2 else dS fx fs.tagged (rdFds fx ver fs) (rdTag fx ver fs) (rI 1 r).2:=λr=>by
   simp only[dy,du,V.isNul,aU,ag,ak]
  have J2:∀ {r v r'},dy fx ver (.struct (some m) toff fs) (du df (.struct (some m) toff fs)) r=.ok v r'->r'.bad=false->(rI 1 r).2.bad=false:=by
   intro r v r' h hb
   rw[e]at h
   split at h
   ·simp only[dV.ok.injEq]at h
    rw[h.2];exact hb
   ·rename_i hn
    exact cr λhh=>hn (.inr hh)
  refine⟨λr v r' h hb=>?_,λr hb h=>?_,λr v r' h hemp=>?_,λr v r' h hn hb=>?_,λr v r' h hn hb c=>?_,λr h hn c=>?_⟩
  ·rw[e,ax (.inr (gX hb))]at h
   simp only[dV.ok.injEq]at h
   rw[<- h.2];exact gX hb
  ·rw[e,ax (.inr (gX hb))]at h
   cases h
  ·have Oc:(rI 1 r).2.src=[]:=i5 hemp
   rw[e]at h
   split at h
   ·simp only[dV.ok.injEq]at h
    rw[<- h.2];exact Oc
   ·exact hs.emp _ _ _ h Oc
  ·have h1:=J2 h hb
   have Kj:(rI 1 r).2.nl=false:=(qX (k:=1) h1).trans hn
   rw[e]at h
   split at h
   ·simp only[dV.ok.injEq]at h
    rw[<- h.2];exact Kj
   ·exact hs.nl _ _ _ h Kj hb
  ·have h1:=J2 h hb
   have Kj:(rI 1 r).2.nl=false:=(qX (k:=1) h1).trans hn
   rw[e]at h
   rw[e,sy h1 c false]
   simp only
   split at h
   ·rename_i hn
    have hn:(rI 1 r).1=-1:=hn.resolve_right (by rw[h1];simp)
    simp only[dV.ok.injEq]at h
    rw[ax (.inl hn),<- h.2,<- h.1]
   ·rename_i hn
    rw[al (by simp only[ag,or_false];exact λhh=>hn (.inl hh))]
    exact hs.ok _ _ _ h Kj hb c
  ·rw[e]at h
   split at h
   ·cases h
   ·rename_i On
    have h1:(rI 1 r).2.bad=false:=cr λhh=>On (.inr hh)
    rw[e,sy h1 c false]
    simp only
    rw[al (by simp only[ag,or_false];exact λhh=>On (.inl hh))]
    exact hs.stuck _ h ((qX (k:=1) h1).trans hn) c
theorem extV_fds (ver:Int)(fx:Bool):∀ (fs:Fds),cutFds fs=true->ld (rdFds fx ver fs)
 | .nil,_=>by
  have e:rdFds fx ver .nil=λr=>.ok [] r:=by funext r;simp only[rdFds]
  rw[e];exact qn []
 | .cons lo hi tag df off ty r,h=>by
  simp only[cutFds,ac]at h
  have ih:=extV_fds ver fx r h.2
  cases JF:tag.isNone&&ml lo hi ver with
  | true=>
   have e:rdFds fx ver (.cons lo hi tag df off ty r)=λs=>(dy fx ver ty (du df ty) s).bind λa s=>(rdFds fx ver r s).bind λb s=>.ok (a::b) s:=by funext s;simp only[rdFds,JF,aw]
   rw[e]
   exact k6 (λa b=>a::b) (xY ver fx ty h.1.2 df) λ_=>ih
  | false=>
   have e:rdFds fx ver (.cons lo hi tag df off ty r)=λs=>(rdFds fx ver r s).bind λb s=>.ok (du df ty::b) s:=by funext s;simp only[rdFds,JF,ag,ak]
   rw[e]
   exact uU (λb=>du df ty::b) ih
end
def FR (ver:Int):Fds->Bool
 | .nil=>false
 | .cons lo hi tag _ _ ty r=>if tag.isNone&&ml lo hi ver then(match ty with|.prim _=>true|_=>false)else FR ver r
theorem xU (ver:Int)(fx:Bool):∀ (fs:Fds),cutFds fs=true->FR ver fs=true->∀ r,r.src=[]->rdFds fx ver fs r≠.stuck/\∀ v r',rdFds fx ver fs r=.ok v r'->r'.bad=true
 | .nil,_,h,_,_=>by simp[FR]at h
 | .cons lo hi tag df off ty rest,hc,h,r,hr=>by
  simp only[cutFds,ac]at hc
  simp only[FR]at h
  cases JF:tag.isNone&&ml lo hi ver with
  | true=>
   rw[ax JF]at h
   cases ty with
   | prim p=>
    have hb:=Dl p hr
    have ih:=extV_fds ver fx rest hc.2
    have e:rdFds fx ver (.cons lo hi tag df off (.prim p) rest) r=(rdFds fx ver rest ((cQ p).run r).2).bind λvs s=>.ok (((cQ p).run r).1::vs) s:=by simp only[rdFds,JF,aw,dy,dV.bind]
    rw[e]
    refine⟨λhs=>?_,λv r' hs=>?_⟩
    ·cases hv:rdFds fx ver rest ((cQ p).run r).2 with
     | stuck=>exact ih.go _ hb hv
     | err=>rw[hv]at hs;cases hs
     | ok a b=>rw[hv]at hs;cases hs
    ·obtain⟨a,r1,h1,h2⟩:=gW hs
     simp only[dV.ok.injEq]at h2
     rw[<- h2.2]
     exact ih.bad _ _ _ h1 hb
   | str _=>cases h
   | bytes _=>cases h
   | list _ _ _=>cases h
   | struct _ _ _=>cases h
  | false=>
   rw[al (by rw[JF];simp)]at h
   obtain⟨i1,i2⟩:=xU ver fx rest hc.2 h r hr
   have e:rdFds fx ver (.cons lo hi tag df off ty rest) r=(rdFds fx ver rest r).bind λvs s=>.ok (du df ty::vs) s:=by simp only[rdFds,JF,ag,ak]
   rw[e]
   refine⟨λhs=>?_,λv r' hs=>?_⟩
   ·cases hv:rdFds fx ver rest r with
    | stuck=>exact i1 hv
    | err=>rw[hv]at hs;cases hs
    | ok a b=>rw[hv]at hs;cases hs
   ·obtain⟨a,r1,h1,h2⟩:=gW hs
    simp only[dV.ok.injEq]at h2
    rw[<- h2.2]
    exact i2 _ _ h1
theorem Cd {hf:Bool}{flex:Nat}{fs:Fds}{sf:SFs}{ver:Int}{fx:Bool}(Ku:(hf&&decide ((flex:Int)<=ver))=fx)(h:(fitGFds ver fx fs sf&&nj fs)=true)(MS:cutFds fs=true)(Xb:FR ver fs=true)(t:Tr)(hl:(bU ver fx sf t).length<r5)(k:Nat)(hk:k<(bU ver fx sf t).length) :
  ij hf flex fs ver (kY ((bU ver fx sf t).take k))≠.stuck/\againOut false hf flex fs ver ((bU ver fx sf t).take k)=none:=by
 obtain⟨v,nl,h1,_⟩:=qk Ku h t hl
 have em:ij hf flex fs ver=dS fx fs.tagged (rdFds fx ver fs) (rdTag fx ver fs):=by funext r;simp only[ij,Ku]
 have hE:ld (ij hf flex fs ver):=by
  rw[em]
  exact sR (extV_fds ver fx fs MS) (p9 fx ver fs MS)
 have KH:(bU ver fx sf t).isEmpty=false:=by
  cases hs:bU ver fx sf t with
  | nil=>rw[hs]at hk;simp at hk
  | cons _ _=>rfl
 by_cases h0:k=0
 ·-- nothing at all
  subst h0
  have e0:kY ((bU ver fx sf t).take 0)=⟨[],false,true⟩:=rfl
  obtain⟨g1,g2⟩:=xU ver fx fs MS Xb ⟨[],false,true⟩ rfl
  have Tv:ij hf flex fs ver ⟨[],false,true⟩≠.stuck:=by
   rw[em]
   intro hs
   simp only[dS]at hs
   cases hv:rdFds fx ver fs ⟨[],false,true⟩ with
   | stuck=>exact g1 hv
   | err=>rw[hv]at hs;cases hs
   | ok a b=>
    rw[hv]at hs
    simp only[dV.bind]at hs
    split at hs
    ·cases hs
    ·split at hs
     ·exact nu (p9 fx ver fs MS) _ _ _ _ hs
     ·cases hs
  have Ju:∀ v r',ij hf flex fs ver ⟨[],false,true⟩=.ok v r'->r'.bad=true:=by
   rw[em]
   intro v r' hs
   simp only[dS]at hs
   obtain⟨a,b,hv,hs⟩:=gW hs
   have hb:=g2 _ _ hv
   split at hs
   ·simp only[dV.ok.injEq]at hs
    rw[<- hs.2];exact hb
   ·split at hs
    ·exact ja _ _ _ _ _ _ hs (eT hb)
    ·simp only[dV.ok.injEq]at hs
     rw[<- hs.2]
     exact jz _ _ _ (eT hb)
  rw[e0]
  refine⟨Tv,?_⟩
  simp only[againOut,gj,ag,ak,e0]
  cases hv:ij hf flex fs ver ⟨[],false,true⟩ with
  | stuck=>rfl
  | err=>rfl
  | ok v1 r1=>
   simp only
   rw[ax (Ju _ _ hv)]
 ·have hnk:((bU ver fx sf t).take k).isEmpty=false:=by
   cases hs:bU ver fx sf t with
   | nil=>rw[hs]at hk;simp at hk
   | cons _ _=>
    obtain⟨q,rfl⟩:∃ q,k=q+1:=⟨k-1,by omega⟩
    rfl
  have e0:kY ((bU ver fx sf t).take k)=⟨(bU ver fx sf t).take k,false,false⟩:=by simp only[kY,hnk]
  have e2:kY (bU ver fx sf t)=⟨bU ver fx sf t,false,false⟩:=by simp only[kY,KH]
  rw[e2]at h1
  rw[e0]
  refine⟨λhs=>?_,?_⟩
  ·have:=hE.stuck _ hs rfl ((bU ver fx sf t).drop k)
   simp only[List.take_append_drop]at this
   rw[h1]at this
   cases this
  ·simp only[againOut,gj,ag,ak,e0]
   cases hv:ij hf flex fs ver ⟨(bU ver fx sf t).take k,false,false⟩ with
   | stuck=>rfl
   | err=>rfl
   | ok v1 r1=>
    simp only
    by_cases hb:r1.bad=true
    ·rw[ax hb]
    ·exfalso
     have e3:=hE.ok _ _ _ hv rfl (cr hb) ((bU ver fx sf t).drop k)
     simp only[List.take_append_drop]at e3
     rw[h1]at e3
     simp only[dV.ok.injEq,RS.mk.injEq]at e3
     have:=(List.append_eq_nil_iff.1 e3.2.1.symm).2
     have hl:=congrArg List.length this
     rw[List.length_drop]at hl
     simp only[List.length_nil]at hl
     omega
