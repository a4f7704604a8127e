/-
  PLAIN LAWS AND CONTRACTS of messages, part 14.
-/
import Derived.Test.YtbgklecbmhaadaaGreatDoorK12

namespace Go.Proofs.YtbgklecbmhaadaaGreatDoor.Kx
open Go
theorem pc {f:RS->gF V}{w:Tr->Bs}{v:Tr->V}:∀ (ts:List Tr),(∀ t∈ts,∀ rest,f ⟨w t++rest,false,false⟩=.ok (v t) ⟨rest,false,false⟩)->∀ rest,f8 f ts.length ⟨(ts.map w).flatten++rest,false,false⟩=.ok (ts.map v) ⟨rest,false,false⟩
 | [],_,rest=>by simp[f8]
 | t::ts,h,rest=>by
  simp only[List.map_cons,List.flatten_cons,List.length_cons,f8,List.append_assoc]
  rw[h t (List.mem_cons_self ..)]
  simp only[gF.bind]
  rw[pc ts (fun t ht=>h t (List.mem_cons_of_mem _ ht)) rest]
theorem gY (k:Nat)(v:Bs):∀ (l:List (Nat × Bs)) (y:Nat × Bs),y∈bP k v l->y=(k,v) \/ y∈l
 | [],y,h=>by simpa[bP]using h
 | (j,u)::r,y,h=>by
  simp only[bP]at h
  split at h
  ·simpa using h
  ·split at h
   ·exact .inr h
   ·rcases List.mem_cons.1 h with h|h
    ·exact .inr (h ▸ List.mem_cons_self ..)
    ·rcases gY k v r y h with h|h
     ·exact .inl h
     ·exact .inr (List.mem_cons_of_mem _ h)
theorem mr (k:Nat)(v:Bs):∀ (l:List (Nat × Bs)),l.Pairwise (fun a b=>a.1<b.1)->(bP k v l).Pairwise (fun a b=>a.1<b.1)
 | [],_=>by simp[bP]
 | (j,u)::r,h=>by
  obtain⟨h1,h2⟩:=List.pairwise_cons.1 h
  simp only[bP]
  split
  ·rename_i hk
   refine List.pairwise_cons.2 ⟨fun y hy=>?_,h⟩
   rcases List.mem_cons.1 hy with rfl|hy
   ·exact hk
   ·exact Nat.lt_trans hk (h1 y hy)
  ·split
   ·exact h
   ·refine List.pairwise_cons.2 ⟨fun y hy=>?_,mr k v r h2⟩
    rcases gY k v r y hy with rfl|hy
    ·show j<k;omega
    ·exact h1 y hy
theorem lz (k:Nat)(v:Bs):∀ (l:List (Nat × Bs)),(bP k v l).length<=l.length+1
 | []=>by simp[bP]
 | (j,u)::r=>by
  have:=lz k v r
  simp only[bP]
  split
  ·simp
  ·split<;>simp<;>omega
theorem nI (n:Nat):∀ (l acc:List (Nat × Bs)),acc.Pairwise (fun a b=>a.1<b.1)->(gN n l acc).Pairwise (fun a b=>a.1<b.1)/\(∀ y∈gN n l acc,y∈l \/ y∈acc)/\(gN n l acc).length<=l.length+acc.length
 | [],acc,h=>⟨h,fun y hy=>.inr hy,by simp[gN]⟩
 | (k,v)::r,acc,h=>by
  simp only[gN]
  split
  ·obtain⟨a,b,c⟩:=nI n r acc h
   refine⟨a,fun y hy=>(b y hy).imp (List.mem_cons_of_mem _) id,?_⟩
   simp only[List.length_cons];omega
  ·obtain⟨a,b,c⟩:=nI n r (bP k v acc) (mr k v acc h)
   have hl:=lz k v acc
   refine⟨a,fun y hy=>?_,by simp only[List.length_cons];omega⟩
   rcases b y hy with h1|h1
   ·exact .inl (List.mem_cons_of_mem _ h1)
   ·rcases gY k v acc y h1 with rfl|h1
    ·exact .inl (List.mem_cons_self ..)
    ·exact .inr h1
theorem A9 (t:Tr):∀ y∈t.tags,y.1<4294967296:=by
 obtain⟨_,_,_,_,u⟩:=t
 intro y hy
 simp only[Tr.tags,List.mem_map]at hy
 obtain⟨p,_,rfl⟩:=hy
 exact p.1.toNat_lt
theorem qf (n:Nat)(t:Tr):(de n t.tags).Pairwise (fun a b=>a.1<b.1)/\(∀ y∈de n t.tags,y.1<4294967296)/\(de n t.tags).length<=aK:=by
 obtain⟨a,b,c⟩:=nI n (t.tags.take aK) [] List.Pairwise.nil
 refine⟨a,fun y hy=>A9 t y ?_,?_⟩
 ·rcases b y hy with h|h
  ·exact List.mem_of_mem_take h
  ·cases h
 ·have:(t.tags.take aK).length<=aK:=by rw[List.length_take];exact Nat.min_le_left ..
  simp only[List.length_nil]at c
  exact Nat.le_trans c (by omega)
theorem nF (n:Nat)(t:Tr):(ch n t).Pairwise (fun a b=>a.1<b.1)/\(∀ y∈ch n t,vp y/\y.2.length<=aK)/\(ch n t).length<=aK/\(ch n t).length=(de n t.tags).length:=by
 obtain⟨a,b,c⟩:=qf n t
 refine⟨?_,fun y hy=>?_,by simpa[ch]using c,by simp[ch]⟩
 ·unfold ch
  rw[List.pairwise_map]
  exact a
 ·simp only[ch,List.mem_map]at hy
  obtain⟨p,hp,rfl⟩:=hy
  have:=fe p.2
  exact⟨⟨b p hp,by simp only[aK]at *;omega⟩,this⟩
theorem mL:∀ (l:List (Nat × Bs)),(∀ y∈l,vp y)->bH l=bn l
 | [],_=>rfl
 | p::r,h=>by
  have h1:=h p (List.mem_cons_self ..)
  have:dL p.2.length=p.2.length:=Nat.mod_eq_of_lt h1.2
  have e:=mL r fun y hy=>h y (List.mem_cons_of_mem _ hy)
  simp only[bH,List.map_cons,List.flatten_cons,bn,iD,dj,this]at e ⊢
  rw[e]
def jE:SFs->Bool
 | .nil=>true
 | .cons _ _ _ _ tag _ _ _ r=>decide (tag<0)&&jE r
theorem kK:∀ sf:SFs,jE sf=true->ar sf=0
 | .nil,_=>rfl
 | .cons _ _ _ _ tag _ _ _ r,h=>by
  simp only[jE,Bool.and_eq_true,decide_eq_true_eq]at h
  simp only[ar,kK r h.2]
  rw[if_neg (by omega)]
theorem uD (ver:Int)(fx:Bool):∀ (sf:SFs) (i:Nat) (t:Tr),jE sf=true->sTgd ver fx sf i t=[]
 | .nil,_,_,_=>by simp[sTgd]
 | .cons _ _ _ _ tag _ _ _ r,i,t,h=>by
  simp only[jE,Bool.and_eq_true,decide_eq_true_eq]at h
  simp only[sTgd,uD ver fx r (i+1) t h.2,List.append_nil]
  rw[if_neg (by omega)]
theorem rz (fx:Bool)(t:Tr):gy fx 0 [] t.tags=bZ fx (if fx then ch 0 t else[]):=by
 obtain⟨a,b,c,d⟩:=nF 0 t
 cases fx with
 | false=>simp[gy,bZ]
 | true=>
  have hw:dL (ch 0 t).length=(de 0 t.tags).length:=by rw[d];simp only[dL,aK]at *;omega
  simp only[gy,bZ,if_true,hw,dh,List.range_zero,List.flatMap_nil,List.length_nil,Nat.zero_add]
  rw[<- mL _ fun y hy=>(b y hy).1]
  rfl
theorem r3 {ver:Int}{fx:Bool}{sf:SFs}(h:jE sf=true)(t:Tr):aM ver fx sf t=cD ver fx sf 0 t++bZ fx (if fx then ch (ar sf) t else[]):=by
 rw[aM,kK sf h,uD ver fx sf 0 t h,rz]
theorem DA {_ver:Int}{fx:Bool}{fields:RS->gF (List V)}{tag:Nat->Option (List V->RS->gF (List V))}{F:Bs}{vs:List V}{t:Tr}(hf:∀ rest nl,(nl=true->F++rest=[])->fields ⟨F++rest,false,nl⟩=.ok vs ⟨rest,false,nl⟩)(rest:Bs)(nl:Bool)
  (Hi:nl=true->F++bZ fx (if fx then ch 0 t else[])++rest=[]):fz fx false fields tag ⟨F++bZ fx (if fx then ch 0 t else[])++rest,false,nl⟩=.ok (.st vs (if fx then ch 0 t else[])) ⟨rest,false,nl⟩:=by
 unfold fz
 rw[List.append_assoc]at Hi ⊢
 rw[hf _ nl Hi]
 simp only[gF.bind]
 cases fx with
 | false=>simp[bZ]
 | true=>
  obtain⟨a,b,c,d⟩:=nF 0 t
  have hw:dL (ch 0 t).length=(ch 0 t).length:=by simp only[dL,aK]at *;omega
  have hn:nl=false:=by
   refine g7 (l:=bZ true (ch 0 t)) (rest:=rest) (fun h=>?_) ?_
   ·have:=Hi h
    simp only[if_true]at this
    exact(List.append_eq_nil_iff.1 this).2
   ·simp only[bZ,if_true,List.length_append]
    have:=dq (dL (ch 0 t).length)
    omega
  subst hn
  simp only[Bool.not_true,Bool.false_eq_true,if_false,if_true,bZ,hw,List.append_assoc]
  rw[dJ (by simp only[aK]at c;omega)]
  simp only
  rw[ml _ [] rest (by simpa using a) fun y hy=>(b y hy).1]
  simp
theorem uQ (ver:Int):bh (-1) ver=false:=by simp[bh]
theorem wi {kind:Nat}(h:kind≠11)(of:Nat)(ver:Int)(fx:Bool)(pt:Tr->Bs)(t:Tr):dZ kind (-1) of ver fx pt t=eq kind false fx pt t:=by
 simp only[dZ,if_neg h,uQ,Bool.and_false]
 rw[if_neg (by omega)]
theorem wj (fx:Bool)(n:Nat):gW fx true n 4=dp fx 4:=by cases fx<;>rfl
theorem yk (fx:Bool){n:Nat}(h:n<=aK):gW fx false n 4=iP fx n:=by
 cases fx with
 | false=>rfl
 | true=>
  have:dL (n+1)=n+1:=by simp only[dL,aK]at *;omega
  simp[gW,iP,this]
def FF (ver:Int)(fx:Bool)(kind:Nat)(nul:Int)(of:Nat)(sub:SFs)(t:Tr):Bs:=dZ kind nul of ver fx (aM ver fx sub) t
def Dv (ver:Int)(fx:Bool)(ty:Ty)(F:Tr->Bs)(v:Tr->V):Prop:=
 ∀ t,(∀ (df:Int) rest nl,(nl=true->F t++rest=[])->e7 fx ver ty (dl df ty) ⟨F t++rest,false,nl⟩=.ok (v t) ⟨rest,false,nl⟩)/\bO fx ver ty (v t)=F t/\(nR fx ver ty=true->0<(F t).length)
theorem uf {ver:Int}{fx:Bool}{ty:Ty}{F:Tr->Bs}{v:Tr->V}{p q:PF}(hr:∀ old r,e7 fx ver ty old r=.ok (p.run r).1 (p.run r).2)(hw:∀ x,bO fx ver ty x=q.wr x)(hp:∀ t,p.wr (v t)=F t/\wz p (v t))(hq:∀ t,q.wr (v t)=F t):Dv ver fx ty F v:=by
 intro t
 have Hg:0<(F t).length:=by rw[<- (hp t).1];exact Cg p _ (hp t).2
 refine⟨fun df rest nl Hi=>?_,by rw[hw,hq],fun _=>Hg⟩
 obtain rfl:=g7 Hi Hg
 rw[hr,<- (hp t).1,DM p _ (hp t).2 rest]
def oD:Nat:=4294967296
def us (sub:SFs)(t:Tr):Bool:=ct sub 0 t&&(de (ar sub) t.tags).isEmpty
mutual
def dx (ver:Int)(fx:Bool):Ty->SFs->Bool->Tr->V
 | .prim .uuid,_,_,t=>.s (wZ t.octets)
 | .prim p,_,_,t=>.n (gH p t.num)
 | .str _,_,null,t=>if null then .nul else .s (t.octets.take aK)
 | .bytes _,_,null,t=>if null then .nul else .s (t.octets.take aK)
 | .list nul _ e,sub,null,t=>if null then .nul else if t.list.isEmpty then(if nul.isSome then .l []else .nul)else .l ((t.list.take aK).map fun t=>dx ver fx e sub false t)
 | .struct _ _ fs,sub,null,t=>if null then .nul else .st (tgFds ver fx fs sub 0 t) (if fx then ch (ar sub) t else[])
def tgFds (ver:Int)(fx:Bool):Fds->SFs->Nat->Tr->List V
 | .nil,_,_,_=>[]
 | .cons lo hi tag df _ ty r,sf,i,t=>
  match sf with
  | .nil=>dl df ty::tgFds ver fx r .nil (i+1) t
  | .cons kind _ _ nul _ sdf _ sub sr=>
   (if(if tag.isNone then l6 lo hi ver else fx&&!aX kind nul sdf (us sub) (t.at i))then dx ver fx ty sub ((t.at i).null&&bh nul ver) (t.at i)else dl df ty)::tgFds ver fx r sr (i+1) t
end
def dy (ver:Int)(fx:Bool):Fds->SFs->Nat->Tr->List V
 | .nil,_,_,_=>[]
 | .cons lo hi tag df _ ty r,sf,i,t=>
  match sf with
  | .nil=>dl df ty::dy ver fx r .nil (i+1) t
  | .cons _ _ _ nul _ _ _ sub sr=>
   (if tag.isNone&&l6 lo hi ver then dx ver fx ty sub ((t.at i).null&&bh nul ver) (t.at i)else dl df ty)::dy ver fx r sr (i+1) t
def Fds.above:Fds->Nat->Bool
 | .nil,_=>true
 | .cons _ _ tag _ _ _ r,k=>(match tag with|none=>true|some j=>decide (k<j))&&r.above k
def lT:Fds->Bool
 | .nil=>true
 | .cons _ _ tag _ _ _ r=>(match tag with|none=>true|some k=>r.above k&&decide (k<oD))&&lT r
def iK (ver:Int):Ty->Int->Nat->Int->Int->Bool
 | .prim .uuid,_,kind,_,_=>kind==7
 | .prim p,df,kind,_,sdf=>kind==dP p&&df==sdf&&gH p df==df
 | .str none,_,kind,n,_=>kind==8&&decide (n<0)
 | .str (some _),_,kind,n,_=>kind==8&&bh n ver
 | .bytes _,_,kind,n,_=>kind==9&&bh n ver
 | _,_,_,_,_=>false
def kg (ver:Int):Fds->SFs->Bool
 | .nil,sf=>match sf with|.nil=>true|_=>false
 | .cons lo hi tag df _ ty r,sf=>
  match sf with
  | .nil=>false
  | .cons kind _ _ nul _ sdf _ _ sr=>tag.isNone&&l6 lo hi ver&&iK ver ty df kind nul sdf&&kg ver r sr
def zO (ver:Int):Ty->Int->Nat->Int->Int->SFs->Bool
 | .list _ _ _,_,kind,n,_,_=>kind==11&&!bh n ver
 | .struct none _ fs,_,kind,n,_,sub=>kind==10&&decide (n<0)&&kg ver fs sub
 | .struct (some _) _ _,_,_,_,_,_=>false
 | ty,df,kind,n,sdf,_=>iK ver ty df kind n sdf
mutual
def fL (ver:Int)(fx:Bool):Ty->Nat->Int->Nat->SFs->Bool
 | .prim p,kind,_,_,_=>kind==dP p
 | .str nul,kind,n,_,_=>kind==8&&(!bh n ver || dK nul ver)
 | .bytes nul,kind,n,_,_=>kind==9&&(!bh n ver || dK nul ver)
 | .list nul esz e,kind,n,of,sub=>kind==11&&(!bh n ver || (nul.isSome&&g6 nul ver))&&decide (esz<=10000)&&!e.isList&&nR fx ver e&&fL ver fx e of (-1) 0 sub
 | .struct nul _ fs,kind,n,_,sub=>kind==10&&(nul.isSome==decide (0<=n))&&lT fs&&fitGFds ver fx fs sub
def fitGFds (ver:Int)(fx:Bool):Fds->SFs->Bool
 | .nil,sf=>match sf with|.nil=>true|_=>false
 | .cons lo hi tag df _ ty r,sf=>
  match sf with
  | .nil=>false
  | .cons kind slo shi nul stag sdf of sub sr=>
   (match tag with
    | none=>decide (stag<0)&&(l6 lo hi ver==kj slo shi ver)&&(!l6 lo hi ver || fL ver fx ty kind nul of sub)
    | some k=>stag==(k:Int)&&(!fx || (nR fx ver ty&&zO ver ty df kind nul sdf sub&&fL ver fx ty kind nul of sub)))&&fitGFds ver fx r sr
end
theorem Dk {k:Nat}{x y:Int}(h:be k x=be k y):x%256^k=y%256^k:=by
 rw[<- pL k x,<- pL k y,h]
theorem AV (p:cP)(hp:p≠.uuid)(hb:p≠.bool)(x df:Int)(h:gH p df=df):(gH p x==df)=decide (be (bv (dP p)) x=be (bv (dP p)) df):=by
 rw[Bool.eq_iff_iff]
 simp only[beq_iff_eq,decide_eq_true_eq]
 constructor
 ·intro e
  refine jS _ ?_
  rw[<- e]
  cases p<;>first|exact absurd rfl hp|exact absurd rfl hb|(simp only[gH,j8,dP,bv];simp only[Nat.reduceEqDiff,if_true,if_false,or_false,or_true,Int.reducePow,Nat.reduceSub,Nat.reducePow];omega)
 ·intro e
  have e:=Dk e
  rw[<- h]
  cases p<;>first|exact absurd rfl hp|exact absurd rfl hb|(simp only[gH,j8,dP,bv]at e ⊢;simp only[Nat.reduceEqDiff,if_true,if_false,or_false,or_true,Int.reducePow,Nat.reduceSub,Nat.reducePow]at e ⊢;omega)
theorem sK (l:Bs):(l.take aK).isEmpty=l.isEmpty:=by cases l<;>simp[aK]
theorem yl (l:Bs):((wZ l).all fun b=>b==0)=((l.take 16).all fun b=>b==0):=by
 simp only[wZ,List.all_append]
 have:((List.replicate (16-l.length) (0:UInt8)).all fun b=>b==0)=true:=by
  rw[List.all_eq_true]
  intro b hb
  rw[(List.mem_replicate.1 hb).2];rfl
 rw[this,Bool.and_true]
theorem gi {ver:Int}{ty:Ty}{df:Int}{kind:Nat}{n sdf:Int}(h:iK ver ty df kind n sdf=true):fE ty df (dl df ty)=true/\∀ (t:Tr) (sub:SFs) (u:Tr->Bool),fE ty df (dx ver true ty sub (t.null&&bh n ver) t)=aX kind n sdf u t:=by
 cases ty with
 | prim p=>
  by_cases hp:p=.uuid
  ·subst hp
   simp only[iK,beq_iff_eq]at h
   subst h
   refine⟨by simp only[dl,fE,V.octets];decide,fun t sub u=>?_⟩
   simp only[dx,fE,V.octets,yl,aX]
   simp
  ·have h':kind=dP p/\df=sdf/\gH p df=df:=by
    cases p<;>first|exact absurd rfl hp|(simp only[iK,Bool.and_eq_true,beq_iff_eq]at h;exact⟨h.1.1,h.1.2,h.2⟩)
   obtain⟨rfl,rfl,hn⟩:=h'
   refine⟨by cases p<;>first|exact absurd rfl hp|simp[dl,fE,V.num],fun t sub u=>?_⟩
   have e1:fE (.prim p) df (dx ver true (.prim p) sub (t.null&&bh n ver) t)=(gH p t.num==df):=by cases p<;>first|exact absurd rfl hp|simp[dx,fE,V.num]
   rw[e1]
   by_cases hb:p=.bool
   ·subst hb
    simp only[gH,aX,dP]
    rw[Bool.eq_iff_iff];simp
   ·rw[AV p hp hb _ _ hn]
    have c0:dP p≠0:=by cases p<;>first|exact absurd rfl hb|decide
    have c7:dP p≠7:=by cases p<;>first|exact absurd rfl hp|decide
    have c8:dP p≠8:=by cases p<;>decide
    have c9:dP p≠9:=by cases p<;>decide
    have c11:dP p≠11:=by cases p<;>decide
    have c10:dP p≠10:=by cases p<;>decide
    simp only[aX,if_neg c0,if_neg c7,if_neg c11,if_neg c10]
    rw[if_neg (by omega)]
 | str nul=>
  cases nul with
  | none=>
   simp only[iK,Bool.and_eq_true,beq_iff_eq,decide_eq_true_eq]at h
   obtain⟨rfl,hn⟩:=h
   refine⟨rfl,fun t sub u=>?_⟩
   have hs:bh n ver=false:=by simp only[bh];rw[decide_eq_false (by omega)];rfl
   rw[hs,Bool.and_false]
   simp only[dx,fE,V.octets,sK,aX,Bool.false_eq_true,if_false]
   rw[if_neg (by omega),if_neg (by omega),if_pos (by simp),if_neg (by omega)]
  | some m=>
   simp only[iK,Bool.and_eq_true,beq_iff_eq]at h
   obtain⟨rfl,hn⟩:=h
   refine⟨rfl,fun t sub u=>?_⟩
   have h0:0<=n:=by simp only[bh,Bool.and_eq_true,decide_eq_true_eq]at hn;exact hn.1
   rw[hn,Bool.and_true]
   have e:aX 8 n sdf u t=t.null:=by simp[aX,h0]
   rw[e]
   simp only[dx,fE]
   cases t.null<;>simp[V.isNul]
 | bytes nul=>
  simp only[iK,Bool.and_eq_true,beq_iff_eq]at h
  obtain⟨rfl,hn⟩:=h
  refine⟨rfl,fun t sub u=>?_⟩
  have h0:0<=n:=by simp only[bh,Bool.and_eq_true,decide_eq_true_eq]at hn;exact hn.1
  rw[hn,Bool.and_true]
  have e:aX 9 n sdf u t=t.null:=by simp[aX,h0]
  rw[e]
  simp only[dx,fE]
  cases t.null<;>simp[V.isNul]
 | list _ _ _=>simp[iK]at h
 | struct _ _ _=>simp[iK]at h
theorem rX (ver:Int):∀ (fs:Fds) (sf:SFs),kg ver fs sf=true->iJ fs (dfFds fs)=true/\∀ (i:Nat) (t:Tr),iJ fs (tgFds ver true fs sf i t)=ct sf i t
 | .nil,.nil,_=>⟨rfl,fun i t=>by simp[iJ,ct]⟩
 | .nil,.cons ..,h=>by simp[kg]at h
 | .cons ..,.nil,h=>by simp[kg]at h
 | .cons lo hi tag df off ty r,.cons kind slo shi nul stag sdf of sub sr,h=>by
  simp only[kg,Bool.and_eq_true]at h
  obtain⟨⟨⟨h1,h2⟩,h3⟩,h4⟩:=h
  obtain⟨i1,i2⟩:=rX ver r sr h4
  obtain⟨j1,j2⟩:=gi h3
  refine⟨by simp only[dfFds,iJ,List.headD_cons,List.tail_cons,j1,i1,Bool.and_self],fun i t=>?_⟩
  simp only[tgFds,h1,h2,if_true,iJ,List.headD_cons,List.tail_cons,ct]
  rw[j2 (t.at i) sub (us sub),i2]
  rfl
theorem Bf {ver:Int}{ty:Ty}{df:Int}{kind:Nat}{n sdf:Int}{sub:SFs}(h:zO ver ty df kind n sdf sub=true):iX ty df (dl df ty)=true/\∀ (t:Tr),iX ty df (dx ver true ty sub (t.null&&bh n ver) t)=aX kind n sdf (us sub) t:=by
 cases ty with
 | list nul esz e=>
  simp only[zO,Bool.and_eq_true,beq_iff_eq,Bool.not_eq_true']at h
  obtain⟨rfl,hn⟩:=h
  refine⟨rfl,fun t=>?_⟩
  rw[hn,Bool.and_false]
  have e:aX 11 n sdf (us sub) t=t.list.isEmpty:=by simp[aX]
  rw[e]
  simp only[dx,iX,Bool.false_eq_true,if_false]
  cases hl:t.list with
  | nil=>cases nul<;>simp[V.list]
  | cons a l=>simp[V.list,aK]
 | struct nul toff fs=>
  cases nul with
  | none=>
   simp only[zO,Bool.and_eq_true,beq_iff_eq,decide_eq_true_eq]at h
   obtain⟨⟨rfl,hn⟩,hf⟩:=h
   obtain⟨i1,i2⟩:=rX ver fs sub hf
   have hs:bh n ver=false:=by simp only[bh];rw[decide_eq_false (by omega)];rfl
   refine⟨by simp only[dl,iX,V.fields,V.tags,i1];rfl,fun t=>?_⟩
   rw[hs,Bool.and_false]
   simp only[dx,iX,V.fields,V.tags,i2,aX,Bool.false_eq_true,if_false,if_true]
   rw[if_neg (by omega),if_neg (by omega),if_neg (by omega),if_neg (by omega)]
   simp only[us,ch,List.isEmpty_map]
  | some q=>simp[zO]at h
 | prim p=>exact⟨(gi (ty:=.prim p) h).1,fun t=>(gi (ty:=.prim p) h).2 t sub (us sub)⟩
 | str p=>exact⟨(gi (ty:=.str p) h).1,fun t=>(gi (ty:=.str p) h).2 t sub (us sub)⟩
 | bytes p=>exact⟨(gi (ty:=.bytes p) (df:=df) (sdf:=sdf) h).1,fun t=>(gi (ty:=.bytes p) (df:=df) (sdf:=sdf) h).2 t sub (us sub)⟩
def An (ver:Int)(fx:Bool)(ty:Ty)(F:Tr->Bs)(v:Tr->V):Prop:=
 ∀ t,(F t).length<oD->(∀ (df:Int) rest nl,(nl=true->F t++rest=[])->e7 fx ver ty (dl df ty) ⟨F t++rest,false,nl⟩=.ok (v t) ⟨rest,false,nl⟩)/\bO fx ver ty (v t)=F t/\(nR fx ver ty=true->0<(F t).length)
theorem Dv.g {ver:Int}{fx:Bool}{ty:Ty}{F:Tr->Bs}{v:Tr->V}(h:Dv ver fx ty F v):An ver fx ty F v:=fun t _=>h t
theorem rN {w:Tr->Bs}{t:Tr}:∀ (ts:List Tr),t∈ts->(w t).length<=(ts.map w).flatten.length
 | [],h=>by cases h
 | a::ts,h=>by
  simp only[List.map_cons,List.flatten_cons,List.length_append]
  rcases List.mem_cons.1 h with rfl|h
  ·omega
  ·have:=rN (w:=w) ts h;omega
theorem mu {w:Tr->Bs}:∀ (ts:List Tr),(∀ t∈ts,0<(w t).length)->ts.length<=(ts.map w).flatten.length
 | [],_=>by simp
 | t::ts,h=>by
  have h1:=h t (List.mem_cons_self ..)
  have h2:=mu ts fun t ht=>h t (List.mem_cons_of_mem _ ht)
  simp only[List.map_cons,List.flatten_cons,List.length_cons,List.length_append]
  omega
theorem Df {ver:Int}{fx:Bool}{nul:Option Nat}{esz of:Nat}{n:Int}{e:Ty}{sub:SFs}(h1:(!bh n ver || (nul.isSome&&g6 nul ver))=true)(hesz:esz<=10000)(Hg:nR fx ver e=true)(To:of≠11)
  (ih:An ver fx e (FF ver fx of (-1) 0 sub) fun t=>dx ver fx e sub (t.null&&bh (-1) ver) t):An ver fx (.list nul esz e) (FF ver fx 11 n of sub) fun t=>dx ver fx (.list nul esz e) sub (t.null&&bh n ver) t:=by
 have er:∀ df r,e7 fx ver (.list nul esz e) (dl df (.list nul esz e)) r=if(cL fx r).2.bad then .err else if !ls (cL fx r).1 esz then .stuck else
   if(cL fx r).1<=0 then .ok (if nul.isSome&&(decide ((cL fx r).1=0) || !g6 nul ver)then .l []else .nul) (cL fx r).2
   else(f8 (e7 fx ver e (dl 0 e)) (cL fx r).1.toNat (cL fx r).2).bind fun vs r=>.ok (.l vs) r:=fun df r=>by simp only[e7,dl,V.isNul,Bool.not_true,Bool.false_eq_true,if_false]
 have ew:∀ v,bO fx ver (.list nul esz e) v=(if nul.isSome&&v.isNul then dp fx 4 else iP fx v.list.length)++iO (bO fx ver e) v.list:=fun v=>by simp only[bO]
 have eF:∀ t,FF ver fx of (-1) 0 sub t=eq of false fx (aM ver fx sub) t:=fun t=>wi To 0 ver fx _ t
 have ev:∀ t,dx ver fx e sub (t.null&&bh (-1) ver) t=dx ver fx e sub false t:=fun t=>by rw[uQ,Bool.and_false]
 have roomyB:∀ (L:Int),L<=aK->ls L esz=true:=fun L hL=>by
  simp only[ls,decide_eq_true_eq]
  simp only[aK]at hL
  have h1:(24*(esz:Int)+8)<=240008:=by omega
  by_cases h0:L<=0
  ·have:L*(24*(esz:Int)+8)<=0:=Int.mul_nonpos_of_nonpos_of_nonneg h0 (by omega)
   omega
  ·have h2:L*(24*(esz:Int)+8)<=32767*240008:=Int.mul_le_mul hL h1 (by omega) (by omega)
   omega
 intro t ht
 cases Hb:(t.null&&bh n ver) with
 | true=>
  have hs:bh n ver=true:=by simp only[Bool.and_eq_true]at Hb;exact Hb.2
  rw[hs]at h1
  simp only[Bool.not_true,Bool.false_or,Bool.and_eq_true]at h1
  have eF0:FF ver fx 11 n of sub t=dp fx 4:=by simp only[FF,dZ,if_true,Hb,dc,List.length_nil,List.map_nil,List.flatten_nil,List.append_nil,wj]
  have ev0:dx ver fx (.list nul esz e) sub (t.null&&bh n ver) t=.nul:=by rw[Hb];simp only[dx,if_true]
  simp only[Hb]at ev0
  refine⟨fun df rest nl Hi=>?_,?_,fun _=>by rw[eF0];exact oJ fx⟩
  ·rw[eF0]at Hi ⊢
   obtain rfl:=g7 Hi (oJ fx)
   simp only[Hb,ev0,er,ws fx rest]
   rw[roomyB (-1) (by simp only[aK];omega)]
   simp[h1.2]
  ·simp only[Hb,ev0,ew,eF0,h1.1,V.isNul,V.list,Bool.and_self,if_true,iO,List.map_nil,List.flatten_nil,List.append_nil]
 | false=>
  have Gp:(t.list.take aK).length<=aK:=by rw[List.length_take];exact Nat.min_le_left ..
  have eF0:FF ver fx 11 n of sub t=iP fx (t.list.take aK).length++((t.list.take aK).map (FF ver fx of (-1) 0 sub)).flatten:=by
   have:FF ver fx of (-1) 0 sub=eq of false fx (aM ver fx sub):=funext eF
   rw[this]
   simp only[FF,dZ,if_true,Hb,dc,Bool.false_eq_true,if_false,yk fx Gp]
  have IZ:∀ t'∈t.list.take aK,(FF ver fx of (-1) 0 sub t').length<oD:=fun t' h'=>by
   have:=rN (w:=FF ver fx of (-1) 0 sub) _ h'
   rw[eF0,List.length_append]at ht
   omega
  have Hm:=mu (w:=FF ver fx of (-1) 0 sub) (t.list.take aK) fun t' h'=>(ih t' (IZ t' h')).2.2 Hg
  have hp:0<(FF ver fx 11 n of sub t).length:=by rw[eF0,List.length_append];have:=x8 fx (t.list.take aK).length;omega
  by_cases he:t.list.isEmpty=true
  ·have Ij:t.list=[]:=List.isEmpty_iff.1 he
   have ev0:dx ver fx (.list nul esz e) sub (t.null&&bh n ver) t=if nul.isSome then .l []else .nul:=by rw[Hb];simp only[dx,he,Bool.false_eq_true,if_false,if_true]
   simp only[Hb]at ev0
   have eF1:FF ver fx 11 n of sub t=iP fx 0:=by rw[eF0,Ij];simp
   refine⟨fun df rest nl Hi=>?_,?_,fun _=>hp⟩
   ·obtain rfl:=g7 Hi hp
    have hr:=rB fx (n:=0) (by omega) rest (Nat.zero_le _)
    simp only[Hb,ev0,er,eF1,hr]
    rw[show((0:Nat):Int)=0 from rfl,roomyB 0 (by simp only[aK];omega)]
    simp
   ·simp only[Hb,ev0,ew,eF1]
    cases nul<;>simp[V.isNul,V.list,iO]
  ·have Ie:t.list≠[]:=fun h=>he (List.isEmpty_iff.2 h)
   have hpos':0<(t.list.take aK).length:=by
    have:=List.length_pos_iff.2 Ie
    rw[List.length_take];simp only[aK];omega
   have ev0:dx ver fx (.list nul esz e) sub (t.null&&bh n ver) t=.l ((t.list.take aK).map fun t=>dx ver fx e sub false t):=by rw[Hb];simp only[dx,if_neg he,Bool.false_eq_true,if_false]
   simp only[Hb]at ev0
   refine⟨fun df rest nl Hi=>?_,?_,fun _=>hp⟩
   ·obtain rfl:=g7 Hi hp
    have hr:=rB fx (n:=(t.list.take aK).length) (Nat.lt_of_le_of_lt Gp (by simp[aK])) (((t.list.take aK).map (FF ver fx of (-1) 0 sub)).flatten++rest) (by rw[List.length_append];omega)
    simp only[Hb,ev0,er,eF0,List.append_assoc,hr]
    rw[roomyB _ (by omega)]
    simp only[Bool.false_eq_true,if_false,Bool.not_true,Int.toNat_natCast]
    rw[if_neg (by omega),pc (f:=e7 fx ver e (dl 0 e)) (w:=FF ver fx of (-1) 0 sub) (v:=fun t=>dx ver fx e sub false t) (t.list.take aK) (fun t' h' rest'=>?_) rest]
    ·rfl
    ·have:=(ih t' (IZ t' h')).1 0 rest' false (fun h=>by cases h)
     simp only[ev]at this
     exact this
   ·simp only[Hb,ev0,ew,eF0,V.isNul,V.list,Bool.and_false,Bool.false_eq_true,if_false,List.length_map]
    congr 1
    simp only[iO,List.map_map]
    congr 1
    refine List.map_congr_left fun t' h'=>?_
    have:=(ih t' (IZ t' h')).2.1
    simp only[ev]at this
    exact this
def p8 (ver:Int)(fx:Bool):Fds->SFs->Prop
 | .cons lo hi tag _ _ ty r,.cons kind _ _ nul _ _ of sub sr=>((if tag.isNone then l6 lo hi ver else fx)=true->An ver fx ty (FF ver fx kind nul of sub) fun t=>dx ver fx ty sub (t.null&&bh nul ver) t)/\p8 ver fx r sr
 | _,_=>True
theorem ve (ver:Int)(fx:Bool):∀ (fs:Fds) (sf:SFs) (i:Nat) (t:Tr),fitGFds ver fx fs sf=true->p8 ver fx fs sf->(cD ver fx sf i t).length<oD ->
  (∀ rest nl,(nl=true->cD ver fx sf i t++rest=[])->rdFds fx ver fs ⟨cD ver fx sf i t++rest,false,nl⟩=.ok (dy ver fx fs sf i t) ⟨rest,false,nl⟩)/\wrFds fx ver fs (tgFds ver fx fs sf i t)=cD ver fx sf i t/\(posFds fx ver fs=true->0<(cD ver fx sf i t).length)
 | .nil,.nil,i,t,_,_,_=>⟨fun rest nl _=>by simp[rdFds,dy,cD],by simp[wrFds,cD],fun h=>by simp[posFds]at h⟩
 | .nil,.cons ..,_,_,h,_,_=>by simp[fitGFds]at h
 | .cons ..,.nil,_,_,h,_,_=>by simp[fitGFds]at h
 | .cons lo hi (some k) df off ty r,.cons kind slo shi nul stag sdf of sub sr,i,t,h,hF,hl=>by
  simp only[fitGFds,Bool.and_eq_true,beq_iff_eq]at h
  obtain⟨⟨rfl,_⟩,hr⟩:=h
  have es:cD ver fx (.cons kind slo shi nul (k:Int) sdf of sub sr) i t=cD ver fx sr (i+1) t:=by
   simp only[cD]
   rw[if_neg (fun h=>by omega),List.nil_append]
  rw[es]at hl ⊢
  obtain⟨i1,i2,i3⟩:=ve ver fx r sr (i+1) t hr hF.2 hl
  refine⟨fun rest nl Hi=>?_,?_,fun hp=>?_⟩
  ·simp only[rdFds,dy,Option.isNone_some,Bool.false_and,Bool.false_eq_true,if_false]
   rw[i1 rest nl Hi]
   rfl
  ·simp only[wrFds,tgFds,Option.isNone_some,Bool.false_and,Bool.false_eq_true,if_false,List.tail_cons,i2,List.nil_append]
  ·simp only[posFds,Option.isNone_some,Bool.false_and,Bool.false_or]at hp
   exact i3 hp
 | .cons lo hi none df off ty r,.cons kind slo shi nul stag sdf of sub sr,i,t,h,hF,hl=>by
  simp only[fitGFds,Bool.and_eq_true,decide_eq_true_eq,beq_iff_eq]at h
  obtain⟨⟨⟨Hl,hh⟩,IF⟩,hr⟩:=h
  cases H2:l6 lo hi ver with
  | true=>
   rw[H2]at hh
   have es:cD ver fx (.cons kind slo shi nul stag sdf of sub sr) i t=FF ver fx kind nul of sub (t.at i)++cD ver fx sr (i+1) t:=by
    simp only[cD]
    rw[if_pos ⟨Hl,hh.symm⟩]
    rfl
   rw[es,List.length_append]at hl
   obtain⟨i1,i2,i3⟩:=ve ver fx r sr (i+1) t hr hF.2 (by omega)
   obtain⟨j1,j2,j3⟩:=hF.1 (by simpa using H2) (t.at i) (by omega)
   refine⟨fun rest nl Hi=>?_,?_,fun hp=>?_⟩
   ·rw[es,List.append_assoc]at Hi ⊢
    simp only[rdFds,H2,Option.isNone_none,Bool.and_self,if_true,dy]
    rw[j1 df _ nl Hi]
    simp only[gF.bind]
    rw[i1 rest nl (fun h=>(List.append_eq_nil_iff.1 (Hi h)).2)]
   ·simp only[es,tgFds,wrFds,H2,Option.isNone_none,Bool.and_self,if_true,List.headD_cons,List.tail_cons,i2,j2]
   ·rw[es,List.length_append]
    simp only[posFds,H2,Option.isNone_none,Bool.true_and,Bool.or_eq_true]at hp
    rcases hp with hp|hp
    ·have:=j3 hp;omega
    ·have:=i3 hp;omega
  | false=>
   rw[H2]at hh
   have es:cD ver fx (.cons kind slo shi nul stag sdf of sub sr) i t=cD ver fx sr (i+1) t:=by
    simp only[cD]
    rw[if_neg (fun h=>by rw[h.2]at hh;cases hh),List.nil_append]
   rw[es]at hl ⊢
   obtain⟨i1,i2,i3⟩:=ve ver fx r sr (i+1) t hr hF.2 hl
   refine⟨fun rest nl Hi=>?_,?_,fun hp=>?_⟩
   ·simp only[rdFds,H2,Option.isNone_none,Bool.and_false,Bool.false_eq_true,if_false,dy]
    rw[i1 rest nl Hi]
    rfl
   ·simp only[tgFds,wrFds,H2,Option.isNone_none,Bool.and_false,Bool.false_eq_true,if_false,List.tail_cons,i2,List.nil_append]
   ·simp only[posFds,H2,Option.isNone_none,Bool.and_false,Bool.false_and,Bool.false_or]at hp
    exact i3 hp
theorem px (fx:Bool)(ver:Int):∀ (fs:Fds) (m k:Nat) {g:List V->RS->gF (List V)},fs.above m=true->rdTag fx ver fs k=some g->m<k
 | .nil,_,_,_,_,h=>by simp[rdTag]at h
 | .cons lo hi tag df off ty r,m,k,g,ha,h=>by
  simp only[Fds.above,Bool.and_eq_true]at ha
  simp only[rdTag]at h
  by_cases ht:(tag==some k)=true
  ·have:tag=some k:=by simpa using ht
   subst this
   simpa using ha.1
  ·rw[if_neg ht]at h
   obtain⟨g',GA,_⟩:=Option.map_eq_some_iff.1 h
   exact px fx ver r m k ha.2 GA
theorem ou {α β γ:Type}(x:gF α)(f:α->RS->gF β)(g:β->RS->gF γ):(x.bind f).bind g=x.bind fun a r=>(f a r).bind g:=by cases x<;>rfl
theorem uW {α β:Type}(a:α)(r:RS)(f:α->RS->gF β):(gF.ok a r).bind f=f a r:=rfl
theorem zp {f:Nat->Option (List V->RS->gF (List V))}{g:List V->RS->gF (List V)}{k n:Nat}{v rest:Bs}{vs vs':List V}{acc:List (Nat × Bs)}(hk:k<oD)(hv:v.length<oD)(hf:f k=some g)(hg:g vs ⟨v,false,false⟩=.ok vs' ⟨[],false,false⟩) :
  bW f (n+1) vs acc ⟨dj (k,v)++rest,false,false⟩=bW f n vs' acc ⟨rest,false,false⟩:=by
 have IU:dL v.length=v.length:=Nat.mod_eq_of_lt hv
 have e1:dj (k,v)++rest=uvar k++(uvar v.length++(v++rest)):=by simp[dj,IU,List.append_assoc]
 simp only[bW]
 rw[e1,dJ hk,dJ hv,e8 v _ _ rfl]
 simp only[hf,V.octets,V.isNul,hg,Bool.false_eq_true,if_false]
theorem rO {f:Nat->Option (List V->RS->gF (List V))}{vs:List V}:∀ (t acc:List (Nat × Bs)) (rest:Bs),(acc++t).Pairwise (fun a b=>a.1<b.1)->(∀ y∈t,vp y/\f y.1=none)->bW f t.length vs acc ⟨bn t++rest,false,false⟩=.ok (.st vs (acc++t)) ⟨rest,false,false⟩
 | [],acc,rest,_,_=>by simp[bW,bn]
 | (k,v)::t,acc,rest,hp,G1=>by
  obtain⟨O9,hf⟩:=G1 (k,v) (List.mem_cons_self ..)
  have IU:dL v.length=v.length:=Nat.mod_eq_of_lt O9.2
  have e1:bn ((k,v)::t)++rest=uvar k++(uvar v.length++(v++(bn t++rest))):=by simp[ii,dj,IU,List.append_assoc]
  have Mk:cp k v acc=acc++[(k,v)]:=jA k v acc fun y hy=>(List.pairwise_append.1 hp).2.2 y hy (k,v) (List.mem_cons_self ..)
  have hf:f k=none:=hf
  show bW f (t.length+1) vs acc _=_
  simp only[bW]
  rw[e1,dJ O9.1,dJ O9.2,e8 v _ _ rfl]
  simp only[hf,V.octets]
  rw[Mk,rO t (acc++[(k,v)]) rest (by simpa using hp) fun y hy=>G1 y (List.mem_cons_of_mem _ hy)]
  simp
theorem rn {ver:Int}{kind:Nat}{slo shi nul stag sdf:Int}{of:Nat}{sub sr:SFs}(h:stag<0)(i:Nat)(t:Tr):sTgd ver true (.cons kind slo shi nul stag sdf of sub sr) i t=sTgd ver true sr (i+1) t:=by
 simp only[sTgd]
 rw[if_neg (fun h=>by omega),List.nil_append]
theorem oQ {ver:Int}{kind:Nat}{slo shi nul sdf:Int}{of k0:Nat}{sub sr:SFs}{i:Nat}{t:Tr}(IM:aX kind nul sdf (us sub) (t.at i)=true):sTgd ver true (.cons kind slo shi nul (k0:Int) sdf of sub sr) i t=sTgd ver true sr (i+1) t:=by
 have hus':aX kind nul sdf (fun t=>ct sub 0 t&&(de (ar sub) t.tags).isEmpty) (t.at i)=true:=IM
 simp only[sTgd,hus']
 rw[if_neg (fun h=>by cases h.2),List.nil_append]
theorem rm {ver:Int}{kind:Nat}{slo shi nul sdf:Int}{of k0:Nat}{sub sr:SFs}{i:Nat}{t:Tr}(IM:aX kind nul sdf (us sub) (t.at i)=false):sTgd ver true (.cons kind slo shi nul (k0:Int) sdf of sub sr) i t=(k0,FF ver true kind nul of sub (t.at i))::sTgd ver true sr (i+1) t:=by
 have hus':aX kind nul sdf (fun t=>ct sub 0 t&&(de (ar sub) t.tags).isEmpty) (t.at i)=false:=IM
 simp only[sTgd,hus']
 rw[if_pos ⟨by omega,trivial⟩]
 simp only[Int.toNat_natCast,List.cons_append,List.nil_append]
 rfl
theorem n8 (ver:Int):∀ (fs:Fds) (sf:SFs) (i:Nat) (t:Tr),fitGFds ver true fs sf=true->lT fs=true->(sTgd ver true sf i t).Pairwise (fun a b=>a.1<b.1)/\∀ p∈sTgd ver true sf i t,(∀ m,fs.above m=true->m<p.1)/\p.1<oD/\p.1<ar sf
 | .nil,.nil,i,t,_,_=>⟨by simp[sTgd],fun p hp=>by simp[sTgd]at hp⟩
 | .nil,.cons ..,_,_,h,_=>by simp[fitGFds]at h
 | .cons ..,.nil,_,_,h,_=>by simp[fitGFds]at h
 | .cons lo hi none df off ty r,.cons kind slo shi nul stag sdf of sub sr,i,t,h,Hp=>by
  simp only[fitGFds,Bool.and_eq_true,decide_eq_true_eq,beq_iff_eq]at h
  obtain⟨⟨⟨Hl,hh⟩,IF⟩,hr⟩:=h
  simp only[lT,Bool.true_and]at Hp
  have ek:ar (.cons kind slo shi nul stag sdf of sub sr)=ar sr:=by simp only[ar];rw[if_neg (by omega)]
  obtain⟨i2,i3⟩:=n8 ver r sr (i+1) t hr Hp
  rw[rn Hl,ek]
  refine⟨i2,fun p hp=>⟨fun m hm=>(i3 p hp).1 m ?_,(i3 p hp).2⟩⟩
  simp only[Fds.above,Bool.true_and]at hm
  exact hm
 | .cons lo hi (some k0) df off ty r,.cons kind slo shi nul stag sdf of sub sr,i,t,h,Hp=>by
  simp only[fitGFds,Bool.and_eq_true,beq_iff_eq,Bool.not_true,Bool.false_or]at h
  obtain⟨⟨rfl,_⟩,hr⟩:=h
  simp only[lT,Bool.and_eq_true,decide_eq_true_eq]at Hp
  obtain⟨⟨UJ,Hk⟩,Hp⟩:=Hp
  have ek:ar (.cons kind slo shi nul (k0:Int) sdf of sub sr)=Nat.max (k0+1) (ar sr):=by simp only[ar];rw[if_pos (by omega)];simp
  have ek1:k0<Nat.max (k0+1) (ar sr):=Nat.lt_of_lt_of_le (Nat.lt_succ_self _) (Nat.le_max_left ..)
  have ek2:ar sr<=Nat.max (k0+1) (ar sr):=Nat.le_max_right ..
  obtain⟨i2,i3⟩:=n8 ver r sr (i+1) t hr Hp
  have rest:∀ p∈sTgd ver true sr (i+1) t,(∀ m,(Fds.cons lo hi (some k0) df off ty r).above m=true->m<p.1)/\p.1<oD/\p.1<Nat.max (k0+1) (ar sr):=fun p hp=>
   ⟨fun m hm=>(i3 p hp).1 m (by simp only[Fds.above,Bool.and_eq_true]at hm;exact hm.2),(i3 p hp).2.1,Nat.lt_of_lt_of_le (i3 p hp).2.2 ek2⟩
  rw[ek]
  cases IM:aX kind nul sdf (us sub) (t.at i) with
  | true=>rw[oQ IM];exact⟨i2,rest⟩
  | false=>
   rw[rm IM]
   refine⟨List.pairwise_cons.2 ⟨fun p hp=>(i3 p hp).1 k0 UJ,i2⟩,fun p hp=>?_⟩
   rcases List.mem_cons.1 hp with rfl|hp
   ·exact⟨fun m hm=>by simp only[Fds.above,Bool.and_eq_true,decide_eq_true_eq]at hm;exact hm.1,Hk,ek1⟩
   ·exact rest p hp
theorem q8 (ver:Int):∀ (fs:Fds) (sf:SFs) (i:Nat) (t:Tr),fitGFds ver true fs sf=true->p8 ver true fs sf->lT fs=true->(∀ p∈sTgd ver true sf i t,p.2.length<oD) ->
  wrTgd true ver fs (tgFds ver true fs sf i t)=sTgd ver true sf i t /\
  ∀ (f:Nat->Option (List V->RS->gF (List V))) (pre:List V),(∀ k g,rdTag true ver fs k=some g->∃ g',f k=some g'/\∀ vs r,g' (pre++vs) r=(g vs r).bind fun vs' r=>.ok (pre++vs') r)->∀ n acc rest,bW f ((sTgd ver true sf i t).length+n) (pre++dy ver true fs sf i t) acc ⟨bn (sTgd ver true sf i t)++rest,false,false⟩=bW f n (pre++tgFds ver true fs sf i t) acc ⟨rest,false,false⟩
 | .nil,.nil,i,t,_,_,_,_=>⟨by simp[wrTgd,sTgd],fun f pre _ n acc rest=>by simp[sTgd,dy,tgFds,bn]⟩
 | .nil,.cons ..,_,_,h,_,_,_=>by simp[fitGFds]at h
 | .cons ..,.nil,_,_,h,_,_,_=>by simp[fitGFds]at h
 | .cons lo hi none df off ty r,.cons kind slo shi nul stag sdf of sub sr,i,t,h,hF,Hp,hl=>by
  simp only[fitGFds,Bool.and_eq_true,decide_eq_true_eq,beq_iff_eq]at h
  obtain⟨⟨⟨Hl,hh⟩,IF⟩,hr⟩:=h
  simp only[lT,Bool.true_and]at Hp
  rw[rn Hl]at hl ⊢
  obtain⟨i1,i4⟩:=q8 ver r sr (i+1) t hr hF.2 Hp hl
  refine⟨by simp only[wrTgd,tgFds,List.tail_cons,i1,List.nil_append],fun f pre H n acc rest=>?_⟩
  have eh:dy ver true (.cons lo hi none df off ty r) (.cons kind slo shi nul stag sdf of sub sr) i t=(if l6 lo hi ver then dx ver true ty sub ((t.at i).null&&bh nul ver) (t.at i)else dl df ty)::dy ver true r sr (i+1) t:=by simp only[dy,Option.isNone_none,Bool.true_and]
  have eg:tgFds ver true (.cons lo hi none df off ty r) (.cons kind slo shi nul stag sdf of sub sr) i t=(if l6 lo hi ver then dx ver true ty sub ((t.at i).null&&bh nul ver) (t.at i)else dl df ty)::tgFds ver true r sr (i+1) t:=by simp only[tgFds,Option.isNone_none,if_true]
  rw[eh,eg]
  generalize(if l6 lo hi ver then dx ver true ty sub ((t.at i).null&&bh nul ver) (t.at i)else dl df ty)=x
  rw[List.append_cons,List.append_cons pre x (tgFds _ _ _ _ _ _)]
  refine i4 f (pre++[x]) (fun k g hg=>?_) n acc rest
  obtain⟨g',NJ,GA⟩:=H k (fun vs r=>(g vs.tail r).bind fun vs' r=>.ok (vs.headD .nul::vs') r) (by simp only[rdTag];rw[if_neg (by simp),hg];rfl)
  refine⟨g',NJ,fun vs r=>?_⟩
  have:=GA (x::vs) r
  simp only[List.tail_cons,List.headD_cons,ou,uW]at this
  simpa[List.append_assoc]using this
 | .cons lo hi (some k0) df off ty r,.cons kind slo shi nul stag sdf of sub sr,i,t,h,hF,Hp,hl=>by
  simp only[fitGFds,Bool.and_eq_true,beq_iff_eq,Bool.not_true,Bool.false_or]at h
  obtain⟨⟨rfl,⟨Hg,hu⟩,IF⟩,hr⟩:=h
  simp only[lT,Bool.and_eq_true,decide_eq_true_eq]at Hp
  obtain⟨⟨UJ,Hk⟩,Hp⟩:=Hp
  obtain⟨u1,u2⟩:=Bf hu
  have eh:dy ver true (.cons lo hi (some k0) df off ty r) (.cons kind slo shi nul (k0:Int) sdf of sub sr) i t=dl df ty::dy ver true r sr (i+1) t:=by simp only[dy,Option.isNone_some,Bool.false_and,Bool.false_eq_true,if_false]
  have step:∀ (x:V) (f:Nat->Option (List V->RS->gF (List V))) (pre:List V),(∀ k g,rdTag true ver (.cons lo hi (some k0) df off ty r) k=some g->∃ g',f k=some g'/\∀ vs r,g' (pre++vs) r=(g vs r).bind fun vs' r=>.ok (pre++vs') r) ->
    ∀ k g,rdTag true ver r k=some g->∃ g',f k=some g'/\∀ vs r,g' ((pre++[x])++vs) r=(g vs r).bind fun vs' r=>.ok ((pre++[x])++vs') r:=by
   intro x f pre H k g hg
   have Gq:=px true ver r k0 k UJ hg
   obtain⟨g',NJ,GA⟩:=H k (fun vs r=>(g vs.tail r).bind fun vs' r=>.ok (vs.headD .nul::vs') r) (by simp only[rdTag];rw[if_neg (by simp;omega),hg];rfl)
   refine⟨g',NJ,fun vs r=>?_⟩
   have:=GA (x::vs) r
   simp only[List.tail_cons,List.headD_cons,ou,uW]at this
   simpa[List.append_assoc]using this
  cases IM:aX kind nul sdf (us sub) (t.at i) with
  | true=>
   have eg:tgFds ver true (.cons lo hi (some k0) df off ty r) (.cons kind slo shi nul (k0:Int) sdf of sub sr) i t=dl df ty::tgFds ver true r sr (i+1) t:=by simp only[tgFds,Option.isNone_some,Bool.false_eq_true,if_false,IM,Bool.not_true,Bool.and_false]
   rw[oQ IM]at hl ⊢
   obtain⟨i1,i4⟩:=q8 ver r sr (i+1) t hr hF.2 Hp hl
   refine⟨by simp only[eg,wrTgd,List.headD_cons,List.tail_cons,u1,if_true,i1,List.nil_append],fun f pre H n acc rest=>?_⟩
   rw[eh,eg,List.append_cons,List.append_cons pre _ (tgFds _ _ _ _ _ _)]
   exact i4 f (pre++[dl df ty]) (step _ f pre H) n acc rest
  | false=>
   have eg:tgFds ver true (.cons lo hi (some k0) df off ty r) (.cons kind slo shi nul (k0:Int) sdf of sub sr) i t=dx ver true ty sub ((t.at i).null&&bh nul ver) (t.at i)::tgFds ver true r sr (i+1) t:=by simp only[tgFds,Option.isNone_some,Bool.false_eq_true,if_false,IM,Bool.not_false,Bool.and_self,if_true]
   rw[rm IM]at hl ⊢
   have Mj:=hl _ (List.mem_cons_self ..)
   obtain⟨i1,i4⟩:=q8 ver r sr (i+1) t hr hF.2 Hp fun p hp=>hl p (List.mem_cons_of_mem _ hp)
   obtain⟨j1,j2,j3⟩:=hF.1 rfl (t.at i) Mj
   have GS:iX ty df (dx ver true ty sub ((t.at i).null&&bh nul ver) (t.at i))=false:=by rw[u2,IM]
   refine⟨by simp only[eg,wrTgd,List.headD_cons,List.tail_cons,GS,Bool.false_eq_true,if_false,i1,j2,List.cons_append,List.nil_append],fun f pre H n acc rest=>?_⟩
   obtain⟨g',NJ,GA⟩:=H k0 (fun vs r=>(e7 true ver ty (vs.headD .nul) r).bind fun v r=>.ok (v::vs.tail) r) (by simp only[rdTag];rw[if_pos (by simp)])
   have J0:=j1 df [] false (fun h=>by cases h)
   rw[List.append_nil]at J0
   have HS:g' (pre++dl df ty::dy ver true r sr (i+1) t) ⟨FF ver true kind nul of sub (t.at i),false,false⟩=.ok (pre++dx ver true ty sub ((t.at i).null&&bh nul ver) (t.at i)::dy ver true r sr (i+1) t) ⟨[],false,false⟩:=by
    rw[GA]
    simp only[List.headD_cons,List.tail_cons,J0,gF.bind]
   rw[eh,eg,ii,List.append_assoc]
   have e2:((k0,FF ver true kind nul of sub (t.at i))::sTgd ver true sr (i+1) t).length+n=((sTgd ver true sr (i+1) t).length+n)+1:=by simp only[List.length_cons];omega
   rw[e2,zp Hk Mj NJ HS,List.append_cons,List.append_cons pre _ (tgFds _ _ _ _ _ _)]
   exact i4 f _ (step _ f pre H) n acc rest
theorem kC:∀ (m a:Nat) (l:List (Nat × Bs)),l.Pairwise (fun a b=>a.1<b.1)->(∀ p∈l,a<=p.1/\p.1<a+m)->((List.range' a m).flatMap fun k=>l.filter fun p=>p.1==k)=l
 | 0,a,l,_,hb=>by
  cases l with
  | nil=>rfl
  | cons p r=>have:=hb p (List.mem_cons_self ..);omega
 | m+1,a,[],_,_=>by simp
 | m+1,a,p::r,hp,hb=>by
  rw[List.range'_succ,List.flatMap_cons]
  obtain⟨h1,h2⟩:=List.pairwise_cons.1 hp
  have hpb:=hb p (List.mem_cons_self ..)
  by_cases hpa:p.1=a
  ·have e0:r.filter (fun q=>q.1==a)=[]:=List.filter_eq_nil_iff.2 fun q hq=>by
    have:=h1 q hq
    simp;omega
   have e1:(p::r).filter (fun q=>q.1==a)=[p]:=by rw[List.filter_cons_of_pos (by simpa using hpa),e0]
   have e2:((List.range' (a+1) m).flatMap fun k=>(p::r).filter fun q=>q.1==k)=(List.range' (a+1) m).flatMap fun k=>r.filter fun q=>q.1==k:=by
    simp only[List.flatMap_def]
    congr 1
    refine List.map_congr_left fun k hk=>?_
    have:=List.mem_range'_1.1 hk
    rw[List.filter_cons_of_neg (by simp;omega)]
   rw[e1,e2,kC m (a+1) r h2 fun q hq=>?_]
   ·rfl
   ·have b1:=h1 q hq
    have b2:=hb q (List.mem_cons_of_mem _ hq)
    omega
  ·have e1:(p::r).filter (fun q=>q.1==a)=[]:=List.filter_eq_nil_iff.2 fun q hq=>by
    rcases List.mem_cons.1 hq with rfl|hq
    ·simpa using hpa
    ·have:=h1 q hq
     simp;omega
   rw[e1,List.nil_append]
   refine kC m (a+1) (p::r) hp fun q hq=>?_
   have b2:=hb q hq
   rcases List.mem_cons.1 hq with rfl|hq
   ·omega
   ·have:=h1 q hq
    omega
theorem yg {n:Nat}{l:List (Nat × Bs)}(hp:l.Pairwise fun a b=>a.1<b.1)(hb:∀ p∈l,p.1<n):dh n l=l:=by
 unfold dh
 rw[List.range_eq_range']
 exact kC n 0 l hp fun p h=>⟨Nat.zero_le _,by have:=hb p h;omega⟩
theorem vd (ver:Int)(fx:Bool):∀ (fs:Fds) (sf:SFs),fitGFds ver fx fs sf=true->fs.tagged=false->jE sf=true
 | .nil,.nil,_,_=>rfl
 | .nil,.cons ..,h,_=>by simp[fitGFds]at h
 | .cons ..,.nil,h,_=>by simp[fitGFds]at h
 | .cons lo hi (some k) df off ty r,.cons ..,_,ht=>by simp[Fds.tagged]at ht
 | .cons lo hi none df off ty r,.cons kind slo shi nul stag sdf of sub sr,h,ht=>by
  simp only[fitGFds,Bool.and_eq_true,decide_eq_true_eq]at h
  simp only[Fds.tagged,Option.isSome_none,Bool.false_or]at ht
  simp only[jE,vd ver fx r sr h.2 ht,Bool.and_true,decide_eq_true_eq]
  exact h.1.1.1
theorem q7 (ver:Int)(fx:Bool):∀ (fs:Fds) (sf:SFs) (i:Nat) (t:Tr),(fx=false \/ fs.tagged=false)->dy ver fx fs sf i t=tgFds ver fx fs sf i t
 | .nil,_,_,_,_=>by simp[dy,tgFds]
 | .cons lo hi tag df off ty r,.nil,i,t,h=>by
  simp only[dy,tgFds]
  rw[q7 ver fx r .nil (i+1) t (h.imp id fun h=>by simp only[Fds.tagged,Bool.or_eq_false_iff]at h;exact h.2)]
 | .cons lo hi tag df off ty r,.cons kind slo shi nul stag sdf of sub sr,i,t,h=>by
  simp only[dy,tgFds]
  rw[q7 ver fx r sr (i+1) t (h.imp id fun h=>by simp only[Fds.tagged,Bool.or_eq_false_iff]at h;exact h.2)]
  congr 1
  cases tag with
  | none=>simp
  | some k=>
   rcases h with rfl|h
   ·simp
   ·simp[Fds.tagged]at h
theorem kN (fx:Bool)(ver:Int):∀ (fs:Fds) (sf:SFs) (k:Nat),fitGFds ver fx fs sf=true->ar sf<=k->rdTag fx ver fs k=none
 | .nil,_,_,_,_=>by simp[rdTag]
 | .cons ..,.nil,_,h,_=>by simp[fitGFds]at h
 | .cons lo hi none df off ty r,.cons kind slo shi nul stag sdf of sub sr,k,h,hk=>by
  simp only[fitGFds,Bool.and_eq_true,decide_eq_true_eq]at h
  simp only[ar]at hk
  rw[if_neg (by have:=h.1.1.1;omega)]at hk
  simp only[rdTag]
  rw[if_neg (by simp),kN fx ver r sr k h.2 hk]
  rfl
 | .cons lo hi (some j) df off ty r,.cons kind slo shi nul stag sdf of sub sr,k,h,hk=>by
  simp only[fitGFds,Bool.and_eq_true,beq_iff_eq]at h
  obtain⟨⟨rfl,_⟩,hr⟩:=h
  simp only[ar]at hk
  rw[if_pos (by omega)]at hk
  simp only[Int.toNat_natCast]at hk
  have h1:j+1<=k:=Nat.le_trans (Nat.le_max_left ..) hk
  have h2:ar sr<=k:=Nat.le_trans (Nat.le_max_right ..) hk
  simp only[rdTag]
  rw[if_neg (by simp;omega),kN fx ver r sr k hr h2]
  rfl
theorem AM (n:Nat)(t:Tr):∀ y∈ch n t,n<=y.1:=by
 have hm:∀ (k:Nat) (v:Bs) (l:List (Nat × Bs)),(∀ y∈l,n<=y.1)->n<=k->∀ y∈bP k v l,n<=y.1:=fun k v l h hk y hy=>by
  rcases gY k v l y hy with rfl|hy
  ·exact hk
  ·exact h y hy
 have key:∀ (l acc:List (Nat × Bs)),(∀ y∈acc,n<=y.1)->∀ y∈gN n l acc,n<=y.1:=by
  intro l
  induction l with
  | nil=>intro acc h y hy;exact h y hy
  | cons p r ih=>
   obtain⟨k,v⟩:=p
   intro acc h y hy
   simp only[gN]at hy
   refine ih _ ?_ y hy
   split
   ·exact h
   ·rename_i hk
    exact hm k v acc h (by omega)
 intro y hy
 simp only[ch,List.mem_map]at hy
 obtain⟨p,hp,rfl⟩:=hy
 exact key _ [] (fun y hy=>by cases hy) p hp
theorem nu:∀ (l:List (Nat × Bs)),l.length<=(bn l).length
 | []=>by simp[bn]
 | p::r=>by
  have h1:=nu r
  have h2:=ra p
  have h3:=dq p.1
  rw[ii,List.length_append,List.length_cons]
  omega
theorem oI {p:Nat × Bs}:∀ (l:List (Nat × Bs)),p∈l->p.2.length<=(bH l).length
 | [],h=>by cases h
 | a::r,h=>by
  have e:bH (a::r)=iD a++bH r:=rfl
  rw[e,List.length_append]
  rcases List.mem_cons.1 h with rfl|h
  ·simp only[iD,List.length_append];omega
  ·have:=oI r h;omega
theorem uc {ver:Int}{fx:Bool}{fs:Fds}{sf:SFs}(h:fitGFds ver fx fs sf=true)(hF:p8 ver fx fs sf)(Hp:lT fs=true)(t:Tr)(hl:(aM ver fx sf t).length<oD) :
  (∀ rest nl,(nl=true->aM ver fx sf t++rest=[])->fz fx fs.tagged (rdFds fx ver fs) (rdTag fx ver fs) ⟨aM ver fx sf t++rest,false,nl⟩=.ok (.st (tgFds ver fx fs sf 0 t) (if fx then ch (ar sf) t else[])) ⟨rest,false,nl⟩) /\
  wrFds fx ver fs (tgFds ver fx fs sf 0 t)++fc fx (wrTgd fx ver fs (tgFds ver fx fs sf 0 t)) (if fx then ch (ar sf) t else[])=aM ver fx sf t/\((fx || posFds fx ver fs)=true->0<(aM ver fx sf t).length):=by
 have MD:(cD ver fx sf 0 t).length<oD:=by
  rw[aM,List.length_append]at hl;omega
 obtain⟨i1,i2,i3⟩:=ve ver fx fs sf 0 t h hF MD
 cases fx with
 | false=>
  have e:aM ver false sf t=cD ver false sf 0 t:=by simp[aM,gy]
  rw[e]
  refine⟨fun rest nl Hi=>?_,?_,fun hp=>i3 (by simpa using hp)⟩
  ·simp only[fz]
   rw[i1 rest nl Hi,q7 ver false fs sf 0 t (.inl rfl)]
   simp[gF.bind]
  ·rw[i2];simp[fc]
 | true=>
  have htp:∀ n u,0<(gy true n (sTgd ver true sf 0 t) u).length:=fun n u=>by
   simp only[gy,if_true,List.length_append]
   have:=dq ((dh n (sTgd ver true sf 0 t)).length+(de n u).length)
   omega
  have Hg:0<(aM ver true sf t).length:=by
   rw[aM,List.length_append]
   have:=htp (ar sf) t.tags
   omega
  cases Hv:fs.tagged with
  | false=>
   have Iy:=vd ver true fs sf h Hv
   have e:=r3 (ver:=ver) (fx:=true) Iy t
   rw[kK sf Iy]at e ⊢
   refine⟨fun rest nl Hi=>?_,?_,fun _=>Hg⟩
   ·rw[e]at Hi ⊢
    have:=DA (_ver:=ver) (fx:=true) (tag:=rdTag true ver fs) (t:=t) i1 rest nl Hi
    rw[this,q7 ver true fs sf 0 t (.inr Hv)]
   ·rw[i2,iy true ver fs _ Hv,lL,e]
  | true=>
   obtain⟨k1,k2⟩:=n8 ver fs sf 0 t h Hp
   have PQ:dh (ar sf) (sTgd ver true sf 0 t)=sTgd ver true sf 0 t:=yg k1 fun p hp=>(k2 p hp).2.2
   obtain⟨a,b,c,d⟩:=nF (ar sf) t
   have e0:aM ver true sf t=cD ver true sf 0 t++(uvar ((sTgd ver true sf 0 t).length+(ch (ar sf) t).length)++(bH (sTgd ver true sf 0 t)++bH (ch (ar sf) t))):=by
    rw[aM,gy,if_pos rfl,PQ,<- d]
    rfl
   have Mj:∀ p∈sTgd ver true sf 0 t,p.2.length<oD:=fun p hp=>by
    have:=oI _ hp
    rw[e0]at hl
    simp only[List.length_append]at hl
    omega
   have w1:bH (sTgd ver true sf 0 t)=bn (sTgd ver true sf 0 t):=mL _ fun y hy=>⟨(k2 y hy).2.1,Mj y hy⟩
   have w2:bH (ch (ar sf) t)=bn (ch (ar sf) t):=mL _ fun y hy=>(b y hy).1
   rw[w1,w2]at e0
   have hc:(sTgd ver true sf 0 t).length+(ch (ar sf) t).length<oD:=by
    have g1:=nu (sTgd ver true sf 0 t)
    have g2:=nu (ch (ar sf) t)
    rw[e0]at hl
    simp only[List.length_append]at hl
    omega
   obtain⟨t1,t2⟩:=q8 ver fs sf 0 t h hF Hp Mj
   refine⟨fun rest nl Hi=>?_,?_,fun _=>Hg⟩
   ·obtain rfl:=g7 Hi Hg
    have PW:(false=true->cD ver true sf 0 t++(uvar ((sTgd ver true sf 0 t).length+(ch (ar sf) t).length)++(bn (sTgd ver true sf 0 t)++(bn (ch (ar sf) t)++rest)))=[]):=fun h=>by cases h
    rw[e0]
    simp only[List.append_assoc]
    simp only[fz]
    rw[i1 _ false PW]
    simp only[gF.bind,Bool.not_true,Bool.false_eq_true,if_false,if_true]
    rw[dJ hc]
    simp only
    have:=t2 (rdTag true ver fs) [] (fun k g hg=>⟨g,hg,fun vs r=>by cases hh:g vs r<;>simp[hh,gF.bind]⟩) (ch (ar sf) t).length [] (bn (ch (ar sf) t)++rest)
    rw[List.nil_append,List.nil_append]at this
    rw[this,rO (ch (ar sf) t) [] rest (by simpa using a) fun y hy=>⟨(b y hy).1,kN true ver fs sf y.1 h (AM _ t y hy)⟩]
    simp
   ·have hw:dL ((sTgd ver true sf 0 t).length+(ch (ar sf) t).length)=(sTgd ver true sf 0 t).length+(ch (ar sf) t).length:=Nat.mod_eq_of_lt hc
    rw[i2,t1,e0]
    simp only[fc,if_true,hw]
mutual
theorem FE (ver:Int)(fx:Bool):∀ (ty:Ty) (kind:Nat) (n:Int) (of:Nat) (sub:SFs),fL ver fx ty kind n of sub=true->An ver fx ty (FF ver fx kind n of sub) fun t=>dx ver fx ty sub (t.null&&bh n ver) t
 | .prim p,kind,n,of,sub,h=>by
  simp only[fL,beq_iff_eq]at h
  subst h
  have ev:∀ t:Tr,dx ver fx (.prim p) sub (t.null&&bh n ver) t=iz p t:=fun t=>by cases p<;>simp only[dx,iz]
  have eF:∀ t:Tr,FF ver fx (dP p) n of sub t=eq (dP p) (t.null&&bh n ver) fx (aM ver fx sub) t:=fun t=>by
   have Is:dP p≠11:=by cases p<;>simp[dP]
   have Iz:dP p≠10:=by cases p<;>simp[dP]
   simp only[FF,dZ,if_neg Is]
   rw[if_neg (fun h=>Iz h.1)]
  refine(uf (p:=bN p) (q:=bN p) (fun old r=>by simp only[e7]) (fun x=>by simp only[bO,cZ]) (fun t=>?_) (fun t=>?_)).g
  ·rw[ev,eF];exact uz p _ fx _ t
  ·rw[ev,eF];exact(uz p _ fx _ t).1
 | .str nul,kind,n,of,sub,h=>by
  simp only[fL,Bool.and_eq_true,beq_iff_eq]at h
  obtain⟨rfl,h2⟩:=h
  have ev:∀ t:Tr,dx ver fx (.str nul) sub (t.null&&bh n ver) t=jy (t.null&&bh n ver) t.octets:=fun t=>by simp only[dx,jy]
  have eF:∀ t:Tr,FF ver fx 8 n of sub t=eu fx (t.null&&bh n ver) 2 t.octets:=fun t=>by simp[FF,dZ,eq]
  have hb:∀ t:Tr,(t.null&&bh n ver)=true->dK nul ver=true:=fun t h=>by simp only[Bool.and_eq_true]at h;rw[h.2]at h2;simpa using h2
  refine(uf (p:=dM (dK nul ver) fx) (q:=dM (dK nul ver) fx) (fun old r=>by simp only[e7]) (fun x=>by simp only[bO,cZ]) (fun t=>?_) (fun t=>?_)).g
  ·rw[ev,eF];exact xq _ fx _ (hb t) _
  ·rw[ev,eF];exact(xq _ fx _ (hb t) _).1
 | .bytes nul,kind,n,of,sub,h=>by
  simp only[fL,Bool.and_eq_true,beq_iff_eq]at h
  obtain⟨rfl,h2⟩:=h
  have ev:∀ t:Tr,dx ver fx (.bytes nul) sub (t.null&&bh n ver) t=jy (t.null&&bh n ver) t.octets:=fun t=>by simp only[dx,jy]
  have eF:∀ t:Tr,FF ver fx 9 n of sub t=eu fx (t.null&&bh n ver) 4 t.octets:=fun t=>by simp[FF,dZ,eq]
  have hb:∀ t:Tr,(t.null&&bh n ver)=true->dK nul ver=true:=fun t h=>by simp only[Bool.and_eq_true]at h;rw[h.2]at h2;simpa using h2
  have hc:dK nul ver=true->nul.isSome=true:=fun h=>by cases nul<;>simp[dK]at h ⊢
  refine(uf (p:=bS (dK nul ver) fx) (q:=bS nul.isSome fx) (fun old r=>by simp only[e7]) (fun x=>by simp only[bO,cZ]) (fun t=>?_) (fun t=>?_)).g
  ·rw[ev,eF];exact qQ _ fx _ (hb t) _
  ·rw[ev,eF];exact(qQ _ fx _ (fun h=>hc (hb t h)) _).1
 | .list nul esz e,kind,n,of,sub,h=>by
  simp only[fL,Bool.and_eq_true,beq_iff_eq,decide_eq_true_eq,Bool.not_eq_true']at h
  obtain⟨⟨⟨⟨⟨rfl,h1⟩,h2⟩,h3⟩,h4⟩,h5⟩:=h
  have To:of≠11:=by
   cases e with
   | prim p=>simp only[fL,beq_iff_eq]at h5;subst h5;cases p<;>simp[dP]
   | str=>simp only[fL,Bool.and_eq_true,beq_iff_eq]at h5;have:=h5.1;omega
   | bytes=>simp only[fL,Bool.and_eq_true,beq_iff_eq]at h5;have:=h5.1;omega
   | list=>cases h3
   | struct=>simp only[fL,Bool.and_eq_true,beq_iff_eq]at h5;omega
  exact Df h1 h2 h4 To (FE ver fx e of (-1) 0 sub h5)
 | .struct none toff fs,kind,n,of,sub,h=>by
  simp only[fL,Bool.and_eq_true,beq_iff_eq,Option.isSome_none]at h
  obtain⟨⟨⟨rfl,h1⟩,Hp⟩,h2⟩:=h
  have hn:n<0:=by have:=h1.symm;simp only[decide_eq_false_iff_not]at this;omega
  have hsn:bh n ver=false:=by simp only[bh];rw[decide_eq_false (by omega)];rfl
  have GV:=g_fs ver fx fs sub h2
  intro t hl
  have eF:FF ver fx 10 n of sub t=aM ver fx sub t:=by
   simp only[FF,dZ,eq]
   rw[if_neg (by omega),if_neg (by omega),if_neg (by omega),if_neg (by omega),if_neg (by omega),if_neg (by omega),if_pos trivial]
  rw[eF]at hl
  obtain⟨i1,i2,i3⟩:=uc h2 GV Hp t hl
  have ev:dx ver fx (.struct none toff fs) sub (t.null&&bh n ver) t=.st (tgFds ver fx fs sub 0 t) (if fx then ch (ar sub) t else[]):=by
   rw[hsn,Bool.and_false];simp only[dx,Bool.false_eq_true,if_false]
  refine⟨fun df rest nl Hi=>?_,?_,fun Hg=>?_⟩
  ·simp only[ev,eF]at Hi ⊢
   simp only[e7]
   exact i1 rest nl Hi
  ·simp only[ev,eF,bO,V.fields,V.tags]
   exact i2
  ·rw[eF]
   simp only[nR]at Hg
   exact i3 Hg
 | .struct (some m) toff fs,kind,n,of,sub,h=>by
  simp only[fL,Bool.and_eq_true,beq_iff_eq,Option.isSome_some]at h
  obtain⟨⟨⟨rfl,h1⟩,Hp⟩,h2⟩:=h
  have hn:0<=n:=by have:=h1.symm;simp only[decide_eq_true_eq]at this;exact this
  have GV:=g_fs ver fx fs sub h2
  intro t hl
  have eF:FF ver fx 10 n of sub t=if(t.null&&bh n ver)=true then[255]else 1::aM ver fx sub t:=by
   simp only[FF,dZ]
   rw[if_neg (by omega),if_pos ⟨trivial,hn⟩]
  have ev:dx ver fx (.struct (some m) toff fs) sub (t.null&&bh n ver) t=if(t.null&&bh n ver)=true then .nul else .st (tgFds ver fx fs sub 0 t) (if fx then ch (ar sub) t else[]):=by
   simp only[dx]
  have Hg:0<(FF ver fx 10 n of sub t).length:=by rw[eF];split<;>simp
  cases HI:(t.null&&bh n ver) with
  | true=>
   rw[HI]at ev eF
   simp only[if_true]at ev eF
   refine⟨fun df rest nl Hi=>?_,?_,fun _=>Hg⟩
   ·obtain rfl:=g7 Hi Hg
    have:rI 1 ⟨[255]++rest,false,false⟩=(-1,⟨rest,false,false⟩):=by
     have h:=kq (k:=1) (x:=-1) (by omega) (by simp) rest false
     rwa [show be 1 (-1)=[255] from by decide]at h
    simp only[HI,ev,eF,e7,dl,V.isNul,Bool.not_true,Bool.false_eq_true,if_false,this]
    simp
   ·simp only[HI,ev,eF,bO,V.isNul,if_true]
  | false=>
   rw[HI]at ev eF
   simp only[Bool.false_eq_true,if_false]at ev eF
   rw[eF,List.length_cons]at hl
   obtain⟨i1,i2,i3⟩:=uc h2 GV Hp t (by omega)
   refine⟨fun df rest nl Hi=>?_,?_,fun _=>Hg⟩
   ·obtain rfl:=g7 Hi Hg
    have:∀ l:Bs,rI 1 ⟨1::l,false,false⟩=(1,⟨l,false,false⟩):=fun l=>by
     have h:=kq (k:=1) (x:=1) (by omega) (by simp) l false
     rwa [show be 1 1=[1] from by decide]at h
    simp only[HI,ev,eF,e7,dl,V.isNul,Bool.not_true,Bool.false_eq_true,if_false,List.cons_append,this]
    rw[if_neg (by simp)]
    exact i1 rest false (fun h=>by cases h)
   ·simp only[HI,ev,eF,bO,V.isNul,V.fields,V.tags,Bool.false_eq_true,if_false,i2]
theorem g_fs (ver:Int)(fx:Bool):∀ (fs:Fds) (sf:SFs),fitGFds ver fx fs sf=true->p8 ver fx fs sf
 | .nil,_,_=>by simp[p8]
 | .cons ..,.nil,h=>by simp[fitGFds]at h
 | .cons lo hi tag df off ty r,.cons kind slo shi nul stag sdf of sub sr,h=>by
  simp only[fitGFds,Bool.and_eq_true]at h
  refine⟨fun hc=>FE ver fx ty kind nul of sub ?_,g_fs ver fx r sr h.2⟩
  cases tag with
  | none=>
   have h1:=h.1
   simp only[Option.isNone_none,if_true]at hc
   simp only[hc,Bool.and_eq_true,Bool.not_true,Bool.false_or]at h1
   exact h1.2
  | some k=>
   have h1:=h.1
   simp only[Option.isNone_some,Bool.false_eq_true,if_false]at hc
   simp only[hc,Bool.and_eq_true,Bool.not_true,Bool.false_or]at h1
   rw[hc]
   exact h1.2.2
end
theorem rY {hf:Bool}{flex:Nat}{fs:Fds}{sf:SFs}{ver:Int}{fx:Bool}(HN:(hf&&decide ((flex:Int)<=ver))=fx)(h:(fitGFds ver fx fs sf&&lT fs)=true)(t:Tr)(hl:(aM ver fx sf t).length<oD) :
  ∃ v nl,jw hf flex fs ver (m4 (aM ver fx sf t))=.ok v ⟨[],false,nl⟩/\fU false hf flex fs ver v=aM ver fx sf t:=by
 simp only[Bool.and_eq_true]at h
 obtain⟨i1,i2,_⟩:=uc h.1 (g_fs ver fx fs sf h.1) h.2 t hl
 refine⟨.st (tgFds ver fx fs sf 0 t) (if fx then ch (ar sf) t else[]),(aM ver fx sf t).isEmpty,?_,?_⟩
 ·simp only[jw,HN,m4]
  have:=i1 [] (aM ver fx sf t).isEmpty (fun hh=>by rw[List.append_nil];simpa using hh)
  rw[List.append_nil]at this
  exact this
 ·simp only[fU,HN,Bool.false_eq_true,if_false,List.nil_append,V.fields,V.tags]
  exact i2
theorem ug {hf:Bool}{flex:Nat}{fs:Fds}{sf:SFs}{ver:Int}{fx:Bool}(HN:(hf&&decide ((flex:Int)<=ver))=fx)(h:(fitGFds ver fx fs sf&&lT fs)=true)(t:Tr)(hl:(aM ver fx sf t).length<oD) :
  againOut false hf flex fs ver (aM ver fx sf t)=some (aM ver fx sf t):=by
 obtain⟨v,nl,h1,h2⟩:=rY HN h t hl
 simp only[againOut,eL,Bool.false_eq_true,if_false,h1,h2]
end Go.Proofs.YtbgklecbmhaadaaGreatDoor.Kx