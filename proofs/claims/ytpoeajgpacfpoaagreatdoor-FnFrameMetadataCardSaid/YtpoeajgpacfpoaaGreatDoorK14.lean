/-
  PLAIN LAWS AND CONTRACTS of messages, part 14.
-/
import Derived.Test.YtpoeajgpacfpoaaGreatDoorK12

namespace Go.Proofs.YtpoeajgpacfpoaaGreatDoor.Kx
open Go
theorem oT {f:RS->jq V}{w:Tr->Bs}{v:Tr->V}:∀ (ts:List Tr),(∀ t∈ts,∀ rest,f ⟨w t++rest,false,false⟩=.ok (v t) ⟨rest,false,false⟩)->∀ rest,fi f ts.length ⟨(ts.map w).flatten++rest,false,false⟩=.ok (ts.map v) ⟨rest,false,false⟩
 | [],_,rest=>by simp[fi]
 | t::ts,h,rest=>by
  simp only[List.map_cons,List.flatten_cons,List.length_cons,fi,List.append_assoc]
  rw[h t (List.mem_cons_self ..)]
  simp only[jq.bind]
  rw[oT ts (fun t ht=>h t (List.mem_cons_of_mem _ ht)) rest]
theorem oc {w:Tr->Bs}:∀ (ts:List Tr),(∀ t∈ts,0<(w t).length)->ts.length<=(ts.map w).flatten.length
 | [],_=>by simp
 | t::ts,h=>by
  have h1:=h t (List.mem_cons_self ..)
  have h2:=oc ts fun t ht=>h t (List.mem_cons_of_mem _ ht)
  simp only[List.map_cons,List.flatten_cons,List.length_cons,List.length_append]
  omega
theorem jb (k:Nat)(v:Bs):∀ (l:List (Nat × Bs)) (y:Nat × Bs),y∈cu k v l->y=(k,v) \/ y∈l
 | [],y,h=>by simpa[cu]using h
 | (j,u)::r,y,h=>by
  simp only[cu]at h
  split at h
  ·simpa using h
  ·split at h
   ·exact .inr h
   ·rcases List.mem_cons.1 h with h|h
    ·exact .inr (h ▸ List.mem_cons_self ..)
    ·rcases jb k v r y h with h|h
     ·exact .inl h
     ·exact .inr (List.mem_cons_of_mem _ h)
theorem my (k:Nat)(v:Bs):∀ (l:List (Nat × Bs)),l.Pairwise (fun a b=>a.1<b.1)->(cu k v l).Pairwise (fun a b=>a.1<b.1)
 | [],_=>by simp[cu]
 | (j,u)::r,h=>by
  obtain⟨h1,h2⟩:=List.pairwise_cons.1 h
  simp only[cu]
  split
  ·rename_i hk
   refine List.pairwise_cons.2 ⟨fun y hy=>?_,h⟩
   rcases List.mem_cons.1 hy with rfl|hy
   ·exact hk
   ·exact Nat.lt_trans hk (h1 y hy)
  ·split
   ·exact h
   ·refine List.pairwise_cons.2 ⟨fun y hy=>?_,my k v r h2⟩
    rcases jb k v r y hy with rfl|hy
    ·show j<k;omega
    ·exact h1 y hy
theorem lx (k:Nat)(v:Bs):∀ (l:List (Nat × Bs)),(cu k v l).length<=l.length+1
 | []=>by simp[cu]
 | (j,u)::r=>by
  have:=lx k v r
  simp only[cu]
  split
  ·simp
  ·split<;>simp<;>omega
theorem nA (n:Nat):∀ (l acc:List (Nat × Bs)),acc.Pairwise (fun a b=>a.1<b.1)->(j4 n l acc).Pairwise (fun a b=>a.1<b.1)/\(∀ y∈j4 n l acc,y∈l \/ y∈acc)/\(j4 n l acc).length<=l.length+acc.length
 | [],acc,h=>⟨h,fun y hy=>.inr hy,by simp[j4]⟩
 | (k,v)::r,acc,h=>by
  simp only[j4]
  split
  ·obtain⟨a,b,c⟩:=nA n r acc h
   refine⟨a,fun y hy=>(b y hy).imp (List.mem_cons_of_mem _) id,?_⟩
   simp only[List.length_cons];omega
  ·obtain⟨a,b,c⟩:=nA n r (cu k v acc) (my k v acc h)
   have hl:=lx k v acc
   refine⟨a,fun y hy=>?_,by simp only[List.length_cons];omega⟩
   rcases b y hy with h1|h1
   ·exact .inl (List.mem_cons_of_mem _ h1)
   ·rcases jb k v acc y h1 with rfl|h1
    ·exact .inl (List.mem_cons_self ..)
    ·exact .inr h1
theorem zQ (t:Tr):∀ y∈t.tags,y.1<4294967296:=by
 obtain⟨_,_,_,_,u⟩:=t
 intro y hy
 simp only[Tr.tags,List.mem_map]at hy
 obtain⟨p,_,rfl⟩:=hy
 exact p.1.toNat_lt
theorem pO (n:Nat)(t:Tr):(gU n t.tags).Pairwise (fun a b=>a.1<b.1)/\(∀ y∈gU n t.tags,y.1<4294967296)/\(gU n t.tags).length<=aH:=by
 obtain⟨a,b,c⟩:=nA n (t.tags.take aH) [] List.Pairwise.nil
 refine⟨a,fun y hy=>zQ t y ?_,?_⟩
 ·rcases b y hy with h|h
  ·exact List.mem_of_mem_take h
  ·cases h
 ·have:(t.tags.take aH).length<=aH:=by rw[List.length_take];exact Nat.min_le_left ..
  simp only[List.length_nil]at c
  exact Nat.le_trans c (by omega)
theorem qK (n:Nat)(t:Tr):(dF n t).Pairwise (fun a b=>a.1<b.1)/\(∀ y∈dF n t,zp y/\y.2.length<=aH)/\(dF n t).length<=aH/\(dF n t).length=(gU n t.tags).length:=by
 obtain⟨a,b,c⟩:=pO n t
 refine⟨?_,fun y hy=>?_,by simpa[dF]using c,by simp[dF]⟩
 ·unfold dF
  rw[List.pairwise_map]
  exact a
 ·simp only[dF,List.mem_map]at hy
  obtain⟨p,hp,rfl⟩:=hy
  have:=f8 p.2
  exact⟨⟨b p hp,by simp only[aH]at *;omega⟩,this⟩
theorem um:∀ (l:List (Nat × Bs)),(∀ y∈l,zp y)->oO l=bQ l
 | [],_=>rfl
 | p::r,h=>by
  have h1:=h p (List.mem_cons_self ..)
  have:dj p.2.length=p.2.length:=Nat.mod_eq_of_lt h1.2
  have e:=um r fun y hy=>h y (List.mem_cons_of_mem _ hy)
  simp only[oO,List.map_cons,List.flatten_cons,bQ,o6,dm,this]at e ⊢
  rw[e]
def ga:SFs->Bool
 | .nil=>true
 | .cons _ _ _ _ tag _ _ _ r=>decide (tag<0)&&ga r
theorem d9:∀ sf:SFs,ga sf=true->aQ sf=0
 | .nil,_=>rfl
 | .cons _ _ _ _ tag _ _ _ r,h=>by
  simp only[ga,Bool.and_eq_true,decide_eq_true_eq]at h
  simp only[aQ,d9 r h.2]
  rw[if_neg (by omega)]
theorem kY (ver:Int)(fx:Bool):∀ (sf:SFs) (i:Nat) (t:Tr),ga sf=true->sTgd ver fx sf i t=[]
 | .nil,_,_,_=>by simp[sTgd]
 | .cons _ _ _ _ tag _ _ _ r,i,t,h=>by
  simp only[ga,Bool.and_eq_true,decide_eq_true_eq]at h
  simp only[sTgd,kY ver fx r (i+1) t h.2,List.append_nil]
  rw[if_neg (by omega)]
theorem qM (fx:Bool)(t:Tr):jk fx 0 [] t.tags=bH fx (if fx then dF 0 t else[]):=by
 obtain⟨a,b,c,d⟩:=qK 0 t
 cases fx with
 | false=>simp[jk,bH]
 | true=>
  have hw:dj (dF 0 t).length=(gU 0 t.tags).length:=by rw[d];simp only[dj,aH]at *;omega
  simp only[jk,bH,if_true,hw,oP,List.range_zero,List.flatMap_nil,List.length_nil,Nat.zero_add]
  rw[<- um _ fun y hy=>(b y hy).1]
  rfl
theorem jZ (ver:Int)(fx:Bool):∀ (fs:Fds) (sf:SFs),fitFds ver fx fs sf=true->ga sf=true/\fs.tagged=false
 | .nil,.nil,_=>⟨rfl,rfl⟩
 | .nil,.cons ..,h=>by simp[fitFds]at h
 | .cons ..,.nil,h=>by simp[fitFds]at h
 | .cons lo hi tag df off ty r,.cons kind slo shi nul stag sdf of sub sr,h=>by
  simp only[fitFds,Bool.and_eq_true,decide_eq_true_eq]at h
  obtain⟨a,b⟩:=jZ ver fx r sr h.2
  refine⟨by simp only[ga,a,Bool.and_true,decide_eq_true_eq];exact h.1.1.1.2,?_⟩
  have:=h.1.1.1.1
  cases tag with
  | none=>simp only[Fds.tagged,b];rfl
  | some _=>cases this
theorem j5 {ver:Int}{fx:Bool}{sf:SFs}(h:ga sf=true)(t:Tr):bh ver fx sf t=cX ver fx sf 0 t++bH fx (if fx then dF (aQ sf) t else[]):=by
 rw[bh,d9 sf h,kY ver fx sf 0 t h,qM]
theorem xq {_ver:Int}{fx:Bool}{fields:RS->jq (List V)}{tag:Nat->Option (List V->RS->jq (List V))}{F:Bs}{vs:List V}{t:Tr}(hf:∀ rest nl,(nl=true->F++rest=[])->fields ⟨F++rest,false,nl⟩=.ok vs ⟨rest,false,nl⟩)(rest:Bs)(nl:Bool)
  (Jj:nl=true->F++bH fx (if fx then dF 0 t else[])++rest=[]):gJ fx false fields tag ⟨F++bH fx (if fx then dF 0 t else[])++rest,false,nl⟩=.ok (.st vs (if fx then dF 0 t else[])) ⟨rest,false,nl⟩:=by
 unfold gJ
 rw[List.append_assoc]at Jj ⊢
 rw[hf _ nl Jj]
 simp only[jq.bind]
 cases fx with
 | false=>simp[bH]
 | true=>
  obtain⟨a,b,c,d⟩:=qK 0 t
  have hw:dj (dF 0 t).length=(dF 0 t).length:=by simp only[dj,aH]at *;omega
  have hn:nl=false:=by
   refine iK (l:=bH true (dF 0 t)) (rest:=rest) (fun h=>?_) ?_
   ·have:=Jj h
    simp only[if_true]at this
    exact(List.append_eq_nil_iff.1 this).2
   ·simp only[bH,if_true,List.length_append]
    have:=dW (dj (dF 0 t).length)
    omega
  subst hn
  simp only[Bool.not_true,Bool.false_eq_true,if_false,if_true,bH,hw,List.append_assoc]
  rw[fT (by simp only[aH]at c;omega)]
  simp only
  rw[mq _ [] rest (by simpa using a) fun y hy=>(b y hy).1]
  simp
theorem uo (ver:Int):bW (-1) ver=false:=by simp[bW]
theorem vm {kind:Nat}(h:kind≠11)(of:Nat)(ver:Int)(fx:Bool)(pt:Tr->Bs)(t:Tr):eH kind (-1) of ver fx pt t=eE kind false fx pt t:=by
 simp only[eH,if_neg h,uo,Bool.and_false]
 rw[if_neg (by omega)]
theorem yU {ver:Int}{fx:Bool}{ty:Ty}{kind:Nat}{n:Int}{of:Nat}{sub:SFs}(h:im ver fx ty kind n of sub=true)(hl:ty.isList=false):kind≠11:=by
 cases ty with
 | prim p=>simp only[im,beq_iff_eq]at h;subst h;cases p<;>simp[iI]
 | str=>simp only[im,Bool.and_eq_true,beq_iff_eq]at h;have:=h.1;omega
 | bytes=>simp only[im,Bool.and_eq_true,beq_iff_eq]at h;have:=h.1;omega
 | list=>cases hl
 | struct=>simp only[im,Bool.and_eq_true,beq_iff_eq]at h;omega
theorem vn (fx:Bool)(n:Nat):gu fx true n 4=cf fx 4:=by cases fx<;>rfl
theorem xF (fx:Bool){n:Nat}(h:n<=aH):gu fx false n 4=fe fx n:=by
 cases fx with
 | false=>rfl
 | true=>
  have:dj (n+1)=n+1:=by simp only[dj,aH]at *;omega
  simp[gu,fe,this]
def FF (ver:Int)(fx:Bool)(kind:Nat)(nul:Int)(of:Nat)(sub:SFs)(t:Tr):Bs:=eH kind nul of ver fx (bh ver fx sub) t
def wv (ver:Int)(fx:Bool)(ty:Ty)(F:Tr->Bs)(v:Tr->V):Prop:=
 ∀ t,(∀ (df:Int) rest nl,(nl=true->F t++rest=[])->e9 fx ver ty (eV df ty) ⟨F t++rest,false,nl⟩=.ok (v t) ⟨rest,false,nl⟩)/\bL fx ver ty (v t)=F t/\(oV fx ver ty=true->0<(F t).length)
theorem tk {ver:Int}{fx:Bool}{ty:Ty}{F:Tr->Bs}{v:Tr->V}{p q:PF}(hr:∀ old r,e9 fx ver ty old r=.ok (p.run r).1 (p.run r).2)(hw:∀ x,bL fx ver ty x=q.wr x)(hp:∀ t,p.wr (v t)=F t/\vD p (v t))(hq:∀ t,q.wr (v t)=F t):wv ver fx ty F v:=by
 intro t
 have Jd:0<(F t).length:=by rw[<- (hp t).1];exact Bv p _ (hp t).2
 refine⟨fun df rest nl Jj=>?_,by rw[hw,hq],fun _=>Jd⟩
 obtain rfl:=iK Jj Jd
 rw[hr,<- (hp t).1,EW p _ (hp t).2 rest]
theorem yT {ver:Int}{fx:Bool}{nul:Option Nat}{esz of:Nat}{n:Int}{e:Ty}{sub:SFs}(h1:(!bW n ver || (nul.isSome&&eJ nul ver))=true)(hesz:esz<=10000)(Jd:oV fx ver e=true)(hof:of≠11)
  (ih:wv ver fx e (FF ver fx of (-1) 0 sub) fun t=>me ver fx e sub (t.null&&bW (-1) ver) t):wv ver fx (.list nul esz e) (FF ver fx 11 n of sub) fun t=>me ver fx (.list nul esz e) sub (t.null&&bW n ver) t:=by
 have er:∀ df r,e9 fx ver (.list nul esz e) (eV df (.list nul esz e)) r=if(cA fx r).2.bad then .err else if !ll (cA fx r).1 esz then .stuck else
   if(cA fx r).1<=0 then .ok (if nul.isSome&&(decide ((cA fx r).1=0) || !eJ nul ver)then .l []else .nul) (cA fx r).2
   else(fi (e9 fx ver e (eV 0 e)) (cA fx r).1.toNat (cA fx r).2).bind fun vs r=>.ok (.l vs) r:=fun df r=>by simp only[e9,eV,V.isNul,Bool.not_true,Bool.false_eq_true,if_false]
 have ew:∀ v,bL fx ver (.list nul esz e) v=(if ce nul ver&&v.isNul then cf fx 4 else fe fx v.list.length)++iA (bL fx ver e) v.list:=fun v=>by simp only[bL]
 have eF:∀ t,FF ver fx of (-1) 0 sub t=eE of false fx (bh ver fx sub) t:=fun t=>vm hof 0 ver fx _ t
 have ev:∀ t,me ver fx e sub (t.null&&bW (-1) ver) t=me ver fx e sub false t:=fun t=>by rw[uo,Bool.and_false]
 have roomyB:∀ (L:Int),L<=aH->ll L esz=true:=fun L hL=>by
  simp only[ll,decide_eq_true_eq]
  simp only[aH]at hL
  have h1:(24*(esz:Int)+8)<=240008:=by omega
  by_cases h0:L<=0
  ·have:L*(24*(esz:Int)+8)<=0:=Int.mul_nonpos_of_nonpos_of_nonneg h0 (by omega)
   omega
  ·have h2:L*(24*(esz:Int)+8)<=32767*240008:=Int.mul_le_mul hL h1 (by omega) (by omega)
   omega
 intro t
 cases II:(t.null&&bW n ver) with
 | true=>
  have hs:bW n ver=true:=by simp only[Bool.and_eq_true]at II;exact II.2
  rw[hs]at h1
  simp only[Bool.not_true,Bool.false_or,Bool.and_eq_true]at h1
  have eF0:FF ver fx 11 n of sub t=cf fx 4:=by simp only[FF,eH,if_true,II,d7,List.length_nil,List.map_nil,List.flatten_nil,List.append_nil,vn]
  have ev0:me ver fx (.list nul esz e) sub (t.null&&bW n ver) t=.nul:=by rw[II];simp only[me,if_true]
  simp only[II]at ev0
  refine⟨fun df rest nl Jj=>?_,?_,fun _=>by rw[eF0];exact oF fx⟩
  ·rw[eF0]at Jj ⊢
   obtain rfl:=iK Jj (oF fx)
   simp only[II,ev0,er,vx fx rest]
   rw[roomyB (-1) (by simp only[aH];omega)]
   simp[h1.2]
  ·simp only[II,ev0,ew,eF0,yx h1.2,V.isNul,V.list,Bool.and_self,if_true,iA,List.map_nil,List.flatten_nil,List.append_nil]
 | false=>
  have Ib:(t.list.take aH).length<=aH:=by rw[List.length_take];exact Nat.min_le_left ..
  have eF0:FF ver fx 11 n of sub t=fe fx (t.list.take aH).length++((t.list.take aH).map (FF ver fx of (-1) 0 sub)).flatten:=by
   have:FF ver fx of (-1) 0 sub=eE of false fx (bh ver fx sub):=funext eF
   rw[this]
   simp only[FF,eH,if_true,II,d7,Bool.false_eq_true,if_false,xF fx Ib]
  have Jh:=oc (w:=FF ver fx of (-1) 0 sub) (t.list.take aH) fun t' _=>(ih t').2.2 Jd
  have hp:0<(FF ver fx 11 n of sub t).length:=by rw[eF0,List.length_append];have:=wX fx (t.list.take aH).length;omega
  by_cases he:t.list.isEmpty=true
  ·have JO:t.list=[]:=List.isEmpty_iff.1 he
   have ev0:me ver fx (.list nul esz e) sub (t.null&&bW n ver) t=if nul.isSome then .l []else .nul:=by rw[II];simp only[me,he,Bool.false_eq_true,if_false,if_true]
   simp only[II]at ev0
   have eF1:FF ver fx 11 n of sub t=fe fx 0:=by rw[eF0,JO];simp
   refine⟨fun df rest nl Jj=>?_,?_,fun _=>hp⟩
   ·obtain rfl:=iK Jj hp
    have hr:=qQ fx (n:=0) (by omega) rest (Nat.zero_le _)
    simp only[II,ev0,er,eF1,hr]
    rw[show((0:Nat):Int)=0 from rfl,roomyB 0 (by simp only[aH];omega)]
    simp
   ·simp only[II,ev0,ew,eF1]
    cases nul<;>simp[ce,V.isNul,V.list,iA]
  ·have Kl:t.list≠[]:=fun h=>he (List.isEmpty_iff.2 h)
   have hpos':0<(t.list.take aH).length:=by
    have:=List.length_pos_iff.2 Kl
    rw[List.length_take];simp only[aH];omega
   have ev0:me ver fx (.list nul esz e) sub (t.null&&bW n ver) t=.l ((t.list.take aH).map fun t=>me ver fx e sub false t):=by rw[II];simp only[me,if_neg he,Bool.false_eq_true,if_false]
   simp only[II]at ev0
   refine⟨fun df rest nl Jj=>?_,?_,fun _=>hp⟩
   ·obtain rfl:=iK Jj hp
    have hr:=qQ fx (n:=(t.list.take aH).length) (Nat.lt_of_le_of_lt Ib (by simp[aH])) (((t.list.take aH).map (FF ver fx of (-1) 0 sub)).flatten++rest) (by rw[List.length_append];omega)
    simp only[II,ev0,er,eF0,List.append_assoc,hr]
    rw[roomyB _ (by omega)]
    simp only[Bool.false_eq_true,if_false,Bool.not_true,Int.toNat_natCast]
    rw[if_neg (by omega),oT (f:=e9 fx ver e (eV 0 e)) (w:=FF ver fx of (-1) 0 sub) (v:=fun t=>me ver fx e sub false t) (t.list.take aH) (fun t' _ rest'=>?_) rest]
    ·rfl
    ·have:=(ih t').1 0 rest' false (fun h=>by cases h)
     simp only[ev]at this
     exact this
   ·simp only[II,ev0,ew,eF0,V.isNul,V.list,Bool.and_false,Bool.false_eq_true,if_false,List.length_map]
    congr 1
    simp only[iA,List.map_map]
    congr 1
    refine List.map_congr_left fun t' _=>?_
    have:=(ih t').2.1
    simp only[ev]at this
    exact this
mutual
theorem yS (ver:Int)(fx:Bool):∀ (ty:Ty) (kind:Nat) (n:Int) (of:Nat) (sub:SFs),im ver fx ty kind n of sub=true->wv ver fx ty (FF ver fx kind n of sub) fun t=>me ver fx ty sub (t.null&&bW n ver) t
 | .prim p,kind,n,of,sub,h=>by
  simp only[im,beq_iff_eq]at h
  subst h
  have ev:∀ t:Tr,me ver fx (.prim p) sub (t.null&&bW n ver) t=gZ p t:=fun t=>by cases p<;>simp only[me,gZ]
  have eF:∀ t:Tr,FF ver fx (iI p) n of sub t=eE (iI p) (t.null&&bW n ver) fx (bh ver fx sub) t:=fun t=>by
   have KM:iI p≠11:=by cases p<;>simp[iI]
   have LG:iI p≠10:=by cases p<;>simp[iI]
   simp only[FF,eH,if_neg KM]
   rw[if_neg (fun h=>LG h.1)]
  refine tk (p:=bI p) (q:=bI p) (fun old r=>by simp only[e9]) (fun x=>by simp only[bL,cN]) (fun t=>?_) (fun t=>?_)
  ·rw[ev,eF];exact tD p _ fx _ t
  ·rw[ev,eF];exact(tD p _ fx _ t).1
 | .str nul,kind,n,of,sub,h=>by
  simp only[im,Bool.and_eq_true,beq_iff_eq]at h
  obtain⟨rfl,h2⟩:=h
  have ev:∀ t:Tr,me ver fx (.str nul) sub (t.null&&bW n ver) t=jo (t.null&&bW n ver) t.octets:=fun t=>by simp only[me,jo]
  have eF:∀ t:Tr,FF ver fx 8 n of sub t=dX fx (t.null&&bW n ver) 2 t.octets:=fun t=>by simp[FF,eH,eE]
  have hb:∀ t:Tr,(t.null&&bW n ver)=true->ce nul ver=true:=fun t h=>by simp only[Bool.and_eq_true]at h;rw[h.2]at h2;simpa using h2
  refine tk (p:=cC (ce nul ver) fx) (q:=cC (ce nul ver) fx) (fun old r=>by simp only[e9]) (fun x=>by simp only[bL,cN]) (fun t=>?_) (fun t=>?_)
  ·rw[ev,eF];exact wN _ fx _ (hb t) _
  ·rw[ev,eF];exact(wN _ fx _ (hb t) _).1
 | .bytes nul,kind,n,of,sub,h=>by
  simp only[im,Bool.and_eq_true,beq_iff_eq]at h
  obtain⟨rfl,h2⟩:=h
  have ev:∀ t:Tr,me ver fx (.bytes nul) sub (t.null&&bW n ver) t=jo (t.null&&bW n ver) t.octets:=fun t=>by simp only[me,jo]
  have eF:∀ t:Tr,FF ver fx 9 n of sub t=dX fx (t.null&&bW n ver) 4 t.octets:=fun t=>by simp[FF,eH,eE]
  have hb:∀ t:Tr,(t.null&&bW n ver)=true->ce nul ver=true:=fun t h=>by simp only[Bool.and_eq_true]at h;rw[h.2]at h2;simpa using h2
  have hc:ce nul ver=true->nul.isSome=true:=fun h=>by cases nul<;>simp[ce]at h ⊢
  refine tk (p:=bR (ce nul ver) fx) (q:=bR nul.isSome fx) (fun old r=>by simp only[e9]) (fun x=>by simp only[bL,cN]) (fun t=>?_) (fun t=>?_)
  ·rw[ev,eF];exact qz _ fx _ (hb t) _
  ·rw[ev,eF];exact(qz _ fx _ (fun h=>hc (hb t h)) _).1
 | .list nul esz e,kind,n,of,sub,h=>by
  simp only[im,Bool.and_eq_true,beq_iff_eq,decide_eq_true_eq,Bool.not_eq_true']at h
  obtain⟨⟨⟨⟨⟨rfl,h1⟩,h2⟩,h3⟩,h4⟩,h5⟩:=h
  exact yT h1 h2 h4 (yU h5 h3) (yS ver fx e of (-1) 0 sub h5)
 | .struct none toff fs,kind,n,of,sub,h=>by
  simp only[im,Bool.and_eq_true,beq_iff_eq,Option.isSome_none]at h
  obtain⟨⟨rfl,h1⟩,h2⟩:=h
  have hn:n<0:=by have:=h1.symm;simp only[decide_eq_false_iff_not]at this;omega
  obtain⟨hp,IW⟩:=jZ ver fx fs sub h2
  have hsn:bW n ver=false:=by simp only[bW];rw[decide_eq_false (by omega)];rfl
  intro t
  obtain⟨i1,i2,i3⟩:=fit_fds ver fx fs sub 0 t h2
  have eF:FF ver fx 10 n of sub t=cX ver fx sub 0 t++bH fx (if fx then dF 0 t else[]):=by
   simp only[FF,eH,eE]
   rw[if_neg (by omega),if_neg (by omega),if_neg (by omega),if_neg (by omega),if_neg (by omega),if_neg (by omega),if_pos trivial,j5 hp,d9 sub hp]
  have ev:me ver fx (.struct none toff fs) sub (t.null&&bW n ver) t=.st (vFds ver fx fs sub 0 t) (if fx then dF 0 t else[]):=by
   rw[hsn,Bool.and_false];simp only[me,Bool.false_eq_true,if_false,d9 sub hp]
  refine⟨fun df rest nl Jj=>?_,?_,fun Jd=>?_⟩
  ·simp only[ev,eF]at Jj ⊢
   simp only[e9,IW]
   exact xq (_ver:=ver) i1 rest nl Jj
  ·simp only[ev,eF,bL,V.fields,V.tags,i2,eW fx ver fs _ IW,i9]
  ·rw[eF,List.length_append]
   simp only[oV,Bool.or_eq_true]at Jd
   rcases Jd with rfl|Jd
   ·simp only[bH,if_true,List.length_append]
    have:=dW (dj (dF 0 t).length)
    omega
   ·have:=i3 Jd
    omega
 | .struct (some m) toff fs,kind,n,of,sub,h=>by
  simp only[im,Bool.and_eq_true,beq_iff_eq,Option.isSome_some]at h
  obtain⟨⟨rfl,h1⟩,h2⟩:=h
  have hn:0<=n:=by have:=h1.symm;simp only[decide_eq_true_eq]at this;exact this
  obtain⟨hp,IW⟩:=jZ ver fx fs sub h2
  intro t
  obtain⟨i1,i2,i3⟩:=fit_fds ver fx fs sub 0 t h2
  have eF:FF ver fx 10 n of sub t=if(t.null&&bW n ver)=true then[255]else 1::(cX ver fx sub 0 t++bH fx (if fx then dF 0 t else[])):=by
   simp only[FF,eH]
   rw[if_neg (by omega),if_pos ⟨trivial,hn⟩,j5 hp,d9 sub hp]
  have ev:me ver fx (.struct (some m) toff fs) sub (t.null&&bW n ver) t=if(t.null&&bW n ver)=true then .nul else .st (vFds ver fx fs sub 0 t) (if fx then dF 0 t else[]):=by
   simp only[me,d9 sub hp]
  have Jd:0<(FF ver fx 10 n of sub t).length:=by rw[eF];split<;>simp
  refine⟨fun df rest nl Jj=>?_,?_,fun _=>Jd⟩
  ·obtain rfl:=iK Jj Jd
   simp only[ev,eF]at Jj ⊢
   simp only[e9,eV,V.isNul,Bool.not_true,Bool.false_eq_true,if_false,IW]
   split
   ·have:rI 1 ⟨[255]++rest,false,false⟩=(-1,⟨rest,false,false⟩):=by
     have h:=kh (k:=1) (x:=-1) (by omega) (by simp) rest false
     rwa [show be 1 (-1)=[255] from by decide]at h
    rw[this]
    simp
   ·have:∀ l:Bs,rI 1 ⟨1::l,false,false⟩=(1,⟨l,false,false⟩):=fun l=>by
     have h:=kh (k:=1) (x:=1) (by omega) (by simp) l false
     rwa [show be 1 1=[1] from by decide]at h
    rw[List.cons_append,this]
    simp only
    rw[if_neg (by simp)]
    exact xq (_ver:=ver) i1 rest false (fun h=>by cases h)
  ·simp only[ev,eF,bL,eW fx ver fs _ IW,i9]
   split
   ·simp[V.isNul]
   ·simp only[V.isNul,V.fields,V.tags,i2,Bool.false_eq_true,if_false]
theorem fit_fds (ver:Int)(fx:Bool):∀ (fs:Fds) (sf:SFs) (i:Nat) (t:Tr),fitFds ver fx fs sf=true ->
  (∀ rest nl,(nl=true->cX ver fx sf i t++rest=[])->rdFds fx ver fs ⟨cX ver fx sf i t++rest,false,nl⟩=.ok (vFds ver fx fs sf i t) ⟨rest,false,nl⟩)/\wrFds fx ver fs (vFds ver fx fs sf i t)=cX ver fx sf i t/\(posFds fx ver fs=true->0<(cX ver fx sf i t).length)
 | .nil,.nil,i,t,_=>⟨fun rest nl _=>by simp[rdFds,vFds,cX],by simp[wrFds,cX],fun h=>by simp[posFds]at h⟩
 | .nil,.cons ..,_,_,h=>by simp[fitFds]at h
 | .cons ..,.nil,_,_,h=>by simp[fitFds]at h
 | .cons lo hi tag df off ty r,.cons kind slo shi nul stag sdf of sub sr,i,t,h=>by
  simp only[fitFds,Bool.and_eq_true,decide_eq_true_eq,beq_iff_eq]at h
  obtain⟨⟨⟨⟨ht,IN⟩,hh⟩,Kw⟩,hr⟩:=h
  obtain⟨i1,i2,i3⟩:=fit_fds ver fx r sr (i+1) t hr
  have Oy:tag=none:=by cases tag with|none=>rfl|some _=>cases ht
  subst Oy
  cases Jg:has lo hi ver with
  | true=>
   rw[Jg]at Kw hh
   simp only[Bool.not_true,Bool.false_or]at Kw
   obtain⟨j1,j2,j3⟩:=yS ver fx ty kind nul of sub Kw (t.at i)
   have es:cX ver fx (.cons kind slo shi nul stag sdf of sub sr) i t=FF ver fx kind nul of sub (t.at i)++cX ver fx sr (i+1) t:=by
    simp only[cX]
    rw[if_pos ⟨IN,hh.symm⟩]
    rfl
   have ev:vFds ver fx (.cons lo hi none df off ty r) (.cons kind slo shi nul stag sdf of sub sr) i t=me ver fx ty sub ((t.at i).null&&bW nul ver) (t.at i)::vFds ver fx r sr (i+1) t:=by
    simp only[vFds,Jg,Option.isNone_none,Bool.and_self,if_true]
   refine⟨fun rest nl Jj=>?_,?_,fun hp=>?_⟩
   ·rw[es,List.append_assoc]at Jj ⊢
    simp only[rdFds,Jg,Option.isNone_none,Bool.and_self,if_true,ev]
    rw[j1 df _ nl Jj]
    simp only[jq.bind]
    rw[i1 rest nl (fun h=>(List.append_eq_nil_iff.1 (Jj h)).2)]
   ·simp only[es,ev,wrFds,Jg,Option.isNone_none,Bool.and_self,if_true,List.headD_cons,List.tail_cons,i2,j2]
   ·rw[es,List.length_append]
    simp only[posFds,Jg,Option.isNone_none,Bool.true_and,Bool.or_eq_true]at hp
    rcases hp with hp|hp
    ·have:=j3 hp;omega
    ·have:=i3 hp;omega
  | false=>
   rw[Jg]at hh
   have es:cX ver fx (.cons kind slo shi nul stag sdf of sub sr) i t=cX ver fx sr (i+1) t:=by
    simp only[cX]
    rw[if_neg (fun h=>by rw[h.2]at hh;cases hh),List.nil_append]
   have ev:vFds ver fx (.cons lo hi none df off ty r) (.cons kind slo shi nul stag sdf of sub sr) i t=eV df ty::vFds ver fx r sr (i+1) t:=by
    simp only[vFds,Jg,Option.isNone_none,Bool.and_false,Bool.false_eq_true,if_false]
   refine⟨fun rest nl Jj=>?_,?_,fun hp=>?_⟩
   ·rw[es]at Jj ⊢
    simp only[rdFds,Jg,Option.isNone_none,Bool.and_false,Bool.false_eq_true,if_false,ev]
    rw[i1 rest nl Jj]
    rfl
   ·simp only[es,ev,wrFds,Jg,Option.isNone_none,Bool.and_false,Bool.false_eq_true,if_false,List.tail_cons,i2,List.nil_append]
   ·rw[es]
    simp only[posFds,Jg,Option.isNone_none,Bool.and_false,Bool.false_and,Bool.false_or]at hp
    exact i3 hp
end
theorem Ax {hf:Bool}{flex:Nat}{fs:Fds}{sf:SFs}{ver:Int}{fx:Bool}(J8:(hf&&decide ((flex:Int)<=ver))=fx)(h:fitFds ver fx fs sf=true)(t:Tr) :
  ∃ v nl,lm hf flex fs ver (xp (bh ver fx sf t))=.ok v ⟨[],false,nl⟩/\dD false hf flex fs ver v=bh ver fx sf t:=by
 obtain⟨hp,IW⟩:=jZ ver fx fs sf h
 obtain⟨i1,i2,i3⟩:=fit_fds ver fx fs sf 0 t h
 have e:=j5 (ver:=ver) (fx:=fx) hp t
 rw[d9 sf hp]at e
 refine⟨.st (vFds ver fx fs sf 0 t) (if fx then dF 0 t else[]),(bh ver fx sf t).isEmpty,?_,?_⟩
 ·simp only[lm,J8,IW,xp]
  have:=xq (_ver:=ver) (fx:=fx) (tag:=rdTag fx ver fs) (t:=t) i1 [] (bh ver fx sf t).isEmpty (fun hh=>by rw[List.append_nil,<- e];simpa using hh)
  rw[List.append_nil,<- e]at this
  exact this
 ·simp only[dD,J8,Bool.false_eq_true,if_false,List.nil_append,V.fields,V.tags,i2,eW _ ver fs _ IW,i9]
  exact e.symm
def N32:Nat:=4294967296
def us (sub:SFs)(t:Tr):Bool:=pN sub 0 t&&(gU (aQ sub) t.tags).isEmpty
def HK (ver:Int)(fx:Bool)(ty:Ty)(F:Tr->Bs)(v:Tr->V):Prop:=
 ∀ t,(F t).length<N32->(∀ (df:Int) rest nl,(nl=true->F t++rest=[])->e9 fx ver ty (eV df ty) ⟨F t++rest,false,nl⟩=.ok (v t) ⟨rest,false,nl⟩)/\bL fx ver ty (v t)=F t/\(oV fx ver ty=true->0<(F t).length)
theorem wv.g {ver:Int}{fx:Bool}{ty:Ty}{F:Tr->Bs}{v:Tr->V}(h:wv ver fx ty F v):HK ver fx ty F v:=fun t _=>h t
end Go.Proofs.YtpoeajgpacfpoaaGreatDoor.Kx