/-
  PLAIN LAWS AND CONTRACTS of messages, part 13 of 16: how readers and writers are printed, what they do, what the reference writes, and that what is written is read as the same. Nothing of a statement stands here.
-/
import Derived.Test.YthjaecnbgfohmadDoorK1
import Derived.Test.YthjaecnbgfohmadDoorK2
import Derived.Test.YthjaecnbgfohmadDoorK3

namespace Go.Proofs.YthjaecnbgfohmadDoor.Kx
theorem rMany_map {f:RS->Out V} {w:Tr->Bs} {v:Tr->V}:∀ (ts:List Tr),(∀ t ∈ ts,∀ rest,f ⟨w t++rest,false,false⟩=.ok (v t) ⟨rest,false,false⟩)->∀ rest,z7_ f ts.length ⟨(ts.map w).flatten++rest,false,false⟩=.ok (ts.map v) ⟨rest,false,false⟩
 | [],_,rest=>by simp [z7_]
 | t :: ts,h,rest=>by
  simp only [List.map_cons,List.flatten_cons,List.length_cons,z7_,List.append_assoc]
  rw [h t (List.mem_cons_self ..)]
  simp only [Out.bind]
  rw [rMany_map ts (fun t ht=>h t (List.mem_cons_of_mem _ ht)) rest]
theorem flatten_ge {w:Tr->Bs}:∀ (ts:List Tr),(∀ t ∈ ts,0 < (w t).length)->ts.length<=(ts.map w).flatten.length
 | [],_=>by simp
 | t :: ts,h=>by
  have h1:=h t (List.mem_cons_self ..)
  have h2:=flatten_ge ts fun t ht=>h t (List.mem_cons_of_mem _ ht)
  simp only [List.map_cons,List.flatten_cons,List.length_cons,List.length_append]
  omega
theorem mem_insFirst (k:Nat) (v:Bs):∀ (l:List (Nat × Bs)) (y:Nat × Bs),y ∈ zk_ k v l->y=(k,v) \/ y ∈ l
 | [],y,h=>by simpa [zk_] using h
 | (j,u) :: r,y,h=>by
  simp only [zk_] at h
  split at h
  ·simpa using h
  ·split at h
   ·exact .inr h
   ·rcases List.mem_cons.1 h with h | h
    ·exact .inr (h ▸ List.mem_cons_self ..)
    ·rcases mem_insFirst k v r y h with h | h
     ·exact .inl h
     ·exact .inr (List.mem_cons_of_mem _ h)
theorem insFirst_pw (k:Nat) (v:Bs):∀ (l:List (Nat × Bs)),l.Pairwise (fun a b=>a.1 < b.1)->(zk_ k v l).Pairwise (fun a b=>a.1 < b.1)
 | [],_=>by simp [zk_]
 | (j,u) :: r,h=>by
  obtain ⟨h1,h2⟩:=List.pairwise_cons.1 h
  simp only [zk_]
  split
  ·rename_i hk
   refine List.pairwise_cons.2 ⟨fun y hy=>?_,h⟩
   rcases List.mem_cons.1 hy with rfl | hy
   ·exact hk
   ·exact Nat.lt_trans hk (h1 y hy)
  ·split
   ·exact h
   ·refine List.pairwise_cons.2 ⟨fun y hy=>?_,insFirst_pw k v r h2⟩
    rcases mem_insFirst k v r y hy with rfl | hy
    ·show j < k;omega
    ·exact h1 y hy
theorem insFirst_len (k:Nat) (v:Bs):∀ (l:List (Nat × Bs)),(zk_ k v l).length<=l.length + 1
 | []=>by simp [zk_]
 | (j,u) :: r=>by
  have:=insFirst_len k v r
  simp only [zk_]
  split
  ·simp
  ·split <;> simp <;> omega
theorem sUnkL_ok (n:Nat):∀ (l acc:List (Nat × Bs)),acc.Pairwise (fun a b=>a.1 < b.1)->(sUnkL n l acc).Pairwise (fun a b=>a.1 < b.1)/\(∀ y ∈ sUnkL n l acc,y ∈ l \/ y ∈ acc)/\(sUnkL n l acc).length<=l.length + acc.length
 | [],acc,h=>⟨h,fun y hy=>.inr hy,by simp [sUnkL]⟩
 | (k,v) :: r,acc,h=>by
  simp only [sUnkL]
  split
  ·obtain ⟨a,b,c⟩:=sUnkL_ok n r acc h
   refine ⟨a,fun y hy=>(b y hy).imp (List.mem_cons_of_mem _) id,?_⟩
   simp only [List.length_cons];omega
  ·obtain ⟨a,b,c⟩:=sUnkL_ok n r (zk_ k v acc) (insFirst_pw k v acc h)
   have hl:=insFirst_len k v acc
   refine ⟨a,fun y hy=>?_,by simp only [List.length_cons];omega⟩
   rcases b y hy with h1 | h1
   ·exact .inl (List.mem_cons_of_mem _ h1)
   ·rcases mem_insFirst k v acc y h1 with rfl | h1
    ·exact .inl (List.mem_cons_self ..)
    ·exact .inr h1
theorem tags_lt (t:Tr):∀ y ∈ t.tags,y.1 < 4294967296:=by
 obtain ⟨_,_,_,_,u⟩:=t
 intro y hy
 simp only [Tr.tags,List.mem_map] at hy
 obtain ⟨p,_,rfl⟩:=hy
 exact p.1.toNat_lt
theorem sUnk_ok (n:Nat) (t:Tr):(sUnk n t.tags).Pairwise (fun a b=>a.1 < b.1)/\(∀ y ∈ sUnk n t.tags,y.1 < 4294967296)/\(sUnk n t.tags).length<=ja_:=by
 obtain ⟨a,b,c⟩:=sUnkL_ok n (t.tags.take ja_) [] List.Pairwise.nil
 refine ⟨a,fun y hy=>tags_lt t y ?_,?_⟩
 ·rcases b y hy with h | h
  ·exact List.mem_of_mem_take h
  ·cases h
 ·have:(t.tags.take ja_).length<=ja_:=by rw [List.length_take];exact Nat.min_le_left ..
  simp only [List.length_nil] at c
  exact Nat.le_trans c (by omega)
theorem sUnkT_ok (n:Nat) (t:Tr):(sUnkT n t).Pairwise (fun a b=>a.1 < b.1)/\(∀ y ∈ sUnkT n t,TagOk y/\y.2.length<=ja_)/\(sUnkT n t).length<=ja_/\(sUnkT n t).length=(sUnk n t.tags).length:=by
 obtain ⟨a,b,c⟩:=sUnk_ok n t
 refine ⟨?_,fun y hy=>?_,by simpa [sUnkT] using c,by simp [sUnkT]⟩
 ·unfold sUnkT
  rw [List.pairwise_map]
  exact a
 ·simp only [sUnkT,List.mem_map] at hy
  obtain ⟨p,hp,rfl⟩:=hy
  have:=take_most p.2
  exact ⟨⟨b p hp,by simp only [ja_] at *;omega⟩,this⟩
theorem sTags_w:∀ (l:List (Nat × Bs)),(∀ y ∈ l,TagOk y)->sTags l=zu_ l
 | [],_=>rfl
 | p :: r,h=>by
  have h1:=h p (List.mem_cons_self ..)
  have:w32 p.2.length=p.2.length:=Nat.mod_eq_of_lt h1.2
  have e:=sTags_w r fun y hy=>h y (List.mem_cons_of_mem _ hy)
  simp only [sTags,List.map_cons,List.flatten_cons,zu_,sTag,wTag,this] at e ⊢
  rw [e]
def sPlain:SFs->Bool
 | .nil=>true
 | .cons _ _ _ _ tag _ _ _ r=>decide (tag < 0) && sPlain r
theorem xd_:∀ sf:SFs,sPlain sf=true->q4_ sf=0
 | .nil,_=>rfl
 | .cons _ _ _ _ tag _ _ _ r,h=>by
  simp only [sPlain,Bool.and_eq_true,decide_eq_true_eq] at h
  simp only [q4_,xd_ r h.2]
  rw [if_neg (by omega)]
theorem tgd_nil (ver:Int) (fx:Bool):∀ (sf:SFs) (i:Nat) (t:Tr),sPlain sf=true->sTgd ver fx sf i t=[]
 | .nil,_,_,_=>by simp [sTgd]
 | .cons _ _ _ _ tag _ _ _ r,i,t,h=>by
  simp only [sPlain,Bool.and_eq_true,decide_eq_true_eq] at h
  simp only [sTgd,tgd_nil ver fx r (i + 1) t h.2,List.append_nil]
  rw [if_neg (by omega)]
theorem sTail_plain (fx:Bool) (t:Tr):sTail fx 0 [] t.tags=jm_ fx (if fx then sUnkT 0 t else []):=by
 obtain ⟨a,b,c,d⟩:=sUnkT_ok 0 t
 cases fx with
 | false=>simp [sTail,jm_]
 | true=>
  have hw:w32 (sUnkT 0 t).length=(sUnk 0 t.tags).length:=by rw [d];simp only [w32,ja_] at *;omega
  simp only [sTail,jm_,if_true,hw,sSort,List.range_zero,List.flatMap_nil,List.length_nil,Nat.zero_add]
  rw [<- sTags_w _ fun y hy=>(b y hy).1]
  rfl
theorem fit_plain (ver:Int) (fx:Bool):∀ (fs:Fds) (sf:SFs),fitFds ver fx fs sf=true->sPlain sf=true/\fs.tagged=false
 | .nil,.nil,_=>⟨rfl,rfl⟩
 | .nil,.cons ..,h=>by simp [fitFds] at h
 | .cons ..,.nil,h=>by simp [fitFds] at h
 | .cons lo hi tag df off ty r,.cons kind slo shi nul stag sdf of sub sr,h=>by
  simp only [fitFds,Bool.and_eq_true,decide_eq_true_eq] at h
  obtain ⟨a,b⟩:=fit_plain ver fx r sr h.2
  refine ⟨by simp only [sPlain,a,Bool.and_true,decide_eq_true_eq];exact h.1.1.1.2,?_⟩
  have:=h.1.1.1.1
  cases tag with
  | none=>simp only [Fds.tagged,b];rfl
  | some _=>cases this
theorem sPart_plain {ver:Int} {fx:Bool} {sf:SFs} (h:sPlain sf=true) (t:Tr):jb_ ver fx sf t=sFds ver fx sf 0 t++jm_ fx (if fx then sUnkT (q4_ sf) t else []):=by
 rw [jb_,xd_ sf h,tgd_nil ver fx sf 0 t h,sTail_plain]
theorem sp_st {_ver:Int} {fx:Bool} {fields:RS->Out (List V)} {tag:Nat->Option (List V->RS->Out (List V))} {F:Bs} {vs:List V} {t:Tr} (hf:∀ rest nl,(nl=true->F++rest=[])->fields ⟨F++rest,false,nl⟩=.ok vs ⟨rest,false,nl⟩) (rest:Bs) (nl:Bool)
  (hnl:nl=true->F++jm_ fx (if fx then sUnkT 0 t else [])++rest=[]):zd_ fx false fields tag ⟨F++jm_ fx (if fx then sUnkT 0 t else [])++rest,false,nl⟩=.ok (.st vs (if fx then sUnkT 0 t else [])) ⟨rest,false,nl⟩:=by
 unfold zd_
 rw [List.append_assoc] at hnl ⊢
 rw [hf _ nl hnl]
 simp only [Out.bind]
 cases fx with
 | false=>simp [jm_]
 | true=>
  obtain ⟨a,b,c,d⟩:=sUnkT_ok 0 t
  have hw:w32 (sUnkT 0 t).length=(sUnkT 0 t).length:=by simp only [w32,ja_] at *;omega
  have hn:nl=false:=by
   refine nl_false (l:=jm_ true (sUnkT 0 t)) (rest:=rest) (fun h=>?_) ?_
   ·have:=hnl h
    simp only [if_true] at this
    exact (List.append_eq_nil_iff.1 this).2
   ·simp only [jm_,if_true,List.length_append]
    have:=jl_ (w32 (sUnkT 0 t).length)
    omega
  subst hn
  simp only [Bool.not_true,Bool.false_eq_true,if_false,if_true,jm_,hw,List.append_assoc]
  rw [xa_ (by simp only [ja_] at c;omega)]
  simp only
  rw [rTags_again _ [] rest (by simpa using a) fun y hy=>(b y hy).1]
  simp
theorem sNul_m1 (ver:Int):xu_ (-1) ver=false:=by simp [xu_]
theorem sFld_elem {kind:Nat} (h:kind ≠ 11) (of:Nat) (ver:Int) (fx:Bool) (pt:Tr->Bs) (t:Tr):sFld kind (-1) of ver fx pt t=sVal kind false fx pt t:=by
 simp only [sFld,if_neg h,sNul_m1,Bool.and_false]
 rw [if_neg (by omega)]
theorem fit_kind {ver:Int} {fx:Bool} {ty:Ty} {kind:Nat} {n:Int} {of:Nat} {sub:SFs} (h:fitTy ver fx ty kind n of sub=true) (hl:ty.isList=false):kind ≠ 11:=by
 cases ty with
 | prim p=>simp only [fitTy,beq_iff_eq] at h;subst h;cases p <;> simp [pCode]
 | str=>simp only [fitTy,Bool.and_eq_true,beq_iff_eq] at h;have:=h.1;omega
 | bytes=>simp only [fitTy,Bool.and_eq_true,beq_iff_eq] at h;have:=h.1;omega
 | list=>cases hl
 | struct=>simp only [fitTy,Bool.and_eq_true,beq_iff_eq] at h;omega
theorem sCnt_null (fx:Bool) (n:Nat):sCnt fx true n 4=zy_ fx 4:=by cases fx <;> rfl
theorem sCnt_cnt (fx:Bool) {n:Nat} (h:n<=ja_):sCnt fx false n 4=wCnt fx n:=by
 cases fx with
 | false=>rfl
 | true=>
  have:w32 (n + 1)=n + 1:=by simp only [w32,ja_] at *;omega
  simp [sCnt,wCnt,this]
def FF (ver:Int) (fx:Bool) (kind:Nat) (nul:Int) (of:Nat) (sub:SFs) (t:Tr):Bs:=sFld kind nul of ver fx (jb_ ver fx sub) t
def FitT (ver:Int) (fx:Bool) (ty:Ty) (F:Tr->Bs) (v:Tr->V):Prop:=
 ∀ t,(∀ (df:Int) rest nl,(nl=true->F t++rest=[])->zw_ fx ver ty (xk_ df ty) ⟨F t++rest,false,nl⟩=.ok (v t) ⟨rest,false,nl⟩)/\xf_ fx ver ty (v t)=F t/\(posTy fx ver ty=true->0 < (F t).length)
theorem fit_pf {ver:Int} {fx:Bool} {ty:Ty} {F:Tr->Bs} {v:Tr->V} {p q:PF} (hr:∀ old r,zw_ fx ver ty old r=.ok (p.run r).1 (p.run r).2) (hw:∀ x,xf_ fx ver ty x=q.wr x) (hp:∀ t,p.wr (v t)=F t/\okPF p (v t)) (hq:∀ t,q.wr (v t)=F t):FitT ver fx ty F v:=by
 intro t
 have hpos:0 < (F t).length:=by rw [<- (hp t).1];exact wr_pos p _ (hp t).2
 refine ⟨fun df rest nl hnl=>?_,by rw [hw,hq],fun _=>hpos⟩
 obtain rfl:=nl_false hnl hpos
 rw [hr,<- (hp t).1,pf_rd p _ (hp t).2 rest]
theorem fit_list {ver:Int} {fx:Bool} {nul:Option Nat} {esz of:Nat} {n:Int} {e:Ty} {sub:SFs} (h1:(!xu_ n ver || (nul.isSome && xc_ nul ver))=true) (hesz:esz<=10000) (hpos:posTy fx ver e=true) (hof:of ≠ 11)
  (ih:FitT ver fx e (FF ver fx of (-1) 0 sub) fun t=>vTy ver fx e sub (t.null && xu_ (-1) ver) t):FitT ver fx (.list nul esz e) (FF ver fx 11 n of sub) fun t=>vTy ver fx (.list nul esz e) sub (t.null && xu_ n ver) t:=by
 have er:∀ df r,zw_ fx ver (.list nul esz e) (xk_ df (.list nul esz e)) r=if (j2_ fx r).2.bad then .err else if !roomy (j2_ fx r).1 esz then .stuck else
   if (j2_ fx r).1<=0 then .ok (if nul.isSome && (decide ((j2_ fx r).1=0) || !xc_ nul ver) then .l [] else .nul) (j2_ fx r).2
   else (z7_ (zw_ fx ver e (xk_ 0 e)) (j2_ fx r).1.toNat (j2_ fx r).2).bind fun vs r=>.ok (.l vs) r:=fun df r=>by simp only [zw_,xk_,V.isNul,Bool.not_true,Bool.false_eq_true,if_false]
 have ew:∀ v,xf_ fx ver (.list nul esz e) v=(if nul.isSome && v.isNul then zy_ fx 4 else wCnt fx v.list.length)++wMany (xf_ fx ver e) v.list:=fun v=>by simp only [xf_]
 have eF:∀ t,FF ver fx of (-1) 0 sub t=sVal of false fx (jb_ ver fx sub) t:=fun t=>sFld_elem hof 0 ver fx _ t
 have ev:∀ t,vTy ver fx e sub (t.null && xu_ (-1) ver) t=vTy ver fx e sub false t:=fun t=>by rw [sNul_m1,Bool.and_false]
 have roomyB:∀ (L:Int),L<=ja_->roomy L esz=true:=fun L hL=>by
  simp only [roomy,decide_eq_true_eq]
  simp only [ja_] at hL
  have h1:(24 * (esz:Int) + 8)<=240008:=by omega
  by_cases h0:L<=0
  ·have:L * (24 * (esz:Int) + 8)<=0:=Int.mul_nonpos_of_nonpos_of_nonneg h0 (by omega)
   omega
  ·have h2:L * (24 * (esz:Int) + 8)<=32767 * 240008:=Int.mul_le_mul hL h1 (by omega) (by omega)
   omega
 intro t
 cases hnull:(t.null && xu_ n ver) with
 | true=>
  have hs:xu_ n ver=true:=by simp only [Bool.and_eq_true] at hnull;exact hnull.2
  rw [hs] at h1
  simp only [Bool.not_true,Bool.false_or,Bool.and_eq_true] at h1
  have eF0:FF ver fx 11 n of sub t=zy_ fx 4:=by simp only [FF,sFld,if_true,hnull,xt_,List.length_nil,List.map_nil,List.flatten_nil,List.append_nil,sCnt_null]
  have ev0:vTy ver fx (.list nul esz e) sub (t.null && xu_ n ver) t=.nul:=by rw [hnull];simp only [vTy,if_true]
  simp only [hnull] at ev0
  refine ⟨fun df rest nl hnl=>?_,?_,fun _=>by rw [eF0];exact wNull_pos fx⟩
  ·rw [eF0] at hnl ⊢
   obtain rfl:=nl_false hnl (wNull_pos fx)
   simp only [hnull,ev0,er,rLen_null fx rest]
   rw [roomyB (-1) (by simp only [ja_];omega)]
   simp [h1.2]
  ·simp only [hnull,ev0,ew,eF0,h1.1,V.isNul,V.list,Bool.and_self,if_true,wMany,List.map_nil,List.flatten_nil,List.append_nil]
 | false=>
  have hlen:(t.list.take ja_).length<=ja_:=by rw [List.length_take];exact Nat.min_le_left ..
  have eF0:FF ver fx 11 n of sub t=wCnt fx (t.list.take ja_).length++((t.list.take ja_).map (FF ver fx of (-1) 0 sub)).flatten:=by
   have:FF ver fx of (-1) 0 sub=sVal of false fx (jb_ ver fx sub):=funext eF
   rw [this]
   simp only [FF,sFld,if_true,hnull,xt_,Bool.false_eq_true,if_false,sCnt_cnt fx hlen]
  have hge:=flatten_ge (w:=FF ver fx of (-1) 0 sub) (t.list.take ja_) fun t' _=>(ih t').2.2 hpos
  have hp:0 < (FF ver fx 11 n of sub t).length:=by rw [eF0,List.length_append];have:=wCnt_pos fx (t.list.take ja_).length;omega
  by_cases he:t.list.isEmpty=true
  ·have he':t.list=[]:=List.isEmpty_iff.1 he
   have ev0:vTy ver fx (.list nul esz e) sub (t.null && xu_ n ver) t=if nul.isSome then .l [] else .nul:=by rw [hnull];simp only [vTy,he,Bool.false_eq_true,if_false,if_true]
   simp only [hnull] at ev0
   have eF1:FF ver fx 11 n of sub t=wCnt fx 0:=by rw [eF0,he'];simp
   refine ⟨fun df rest nl hnl=>?_,?_,fun _=>hp⟩
   ·obtain rfl:=nl_false hnl hp
    have hr:=rLen_cnt fx (n:=0) (by omega) rest (Nat.zero_le _)
    simp only [hnull,ev0,er,eF1,hr]
    rw [show ((0:Nat):Int)=0 from rfl,roomyB 0 (by simp only [ja_];omega)]
    simp
   ·simp only [hnull,ev0,ew,eF1]
    cases nul <;> simp [V.isNul,V.list,wMany]
  ·have hne:t.list ≠ []:=fun h=>he (List.isEmpty_iff.2 h)
   have hpos':0 < (t.list.take ja_).length:=by
    have:=List.length_pos_iff.2 hne
    rw [List.length_take];simp only [ja_];omega
   have ev0:vTy ver fx (.list nul esz e) sub (t.null && xu_ n ver) t=.l ((t.list.take ja_).map fun t=>vTy ver fx e sub false t):=by rw [hnull];simp only [vTy,if_neg he,Bool.false_eq_true,if_false]
   simp only [hnull] at ev0
   refine ⟨fun df rest nl hnl=>?_,?_,fun _=>hp⟩
   ·obtain rfl:=nl_false hnl hp
    have hr:=rLen_cnt fx (n:=(t.list.take ja_).length) (Nat.lt_of_le_of_lt hlen (by simp [ja_])) (((t.list.take ja_).map (FF ver fx of (-1) 0 sub)).flatten++rest) (by rw [List.length_append];omega)
    simp only [hnull,ev0,er,eF0,List.append_assoc,hr]
    rw [roomyB _ (by omega)]
    simp only [Bool.false_eq_true,if_false,Bool.not_true,Int.toNat_natCast]
    rw [if_neg (by omega),rMany_map (f:=zw_ fx ver e (xk_ 0 e)) (w:=FF ver fx of (-1) 0 sub) (v:=fun t=>vTy ver fx e sub false t) (t.list.take ja_) (fun t' _ rest'=>?_) rest]
    ·rfl
    ·have:=(ih t').1 0 rest' false (fun h=>by cases h)
     simp only [ev] at this
     exact this
   ·simp only [hnull,ev0,ew,eF0,V.isNul,V.list,Bool.and_false,Bool.false_eq_true,if_false,List.length_map]
    congr 1
    simp only [wMany,List.map_map]
    congr 1
    refine List.map_congr_left fun t' _=>?_
    have:=(ih t').2.1
    simp only [ev] at this
    exact this
mutual
theorem fit_ty (ver:Int) (fx:Bool):∀ (ty:Ty) (kind:Nat) (n:Int) (of:Nat) (sub:SFs),fitTy ver fx ty kind n of sub=true->FitT ver fx ty (FF ver fx kind n of sub) fun t=>vTy ver fx ty sub (t.null && xu_ n ver) t
 | .prim p,kind,n,of,sub,h=>by
  simp only [fitTy,beq_iff_eq] at h
  subst h
  have ev:∀ t:Tr,vTy ver fx (.prim p) sub (t.null && xu_ n ver) t=vPrim p t:=fun t=>by cases p <;> simp only [vTy,vPrim]
  have eF:∀ t:Tr,FF ver fx (pCode p) n of sub t=sVal (pCode p) (t.null && xu_ n ver) fx (jb_ ver fx sub) t:=fun t=>by
   have h11:pCode p ≠ 11:=by cases p <;> simp [pCode]
   have h10:pCode p ≠ 10:=by cases p <;> simp [pCode]
   simp only [FF,sFld,if_neg h11]
   rw [if_neg (fun h=>h10 h.1)]
  refine fit_pf (p:=jp_ p) (q:=jp_ p) (fun old r=>by simp only [zw_]) (fun x=>by simp only [xf_,xx_]) (fun t=>?_) (fun t=>?_)
  ·rw [ev,eF];exact wr_prim p _ fx _ t
  ·rw [ev,eF];exact (wr_prim p _ fx _ t).1
 | .str nul,kind,n,of,sub,h=>by
  simp only [fitTy,Bool.and_eq_true,beq_iff_eq] at h
  obtain ⟨rfl,h2⟩:=h
  have ev:∀ t:Tr,vTy ver fx (.str nul) sub (t.null && xu_ n ver) t=vOct (t.null && xu_ n ver) t.octets:=fun t=>by simp only [vTy,vOct]
  have eF:∀ t:Tr,FF ver fx 8 n of sub t=sText fx (t.null && xu_ n ver) 2 t.octets:=fun t=>by simp [FF,sFld,sVal]
  have hb:∀ t:Tr,(t.null && xu_ n ver)=true->xo_ nul ver=true:=fun t h=>by simp only [Bool.and_eq_true] at h;rw [h.2] at h2;simpa using h2
  refine fit_pf (p:=xl_ (xo_ nul ver) fx) (q:=xl_ (xo_ nul ver) fx) (fun old r=>by simp only [zw_]) (fun x=>by simp only [xf_,xx_]) (fun t=>?_) (fun t=>?_)
  ·rw [ev,eF];exact wr_str _ fx _ (hb t) _
  ·rw [ev,eF];exact (wr_str _ fx _ (hb t) _).1
 | .bytes nul,kind,n,of,sub,h=>by
  simp only [fitTy,Bool.and_eq_true,beq_iff_eq] at h
  obtain ⟨rfl,h2⟩:=h
  have ev:∀ t:Tr,vTy ver fx (.bytes nul) sub (t.null && xu_ n ver) t=vOct (t.null && xu_ n ver) t.octets:=fun t=>by simp only [vTy,vOct]
  have eF:∀ t:Tr,FF ver fx 9 n of sub t=sText fx (t.null && xu_ n ver) 4 t.octets:=fun t=>by simp [FF,sFld,sVal]
  have hb:∀ t:Tr,(t.null && xu_ n ver)=true->xo_ nul ver=true:=fun t h=>by simp only [Bool.and_eq_true] at h;rw [h.2] at h2;simpa using h2
  have hc:xo_ nul ver=true->nul.isSome=true:=fun h=>by cases nul <;> simp [xo_] at h ⊢
  refine fit_pf (p:=q1_ (xo_ nul ver) fx) (q:=q1_ nul.isSome fx) (fun old r=>by simp only [zw_]) (fun x=>by simp only [xf_,xx_]) (fun t=>?_) (fun t=>?_)
  ·rw [ev,eF];exact wr_bytes _ fx _ (hb t) _
  ·rw [ev,eF];exact (wr_bytes _ fx _ (fun h=>hc (hb t h)) _).1
 | .list nul esz e,kind,n,of,sub,h=>by
  simp only [fitTy,Bool.and_eq_true,beq_iff_eq,decide_eq_true_eq,Bool.not_eq_true'] at h
  obtain ⟨⟨⟨⟨⟨rfl,h1⟩,h2⟩,h3⟩,h4⟩,h5⟩:=h
  exact fit_list h1 h2 h4 (fit_kind h5 h3) (fit_ty ver fx e of (-1) 0 sub h5)
 | .struct none toff fs,kind,n,of,sub,h=>by
  simp only [fitTy,Bool.and_eq_true,beq_iff_eq,Option.isSome_none] at h
  obtain ⟨⟨rfl,h1⟩,h2⟩:=h
  have hn:n < 0:=by have:=h1.symm;simp only [decide_eq_false_iff_not] at this;omega
  obtain ⟨hp,htg⟩:=fit_plain ver fx fs sub h2
  have hsn:xu_ n ver=false:=by simp only [xu_];rw [decide_eq_false (by omega)];rfl
  intro t
  obtain ⟨i1,i2,i3⟩:=fit_fds ver fx fs sub 0 t h2
  have eF:FF ver fx 10 n of sub t=sFds ver fx sub 0 t++jm_ fx (if fx then sUnkT 0 t else []):=by
   simp only [FF,sFld,sVal]
   rw [if_neg (by omega),if_neg (by omega),if_neg (by omega),if_neg (by omega),if_neg (by omega),if_neg (by omega),if_pos trivial,sPart_plain hp,xd_ sub hp]
  have ev:vTy ver fx (.struct none toff fs) sub (t.null && xu_ n ver) t=.st (vFds ver fx fs sub 0 t) (if fx then sUnkT 0 t else []):=by
   rw [hsn,Bool.and_false];simp only [vTy,Bool.false_eq_true,if_false,xd_ sub hp]
  refine ⟨fun df rest nl hnl=>?_,?_,fun hpos=>?_⟩
  ·simp only [ev,eF] at hnl ⊢
   simp only [zw_,htg]
   exact sp_st (_ver:=ver) i1 rest nl hnl
  ·simp only [ev,eF,xf_,V.fields,V.tags,i2]
  ·rw [eF,List.length_append]
   simp only [posTy,Bool.or_eq_true] at hpos
   rcases hpos with rfl | hpos
   ·simp only [jm_,if_true,List.length_append]
    have:=jl_ (w32 (sUnkT 0 t).length)
    omega
   ·have:=i3 hpos
    omega
 | .struct (some m) toff fs,kind,n,of,sub,h=>by
  simp only [fitTy,Bool.and_eq_true,beq_iff_eq,Option.isSome_some] at h
  obtain ⟨⟨rfl,h1⟩,h2⟩:=h
  have hn:0<=n:=by have:=h1.symm;simp only [decide_eq_true_eq] at this;exact this
  obtain ⟨hp,htg⟩:=fit_plain ver fx fs sub h2
  intro t
  obtain ⟨i1,i2,i3⟩:=fit_fds ver fx fs sub 0 t h2
  have eF:FF ver fx 10 n of sub t=if (t.null && xu_ n ver)=true then [255] else 1 :: (sFds ver fx sub 0 t++jm_ fx (if fx then sUnkT 0 t else [])):=by
   simp only [FF,sFld]
   rw [if_neg (by omega),if_pos ⟨trivial,hn⟩,sPart_plain hp,xd_ sub hp]
  have ev:vTy ver fx (.struct (some m) toff fs) sub (t.null && xu_ n ver) t=if (t.null && xu_ n ver)=true then .nul else .st (vFds ver fx fs sub 0 t) (if fx then sUnkT 0 t else []):=by
   simp only [vTy,xd_ sub hp]
  have hpos:0 < (FF ver fx 10 n of sub t).length:=by rw [eF];split <;> simp
  refine ⟨fun df rest nl hnl=>?_,?_,fun _=>hpos⟩
  ·obtain rfl:=nl_false hnl hpos
   simp only [ev,eF] at hnl ⊢
   simp only [zw_,xk_,V.isNul,Bool.not_true,Bool.false_eq_true,if_false,htg]
   split
   ·have:rI 1 ⟨[255]++rest,false,false⟩=(-1,⟨rest,false,false⟩):=by
     have h:=rI_be (k:=1) (x:=-1) (by omega) (by simp) rest false
     rwa [show be 1 (-1)=[255] from by decide] at h
    rw [this]
    simp
   ·have:∀ l:Bs,rI 1 ⟨1 :: l,false,false⟩=(1,⟨l,false,false⟩):=fun l=>by
     have h:=rI_be (k:=1) (x:=1) (by omega) (by simp) l false
     rwa [show be 1 1=[1] from by decide] at h
    rw [List.cons_append,this]
    simp only
    rw [if_neg (by simp)]
    exact sp_st (_ver:=ver) i1 rest false (fun h=>by cases h)
  ·simp only [ev,eF,xf_]
   split
   ·simp [V.isNul]
   ·simp only [V.isNul,V.fields,V.tags,i2,Bool.false_eq_true,if_false]
theorem fit_fds (ver:Int) (fx:Bool):∀ (fs:Fds) (sf:SFs) (i:Nat) (t:Tr),fitFds ver fx fs sf=true ->
  (∀ rest nl,(nl=true->sFds ver fx sf i t++rest=[])->rdFds fx ver fs ⟨sFds ver fx sf i t++rest,false,nl⟩=.ok (vFds ver fx fs sf i t) ⟨rest,false,nl⟩)/\wrFds fx ver fs (vFds ver fx fs sf i t)=sFds ver fx sf i t/\(posFds fx ver fs=true->0 < (sFds ver fx sf i t).length)
 | .nil,.nil,i,t,_=>⟨fun rest nl _=>by simp [rdFds,vFds,sFds],by simp [wrFds,sFds],fun h=>by simp [posFds] at h⟩
 | .nil,.cons ..,_,_,h=>by simp [fitFds] at h
 | .cons ..,.nil,_,_,h=>by simp [fitFds] at h
 | .cons lo hi tag df off ty r,.cons kind slo shi nul stag sdf of sub sr,i,t,h=>by
  simp only [fitFds,Bool.and_eq_true,decide_eq_true_eq,beq_iff_eq] at h
  obtain ⟨⟨⟨⟨ht,hst⟩,hh⟩,hty⟩,hr⟩:=h
  obtain ⟨i1,i2,i3⟩:=fit_fds ver fx r sr (i + 1) t hr
  have htn:tag=none:=by cases tag with | none=>rfl | some _=>cases ht
  subst htn
  cases hhas:has lo hi ver with
  | true=>
   rw [hhas] at hty hh
   simp only [Bool.not_true,Bool.false_or] at hty
   obtain ⟨j1,j2,j3⟩:=fit_ty ver fx ty kind nul of sub hty (t.at i)
   have es:sFds ver fx (.cons kind slo shi nul stag sdf of sub sr) i t=FF ver fx kind nul of sub (t.at i)++sFds ver fx sr (i + 1) t:=by
    simp only [sFds]
    rw [if_pos ⟨hst,hh.symm⟩]
    rfl
   have ev:vFds ver fx (.cons lo hi none df off ty r) (.cons kind slo shi nul stag sdf of sub sr) i t=vTy ver fx ty sub ((t.at i).null && xu_ nul ver) (t.at i) :: vFds ver fx r sr (i + 1) t:=by
    simp only [vFds,hhas,Option.isNone_none,Bool.and_self,if_true]
   refine ⟨fun rest nl hnl=>?_,?_,fun hp=>?_⟩
   ·rw [es,List.append_assoc] at hnl ⊢
    simp only [rdFds,hhas,Option.isNone_none,Bool.and_self,if_true,ev]
    rw [j1 df _ nl hnl]
    simp only [Out.bind]
    rw [i1 rest nl (fun h=>(List.append_eq_nil_iff.1 (hnl h)).2)]
   ·simp only [es,ev,wrFds,hhas,Option.isNone_none,Bool.and_self,if_true,List.headD_cons,List.tail_cons,i2,j2]
   ·rw [es,List.length_append]
    simp only [posFds,hhas,Option.isNone_none,Bool.true_and,Bool.or_eq_true] at hp
    rcases hp with hp | hp
    ·have:=j3 hp;omega
    ·have:=i3 hp;omega
  | false=>
   rw [hhas] at hh
   have es:sFds ver fx (.cons kind slo shi nul stag sdf of sub sr) i t=sFds ver fx sr (i + 1) t:=by
    simp only [sFds]
    rw [if_neg (fun h=>by rw [h.2] at hh;cases hh),List.nil_append]
   have ev:vFds ver fx (.cons lo hi none df off ty r) (.cons kind slo shi nul stag sdf of sub sr) i t=xk_ df ty :: vFds ver fx r sr (i + 1) t:=by
    simp only [vFds,hhas,Option.isNone_none,Bool.and_false,Bool.false_eq_true,if_false]
   refine ⟨fun rest nl hnl=>?_,?_,fun hp=>?_⟩
   ·rw [es] at hnl ⊢
    simp only [rdFds,hhas,Option.isNone_none,Bool.and_false,Bool.false_eq_true,if_false,ev]
    rw [i1 rest nl hnl]
    rfl
   ·simp only [es,ev,wrFds,hhas,Option.isNone_none,Bool.and_false,Bool.false_eq_true,if_false,List.tail_cons,i2,List.nil_append]
   ·rw [es]
    simp only [posFds,hhas,Option.isNone_none,Bool.and_false,Bool.false_and,Bool.false_or] at hp
    exact i3 hp
end
end Go.Proofs.YthjaecnbgfohmadDoor.Kx

namespace Go.Proofs.YthjaecnbgfohmadDoor.Kx
theorem rU_ext {k:Nat} {r:RS} (h:(rU k r).2.bad=false) (c:Bs) (nl:Bool):rU k ⟨r.src++c,false,nl⟩=((rU k r).1,⟨(rU k r).2.src++c,false,nl⟩):=by
 unfold rU at h ⊢
 by_cases hk:r.src.length < k
 ·rw [if_pos hk] at h;cases h
 ·rw [if_neg hk,if_neg (by simp;omega)]
  simp only
  rw [List.take_append_of_le_length (by omega),List.drop_append_of_le_length (by omega)]
theorem rU_bad {k:Nat} {r:RS} (h:r.bad=true):(rU k r).2.bad=true:=by
 unfold rU
 split
 ·rfl
 ·exact h
theorem rI_ext {k:Nat} {r:RS} (h:(rI k r).2.bad=false) (c:Bs) (nl:Bool):rI k ⟨r.src++c,false,nl⟩=((rI k r).1,⟨(rI k r).2.src++c,false,nl⟩):=by
 simp only [rI] at h ⊢
 rw [rU_ext h]
theorem rI_bad {k:Nat} {r:RS} (h:r.bad=true):(rI k r).2.bad=true:=rU_bad h
theorem uvRead_ext (l c:Bs) (h:0 < (q6_ l).2):q6_ (l++c)=q6_ l/\(q6_ l).2.toNat<=l.length:=by
 refine ⟨?_,?_⟩
 ·cases l with
  | nil=>simp [q6_] at h
  | cons a l=>
   simp only [q6_,List.cons_append] at h ⊢
   split
   ·rfl
   ·rename_i ha
    rw [if_neg ha] at h
    cases l with
    | nil=>simp at h
    | cons b l=>
     simp only [List.cons_append] at h ⊢
     split
     ·rfl
     ·rename_i hb
      rw [if_neg hb] at h
      cases l with
      | nil=>simp at h
      | cons d l=>
       simp only [List.cons_append] at h ⊢
       split
       ·rfl
       ·rename_i hd
        rw [if_neg hd] at h
        cases l with
        | nil=>simp at h
        | cons e l=>
         simp only [List.cons_append] at h ⊢
         split
         ·rfl
         ·rename_i he
          rw [if_neg he] at h
          cases l with
          | nil=>simp at h
          | cons f l=>rfl
 ·rcases uvRead_spec l with h1 | h1
  ·omega
  ·omega
theorem rUv_ext {r:RS} (h:(rUv r).2.bad=false) (c:Bs) (nl:Bool):rUv ⟨r.src++c,false,nl⟩=((rUv r).1,⟨(rUv r).2.src++c,false,nl⟩):=by
 unfold rUv at h ⊢
 by_cases hk:(q6_ r.src).2<=0
 ·rw [if_pos hk] at h;cases h
 ·obtain ⟨e,hl⟩:=uvRead_ext r.src c (by omega)
  simp only [e]
  rw [if_neg hk,if_neg hk]
  simp only
  rw [List.drop_append_of_le_length hl]
theorem rUv_bad {r:RS} (h:r.bad=true):(rUv r).2.bad=true:=by
 unfold rUv
 split
 ·rfl
 ·exact h
theorem rSpan_ext {k:Int} {r:RS} (h:(qr_ k r).2.bad=false) (c:Bs) (nl:Bool):∃ v,qr_ k ⟨r.src++c,false,nl⟩=(v,⟨(qr_ k r).2.src++c,false,nl⟩):=by
 unfold qr_ at h ⊢
 by_cases hk:(r.src.length:Int) < k \/ k < 0
 ·rw [if_pos hk] at h;cases h
 ·rw [if_neg hk,if_neg (by simp;omega)]
  simp only
  rw [List.drop_append_of_le_length (by omega)]
  exact ⟨_,rfl⟩
theorem z0_ {k:Int} {r:RS} (h:r.bad=true):(qr_ k r).2.bad=true:=by
 unfold qr_
 split
 ·rfl
 ·exact h
theorem rLen_ext {fx:Bool} {r:RS} (h:(j2_ fx r).2.bad=false) (c:Bs) (nl:Bool):j2_ fx ⟨r.src++c,false,nl⟩=((j2_ fx r).1,⟨(j2_ fx r).2.src++c,false,nl⟩):=by
 cases fx with
 | true=>
  unfold j2_ at h ⊢
  simp only [if_true] at h ⊢
  by_cases hk:((rUv r).2.src.length:Int) < j4_ (j4_ (rUv r).1 - 1)
  ·rw [if_pos hk] at h;cases h
  ·rw [if_neg hk] at h
   simp only at h
   rw [rUv_ext h,if_neg hk]
   simp only
   rw [if_neg (by simp;omega)]
 | false=>
  unfold j2_ at h ⊢
  simp only [Bool.false_eq_true,if_false] at h ⊢
  by_cases hk:((rI 4 r).2.src.length:Int) < (rI 4 r).1
  ·rw [if_pos hk] at h;cases h
  ·rw [if_neg hk] at h
   rw [rI_ext h,if_neg hk]
   simp only
   rw [if_neg (by simp;omega)]
theorem rLen_bad {fx:Bool} {r:RS} (h:r.bad=true):(j2_ fx r).2.bad=true:=by
 unfold j2_
 cases fx with
 | true=>
  simp only [if_true]
  split
  ·rfl
  ·exact rUv_bad h
 | false=>
  simp only [Bool.false_eq_true,if_false]
  split
  ·rfl
  ·exact rI_bad h
theorem jn_ {b:Bool} (h:b ≠ true):b=false:=by cases b <;> simp at h ⊢
theorem pf_bad (p:PF) {r:RS} (h:r.bad=true):(p.run r).2.bad=true:=by
 cases p with
 | bool=>simp only [PF.run,rBool];split <;> first | rfl | exact h
 | i8=>exact rI_bad h
 | i16=>exact rI_bad h
 | u16=>exact rU_bad h
 | i32=>exact rI_bad h
 | i64=>exact rI_bad h
 | uuid=>simp only [PF.run];split <;> first | rfl | exact h
 | str=>exact z0_ (rI_bad h)
 | cstr=>exact z0_ (rUv_bad h)
 | nstr=>simp only [PF.run];split;exact rI_bad h;exact z0_ (rI_bad h)
 | cnstr=>simp only [PF.run];split;exact rUv_bad h;exact z0_ (rUv_bad h)
 | bytes=>simp only [PF.run];split;exact rI_bad h;exact z0_ (rI_bad h)
 | cbytes=>simp only [PF.run];split;exact rUv_bad h;exact z0_ (rUv_bad h)
 | nbytes=>simp only [PF.run];split;exact rI_bad h;exact z0_ (rI_bad h)
 | cnbytes=>simp only [PF.run];split;exact rUv_bad h;exact z0_ (rUv_bad h)
theorem rText_ext {k:Int} {r:RS} (h:(rText k r).2.bad=false) (c:Bs) (nl:Bool):∃ v,rText k ⟨r.src++c,false,nl⟩=(v,⟨(rText k r).2.src++c,false,nl⟩):=by
 obtain ⟨v,e⟩:=rSpan_ext (k:=k) (r:=r) h c nl
 refine ⟨.s v.octets,?_⟩
 simp only [rText,e]
theorem i_ok {k:Nat} {r:RS} {f:Int->RS->V × RS} (hf:∀ x s,s.bad=true->(f x s).2.bad=true) (h:(f (rI k r).1 (rI k r).2).2.bad=false):(rI k r).2.bad=false:=
 jn_ fun hb=>by rw [hf _ _ hb] at h;cases h
theorem u_ok {r:RS} {f:Nat->RS->V × RS} (hf:∀ x s,s.bad=true->(f x s).2.bad=true) (h:(f (rUv r).1 (rUv r).2).2.bad=false):(rUv r).2.bad=false:=
 jn_ fun hb=>by rw [hf _ _ hb] at h;cases h
theorem pf_ext (p:PF) {r:RS} (h:(p.run r).2.bad=false) (c:Bs) (nl:Bool):∃ v,p.run ⟨r.src++c,false,nl⟩=(v,⟨(p.run r).2.src++c,false,nl⟩):=by
 have nI:∀ (k:Nat) (f:Int->RS->V × RS),(∀ x s,s.bad=true->(f x s).2.bad=true)->(∀ x s,(f x s).2.bad=false->∃ v,f x ⟨s.src++c,false,nl⟩=(v,⟨(f x s).2.src++c,false,nl⟩)) ->
   (f (rI k r).1 (rI k r).2).2.bad=false->∃ v,f (rI k ⟨r.src++c,false,nl⟩).1 (rI k ⟨r.src++c,false,nl⟩).2=(v,⟨(f (rI k r).1 (rI k r).2).2.src++c,false,nl⟩):=fun k f hb he hh=>by
  rw [rI_ext (i_ok hb hh) c nl]
  exact he _ _ hh
 have nU:∀ (f:Nat->RS->V × RS),(∀ x s,s.bad=true->(f x s).2.bad=true)->(∀ x s,(f x s).2.bad=false->∃ v,f x ⟨s.src++c,false,nl⟩=(v,⟨(f x s).2.src++c,false,nl⟩)) ->
   (f (rUv r).1 (rUv r).2).2.bad=false->∃ v,f (rUv ⟨r.src++c,false,nl⟩).1 (rUv ⟨r.src++c,false,nl⟩).2=(v,⟨(f (rUv r).1 (rUv r).2).2.src++c,false,nl⟩):=fun f hb he hh=>by
  rw [rUv_ext (u_ok hb hh) c nl]
  exact he _ _ hh
 have tb:∀ (x:Int) (s:RS),s.bad=true->(rText x s).2.bad=true:=fun x s hs=>z0_ (k:=x) hs
 have te:∀ (x:Int) (s:RS),(rText x s).2.bad=false->∃ v,rText x ⟨s.src++c,false,nl⟩=(v,⟨(rText x s).2.src++c,false,nl⟩):=fun x s hs=>rText_ext hs c nl
 have sb:∀ (x:Int) (s:RS),s.bad=true->(qr_ x s).2.bad=true:=fun x s hs=>z0_ hs
 have se:∀ (x:Int) (s:RS),(qr_ x s).2.bad=false->∃ v,qr_ x ⟨s.src++c,false,nl⟩=(v,⟨(qr_ x s).2.src++c,false,nl⟩):=fun x s hs=>rSpan_ext hs c nl
 cases p with
 | bool=>
  obtain ⟨src,bad,nl0⟩:=r
  cases src with
  | nil=>simp [PF.run,rBool,RS.fail] at h
  | cons b l=>exact ⟨_,rfl⟩
 | i8=>exact nI 1 (fun x s=>(.n x,s)) (fun _ _ h=>h) (fun x s hs=>⟨_,rfl⟩) h
 | i16=>exact nI 2 (fun x s=>(.n x,s)) (fun _ _ h=>h) (fun x s hs=>⟨_,rfl⟩) h
 | i32=>exact nI 4 (fun x s=>(.n x,s)) (fun _ _ h=>h) (fun x s hs=>⟨_,rfl⟩) h
 | i64=>exact nI 8 (fun x s=>(.n x,s)) (fun _ _ h=>h) (fun x s hs=>⟨_,rfl⟩) h
 | u16=>
  have e:=rU_ext (k:=2) (r:=r) h c nl
  exact ⟨.n (rU 2 r).1,by simp only [PF.run,e]⟩
 | uuid=>
  simp only [PF.run] at h ⊢
  by_cases hk:r.src.length < 16
  ·rw [if_pos hk] at h;cases h
  ·rw [if_neg hk,if_neg (by simp;omega)]
   exact ⟨_,by simp only;rw [List.drop_append_of_le_length (by omega)]⟩
 | str=>exact nI 2 rText tb te h
 | cstr=>exact nU (fun x s=>rText ((x:Int) - 1) s) (fun x=>tb _) (fun x=>te _) h
 | nstr=>
  exact nI 2 (fun x s=>if x < 0 then (.nul,s) else rText x s) (fun x s hs=>by split;exact hs;exact tb _ _ hs) (fun x s hs=>by
   split
   ·exact ⟨_,rfl⟩
   ·rename_i hx;rw [if_neg hx] at hs;exact te _ _ hs) h
 | cnstr=>
  exact nU (fun x s=>if ((x:Int) - 1) < 0 then (.nul,s) else rText ((x:Int) - 1) s) (fun x s hs=>by split;exact hs;exact tb _ _ hs) (fun x s hs=>by
   split
   ·exact ⟨_,rfl⟩
   ·rename_i hx;rw [if_neg hx] at hs;exact te _ _ hs) h
 | bytes=>
  exact nI 4 (fun x s=>if x=-1 then (.s [],s) else qr_ x s) (fun x s hs=>by split;exact hs;exact sb _ _ hs) (fun x s hs=>by
   split
   ·exact ⟨_,rfl⟩
   ·rename_i hx;rw [if_neg hx] at hs;exact se _ _ hs) h
 | cbytes=>
  exact nU (fun x s=>if ((x:Int) - 1)=-1 then (.s [],s) else qr_ ((x:Int) - 1) s) (fun x s hs=>by split;exact hs;exact sb _ _ hs) (fun x s hs=>by
   split
   ·exact ⟨_,rfl⟩
   ·rename_i hx;rw [if_neg hx] at hs;exact se _ _ hs) h
 | nbytes=>
  exact nI 4 (fun x s=>if x < 0 then (.nul,s) else qr_ x s) (fun x s hs=>by split;exact hs;exact sb _ _ hs) (fun x s hs=>by
   split
   ·exact ⟨_,rfl⟩
   ·rename_i hx;rw [if_neg hx] at hs;exact se _ _ hs) h
 | cnbytes=>
  exact nU (fun x s=>if ((x:Int) - 1) < 0 then (.nul,s) else qr_ ((x:Int) - 1) s) (fun x s hs=>by split;exact hs;exact sb _ _ hs) (fun x s hs=>by
   split
   ·exact ⟨_,rfl⟩
   ·rename_i hx;rw [if_neg hx] at hs;exact se _ _ hs) h
theorem rTags_bad:∀ (n:Nat) (acc:List (Nat × Bs)) (r:RS),r.bad=true->(jv_ n acc r).2.bad=true
 | 0,_,_,h=>h
 | n + 1,acc,r,h=>by
  simp only [jv_]
  exact rTags_bad n _ _ (z0_ (rUv_bad (rUv_bad h)))
theorem rTags_ext:∀ (n:Nat) (acc acc':List (Nat × Bs)) (r:RS),(jv_ n acc r).2.bad=false->∀ (c:Bs) (nl:Bool),∃ t,jv_ n acc' ⟨r.src++c,false,nl⟩=(t,⟨(jv_ n acc r).2.src++c,false,nl⟩)
 | 0,acc,acc',r,_,c,nl=>⟨acc',rfl⟩
 | n + 1,acc,acc',r,h,c,nl=>by
  simp only [jv_] at h ⊢
  have h3:(qr_ (rUv (rUv r).2).1 (rUv (rUv r).2).2).2.bad=false:=jn_ fun hb=>by rw [rTags_bad n _ _ hb] at h;cases h
  have h2:(rUv (rUv r).2).2.bad=false:=jn_ fun hb=>by rw [z0_ hb] at h3;cases h3
  have h1:(rUv r).2.bad=false:=jn_ fun hb=>by rw [rUv_bad hb] at h2;cases h2
  obtain ⟨v,e3⟩:=rSpan_ext h3 c nl
  rw [rUv_ext h1 c nl]
  simp only
  rw [rUv_ext h2 c nl]
  simp only
  rw [e3]
  exact rTags_ext n _ _ _ h c nl
structure Ext {α:Type} (f:RS->Out α):Prop where
 bad:∀ r v r',f r=.ok v r'->r.bad=true->r'.bad=true
 go:∀ r,r.bad=true->f r ≠ .stuck
 ok:∀ r v r',f r=.ok v r'->r'.bad=false->∀ (c:Bs) (nl:Bool),∃ v',f ⟨r.src++c,false,nl⟩=.ok v' ⟨r'.src++c,false,nl⟩
 stuck:∀ r,f r=.stuck->∀ (c:Bs) (nl:Bool),f ⟨r.src++c,false,nl⟩=.stuck
theorem ext_pf (p:PF):Ext (fun r=>.ok (p.run r).1 (p.run r).2) where
 bad r v r' h hb:=by
  simp only [Out.ok.injEq] at h
  rw [<- h.2]
  exact pf_bad p hb
 go r hb h:=by cases h
 ok r v r' h hb c nl:=by
  simp only [Out.ok.injEq] at h
  rw [<- h.2] at hb ⊢
  obtain ⟨v',e⟩:=pf_ext p hb c nl
  exact ⟨v',by rw [e]⟩
 stuck r h:=by cases h
theorem ext_bind {α β γ:Type} {f:RS->Out α} {g:RS->Out β} (u:α->β->γ) (hf:Ext f) (hg:Ext g):Ext (fun r=>(f r).bind fun a r=>(g r).bind fun b r=>.ok (u a b) r) where
 bad r v r' h hb:=by
  obtain ⟨a,r1,h1,h2⟩:=xv_ h
  obtain ⟨b,r2,h3,h4⟩:=xv_ h2
  simp only [Out.ok.injEq] at h4
  rw [<- h4.2]
  exact hg.bad _ _ _ h3 (hf.bad _ _ _ h1 hb)
 go r hb h:=by
  cases hv:f r with
  | stuck=>exact hf.go r hb hv
  | err=>simp only [hv,Out.bind] at h;cases h
  | ok a r1=>
   simp only [hv,Out.bind] at h
   cases hw:g r1 with
   | stuck=>exact hg.go r1 (hf.bad _ _ _ hv hb) hw
   | err=>rw [hw] at h;cases h
   | ok b r2=>rw [hw] at h;cases h
 ok r v r' h hb c nl:=by
  obtain ⟨a,r1,h1,h2⟩:=xv_ h
  obtain ⟨b,r2,h3,h4⟩:=xv_ h2
  simp only [Out.ok.injEq] at h4
  obtain ⟨rfl,rfl⟩:=h4
  have hb1:r1.bad=false:=jn_ fun hh=>by rw [hg.bad _ _ _ h3 hh] at hb;cases hb
  obtain ⟨a',e1⟩:=hf.ok _ _ _ h1 hb1 c nl
  obtain ⟨b',e2⟩:=hg.ok _ _ _ h3 hb c nl
  exact ⟨u a' b',by rw [e1];simp only [Out.bind];rw [e2]⟩
 stuck r h c nl:=by
  cases hv:f r with
  | stuck=>rw [hf.stuck r hv c nl];rfl
  | err=>simp only [hv,Out.bind] at h;cases h
  | ok a r1=>
   simp only [hv,Out.bind] at h
   cases hw:g r1 with
   | stuck=>
    have hb1:r1.bad=false:=jn_ fun hh=>hg.go r1 hh hw
    obtain ⟨a',e1⟩:=hf.ok _ _ _ hv hb1 c nl
    rw [e1]
    simp only [Out.bind]
    rw [hg.stuck r1 hw c nl]
   | err=>rw [hw] at h;cases h
   | ok b r2=>rw [hw] at h;cases h
theorem ext_ret {α:Type} (a:α):Ext (fun r=>.ok a r) where
 bad r v r' h hb:=by
  simp only [Out.ok.injEq] at h
  rw [<- h.2];exact hb
 go r hb h:=by cases h
 ok r v r' h hb c nl:=by
  simp only [Out.ok.injEq] at h
  rw [<- h.2];exact ⟨a,rfl⟩
 stuck r h:=by cases h
theorem ext_map {α β:Type} {f:RS->Out α} (u:α->β) (hf:Ext f):Ext (fun r=>(f r).bind fun a r=>.ok (u a) r):=
 ext_bind (fun a (_:Unit)=>u a) hf (ext_ret ())
theorem ext_many {f:RS->Out V} (hf:Ext f):∀ n,Ext (z7_ f n)
 | 0=>ext_ret []
 | n + 1=>ext_bind (fun a b=>a :: b) hf (ext_many hf n)
theorem ext_tags:Ext (fun r=>.ok (jv_ (rUv r).1 [] (rUv r).2).1 (jv_ (rUv r).1 [] (rUv r).2).2) where
 bad r v r' h hb:=by
  simp only [Out.ok.injEq] at h
  rw [<- h.2]
  exact rTags_bad _ _ _ (rUv_bad hb)
 go r hb h:=by cases h
 ok r v r' h hb c nl:=by
  simp only [Out.ok.injEq] at h
  rw [<- h.2] at hb ⊢
  have h1:(rUv r).2.bad=false:=jn_ fun hh=>by rw [rTags_bad _ _ _ hh] at hb;cases hb
  obtain ⟨t,e⟩:=rTags_ext _ [] [] _ hb c nl
  refine ⟨t,?_⟩
  rw [rUv_ext h1 c nl]
  simp only
  rw [e]
 stuck r h:=by cases h
theorem ext_st {fx:Bool} {fields:RS->Out (List V)} {tag:Nat->Option (List V->RS->Out (List V))} (hf:Ext fields):Ext (zd_ fx false fields tag):=by
 cases fx with
 | false=>
  have e:zd_ false false fields tag=fun r=>(fields r).bind fun a r=>.ok (.st a []) r:=by funext r;simp [zd_]
  rw [e]
  exact ext_map (fun a=>V.st a []) hf
 | true=>
  have e:zd_ true false fields tag=fun r=>(fields r).bind fun a r=>((fun r=>Out.ok (jv_ (rUv r).1 [] (rUv r).2).1 (jv_ (rUv r).1 [] (rUv r).2).2) r).bind fun b r=>.ok (V.st a b) r:=by
   funext r;simp [zd_,Out.bind]
  rw [e]
  exact ext_bind (fun a b=>V.st a b) hf ext_tags
theorem ext_list {ver:Int} {fx:Bool} {nul:Option Nat} {esz:Nat} {e:Ty} (he:Ext (zw_ fx ver e (xk_ 0 e))) (df:Int):Ext (zw_ fx ver (.list nul esz e) (xk_ df (.list nul esz e))):=by
 have er:∀ r,zw_ fx ver (.list nul esz e) (xk_ df (.list nul esz e)) r=if (j2_ fx r).2.bad then .err else if !roomy (j2_ fx r).1 esz then .stuck else
   if (j2_ fx r).1<=0 then .ok (if nul.isSome && (decide ((j2_ fx r).1=0) || !xc_ nul ver) then .l [] else .nul) (j2_ fx r).2
   else (z7_ (zw_ fx ver e (xk_ 0 e)) (j2_ fx r).1.toNat (j2_ fx r).2).bind fun vs r=>.ok (.l vs) r:=fun r=>by simp only [zw_,xk_,V.isNul,Bool.not_true,Bool.false_eq_true,if_false]
 refine ⟨fun r v r' h hb=>?_,fun r hb h=>?_,fun r v r' h hb c nl=>?_,fun r h c nl=>?_⟩
 ·rw [er,if_pos (rLen_bad hb)] at h;cases h
 ·rw [er,if_pos (rLen_bad hb)] at h;cases h
 ·rw [er] at h
  split at h
  ·cases h
  ·rename_i hbad
   have hbad:(j2_ fx r).2.bad=false:=jn_ hbad
   rw [er,rLen_ext hbad c nl]
   simp only
   split at h
   ·cases h
   ·rename_i hro
    split at h
    ·rename_i hL
     simp only [Out.ok.injEq] at h
     rw [<- h.2]
     rw [if_neg (by simp),if_neg hro,if_pos hL]
     exact ⟨_,rfl⟩
    ·rename_i hL
     obtain ⟨vs,r1,h1,h2⟩:=xv_ h
     simp only [Out.ok.injEq] at h2
     obtain ⟨_,rfl⟩:=h2
     obtain ⟨vs',e1⟩:=(ext_many he _).ok _ _ _ h1 hb c nl
     rw [if_neg (by simp),if_neg hro,if_neg hL,e1]
     exact ⟨_,rfl⟩
 ·rw [er] at h
  split at h
  ·cases h
  ·rename_i hbad
   have hbad:(j2_ fx r).2.bad=false:=jn_ hbad
   rw [er,rLen_ext hbad c nl]
   simp only
   rw [if_neg (by simp)]
   split at h
   ·rename_i hro
    rw [if_pos hro]
   ·rename_i hro
    rw [if_neg hro]
    split at h
    ·cases h
    ·rename_i hL
     rw [if_neg hL]
     cases hv:z7_ (zw_ fx ver e (xk_ 0 e)) (j2_ fx r).1.toNat (j2_ fx r).2 with
     | stuck=>rw [(ext_many he _).stuck _ hv c nl];rfl
     | err=>simp only [hv,Out.bind] at h;cases h
     | ok a b=>simp only [hv,Out.bind] at h;cases h
mutual
theorem ext_ty (ver:Int) (fx:Bool):∀ (ty:Ty) (kind:Nat) (n:Int) (of:Nat) (sub:SFs),fitTy ver fx ty kind n of sub=true->∀ df,Ext (zw_ fx ver ty (xk_ df ty))
 | .prim p,_,_,_,_,_,df=>by
  have e:zw_ fx ver (.prim p) (xk_ df (.prim p))=fun r=>.ok ((jp_ p).run r).1 ((jp_ p).run r).2:=by funext r;simp only [zw_]
  rw [e];exact ext_pf _
 | .str nul,_,_,_,_,_,df=>by
  have e:zw_ fx ver (.str nul) (xk_ df (.str nul))=fun r=>.ok ((xl_ (xo_ nul ver) fx).run r).1 ((xl_ (xo_ nul ver) fx).run r).2:=by funext r;simp only [zw_]
  rw [e];exact ext_pf _
 | .bytes nul,_,_,_,_,_,df=>by
  have e:zw_ fx ver (.bytes nul) (xk_ df (.bytes nul))=fun r=>.ok ((q1_ (xo_ nul ver) fx).run r).1 ((q1_ (xo_ nul ver) fx).run r).2:=by funext r;simp only [zw_]
  rw [e];exact ext_pf _
 | .list nul esz e,kind,n,of,sub,h,df=>by
  simp only [fitTy,Bool.and_eq_true] at h
  exact ext_list (ext_ty ver fx e of (-1) 0 sub h.2 0) df
 | .struct none toff fs,kind,n,of,sub,h,df=>by
  simp only [fitTy,Bool.and_eq_true] at h
  have e:zw_ fx ver (.struct none toff fs) (xk_ df (.struct none toff fs))=zd_ fx false (rdFds fx ver fs) (rdTag fx ver fs):=by funext r;simp only [zw_,(fit_plain ver fx fs sub h.2).2]
  rw [e]
  exact ext_st (ext_fds ver fx fs sub h.2)
 | .struct (some m) toff fs,kind,n,of,sub,h,df=>by
  simp only [fitTy,Bool.and_eq_true] at h
  have hs:=ext_st (fx:=fx) (tag:=rdTag fx ver fs) (ext_fds ver fx fs sub h.2)
  have e:∀ r,zw_ fx ver (.struct (some m) toff fs) (xk_ df (.struct (some m) toff fs)) r=if (rI 1 r).1=-1 \/ (rI 1 r).2.bad=true then .ok .nul (rI 1 r).2 else zd_ fx false (rdFds fx ver fs) (rdTag fx ver fs) (rI 1 r).2:=fun r=>by
   simp only [zw_,xk_,V.isNul,Bool.not_true,Bool.false_eq_true,if_false,(fit_plain ver fx fs sub h.2).2]
  refine ⟨fun r v r' h hb=>?_,fun r hb h=>?_,fun r v r' h hb c nl=>?_,fun r h c nl=>?_⟩
  ·rw [e,if_pos (.inr (rI_bad hb))] at h
   simp only [Out.ok.injEq] at h
   rw [<- h.2];exact rI_bad hb
  ·rw [e,if_pos (.inr (rI_bad hb))] at h
   cases h
  ·rw [e] at h
   have hb1:(rI 1 r).2.bad=false:=by
    split at h
    ·simp only [Out.ok.injEq] at h
     rw [h.2];exact hb
    ·rename_i hn
     exact jn_ fun hh=>hn (.inr hh)
   rw [e,rI_ext hb1 c nl]
   simp only
   split at h
   ·rename_i hn
    have hn:(rI 1 r).1=-1:=hn.resolve_right (by rw [hb1];simp)
    simp only [Out.ok.injEq] at h
    rw [if_pos (.inl hn),<- h.2]
    exact ⟨_,rfl⟩
   ·rename_i hn
    rw [if_neg (by simp only [Bool.false_eq_true,or_false];exact fun hh=>hn (.inl hh))]
    exact hs.ok _ _ _ h hb c nl
  ·rw [e] at h
   split at h
   ·cases h
   ·rename_i hn
    have hb1:(rI 1 r).2.bad=false:=jn_ fun hh=>hn (.inr hh)
    rw [e,rI_ext hb1 c nl]
    simp only
    rw [if_neg (by simp only [Bool.false_eq_true,or_false];exact fun hh=>hn (.inl hh))]
    exact hs.stuck _ h c nl
theorem ext_fds (ver:Int) (fx:Bool):∀ (fs:Fds) (sf:SFs),fitFds ver fx fs sf=true->Ext (rdFds fx ver fs)
 | .nil,_,_=>by
  have e:rdFds fx ver .nil=fun r=>.ok [] r:=by funext r;simp only [rdFds]
  rw [e];exact ext_ret []
 | .cons ..,.nil,h=>by simp [fitFds] at h
 | .cons lo hi tag df off ty r,.cons kind slo shi nul stag sdf of sub sr,h=>by
  simp only [fitFds,Bool.and_eq_true,decide_eq_true_eq,beq_iff_eq] at h
  obtain ⟨⟨⟨⟨ht,_⟩,_⟩,hty⟩,hr⟩:=h
  have ih:=ext_fds ver fx r sr hr
  have htn:tag=none:=by cases tag with | none=>rfl | some _=>cases ht
  subst htn
  cases hhas:has lo hi ver with
  | true=>
   rw [hhas] at hty
   simp only [Bool.not_true,Bool.false_or] at hty
   have e:rdFds fx ver (.cons lo hi none df off ty r)=fun s=>(zw_ fx ver ty (xk_ df ty) s).bind fun a s=>(rdFds fx ver r s).bind fun b s=>.ok (a :: b) s:=by funext s;simp [rdFds,hhas]
   rw [e]
   exact ext_bind (fun a b=>a :: b) (ext_ty ver fx ty kind nul of sub hty df) ih
  | false=>
   have e:rdFds fx ver (.cons lo hi none df off ty r)=fun s=>(rdFds fx ver r s).bind fun b s=>.ok (xk_ df ty :: b) s:=by funext s;simp [rdFds,hhas]
   rw [e]
   exact ext_map (fun b=>xk_ df ty :: b) ih
end
end Go.Proofs.YthjaecnbgfohmadDoor.Kx
