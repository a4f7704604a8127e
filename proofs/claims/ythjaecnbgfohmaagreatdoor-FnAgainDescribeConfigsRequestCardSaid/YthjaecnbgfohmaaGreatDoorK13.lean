/-
  PLAIN LAWS AND CONTRACTS of messages, part 13 of 15: how readers and writers are printed, what they do, what the reference writes, and that what is written is read as the same. Nothing of a statement stands here.
-/
import Derived.Test.YthjaecnbgfohmaaGreatDoorK1
import Derived.Test.YthjaecnbgfohmaaGreatDoorK2
import Derived.Test.YthjaecnbgfohmaaGreatDoorK3
import Derived.Test.YthjaecnbgfohmaaGreatDoorK5
import Derived.Test.YthjaecnbgfohmaaGreatDoorK11

namespace Go.Proofs.YthjaecnbgfohmaaGreatDoor.Kx
theorem rMany_map {f:RS->Out V} {w:Tr->Bs} {v:Tr->V}:∀ (ts:List Tr),(∀ t ∈ ts,∀ rest,f ⟨w t++rest,false,false⟩=.ok (v t) ⟨rest,false,false⟩)->∀ rest,rMany f ts.length ⟨(ts.map w).flatten++rest,false,false⟩=.ok (ts.map v) ⟨rest,false,false⟩
 | [],_,rest=>by simp [rMany]
 | t :: ts,h,rest=>by
  simp only [List.map_cons,List.flatten_cons,List.length_cons,rMany,List.append_assoc]
  rw [h t (List.mem_cons_self ..)]
  simp only [Out.bind]
  rw [rMany_map ts (fun t ht=>h t (List.mem_cons_of_mem _ ht)) rest]
theorem flatten_ge {w:Tr->Bs}:∀ (ts:List Tr),(∀ t ∈ ts,0 < (w t).length)->ts.length<=(ts.map w).flatten.length
 | [],_=>by simp
 | t :: ts,h=>by
  have h1:=h t (List.mem_cons_self ..)
  have h2:=flatten_ge ts fun t ht=>h t (List.mem_cons_of_mem _ ht)
  simp only [List.map_cons,List.flatten_cons,List.length_cons,List.length_append]
  omega
theorem mem_insFirst (k:Nat) (v:Bs):∀ (l:List (Nat × Bs)) (y:Nat × Bs),y ∈ jl_ k v l->y=(k,v) \/ y ∈ l
 | [],y,h=>by simpa [jl_] using h
 | (j,u) :: r,y,h=>by
  simp only [jl_] at h
  split at h
  ·simpa using h
  ·split at h
   ·exact .inr h
   ·rcases List.mem_cons.1 h with h | h
    ·exact .inr (h ▸ List.mem_cons_self ..)
    ·rcases mem_insFirst k v r y h with h | h
     ·exact .inl h
     ·exact .inr (List.mem_cons_of_mem _ h)
theorem insFirst_pw (k:Nat) (v:Bs):∀ (l:List (Nat × Bs)),l.Pairwise (fun a b=>a.1 < b.1)->(jl_ k v l).Pairwise (fun a b=>a.1 < b.1)
 | [],_=>by simp [jl_]
 | (j,u) :: r,h=>by
  obtain ⟨h1,h2⟩:=List.pairwise_cons.1 h
  simp only [jl_]
  split
  ·rename_i hk
   refine List.pairwise_cons.2 ⟨fun y hy=>?_,h⟩
   rcases List.mem_cons.1 hy with rfl | hy
   ·exact hk
   ·exact Nat.lt_trans hk (h1 y hy)
  ·split
   ·exact h
   ·refine List.pairwise_cons.2 ⟨fun y hy=>?_,insFirst_pw k v r h2⟩
    rcases mem_insFirst k v r y hy with rfl | hy
    ·show j < k;omega
    ·exact h1 y hy
theorem insFirst_len (k:Nat) (v:Bs):∀ (l:List (Nat × Bs)),(jl_ k v l).length<=l.length + 1
 | []=>by simp [jl_]
 | (j,u) :: r=>by
  have:=insFirst_len k v r
  simp only [jl_]
  split
  ·simp
  ·split <;> simp <;> omega
theorem sUnkL_ok (n:Nat):∀ (l acc:List (Nat × Bs)),acc.Pairwise (fun a b=>a.1 < b.1)->(sUnkL n l acc).Pairwise (fun a b=>a.1 < b.1)/\(∀ y ∈ sUnkL n l acc,y ∈ l \/ y ∈ acc)/\(sUnkL n l acc).length<=l.length + acc.length
 | [],acc,h=>⟨h,fun y hy=>.inr hy,by simp [sUnkL]⟩
 | (k,v) :: r,acc,h=>by
  simp only [sUnkL]
  split
  ·obtain ⟨a,b,c⟩:=sUnkL_ok n r acc h
   refine ⟨a,fun y hy=>(b y hy).imp (List.mem_cons_of_mem _) id,?_⟩
   simp only [List.length_cons];omega
  ·obtain ⟨a,b,c⟩:=sUnkL_ok n r (jl_ k v acc) (insFirst_pw k v acc h)
   have hl:=insFirst_len k v acc
   refine ⟨a,fun y hy=>?_,by simp only [List.length_cons];omega⟩
   rcases b y hy with h1 | h1
   ·exact .inl (List.mem_cons_of_mem _ h1)
   ·rcases mem_insFirst k v acc y h1 with rfl | h1
    ·exact .inl (List.mem_cons_self ..)
    ·exact .inr h1
theorem tags_lt (t:Tr):∀ y ∈ t.tags,y.1 < 4294967296:=by
 obtain ⟨_,_,_,_,u⟩:=t
 intro y hy
 simp only [Tr.tags,List.mem_map] at hy
 obtain ⟨p,_,rfl⟩:=hy
 exact p.1.toNat_lt
theorem sUnk_ok (n:Nat) (t:Tr):(sUnk n t.tags).Pairwise (fun a b=>a.1 < b.1)/\(∀ y ∈ sUnk n t.tags,y.1 < 4294967296)/\(sUnk n t.tags).length<=q5_:=by
 obtain ⟨a,b,c⟩:=sUnkL_ok n (t.tags.take q5_) [] List.Pairwise.nil
 refine ⟨a,fun y hy=>tags_lt t y ?_,?_⟩
 ·rcases b y hy with h | h
  ·exact List.mem_of_mem_take h
  ·cases h
 ·have:(t.tags.take q5_).length<=q5_:=by rw [List.length_take];exact Nat.min_le_left ..
  simp only [List.length_nil] at c
  exact Nat.le_trans c (by omega)
theorem sUnkT_ok (n:Nat) (t:Tr):(sUnkT n t).Pairwise (fun a b=>a.1 < b.1)/\(∀ y ∈ sUnkT n t,TagOk y/\y.2.length<=q5_)/\(sUnkT n t).length<=q5_/\(sUnkT n t).length=(sUnk n t.tags).length:=by
 obtain ⟨a,b,c⟩:=sUnk_ok n t
 refine ⟨?_,fun y hy=>?_,by simpa [sUnkT] using c,by simp [sUnkT]⟩
 ·unfold sUnkT
  rw [List.pairwise_map]
  exact a
 ·simp only [sUnkT,List.mem_map] at hy
  obtain ⟨p,hp,rfl⟩:=hy
  have:=take_most p.2
  exact ⟨⟨b p hp,by simp only [q5_] at *;omega⟩,this⟩
theorem sTags_w:∀ (l:List (Nat × Bs)),(∀ y ∈ l,TagOk y)->sTags l=xb_ l
 | [],_=>rfl
 | p :: r,h=>by
  have h1:=h p (List.mem_cons_self ..)
  have:w32 p.2.length=p.2.length:=Nat.mod_eq_of_lt h1.2
  have e:=sTags_w r fun y hy=>h y (List.mem_cons_of_mem _ hy)
  simp only [sTags,List.map_cons,List.flatten_cons,xb_,sTag,wTag,this] at e ⊢
  rw [e]
def sPlain:SFs->Bool
 | .nil=>true
 | .cons _ _ _ _ tag _ _ _ r=>decide (tag < 0) && sPlain r
theorem z0_:∀ sf:SFs,sPlain sf=true->qz_ sf=0
 | .nil,_=>rfl
 | .cons _ _ _ _ tag _ _ _ r,h=>by
  simp only [sPlain,Bool.and_eq_true,decide_eq_true_eq] at h
  simp only [qz_,z0_ r h.2]
  rw [if_neg (by omega)]
theorem tgd_nil (ver:Int) (fx:Bool):∀ (sf:SFs) (i:Nat) (t:Tr),sPlain sf=true->sTgd ver fx sf i t=[]
 | .nil,_,_,_=>by simp [sTgd]
 | .cons _ _ _ _ tag _ _ _ r,i,t,h=>by
  simp only [sPlain,Bool.and_eq_true,decide_eq_true_eq] at h
  simp only [sTgd,tgd_nil ver fx r (i + 1) t h.2,List.append_nil]
  rw [if_neg (by omega)]
theorem sTail_plain (fx:Bool) (t:Tr):sTail fx 0 [] t.tags=zf_ fx (if fx then sUnkT 0 t else []):=by
 obtain ⟨a,b,c,d⟩:=sUnkT_ok 0 t
 cases fx with
 | false=>simp [sTail,zf_]
 | true=>
  have hw:w32 (sUnkT 0 t).length=(sUnk 0 t.tags).length:=by rw [d];simp only [w32,q5_] at *;omega
  simp only [sTail,zf_,if_true,hw,sSort,List.range_zero,List.flatMap_nil,List.length_nil,Nat.zero_add]
  rw [<- sTags_w _ fun y hy=>(b y hy).1]
  rfl
theorem fit_plain (ver:Int) (fx:Bool):∀ (fs:Fds) (sf:SFs),fitFds ver fx fs sf=true->sPlain sf=true/\fs.tagged=false
 | .nil,.nil,_=>⟨rfl,rfl⟩
 | .nil,.cons ..,h=>by simp [fitFds] at h
 | .cons ..,.nil,h=>by simp [fitFds] at h
 | .cons lo hi tag df off ty r,.cons kind slo shi nul stag sdf of sub sr,h=>by
  simp only [fitFds,Bool.and_eq_true,decide_eq_true_eq] at h
  obtain ⟨a,b⟩:=fit_plain ver fx r sr h.2
  refine ⟨by simp only [sPlain,a,Bool.and_true,decide_eq_true_eq];exact h.1.1.1.2,?_⟩
  have:=h.1.1.1.1
  cases tag with
  | none=>simp only [Fds.tagged,b];rfl
  | some _=>cases this
theorem sPart_plain {ver:Int} {fx:Bool} {sf:SFs} (h:sPlain sf=true) (t:Tr):q7_ ver fx sf t=sFds ver fx sf 0 t++zf_ fx (if fx then sUnkT (qz_ sf) t else []):=by
 rw [q7_,z0_ sf h,tgd_nil ver fx sf 0 t h,sTail_plain]
theorem sp_st {_ver:Int} {fx:Bool} {fields:RS->Out (List V)} {tag:Nat->Option (List V->RS->Out (List V))} {F:Bs} {vs:List V} {t:Tr} (hf:∀ rest nl,(nl=true->F++rest=[])->fields ⟨F++rest,false,nl⟩=.ok vs ⟨rest,false,nl⟩) (rest:Bs) (nl:Bool)
  (hnl:nl=true->F++zf_ fx (if fx then sUnkT 0 t else [])++rest=[]):rdStOf fx false fields tag ⟨F++zf_ fx (if fx then sUnkT 0 t else [])++rest,false,nl⟩=.ok (.st vs (if fx then sUnkT 0 t else [])) ⟨rest,false,nl⟩:=by
 unfold rdStOf
 rw [List.append_assoc] at hnl ⊢
 rw [hf _ nl hnl]
 simp only [Out.bind]
 cases fx with
 | false=>simp [zf_]
 | true=>
  obtain ⟨a,b,c,d⟩:=sUnkT_ok 0 t
  have hw:w32 (sUnkT 0 t).length=(sUnkT 0 t).length:=by simp only [w32,q5_] at *;omega
  have hn:nl=false:=by
   refine nl_false (l:=zf_ true (sUnkT 0 t)) (rest:=rest) (fun h=>?_) ?_
   ·have:=hnl h
    simp only [if_true] at this
    exact (List.append_eq_nil_iff.1 this).2
   ·simp only [zf_,if_true,List.length_append]
    have:=uvar_pos (w32 (sUnkT 0 t).length)
    omega
  subst hn
  simp only [Bool.not_true,Bool.false_eq_true,if_false,if_true,zf_,hw,List.append_assoc]
  rw [rUv_uvar (by simp only [q5_] at c;omega)]
  simp only
  rw [rTags_again _ [] rest (by simpa using a) fun y hy=>(b y hy).1]
  simp
theorem sNul_m1 (ver:Int):zz_ (-1) ver=false:=by simp [zz_]
theorem sFld_elem {kind:Nat} (h:kind ≠ 11) (of:Nat) (ver:Int) (fx:Bool) (pt:Tr->Bs) (t:Tr):sFld kind (-1) of ver fx pt t=sVal kind false fx pt t:=by
 simp only [sFld,if_neg h,sNul_m1,Bool.and_false]
 rw [if_neg (by omega)]
theorem fit_kind {ver:Int} {fx:Bool} {ty:Ty} {kind:Nat} {n:Int} {of:Nat} {sub:SFs} (h:fitTy ver fx ty kind n of sub=true) (hl:ty.isList=false):kind ≠ 11:=by
 cases ty with
 | prim p=>simp only [fitTy,beq_iff_eq] at h;subst h;cases p <;> simp [pCode]
 | str=>simp only [fitTy,Bool.and_eq_true,beq_iff_eq] at h;have:=h.1;omega
 | bytes=>simp only [fitTy,Bool.and_eq_true,beq_iff_eq] at h;have:=h.1;omega
 | list=>cases hl
 | struct=>simp only [fitTy,Bool.and_eq_true,beq_iff_eq] at h;omega
theorem sCnt_null (fx:Bool) (n:Nat):sCnt fx true n 4=zt_ fx 4:=by cases fx <;> rfl
theorem sCnt_cnt (fx:Bool) {n:Nat} (h:n<=q5_):sCnt fx false n 4=wCnt fx n:=by
 cases fx with
 | false=>rfl
 | true=>
  have:w32 (n + 1)=n + 1:=by simp only [w32,q5_] at *;omega
  simp [sCnt,wCnt,this]
def FF (ver:Int) (fx:Bool) (kind:Nat) (nul:Int) (of:Nat) (sub:SFs) (t:Tr):Bs:=sFld kind nul of ver fx (q7_ ver fx sub) t
def FitT (ver:Int) (fx:Bool) (ty:Ty) (F:Tr->Bs) (v:Tr->V):Prop:=
 ∀ t,(∀ (df:Int) rest nl,(nl=true->F t++rest=[])->rdTy fx ver ty (dfTy df ty) ⟨F t++rest,false,nl⟩=.ok (v t) ⟨rest,false,nl⟩)/\wrTy fx ver ty (v t)=F t/\(posTy fx ver ty=true->0 < (F t).length)
theorem fit_pf {ver:Int} {fx:Bool} {ty:Ty} {F:Tr->Bs} {v:Tr->V} {p q:PF} (hr:∀ old r,rdTy fx ver ty old r=.ok (p.run r).1 (p.run r).2) (hw:∀ x,wrTy fx ver ty x=q.wr x) (hp:∀ t,p.wr (v t)=F t/\okPF p (v t)) (hq:∀ t,q.wr (v t)=F t):FitT ver fx ty F v:=by
 intro t
 have hpos:0 < (F t).length:=by rw [<- (hp t).1];exact wr_pos p _ (hp t).2
 refine ⟨fun df rest nl hnl=>?_,by rw [hw,hq],fun _=>hpos⟩
 obtain rfl:=nl_false hnl hpos
 rw [hr,<- (hp t).1,pf_rd p _ (hp t).2 rest]
theorem fit_list {ver:Int} {fx:Bool} {nul:Option Nat} {esz of:Nat} {n:Int} {e:Ty} {sub:SFs} (h1:(!zz_ n ver || (nul.isSome && nullable nul ver))=true) (hesz:esz<=10000) (hpos:posTy fx ver e=true) (hof:of ≠ 11)
  (ih:FitT ver fx e (FF ver fx of (-1) 0 sub) fun t=>vTy ver fx e sub (t.null && zz_ (-1) ver) t):FitT ver fx (.list nul esz e) (FF ver fx 11 n of sub) fun t=>vTy ver fx (.list nul esz e) sub (t.null && zz_ n ver) t:=by
 have er:∀ df r,rdTy fx ver (.list nul esz e) (dfTy df (.list nul esz e)) r=if (rLen fx r).2.bad then .err else if !roomy (rLen fx r).1 esz then .stuck else
   if (rLen fx r).1<=0 then .ok (if nul.isSome && (decide ((rLen fx r).1=0) || !nullable nul ver) then .l [] else .nul) (rLen fx r).2
   else (rMany (rdTy fx ver e (dfTy 0 e)) (rLen fx r).1.toNat (rLen fx r).2).bind fun vs r=>.ok (.l vs) r:=fun df r=>by simp only [rdTy,dfTy,V.isNul,Bool.not_true,Bool.false_eq_true,if_false]
 have ew:∀ v,wrTy fx ver (.list nul esz e) v=(if nul.isSome && v.isNul then zt_ fx 4 else wCnt fx v.list.length)++wMany (wrTy fx ver e) v.list:=fun v=>by simp only [wrTy]
 have eF:∀ t,FF ver fx of (-1) 0 sub t=sVal of false fx (q7_ ver fx sub) t:=fun t=>sFld_elem hof 0 ver fx _ t
 have ev:∀ t,vTy ver fx e sub (t.null && zz_ (-1) ver) t=vTy ver fx e sub false t:=fun t=>by rw [sNul_m1,Bool.and_false]
 have roomyB:∀ (L:Int),L<=q5_->roomy L esz=true:=fun L hL=>by
  simp only [roomy,decide_eq_true_eq]
  simp only [q5_] at hL
  have h1:(24 * (esz:Int) + 8)<=240008:=by omega
  by_cases h0:L<=0
  ·have:L * (24 * (esz:Int) + 8)<=0:=Int.mul_nonpos_of_nonpos_of_nonneg h0 (by omega)
   omega
  ·have h2:L * (24 * (esz:Int) + 8)<=32767 * 240008:=Int.mul_le_mul hL h1 (by omega) (by omega)
   omega
 intro t
 cases hnull:(t.null && zz_ n ver) with
 | true=>
  have hs:zz_ n ver=true:=by simp only [Bool.and_eq_true] at hnull;exact hnull.2
  rw [hs] at h1
  simp only [Bool.not_true,Bool.false_or,Bool.and_eq_true] at h1
  have eF0:FF ver fx 11 n of sub t=zt_ fx 4:=by simp only [FF,sFld,if_true,hnull,zo_,List.length_nil,List.map_nil,List.flatten_nil,List.append_nil,sCnt_null]
  have ev0:vTy ver fx (.list nul esz e) sub (t.null && zz_ n ver) t=.nul:=by rw [hnull];simp only [vTy,if_true]
  simp only [hnull] at ev0
  refine ⟨fun df rest nl hnl=>?_,?_,fun _=>by rw [eF0];exact wNull_pos fx⟩
  ·rw [eF0] at hnl ⊢
   obtain rfl:=nl_false hnl (wNull_pos fx)
   simp only [hnull,ev0,er,rLen_null fx rest]
   rw [roomyB (-1) (by simp only [q5_];omega)]
   simp [h1.2]
  ·simp only [hnull,ev0,ew,eF0,h1.1,V.isNul,V.list,Bool.and_self,if_true,wMany,List.map_nil,List.flatten_nil,List.append_nil]
 | false=>
  have hlen:(t.list.take q5_).length<=q5_:=by rw [List.length_take];exact Nat.min_le_left ..
  have eF0:FF ver fx 11 n of sub t=wCnt fx (t.list.take q5_).length++((t.list.take q5_).map (FF ver fx of (-1) 0 sub)).flatten:=by
   have:FF ver fx of (-1) 0 sub=sVal of false fx (q7_ ver fx sub):=funext eF
   rw [this]
   simp only [FF,sFld,if_true,hnull,zo_,Bool.false_eq_true,if_false,sCnt_cnt fx hlen]
  have hge:=flatten_ge (w:=FF ver fx of (-1) 0 sub) (t.list.take q5_) fun t' _=>(ih t').2.2 hpos
  have hp:0 < (FF ver fx 11 n of sub t).length:=by rw [eF0,List.length_append];have:=wCnt_pos fx (t.list.take q5_).length;omega
  by_cases he:t.list.isEmpty=true
  ·have he':t.list=[]:=List.isEmpty_iff.1 he
   have ev0:vTy ver fx (.list nul esz e) sub (t.null && zz_ n ver) t=if nul.isSome then .l [] else .nul:=by rw [hnull];simp only [vTy,he,Bool.false_eq_true,if_false,if_true]
   simp only [hnull] at ev0
   have eF1:FF ver fx 11 n of sub t=wCnt fx 0:=by rw [eF0,he'];simp
   refine ⟨fun df rest nl hnl=>?_,?_,fun _=>hp⟩
   ·obtain rfl:=nl_false hnl hp
    have hr:=rLen_cnt fx (n:=0) (by omega) rest (Nat.zero_le _)
    simp only [hnull,ev0,er,eF1,hr]
    rw [show ((0:Nat):Int)=0 from rfl,roomyB 0 (by simp only [q5_];omega)]
    simp
   ·simp only [hnull,ev0,ew,eF1]
    cases nul <;> simp [V.isNul,V.list,wMany]
  ·have hne:t.list ≠ []:=fun h=>he (List.isEmpty_iff.2 h)
   have hpos':0 < (t.list.take q5_).length:=by
    have:=List.length_pos_iff.2 hne
    rw [List.length_take];simp only [q5_];omega
   have ev0:vTy ver fx (.list nul esz e) sub (t.null && zz_ n ver) t=.l ((t.list.take q5_).map fun t=>vTy ver fx e sub false t):=by rw [hnull];simp only [vTy,if_neg he,Bool.false_eq_true,if_false]
   simp only [hnull] at ev0
   refine ⟨fun df rest nl hnl=>?_,?_,fun _=>hp⟩
   ·obtain rfl:=nl_false hnl hp
    have hr:=rLen_cnt fx (n:=(t.list.take q5_).length) (Nat.lt_of_le_of_lt hlen (by simp [q5_])) (((t.list.take q5_).map (FF ver fx of (-1) 0 sub)).flatten++rest) (by rw [List.length_append];omega)
    simp only [hnull,ev0,er,eF0,List.append_assoc,hr]
    rw [roomyB _ (by omega)]
    simp only [Bool.false_eq_true,if_false,Bool.not_true,Int.toNat_natCast]
    rw [if_neg (by omega),rMany_map (f:=rdTy fx ver e (dfTy 0 e)) (w:=FF ver fx of (-1) 0 sub) (v:=fun t=>vTy ver fx e sub false t) (t.list.take q5_) (fun t' _ rest'=>?_) rest]
    ·rfl
    ·have:=(ih t').1 0 rest' false (fun h=>by cases h)
     simp only [ev] at this
     exact this
   ·simp only [hnull,ev0,ew,eF0,V.isNul,V.list,Bool.and_false,Bool.false_eq_true,if_false,List.length_map]
    congr 1
    simp only [wMany,List.map_map]
    congr 1
    refine List.map_congr_left fun t' _=>?_
    have:=(ih t').2.1
    simp only [ev] at this
    exact this
mutual
theorem fit_ty (ver:Int) (fx:Bool):∀ (ty:Ty) (kind:Nat) (n:Int) (of:Nat) (sub:SFs),fitTy ver fx ty kind n of sub=true->FitT ver fx ty (FF ver fx kind n of sub) fun t=>vTy ver fx ty sub (t.null && zz_ n ver) t
 | .prim p,kind,n,of,sub,h=>by
  simp only [fitTy,beq_iff_eq] at h
  subst h
  have ev:∀ t:Tr,vTy ver fx (.prim p) sub (t.null && zz_ n ver) t=vPrim p t:=fun t=>by cases p <;> simp only [vTy,vPrim]
  have eF:∀ t:Tr,FF ver fx (pCode p) n of sub t=sVal (pCode p) (t.null && zz_ n ver) fx (q7_ ver fx sub) t:=fun t=>by
   have h11:pCode p ≠ 11:=by cases p <;> simp [pCode]
   have h10:pCode p ≠ 10:=by cases p <;> simp [pCode]
   simp only [FF,sFld,if_neg h11]
   rw [if_neg (fun h=>h10 h.1)]
  refine fit_pf (p:=j0_ p) (q:=j0_ p) (fun old r=>by simp only [rdTy]) (fun x=>by simp only [wrTy,leafPF]) (fun t=>?_) (fun t=>?_)
  ·rw [ev,eF];exact wr_prim p _ fx _ t
  ·rw [ev,eF];exact (wr_prim p _ fx _ t).1
 | .str nul,kind,n,of,sub,h=>by
  simp only [fitTy,Bool.and_eq_true,beq_iff_eq] at h
  obtain ⟨rfl,h2⟩:=h
  have ev:∀ t:Tr,vTy ver fx (.str nul) sub (t.null && zz_ n ver) t=vOct (t.null && zz_ n ver) t.octets:=fun t=>by simp only [vTy,vOct]
  have eF:∀ t:Tr,FF ver fx 8 n of sub t=sText fx (t.null && zz_ n ver) 2 t.octets:=fun t=>by simp [FF,sFld,sVal]
  have hb:∀ t:Tr,(t.null && zz_ n ver)=true->nullS nul ver=true:=fun t h=>by simp only [Bool.and_eq_true] at h;rw [h.2] at h2;simpa using h2
  refine fit_pf (p:=strPF (nullS nul ver) fx) (q:=strPF (nullS nul ver) fx) (fun old r=>by simp only [rdTy]) (fun x=>by simp only [wrTy,leafPF]) (fun t=>?_) (fun t=>?_)
  ·rw [ev,eF];exact wr_str _ fx _ (hb t) _
  ·rw [ev,eF];exact (wr_str _ fx _ (hb t) _).1
 | .bytes nul,kind,n,of,sub,h=>by
  simp only [fitTy,Bool.and_eq_true,beq_iff_eq] at h
  obtain ⟨rfl,h2⟩:=h
  have ev:∀ t:Tr,vTy ver fx (.bytes nul) sub (t.null && zz_ n ver) t=vOct (t.null && zz_ n ver) t.octets:=fun t=>by simp only [vTy,vOct]
  have eF:∀ t:Tr,FF ver fx 9 n of sub t=sText fx (t.null && zz_ n ver) 4 t.octets:=fun t=>by simp [FF,sFld,sVal]
  have hb:∀ t:Tr,(t.null && zz_ n ver)=true->nullS nul ver=true:=fun t h=>by simp only [Bool.and_eq_true] at h;rw [h.2] at h2;simpa using h2
  have hc:nullS nul ver=true->nul.isSome=true:=fun h=>by cases nul <;> simp [nullS] at h ⊢
  refine fit_pf (p:=jr_ (nullS nul ver) fx) (q:=jr_ nul.isSome fx) (fun old r=>by simp only [rdTy]) (fun x=>by simp only [wrTy,leafPF]) (fun t=>?_) (fun t=>?_)
  ·rw [ev,eF];exact wr_bytes _ fx _ (hb t) _
  ·rw [ev,eF];exact (wr_bytes _ fx _ (fun h=>hc (hb t h)) _).1
 | .list nul esz e,kind,n,of,sub,h=>by
  simp only [fitTy,Bool.and_eq_true,beq_iff_eq,decide_eq_true_eq,Bool.not_eq_true'] at h
  obtain ⟨⟨⟨⟨⟨rfl,h1⟩,h2⟩,h3⟩,h4⟩,h5⟩:=h
  exact fit_list h1 h2 h4 (fit_kind h5 h3) (fit_ty ver fx e of (-1) 0 sub h5)
 | .struct none toff fs,kind,n,of,sub,h=>by
  simp only [fitTy,Bool.and_eq_true,beq_iff_eq,Option.isSome_none] at h
  obtain ⟨⟨rfl,h1⟩,h2⟩:=h
  have hn:n < 0:=by have:=h1.symm;simp only [decide_eq_false_iff_not] at this;omega
  obtain ⟨hp,htg⟩:=fit_plain ver fx fs sub h2
  have hsn:zz_ n ver=false:=by simp only [zz_];rw [decide_eq_false (by omega)];rfl
  intro t
  obtain ⟨i1,i2,i3⟩:=fit_fds ver fx fs sub 0 t h2
  have eF:FF ver fx 10 n of sub t=sFds ver fx sub 0 t++zf_ fx (if fx then sUnkT 0 t else []):=by
   simp only [FF,sFld,sVal]
   rw [if_neg (by omega),if_neg (by omega),if_neg (by omega),if_neg (by omega),if_neg (by omega),if_neg (by omega),if_pos trivial,sPart_plain hp,z0_ sub hp]
  have ev:vTy ver fx (.struct none toff fs) sub (t.null && zz_ n ver) t=.st (vFds ver fx fs sub 0 t) (if fx then sUnkT 0 t else []):=by
   rw [hsn,Bool.and_false];simp only [vTy,Bool.false_eq_true,if_false,z0_ sub hp]
  refine ⟨fun df rest nl hnl=>?_,?_,fun hpos=>?_⟩
  ·simp only [ev,eF] at hnl ⊢
   simp only [rdTy,htg]
   exact sp_st (_ver:=ver) i1 rest nl hnl
  ·simp only [ev,eF,wrTy,V.fields,V.tags,i2]
  ·rw [eF,List.length_append]
   simp only [posTy,Bool.or_eq_true] at hpos
   rcases hpos with rfl | hpos
   ·simp only [zf_,if_true,List.length_append]
    have:=uvar_pos (w32 (sUnkT 0 t).length)
    omega
   ·have:=i3 hpos
    omega
 | .struct (some m) toff fs,kind,n,of,sub,h=>by
  simp only [fitTy,Bool.and_eq_true,beq_iff_eq,Option.isSome_some] at h
  obtain ⟨⟨rfl,h1⟩,h2⟩:=h
  have hn:0<=n:=by have:=h1.symm;simp only [decide_eq_true_eq] at this;exact this
  obtain ⟨hp,htg⟩:=fit_plain ver fx fs sub h2
  intro t
  obtain ⟨i1,i2,i3⟩:=fit_fds ver fx fs sub 0 t h2
  have eF:FF ver fx 10 n of sub t=if (t.null && zz_ n ver)=true then [255] else 1 :: (sFds ver fx sub 0 t++zf_ fx (if fx then sUnkT 0 t else [])):=by
   simp only [FF,sFld]
   rw [if_neg (by omega),if_pos ⟨trivial,hn⟩,sPart_plain hp,z0_ sub hp]
  have ev:vTy ver fx (.struct (some m) toff fs) sub (t.null && zz_ n ver) t=if (t.null && zz_ n ver)=true then .nul else .st (vFds ver fx fs sub 0 t) (if fx then sUnkT 0 t else []):=by
   simp only [vTy,z0_ sub hp]
  have hpos:0 < (FF ver fx 10 n of sub t).length:=by rw [eF];split <;> simp
  refine ⟨fun df rest nl hnl=>?_,?_,fun _=>hpos⟩
  ·obtain rfl:=nl_false hnl hpos
   simp only [ev,eF] at hnl ⊢
   simp only [rdTy,dfTy,V.isNul,Bool.not_true,Bool.false_eq_true,if_false,htg]
   split
   ·have:rI 1 ⟨[255]++rest,false,false⟩=(-1,⟨rest,false,false⟩):=by
     have h:=rI_be (k:=1) (x:=-1) (by omega) (by simp) rest false
     rwa [show be 1 (-1)=[255] from by decide] at h
    rw [this]
    simp
   ·have:∀ l:Bs,rI 1 ⟨1 :: l,false,false⟩=(1,⟨l,false,false⟩):=fun l=>by
     have h:=rI_be (k:=1) (x:=1) (by omega) (by simp) l false
     rwa [show be 1 1=[1] from by decide] at h
    rw [List.cons_append,this]
    simp only
    rw [if_neg (by simp)]
    exact sp_st (_ver:=ver) i1 rest false (fun h=>by cases h)
  ·simp only [ev,eF,wrTy]
   split
   ·simp [V.isNul]
   ·simp only [V.isNul,V.fields,V.tags,i2,Bool.false_eq_true,if_false]
theorem fit_fds (ver:Int) (fx:Bool):∀ (fs:Fds) (sf:SFs) (i:Nat) (t:Tr),fitFds ver fx fs sf=true ->
  (∀ rest nl,(nl=true->sFds ver fx sf i t++rest=[])->rdFds fx ver fs ⟨sFds ver fx sf i t++rest,false,nl⟩=.ok (vFds ver fx fs sf i t) ⟨rest,false,nl⟩)/\wrFds fx ver fs (vFds ver fx fs sf i t)=sFds ver fx sf i t/\(posFds fx ver fs=true->0 < (sFds ver fx sf i t).length)
 | .nil,.nil,i,t,_=>⟨fun rest nl _=>by simp [rdFds,vFds,sFds],by simp [wrFds,sFds],fun h=>by simp [posFds] at h⟩
 | .nil,.cons ..,_,_,h=>by simp [fitFds] at h
 | .cons ..,.nil,_,_,h=>by simp [fitFds] at h
 | .cons lo hi tag df off ty r,.cons kind slo shi nul stag sdf of sub sr,i,t,h=>by
  simp only [fitFds,Bool.and_eq_true,decide_eq_true_eq,beq_iff_eq] at h
  obtain ⟨⟨⟨⟨ht,hst⟩,hh⟩,hty⟩,hr⟩:=h
  obtain ⟨i1,i2,i3⟩:=fit_fds ver fx r sr (i + 1) t hr
  have htn:tag=none:=by cases tag with | none=>rfl | some _=>cases ht
  subst htn
  cases hhas:has lo hi ver with
  | true=>
   rw [hhas] at hty hh
   simp only [Bool.not_true,Bool.false_or] at hty
   obtain ⟨j1,j2,j3⟩:=fit_ty ver fx ty kind nul of sub hty (t.at i)
   have es:sFds ver fx (.cons kind slo shi nul stag sdf of sub sr) i t=FF ver fx kind nul of sub (t.at i)++sFds ver fx sr (i + 1) t:=by
    simp only [sFds]
    rw [if_pos ⟨hst,hh.symm⟩]
    rfl
   have ev:vFds ver fx (.cons lo hi none df off ty r) (.cons kind slo shi nul stag sdf of sub sr) i t=vTy ver fx ty sub ((t.at i).null && zz_ nul ver) (t.at i) :: vFds ver fx r sr (i + 1) t:=by
    simp only [vFds,hhas,Option.isNone_none,Bool.and_self,if_true]
   refine ⟨fun rest nl hnl=>?_,?_,fun hp=>?_⟩
   ·rw [es,List.append_assoc] at hnl ⊢
    simp only [rdFds,hhas,Option.isNone_none,Bool.and_self,if_true,ev]
    rw [j1 df _ nl hnl]
    simp only [Out.bind]
    rw [i1 rest nl (fun h=>(List.append_eq_nil_iff.1 (hnl h)).2)]
   ·simp only [es,ev,wrFds,hhas,Option.isNone_none,Bool.and_self,if_true,List.headD_cons,List.tail_cons,i2,j2]
   ·rw [es,List.length_append]
    simp only [posFds,hhas,Option.isNone_none,Bool.true_and,Bool.or_eq_true] at hp
    rcases hp with hp | hp
    ·have:=j3 hp;omega
    ·have:=i3 hp;omega
  | false=>
   rw [hhas] at hh
   have es:sFds ver fx (.cons kind slo shi nul stag sdf of sub sr) i t=sFds ver fx sr (i + 1) t:=by
    simp only [sFds]
    rw [if_neg (fun h=>by rw [h.2] at hh;cases hh),List.nil_append]
   have ev:vFds ver fx (.cons lo hi none df off ty r) (.cons kind slo shi nul stag sdf of sub sr) i t=dfTy df ty :: vFds ver fx r sr (i + 1) t:=by
    simp only [vFds,hhas,Option.isNone_none,Bool.and_false,Bool.false_eq_true,if_false]
   refine ⟨fun rest nl hnl=>?_,?_,fun hp=>?_⟩
   ·rw [es] at hnl ⊢
    simp only [rdFds,hhas,Option.isNone_none,Bool.and_false,Bool.false_eq_true,if_false,ev]
    rw [i1 rest nl hnl]
    rfl
   ·simp only [es,ev,wrFds,hhas,Option.isNone_none,Bool.and_false,Bool.false_eq_true,if_false,List.tail_cons,i2,List.nil_append]
   ·rw [es]
    simp only [posFds,hhas,Option.isNone_none,Bool.and_false,Bool.false_and,Bool.false_or] at hp
    exact i3 hp
end
theorem fit_msg {hf:Bool} {flex:Nat} {fs:Fds} {sf:SFs} {ver:Int} {fx:Bool} (hfx:(hf && decide ((flex:Int)<=ver))=fx) (h:fitFds ver fx fs sf=true) (t:Tr) :
  ∃ v nl,rdMsg hf flex fs ver (src0 (q7_ ver fx sf t))=.ok v ⟨[],false,nl⟩/\wrMsg false hf flex fs ver v=q7_ ver fx sf t:=by
 obtain ⟨hp,htg⟩:=fit_plain ver fx fs sf h
 obtain ⟨i1,i2,i3⟩:=fit_fds ver fx fs sf 0 t h
 have e:=sPart_plain (ver:=ver) (fx:=fx) hp t
 rw [z0_ sf hp] at e
 refine ⟨.st (vFds ver fx fs sf 0 t) (if fx then sUnkT 0 t else []),(q7_ ver fx sf t).isEmpty,?_,?_⟩
 ·simp only [rdMsg,hfx,htg,src0]
  have:=sp_st (_ver:=ver) (fx:=fx) (tag:=rdTag fx ver fs) (t:=t) i1 [] (q7_ ver fx sf t).isEmpty (fun hh=>by rw [List.append_nil,<- e];simpa using hh)
  rw [List.append_nil,<- e] at this
  exact this
 ·simp only [wrMsg,hfx,Bool.false_eq_true,if_false,List.nil_append,V.fields,V.tags,i2]
  exact e.symm
theorem fit_again {hf:Bool} {flex:Nat} {fs:Fds} {sf:SFs} {ver:Int} {fx:Bool} (hfx:(hf && decide ((flex:Int)<=ver))=fx) (h:fitFds ver fx fs sf=true) (t:Tr) :
  againOut false hf flex fs ver (q7_ ver fx sf t)=some (q7_ ver fx sf t):=by
 obtain ⟨v,nl,h1,h2⟩:=fit_msg hfx h t
 simp only [againOut,vread,Bool.false_eq_true,if_false,h1,h2]
end Go.Proofs.YthjaecnbgfohmaaGreatDoor.Kx
