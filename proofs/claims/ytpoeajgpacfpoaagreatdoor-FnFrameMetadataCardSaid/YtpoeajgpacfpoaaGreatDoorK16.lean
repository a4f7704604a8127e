/-
  PLAIN LAWS AND CONTRACTS of messages, part 16.
-/
import Derived.Test.YtpoeajgpacfpoaaGreatDoorK14
import Derived.Test.YtpoeajgpacfpoaaGreatDoorK15
import Derived.Test.YtpoeajgpacfpoaaGreatDoorRows
import Derived.Deep.Slices
import Derived.Carry

namespace Go.Proofs.YtpoeajgpacfpoaaGreatDoor.Kx
open Go
section
open Go
set_option maxRecDepth 4000
def HC (p:UInt32 × Bs):Nat × Bs:=(p.1.toNat,p.2)
def ib (p:UInt32 × Bs):Bs:=o6 (p.1.toNat,p.2.take aH)
theorem qF (t:Tr):t.tags=t.raw.map HC:=by cases t;rfl
theorem tt {α:Type}(g:α->Bs){xs:List α}{i:Nat}{x:α}(h:xs[i]?=some x):((xs.drop i).map g).flatten=g x++((xs.drop (i+1)).map g).flatten:=by
 have Id:=(List.getElem?_eq_some_iff.1 h).1
 rw[List.drop_eq_getElem_cons Id,(List.getElem?_eq_some_iff.1 h).2]
 simp
section
variable {P:Program} {S:SN}
theorem xN (C:LeafC P S){W:World}{ux v9:Value}{rs:List (UInt32 × Bs)}(J4:dh W 2 (gk W) ux rs)(Mp:rs.length<=aH){total:Bs}(hlim:total.length<=di)(I9:(rs.map ib).flatten=total){a:Act}
  (h:St 132 a [(9,v9),(10,aF),(11,.int .i64 0),(100,ux),(101,.int .i64 (rs.length:Int)),(102,.int .i64 0)]) {R:Exit->Act->World->Prop}
  (hR:∀ (a':Act) (w':World) (v:Value),St 132 a' [(9,v9),(10,v),(11,.int .i64 (rs.length:Int))]->aA w' W.heap.size S.tU8 v total->cz W w'->R .normal a' w') :
  aK P (.block 6 (.loop (.seq (rg (yl S)) (.seq (.cond (tm 103) .skip (.exit 6)) (.seq (.block 7 (.seq (rg (yk S)) (.seq (rg (yj S)) (.seq (rg (yi S)) (rg (yh S)))))) (rg (yg S))))))) R a W:=by
 have T:=C.tab
 refine ej (fun m a' w'=>∃ (i:Nat) (v:Value) (bs:Bs),i+m=rs.length/\bs++((rs.drop i).map ib).flatten=total/\aA w' W.heap.size S.tU8 v bs/\cz W w' /\
   St 132 a' [(9,v9),(10,v),(11,.int .i64 (i:Int)),(100,ux),(101,.int .i64 (rs.length:Int)),(102,.int .i64 (i:Int))]) rs.length
  ⟨rs.length,Nat.le_refl _,0,aF,[],by omega,by simpa using I9,aA.nil _ _ _,cz.refl W,h⟩ ?_
 rintro m a w hm ⟨i,v,bs,NE,I9,hd,hk,h⟩
 simp only[aH]at Mp
 refine aw (aP (br h rfl (.t rfl) (.t rfl) (by omega) fun a h=>wpList_nil ?_))
 refine gn h rfl (fun hb=>?_) (fun hb=>?_)
 ·have Id:i<rs.length:=by simp[aW]at hb;omega
  obtain⟨x,hx⟩:∃ x,rs[i]?=some x:=⟨_,List.getElem?_eq_getElem Id⟩
  obtain⟨b,o,c,cs,hv,_,Iz,sv,rfl,Lh⟩:=J4.get hx
  rw[tt _ hx]at I9
  refine .skip (aw (.block (aw (aP ?_))))
  have h':=h
  rw[hv]at h'
  refine eD h' (sz:=2) (.t rfl) (.t rfl) Id T.dGs T.vG.size (by omega) fun a h=>cn h (cs:=[.int .u32 (x.1.toNat:Int),sv]) (.t rfl) T.vG (hk.cells Iz) (by omega) fun a h=>?_
  rw[<- hv]at h
  have I5:∀ u∈[Value.int .u32 (x.1.toNat:Int),sv],u.oneCell'=true:=by
   obtain⟨_,_,rfl,_⟩:=Lh.form
   intro u hu
   simp only[List.mem_cons,List.not_mem_nil,or_false]at hu
   rcases hu with rfl|rfl<;>rfl
  refine lM h (cs:=[.int .u32 (x.1.toNat:Int),sv]) T.zG rfl (fun _=>.t rfl) T.vG.size I5 (by omega) fun w2 a Ic Jq h=>wpList_nil ?_
  have Oj:=hk.kn Ic
  have IG:aA w2 W.heap.size S.tU8 v bs:=hd.keep Ic fun _ _ h=>h
  have LT:∀ j,v.ownBlock=some j->j<w.heap.size:=fun j hj=>(hd.own hj).2
  refine aw (aP (bO h (.t rfl) T.g1 (by omega) fun a h=>aU h (.t rfl) T.g1.var (Jq.at (j:=1) rfl) (by omega) fun a h=>?_))
  refine aT h C.whE (vs:=[sv]) (fun n a h=>by simp only[List.map_cons,List.map_nil];rw[Hd.t (l:=_) (i:=107) rfl n a h]) (C.whC w2 (fun k=>W.heap.size<=k) sv x.2 ((Lh.mono fun k hk hX=>by omega).keep Oj)) (by omega) fun e w3 hR3=>?_
  obtain⟨v20,rfl,Rj,rfl⟩:=hR3
  obtain⟨bx,cx,M4,_⟩:=Rj.form
  have RJ:=f8 x.2
  have HX:(ib x).length=(uvar x.1.toNat).length+((uvar (x.2.take aH).length).length+(x.2.take aH).length):=by simp[ib,o6]
  have Mo:bs.length+(ib x).length<=di:=by
   have:=congrArg List.length I9
   simp only[List.length_append]at this
   omega
  refine⟨v20,rfl,fun a h=>ae h (.t rfl) (by omega) fun a h=>wpList_nil ?_⟩
  have h:=h.pick (m:=[(9,v9),(10,v),(11,.int .i64 (i:Int)),(19,pt w.heap.size 0),(20,v20),(100,ux),(101,.int .i64 (rs.length:Int)),(102,.int .i64 (i:Int))]) ⟨rfl,rfl,rfl,rfl,rfl,rfl,rfl,rfl,trivial⟩
  refine aw (aP (ai h (.t rfl) (by omega) fun a h=>bO h (.t rfl) T.g0 (by omega) fun a h=>aU h (.t rfl) T.g0.var (Jq.at (j:=0) rfl) (by omega) fun a h=>dP h (.t rfl) T.dU32 T.dU64 (by omega) fun a h=>?_))
  have hx32:=x.1.toNat_lt
  have K8:IntKind.u64.wrap (x.1.toNat:Int)=(x.1.toNat:Int):=by simp[IntKind.wrap,IntKind.bits,IntKind.signed];omega
  rw[K8]at h
  refine aT h C.uvE (vs:=[.int .u64 (x.1.toNat:Int)]) (fun n a h=>by simp only[List.map_cons,List.map_nil];rw[Hd.t (l:=_) (i:=112) rfl n a h]) (C.uvC x.1.toNat w3 (by omega)) (by omega) fun e w4 hR4=>?_
  obtain⟨u1,rfl,L0,It⟩:=hR4
  have LJ:=Oj.kn It
  have Om:aA w4 W.heap.size S.tU8 v bs:=IG.keep It fun _ _ h=>h
  refine⟨u1,rfl,fun a h=>iX h T.oct (.t rfl) (.t rfl) Om (ig T.oct L0) LJ.size (by omega) (by omega) fun v5 w5 a Kg h=>?_⟩
  have hf5:=LJ.up Kg.keeps fun j hj=>(Om.own hj).1
  refine ai h (.t rfl) (by omega) fun a h=>?_
  have h':=h
  rw[M4]at h'
  refine cM h' (.t rfl) T.oct.und (by omega) fun a h=>dP h (.t rfl) T.dInt T.dU64 (by omega) fun a h=>?_
  rw[<- M4]at h
  have Ka:IntKind.u64.wrap ((x.2.take aH).length:Int)=((x.2.take aH).length:Int):=by simp only[aH]at RJ;simp[IntKind.wrap,IntKind.bits,IntKind.signed,-List.length_take];simp only[aH];omega
  rw[Ka]at h
  refine aT h C.uvE (vs:=[.int .u64 ((x.2.take aH).length:Int)]) (fun n a h=>by simp only[List.map_cons,List.map_nil];rw[Hd.t (l:=_) (i:=117) rfl n a h]) (C.uvC (x.2.take aH).length w5 (by simp only[aH]at RJ ⊢;omega)) (by omega) fun e w6 hR6=>?_
  obtain⟨u2,rfl,P8,Lc⟩:=hR6
  have S5:=hf5.kn Lc
  have Qr:aA w6 W.heap.size S.tU8 v5 (bs++uvar x.1.toNat):=Kg.dst.keep Lc fun _ _ h=>h
  refine⟨u2,rfl,fun a h=>iX h T.oct (.t rfl) (.t rfl) Qr (ig T.oct P8) S5.size (by rw[List.length_append];omega) (by omega) fun v7 w7 a hg7 h=>?_⟩
  have S4:=S5.up hg7.keeps fun j hj=>(Qr.own hj).1
  have hv7:qx w7 (fun k=>W.heap.size<=k) v20 (x.2.take aH):=
   (((Rj.keep (It.mono fun _ _ h=>h.elim)).keep (Kg.keeps.mono fun j _ hj=>(Om.own hj).1)).keep (Lc.mono fun _ _ h=>h.elim)).keep (hg7.keeps.mono fun j _ hj=>(Qr.own hj).1)
  refine ai h (.t rfl) (by omega) fun a h=>iX h T.oct (.t rfl) (.t rfl) hg7.dst (sh T.oct hv7) S4.size (by rw[List.length_append,List.length_append];omega) (by omega) fun v8 w8 a Np h=>ae h (.t rfl) (by omega) fun a h=>wpList_nil ?_
  have TO:=S4.up Np.keeps fun j hj=>(hg7.dst.own hj).1
  have WO:IntKind.i64.wrap ((i:Int)+1)=((i+1:Nat):Int):=by simp[IntKind.wrap,IntKind.bits,IntKind.signed];omega
  refine aP (ai h (.t rfl) (by omega) fun a h=>dn h (.t rfl) .i (by simp) (dZ w8) (by omega) fun a h=>?_)
  rw[WO]at h
  refine ae h (.t rfl) (by omega) fun a h=>wpList_nil ?_
  refine aP (dn h (.t rfl) .i (by simp) (dZ w8) (by omega) fun a h=>?_)
  rw[WO]at h
  refine ai h (.t rfl) (by omega) fun a h=>wpList_nil ?_
  refine⟨m-1,by omega,by omega,i+1,v8,bs++uvar x.1.toNat++uvar (x.2.take aH).length++x.2.take aH,by omega,?_,Np.dst,TO,h.pick ⟨rfl,rfl,rfl,rfl,rfl,rfl,trivial⟩⟩
  rw[<- I9]
  simp[ib,o6]
 ·have Jh:¬ i<rs.length:=by simp[aW]at hb;omega
  rw[List.drop_of_length_le (by omega)]at I9
  simp only[List.map_nil,List.flatten_nil,List.append_nil]at I9
  subst I9
  have hi:i=rs.length:=by omega
  subst hi
  exact .exit (hR a w v (h.pick ⟨rfl,rfl,rfl,trivial⟩) hd hk)
def fO:SFs->Bool
 | .nil=>true
 | .cons _ _ _ _ tag _ _ sub r=>decide (tag<0)&&fO sub&&fO r
theorem fL:∀ sf:SFs,fO sf=true->ga sf=true/\e8 sf=true
 | .nil,_=>⟨rfl,rfl⟩
 | .cons _ _ _ _ tag _ _ sub r,h=>by
  simp only[fO,Bool.and_eq_true,decide_eq_true_eq]at h
  obtain⟨a,b⟩:=fL r h.2
  exact⟨by simp only[ga,a,Bool.and_true,decide_eq_true_eq];exact h.1.1,by simp only[e8,b,Bool.and_true,decide_eq_true_eq];omega⟩
theorem vl {ver:Int}{fx:Bool}{sf:SFs}(h:ga sf=true)(t:Tr){rs:List (UInt32 × Bs)}(J4:(rs.map fun p=>(p.1.toNat,p.2))=gU (aQ sf) (t.raw.map fun p=>(p.1.toNat,p.2))) :
  bh ver fx sf t=cX ver fx sf 0 t++(if fx then uvar rs.length++(rs.map ib).flatten else[]):=by
 have hk:=d9 sf h
 rw[hk]at J4
 have e1:(gU 0 t.tags)=rs.map fun p=>(p.1.toNat,p.2):=by rw[J4,qF];rfl
 rw[bh,hk,kY ver fx sf 0 t h]
 congr 1
 cases fx with
 | false=>simp[jk]
 | true=>
  simp only[jk,if_true,oP,List.range_zero,List.flatMap_nil,List.length_nil,Nat.zero_add,e1,List.length_map]
  congr 1
  simp only[oO,List.map_nil,List.flatten_nil,List.nil_append,List.map_map]
  congr 1
theorem qW (C:LeafC P S)(hfn:FnIs P S.fPart 132 [8] (csPt S))(W4:Ent P S.fField){sf:SFs}(JP:ga sf=true)(Oz:e8 sf=true)(Ky:t5 P S sf):pl P S sf:=by
 intro W ver fx k cs t fv IQ ht hlim
 have T:=C.tab
 have hkz:=d9 sf JP
 have K1:(cX ver fx sf 0 t).length<=di:=by
  rw[bh,List.length_append]at hlim
  omega
 refine bJ T.mixed hfn (by simp) _ (by simp) fun a h=>?_
 unfold csPt
 refine aw (aP (dx h (cs:=cs) (.t rfl) (by omega) fun a h=>?_))
 have Ir:ac (fun _=>False) W (W.alloc (.cells cs.toArray S.tT (0,0))):=ac.alloc _ _ _
 have hB:=bB W cs S.tT
 generalize W.alloc (.cells cs.toArray S.tT (0,0))=w1 at Ir hB ⊢
 have LK:cz W w1:=cz.of Ir
 refine ae h .c (by omega) fun a h=>wpList_nil ?_
 refine aw (aP (ae h .c (by omega) fun a h=>ae h .c (by omega) fun a h=>wpList_nil ?_))
 refine aw (aP (ae h .i (by omega) fun a h=>wpList_nil ?_))
 refine aw (xO C W4 (IQ.far LK) (ht.far LK) hB Ky K1 (h.pick ⟨rfl,rfl,rfl,rfl,rfl,rfl,rfl,trivial⟩) fun a w3 v h hd Nq=>?_)
 have M2:ac (fun _=>False) W w3:=Ir.trans Nq.keeps
 refine aw (aw (aP (ai h (.t rfl) (by omega) fun a h=>nr h (.t rfl) (by omega) fun a h=>wpList_nil ?_)))
 cases fx with
 | false=>
  refine bn h rfl (fun _=>?_) (fun hb=>by cases hb)
  refine aw (aP (ai h (.t rfl) (by omega) fun a h=>ae h (.t rfl) (by omega) fun a h=>wpList_nil (.ret ?_)))
  have e:bh ver false sf t=cX ver false sf 0 t:=by
   rw[bh];simp[jk]
  rw[e]
  exact dN (RR:=aZ S.tU8 (cX ver false sf 0 t) W) h rfl ⟨v,rfl,(Gr.lower Ir.size (Gr.refl hd)).dst,M2⟩
 | true=>
  refine bn h rfl (fun hb=>by cases hb) (fun _=>?_)
  refine .skip (aw (aw (aP (ai h (.t rfl) (by omega) fun a h=>?_))))
  refine aT h C.knE (vs:=[fv]) (fun n a h=>by simp only[List.map_cons,List.map_nil];rw[Hd.t (l:=_) (i:=49) rfl n a h]) (C.knC sf fv w3 Oz ((IQ.far LK).far Nq)) (by omega) fun e w4 hR4=>?_
  obtain⟨rfl,It⟩:=hR4
  refine⟨_,rfl,fun a h=>dP h (.t rfl) T.dU32 T.dInt (by omega) fun a h=>?_⟩
  have Rf:IntKind.i64.wrap (aQ sf:Int)=0:=by rw[hkz];simp[IntKind.wrap,IntKind.bits,IntKind.signed]
  rw[Rf]at h
  refine ai h .i (by omega) fun a h=>wpList_nil ?_
  have h:=h.pick (m:=[(0,fv),(7,pt W.heap.size 0),(9,v),(10,aF),(11,.int .i64 0),(51,.int .i64 0),(52,.int .i64 0)]) ⟨rfl,rfl,rfl,rfl,rfl,rfl,rfl,trivial⟩
  refine ej (fun _ a' w'=>w'=w4/\St 132 a' [(0,fv),(7,pt W.heap.size 0),(9,v),(10,aF),(11,.int .i64 0),(51,.int .i64 0),(52,.int .i64 0)]) 0 ⟨0,Nat.le_refl _,rfl,h⟩ ?_
  rintro m a w' _ ⟨rfl,h⟩
  refine aw (aP (br h rfl (.t rfl) (.t rfl) (by omega) fun a h=>wpList_nil ?_))
  refine gn h rfl (fun hb=>by simp[aW]at hb) (fun _=>?_)
  refine .exit ?_
  show aK P _ _ a w'
  have LJ:cz w1 w':=Nq.kn It
  have OQ:=LJ.cells hB
  have Om:aA w' w1.heap.size S.tU8 v (cX ver true sf 0 t):=hd.keep It fun _ _ h=>h
  have LT:∀ j,v.ownBlock=some j->j<w'.heap.size:=fun j hj=>(Om.own hj).2
  have Tz:=(ht.far LK).far LJ
  obtain⟨uv,QH,Ia⟩:∃ uv,dh w' 2 (gk w') uv t.raw/\w'.cell? ⟨W.heap.size,0+4,none⟩=some uv:=by
   cases k with
   | zero=>exact Tz.elim
   | succ k=>
    obtain⟨sv,lv,uv,rfl,_,_,QH⟩:=Tz
    exact⟨uv,QH,OQ.at (j:=4) rfl⟩
  refine aw (aw (aP (ai h (.t rfl) (by omega) fun a h=>bO h (.t rfl) T.t4 (by omega) fun a h=>aU h (.t rfl) T.t4.var Ia (by omega) fun a h=>?_)))
  refine aT h C.unE (vs:=[fv,uv]) (fun n a h=>by simp only[List.map_cons,List.map_nil];rw[Hd.t (l:=_) (i:=97) rfl n a h,Hd.t (l:=_) (i:=99) rfl n a h]) (C.unC sf fv uv t.raw w' Oz ((IQ.far LK).far LJ) QH) (by omega) fun e w5 hR5=>?_
  obtain⟨ux,rs,rfl,J4,KH,Jc⟩:=hR5
  have epart:=vl (ver:=ver) (fx:=true) JP t KH
  simp only[if_true]at epart
  have Mp:rs.length<=aH:=by
   have h1:=congrArg List.length KH
   have h2:=(pO (aQ sf) t).2.2
   rw[qF]at h2
   simp only[List.length_map]at h1
   rw[h1]
   exact h2
  rw[epart]at hlim
  simp only[List.length_append]at hlim
  obtain⟨bx,cx,M4,_⟩:=J4.form
  refine⟨ux,rfl,fun a h=>?_⟩
  have h':=h
  rw[M4]at h'
  refine cM h' (.t rfl) T.dGs (by omega) fun a h=>ai h .i (by omega) fun a h=>wpList_nil ?_
  rw[<- M4]at h
  refine xN C (v9:=v) J4 Mp (by omega) rfl (h.pick ⟨rfl,rfl,rfl,rfl,rfl,rfl,trivial⟩) fun a w6 v10 h SD S5=>?_
  have MC:aA w5 w1.heap.size S.tU8 v (cX ver true sf 0 t):=Om.keep Jc fun _ _ h=>h
  have Qr:aA w6 w1.heap.size S.tU8 v (cX ver true sf 0 t):=MC.keep S5 fun j hj=>by have:=(MC.own hj).2;omega
  have hf6':cz w1 w6:=(LJ.kn Jc).up S5 fun j hj=>Nat.le_trans (LJ.kn Jc).size hj
  refine aw (aP (ai h (.t rfl) (by omega) fun a h=>ai h (.t rfl) (by omega) fun a h=>dP h (.t rfl) T.dInt T.dU64 (by omega) fun a h=>?_))
  have hrl':rs.length<32768:=by simp only[aH]at Mp;omega
  have hw:IntKind.u64.wrap (rs.length:Int)=(rs.length:Int):=by simp[IntKind.wrap,IntKind.bits,IntKind.signed];omega
  rw[hw]at h
  refine aT h C.uvE (vs:=[.int .u64 (rs.length:Int)]) (fun n a h=>by simp only[List.map_cons,List.map_nil];rw[Hd.t (l:=_) (i:=127) rfl n a h]) (C.uvC rs.length w6 (by omega)) (by omega) fun e w7 hR7=>?_
  obtain⟨u,rfl,hu,Nl⟩:=hR7
  have S4:=hf6'.kn Nl
  have Qq:aA w7 w1.heap.size S.tU8 v (cX ver true sf 0 t):=Qr.keep Nl fun _ _ h=>h
  refine⟨u,rfl,fun a h=>iX h T.oct (.t rfl) (.t rfl) Qq (ig T.oct hu) S4.size (by omega) (by omega) fun v8 w8 a Np h=>?_⟩
  have TO:=S4.up Np.keeps fun j hj=>(Qq.own hj).1
  have hd10':aA w8 w5.heap.size S.tU8 v10 ((rs.map ib).flatten):=(SD.keep Nl fun _ _ h=>h).keep Np.keeps fun j hj hX=>by
   have h1:=(SD.own hj).1
   have h2:=(MC.own hX).2
   omega
  refine ai h (.t rfl) (by omega) fun a h=>iX h T.oct (.t rfl) (.t rfl) Np.dst (ig T.oct hd10') TO.size (by rw[List.length_append];omega) (by omega) fun v9 w9 a hg9 h=>ae h (.t rfl) (by omega) fun a h=>wpList_nil (.ret ?_)
  have hf9:=TO.up hg9.keeps fun j hj=>(Np.dst.own hj).1
  refine dN (RR:=aZ S.tU8 (bh ver true sf t) W) h rfl ⟨v9,rfl,?_,Ir.trans hf9.keeps⟩
  rw[epart,<- List.append_assoc]
  exact(Gr.lower Ir.size (Gr.refl hg9.dst)).dst
theorem ref_calls (C:LeafC P S)(hP:FnIs P S.fPart 132 [8] (csPt S))(hF:FnIs P S.fField 76 [8] (csFl S))(hV:FnIs P S.fVal 70 [12] (csVa S)):∀ sf:SFs,fO sf=true->pl P S sf/\t5 P S sf
 | .nil,_=>⟨qW C hP hF.ent rfl rfl trivial,trivial⟩
 | .cons kind lo hi nul tag df of sub r,h=>by
  have JP:=fL _ h
  simp only[fO,Bool.and_eq_true]at h
  have hs:=ref_calls C hP hF hV sub h.1.2
  have hr:=ref_calls C hP hF hV r h.2
  have Ky:t5 P S (.cons kind lo hi nul tag df of sub r):=⟨yR C hF hP.ent hV.ent hs.1 (xc C hV hP.ent hs.1),hr.2⟩
  exact⟨qW C hP hF.ent JP.1 JP.2 Ky,Ky⟩
end
end
section
open Go
set_option maxRecDepth 4000
section
variable {P:Program} {S:SN}
section
variable {I:World->Prop} {K:Act->Prop} {r:List Oper} {n:Nat} {a:Act} {w:World} {l:List (Nat × Value)} {Q:Exit->Act->World->Prop}
end
def AI (P:Program)(f:Nat)(args:List Value)(w:World):Prop:=Calls P f args.toArray w fun e w'=>∃ b,e=.returned (.bool b)/\ac (fun _=>False) w w'
theorem gq {_f n t:Nat}{a:Act}{w w':World}{l:List (Nat × Value)}{b:Bool}(h:St n a l)(hv:l.lookup t=some (.bool b))(hk:ac (fun _=>False) w w'):a.defers=[]/\(∃ b,Ending.returned (bj [t] a)=.returned (.bool b)/\ac (fun _=>False) w w'):=
 dN (RR:=fun e w'=>∃ b,e=.returned (.bool b)/\ac (fun _=>False) w w') h hv ⟨b,rfl,hk⟩
theorem wB (T:RefT P S)(hfn:FnIs P S.fZ4 7 [2] (csZ4 S)){cs:List Value}{p:UInt32 × Bs}(w:World)(ht:gk w cs p):AI P S.fZ4 [.agg cs.toArray] w:=by
 obtain⟨v,rfl,hv⟩:=ht
 obtain⟨base,c,hf,_⟩:=hv.form
 subst hf
 refine bJ T.mixed hfn (by simp) _ (by simp) fun a h=>?_
 unfold csZ4
 have hk:ac (fun _=>False) w (w.alloc (.cells [.int .u32 (p.1.toNat:Int),.slice base p.2.length c].toArray S.tG (0,0))):=ac.alloc _ _ _
 have hc:=bB w [.int .u32 (p.1.toNat:Int),.slice base p.2.length c] S.tG
 refine aw (aP (dx h (cs:=[.int .u32 (p.1.toNat:Int),.slice base p.2.length c]) (.t rfl) (by omega) fun a h=>ae h .c (by omega) fun a h=>wpList_nil ?_))
 generalize w.alloc (.cells [.int .u32 (p.1.toNat:Int),.slice base p.2.length c].toArray S.tG (0,0))=w1 at hk hc ⊢
 refine aw (aw (aP (bO h (.t rfl) T.g1 (by omega) fun a h=>aU h (.t rfl) T.g1.var (hc.at (j:=1) rfl) (by omega) fun a h=>cM h (.t rfl) T.oct.und (by omega) fun a h=>br h rfl (.t rfl) .i (by omega) fun a h=>wpList_nil ?_)))
 refine bn h rfl (fun _=>?_) (fun _=>?_)
 ·exact aw (aP (ae h .c (by omega) fun a h=>wpList_nil (.ret (gq (_f:=S.fZ4) h rfl hk))))
 ·exact .skip (aw (aP (ae h .c (by omega) fun a h=>wpList_nil (.ret (gq (_f:=S.fZ4) h rfl hk)))))
theorem wD (T:RefT P S)(h4:FnIs P S.fZ4 7 [2] (csZ4 S))(hfn:FnIs P S.fZ3 18 [2] (csZ3 S)){gv:Value}{u:List (UInt32 × Bs)}(W:World)(hu:dh W 2 (gk W) gv u):AI P S.fZ3 [gv] W:=by
 obtain⟨base,c,hf,M8,Of,Iy⟩:=hu.form
 subst hf
 refine bJ T.mixed hfn (by simp) _ (by simp) fun a h=>?_
 unfold csZ3
 refine aw (aP (ae h .c (by omega) fun a h=>wpList_nil ?_))
 refine aw (aw (aP (ai h (.t rfl) (by omega) fun a h=>?_)))
 refine cM h (.t rfl) T.dGs (by omega) fun a h=>br h rfl (.t rfl) .i (by omega) fun a h=>wpList_nil ?_
 refine bn h rfl (fun _=>aw (aP (ae h .c (by omega) fun a h=>wpList_nil (.ret (gq (_f:=S.fZ3) h rfl (ac.refl _ _)))))) (fun _=>.skip ?_)
 refine aw (aw (aP (ai h (.t rfl) (by omega) fun a h=>?_)))
 refine cM h (.t rfl) T.dGs (by omega) fun a h=>ai h .i (by omega) fun a h=>wpList_nil ?_
 refine ej (fun m a' w'=>∃ i:Nat,i+m=u.length/\ac (fun _=>False) W w'/\St 18 a' [(0,.slice base u.length c),(8,.slice base u.length c),(9,.int .i64 (u.length:Int)),(10,.int .i64 (i:Int))]) u.length
  ⟨u.length,Nat.le_refl _,0,by omega,ac.refl _ _,h.pick ⟨rfl,rfl,rfl,rfl,trivial⟩⟩ ?_
 rintro m a w hm ⟨i,NE,hk,h⟩
 refine aw (aP (br h rfl (.t rfl) (.t rfl) (by omega) fun a h=>wpList_nil ?_))
 refine gn h rfl (fun hb=>?_) (fun hb=>?_)
 ·have Id:i<u.length:=by simp[aW]at hb;omega
  refine .skip ?_
  rcases Iy with rfl|⟨b,o,rfl,Iy⟩
  ·simp at Id
  obtain⟨cs,KQ,Iz,L2⟩:=Iy i u[i] (List.getElem?_eq_getElem Id)
  have V1:(i:Int)+1<=9223372036854775807:=by simp only[maxLen]at Of;omega
  obtain⟨tv,rfl,Iu⟩:=L2
  refine aw (.block (aw (aP ?_)))
  refine eD h (sz:=2) (.t rfl) (.t rfl) Id T.dGs T.vG.size (by omega) fun a h=>cn h (cs:=[.int .u32 (u[i].1.toNat:Int),tv]) (.t rfl) T.vG (fun j x hj=>hk.cell id (Iz j x hj)) (by omega) fun a h=>?_
  refine gE h (T.zG w) (by omega) fun a h=>?_
  have PS:=uz (w:=w) (T:=S.tG) (z:=.agg #[.int .u32 0,aF]) (cs:=[.int .u32 (u[i].1.toNat:Int),tv]) rfl
  have I5:∀ x∈[Value.int .u32 (u[i].1.toNat:Int),tv],x.oneCell'=true:=by
   intro x hx
   simp only[List.mem_cons,List.not_mem_nil,or_false]at hx
   rcases hx with rfl|rfl
   ·rfl
   ·obtain⟨_,_,rfl,_⟩:=Iu.form;rfl
  refine iD h (cs:=[.int .u32 (u[i].1.toNat:Int),tv]) (.t rfl) (.t rfl) (by simp[Value.cells]) T.vG.size (aE w _) rfl I5 (wpList_nil ?_)
  obtain⟨Ic,Jq⟩:=PS
  generalize(w.alloc (.cells (Value.agg #[.int .u32 0,aF]).cells S.tG (0,0))).setRow w.heap.size ([.int .u32 (u[i].1.toNat:Int),tv]:List Value).toArray=w2 at Ic Jq ⊢
  have IY:=hk.trans Ic
  refine aw (aP (cn h (cs:=[.int .u32 (u[i].1.toNat:Int),tv]) (.t rfl) T.vG Jq (by omega) fun a h=>aT h h4.ent (vs:=[.agg [.int .u32 (u[i].1.toNat:Int),tv].toArray]) (fun n a h=>by
   simp only[List.map_cons,List.map_nil]
   rw[Hd.t (l:=_) (i:=14) rfl n a h]) (wB T h4 w2 ⟨tv,rfl,Iu.keep IY⟩) (by omega) fun e w3 hR=>?_))
  obtain⟨b4,rfl,Il⟩:=hR
  have Jx:=IY.trans Il
  refine⟨_,rfl,fun a h=>nr h (.t rfl) (by omega) fun a h=>wpList_nil ?_⟩
  refine bn h rfl (fun _=>aw (aP (ae h .c (by omega) fun a h=>wpList_nil (.ret (gq (_f:=S.fZ3) h rfl Jx))))) (fun _=>.skip ?_)
  refine aP (dn h (.t rfl) .i (by simp) (dZ w3) (by omega) fun a h=>?_)
  have hw:IntKind.i64.wrap ((i:Int)+1)=((i+1:Nat):Int):=by simp[IntKind.wrap,IntKind.bits,IntKind.signed];omega
  rw[hw]at h
  refine ai h (.t rfl) (by omega) fun a h=>wpList_nil ?_
  exact⟨m-1,by omega,by omega,i+1,by omega,Jx,h.pick ⟨rfl,rfl,rfl,rfl,trivial⟩⟩
 ·refine .exit ?_
  exact aw (aP (ae h .c (by omega) fun a h=>wpList_nil (.ret (gq (_f:=S.fZ3) h rfl hk))))
theorem wF (T:RefT P S)(h4:FnIs P S.fZ4 7 [2] (csZ4 S))(h3:FnIs P S.fZ3 18 [2] (csZ3 S))(hfn:FnIs P S.fZ2 15 [2] (csZ2 S)){k:Nat}{cs:List Value}{t:Tr}(w:World)(ht:TrRp w k cs t):AI P S.fZ2 [.agg cs.toArray] w:=by
 cases k with
 | zero=>exact ht.elim
 | succ k=>
 obtain⟨sv,lv,uv,rfl,hs,hl,hu⟩:=ht
 obtain⟨sb,sc,hsf,_⟩:=hs.form
 obtain⟨lb,lc,hlf,_⟩:=hl.form
 subst hsf
 subst hlf
 refine bJ T.mixed hfn (by simp) _ (by simp) fun a h=>?_
 unfold csZ2
 have hk:ac (fun _=>False) w (w.alloc (.cells [.int .i64 t.num,.slice sb t.octets.length sc,.bool t.null,.slice lb t.list.length lc,uv].toArray S.tT (0,0))):=ac.alloc _ _ _
 have hc:=bB w [.int .i64 t.num,.slice sb t.octets.length sc,.bool t.null,.slice lb t.list.length lc,uv] S.tT
 refine aw (aP (dx h (cs:=[.int .i64 t.num,.slice sb t.octets.length sc,.bool t.null,.slice lb t.list.length lc,uv]) (.t rfl) (by omega) fun a h=>ae h .c (by omega) fun a h=>wpList_nil ?_))
 generalize w.alloc (.cells [.int .i64 t.num,.slice sb t.octets.length sc,.bool t.null,.slice lb t.list.length lc,uv].toArray S.tT (0,0))=w1 at hk hc ⊢
 refine aw (aw (aP (bO h (.t rfl) T.t1 (by omega) fun a h=>aU h (.t rfl) T.t1.var (hc.at (j:=1) rfl) (by omega) fun a h=>cM h (.t rfl) T.oct.und (by omega) fun a h=>br h rfl (.t rfl) .i (by omega) fun a h=>wpList_nil ?_)))
 refine bn h rfl (fun _=>aw (aP (ae h .c (by omega) fun a h=>wpList_nil (.ret (gq (_f:=S.fZ2) h rfl hk))))) (fun _=>.skip ?_)
 refine aw (aw (aP (bO h (.t rfl) T.t3 (by omega) fun a h=>aU h (.t rfl) T.t3.var (hc.at (j:=3) rfl) (by omega) fun a h=>cM h (.t rfl) T.dTs (by omega) fun a h=>br h rfl (.t rfl) .i (by omega) fun a h=>wpList_nil ?_)))
 refine bn h rfl (fun _=>aw (aP (ae h .c (by omega) fun a h=>wpList_nil (.ret (gq (_f:=S.fZ2) h rfl hk))))) (fun _=>.skip ?_)
 refine aw (aw (aP (bO h (.t rfl) T.t4 (by omega) fun a h=>aU h (.t rfl) T.t4.var (hc.at (j:=4) rfl) (by omega) fun a h=>aT h h3.ent (vs:=[uv]) (fun n a h=>by
  simp only[List.map_cons,List.map_nil]
  rw[Hd.t (l:=_) (i:=12) rfl n a h]) (wD T h4 h3 w1 (hu.imp (fun _ _ _ hh=>au.kn hk hh) fun _ _ hh=>hh.far (cz.of hk))) (by omega) fun e w2 hR=>?_)))
 obtain⟨b3,rfl,Ic⟩:=hR
 have IY:=hk.trans Ic
 refine⟨_,rfl,fun a h=>nr h (.t rfl) (by omega) fun a h=>wpList_nil ?_⟩
 refine bn h rfl (fun _=>aw (aP (ae h .c (by omega) fun a h=>wpList_nil (.ret (gq (_f:=S.fZ2) h rfl IY))))) (fun _=>.skip ?_)
 exact aw (aP (ae h .c (by omega) fun a h=>wpList_nil (.ret (gq (_f:=S.fZ2) h rfl IY))))
end
end
section
open Go
set_option maxRecDepth 4000
section
variable {P:Program} {S:SN} {N:LN} {gErr most:Nat} {flex:Int} {sf:SFs} {out:Int->Bs->Option Bs} {okIn:Int->Bs->Prop}
def TrueC (W:World)(e:Ending)(w':World):Prop:=e=.returned (.bool true)/\ac (fun _=>False) W w'
theorem nj {n t:Nat}{a:Act}{W w':World}{l:List (Nat × Value)}{v:Value}(h:St n a l)(hv:l.lookup t=some v)(hb:v=.bool true)(hk:ac (fun _=>False) W w'):a.defers=[]/\TrueC W (.returned (bj [t] a)) w':=
 dN (RR:=TrueC W) h hv ⟨by rw[hb],hk⟩
end
end
theorem kQ {x:Nat}(h:x<34359738368):(uvar x).length<=5:=by
 simp only[uvar,c7]
 repeat' split
 all_goals first|(simp;done)|(exfalso;omega)
theorem no {α:Type}(f:α->Bs)(b:Nat):∀ (l:List α),(∀ x∈l,(f x).length<=b)->((l.map f).flatten).length<=l.length*b
 | [],_=>by simp
 | x::r,h=>by
  have h1:=h x (List.mem_cons_self ..)
  have h2:=no f b r fun y hy=>h y (List.mem_cons_of_mem _ hy)
  simp only[List.map_cons,List.flatten_cons,List.length_append,List.length_cons]
  rw[Nat.add_mul]
  omega
theorem xD (null:Bool)(l:Bs):(dY null l).length<=aH/\(dY null l).length<=l.length:=by
 unfold dY
 split
 ·simp
 ·rw[List.length_take];omega
theorem uq (fx null:Bool){n k:Nat}(hn:n<=aH)(hk:k<=4):(gu fx null n k).length<=5:=by
 have hu:(uvar (n+1)).length<=5:=kQ (by simp only[aH]at hn;omega)
 unfold gu
 split<;>split<;>first|exact hu|(rw[bY];omega)|(simp;done)
theorem qL (fx null:Bool){k:Nat}(l:Bs)(hk:k<=4):(dX fx null k l).length<=5+aH/\(dX fx null k l).length<=5+l.length:=by
 obtain⟨a,b⟩:=xD null l
 have:=uq fx null (k:=k) a hk
 simp only[dX,List.length_append]
 omega
def ws:Nat:=5 + aH*(10+aH)
def CG (kind p:Nat):Nat:=if kind=0 then 1 else if kind=7 then 16 else if kind=8 \/ kind=9 then 5+aH else if kind=10 then p else cH kind
def HG (kind of p:Nat):Nat:=if kind=11 then 5+aH*CG of p else if kind=10 then 1+p else CG kind p
def sQ:SFs->Nat
 | .nil=>0
 | .cons kind _ _ _ _ _ of sub r=>HG kind of (sQ sub+ws)+sQ r
theorem pM {kind p:Nat}(null fx:Bool){pt:Tr->Bs}(hp:∀ t,(pt t).length<=p)(t:Tr):(eE kind null fx pt t).length<=CG kind p:=by
 unfold eE CG
 by_cases h0:kind=0
 ·rw[if_pos h0,if_pos h0];simp
 rw[if_neg h0,if_neg h0]
 by_cases h7:kind=7
 ·rw[if_pos h7,if_pos h7,lh];omega
 rw[if_neg h7,if_neg h7]
 by_cases h8:kind=8
 ·rw[if_pos h8,if_pos (.inl h8)];exact(qL fx null _ (by omega)).1
 rw[if_neg h8]
 by_cases h9:kind=9
 ·rw[if_pos h9,if_pos (.inr h9)];exact(qL fx null _ (by omega)).1
 rw[if_neg h9,if_neg (show ¬(kind=8 \/ kind=9) from fun h=>h.elim h8 h9)]
 by_cases LG:kind=10
 ·rw[if_pos LG,if_pos LG];exact hp t
 ·rw[if_neg LG,if_neg LG,bY];exact Nat.le_refl _
theorem s4 (null:Bool)(t:Tr):(d7 null t).length<=aH:=by
 unfold d7
 split
 ·simp
 ·rw[List.length_take];omega
theorem Ag {kind of p:Nat}(nul ver:Int)(fx:Bool){pt:Tr->Bs}(hp:∀ t,(pt t).length<=p)(t:Tr):(eH kind nul of ver fx pt t).length<=HG kind of p:=by
 unfold eH HG
 by_cases KM:kind=11
 ·rw[if_pos KM,if_pos KM,List.length_append]
  have hl:=s4 (t.null&&bW nul ver) t
  have h1:=uq fx (t.null&&bW nul ver) (k:=4) hl (by omega)
  have h2:=no (eE of false fx pt) (CG of p) (d7 (t.null&&bW nul ver) t) fun x _=>pM false fx hp x
  have h3:=Nat.mul_le_mul_right (CG of p) hl
  omega
 rw[if_neg KM,if_neg KM]
 by_cases LG:kind=10
 ·rw[if_pos LG]
  by_cases hn:kind=10/\0<=nul
  ·rw[if_pos hn]
   have:=hp t
   split<;>simp<;>omega
  ·rw[if_neg hn]
   have:=pM (kind:=kind) (t.null&&bW nul ver) fx hp t
   have e:CG kind p=p:=by subst LG;rfl
   omega
 ·rw[if_neg (fun h=>LG h.1),if_neg LG]
  exact pM _ fx hp t
theorem BC (p:Nat × Bs)(h:p.1<4294967296):(o6 (p.1,p.2.take aH)).length<=10+aH:=by
 have h1:(uvar p.1).length<=5:=kQ (by omega)
 have h2:=f8 p.2
 have h3:(uvar (p.2.take aH).length).length<=5:=kQ (by simp only[aH]at h2 ⊢;omega)
 simp only[o6,List.length_append]
 omega
theorem qN (fx:Bool)(n:Nat)(t:Tr):(jk fx n [] t.tags).length<=ws:=by
 obtain⟨_,h2,h3⟩:=pO n t
 have hs:oP n []=[]:=by simp[oP]
 unfold jk ws
 split
 ·rw[hs]
  simp only[List.length_append,List.length_nil,Nat.zero_add,oO,List.map_nil,List.flatten_nil]
  have h4:(uvar (gU n t.tags).length).length<=5:=kQ (by simp only[aH]at h3;omega)
  have h5:=no (fun p:Nat × Bs=>o6 (p.1,p.2.take aH)) (10+aH) (gU n t.tags) fun x hx=>BC x (h2 x hx)
  have h6:=Nat.mul_le_mul_right (10+aH) h3
  rw[List.map_map]
  have e:(o6 ∘ fun p:Nat × Bs=>(p.1,p.2.take aH))=fun p:Nat × Bs=>o6 (p.1,p.2.take aH):=rfl
  rw[e]
  omega
 ·simp
theorem pP (ver:Int)(fx:Bool):∀ (sf:SFs) (i:Nat) (t:Tr),fO sf=true->(cX ver fx sf i t).length<=sQ sf
 | .nil,_,_,_=>by simp[cX]
 | .cons kind lo hi nul tag df of sub r,i,t,h=>by
  simp only[fO,Bool.and_eq_true,decide_eq_true_eq]at h
  have hr:=pP ver fx r (i+1) t h.2
  have Ky:∀ t',(cX ver fx sub 0 t'++jk fx (aQ sub) (sTgd ver fx sub 0 t') t'.tags).length<=sQ sub+ws:=fun t'=>by
   rw[kY ver fx sub 0 t' (fL sub h.1.2).1,List.length_append]
   have h1:=pP ver fx sub 0 t' h.1.2
   have h2:=qN fx (aQ sub) t'
   omega
  have hf:=Ag (kind:=kind) (of:=of) nul ver fx Ky (t.at i)
  simp only[cX,sQ,List.length_append]
  split
  ·omega
  ·simp only[List.length_nil];omega
theorem xC {ver:Int}{fx:Bool}{sf:SFs}(h:fO sf=true)(t:Tr):(bh ver fx sf t).length<=sQ sf+ws:=by
 simp only[bh]
 rw[kY ver fx sf 0 t (fL sf h).1,List.length_append]
 have h1:=pP ver fx sf 0 t h
 have h2:=qN fx (aQ sf) t
 omega
def EG:List (UInt32 × Bs)->Nat
 | []=>0
 | p::r=>1+p.2.length+EG r
mutual
def Tr.wt:Tr->Nat
 | .mk _ s _ l u=>1+s.length+wtL l+EG u
def wtL:List Tr->Nat
 | []=>0
 | t::r=>t.wt+wtL r
end
def yV (hf:Bool)(flexN most:Nat)(flex:Int)(fs:Fds)(sf:SFs):Bool:=(List.range (most+1)).all fun v=>fitFds (v:Int) (rJ flex (v:Int)) fs sf&&((hf&&decide ((flexN:Int)<=(v:Int)))==rJ flex (v:Int))
section
variable {P:Program} {S:SN} {N:LN} {gErr T flexN:Nat} {hf:Bool} {fs:Fds} {toff:Option Nat} {z:Array Value} {fN fS fR fA:Nat}
theorem CR {most:Nat}{flex:Int}{sf:SFs}(h:yV hf flexN most flex fs sf=true){v:Nat}(hv:v<=most):fitFds (v:Int) (rJ flex (v:Int)) fs sf=true/\(hf&&decide ((flexN:Int)<=(v:Int)))=rJ flex (v:Int):=by
 have:=List.all_eq_true.1 h v (by simp;omega)
 simpa using this
variable {most:Nat} {flex:Int} {sf:SFs}
end
section
open Go Go.ChangeShapes Go.WideShapes Go.RowKit Go.Deep
def BE (P:Program)(t n:Nat):Bool:=match P.underlying t with
 | some (.struct fs)=>fs.size==n
 | _=>false
theorem se {P:Program}{t n:Nat}(h:BE P t n=true){fs:Array Field}(hf:P.underlying t=some (.struct fs)):fs.size=n:=by
 unfold BE at h
 rw[hf]at h
 simpa using h
structure TreT (P:Program)(S:SN):Prop where
 tab:RefT P S
 cT:P.cellsOf S.tT=5
 cG:P.cellsOf S.tG=2
 cI:P.cellsOf S.tI64=1
 cSl:P.cellsOf S.tSl=1
 cB:P.cellsOf S.tB=1
 cTs:P.cellsOf S.tTs=1
 cGs:P.cellsOf S.tGs=1
 cU:P.cellsOf S.tU32=1
 c8:P.cellsOf S.tU8=1
 dB:P.underlying S.tB=some .bool
 nT:BE P S.tT 5=true
 nG:BE P S.tG 2=true
section
variable {H:Type} {enc:TypeId × Value->H} {P:Program} {S:SN} {W:World}
theorem oL {a:Addr}{v:Value}(h:W.cell? a=some v):a.spot=none/\a.block<W.heap.size:=by
 obtain⟨b,o,s⟩:=a
 cases s with
 | none=>exact⟨rfl,bP h⟩
 | some s=>
  simp[World.cell?]at h
  split at h<;>cases h
theorem oi (d:DataW H):1<=Rows.uptoBulk d:=by
 cases d with
 | lit l=>cases l<;>simp[Rows.uptoBulk]
 | _=>simp[Rows.uptoBulk]
theorem m5:∀ l:List (DataW H),l.length<=Rows.uptoBulkAll l
 | []=>by simp
 | d::r=>by
  have h1:=oi d
  have h2:=m5 r
  simp only[Rows.uptoBulkAll,List.length_cons]
  omega
theorem oX (T:TreT P S){fuel:Nat}{v:Value}{x:DataW H × List MemPlace}(h:DataW.trod enc P W 0 (fun _=>true) true fuel S.tSl [v]=some x):∃ l:Bs,kD W v l/\l.length+1<=Rows.uptoBulk x.1:=by
 rcases open_ints T.tab.oct.und T.tab.dU8 T.c8 h with⟨Iz,rfl⟩|⟨a,len,cap,zs,Iz,_,hl,hm,Tq,rfl,Ia,hw⟩
 ·simp only[List.cons.injEq,and_true]at Iz
  exact⟨[],.inl ⟨none,Iz,rfl⟩,by simp[Rows.uptoBulk]⟩
 ·simp only[List.cons.injEq,and_true]at Iz
  subst Iz
  have Tq:zs.length=cap:=by simpa using Tq
  have Ib:((zs.take len).map fun z=>UInt8.ofNat z.toNat).length=len:=by simp only[List.length_map,List.length_take];omega
  refine⟨(zs.take len).map fun z=>UInt8.ofNat z.toNat,?_,?_⟩
  ·by_cases h0:cap=0
   ·obtain rfl:len=0:=by omega
    subst h0
    exact .inl ⟨_,rfl,by simp⟩
   ·have Ln:=Ia 0 (by omega)
    have e0:a.add 0=a:=rfl
    rw[e0]at Ln
    obtain⟨hs,Id⟩:=oL Ln
    obtain⟨b,o,s⟩:=a
    simp only at hs
    subst hs
    refine .inr (.inr ⟨b,o,cap,by rw[Ib],id,Id,by rw[Ib];exact hl,hm,fun i x hx=>?_⟩)
    simp only[List.getElem?_map,Option.map_eq_some_iff]at hx
    obtain⟨z,hz,rfl⟩:=hx
    have hi:i<len:=by
     rcases Nat.lt_or_ge i len with h|h
     ·exact h
     ·rw[List.getElem?_take,if_neg (by omega)]at hz;cases hz
    rw[List.getElem?_take,if_pos hi]at hz
    have P0:=hw z (List.mem_of_getElem? hz)
    have P0:0<=z/\z<256:=by simp[Lit.wf,IntKind.min,IntKind.max,IntKind.bits,IntKind.signed]at P0;omega
    have Pp:=Ia i (by omega)
    rw[add_plain]at Pp
    rw[Pp]
    have e1:zs.getD i 0=z:=by simp[List.getD,hz]
    have e2:(UInt8.ofNat z.toNat).toNat=z.toNat:=UInt8.toNat_ofNat_of_lt (by simpa using(by omega:z.toNat<256))
    rw[e1,e2,Int.toNat_of_nonneg P0.1]
  ·rw[Ib]
   have h1:=m5 (lits (H:=H) .u8 (zs.take len))
   have h2:(lits (H:=H) .u8 (zs.take len)).length=len:=by simp only[lits,List.length_map,List.length_take];omega
   simp only[Rows.uptoBulk]
   omega
theorem BQ {α:Type}{El:List Value->α->Prop}{sz len cap:Nat}{a:Addr}(Ii:0<sz)(hl:len<=cap)(hm:cap<=maxLen)(wt:α->Nat)(D:Nat->Nat)(h:∀ i,i<cap->∃ cs',W.cells? 0 (a.add (i*sz)) sz=some cs'/\(i<len->∃ x,El cs' x/\wt x<=D i)) :
  ∃ xs:List α,dh W sz El (.slice (some a) len cap) xs/\xs.length=len/\∀ i x,xs[i]?=some x->wt x<=D i:=by
 by_cases h0:cap=0
 ·obtain rfl:len=0:=by omega
  subst h0
  exact⟨[],.inl ⟨_,rfl,rfl⟩,rfl,fun i x hx=>by simp at hx⟩
 ·obtain⟨cs0,Ln,_⟩:=h 0 (by omega)
  obtain⟨_,Pi,Qx⟩:=World.cells?_some Ln
  have h1:=Qx 0 Ii
  rw[List.getElem?_eq_getElem (by omega)]at h1
  have e0:(a.add (0*sz)).add 0=a:=by rw[Nat.zero_mul];rfl
  rw[e0]at h1
  obtain⟨hs,Id⟩:=oL h1
  obtain⟨b,o,s⟩:=a
  simp only at hs
  subst hs
  have KO:∀ i:Fin len,∃ x,(∃ cs',W.cells? 0 ((⟨b,o,none⟩:Addr).add (i.val*sz)) sz=some cs'/\El cs' x)/\wt x<=D i.val:=fun i=>by
   obtain⟨cs',e1,e2⟩:=h i.val (by omega)
   obtain⟨x,e3,e4⟩:=e2 i.isLt
   exact⟨x,⟨cs',e1,e3⟩,e4⟩
  let f:Fin len->α:=fun i=>Classical.choose (KO i)
  have hf:∀ i:Fin len,(∃ cs',W.cells? 0 ((⟨b,o,none⟩:Addr).add (i.val*sz)) sz=some cs'/\El cs' (f i))/\wt (f i)<=D i.val:=fun i=>Classical.choose_spec (KO i)
  have JK:∀ i x,(List.ofFn f)[i]?=some x->∃ hi:i<len,x=f ⟨i,hi⟩:=fun i x hx=>by
   obtain⟨hi,e⟩:=List.getElem?_eq_some_iff.1 hx
   have Qe:i<len:=by simpa using hi
   exact⟨Qe,by rw[<- e];simp⟩
  refine⟨List.ofFn f,.inr ⟨b,o,cap,by rw[List.length_ofFn],by rw[List.length_ofFn];exact hl,hm,fun i x hx=>?_⟩,List.length_ofFn ..,fun i x hx=>?_⟩
  ·obtain⟨hi,rfl⟩:=JK i x hx
   obtain⟨⟨cs',e1,e2⟩,_⟩:=hf ⟨i,hi⟩
   obtain⟨_,e3,e4⟩:=World.cells?_some e1
   refine⟨cs',e3,fun j v hj=>?_,e2⟩
   have:=e4 j (by have:=(List.getElem?_eq_some_iff.1 hj).1;omega)
   rw[hj,add_plain,add_plain]at this
   rw[<- this]
  ·obtain⟨hi,rfl⟩:=JK i x hx
   exact(hf ⟨i,hi⟩).2
theorem ym (T:TreT P S){fuel:Nat}{cs:List Value}{x:DataW H × List MemPlace}(h:DataW.trod enc P W 0 (fun _=>true) true fuel S.tG cs=some x):∃ p,gk W cs p/\1+p.2.length<=Rows.uptoBulk x.1:=by
 obtain⟨fs,f0,hu,S6,o0,ty0⟩:=T.tab.g0.fld
 obtain⟨fs',f1,Mj,LK,o1,ty1⟩:=T.tab.g1.fld
 obtain rfl:fs=fs':=by rw[hu]at Mj;simpa using Mj
 obtain⟨xs,n,rfl,rfl,KQ,Nc,IQ⟩:=DataW.trod_struct hu h
 rw[T.cG]at KQ
 rw[se T.nG hu]at Nc
 match cs,KQ,xs,Nc with
 | [c0,c1],_,[y0,y1],_=>
  have h0:=IQ 0 f0 S6
  have h1:=IQ 1 f1 LK
  rw[o0,ty0,T.cU]at h0
  rw[o1,ty1,T.cSl]at h1
  simp only[List.drop_zero,List.take_succ_cons,List.take_zero,List.getElem?_cons_zero]at h0
  simp only[List.drop_succ_cons,List.drop_zero,List.take_succ_cons,List.take_zero,List.getElem?_cons_succ,List.getElem?_cons_zero]at h1
  obtain⟨m,e0,_,hw⟩:=DataW.trod_int T.tab.dU32 h0
  obtain⟨l,hl,hb⟩:=oX T h1
  simp only[List.cons.injEq,and_true]at e0
  have hm:0<=m/\m<4294967296:=by simp[Lit.wf,IntKind.min,IntKind.max,IntKind.bits,IntKind.signed]at hw;omega
  refine⟨(UInt32.ofNat m.toNat,l),⟨c1,?_,hl⟩,?_⟩
  ·have e2:(UInt32.ofNat m.toNat).toNat=m.toNat:=UInt32.toNat_ofNat_of_lt (by simpa using(by omega:m.toNat<4294967296))
   simp only[e2,Int.toNat_of_nonneg hm.1]
   rw[e0]
  ·simp only[Rows.uptoBulk,List.map_cons,List.map_nil,Rows.uptoBulkAll]
   omega
theorem qZ {α:Type}{e t sz:Nat}(U3:P.underlying t=some (.slice e))(On:P.cellsOf e=sz)(Ii:0<sz){El:List Value->α->Prop}(wt:α->Nat){fuel:Nat}{v:Value}{x:DataW H × List MemPlace}(h:DataW.trod enc P W 0 (fun _=>true) true fuel t [v]=some x)
  (Md:∀ (n:Nat) (cs:List Value) (y:DataW H × List MemPlace),n<fuel->DataW.trod enc P W 0 (fun _=>true) true n e cs=some y->∃ a,El cs a/\wt a<=Rows.uptoBulk y.1) :
  ∃ (xs:List α) (ds:List (DataW H)),dh W sz El v xs/\Rows.uptoBulkAll ds+1<=Rows.uptoBulk x.1/\xs.length=ds.length/\∀ (i:Nat) (a:α) (d:DataW H),xs[i]?=some a->ds[i]?=some d->wt a<=Rows.uptoBulk d:=by
 rcases DataW.trod_slice U3 h with⟨e3,rfl⟩|⟨a,len,cap,elems,rest,n,rfl,e3,rfl,_,hl,hm,Ib,he,PD,_⟩
 ·simp only[List.cons.injEq,and_true]at e3
  exact⟨[],[],.inl ⟨none,e3,rfl⟩,by simp[Rows.uptoBulk,Rows.uptoBulkAll],rfl,fun i a d hi=>by simp at hi⟩
 simp only[List.cons.injEq,and_true]at e3
 subst e3
 obtain⟨Mp,hr⟩:=PD rfl
 rw[On]at he hr
 obtain⟨xs,Iy,Nc,Nd⟩:=BQ (W:=W) (El:=El) (sz:=sz) (a:=a) Ii hl hm wt (fun i=>match elems[i]? with|some y=>Rows.uptoBulk y.1|none=>0) (fun i hi=>by
  by_cases NF:i<len
  ·have h1:=he i NF
   rw[List.getElem?_eq_getElem (by omega)]at h1
   obtain⟨cs',h2,h3⟩:=Option.bind_eq_some_iff.1 h1
   obtain⟨b,h4,h5⟩:=Md n cs' _ (Nat.lt_succ_self n) h3
   refine⟨cs',h2,fun _=>⟨b,h4,?_⟩⟩
   rw[List.getElem?_eq_getElem (by omega)]
   exact h5
  ·have h1:=hr (i-len) (by omega)
   rw[List.getElem?_eq_getElem (by omega),show len+(i-len)=i by omega]at h1
   obtain⟨cs',h2,_⟩:=Option.bind_eq_some_iff.1 h1
   exact⟨cs',h2,fun h=>absurd h NF⟩)
 refine⟨xs,elems.map (·.1),Iy,by simp only[Rows.uptoBulk];omega,by rw[Nc,List.length_map,Ib],fun i b d hb hd=>?_⟩
 have:=Nd i b hb
 rw[List.getElem?_map,Option.map_eq_some_iff]at hd
 obtain⟨y,hy,rfl⟩:=hd
 simpa[hy]using this
theorem wJ:∀ (l:List Tr) (ds:List (DataW H)),l.length=ds.length->(∀ (i:Nat) (x:Tr) (d:DataW H),l[i]?=some x->ds[i]?=some d->x.wt<=Rows.uptoBulk d)->wtL l<=Rows.uptoBulkAll ds
 | [],_,_,_=>by simp[wtL]
 | t::r,[],h,_=>by simp at h
 | t::r,d::ds,h,hh=>by
  have h0:=hh 0 t d rfl rfl
  have h1:=wJ r ds (by simpa using h) fun i x y hx hy=>hh (i+1) x y (by simpa using hx) (by simpa using hy)
  simp only[wtL,Rows.uptoBulkAll]
  omega
theorem wI:∀ (l:List (UInt32 × Bs)) (ds:List (DataW H)),l.length=ds.length->(∀ (i:Nat) (x:UInt32 × Bs) (d:DataW H),l[i]?=some x->ds[i]?=some d->1+x.2.length<=Rows.uptoBulk d)->EG l<=Rows.uptoBulkAll ds
 | [],_,_,_=>by simp[EG]
 | t::r,[],h,_=>by simp at h
 | t::r,d::ds,h,hh=>by
  have h0:=hh 0 t d rfl rfl
  have h1:=wI r ds (by simpa using h) fun i x y hx hy=>hh (i+1) x y (by simpa using hx) (by simpa using hy)
  simp only[EG,Rows.uptoBulkAll]
  omega
theorem vz (T:TreT P S):∀ (fuel:Nat) (cs:List Value) (x:DataW H × List MemPlace),DataW.trod enc P W 0 (fun _=>true) true fuel S.tT cs=some x->∃ t,TrRp W fuel cs t/\t.wt<=Rows.uptoBulk x.1:=by
 intro fuel
 induction fuel using Nat.strongRecOn with
 | _ fuel ih=>
 intro cs x h
 obtain⟨fs,f0,hu,S6,o0,ty0⟩:=T.tab.t0.fld
 obtain⟨fs1,f1,L0,LK,o1,ty1⟩:=T.tab.t1.fld
 obtain⟨fs2,f2,P8,Oj,o2,ty2⟩:=T.tab.t2.fld
 obtain⟨fs3,f3,WV,Nq,o3,ty3⟩:=T.tab.t3.fld
 obtain⟨fs4,f4,WU,LJ,o4,ty4⟩:=T.tab.t4.fld
 obtain rfl:fs=fs1:=by rw[hu]at L0;simpa using L0
 obtain rfl:fs=fs2:=by rw[hu]at P8;simpa using P8
 obtain rfl:fs=fs3:=by rw[hu]at WV;simpa using WV
 obtain rfl:fs=fs4:=by rw[hu]at WU;simpa using WU
 obtain⟨xs,n,rfl,rfl,KQ,Nc,IQ⟩:=DataW.trod_struct hu h
 rw[T.cT]at KQ
 rw[se T.nT hu]at Nc
 match cs,KQ,xs,Nc with
 | [c0,c1,c2,c3,c4],_,[y0,y1,y2,y3,y4],_=>
  have h0:=IQ 0 f0 S6
  have h1:=IQ 1 f1 LK
  have h2:=IQ 2 f2 Oj
  have h3:=IQ 3 f3 Nq
  have h4:=IQ 4 f4 LJ
  rw[o0,ty0,T.cI]at h0
  rw[o1,ty1,T.cSl]at h1
  rw[o2,ty2,T.cB]at h2
  rw[o3,ty3,T.cTs]at h3
  rw[o4,ty4,T.cGs]at h4
  simp only[List.drop_zero,List.drop_succ_cons,List.take_succ_cons,List.take_zero,List.getElem?_cons_zero,List.getElem?_cons_succ]at h0 h1 h2 h3 h4
  obtain⟨m,e0,ey0,_⟩:=DataW.trod_int T.tab.dI64 h0
  obtain⟨l,hl,IX⟩:=oX T h1
  obtain⟨nl,e2,ey2⟩:=DataW.trod_bool T.dB h2
  simp only[List.cons.injEq,and_true]at e0 e2
  obtain⟨ts,ds3,hts,LL,MR,LP⟩:=qZ (El:=TrRp W n) T.tab.dTs T.cT (by omega) Tr.wt h3 fun n' cs y hn hy=>by
   obtain⟨t,ht,hw⟩:=ih n' (by omega) cs y hy
   exact⟨t,ht.up (by omega),hw⟩
  obtain⟨us,ds4,hus,QT,QP,Re⟩:=qZ (El:=gk W) T.tab.dGs T.cG (by omega) (fun p:UInt32 × Bs=>1+p.2.length) h4 fun n' cs y _ hy=>ym T hy
  have hwL:=wJ ts ds3 MR LP
  have hwU:=wI us ds4 QP Re
  refine⟨.mk m l nl ts us,⟨c1,c3,c4,?_,hl,hts,hus⟩,?_⟩
  ·rw[e0,e2];rfl
  ·have b0:=oi y0.1
   have b2:=oi y2.1
   simp only[Tr.wt,Rows.uptoBulk,List.map_cons,List.map_nil,Rows.uptoBulkAll]
   omega
theorem zi (T:TreT P S){base:Nat}{v:Value}{d:DataW H}{p:List MemPlace}(hval:Value.okWide P W .any base S.tT v)(h:DataW.Trod enc P W 0 (fun _=>true) true S.tT v d p):∃ (k:Nat) (cs:List Value) (t:Tr),v=.agg cs.toArray/\TrRp W k cs t/\t.wt<=Rows.uptoBulk d:=by
 obtain⟨fs,f0,hu,_⟩:=T.tab.t0.fld
 obtain⟨cs,rfl,_⟩:=okWide_struct hu hval
 obtain⟨fuel,hf⟩:=h
 obtain⟨t,ht,hw⟩:=vz T fuel _ _ hf
 exact⟨fuel,cs.toList,t,by simp,by simpa[Value.cells]using ht,hw⟩
theorem ac.below {W W':World}(h:ac (fun _=>False) W W'):Below W.heap.size W W':=⟨h.os,h.tape,h.output,h.size,fun i hi=>h.block i hi id⟩
end
end
end Go.Proofs.YtpoeajgpacfpoaaGreatDoor.Kx