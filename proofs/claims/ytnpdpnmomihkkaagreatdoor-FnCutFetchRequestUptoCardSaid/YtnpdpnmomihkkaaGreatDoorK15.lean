/- messages, part 15 -/
import Derived.Test.YtnpdpnmomihkkaaGreatDoorK13

namespace Go.Proofs.YtnpdpnmomihkkaaGreatDoor.Kx
open Go
section
open Go
set_option maxRecDepth 4000
section
variable {P:Program} {S:SN}
theorem CE (C:LeafC P S){W:World}{w:World}{t:Tr}{B:Nat}{sv lv uv:Value}(LT:kR W sv t.octets)(hk:dW W w)(hB:bB w B 0 [.int .i64 t.num,sv,.bool t.null,lv,uv])
  {a:Act} (h:St 70 a [(11,pt B 0)]) {R:Exit->Act->World->Prop} (hR:∀ a' w',(a'.defers=[]/\de S.tU8 (z6 t.octets) W (.returned (a'.get 12)) w')->R .ret a' w') :
  cf P (.seq (rg (DV S)) (.seq (rg (DU S)) (.seq (rg (DS S)) .ret))) R a w:=by
 have T:=C.tab
 obtain⟨i,hi,hz,Jc,O1⟩:=T.z8
 have Vj:=run_make (P:=P) w S.tSl S.tU8 i (.int .u8 0) T.oct.und hi hz .i64 .i64 16 16 aa aa (by rw[O1];omega) aa
 have NQ:madeCells (Value.int .u8 0).cells ((16:Int).toNat*i.size)=(List.replicate 16 (cP 0)).toArray:=by
  rw[Jc]
  apply Array.ext
  ·simp[madeCells]
  ·intro k h1 h2
   have e1:(List.replicate 16 (cP 0)).toArray[k]=cP 0:=by rw[List.getElem_toArray,List.getElem_replicate]
   rw[e1]
   simp only[madeCells,Array.getElem_map,Array.getElem_range,Value.cells]
   simp[Nat.mod_one,cP]
 rw[NQ]at Vj
 refine bI (cq (bP (v:=.slice (some ⟨w.heap.size,0,none⟩) 16 16) (w':=w.alloc (.cells (List.replicate 16 (cP 0)).toArray S.tU8)) ?_ ?_))
 ·have e:a.eval (ki .i64 16)=.int .i64 16:=rfl
  simp[execOp,mk,e,Vj]
 have h:=h.put (d:=26) (.slice (some ⟨w.heap.size,0,none⟩) 16 16) aa
 have hn:=bO w (.cells (List.replicate 16 (cP 0)).toArray S.tU8)
 have Jd:br (λ_=>False) w (w.alloc (.cells (List.replicate 16 (cP 0)).toArray S.tU8)):=br.alloc _ _ _
 generalize w.alloc (.cells (List.replicate 16 (cP 0)).toArray S.tU8)=w1 at hn Jd ⊢
 refine b5 h (.t rfl) aa λa h=>wpList_nil ?_
 have IX:=LT.far (hk.kn Jd)
 obtain⟨bx,cx,rfl,JD⟩:=IX.form
 refine bI (cq (b9 h (.t rfl) aa λa h=>cH h (.t rfl) T.t1 aa λa h=>ce h (.t rfl) T.t1.var ((bB.kn Jd hB).at (j:=1) rfl) aa λa h=>?_))
 have NF:(t.octets.take 16).length=min t.octets.length 16:=by rw[aG,Nat.min_comm]
 obtain⟨x,w2,Jl,KV,IV⟩:∃ x w2,(Builtin.copy_ #[S.tSl,S.tSl] S.tInt #[.slice (some ⟨w.heap.size,0,none⟩) 16 16,.slice bx t.octets.length cx]).run P w1=.ok x w2/\w2.heap[w.heap.size]?=some (.cells ((z6 t.octets).map cP).toArray S.tU8 (0,0))/\br (λk=>k=w.heap.size) w1 w2:=by
  rcases JD with h0|⟨b,o,rfl,JD⟩
  ·refine⟨_,_,ni T.oct.und T.vU8.size (by rw[h0];rfl),?_,br.refl _ _⟩
   rw[hn,h0]
   simp[z6]
  ·refine⟨_,_,nh (cs:=(t.octets.take 16).map cP) T.oct.und T.vU8.size (by rw[aJ,NF]) (λj v hj=>?_) hn (by rw[aJ,NF,List.size_toArray,List.length_replicate];omega) no,?_,br.setRow _ _ _ _ rfl⟩
   ·rw[aD,aK]at hj
    obtain⟨y,hy,rfl⟩:=hj
    rw[aX]at hy
    split at hy
    ·rw[Addr.add_lit];exact JD j y hy
    ·cases hy
   ·rw[setRow_heap _ _ _ _ _ _ hn]
    congr 2
    simp only[bV,z6,List.take_zero,aF,aN,List.map_append,aJ,List.map_replicate]
    congr 2
    rw[List.drop_replicate,NF]
    congr 1
    omega
 have LY:(execOp a.eval (bi (some 30) .copy [tm 27,tm 29] [S.tSl,S.tSl] S.tInt)).run P w1=.ok (.value x) w2:=by
  simp[execOp,bi,resolve,invoke,builtin,Hd.t (l:=_) (i:=27) rfl 70 a h,Hd.t (l:=_) (i:=29) rfl 70 a h,Jl]
 refine DE h LY aa λa h=>wpList_nil ?_
 refine bI (cq (b9 h (.t rfl) aa λa h=>b5 h (.t rfl) aa λa h=>wpList_nil (.ret (hR _ _ ⟨h.defers,.slice (some ⟨w.heap.size,0,none⟩) 16 16,by rw[h.get 12 _ rfl],?_,?_⟩))))
 ·exact .inr ⟨w.heap.size,16,((z6 t.octets).map cP).toArray,by rw[lT],hk.size,KV,by rw[lT];omega,by simp[maxLen],by simp[lT],λi x hx=>by simp[hx]⟩
 ·exact dW.keeps ((hk.kn Jd).up IV λi hi=>by subst hi;exact hk.size)
def FK (P:Program)(S:SN)(sub:SFs):Prop:=∀ (w:World) (kind:Nat) (null:Bool) (ver:Int) (fx:Bool) (k:Nat) (cs:List Value) (t:Tr) (fv:Value),ge w sub fv->TrRp w k cs t->(gk kind null fx (bU ver fx sub) t).length<=fq ->
 Calls P S.fVal [.int .i64 (kind:Int),fv,.bool null,.int .i64 ver,.bool fx,.agg cs.toArray].toArray w (de S.tU8 (gk kind null fx (bU ver fx sub) t) w)
theorem Ai (C:LeafC P S)(hfn:FnIs P S.fVal 70 [12] (csVa S))(Ss:Ent P S.fPart){sub:SFs}(hP:r3 P S sub):FK P S sub:=by
 intro W kind null ver fx k cs t fv J9 ht hlim
 have T:=C.tab
 have O5:=ht
 cases k with
 | zero=>exact ht.elim
 | succ k=>
 obtain⟨sv,lv,uv,rfl,LT,NZ,OJ⟩:=ht
 refine fb T.mixed hfn ab _ ab λa h=>?_
 unfold csVa
 refine bI (cq (fy h (.t rfl) aa λa h=>?_))
 have hk:br (λ_=>False) W (W.alloc (.cells [.int .i64 t.num,sv,.bool t.null,lv,uv].toArray S.tT (0,0))):=br.alloc _ _ _
 have hB:=dA W [.int .i64 t.num,sv,.bool t.null,lv,uv] S.tT
 generalize W.alloc (.cells [.int .i64 t.num,sv,.bool t.null,lv,uv].toArray S.tT (0,0))=w at hk hB ⊢
 have hf:dW W w:=dW.of hk
 refine b5 h .c aa λa h=>wpList_nil ?_
 have h:St 70 a [(0,.int .i64 (kind:Int)),(1,fv),(2,.bool null),(3,.int .i64 ver),(4,.bool fx),(11,pt W.heap.size 0)]:=h.pick ⟨rfl,rfl,rfl,rfl,rfl,rfl,trivial⟩
 have fin:∀ (a':Act) (w':World),(a'.defers=[]/\de S.tU8 (gk kind null fx (bU ver fx sub) t) W (.returned (a'.get 12)) w')->(a'.defers=[]/\de S.tU8 (gk kind null fx (bU ver fx sub) t) W (.returned (cE [12] a')) w'):=λa' w' hh=>hh
 refine bI (bI (cq (b9 h (.t rfl) aa λa h=>wpList_nil ?_)))
 refine .block (bI (cq (cy h rfl (.t rfl) .i aa λa h=>b5 h (.t rfl) aa λa h=>wpList_nil ?_)))
 refine cA h rfl (λhb=>?_) (λhb=>?_)
 ·-- a bool
  have Km:kind=0:=by simp[cg]at hb;omega
  subst Km
  refine bI (cq (cH h (.t rfl) T.t0 aa λa h=>ce h (.t rfl) T.t0.var (hB.at (j:=0) rfl) aa λa h=>e7 h (.t rfl) .i ab (uq w) aa λa h=>gV h (.t rfl) T.dI64 T.dU8 aa λa h=>?_))
  have hw:(Value.int .u8 (IntKind.u8.wrap (t.num%2)))=cP (UInt8.ofNat (t.num%2).toNat):=by
   have e:IntKind.u8.wrap (t.num%2)=(((t.num%2).toNat:Nat):Int):=by simp[IntKind.wrap,IntKind.bits,IntKind.signed];omega
   rw[e,od aa]
  rw[hw]at h
  refine rP h T.oct (.t rfl) aa λv a hd h=>b5 h (.t rfl) aa λa h=>wpList_nil (.ret ?_)
  refine iH (RR:=de S.tU8 (gk 0 null fx (bU ver fx sub) t) W) h rfl (rh ?_ (hf.kn (br.alloc _ _ _)))
  exact(Gr.lower (L':=W.heap.size) hk.size (Gr.refl hd)).dst
 have h0:kind≠0:=by simp[cg]at hb;omega
 refine bI (cq (cy h rfl (.t rfl) .i aa λa h=>b5 h (.t rfl) aa λa h=>wpList_nil ?_))
 refine cA h rfl (λhb=>?_) (λhb=>?_)
 ·have Km:kind=7:=by simp[cg]at hb;omega
  subst Km
  exact CE C LT hf hB (h.pick ⟨rfl,trivial⟩) λa' w' hh=>fin a' w' hh
 have h7:kind≠7:=by simp[cg]at hb;omega
 refine bI (cq (cy h rfl (.t rfl) .i aa λa h=>b5 h (.t rfl) aa λa h=>wpList_nil ?_))
 refine cA h rfl (λhb=>?_) (λhb=>?_)
 ·have Km:kind=8:=by simp[cg]at hb;omega
  subst Km
  exact Ah C LT hf hB hlim (h.pick ⟨rfl,rfl,rfl,trivial⟩) λa' w' hh=>fin a' w' hh
 have h8:kind≠8:=by simp[cg]at hb;omega
 refine bI (cq (cy h rfl (.t rfl) .i aa λa h=>b5 h (.t rfl) aa λa h=>wpList_nil ?_))
 refine cA h rfl (λhb=>?_) (λhb=>?_)
 ·have Km:kind=9:=by simp[cg]at hb;omega
  subst Km
  exact Ag C LT hf hB hlim (h.pick ⟨rfl,rfl,rfl,trivial⟩) λa' w' hh=>fin a' w' hh
 have h9:kind≠9:=by simp[cg]at hb;omega
 refine bI (cq (cy h rfl (.t rfl) .i aa λa h=>b5 h (.t rfl) aa λa h=>wpList_nil ?_))
 refine cA h rfl (λhb=>?_) (λhb=>?_)
 ·have Km:kind=10:=by simp[cg]at hb;omega
  subst Km
  have e:gk 10 null fx (bU ver fx sub) t=bU ver fx sub t:=by simp[gk]
  rw[e]at hlim fin ⊢
  refine bI (cq (b9 h (.t rfl) aa λa h=>b9 h (.t rfl) aa λa h=>b9 h (.t rfl) aa λa h=>dK h (cs:=[.int .i64 t.num,sv,.bool t.null,lv,uv]) (.t rfl) T.vT hB aa λa h=>?_))
  refine cX h Ss (vs:=[fv,.int .i64 ver,.bool fx,.agg [.int .i64 t.num,sv,.bool t.null,lv,uv].toArray]) (λn a h=>by
   simp only[List.map_cons,List.map_nil]
   rw[Hd.t (l:=_) (i:=60) rfl n a h,Hd.t (l:=_) (i:=61) rfl n a h,Hd.t (l:=_) (i:=62) rfl n a h,Hd.t (l:=_) (i:=63) rfl n a h]) (hP w ver fx (k+1) _ t fv (J9.far hf) (O5.far hf) hlim) aa λe w' hR=>?_
  obtain⟨v,rfl,hd,IV⟩:=hR
  refine⟨v,rfl,λa h=>b5 h (.t rfl) aa λa h=>wpList_nil (.ret ?_)⟩
  exact iH (RR:=de S.tU8 (bU ver fx sub t) W) h rfl (rh (Gr.lower (L':=W.heap.size) hk.size (Gr.refl hd)).dst (hf.kn IV))
 have Lm:kind≠10:=by simp[cg]at hb;omega
 have e:gk kind null fx (bU ver fx sub) t=be (da kind) t.num:=by simp[gk,h0,h7,h8,h9,Lm]
 rw[e]at hlim fin ⊢
 refine .skip (bI (uF [false,false,false,true,true,true] (λw'=>bB w' W.heap.size 0 [.int .i64 t.num,sv,.bool t.null,lv,uv]/\dW W w') (by kernel_rfl) ?_))
 show iR P _ [mk (some 65) (.fieldAddr S.tT (tm 11) 0),mk (some 66) (.load S.tI64 (tm 65)),mk (some 67) (.move (tm 0))] a λaf=>gF P _ _ [cl (some 68) S.fWid [(tm 67)],cl (some 69) S.fFix [(tm 66),(tm 68)],mk (some 12) (.assign (tm 69))] af w.drew
 refine lx h (.t rfl) T.t0 aa λa h=>iX h (.t rfl) T.t0.var (λw' hI=>hI.1.at (j:=0) rfl) aa λa h=>eQ h (.t rfl) aa λa h=>lw ?_
 have Md:bB w.drew W.heap.size 0 [.int .i64 t.num,sv,.bool t.null,lv,uv]/\dW W w.drew:=⟨bB.kn (br.drew _ _) hB,hf.kn (br.drew _ _)⟩
 refine eC h Md C.widE (vs:=[.int .i64 (kind:Int)]) (λn a h=>by
  simp only[List.map_cons,List.map_nil]
  rw[Hd.t (l:=_) (i:=67) rfl n a h]) (C.widC kind w.drew) aa λe w' hR=>?_
 obtain⟨rfl,rfl⟩:=hR
 have hw8:da kind<=8:=by
  simp only[da]
  repeat' split
  all_goals omega
 refine⟨_,rfl,λa h=>eC h Md C.fixE (vs:=[.int .i64 t.num,.int .i64 (da kind:Int)]) (λn a h=>by
  simp only[List.map_cons,List.map_nil]
  rw[Hd.t (l:=_) (i:=66) rfl n a h,Hd.t (l:=_) (i:=68) rfl n a h]) (C.fixC t.num _ w.drew hw8) aa λe w' hR=>?_⟩
 obtain⟨v,rfl,hd,IV⟩:=hR
 refine⟨v,rfl,λa h=>iM h ⟨bB.kn IV Md.1,Md.2.kn IV⟩ (.t rfl) aa λa h=>lq ⟨bB.kn IV Md.1,Md.2.kn IV⟩ (.ret ?_)⟩
 exact iH (RR:=de S.tU8 (be (da kind) t.num) W) h rfl (rh (Gr.lower (L':=W.heap.size) Md.2.size (Gr.refl hd)).dst (Md.2.kn IV))
end
end
section
open Go
set_option maxRecDepth 4000
section
variable {P:Program} {S:SN}
def Is (P:Program)(S:SN)(sub:SFs):Prop:=∀ (w:World) (kind:Nat) (lo hi nul tag df:Int) (of:Nat) (sv:Value) (ver:Int) (fx:Bool) (k:Nat) (cs:List Value) (t:Tr),ge w sub sv->TrRp w k cs t->(fQ kind nul of ver fx (bU ver fx sub) t).length<=fq ->
 Calls P S.fField [.agg (bW kind lo hi nul tag df of sv).toArray,.int .i64 ver,.bool fx,.agg cs.toArray].toArray w (de S.tU8 (fQ kind nul of ver fx (bU ver fx sub) t) w)
theorem zn (g:Tr->Bs){xs:List Tr}{i:Nat}{x:Tr}(h:xs[i]?=some x):((xs.drop i).map g).flatten=g x++((xs.drop (i+1)).map g).flatten:=by
 have IU:=(ah.1 h).1
 rw[aZ IU,(ah.1 h).2]
 simp
theorem Dv (C:LeafC P S)(SC:Ent P S.fVal){sub:SFs}(hV:FK P S sub){W:World}{kind:Nat}{lo hi nul tag df:Int}{of:Nat}{sv:Value}{ver:Int}{fx:Bool}{k B:Nat}{xs:List Tr}{lv:Value}(J9:ge W sub sv)(Sw:fi W 5 (TrRp W k) lv xs)(hB:bB W B 0 (bW kind lo hi nul tag df of sv))
  {total:Bs} (hlim:total.length<=fq) {w:World} (hk:dW W w) {v:Value} {bs:Bs} (hd:bS w W.heap.size S.tU8 v bs) (Ji:bs++(xs.map (gk of false fx (bU ver fx sub))).flatten=total) {a:Act} (h:St 76 a [(1,.int .i64 ver),(2,.bool fx),(4,pt B 0),(10,lv),(11,v)]) {R:Exit->Act->World->Prop}
  (hR:∀ a' w' v',a'.defers=[]->a'.get 8=v'->bS w' W.heap.size S.tU8 v' total->dW W w'->R .ret a' w') :
  cf P (.seq (.seq (rg (B7 S)) (.block 0 (.loop (.seq (rg (B6 S)) (.seq (.cond (tm 32) .skip (.exit 0)) (.seq (.block 1 (.seq (rg (B5 S)) (.region 1 (wF S).toArray true))) (rg (wD S)))))))) (.seq (rg (wB S)) .ret)) R a w:=by
 have T:=C.tab
 obtain⟨bx,cx,NZ,_,Yv,_⟩:=Sw.form
 refine bI (bI (cq (b9 h (.t rfl) aa λa h=>?_)))
 have h':=h
 rw[NZ]at h'
 refine dP h' (.t rfl) T.dTs aa λa h=>b9 h .i aa λa h=>wpList_nil ?_
 rw[<- NZ]at h
 refine fY (λm a' w'=>∃ (i:Nat) (v:Value) (bs:Bs),i+m=xs.length/\bs++((xs.drop i).map (gk of false fx (bU ver fx sub))).flatten=total/\bS w' W.heap.size S.tU8 v bs/\dW W w' /\
   St 76 a' [(1,.int .i64 ver),(2,.bool fx),(4,pt B 0),(10,lv),(11,v),(30,.int .i64 (xs.length:Int)),(31,.int .i64 (i:Int))]) xs.length
  ⟨xs.length,ae _,0,v,bs,by omega,by simpa using Ji,hd,hk,h.pick ⟨rfl,rfl,rfl,rfl,rfl,rfl,rfl,trivial⟩⟩ ?_
 rintro m a w hm ⟨i,v,bs,Ou,Ji,hd,hk,h⟩
 refine bI (cq (cy h rfl (.t rfl) (.t rfl) aa λa h=>wpList_nil ?_))
 refine iU h rfl (λhb=>?_) (λhb=>?_)
 ·have IU:i<xs.length:=by simp[cg]at hb;omega
  obtain⟨x,hx⟩:∃ x,xs[i]?=some x:=⟨_,aq IU⟩
  obtain⟨b,o,c,cs,hv,WN,Js,Rk⟩:=Sw.get hx
  rw[zn _ hx]at Ji
  refine .skip (bI (.block (bI (cq (b9 h (.t rfl) aa λa h=>b5 h (.t rfl) aa λa h=>wpList_nil ?_)))))
  refine uF [false,false,false,false,false,false,false,false,false,false,false,true,true,true] (λw'=>dW W w') (by kernel_rfl) ?_
  show iR P _ [mk (some 34) (.move (tm 11)),mk (some 35) (.fieldAddr S.tF (tm 4) 6),mk (some 36) (.load S.tInt (tm 35)),mk (some 37) (.fieldAddr S.tF (tm 4) 7),mk (some 38) (.load S.tFs (tm 37)),mk (some 39) (.move (tm 1)),mk (some 40) (.move (tm 2)),mk (some 41) (.move (tm 10)),mk (some 42) (.move (tm 12)),mk (some 43) (.indexAddr S.tTs (tm 41) (tm 42)),mk (some 44) (.load S.tT (tm 43))] a
   λaf=>gF P _ _ [cl (some 45) S.fVal [(tm 36),(tm 38),(.const (.bool false)),(tm 39),(tm 40),(tm 44)],bi (some 46) .append [(tm 34),(tm 45)] [S.tSl,S.tSl] S.tSl,mk (some 11) (.assign (tm 46))] af w.drew
  refine eQ h (.t rfl) aa λa h=>lx h (.t rfl) T.f6 aa λa h=>iX h (.t rfl) T.f6.var (λw' hI=>dW.cell hI (hB.at (j:=6) rfl)) aa λa h=>lx h (.t rfl) T.f7 aa λa h=>iX h (.t rfl) T.f7.var (λw' hI=>dW.cell hI (hB.at (j:=7) rfl)) aa λa h=>?_
  refine eQ h (.t rfl) aa λa h=>eQ h (.t rfl) aa λa h=>eQ h (.t rfl) aa λa h=>eQ h (.t rfl) aa λa h=>?_
  have h':=h
  rw[hv]at h'
  refine A0 h' (sz:=5) (.t rfl) (.t rfl) IU T.dTs T.vT.size aa λa h=>iz h (cs:=cs) (.t rfl) (by rw[WN];exact T.vT) (λw' hI=>dW.cells hI Js) aa λa h=>lw ?_
  have Jd:dW W w.drew:=hk.kn (br.drew _ _)
  have Ma:bS w.drew W.heap.size S.tU8 v bs:=hd.keep (br.drew (λ_=>False) _) λ_ _ h=>h
  have IT:bs.length+(gk of false fx (bU ver fx sub) x).length<=fq:=by
   have:=congrArg List.length Ji
   simp only[ad]at this
   omega
  refine eC h Jd SC (vs:=[.int .i64 (of:Int),sv,.bool false,.int .i64 ver,.bool fx,.agg cs.toArray]) (λn a h=>by
   simp only[List.map_cons,List.map_nil]
   rw[Hd.t (l:=_) (i:=36) rfl n a h,Hd.t (l:=_) (i:=38) rfl n a h,Hd.t (l:=_) (i:=39) rfl n a h,Hd.t (l:=_) (i:=40) rfl n a h,Hd.t (l:=_) (i:=44) rfl n a h];rfl) (hV w.drew of false ver fx k cs x sv (J9.far Jd) (Rk.far Jd) aa) aa λe w2 Kr=>?_
  obtain⟨u,rfl,hu,IV⟩:=Kr
  have IZ:=Jd.kn IV
  refine⟨u,rfl,λa h=>vO h IZ T.oct (.t rfl) (.t rfl) (Ma.keep IV λ_ _ h=>h) (iy T.oct hu) IZ.size IT aa λv3 w3 a hg h=>?_⟩
  have Jm:dW W w3:=IZ.up hg.keeps λj hj=>(Ma.own hj).1
  refine iM h Jm (.t rfl) aa λa h=>lq Jm ?_
  refine cq (e7 h (.t rfl) .i ab (eL w3) aa λa h=>?_)
  have hw:IntKind.i64.wrap ((i:Int)+1)=((i+1:Nat):Int):=by simp only[maxLen]at Yv;simp[IntKind.wrap,IntKind.bits,IntKind.signed];omega
  rw[hw]at h
  refine b9 h (.t rfl) aa λa h=>wpList_nil ?_
  refine⟨m-1,by omega,by omega,i+1,v3,bs++gk of false fx (bU ver fx sub) x,by omega,by rw[ao];exact Ji,hg.dst,Jm,?_⟩
  have h:=h.pick (m:=[(1,.int .i64 ver),(2,.bool fx),(4,pt B 0),(10,.slice (some ⟨b,o,none⟩) xs.length c),(11,v3),(30,.int .i64 (xs.length:Int)),(31,.int .i64 ((i+1:Nat):Int))]) ⟨rfl,rfl,rfl,rfl,rfl,rfl,rfl,trivial⟩
  rw[hv]
  exact h
 ·have JN:¬ i<xs.length:=by simp[cg]at hb;omega
  rw[bo aa]at Ji
  simp only[List.map_nil,List.flatten_nil,aL]at Ji
  subst Ji
  refine .exit ?_
  show cf P _ _ a w
  refine bI (cq (b9 h (.t rfl) aa λa h=>b5 h (.t rfl) aa λa h=>wpList_nil (.ret (hR _ _ v h.defers (h.get 8 v rfl) hd hk))))
theorem Cb (C:LeafC P S)(hfn:FnIs P S.fField 76 [8] (csFl S))(Ss:Ent P S.fPart)(SC:Ent P S.fVal){sub:SFs}(hP:r3 P S sub)(hV:FK P S sub):Is P S sub:=by
 intro W kind lo hi nul tag df of sv ver fx k cs t J9 ht hlim
 have T:=C.tab
 have O5:=ht
 cases k with
 | zero=>exact ht.elim
 | succ k=>
 obtain⟨tsv,tlv,tuv,rfl,LT,NZ,OJ⟩:=ht
 refine fb T.mixed hfn ab _ ab λa h=>?_
 unfold csFl
 refine bI (cq (fy h (cs:=bW kind lo hi nul tag df of sv) (.t rfl) aa λa h=>?_))
 have Jd:br (λ_=>False) W (W.alloc (.cells (bW kind lo hi nul tag df of sv).toArray S.tF (0,0))):=br.alloc _ _ _
 have JC:=dA W (bW kind lo hi nul tag df of sv) S.tF
 generalize W.alloc (.cells (bW kind lo hi nul tag df of sv).toArray S.tF (0,0))=w1 at Jd JC ⊢
 refine fy h (cs:=[.int .i64 t.num,tsv,.bool t.null,tlv,tuv]) (.t rfl) aa λa h=>b5 h .c aa λa h=>wpList_nil ?_
 have IV:br (λ_=>False) w1 (w1.alloc (.cells [.int .i64 t.num,tsv,.bool t.null,tlv,tuv].toArray S.tT (0,0))):=br.alloc _ _ _
 have JA:=dA w1 [.int .i64 t.num,tsv,.bool t.null,tlv,tuv] S.tT
 generalize w1.alloc (.cells [.int .i64 t.num,tsv,.bool t.null,tlv,tuv].toArray S.tT (0,0))=w2 at IV JA ⊢
 have JC:=bB.kn IV JC
 have hk:=Jd.trans IV
 refine bI (cq (dK h (cs:=bW kind lo hi nul tag df of sv) (.t rfl) T.vF JC aa λa h=>b9 h (.t rfl) aa λa h=>dK h (cs:=[.int .i64 t.num,tsv,.bool t.null,tlv,tuv]) (.t rfl) T.vT JA aa λa h=>?_))
 have JE:=C.nullC kind lo hi nul tag df of sv ver t.num t.null tsv tlv tuv w2
 have h:St 76 a [(13,.agg (bW kind lo hi nul tag df of sv).toArray),(14,.int .i64 ver),(15,.agg [.int .i64 t.num,tsv,.bool t.null,tlv,tuv].toArray),(1,.int .i64 ver),(2,.bool fx),(4,pt W.heap.size 0),(7,pt w1.heap.size 0),(8,bR)]:=h.pick ⟨rfl,rfl,rfl,rfl,rfl,rfl,rfl,rfl,trivial⟩
 generalize hF:Value.agg (bW kind lo hi nul tag df of sv).toArray=vF at h JE
 generalize hT:Value.agg [.int .i64 t.num,tsv,.bool t.null,tlv,tuv].toArray=vT at h JE
 refine cX h C.nullE (vs:=[vF,.int .i64 ver,vT]) (λn a h=>by
  simp only[List.map_cons,List.map_nil]
  rw[Hd.t (l:=_) (i:=13) rfl n a h,Hd.t (l:=_) (i:=14) rfl n a h,Hd.t (l:=_) (i:=15) rfl n a h]) JE aa λe w3 hR=>?_
 subst hF hT
 obtain⟨rfl,IZ⟩:=hR
 refine⟨_,rfl,λa h=>b5 h (.t rfl) aa λa h=>wpList_nil ?_⟩
 have JC:=bB.kn IZ JC
 have JA:=bB.kn IZ JA
 have hk:=hk.trans IZ
 have hf:dW W w3:=dW.of hk
 have RP:=J9.far hf
 have Q7:=O5.far hf
 have Jc:=hk.size
 have h:St 76 a [(1,.int .i64 ver),(2,.bool fx),(4,pt W.heap.size 0),(7,pt w1.heap.size 0),(8,bR),(9,.bool (t.null&&cF nul ver))]:=h.pick ⟨rfl,rfl,rfl,rfl,rfl,rfl,trivial⟩
 clear Jd IV
 have fin:∀ (a':Act) (w':World) (v:Value) (bs:Bs),a'.defers=[]->a'.get 8=v->bS w' w3.heap.size S.tU8 v bs->dW w3 w'->bs=fQ kind nul of ver fx (bU ver fx sub) t->(a'.defers=[]/\de S.tU8 (fQ kind nul of ver fx (bU ver fx sub) t) W (.returned (cE [8] a')) w'):=λa' w' v bs h1 h2 h3 h4 h5=>by
  subst h5
  refine⟨h1,v,by rw[fc,h2],(Gr.lower Jc (Gr.refl h3)).dst,?_⟩
  exact(hf.keeps).trans h4.keeps
 refine bI (bI (cq (cH h (.t rfl) T.f0 aa λa h=>ce h (.t rfl) T.f0.var (JC.at (j:=0) rfl) aa λa h=>cy h rfl (.t rfl) .i aa λa h=>wpList_nil ?_)))
 refine cA h rfl (λhb=>?_) (λhb=>?_)
 ·-- a list
  have Km:kind=11:=by simp[cg]at hb;omega
  refine bI (cq (cH h (.t rfl) T.t3 aa λa h=>ce h (.t rfl) T.t3.var (JA.at (j:=3) rfl) aa λa h=>?_))
  have WJ:fi w3 5 (TrRp w3 k) tlv t.list:=by
   obtain⟨_,_,_,e,_,h3,_⟩:=Q7
   simp only[List.cons.injEq,true_and,and_true]at e
   rw[e.2.1];exact h3
  refine cX h C.thE (vs:=[tlv]) (λn a h=>by simp only[List.map_cons,List.map_nil];rw[Hd.t (l:=_) (i:=21) rfl n a h]) (C.thC w3 k tlv t.list WJ) aa λe w4 hR=>?_
  obtain⟨lv,rfl,NZ,rfl⟩:=hR
  refine⟨lv,rfl,λa h=>b5 h (.t rfl) aa λa h=>wpList_nil ?_⟩
  have rest:∀ (a:Act) (x:Value),St 76 a [(1,.int .i64 ver),(2,.bool fx),(4,pt W.heap.size 0),(9,.bool (t.null&&cF nul ver)),(10,x)]->fi w4 5 (TrRp w4 k) x (eR (t.null&&cF nul ver) t) ->
    cf P (.seq (rg (Ei S)) (.seq (.seq (rg (B7 S)) (.block 0 (.loop (.seq (rg (B6 S)) (.seq (.cond (tm 32) .skip (.exit 0)) (.seq (.block 1 (.seq (rg (B5 S)) (.region 1 (wF S).toArray true))) (rg (wD S)))))))) (.seq (rg (wB S)) .ret))) (Exit.then (cf P (.seq (.seq (rg (BB S)) (.cond (tm 56) (.seq (.seq (rg (BA S)) (.cond (tm 57) (.seq (rg (B9 S)) .ret) .skip)) (.seq (.region 1 (B8 S).toArray true) .ret)) .skip)) (.seq (rg (wz S)) .ret)) (Rt (λa' w'=>a'.defers=[]/\de S.tU8 (fQ kind nul of ver fx (bU ver fx sub) t) W (.returned (cE [8] a')) w') (λa' w'=>a'.defers=[]/\de S.tU8 (fQ kind nul of ver fx (bU ver fx sub) t) W (.returned (cE [8] a')) w'))) (Rt (λa' w'=>a'.defers=[]/\de S.tU8 (fQ kind nul of ver fx (bU ver fx sub) t) W (.returned (cE [8] a')) w') (λa' w'=>a'.defers=[]/\de S.tU8 (fQ kind nul of ver fx (bU ver fx sub) t) W (.returned (cE [8] a')) w'))) a w4:=by
   intro a x h hx
   obtain⟨bx,cx,Me,_,Yv,_⟩:=hx.form
   have Lq:(eR (t.null&&cF nul ver) t).length<=bX:=by
    simp only[eR]
    split
    ·simp
    ·rw[aG];exact Nat.min_le_left ..
   refine bI (cq (b9 h (.t rfl) aa λa h=>b9 h (.t rfl) aa λa h=>b9 h (.t rfl) aa λa h=>?_))
   have h':=h
   rw[Me]at h'
   refine dP h' (.t rfl) T.dTs aa λa h=>?_
   rw[<- Me]at h
   refine cX h C.cntE (vs:=[.bool fx,.bool (t.null&&cF nul ver),.int .i64 ((eR (t.null&&cF nul ver) t).length:Int),.int .i64 ((4:Nat):Int)]) (λn a h=>by
    simp only[List.map_cons,List.map_nil]
    rw[Hd.t (l:=_) (i:=24) rfl n a h,Hd.t (l:=_) (i:=25) rfl n a h,Hd.t (l:=_) (i:=27) rfl n a h];rfl) (C.cntC fx _ _ 4 w4 Lq aa) aa λe w5 Kr=>?_
   obtain⟨v,rfl,hd,JZ⟩:=Kr
   refine⟨v,rfl,λa h=>b5 h (.t rfl) aa λa h=>wpList_nil ?_⟩
   have e:fQ kind nul of ver fx (bU ver fx sub) t=js fx (t.null&&cF nul ver) (eR (t.null&&cF nul ver) t).length 4++((eR (t.null&&cF nul ver) t).map (gk of false fx (bU ver fx sub))).flatten:=by
    simp only[fQ,Km,aw]
   refine Dv C SC hV RP hx JC hlim (dW.of JZ) hd e.symm (h.pick ⟨rfl,rfl,rfl,rfl,rfl,trivial⟩) λa' w' v' h1 h2 h3 h4=>?_
   exact fin a' w' v' _ h1 h2 h3 h4 rfl
  refine bI (bI (cq (b9 h (.t rfl) aa λa h=>wpList_nil ?_)))
  refine cA h rfl (λhb=>?_) (λhb=>?_)
  ·refine cq (b5 h .c aa λa h=>wpList_nil ?_)
   exact rest a bR (h.pick ⟨rfl,rfl,rfl,rfl,rfl,trivial⟩) (.inl ⟨none,rfl,by simp[eR,hb]⟩)
  ·refine .skip (rest a lv (h.pick ⟨rfl,rfl,rfl,rfl,rfl,trivial⟩) ?_)
   simp only[eR,hb,ag,ak]
   exact NZ
 have TH:kind≠11:=by simp[cg]at hb;omega
 refine .skip (bI (bI (cq (cH h (.t rfl) T.f0 aa λa h=>ce h (.t rfl) T.f0.var (JC.at (j:=0) rfl) aa λa h=>cy h rfl (.t rfl) .i aa λa h=>b9 h (.t rfl) aa λa h=>?_))))
 have last:∀ (a:Act),St 76 a [(1,.int .i64 ver),(2,.bool fx),(4,pt W.heap.size 0),(7,pt w1.heap.size 0),(9,.bool (t.null&&cF nul ver))]->¬ (kind=10/\0<=nul)->cf P (.seq (rg (wz S)) .ret) (Rt (λa' w'=>a'.defers=[]/\de S.tU8 (fQ kind nul of ver fx (bU ver fx sub) t) W (.returned (cE [8] a')) w') (λa' w'=>a'.defers=[]/\de S.tU8 (fQ kind nul of ver fx (bU ver fx sub) t) W (.returned (cE [8] a')) w')) a w3:=by
  intro a h hn10
  have e:fQ kind nul of ver fx (bU ver fx sub) t=gk kind (t.null&&cF nul ver) fx (bU ver fx sub) t:=by
   simp only[fQ,al TH,al hn10]
  refine bI (cq (cH h (.t rfl) T.f0 aa λa h=>ce h (.t rfl) T.f0.var (JC.at (j:=0) rfl) aa λa h=>cH h (.t rfl) T.f7 aa λa h=>ce h (.t rfl) T.f7.var (JC.at (j:=7) rfl) aa λa h=>?_))
  refine b9 h (.t rfl) aa λa h=>b9 h (.t rfl) aa λa h=>b9 h (.t rfl) aa λa h=>dK h (cs:=[.int .i64 t.num,tsv,.bool t.null,tlv,tuv]) (.t rfl) T.vT JA aa λa h=>?_
  refine cX h SC (vs:=[.int .i64 (kind:Int),sv,.bool (t.null&&cF nul ver),.int .i64 ver,.bool fx,.agg [.int .i64 t.num,tsv,.bool t.null,tlv,tuv].toArray]) (λn a h=>by
   simp only[List.map_cons,List.map_nil]
   rw[Hd.t (l:=_) (i:=68) rfl n a h,Hd.t (l:=_) (i:=70) rfl n a h,Hd.t (l:=_) (i:=71) rfl n a h,Hd.t (l:=_) (i:=72) rfl n a h,Hd.t (l:=_) (i:=73) rfl n a h,Hd.t (l:=_) (i:=74) rfl n a h]) (hV w3 kind _ ver fx (k+1) _ t sv RP Q7 (by rw[<- e];exact hlim)) aa λe' w4 hR=>?_
  obtain⟨v,rfl,hd,Jm⟩:=hR
  refine⟨v,rfl,λa h=>b5 h (.t rfl) aa λa h=>wpList_nil (.ret ?_)⟩
  exact fin a w4 v _ h.defers (h.get 8 v rfl) hd (dW.of Jm) e.symm
 cases Qx:cg .eql (kind:Int) 10 with
 | false=>
  rw[Qx]at h
  have KX:kind≠10:=by simp[cg]at Qx;omega
  refine cm h rfl rfl rfl aa ab aa λa h=>cm h rfl rfl rfl aa ab aa λa h=>cm h rfl rfl rfl aa ab aa λa h=>?_
  refine dZ h (.t rfl) (.t rfl) .c aa λa h=>wpList_nil ?_
  refine cA h rfl (λhb=>by cases hb) (λ_=>?_)
  exact .skip (last a (h.pick ⟨rfl,rfl,rfl,rfl,rfl,trivial⟩) λhh=>KX hh.1)
 | true=>
  rw[Qx]at h
  have KX:kind=10:=by simp[cg]at Qx;omega
  refine ls h rfl rfl rfl aa (.t rfl) T.f3 aa λa h=>iW h rfl rfl rfl aa (.t rfl) T.f3.var (JC.at (j:=3) rfl) aa λa h=>my h rfl rfl rfl aa rfl (.t rfl) .i aa λa h=>?_
  refine dZ h (.t rfl) (.t rfl) .c aa λa h=>wpList_nil ?_
  refine cA h rfl (λhb=>?_) (λhb=>?_)
  ·have Mt:0<=nul:=by simpa[cg]using hb
   have e:fQ kind nul of ver fx (bU ver fx sub) t=if(t.null&&cF nul ver)=true then[255]else 1::bU ver fx sub t:=by
    simp only[fQ,al TH,ax (show kind=10/\0<=nul from⟨KX,Mt⟩)]
   refine bI (bI (cq (b9 h (.t rfl) aa λa h=>wpList_nil ?_)))
   refine cA h rfl (λS3=>?_) (λS3=>?_)
   ·rw[ax S3]at e
    refine bI (cq (cX h C.fixE (vs:=[.int .i64 (-1),.int .i64 ((1:Nat):Int)]) (λn a h=>rfl) (C.fixC (-1) 1 w3 aa) aa λe' w4 hR=>?_))
    obtain⟨v,rfl,hd,Jm⟩:=hR
    refine⟨v,rfl,λa h=>b5 h (.t rfl) aa λa h=>wpList_nil (.ret ?_)⟩
    exact fin a w4 v _ h.defers (h.get 8 v rfl) hd (dW.of Jm) (by rw[e];decide)
   ·rw[al (by rw[S3];simp)]at e
    rw[e]at hlim
    refine .skip (bI (uF [true,false,false,false,false,false,true,true,true] (λw'=>dW w3 w') (by kernel_rfl) ?_))
    show iR P _ [mk (some 60) (.fieldAddr S.tF (tm 4) 7),mk (some 61) (.load S.tFs (tm 60)),mk (some 62) (.move (tm 1)),mk (some 63) (.move (tm 2)),mk (some 64) (.load S.tT (tm 7))] a
     λaf=>gF P _ _ [cl (some 59) S.fFix [(ki .i64 1),(ki .i64 1)],cl (some 65) S.fPart [(tm 61),(tm 62),(tm 63),(tm 64)],bi (some 66) .append [(tm 59),(tm 65)] [S.tSl,S.tSl] S.tSl,mk (some 8) (.assign (tm 66))] af w3.drew
    refine lx h (.t rfl) T.f7 aa λa h=>iX h (.t rfl) T.f7.var (λw' hI=>dW.cell hI (JC.at (j:=7) rfl)) aa λa h=>eQ h (.t rfl) aa λa h=>eQ h (.t rfl) aa λa h=>iz h (cs:=[.int .i64 t.num,tsv,.bool t.null,tlv,tuv]) (.t rfl) T.vT (λw' hI=>dW.cells hI JA) aa λa h=>lw ?_
    have LH:dW w3 w3.drew:=dW.of (br.drew _ _)
    refine eC h LH C.fixE (vs:=[.int .i64 1,.int .i64 ((1:Nat):Int)]) (λn a h=>rfl) (C.fixC 1 1 w3.drew aa) aa λe' w4 hR=>?_
    obtain⟨u,rfl,hu,Jm⟩:=hR
    have KL:=LH.kn Jm
    simp only[List.length_cons]at hlim
    refine⟨u,rfl,λa h=>eC h KL Ss (vs:=[sv,.int .i64 ver,.bool fx,.agg [.int .i64 t.num,tsv,.bool t.null,tlv,tuv].toArray]) (λn a h=>by
     simp only[List.map_cons,List.map_nil]
     rw[Hd.t (l:=_) (i:=61) rfl n a h,Hd.t (l:=_) (i:=62) rfl n a h,Hd.t (l:=_) (i:=63) rfl n a h,Hd.t (l:=_) (i:=64) rfl n a h]) (hP w4 ver fx (k+1) _ t sv (RP.far KL) (Q7.far KL) aa) aa λe' w5 hR=>?_⟩
    obtain⟨v,rfl,hv,JZ⟩:=hR
    have Kw:=KL.kn JZ
    have Y1:bS w5 w3.heap.size S.tU8 u (be 1 1):=(Gr.lower (L':=w3.heap.size) LH.size (Gr.refl (hu.keep JZ λ_ _ h=>h))).dst
    refine⟨v,rfl,λa h=>vO h Kw T.oct (.t rfl) (.t rfl) Y1 (iy T.oct hv) Kw.size (by rw[dx];omega) aa λv6 w6 a hg h=>?_⟩
    have L2:dW w3 w6:=Kw.up hg.keeps λj hj=>(Y1.own hj).1
    refine iM h L2 (.t rfl) aa λa h=>lq L2 (.ret ?_)
    exact fin a w6 v6 _ h.defers (h.get 8 v6 rfl) hg.dst L2 (by rw[e,show be 1 1=[1] from by decide];rfl)
  ·have Mt:¬ 0<=nul:=by simpa[cg]using hb
   exact .skip (last a (h.pick ⟨rfl,rfl,rfl,rfl,rfl,trivial⟩) λhh=>Mt hh.2)
end
end
section
open Go
set_option maxRecDepth 4000
section
variable {P:Program} {S:SN}
section
variable {ops:Array Oper} {Q:Exit->Act->World->Prop} {r:List Oper} {n:Nat} {a:Act} {w:World} {l:List (Nat × Value)}
theorem CU (h:St n a l){d j jd f:Nat}{b:Bool}{o:Oper}{args:List Operand}{vs:List Value}{R:Ending->World->Prop}(ho:ops[j]?=some o)(Lb:o.dst=some jd)(hj:l.lookup jd=some (.bool b))(Lv:jd<n)(hf:Ent P f)(J4:∀ (n:Nat) (a:Act),St n a l->args.map a.eval=vs)(hc:Calls P f vs.toArray w R)(hd:d<n)
  (c:∀ e w',R e w'->∃ v,e=.returned v/\∀ a',St n a' ((d,v)::l)->wpList P ops Q r a' w'):wpList P ops Q (gd d (.call ⟨.value (.func f),args.toArray,#[]⟩) j b::r) a w:=by
 refine rA (dz ho Lb (by rw[h.size];exact Lv) (h.get _ _ hj)) ?_
 unfold Oper.wp
 have : (execOp a.eval (⟨some d, .call ⟨.value (.func f), args.toArray, #[]⟩, 0, "", #[], some (j, b)⟩ : Oper)).run P w = .ok (.enter f vs.toArray) w := by
  have he:a.eval (.func f)=.func (.func f) #[] #[]:=rfl
  have Qy:(args.map a.eval).toArray=vs.toArray:=by rw[J4 n a h]
  simp only[execOp,resolve,he,Deferred.ofValue,invoke,Sem.run_bind,Sem.run_pure,Result.andThen_ok,Array.empty_append,Array.append_empty,List.map_toArray,Qy]
  exact hf _ _
 rw[this]
 exact hc.mono λe w' hR=>by
  obtain⟨v,rfl,hk⟩:=c e w' hR
  exact hk _ (h.put _ hd)
end
def qv (P:Program)(S:SN):SFs->Prop
 | .nil=>True
 | .cons _ _ _ _ _ _ _ sub r=>Is P S sub/\qv P S r
theorem oU {w:World}{T:Nat}{z:Value}{cs:List Value}(hz:z.cells.size=cs.length):br (λ_=>False) w ((w.alloc (.cells z.cells T (0,0))).setRow w.heap.size cs.toArray)/\bB ((w.alloc (.cells z.cells T (0,0))).setRow w.heap.size cs.toArray) w.heap.size 0 cs:=BD hz
theorem AO (C:LeafC P S)(QU:Ent P S.fField){W:World}{sf:SFs}{fv:Value}{ver:Int}{fx:Bool}{k B:Nat}{cs:List Value}{t:Tr}(J9:ge W sf fv)(ht:TrRp W k cs t)(hB:bB W B 0 cs)(JY:qv P S sf)(hlim:(ea ver fx sf 0 t).length<=fq){a:Act}
  (h:St 132 a [(0,fv),(1,.int .i64 ver),(2,.bool fx),(7,pt B 0),(9,bR),(10,bR),(11,.int .i64 0)]) {R:Exit->Act->World->Prop}
  (hR:∀ (a':Act) (w':World) (v:Value),St 132 a' [(0,fv),(1,.int .i64 ver),(2,.bool fx),(7,pt B 0),(9,v),(10,bR),(11,.int .i64 0)]->bS w' W.heap.size S.tU8 v (ea ver fx sf 0 t)->dW W w'->R .normal a' w') :
  cf P (.seq (rg (Ef S)) (.block 0 (.loop (.seq (rg (Ee S)) (.seq (.cond (tm 24) .skip (.exit 0)) (.seq (.block 1 (.seq (rg (Ed S)) (.seq (rg (Ec S)) (.cond (tm 35) (.region 1 (Bp S).toArray true) .skip)))) (rg (Bo S)))))))) R a W:=by
 have T:=C.tab
 have Lt:=ht.len
 obtain⟨base,c,NL,IT,Po⟩:=J9.form
 refine bI (cq (b9 h (.t rfl) aa λa h=>?_))
 have h':=h
 rw[NL]at h'
 refine dP h' (.t rfl) T.dFs aa λa h=>b9 h .i aa λa h=>wpList_nil ?_
 rw[<- NL]at h
 refine fY (λm a' w'=>∃ (i:Nat) (rest:SFs) (v:Value) (bs:Bs),i+m=sf.len/\rest.len=m/\qv P S rest/\bs++ea ver fx rest i t=ea ver fx sf 0 t/\bS w' W.heap.size S.tU8 v bs/\dW W w'/\(∀ b o,base=some ⟨b,o,none⟩->jn W sf b o->jn W rest b (o+i*8)) /\
   St 132 a' [(0,fv),(1,.int .i64 ver),(2,.bool fx),(7,pt B 0),(9,v),(10,bR),(11,.int .i64 0),(21,fv),(22,.int .i64 (sf.len:Int)),(23,.int .i64 (i:Int))]) sf.len
  ⟨sf.len,ae _,0,sf,bR,[],by omega,rfl,JY,rfl,bS.nil _ _ _,dW.refl W,λb o _ hh=>by simpa using hh,h.pick ⟨rfl,rfl,rfl,rfl,rfl,rfl,rfl,rfl,rfl,rfl,trivial⟩⟩ ?_
 rintro m a w hm ⟨i,rest,v,bs,Ou,M4,KG,Ji,hd,hk,JD,h⟩
 refine bI (cq (cy h rfl (.t rfl) (.t rfl) aa λa h=>wpList_nil ?_))
 refine iU h rfl (λhb=>?_) (λhb=>?_)
 ·have IU:i<sf.len:=by simp[cg]at hb;omega
  refine .skip ?_
  cases hr:rest with
  | nil=>rw[hr]at M4;simp[SFs.len]at M4;omega
  | cons kind lo hi nul tag df of sub r=>
   subst hr
   obtain⟨b,o,JG,RU⟩:=Po.resolve_left (λhh=>by rw[hh]at IU;simp[SFs.len]at IU)
   obtain⟨⟨sv,hc,LE⟩,M6⟩:=JD b o JG RU
   have hc:bB W b (o+i*8) (bW kind lo hi nul tag df of sv):=hc
   have MA:ge W sub sv:=LE
   have RI:(i:Int)+1<=9223372036854775807:=by simp only[maxLen]at IT;omega
   refine bI (.block (bI (cq (b9 h (.t rfl) aa λa h=>?_))))
   have h':=h
   rw[NL,JG]at h'
   refine fw h' (sz:=8) (.t rfl) (.t rfl) IU T.dFs T.vF.size aa λa h=>dK h (cs:=bW kind lo hi nul tag df of sv) (.t rfl) T.vF (hk.cells hc) aa λa h=>?_
   rw[<- JG,<- NL]at h
   refine gP h (T.zF w) aa λa h=>b5 h (.t rfl) aa λa h=>?_
   have Pd:=oU (w:=w) (T:=S.tF) (z:=.agg #[.int .i64 0,.int .i64 0,.int .i64 0,.int .i64 0,.int .i64 0,.int .i64 0,.int .i64 0,bR]) (cs:=bW kind lo hi nul tag df of sv) rfl
   refine ix h (cs:=bW kind lo hi nul tag df of sv) (.t rfl) (.t rfl) (by simp[Value.cells]) T.vF.size (bO w _) rfl (kN kind lo hi nul tag df of (oQ LE)) (wpList_nil ?_)
   obtain⟨IV,JA⟩:=Pd
   generalize(w.alloc (.cells (Value.agg #[.int .i64 0,.int .i64 0,.int .i64 0,.int .i64 0,.int .i64 0,.int .i64 0,.int .i64 0,bR]).cells S.tF (0,0))).setRow w.heap.size (bW kind lo hi nul tag df of sv).toArray=w2 at IV JA ⊢
   have hg:W.heap.size<=w.heap.size:=hk.size
   have JW:bS w2 W.heap.size S.tU8 v bs:=hd.keep IV λ_ _ h=>h
   have NM:=hk.kn IV
   have M0:∀ j,v.ownBlock=some j->j<w.heap.size:=λj hj=>(hd.own hj).2
   have h:St 132 a [(0,fv),(1,.int .i64 ver),(2,.bool fx),(7,pt B 0),(9,v),(10,bR),(11,.int .i64 0),(12,.int .i64 (i:Int)),(13,pt w.heap.size 0),(21,fv),(22,.int .i64 (sf.len:Int)),(23,.int .i64 (i:Int))]:=h.pick ⟨rfl,rfl,rfl,rfl,rfl,rfl,rfl,rfl,rfl,rfl,rfl,rfl,trivial⟩
   clear hd hk h'
   have step:∀ (a:Act) (w3:World) (v3:Value) (bs3:Bs) (KK:Exit->Act->World->Prop),St 132 a [(0,fv),(1,.int .i64 ver),(2,.bool fx),(7,pt B 0),(9,v3),(10,bR),(11,.int .i64 0),(21,fv),(22,.int .i64 (sf.len:Int)),(23,.int .i64 (i:Int))]->bS w3 W.heap.size S.tU8 v3 bs3->dW W w3->bs3++ea ver fx r (i+1) t=ea ver fx sf 0 t ->
     cf P (rg (Bo S)) (Exit.then (λa' w'=>∃ m',m'<=sf.len/\m'<m/\∃ (i:Nat) (rest:SFs) (v:Value) (bs:Bs),i+m'=sf.len/\rest.len=m'/\qv P S rest/\bs++ea ver fx rest i t=ea ver fx sf 0 t/\bS w' W.heap.size S.tU8 v bs/\dW W w'/\(∀ b o,base=some ⟨b,o,none⟩->jn W sf b o->jn W rest b (o+i*8)) /\
      St 132 a' [(0,fv),(1,.int .i64 ver),(2,.bool fx),(7,pt B 0),(9,v),(10,bR),(11,.int .i64 0),(21,fv),(22,.int .i64 (sf.len:Int)),(23,.int .i64 (i:Int))]) KK) a w3:=by
    intro a w3 v3 bs3 KK h Kp IZ OO
    refine cq (e7 h (.t rfl) .i ab (eL w3) aa λa h=>?_)
    have hw:IntKind.i64.wrap ((i:Int)+1)=((i+1:Nat):Int):=by simp[IntKind.wrap,IntKind.bits,IntKind.signed];omega
    rw[hw]at h
    refine b9 h (.t rfl) aa λa h=>wpList_nil ?_
    refine⟨m-1,by omega,by omega,i+1,r,v3,bs3,by omega,by simp only[SFs.len]at M4;omega,KG.2,OO,Kp,IZ,λb' o' hbo hh=>?_,h.pick ⟨rfl,rfl,rfl,rfl,rfl,rfl,rfl,rfl,rfl,rfl,trivial⟩⟩
    have:=(JD b' o' hbo hh).2
    rw[show o'+(i+1)*8=o'+i*8+8 by omega]
    exact this
   refine bI (cq (cH h (.t rfl) T.f4 aa λa h=>ce h (.t rfl) T.f4.var (JA.at (j:=4) rfl) aa λa h=>cy h rfl (.t rfl) .i aa λa h=>b9 h (.t rfl) aa λa h=>?_))
   have NA:ea ver fx (.cons kind lo hi nul tag df of sub r) i t=(if tag<0/\mb lo hi ver=true then fQ kind nul of ver fx (bU ver fx sub) (t.at i) else[])++ea ver fx r (i+1) t:=by
    simp only[ea];rfl
   rw[NA]at Ji
   have go:∀ (a:Act) (w3:World) (bb:Bool) (KK:Exit->Act->World->Prop),St 132 a [(0,fv),(1,.int .i64 ver),(2,.bool fx),(7,pt B 0),(9,v),(10,bR),(11,.int .i64 0),(12,.int .i64 (i:Int)),(13,pt w.heap.size 0),(21,fv),(22,.int .i64 (sf.len:Int)),(23,.int .i64 (i:Int)),(35,.bool bb)]->br (λ_=>False) w2 w3->bb=decide (tag<0/\mb lo hi ver=true) ->
     (∀ a' w',(∃ v3 bs3,St 132 a' [(0,fv),(1,.int .i64 ver),(2,.bool fx),(7,pt B 0),(9,v3),(10,bR),(11,.int .i64 0),(21,fv),(22,.int .i64 (sf.len:Int)),(23,.int .i64 (i:Int))]/\bS w' W.heap.size S.tU8 v3 bs3/\dW W w'/\bs3++ea ver fx r (i+1) t=ea ver fx sf 0 t)->KK .normal a' w') ->
     cf P (.cond (tm 35) (.region 1 (Bp S).toArray true) .skip) KK a w3:=by
    intro a w3 bb KK h IZ KN N9
    have Kp:=JW.keep IZ λ_ _ h=>h
    have Nf:=NM.kn IZ
    have MV:=bB.kn IZ JA
    have JI:w.heap.size<=w3.heap.size:=am IV.size IZ.size
    refine cA h rfl (λhT=>?_) (λhF=>?_)
    ·rw[hT]at KN
     have J5:tag<0/\mb lo hi ver=true:=of_decide_eq_true KN.symm
     rw[ax J5]at Ji
     have Nu:bs.length+(fQ kind nul of ver fx (bU ver fx sub) (t.at i)).length<=fq:=by
      have:=congrArg List.length Ji
      simp only[ad]at this
      omega
     refine uF [false,false,false,false,false,false,true,true,true,true] (λw'=>dW W w'/\bB w' w.heap.size 0 (bW kind lo hi nul tag df of sv)) (by kernel_rfl) ?_
     show iR P _ [mk (some 36) (.move (tm 9)),mk (some 37) (.load S.tF (tm 13)),mk (some 38) (.move (tm 1)),mk (some 39) (.move (tm 2)),mk (some 40) (.load S.tT (tm 7)),mk (some 41) (.move (tm 12))] a
      λaf=>gF P _ _ [cl (some 42) S.fAt [(tm 40),(tm 41)],cl (some 43) S.fField [(tm 37),(tm 38),(tm 39),(tm 42)],bi (some 44) .append [(tm 36),(tm 43)] [S.tSl,S.tSl] S.tSl,mk (some 9) (.assign (tm 44))] af w3.drew
     refine eQ h (.t rfl) aa λa h=>iz h (cs:=bW kind lo hi nul tag df of sv) (.t rfl) T.vF (λw' hI=>hI.2) aa λa h=>eQ h (.t rfl) aa λa h=>eQ h (.t rfl) aa λa h=>iz h (cs:=cs) (.t rfl) (by rw[Lt];exact T.vT) (λw' hI=>dW.cells hI.1 hB) aa λa h=>eQ h (.t rfl) aa λa h=>lw ?_
     have LH:dW W w3.drew/\bB w3.drew w.heap.size 0 (bW kind lo hi nul tag df of sv):=⟨Nf.kn (br.drew _ _),bB.kn (br.drew _ _) MV⟩
     have KF:bS w3.drew W.heap.size S.tU8 v bs:=Kp.keep (br.drew (λ_=>False) _) λ_ _ h=>h
     have Nw:=h.pick (m:=[(0,fv),(1,.int .i64 ver),(2,.bool fx),(7,pt B 0),(10,bR),(11,.int .i64 0),(21,fv),(22,.int .i64 (sf.len:Int)),(23,.int .i64 (i:Int)),(36,v),(37,.agg (bW kind lo hi nul tag df of sv).toArray),(38,.int .i64 ver),(39,.bool fx),(40,.agg cs.toArray),(41,.int .i64 (i:Int))]) ⟨rfl,rfl,rfl,rfl,rfl,rfl,rfl,rfl,rfl,rfl,rfl,rfl,rfl,rfl,rfl,trivial⟩
     generalize hFv:Value.agg (bW kind lo hi nul tag df of sv).toArray=vF at Nw
     refine eC Nw LH C.atE (vs:=[.agg cs.toArray,.int .i64 (i:Int)]) (λn a h=>by
      simp only[List.map_cons,List.map_nil]
      rw[Hd.t (l:=_) (i:=40) rfl n a h,Hd.t (l:=_) (i:=41) rfl n a h]) (C.atC k i cs t w3.drew (ht.far LH.1)) aa λe w4 hR4=>?_
     obtain⟨cs4,rfl,PY,Jm⟩:=hR4
     have KL:dW W w4/\bB w4 w.heap.size 0 (bW kind lo hi nul tag df of sv):=⟨LH.1.kn Jm,bB.kn Jm LH.2⟩
     have Kf:=KG.1 w4 kind lo hi nul tag df of sv ver fx k cs4 (t.at i) (MA.far KL.1) (PY.far (dW.of Jm)) aa
     rw[hFv]at Kf
     refine⟨_,rfl,λa h=>eC h KL QU (vs:=[vF,.int .i64 ver,.bool fx,.agg cs4.toArray]) (λn a h=>by
      simp only[List.map_cons,List.map_nil]
      rw[Hd.t (l:=_) (i:=37) rfl n a h,Hd.t (l:=_) (i:=38) rfl n a h,Hd.t (l:=_) (i:=39) rfl n a h,Hd.t (l:=_) (i:=42) rfl n a h]) Kf aa λe w5 hR5=>?_⟩
     obtain⟨u,rfl,hu,JZ⟩:=hR5
     have Kw:dW W w5/\bB w5 w.heap.size 0 (bW kind lo hi nul tag df of sv):=⟨KL.1.kn JZ,bB.kn JZ KL.2⟩
     have N7:bS w5 W.heap.size S.tU8 v bs:=(KF.keep Jm λ_ _ h=>h).keep JZ λ_ _ h=>h
     refine⟨u,rfl,λa h=>vO h Kw T.oct (.t rfl) (.t rfl) N7 (iy T.oct hu) Kw.1.size Nu aa λv6 w6 a PC h=>?_⟩
     have L2:dW W w6/\bB w6 w.heap.size 0 (bW kind lo hi nul tag df of sv):=⟨Kw.1.up PC.keeps λj hj=>(N7.own hj).1,λj x hj=>PC.keeps.cell (λhX=>by have:=M0 _ hX;omega) (Kw.2 j x hj)⟩
     refine iM h L2 (.t rfl) aa λa h=>lq L2 (N9 _ _ ⟨v6,_,h.pick ⟨rfl,rfl,rfl,rfl,rfl,rfl,rfl,rfl,rfl,rfl,trivial⟩,PC.dst,L2.1,?_⟩)
     rw[ao];exact Ji
    ·rw[hF]at KN
     have Ki:¬ (tag<0/\mb lo hi ver=true):=of_decide_eq_false KN.symm
     rw[al Ki,aF]at Ji
     exact .skip (N9 _ _ ⟨v,bs,h.pick ⟨rfl,rfl,rfl,rfl,rfl,rfl,rfl,rfl,rfl,rfl,trivial⟩,Kp,Nf,Ji⟩)
   cases PJ:cg .lss tag 0 with
   | false=>
    rw[PJ]at h
    refine cm h rfl rfl rfl aa ab aa λa h=>cm h rfl rfl rfl aa ab aa λa h=>cm h rfl rfl rfl aa ab aa λa h=>?_
    refine dZ h (.t rfl) (.t rfl) .c aa λa h=>wpList_nil ?_
    have Jg:¬ tag<0:=by simpa[cg]using PJ
    refine go a w2 false _ (h.pick ⟨rfl,rfl,rfl,rfl,rfl,rfl,rfl,rfl,rfl,rfl,rfl,rfl,rfl,trivial⟩) (br.refl _ _) (by simp[Jg]) λa' w' hh=>?_
    obtain⟨v3,bs3,h3,h4,h5,h6⟩:=hh
    exact step a' w' v3 bs3 _ h3 h4 h5 h6
   | true=>
    rw[PJ]at h
    have Jg:tag<0:=by simpa[cg]using PJ
    refine ox h (op:=.load S.tF (tm 13)) (v:=.agg (bW kind lo hi nul tag df of sv).toArray) rfl rfl rfl aa ?_ aa λa h=>jJ h rfl rfl rfl aa (.t rfl) aa λa h=>?_
    ·have hl:=run_loadCells_list (P:=P) w2 ⟨w.heap.size,0,none⟩ (bW kind lo hi nul tag df of sv) (λj v hj=>by rw[Addr.add_lit];exact JA j v hj)
     have e:=Hd.t (l:=_) (i:=13) rfl _ a h
     simp only[pt]at e
     have TC:(bW kind lo hi nul tag df of sv).length=8:=rfl
     rw[TC]at hl
     simp[execOp,mk,e,Instr.loadAt,Instr.sureAddr,loadVar,T.vF.agg w2,T.vF.size w2,hl]
    have JF:=C.hasC kind lo hi nul tag df of sv ver w2
    have h:=h.pick (m:=[(0,fv),(1,.int .i64 ver),(2,.bool fx),(7,pt B 0),(9,v),(10,bR),(11,.int .i64 0),(12,.int .i64 (i:Int)),(13,pt w.heap.size 0),(21,fv),(22,.int .i64 (sf.len:Int)),(23,.int .i64 (i:Int)),(31,.bool true),(32,.agg (bW kind lo hi nul tag df of sv).toArray),(33,.int .i64 ver)]) ⟨rfl,rfl,rfl,rfl,rfl,rfl,rfl,rfl,rfl,rfl,rfl,rfl,rfl,rfl,rfl,trivial⟩
    generalize hFv:Value.agg (bW kind lo hi nul tag df of sv).toArray=vF at h JF
    refine CU h rfl rfl rfl aa C.hasE (args:=[(tm 32),(tm 33)]) (vs:=[vF,.int .i64 ver]) (λn a h=>by
     simp only[List.map_cons,List.map_nil]
     rw[Hd.t (l:=_) (i:=32) rfl n a h,Hd.t (l:=_) (i:=33) rfl n a h]) JF aa λe w3 hR3=>?_
    obtain⟨rfl,IZ⟩:=hR3
    refine⟨_,rfl,λa h=>dZ h (.t rfl) (.t rfl) .c aa λa h=>wpList_nil ?_⟩
    refine go a w3 (mb lo hi ver) _ (h.pick ⟨rfl,rfl,rfl,rfl,rfl,rfl,rfl,rfl,rfl,rfl,rfl,rfl,rfl,trivial⟩) IZ (by simp[Jg]) λa' w' hh=>?_
    obtain⟨v3,bs3,h3,h4,h5,h6⟩:=hh
    exact step a' w' v3 bs3 _ h3 h4 h5 h6
 ·have JN:¬ i<sf.len:=by simp[cg]at hb;omega
  have M1:rest=.nil:=by
   cases rest with
   | nil=>rfl
   | cons=>simp only[SFs.len]at M4;omega
  subst M1
  simp only[ea,aL]at Ji
  subst Ji
  exact .exit (hR a w v (h.pick ⟨rfl,rfl,rfl,rfl,rfl,rfl,rfl,trivial⟩) hd hk)
end
end
section
open Go
set_option maxRecDepth 4000
structure oM where
 k:UInt32
 v:Value
 b:Bs
def dX (w:World)(L tG:Nat)(v:Value)(es:List oM):Prop:=
 (v=bR/\es=[]) \/
 ∃ (g c:Nat) (cur:Array Value),v=.slice (some ⟨g,0,none⟩) es.length c/\L<=g/\w.heap[g]?=some (.cells cur tG (0,0))/\es.length<=c/\c<=maxLen/\cur.size=c*2/\∀ i e,es[i]?=some e->cur[i*2]?=some (.int .u32 (e.k.toNat:Int))/\cur[i*2+1]?=some e.v
theorem dX.own {w:World}{L tG:Nat}{v:Value}{es:List oM}(h:dX w L tG v es){k:Nat}(hk:v.ownBlock=some k):L<=k/\k<w.heap.size:=by
 rcases h with⟨rfl,_⟩|⟨g,c,cur,rfl,hL,hg,_⟩
 ·cases hk
 ·obtain rfl:g=k:=au hk
  exact⟨hL,(aj.1 hg).1⟩
theorem dX.keep {w w':World}{X:Nat->Prop}{L tG:Nat}{v:Value}{es:List oM}(h:dX w L tG v es)(hk:br X w w')(hx:∀ k,v.ownBlock=some k->¬ X k):dX w' L tG v es:=by
 rcases h with h|⟨g,c,cur,rfl,hL,hg,h⟩
 ·exact .inl h
 ·exact .inr ⟨g,c,cur,rfl,hL,by rw[hk.block g (aj.1 hg).1 (hx g rfl)];exact hg,h⟩
theorem dX.form {w:World}{L tG:Nat}{v:Value}{es:List oM}(h:dX w L tG v es):∃ base c,v=.slice base es.length c/\es.length<=maxLen:=by
 rcases h with⟨rfl,rfl⟩|⟨g,c,cur,rfl,_,_,h1,h2,_⟩
 ·exact⟨none,0,rfl,by simp[maxLen]⟩
 ·exact⟨_,c,rfl,by omega⟩
theorem dX.get {w:World}{L tG:Nat}{v:Value}{es:List oM}(h:dX w L tG v es){i:Nat}{e:oM}(hi:es[i]?=some e):∃ g c,v=.slice (some ⟨g,0,none⟩) es.length c/\i<es.length/\bB w g (0+i*2) [.int .u32 (e.k.toNat:Int),e.v]:=by
 rcases h with⟨_,rfl⟩|⟨g,c,cur,rfl,_,hg,_,_,_,JD⟩
 ·simp at hi
 ·obtain⟨h1,h2⟩:=JD i e hi
  refine⟨g,c,rfl,(ah.1 hi).1,λj x hj=>?_⟩
  have IS:∀ o,w.cell? ⟨g,o,none⟩=cur[o]?:=λo=>by simp[World.cell?,hg]
  rw[IS]
  match j,hj with
  | 0,hj=>simp only[aV,aM]at hj;subst hj;simpa using h1
  | 1,hj=>simp only[List.getElem?_cons_succ,aV,aM]at hj;subst hj;simpa using h2
  | j+2,hj=>simp at hj
theorem dX.set {w:World}{L tG g c:Nat}{es:List oM}{cur:Array Value}{len:Nat}(IT:es.length=len)(hL:L<=g)(hg:w.heap[g]?=some (.cells cur tG (0,0)))(hc:len<=c)(LB:c<=maxLen)(Js:cur.size=c*2)(JD:∀ i e,es[i]?=some e->cur[i*2]?=some (.int .u32 (e.k.toNat:Int))/\cur[i*2+1]?=some e.v){i:Nat}(hi:i<len)(e:oM) :
  dX (w.setRow g (bV cur (i*2) [.int .u32 (e.k.toNat:Int),e.v])) L tG (.slice (some ⟨g,0,none⟩) len c) (es.set i e):=by
 have KC:i*2+[Value.int .u32 (e.k.toNat:Int),e.v].length<=cur.size:=by simp only[List.length_cons,List.length_nil];omega
 refine .inr ⟨g,c,_,by rw[List.length_set,IT],hL,setRow_heap _ _ _ _ _ _ hg,by rw[List.length_set,IT];exact hc,LB,by rw[fF KC];exact Js,λj x hj=>?_⟩
 rw[List.getElem?_set]at hj
 split at hj
 ·rename_i K4
  subst K4
  split at hj
  ·obtain rfl:=au hj
   refine⟨?_,?_⟩
   ·have:=dn KC 0 ab
    simpa using this
   ·have:=dn KC 1 ab
    simpa using this
  ·cases hj
 ·rename_i K4
  obtain⟨h1,h2⟩:=JD j x hj
  refine⟨?_,?_⟩
  ·rw[dL KC _ (by simp only[List.length_cons,List.length_nil];omega)];exact h1
  ·rw[dL KC _ (by simp only[List.length_cons,List.length_nil];omega)];exact h2
def kG:oM:=⟨0,bR,[]⟩
theorem pJ {P:Program}{S:SN}(T:RefT P S){w:World}{L:Nat}{v x:Value}{es:List oM}(h:dX w L S.tG v es)(hx:Src P 2 S.tGs x 1 [.int .u32 0,bR] w)(hL:L<=w.heap.size)(hlim:es.length<=40000) :
  ∃ v' w',(Builtin.append_ #[S.tGs,S.tGs] S.tGs #[v,x]).run P w=.ok v' w'/\dX w' L S.tG v' (es++[kG])/\br (λk=>v.ownBlock=some k) w w'/\∀ k,v'.ownBlock=some k->v.ownBlock=some k \/ w.heap.size<=k:=by
 obtain⟨i,hi,hz,Jc,O1⟩:=T.iG
 have ht:=T.dGs
 have Mh:Src P i.size S.tGs x 1 [.int .u32 0,bR] w:=by rw[Jc];exact hx
 have z0:∀ j (e:oM),[kG][j]?=some e->j=0/\e=kG:=λj e h=>by
  match j,h with
  | 0,h=>simp only[aV,aM]at h;exact⟨rfl,h.symm⟩
  | j+1,h=>simp at h
 have grown:∀ (base:Option Addr) (old:Nat) (olds:List Value),olds.length=es.length*2->old<es.length+1->(Builtin.firstCells i.size es.length (.slice base es.length old)).run P w.drew=.ok olds.toArray w.drew ->
   (∀ j e,es[j]?=some e->olds[j*2]?=some (.int .u32 (e.k.toNat:Int))/\olds[j*2+1]?=some e.v) ->
   ∃ v' w',(Builtin.append_ #[S.tGs,S.tGs] S.tGs #[.slice base es.length old,x]).run P w=.ok v' w'/\dX w' L S.tG v' (es++[kG])/\br (λ_=>False) w w'/\∀ k,v'.ownBlock=some k->w.heap.size<=k:=by
  intro base old olds R4 ho Kz JD
  have hr:=run_append_grow_src (P:=P) w S.tGs S.tGs S.tGs S.tG i (.agg #[.int .u32 0,bR]) ht hi hz base es.length old olds Kz x 1 [.int .u32 0,bR] Mh ho aa (growslice_fits ho (by rw[O1];omega))
  have JN:=grownCap_ge w (es.length+1) old S.tG
  have LB:grownCap w (es.length+1) old S.tG<=maxLen:=grownCap_le_maxLen w _ old S.tG (by simp only[maxLen];omega)
  refine⟨_,_,hr,.inr ⟨w.heap.size,_,_,by rw[ad];rfl,hL,Go.heap_alloc_new w.drew _,by rw[ad];exact JN,LB,?_,?_⟩,?_⟩
  ·simp only[Array.size_append,List.size_toArray,size_zeroCells,ad,R4,Value.cells]
   simp only[List.length_cons,List.length_nil]
   omega
  ·intro j e hj
   have K6:j<es.length+1:=by have:=(ah.1 hj).1;simpa using this
   have pre:∀ q,q<es.length*2+2->((olds++[.int .u32 0,bR]).toArray++Builtin.zeroCells (Value.agg #[.int .u32 0,bR]).cells (grownCap w (es.length+1) old S.tG-(es.length+1)))[q]?=(olds++[.int .u32 0,bR])[q]?:=λq hq=>by
    rw[Array.getElem?_append_left (by simp only[List.size_toArray,ad,R4,List.length_cons,List.length_nil];omega)]
    simp
   rw[pre _ aa,pre _ aa]
   by_cases PB:j<es.length
   ·rw[aR PB]at hj
    obtain⟨h1,h2⟩:=JD j e hj
    rw[aR aa,aR aa]
    exact⟨h1,h2⟩
   ·rw[aO aa]at hj
    obtain⟨WV,rfl⟩:=z0 _ _ hj
    have TO:j=es.length:=by omega
    subst TO
    rw[aO aa,aO aa,R4]
    simp[kG]
  ·exact⟨⟨rfl,rfl,rfl,by simp,λk hk _=>cR (w:=w.drew) hk⟩,λk hk=>by simp only[Value.ownBlock,aM]at hk;omega⟩
 rcases h with⟨rfl,rfl⟩|⟨g,c,cur,rfl,Ub,hg,T0,LB,Js,JD⟩
 ·obtain⟨v',w',a1,a2,a3,a4⟩:=grown none 0 [] rfl ab (by simp[Builtin.firstCells]) (λj e h=>by simp at h)
  exact⟨v',w',a1,a2,a3.mono λ_ _ h=>h.elim,λk hk=>.inr (a4 k hk)⟩
 ·have MT:cur.toList.length=c*2:=by simpa using Js
  by_cases JV:es.length+1<=c
  ·have JL:=run_storeCells_at P g (es.length*2) S.tG [.int .u32 0,bR] 0 cur w hg (by simp only[List.length_cons,List.length_nil];omega) hx.one
   simp only[Nat.add_zero]at JL
   have hr:(Builtin.append_ #[S.tGs,S.tGs] S.tGs #[.slice (some ⟨g,0,none⟩) es.length c,x]).run P w=.ok (.slice (some ⟨g,0,none⟩) (es.length+1) c) (w.setRow g (bV cur (es.length*2) [.int .u32 0,bR])):=by
    have hxc:(Builtin.firstCells 2 1 x).run P w=.ok [Value.int .u32 0,bR].toArray w:=hx.cells
    rcases hx.kind with⟨e',hk⟩|hk<;>simp[Builtin.append_,run_underlying ht,sizeOf,typeInfo,hi,Jc,hx.len,JV,hxc,Addr.add_lit,JL,bV]
   have KC:es.length*2+[Value.int .u32 0,bR].length<=cur.size:=by simp only[List.length_cons,List.length_nil];omega
   refine⟨_,_,hr,.inr ⟨g,c,_,by rw[ad];rfl,Ub,setRow_heap _ _ _ _ _ _ hg,by rw[ad];exact JV,LB,by rw[fF KC];exact Js,λj e hj=>?_⟩,br.setRow _ _ _ _ rfl,λk hk=>.inl hk⟩
   by_cases PB:j<es.length
   ·rw[aR PB]at hj
    obtain⟨h1,h2⟩:=JD j e hj
    rw[dL KC _ (.inl aa),dL KC _ (.inl aa)]
    exact⟨h1,h2⟩
   ·rw[aO aa]at hj
    obtain⟨WV,rfl⟩:=z0 _ _ hj
    have TO:j=es.length:=by omega
    subst TO
    have a1:=dn KC 0 ab
    have a2:=dn KC 1 ab
    exact⟨by simpa[kG]using a1,by simpa[kG]using a2⟩
  ·have key:∃ v' w',(Builtin.append_ #[S.tGs,S.tGs] S.tGs #[.slice (some ⟨g,0,none⟩) es.length c,x]).run P w=.ok v' w'/\dX w' L S.tG v' (es++[kG])/\br (λ_=>False) w w'/\∀ k,v'.ownBlock=some k->w.heap.size<=k:=by
    refine grown (some ⟨g,0,none⟩) c (cur.toList.take (es.length*2)) (by rw[aG,MT];omega) aa ?_ (λj e hj=>?_)
    ·have hl:=run_loadCells_list (P:=P) w.drew ⟨g,0,none⟩ (cur.toList.take (es.length*2)) (λj u hj=>by
      rw[aX]at hj
      split at hj
      ·rw[Addr.add_lit]
       have Jn:w.drew.heap[g]?=some (.cells cur S.tG (0,0)):=hg
       simp[World.cell?,Jn,<- hj]
      ·cases hj)
     have MM:(cur.toList.take (es.length*2)).length=es.length*2:=by rw[aG,MT];omega
     rw[MM]at hl
     simp[Builtin.firstCells,Jc,hl]
    ·have K6:=(ah.1 hj).1
     obtain⟨h1,h2⟩:=JD j e hj
     rw[aX,ax aa,aX,ax aa]
     exact⟨by simpa using h1,by simpa using h2⟩
   obtain⟨v',w',a1,a2,a3,a4⟩:=key
   exact⟨v',w',a1,a2,a3.mono λ_ _ h=>h.elim,λk hk=>.inr (a4 k hk)⟩
theorem BT (k:Nat)(v:Bs):∀ (l:List (Nat × Bs)) (i:Nat),i<=l.length->(∀ j p,j<i->l[j]?=some p->p.1<k)->(∀ p,l[i]?=some p->k<=p.1) ->
  dq k v l=if(∃ p,l[i]?=some p/\p.1=k)then l else l.take i++(k,v)::l.drop i
 | [],i,hi,_,_=>by
  obtain rfl:i=0:=by simpa using hi
  simp[dq]
 | (j,u)::r,0,_,_,JN=>by
  have h1:=JN (j,u) rfl
  simp only[dq]
  by_cases hk:k<j
  ·rw[ax hk,al (λ⟨p,hp,he⟩=>by simp at hp;subst hp;simp only at he;omega)]
   simp
  ·have RD:k=j:=by simp only at h1;omega
   rw[al hk,ax RD,ax ⟨(j,u),rfl,RD.symm⟩]
 | (j,u)::r,i+1,hi,IU,JN=>by
  have h0:j<k:=IU 0 (j,u) aa rfl
  have ih:=BT k v r i (by simpa using hi) (λq p hq hp=>IU (q+1) p aa (by simpa using hp)) (λp hp=>JN p (by simpa using hp))
  simp only[dq]
  rw[al aa,al aa,ih]
  simp only[List.getElem?_cons_succ]
  split<;>simp
section
variable {P:Program} {ops:Array Oper} {C:World->Prop} {Q:Act->Prop} {r:List Oper} {n:Nat} {a:Act} {l:List (Nat × Value)}
theorem lp (h:Q a):wpQuiet P ops C Q [] a:=h
theorem pB {o:Oper}(h:St n a l){d:Nat}{v:Value}(Lb:o.dst=some d)(hw:Region.wanted o (yielded ops a.tmps)=true)(Jl:∀ w,C w->(execOp a.eval o).run P w=.ok (.value v) w)(hd:d<n)(c:∀ a',St n a' ((d,v)::l)->wpQuiet P ops C Q r a'):wpQuiet P ops C Q (o::r) a:=by
 show if _ then _ else _
 rw[ax hw]
 refine⟨v,λw hC=>?_,?_⟩
 ·unfold Oper.quietAt
  rw[Jl w hC]
  exact⟨rfl,rfl⟩
 ·rw[Lb]
  exact c _ (h.put v hd)
theorem eq {op:Op}(h:St n a l){d:Nat}{v:Value}(Jl:∀ w,C w->(execOp a.eval (mk (some d) op)).run P w=.ok (.value v) w)(hd:d<n)(c:∀ a',St n a' ((d,v)::l)->wpQuiet P ops C Q r a'):wpQuiet P ops C Q (mk (some d) op::r) a:=
 pB h rfl (by simp[Region.wanted,mk]) Jl hd c
theorem fE {op:Op}(h:St n a l){d j jd:Nat}{b:Bool}{v:Value}{o:Oper}(ho:ops[j]?=some o)(Lb:o.dst=some jd)(hj:l.lookup jd=some (.bool b))(Lv:jd<n)(Jl:∀ w,C w->(execOp a.eval (mk (some d) op)).run P w=.ok (.value v) w)(hd:d<n)(c:∀ a',St n a' ((d,v)::l)->wpQuiet P ops C Q r a'):wpQuiet P ops C Q (gd d op j b::r) a:=
 pB h rfl (by have hy:=dz ho Lb (by rw[h.size];exact Lv) (h.get _ _ hj);simp[Region.wanted,gd,hy]) (λw hC=>by
  have:execOp a.eval (gd d op j b)=execOp a.eval (mk (some d) op):=by simp only[execOp,mk,gd]
  rw[this];exact Jl w hC) hd c
theorem dl {o2:Oper}(h:St n a l){d j jd:Nat}{b b':Bool}{o:Oper}(JW:o2.dst=some d)(Ja:o2.guard=some (j,b))(ho:ops[j]?=some o)(Lb:o.dst=some jd)(hj:l.lookup jd=some (.bool b'))(Lv:jd<n)(hb:b'≠b)(hd:d<n)(c:∀ a',St n a' ((d,undef)::l)->wpQuiet P ops C Q r a'):wpQuiet P ops C Q (o2::r) a:=by
 have hy:=dz ho Lb (by rw[h.size];exact Lv) (h.get _ _ hj)
 show if _ then _ else _
 rw[al (by simp[Region.wanted,Ja,hy,hb]),JW]
 exact c _ (h.put _ hd)
theorem jI {o2:Oper}(h:St n a l){d j jd:Nat}{b:Bool}{o:Oper}(JW:o2.dst=some d)(Ja:o2.guard=some (j,b))(ho:ops[j]?=some o)(Lb:o.dst=some jd)(hj:l.lookup jd=some undef)(Lv:jd<n)(hd:d<n)(c:∀ a',St n a' ((d,undef)::l)->wpQuiet P ops C Q r a'):wpQuiet P ops C Q (o2::r) a:=by
 have hy:yielded ops a.tmps j=none:=by
  have:a.tmps[jd]?=some undef:=by
   have h1:=h.get _ _ hj
   rw[<- h1]
   simp[Act.get,h.size,Lv]
  simp[yielded,ho,Lb,this,undef]
 show if _ then _ else _
 rw[al (by simp[Region.wanted,Ja,hy]),JW]
 exact c _ (h.put _ hd)
variable {w:World}
theorem eb (h:St n a l){d:Nat}{x:Operand}{v:Value}(hx:Hd l x v):(execOp a.eval (mk (some d) (.move x))).run P w=.ok (.value v) w:=by simp[execOp,mk,hx n a h]
theorem nZ (h:St n a l){d:Nat}{x:Operand}{TT k F B O off sz:Nat}{agg:Bool}(hx:Hd l x (pt B O))(hF:cO P TT k F off agg sz):(execOp a.eval (mk (some d) (.fieldAddr TT x k))).run P w=.ok (.value (pt B (O+off))) w:=by
 obtain⟨fs,f,h1,h2,h3,h4⟩:=hF.fld
 obtain⟨q,rfl⟩:∃ q,sz=q+1:=⟨sz-1,by have:=hF.pos;omega⟩
 have e:=hx n a h
 simp only[pt]at e
 have hn:∀ w,(sizeOf f.type).run P w=.ok (q+1) w:=λw=>by rw[h4];exact hF.var.size w
 simp[execOp,mk,e,Instr.fieldAt,run_underlying h1,h2,h3,fieldPlace,hn,Instr.sureAddr,Addr.add_lit,pt]
theorem kl (h:St n a l){d:Nat}{x:Operand}{F B O sz:Nat}{v:Value}(hx:Hd l x (pt B O))(hF:cv P F false sz)(hv:w.cell? ⟨B,O,none⟩=some v):(execOp a.eval (mk (some d) (.load F x))).run P w=.ok (.value v) w:=by
 have e:=hx n a h
 simp only[pt]at e
 simp[execOp,mk,e,Instr.loadAt,Instr.sureAddr,loadVar,hF.agg w,load,hv,Sem.run]
theorem m4 (h:St n a l){d T:Nat}{x y:Operand}{op:BinOp}{k:IntKind}{p q:Int}(hc:uQ op=true)(hx:Hd l x (.int k p))(hy:Hd l y (.int k q)):(execOp a.eval (mk (some d) (.binOp op T x y 0))).run P w=.ok (.value (.bool (cg op p q))) w:=by
 have he:(eqGuard op T x y (.int k p) (.int k q)).run P w=.ok () w:=by
  unfold eqGuard
  cases op<;>simp
 simp only[execOp,mk,hx n a h,hy n a h,Sem.run_bind,he,Result.andThen_ok,jK (sY hc p q),Sem.run_pure]
theorem jt (h:St n a l){d:Nat}{x y z:Operand}{b':Bool}{u v:Value}(hx:Hd l x (.bool b'))(hy:Hd l y u)(hz:Hd l z v):(execOp a.eval (mk (some d) (.pick x y z))).run P w=.ok (.value (if b' then u else v)) w:=by
 cases b'<;>simp[execOp,mk,hx n a h,hy n a h,hz n a h,asBool]
theorem ut (h:St n a l){d:Nat}{x y:Operand}{F E b o m c i sz:Nat}{k:IntKind}(hx:Hd l x (.slice (some ⟨b,o,none⟩) m c))(hy:Hd l y (.int k (i:Nat)))(hi:i<m)(hF:P.underlying F=some (.slice E))(hs:∀ w,(sizeOf E).run P w=.ok sz w):(execOp a.eval (mk (some d) (.indexAddr F x y))).run P w=.ok (.value (pt b (o+i*sz))) w:=by
 simp[execOp,mk,hx n a h,hy n a h,Instr.indexAt,asIntOf,run_underlying hF,hs,hi,Addr.add_lit,pt]
theorem wi (h : St n a l) {d F E ty m c : Nat} {x : Operand} {g : Option (Nat × Bool)} {base : Option Addr} (hx : Hd l x (.slice base m c)) (hF : P.underlying F = some (.slice E)) : (execOp a.eval ⟨some d, .call ⟨.builtin .len, #[x], #[F]⟩, ty, "", #[], g⟩).run P w = .ok (.value (.int .i64 (m : Int))) w := by
 simp[execOp,resolve,invoke,builtin,hx n a h,Builtin.len_,run_underlying hF,goInt]
end
end
section
open Go
set_option maxRecDepth 4000
def iL (e:oM):Nat × Bs:=(e.k.toNat,e.b)
theorem yC {es:List oM}{p:Nat}{junk e:oM}(hp:es[p]?=some e):(es.take (p+1)++junk::es.drop (p+1)).set (p+1) e=es.take p++e::es.drop p:=by
 have IU:=(ah.1 hp).1
 have e1:es.take (p+1)=es.take p++[e]:=by rw[List.take_add_one,hp];rfl
 have e2:es.drop p=e::es.drop (p+1):=by rw[aZ IU,(ah.1 hp).2]
 have hl:(es.take (p+1)).length=p+1:=by rw[aG];omega
 rw[List.set_append_right _ _ aa,hl,Nat.sub_self,List.set_cons_zero,e1,e2]
 simp
theorem BH {es:List oM}{p:Nat}{junk e:oM}(hp:p<=es.length):(es.take p++junk::es.drop p).set p e=es.take p++e::es.drop p:=by
 have hl:(es.take p).length=p:=by rw[aG];omega
 rw[List.set_append_right _ _ aa,hl,Nat.sub_self,List.set_cons_zero]
section
variable {P:Program} {S:SN}
theorem CJ (T:RefT P S){W:World}{L:Nat}{v sv:Value}{es:List oM}{k:UInt32}{g8:Nat}{x5 x17 x18 x19:Value}(ho:dX W L S.tG v es)(h8:bB W g8 0 [.int .u32 (k.toNat:Int),sv])(IT:es.length<=40000){a:Act}{w:World}(PA:br (λ_=>False) W w)
  (h:St 85 a [(5,x5),(6,v),(8,pt g8 0),(9,.int .i64 0),(17,x17),(18,x18),(19,x19)]) {R:Exit->Act->World->Prop}
  (hR:∀ (a':Act) (w':World) (j:Nat),St 85 a' [(5,x5),(6,v),(8,pt g8 0),(9,.int .i64 (j:Int)),(17,x17),(18,x18),(19,x19)]->br (λ_=>False) W w'->j<=es.length->(∀ j' e,j'<j->es[j']?=some e->e.k.toNat<k.toNat)->(∀ e,es[j]?=some e->k.toNat<=e.k.toNat)->R .normal a' w') :
  cf P (.block 2 (.loop (.seq (.seq (.region 2 (Bg S).toArray true) (.cond (tm 36) .skip (.exit 2))) (.block 3 (rg (Eb S)))))) R a w:=by
 obtain⟨bx,cx,hv,_⟩:=ho.form
 refine fY (λm a' w'=>∃ j:Nat,j+m=es.length/\br (λ_=>False) W w'/\(∀ j' e,j'<j->es[j']?=some e->e.k.toNat<k.toNat)/\St 85 a' [(5,x5),(6,v),(8,pt g8 0),(9,.int .i64 (j:Int)),(17,x17),(18,x18),(19,x19)]) es.length
  ⟨es.length,ae _,0,by omega,PA,λj' e hj=>by omega,h⟩ ?_
 rintro m a w hm ⟨j,hjm,hk,IU,h⟩
 have test:∀ (bb:Bool) (KK:Exit->Act->World->Prop),bb=decide (∃ e,es[j]?=some e/\e.k.toNat<k.toNat)->(∀ a' w',St 85 a' [(36,.bool bb),(5,x5),(6,v),(8,pt g8 0),(9,.int .i64 (j:Int)),(17,x17),(18,x18),(19,x19)]->br (λ_=>False) W w'->KK .normal a' w')->cf P (.region 2 (Bg S).toArray true) KK a w:=by
  intro bb KK KN N9
  refine .drq (λw'=>br (λ_=>False) W w') (hk.trans (br.drew _ _)) ?_
  refine eq h (λw' hC=>eb h (.t rfl)) aa λa h=>eq h (λw' hC=>eb h (.t rfl)) aa λa h=>?_
  have h':=h
  rw[hv]at h'
  refine pB h rfl (by simp[Region.wanted,bi]) (λw' hC=>wi h' (.t rfl) T.dGs) aa λa h=>?_
  refine eq h (λw' hC=>m4 h rfl (.t rfl) (.t rfl)) aa λa h=>eq h (λw' hC=>eb h (.t rfl)) aa λa h=>?_
  cases hb:cg .lss (j:Int) (es.length:Int) with
  | false=>
   rw[hb]at h
   have JN:es.length<=j:=by simp[cg]at hb;omega
   refine dl h rfl rfl rfl rfl rfl aa ab aa λa h=>dl h rfl rfl rfl rfl rfl aa ab aa λa h=>dl h rfl rfl rfl rfl rfl aa ab aa λa h=>dl h rfl rfl rfl rfl rfl aa ab aa λa h=>?_
   refine dl h rfl rfl rfl rfl rfl aa ab aa λa h=>dl h rfl rfl rfl rfl rfl aa ab aa λa h=>dl h rfl rfl rfl rfl rfl aa ab aa λa h=>dl h rfl rfl rfl rfl rfl aa ab aa λa h=>?_
   refine eq h (λw' hC=>jt h (.t rfl) (.t rfl) .c) aa λa h=>lp λw' hC=>N9 _ _ ?_ hC
   have:bb=false:=by
    rw[KN]
    refine decide_eq_false λ⟨e,he,_⟩=>?_
    rw[List.getElem?_eq_none JN]at he
    cases he
   subst this
   exact h.pick ⟨rfl,rfl,rfl,rfl,rfl,rfl,rfl,rfl,trivial⟩
  | true=>
   rw[hb]at h
   have K6:j<es.length:=by simp[cg]at hb;omega
   obtain⟨e,he⟩:∃ e,es[j]?=some e:=⟨_,aq K6⟩
   obtain⟨g,c,Nc,_,IS⟩:=ho.get he
   refine fE h rfl rfl rfl aa (λw' hC=>eb h (.t rfl)) aa λa h=>fE h rfl rfl rfl aa (λw' hC=>eb h (.t rfl)) aa λa h=>?_
   have h':=h
   rw[Nc]at h'
   refine fE h rfl rfl rfl aa (λw' hC=>ut h' (sz:=2) (.t rfl) (.t rfl) K6 T.dGs T.vG.size) aa λa h=>fE h rfl rfl rfl aa (λw' hC=>nZ h (.t rfl) T.g0) aa λa h=>?_
   refine fE h rfl rfl rfl aa (λw' hC=>kl h (.t rfl) T.g0.var ((bB.kn hC IS).at (j:=0) rfl)) aa λa h=>fE h rfl rfl rfl aa (λw' hC=>nZ h (.t rfl) T.g0) aa λa h=>?_
   refine fE h rfl rfl rfl aa (λw' hC=>kl h (.t rfl) T.g0.var ((bB.kn hC h8).at (j:=0) rfl)) aa λa h=>fE h rfl rfl rfl aa (λw' hC=>m4 h rfl (.t rfl) (.t rfl)) aa λa h=>?_
   refine eq h (λw' hC=>jt h (.t rfl) (.t rfl) .c) aa λa h=>lp λw' hC=>N9 _ _ ?_ hC
   have:bb=cg .lss (e.k.toNat:Int) (k.toNat:Int):=by
    rw[KN]
    simp only[cg]
    refine decide_eq_decide.2 ⟨λ⟨e',KU,hl⟩=>?_,λhl=>⟨e,he,by omega⟩⟩
    rw[he]at KU
    obtain rfl:=au KU
    omega
   rw[this]
   have h:=h.pick (m:=[(36,if true=true then Value.bool (cg .lss (e.k.toNat:Int) (k.toNat:Int))else Value.bool false),(5,x5),(6,v),(8,pt g8 0),(9,.int .i64 (j:Int)),(17,x17),(18,x18),(19,x19)]) ⟨rfl,rfl,rfl,rfl,rfl,rfl,rfl,rfl,trivial⟩
   simpa using h
 by_cases LY:∃ e,es[j]?=some e/\e.k.toNat<k.toNat
 ·refine bI (bI (test true _ (by simp[LY]) λa w h hk=>?_))
  refine cA h rfl (λ_=>?_) (λhb=>by cases hb)
  obtain⟨e,he,Jj⟩:=LY
  have K6:=(ah.1 he).1
  refine .skip (.block (cq (b9 h (.t rfl) aa λa h=>e7 h (.t rfl) .i ab (eL w) aa λa h=>?_)))
  have hw:IntKind.i64.wrap ((j:Int)+1)=((j+1:Nat):Int):=by simp[IntKind.wrap,IntKind.bits,IntKind.signed];omega
  rw[hw]at h
  refine b5 h (.t rfl) aa λa h=>wpList_nil ?_
  refine⟨m-1,by omega,by omega,j+1,by omega,hk,λj' e' Qn KU=>?_,h.pick ⟨rfl,rfl,rfl,rfl,rfl,rfl,rfl,trivial⟩⟩
  rcases bm j' j with hc|hc
  ·exact IU j' e' hc KU
  ·obtain rfl:j'=j:=by omega
   rw[he]at KU
   obtain rfl:=au KU
   exact Jj
 ·refine bI (bI (test false _ (by simp[LY]) λa w h hk=>?_))
  refine cA h rfl (λhb=>by cases hb) (λ_=>?_)
  refine .exit (hR a w j (h.pick ⟨rfl,rfl,rfl,rfl,rfl,rfl,rfl,trivial⟩) hk aa IU λe he=>?_)
  rcases bm e.k.toNat k.toNat with hc|hc
  ·exact absurd ⟨e,he,hc⟩ LY
  ·exact hc
end
end
section
open Go
set_option maxRecDepth 4000
section
variable {P:Program} {S:SN}
theorem CI (T:RefT P S){W:World}{L:Nat}{v sv:Value}{es:List oM}{k:UInt32}{g8 j least:Nat}{x17 x18 x19:Value}(ho:dX W L S.tG v es)(h8:bB W g8 0 [.int .u32 (k.toNat:Int),sv]){a:Act}{w:World}(hk:br (λ_=>False) W w)
  (h:St 85 a [(5,.int .u32 (least:Int)),(6,v),(8,pt g8 0),(9,.int .i64 (j:Int)),(17,x17),(18,x18),(19,x19)]) (_hj:j<=es.length) {KK:Exit->Act->World->Prop} (bb:Bool) (KN:bb=decide (k.toNat<least \/ ∃ e,es[j]?=some e/\e.k.toNat=k.toNat))
  (N9:∀ a' w',St 85 a' [(58,.bool bb),(5,.int .u32 (least:Int)),(6,v),(8,pt g8 0),(9,.int .i64 (j:Int)),(17,x17),(18,x18),(19,x19)]->br (λ_=>False) W w'->KK .normal a' w'):cf P (.region 2 (Bf S).toArray true) KK a w:=by
 obtain⟨bx,cx,hv,_⟩:=ho.form
 refine .drq (λw'=>br (λ_=>False) W w') (hk.trans (br.drew _ _)) ?_
 refine eq h (λw' hC=>nZ h (.t rfl) T.g0) aa λa h=>eq h (λw' hC=>kl h (.t rfl) T.g0.var ((bB.kn hC h8).at (j:=0) rfl)) aa λa h=>?_
 refine eq h (λw' hC=>eb h (.t rfl)) aa λa h=>eq h (λw' hC=>m4 h rfl (.t rfl) (.t rfl)) aa λa h=>eq h (λw' hC=>eb h (.t rfl)) aa λa h=>?_
 cases hb:cg .lss (k.toNat:Int) (least:Int) with
 | true=>
  rw[hb]at h
  have IU:k.toNat<least:=by simp[cg]at hb;omega
  refine dl h rfl rfl rfl rfl rfl aa ab aa λa h=>dl h rfl rfl rfl rfl rfl aa ab aa λa h=>dl h rfl rfl rfl rfl rfl aa ab aa λa h=>dl h rfl rfl rfl rfl rfl aa ab aa λa h=>dl h rfl rfl rfl rfl rfl aa ab aa λa h=>?_
  refine jI h rfl rfl rfl rfl rfl aa aa λa h=>jI h rfl rfl rfl rfl rfl aa aa λa h=>jI h rfl rfl rfl rfl rfl aa aa λa h=>jI h rfl rfl rfl rfl rfl aa aa λa h=>?_
  refine jI h rfl rfl rfl rfl rfl aa aa λa h=>jI h rfl rfl rfl rfl rfl aa aa λa h=>jI h rfl rfl rfl rfl rfl aa aa λa h=>jI h rfl rfl rfl rfl rfl aa aa λa h=>?_
  refine dl h rfl rfl rfl rfl rfl aa ab aa λa h=>eq h (λw' hC=>jt h (.t rfl) .c (.t rfl)) aa λa h=>lp λw' hC=>N9 _ _ ?_ hC
  have:bb=true:=by rw[KN];exact decide_eq_true (.inl IU)
  subst this
  exact h.pick ⟨rfl,rfl,rfl,rfl,rfl,rfl,rfl,rfl,trivial⟩
 | false=>
  rw[hb]at h
  have JB:¬ k.toNat<least:=by simp[cg]at hb;omega
  refine fE h rfl rfl rfl aa (λw' hC=>eb h (.t rfl)) aa λa h=>fE h rfl rfl rfl aa (λw' hC=>eb h (.t rfl)) aa λa h=>?_
  have h':=h
  rw[hv]at h'
  refine pB h rfl (by have hy:=dz (a:=a) (ops:=(Bf S).toArray) (j:=4) (d:=43) (b:=false) rfl rfl (by rw[h.size];omega) (h.get 43 _ rfl);simp[Region.wanted,hy]) (λw' hC=>wi h' (.t rfl) T.dGs) aa λa h=>?_
  refine fE h rfl rfl rfl aa (λw' hC=>m4 h rfl (.t rfl) (.t rfl)) aa λa h=>fE h rfl rfl rfl aa (λw' hC=>eb h (.t rfl)) aa λa h=>?_
  cases JH:cg .lss (j:Int) (es.length:Int) with
  | false=>
   rw[JH]at h
   have JN:es.length<=j:=by simp[cg]at JH;omega
   refine dl h rfl rfl rfl rfl rfl aa ab aa λa h=>dl h rfl rfl rfl rfl rfl aa ab aa λa h=>dl h rfl rfl rfl rfl rfl aa ab aa λa h=>dl h rfl rfl rfl rfl rfl aa ab aa λa h=>?_
   refine dl h rfl rfl rfl rfl rfl aa ab aa λa h=>dl h rfl rfl rfl rfl rfl aa ab aa λa h=>dl h rfl rfl rfl rfl rfl aa ab aa λa h=>dl h rfl rfl rfl rfl rfl aa ab aa λa h=>?_
   refine fE h rfl rfl rfl aa (λw' hC=>jt h (.t rfl) (.t rfl) .c) aa λa h=>eq h (λw' hC=>jt h (.t rfl) .c (.t rfl)) aa λa h=>lp λw' hC=>N9 _ _ ?_ hC
   have:bb=false:=by
    rw[KN]
    refine decide_eq_false λhh=>?_
    rcases hh with hh|⟨e,he,_⟩
    ·exact JB hh
    ·rw[List.getElem?_eq_none JN]at he
     cases he
   subst this
   exact h.pick ⟨rfl,rfl,rfl,rfl,rfl,rfl,rfl,rfl,trivial⟩
  | true=>
   rw[JH]at h
   have K6:j<es.length:=by simp[cg]at JH;omega
   obtain⟨e,he⟩:∃ e,es[j]?=some e:=⟨_,aq K6⟩
   obtain⟨g,c,Nc,_,IS⟩:=ho.get he
   refine fE h rfl rfl rfl aa (λw' hC=>eb h (.t rfl)) aa λa h=>fE h rfl rfl rfl aa (λw' hC=>eb h (.t rfl)) aa λa h=>?_
   have h':=h
   rw[Nc]at h'
   refine fE h rfl rfl rfl aa (λw' hC=>ut h' (sz:=2) (.t rfl) (.t rfl) K6 T.dGs T.vG.size) aa λa h=>fE h rfl rfl rfl aa (λw' hC=>nZ h (.t rfl) T.g0) aa λa h=>?_
   refine fE h rfl rfl rfl aa (λw' hC=>kl h (.t rfl) T.g0.var ((bB.kn hC IS).at (j:=0) rfl)) aa λa h=>fE h rfl rfl rfl aa (λw' hC=>nZ h (.t rfl) T.g0) aa λa h=>?_
   refine fE h rfl rfl rfl aa (λw' hC=>kl h (.t rfl) T.g0.var ((bB.kn hC h8).at (j:=0) rfl)) aa λa h=>fE h rfl rfl rfl aa (λw' hC=>m4 h rfl (.t rfl) (.t rfl)) aa λa h=>?_
   refine fE h rfl rfl rfl aa (λw' hC=>jt h (.t rfl) (.t rfl) .c) aa λa h=>eq h (λw' hC=>jt h (.t rfl) .c (.t rfl)) aa λa h=>lp λw' hC=>N9 _ _ ?_ hC
   have:bb=cg .eql (e.k.toNat:Int) (k.toNat:Int):=by
    rw[KN]
    simp only[cg]
    refine decide_eq_decide.2 ⟨λhh=>?_,λhl=>.inr ⟨e,he,by omega⟩⟩
    rcases hh with hh|⟨e',KU,hl⟩
    ·exact absurd hh JB
    ·rw[he]at KU
     obtain rfl:=au KU
     omega
   rw[this]
   have h:=h.pick (m:=[(58,if false=true then Value.bool true else if true=true then Value.bool (cg .eql (e.k.toNat:Int) (k.toNat:Int))else Value.bool false),(5,.int .u32 (least:Int)),(6,v),(8,pt g8 0),(9,.int .i64 (j:Int)),(17,x17),(18,x18),(19,x19)]) ⟨rfl,rfl,rfl,rfl,rfl,rfl,rfl,rfl,trivial⟩
   simpa using h
theorem y8 (T:RefT P S){W:World}{L:Nat}{v sv:Value}{es:List oM}{k:UInt32}{b:Bs}{g8 j:Nat}{x5 x17 x18 x19:Value}(ho:dX W L S.tG v es)(h8:bB W g8 0 [.int .u32 (k.toNat:Int),sv])(Jv:sv.oneCell'=true)(Ow:∀ i,v.ownBlock=some i->i≠g8)(Uc:g8<W.heap.size)(hL:L<=W.heap.size)(IT:es.length<=39999)(Pb:∀ e∈es,e.v.oneCell'=true){a:Act}
  (h:St 85 a [(5,x5),(6,v),(8,pt g8 0),(9,.int .i64 (j:Int)),(17,x17),(18,x18),(19,x19)]) (hj:j<=es.length) {R:Exit->Act->World->Prop}
  (hR:∀ a' w' v',St 85 a' [(5,x5),(6,v'),(17,x17),(18,x18),(19,x19)]->dX w' L S.tG v' (es.take j++⟨k,sv,b⟩::es.drop j)->br (λi=>L<=i) W w'->R .normal a' w') :
  cf P (.seq (rg (Bn S)) (.seq (.seq (rg (Bm S)) (.block 4 (.loop (.seq (.seq (rg (Bl S)) (.cond (tm 68) .skip (.exit 4))) (.seq (.block 5 (rg (Bk S))) (rg (Bj S))))))) (rg (Bi S)))) R a W:=by
 refine bI (cq (b9 h (.t rfl) aa λa h=>kj h (qs:=#[]) (λ_ _ _=>by simp) (T.bG W) aa λa h=>?_))
 refine bP (v:=.slice (some ⟨W.heap.size,0,none⟩) 1 1) (w':=W.alloc (.cells #[.int .u32 0,bR] S.tG (0,0))) ?_ ?_
 ·have e:=Hd.t (l:=_) (i:=60) rfl _ a h
  simp[execOp,mk,e,T.bSG]
 have h:=h.put (d:=61) (.slice (some ⟨W.heap.size,0,none⟩) 1 1) aa
 have S8:br (λ_=>False) W (W.alloc (.cells #[.int .u32 0,bR] S.tG (0,0))):=br.alloc _ _ _
 have S4:=bO W (.cells #[.int .u32 0,bR] S.tG (0,0))
 generalize W.alloc (.cells #[.int .u32 0,bR] S.tG (0,0))=w1 at S8 S4 ⊢
 have KP:Src P 2 S.tGs (.slice (some ⟨W.heap.size,0,none⟩) 1 1) 1 [.int .u32 0,bR] w1:=Src.ofSlice w1 T.dGs ⟨W.heap.size,0,none⟩ 1 1 _ rfl (λq u hq=>by
  rw[Addr.add_lit]
  match q,hq with
  | 0,hq=>simp at hq;subst hq;simp[World.cell?,S4]
  | 1,hq=>simp at hq;subst hq;simp[World.cell?,S4]
  | q+2,hq=>simp at hq) (λu hu=>by
   simp only[aI,bd,or_false]at hu
   rcases hu with rfl|rfl<;>rfl)
 have YF:dX w1 L S.tG v es:=ho.keep S8 λ_ _ h=>h
 obtain⟨v2,w2,Jl,Qi,IV,Tl⟩:=pJ T YF KP (am hL S8.size) aa
 refine DE h (v:=v2) (w':=w2) (by simp[execOp,bi,resolve,invoke,builtin,Hd.t (l:=_) (i:=59) rfl _ _ h,Hd.t (l:=_) (i:=61) rfl _ _ h,Jl]) aa λa h=>b5 h (.t rfl) aa λa h=>wpList_nil ?_
 have h82:bB w2 g8 0 [.int .u32 (k.toNat:Int),sv]:=λq x hq=>IV.cell (λhX=>Ow _ hX rfl) (S8.cell id (h8 q x hq))
 have WQ:br (λi=>L<=i) W w2:=(S8.mono λ_ _ h=>h.elim).trans (IV.mono λi _ hi=>(YF.own hi).1)
 have W8:∀ i,v2.ownBlock=some i->i≠g8:=λi hi=>by
  rcases Tl i hi with h1|h1
  ·exact Ow i h1
  ·have:=S8.size;omega
 obtain⟨bx,cx,Mf,_⟩:=Qi.form
 rw[ad]at Mf
 have hv2':v2=.slice bx (es.length+1) cx:=Mf
 refine bI (bI (cq (b9 h (.t rfl) aa λa h=>?_)))
 have h':=h
 rw[hv2']at h'
 refine dP h' (.t rfl) T.dGs aa λa h=>e7 h (.t rfl) .i ab (l4 w2) aa λa h=>?_
 have SM:IntKind.i64.wrap (((es.length+1:Nat):Int)-1)=(es.length:Int):=by simp[IntKind.wrap,IntKind.bits,IntKind.signed];omega
 rw[SM]at h
 rw[<- hv2']at h
 refine b5 h (.t rfl) aa λa h=>wpList_nil ?_
 refine fY (λm a' w'=>∃ (p:Nat) (junk:oM),p=j+m/\p<=es.length/\dX w' L S.tG v2 (es.take p++junk::es.drop p)/\bB w' g8 0 [.int .u32 (k.toNat:Int),sv]/\br (λi=>L<=i) W w' /\
   St 85 a' [(5,x5),(6,v2),(8,pt g8 0),(9,.int .i64 (j:Int)),(10,.int .i64 (p:Int)),(17,x17),(18,x18),(19,x19)]) es.length
  ⟨es.length-j,by omega,es.length,kG,by omega,ae _,by rw[List.take_length,List.drop_length];exact Qi,h82,WQ,h.pick ⟨rfl,rfl,rfl,rfl,rfl,rfl,rfl,rfl,trivial⟩⟩ ?_
 rintro m a w hm ⟨p,junk,Ti,Ll,Qf,Zz,PA,h⟩
 have Oe:(es.take p++junk::es.drop p).length=es.length+1:=by simp;omega
 refine bI (bI (cq (b9 h (.t rfl) aa λa h=>b9 h (.t rfl) aa λa h=>cy h rfl (.t rfl) (.t rfl) aa λa h=>wpList_nil ?_)))
 refine cA h rfl (λhb=>?_) (λhb=>?_)
 ·have OC:j<p:=by simp[cg]at hb;omega
  obtain⟨q,rfl⟩:∃ q,p=q+1:=⟨p-1,by omega⟩
  obtain⟨e,he⟩:∃ e,es[q]?=some e:=⟨_,aq aa⟩
  have JN:(es.take (q+1)++junk::es.drop (q+1))[q]?=some e:=by
   rw[aR (by rw[aG];omega),aX,ax aa,he]
  have To:=Qf
  obtain⟨g,c,Nc,_,IS⟩:=Qf.get JN
  rcases Qf with⟨hn,_⟩|⟨g',c',cur,ME,UL,Ua,Oa,LB,Js,JD⟩
  ·rw[hn]at Nc;cases Nc
  obtain⟨rfl,rfl⟩:g'=g/\c'=c:=by
   rw[Nc]at ME
   simp only[Value.slice.injEq,aM,Addr.mk.injEq,and_true,true_and]at ME
   exact⟨ME.1.symm,ME.2.symm⟩
  rw[Oe]at Nc Oa
  refine .skip (bI (.block (cq ?_)))
  refine b9 h (.t rfl) aa λa h=>b9 h (.t rfl) aa λa h=>b9 h (.t rfl) aa λa h=>b9 h (.t rfl) aa λa h=>e7 h (.t rfl) .i ab (l4 w) aa λa h=>?_
  have LS:IntKind.i64.wrap (((q+1:Nat):Int)-1)=(q:Int):=by simp[IntKind.wrap,IntKind.bits,IntKind.signed];omega
  rw[LS]at h
  have Tq:e.v.oneCell'=true:=Pb e (bc he)
  have h':=h
  rw[Nc]at h'
  refine fw h' (sz:=2) (.t rfl) (.t rfl) aa T.dGs T.vG.size aa λa h=>dK h (cs:=[.int .u32 (e.k.toNat:Int),e.v]) (.t rfl) T.vG IS aa λa h=>fw h (sz:=2) (.t rfl) (.t rfl) aa T.dGs T.vG.size aa λa h=>?_
  have Sb:(q+1)*2+2<=cur.size:=by omega
  refine cK (g:=g') (o:=0+(q+1)*2) (cur:=cur) (t:=S.tG) (vs:=[.int .u32 (e.k.toNat:Int),e.v]) (h.get 78 _ rfl) (h.get 77 _ rfl) (by simp[Value.cells]) (T.vG.size w) Ua (by simp only[List.length_cons,List.length_nil];omega) (λu hu=>by
   simp only[aI,bd,or_false]at hu
   rcases hu with rfl|rfl
   ·rfl
   ·exact Tq) (wpList_nil ?_)
  have Ks:=dX.set (w:=w) (L:=L) (tG:=S.tG) Oe UL Ua Oa LB Js JD (i:=q+1) aa e
  rw[yC he]at Ks
  rw[aN]
  have Ka:br (λi=>i=g') w (w.setRow g' (bV cur ((q+1)*2) [.int .u32 (e.k.toNat:Int),e.v])):=br.setRow _ _ _ _ rfl
  have hg8':g'≠g8:=W8 g' (by rw[Nc];rfl)
  generalize w.setRow g' (bV cur ((q+1)*2) [.int .u32 (e.k.toNat:Int),e.v])=w' at Ks Ka ⊢
  have h:=h.pick (m:=[(5,x5),(6,.slice (some ⟨g',0,none⟩) (es.length+1) c'),(8,pt g8 0),(9,.int .i64 (j:Int)),(10,.int .i64 ((q+1:Nat):Int)),(17,x17),(18,x18),(19,x19)]) ⟨rfl,rfl,rfl,rfl,rfl,rfl,rfl,rfl,trivial⟩
  rw[<- Nc]at h Ks
  refine cq (b9 h (.t rfl) aa λa h=>e7 h (.t rfl) .i ab (l4 w') aa λa h=>?_)
  rw[LS]at h
  refine b5 h (.t rfl) aa λa h=>wpList_nil ?_
  refine⟨m-1,by omega,by omega,q,e,by omega,by omega,Ks,λy x hy=>Ka.cell (λhX=>hg8' hX.symm) (Zz y x hy),PA.trans (Ka.mono λi _ hi=>hi ▸ UL),h.pick ⟨rfl,rfl,rfl,rfl,rfl,rfl,rfl,rfl,trivial⟩⟩
 ·have Q9:p=j:=by simp[cg]at hb;omega
  subst Q9
  refine .exit ?_
  show cf P _ _ a w
  have To:=Qf
  have WV:(es.take p++junk::es.drop p)[p]?=some junk:=by
   have hl:(es.take p).length=p:=by rw[aG];omega
   rw[aO aa,hl,Nat.sub_self];rfl
  obtain⟨g,c,Nc,_,_⟩:=To.get WV
  rcases Qf with⟨hn,_⟩|⟨g',c',cur,ME,UL,Ua,Oa,LB,Js,JD⟩
  ·rw[hn]at Nc;cases Nc
  obtain⟨rfl,rfl⟩:g'=g/\c'=c:=by
   rw[Nc]at ME
   simp only[Value.slice.injEq,aM,Addr.mk.injEq,and_true,true_and]at ME
   exact⟨ME.1.symm,ME.2.symm⟩
  rw[Oe]at Nc Oa
  refine cq (b9 h (.t rfl) aa λa h=>b9 h (.t rfl) aa λa h=>dK h (cs:=[.int .u32 (k.toNat:Int),sv]) (.t rfl) T.vG Zz aa λa h=>?_)
  have h':=h
  rw[Nc]at h'
  refine fw h' (sz:=2) (.t rfl) (.t rfl) aa T.dGs T.vG.size aa λa h=>?_
  refine cK (g:=g') (o:=0+p*2) (cur:=cur) (t:=S.tG) (vs:=[.int .u32 (k.toNat:Int),sv]) (h.get 82 _ rfl) (h.get 81 _ rfl) (by simp[Value.cells]) (T.vG.size w) Ua (by simp only[List.length_cons,List.length_nil];omega) (λu hu=>by
   simp only[aI,bd,or_false]at hu
   rcases hu with rfl|rfl
   ·rfl
   ·exact Jv) (wpList_nil ?_)
  have Ks:=dX.set (w:=w) (L:=L) (tG:=S.tG) Oe UL Ua Oa LB Js JD (i:=p) aa ⟨k,sv,b⟩
  rw[BH Ll]at Ks
  rw[aN]
  have Ka:br (λi=>i=g') w (w.setRow g' (bV cur (p*2) [.int .u32 (k.toNat:Int),sv])):=br.setRow _ _ _ _ rfl
  have h:=h.pick (m:=[(5,x5),(6,.slice (some ⟨g',0,none⟩) (es.length+1) c'),(17,x17),(18,x18),(19,x19)]) ⟨rfl,rfl,rfl,rfl,rfl,trivial⟩
  rw[<- Nc]at h Ks
  exact hR _ _ v2 h Ks (PA.trans (Ka.mono λi _ hi=>hi ▸ UL))
theorem qL (T:RefT P S)(UO:Ent P S.fKnown)(hK:∀ (sf:SFs) (fv:Value) (w:World),fz sf=true->ge w sf fv->Calls P S.fKnown [fv].toArray w λe w'=>e=.returned (.int .u32 (bH sf:Int))/\br (λ_=>False) w w')(hfn:FnIs P S.fUnk 85 [4] (csUn S))
  (sf:SFs) (fv uv:Value) (raw:List (UInt32 × Bs)) (W0 W:World) (N4:fz sf=true) (J9:ge W sf fv) (OY:fi W 2 (jh W0) uv raw):Calls P S.fUnk [fv,uv].toArray W λe w'=>∃ v es,e=.returned v/\dX w' W.heap.size S.tG v es/\(∀ e∈es,kR W0 e.v e.b)/\es.map iL=eV (bH sf) (raw.map λp=>(p.1.toNat,p.2))/\br (λ_=>False) W w':=by
 have S7:=nY sf N4
 refine fb T.mixed hfn ab _ ab λa h=>?_
 unfold csUn
 refine bI (cq (b5 h .c aa λa h=>wpList_nil ?_))
 refine bI (cq (b9 h (.t rfl) aa λa h=>?_))
 refine cX h UO (vs:=[fv]) (λn a h=>by simp only[List.map_cons,List.map_nil];rw[Hd.t (l:=_) (i:=11) rfl n a h]) (hK sf fv W N4 J9) aa λe w1 hR1=>?_
 obtain⟨rfl,Jd⟩:=hR1
 refine⟨_,rfl,λa h=>b5 h (.t rfl) aa λa h=>wpList_nil ?_⟩
 refine bI (cq (b5 h .c aa λa h=>wpList_nil ?_))
 have N6:dW W w1:=dW.of Jd
 obtain⟨base,c,Y0,JC,JA,hbc,Jq⟩:∃ base c,uv=.slice base raw.length c/\raw.length<=c/\raw.length<=maxLen/\(base=none->c=0)/\(raw=[] \/ ∃ b o,base=some ⟨b,o,none⟩/\∀ i x,raw[i]?=some x->∃ cs,cs.length=2/\bB W b (o+i*2) cs/\jh W0 cs x):=by
  rcases OY with⟨_,rfl,rfl⟩|⟨b,o,c,rfl,h1,h2,h3⟩
  ·exact⟨_,0,rfl,ae _,by simp[maxLen],λ_=>rfl,.inl rfl⟩
  ·exact⟨_,c,rfl,h1,by omega,(λh=>by cases h),.inr ⟨b,o,rfl,h3⟩⟩
 subst Y0
 refine bI (bI (cq (b9 h (.t rfl) aa λa h=>b9 h (.t rfl) aa λa h=>dP h (.t rfl) T.dGs aa λa h=>vL h (.t rfl) .i aa λa h=>?_)))
 rw[pU]at h
 refine mt h (.t rfl) (.t rfl) aa hbc T.dGs T.vG.size aa λa h=>dP h (.t rfl) T.dGs aa λa h=>b9 h .i aa λa h=>wpList_nil ?_
 have hN:min raw.length bX<=32767:=by simp only[bX];omega
 have NC:(raw.take bX).length=min raw.length bX:=by rw[aG,Nat.min_comm]
 refine fY (λm a' w'=>∃ (i:Nat) (v:Value) (es:List oM),i+m=min raw.length bX/\dX w' W.heap.size S.tG v es/\dW W w'/\(∀ e∈es,kR W0 e.v e.b)/\es.length<=i/\jo (bH sf) (((raw.take bX).drop i).map λp=>(p.1.toNat,p.2)) (es.map iL)=eV (bH sf) (raw.map λp=>(p.1.toNat,p.2)) /\
   St 85 a' [(5,.int .u32 (bH sf:Int)),(6,v),(17,.slice base (min raw.length bX) c),(18,.int .i64 ((min raw.length bX:Nat):Int)),(19,.int .i64 (i:Int))]) (min raw.length bX)
  ⟨min raw.length bX,ae _,0,bR,[],by omega,.inl ⟨rfl,rfl⟩,N6,(λe he=>by cases he),by simp,by simp[eV,List.map_take],h.pick ⟨rfl,rfl,rfl,rfl,rfl,trivial⟩⟩ ?_
 rintro m a w hm ⟨i,v,es,Ou,ho,hk,LZ,LP,Ji,h⟩
 have Pb:∀ e∈es,e.v.oneCell'=true:=λe he=>by obtain⟨_,_,h1,_⟩:=(LZ e he).form;rw[h1];rfl
 refine bI (cq (cy h rfl (.t rfl) (.t rfl) aa λa h=>wpList_nil ?_))
 refine iU h rfl (λhb=>?_) (λhb=>?_)
 ·have IU:i<min raw.length bX:=by simp[cg]at hb;omega
  obtain⟨x,hx⟩:∃ x,raw[i]?=some x:=⟨_,aq aa⟩
  obtain⟨b,o,U5,Kv⟩:=Jq.resolve_left (λhh=>by rw[hh]at hx;simp at hx)
  obtain⟨cs,_,Js,sv,rfl,LT⟩:=Kv i x hx
  have Jv:sv.oneCell'=true:=by obtain⟨_,_,h1,_⟩:=LT.form;rw[h1];rfl
  have PR:(raw.take bX)[i]?=some x:=by rw[aX,ax aa];exact hx
  have Mm:(raw.take bX).drop i=x::(raw.take bX).drop (i+1):=by
   rw[aZ (by rw[NC];omega),(ah.1 PR).2]
  rw[Mm]at Ji
  simp only[List.map_cons,jo]at Ji
  have step:∀ (a:Act) (w':World) (v':Value) (es':List oM) (KK:Exit->Act->World->Prop),St 85 a [(5,.int .u32 (bH sf:Int)),(6,v'),(17,.slice base (min raw.length bX) c),(18,.int .i64 ((min raw.length bX:Nat):Int)),(19,.int .i64 (i:Int))]->dX w' W.heap.size S.tG v' es'->dW W w'->(∀ e∈es',kR W0 e.v e.b)->es'.length<=i+1 ->
    es'.map iL=(if x.1.toNat<bH sf then es.map iL else dq x.1.toNat x.2 (es.map iL)) ->
    cf P (rg (Bh S)) (Exit.then (λa' w'=>∃ m',m'<=min raw.length bX/\m'<m/\∃ (i:Nat) (v:Value) (es:List oM),i+m'=min raw.length bX/\dX w' W.heap.size S.tG v es/\dW W w'/\(∀ e∈es,kR W0 e.v e.b)/\es.length<=i/\jo (bH sf) (((raw.take bX).drop i).map λp=>(p.1.toNat,p.2)) (es.map iL)=eV (bH sf) (raw.map λp=>(p.1.toNat,p.2)) /\
     St 85 a' [(5,.int .u32 (bH sf:Int)),(6,v),(17,.slice base (min raw.length bX) c),(18,.int .i64 ((min raw.length bX:Nat):Int)),(19,.int .i64 (i:Int))]) KK) a w':=by
   intro a w' v' es' KK h S1 Ko Xu Xw L8
   refine cq (e7 h (.t rfl) .i ab (eL w') aa λa h=>?_)
   have hw:IntKind.i64.wrap ((i:Int)+1)=((i+1:Nat):Int):=by simp[IntKind.wrap,IntKind.bits,IntKind.signed];omega
   rw[hw]at h
   refine b9 h (.t rfl) aa λa h=>wpList_nil ?_
   exact⟨m-1,by omega,by omega,i+1,v',es',by omega,S1,Ko,Xu,Xw,by rw[L8];exact Ji,h.pick ⟨rfl,rfl,rfl,rfl,rfl,trivial⟩⟩
  refine .skip (bI (.block (bI (cq ?_))))
  have h0:=h
  rw[U5]at h0
  refine fw h0 (sz:=2) (.t rfl) (.t rfl) IU T.dGs T.vG.size aa λa h=>dK h (cs:=[.int .u32 (x.1.toNat:Int),sv]) (.t rfl) T.vG (hk.cells Js) aa λa h=>?_
  have Tp:∀ u∈[Value.int .u32 (x.1.toNat:Int),sv],u.oneCell'=true:=by
   intro u hu
   simp only[aI,bd,or_false]at hu
   rcases hu with rfl|rfl
   ·rfl
   ·exact Jv
  refine nW h (cs:=[.int .u32 (x.1.toNat:Int),sv]) T.zG rfl (λ_=>.t rfl) T.vG.size Tp aa λw2 a IV JA h=>wpList_nil ?_
  have Qi:dX w2 W.heap.size S.tG v es:=ho.keep IV λ_ _ h=>h
  have NM:=hk.kn IV
  have Uc:w.heap.size<w2.heap.size:=e8 (JA 0 _ rfl)
  have Ow:∀ q,v.ownBlock=some q->q≠w.heap.size:=λq hq=>by have:=(ho.own hq).2;omega
  refine bI (cq (b5 h .i aa λa h=>wpList_nil ?_))
  have h:=h.pick (m:=[(5,.int .u32 (bH sf:Int)),(6,v),(8,pt w.heap.size 0),(9,.int .i64 0),(17,.slice (some ⟨b,o,none⟩) (min raw.length bX) c),(18,.int .i64 ((min raw.length bX:Nat):Int)),(19,.int .i64 (i:Int))]) ⟨rfl,rfl,rfl,rfl,rfl,rfl,rfl,trivial⟩
  rw[<- U5]at h
  refine bI (CJ T Qi JA aa (br.refl _ _) h λa w3 j h IZ hj hlt3 TZ=>?_)
  have YE:dX w3 W.heap.size S.tG v es:=Qi.keep IZ λ_ _ h=>h
  have MV:=bB.kn IZ JA
  have Nf:=NM.kn IZ
  have TR:=BT x.1.toNat x.2 (es.map iL) j (by simpa using hj) (λj' p Qn hp=>by
   rw[aD,aK]at hp
   obtain⟨e,he,rfl⟩:=hp
   exact hlt3 j' e Qn he) (λp hp=>by
   rw[aD,aK]at hp
   obtain⟨e,he,rfl⟩:=hp
   exact TZ e he)
  refine bI (bI (CI T YE MV (br.refl _ _) h hj (decide (x.1.toNat<bH sf \/ ∃ e,es[j]?=some e/\e.k.toNat=x.1.toNat)) rfl λa w4 h Jm=>?_))
  have Tu:dX w4 W.heap.size S.tG v es:=YE.keep Jm λ_ _ h=>h
  have U3:=bB.kn Jm MV
  have Ny:=Nf.kn Jm
  refine cA h rfl (λKN=>?_) (λKN=>?_)
  ·have J5:=of_decide_eq_true KN
   refine .exit ?_
   refine step a w4 v es _ (h.pick ⟨rfl,rfl,rfl,rfl,rfl,trivial⟩) Tu Ny LZ aa ?_
   by_cases hl:x.1.toNat<bH sf
   ·rw[ax hl]
   ·rw[al hl]
    obtain⟨e,he,hek⟩:=J5.resolve_left hl
    rw[TR,ax ⟨iL e,by rw[aD,he];rfl,hek⟩]
  ·have Ki:=of_decide_eq_false KN
   refine .skip ?_
   have L3:W.heap.size<=w4.heap.size:=Ny.size
   refine y8 T (b:=x.2) Tu U3 Jv Ow (az Uc (am IZ.size Jm.size)) L3 aa Pb (h.pick ⟨rfl,rfl,rfl,rfl,rfl,rfl,rfl,trivial⟩) hj λa w5 v5 h Wy JZ=>?_
   refine step a w5 v5 _ _ (h.pick ⟨rfl,rfl,rfl,rfl,rfl,trivial⟩) Wy (Ny.up JZ λq hq=>hq) (λe he=>?_) (by simp;omega) ?_
   ·rcases List.mem_append.1 he with he|he
    ·exact LZ e (List.mem_of_mem_take he)
    ·rcases aI.1 he with rfl|he
     ·exact LT
     ·exact LZ e (List.mem_of_mem_drop he)
   ·have KH:¬ ∃ p,(es.map iL)[j]?=some p/\p.1=x.1.toNat:=by
     rintro⟨p,hp,hpe⟩
     rw[aD,aK]at hp
     obtain⟨e,he,rfl⟩:=hp
     exact Ki (.inr ⟨e,he,hpe⟩)
    rw[al (λhl=>Ki (.inl hl)),TR,al KH,List.map_append,List.map_cons,List.map_take,List.map_drop]
    rfl
 ·have JN:¬ i<min raw.length bX:=by simp[cg]at hb;omega
  rw[bo (by rw[NC];omega)]at Ji
  simp only[List.map_nil,jo]at Ji
  refine .exit ?_
  show cf P _ _ a w
  refine bI (cq (b9 h (.t rfl) aa λa h=>b5 h (.t rfl) aa λa h=>wpList_nil (.ret ?_)))
  exact iH (RR:=λe w'=>∃ v es,e=.returned v/\dX w' W.heap.size S.tG v es/\(∀ e∈es,kR W0 e.v e.b)/\es.map iL=eV (bH sf) (raw.map λp=>(p.1.toNat,p.2))/\br (λ_=>False) W w') h rfl ⟨v,es,rfl,ho,LZ,Ji,hk.keeps⟩
theorem Am (T:RefT P S)(UO:Ent P S.fKnown)(hK:∀ (sf:SFs) (fv:Value) (w:World),fz sf=true->ge w sf fv->Calls P S.fKnown [fv].toArray w λe w'=>e=.returned (.int .u32 (bH sf:Int))/\br (λ_=>False) w w')(hfn:FnIs P S.fUnk 85 [4] (csUn S))
  (sf:SFs) (fv uv:Value) (raw:List (UInt32 × Bs)) (W:World) (N4:fz sf=true) (J9:ge W sf fv) (OY:fi W 2 (jh W) uv raw):Calls P S.fUnk [fv,uv].toArray W λe w'=>∃ v raw',e=.returned v/\fi w' 2 (jh w') v raw'/\(raw'.map λp=>(p.1.toNat,p.2))=eV (bH sf) (raw.map λp=>(p.1.toNat,p.2))/\br (λ_=>False) W w':=by
 refine(qL T UO hK hfn sf fv uv raw W W N4 J9 OY).mono λe w ⟨v,es,he,ho,LZ,Ji,hk⟩=>?_
 refine⟨v,es.map (λe=>(e.k,e.b)),he,?_,?_,hk⟩
 ·rcases ho with⟨rfl,rfl⟩|⟨g,cc,cur,rfl,_,hg,Oa,LB,_,JD⟩
  ·exact .inl ⟨none,rfl,rfl⟩
  ·refine .inr ⟨g,0,cc,by rw[aJ],by rw[aJ];exact Oa,LB,λq p hq=>?_⟩
   rw[aD,aK]at hq
   obtain⟨e,he,rfl⟩:=hq
   obtain⟨h1,h2⟩:=JD q e he
   have IS:∀ y,w.cell? ⟨g,y,none⟩=cur[y]?:=λy=>by simp[World.cell?,hg]
   refine⟨[.int .u32 (e.k.toNat:Int),e.v],rfl,λy z hy=>?_,e.v,rfl,(LZ e (bc he)).far (dW.of hk)⟩
   rw[IS]
   match y,hy with
   | 0,hy=>simp only[aV,aM]at hy;subst hy;simpa using h1
   | 1,hy=>simp only[List.getElem?_cons_succ,aV,aM]at hy;subst hy;simpa using h2
   | y+2,hy=>simp at hy
 ·rw[<- Ji,List.map_map]
  rfl
end
end
section
open Go
set_option maxRecDepth 4000
abbrev BI:=List (Nat × Int) × Option Nat
def yf (S:SN)(p:List (Nat × Int))(x:Option Operand):Op:=.build S.tF ((p.map λq=>(q.1,ki .i64 q.2))++(match x with|some y=>[(7,y)]|none=>[])).toArray
def lG (S:SN):List BI->Nat->List Oper
 | [],_=>[]
 | (p,none)::r,n=>mk (some n) (yf S p none)::lG S r (n+1)
 | (p,some f)::r,n=>cl (some n) f []::mk (some (n+1)) (yf S p (some (tm n)))::lG S r (n+2)
def gA:List BI->Nat->Nat
 | [],n=>n
 | (_,none)::r,n=>gA r (n+1)
 | (_,some _)::r,n=>gA r (n+2)
def gZ:List BI->Nat->List Nat
 | [],_=>[]
 | (_,none)::r,n=>n::gZ r (n+1)
 | (_,some _)::r,n=>(n+1)::gZ r (n+2)
def cSub (S:SN)(its:List BI):Code:=.seq (rg [mk (some 0) (.assign (.const bR))]) (.seq (rg (lG S its 1++[mk (some (gA its 1)) (.buildSlice S.tFs its.length (Er 0 (gZ its 1)).toArray),mk (some 0) (.assign (tm (gA its 1)))])) .ret)
def cMsgB (S:SN)(flex:Int)(its:List BI):Code:=.seq (rg [mk (some 0) (.alloc S.tMs)]) (.seq (rg (lG S its 1++[mk (some (gA its 1)) (.buildSlice S.tFs its.length (Er 0 (gZ its 1)).toArray),mk (some (gA its 1+1)) (.build S.tMs #[(1,ki .i64 flex),(0,tm (gA its 1))]),mk none (.store S.tMs (tm 0) (tm (gA its 1+1)))])) .ret)
def BuildC (P:Program)(f:Nat)(sf:SFs):Prop:=∀ w,Calls P f ([]:List Value).toArray w λe w'=>∃ v,e=.returned v/\ge w' sf v/\br (λ_=>False) w w'
def rx (p:List (Nat × Int))(x:Option Value):Array (Nat × Value):=((p.map λq=>(q.1,Value.int .i64 q.2))++(match x with|some y=>[(7,y)]|none=>[])).toArray
def FV (P:Program)(S:SN):List BI->SFs->Prop
 | [],.nil=>True
 | (p,none)::r,.cons kind lo hi nul tag df of sub sr=>(∀ w,(Instr.build S.tF (rx p none)).run P w=.ok (.agg (bW kind lo hi nul tag df of bR).toArray) w)/\sub=.nil/\FV P S r sr
 | (p,some f)::r,.cons kind lo hi nul tag df of sub sr=>(∀ (base:Option Addr) (n c:Nat) (w:World),(Instr.build S.tF (rx p (some (.slice base n c)))).run P w=.ok (.agg (bW kind lo hi nul tag df of (.slice base n c)).toArray) w)/\(Ent P f/\BuildC P f sub)/\FV P S r sr
 | _,_=>False
def ky:SFs->(Nat->Value)->Nat->List Value
 | .nil,_,_=>[]
 | .cons kind lo hi nul tag df of _ r,sv,i=>.agg (bW kind lo hi nul tag df of (sv i)).toArray::ky r sv (i+1)
def uT:SFs->(Nat->Value)->Nat->List Value
 | .nil,_,_=>[]
 | .cons kind lo hi nul tag df of _ r,sv,i=>bW kind lo hi nul tag df of (sv i)++uT r sv (i+1)
def fj (w:World):SFs->(Nat->Value)->Nat->Prop
 | .nil,_,_=>True
 | .cons _ _ _ _ _ _ _ sub r,sv,i=>ge w sub (sv i)/\fj w r sv (i+1)
theorem jf:∀ (sf:SFs) (sv sv':Nat->Value) (i:Nat),(∀ j,i<=j->sv j=sv' j)->ky sf sv i=ky sf sv' i
 | .nil,_,_,_,_=>rfl
 | .cons ..,sv,sv',i,h=>by
  simp only[ky]
  rw[h i (ae _),jf _ sv sv' (i+1) λj hj=>h j aa]
theorem fj.congr {w:World}:∀ (sf:SFs) (sv sv':Nat->Value) (i:Nat),(∀ j,i<=j->sv j=sv' j)->fj w sf sv i->fj w sf sv' i
 | .nil,_,_,_,_,_=>trivial
 | .cons ..,sv,sv',i,h,hh=>⟨by rw[<- h i (ae _)];exact hh.1,fj.congr _ sv sv' (i+1) (λj hj=>h j aa) hh.2⟩
theorem ge.kn {w w':World}(h:br (λ_=>False) w w'){sf:SFs}{v:Value}(hs:ge w sf v):ge w' sf v:=hs.far (dW.of h)
theorem fj.kn {w w':World}(h:br (λ_=>False) w w'):∀ (sf:SFs) (sv:Nat->Value) (i:Nat),fj w sf sv i->fj w' sf sv i
 | .nil,_,_,_=>trivial
 | .cons ..,sv,i,hh=>⟨hh.1.kn h,fj.kn h _ sv (i+1) hh.2⟩
theorem xX {w:World}{g:Nat}:∀ (sf:SFs) (sv:Nat->Value) (i o:Nat),fj w sf sv i->bB w g o (uT sf sv i)->jn w sf g o
 | .nil,_,_,_,_,_=>trivial
 | .cons kind lo hi nul tag df of sub r,sv,i,o,hh,hc=>by
  refine⟨⟨sv i,λj x hj=>hc j x ?_,hh.1⟩,xX r sv (i+1) (o+8) hh.2 λj x hj=>?_⟩
  ·simp only[uT]
   rw[aR (by have:=(ah.1 hj).1;exact this)]
   exact hj
  ·have:=hc (8+j) x (by
    simp only[uT]
    rw[aO (by simp[bW])]
    simpa[bW]using hj)
   rwa [show o+8+j=o+(8+j) by omega]
section
variable {P:Program} {S:SN}
theorem qq {ops:Array Oper}{Q:Exit->Act->World->Prop}{rest:List Oper}{N:Nat}:∀ (its:List BI) (sf:SFs) (i n0:Nat) (a:Act) (l acc:List (Nat × Value)) (w:World),FV P S its sf->St N a l->(∀ p∈acc,l.lookup p.1=some p.2/\p.1<n0)->gA its n0<=N ->
  (∀ a' l' w' sv,St N a' l'->(∀ p∈acc++(gZ its n0).zip (ky sf sv i),l'.lookup p.1=some p.2)->fj w' sf sv i->(ky sf sv i).length=its.length->br (λ_=>False) w w'->wpList P ops Q rest a' w')->wpList P ops Q (lG S its n0++rest) a w
 | [],.nil,i,n0,a,l,acc,w,_,h,LC,_,hc=>hc a l w (λ_=>bR) h (λp hp=>(LC p (by simpa[gZ]using hp)).1) trivial rfl (br.refl _ _)
 | [],.cons ..,_,_,_,_,_,_,hb,_,_,_,_=>hb.elim
 | (p,none)::r,.nil,_,_,_,_,_,_,hb,_,_,_,_=>hb.elim
 | (p,some f)::r,.nil,_,_,_,_,_,_,hb,_,_,_,_=>hb.elim
 | (p,none)::r,.cons kind lo hi nul tag df of sub sr,i,n0,a,l,acc,w,hb,h,LC,hn,hc=>by
  obtain⟨J2,rfl,Mp⟩:=hb
  have JN:∀ (r:List BI) (n:Nat),n<=gA r n:=λr=>by
   induction r with
   | nil=>intro n;exact ae n
   | cons x r ih=>
    intro n
    obtain⟨q,y⟩:=x
    cases y with
    | none=>exact am (Nat.le_succ n) (ih (n+1))
    | some _=>exact am (Nat.le_add_right n 2) (ih (n+2))
  have Kj:n0<N:=az (Nat.lt_succ_self n0) (am (JN r (n0+1)) hn)
  show wpList P ops Q (mk (some n0) (.build S.tF _)::(lG S r (n0+1)++rest)) a w
  refine kj h (qs:=rx p none) (λn a _=>by simp[rx,ki,Act.eval]) (J2 w) Kj λa h=>?_
  refine qq r sr (i+1) (n0+1) a _ (acc++[(n0,.agg (bW kind lo hi nul tag df of bR).toArray)]) w Mp h (λq hq=>?_) hn λa' l' w' sv h hl hf IT hk=>?_
  ·rcases List.mem_append.1 hq with hq|hq
   ·obtain⟨h1,h2⟩:=LC q hq
    refine⟨?_,by omega⟩
    simp only[bh]
    have:(q.1==n0)=false:=by simp;omega
    rw[this];exact h1
   ·obtain rfl:=aY.1 hq
    exact⟨by simp,by simp⟩
  ·have Se:∀ j,i+1<=j->sv j=(λj=>if j=i then bR else sv j) j:=λj hj=>by simp only;rw[al aa]
   refine hc a' l' w' (λj=>if j=i then bR else sv j) h (λq hq=>hl q ?_) ⟨by simp only[aw];exact .inl ⟨rfl,rfl⟩,fj.congr sr _ _ _ Se hf⟩ (by simp only[ky,List.length_cons];rw[<- jf sr sv _ (i+1) Se,IT]) hk
   simp only[gZ,ky,List.zip_cons_cons,aw]at hq
   rw[<- jf sr sv _ (i+1) Se]at hq
   simpa using hq
 | (p,some f)::r,.cons kind lo hi nul tag df of sub sr,i,n0,a,l,acc,w,hb,h,LC,hn,hc=>by
  obtain⟨J2,⟨hE,hB⟩,Mp⟩:=hb
  have JN:∀ (r:List BI) (n:Nat),n<=gA r n:=λr=>by
   induction r with
   | nil=>intro n;exact ae n
   | cons x r ih=>
    intro n
    obtain⟨q,y⟩:=x
    cases y with
    | none=>exact am (Nat.le_succ n) (ih (n+1))
    | some _=>exact am (Nat.le_add_right n 2) (ih (n+2))
  have Kj:n0+1<N:=az (Nat.lt_succ_self _) (am (JN r (n0+2)) hn)
  show wpList P ops Q (cl (some n0) f []::mk (some (n0+1)) (.build S.tF _)::(lG S r (n0+2)++rest)) a w
  refine cX h hE (vs:=[]) (λ_ _ _=>rfl) (hB w) aa λe w1 hR=>?_
  obtain⟨v,rfl,hv,Jd⟩:=hR
  obtain⟨vb,vc,SP,_⟩:=hv.form
  subst SP
  refine⟨_,rfl,λa h=>kj h (qs:=rx p (some (.slice vb sub.len vc))) (λn a hs=>by
   have e:=Hd.t (l:=_) (i:=n0) (v:=.slice vb sub.len vc) ab n a hs
   simp only[tm]at e
   simp[rx,ki,Act.eval,tm]at e ⊢
   exact e) (J2 vb _ vc w1) Kj λa h=>?_⟩
  refine qq r sr (i+1) (n0+2) a _ (acc++[(n0+1,.agg (bW kind lo hi nul tag df of (.slice vb sub.len vc)).toArray)]) w1 Mp h (λq hq=>?_) hn λa' l' w' sv h hl hf IT hk=>?_
  ·rcases List.mem_append.1 hq with hq|hq
   ·obtain⟨h1,h2⟩:=LC q hq
    refine⟨?_,by omega⟩
    simp only[bh]
    have e1:(q.1==n0+1)=false:=by simp;omega
    have e2:(q.1==n0)=false:=by simp;omega
    rw[e1,e2];exact h1
   ·obtain rfl:=aY.1 hq
    exact⟨by simp,by simp⟩
  ·have Se:∀ j,i+1<=j->sv j=(λj=>if j=i then .slice vb sub.len vc else sv j) j:=λj hj=>by simp only;rw[al aa]
   refine hc a' l' w' (λj=>if j=i then .slice vb sub.len vc else sv j) h (λq hq=>hl q ?_) ⟨by simp only[aw];exact hv.kn hk,fj.congr sr _ _ _ Se hf⟩ (by simp only[ky,List.length_cons];rw[<- jf sr sv _ (i+1) Se,IT]) (Jd.trans hk)
   simp only[gZ,ky,List.zip_cons_cons,aw]at hq
   rw[<- jf sr sv _ (i+1) Se]at hq
   simpa using hq
theorem o7 {a:Act}:∀ (ss:List Nat) (vs:List Value),ss.length=vs.length->(∀ p∈ss.zip vs,a.get p.1=p.2)->ss.map a.get=vs
 | [],[],_,_=>rfl
 | [],_::_,h,_=>by simp at h
 | _::_,[],h,_=>by simp at h
 | s::ss,v::vs,h,hh=>by
  have h1:=hh (s,v) ab
  have h2:=o7 ss vs (by simpa using h) λp hp=>hh p (by simp only[List.zip_cons_cons];exact aA _ hp)
  simp only[List.map_cons,h2]
  rw[h1]
theorem m8:∀ (its:List BI) (n:Nat),(gZ its n).length=its.length
 | [],_=>rfl
 | (_,none)::r,n=>by simp[gZ,m8 r]
 | (_,some _)::r,n=>by simp[gZ,m8 r]
def FN (P:Program)(S:SN)(n:Nat)(sf:SFs):Prop:=∀ (sv:Nat->Value) (w:World),(Instr.buildSlice S.tFs n (xO 0 (ky sf sv 0)).toArray).run P w=.ok (.slice (some ⟨w.heap.size,0,none⟩) n n) (w.alloc (.cells (uT sf sv 0).toArray S.tF (0,0)))
theorem Cm {ops:Array Oper}{Q:Exit->Act->World->Prop}{rest:List Oper}{N:Nat}{its:List BI}{sf:SFs}{a:Act}{l:List (Nat × Value)}{w:World}(hb:FV P S its sf)(Jq:FN P S its.length sf)(IT:its.length=sf.len)(Li:sf.len<=maxLen)(h:St N a l)(hn:gA its 1<N)(_hz:l.lookup 0=l.lookup 0)
  (hc:∀ a' l' w' v,St N a' ((gA its 1,v)::l')->(l.lookup 0).all (λ_v0=>true)=true->(∀ x,l.lookup 0=some x->l'.lookup 0=some x)->ge w' sf v->br (λ_=>False) w w'->wpList P ops Q rest a' w'):wpList P ops Q (lG S its 1++(mk (some (gA its 1)) (.buildSlice S.tFs its.length (Er 0 (gZ its 1)).toArray)::rest)) a w:=by
 have h0:∀ p∈(match l.lookup 0 with|some x=>[(0,x)]|none=>[]),l.lookup p.1=some p.2/\p.1<1:=by
  cases hx:l.lookup 0 with
  | none=>intro p hp;cases hp
  | some x=>intro p hp;obtain rfl:=aY.1 hp;exact⟨hx,by simp⟩
 refine qq its sf 0 1 a l _ w hb h h0 aa λa l' w1 sv h hl hf Rc hk=>?_
 have K7:(gZ its 1).map a.get=ky sf sv 0:=o7 _ _ (by rw[m8,Rc]) λp hp=>h.get _ _ (hl p (List.mem_append_right _ hp))
 have YT:=qa a (gZ its 1) 0
 rw[K7]at YT
 refine bP (v:=.slice (some ⟨w1.heap.size,0,none⟩) its.length its.length) (w':=w1.alloc (.cells (uT sf sv 0).toArray S.tF (0,0))) ?_ ?_
 ·have e:(Er 0 (gZ its 1)).toArray.map (λp=>(p.1,a.eval p.2))=(xO 0 (ky sf sv 0)).toArray:=by rw[List.map_toArray,YT]
  simp[execOp,mk,e,Jq sv w1]
 ·have IV:br (λ_=>False) w1 (w1.alloc (.cells (uT sf sv 0).toArray S.tF (0,0))):=br.alloc _ _ _
  refine hc _ l' _ _ (h.put _ hn) (by cases l.lookup 0<;>rfl) (λx hx=>hl (0,x) (List.mem_append_left _ (by rw[hx];exact aY.2 rfl))) (.inr ⟨w1.heap.size,0,_,by rw[IT],Li,?_⟩) (hk.trans IV)
  exact xX sf sv 0 0 (fj.kn IV sf sv 0 hf) (dA w1 (uT sf sv 0) S.tF)
theorem sub_calls (T:RefT P S){f N:Nat}{its:List BI}{sf:SFs}(hfn:FnIs P f N [0] (cSub S its))(hn:gA its 1<N)(hb:FV P S its sf)(Jq:FN P S its.length sf)(IT:its.length=sf.len)(Li:sf.len<=maxLen):Ent P f/\BuildC P f sf:=by
 refine⟨hfn.ent,λw=>?_⟩
 refine fb T.mixed hfn ab [] ab λa h=>?_
 unfold cSub
 refine bI (cq (b5 h .c aa λa h=>wpList_nil ?_))
 refine bI (cq (Cm hb Jq IT Li h hn rfl λa l' w' v h _ _ hv hk=>b5 h (v:=v) (.t ab) aa λa h=>wpList_nil (.ret ?_)))
 exact iH (RR:=λe w'=>∃ v,e=.returned v/\ge w' sf v/\br (λ_=>False) w w') h rfl ⟨v,rfl,hv,hk⟩
def MsgBC (P:Program)(f:Nat)(flex:Int)(sf:SFs):Prop:=∀ w,Calls P f ([]:List Value).toArray w λe w'=>∃ v,e=.returned (.agg [v,.int .i64 flex].toArray)/\ge w' sf v/\br (λ_=>False) w w'
theorem msgb_calls (T:RefT P S)(bM:∀ (x:Int) (base:Option Addr) (n c:Nat) (w:World),(Instr.build S.tMs #[(1,.int .i64 x),(0,.slice base n c)]).run P w=.ok (.agg #[.slice base n c,.int .i64 x]) w){f N:Nat}{flex:Int}{its:List BI}{sf:SFs}(hfn:FnIsC P f N 0 S.tMs (cMsgB S flex its))(hn:gA its 1+1<N)(hb:FV P S its sf)(Jq:FN P S its.length sf)(IT:its.length=sf.len)(Li:sf.len<=maxLen):Ent P f/\MsgBC P f flex sf:=by
 refine⟨hfn.ent,λw=>?_⟩
 refine pc T.mixed hfn [] ab λa h=>?_
 unfold cMsgB
 refine bI (cq (gP h (T.zM w) aa λa h=>wpList_nil ?_))
 have Mt:=bO w (.cells (Value.agg #[bR,.int .i64 0]).cells S.tMs (0,0))
 have JM:br (λ_=>False) w (w.alloc (.cells (Value.agg #[bR,.int .i64 0]).cells S.tMs (0,0))):=br.alloc _ _ _
 generalize w.alloc (.cells (Value.agg #[bR,.int .i64 0]).cells S.tMs (0,0))=w1 at Mt JM ⊢
 refine bI (cq (Cm hb Jq IT Li h aa rfl λa l' w2 v h _ h0 hv hk=>?_))
 have h0':=h0 _ rfl
 obtain⟨vb,vc,SP,_⟩:=hv.form
 have hng:¬ gA its 1=0:=by
  intro hg
  have:∀ (r:List BI) (n:Nat),n<=gA r n:=λr=>by
   induction r with
   | nil=>intro n;exact ae n
   | cons x r ih=>
    intro n
    obtain⟨q,y⟩:=x
    cases y with
    | none=>exact am (Nat.le_succ n) (ih (n+1))
    | some _=>exact am (Nat.le_add_right n 2) (ih (n+2))
  have:=this its 1
  omega
 refine kj h (qs:=#[(1,.int .i64 flex),(0,v)]) (λn a hs=>by
  have e:=Hd.t (l:=_) (i:=gA its 1) (v:=v) ab n a hs
  simp only[tm]at e
  simp[ki,Act.eval,tm]at e ⊢
  exact e) (by rw[SP];exact bM flex vb _ vc w2) hn λa h=>?_
 rw[<- SP]at h
 have Ke:w2.heap[w.heap.size]?=some (.cells (Value.agg #[bR,.int .i64 0]).cells S.tMs (0,0)):=by rw[hk.block _ (aj.1 Mt).1 id];exact Mt
 have Jv:∀ u∈[v,.int .i64 flex],u.oneCell'=true:=by
  intro u hu
  simp only[aI,bd,or_false]at hu
  rcases hu with rfl|rfl
  ·rw[SP];rfl
  ·rfl
 have l0:((gA its 1+1,Value.agg #[v,.int .i64 flex])::(gA its 1,v)::l').lookup 0=some (pt w.heap.size 0):=by
  simp only[bh]
  have e1:((0:Nat)==gA its 1+1)=false:=by simp
  have e2:((0:Nat)==gA its 1)=false:=by simp;omega
  rw[e1,e2];exact h0'
 refine ix h (cs:=[v,.int .i64 flex]) (v:=.agg #[v,.int .i64 flex]) (.t l0) (.t ab) (by simp[Value.cells]) T.vM.size Ke rfl Jv (wpList_nil (.ret ⟨h.defers,⟨w.heap.size,0,none⟩,.agg [v,.int .i64 flex].toArray,h.get 0 _ l0,?_,v,rfl,?_,?_⟩))
 ·have hr:=setRow_heap _ _ _ ([v,.int .i64 flex]:List Value).toArray _ _ Ke
  have IS:∀ j x,([v,.int .i64 flex]:List Value)[j]?=some x->(w2.setRow w.heap.size ([v,.int .i64 flex]:List Value).toArray).cell? ((⟨w.heap.size,0,none⟩:Addr).add j)=some x:=λj x hj=>by
   rw[Addr.add_lit]
   simp only[World.cell?,hr,Option.isSome_none,ag,ak,aN,aQ,hj]
  have MM:=run_loadCells_list (P:=P) (w2.setRow w.heap.size ([v,.int .i64 flex]:List Value).toArray) ⟨w.heap.size,0,none⟩ [v,.int .i64 flex] IS
  have h2:([v,Value.int .i64 flex]:List Value).length=2:=rfl
  rw[h2]at MM
  simp[loadVar,T.vM.agg,T.vM.size,MM]
 ·have WY:∀ b o cs,cs.length=8->bB w2 b o cs->bB (w2.setRow w.heap.size ([v,.int .i64 flex]:List Value).toArray) b o cs:=λb o cs h8 Js j x hj=>by
   by_cases hbg:b=w.heap.size
   ·exfalso
    subst hbg
    have h7:=Js 7 (cs[7]' aa) (aq aa)
    have Jc:(Value.agg #[bR,.int .i64 0]).cells.size=2:=rfl
    simp only[World.cell?,Ke,Option.isSome_none,ag,ak]at h7
    rw[Array.getElem?_eq_none (by rw[Jc];omega)]at h7
    cases h7
   ·have IU:=e8 (Js j x hj)
    exact(br.setRow (λi=>i=w.heap.size) w2 _ _ rfl).cell hbg (Js j x hj)
  rcases hv with hv|⟨b,o,c,e1,e2,e3⟩
  ·exact .inl hv
  ·exact .inr ⟨b,o,c,e1,e2,e3.imp WY sf b o⟩
 ·exact(((JM.trans hk).mono (Y:=λi=>i=w.heap.size) λ_ _ h=>h.elim).trans (br.setRow _ _ _ _ rfl)).mono λi hi hX=>by omega
def oT (flex ver:Int):Bool:=decide (0<=flex)&&decide (flex<=ver)
theorem zV (T:RefT P S)(hfn:FnIs P S.fWrite 21 [6] (csWr S))(Ss:Ent P S.fPart){sf:SFs}(hP:r3 P S sf){flex ver:Int}{k:Nat}{cs:List Value}{t:Tr}{fv:Value}(W:World)(J9:ge W sf fv)(ht:TrRp W k cs t)(hlim:(bU ver (oT flex ver) sf t).length<=fq) :
  Calls P S.fWrite [.agg [fv,.int .i64 flex].toArray,.int .i64 ver,.agg cs.toArray].toArray W (de S.tU8 (bU ver (oT flex ver) sf t) W):=by
 have h5:=ht.len
 refine fb T.mixed hfn ab _ ab λa h=>?_
 unfold csWr
 refine bI (cq (fy h (cs:=[fv,.int .i64 flex]) (.t rfl) aa λa h=>?_))
 have Jd:br (λ_=>False) W (W.alloc (.cells [fv,.int .i64 flex].toArray S.tMs (0,0))):=br.alloc _ _ _
 have JC:=dA W [fv,.int .i64 flex] S.tMs
 generalize W.alloc (.cells [fv,.int .i64 flex].toArray S.tMs (0,0))=w1 at Jd JC ⊢
 refine fy h (cs:=cs) (.t rfl) aa λa h=>b5 h .c aa λa h=>wpList_nil ?_
 have IV:br (λ_=>False) w1 (w1.alloc (.cells cs.toArray S.tT (0,0))):=br.alloc _ _ _
 have JA:=dA w1 cs S.tT
 generalize w1.alloc (.cells cs.toArray S.tT (0,0))=w2 at IV JA ⊢
 have JC:=bB.kn IV JC
 have hk:=Jd.trans IV
 have hf:=dW.of hk
 refine bI (cq (cH h (.t rfl) T.m0 aa λa h=>ce h (.t rfl) T.m0.var (JC.at (j:=0) rfl) aa λa h=>b9 h (.t rfl) aa λa h=>cH h (.t rfl) T.m1 aa λa h=>ce h (.t rfl) T.m1.var (JC.at (j:=1) rfl) aa λa h=>cy h rfl (.t rfl) .i aa λa h=>b9 h (.t rfl) aa λa h=>?_))
 have rest:∀ (a:Act) (b:Bool) (R:Exit->Act->World->Prop) (ops:Array Oper),St 21 a [(8,fv),(9,.int .i64 ver),(18,.bool b),(5,pt w1.heap.size 0)]->b=oT flex ver->(∀ a' w',(a'.defers=[]/\de S.tU8 (bU ver (oT flex ver) sf t) W (.returned (cE [6] a')) w')->R .normal a' w') ->
   wpList P ops R [mk (some 19) (.load S.tT (tm 5)),cl (some 20) S.fPart [(tm 8),(tm 9),(tm 18),(tm 19)],mk (some 6) (.assign (tm 20))] a w2:=by
  intro a b R ops h hb hR
  refine dK h (cs:=cs) (.t rfl) (by rw[h5];exact T.vT) JA aa λa h=>?_
  refine cX h Ss (vs:=[fv,.int .i64 ver,.bool b,.agg cs.toArray]) (λn a h=>by
   simp only[List.map_cons,List.map_nil]
   rw[Hd.t (l:=_) (i:=8) rfl n a h,Hd.t (l:=_) (i:=9) rfl n a h,Hd.t (l:=_) (i:=18) rfl n a h,Hd.t (l:=_) (i:=19) rfl n a h]) (by rw[hb];exact hP w2 ver _ k cs t fv (J9.far hf) (ht.far hf) hlim) aa λe w3 hR3=>?_
  obtain⟨v,rfl,hd,IZ⟩:=hR3
  refine⟨v,rfl,λa h=>b5 h (.t rfl) aa λa h=>wpList_nil (hR _ _ ?_)⟩
  exact iH (RR:=de S.tU8 (bU ver (oT flex ver) sf t) W) h rfl ⟨v,rfl,(Gr.lower hk.size (Gr.refl hd)).dst,hk.trans IZ⟩
 cases hb:cg .geq flex 0 with
 | false=>
  rw[hb]at h
  have hn:¬ 0<=flex:=by simpa[cg]using hb
  refine cm h rfl rfl rfl aa ab aa λa h=>cm h rfl rfl rfl aa ab aa λa h=>cm h rfl rfl rfl aa ab aa λa h=>cm h rfl rfl rfl aa ab aa λa h=>?_
  refine dZ h (.t rfl) (.t rfl) .c aa λa h=>rest a false _ _ (h.pick ⟨rfl,rfl,rfl,rfl,trivial⟩) (by simp[oT,hn]) λa' w' hh=>.ret hh
 | true=>
  rw[hb]at h
  have hn:0<=flex:=by simpa[cg]using hb
  refine jJ h rfl rfl rfl aa (.t rfl) aa λa h=>ls h rfl rfl rfl aa (.t rfl) T.m1 aa λa h=>iW h rfl rfl rfl aa (.t rfl) T.m1.var (JC.at (j:=1) rfl) aa λa h=>my h rfl rfl rfl aa rfl (.t rfl) (.t rfl) aa λa h=>?_
  refine dZ h (.t rfl) (.t rfl) .c aa λa h=>rest a (cg .geq ver flex) _ _ (h.pick ⟨rfl,rfl,rfl,rfl,trivial⟩) (by simp[oT,hn,cg]) λa' w' hh=>.ret hh
theorem leafC_of (T:RefT P S)(vB:cv P S.tB false 1)(h1:FnIs P S.fUv 20 [2] (csUvr S))(h2:FnIs P S.fFix 22 [4] (csFi S))(h3:FnIs P S.fCnt 28 [8] (csCn S))(h4:FnIs P S.fWid 11 [2] (csWd S))(h5:FnIs P S.fWhole 8 [2] (csWh S))(h6:FnIs P S.fThings 8 [2] (csTh S))(h7:FnIs P S.fHas 20 [4] (csHs S))(h8:FnIs P S.fNull 20 [6] (csNu S))(h9:FnIs P S.fKnown 23 [2] (csKw S))(ha:FnIsC P S.fAt 16 4 S.tT (csAt S))(hb:FnIs P S.fUnk 85 [4] (csUn S)):LeafC P S where
 tab:=T
 vB:=vB
 uvE:=h1.ent
 uvC _ w hx:=qG T h1 hx w
 fixE:=h2.ent
 fixC x _ w hk:=ro T h2 x hk w
 cntE:=h3.ent
 cntC fx null _ _ w hm hk:=zo T h1.ent (λ_ w hx=>qG T h1 hx w) h2.ent (λx _ w hk=>ro T h2 x hk w) h3 fx null hm hk w
 widE:=h4.ent
 widC kind w:=yr T h4 kind w
 whE:=h5.ent
 whC _ _ _ _ hv:=Ab T h5 hv
 thE:=h6.ent
 thC _ _ _ _ hv:=Ar T h6 hv
 hasE:=h7.ent
 hasC kind lo hi nul tag df of sv ver w:=zg T h7 kind lo hi nul tag df of sv ver w
 nullE:=h8.ent
 nullC kind lo hi nul tag df of sv ver nm tn x1 x3 x4 w:=wG T vB h8 kind lo hi nul tag df of sv ver nm tn x1 x3 x4 w
 knE:=h9.ent
 knC _ _ w ht hf:=uK T h9 ht w hf
 atE:=ha.ent
 atC _ _ _ _ w ht:=Cp T ha w ht
 unE:=hb.ent
 unC sf fv uv raw w ht hf hr:=Am T h9.ent (λ_ _ w ht hf=>uK T h9 ht w hf) hb sf fv uv raw w ht hf hr
end
end
