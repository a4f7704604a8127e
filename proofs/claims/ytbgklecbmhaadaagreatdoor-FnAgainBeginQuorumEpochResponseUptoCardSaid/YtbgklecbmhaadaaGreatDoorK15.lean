/-
  PLAIN LAWS AND CONTRACTS of messages, part 15.
-/
import Derived.Test.YtbgklecbmhaadaaGreatDoorK13

namespace Go.Proofs.YtbgklecbmhaadaaGreatDoor.Kx
open Go
section
open Go
set_option maxRecDepth 4000
section
variable {P:Program} {S:SN}
theorem Ay (C:LeafC P S){W:World}{w:World}{t:Tr}{B:Nat}{sv lv uv:Value}(Jd:js W sv t.octets)(hk:cv W w)(hB:ao w B 0 [.int .i64 t.num,sv,.bool t.null,lv,uv])
  {a:Act} (h:St 70 a [(11,pt B 0)]) {R:Exit->Act->World->Prop} (hR:∀ a' w',(a'.defers=[]/\b8 S.tU8 (wZ t.octets) W (.returned (a'.get 12)) w')->R .ret a' w') :
  aQ P (.seq (rg (BE S)) (.seq (rg (BD S)) (.seq (rg (BC S)) .ret))) R a w:=by
 have T:=C.tab
 obtain⟨i,hi,hz,G0,L5⟩:=T.z8
 have Sb:=run_make (P:=P) w S.tSl S.tU8 i (.int .u8 0) T.oct.und hi hz .i64 .i64 16 16 (by omega) (by omega) (by rw[L5];omega) (by omega)
 have Lb:madeCells (Value.int .u8 0).cells ((16:Int).toNat*i.size)=(List.replicate 16 (bF 0)).toArray:=by
  rw[G0]
  apply Array.ext
  ·simp[madeCells]
  ·intro k h1 h2
   have e1:(List.replicate 16 (bF 0)).toArray[k]=bF 0:=by rw[List.getElem_toArray,List.getElem_replicate]
   rw[e1]
   simp only[madeCells,Array.getElem_map,Array.getElem_range,Value.cells]
   simp[Nat.mod_one,bF]
 rw[Lb]at Sb
 refine aw (aW (aD (v:=.slice (some ⟨w.heap.size,0,none⟩) 16 16) (w':=w.alloc (.cells (List.replicate 16 (bF 0)).toArray S.tU8)) ?_ ?_))
 ·have e:a.eval (ki .i64 16)=.int .i64 16:=rfl
  simp[execOp,mk,e,Sb]
 have h:=h.put (d:=26) (.slice (some ⟨w.heap.size,0,none⟩) 16 16) (by omega)
 have hn:=aB w (.cells (List.replicate 16 (bF 0)).toArray S.tU8)
 have Gy:ac (fun _=>False) w (w.alloc (.cells (List.replicate 16 (bF 0)).toArray S.tU8)):=ac.alloc _ _ _
 generalize w.alloc (.cells (List.replicate 16 (bF 0)).toArray S.tU8)=w1 at hn Gy ⊢
 refine ah h (.t rfl) (by omega) fun a h=>wpList_nil ?_
 have Gu:=Jd.far (hk.kn Gy)
 obtain⟨bx,cx,rfl,Ha⟩:=Gu.form
 refine aw (aW (al h (.t rfl) (by omega) fun a h=>bk h (.t rfl) T.t1 (by omega) fun a h=>aN h (.t rfl) T.t1.var ((ao.kn Gy hB).at (j:=1) rfl) (by omega) fun a h=>?_))
 have KP:(t.octets.take 16).length=min t.octets.length 16:=by rw[List.length_take,Nat.min_comm]
 obtain⟨x,w2,GF,Ik,Gs⟩:∃ x w2,(Builtin.copy_ #[S.tSl,S.tSl] S.tInt #[.slice (some ⟨w.heap.size,0,none⟩) 16 16,.slice bx t.octets.length cx]).run P w1=.ok x w2/\w2.heap[w.heap.size]?=some (.cells ((wZ t.octets).map bF).toArray S.tU8 (0,0))/\ac (fun k=>k=w.heap.size) w1 w2:=by
  rcases Ha with h0|⟨b,o,rfl,Ha⟩
  ·refine⟨_,_,qj T.oct.und T.vU8.size (by rw[h0];rfl),?_,ac.refl _ _⟩
   rw[hn,h0]
   simp[wZ]
  ·refine⟨_,_,qi (cs:=(t.octets.take 16).map bF) T.oct.und T.vU8.size (by rw[List.length_map,KP]) (fun j v hj=>?_) hn (by rw[List.length_map,KP,List.size_toArray,List.length_replicate];omega) qt,?_,ac.setRow _ _ _ _ rfl⟩
   ·rw[List.getElem?_map,Option.map_eq_some_iff]at hj
    obtain⟨y,hy,rfl⟩:=hj
    rw[List.getElem?_take]at hy
    split at hy
    ·rw[Addr.add_lit];exact Ha j y hy
    ·cases hy
   ·rw[setRow_heap _ _ _ _ _ _ hn]
    congr 2
    simp only[aI,wZ,List.take_zero,List.nil_append,Nat.zero_add,List.map_append,List.length_map,List.map_replicate]
    congr 2
    rw[List.drop_replicate,KP]
    congr 1
    omega
 have Je:(execOp a.eval (bi (some 30) .copy [tm 27,tm 29] [S.tSl,S.tSl] S.tInt)).run P w1=.ok (.value x) w2:=by
  simp[execOp,bi,resolve,invoke,builtin,Hd.t (l:=_) (i:=27) rfl 70 a h,Hd.t (l:=_) (i:=29) rfl 70 a h,GF]
 refine By h Je (by omega) fun a h=>wpList_nil ?_
 refine aw (aW (al h (.t rfl) (by omega) fun a h=>ah h (.t rfl) (by omega) fun a h=>wpList_nil (.ret (hR _ _ ⟨h.defers,.slice (some ⟨w.heap.size,0,none⟩) 16 16,by rw[h.get 12 _ rfl],?_,?_⟩))))
 ·exact .inr ⟨w.heap.size,16,((wZ t.octets).map bF).toArray,by rw[jZ],hk.size,Ik,by rw[jZ];omega,by simp[maxLen],by simp[jZ],fun i x hx=>by simp[hx]⟩
 ·exact cv.keeps ((hk.kn Gy).up Gs fun i hi=>by subst hi;exact hk.size)
def Dq (P:Program)(S:SN)(sub:SFs):Prop:=∀ (w:World) (kind:Nat) (null:Bool) (ver:Int) (fx:Bool) (k:Nat) (cs:List Value) (t:Tr) (fv:Value),ei w sub fv->TrRp w k cs t->(eq kind null fx (aM ver fx sub) t).length<=d7 ->
 Calls P S.fVal [.int .i64 (kind:Int),fv,.bool null,.int .i64 ver,.bool fx,.agg cs.toArray].toArray w (b8 S.tU8 (eq kind null fx (aM ver fx sub) t) w)
theorem xB (C:LeafC P S)(hfn:FnIs P S.fVal 70 [12] (csVa S))(Pk:Ent P S.fPart){sub:SFs}(hP:p5 P S sub):Dq P S sub:=by
 intro W kind null ver fx k cs t fv GV ht hlim
 have T:=C.tab
 have LB:=ht
 cases k with
 | zero=>exact ht.elim
 | succ k=>
 obtain⟨sv,lv,uv,rfl,Jd,Lj,LP⟩:=ht
 refine dm T.mixed hfn (by simp) _ (by simp) fun a h=>?_
 unfold csVa
 refine aw (aW (dG h (.t rfl) (by omega) fun a h=>?_))
 have hk:ac (fun _=>False) W (W.alloc (.cells [.int .i64 t.num,sv,.bool t.null,lv,uv].toArray S.tT (0,0))):=ac.alloc _ _ _
 have hB:=ce W [.int .i64 t.num,sv,.bool t.null,lv,uv] S.tT
 generalize W.alloc (.cells [.int .i64 t.num,sv,.bool t.null,lv,uv].toArray S.tT (0,0))=w at hk hB ⊢
 have hf:cv W w:=cv.of hk
 refine ah h .c (by omega) fun a h=>wpList_nil ?_
 have h:St 70 a [(0,.int .i64 (kind:Int)),(1,fv),(2,.bool null),(3,.int .i64 ver),(4,.bool fx),(11,pt W.heap.size 0)]:=h.pick ⟨rfl,rfl,rfl,rfl,rfl,rfl,trivial⟩
 have fin:∀ (a':Act) (w':World),(a'.defers=[]/\b8 S.tU8 (eq kind null fx (aM ver fx sub) t) W (.returned (a'.get 12)) w')->(a'.defers=[]/\b8 S.tU8 (eq kind null fx (aM ver fx sub) t) W (.returned (bj [12] a')) w'):=fun a' w' hh=>hh
 refine aw (aw (aW (al h (.t rfl) (by omega) fun a h=>wpList_nil ?_)))
 refine .block (aw (aW (aZ h rfl (.t rfl) .i (by omega) fun a h=>ah h (.t rfl) (by omega) fun a h=>wpList_nil ?_)))
 refine bf h rfl (fun hb=>?_) (fun hb=>?_)
 ·-- a bool
  have HK:kind=0:=by simp[aO]at hb;omega
  subst HK
  refine aw (aW (bk h (.t rfl) T.t0 (by omega) fun a h=>aN h (.t rfl) T.t0.var (hB.at (j:=0) rfl) (by omega) fun a h=>cK h (.t rfl) .i (by simp) (r7 w) (by omega) fun a h=>eT h (.t rfl) T.dI64 T.dU8 (by omega) fun a h=>?_))
  have hw:(Value.int .u8 (IntKind.u8.wrap (t.num%2)))=bF (UInt8.ofNat (t.num%2).toNat):=by
   have e:IntKind.u8.wrap (t.num%2)=(((t.num%2).toNat:Nat):Int):=by simp[IntKind.wrap,IntKind.bits,IntKind.signed];omega
   rw[e,lV (by omega)]
  rw[hw]at h
  refine pQ h T.oct (.t rfl) (by omega) fun v a hd h=>ah h (.t rfl) (by omega) fun a h=>wpList_nil (.ret ?_)
  refine fQ (RR:=b8 S.tU8 (eq 0 null fx (aM ver fx sub) t) W) h rfl (pi ?_ (hf.kn (ac.alloc _ _ _)))
  exact(Gr.lower (L':=W.heap.size) hk.size (Gr.refl hd)).dst
 have h0:kind≠0:=by simp[aO]at hb;omega
 refine aw (aW (aZ h rfl (.t rfl) .i (by omega) fun a h=>ah h (.t rfl) (by omega) fun a h=>wpList_nil ?_))
 refine bf h rfl (fun hb=>?_) (fun hb=>?_)
 ·have HK:kind=7:=by simp[aO]at hb;omega
  subst HK
  exact Ay C Jd hf hB (h.pick ⟨rfl,trivial⟩) fun a' w' hh=>fin a' w' hh
 have h7:kind≠7:=by simp[aO]at hb;omega
 refine aw (aW (aZ h rfl (.t rfl) .i (by omega) fun a h=>ah h (.t rfl) (by omega) fun a h=>wpList_nil ?_))
 refine bf h rfl (fun hb=>?_) (fun hb=>?_)
 ·have HK:kind=8:=by simp[aO]at hb;omega
  subst HK
  exact xA C Jd hf hB hlim (h.pick ⟨rfl,rfl,rfl,trivial⟩) fun a' w' hh=>fin a' w' hh
 have h8:kind≠8:=by simp[aO]at hb;omega
 refine aw (aW (aZ h rfl (.t rfl) .i (by omega) fun a h=>ah h (.t rfl) (by omega) fun a h=>wpList_nil ?_))
 refine bf h rfl (fun hb=>?_) (fun hb=>?_)
 ·have HK:kind=9:=by simp[aO]at hb;omega
  subst HK
  exact x9 C Jd hf hB hlim (h.pick ⟨rfl,rfl,rfl,trivial⟩) fun a' w' hh=>fin a' w' hh
 have h9:kind≠9:=by simp[aO]at hb;omega
 refine aw (aW (aZ h rfl (.t rfl) .i (by omega) fun a h=>ah h (.t rfl) (by omega) fun a h=>wpList_nil ?_))
 refine bf h rfl (fun hb=>?_) (fun hb=>?_)
 ·have HK:kind=10:=by simp[aO]at hb;omega
  subst HK
  have e:eq 10 null fx (aM ver fx sub) t=aM ver fx sub t:=by simp[eq]
  rw[e]at hlim fin ⊢
  refine aw (aW (al h (.t rfl) (by omega) fun a h=>al h (.t rfl) (by omega) fun a h=>al h (.t rfl) (by omega) fun a h=>ck h (cs:=[.int .i64 t.num,sv,.bool t.null,lv,uv]) (.t rfl) T.vT hB (by omega) fun a h=>?_))
  refine br h Pk (vs:=[fv,.int .i64 ver,.bool fx,.agg [.int .i64 t.num,sv,.bool t.null,lv,uv].toArray]) (fun n a h=>by
   simp only[List.map_cons,List.map_nil]
   rw[Hd.t (l:=_) (i:=60) rfl n a h,Hd.t (l:=_) (i:=61) rfl n a h,Hd.t (l:=_) (i:=62) rfl n a h,Hd.t (l:=_) (i:=63) rfl n a h]) (hP w ver fx (k+1) _ t fv (GV.far hf) (LB.far hf) hlim) (by omega) fun e w' hR=>?_
  obtain⟨v,rfl,hd,Gs⟩:=hR
  refine⟨v,rfl,fun a h=>ah h (.t rfl) (by omega) fun a h=>wpList_nil (.ret ?_)⟩
  exact fQ (RR:=b8 S.tU8 (aM ver fx sub t) W) h rfl (pi (Gr.lower (L':=W.heap.size) hk.size (Gr.refl hd)).dst (hf.kn Gs))
 have Iz:kind≠10:=by simp[aO]at hb;omega
 have e:eq kind null fx (aM ver fx sub) t=be (bv kind) t.num:=by simp[eq,h0,h7,h8,h9,Iz]
 rw[e]at hlim fin ⊢
 refine .skip (aw (rL [false,false,false,true,true,true] (fun w'=>ao w' W.heap.size 0 [.int .i64 t.num,sv,.bool t.null,lv,uv]/\cv W w') (by kernel_rfl) ?_))
 show gn P _ [mk (some 65) (.fieldAddr S.tT (tm 11) 0),mk (some 66) (.load S.tI64 (tm 65)),mk (some 67) (.move (tm 0))] a fun af=>eK P _ _ [cl (some 68) S.fWid [(tm 67)],cl (some 69) S.fFix [(tm 66),(tm 68)],mk (some 12) (.assign (tm 69))] af w.drew
 refine jC h (.t rfl) T.t0 (by omega) fun a h=>gx h (.t rfl) T.t0.var (fun w' hI=>hI.1.at (j:=0) rfl) (by omega) fun a h=>db h (.t rfl) (by omega) fun a h=>jB ?_
 have Jj:ao w.drew W.heap.size 0 [.int .i64 t.num,sv,.bool t.null,lv,uv]/\cv W w.drew:=⟨ao.kn (ac.drew _ _) hB,hf.kn (ac.drew _ _)⟩
 refine cR h Jj C.widE (vs:=[.int .i64 (kind:Int)]) (fun n a h=>by
  simp only[List.map_cons,List.map_nil]
  rw[Hd.t (l:=_) (i:=67) rfl n a h]) (C.widC kind w.drew) (by omega) fun e w' hR=>?_
 obtain⟨rfl,rfl⟩:=hR
 have hw8:bv kind<=8:=by
  simp only[bv]
  repeat' split
  all_goals omega
 refine⟨_,rfl,fun a h=>cR h Jj C.fixE (vs:=[.int .i64 t.num,.int .i64 (bv kind:Int)]) (fun n a h=>by
  simp only[List.map_cons,List.map_nil]
  rw[Hd.t (l:=_) (i:=66) rfl n a h,Hd.t (l:=_) (i:=68) rfl n a h]) (C.fixC t.num _ w.drew hw8) (by omega) fun e w' hR=>?_⟩
 obtain⟨v,rfl,hd,Gs⟩:=hR
 refine⟨v,rfl,fun a h=>fZ h ⟨ao.kn Gs Jj.1,Jj.2.kn Gs⟩ (.t rfl) (by omega) fun a h=>j7 ⟨ao.kn Gs Jj.1,Jj.2.kn Gs⟩ (.ret ?_)⟩
 exact fQ (RR:=b8 S.tU8 (be (bv kind) t.num) W) h rfl (pi (Gr.lower (L':=W.heap.size) Jj.2.size (Gr.refl hd)).dst (Jj.2.kn Gs))
end
end
section
open Go
set_option maxRecDepth 4000
section
variable {P:Program} {S:SN}
def FK (P:Program)(S:SN)(sub:SFs):Prop:=∀ (w:World) (kind:Nat) (lo hi nul tag df:Int) (of:Nat) (sv:Value) (ver:Int) (fx:Bool) (k:Nat) (cs:List Value) (t:Tr),ei w sub sv->TrRp w k cs t->(dZ kind nul of ver fx (aM ver fx sub) t).length<=d7 ->
 Calls P S.fField [.agg (aJ kind lo hi nul tag df of sv).toArray,.int .i64 ver,.bool fx,.agg cs.toArray].toArray w (b8 S.tU8 (dZ kind nul of ver fx (aM ver fx sub) t) w)
theorem wO (g:Tr->Bs){xs:List Tr}{i:Nat}{x:Tr}(h:xs[i]?=some x):((xs.drop i).map g).flatten=g x++((xs.drop (i+1)).map g).flatten:=by
 have Gq:=(List.getElem?_eq_some_iff.1 h).1
 rw[List.drop_eq_getElem_cons Gq,(List.getElem?_eq_some_iff.1 h).2]
 simp
theorem Be (C:LeafC P S)(P8:Ent P S.fVal){sub:SFs}(hV:Dq P S sub){W:World}{kind:Nat}{lo hi nul tag df:Int}{of:Nat}{sv:Value}{ver:Int}{fx:Bool}{k B:Nat}{xs:List Tr}{lv:Value}(GV:ei W sub sv)(Pr:du W 5 (TrRp W k) lv xs)(hB:ao W B 0 (aJ kind lo hi nul tag df of sv))
  {total:Bs} (hlim:total.length<=d7) {w:World} (hk:cv W w) {v:Value} {bs:Bs} (hd:aH w W.heap.size S.tU8 v bs) (G4:bs++(xs.map (eq of false fx (aM ver fx sub))).flatten=total) {a:Act} (h:St 76 a [(1,.int .i64 ver),(2,.bool fx),(4,pt B 0),(10,lv),(11,v)]) {R:Exit->Act->World->Prop}
  (hR:∀ a' w' v',a'.defers=[]->a'.get 8=v'->aH w' W.heap.size S.tU8 v' total->cv W w'->R .ret a' w') :
  aQ P (.seq (.seq (rg (zi S)) (.block 0 (.loop (.seq (rg (zh S)) (.seq (.cond (tm 32) .skip (.exit 0)) (.seq (.block 1 (.seq (rg (zg S)) (.region 1 (t8 S).toArray true))) (rg (t7 S)))))))) (.seq (rg (t5 S)) .ret)) R a w:=by
 have T:=C.tab
 obtain⟨bx,cx,Lj,_,Vt,_⟩:=Pr.form
 refine aw (aw (aW (al h (.t rfl) (by omega) fun a h=>?_)))
 have h':=h
 rw[Lj]at h'
 refine cr h' (.t rfl) T.dTs (by omega) fun a h=>al h .i (by omega) fun a h=>wpList_nil ?_
 rw[<- Lj]at h
 refine ee (fun m a' w'=>∃ (i:Nat) (v:Value) (bs:Bs),i+m=xs.length/\bs++((xs.drop i).map (eq of false fx (aM ver fx sub))).flatten=total/\aH w' W.heap.size S.tU8 v bs/\cv W w' /\
   St 76 a' [(1,.int .i64 ver),(2,.bool fx),(4,pt B 0),(10,lv),(11,v),(30,.int .i64 (xs.length:Int)),(31,.int .i64 (i:Int))]) xs.length
  ⟨xs.length,Nat.le_refl _,0,v,bs,by omega,by simpa using G4,hd,hk,h.pick ⟨rfl,rfl,rfl,rfl,rfl,rfl,rfl,trivial⟩⟩ ?_
 rintro m a w hm ⟨i,v,bs,Lz,G4,hd,hk,h⟩
 refine aw (aW (aZ h rfl (.t rfl) (.t rfl) (by omega) fun a h=>wpList_nil ?_))
 refine gm h rfl (fun hb=>?_) (fun hb=>?_)
 ·have Gq:i<xs.length:=by simp[aO]at hb;omega
  obtain⟨x,hx⟩:∃ x,xs[i]?=some x:=⟨_,List.getElem?_eq_getElem Gq⟩
  obtain⟨b,o,c,cs,hv,TH,GE,Oh⟩:=Pr.get hx
  rw[wO _ hx]at G4
  refine .skip (aw (.block (aw (aW (al h (.t rfl) (by omega) fun a h=>ah h (.t rfl) (by omega) fun a h=>wpList_nil ?_)))))
  refine rL [false,false,false,false,false,false,false,false,false,false,false,true,true,true] (fun w'=>cv W w') (by kernel_rfl) ?_
  show gn P _ [mk (some 34) (.move (tm 11)),mk (some 35) (.fieldAddr S.tF (tm 4) 6),mk (some 36) (.load S.tInt (tm 35)),mk (some 37) (.fieldAddr S.tF (tm 4) 7),mk (some 38) (.load S.tFs (tm 37)),mk (some 39) (.move (tm 1)),mk (some 40) (.move (tm 2)),mk (some 41) (.move (tm 10)),mk (some 42) (.move (tm 12)),mk (some 43) (.indexAddr S.tTs (tm 41) (tm 42)),mk (some 44) (.load S.tT (tm 43))] a
   fun af=>eK P _ _ [cl (some 45) S.fVal [(tm 36),(tm 38),(.const (.bool false)),(tm 39),(tm 40),(tm 44)],bi (some 46) .append [(tm 34),(tm 45)] [S.tSl,S.tSl] S.tSl,mk (some 11) (.assign (tm 46))] af w.drew
  refine db h (.t rfl) (by omega) fun a h=>jC h (.t rfl) T.f6 (by omega) fun a h=>gx h (.t rfl) T.f6.var (fun w' hI=>cv.cell hI (hB.at (j:=6) rfl)) (by omega) fun a h=>jC h (.t rfl) T.f7 (by omega) fun a h=>gx h (.t rfl) T.f7.var (fun w' hI=>cv.cell hI (hB.at (j:=7) rfl)) (by omega) fun a h=>?_
  refine db h (.t rfl) (by omega) fun a h=>db h (.t rfl) (by omega) fun a h=>db h (.t rfl) (by omega) fun a h=>db h (.t rfl) (by omega) fun a h=>?_
  have h':=h
  rw[hv]at h'
  refine xU h' (sz:=5) (.t rfl) (.t rfl) Gq T.dTs T.vT.size (by omega) fun a h=>fw h (cs:=cs) (.t rfl) (by rw[TH];exact T.vT) (fun w' hI=>cv.cells hI GE) (by omega) fun a h=>jB ?_
  have Gy:cv W w.drew:=hk.kn (ac.drew _ _)
  have Jg:aH w.drew W.heap.size S.tU8 v bs:=hd.keep (ac.drew (fun _=>False) _) fun _ _ h=>h
  have Gp:bs.length+(eq of false fx (aM ver fx sub) x).length<=d7:=by
   have:=congrArg List.length G4
   simp only[List.length_append]at this
   omega
  refine cR h Gy P8 (vs:=[.int .i64 (of:Int),sv,.bool false,.int .i64 ver,.bool fx,.agg cs.toArray]) (fun n a h=>by
   simp only[List.map_cons,List.map_nil]
   rw[Hd.t (l:=_) (i:=36) rfl n a h,Hd.t (l:=_) (i:=38) rfl n a h,Hd.t (l:=_) (i:=39) rfl n a h,Hd.t (l:=_) (i:=40) rfl n a h,Hd.t (l:=_) (i:=44) rfl n a h];rfl) (hV w.drew of false ver fx k cs x sv (GV.far Gy) (Oh.far Gy) (by omega)) (by omega) fun e w2 HP=>?_
  obtain⟨u,rfl,hu,Gs⟩:=HP
  have Gx:=Gy.kn Gs
  refine⟨u,rfl,fun a h=>sN h Gx T.oct (.t rfl) (.t rfl) (Jg.keep Gs fun _ _ h=>h) (ft T.oct hu) Gx.size Gp (by omega) fun v3 w3 a hg h=>?_⟩
  have GH:cv W w3:=Gx.up hg.keeps fun j hj=>(Jg.own hj).1
  refine fZ h GH (.t rfl) (by omega) fun a h=>j7 GH ?_
  refine aW (cK h (.t rfl) .i (by simp) (cY w3) (by omega) fun a h=>?_)
  have hw:IntKind.i64.wrap ((i:Int)+1)=((i+1:Nat):Int):=by simp only[maxLen]at Vt;simp[IntKind.wrap,IntKind.bits,IntKind.signed];omega
  rw[hw]at h
  refine al h (.t rfl) (by omega) fun a h=>wpList_nil ?_
  refine⟨m-1,by omega,by omega,i+1,v3,bs++eq of false fx (aM ver fx sub) x,by omega,by rw[List.append_assoc];exact G4,hg.dst,GH,?_⟩
  have h:=h.pick (m:=[(1,.int .i64 ver),(2,.bool fx),(4,pt B 0),(10,.slice (some ⟨b,o,none⟩) xs.length c),(11,v3),(30,.int .i64 (xs.length:Int)),(31,.int .i64 ((i+1:Nat):Int))]) ⟨rfl,rfl,rfl,rfl,rfl,rfl,rfl,trivial⟩
  rw[hv]
  exact h
 ·have Hm:¬ i<xs.length:=by simp[aO]at hb;omega
  rw[List.drop_of_length_le (by omega)]at G4
  simp only[List.map_nil,List.flatten_nil,List.append_nil]at G4
  subst G4
  refine .exit ?_
  show aQ P _ _ a w
  refine aw (aW (al h (.t rfl) (by omega) fun a h=>ah h (.t rfl) (by omega) fun a h=>wpList_nil (.ret (hR _ _ v h.defers (h.get 8 v rfl) hd hk))))
theorem zN (C:LeafC P S)(hfn:FnIs P S.fField 76 [8] (csFl S))(Pk:Ent P S.fPart)(P8:Ent P S.fVal){sub:SFs}(hP:p5 P S sub)(hV:Dq P S sub):FK P S sub:=by
 intro W kind lo hi nul tag df of sv ver fx k cs t GV ht hlim
 have T:=C.tab
 have LB:=ht
 cases k with
 | zero=>exact ht.elim
 | succ k=>
 obtain⟨tsv,tlv,tuv,rfl,Jd,Lj,LP⟩:=ht
 refine dm T.mixed hfn (by simp) _ (by simp) fun a h=>?_
 unfold csFl
 refine aw (aW (dG h (cs:=aJ kind lo hi nul tag df of sv) (.t rfl) (by omega) fun a h=>?_))
 have Gy:ac (fun _=>False) W (W.alloc (.cells (aJ kind lo hi nul tag df of sv).toArray S.tF (0,0))):=ac.alloc _ _ _
 have GZ:=ce W (aJ kind lo hi nul tag df of sv) S.tF
 generalize W.alloc (.cells (aJ kind lo hi nul tag df of sv).toArray S.tF (0,0))=w1 at Gy GZ ⊢
 refine dG h (cs:=[.int .i64 t.num,tsv,.bool t.null,tlv,tuv]) (.t rfl) (by omega) fun a h=>ah h .c (by omega) fun a h=>wpList_nil ?_
 have Gs:ac (fun _=>False) w1 (w1.alloc (.cells [.int .i64 t.num,tsv,.bool t.null,tlv,tuv].toArray S.tT (0,0))):=ac.alloc _ _ _
 have GX:=ce w1 [.int .i64 t.num,tsv,.bool t.null,tlv,tuv] S.tT
 generalize w1.alloc (.cells [.int .i64 t.num,tsv,.bool t.null,tlv,tuv].toArray S.tT (0,0))=w2 at Gs GX ⊢
 have GZ:=ao.kn Gs GZ
 have hk:=Gy.trans Gs
 refine aw (aW (ck h (cs:=aJ kind lo hi nul tag df of sv) (.t rfl) T.vF GZ (by omega) fun a h=>al h (.t rfl) (by omega) fun a h=>ck h (cs:=[.int .i64 t.num,tsv,.bool t.null,tlv,tuv]) (.t rfl) T.vT GX (by omega) fun a h=>?_))
 have Hb:=C.nullC kind lo hi nul tag df of sv ver t.num t.null tsv tlv tuv w2
 have h:St 76 a [(13,.agg (aJ kind lo hi nul tag df of sv).toArray),(14,.int .i64 ver),(15,.agg [.int .i64 t.num,tsv,.bool t.null,tlv,tuv].toArray),(1,.int .i64 ver),(2,.bool fx),(4,pt W.heap.size 0),(7,pt w1.heap.size 0),(8,aG)]:=h.pick ⟨rfl,rfl,rfl,rfl,rfl,rfl,rfl,rfl,trivial⟩
 generalize hF:Value.agg (aJ kind lo hi nul tag df of sv).toArray=vF at h Hb
 generalize hT:Value.agg [.int .i64 t.num,tsv,.bool t.null,tlv,tuv].toArray=vT at h Hb
 refine br h C.nullE (vs:=[vF,.int .i64 ver,vT]) (fun n a h=>by
  simp only[List.map_cons,List.map_nil]
  rw[Hd.t (l:=_) (i:=13) rfl n a h,Hd.t (l:=_) (i:=14) rfl n a h,Hd.t (l:=_) (i:=15) rfl n a h]) Hb (by omega) fun e w3 hR=>?_
 subst hF hT
 obtain⟨rfl,Gx⟩:=hR
 refine⟨_,rfl,fun a h=>ah h (.t rfl) (by omega) fun a h=>wpList_nil ?_⟩
 have GZ:=ao.kn Gx GZ
 have GX:=ao.kn Gx GX
 have hk:=hk.trans Gx
 have hf:cv W w3:=cv.of hk
 have OM:=GV.far hf
 have N9:=LB.far hf
 have G0:=hk.size
 have h:St 76 a [(1,.int .i64 ver),(2,.bool fx),(4,pt W.heap.size 0),(7,pt w1.heap.size 0),(8,aG),(9,.bool (t.null&&bh nul ver))]:=h.pick ⟨rfl,rfl,rfl,rfl,rfl,rfl,trivial⟩
 clear Gy Gs
 have fin:∀ (a':Act) (w':World) (v:Value) (bs:Bs),a'.defers=[]->a'.get 8=v->aH w' w3.heap.size S.tU8 v bs->cv w3 w'->bs=dZ kind nul of ver fx (aM ver fx sub) t->(a'.defers=[]/\b8 S.tU8 (dZ kind nul of ver fx (aM ver fx sub) t) W (.returned (bj [8] a')) w'):=fun a' w' v bs h1 h2 h3 h4 h5=>by
  subst h5
  refine⟨h1,v,by rw[dn,h2],(Gr.lower G0 (Gr.refl h3)).dst,?_⟩
  exact(hf.keeps).trans h4.keeps
 refine aw (aw (aW (bk h (.t rfl) T.f0 (by omega) fun a h=>aN h (.t rfl) T.f0.var (GZ.at (j:=0) rfl) (by omega) fun a h=>aZ h rfl (.t rfl) .i (by omega) fun a h=>wpList_nil ?_)))
 refine bf h rfl (fun hb=>?_) (fun hb=>?_)
 ·-- a list
  have HK:kind=11:=by simp[aO]at hb;omega
  refine aw (aW (bk h (.t rfl) T.t3 (by omega) fun a h=>aN h (.t rfl) T.t3.var (GX.at (j:=3) rfl) (by omega) fun a h=>?_))
  have TB:du w3 5 (TrRp w3 k) tlv t.list:=by
   obtain⟨_,_,_,e,_,h3,_⟩:=N9
   simp only[List.cons.injEq,true_and,and_true]at e
   rw[e.2.1];exact h3
  refine br h C.thE (vs:=[tlv]) (fun n a h=>by simp only[List.map_cons,List.map_nil];rw[Hd.t (l:=_) (i:=21) rfl n a h]) (C.thC w3 k tlv t.list TB) (by omega) fun e w4 hR=>?_
  obtain⟨lv,rfl,Lj,rfl⟩:=hR
  refine⟨lv,rfl,fun a h=>ah h (.t rfl) (by omega) fun a h=>wpList_nil ?_⟩
  have rest:∀ (a:Act) (x:Value),St 76 a [(1,.int .i64 ver),(2,.bool fx),(4,pt W.heap.size 0),(9,.bool (t.null&&bh nul ver)),(10,x)]->du w4 5 (TrRp w4 k) x (dc (t.null&&bh nul ver) t) ->
    aQ P (.seq (rg (BV S)) (.seq (.seq (rg (zi S)) (.block 0 (.loop (.seq (rg (zh S)) (.seq (.cond (tm 32) .skip (.exit 0)) (.seq (.block 1 (.seq (rg (zg S)) (.region 1 (t8 S).toArray true))) (rg (t7 S)))))))) (.seq (rg (t5 S)) .ret))) (Exit.then (aQ P (.seq (.seq (rg (zm S)) (.cond (tm 56) (.seq (.seq (rg (zl S)) (.cond (tm 57) (.seq (rg (zk S)) .ret) .skip)) (.seq (.region 1 (zj S).toArray true) .ret)) .skip)) (.seq (rg (tz S)) .ret)) (Rt (fun a' w'=>a'.defers=[]/\b8 S.tU8 (dZ kind nul of ver fx (aM ver fx sub) t) W (.returned (bj [8] a')) w') (fun a' w'=>a'.defers=[]/\b8 S.tU8 (dZ kind nul of ver fx (aM ver fx sub) t) W (.returned (bj [8] a')) w'))) (Rt (fun a' w'=>a'.defers=[]/\b8 S.tU8 (dZ kind nul of ver fx (aM ver fx sub) t) W (.returned (bj [8] a')) w') (fun a' w'=>a'.defers=[]/\b8 S.tU8 (dZ kind nul of ver fx (aM ver fx sub) t) W (.returned (bj [8] a')) w'))) a w4:=by
   intro a x h hx
   obtain⟨bx,cx,Jk,_,Vt,_⟩:=hx.form
   have I1:(dc (t.null&&bh nul ver) t).length<=aK:=by
    simp only[dc]
    split
    ·simp
    ·rw[List.length_take];exact Nat.min_le_left ..
   refine aw (aW (al h (.t rfl) (by omega) fun a h=>al h (.t rfl) (by omega) fun a h=>al h (.t rfl) (by omega) fun a h=>?_))
   have h':=h
   rw[Jk]at h'
   refine cr h' (.t rfl) T.dTs (by omega) fun a h=>?_
   rw[<- Jk]at h
   refine br h C.cntE (vs:=[.bool fx,.bool (t.null&&bh nul ver),.int .i64 ((dc (t.null&&bh nul ver) t).length:Int),.int .i64 ((4:Nat):Int)]) (fun n a h=>by
    simp only[List.map_cons,List.map_nil]
    rw[Hd.t (l:=_) (i:=24) rfl n a h,Hd.t (l:=_) (i:=25) rfl n a h,Hd.t (l:=_) (i:=27) rfl n a h];rfl) (C.cntC fx _ _ 4 w4 I1 (by omega)) (by omega) fun e w5 HP=>?_
   obtain⟨v,rfl,hd,HC⟩:=HP
   refine⟨v,rfl,fun a h=>ah h (.t rfl) (by omega) fun a h=>wpList_nil ?_⟩
   have e:dZ kind nul of ver fx (aM ver fx sub) t=gW fx (t.null&&bh nul ver) (dc (t.null&&bh nul ver) t).length 4++((dc (t.null&&bh nul ver) t).map (eq of false fx (aM ver fx sub))).flatten:=by
    simp only[dZ,HK,if_true]
   refine Be C P8 hV OM hx GZ hlim (cv.of HC) hd e.symm (h.pick ⟨rfl,rfl,rfl,rfl,rfl,trivial⟩) fun a' w' v' h1 h2 h3 h4=>?_
   exact fin a' w' v' _ h1 h2 h3 h4 rfl
  refine aw (aw (aW (al h (.t rfl) (by omega) fun a h=>wpList_nil ?_)))
  refine bf h rfl (fun hb=>?_) (fun hb=>?_)
  ·refine aW (ah h .c (by omega) fun a h=>wpList_nil ?_)
   exact rest a aG (h.pick ⟨rfl,rfl,rfl,rfl,rfl,trivial⟩) (.inl ⟨none,rfl,by simp[dc,hb]⟩)
  ·refine .skip (rest a lv (h.pick ⟨rfl,rfl,rfl,rfl,rfl,trivial⟩) ?_)
   simp only[dc,hb,Bool.false_eq_true,if_false]
   exact Lj
 have Q4:kind≠11:=by simp[aO]at hb;omega
 refine .skip (aw (aw (aW (bk h (.t rfl) T.f0 (by omega) fun a h=>aN h (.t rfl) T.f0.var (GZ.at (j:=0) rfl) (by omega) fun a h=>aZ h rfl (.t rfl) .i (by omega) fun a h=>al h (.t rfl) (by omega) fun a h=>?_))))
 have last:∀ (a:Act),St 76 a [(1,.int .i64 ver),(2,.bool fx),(4,pt W.heap.size 0),(7,pt w1.heap.size 0),(9,.bool (t.null&&bh nul ver))]->¬ (kind=10/\0<=nul)->aQ P (.seq (rg (tz S)) .ret) (Rt (fun a' w'=>a'.defers=[]/\b8 S.tU8 (dZ kind nul of ver fx (aM ver fx sub) t) W (.returned (bj [8] a')) w') (fun a' w'=>a'.defers=[]/\b8 S.tU8 (dZ kind nul of ver fx (aM ver fx sub) t) W (.returned (bj [8] a')) w')) a w3:=by
  intro a h hn10
  have e:dZ kind nul of ver fx (aM ver fx sub) t=eq kind (t.null&&bh nul ver) fx (aM ver fx sub) t:=by
   simp only[dZ,if_neg Q4,if_neg hn10]
  refine aw (aW (bk h (.t rfl) T.f0 (by omega) fun a h=>aN h (.t rfl) T.f0.var (GZ.at (j:=0) rfl) (by omega) fun a h=>bk h (.t rfl) T.f7 (by omega) fun a h=>aN h (.t rfl) T.f7.var (GZ.at (j:=7) rfl) (by omega) fun a h=>?_))
  refine al h (.t rfl) (by omega) fun a h=>al h (.t rfl) (by omega) fun a h=>al h (.t rfl) (by omega) fun a h=>ck h (cs:=[.int .i64 t.num,tsv,.bool t.null,tlv,tuv]) (.t rfl) T.vT GX (by omega) fun a h=>?_
  refine br h P8 (vs:=[.int .i64 (kind:Int),sv,.bool (t.null&&bh nul ver),.int .i64 ver,.bool fx,.agg [.int .i64 t.num,tsv,.bool t.null,tlv,tuv].toArray]) (fun n a h=>by
   simp only[List.map_cons,List.map_nil]
   rw[Hd.t (l:=_) (i:=68) rfl n a h,Hd.t (l:=_) (i:=70) rfl n a h,Hd.t (l:=_) (i:=71) rfl n a h,Hd.t (l:=_) (i:=72) rfl n a h,Hd.t (l:=_) (i:=73) rfl n a h,Hd.t (l:=_) (i:=74) rfl n a h]) (hV w3 kind _ ver fx (k+1) _ t sv OM N9 (by rw[<- e];exact hlim)) (by omega) fun e' w4 hR=>?_
  obtain⟨v,rfl,hd,GH⟩:=hR
  refine⟨v,rfl,fun a h=>ah h (.t rfl) (by omega) fun a h=>wpList_nil (.ret ?_)⟩
  exact fin a w4 v _ h.defers (h.get 8 v rfl) hd (cv.of GH) e.symm
 cases N1:aO .eql (kind:Int) 10 with
 | false=>
  rw[N1]at h
  have I5:kind≠10:=by simp[aO]at N1;omega
  refine aS h rfl rfl rfl (by omega) (by simp) (by omega) fun a h=>aS h rfl rfl rfl (by omega) (by simp) (by omega) fun a h=>aS h rfl rfl rfl (by omega) (by simp) (by omega) fun a h=>?_
  refine cC h (.t rfl) (.t rfl) .c (by omega) fun a h=>wpList_nil ?_
  refine bf h rfl (fun hb=>by cases hb) (fun _=>?_)
  exact .skip (last a (h.pick ⟨rfl,rfl,rfl,rfl,rfl,trivial⟩) fun hh=>I5 hh.1)
 | true=>
  rw[N1]at h
  have I5:kind=10:=by simp[aO]at N1;omega
  refine j9 h rfl rfl rfl (by omega) (.t rfl) T.f3 (by omega) fun a h=>gu h rfl rfl rfl (by omega) (.t rfl) T.f3.var (GZ.at (j:=3) rfl) (by omega) fun a h=>kD h rfl rfl rfl (by omega) rfl (.t rfl) .i (by omega) fun a h=>?_
  refine cC h (.t rfl) (.t rfl) .c (by omega) fun a h=>wpList_nil ?_
  refine bf h rfl (fun hb=>?_) (fun hb=>?_)
  ·have J1:0<=nul:=by simpa[aO]using hb
   have e:dZ kind nul of ver fx (aM ver fx sub) t=if(t.null&&bh nul ver)=true then[255]else 1::aM ver fx sub t:=by
    simp only[dZ,if_neg Q4,if_pos (show kind=10/\0<=nul from⟨I5,J1⟩)]
   refine aw (aw (aW (al h (.t rfl) (by omega) fun a h=>wpList_nil ?_)))
   refine bf h rfl (fun Py=>?_) (fun Py=>?_)
   ·rw[if_pos Py]at e
    refine aw (aW (br h C.fixE (vs:=[.int .i64 (-1),.int .i64 ((1:Nat):Int)]) (fun n a h=>rfl) (C.fixC (-1) 1 w3 (by omega)) (by omega) fun e' w4 hR=>?_))
    obtain⟨v,rfl,hd,GH⟩:=hR
    refine⟨v,rfl,fun a h=>ah h (.t rfl) (by omega) fun a h=>wpList_nil (.ret ?_)⟩
    exact fin a w4 v _ h.defers (h.get 8 v rfl) hd (cv.of GH) (by rw[e];decide)
   ·rw[if_neg (by rw[Py];simp)]at e
    rw[e]at hlim
    refine .skip (aw (rL [true,false,false,false,false,false,true,true,true] (fun w'=>cv w3 w') (by kernel_rfl) ?_))
    show gn P _ [mk (some 60) (.fieldAddr S.tF (tm 4) 7),mk (some 61) (.load S.tFs (tm 60)),mk (some 62) (.move (tm 1)),mk (some 63) (.move (tm 2)),mk (some 64) (.load S.tT (tm 7))] a
     fun af=>eK P _ _ [cl (some 59) S.fFix [(ki .i64 1),(ki .i64 1)],cl (some 65) S.fPart [(tm 61),(tm 62),(tm 63),(tm 64)],bi (some 66) .append [(tm 59),(tm 65)] [S.tSl,S.tSl] S.tSl,mk (some 8) (.assign (tm 66))] af w3.drew
    refine jC h (.t rfl) T.f7 (by omega) fun a h=>gx h (.t rfl) T.f7.var (fun w' hI=>cv.cell hI (GZ.at (j:=7) rfl)) (by omega) fun a h=>db h (.t rfl) (by omega) fun a h=>db h (.t rfl) (by omega) fun a h=>fw h (cs:=[.int .i64 t.num,tsv,.bool t.null,tlv,tuv]) (.t rfl) T.vT (fun w' hI=>cv.cells hI GX) (by omega) fun a h=>jB ?_
    have IS:cv w3 w3.drew:=cv.of (ac.drew _ _)
    refine cR h IS C.fixE (vs:=[.int .i64 1,.int .i64 ((1:Nat):Int)]) (fun n a h=>rfl) (C.fixC 1 1 w3.drew (by omega)) (by omega) fun e' w4 hR=>?_
    obtain⟨u,rfl,hu,GH⟩:=hR
    have HX:=IS.kn GH
    simp only[List.length_cons]at hlim
    refine⟨u,rfl,fun a h=>cR h HX Pk (vs:=[sv,.int .i64 ver,.bool fx,.agg [.int .i64 t.num,tsv,.bool t.null,tlv,tuv].toArray]) (fun n a h=>by
     simp only[List.map_cons,List.map_nil]
     rw[Hd.t (l:=_) (i:=61) rfl n a h,Hd.t (l:=_) (i:=62) rfl n a h,Hd.t (l:=_) (i:=63) rfl n a h,Hd.t (l:=_) (i:=64) rfl n a h]) (hP w4 ver fx (k+1) _ t sv (OM.far HX) (N9.far HX) (by omega)) (by omega) fun e' w5 hR=>?_⟩
    obtain⟨v,rfl,hv,HC⟩:=hR
    have HE:=HX.kn HC
    have Vy:aH w5 w3.heap.size S.tU8 u (be 1 1):=(Gr.lower (L':=w3.heap.size) IS.size (Gr.refl (hu.keep HC fun _ _ h=>h))).dst
    refine⟨v,rfl,fun a h=>sN h HE T.oct (.t rfl) (.t rfl) Vy (ft T.oct hv) HE.size (by rw[bV];omega) (by omega) fun v6 w6 a hg h=>?_⟩
    have ID:cv w3 w6:=HE.up hg.keeps fun j hj=>(Vy.own hj).1
    refine fZ h ID (.t rfl) (by omega) fun a h=>j7 ID (.ret ?_)
    exact fin a w6 v6 _ h.defers (h.get 8 v6 rfl) hg.dst ID (by rw[e,show be 1 1=[1] from by decide];rfl)
  ·have J1:¬ 0<=nul:=by simpa[aO]using hb
   exact .skip (last a (h.pick ⟨rfl,rfl,rfl,rfl,rfl,trivial⟩) fun hh=>J1 hh.2)
end
end
section
open Go
set_option maxRecDepth 4000
section
variable {P:Program} {S:SN}
section
variable {ops:Array Oper} {Q:Exit->Act->World->Prop} {r:List Oper} {n:Nat} {a:Act} {w:World} {l:List (Nat × Value)}
theorem uK (h:St n a l){d j jd f:Nat}{b:Bool}{o:Oper}{args:List Operand}{vs:List Value}{R:Ending->World->Prop}(ho:ops[j]?=some o)(Iq:o.dst=some jd)(hj:l.lookup jd=some (.bool b))(I6:jd<n)(hf:Ent P f)(GY:∀ (n:Nat) (a:Act),St n a l->args.map a.eval=vs)(hc:Calls P f vs.toArray w R)(hd:d<n)
  (c:∀ e w',R e w'->∃ v,e=.returned v/\∀ a',St n a' ((d,v)::l)->wpList P ops Q r a' w'):wpList P ops Q (gd d (.call ⟨.value (.func f),args.toArray,#[]⟩) j b::r) a w:=by
 refine pC (bY ho Iq (by rw[h.size];exact I6) (h.get _ _ hj)) ?_
 unfold Oper.wp
 have : (execOp a.eval (⟨some d, .call ⟨.value (.func f), args.toArray, #[]⟩, 0, "", #[], some (j, b)⟩ : Oper)).run P w = .ok (.enter f vs.toArray) w := by
  have he:a.eval (.func f)=.func (.func f) #[] #[]:=rfl
  have Pf:(args.map a.eval).toArray=vs.toArray:=by rw[GY n a h]
  simp only[execOp,resolve,he,Deferred.ofValue,invoke,Sem.run_bind,Sem.run_pure,Result.andThen_ok,Array.empty_append,Array.append_empty,List.map_toArray,Pf]
  exact hf _ _
 rw[this]
 exact hc.mono fun e w' hR=>by
  obtain⟨v,rfl,hk⟩:=c e w' hR
  exact hk _ (h.put _ hd)
end
def ox (P:Program)(S:SN):SFs->Prop
 | .nil=>True
 | .cons _ _ _ _ _ _ _ sub r=>FK P S sub/\ox P S r
theorem mN {w:World}{T:Nat}{z:Value}{cs:List Value}(hz:z.cells.size=cs.length):ac (fun _=>False) w ((w.alloc (.cells z.cells T (0,0))).setRow w.heap.size cs.toArray)/\ao ((w.alloc (.cells z.cells T (0,0))).setRow w.heap.size cs.toArray) w.heap.size 0 cs:=zo hz
theorem yw (C:LeafC P S)(NU:Ent P S.fField){W:World}{sf:SFs}{fv:Value}{ver:Int}{fx:Bool}{k B:Nat}{cs:List Value}{t:Tr}(GV:ei W sf fv)(ht:TrRp W k cs t)(hB:ao W B 0 cs)(Hs:ox P S sf)(hlim:(cD ver fx sf 0 t).length<=d7){a:Act}
  (h:St 132 a [(0,fv),(1,.int .i64 ver),(2,.bool fx),(7,pt B 0),(9,aG),(10,aG),(11,.int .i64 0)]) {R:Exit->Act->World->Prop}
  (hR:∀ (a':Act) (w':World) (v:Value),St 132 a' [(0,fv),(1,.int .i64 ver),(2,.bool fx),(7,pt B 0),(9,v),(10,aG),(11,.int .i64 0)]->aH w' W.heap.size S.tU8 v (cD ver fx sf 0 t)->cv W w'->R .normal a' w') :
  aQ P (.seq (rg (BQ S)) (.block 0 (.loop (.seq (rg (BP S)) (.seq (.cond (tm 24) .skip (.exit 0)) (.seq (.block 1 (.seq (rg (BO S)) (.seq (rg (BN S)) (.cond (tm 35) (.region 1 (yT S).toArray true) .skip)))) (rg (yS S)))))))) R a W:=by
 have T:=C.tab
 have I3:=ht.len
 obtain⟨base,c,KV,Gp,Mt⟩:=GV.form
 refine aw (aW (al h (.t rfl) (by omega) fun a h=>?_))
 have h':=h
 rw[KV]at h'
 refine cr h' (.t rfl) T.dFs (by omega) fun a h=>al h .i (by omega) fun a h=>wpList_nil ?_
 rw[<- KV]at h
 refine ee (fun m a' w'=>∃ (i:Nat) (rest:SFs) (v:Value) (bs:Bs),i+m=sf.len/\rest.len=m/\ox P S rest/\bs++cD ver fx rest i t=cD ver fx sf 0 t/\aH w' W.heap.size S.tU8 v bs/\cv W w'/\(∀ b o,base=some ⟨b,o,none⟩->gM W sf b o->gM W rest b (o+i*8)) /\
   St 132 a' [(0,fv),(1,.int .i64 ver),(2,.bool fx),(7,pt B 0),(9,v),(10,aG),(11,.int .i64 0),(21,fv),(22,.int .i64 (sf.len:Int)),(23,.int .i64 (i:Int))]) sf.len
  ⟨sf.len,Nat.le_refl _,0,sf,aG,[],by omega,rfl,Hs,rfl,aH.nil _ _ _,cv.refl W,fun b o _ hh=>by simpa using hh,h.pick ⟨rfl,rfl,rfl,rfl,rfl,rfl,rfl,rfl,rfl,rfl,trivial⟩⟩ ?_
 rintro m a w hm ⟨i,rest,v,bs,Lz,JB,HU,G4,hd,hk,Ha,h⟩
 refine aw (aW (aZ h rfl (.t rfl) (.t rfl) (by omega) fun a h=>wpList_nil ?_))
 refine gm h rfl (fun hb=>?_) (fun hb=>?_)
 ·have Gq:i<sf.len:=by simp[aO]at hb;omega
  refine .skip ?_
  cases hr:rest with
  | nil=>rw[hr]at JB;simp[SFs.len]at JB;omega
  | cons kind lo hi nul tag df of sub r=>
   subst hr
   obtain⟨b,o,He,OO⟩:=Mt.resolve_left (fun hh=>by rw[hh]at Gq;simp[SFs.len]at Gq)
   obtain⟨⟨sv,hc,IN⟩,JD⟩:=Ha b o He OO
   have hc:ao W b (o+i*8) (aJ kind lo hi nul tag df of sv):=hc
   have JI:ei W sub sv:=IN
   have OF:(i:Int)+1<=9223372036854775807:=by simp only[maxLen]at Gp;omega
   refine aw (.block (aw (aW (al h (.t rfl) (by omega) fun a h=>?_))))
   have h':=h
   rw[KV,He]at h'
   refine dF h' (sz:=8) (.t rfl) (.t rfl) Gq T.dFs T.vF.size (by omega) fun a h=>ck h (cs:=aJ kind lo hi nul tag df of sv) (.t rfl) T.vF (hk.cells hc) (by omega) fun a h=>?_
   rw[<- He,<- KV]at h
   refine eM h (T.zF w) (by omega) fun a h=>ah h (.t rfl) (by omega) fun a h=>?_
   have Mi:=mN (w:=w) (T:=S.tF) (z:=.agg #[.int .i64 0,.int .i64 0,.int .i64 0,.int .i64 0,.int .i64 0,.int .i64 0,.int .i64 0,aG]) (cs:=aJ kind lo hi nul tag df of sv) rfl
   refine fr h (cs:=aJ kind lo hi nul tag df of sv) (.t rfl) (.t rfl) (by simp[Value.cells]) T.vF.size (aB w _) rfl (jp kind lo hi nul tag df of (mI IN)) (wpList_nil ?_)
   obtain⟨Gs,GX⟩:=Mi
   generalize(w.alloc (.cells (Value.agg #[.int .i64 0,.int .i64 0,.int .i64 0,.int .i64 0,.int .i64 0,.int .i64 0,.int .i64 0,aG]).cells S.tF (0,0))).setRow w.heap.size (aJ kind lo hi nul tag df of sv).toArray=w2 at Gs GX ⊢
   have hg:W.heap.size<=w.heap.size:=hk.size
   have H7:aH w2 W.heap.size S.tU8 v bs:=hd.keep Gs fun _ _ h=>h
   have KX:=hk.kn Gs
   have J8:∀ j,v.ownBlock=some j->j<w.heap.size:=fun j hj=>(hd.own hj).2
   have h:St 132 a [(0,fv),(1,.int .i64 ver),(2,.bool fx),(7,pt B 0),(9,v),(10,aG),(11,.int .i64 0),(12,.int .i64 (i:Int)),(13,pt w.heap.size 0),(21,fv),(22,.int .i64 (sf.len:Int)),(23,.int .i64 (i:Int))]:=h.pick ⟨rfl,rfl,rfl,rfl,rfl,rfl,rfl,rfl,rfl,rfl,rfl,rfl,trivial⟩
   clear hd hk h'
   have step:∀ (a:Act) (w3:World) (v3:Value) (bs3:Bs) (KK:Exit->Act->World->Prop),St 132 a [(0,fv),(1,.int .i64 ver),(2,.bool fx),(7,pt B 0),(9,v3),(10,aG),(11,.int .i64 0),(21,fv),(22,.int .i64 (sf.len:Int)),(23,.int .i64 (i:Int))]->aH w3 W.heap.size S.tU8 v3 bs3->cv W w3->bs3++cD ver fx r (i+1) t=cD ver fx sf 0 t ->
     aQ P (rg (yS S)) (Exit.then (fun a' w'=>∃ m',m'<=sf.len/\m'<m/\∃ (i:Nat) (rest:SFs) (v:Value) (bs:Bs),i+m'=sf.len/\rest.len=m'/\ox P S rest/\bs++cD ver fx rest i t=cD ver fx sf 0 t/\aH w' W.heap.size S.tU8 v bs/\cv W w'/\(∀ b o,base=some ⟨b,o,none⟩->gM W sf b o->gM W rest b (o+i*8)) /\
      St 132 a' [(0,fv),(1,.int .i64 ver),(2,.bool fx),(7,pt B 0),(9,v),(10,aG),(11,.int .i64 0),(21,fv),(22,.int .i64 (sf.len:Int)),(23,.int .i64 (i:Int))]) KK) a w3:=by
    intro a w3 v3 bs3 KK h H6 Gx LU
    refine aW (cK h (.t rfl) .i (by simp) (cY w3) (by omega) fun a h=>?_)
    have hw:IntKind.i64.wrap ((i:Int)+1)=((i+1:Nat):Int):=by simp[IntKind.wrap,IntKind.bits,IntKind.signed];omega
    rw[hw]at h
    refine al h (.t rfl) (by omega) fun a h=>wpList_nil ?_
    refine⟨m-1,by omega,by omega,i+1,r,v3,bs3,by omega,by simp only[SFs.len]at JB;omega,HU.2,LU,H6,Gx,fun b' o' hbo hh=>?_,h.pick ⟨rfl,rfl,rfl,rfl,rfl,rfl,rfl,rfl,rfl,rfl,trivial⟩⟩
    have:=(Ha b' o' hbo hh).2
    rw[show o'+(i+1)*8=o'+i*8+8 by omega]
    exact this
   refine aw (aW (bk h (.t rfl) T.f4 (by omega) fun a h=>aN h (.t rfl) T.f4.var (GX.at (j:=4) rfl) (by omega) fun a h=>aZ h rfl (.t rfl) .i (by omega) fun a h=>al h (.t rfl) (by omega) fun a h=>?_))
   have KJ:cD ver fx (.cons kind lo hi nul tag df of sub r) i t=(if tag<0/\kj lo hi ver=true then dZ kind nul of ver fx (aM ver fx sub) (t.at i) else[])++cD ver fx r (i+1) t:=by
    simp only[cD];rfl
   rw[KJ]at G4
   have go:∀ (a:Act) (w3:World) (bb:Bool) (KK:Exit->Act->World->Prop),St 132 a [(0,fv),(1,.int .i64 ver),(2,.bool fx),(7,pt B 0),(9,v),(10,aG),(11,.int .i64 0),(12,.int .i64 (i:Int)),(13,pt w.heap.size 0),(21,fv),(22,.int .i64 (sf.len:Int)),(23,.int .i64 (i:Int)),(35,.bool bb)]->ac (fun _=>False) w2 w3->bb=decide (tag<0/\kj lo hi ver=true) ->
     (∀ a' w',(∃ v3 bs3,St 132 a' [(0,fv),(1,.int .i64 ver),(2,.bool fx),(7,pt B 0),(9,v3),(10,aG),(11,.int .i64 0),(21,fv),(22,.int .i64 (sf.len:Int)),(23,.int .i64 (i:Int))]/\aH w' W.heap.size S.tU8 v3 bs3/\cv W w'/\bs3++cD ver fx r (i+1) t=cD ver fx sf 0 t)->KK .normal a' w') ->
     aQ P (.cond (tm 35) (.region 1 (yT S).toArray true) .skip) KK a w3:=by
    intro a w3 bb KK h Gx HZ KI
    have H6:=H7.keep Gx fun _ _ h=>h
    have Km:=KX.kn Gx
    have Kd:=ao.kn Gx GX
    have Hh:w.heap.size<=w3.heap.size:=Nat.le_trans Gs.size Gx.size
    refine bf h rfl (fun hT=>?_) (fun hF=>?_)
    ·rw[hT]at HZ
     have GP:tag<0/\kj lo hi ver=true:=of_decide_eq_true HZ.symm
     rw[if_pos GP]at G4
     have K1:bs.length+(dZ kind nul of ver fx (aM ver fx sub) (t.at i)).length<=d7:=by
      have:=congrArg List.length G4
      simp only[List.length_append]at this
      omega
     refine rL [false,false,false,false,false,false,true,true,true,true] (fun w'=>cv W w'/\ao w' w.heap.size 0 (aJ kind lo hi nul tag df of sv)) (by kernel_rfl) ?_
     show gn P _ [mk (some 36) (.move (tm 9)),mk (some 37) (.load S.tF (tm 13)),mk (some 38) (.move (tm 1)),mk (some 39) (.move (tm 2)),mk (some 40) (.load S.tT (tm 7)),mk (some 41) (.move (tm 12))] a
      fun af=>eK P _ _ [cl (some 42) S.fAt [(tm 40),(tm 41)],cl (some 43) S.fField [(tm 37),(tm 38),(tm 39),(tm 42)],bi (some 44) .append [(tm 36),(tm 43)] [S.tSl,S.tSl] S.tSl,mk (some 9) (.assign (tm 44))] af w3.drew
     refine db h (.t rfl) (by omega) fun a h=>fw h (cs:=aJ kind lo hi nul tag df of sv) (.t rfl) T.vF (fun w' hI=>hI.2) (by omega) fun a h=>db h (.t rfl) (by omega) fun a h=>db h (.t rfl) (by omega) fun a h=>fw h (cs:=cs) (.t rfl) (by rw[I3];exact T.vT) (fun w' hI=>cv.cells hI.1 hB) (by omega) fun a h=>db h (.t rfl) (by omega) fun a h=>jB ?_
     have IS:cv W w3.drew/\ao w3.drew w.heap.size 0 (aJ kind lo hi nul tag df of sv):=⟨Km.kn (ac.drew _ _),ao.kn (ac.drew _ _) Kd⟩
     have IC:aH w3.drew W.heap.size S.tU8 v bs:=H6.keep (ac.drew (fun _=>False) _) fun _ _ h=>h
     have K4:=h.pick (m:=[(0,fv),(1,.int .i64 ver),(2,.bool fx),(7,pt B 0),(10,aG),(11,.int .i64 0),(21,fv),(22,.int .i64 (sf.len:Int)),(23,.int .i64 (i:Int)),(36,v),(37,.agg (aJ kind lo hi nul tag df of sv).toArray),(38,.int .i64 ver),(39,.bool fx),(40,.agg cs.toArray),(41,.int .i64 (i:Int))]) ⟨rfl,rfl,rfl,rfl,rfl,rfl,rfl,rfl,rfl,rfl,rfl,rfl,rfl,rfl,rfl,trivial⟩
     generalize hFv:Value.agg (aJ kind lo hi nul tag df of sv).toArray=vF at K4
     refine cR K4 IS C.atE (vs:=[.agg cs.toArray,.int .i64 (i:Int)]) (fun n a h=>by
      simp only[List.map_cons,List.map_nil]
      rw[Hd.t (l:=_) (i:=40) rfl n a h,Hd.t (l:=_) (i:=41) rfl n a h]) (C.atC k i cs t w3.drew (ht.far IS.1)) (by omega) fun e w4 hR4=>?_
     obtain⟨cs4,rfl,Nb,GH⟩:=hR4
     have HX:cv W w4/\ao w4 w.heap.size 0 (aJ kind lo hi nul tag df of sv):=⟨IS.1.kn GH,ao.kn GH IS.2⟩
     have Hy:=HU.1 w4 kind lo hi nul tag df of sv ver fx k cs4 (t.at i) (JI.far HX.1) (Nb.far (cv.of GH)) (by omega)
     rw[hFv]at Hy
     refine⟨_,rfl,fun a h=>cR h HX NU (vs:=[vF,.int .i64 ver,.bool fx,.agg cs4.toArray]) (fun n a h=>by
      simp only[List.map_cons,List.map_nil]
      rw[Hd.t (l:=_) (i:=37) rfl n a h,Hd.t (l:=_) (i:=38) rfl n a h,Hd.t (l:=_) (i:=39) rfl n a h,Hd.t (l:=_) (i:=42) rfl n a h]) Hy (by omega) fun e w5 hR5=>?_⟩
     obtain⟨u,rfl,hu,HC⟩:=hR5
     have HE:cv W w5/\ao w5 w.heap.size 0 (aJ kind lo hi nul tag df of sv):=⟨HX.1.kn HC,ao.kn HC HX.2⟩
     have LK:aH w5 W.heap.size S.tU8 v bs:=(IC.keep GH fun _ _ h=>h).keep HC fun _ _ h=>h
     refine⟨u,rfl,fun a h=>sN h HE T.oct (.t rfl) (.t rfl) LK (ft T.oct hu) HE.1.size K1 (by omega) fun v6 w6 a hgr h=>?_⟩
     have ID:cv W w6/\ao w6 w.heap.size 0 (aJ kind lo hi nul tag df of sv):=⟨HE.1.up hgr.keeps fun j hj=>(LK.own hj).1,fun j x hj=>hgr.keeps.cell (fun hX=>by have:=J8 _ hX;omega) (HE.2 j x hj)⟩
     refine fZ h ID (.t rfl) (by omega) fun a h=>j7 ID (KI _ _ ⟨v6,_,h.pick ⟨rfl,rfl,rfl,rfl,rfl,rfl,rfl,rfl,rfl,rfl,trivial⟩,hgr.dst,ID.1,?_⟩)
     rw[List.append_assoc];exact G4
    ·rw[hF]at HZ
     have H1:¬ (tag<0/\kj lo hi ver=true):=of_decide_eq_false HZ.symm
     rw[if_neg H1,List.nil_append]at G4
     exact .skip (KI _ _ ⟨v,bs,h.pick ⟨rfl,rfl,rfl,rfl,rfl,rfl,rfl,rfl,rfl,rfl,trivial⟩,H6,Km,G4⟩)
   cases ML:aO .lss tag 0 with
   | false=>
    rw[ML]at h
    refine aS h rfl rfl rfl (by omega) (by simp) (by omega) fun a h=>aS h rfl rfl rfl (by omega) (by simp) (by omega) fun a h=>aS h rfl rfl rfl (by omega) (by simp) (by omega) fun a h=>?_
    refine cC h (.t rfl) (.t rfl) .c (by omega) fun a h=>wpList_nil ?_
    have G8:¬ tag<0:=by simpa[aO]using ML
    refine go a w2 false _ (h.pick ⟨rfl,rfl,rfl,rfl,rfl,rfl,rfl,rfl,rfl,rfl,rfl,rfl,rfl,trivial⟩) (ac.refl _ _) (by simp[G8]) fun a' w' hh=>?_
    obtain⟨v3,bs3,h3,h4,h5,h6⟩:=hh
    exact step a' w' v3 bs3 _ h3 h4 h5 h6
   | true=>
    rw[ML]at h
    have G8:tag<0:=by simpa[aO]using ML
    refine nA h (op:=.load S.tF (tm 13)) (v:=.agg (aJ kind lo hi nul tag df of sv).toArray) rfl rfl rfl (by omega) ?_ (by omega) fun a h=>gU h rfl rfl rfl (by omega) (.t rfl) (by omega) fun a h=>?_
    ·have hl:=run_loadCells_list (P:=P) w2 ⟨w.heap.size,0,none⟩ (aJ kind lo hi nul tag df of sv) (fun j v hj=>by rw[Addr.add_lit];exact GX j v hj)
     have e:=Hd.t (l:=_) (i:=13) rfl _ a h
     simp only[pt]at e
     have Q1:(aJ kind lo hi nul tag df of sv).length=8:=rfl
     rw[Q1]at hl
     simp[execOp,mk,e,Instr.loadAt,Instr.sureAddr,loadVar,T.vF.agg w2,T.vF.size w2,hl]
    have H2:=C.hasC kind lo hi nul tag df of sv ver w2
    have h:=h.pick (m:=[(0,fv),(1,.int .i64 ver),(2,.bool fx),(7,pt B 0),(9,v),(10,aG),(11,.int .i64 0),(12,.int .i64 (i:Int)),(13,pt w.heap.size 0),(21,fv),(22,.int .i64 (sf.len:Int)),(23,.int .i64 (i:Int)),(31,.bool true),(32,.agg (aJ kind lo hi nul tag df of sv).toArray),(33,.int .i64 ver)]) ⟨rfl,rfl,rfl,rfl,rfl,rfl,rfl,rfl,rfl,rfl,rfl,rfl,rfl,rfl,rfl,trivial⟩
    generalize hFv:Value.agg (aJ kind lo hi nul tag df of sv).toArray=vF at h H2
    refine uK h rfl rfl rfl (by omega) C.hasE (args:=[(tm 32),(tm 33)]) (vs:=[vF,.int .i64 ver]) (fun n a h=>by
     simp only[List.map_cons,List.map_nil]
     rw[Hd.t (l:=_) (i:=32) rfl n a h,Hd.t (l:=_) (i:=33) rfl n a h]) H2 (by omega) fun e w3 hR3=>?_
    obtain⟨rfl,Gx⟩:=hR3
    refine⟨_,rfl,fun a h=>cC h (.t rfl) (.t rfl) .c (by omega) fun a h=>wpList_nil ?_⟩
    refine go a w3 (kj lo hi ver) _ (h.pick ⟨rfl,rfl,rfl,rfl,rfl,rfl,rfl,rfl,rfl,rfl,rfl,rfl,rfl,trivial⟩) Gx (by simp[G8]) fun a' w' hh=>?_
    obtain⟨v3,bs3,h3,h4,h5,h6⟩:=hh
    exact step a' w' v3 bs3 _ h3 h4 h5 h6
 ·have Hm:¬ i<sf.len:=by simp[aO]at hb;omega
  have J9:rest=.nil:=by
   cases rest with
   | nil=>rfl
   | cons=>simp only[SFs.len]at JB;omega
  subst J9
  simp only[cD,List.append_nil]at G4
  subst G4
  exact .exit (hR a w v (h.pick ⟨rfl,rfl,rfl,rfl,rfl,rfl,rfl,trivial⟩) hd hk)
end
end
section
open Go
set_option maxRecDepth 4000
structure mA where
 k:UInt32
 v:Value
 b:Bs
def cy (w:World)(L tG:Nat)(v:Value)(es:List mA):Prop:=
 (v=aG/\es=[]) \/
 ∃ (g c:Nat) (cur:Array Value),v=.slice (some ⟨g,0,none⟩) es.length c/\L<=g/\w.heap[g]?=some (.cells cur tG (0,0))/\es.length<=c/\c<=maxLen/\cur.size=c*2/\∀ i e,es[i]?=some e->cur[i*2]?=some (.int .u32 (e.k.toNat:Int))/\cur[i*2+1]?=some e.v
theorem cy.own {w:World}{L tG:Nat}{v:Value}{es:List mA}(h:cy w L tG v es){k:Nat}(hk:v.ownBlock=some k):L<=k/\k<w.heap.size:=by
 rcases h with⟨rfl,_⟩|⟨g,c,cur,rfl,hL,hg,_⟩
 ·cases hk
 ·obtain rfl:g=k:=Option.some.inj hk
  exact⟨hL,(Array.getElem?_eq_some_iff.1 hg).1⟩
theorem cy.keep {w w':World}{X:Nat->Prop}{L tG:Nat}{v:Value}{es:List mA}(h:cy w L tG v es)(hk:ac X w w')(hx:∀ k,v.ownBlock=some k->¬ X k):cy w' L tG v es:=by
 rcases h with h|⟨g,c,cur,rfl,hL,hg,h⟩
 ·exact .inl h
 ·exact .inr ⟨g,c,cur,rfl,hL,by rw[hk.block g (Array.getElem?_eq_some_iff.1 hg).1 (hx g rfl)];exact hg,h⟩
theorem cy.form {w:World}{L tG:Nat}{v:Value}{es:List mA}(h:cy w L tG v es):∃ base c,v=.slice base es.length c/\es.length<=maxLen:=by
 rcases h with⟨rfl,rfl⟩|⟨g,c,cur,rfl,_,_,h1,h2,_⟩
 ·exact⟨none,0,rfl,by simp[maxLen]⟩
 ·exact⟨_,c,rfl,by omega⟩
theorem cy.get {w:World}{L tG:Nat}{v:Value}{es:List mA}(h:cy w L tG v es){i:Nat}{e:mA}(hi:es[i]?=some e):∃ g c,v=.slice (some ⟨g,0,none⟩) es.length c/\i<es.length/\ao w g (0+i*2) [.int .u32 (e.k.toNat:Int),e.v]:=by
 rcases h with⟨_,rfl⟩|⟨g,c,cur,rfl,_,hg,_,_,_,Ha⟩
 ·simp at hi
 ·obtain⟨h1,h2⟩:=Ha i e hi
  refine⟨g,c,rfl,(List.getElem?_eq_some_iff.1 hi).1,fun j x hj=>?_⟩
  have Gn:∀ o,w.cell? ⟨g,o,none⟩=cur[o]?:=fun o=>by simp[World.cell?,hg]
  rw[Gn]
  match j,hj with
  | 0,hj=>simp only[List.getElem?_cons_zero,Option.some.injEq]at hj;subst hj;simpa using h1
  | 1,hj=>simp only[List.getElem?_cons_succ,List.getElem?_cons_zero,Option.some.injEq]at hj;subst hj;simpa using h2
  | j+2,hj=>simp at hj
theorem cy.set {w:World}{L tG g c:Nat}{es:List mA}{cur:Array Value}{len:Nat}(Gp:es.length=len)(hL:L<=g)(hg:w.heap[g]?=some (.cells cur tG (0,0)))(hc:len<=c)(IK:c<=maxLen)(GE:cur.size=c*2)(Ha:∀ i e,es[i]?=some e->cur[i*2]?=some (.int .u32 (e.k.toNat:Int))/\cur[i*2+1]?=some e.v){i:Nat}(hi:i<len)(e:mA) :
  cy (w.setRow g (aI cur (i*2) [.int .u32 (e.k.toNat:Int),e.v])) L tG (.slice (some ⟨g,0,none⟩) len c) (es.set i e):=by
 have Il:i*2+[Value.int .u32 (e.k.toNat:Int),e.v].length<=cur.size:=by simp only[List.length_cons,List.length_nil];omega
 refine .inr ⟨g,c,_,by rw[List.length_set,Gp],hL,setRow_heap _ _ _ _ _ _ hg,by rw[List.length_set,Gp];exact hc,IK,by rw[dO Il];exact GE,fun j x hj=>?_⟩
 rw[List.getElem?_set]at hj
 split at hj
 ·rename_i HL
  subst HL
  split at hj
  ·obtain rfl:=Option.some.inj hj
   refine⟨?_,?_⟩
   ·have:=bU Il 0 (by simp)
    simpa using this
   ·have:=bU Il 1 (by simp)
    simpa using this
  ·cases hj
 ·rename_i HL
  obtain⟨h1,h2⟩:=Ha j x hj
  refine⟨?_,?_⟩
  ·rw[cm Il _ (by simp only[List.length_cons,List.length_nil];omega)];exact h1
  ·rw[cm Il _ (by simp only[List.length_cons,List.length_nil];omega)];exact h2
def ji:mA:=⟨0,aG,[]⟩
theorem nK {P:Program}{S:SN}(T:RefT P S){w:World}{L:Nat}{v x:Value}{es:List mA}(h:cy w L S.tG v es)(hx:Src P 2 S.tGs x 1 [.int .u32 0,aG] w)(hL:L<=w.heap.size)(hlim:es.length<=40000) :
  ∃ v' w',(Builtin.append_ #[S.tGs,S.tGs] S.tGs #[v,x]).run P w=.ok v' w'/\cy w' L S.tG v' (es++[ji])/\ac (fun k=>v.ownBlock=some k) w w'/\∀ k,v'.ownBlock=some k->v.ownBlock=some k \/ w.heap.size<=k:=by
 obtain⟨i,hi,hz,G0,L5⟩:=T.iG
 have ht:=T.dGs
 have hs':Src P i.size S.tGs x 1 [.int .u32 0,aG] w:=by rw[G0];exact hx
 have z0:∀ j (e:mA),[ji][j]?=some e->j=0/\e=ji:=fun j e h=>by
  match j,h with
  | 0,h=>simp only[List.getElem?_cons_zero,Option.some.injEq]at h;exact⟨rfl,h.symm⟩
  | j+1,h=>simp at h
 have grown:∀ (base:Option Addr) (old:Nat) (olds:List Value),olds.length=es.length*2->old<es.length+1->(Builtin.firstCells i.size es.length (.slice base es.length old)).run P w.drew=.ok olds.toArray w.drew ->
   (∀ j e,es[j]?=some e->olds[j*2]?=some (.int .u32 (e.k.toNat:Int))/\olds[j*2+1]?=some e.v) ->
   ∃ v' w',(Builtin.append_ #[S.tGs,S.tGs] S.tGs #[.slice base es.length old,x]).run P w=.ok v' w'/\cy w' L S.tG v' (es++[ji])/\ac (fun _=>False) w w'/\∀ k,v'.ownBlock=some k->w.heap.size<=k:=by
  intro base old olds O2 ho HH Ha
  have hr:=run_append_grow_src (P:=P) w S.tGs S.tGs S.tGs S.tG i (.agg #[.int .u32 0,aG]) ht hi hz base es.length old olds HH x 1 [.int .u32 0,aG] hs' ho (by omega) (growslice_fits ho (by rw[L5];omega))
  have Hm:=grownCap_ge w (es.length+1) old S.tG
  have IK:grownCap w (es.length+1) old S.tG<=maxLen:=grownCap_le_maxLen w _ old S.tG (by simp only[maxLen];omega)
  refine⟨_,_,hr,.inr ⟨w.heap.size,_,_,by rw[List.length_append];rfl,hL,Go.heap_alloc_new w.drew _,by rw[List.length_append];exact Hm,IK,?_,?_⟩,?_⟩
  ·simp only[Array.size_append,List.size_toArray,size_zeroCells,List.length_append,O2,Value.cells]
   simp only[List.length_cons,List.length_nil]
   omega
  ·intro j e hj
   have HY:j<es.length+1:=by have:=(List.getElem?_eq_some_iff.1 hj).1;simpa using this
   have pre:∀ q,q<es.length*2+2->((olds++[.int .u32 0,aG]).toArray++Builtin.zeroCells (Value.agg #[.int .u32 0,aG]).cells (grownCap w (es.length+1) old S.tG-(es.length+1)))[q]?=(olds++[.int .u32 0,aG])[q]?:=fun q hq=>by
    rw[Array.getElem?_append_left (by simp only[List.size_toArray,List.length_append,O2,List.length_cons,List.length_nil];omega)]
    simp
   rw[pre _ (by omega),pre _ (by omega)]
   by_cases MF:j<es.length
   ·rw[List.getElem?_append_left MF]at hj
    obtain⟨h1,h2⟩:=Ha j e hj
    rw[List.getElem?_append_left (by omega),List.getElem?_append_left (by omega)]
    exact⟨h1,h2⟩
   ·rw[List.getElem?_append_right (by omega)]at hj
    obtain⟨TR,rfl⟩:=z0 _ _ hj
    have Q9:j=es.length:=by omega
    subst Q9
    rw[List.getElem?_append_right (by omega),List.getElem?_append_right (by omega),O2]
    simp[ji]
  ·exact⟨⟨rfl,rfl,rfl,by simp,fun k hk _=>bA (w:=w.drew) hk⟩,fun k hk=>by simp only[Value.ownBlock,Option.some.injEq]at hk;omega⟩
 rcases h with⟨rfl,rfl⟩|⟨g,c,cur,rfl,QL,hg,Qq,IK,GE,Ha⟩
 ·obtain⟨v',w',a1,a2,a3,a4⟩:=grown none 0 [] rfl (by simp) (by simp[Builtin.firstCells]) (fun j e h=>by simp at h)
  exact⟨v',w',a1,a2,a3.mono fun _ _ h=>h.elim,fun k hk=>.inr (a4 k hk)⟩
 ·have KG:cur.toList.length=c*2:=by simpa using GE
  by_cases Hq:es.length+1<=c
  ·have Hl:=run_storeCells_at P g (es.length*2) S.tG [.int .u32 0,aG] 0 cur w hg (by simp only[List.length_cons,List.length_nil];omega) hx.one
   simp only[Nat.add_zero]at Hl
   have hr:(Builtin.append_ #[S.tGs,S.tGs] S.tGs #[.slice (some ⟨g,0,none⟩) es.length c,x]).run P w=.ok (.slice (some ⟨g,0,none⟩) (es.length+1) c) (w.setRow g (aI cur (es.length*2) [.int .u32 0,aG])):=by
    have hxc:(Builtin.firstCells 2 1 x).run P w=.ok [Value.int .u32 0,aG].toArray w:=hx.cells
    rcases hx.kind with⟨e',hk⟩|hk<;>simp[Builtin.append_,run_underlying ht,sizeOf,typeInfo,hi,G0,hx.len,Hq,hxc,Addr.add_lit,Hl,aI]
   have Il:es.length*2+[Value.int .u32 0,aG].length<=cur.size:=by simp only[List.length_cons,List.length_nil];omega
   refine⟨_,_,hr,.inr ⟨g,c,_,by rw[List.length_append];rfl,QL,setRow_heap _ _ _ _ _ _ hg,by rw[List.length_append];exact Hq,IK,by rw[dO Il];exact GE,fun j e hj=>?_⟩,ac.setRow _ _ _ _ rfl,fun k hk=>.inl hk⟩
   by_cases MF:j<es.length
   ·rw[List.getElem?_append_left MF]at hj
    obtain⟨h1,h2⟩:=Ha j e hj
    rw[cm Il _ (.inl (by omega)),cm Il _ (.inl (by omega))]
    exact⟨h1,h2⟩
   ·rw[List.getElem?_append_right (by omega)]at hj
    obtain⟨TR,rfl⟩:=z0 _ _ hj
    have Q9:j=es.length:=by omega
    subst Q9
    have a1:=bU Il 0 (by simp)
    have a2:=bU Il 1 (by simp)
    exact⟨by simpa[ji]using a1,by simpa[ji]using a2⟩
  ·have key:∃ v' w',(Builtin.append_ #[S.tGs,S.tGs] S.tGs #[.slice (some ⟨g,0,none⟩) es.length c,x]).run P w=.ok v' w'/\cy w' L S.tG v' (es++[ji])/\ac (fun _=>False) w w'/\∀ k,v'.ownBlock=some k->w.heap.size<=k:=by
    refine grown (some ⟨g,0,none⟩) c (cur.toList.take (es.length*2)) (by rw[List.length_take,KG];omega) (by omega) ?_ (fun j e hj=>?_)
    ·have hl:=run_loadCells_list (P:=P) w.drew ⟨g,0,none⟩ (cur.toList.take (es.length*2)) (fun j u hj=>by
      rw[List.getElem?_take]at hj
      split at hj
      ·rw[Addr.add_lit]
       have GA:w.drew.heap[g]?=some (.cells cur S.tG (0,0)):=hg
       simp[World.cell?,GA,<- hj]
      ·cases hj)
     have JW:(cur.toList.take (es.length*2)).length=es.length*2:=by rw[List.length_take,KG];omega
     rw[JW]at hl
     simp[Builtin.firstCells,G0,hl]
    ·have HY:=(List.getElem?_eq_some_iff.1 hj).1
     obtain⟨h1,h2⟩:=Ha j e hj
     rw[List.getElem?_take,if_pos (by omega),List.getElem?_take,if_pos (by omega)]
     exact⟨by simpa using h1,by simpa using h2⟩
   obtain⟨v',w',a1,a2,a3,a4⟩:=key
   exact⟨v',w',a1,a2,a3.mono fun _ _ h=>h.elim,fun k hk=>.inr (a4 k hk)⟩
theorem z6 (k:Nat)(v:Bs):∀ (l:List (Nat × Bs)) (i:Nat),i<=l.length->(∀ j p,j<i->l[j]?=some p->p.1<k)->(∀ p,l[i]?=some p->k<=p.1) ->
  bP k v l=if(∃ p,l[i]?=some p/\p.1=k)then l else l.take i++(k,v)::l.drop i
 | [],i,hi,_,_=>by
  obtain rfl:i=0:=by simpa using hi
  simp[bP]
 | (j,u)::r,0,_,_,Hm=>by
  have h1:=Hm (j,u) rfl
  simp only[bP]
  by_cases hk:k<j
  ·rw[if_pos hk,if_neg (fun⟨p,hp,he⟩=>by simp at hp;subst hp;simp only at he;omega)]
   simp
  ·have OA:k=j:=by simp only at h1;omega
   rw[if_neg hk,if_pos OA,if_pos ⟨(j,u),rfl,OA.symm⟩]
 | (j,u)::r,i+1,hi,Gq,Hm=>by
  have h0:j<k:=Gq 0 (j,u) (by omega) rfl
  have ih:=z6 k v r i (by simpa using hi) (fun q p hq hp=>Gq (q+1) p (by omega) (by simpa using hp)) (fun p hp=>Hm p (by simpa using hp))
  simp only[bP]
  rw[if_neg (by omega),if_neg (by omega),ih]
  simp only[List.getElem?_cons_succ]
  split<;>simp
section
variable {P:Program} {ops:Array Oper} {C:World->Prop} {Q:Act->Prop} {r:List Oper} {n:Nat} {a:Act} {l:List (Nat × Value)}
theorem k9 (h:Q a):wpQuiet P ops C Q [] a:=h
theorem pT {o:Oper}(h:St n a l){d:Nat}{v:Value}(Iq:o.dst=some d)(hw:Region.wanted o (yielded ops a.tmps)=true)(GF:∀ w,C w->(execOp a.eval o).run P w=.ok (.value v) w)(hd:d<n)(c:∀ a',St n a' ((d,v)::l)->wpQuiet P ops C Q r a'):wpQuiet P ops C Q (o::r) a:=by
 show if _ then _ else _
 rw[if_pos hw]
 refine⟨v,fun w hC=>?_,?_⟩
 ·unfold Oper.quietAt
  rw[GF w hC]
  exact⟨rfl,rfl⟩
 ·rw[Iq]
  exact c _ (h.put v hd)
theorem eN {op:Op}(h:St n a l){d:Nat}{v:Value}(GF:∀ w,C w->(execOp a.eval (mk (some d) op)).run P w=.ok (.value v) w)(hd:d<n)(c:∀ a',St n a' ((d,v)::l)->wpQuiet P ops C Q r a'):wpQuiet P ops C Q (mk (some d) op::r) a:=
 pT h rfl (by simp[Region.wanted,mk]) GF hd c
theorem dN {op:Op}(h:St n a l){d j jd:Nat}{b:Bool}{v:Value}{o:Oper}(ho:ops[j]?=some o)(Iq:o.dst=some jd)(hj:l.lookup jd=some (.bool b))(I6:jd<n)(GF:∀ w,C w->(execOp a.eval (mk (some d) op)).run P w=.ok (.value v) w)(hd:d<n)(c:∀ a',St n a' ((d,v)::l)->wpQuiet P ops C Q r a'):wpQuiet P ops C Q (gd d op j b::r) a:=
 pT h rfl (by have hy:=bY ho Iq (by rw[h.size];exact I6) (h.get _ _ hj);simp[Region.wanted,gd,hy]) (fun w hC=>by
  have:execOp a.eval (gd d op j b)=execOp a.eval (mk (some d) op):=by simp only[execOp,mk,gd]
  rw[this];exact GF w hC) hd c
theorem bK {o2:Oper}(h:St n a l){d j jd:Nat}{b b':Bool}{o:Oper}(H7:o2.dst=some d)(G2:o2.guard=some (j,b))(ho:ops[j]?=some o)(Iq:o.dst=some jd)(hj:l.lookup jd=some (.bool b'))(I6:jd<n)(hb:b'≠b)(hd:d<n)(c:∀ a',St n a' ((d,undef)::l)->wpQuiet P ops C Q r a'):wpQuiet P ops C Q (o2::r) a:=by
 have hy:=bY ho Iq (by rw[h.size];exact I6) (h.get _ _ hj)
 show if _ then _ else _
 rw[if_neg (by simp[Region.wanted,G2,hy,hb]),H7]
 exact c _ (h.put _ hd)
theorem i0 {o2:Oper}(h:St n a l){d j jd:Nat}{b:Bool}{o:Oper}(H7:o2.dst=some d)(G2:o2.guard=some (j,b))(ho:ops[j]?=some o)(Iq:o.dst=some jd)(hj:l.lookup jd=some undef)(I6:jd<n)(hd:d<n)(c:∀ a',St n a' ((d,undef)::l)->wpQuiet P ops C Q r a'):wpQuiet P ops C Q (o2::r) a:=by
 have hy:yielded ops a.tmps j=none:=by
  have:a.tmps[jd]?=some undef:=by
   have h1:=h.get _ _ hj
   rw[<- h1]
   simp[Act.get,h.size,I6]
  simp[yielded,ho,Iq,this,undef]
 show if _ then _ else _
 rw[if_neg (by simp[Region.wanted,G2,hy]),H7]
 exact c _ (h.put _ hd)
variable {w:World}
theorem dV (h:St n a l){d:Nat}{x:Operand}{v:Value}(hx:Hd l x v):(execOp a.eval (mk (some d) (.move x))).run P w=.ok (.value v) w:=by simp[execOp,mk,hx n a h]
theorem lS (h:St n a l){d:Nat}{x:Operand}{TT k F B O off sz:Nat}{agg:Bool}(hx:Hd l x (pt B O))(hF:bp P TT k F off agg sz):(execOp a.eval (mk (some d) (.fieldAddr TT x k))).run P w=.ok (.value (pt B (O+off))) w:=by
 obtain⟨fs,f,h1,h2,h3,h4⟩:=hF.fld
 obtain⟨q,rfl⟩:∃ q,sz=q+1:=⟨sz-1,by have:=hF.pos;omega⟩
 have e:=hx n a h
 simp only[pt]at e
 have hn:∀ w,(sizeOf f.type).run P w=.ok (q+1) w:=fun w=>by rw[h4];exact hF.var.size w
 simp[execOp,mk,e,Instr.fieldAt,run_underlying h1,h2,h3,fieldPlace,hn,Instr.sureAddr,Addr.add_lit,pt]
theorem iS (h:St n a l){d:Nat}{x:Operand}{F B O sz:Nat}{v:Value}(hx:Hd l x (pt B O))(hF:bd P F false sz)(hv:w.cell? ⟨B,O,none⟩=some v):(execOp a.eval (mk (some d) (.load F x))).run P w=.ok (.value v) w:=by
 have e:=hx n a h
 simp only[pt]at e
 simp[execOp,mk,e,Instr.loadAt,Instr.sureAddr,loadVar,hF.agg w,load,hv,Sem.run]
theorem kH (h:St n a l){d T:Nat}{x y:Operand}{op:BinOp}{k:IntKind}{p q:Int}(hc:rV op=true)(hx:Hd l x (.int k p))(hy:Hd l y (.int k q)):(execOp a.eval (mk (some d) (.binOp op T x y 0))).run P w=.ok (.value (.bool (aO op p q))) w:=by
 have he:(eqGuard op T x y (.int k p) (.int k q)).run P w=.ok () w:=by
  unfold eqGuard
  cases op<;>simp
 simp only[execOp,mk,hx n a h,hy n a h,Sem.run_bind,he,Result.andThen_ok,i5 (qG hc p q),Sem.run_pure]
theorem gX (h:St n a l){d:Nat}{x y z:Operand}{b':Bool}{u v:Value}(hx:Hd l x (.bool b'))(hy:Hd l y u)(hz:Hd l z v):(execOp a.eval (mk (some d) (.pick x y z))).run P w=.ok (.value (if b' then u else v)) w:=by
 cases b'<;>simp[execOp,mk,hx n a h,hy n a h,hz n a h,asBool]
theorem r9 (h:St n a l){d:Nat}{x y:Operand}{F E b o m c i sz:Nat}{k:IntKind}(hx:Hd l x (.slice (some ⟨b,o,none⟩) m c))(hy:Hd l y (.int k (i:Nat)))(hi:i<m)(hF:P.underlying F=some (.slice E))(hs:∀ w,(sizeOf E).run P w=.ok sz w):(execOp a.eval (mk (some d) (.indexAddr F x y))).run P w=.ok (.value (pt b (o+i*sz))) w:=by
 simp[execOp,mk,hx n a h,hy n a h,Instr.indexAt,asIntOf,run_underlying hF,hs,hi,Addr.add_lit,pt]
theorem yq (h : St n a l) {d F E ty m c : Nat} {x : Operand} {g : Option (Nat × Bool)} {base : Option Addr} (hx : Hd l x (.slice base m c)) (hF : P.underlying F = some (.slice E)) : (execOp a.eval ⟨some d, .call ⟨.builtin .len, #[x], #[F]⟩, ty, "", #[], g⟩).run P w = .ok (.value (.int .i64 (m : Int))) w := by
 simp[execOp,resolve,invoke,builtin,hx n a h,Builtin.len_,run_underlying hF,goInt]
end
end
section
open Go
set_option maxRecDepth 4000
def fY (e:mA):Nat × Bs:=(e.k.toNat,e.b)
theorem vY {es:List mA}{p:Nat}{junk e:mA}(hp:es[p]?=some e):(es.take (p+1)++junk::es.drop (p+1)).set (p+1) e=es.take p++e::es.drop p:=by
 have Gq:=(List.getElem?_eq_some_iff.1 hp).1
 have e1:es.take (p+1)=es.take p++[e]:=by rw[List.take_add_one,hp];rfl
 have e2:es.drop p=e::es.drop (p+1):=by rw[List.drop_eq_getElem_cons Gq,(List.getElem?_eq_some_iff.1 hp).2]
 have hl:(es.take (p+1)).length=p+1:=by rw[List.length_take];omega
 rw[List.set_append_right _ _ (by omega),hl,Nat.sub_self,List.set_cons_zero,e1,e2]
 simp
theorem zr {es:List mA}{p:Nat}{junk e:mA}(hp:p<=es.length):(es.take p++junk::es.drop p).set p e=es.take p++e::es.drop p:=by
 have hl:(es.take p).length=p:=by rw[List.length_take];omega
 rw[List.set_append_right _ _ (by omega),hl,Nat.sub_self,List.set_cons_zero]
section
variable {P:Program} {S:SN}
theorem A3 (T:RefT P S){W:World}{L:Nat}{v sv:Value}{es:List mA}{k:UInt32}{g8:Nat}{x5 x17 x18 x19:Value}(ho:cy W L S.tG v es)(h8:ao W g8 0 [.int .u32 (k.toNat:Int),sv])(Gp:es.length<=40000){a:Act}{w:World}(ME:ac (fun _=>False) W w)
  (h:St 85 a [(5,x5),(6,v),(8,pt g8 0),(9,.int .i64 0),(17,x17),(18,x18),(19,x19)]) {R:Exit->Act->World->Prop}
  (hR:∀ (a':Act) (w':World) (j:Nat),St 85 a' [(5,x5),(6,v),(8,pt g8 0),(9,.int .i64 (j:Int)),(17,x17),(18,x18),(19,x19)]->ac (fun _=>False) W w'->j<=es.length->(∀ j' e,j'<j->es[j']?=some e->e.k.toNat<k.toNat)->(∀ e,es[j]?=some e->k.toNat<=e.k.toNat)->R .normal a' w') :
  aQ P (.block 2 (.loop (.seq (.seq (.region 2 (yK S).toArray true) (.cond (tm 36) .skip (.exit 2))) (.block 3 (rg (BM S)))))) R a w:=by
 obtain⟨bx,cx,hv,_⟩:=ho.form
 refine ee (fun m a' w'=>∃ j:Nat,j+m=es.length/\ac (fun _=>False) W w'/\(∀ j' e,j'<j->es[j']?=some e->e.k.toNat<k.toNat)/\St 85 a' [(5,x5),(6,v),(8,pt g8 0),(9,.int .i64 (j:Int)),(17,x17),(18,x18),(19,x19)]) es.length
  ⟨es.length,Nat.le_refl _,0,by omega,ME,fun j' e hj=>by omega,h⟩ ?_
 rintro m a w hm ⟨j,hjm,hk,Gq,h⟩
 have test:∀ (bb:Bool) (KK:Exit->Act->World->Prop),bb=decide (∃ e,es[j]?=some e/\e.k.toNat<k.toNat)->(∀ a' w',St 85 a' [(36,.bool bb),(5,x5),(6,v),(8,pt g8 0),(9,.int .i64 (j:Int)),(17,x17),(18,x18),(19,x19)]->ac (fun _=>False) W w'->KK .normal a' w')->aQ P (.region 2 (yK S).toArray true) KK a w:=by
  intro bb KK HZ KI
  refine .drq (fun w'=>ac (fun _=>False) W w') (hk.trans (ac.drew _ _)) ?_
  refine eN h (fun w' hC=>dV h (.t rfl)) (by omega) fun a h=>eN h (fun w' hC=>dV h (.t rfl)) (by omega) fun a h=>?_
  have h':=h
  rw[hv]at h'
  refine pT h rfl (by simp[Region.wanted,bi]) (fun w' hC=>yq h' (.t rfl) T.dGs) (by omega) fun a h=>?_
  refine eN h (fun w' hC=>kH h rfl (.t rfl) (.t rfl)) (by omega) fun a h=>eN h (fun w' hC=>dV h (.t rfl)) (by omega) fun a h=>?_
  cases hb:aO .lss (j:Int) (es.length:Int) with
  | false=>
   rw[hb]at h
   have Hm:es.length<=j:=by simp[aO]at hb;omega
   refine bK h rfl rfl rfl rfl rfl (by omega) (by simp) (by omega) fun a h=>bK h rfl rfl rfl rfl rfl (by omega) (by simp) (by omega) fun a h=>bK h rfl rfl rfl rfl rfl (by omega) (by simp) (by omega) fun a h=>bK h rfl rfl rfl rfl rfl (by omega) (by simp) (by omega) fun a h=>?_
   refine bK h rfl rfl rfl rfl rfl (by omega) (by simp) (by omega) fun a h=>bK h rfl rfl rfl rfl rfl (by omega) (by simp) (by omega) fun a h=>bK h rfl rfl rfl rfl rfl (by omega) (by simp) (by omega) fun a h=>bK h rfl rfl rfl rfl rfl (by omega) (by simp) (by omega) fun a h=>?_
   refine eN h (fun w' hC=>gX h (.t rfl) (.t rfl) .c) (by omega) fun a h=>k9 fun w' hC=>KI _ _ ?_ hC
   have:bb=false:=by
    rw[HZ]
    refine decide_eq_false fun⟨e,he,_⟩=>?_
    rw[List.getElem?_eq_none Hm]at he
    cases he
   subst this
   exact h.pick ⟨rfl,rfl,rfl,rfl,rfl,rfl,rfl,rfl,trivial⟩
  | true=>
   rw[hb]at h
   have HY:j<es.length:=by simp[aO]at hb;omega
   obtain⟨e,he⟩:∃ e,es[j]?=some e:=⟨_,List.getElem?_eq_getElem HY⟩
   obtain⟨g,c,Kk,_,Gn⟩:=ho.get he
   refine dN h rfl rfl rfl (by omega) (fun w' hC=>dV h (.t rfl)) (by omega) fun a h=>dN h rfl rfl rfl (by omega) (fun w' hC=>dV h (.t rfl)) (by omega) fun a h=>?_
   have h':=h
   rw[Kk]at h'
   refine dN h rfl rfl rfl (by omega) (fun w' hC=>r9 h' (sz:=2) (.t rfl) (.t rfl) HY T.dGs T.vG.size) (by omega) fun a h=>dN h rfl rfl rfl (by omega) (fun w' hC=>lS h (.t rfl) T.g0) (by omega) fun a h=>?_
   refine dN h rfl rfl rfl (by omega) (fun w' hC=>iS h (.t rfl) T.g0.var ((ao.kn hC Gn).at (j:=0) rfl)) (by omega) fun a h=>dN h rfl rfl rfl (by omega) (fun w' hC=>lS h (.t rfl) T.g0) (by omega) fun a h=>?_
   refine dN h rfl rfl rfl (by omega) (fun w' hC=>iS h (.t rfl) T.g0.var ((ao.kn hC h8).at (j:=0) rfl)) (by omega) fun a h=>dN h rfl rfl rfl (by omega) (fun w' hC=>kH h rfl (.t rfl) (.t rfl)) (by omega) fun a h=>?_
   refine eN h (fun w' hC=>gX h (.t rfl) (.t rfl) .c) (by omega) fun a h=>k9 fun w' hC=>KI _ _ ?_ hC
   have:bb=aO .lss (e.k.toNat:Int) (k.toNat:Int):=by
    rw[HZ]
    simp only[aO]
    refine decide_eq_decide.2 ⟨fun⟨e',Ij,hl⟩=>?_,fun hl=>⟨e,he,by omega⟩⟩
    rw[he]at Ij
    obtain rfl:=Option.some.inj Ij
    omega
   rw[this]
   have h:=h.pick (m:=[(36,if true=true then Value.bool (aO .lss (e.k.toNat:Int) (k.toNat:Int))else Value.bool false),(5,x5),(6,v),(8,pt g8 0),(9,.int .i64 (j:Int)),(17,x17),(18,x18),(19,x19)]) ⟨rfl,rfl,rfl,rfl,rfl,rfl,rfl,rfl,trivial⟩
   simpa using h
 by_cases Je:∃ e,es[j]?=some e/\e.k.toNat<k.toNat
 ·refine aw (aw (test true _ (by simp[Je]) fun a w h hk=>?_))
  refine bf h rfl (fun _=>?_) (fun hb=>by cases hb)
  obtain⟨e,he,G5⟩:=Je
  have HY:=(List.getElem?_eq_some_iff.1 he).1
  refine .skip (.block (aW (al h (.t rfl) (by omega) fun a h=>cK h (.t rfl) .i (by simp) (cY w) (by omega) fun a h=>?_)))
  have hw:IntKind.i64.wrap ((j:Int)+1)=((j+1:Nat):Int):=by simp[IntKind.wrap,IntKind.bits,IntKind.signed];omega
  rw[hw]at h
  refine ah h (.t rfl) (by omega) fun a h=>wpList_nil ?_
  refine⟨m-1,by omega,by omega,j+1,by omega,hk,fun j' e' Nt Ij=>?_,h.pick ⟨rfl,rfl,rfl,rfl,rfl,rfl,rfl,trivial⟩⟩
  rcases Nat.lt_or_ge j' j with hc|hc
  ·exact Gq j' e' hc Ij
  ·obtain rfl:j'=j:=by omega
   rw[he]at Ij
   obtain rfl:=Option.some.inj Ij
   exact G5
 ·refine aw (aw (test false _ (by simp[Je]) fun a w h hk=>?_))
  refine bf h rfl (fun hb=>by cases hb) (fun _=>?_)
  refine .exit (hR a w j (h.pick ⟨rfl,rfl,rfl,rfl,rfl,rfl,rfl,trivial⟩) hk (by omega) Gq fun e he=>?_)
  rcases Nat.lt_or_ge e.k.toNat k.toNat with hc|hc
  ·exact absurd ⟨e,he,hc⟩ Je
  ·exact hc
end
end
section
open Go
set_option maxRecDepth 4000
section
variable {P:Program} {S:SN}
theorem A2 (T:RefT P S){W:World}{L:Nat}{v sv:Value}{es:List mA}{k:UInt32}{g8 j least:Nat}{x17 x18 x19:Value}(ho:cy W L S.tG v es)(h8:ao W g8 0 [.int .u32 (k.toNat:Int),sv]){a:Act}{w:World}(hk:ac (fun _=>False) W w)
  (h:St 85 a [(5,.int .u32 (least:Int)),(6,v),(8,pt g8 0),(9,.int .i64 (j:Int)),(17,x17),(18,x18),(19,x19)]) (_hj:j<=es.length) {KK:Exit->Act->World->Prop} (bb:Bool) (HZ:bb=decide (k.toNat<least \/ ∃ e,es[j]?=some e/\e.k.toNat=k.toNat))
  (KI:∀ a' w',St 85 a' [(58,.bool bb),(5,.int .u32 (least:Int)),(6,v),(8,pt g8 0),(9,.int .i64 (j:Int)),(17,x17),(18,x18),(19,x19)]->ac (fun _=>False) W w'->KK .normal a' w'):aQ P (.region 2 (yJ S).toArray true) KK a w:=by
 obtain⟨bx,cx,hv,_⟩:=ho.form
 refine .drq (fun w'=>ac (fun _=>False) W w') (hk.trans (ac.drew _ _)) ?_
 refine eN h (fun w' hC=>lS h (.t rfl) T.g0) (by omega) fun a h=>eN h (fun w' hC=>iS h (.t rfl) T.g0.var ((ao.kn hC h8).at (j:=0) rfl)) (by omega) fun a h=>?_
 refine eN h (fun w' hC=>dV h (.t rfl)) (by omega) fun a h=>eN h (fun w' hC=>kH h rfl (.t rfl) (.t rfl)) (by omega) fun a h=>eN h (fun w' hC=>dV h (.t rfl)) (by omega) fun a h=>?_
 cases hb:aO .lss (k.toNat:Int) (least:Int) with
 | true=>
  rw[hb]at h
  have Gq:k.toNat<least:=by simp[aO]at hb;omega
  refine bK h rfl rfl rfl rfl rfl (by omega) (by simp) (by omega) fun a h=>bK h rfl rfl rfl rfl rfl (by omega) (by simp) (by omega) fun a h=>bK h rfl rfl rfl rfl rfl (by omega) (by simp) (by omega) fun a h=>bK h rfl rfl rfl rfl rfl (by omega) (by simp) (by omega) fun a h=>bK h rfl rfl rfl rfl rfl (by omega) (by simp) (by omega) fun a h=>?_
  refine i0 h rfl rfl rfl rfl rfl (by omega) (by omega) fun a h=>i0 h rfl rfl rfl rfl rfl (by omega) (by omega) fun a h=>i0 h rfl rfl rfl rfl rfl (by omega) (by omega) fun a h=>i0 h rfl rfl rfl rfl rfl (by omega) (by omega) fun a h=>?_
  refine i0 h rfl rfl rfl rfl rfl (by omega) (by omega) fun a h=>i0 h rfl rfl rfl rfl rfl (by omega) (by omega) fun a h=>i0 h rfl rfl rfl rfl rfl (by omega) (by omega) fun a h=>i0 h rfl rfl rfl rfl rfl (by omega) (by omega) fun a h=>?_
  refine bK h rfl rfl rfl rfl rfl (by omega) (by simp) (by omega) fun a h=>eN h (fun w' hC=>gX h (.t rfl) .c (.t rfl)) (by omega) fun a h=>k9 fun w' hC=>KI _ _ ?_ hC
  have:bb=true:=by rw[HZ];exact decide_eq_true (.inl Gq)
  subst this
  exact h.pick ⟨rfl,rfl,rfl,rfl,rfl,rfl,rfl,rfl,trivial⟩
 | false=>
  rw[hb]at h
  have Hi:¬ k.toNat<least:=by simp[aO]at hb;omega
  refine dN h rfl rfl rfl (by omega) (fun w' hC=>dV h (.t rfl)) (by omega) fun a h=>dN h rfl rfl rfl (by omega) (fun w' hC=>dV h (.t rfl)) (by omega) fun a h=>?_
  have h':=h
  rw[hv]at h'
  refine pT h rfl (by have hy:=bY (a:=a) (ops:=(yJ S).toArray) (j:=4) (d:=43) (b:=false) rfl rfl (by rw[h.size];omega) (h.get 43 _ rfl);simp[Region.wanted,hy]) (fun w' hC=>yq h' (.t rfl) T.dGs) (by omega) fun a h=>?_
  refine dN h rfl rfl rfl (by omega) (fun w' hC=>kH h rfl (.t rfl) (.t rfl)) (by omega) fun a h=>dN h rfl rfl rfl (by omega) (fun w' hC=>dV h (.t rfl)) (by omega) fun a h=>?_
  cases Hj:aO .lss (j:Int) (es.length:Int) with
  | false=>
   rw[Hj]at h
   have Hm:es.length<=j:=by simp[aO]at Hj;omega
   refine bK h rfl rfl rfl rfl rfl (by omega) (by simp) (by omega) fun a h=>bK h rfl rfl rfl rfl rfl (by omega) (by simp) (by omega) fun a h=>bK h rfl rfl rfl rfl rfl (by omega) (by simp) (by omega) fun a h=>bK h rfl rfl rfl rfl rfl (by omega) (by simp) (by omega) fun a h=>?_
   refine bK h rfl rfl rfl rfl rfl (by omega) (by simp) (by omega) fun a h=>bK h rfl rfl rfl rfl rfl (by omega) (by simp) (by omega) fun a h=>bK h rfl rfl rfl rfl rfl (by omega) (by simp) (by omega) fun a h=>bK h rfl rfl rfl rfl rfl (by omega) (by simp) (by omega) fun a h=>?_
   refine dN h rfl rfl rfl (by omega) (fun w' hC=>gX h (.t rfl) (.t rfl) .c) (by omega) fun a h=>eN h (fun w' hC=>gX h (.t rfl) .c (.t rfl)) (by omega) fun a h=>k9 fun w' hC=>KI _ _ ?_ hC
   have:bb=false:=by
    rw[HZ]
    refine decide_eq_false fun hh=>?_
    rcases hh with hh|⟨e,he,_⟩
    ·exact Hi hh
    ·rw[List.getElem?_eq_none Hm]at he
     cases he
   subst this
   exact h.pick ⟨rfl,rfl,rfl,rfl,rfl,rfl,rfl,rfl,trivial⟩
  | true=>
   rw[Hj]at h
   have HY:j<es.length:=by simp[aO]at Hj;omega
   obtain⟨e,he⟩:∃ e,es[j]?=some e:=⟨_,List.getElem?_eq_getElem HY⟩
   obtain⟨g,c,Kk,_,Gn⟩:=ho.get he
   refine dN h rfl rfl rfl (by omega) (fun w' hC=>dV h (.t rfl)) (by omega) fun a h=>dN h rfl rfl rfl (by omega) (fun w' hC=>dV h (.t rfl)) (by omega) fun a h=>?_
   have h':=h
   rw[Kk]at h'
   refine dN h rfl rfl rfl (by omega) (fun w' hC=>r9 h' (sz:=2) (.t rfl) (.t rfl) HY T.dGs T.vG.size) (by omega) fun a h=>dN h rfl rfl rfl (by omega) (fun w' hC=>lS h (.t rfl) T.g0) (by omega) fun a h=>?_
   refine dN h rfl rfl rfl (by omega) (fun w' hC=>iS h (.t rfl) T.g0.var ((ao.kn hC Gn).at (j:=0) rfl)) (by omega) fun a h=>dN h rfl rfl rfl (by omega) (fun w' hC=>lS h (.t rfl) T.g0) (by omega) fun a h=>?_
   refine dN h rfl rfl rfl (by omega) (fun w' hC=>iS h (.t rfl) T.g0.var ((ao.kn hC h8).at (j:=0) rfl)) (by omega) fun a h=>dN h rfl rfl rfl (by omega) (fun w' hC=>kH h rfl (.t rfl) (.t rfl)) (by omega) fun a h=>?_
   refine dN h rfl rfl rfl (by omega) (fun w' hC=>gX h (.t rfl) (.t rfl) .c) (by omega) fun a h=>eN h (fun w' hC=>gX h (.t rfl) .c (.t rfl)) (by omega) fun a h=>k9 fun w' hC=>KI _ _ ?_ hC
   have:bb=aO .eql (e.k.toNat:Int) (k.toNat:Int):=by
    rw[HZ]
    simp only[aO]
    refine decide_eq_decide.2 ⟨fun hh=>?_,fun hl=>.inr ⟨e,he,by omega⟩⟩
    rcases hh with hh|⟨e',Ij,hl⟩
    ·exact absurd hh Hi
    ·rw[he]at Ij
     obtain rfl:=Option.some.inj Ij
     omega
   rw[this]
   have h:=h.pick (m:=[(58,if false=true then Value.bool true else if true=true then Value.bool (aO .eql (e.k.toNat:Int) (k.toNat:Int))else Value.bool false),(5,.int .u32 (least:Int)),(6,v),(8,pt g8 0),(9,.int .i64 (j:Int)),(17,x17),(18,x18),(19,x19)]) ⟨rfl,rfl,rfl,rfl,rfl,rfl,rfl,rfl,trivial⟩
   simpa using h
theorem vS (T:RefT P S){W:World}{L:Nat}{v sv:Value}{es:List mA}{k:UInt32}{b:Bs}{g8 j:Nat}{x5 x17 x18 x19:Value}(ho:cy W L S.tG v es)(h8:ao W g8 0 [.int .u32 (k.toNat:Int),sv])(GG:sv.oneCell'=true)(L1:∀ i,v.ownBlock=some i->i≠g8)(QM:g8<W.heap.size)(hL:L<=W.heap.size)(Gp:es.length<=39999)(Mg:∀ e∈es,e.v.oneCell'=true){a:Act}
  (h:St 85 a [(5,x5),(6,v),(8,pt g8 0),(9,.int .i64 (j:Int)),(17,x17),(18,x18),(19,x19)]) (hj:j<=es.length) {R:Exit->Act->World->Prop}
  (hR:∀ a' w' v',St 85 a' [(5,x5),(6,v'),(17,x17),(18,x18),(19,x19)]->cy w' L S.tG v' (es.take j++⟨k,sv,b⟩::es.drop j)->ac (fun i=>L<=i) W w'->R .normal a' w') :
  aQ P (.seq (rg (yR S)) (.seq (.seq (rg (yQ S)) (.block 4 (.loop (.seq (.seq (rg (yP S)) (.cond (tm 68) .skip (.exit 4))) (.seq (.block 5 (rg (yO S))) (rg (yN S))))))) (rg (yM S)))) R a W:=by
 refine aw (aW (al h (.t rfl) (by omega) fun a h=>iR h (qs:=#[]) (fun _ _ _=>by simp) (T.bG W) (by omega) fun a h=>?_))
 refine aD (v:=.slice (some ⟨W.heap.size,0,none⟩) 1 1) (w':=W.alloc (.cells #[.int .u32 0,aG] S.tG (0,0))) ?_ ?_
 ·have e:=Hd.t (l:=_) (i:=60) rfl _ a h
  simp[execOp,mk,e,T.bSG]
 have h:=h.put (d:=61) (.slice (some ⟨W.heap.size,0,none⟩) 1 1) (by omega)
 have P3:ac (fun _=>False) W (W.alloc (.cells #[.int .u32 0,aG] S.tG (0,0))):=ac.alloc _ _ _
 have Pz:=aB W (.cells #[.int .u32 0,aG] S.tG (0,0))
 generalize W.alloc (.cells #[.int .u32 0,aG] S.tG (0,0))=w1 at P3 Pz ⊢
 have Ic:Src P 2 S.tGs (.slice (some ⟨W.heap.size,0,none⟩) 1 1) 1 [.int .u32 0,aG] w1:=Src.ofSlice w1 T.dGs ⟨W.heap.size,0,none⟩ 1 1 _ rfl (fun q u hq=>by
  rw[Addr.add_lit]
  match q,hq with
  | 0,hq=>simp at hq;subst hq;simp[World.cell?,Pz]
  | 1,hq=>simp at hq;subst hq;simp[World.cell?,Pz]
  | q+2,hq=>simp at hq) (fun u hu=>by
   simp only[List.mem_cons,List.not_mem_nil,or_false]at hu
   rcases hu with rfl|rfl<;>rfl)
 have VC:cy w1 L S.tG v es:=ho.keep P3 fun _ _ h=>h
 obtain⟨v2,w2,GF,No,Gs,Qe⟩:=nK T VC Ic (Nat.le_trans hL P3.size) (by omega)
 refine By h (v:=v2) (w':=w2) (by simp[execOp,bi,resolve,invoke,builtin,Hd.t (l:=_) (i:=59) rfl _ _ h,Hd.t (l:=_) (i:=61) rfl _ _ h,GF]) (by omega) fun a h=>ah h (.t rfl) (by omega) fun a h=>wpList_nil ?_
 have h82:ao w2 g8 0 [.int .u32 (k.toNat:Int),sv]:=fun q x hq=>Gs.cell (fun hX=>L1 _ hX rfl) (P3.cell id (h8 q x hq))
 have TL:ac (fun i=>L<=i) W w2:=(P3.mono fun _ _ h=>h.elim).trans (Gs.mono fun i _ hi=>(VC.own hi).1)
 have T0:∀ i,v2.ownBlock=some i->i≠g8:=fun i hi=>by
  rcases Qe i hi with h1|h1
  ·exact L1 i h1
  ·have:=P3.size;omega
 obtain⟨bx,cx,Jl,_⟩:=No.form
 rw[List.length_append]at Jl
 have hv2':v2=.slice bx (es.length+1) cx:=Jl
 refine aw (aw (aW (al h (.t rfl) (by omega) fun a h=>?_)))
 have h':=h
 rw[hv2']at h'
 refine cr h' (.t rfl) T.dGs (by omega) fun a h=>cK h (.t rfl) .i (by simp) (jF w2) (by omega) fun a h=>?_
 have PH:IntKind.i64.wrap (((es.length+1:Nat):Int)-1)=(es.length:Int):=by simp[IntKind.wrap,IntKind.bits,IntKind.signed];omega
 rw[PH]at h
 rw[<- hv2']at h
 refine ah h (.t rfl) (by omega) fun a h=>wpList_nil ?_
 refine ee (fun m a' w'=>∃ (p:Nat) (junk:mA),p=j+m/\p<=es.length/\cy w' L S.tG v2 (es.take p++junk::es.drop p)/\ao w' g8 0 [.int .u32 (k.toNat:Int),sv]/\ac (fun i=>L<=i) W w' /\
   St 85 a' [(5,x5),(6,v2),(8,pt g8 0),(9,.int .i64 (j:Int)),(10,.int .i64 (p:Int)),(17,x17),(18,x18),(19,x19)]) es.length
  ⟨es.length-j,by omega,es.length,ji,by omega,Nat.le_refl _,by rw[List.take_length,List.drop_length];exact No,h82,TL,h.pick ⟨rfl,rfl,rfl,rfl,rfl,rfl,rfl,rfl,trivial⟩⟩ ?_
 rintro m a w hm ⟨p,junk,Qb,Iy,Nk,Ww,ME,h⟩
 have Ln:(es.take p++junk::es.drop p).length=es.length+1:=by simp[List.length_take];omega
 refine aw (aw (aW (al h (.t rfl) (by omega) fun a h=>al h (.t rfl) (by omega) fun a h=>aZ h rfl (.t rfl) (.t rfl) (by omega) fun a h=>wpList_nil ?_)))
 refine bf h rfl (fun hb=>?_) (fun hb=>?_)
 ·have LI:j<p:=by simp[aO]at hb;omega
  obtain⟨q,rfl⟩:∃ q,p=q+1:=⟨p-1,by omega⟩
  obtain⟨e,he⟩:∃ e,es[q]?=some e:=⟨_,List.getElem?_eq_getElem (by omega)⟩
  have Hm:(es.take (q+1)++junk::es.drop (q+1))[q]?=some e:=by
   rw[List.getElem?_append_left (by rw[List.length_take];omega),List.getElem?_take,if_pos (by omega),he]
  have Qg:=Nk
  obtain⟨g,c,Kk,_,Gn⟩:=Nk.get Hm
  rcases Nk with⟨hn,_⟩|⟨g',c',cur,JN,R8,QK,Lk,IK,GE,Ha⟩
  ·rw[hn]at Kk;cases Kk
  obtain⟨rfl,rfl⟩:g'=g/\c'=c:=by
   rw[Kk]at JN
   simp only[Value.slice.injEq,Option.some.injEq,Addr.mk.injEq,and_true,true_and]at JN
   exact⟨JN.1.symm,JN.2.symm⟩
  rw[Ln]at Kk Lk
  refine .skip (aw (.block (aW ?_)))
  refine al h (.t rfl) (by omega) fun a h=>al h (.t rfl) (by omega) fun a h=>al h (.t rfl) (by omega) fun a h=>al h (.t rfl) (by omega) fun a h=>cK h (.t rfl) .i (by simp) (jF w) (by omega) fun a h=>?_
  have Jc:IntKind.i64.wrap (((q+1:Nat):Int)-1)=(q:Int):=by simp[IntKind.wrap,IntKind.bits,IntKind.signed];omega
  rw[Jc]at h
  have Qi:e.v.oneCell'=true:=Mg e (List.mem_of_getElem? he)
  have h':=h
  rw[Kk]at h'
  refine dF h' (sz:=2) (.t rfl) (.t rfl) (by omega) T.dGs T.vG.size (by omega) fun a h=>ck h (cs:=[.int .u32 (e.k.toNat:Int),e.v]) (.t rfl) T.vG Gn (by omega) fun a h=>dF h (sz:=2) (.t rfl) (.t rfl) (by omega) T.dGs T.vG.size (by omega) fun a h=>?_
  have OV:(q+1)*2+2<=cur.size:=by omega
  refine bw (g:=g') (o:=0+(q+1)*2) (cur:=cur) (t:=S.tG) (vs:=[.int .u32 (e.k.toNat:Int),e.v]) (h.get 78 _ rfl) (h.get 77 _ rfl) (by simp[Value.cells]) (T.vG.size w) QK (by simp only[List.length_cons,List.length_nil];omega) (fun u hu=>by
   simp only[List.mem_cons,List.not_mem_nil,or_false]at hu
   rcases hu with rfl|rfl
   ·rfl
   ·exact Qi) (wpList_nil ?_)
  have H9:=cy.set (w:=w) (L:=L) (tG:=S.tG) Ln R8 QK Lk IK GE Ha (i:=q+1) (by omega) e
  rw[vY he]at H9
  rw[Nat.zero_add]
  have Hu:ac (fun i=>i=g') w (w.setRow g' (aI cur ((q+1)*2) [.int .u32 (e.k.toNat:Int),e.v])):=ac.setRow _ _ _ _ rfl
  have hg8':g'≠g8:=T0 g' (by rw[Kk];rfl)
  generalize w.setRow g' (aI cur ((q+1)*2) [.int .u32 (e.k.toNat:Int),e.v])=w' at H9 Hu ⊢
  have h:=h.pick (m:=[(5,x5),(6,.slice (some ⟨g',0,none⟩) (es.length+1) c'),(8,pt g8 0),(9,.int .i64 (j:Int)),(10,.int .i64 ((q+1:Nat):Int)),(17,x17),(18,x18),(19,x19)]) ⟨rfl,rfl,rfl,rfl,rfl,rfl,rfl,rfl,trivial⟩
  rw[<- Kk]at h H9
  refine aW (al h (.t rfl) (by omega) fun a h=>cK h (.t rfl) .i (by simp) (jF w') (by omega) fun a h=>?_)
  rw[Jc]at h
  refine ah h (.t rfl) (by omega) fun a h=>wpList_nil ?_
  refine⟨m-1,by omega,by omega,q,e,by omega,by omega,H9,fun y x hy=>Hu.cell (fun hX=>hg8' hX.symm) (Ww y x hy),ME.trans (Hu.mono fun i _ hi=>hi ▸ R8),h.pick ⟨rfl,rfl,rfl,rfl,rfl,rfl,rfl,rfl,trivial⟩⟩
 ·have RZ:p=j:=by simp[aO]at hb;omega
  subst RZ
  refine .exit ?_
  show aQ P _ _ a w
  have Qg:=Nk
  have TR:(es.take p++junk::es.drop p)[p]?=some junk:=by
   have hl:(es.take p).length=p:=by rw[List.length_take];omega
   rw[List.getElem?_append_right (by omega),hl,Nat.sub_self];rfl
  obtain⟨g,c,Kk,_,_⟩:=Qg.get TR
  rcases Nk with⟨hn,_⟩|⟨g',c',cur,JN,R8,QK,Lk,IK,GE,Ha⟩
  ·rw[hn]at Kk;cases Kk
  obtain⟨rfl,rfl⟩:g'=g/\c'=c:=by
   rw[Kk]at JN
   simp only[Value.slice.injEq,Option.some.injEq,Addr.mk.injEq,and_true,true_and]at JN
   exact⟨JN.1.symm,JN.2.symm⟩
  rw[Ln]at Kk Lk
  refine aW (al h (.t rfl) (by omega) fun a h=>al h (.t rfl) (by omega) fun a h=>ck h (cs:=[.int .u32 (k.toNat:Int),sv]) (.t rfl) T.vG Ww (by omega) fun a h=>?_)
  have h':=h
  rw[Kk]at h'
  refine dF h' (sz:=2) (.t rfl) (.t rfl) (by omega) T.dGs T.vG.size (by omega) fun a h=>?_
  refine bw (g:=g') (o:=0+p*2) (cur:=cur) (t:=S.tG) (vs:=[.int .u32 (k.toNat:Int),sv]) (h.get 82 _ rfl) (h.get 81 _ rfl) (by simp[Value.cells]) (T.vG.size w) QK (by simp only[List.length_cons,List.length_nil];omega) (fun u hu=>by
   simp only[List.mem_cons,List.not_mem_nil,or_false]at hu
   rcases hu with rfl|rfl
   ·rfl
   ·exact GG) (wpList_nil ?_)
  have H9:=cy.set (w:=w) (L:=L) (tG:=S.tG) Ln R8 QK Lk IK GE Ha (i:=p) (by omega) ⟨k,sv,b⟩
  rw[zr Iy]at H9
  rw[Nat.zero_add]
  have Hu:ac (fun i=>i=g') w (w.setRow g' (aI cur (p*2) [.int .u32 (k.toNat:Int),sv])):=ac.setRow _ _ _ _ rfl
  have h:=h.pick (m:=[(5,x5),(6,.slice (some ⟨g',0,none⟩) (es.length+1) c'),(17,x17),(18,x18),(19,x19)]) ⟨rfl,rfl,rfl,rfl,rfl,trivial⟩
  rw[<- Kk]at h H9
  exact hR _ _ v2 h H9 (ME.trans (Hu.mono fun i _ hi=>hi ▸ R8))
theorem oP (T:RefT P S)(RB:Ent P S.fKnown)(hK:∀ (sf:SFs) (fv:Value) (w:World),dI sf=true->ei w sf fv->Calls P S.fKnown [fv].toArray w fun e w'=>e=.returned (.int .u32 (ar sf:Int))/\ac (fun _=>False) w w')(hfn:FnIs P S.fUnk 85 [4] (csUn S))
  (sf:SFs) (fv uv:Value) (raw:List (UInt32 × Bs)) (W0 W:World) (KC:dI sf=true) (GV:ei W sf fv) (Md:du W 2 (gE W0) uv raw):Calls P S.fUnk [fv,uv].toArray W fun e w'=>∃ v es,e=.returned v/\cy w' W.heap.size S.tG v es/\(∀ e∈es,js W0 e.v e.b)/\es.map fY=de (ar sf) (raw.map fun p=>(p.1.toNat,p.2))/\ac (fun _=>False) W w':=by
 have P2:=lR sf KC
 refine dm T.mixed hfn (by simp) _ (by simp) fun a h=>?_
 unfold csUn
 refine aw (aW (ah h .c (by omega) fun a h=>wpList_nil ?_))
 refine aw (aW (al h (.t rfl) (by omega) fun a h=>?_))
 refine br h RB (vs:=[fv]) (fun n a h=>by simp only[List.map_cons,List.map_nil];rw[Hd.t (l:=_) (i:=11) rfl n a h]) (hK sf fv W KC GV) (by omega) fun e w1 hR1=>?_
 obtain⟨rfl,Gy⟩:=hR1
 refine⟨_,rfl,fun a h=>ah h (.t rfl) (by omega) fun a h=>wpList_nil ?_⟩
 refine aw (aW (ah h .c (by omega) fun a h=>wpList_nil ?_))
 have KD:cv W w1:=cv.of Gy
 obtain⟨base,c,Vx,GZ,GX,hbc,GB⟩:∃ base c,uv=.slice base raw.length c/\raw.length<=c/\raw.length<=maxLen/\(base=none->c=0)/\(raw=[] \/ ∃ b o,base=some ⟨b,o,none⟩/\∀ i x,raw[i]?=some x->∃ cs,cs.length=2/\ao W b (o+i*2) cs/\gE W0 cs x):=by
  rcases Md with⟨_,rfl,rfl⟩|⟨b,o,c,rfl,h1,h2,h3⟩
  ·exact⟨_,0,rfl,Nat.le_refl _,by simp[maxLen],fun _=>rfl,.inl rfl⟩
  ·exact⟨_,c,rfl,h1,by omega,(fun h=>by cases h),.inr ⟨b,o,rfl,h3⟩⟩
 subst Vx
 refine aw (aw (aW (al h (.t rfl) (by omega) fun a h=>al h (.t rfl) (by omega) fun a h=>cr h (.t rfl) T.dGs (by omega) fun a h=>sL h (.t rfl) .i (by omega) fun a h=>?_)))
 rw[nU]at h
 refine k7 h (.t rfl) (.t rfl) (by omega) hbc T.dGs T.vG.size (by omega) fun a h=>cr h (.t rfl) T.dGs (by omega) fun a h=>al h .i (by omega) fun a h=>wpList_nil ?_
 have hN:min raw.length aK<=32767:=by simp only[aK];omega
 have KM:(raw.take aK).length=min raw.length aK:=by rw[List.length_take,Nat.min_comm]
 refine ee (fun m a' w'=>∃ (i:Nat) (v:Value) (es:List mA),i+m=min raw.length aK/\cy w' W.heap.size S.tG v es/\cv W w'/\(∀ e∈es,js W0 e.v e.b)/\es.length<=i/\gN (ar sf) (((raw.take aK).drop i).map fun p=>(p.1.toNat,p.2)) (es.map fY)=de (ar sf) (raw.map fun p=>(p.1.toNat,p.2)) /\
   St 85 a' [(5,.int .u32 (ar sf:Int)),(6,v),(17,.slice base (min raw.length aK) c),(18,.int .i64 ((min raw.length aK:Nat):Int)),(19,.int .i64 (i:Int))]) (min raw.length aK)
  ⟨min raw.length aK,Nat.le_refl _,0,aG,[],by omega,.inl ⟨rfl,rfl⟩,KD,(fun e he=>by cases he),by simp,by simp[de,List.map_take],h.pick ⟨rfl,rfl,rfl,rfl,rfl,trivial⟩⟩ ?_
 rintro m a w hm ⟨i,v,es,Lz,ho,hk,Jf,IZ,G4,h⟩
 have Mg:∀ e∈es,e.v.oneCell'=true:=fun e he=>by obtain⟨_,_,h1,_⟩:=(Jf e he).form;rw[h1];rfl
 refine aw (aW (aZ h rfl (.t rfl) (.t rfl) (by omega) fun a h=>wpList_nil ?_))
 refine gm h rfl (fun hb=>?_) (fun hb=>?_)
 ·have Gq:i<min raw.length aK:=by simp[aO]at hb;omega
  obtain⟨x,hx⟩:∃ x,raw[i]?=some x:=⟨_,List.getElem?_eq_getElem (by omega)⟩
  obtain⟨b,o,Ru,HD⟩:=GB.resolve_left (fun hh=>by rw[hh]at hx;simp at hx)
  obtain⟨cs,_,GE,sv,rfl,Jd⟩:=HD i x hx
  have GG:sv.oneCell'=true:=by obtain⟨_,_,h1,_⟩:=Jd.form;rw[h1];rfl
  have MU:(raw.take aK)[i]?=some x:=by rw[List.getElem?_take,if_pos (by omega)];exact hx
  have Ju:(raw.take aK).drop i=x::(raw.take aK).drop (i+1):=by
   rw[List.drop_eq_getElem_cons (by rw[KM];omega),(List.getElem?_eq_some_iff.1 MU).2]
  rw[Ju]at G4
  simp only[List.map_cons,gN]at G4
  have step:∀ (a:Act) (w':World) (v':Value) (es':List mA) (KK:Exit->Act->World->Prop),St 85 a [(5,.int .u32 (ar sf:Int)),(6,v'),(17,.slice base (min raw.length aK) c),(18,.int .i64 ((min raw.length aK:Nat):Int)),(19,.int .i64 (i:Int))]->cy w' W.heap.size S.tG v' es'->cv W w'->(∀ e∈es',js W0 e.v e.b)->es'.length<=i+1 ->
    es'.map fY=(if x.1.toNat<ar sf then es.map fY else bP x.1.toNat x.2 (es.map fY)) ->
    aQ P (rg (yL S)) (Exit.then (fun a' w'=>∃ m',m'<=min raw.length aK/\m'<m/\∃ (i:Nat) (v:Value) (es:List mA),i+m'=min raw.length aK/\cy w' W.heap.size S.tG v es/\cv W w'/\(∀ e∈es,js W0 e.v e.b)/\es.length<=i/\gN (ar sf) (((raw.take aK).drop i).map fun p=>(p.1.toNat,p.2)) (es.map fY)=de (ar sf) (raw.map fun p=>(p.1.toNat,p.2)) /\
     St 85 a' [(5,.int .u32 (ar sf:Int)),(6,v),(17,.slice base (min raw.length aK) c),(18,.int .i64 ((min raw.length aK:Nat):Int)),(19,.int .i64 (i:Int))]) KK) a w':=by
   intro a w' v' es' KK h Px H5 Ur Ut IH
   refine aW (cK h (.t rfl) .i (by simp) (cY w') (by omega) fun a h=>?_)
   have hw:IntKind.i64.wrap ((i:Int)+1)=((i+1:Nat):Int):=by simp[IntKind.wrap,IntKind.bits,IntKind.signed];omega
   rw[hw]at h
   refine al h (.t rfl) (by omega) fun a h=>wpList_nil ?_
   exact⟨m-1,by omega,by omega,i+1,v',es',by omega,Px,H5,Ur,Ut,by rw[IH];exact G4,h.pick ⟨rfl,rfl,rfl,rfl,rfl,trivial⟩⟩
  refine .skip (aw (.block (aw (aW ?_))))
  have h0:=h
  rw[Ru]at h0
  refine dF h0 (sz:=2) (.t rfl) (.t rfl) Gq T.dGs T.vG.size (by omega) fun a h=>ck h (cs:=[.int .u32 (x.1.toNat:Int),sv]) (.t rfl) T.vG (hk.cells GE) (by omega) fun a h=>?_
  have Qh:∀ u∈[Value.int .u32 (x.1.toNat:Int),sv],u.oneCell'=true:=by
   intro u hu
   simp only[List.mem_cons,List.not_mem_nil,or_false]at hu
   rcases hu with rfl|rfl
   ·rfl
   ·exact GG
  refine lP h (cs:=[.int .u32 (x.1.toNat:Int),sv]) T.zG rfl (fun _=>.t rfl) T.vG.size Qh (by omega) fun w2 a Gs GX h=>wpList_nil ?_
  have No:cy w2 W.heap.size S.tG v es:=ho.keep Gs fun _ _ h=>h
  have KX:=hk.kn Gs
  have QM:w.heap.size<w2.heap.size:=cM (GX 0 _ rfl)
  have L1:∀ q,v.ownBlock=some q->q≠w.heap.size:=fun q hq=>by have:=(ho.own hq).2;omega
  refine aw (aW (ah h .i (by omega) fun a h=>wpList_nil ?_))
  have h:=h.pick (m:=[(5,.int .u32 (ar sf:Int)),(6,v),(8,pt w.heap.size 0),(9,.int .i64 0),(17,.slice (some ⟨b,o,none⟩) (min raw.length aK) c),(18,.int .i64 ((min raw.length aK:Nat):Int)),(19,.int .i64 (i:Int))]) ⟨rfl,rfl,rfl,rfl,rfl,rfl,rfl,trivial⟩
  rw[<- Ru]at h
  refine aw (A3 T No GX (by omega) (ac.refl _ _) h fun a w3 j h Gx hj hlt3 QJ=>?_)
  have VB:cy w3 W.heap.size S.tG v es:=No.keep Gx fun _ _ h=>h
  have Kd:=ao.kn Gx GX
  have Km:=KX.kn Gx
  have QC:=z6 x.1.toNat x.2 (es.map fY) j (by simpa using hj) (fun j' p Nt hp=>by
   rw[List.getElem?_map,Option.map_eq_some_iff]at hp
   obtain⟨e,he,rfl⟩:=hp
   exact hlt3 j' e Nt he) (fun p hp=>by
   rw[List.getElem?_map,Option.map_eq_some_iff]at hp
   obtain⟨e,he,rfl⟩:=hp
   exact QJ e he)
  refine aw (aw (A2 T VB Kd (ac.refl _ _) h hj (decide (x.1.toNat<ar sf \/ ∃ e,es[j]?=some e/\e.k.toNat=x.1.toNat)) rfl fun a w4 h GH=>?_))
  have Ql:cy w4 W.heap.size S.tG v es:=VB.keep GH fun _ _ h=>h
  have Rr:=ao.kn GH Kd
  have K6:=Km.kn GH
  refine bf h rfl (fun HZ=>?_) (fun HZ=>?_)
  ·have GP:=of_decide_eq_true HZ
   refine .exit ?_
   refine step a w4 v es _ (h.pick ⟨rfl,rfl,rfl,rfl,rfl,trivial⟩) Ql K6 Jf (by omega) ?_
   by_cases hl:x.1.toNat<ar sf
   ·rw[if_pos hl]
   ·rw[if_neg hl]
    obtain⟨e,he,hek⟩:=GP.resolve_left hl
    rw[QC,if_pos ⟨fY e,by rw[List.getElem?_map,he];rfl,hek⟩]
  ·have H1:=of_decide_eq_false HZ
   refine .skip ?_
   have IP:W.heap.size<=w4.heap.size:=K6.size
   refine vS T (b:=x.2) Ql Rr GG L1 (Nat.lt_of_lt_of_le QM (Nat.le_trans Gx.size GH.size)) IP (by omega) Mg (h.pick ⟨rfl,rfl,rfl,rfl,rfl,rfl,rfl,trivial⟩) hj fun a w5 v5 h Ts HC=>?_
   refine step a w5 v5 _ _ (h.pick ⟨rfl,rfl,rfl,rfl,rfl,trivial⟩) Ts (K6.up HC fun q hq=>hq) (fun e he=>?_) (by simp[List.length_take];omega) ?_
   ·rcases List.mem_append.1 he with he|he
    ·exact Jf e (List.mem_of_mem_take he)
    ·rcases List.mem_cons.1 he with rfl|he
     ·exact Jd
     ·exact Jf e (List.mem_of_mem_drop he)
   ·have Ie:¬ ∃ p,(es.map fY)[j]?=some p/\p.1=x.1.toNat:=by
     rintro⟨p,hp,hpe⟩
     rw[List.getElem?_map,Option.map_eq_some_iff]at hp
     obtain⟨e,he,rfl⟩:=hp
     exact H1 (.inr ⟨e,he,hpe⟩)
    rw[if_neg (fun hl=>H1 (.inl hl)),QC,if_neg Ie,List.map_append,List.map_cons,List.map_take,List.map_drop]
    rfl
 ·have Hm:¬ i<min raw.length aK:=by simp[aO]at hb;omega
  rw[List.drop_of_length_le (by rw[KM];omega)]at G4
  simp only[List.map_nil,gN]at G4
  refine .exit ?_
  show aQ P _ _ a w
  refine aw (aW (al h (.t rfl) (by omega) fun a h=>ah h (.t rfl) (by omega) fun a h=>wpList_nil (.ret ?_)))
  exact fQ (RR:=fun e w'=>∃ v es,e=.returned v/\cy w' W.heap.size S.tG v es/\(∀ e∈es,js W0 e.v e.b)/\es.map fY=de (ar sf) (raw.map fun p=>(p.1.toNat,p.2))/\ac (fun _=>False) W w') h rfl ⟨v,es,rfl,ho,Jf,G4,hk.keeps⟩
theorem xG (T:RefT P S)(RB:Ent P S.fKnown)(hK:∀ (sf:SFs) (fv:Value) (w:World),dI sf=true->ei w sf fv->Calls P S.fKnown [fv].toArray w fun e w'=>e=.returned (.int .u32 (ar sf:Int))/\ac (fun _=>False) w w')(hfn:FnIs P S.fUnk 85 [4] (csUn S))
  (sf:SFs) (fv uv:Value) (raw:List (UInt32 × Bs)) (W:World) (KC:dI sf=true) (GV:ei W sf fv) (Md:du W 2 (gE W) uv raw):Calls P S.fUnk [fv,uv].toArray W fun e w'=>∃ v raw',e=.returned v/\du w' 2 (gE w') v raw'/\(raw'.map fun p=>(p.1.toNat,p.2))=de (ar sf) (raw.map fun p=>(p.1.toNat,p.2))/\ac (fun _=>False) W w':=by
 refine(oP T RB hK hfn sf fv uv raw W W KC GV Md).mono fun e w ⟨v,es,he,ho,Jf,G4,hk⟩=>?_
 refine⟨v,es.map (fun e=>(e.k,e.b)),he,?_,?_,hk⟩
 ·rcases ho with⟨rfl,rfl⟩|⟨g,cc,cur,rfl,_,hg,Lk,IK,_,Ha⟩
  ·exact .inl ⟨none,rfl,rfl⟩
  ·refine .inr ⟨g,0,cc,by rw[List.length_map],by rw[List.length_map];exact Lk,IK,fun q p hq=>?_⟩
   rw[List.getElem?_map,Option.map_eq_some_iff]at hq
   obtain⟨e,he,rfl⟩:=hq
   obtain⟨h1,h2⟩:=Ha q e he
   have Gn:∀ y,w.cell? ⟨g,y,none⟩=cur[y]?:=fun y=>by simp[World.cell?,hg]
   refine⟨[.int .u32 (e.k.toNat:Int),e.v],rfl,fun y z hy=>?_,e.v,rfl,(Jf e (List.mem_of_getElem? he)).far (cv.of hk)⟩
   rw[Gn]
   match y,hy with
   | 0,hy=>simp only[List.getElem?_cons_zero,Option.some.injEq]at hy;subst hy;simpa using h1
   | 1,hy=>simp only[List.getElem?_cons_succ,List.getElem?_cons_zero,Option.some.injEq]at hy;subst hy;simpa using h2
   | y+2,hy=>simp at hy
 ·rw[<- G4,List.map_map]
  rfl
end
end
section
open Go
set_option maxRecDepth 4000
abbrev BI:=List (Nat × Int) × Option Nat
def vl (S:SN)(p:List (Nat × Int))(x:Option Operand):Op:=.build S.tF ((p.map fun q=>(q.1,ki .i64 q.2))++(match x with|some y=>[(7,y)]|none=>[])).toArray
def jP (S:SN):List BI->Nat->List Oper
 | [],_=>[]
 | (p,none)::r,n=>mk (some n) (vl S p none)::jP S r (n+1)
 | (p,some f)::r,n=>cl (some n) f []::mk (some (n+1)) (vl S p (some (tm n)))::jP S r (n+2)
def eA:List BI->Nat->Nat
 | [],n=>n
 | (_,none)::r,n=>eA r (n+1)
 | (_,some _)::r,n=>eA r (n+2)
def eX:List BI->Nat->List Nat
 | [],_=>[]
 | (_,none)::r,n=>n::eX r (n+1)
 | (_,some _)::r,n=>(n+1)::eX r (n+2)
def cSub (S:SN)(its:List BI):Code:=.seq (rg [mk (some 0) (.assign (.const aG))]) (.seq (rg (jP S its 1++[mk (some (eA its 1)) (.buildSlice S.tFs its.length (BY 0 (eX its 1)).toArray),mk (some 0) (.assign (tm (eA its 1)))])) .ret)
def cMsgB (S:SN)(flex:Int)(its:List BI):Code:=.seq (rg [mk (some 0) (.alloc S.tMs)]) (.seq (rg (jP S its 1++[mk (some (eA its 1)) (.buildSlice S.tFs its.length (BY 0 (eX its 1)).toArray),mk (some (eA its 1+1)) (.build S.tMs #[(1,ki .i64 flex),(0,tm (eA its 1))]),mk none (.store S.tMs (tm 0) (tm (eA its 1+1)))])) .ret)
def BuildC (P:Program)(f:Nat)(sf:SFs):Prop:=∀ w,Calls P f ([]:List Value).toArray w fun e w'=>∃ v,e=.returned v/\ei w' sf v/\ac (fun _=>False) w w'
def pw (p:List (Nat × Int))(x:Option Value):Array (Nat × Value):=((p.map fun q=>(q.1,Value.int .i64 q.2))++(match x with|some y=>[(7,y)]|none=>[])).toArray
def Dz (P:Program)(S:SN):List BI->SFs->Prop
 | [],.nil=>True
 | (p,none)::r,.cons kind lo hi nul tag df of sub sr=>(∀ w,(Instr.build S.tF (pw p none)).run P w=.ok (.agg (aJ kind lo hi nul tag df of aG).toArray) w)/\sub=.nil/\Dz P S r sr
 | (p,some f)::r,.cons kind lo hi nul tag df of sub sr=>(∀ (base:Option Addr) (n c:Nat) (w:World),(Instr.build S.tF (pw p (some (.slice base n c)))).run P w=.ok (.agg (aJ kind lo hi nul tag df of (.slice base n c)).toArray) w)/\(Ent P f/\BuildC P f sub)/\Dz P S r sr
 | _,_=>False
def ja:SFs->(Nat->Value)->Nat->List Value
 | .nil,_,_=>[]
 | .cons kind lo hi nul tag df of _ r,sv,i=>.agg (aJ kind lo hi nul tag df of (sv i)).toArray::ja r sv (i+1)
def rZ:SFs->(Nat->Value)->Nat->List Value
 | .nil,_,_=>[]
 | .cons kind lo hi nul tag df of _ r,sv,i=>aJ kind lo hi nul tag df of (sv i)++rZ r sv (i+1)
def dw (w:World):SFs->(Nat->Value)->Nat->Prop
 | .nil,_,_=>True
 | .cons _ _ _ _ _ _ _ sub r,sv,i=>ei w sub (sv i)/\dw w r sv (i+1)
theorem gC:∀ (sf:SFs) (sv sv':Nat->Value) (i:Nat),(∀ j,i<=j->sv j=sv' j)->ja sf sv i=ja sf sv' i
 | .nil,_,_,_,_=>rfl
 | .cons ..,sv,sv',i,h=>by
  simp only[ja]
  rw[h i (Nat.le_refl _),gC _ sv sv' (i+1) fun j hj=>h j (by omega)]
theorem dw.congr {w:World}:∀ (sf:SFs) (sv sv':Nat->Value) (i:Nat),(∀ j,i<=j->sv j=sv' j)->dw w sf sv i->dw w sf sv' i
 | .nil,_,_,_,_,_=>trivial
 | .cons ..,sv,sv',i,h,hh=>⟨by rw[<- h i (Nat.le_refl _)];exact hh.1,dw.congr _ sv sv' (i+1) (fun j hj=>h j (by omega)) hh.2⟩
theorem ei.kn {w w':World}(h:ac (fun _=>False) w w'){sf:SFs}{v:Value}(hs:ei w sf v):ei w' sf v:=hs.far (cv.of h)
theorem dw.kn {w w':World}(h:ac (fun _=>False) w w'):∀ (sf:SFs) (sv:Nat->Value) (i:Nat),dw w sf sv i->dw w' sf sv i
 | .nil,_,_,_=>trivial
 | .cons ..,sv,i,hh=>⟨hh.1.kn h,dw.kn h _ sv (i+1) hh.2⟩
theorem vg {w:World}{g:Nat}:∀ (sf:SFs) (sv:Nat->Value) (i o:Nat),dw w sf sv i->ao w g o (rZ sf sv i)->gM w sf g o
 | .nil,_,_,_,_,_=>trivial
 | .cons kind lo hi nul tag df of sub r,sv,i,o,hh,hc=>by
  refine⟨⟨sv i,fun j x hj=>hc j x ?_,hh.1⟩,vg r sv (i+1) (o+8) hh.2 fun j x hj=>?_⟩
  ·simp only[rZ]
   rw[List.getElem?_append_left (by have:=(List.getElem?_eq_some_iff.1 hj).1;exact this)]
   exact hj
  ·have:=hc (8+j) x (by
    simp only[rZ]
    rw[List.getElem?_append_right (by simp[aJ])]
    simpa[aJ]using hj)
   rwa [show o+8+j=o+(8+j) by omega]
section
variable {P:Program} {S:SN}
theorem oq {ops:Array Oper}{Q:Exit->Act->World->Prop}{rest:List Oper}{N:Nat}:∀ (its:List BI) (sf:SFs) (i n0:Nat) (a:Act) (l acc:List (Nat × Value)) (w:World),Dz P S its sf->St N a l->(∀ p∈acc,l.lookup p.1=some p.2/\p.1<n0)->eA its n0<=N ->
  (∀ a' l' w' sv,St N a' l'->(∀ p∈acc++(eX its n0).zip (ja sf sv i),l'.lookup p.1=some p.2)->dw w' sf sv i->(ja sf sv i).length=its.length->ac (fun _=>False) w w'->wpList P ops Q rest a' w')->wpList P ops Q (jP S its n0++rest) a w
 | [],.nil,i,n0,a,l,acc,w,_,h,IL,_,hc=>hc a l w (fun _=>aG) h (fun p hp=>(IL p (by simpa[eX]using hp)).1) trivial rfl (ac.refl _ _)
 | [],.cons ..,_,_,_,_,_,_,hb,_,_,_,_=>hb.elim
 | (p,none)::r,.nil,_,_,_,_,_,_,hb,_,_,_,_=>hb.elim
 | (p,some f)::r,.nil,_,_,_,_,_,_,hb,_,_,_,_=>hb.elim
 | (p,none)::r,.cons kind lo hi nul tag df of sub sr,i,n0,a,l,acc,w,hb,h,IL,hn,hc=>by
  obtain⟨Hc,rfl,JJ⟩:=hb
  have Hm:∀ (r:List BI) (n:Nat),n<=eA r n:=fun r=>by
   induction r with
   | nil=>intro n;exact Nat.le_refl n
   | cons x r ih=>
    intro n
    obtain⟨q,y⟩:=x
    cases y with
    | none=>exact Nat.le_trans (Nat.le_succ n) (ih (n+1))
    | some _=>exact Nat.le_trans (Nat.le_add_right n 2) (ih (n+2))
  have If:n0<N:=Nat.lt_of_lt_of_le (Nat.lt_succ_self n0) (Nat.le_trans (Hm r (n0+1)) hn)
  show wpList P ops Q (mk (some n0) (.build S.tF _)::(jP S r (n0+1)++rest)) a w
  refine iR h (qs:=pw p none) (fun n a _=>by simp[pw,ki,Act.eval]) (Hc w) If fun a h=>?_
  refine oq r sr (i+1) (n0+1) a _ (acc++[(n0,.agg (aJ kind lo hi nul tag df of aG).toArray)]) w JJ h (fun q hq=>?_) hn fun a' l' w' sv h hl hf Gp hk=>?_
  ·rcases List.mem_append.1 hq with hq|hq
   ·obtain⟨h1,h2⟩:=IL q hq
    refine⟨?_,by omega⟩
    simp only[List.lookup_cons]
    have:(q.1==n0)=false:=by simp;omega
    rw[this];exact h1
   ·obtain rfl:=List.mem_singleton.1 hq
    exact⟨by simp,by simp⟩
  ·have OY:∀ j,i+1<=j->sv j=(fun j=>if j=i then aG else sv j) j:=fun j hj=>by simp only;rw[if_neg (by omega)]
   refine hc a' l' w' (fun j=>if j=i then aG else sv j) h (fun q hq=>hl q ?_) ⟨by simp only[if_true];exact .inl ⟨rfl,rfl⟩,dw.congr sr _ _ _ OY hf⟩ (by simp only[ja,List.length_cons];rw[<- gC sr sv _ (i+1) OY,Gp]) hk
   simp only[eX,ja,List.zip_cons_cons,if_true]at hq
   rw[<- gC sr sv _ (i+1) OY]at hq
   simpa using hq
 | (p,some f)::r,.cons kind lo hi nul tag df of sub sr,i,n0,a,l,acc,w,hb,h,IL,hn,hc=>by
  obtain⟨Hc,⟨hE,hB⟩,JJ⟩:=hb
  have Hm:∀ (r:List BI) (n:Nat),n<=eA r n:=fun r=>by
   induction r with
   | nil=>intro n;exact Nat.le_refl n
   | cons x r ih=>
    intro n
    obtain⟨q,y⟩:=x
    cases y with
    | none=>exact Nat.le_trans (Nat.le_succ n) (ih (n+1))
    | some _=>exact Nat.le_trans (Nat.le_add_right n 2) (ih (n+2))
  have If:n0+1<N:=Nat.lt_of_lt_of_le (Nat.lt_succ_self _) (Nat.le_trans (Hm r (n0+2)) hn)
  show wpList P ops Q (cl (some n0) f []::mk (some (n0+1)) (.build S.tF _)::(jP S r (n0+2)++rest)) a w
  refine br h hE (vs:=[]) (fun _ _ _=>rfl) (hB w) (by omega) fun e w1 hR=>?_
  obtain⟨v,rfl,hv,Gy⟩:=hR
  obtain⟨vb,vc,PI,_⟩:=hv.form
  subst PI
  refine⟨_,rfl,fun a h=>iR h (qs:=pw p (some (.slice vb sub.len vc))) (fun n a hs=>by
   have e:=Hd.t (l:=_) (i:=n0) (v:=.slice vb sub.len vc) (by simp) n a hs
   simp only[tm]at e
   simp[pw,ki,Act.eval,tm]at e ⊢
   exact e) (Hc vb _ vc w1) If fun a h=>?_⟩
  refine oq r sr (i+1) (n0+2) a _ (acc++[(n0+1,.agg (aJ kind lo hi nul tag df of (.slice vb sub.len vc)).toArray)]) w1 JJ h (fun q hq=>?_) hn fun a' l' w' sv h hl hf Gp hk=>?_
  ·rcases List.mem_append.1 hq with hq|hq
   ·obtain⟨h1,h2⟩:=IL q hq
    refine⟨?_,by omega⟩
    simp only[List.lookup_cons]
    have e1:(q.1==n0+1)=false:=by simp;omega
    have e2:(q.1==n0)=false:=by simp;omega
    rw[e1,e2];exact h1
   ·obtain rfl:=List.mem_singleton.1 hq
    exact⟨by simp,by simp⟩
  ·have OY:∀ j,i+1<=j->sv j=(fun j=>if j=i then .slice vb sub.len vc else sv j) j:=fun j hj=>by simp only;rw[if_neg (by omega)]
   refine hc a' l' w' (fun j=>if j=i then .slice vb sub.len vc else sv j) h (fun q hq=>hl q ?_) ⟨by simp only[if_true];exact hv.kn hk,dw.congr sr _ _ _ OY hf⟩ (by simp only[ja,List.length_cons];rw[<- gC sr sv _ (i+1) OY,Gp]) (Gy.trans hk)
   simp only[eX,ja,List.zip_cons_cons,if_true]at hq
   rw[<- gC sr sv _ (i+1) OY]at hq
   simpa using hq
theorem mo {a:Act}:∀ (ss:List Nat) (vs:List Value),ss.length=vs.length->(∀ p∈ss.zip vs,a.get p.1=p.2)->ss.map a.get=vs
 | [],[],_,_=>rfl
 | [],_::_,h,_=>by simp at h
 | _::_,[],h,_=>by simp at h
 | s::ss,v::vs,h,hh=>by
  have h1:=hh (s,v) (by simp)
  have h2:=mo ss vs (by simpa using h) fun p hp=>hh p (by simp only[List.zip_cons_cons];exact List.mem_cons_of_mem _ hp)
  simp only[List.map_cons,h2]
  rw[h1]
theorem kL:∀ (its:List BI) (n:Nat),(eX its n).length=its.length
 | [],_=>rfl
 | (_,none)::r,n=>by simp[eX,kL r]
 | (_,some _)::r,n=>by simp[eX,kL r]
def Dt (P:Program)(S:SN)(n:Nat)(sf:SFs):Prop:=∀ (sv:Nat->Value) (w:World),(Instr.buildSlice S.tFs n (uV 0 (ja sf sv 0)).toArray).run P w=.ok (.slice (some ⟨w.heap.size,0,none⟩) n n) (w.alloc (.cells (rZ sf sv 0).toArray S.tF (0,0)))
theorem zY {ops:Array Oper}{Q:Exit->Act->World->Prop}{rest:List Oper}{N:Nat}{its:List BI}{sf:SFs}{a:Act}{l:List (Nat × Value)}{w:World}(hb:Dz P S its sf)(GB:Dt P S its.length sf)(Gp:its.length=sf.len)(Iw:sf.len<=maxLen)(h:St N a l)(hn:eA its 1<N)(_hz:l.lookup 0=l.lookup 0)
  (hc:∀ a' l' w' v,St N a' ((eA its 1,v)::l')->(l.lookup 0).all (fun _v0=>true)=true->(∀ x,l.lookup 0=some x->l'.lookup 0=some x)->ei w' sf v->ac (fun _=>False) w w'->wpList P ops Q rest a' w'):wpList P ops Q (jP S its 1++(mk (some (eA its 1)) (.buildSlice S.tFs its.length (BY 0 (eX its 1)).toArray)::rest)) a w:=by
 have h0:∀ p∈(match l.lookup 0 with|some x=>[(0,x)]|none=>[]),l.lookup p.1=some p.2/\p.1<1:=by
  cases hx:l.lookup 0 with
  | none=>intro p hp;cases hp
  | some x=>intro p hp;obtain rfl:=List.mem_singleton.1 hp;exact⟨hx,by simp⟩
 refine oq its sf 0 1 a l _ w hb h h0 (by omega) fun a l' w1 sv h hl hf Oa hk=>?_
 have HO:(eX its 1).map a.get=ja sf sv 0:=mo _ _ (by rw[kL,Oa]) fun p hp=>h.get _ _ (hl p (List.mem_append_right _ hp))
 have VQ:=nY a (eX its 1) 0
 rw[HO]at VQ
 refine aD (v:=.slice (some ⟨w1.heap.size,0,none⟩) its.length its.length) (w':=w1.alloc (.cells (rZ sf sv 0).toArray S.tF (0,0))) ?_ ?_
 ·have e:(BY 0 (eX its 1)).toArray.map (fun p=>(p.1,a.eval p.2))=(uV 0 (ja sf sv 0)).toArray:=by rw[List.map_toArray,VQ]
  simp[execOp,mk,e,GB sv w1]
 ·have Gs:ac (fun _=>False) w1 (w1.alloc (.cells (rZ sf sv 0).toArray S.tF (0,0))):=ac.alloc _ _ _
  refine hc _ l' _ _ (h.put _ hn) (by cases l.lookup 0<;>rfl) (fun x hx=>hl (0,x) (List.mem_append_left _ (by rw[hx];exact List.mem_singleton.2 rfl))) (.inr ⟨w1.heap.size,0,_,by rw[Gp],Iw,?_⟩) (hk.trans Gs)
  exact vg sf sv 0 0 (dw.kn Gs sf sv 0 hf) (ce w1 (rZ sf sv 0) S.tF)
theorem sub_calls (T:RefT P S){f N:Nat}{its:List BI}{sf:SFs}(hfn:FnIs P f N [0] (cSub S its))(hn:eA its 1<N)(hb:Dz P S its sf)(GB:Dt P S its.length sf)(Gp:its.length=sf.len)(Iw:sf.len<=maxLen):Ent P f/\BuildC P f sf:=by
 refine⟨hfn.ent,fun w=>?_⟩
 refine dm T.mixed hfn (by simp) [] (by simp) fun a h=>?_
 unfold cSub
 refine aw (aW (ah h .c (by omega) fun a h=>wpList_nil ?_))
 refine aw (aW (zY hb GB Gp Iw h hn rfl fun a l' w' v h _ _ hv hk=>ah h (v:=v) (.t (by simp)) (by omega) fun a h=>wpList_nil (.ret ?_)))
 exact fQ (RR:=fun e w'=>∃ v,e=.returned v/\ei w' sf v/\ac (fun _=>False) w w') h rfl ⟨v,rfl,hv,hk⟩
def MsgBC (P:Program)(f:Nat)(flex:Int)(sf:SFs):Prop:=∀ w,Calls P f ([]:List Value).toArray w fun e w'=>∃ v,e=.returned (.agg [v,.int .i64 flex].toArray)/\ei w' sf v/\ac (fun _=>False) w w'
theorem msgb_calls (T:RefT P S)(bM:∀ (x:Int) (base:Option Addr) (n c:Nat) (w:World),(Instr.build S.tMs #[(1,.int .i64 x),(0,.slice base n c)]).run P w=.ok (.agg #[.slice base n c,.int .i64 x]) w){f N:Nat}{flex:Int}{its:List BI}{sf:SFs}(hfn:FnIsC P f N 0 S.tMs (cMsgB S flex its))(hn:eA its 1+1<N)(hb:Dz P S its sf)(GB:Dt P S its.length sf)(Gp:its.length=sf.len)(Iw:sf.len<=maxLen):Ent P f/\MsgBC P f flex sf:=by
 refine⟨hfn.ent,fun w=>?_⟩
 refine mS T.mixed hfn [] (by simp) fun a h=>?_
 unfold cMsgB
 refine aw (aW (eM h (T.zM w) (by omega) fun a h=>wpList_nil ?_))
 have J1:=aB w (.cells (Value.agg #[aG,.int .i64 0]).cells S.tMs (0,0))
 have Hk:ac (fun _=>False) w (w.alloc (.cells (Value.agg #[aG,.int .i64 0]).cells S.tMs (0,0))):=ac.alloc _ _ _
 generalize w.alloc (.cells (Value.agg #[aG,.int .i64 0]).cells S.tMs (0,0))=w1 at J1 Hk ⊢
 refine aw (aW (zY hb GB Gp Iw h (by omega) rfl fun a l' w2 v h _ h0 hv hk=>?_))
 have h0':=h0 _ rfl
 obtain⟨vb,vc,PI,_⟩:=hv.form
 have hng:¬ eA its 1=0:=by
  intro hg
  have:∀ (r:List BI) (n:Nat),n<=eA r n:=fun r=>by
   induction r with
   | nil=>intro n;exact Nat.le_refl n
   | cons x r ih=>
    intro n
    obtain⟨q,y⟩:=x
    cases y with
    | none=>exact Nat.le_trans (Nat.le_succ n) (ih (n+1))
    | some _=>exact Nat.le_trans (Nat.le_add_right n 2) (ih (n+2))
  have:=this its 1
  omega
 refine iR h (qs:=#[(1,.int .i64 flex),(0,v)]) (fun n a hs=>by
  have e:=Hd.t (l:=_) (i:=eA its 1) (v:=v) (by simp) n a hs
  simp only[tm]at e
  simp[ki,Act.eval,tm]at e ⊢
  exact e) (by rw[PI];exact bM flex vb _ vc w2) hn fun a h=>?_
 rw[<- PI]at h
 have HS:w2.heap[w.heap.size]?=some (.cells (Value.agg #[aG,.int .i64 0]).cells S.tMs (0,0)):=by rw[hk.block _ (Array.getElem?_eq_some_iff.1 J1).1 id];exact J1
 have GG:∀ u∈[v,.int .i64 flex],u.oneCell'=true:=by
  intro u hu
  simp only[List.mem_cons,List.not_mem_nil,or_false]at hu
  rcases hu with rfl|rfl
  ·rw[PI];rfl
  ·rfl
 have l0:((eA its 1+1,Value.agg #[v,.int .i64 flex])::(eA its 1,v)::l').lookup 0=some (pt w.heap.size 0):=by
  simp only[List.lookup_cons]
  have e1:((0:Nat)==eA its 1+1)=false:=by simp
  have e2:((0:Nat)==eA its 1)=false:=by simp;omega
  rw[e1,e2];exact h0'
 refine fr h (cs:=[v,.int .i64 flex]) (v:=.agg #[v,.int .i64 flex]) (.t l0) (.t (by simp)) (by simp[Value.cells]) T.vM.size HS rfl GG (wpList_nil (.ret ⟨h.defers,⟨w.heap.size,0,none⟩,.agg [v,.int .i64 flex].toArray,h.get 0 _ l0,?_,v,rfl,?_,?_⟩))
 ·have hr:=setRow_heap _ _ _ ([v,.int .i64 flex]:List Value).toArray _ _ HS
  have Gn:∀ j x,([v,.int .i64 flex]:List Value)[j]?=some x->(w2.setRow w.heap.size ([v,.int .i64 flex]:List Value).toArray).cell? ((⟨w.heap.size,0,none⟩:Addr).add j)=some x:=fun j x hj=>by
   rw[Addr.add_lit]
   simp only[World.cell?,hr,Option.isSome_none,Bool.false_eq_true,if_false,Nat.zero_add,List.getElem?_toArray,hj]
  have JW:=run_loadCells_list (P:=P) (w2.setRow w.heap.size ([v,.int .i64 flex]:List Value).toArray) ⟨w.heap.size,0,none⟩ [v,.int .i64 flex] Gn
  have h2:([v,Value.int .i64 flex]:List Value).length=2:=rfl
  rw[h2]at JW
  simp[loadVar,T.vM.agg,T.vM.size,JW]
 ·have TV:∀ b o cs,cs.length=8->ao w2 b o cs->ao (w2.setRow w.heap.size ([v,.int .i64 flex]:List Value).toArray) b o cs:=fun b o cs h8 GE j x hj=>by
   by_cases hbg:b=w.heap.size
   ·exfalso
    subst hbg
    have h7:=GE 7 (cs[7]'(by omega)) (List.getElem?_eq_getElem (by omega))
    have G0:(Value.agg #[aG,.int .i64 0]).cells.size=2:=rfl
    simp only[World.cell?,HS,Option.isSome_none,Bool.false_eq_true,if_false]at h7
    rw[Array.getElem?_eq_none (by rw[G0];omega)]at h7
    cases h7
   ·have Gq:=cM (GE j x hj)
    exact(ac.setRow (fun i=>i=w.heap.size) w2 _ _ rfl).cell hbg (GE j x hj)
  rcases hv with hv|⟨b,o,c,e1,e2,e3⟩
  ·exact .inl hv
  ·exact .inr ⟨b,o,c,e1,e2,e3.imp TV sf b o⟩
 ·exact(((Hk.trans hk).mono (Y:=fun i=>i=w.heap.size) fun _ _ h=>h.elim).trans (ac.setRow _ _ _ _ rfl)).mono fun i hi hX=>by omega
def o9 (flex ver:Int):Bool:=decide (0<=flex)&&decide (flex<=ver)
theorem xr (T:RefT P S)(hfn:FnIs P S.fWrite 21 [6] (csWr S))(Pk:Ent P S.fPart){sf:SFs}(hP:p5 P S sf){flex ver:Int}{k:Nat}{cs:List Value}{t:Tr}{fv:Value}(W:World)(GV:ei W sf fv)(ht:TrRp W k cs t)(hlim:(aM ver (o9 flex ver) sf t).length<=d7) :
  Calls P S.fWrite [.agg [fv,.int .i64 flex].toArray,.int .i64 ver,.agg cs.toArray].toArray W (b8 S.tU8 (aM ver (o9 flex ver) sf t) W):=by
 have h5:=ht.len
 refine dm T.mixed hfn (by simp) _ (by simp) fun a h=>?_
 unfold csWr
 refine aw (aW (dG h (cs:=[fv,.int .i64 flex]) (.t rfl) (by omega) fun a h=>?_))
 have Gy:ac (fun _=>False) W (W.alloc (.cells [fv,.int .i64 flex].toArray S.tMs (0,0))):=ac.alloc _ _ _
 have GZ:=ce W [fv,.int .i64 flex] S.tMs
 generalize W.alloc (.cells [fv,.int .i64 flex].toArray S.tMs (0,0))=w1 at Gy GZ ⊢
 refine dG h (cs:=cs) (.t rfl) (by omega) fun a h=>ah h .c (by omega) fun a h=>wpList_nil ?_
 have Gs:ac (fun _=>False) w1 (w1.alloc (.cells cs.toArray S.tT (0,0))):=ac.alloc _ _ _
 have GX:=ce w1 cs S.tT
 generalize w1.alloc (.cells cs.toArray S.tT (0,0))=w2 at Gs GX ⊢
 have GZ:=ao.kn Gs GZ
 have hk:=Gy.trans Gs
 have hf:=cv.of hk
 refine aw (aW (bk h (.t rfl) T.m0 (by omega) fun a h=>aN h (.t rfl) T.m0.var (GZ.at (j:=0) rfl) (by omega) fun a h=>al h (.t rfl) (by omega) fun a h=>bk h (.t rfl) T.m1 (by omega) fun a h=>aN h (.t rfl) T.m1.var (GZ.at (j:=1) rfl) (by omega) fun a h=>aZ h rfl (.t rfl) .i (by omega) fun a h=>al h (.t rfl) (by omega) fun a h=>?_))
 have rest:∀ (a:Act) (b:Bool) (R:Exit->Act->World->Prop) (ops:Array Oper),St 21 a [(8,fv),(9,.int .i64 ver),(18,.bool b),(5,pt w1.heap.size 0)]->b=o9 flex ver->(∀ a' w',(a'.defers=[]/\b8 S.tU8 (aM ver (o9 flex ver) sf t) W (.returned (bj [6] a')) w')->R .normal a' w') ->
   wpList P ops R [mk (some 19) (.load S.tT (tm 5)),cl (some 20) S.fPart [(tm 8),(tm 9),(tm 18),(tm 19)],mk (some 6) (.assign (tm 20))] a w2:=by
  intro a b R ops h hb hR
  refine ck h (cs:=cs) (.t rfl) (by rw[h5];exact T.vT) GX (by omega) fun a h=>?_
  refine br h Pk (vs:=[fv,.int .i64 ver,.bool b,.agg cs.toArray]) (fun n a h=>by
   simp only[List.map_cons,List.map_nil]
   rw[Hd.t (l:=_) (i:=8) rfl n a h,Hd.t (l:=_) (i:=9) rfl n a h,Hd.t (l:=_) (i:=18) rfl n a h,Hd.t (l:=_) (i:=19) rfl n a h]) (by rw[hb];exact hP w2 ver _ k cs t fv (GV.far hf) (ht.far hf) hlim) (by omega) fun e w3 hR3=>?_
  obtain⟨v,rfl,hd,Gx⟩:=hR3
  refine⟨v,rfl,fun a h=>ah h (.t rfl) (by omega) fun a h=>wpList_nil (hR _ _ ?_)⟩
  exact fQ (RR:=b8 S.tU8 (aM ver (o9 flex ver) sf t) W) h rfl ⟨v,rfl,(Gr.lower hk.size (Gr.refl hd)).dst,hk.trans Gx⟩
 cases hb:aO .geq flex 0 with
 | false=>
  rw[hb]at h
  have hn:¬ 0<=flex:=by simpa[aO]using hb
  refine aS h rfl rfl rfl (by omega) (by simp) (by omega) fun a h=>aS h rfl rfl rfl (by omega) (by simp) (by omega) fun a h=>aS h rfl rfl rfl (by omega) (by simp) (by omega) fun a h=>aS h rfl rfl rfl (by omega) (by simp) (by omega) fun a h=>?_
  refine cC h (.t rfl) (.t rfl) .c (by omega) fun a h=>rest a false _ _ (h.pick ⟨rfl,rfl,rfl,rfl,trivial⟩) (by simp[o9,hn]) fun a' w' hh=>.ret hh
 | true=>
  rw[hb]at h
  have hn:0<=flex:=by simpa[aO]using hb
  refine gU h rfl rfl rfl (by omega) (.t rfl) (by omega) fun a h=>j9 h rfl rfl rfl (by omega) (.t rfl) T.m1 (by omega) fun a h=>gu h rfl rfl rfl (by omega) (.t rfl) T.m1.var (GZ.at (j:=1) rfl) (by omega) fun a h=>kD h rfl rfl rfl (by omega) rfl (.t rfl) (.t rfl) (by omega) fun a h=>?_
  refine cC h (.t rfl) (.t rfl) .c (by omega) fun a h=>rest a (aO .geq ver flex) _ _ (h.pick ⟨rfl,rfl,rfl,rfl,trivial⟩) (by simp[o9,hn,aO]) fun a' w' hh=>.ret hh
theorem leafC_of (T:RefT P S)(vB:bd P S.tB false 1)(h1:FnIs P S.fUv 20 [2] (csUvr S))(h2:FnIs P S.fFix 22 [4] (csFi S))(h3:FnIs P S.fCnt 28 [8] (csCn S))(h4:FnIs P S.fWid 11 [2] (csWd S))(h5:FnIs P S.fWhole 8 [2] (csWh S))(h6:FnIs P S.fThings 8 [2] (csTh S))(h7:FnIs P S.fHas 20 [4] (csHs S))(h8:FnIs P S.fNull 20 [6] (csNu S))(h9:FnIs P S.fKnown 23 [2] (csKw S))(ha:FnIsC P S.fAt 16 4 S.tT (csAt S))(hb:FnIs P S.fUnk 85 [4] (csUn S)):LeafC P S where
 tab:=T
 vB:=vB
 uvE:=h1.ent
 uvC _ w hx:=oK T h1 hx w
 fixE:=h2.ent
 fixC x _ w hk:=po T h2 x hk w
 cntE:=h3.ent
 cntC fx null _ _ w hm hk:=wP T h1.ent (fun _ w hx=>oK T h1 hx w) h2.ent (fun x _ w hk=>po T h2 x hk w) h3 fx null hm hk w
 widE:=h4.ent
 widC kind w:=vz T h4 kind w
 whE:=h5.ent
 whC _ _ _ _ hv:=xy T h5 hv
 thE:=h6.ent
 thC _ _ _ _ hv:=xL T h6 hv
 hasE:=h7.ent
 hasC kind lo hi nul tag df of sv ver w:=wK T h7 kind lo hi nul tag df of sv ver w
 nullE:=h8.ent
 nullC kind lo hi nul tag df of sv ver nm tn x1 x3 x4 w:=tA T vB h8 kind lo hi nul tag df of sv ver nm tn x1 x3 x4 w
 knE:=h9.ent
 knC _ _ w ht hf:=rQ T h9 ht w hf
 atE:=ha.ent
 atC _ _ _ _ w ht:=Ab T ha w ht
 unE:=hb.ent
 unC sf fv uv raw w ht hf hr:=xG T h9.ent (fun _ _ w ht hf=>rQ T h9 ht w hf) hb sf fv uv raw w ht hf hr
end
end
end Go.Proofs.YtbgklecbmhaadaaGreatDoor.Kx