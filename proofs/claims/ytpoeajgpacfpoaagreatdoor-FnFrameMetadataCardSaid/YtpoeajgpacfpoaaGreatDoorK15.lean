/-
  PLAIN LAWS AND CONTRACTS of messages, part 15.
-/
import Derived.Test.YtpoeajgpacfpoaaGreatDoorK13

namespace Go.Proofs.YtpoeajgpacfpoaaGreatDoor.Kx
open Go
section
open Go
set_option maxRecDepth 4000
section
variable {P:Program} {S:SN}
theorem zA (C:LeafC P S){W:World}{w:World}{t:Tr}{B:Nat}{sv lv uv:Value}(Lh:kD W sv t.octets)(hk:cz W w)(hB:au w B 0 [.int .i64 t.num,sv,.bool t.null,lv,uv])
  {a:Act} (h:St 70 a [(11,pt B 0)]) {R:Exit->Act->World->Prop} (hR:∀ a' w',(a'.defers=[]/\aZ S.tU8 (zx t.octets) W (.returned (a'.get 12)) w')->R .ret a' w') :
  aK P (.seq (rg (Bb S)) (.seq (rg (Ba S)) (.seq (rg (AZ S)) .ret))) R a w:=by
 have T:=C.tab
 obtain⟨i,hi,hz,Ii,MD⟩:=T.z8
 have TB:=run_make (P:=P) w S.tSl S.tU8 i (.int .u8 0) T.oct.und hi hz .i64 .i64 16 16 (by omega) (by omega) (by rw[MD];omega) (by omega)
 have M0:madeCells (Value.int .u8 0).cells ((16:Int).toNat*i.size)=(List.replicate 16 (aJ 0)).toArray:=by
  rw[Ii]
  apply Array.ext
  ·simp[madeCells]
  ·intro k h1 h2
   have e1:(List.replicate 16 (aJ 0)).toArray[k]=aJ 0:=by rw[List.getElem_toArray,List.getElem_replicate]
   rw[e1]
   simp only[madeCells,Array.getElem_map,Array.getElem_range,Value.cells]
   simp[Nat.mod_one,aJ]
 rw[M0]at TB
 refine aw (aP (aB (v:=.slice (some ⟨w.heap.size,0,none⟩) 16 16) (w':=w.alloc (.cells (List.replicate 16 (aJ 0)).toArray S.tU8)) ?_ ?_))
 ·have e:a.eval (ki .i64 16)=.int .i64 16:=rfl
  simp[execOp,mk,e,TB]
 have h:=h.put (d:=26) (.slice (some ⟨w.heap.size,0,none⟩) 16 16) (by omega)
 have hn:=aE w (.cells (List.replicate 16 (aJ 0)).toArray S.tU8)
 have Ir:ac (fun _=>False) w (w.alloc (.cells (List.replicate 16 (aJ 0)).toArray S.tU8)):=ac.alloc _ _ _
 generalize w.alloc (.cells (List.replicate 16 (aJ 0)).toArray S.tU8)=w1 at hn Ir ⊢
 refine ae h (.t rfl) (by omega) fun a h=>wpList_nil ?_
 have If:=Lh.far (hk.kn Ir)
 obtain⟨bx,cx,rfl,IP⟩:=If.form
 refine aw (aP (ai h (.t rfl) (by omega) fun a h=>bO h (.t rfl) T.t1 (by omega) fun a h=>aU h (.t rfl) T.t1.var ((au.kn Ir hB).at (j:=1) rfl) (by omega) fun a h=>?_))
 have Mr:(t.octets.take 16).length=min t.octets.length 16:=by rw[List.length_take,Nat.min_comm]
 obtain⟨x,w2,Im,Ka,Ic⟩:∃ x w2,(Builtin.copy_ #[S.tSl,S.tSl] S.tInt #[.slice (some ⟨w.heap.size,0,none⟩) 16 16,.slice bx t.octets.length cx]).run P w1=.ok x w2/\w2.heap[w.heap.size]?=some (.cells ((zx t.octets).map aJ).toArray S.tU8 (0,0))/\ac (fun k=>k=w.heap.size) w1 w2:=by
  rcases IP with h0|⟨b,o,rfl,IP⟩
  ·refine⟨_,_,lj T.oct.und T.vU8.size (by rw[h0];rfl),?_,ac.refl _ _⟩
   rw[hn,h0]
   simp[zx]
  ·refine⟨_,_,li (cs:=(t.octets.take 16).map aJ) T.oct.und T.vU8.size (by rw[List.length_map,Mr]) (fun j v hj=>?_) hn (by rw[List.length_map,Mr,List.size_toArray,List.length_replicate];omega) lp,?_,ac.setRow _ _ _ _ rfl⟩
   ·rw[List.getElem?_map,Option.map_eq_some_iff]at hj
    obtain⟨y,hy,rfl⟩:=hj
    rw[List.getElem?_take]at hy
    split at hy
    ·rw[Addr.add_lit];exact IP j y hy
    ·cases hy
   ·rw[setRow_heap _ _ _ _ _ _ hn]
    congr 2
    simp only[aD,zx,List.take_zero,List.nil_append,Nat.zero_add,List.map_append,List.length_map,List.map_replicate]
    congr 2
    rw[List.drop_replicate,Mr]
    congr 1
    omega
 have KO:(execOp a.eval (bi (some 30) .copy [tm 27,tm 29] [S.tSl,S.tSl] S.tInt)).run P w1=.ok (.value x) w2:=by
  simp[execOp,bi,resolve,invoke,builtin,Hd.t (l:=_) (i:=27) rfl 70 a h,Hd.t (l:=_) (i:=29) rfl 70 a h,Im]
 refine qG h KO (by omega) fun a h=>wpList_nil ?_
 refine aw (aP (ai h (.t rfl) (by omega) fun a h=>ae h (.t rfl) (by omega) fun a h=>wpList_nil (.ret (hR _ _ ⟨h.defers,.slice (some ⟨w.heap.size,0,none⟩) 16 16,by rw[h.get 12 _ rfl],?_,?_⟩))))
 ·exact .inr ⟨w.heap.size,16,((zx t.octets).map aJ).toArray,by rw[lh],hk.size,Ka,by rw[lh];omega,by simp[maxLen],by simp[lh],fun i x hx=>by simp[hx]⟩
 ·exact cz.keeps ((hk.kn Ir).up Ic fun i hi=>by subst hi;exact hk.size)
def E7 (P:Program)(S:SN)(sub:SFs):Prop:=∀ (w:World) (kind:Nat) (null:Bool) (ver:Int) (fx:Bool) (k:Nat) (cs:List Value) (t:Tr) (fv:Value),fu w sub fv->TrRp w k cs t->(eE kind null fx (bh ver fx sub) t).length<=di ->
 Calls P S.fVal [.int .i64 (kind:Int),fv,.bool null,.int .i64 ver,.bool fx,.agg cs.toArray].toArray w (aZ S.tU8 (eE kind null fx (bh ver fx sub) t) w)
theorem xc (C:LeafC P S)(hfn:FnIs P S.fVal 70 [12] (csVa S))(Q7:Ent P S.fPart){sub:SFs}(hP:pl P S sub):E7 P S sub:=by
 intro W kind null ver fx k cs t fv IQ ht hlim
 have T:=C.tab
 have NY:=ht
 cases k with
 | zero=>exact ht.elim
 | succ k=>
 obtain⟨sv,lv,uv,rfl,Lh,Oe,QH⟩:=ht
 refine bJ T.mixed hfn (by simp) _ (by simp) fun a h=>?_
 unfold csVa
 refine aw (aP (dx h (.t rfl) (by omega) fun a h=>?_))
 have hk:ac (fun _=>False) W (W.alloc (.cells [.int .i64 t.num,sv,.bool t.null,lv,uv].toArray S.tT (0,0))):=ac.alloc _ _ _
 have hB:=bB W [.int .i64 t.num,sv,.bool t.null,lv,uv] S.tT
 generalize W.alloc (.cells [.int .i64 t.num,sv,.bool t.null,lv,uv].toArray S.tT (0,0))=w at hk hB ⊢
 have hf:cz W w:=cz.of hk
 refine ae h .c (by omega) fun a h=>wpList_nil ?_
 have h:St 70 a [(0,.int .i64 (kind:Int)),(1,fv),(2,.bool null),(3,.int .i64 ver),(4,.bool fx),(11,pt W.heap.size 0)]:=h.pick ⟨rfl,rfl,rfl,rfl,rfl,rfl,trivial⟩
 have fin:∀ (a':Act) (w':World),(a'.defers=[]/\aZ S.tU8 (eE kind null fx (bh ver fx sub) t) W (.returned (a'.get 12)) w')->(a'.defers=[]/\aZ S.tU8 (eE kind null fx (bh ver fx sub) t) W (.returned (bj [12] a')) w'):=fun a' w' hh=>hh
 refine aw (aw (aP (ai h (.t rfl) (by omega) fun a h=>wpList_nil ?_)))
 refine .block (aw (aP (br h rfl (.t rfl) .i (by omega) fun a h=>ae h (.t rfl) (by omega) fun a h=>wpList_nil ?_)))
 refine bn h rfl (fun hb=>?_) (fun hb=>?_)
 ·-- a bool
  have JW:kind=0:=by simp[aW]at hb;omega
  subst JW
  refine aw (aP (bO h (.t rfl) T.t0 (by omega) fun a h=>aU h (.t rfl) T.t0.var (hB.at (j:=0) rfl) (by omega) fun a h=>dn h (.t rfl) .i (by simp) (xK w) (by omega) fun a h=>dP h (.t rfl) T.dI64 T.dU8 (by omega) fun a h=>?_))
  have hw:(Value.int .u8 (IntKind.u8.wrap (t.num%2)))=aJ (UInt8.ofNat (t.num%2).toNat):=by
   have e:IntKind.u8.wrap (t.num%2)=(((t.num%2).toNat:Nat):Int):=by simp[IntKind.wrap,IntKind.bits,IntKind.signed];omega
   rw[e,lR (by omega)]
  rw[hw]at h
  refine kZ h T.oct (.t rfl) (by omega) fun v a hd h=>ae h (.t rfl) (by omega) fun a h=>wpList_nil (.ret ?_)
  refine dN (RR:=aZ S.tU8 (eE 0 null fx (bh ver fx sub) t) W) h rfl (mt ?_ (hf.kn (ac.alloc _ _ _)))
  exact(Gr.lower (L':=W.heap.size) hk.size (Gr.refl hd)).dst
 have h0:kind≠0:=by simp[aW]at hb;omega
 refine aw (aP (br h rfl (.t rfl) .i (by omega) fun a h=>ae h (.t rfl) (by omega) fun a h=>wpList_nil ?_))
 refine bn h rfl (fun hb=>?_) (fun hb=>?_)
 ·have JW:kind=7:=by simp[aW]at hb;omega
  subst JW
  exact zA C Lh hf hB (h.pick ⟨rfl,trivial⟩) fun a' w' hh=>fin a' w' hh
 have h7:kind≠7:=by simp[aW]at hb;omega
 refine aw (aP (br h rfl (.t rfl) .i (by omega) fun a h=>ae h (.t rfl) (by omega) fun a h=>wpList_nil ?_))
 refine bn h rfl (fun hb=>?_) (fun hb=>?_)
 ·have JW:kind=8:=by simp[aW]at hb;omega
  subst JW
  exact wZ C Lh hf hB hlim (h.pick ⟨rfl,rfl,rfl,trivial⟩) fun a' w' hh=>fin a' w' hh
 have h8:kind≠8:=by simp[aW]at hb;omega
 refine aw (aP (br h rfl (.t rfl) .i (by omega) fun a h=>ae h (.t rfl) (by omega) fun a h=>wpList_nil ?_))
 refine bn h rfl (fun hb=>?_) (fun hb=>?_)
 ·have JW:kind=9:=by simp[aW]at hb;omega
  subst JW
  exact wY C Lh hf hB hlim (h.pick ⟨rfl,rfl,rfl,trivial⟩) fun a' w' hh=>fin a' w' hh
 have h9:kind≠9:=by simp[aW]at hb;omega
 refine aw (aP (br h rfl (.t rfl) .i (by omega) fun a h=>ae h (.t rfl) (by omega) fun a h=>wpList_nil ?_))
 refine bn h rfl (fun hb=>?_) (fun hb=>?_)
 ·have JW:kind=10:=by simp[aW]at hb;omega
  subst JW
  have e:eE 10 null fx (bh ver fx sub) t=bh ver fx sub t:=by simp[eE]
  rw[e]at hlim fin ⊢
  refine aw (aP (ai h (.t rfl) (by omega) fun a h=>ai h (.t rfl) (by omega) fun a h=>ai h (.t rfl) (by omega) fun a h=>cn h (cs:=[.int .i64 t.num,sv,.bool t.null,lv,uv]) (.t rfl) T.vT hB (by omega) fun a h=>?_))
  refine aT h Q7 (vs:=[fv,.int .i64 ver,.bool fx,.agg [.int .i64 t.num,sv,.bool t.null,lv,uv].toArray]) (fun n a h=>by
   simp only[List.map_cons,List.map_nil]
   rw[Hd.t (l:=_) (i:=60) rfl n a h,Hd.t (l:=_) (i:=61) rfl n a h,Hd.t (l:=_) (i:=62) rfl n a h,Hd.t (l:=_) (i:=63) rfl n a h]) (hP w ver fx (k+1) _ t fv (IQ.far hf) (NY.far hf) hlim) (by omega) fun e w' hR=>?_
  obtain⟨v,rfl,hd,Ic⟩:=hR
  refine⟨v,rfl,fun a h=>ae h (.t rfl) (by omega) fun a h=>wpList_nil (.ret ?_)⟩
  exact dN (RR:=aZ S.tU8 (bh ver fx sub t) W) h rfl (mt (Gr.lower (L':=W.heap.size) hk.size (Gr.refl hd)).dst (hf.kn Ic))
 have LG:kind≠10:=by simp[aW]at hb;omega
 have e:eE kind null fx (bh ver fx sub) t=be (cH kind) t.num:=by simp[eE,h0,h7,h8,h9,LG]
 rw[e]at hlim fin ⊢
 refine .skip (aw (vI [false,false,false,true,true,true] (fun w'=>au w' W.heap.size 0 [.int .i64 t.num,sv,.bool t.null,lv,uv]/\cz W w') (by kernel_rfl) ?_))
 show eT P _ [mk (some 65) (.fieldAddr S.tT (tm 11) 0),mk (some 66) (.load S.tI64 (tm 65)),mk (some 67) (.move (tm 0))] a fun af=>eg P _ _ [cl (some 68) S.fWid [(tm 67)],cl (some 69) S.fFix [(tm 66),(tm 68)],mk (some 12) (.assign (tm 69))] af w.drew
 refine lP h (.t rfl) T.t0 (by omega) fun a h=>iF h (.t rfl) T.t0.var (fun w' hI=>hI.1.at (j:=0) rfl) (by omega) fun a h=>dz h (.t rfl) (by omega) fun a h=>n9 ?_
 have Pw:au w.drew W.heap.size 0 [.int .i64 t.num,sv,.bool t.null,lv,uv]/\cz W w.drew:=⟨au.kn (ac.drew _ _) hB,hf.kn (ac.drew _ _)⟩
 refine fJ h Pw C.widE (vs:=[.int .i64 (kind:Int)]) (fun n a h=>by
  simp only[List.map_cons,List.map_nil]
  rw[Hd.t (l:=_) (i:=67) rfl n a h]) (C.widC kind w.drew) (by omega) fun e w' hR=>?_
 obtain⟨rfl,rfl⟩:=hR
 have hw8:cH kind<=8:=by
  simp only[cH]
  repeat' split
  all_goals omega
 refine⟨_,rfl,fun a h=>fJ h Pw C.fixE (vs:=[.int .i64 t.num,.int .i64 (cH kind:Int)]) (fun n a h=>by
  simp only[List.map_cons,List.map_nil]
  rw[Hd.t (l:=_) (i:=66) rfl n a h,Hd.t (l:=_) (i:=68) rfl n a h]) (C.fixC t.num _ w.drew hw8) (by omega) fun e w' hR=>?_⟩
 obtain⟨v,rfl,hd,Ic⟩:=hR
 refine⟨v,rfl,fun a h=>f9 h ⟨au.kn Ic Pw.1,Pw.2.kn Ic⟩ (.t rfl) (by omega) fun a h=>ku ⟨au.kn Ic Pw.1,Pw.2.kn Ic⟩ (.ret ?_)⟩
 exact dN (RR:=aZ S.tU8 (be (cH kind) t.num) W) h rfl (mt (Gr.lower (L':=W.heap.size) Pw.2.size (Gr.refl hd)).dst (Pw.2.kn Ic))
end
end
section
open Go
set_option maxRecDepth 4000
section
variable {P:Program} {S:SN}
def H6 (P:Program)(S:SN)(sub:SFs):Prop:=∀ (w:World) (kind:Nat) (lo hi nul tag df:Int) (of:Nat) (sv:Value) (ver:Int) (fx:Bool) (k:Nat) (cs:List Value) (t:Tr),fu w sub sv->TrRp w k cs t->(eH kind nul of ver fx (bh ver fx sub) t).length<=di ->
 Calls P S.fField [.agg (aV kind lo hi nul tag df of sv).toArray,.int .i64 ver,.bool fx,.agg cs.toArray].toArray w (aZ S.tU8 (eH kind nul of ver fx (bh ver fx sub) t) w)
theorem we (g:Tr->Bs){xs:List Tr}{i:Nat}{x:Tr}(h:xs[i]?=some x):((xs.drop i).map g).flatten=g x++((xs.drop (i+1)).map g).flatten:=by
 have Id:=(List.getElem?_eq_some_iff.1 h).1
 rw[List.drop_eq_getElem_cons Id,(List.getElem?_eq_some_iff.1 h).2]
 simp
theorem Aw (C:LeafC P S)(QU:Ent P S.fVal){sub:SFs}(hV:E7 P S sub){W:World}{kind:Nat}{lo hi nul tag df:Int}{of:Nat}{sv:Value}{ver:Int}{fx:Bool}{k B:Nat}{xs:List Tr}{lv:Value}(IQ:fu W sub sv)(QF:dh W 5 (TrRp W k) lv xs)(hB:au W B 0 (aV kind lo hi nul tag df of sv))
  {total:Bs} (hlim:total.length<=di) {w:World} (hk:cz W w) {v:Value} {bs:Bs} (hd:aA w W.heap.size S.tU8 v bs) (I9:bs++(xs.map (eE of false fx (bh ver fx sub))).flatten=total) {a:Act} (h:St 76 a [(1,.int .i64 ver),(2,.bool fx),(4,pt B 0),(10,lv),(11,v)]) {R:Exit->Act->World->Prop}
  (hR:∀ a' w' v',a'.defers=[]->a'.get 8=v'->aA w' W.heap.size S.tU8 v' total->cz W w'->R .ret a' w') :
  aK P (.seq (.seq (rg (yq S)) (.block 0 (.loop (.seq (rg (yp S)) (.seq (.cond (tm 32) .skip (.exit 0)) (.seq (.block 1 (.seq (rg (yo S)) (.region 1 (sK S).toArray true))) (rg (sJ S)))))))) (.seq (rg (sI S)) .ret)) R a w:=by
 have T:=C.tab
 obtain⟨bx,cx,Oe,_,WN,_⟩:=QF.form
 refine aw (aw (aP (ai h (.t rfl) (by omega) fun a h=>?_)))
 have h':=h
 rw[Oe]at h'
 refine cM h' (.t rfl) T.dTs (by omega) fun a h=>ai h .i (by omega) fun a h=>wpList_nil ?_
 rw[<- Oe]at h
 refine ej (fun m a' w'=>∃ (i:Nat) (v:Value) (bs:Bs),i+m=xs.length/\bs++((xs.drop i).map (eE of false fx (bh ver fx sub))).flatten=total/\aA w' W.heap.size S.tU8 v bs/\cz W w' /\
   St 76 a' [(1,.int .i64 ver),(2,.bool fx),(4,pt B 0),(10,lv),(11,v),(30,.int .i64 (xs.length:Int)),(31,.int .i64 (i:Int))]) xs.length
  ⟨xs.length,Nat.le_refl _,0,v,bs,by omega,by simpa using I9,hd,hk,h.pick ⟨rfl,rfl,rfl,rfl,rfl,rfl,rfl,trivial⟩⟩ ?_
 rintro m a w hm ⟨i,v,bs,NE,I9,hd,hk,h⟩
 refine aw (aP (br h rfl (.t rfl) (.t rfl) (by omega) fun a h=>wpList_nil ?_))
 refine gn h rfl (fun hb=>?_) (fun hb=>?_)
 ·have Id:i<xs.length:=by simp[aW]at hb;omega
  obtain⟨x,hx⟩:∃ x,xs[i]?=some x:=⟨_,List.getElem?_eq_getElem Id⟩
  obtain⟨b,o,c,cs,hv,Vp,Iz,Tx⟩:=QF.get hx
  rw[we _ hx]at I9
  refine .skip (aw (.block (aw (aP (ai h (.t rfl) (by omega) fun a h=>ae h (.t rfl) (by omega) fun a h=>wpList_nil ?_)))))
  refine vI [false,false,false,false,false,false,false,false,false,false,false,true,true,true] (fun w'=>cz W w') (by kernel_rfl) ?_
  show eT P _ [mk (some 34) (.move (tm 11)),mk (some 35) (.fieldAddr S.tF (tm 4) 6),mk (some 36) (.load S.tInt (tm 35)),mk (some 37) (.fieldAddr S.tF (tm 4) 7),mk (some 38) (.load S.tFs (tm 37)),mk (some 39) (.move (tm 1)),mk (some 40) (.move (tm 2)),mk (some 41) (.move (tm 10)),mk (some 42) (.move (tm 12)),mk (some 43) (.indexAddr S.tTs (tm 41) (tm 42)),mk (some 44) (.load S.tT (tm 43))] a
   fun af=>eg P _ _ [cl (some 45) S.fVal [(tm 36),(tm 38),(.const (.bool false)),(tm 39),(tm 40),(tm 44)],bi (some 46) .append [(tm 34),(tm 45)] [S.tSl,S.tSl] S.tSl,mk (some 11) (.assign (tm 46))] af w.drew
  refine dz h (.t rfl) (by omega) fun a h=>lP h (.t rfl) T.f6 (by omega) fun a h=>iF h (.t rfl) T.f6.var (fun w' hI=>cz.cell hI (hB.at (j:=6) rfl)) (by omega) fun a h=>lP h (.t rfl) T.f7 (by omega) fun a h=>iF h (.t rfl) T.f7.var (fun w' hI=>cz.cell hI (hB.at (j:=7) rfl)) (by omega) fun a h=>?_
  refine dz h (.t rfl) (by omega) fun a h=>dz h (.t rfl) (by omega) fun a h=>dz h (.t rfl) (by omega) fun a h=>dz h (.t rfl) (by omega) fun a h=>?_
  have h':=h
  rw[hv]at h'
  refine xw h' (sz:=5) (.t rfl) (.t rfl) Id T.dTs T.vT.size (by omega) fun a h=>jz h (cs:=cs) (.t rfl) (by rw[Vp];exact T.vT) (fun w' hI=>cz.cells hI Iz) (by omega) fun a h=>n9 ?_
  have Ir:cz W w.drew:=hk.kn (ac.drew _ _)
  have Ks:aA w.drew W.heap.size S.tU8 v bs:=hd.keep (ac.drew (fun _=>False) _) fun _ _ h=>h
  have Ib:bs.length+(eE of false fx (bh ver fx sub) x).length<=di:=by
   have:=congrArg List.length I9
   simp only[List.length_append]at this
   omega
  refine fJ h Ir QU (vs:=[.int .i64 (of:Int),sv,.bool false,.int .i64 ver,.bool fx,.agg cs.toArray]) (fun n a h=>by
   simp only[List.map_cons,List.map_nil]
   rw[Hd.t (l:=_) (i:=36) rfl n a h,Hd.t (l:=_) (i:=38) rfl n a h,Hd.t (l:=_) (i:=39) rfl n a h,Hd.t (l:=_) (i:=40) rfl n a h,Hd.t (l:=_) (i:=44) rfl n a h];rfl) (hV w.drew of false ver fx k cs x sv (IQ.far Ir) (Tx.far Ir) (by omega)) (by omega) fun e w2 JD=>?_
  obtain⟨u,rfl,hu,Ic⟩:=JD
  have Il:=Ir.kn Ic
  refine⟨u,rfl,fun a h=>si h Il T.oct (.t rfl) (.t rfl) (Ks.keep Ic fun _ _ h=>h) (ig T.oct hu) Il.size Ib (by omega) fun v3 w3 a hg h=>?_⟩
  have It:cz W w3:=Il.up hg.keeps fun j hj=>(Ks.own hj).1
  refine f9 h It (.t rfl) (by omega) fun a h=>ku It ?_
  refine aP (dn h (.t rfl) .i (by simp) (dZ w3) (by omega) fun a h=>?_)
  have hw:IntKind.i64.wrap ((i:Int)+1)=((i+1:Nat):Int):=by simp only[maxLen]at WN;simp[IntKind.wrap,IntKind.bits,IntKind.signed];omega
  rw[hw]at h
  refine ai h (.t rfl) (by omega) fun a h=>wpList_nil ?_
  refine⟨m-1,by omega,by omega,i+1,v3,bs++eE of false fx (bh ver fx sub) x,by omega,by rw[List.append_assoc];exact I9,hg.dst,It,?_⟩
  have h:=h.pick (m:=[(1,.int .i64 ver),(2,.bool fx),(4,pt B 0),(10,.slice (some ⟨b,o,none⟩) xs.length c),(11,v3),(30,.int .i64 (xs.length:Int)),(31,.int .i64 ((i+1:Nat):Int))]) ⟨rfl,rfl,rfl,rfl,rfl,rfl,rfl,trivial⟩
  rw[hv]
  exact h
 ·have Jh:¬ i<xs.length:=by simp[aW]at hb;omega
  rw[List.drop_of_length_le (by omega)]at I9
  simp only[List.map_nil,List.flatten_nil,List.append_nil]at I9
  subst I9
  refine .exit ?_
  show aK P _ _ a w
  refine aw (aP (ai h (.t rfl) (by omega) fun a h=>ae h (.t rfl) (by omega) fun a h=>wpList_nil (.ret (hR _ _ v h.defers (h.get 8 v rfl) hd hk))))
theorem yR (C:LeafC P S)(hfn:FnIs P S.fField 76 [8] (csFl S))(Q7:Ent P S.fPart)(QU:Ent P S.fVal){sub:SFs}(hP:pl P S sub)(hV:E7 P S sub):H6 P S sub:=by
 intro W kind lo hi nul tag df of sv ver fx k cs t IQ ht hlim
 have T:=C.tab
 have NY:=ht
 cases k with
 | zero=>exact ht.elim
 | succ k=>
 obtain⟨tsv,tlv,tuv,rfl,Lh,Oe,QH⟩:=ht
 refine bJ T.mixed hfn (by simp) _ (by simp) fun a h=>?_
 unfold csFl
 refine aw (aP (dx h (cs:=aV kind lo hi nul tag df of sv) (.t rfl) (by omega) fun a h=>?_))
 have Ir:ac (fun _=>False) W (W.alloc (.cells (aV kind lo hi nul tag df of sv).toArray S.tF (0,0))):=ac.alloc _ _ _
 have JG:=bB W (aV kind lo hi nul tag df of sv) S.tF
 generalize W.alloc (.cells (aV kind lo hi nul tag df of sv).toArray S.tF (0,0))=w1 at Ir JG ⊢
 refine dx h (cs:=[.int .i64 t.num,tsv,.bool t.null,tlv,tuv]) (.t rfl) (by omega) fun a h=>ae h .c (by omega) fun a h=>wpList_nil ?_
 have Ic:ac (fun _=>False) w1 (w1.alloc (.cells [.int .i64 t.num,tsv,.bool t.null,tlv,tuv].toArray S.tT (0,0))):=ac.alloc _ _ _
 have Jq:=bB w1 [.int .i64 t.num,tsv,.bool t.null,tlv,tuv] S.tT
 generalize w1.alloc (.cells [.int .i64 t.num,tsv,.bool t.null,tlv,tuv].toArray S.tT (0,0))=w2 at Ic Jq ⊢
 have JG:=au.kn Ic JG
 have hk:=Ir.trans Ic
 refine aw (aP (cn h (cs:=aV kind lo hi nul tag df of sv) (.t rfl) T.vF JG (by omega) fun a h=>ai h (.t rfl) (by omega) fun a h=>cn h (cs:=[.int .i64 t.num,tsv,.bool t.null,tlv,tuv]) (.t rfl) T.vT Jq (by omega) fun a h=>?_))
 have II:=C.nullC kind lo hi nul tag df of sv ver t.num t.null tsv tlv tuv w2
 have h:St 76 a [(13,.agg (aV kind lo hi nul tag df of sv).toArray),(14,.int .i64 ver),(15,.agg [.int .i64 t.num,tsv,.bool t.null,tlv,tuv].toArray),(1,.int .i64 ver),(2,.bool fx),(4,pt W.heap.size 0),(7,pt w1.heap.size 0),(8,aF)]:=h.pick ⟨rfl,rfl,rfl,rfl,rfl,rfl,rfl,rfl,trivial⟩
 generalize hF:Value.agg (aV kind lo hi nul tag df of sv).toArray=vF at h II
 generalize hT:Value.agg [.int .i64 t.num,tsv,.bool t.null,tlv,tuv].toArray=vT at h II
 refine aT h C.nullE (vs:=[vF,.int .i64 ver,vT]) (fun n a h=>by
  simp only[List.map_cons,List.map_nil]
  rw[Hd.t (l:=_) (i:=13) rfl n a h,Hd.t (l:=_) (i:=14) rfl n a h,Hd.t (l:=_) (i:=15) rfl n a h]) II (by omega) fun e w3 hR=>?_
 subst hF hT
 obtain⟨rfl,Il⟩:=hR
 refine⟨_,rfl,fun a h=>ae h (.t rfl) (by omega) fun a h=>wpList_nil ?_⟩
 have JG:=au.kn Il JG
 have Jq:=au.kn Il Jq
 have hk:=hk.trans Il
 have hf:cz W w3:=cz.of hk
 have Qm:=IQ.far hf
 have OX:=NY.far hf
 have Ii:=hk.size
 have h:St 76 a [(1,.int .i64 ver),(2,.bool fx),(4,pt W.heap.size 0),(7,pt w1.heap.size 0),(8,aF),(9,.bool (t.null&&bW nul ver))]:=h.pick ⟨rfl,rfl,rfl,rfl,rfl,rfl,trivial⟩
 clear Ir Ic
 have fin:∀ (a':Act) (w':World) (v:Value) (bs:Bs),a'.defers=[]->a'.get 8=v->aA w' w3.heap.size S.tU8 v bs->cz w3 w'->bs=eH kind nul of ver fx (bh ver fx sub) t->(a'.defers=[]/\aZ S.tU8 (eH kind nul of ver fx (bh ver fx sub) t) W (.returned (bj [8] a')) w'):=fun a' w' v bs h1 h2 h3 h4 h5=>by
  subst h5
  refine⟨h1,v,by rw[dp,h2],(Gr.lower Ii (Gr.refl h3)).dst,?_⟩
  exact(hf.keeps).trans h4.keeps
 refine aw (aw (aP (bO h (.t rfl) T.f0 (by omega) fun a h=>aU h (.t rfl) T.f0.var (JG.at (j:=0) rfl) (by omega) fun a h=>br h rfl (.t rfl) .i (by omega) fun a h=>wpList_nil ?_)))
 refine bn h rfl (fun hb=>?_) (fun hb=>?_)
 ·-- a list
  have JW:kind=11:=by simp[aW]at hb;omega
  refine aw (aP (bO h (.t rfl) T.t3 (by omega) fun a h=>aU h (.t rfl) T.t3.var (Jq.at (j:=3) rfl) (by omega) fun a h=>?_))
  have Vn:dh w3 5 (TrRp w3 k) tlv t.list:=by
   obtain⟨_,_,_,e,_,h3,_⟩:=OX
   simp only[List.cons.injEq,true_and,and_true]at e
   rw[e.2.1];exact h3
  refine aT h C.thE (vs:=[tlv]) (fun n a h=>by simp only[List.map_cons,List.map_nil];rw[Hd.t (l:=_) (i:=21) rfl n a h]) (C.thC w3 k tlv t.list Vn) (by omega) fun e w4 hR=>?_
  obtain⟨lv,rfl,Oe,rfl⟩:=hR
  refine⟨lv,rfl,fun a h=>ae h (.t rfl) (by omega) fun a h=>wpList_nil ?_⟩
  have rest:∀ (a:Act) (x:Value),St 76 a [(1,.int .i64 ver),(2,.bool fx),(4,pt W.heap.size 0),(9,.bool (t.null&&bW nul ver)),(10,x)]->dh w4 5 (TrRp w4 k) x (d7 (t.null&&bW nul ver) t) ->
    aK P (.seq (rg (Bj S)) (.seq (.seq (rg (yq S)) (.block 0 (.loop (.seq (rg (yp S)) (.seq (.cond (tm 32) .skip (.exit 0)) (.seq (.block 1 (.seq (rg (yo S)) (.region 1 (sK S).toArray true))) (rg (sJ S)))))))) (.seq (rg (sI S)) .ret))) (Exit.then (aK P (.seq (.seq (rg (yv S)) (.cond (tm 56) (.seq (.seq (rg (yu S)) (.cond (tm 57) (.seq (rg (yt S)) .ret) .skip)) (.seq (.region 1 (yr S).toArray true) .ret)) .skip)) (.seq (rg (sH S)) .ret)) (Rt (fun a' w'=>a'.defers=[]/\aZ S.tU8 (eH kind nul of ver fx (bh ver fx sub) t) W (.returned (bj [8] a')) w') (fun a' w'=>a'.defers=[]/\aZ S.tU8 (eH kind nul of ver fx (bh ver fx sub) t) W (.returned (bj [8] a')) w'))) (Rt (fun a' w'=>a'.defers=[]/\aZ S.tU8 (eH kind nul of ver fx (bh ver fx sub) t) W (.returned (bj [8] a')) w') (fun a' w'=>a'.defers=[]/\aZ S.tU8 (eH kind nul of ver fx (bh ver fx sub) t) W (.returned (bj [8] a')) w'))) a w4:=by
   intro a x h hx
   obtain⟨bx,cx,M4,_,WN,_⟩:=hx.form
   have JA:(d7 (t.null&&bW nul ver) t).length<=aH:=by
    simp only[d7]
    split
    ·simp
    ·rw[List.length_take];exact Nat.min_le_left ..
   refine aw (aP (ai h (.t rfl) (by omega) fun a h=>ai h (.t rfl) (by omega) fun a h=>ai h (.t rfl) (by omega) fun a h=>?_))
   have h':=h
   rw[M4]at h'
   refine cM h' (.t rfl) T.dTs (by omega) fun a h=>?_
   rw[<- M4]at h
   refine aT h C.cntE (vs:=[.bool fx,.bool (t.null&&bW nul ver),.int .i64 ((d7 (t.null&&bW nul ver) t).length:Int),.int .i64 ((4:Nat):Int)]) (fun n a h=>by
    simp only[List.map_cons,List.map_nil]
    rw[Hd.t (l:=_) (i:=24) rfl n a h,Hd.t (l:=_) (i:=25) rfl n a h,Hd.t (l:=_) (i:=27) rfl n a h];rfl) (C.cntC fx _ _ 4 w4 JA (by omega)) (by omega) fun e w5 JD=>?_
   obtain⟨v,rfl,hd,Jc⟩:=JD
   refine⟨v,rfl,fun a h=>ae h (.t rfl) (by omega) fun a h=>wpList_nil ?_⟩
   have e:eH kind nul of ver fx (bh ver fx sub) t=gu fx (t.null&&bW nul ver) (d7 (t.null&&bW nul ver) t).length 4++((d7 (t.null&&bW nul ver) t).map (eE of false fx (bh ver fx sub))).flatten:=by
    simp only[eH,JW,if_true]
   refine Aw C QU hV Qm hx JG hlim (cz.of Jc) hd e.symm (h.pick ⟨rfl,rfl,rfl,rfl,rfl,trivial⟩) fun a' w' v' h1 h2 h3 h4=>?_
   exact fin a' w' v' _ h1 h2 h3 h4 rfl
  refine aw (aw (aP (ai h (.t rfl) (by omega) fun a h=>wpList_nil ?_)))
  refine bn h rfl (fun hb=>?_) (fun hb=>?_)
  ·refine aP (ae h .c (by omega) fun a h=>wpList_nil ?_)
   exact rest a aF (h.pick ⟨rfl,rfl,rfl,rfl,rfl,trivial⟩) (.inl ⟨none,rfl,by simp[d7,hb]⟩)
  ·refine .skip (rest a lv (h.pick ⟨rfl,rfl,rfl,rfl,rfl,trivial⟩) ?_)
   simp only[d7,hb,Bool.false_eq_true,if_false]
   exact Oe
 have Sa:kind≠11:=by simp[aW]at hb;omega
 refine .skip (aw (aw (aP (bO h (.t rfl) T.f0 (by omega) fun a h=>aU h (.t rfl) T.f0.var (JG.at (j:=0) rfl) (by omega) fun a h=>br h rfl (.t rfl) .i (by omega) fun a h=>ai h (.t rfl) (by omega) fun a h=>?_))))
 have last:∀ (a:Act),St 76 a [(1,.int .i64 ver),(2,.bool fx),(4,pt W.heap.size 0),(7,pt w1.heap.size 0),(9,.bool (t.null&&bW nul ver))]->¬ (kind=10/\0<=nul)->aK P (.seq (rg (sH S)) .ret) (Rt (fun a' w'=>a'.defers=[]/\aZ S.tU8 (eH kind nul of ver fx (bh ver fx sub) t) W (.returned (bj [8] a')) w') (fun a' w'=>a'.defers=[]/\aZ S.tU8 (eH kind nul of ver fx (bh ver fx sub) t) W (.returned (bj [8] a')) w')) a w3:=by
  intro a h hn10
  have e:eH kind nul of ver fx (bh ver fx sub) t=eE kind (t.null&&bW nul ver) fx (bh ver fx sub) t:=by
   simp only[eH,if_neg Sa,if_neg hn10]
  refine aw (aP (bO h (.t rfl) T.f0 (by omega) fun a h=>aU h (.t rfl) T.f0.var (JG.at (j:=0) rfl) (by omega) fun a h=>bO h (.t rfl) T.f7 (by omega) fun a h=>aU h (.t rfl) T.f7.var (JG.at (j:=7) rfl) (by omega) fun a h=>?_))
  refine ai h (.t rfl) (by omega) fun a h=>ai h (.t rfl) (by omega) fun a h=>ai h (.t rfl) (by omega) fun a h=>cn h (cs:=[.int .i64 t.num,tsv,.bool t.null,tlv,tuv]) (.t rfl) T.vT Jq (by omega) fun a h=>?_
  refine aT h QU (vs:=[.int .i64 (kind:Int),sv,.bool (t.null&&bW nul ver),.int .i64 ver,.bool fx,.agg [.int .i64 t.num,tsv,.bool t.null,tlv,tuv].toArray]) (fun n a h=>by
   simp only[List.map_cons,List.map_nil]
   rw[Hd.t (l:=_) (i:=68) rfl n a h,Hd.t (l:=_) (i:=70) rfl n a h,Hd.t (l:=_) (i:=71) rfl n a h,Hd.t (l:=_) (i:=72) rfl n a h,Hd.t (l:=_) (i:=73) rfl n a h,Hd.t (l:=_) (i:=74) rfl n a h]) (hV w3 kind _ ver fx (k+1) _ t sv Qm OX (by rw[<- e];exact hlim)) (by omega) fun e' w4 hR=>?_
  obtain⟨v,rfl,hd,It⟩:=hR
  refine⟨v,rfl,fun a h=>ae h (.t rfl) (by omega) fun a h=>wpList_nil (.ret ?_)⟩
  exact fin a w4 v _ h.defers (h.get 8 v rfl) hd (cz.of It) e.symm
 cases OL:aW .eql (kind:Int) 10 with
 | false=>
  rw[OL]at h
  have J7:kind≠10:=by simp[aW]at OL;omega
  refine aM h rfl rfl rfl (by omega) (by simp) (by omega) fun a h=>aM h rfl rfl rfl (by omega) (by simp) (by omega) fun a h=>aM h rfl rfl rfl (by omega) (by simp) (by omega) fun a h=>?_
  refine cr h (.t rfl) (.t rfl) .c (by omega) fun a h=>wpList_nil ?_
  refine bn h rfl (fun hb=>by cases hb) (fun _=>?_)
  exact .skip (last a (h.pick ⟨rfl,rfl,rfl,rfl,rfl,trivial⟩) fun hh=>J7 hh.1)
 | true=>
  rw[OL]at h
  have J7:kind=10:=by simp[aW]at OL;omega
  refine kv h rfl rfl rfl (by omega) (.t rfl) T.f3 (by omega) fun a h=>gH h rfl rfl rfl (by omega) (.t rfl) T.f3.var (JG.at (j:=3) rfl) (by omega) fun a h=>lO h rfl rfl rfl (by omega) rfl (.t rfl) .i (by omega) fun a h=>?_
  refine cr h (.t rfl) (.t rfl) .c (by omega) fun a h=>wpList_nil ?_
  refine bn h rfl (fun hb=>?_) (fun hb=>?_)
  ·have Mk:0<=nul:=by simpa[aW]using hb
   have e:eH kind nul of ver fx (bh ver fx sub) t=if(t.null&&bW nul ver)=true then[255]else 1::bh ver fx sub t:=by
    simp only[eH,if_neg Sa,if_pos (show kind=10/\0<=nul from⟨J7,Mk⟩)]
   refine aw (aw (aP (ai h (.t rfl) (by omega) fun a h=>wpList_nil ?_)))
   refine bn h rfl (fun RG=>?_) (fun RG=>?_)
   ·rw[if_pos RG]at e
    refine aw (aP (aT h C.fixE (vs:=[.int .i64 (-1),.int .i64 ((1:Nat):Int)]) (fun n a h=>rfl) (C.fixC (-1) 1 w3 (by omega)) (by omega) fun e' w4 hR=>?_))
    obtain⟨v,rfl,hd,It⟩:=hR
    refine⟨v,rfl,fun a h=>ae h (.t rfl) (by omega) fun a h=>wpList_nil (.ret ?_)⟩
    exact fin a w4 v _ h.defers (h.get 8 v rfl) hd (cz.of It) (by rw[e];decide)
   ·rw[if_neg (by rw[RG];simp)]at e
    rw[e]at hlim
    refine .skip (aw (vI [true,false,false,false,false,false,true,true,true] (fun w'=>cz w3 w') (by kernel_rfl) ?_))
    show eT P _ [mk (some 60) (.fieldAddr S.tF (tm 4) 7),mk (some 61) (.load S.tFs (tm 60)),mk (some 62) (.move (tm 1)),mk (some 63) (.move (tm 2)),mk (some 64) (.load S.tT (tm 7))] a
     fun af=>eg P _ _ [cl (some 59) S.fFix [(ki .i64 1),(ki .i64 1)],cl (some 65) S.fPart [(tm 61),(tm 62),(tm 63),(tm 64)],bi (some 66) .append [(tm 59),(tm 65)] [S.tSl,S.tSl] S.tSl,mk (some 8) (.assign (tm 66))] af w3.drew
    refine lP h (.t rfl) T.f7 (by omega) fun a h=>iF h (.t rfl) T.f7.var (fun w' hI=>cz.cell hI (JG.at (j:=7) rfl)) (by omega) fun a h=>dz h (.t rfl) (by omega) fun a h=>dz h (.t rfl) (by omega) fun a h=>jz h (cs:=[.int .i64 t.num,tsv,.bool t.null,tlv,tuv]) (.t rfl) T.vT (fun w' hI=>cz.cells hI Jq) (by omega) fun a h=>n9 ?_
    have Mg:cz w3 w3.drew:=cz.of (ac.drew _ _)
    refine fJ h Mg C.fixE (vs:=[.int .i64 1,.int .i64 ((1:Nat):Int)]) (fun n a h=>rfl) (C.fixC 1 1 w3.drew (by omega)) (by omega) fun e' w4 hR=>?_
    obtain⟨u,rfl,hu,It⟩:=hR
    have OO:=Mg.kn It
    simp only[List.length_cons]at hlim
    refine⟨u,rfl,fun a h=>fJ h OO Q7 (vs:=[sv,.int .i64 ver,.bool fx,.agg [.int .i64 t.num,tsv,.bool t.null,tlv,tuv].toArray]) (fun n a h=>by
     simp only[List.map_cons,List.map_nil]
     rw[Hd.t (l:=_) (i:=61) rfl n a h,Hd.t (l:=_) (i:=62) rfl n a h,Hd.t (l:=_) (i:=63) rfl n a h,Hd.t (l:=_) (i:=64) rfl n a h]) (hP w4 ver fx (k+1) _ t sv (Qm.far OO) (OX.far OO) (by omega)) (by omega) fun e' w5 hR=>?_⟩
    obtain⟨v,rfl,hv,Jc⟩:=hR
    have Pu:=OO.kn Jc
    have WS:aA w5 w3.heap.size S.tU8 u (be 1 1):=(Gr.lower (L':=w3.heap.size) Mg.size (Gr.refl (hu.keep Jc fun _ _ h=>h))).dst
    refine⟨v,rfl,fun a h=>si h Pu T.oct (.t rfl) (.t rfl) WS (ig T.oct hv) Pu.size (by rw[bY];omega) (by omega) fun v6 w6 a hg h=>?_⟩
    have ON:cz w3 w6:=Pu.up hg.keeps fun j hj=>(WS.own hj).1
    refine f9 h ON (.t rfl) (by omega) fun a h=>ku ON (.ret ?_)
    exact fin a w6 v6 _ h.defers (h.get 8 v6 rfl) hg.dst ON (by rw[e,show be 1 1=[1] from by decide];rfl)
  ·have Mk:¬ 0<=nul:=by simpa[aW]using hb
   exact .skip (last a (h.pick ⟨rfl,rfl,rfl,rfl,rfl,trivial⟩) fun hh=>Mk hh.2)
end
end
section
open Go
set_option maxRecDepth 4000
section
variable {P:Program} {S:SN}
section
variable {ops:Array Oper} {Q:Exit->Act->World->Prop} {r:List Oper} {n:Nat} {a:Act} {w:World} {l:List (Nat × Value)}
theorem mK (h:St n a l){d j jd f:Nat}{b:Bool}{o:Oper}{args:List Operand}{vs:List Value}{R:Ending->World->Prop}(ho:ops[j]?=some o)(JN:o.dst=some jd)(hj:l.lookup jd=some (.bool b))(JQ:jd<n)(hf:Ent P f)(IH:∀ (n:Nat) (a:Act),St n a l->args.map a.eval=vs)(hc:Calls P f vs.toArray w R)(hd:d<n)
  (c:∀ e w',R e w'->∃ v,e=.returned v/\∀ a',St n a' ((d,v)::l)->wpList P ops Q r a' w'):wpList P ops Q (gd d (.call ⟨.value (.func f),args.toArray,#[]⟩) j b::r) a w:=by
 refine rR (dt ho JN (by rw[h.size];exact JQ) (h.get _ _ hj)) ?_
 unfold Oper.wp
 have : (execOp a.eval (⟨some d, .call ⟨.value (.func f), args.toArray, #[]⟩, 0, "", #[], some (j, b)⟩ : Oper)).run P w = .ok (.enter f vs.toArray) w := by
  have he:a.eval (.func f)=.func (.func f) #[] #[]:=rfl
  have Wm:(args.map a.eval).toArray=vs.toArray:=by rw[IH n a h]
  simp only[execOp,resolve,he,Deferred.ofValue,invoke,Sem.run_bind,Sem.run_pure,Result.andThen_ok,Array.empty_append,Array.append_empty,List.map_toArray,Wm]
  exact hf _ _
 rw[this]
 exact hc.mono fun e w' hR=>by
  obtain⟨v,rfl,hk⟩:=c e w' hR
  exact hk _ (h.put _ hd)
end
def t5 (P:Program)(S:SN):SFs->Prop
 | .nil=>True
 | .cons _ _ _ _ _ _ _ sub r=>H6 P S sub/\t5 P S r
theorem uz {w:World}{T:Nat}{z:Value}{cs:List Value}(hz:z.cells.size=cs.length):ac (fun _=>False) w ((w.alloc (.cells z.cells T (0,0))).setRow w.heap.size cs.toArray)/\au ((w.alloc (.cells z.cells T (0,0))).setRow w.heap.size cs.toArray) w.heap.size 0 cs:=yy hz
theorem xO (C:LeafC P S)(W4:Ent P S.fField){W:World}{sf:SFs}{fv:Value}{ver:Int}{fx:Bool}{k B:Nat}{cs:List Value}{t:Tr}(IQ:fu W sf fv)(ht:TrRp W k cs t)(hB:au W B 0 cs)(Ky:t5 P S sf)(hlim:(cX ver fx sf 0 t).length<=di){a:Act}
  (h:St 132 a [(0,fv),(1,.int .i64 ver),(2,.bool fx),(7,pt B 0),(9,aF),(10,aF),(11,.int .i64 0)]) {R:Exit->Act->World->Prop}
  (hR:∀ (a':Act) (w':World) (v:Value),St 132 a' [(0,fv),(1,.int .i64 ver),(2,.bool fx),(7,pt B 0),(9,v),(10,aF),(11,.int .i64 0)]->aA w' W.heap.size S.tU8 v (cX ver fx sf 0 t)->cz W w'->R .normal a' w') :
  aK P (.seq (rg (Bg S)) (.block 0 (.loop (.seq (rg (Bf S)) (.seq (.cond (tm 24) .skip (.exit 0)) (.seq (.block 1 (.seq (rg (Be S)) (.seq (rg (Bd S)) (.cond (tm 35) (.region 1 (yf S).toArray true) .skip)))) (rg (yd S)))))))) R a W:=by
 have T:=C.tab
 have M6:=ht.len
 obtain⟨base,c,MU,Ib,VJ⟩:=IQ.form
 refine aw (aP (ai h (.t rfl) (by omega) fun a h=>?_))
 have h':=h
 rw[MU]at h'
 refine cM h' (.t rfl) T.dFs (by omega) fun a h=>ai h .i (by omega) fun a h=>wpList_nil ?_
 rw[<- MU]at h
 refine ej (fun m a' w'=>∃ (i:Nat) (rest:SFs) (v:Value) (bs:Bs),i+m=sf.len/\rest.len=m/\t5 P S rest/\bs++cX ver fx rest i t=cX ver fx sf 0 t/\aA w' W.heap.size S.tU8 v bs/\cz W w'/\(∀ b o,base=some ⟨b,o,none⟩->jh W sf b o->jh W rest b (o+i*8)) /\
   St 132 a' [(0,fv),(1,.int .i64 ver),(2,.bool fx),(7,pt B 0),(9,v),(10,aF),(11,.int .i64 0),(21,fv),(22,.int .i64 (sf.len:Int)),(23,.int .i64 (i:Int))]) sf.len
  ⟨sf.len,Nat.le_refl _,0,sf,aF,[],by omega,rfl,Ky,rfl,aA.nil _ _ _,cz.refl W,fun b o _ hh=>by simpa using hh,h.pick ⟨rfl,rfl,rfl,rfl,rfl,rfl,rfl,rfl,rfl,rfl,trivial⟩⟩ ?_
 rintro m a w hm ⟨i,rest,v,bs,NE,Mp,J4,I9,hd,hk,IP,h⟩
 refine aw (aP (br h rfl (.t rfl) (.t rfl) (by omega) fun a h=>wpList_nil ?_))
 refine gn h rfl (fun hb=>?_) (fun hb=>?_)
 ·have Id:i<sf.len:=by simp[aW]at hb;omega
  refine .skip ?_
  cases hr:rest with
  | nil=>rw[hr]at Mp;simp[SFs.len]at Mp;omega
  | cons kind lo hi nul tag df of sub r=>
   subst hr
   obtain⟨b,o,JM,VK⟩:=VJ.resolve_left (fun hh=>by rw[hh]at Id;simp[SFs.len]at Id)
   obtain⟨⟨sv,hc,OY⟩,RE⟩:=IP b o JM VK
   have hc:au W b (o+i*8) (aV kind lo hi nul tag df of sv):=hc
   have Sz:fu W sub sv:=OY
   have V1:(i:Int)+1<=9223372036854775807:=by simp only[maxLen]at Ib;omega
   refine aw (.block (aw (aP (ai h (.t rfl) (by omega) fun a h=>?_))))
   have h':=h
   rw[MU,JM]at h'
   refine eD h' (sz:=8) (.t rfl) (.t rfl) Id T.dFs T.vF.size (by omega) fun a h=>cn h (cs:=aV kind lo hi nul tag df of sv) (.t rfl) T.vF (hk.cells hc) (by omega) fun a h=>?_
   rw[<- JM,<- MU]at h
   refine gE h (T.zF w) (by omega) fun a h=>ae h (.t rfl) (by omega) fun a h=>?_
   have PS:=uz (w:=w) (T:=S.tF) (z:=.agg #[.int .i64 0,.int .i64 0,.int .i64 0,.int .i64 0,.int .i64 0,.int .i64 0,.int .i64 0,aF]) (cs:=aV kind lo hi nul tag df of sv) rfl
   refine iD h (cs:=aV kind lo hi nul tag df of sv) (.t rfl) (.t rfl) (by simp[Value.cells]) T.vF.size (aE w _) rfl (og kind lo hi nul tag df of (ub OY)) (wpList_nil ?_)
   obtain⟨Ic,Jq⟩:=PS
   generalize(w.alloc (.cells (Value.agg #[.int .i64 0,.int .i64 0,.int .i64 0,.int .i64 0,.int .i64 0,.int .i64 0,.int .i64 0,aF]).cells S.tF (0,0))).setRow w.heap.size (aV kind lo hi nul tag df of sv).toArray=w2 at Ic Jq ⊢
   have hg:W.heap.size<=w.heap.size:=hk.size
   have IG:aA w2 W.heap.size S.tU8 v bs:=hd.keep Ic fun _ _ h=>h
   have Oj:=hk.kn Ic
   have LT:∀ j,v.ownBlock=some j->j<w.heap.size:=fun j hj=>(hd.own hj).2
   have h:St 132 a [(0,fv),(1,.int .i64 ver),(2,.bool fx),(7,pt B 0),(9,v),(10,aF),(11,.int .i64 0),(12,.int .i64 (i:Int)),(13,pt w.heap.size 0),(21,fv),(22,.int .i64 (sf.len:Int)),(23,.int .i64 (i:Int))]:=h.pick ⟨rfl,rfl,rfl,rfl,rfl,rfl,rfl,rfl,rfl,rfl,rfl,rfl,trivial⟩
   clear hd hk h'
   have step:∀ (a:Act) (w3:World) (v3:Value) (bs3:Bs) (KK:Exit->Act->World->Prop),St 132 a [(0,fv),(1,.int .i64 ver),(2,.bool fx),(7,pt B 0),(9,v3),(10,aF),(11,.int .i64 0),(21,fv),(22,.int .i64 (sf.len:Int)),(23,.int .i64 (i:Int))]->aA w3 W.heap.size S.tU8 v3 bs3->cz W w3->bs3++cX ver fx r (i+1) t=cX ver fx sf 0 t ->
     aK P (rg (yd S)) (Exit.then (fun a' w'=>∃ m',m'<=sf.len/\m'<m/\∃ (i:Nat) (rest:SFs) (v:Value) (bs:Bs),i+m'=sf.len/\rest.len=m'/\t5 P S rest/\bs++cX ver fx rest i t=cX ver fx sf 0 t/\aA w' W.heap.size S.tU8 v bs/\cz W w'/\(∀ b o,base=some ⟨b,o,none⟩->jh W sf b o->jh W rest b (o+i*8)) /\
      St 132 a' [(0,fv),(1,.int .i64 ver),(2,.bool fx),(7,pt B 0),(9,v),(10,aF),(11,.int .i64 0),(21,fv),(22,.int .i64 (sf.len:Int)),(23,.int .i64 (i:Int))]) KK) a w3:=by
    intro a w3 v3 bs3 KK h J9 Il Rk
    refine aP (dn h (.t rfl) .i (by simp) (dZ w3) (by omega) fun a h=>?_)
    have hw:IntKind.i64.wrap ((i:Int)+1)=((i+1:Nat):Int):=by simp[IntKind.wrap,IntKind.bits,IntKind.signed];omega
    rw[hw]at h
    refine ai h (.t rfl) (by omega) fun a h=>wpList_nil ?_
    refine⟨m-1,by omega,by omega,i+1,r,v3,bs3,by omega,by simp only[SFs.len]at Mp;omega,J4.2,Rk,J9,Il,fun b' o' hbo hh=>?_,h.pick ⟨rfl,rfl,rfl,rfl,rfl,rfl,rfl,rfl,rfl,rfl,trivial⟩⟩
    have:=(IP b' o' hbo hh).2
    rw[show o'+(i+1)*8=o'+i*8+8 by omega]
    exact this
   refine aw (aP (bO h (.t rfl) T.f4 (by omega) fun a h=>aU h (.t rfl) T.f4.var (Jq.at (j:=4) rfl) (by omega) fun a h=>br h rfl (.t rfl) .i (by omega) fun a h=>ai h (.t rfl) (by omega) fun a h=>?_))
   have P2:cX ver fx (.cons kind lo hi nul tag df of sub r) i t=(if tag<0/\ka lo hi ver=true then eH kind nul of ver fx (bh ver fx sub) (t.at i) else[])++cX ver fx r (i+1) t:=by
    simp only[cX];rfl
   rw[P2]at I9
   have go:∀ (a:Act) (w3:World) (bb:Bool) (KK:Exit->Act->World->Prop),St 132 a [(0,fv),(1,.int .i64 ver),(2,.bool fx),(7,pt B 0),(9,v),(10,aF),(11,.int .i64 0),(12,.int .i64 (i:Int)),(13,pt w.heap.size 0),(21,fv),(22,.int .i64 (sf.len:Int)),(23,.int .i64 (i:Int)),(35,.bool bb)]->ac (fun _=>False) w2 w3->bb=decide (tag<0/\ka lo hi ver=true) ->
     (∀ a' w',(∃ v3 bs3,St 132 a' [(0,fv),(1,.int .i64 ver),(2,.bool fx),(7,pt B 0),(9,v3),(10,aF),(11,.int .i64 0),(21,fv),(22,.int .i64 (sf.len:Int)),(23,.int .i64 (i:Int))]/\aA w' W.heap.size S.tU8 v3 bs3/\cz W w'/\bs3++cX ver fx r (i+1) t=cX ver fx sf 0 t)->KK .normal a' w') ->
     aK P (.cond (tm 35) (.region 1 (yf S).toArray true) .skip) KK a w3:=by
    intro a w3 bb KK h Il JT OM
    have J9:=IG.keep Il fun _ _ h=>h
    have Nq:=Oj.kn Il
    have MZ:=au.kn Il Jq
    have IJ:w.heap.size<=w3.heap.size:=Nat.le_trans Ic.size Il.size
    refine bn h rfl (fun hT=>?_) (fun hF=>?_)
    ·rw[hT]at JT
     have IF:tag<0/\ka lo hi ver=true:=of_decide_eq_true JT.symm
     rw[if_pos IF]at I9
     have M7:bs.length+(eH kind nul of ver fx (bh ver fx sub) (t.at i)).length<=di:=by
      have:=congrArg List.length I9
      simp only[List.length_append]at this
      omega
     refine vI [false,false,false,false,false,false,true,true,true,true] (fun w'=>cz W w'/\au w' w.heap.size 0 (aV kind lo hi nul tag df of sv)) (by kernel_rfl) ?_
     show eT P _ [mk (some 36) (.move (tm 9)),mk (some 37) (.load S.tF (tm 13)),mk (some 38) (.move (tm 1)),mk (some 39) (.move (tm 2)),mk (some 40) (.load S.tT (tm 7)),mk (some 41) (.move (tm 12))] a
      fun af=>eg P _ _ [cl (some 42) S.fAt [(tm 40),(tm 41)],cl (some 43) S.fField [(tm 37),(tm 38),(tm 39),(tm 42)],bi (some 44) .append [(tm 36),(tm 43)] [S.tSl,S.tSl] S.tSl,mk (some 9) (.assign (tm 44))] af w3.drew
     refine dz h (.t rfl) (by omega) fun a h=>jz h (cs:=aV kind lo hi nul tag df of sv) (.t rfl) T.vF (fun w' hI=>hI.2) (by omega) fun a h=>dz h (.t rfl) (by omega) fun a h=>dz h (.t rfl) (by omega) fun a h=>jz h (cs:=cs) (.t rfl) (by rw[M6];exact T.vT) (fun w' hI=>cz.cells hI.1 hB) (by omega) fun a h=>dz h (.t rfl) (by omega) fun a h=>n9 ?_
     have Mg:cz W w3.drew/\au w3.drew w.heap.size 0 (aV kind lo hi nul tag df of sv):=⟨Nq.kn (ac.drew _ _),au.kn (ac.drew _ _) MZ⟩
     have Kh:aA w3.drew W.heap.size S.tU8 v bs:=J9.keep (ac.drew (fun _=>False) _) fun _ _ h=>h
     have S0:=h.pick (m:=[(0,fv),(1,.int .i64 ver),(2,.bool fx),(7,pt B 0),(10,aF),(11,.int .i64 0),(21,fv),(22,.int .i64 (sf.len:Int)),(23,.int .i64 (i:Int)),(36,v),(37,.agg (aV kind lo hi nul tag df of sv).toArray),(38,.int .i64 ver),(39,.bool fx),(40,.agg cs.toArray),(41,.int .i64 (i:Int))]) ⟨rfl,rfl,rfl,rfl,rfl,rfl,rfl,rfl,rfl,rfl,rfl,rfl,rfl,rfl,rfl,trivial⟩
     generalize hFv:Value.agg (aV kind lo hi nul tag df of sv).toArray=vF at S0
     refine fJ S0 Mg C.atE (vs:=[.agg cs.toArray,.int .i64 (i:Int)]) (fun n a h=>by
      simp only[List.map_cons,List.map_nil]
      rw[Hd.t (l:=_) (i:=40) rfl n a h,Hd.t (l:=_) (i:=41) rfl n a h]) (C.atC k i cs t w3.drew (ht.far Mg.1)) (by omega) fun e w4 hR4=>?_
     obtain⟨cs4,rfl,Tz,It⟩:=hR4
     have OO:cz W w4/\au w4 w.heap.size 0 (aV kind lo hi nul tag df of sv):=⟨Mg.1.kn It,au.kn It Mg.2⟩
     have Jl:=J4.1 w4 kind lo hi nul tag df of sv ver fx k cs4 (t.at i) (Sz.far OO.1) (Tz.far (cz.of It)) (by omega)
     rw[hFv]at Jl
     refine⟨_,rfl,fun a h=>fJ h OO W4 (vs:=[vF,.int .i64 ver,.bool fx,.agg cs4.toArray]) (fun n a h=>by
      simp only[List.map_cons,List.map_nil]
      rw[Hd.t (l:=_) (i:=37) rfl n a h,Hd.t (l:=_) (i:=38) rfl n a h,Hd.t (l:=_) (i:=39) rfl n a h,Hd.t (l:=_) (i:=42) rfl n a h]) Jl (by omega) fun e w5 hR5=>?_⟩
     obtain⟨u,rfl,hu,Jc⟩:=hR5
     have Pu:cz W w5/\au w5 w.heap.size 0 (aV kind lo hi nul tag df of sv):=⟨OO.1.kn Jc,au.kn Jc OO.2⟩
     have MC:aA w5 W.heap.size S.tU8 v bs:=(Kh.keep It fun _ _ h=>h).keep Jc fun _ _ h=>h
     refine⟨u,rfl,fun a h=>si h Pu T.oct (.t rfl) (.t rfl) MC (ig T.oct hu) Pu.1.size M7 (by omega) fun v6 w6 a hgr h=>?_⟩
     have ON:cz W w6/\au w6 w.heap.size 0 (aV kind lo hi nul tag df of sv):=⟨Pu.1.up hgr.keeps fun j hj=>(MC.own hj).1,fun j x hj=>hgr.keeps.cell (fun hX=>by have:=LT _ hX;omega) (Pu.2 j x hj)⟩
     refine f9 h ON (.t rfl) (by omega) fun a h=>ku ON (OM _ _ ⟨v6,_,h.pick ⟨rfl,rfl,rfl,rfl,rfl,rfl,rfl,rfl,rfl,rfl,trivial⟩,hgr.dst,ON.1,?_⟩)
     rw[List.append_assoc];exact I9
    ·rw[hF]at JT
     have Jt:¬ (tag<0/\ka lo hi ver=true):=of_decide_eq_false JT.symm
     rw[if_neg Jt,List.nil_append]at I9
     exact .skip (OM _ _ ⟨v,bs,h.pick ⟨rfl,rfl,rfl,rfl,rfl,rfl,rfl,rfl,rfl,rfl,trivial⟩,J9,Nq,I9⟩)
   cases SP:aW .lss tag 0 with
   | false=>
    rw[SP]at h
    refine aM h rfl rfl rfl (by omega) (by simp) (by omega) fun a h=>aM h rfl rfl rfl (by omega) (by simp) (by omega) fun a h=>aM h rfl rfl rfl (by omega) (by simp) (by omega) fun a h=>?_
    refine cr h (.t rfl) (.t rfl) .c (by omega) fun a h=>wpList_nil ?_
    have Iv:¬ tag<0:=by simpa[aW]using SP
    refine go a w2 false _ (h.pick ⟨rfl,rfl,rfl,rfl,rfl,rfl,rfl,rfl,rfl,rfl,rfl,rfl,rfl,trivial⟩) (ac.refl _ _) (by simp[Iv]) fun a' w' hh=>?_
    obtain⟨v3,bs3,h3,h4,h5,h6⟩:=hh
    exact step a' w' v3 bs3 _ h3 h4 h5 h6
   | true=>
    rw[SP]at h
    have Iv:tag<0:=by simpa[aW]using SP
    refine ld h (op:=.load S.tF (tm 13)) (v:=.agg (aV kind lo hi nul tag df of sv).toArray) rfl rfl rfl (by omega) ?_ (by omega) fun a h=>ek h rfl rfl rfl (by omega) (.t rfl) (by omega) fun a h=>?_
    ·have hl:=run_loadCells_list (P:=P) w2 ⟨w.heap.size,0,none⟩ (aV kind lo hi nul tag df of sv) (fun j v hj=>by rw[Addr.add_lit];exact Jq j v hj)
     have e:=Hd.t (l:=_) (i:=13) rfl _ a h
     simp only[pt]at e
     have RW:(aV kind lo hi nul tag df of sv).length=8:=rfl
     rw[RW]at hl
     simp[execOp,mk,e,Instr.loadAt,Instr.sureAddr,loadVar,T.vF.agg w2,T.vF.size w2,hl]
    have Jg:=C.hasC kind lo hi nul tag df of sv ver w2
    have h:=h.pick (m:=[(0,fv),(1,.int .i64 ver),(2,.bool fx),(7,pt B 0),(9,v),(10,aF),(11,.int .i64 0),(12,.int .i64 (i:Int)),(13,pt w.heap.size 0),(21,fv),(22,.int .i64 (sf.len:Int)),(23,.int .i64 (i:Int)),(31,.bool true),(32,.agg (aV kind lo hi nul tag df of sv).toArray),(33,.int .i64 ver)]) ⟨rfl,rfl,rfl,rfl,rfl,rfl,rfl,rfl,rfl,rfl,rfl,rfl,rfl,rfl,rfl,trivial⟩
    generalize hFv:Value.agg (aV kind lo hi nul tag df of sv).toArray=vF at h Jg
    refine mK h rfl rfl rfl (by omega) C.hasE (args:=[(tm 32),(tm 33)]) (vs:=[vF,.int .i64 ver]) (fun n a h=>by
     simp only[List.map_cons,List.map_nil]
     rw[Hd.t (l:=_) (i:=32) rfl n a h,Hd.t (l:=_) (i:=33) rfl n a h]) Jg (by omega) fun e w3 hR3=>?_
    obtain⟨rfl,Il⟩:=hR3
    refine⟨_,rfl,fun a h=>cr h (.t rfl) (.t rfl) .c (by omega) fun a h=>wpList_nil ?_⟩
    refine go a w3 (ka lo hi ver) _ (h.pick ⟨rfl,rfl,rfl,rfl,rfl,rfl,rfl,rfl,rfl,rfl,rfl,rfl,rfl,trivial⟩) Il (by simp[Iv]) fun a' w' hh=>?_
    obtain⟨v3,bs3,h3,h4,h5,h6⟩:=hh
    exact step a' w' v3 bs3 _ h3 h4 h5 h6
 ·have Jh:¬ i<sf.len:=by simp[aW]at hb;omega
  have LY:rest=.nil:=by
   cases rest with
   | nil=>rfl
   | cons=>simp only[SFs.len]at Mp;omega
  subst LY
  simp only[cX,List.append_nil]at I9
  subst I9
  exact .exit (hR a w v (h.pick ⟨rfl,rfl,rfl,rfl,rfl,rfl,rfl,trivial⟩) hd hk)
end
end
section
open Go
set_option maxRecDepth 4000
structure ou where
 k:UInt32
 v:Value
 b:Bs
def cP (w:World)(L tG:Nat)(v:Value)(es:List ou):Prop:=
 (v=aF/\es=[]) \/
 ∃ (g c:Nat) (cur:Array Value),v=.slice (some ⟨g,0,none⟩) es.length c/\L<=g/\w.heap[g]?=some (.cells cur tG (0,0))/\es.length<=c/\c<=maxLen/\cur.size=c*2/\∀ i e,es[i]?=some e->cur[i*2]?=some (.int .u32 (e.k.toNat:Int))/\cur[i*2+1]?=some e.v
theorem cP.own {w:World}{L tG:Nat}{v:Value}{es:List ou}(h:cP w L tG v es){k:Nat}(hk:v.ownBlock=some k):L<=k/\k<w.heap.size:=by
 rcases h with⟨rfl,_⟩|⟨g,c,cur,rfl,hL,hg,_⟩
 ·cases hk
 ·obtain rfl:g=k:=Option.some.inj hk
  exact⟨hL,(Array.getElem?_eq_some_iff.1 hg).1⟩
theorem cP.keep {w w':World}{X:Nat->Prop}{L tG:Nat}{v:Value}{es:List ou}(h:cP w L tG v es)(hk:ac X w w')(hx:∀ k,v.ownBlock=some k->¬ X k):cP w' L tG v es:=by
 rcases h with h|⟨g,c,cur,rfl,hL,hg,h⟩
 ·exact .inl h
 ·exact .inr ⟨g,c,cur,rfl,hL,by rw[hk.block g (Array.getElem?_eq_some_iff.1 hg).1 (hx g rfl)];exact hg,h⟩
theorem cP.form {w:World}{L tG:Nat}{v:Value}{es:List ou}(h:cP w L tG v es):∃ base c,v=.slice base es.length c/\es.length<=maxLen:=by
 rcases h with⟨rfl,rfl⟩|⟨g,c,cur,rfl,_,_,h1,h2,_⟩
 ·exact⟨none,0,rfl,by simp[maxLen]⟩
 ·exact⟨_,c,rfl,by omega⟩
theorem cP.get {w:World}{L tG:Nat}{v:Value}{es:List ou}(h:cP w L tG v es){i:Nat}{e:ou}(hi:es[i]?=some e):∃ g c,v=.slice (some ⟨g,0,none⟩) es.length c/\i<es.length/\au w g (0+i*2) [.int .u32 (e.k.toNat:Int),e.v]:=by
 rcases h with⟨_,rfl⟩|⟨g,c,cur,rfl,_,hg,_,_,_,IP⟩
 ·simp at hi
 ·obtain⟨h1,h2⟩:=IP i e hi
  refine⟨g,c,rfl,(List.getElem?_eq_some_iff.1 hi).1,fun j x hj=>?_⟩
  have Ia:∀ o,w.cell? ⟨g,o,none⟩=cur[o]?:=fun o=>by simp[World.cell?,hg]
  rw[Ia]
  match j,hj with
  | 0,hj=>simp only[List.getElem?_cons_zero,Option.some.injEq]at hj;subst hj;simpa using h1
  | 1,hj=>simp only[List.getElem?_cons_succ,List.getElem?_cons_zero,Option.some.injEq]at hj;subst hj;simpa using h2
  | j+2,hj=>simp at hj
theorem cP.set {w:World}{L tG g c:Nat}{es:List ou}{cur:Array Value}{len:Nat}(Ib:es.length=len)(hL:L<=g)(hg:w.heap[g]?=some (.cells cur tG (0,0)))(hc:len<=c)(Kt:c<=maxLen)(Iz:cur.size=c*2)(IP:∀ i e,es[i]?=some e->cur[i*2]?=some (.int .u32 (e.k.toNat:Int))/\cur[i*2+1]?=some e.v){i:Nat}(hi:i<len)(e:ou) :
  cP (w.setRow g (aD cur (i*2) [.int .u32 (e.k.toNat:Int),e.v])) L tG (.slice (some ⟨g,0,none⟩) len c) (es.set i e):=by
 have JS:i*2+[Value.int .u32 (e.k.toNat:Int),e.v].length<=cur.size:=by simp only[List.length_cons,List.length_nil];omega
 refine .inr ⟨g,c,_,by rw[List.length_set,Ib],hL,setRow_heap _ _ _ _ _ _ hg,by rw[List.length_set,Ib];exact hc,Kt,by rw[da JS];exact Iz,fun j x hj=>?_⟩
 rw[List.getElem?_set]at hj
 split at hj
 ·rename_i Jy
  subst Jy
  split at hj
  ·obtain rfl:=Option.some.inj hj
   refine⟨?_,?_⟩
   ·have:=bA JS 0 (by simp)
    simpa using this
   ·have:=bA JS 1 (by simp)
    simpa using this
  ·cases hj
 ·rename_i Jy
  obtain⟨h1,h2⟩:=IP j x hj
  refine⟨?_,?_⟩
  ·rw[bV JS _ (by simp only[List.length_cons,List.length_nil];omega)];exact h1
  ·rw[bV JS _ (by simp only[List.length_cons,List.length_nil];omega)];exact h2
def iV:ou:=⟨0,aF,[]⟩
theorem nB {P:Program}{S:SN}(T:RefT P S){w:World}{L:Nat}{v x:Value}{es:List ou}(h:cP w L S.tG v es)(hx:Src P 2 S.tGs x 1 [.int .u32 0,aF] w)(hL:L<=w.heap.size)(hlim:es.length<=40000) :
  ∃ v' w',(Builtin.append_ #[S.tGs,S.tGs] S.tGs #[v,x]).run P w=.ok v' w'/\cP w' L S.tG v' (es++[iV])/\ac (fun k=>v.ownBlock=some k) w w'/\∀ k,v'.ownBlock=some k->v.ownBlock=some k \/ w.heap.size<=k:=by
 obtain⟨i,hi,hz,Ii,MD⟩:=T.iG
 have ht:=T.dGs
 have KY:Src P i.size S.tGs x 1 [.int .u32 0,aF] w:=by rw[Ii];exact hx
 have z0:∀ j (e:ou),[iV][j]?=some e->j=0/\e=iV:=fun j e h=>by
  match j,h with
  | 0,h=>simp only[List.getElem?_cons_zero,Option.some.injEq]at h;exact⟨rfl,h.symm⟩
  | j+1,h=>simp at h
 have grown:∀ (base:Option Addr) (old:Nat) (olds:List Value),olds.length=es.length*2->old<es.length+1->(Builtin.firstCells i.size es.length (.slice base es.length old)).run P w.drew=.ok olds.toArray w.drew ->
   (∀ j e,es[j]?=some e->olds[j*2]?=some (.int .u32 (e.k.toNat:Int))/\olds[j*2+1]?=some e.v) ->
   ∃ v' w',(Builtin.append_ #[S.tGs,S.tGs] S.tGs #[.slice base es.length old,x]).run P w=.ok v' w'/\cP w' L S.tG v' (es++[iV])/\ac (fun _=>False) w w'/\∀ k,v'.ownBlock=some k->w.heap.size<=k:=by
  intro base old olds PQ ho Jv IP
  have hr:=run_append_grow_src (P:=P) w S.tGs S.tGs S.tGs S.tG i (.agg #[.int .u32 0,aF]) ht hi hz base es.length old olds Jv x 1 [.int .u32 0,aF] KY ho (by omega) (growslice_fits ho (by rw[MD];omega))
  have Jh:=grownCap_ge w (es.length+1) old S.tG
  have Kt:grownCap w (es.length+1) old S.tG<=maxLen:=grownCap_le_maxLen w _ old S.tG (by simp only[maxLen];omega)
  refine⟨_,_,hr,.inr ⟨w.heap.size,_,_,by rw[List.length_append];rfl,hL,Go.heap_alloc_new w.drew _,by rw[List.length_append];exact Jh,Kt,?_,?_⟩,?_⟩
  ·simp only[Array.size_append,List.size_toArray,size_zeroCells,List.length_append,PQ,Value.cells]
   simp only[List.length_cons,List.length_nil]
   omega
  ·intro j e hj
   have JF:j<es.length+1:=by have:=(List.getElem?_eq_some_iff.1 hj).1;simpa using this
   have pre:∀ q,q<es.length*2+2->((olds++[.int .u32 0,aF]).toArray++Builtin.zeroCells (Value.agg #[.int .u32 0,aF]).cells (grownCap w (es.length+1) old S.tG-(es.length+1)))[q]?=(olds++[.int .u32 0,aF])[q]?:=fun q hq=>by
    rw[Array.getElem?_append_left (by simp only[List.size_toArray,List.length_append,PQ,List.length_cons,List.length_nil];omega)]
    simp
   rw[pre _ (by omega),pre _ (by omega)]
   by_cases Og:j<es.length
   ·rw[List.getElem?_append_left Og]at hj
    obtain⟨h1,h2⟩:=IP j e hj
    rw[List.getElem?_append_left (by omega),List.getElem?_append_left (by omega)]
    exact⟨h1,h2⟩
   ·rw[List.getElem?_append_right (by omega)]at hj
    obtain⟨Vx,rfl⟩:=z0 _ _ hj
    have Se:j=es.length:=by omega
    subst Se
    rw[List.getElem?_append_right (by omega),List.getElem?_append_right (by omega),PQ]
    simp[iV]
  ·exact⟨⟨rfl,rfl,rfl,by simp,fun k hk _=>bu (w:=w.drew) hk⟩,fun k hk=>by simp only[Value.ownBlock,Option.some.injEq]at hk;omega⟩
 rcases h with⟨rfl,rfl⟩|⟨g,c,cur,rfl,Qj,hg,Pg,Kt,Iz,IP⟩
 ·obtain⟨v',w',a1,a2,a3,a4⟩:=grown none 0 [] rfl (by simp) (by simp[Builtin.firstCells]) (fun j e h=>by simp at h)
  exact⟨v',w',a1,a2,a3.mono fun _ _ h=>h.elim,fun k hk=>.inr (a4 k hk)⟩
 ·have KQ:cur.toList.length=c*2:=by simpa using Iz
  by_cases IZ:es.length+1<=c
  ·have IN:=run_storeCells_at P g (es.length*2) S.tG [.int .u32 0,aF] 0 cur w hg (by simp only[List.length_cons,List.length_nil];omega) hx.one
   simp only[Nat.add_zero]at IN
   have hr:(Builtin.append_ #[S.tGs,S.tGs] S.tGs #[.slice (some ⟨g,0,none⟩) es.length c,x]).run P w=.ok (.slice (some ⟨g,0,none⟩) (es.length+1) c) (w.setRow g (aD cur (es.length*2) [.int .u32 0,aF])):=by
    have hxc:(Builtin.firstCells 2 1 x).run P w=.ok [Value.int .u32 0,aF].toArray w:=hx.cells
    rcases hx.kind with⟨e',hk⟩|hk<;>simp[Builtin.append_,run_underlying ht,sizeOf,typeInfo,hi,Ii,hx.len,IZ,hxc,Addr.add_lit,IN,aD]
   have JS:es.length*2+[Value.int .u32 0,aF].length<=cur.size:=by simp only[List.length_cons,List.length_nil];omega
   refine⟨_,_,hr,.inr ⟨g,c,_,by rw[List.length_append];rfl,Qj,setRow_heap _ _ _ _ _ _ hg,by rw[List.length_append];exact IZ,Kt,by rw[da JS];exact Iz,fun j e hj=>?_⟩,ac.setRow _ _ _ _ rfl,fun k hk=>.inl hk⟩
   by_cases Og:j<es.length
   ·rw[List.getElem?_append_left Og]at hj
    obtain⟨h1,h2⟩:=IP j e hj
    rw[bV JS _ (.inl (by omega)),bV JS _ (.inl (by omega))]
    exact⟨h1,h2⟩
   ·rw[List.getElem?_append_right (by omega)]at hj
    obtain⟨Vx,rfl⟩:=z0 _ _ hj
    have Se:j=es.length:=by omega
    subst Se
    have a1:=bA JS 0 (by simp)
    have a2:=bA JS 1 (by simp)
    exact⟨by simpa[iV]using a1,by simpa[iV]using a2⟩
  ·have key:∃ v' w',(Builtin.append_ #[S.tGs,S.tGs] S.tGs #[.slice (some ⟨g,0,none⟩) es.length c,x]).run P w=.ok v' w'/\cP w' L S.tG v' (es++[iV])/\ac (fun _=>False) w w'/\∀ k,v'.ownBlock=some k->w.heap.size<=k:=by
    refine grown (some ⟨g,0,none⟩) c (cur.toList.take (es.length*2)) (by rw[List.length_take,KQ];omega) (by omega) ?_ (fun j e hj=>?_)
    ·have hl:=run_loadCells_list (P:=P) w.drew ⟨g,0,none⟩ (cur.toList.take (es.length*2)) (fun j u hj=>by
      rw[List.getElem?_take]at hj
      split at hj
      ·rw[Addr.add_lit]
       have I0:w.drew.heap[g]?=some (.cells cur S.tG (0,0)):=hg
       simp[World.cell?,I0,<- hj]
      ·cases hj)
     have NA:(cur.toList.take (es.length*2)).length=es.length*2:=by rw[List.length_take,KQ];omega
     rw[NA]at hl
     simp[Builtin.firstCells,Ii,hl]
    ·have JF:=(List.getElem?_eq_some_iff.1 hj).1
     obtain⟨h1,h2⟩:=IP j e hj
     rw[List.getElem?_take,if_pos (by omega),List.getElem?_take,if_pos (by omega)]
     exact⟨by simpa using h1,by simpa using h2⟩
   obtain⟨v',w',a1,a2,a3,a4⟩:=key
   exact⟨v',w',a1,a2,a3.mono fun _ _ h=>h.elim,fun k hk=>.inr (a4 k hk)⟩
theorem yD (k:Nat)(v:Bs):∀ (l:List (Nat × Bs)) (i:Nat),i<=l.length->(∀ j p,j<i->l[j]?=some p->p.1<k)->(∀ p,l[i]?=some p->k<=p.1) ->
  cu k v l=if(∃ p,l[i]?=some p/\p.1=k)then l else l.take i++(k,v)::l.drop i
 | [],i,hi,_,_=>by
  obtain rfl:i=0:=by simpa using hi
  simp[cu]
 | (j,u)::r,0,_,_,Jh=>by
  have h1:=Jh (j,u) rfl
  simp only[cu]
  by_cases hk:k<j
  ·rw[if_pos hk,if_neg (fun⟨p,hp,he⟩=>by simp at hp;subst hp;simp only at he;omega)]
   simp
  ·have PZ:k=j:=by simp only at h1;omega
   rw[if_neg hk,if_pos PZ,if_pos ⟨(j,u),rfl,PZ.symm⟩]
 | (j,u)::r,i+1,hi,Id,Jh=>by
  have h0:j<k:=Id 0 (j,u) (by omega) rfl
  have ih:=yD k v r i (by simpa using hi) (fun q p hq hp=>Id (q+1) p (by omega) (by simpa using hp)) (fun p hp=>Jh p (by simpa using hp))
  simp only[cu]
  rw[if_neg (by omega),if_neg (by omega),ih]
  simp only[List.getElem?_cons_succ]
  split<;>simp
section
variable {P:Program} {ops:Array Oper} {C:World->Prop} {Q:Act->Prop} {r:List Oper} {n:Nat} {a:Act} {l:List (Nat × Value)}
theorem nv (h:Q a):wpQuiet P ops C Q [] a:=h
theorem pA {o:Oper}(h:St n a l){d:Nat}{v:Value}(JN:o.dst=some d)(hw:Region.wanted o (yielded ops a.tmps)=true)(Im:∀ w,C w->(execOp a.eval o).run P w=.ok (.value v) w)(hd:d<n)(c:∀ a',St n a' ((d,v)::l)->wpQuiet P ops C Q r a'):wpQuiet P ops C Q (o::r) a:=by
 show if _ then _ else _
 rw[if_pos hw]
 refine⟨v,fun w hC=>?_,?_⟩
 ·unfold Oper.quietAt
  rw[Im w hC]
  exact⟨rfl,rfl⟩
 ·rw[JN]
  exact c _ (h.put v hd)
theorem ii {op:Op}(h:St n a l){d:Nat}{v:Value}(Im:∀ w,C w->(execOp a.eval (mk (some d) op)).run P w=.ok (.value v) w)(hd:d<n)(c:∀ a',St n a' ((d,v)::l)->wpQuiet P ops C Q r a'):wpQuiet P ops C Q (mk (some d) op::r) a:=
 pA h rfl (by simp[Region.wanted,mk]) Im hd c
theorem eq {op:Op}(h:St n a l){d j jd:Nat}{b:Bool}{v:Value}{o:Oper}(ho:ops[j]?=some o)(JN:o.dst=some jd)(hj:l.lookup jd=some (.bool b))(JQ:jd<n)(Im:∀ w,C w->(execOp a.eval (mk (some d) op)).run P w=.ok (.value v) w)(hd:d<n)(c:∀ a',St n a' ((d,v)::l)->wpQuiet P ops C Q r a'):wpQuiet P ops C Q (gd d op j b::r) a:=
 pA h rfl (by have hy:=dt ho JN (by rw[h.size];exact JQ) (h.get _ _ hj);simp[Region.wanted,gd,hy]) (fun w hC=>by
  have:execOp a.eval (gd d op j b)=execOp a.eval (mk (some d) op):=by simp only[execOp,mk,gd]
  rw[this];exact Im w hC) hd c
theorem cm {o2:Oper}(h:St n a l){d j jd:Nat}{b b':Bool}{o:Oper}(IG:o2.dst=some d)(Ij:o2.guard=some (j,b))(ho:ops[j]?=some o)(JN:o.dst=some jd)(hj:l.lookup jd=some (.bool b'))(JQ:jd<n)(hb:b'≠b)(hd:d<n)(c:∀ a',St n a' ((d,undef)::l)->wpQuiet P ops C Q r a'):wpQuiet P ops C Q (o2::r) a:=by
 have hy:=dt ho JN (by rw[h.size];exact JQ) (h.get _ _ hj)
 show if _ then _ else _
 rw[if_neg (by simp[Region.wanted,Ij,hy,hb]),IG]
 exact c _ (h.put _ hd)
theorem ij {o2:Oper}(h:St n a l){d j jd:Nat}{b:Bool}{o:Oper}(IG:o2.dst=some d)(Ij:o2.guard=some (j,b))(ho:ops[j]?=some o)(JN:o.dst=some jd)(hj:l.lookup jd=some undef)(JQ:jd<n)(hd:d<n)(c:∀ a',St n a' ((d,undef)::l)->wpQuiet P ops C Q r a'):wpQuiet P ops C Q (o2::r) a:=by
 have hy:yielded ops a.tmps j=none:=by
  have:a.tmps[jd]?=some undef:=by
   have h1:=h.get _ _ hj
   rw[<- h1]
   simp[Act.get,h.size,JQ]
  simp[yielded,ho,JN,this,undef]
 show if _ then _ else _
 rw[if_neg (by simp[Region.wanted,Ij,hy]),IG]
 exact c _ (h.put _ hd)
variable {w:World}
theorem eN (h:St n a l){d:Nat}{x:Operand}{v:Value}(hx:Hd l x v):(execOp a.eval (mk (some d) (.move x))).run P w=.ok (.value v) w:=by simp[execOp,mk,hx n a h]
theorem nF (h:St n a l){d:Nat}{x:Operand}{TT k F B O off sz:Nat}{agg:Bool}(hx:Hd l x (pt B O))(hF:bw P TT k F off agg sz):(execOp a.eval (mk (some d) (.fieldAddr TT x k))).run P w=.ok (.value (pt B (O+off))) w:=by
 obtain⟨fs,f,h1,h2,h3,h4⟩:=hF.fld
 obtain⟨q,rfl⟩:∃ q,sz=q+1:=⟨sz-1,by have:=hF.pos;omega⟩
 have e:=hx n a h
 simp only[pt]at e
 have hn:∀ w,(sizeOf f.type).run P w=.ok (q+1) w:=fun w=>by rw[h4];exact hF.var.size w
 simp[execOp,mk,e,Instr.fieldAt,run_underlying h1,h2,h3,fieldPlace,hn,Instr.sureAddr,Addr.add_lit,pt]
theorem j7 (h:St n a l){d:Nat}{x:Operand}{F B O sz:Nat}{v:Value}(hx:Hd l x (pt B O))(hF:bc P F false sz)(hv:w.cell? ⟨B,O,none⟩=some v):(execOp a.eval (mk (some d) (.load F x))).run P w=.ok (.value v) w:=by
 have e:=hx n a h
 simp only[pt]at e
 simp[execOp,mk,e,Instr.loadAt,Instr.sureAddr,loadVar,hF.agg w,load,hv,Sem.run]
theorem nJ (h:St n a l){d T:Nat}{x y:Operand}{op:BinOp}{k:IntKind}{p q:Int}(hc:rq op=true)(hx:Hd l x (.int k p))(hy:Hd l y (.int k q)):(execOp a.eval (mk (some d) (.binOp op T x y 0))).run P w=.ok (.value (.bool (aW op p q))) w:=by
 have he:(eqGuard op T x y (.int k p) (.int k q)).run P w=.ok () w:=by
  unfold eqGuard
  cases op<;>simp
 simp only[execOp,mk,hx n a h,hy n a h,Sem.run_bind,he,Result.andThen_ok,ik (mQ hc p q),Sem.run_pure]
theorem iY (h:St n a l){d:Nat}{x y z:Operand}{b':Bool}{u v:Value}(hx:Hd l x (.bool b'))(hy:Hd l y u)(hz:Hd l z v):(execOp a.eval (mk (some d) (.pick x y z))).run P w=.ok (.value (if b' then u else v)) w:=by
 cases b'<;>simp[execOp,mk,hx n a h,hy n a h,hz n a h,asBool]
theorem qP (h:St n a l){d:Nat}{x y:Operand}{F E b o m c i sz:Nat}{k:IntKind}(hx:Hd l x (.slice (some ⟨b,o,none⟩) m c))(hy:Hd l y (.int k (i:Nat)))(hi:i<m)(hF:P.underlying F=some (.slice E))(hs:∀ w,(sizeOf E).run P w=.ok sz w):(execOp a.eval (mk (some d) (.indexAddr F x y))).run P w=.ok (.value (pt b (o+i*sz))) w:=by
 simp[execOp,mk,hx n a h,hy n a h,Instr.indexAt,asIntOf,run_underlying hF,hs,hi,Addr.add_lit,pt]
theorem xL (h : St n a l) {d F E ty m c : Nat} {x : Operand} {g : Option (Nat × Bool)} {base : Option Addr} (hx : Hd l x (.slice base m c)) (hF : P.underlying F = some (.slice E)) : (execOp a.eval ⟨some d, .call ⟨.builtin .len, #[x], #[F]⟩, ty, "", #[], g⟩).run P w = .ok (.value (.int .i64 (m : Int))) w := by
 simp[execOp,resolve,invoke,builtin,hx n a h,Builtin.len_,run_underlying hF,goInt]
end
end
section
open Go
set_option maxRecDepth 4000
def ir (e:ou):Nat × Bs:=(e.k.toNat,e.b)
theorem vg {es:List ou}{p:Nat}{junk e:ou}(hp:es[p]?=some e):(es.take (p+1)++junk::es.drop (p+1)).set (p+1) e=es.take p++e::es.drop p:=by
 have Id:=(List.getElem?_eq_some_iff.1 hp).1
 have e1:es.take (p+1)=es.take p++[e]:=by rw[List.take_add_one,hp];rfl
 have e2:es.drop p=e::es.drop (p+1):=by rw[List.drop_eq_getElem_cons Id,(List.getElem?_eq_some_iff.1 hp).2]
 have hl:(es.take (p+1)).length=p+1:=by rw[List.length_take];omega
 rw[List.set_append_right _ _ (by omega),hl,Nat.sub_self,List.set_cons_zero,e1,e2]
 simp
theorem y5 {es:List ou}{p:Nat}{junk e:ou}(hp:p<=es.length):(es.take p++junk::es.drop p).set p e=es.take p++e::es.drop p:=by
 have hl:(es.take p).length=p:=by rw[List.length_take];omega
 rw[List.set_append_right _ _ (by omega),hl,Nat.sub_self,List.set_cons_zero]
section
variable {P:Program} {S:SN}
theorem zI (T:RefT P S){W:World}{L:Nat}{v sv:Value}{es:List ou}{k:UInt32}{g8:Nat}{x5 x17 x18 x19:Value}(ho:cP W L S.tG v es)(h8:au W g8 0 [.int .u32 (k.toNat:Int),sv])(Ib:es.length<=40000){a:Act}{w:World}(Pj:ac (fun _=>False) W w)
  (h:St 85 a [(5,x5),(6,v),(8,pt g8 0),(9,.int .i64 0),(17,x17),(18,x18),(19,x19)]) {R:Exit->Act->World->Prop}
  (hR:∀ (a':Act) (w':World) (j:Nat),St 85 a' [(5,x5),(6,v),(8,pt g8 0),(9,.int .i64 (j:Int)),(17,x17),(18,x18),(19,x19)]->ac (fun _=>False) W w'->j<=es.length->(∀ j' e,j'<j->es[j']?=some e->e.k.toNat<k.toNat)->(∀ e,es[j]?=some e->k.toNat<=e.k.toNat)->R .normal a' w') :
  aK P (.block 2 (.loop (.seq (.seq (.region 2 (xV S).toArray true) (.cond (tm 36) .skip (.exit 2))) (.block 3 (rg (Bc S)))))) R a w:=by
 obtain⟨bx,cx,hv,_⟩:=ho.form
 refine ej (fun m a' w'=>∃ j:Nat,j+m=es.length/\ac (fun _=>False) W w'/\(∀ j' e,j'<j->es[j']?=some e->e.k.toNat<k.toNat)/\St 85 a' [(5,x5),(6,v),(8,pt g8 0),(9,.int .i64 (j:Int)),(17,x17),(18,x18),(19,x19)]) es.length
  ⟨es.length,Nat.le_refl _,0,by omega,Pj,fun j' e hj=>by omega,h⟩ ?_
 rintro m a w hm ⟨j,hjm,hk,Id,h⟩
 have test:∀ (bb:Bool) (KK:Exit->Act->World->Prop),bb=decide (∃ e,es[j]?=some e/\e.k.toNat<k.toNat)->(∀ a' w',St 85 a' [(36,.bool bb),(5,x5),(6,v),(8,pt g8 0),(9,.int .i64 (j:Int)),(17,x17),(18,x18),(19,x19)]->ac (fun _=>False) W w'->KK .normal a' w')->aK P (.region 2 (xV S).toArray true) KK a w:=by
  intro bb KK JT OM
  refine .drq (fun w'=>ac (fun _=>False) W w') (hk.trans (ac.drew _ _)) ?_
  refine ii h (fun w' hC=>eN h (.t rfl)) (by omega) fun a h=>ii h (fun w' hC=>eN h (.t rfl)) (by omega) fun a h=>?_
  have h':=h
  rw[hv]at h'
  refine pA h rfl (by simp[Region.wanted,bi]) (fun w' hC=>xL h' (.t rfl) T.dGs) (by omega) fun a h=>?_
  refine ii h (fun w' hC=>nJ h rfl (.t rfl) (.t rfl)) (by omega) fun a h=>ii h (fun w' hC=>eN h (.t rfl)) (by omega) fun a h=>?_
  cases hb:aW .lss (j:Int) (es.length:Int) with
  | false=>
   rw[hb]at h
   have Jh:es.length<=j:=by simp[aW]at hb;omega
   refine cm h rfl rfl rfl rfl rfl (by omega) (by simp) (by omega) fun a h=>cm h rfl rfl rfl rfl rfl (by omega) (by simp) (by omega) fun a h=>cm h rfl rfl rfl rfl rfl (by omega) (by simp) (by omega) fun a h=>cm h rfl rfl rfl rfl rfl (by omega) (by simp) (by omega) fun a h=>?_
   refine cm h rfl rfl rfl rfl rfl (by omega) (by simp) (by omega) fun a h=>cm h rfl rfl rfl rfl rfl (by omega) (by simp) (by omega) fun a h=>cm h rfl rfl rfl rfl rfl (by omega) (by simp) (by omega) fun a h=>cm h rfl rfl rfl rfl rfl (by omega) (by simp) (by omega) fun a h=>?_
   refine ii h (fun w' hC=>iY h (.t rfl) (.t rfl) .c) (by omega) fun a h=>nv fun w' hC=>OM _ _ ?_ hC
   have:bb=false:=by
    rw[JT]
    refine decide_eq_false fun⟨e,he,_⟩=>?_
    rw[List.getElem?_eq_none Jh]at he
    cases he
   subst this
   exact h.pick ⟨rfl,rfl,rfl,rfl,rfl,rfl,rfl,rfl,trivial⟩
  | true=>
   rw[hb]at h
   have JF:j<es.length:=by simp[aW]at hb;omega
   obtain⟨e,he⟩:∃ e,es[j]?=some e:=⟨_,List.getElem?_eq_getElem JF⟩
   obtain⟨g,c,LI,_,Ia⟩:=ho.get he
   refine eq h rfl rfl rfl (by omega) (fun w' hC=>eN h (.t rfl)) (by omega) fun a h=>eq h rfl rfl rfl (by omega) (fun w' hC=>eN h (.t rfl)) (by omega) fun a h=>?_
   have h':=h
   rw[LI]at h'
   refine eq h rfl rfl rfl (by omega) (fun w' hC=>qP h' (sz:=2) (.t rfl) (.t rfl) JF T.dGs T.vG.size) (by omega) fun a h=>eq h rfl rfl rfl (by omega) (fun w' hC=>nF h (.t rfl) T.g0) (by omega) fun a h=>?_
   refine eq h rfl rfl rfl (by omega) (fun w' hC=>j7 h (.t rfl) T.g0.var ((au.kn hC Ia).at (j:=0) rfl)) (by omega) fun a h=>eq h rfl rfl rfl (by omega) (fun w' hC=>nF h (.t rfl) T.g0) (by omega) fun a h=>?_
   refine eq h rfl rfl rfl (by omega) (fun w' hC=>j7 h (.t rfl) T.g0.var ((au.kn hC h8).at (j:=0) rfl)) (by omega) fun a h=>eq h rfl rfl rfl (by omega) (fun w' hC=>nJ h rfl (.t rfl) (.t rfl)) (by omega) fun a h=>?_
   refine ii h (fun w' hC=>iY h (.t rfl) (.t rfl) .c) (by omega) fun a h=>nv fun w' hC=>OM _ _ ?_ hC
   have:bb=aW .lss (e.k.toNat:Int) (k.toNat:Int):=by
    rw[JT]
    simp only[aW]
    refine decide_eq_decide.2 ⟨fun⟨e',JO,hl⟩=>?_,fun hl=>⟨e,he,by omega⟩⟩
    rw[he]at JO
    obtain rfl:=Option.some.inj JO
    omega
   rw[this]
   have h:=h.pick (m:=[(36,if true=true then Value.bool (aW .lss (e.k.toNat:Int) (k.toNat:Int))else Value.bool false),(5,x5),(6,v),(8,pt g8 0),(9,.int .i64 (j:Int)),(17,x17),(18,x18),(19,x19)]) ⟨rfl,rfl,rfl,rfl,rfl,rfl,rfl,rfl,trivial⟩
   simpa using h
 by_cases KO:∃ e,es[j]?=some e/\e.k.toNat<k.toNat
 ·refine aw (aw (test true _ (by simp[KO]) fun a w h hk=>?_))
  refine bn h rfl (fun _=>?_) (fun hb=>by cases hb)
  obtain⟨e,he,Iq⟩:=KO
  have JF:=(List.getElem?_eq_some_iff.1 he).1
  refine .skip (.block (aP (ai h (.t rfl) (by omega) fun a h=>dn h (.t rfl) .i (by simp) (dZ w) (by omega) fun a h=>?_)))
  have hw:IntKind.i64.wrap ((j:Int)+1)=((j+1:Nat):Int):=by simp[IntKind.wrap,IntKind.bits,IntKind.signed];omega
  rw[hw]at h
  refine ae h (.t rfl) (by omega) fun a h=>wpList_nil ?_
  refine⟨m-1,by omega,by omega,j+1,by omega,hk,fun j' e' OD JO=>?_,h.pick ⟨rfl,rfl,rfl,rfl,rfl,rfl,rfl,trivial⟩⟩
  rcases Nat.lt_or_ge j' j with hc|hc
  ·exact Id j' e' hc JO
  ·obtain rfl:j'=j:=by omega
   rw[he]at JO
   obtain rfl:=Option.some.inj JO
   exact Iq
 ·refine aw (aw (test false _ (by simp[KO]) fun a w h hk=>?_))
  refine bn h rfl (fun hb=>by cases hb) (fun _=>?_)
  refine .exit (hR a w j (h.pick ⟨rfl,rfl,rfl,rfl,rfl,rfl,rfl,trivial⟩) hk (by omega) Id fun e he=>?_)
  rcases Nat.lt_or_ge e.k.toNat k.toNat with hc|hc
  ·exact absurd ⟨e,he,hc⟩ KO
  ·exact hc
end
end
section
open Go
set_option maxRecDepth 4000
section
variable {P:Program} {S:SN}
theorem zH (T:RefT P S){W:World}{L:Nat}{v sv:Value}{es:List ou}{k:UInt32}{g8 j least:Nat}{x17 x18 x19:Value}(ho:cP W L S.tG v es)(h8:au W g8 0 [.int .u32 (k.toNat:Int),sv]){a:Act}{w:World}(hk:ac (fun _=>False) W w)
  (h:St 85 a [(5,.int .u32 (least:Int)),(6,v),(8,pt g8 0),(9,.int .i64 (j:Int)),(17,x17),(18,x18),(19,x19)]) (_hj:j<=es.length) {KK:Exit->Act->World->Prop} (bb:Bool) (JT:bb=decide (k.toNat<least \/ ∃ e,es[j]?=some e/\e.k.toNat=k.toNat))
  (OM:∀ a' w',St 85 a' [(58,.bool bb),(5,.int .u32 (least:Int)),(6,v),(8,pt g8 0),(9,.int .i64 (j:Int)),(17,x17),(18,x18),(19,x19)]->ac (fun _=>False) W w'->KK .normal a' w'):aK P (.region 2 (xU S).toArray true) KK a w:=by
 obtain⟨bx,cx,hv,_⟩:=ho.form
 refine .drq (fun w'=>ac (fun _=>False) W w') (hk.trans (ac.drew _ _)) ?_
 refine ii h (fun w' hC=>nF h (.t rfl) T.g0) (by omega) fun a h=>ii h (fun w' hC=>j7 h (.t rfl) T.g0.var ((au.kn hC h8).at (j:=0) rfl)) (by omega) fun a h=>?_
 refine ii h (fun w' hC=>eN h (.t rfl)) (by omega) fun a h=>ii h (fun w' hC=>nJ h rfl (.t rfl) (.t rfl)) (by omega) fun a h=>ii h (fun w' hC=>eN h (.t rfl)) (by omega) fun a h=>?_
 cases hb:aW .lss (k.toNat:Int) (least:Int) with
 | true=>
  rw[hb]at h
  have Id:k.toNat<least:=by simp[aW]at hb;omega
  refine cm h rfl rfl rfl rfl rfl (by omega) (by simp) (by omega) fun a h=>cm h rfl rfl rfl rfl rfl (by omega) (by simp) (by omega) fun a h=>cm h rfl rfl rfl rfl rfl (by omega) (by simp) (by omega) fun a h=>cm h rfl rfl rfl rfl rfl (by omega) (by simp) (by omega) fun a h=>cm h rfl rfl rfl rfl rfl (by omega) (by simp) (by omega) fun a h=>?_
  refine ij h rfl rfl rfl rfl rfl (by omega) (by omega) fun a h=>ij h rfl rfl rfl rfl rfl (by omega) (by omega) fun a h=>ij h rfl rfl rfl rfl rfl (by omega) (by omega) fun a h=>ij h rfl rfl rfl rfl rfl (by omega) (by omega) fun a h=>?_
  refine ij h rfl rfl rfl rfl rfl (by omega) (by omega) fun a h=>ij h rfl rfl rfl rfl rfl (by omega) (by omega) fun a h=>ij h rfl rfl rfl rfl rfl (by omega) (by omega) fun a h=>ij h rfl rfl rfl rfl rfl (by omega) (by omega) fun a h=>?_
  refine cm h rfl rfl rfl rfl rfl (by omega) (by simp) (by omega) fun a h=>ii h (fun w' hC=>iY h (.t rfl) .c (.t rfl)) (by omega) fun a h=>nv fun w' hC=>OM _ _ ?_ hC
  have:bb=true:=by rw[JT];exact decide_eq_true (.inl Id)
  subst this
  exact h.pick ⟨rfl,rfl,rfl,rfl,rfl,rfl,rfl,rfl,trivial⟩
 | false=>
  rw[hb]at h
  have Jj:¬ k.toNat<least:=by simp[aW]at hb;omega
  refine eq h rfl rfl rfl (by omega) (fun w' hC=>eN h (.t rfl)) (by omega) fun a h=>eq h rfl rfl rfl (by omega) (fun w' hC=>eN h (.t rfl)) (by omega) fun a h=>?_
  have h':=h
  rw[hv]at h'
  refine pA h rfl (by have hy:=dt (a:=a) (ops:=(xU S).toArray) (j:=4) (d:=43) (b:=false) rfl rfl (by rw[h.size];omega) (h.get 43 _ rfl);simp[Region.wanted,hy]) (fun w' hC=>xL h' (.t rfl) T.dGs) (by omega) fun a h=>?_
  refine eq h rfl rfl rfl (by omega) (fun w' hC=>nJ h rfl (.t rfl) (.t rfl)) (by omega) fun a h=>eq h rfl rfl rfl (by omega) (fun w' hC=>eN h (.t rfl)) (by omega) fun a h=>?_
  cases IK:aW .lss (j:Int) (es.length:Int) with
  | false=>
   rw[IK]at h
   have Jh:es.length<=j:=by simp[aW]at IK;omega
   refine cm h rfl rfl rfl rfl rfl (by omega) (by simp) (by omega) fun a h=>cm h rfl rfl rfl rfl rfl (by omega) (by simp) (by omega) fun a h=>cm h rfl rfl rfl rfl rfl (by omega) (by simp) (by omega) fun a h=>cm h rfl rfl rfl rfl rfl (by omega) (by simp) (by omega) fun a h=>?_
   refine cm h rfl rfl rfl rfl rfl (by omega) (by simp) (by omega) fun a h=>cm h rfl rfl rfl rfl rfl (by omega) (by simp) (by omega) fun a h=>cm h rfl rfl rfl rfl rfl (by omega) (by simp) (by omega) fun a h=>cm h rfl rfl rfl rfl rfl (by omega) (by simp) (by omega) fun a h=>?_
   refine eq h rfl rfl rfl (by omega) (fun w' hC=>iY h (.t rfl) (.t rfl) .c) (by omega) fun a h=>ii h (fun w' hC=>iY h (.t rfl) .c (.t rfl)) (by omega) fun a h=>nv fun w' hC=>OM _ _ ?_ hC
   have:bb=false:=by
    rw[JT]
    refine decide_eq_false fun hh=>?_
    rcases hh with hh|⟨e,he,_⟩
    ·exact Jj hh
    ·rw[List.getElem?_eq_none Jh]at he
     cases he
   subst this
   exact h.pick ⟨rfl,rfl,rfl,rfl,rfl,rfl,rfl,rfl,trivial⟩
  | true=>
   rw[IK]at h
   have JF:j<es.length:=by simp[aW]at IK;omega
   obtain⟨e,he⟩:∃ e,es[j]?=some e:=⟨_,List.getElem?_eq_getElem JF⟩
   obtain⟨g,c,LI,_,Ia⟩:=ho.get he
   refine eq h rfl rfl rfl (by omega) (fun w' hC=>eN h (.t rfl)) (by omega) fun a h=>eq h rfl rfl rfl (by omega) (fun w' hC=>eN h (.t rfl)) (by omega) fun a h=>?_
   have h':=h
   rw[LI]at h'
   refine eq h rfl rfl rfl (by omega) (fun w' hC=>qP h' (sz:=2) (.t rfl) (.t rfl) JF T.dGs T.vG.size) (by omega) fun a h=>eq h rfl rfl rfl (by omega) (fun w' hC=>nF h (.t rfl) T.g0) (by omega) fun a h=>?_
   refine eq h rfl rfl rfl (by omega) (fun w' hC=>j7 h (.t rfl) T.g0.var ((au.kn hC Ia).at (j:=0) rfl)) (by omega) fun a h=>eq h rfl rfl rfl (by omega) (fun w' hC=>nF h (.t rfl) T.g0) (by omega) fun a h=>?_
   refine eq h rfl rfl rfl (by omega) (fun w' hC=>j7 h (.t rfl) T.g0.var ((au.kn hC h8).at (j:=0) rfl)) (by omega) fun a h=>eq h rfl rfl rfl (by omega) (fun w' hC=>nJ h rfl (.t rfl) (.t rfl)) (by omega) fun a h=>?_
   refine eq h rfl rfl rfl (by omega) (fun w' hC=>iY h (.t rfl) (.t rfl) .c) (by omega) fun a h=>ii h (fun w' hC=>iY h (.t rfl) .c (.t rfl)) (by omega) fun a h=>nv fun w' hC=>OM _ _ ?_ hC
   have:bb=aW .eql (e.k.toNat:Int) (k.toNat:Int):=by
    rw[JT]
    simp only[aW]
    refine decide_eq_decide.2 ⟨fun hh=>?_,fun hl=>.inr ⟨e,he,by omega⟩⟩
    rcases hh with hh|⟨e',JO,hl⟩
    ·exact absurd hh Jj
    ·rw[he]at JO
     obtain rfl:=Option.some.inj JO
     omega
   rw[this]
   have h:=h.pick (m:=[(58,if false=true then Value.bool true else if true=true then Value.bool (aW .eql (e.k.toNat:Int) (k.toNat:Int))else Value.bool false),(5,.int .u32 (least:Int)),(6,v),(8,pt g8 0),(9,.int .i64 (j:Int)),(17,x17),(18,x18),(19,x19)]) ⟨rfl,rfl,rfl,rfl,rfl,rfl,rfl,rfl,trivial⟩
   simpa using h
theorem uZ (T:RefT P S){W:World}{L:Nat}{v sv:Value}{es:List ou}{k:UInt32}{b:Bs}{g8 j:Nat}{x5 x17 x18 x19:Value}(ho:cP W L S.tG v es)(h8:au W g8 0 [.int .u32 (k.toNat:Int),sv])(I5:sv.oneCell'=true)(Np:∀ i,v.ownBlock=some i->i≠g8)(Sv:g8<W.heap.size)(hL:L<=W.heap.size)(Ib:es.length<=39999)(N7:∀ e∈es,e.v.oneCell'=true){a:Act}
  (h:St 85 a [(5,x5),(6,v),(8,pt g8 0),(9,.int .i64 (j:Int)),(17,x17),(18,x18),(19,x19)]) (hj:j<=es.length) {R:Exit->Act->World->Prop}
  (hR:∀ a' w' v',St 85 a' [(5,x5),(6,v'),(17,x17),(18,x18),(19,x19)]->cP w' L S.tG v' (es.take j++⟨k,sv,b⟩::es.drop j)->ac (fun i=>L<=i) W w'->R .normal a' w') :
  aK P (.seq (rg (yc S)) (.seq (.seq (rg (yb S)) (.block 4 (.loop (.seq (.seq (rg (ya S)) (.cond (tm 68) .skip (.exit 4))) (.seq (.block 5 (rg (xZ S))) (rg (xY S))))))) (rg (xX S)))) R a W:=by
 refine aw (aP (ai h (.t rfl) (by omega) fun a h=>iE h (qs:=#[]) (fun _ _ _=>by simp) (T.bG W) (by omega) fun a h=>?_))
 refine aB (v:=.slice (some ⟨W.heap.size,0,none⟩) 1 1) (w':=W.alloc (.cells #[.int .u32 0,aF] S.tG (0,0))) ?_ ?_
 ·have e:=Hd.t (l:=_) (i:=60) rfl _ a h
  simp[execOp,mk,e,T.bSG]
 have h:=h.put (d:=61) (.slice (some ⟨W.heap.size,0,none⟩) 1 1) (by omega)
 have QR:ac (fun _=>False) W (W.alloc (.cells #[.int .u32 0,aF] S.tG (0,0))):=ac.alloc _ _ _
 have QN:=aE W (.cells #[.int .u32 0,aF] S.tG (0,0))
 generalize W.alloc (.cells #[.int .u32 0,aF] S.tG (0,0))=w1 at QR QN ⊢
 have J3:Src P 2 S.tGs (.slice (some ⟨W.heap.size,0,none⟩) 1 1) 1 [.int .u32 0,aF] w1:=Src.ofSlice w1 T.dGs ⟨W.heap.size,0,none⟩ 1 1 _ rfl (fun q u hq=>by
  rw[Addr.add_lit]
  match q,hq with
  | 0,hq=>simp at hq;subst hq;simp[World.cell?,QN]
  | 1,hq=>simp at hq;subst hq;simp[World.cell?,QN]
  | q+2,hq=>simp at hq) (fun u hu=>by
   simp only[List.mem_cons,List.not_mem_nil,or_false]at hu
   rcases hu with rfl|rfl<;>rfl)
 have Xg:cP w1 L S.tG v es:=ho.keep QR fun _ _ h=>h
 obtain⟨v2,w2,Im,PR,Ic,R4⟩:=nB T Xg J3 (Nat.le_trans hL QR.size) (by omega)
 refine qG h (v:=v2) (w':=w2) (by simp[execOp,bi,resolve,invoke,builtin,Hd.t (l:=_) (i:=59) rfl _ _ h,Hd.t (l:=_) (i:=61) rfl _ _ h,Im]) (by omega) fun a h=>ae h (.t rfl) (by omega) fun a h=>wpList_nil ?_
 have h82:au w2 g8 0 [.int .u32 (k.toNat:Int),sv]:=fun q x hq=>Ic.cell (fun hX=>Np _ hX rfl) (QR.cell id (h8 q x hq))
 have Vt:ac (fun i=>L<=i) W w2:=(QR.mono fun _ _ h=>h.elim).trans (Ic.mono fun i _ hi=>(Xg.own hi).1)
 have Ve:∀ i,v2.ownBlock=some i->i≠g8:=fun i hi=>by
  rcases R4 i hi with h1|h1
  ·exact Np i h1
  ·have:=QR.size;omega
 obtain⟨bx,cx,KU,_⟩:=PR.form
 rw[List.length_append]at KU
 have hv2':v2=.slice bx (es.length+1) cx:=KU
 refine aw (aw (aP (ai h (.t rfl) (by omega) fun a h=>?_)))
 have h':=h
 rw[hv2']at h'
 refine cM h' (.t rfl) T.dGs (by omega) fun a h=>dn h (.t rfl) .i (by simp) (j6 w2) (by omega) fun a h=>?_
 have Rf:IntKind.i64.wrap (((es.length+1:Nat):Int)-1)=(es.length:Int):=by simp[IntKind.wrap,IntKind.bits,IntKind.signed];omega
 rw[Rf]at h
 rw[<- hv2']at h
 refine ae h (.t rfl) (by omega) fun a h=>wpList_nil ?_
 refine ej (fun m a' w'=>∃ (p:Nat) (junk:ou),p=j+m/\p<=es.length/\cP w' L S.tG v2 (es.take p++junk::es.drop p)/\au w' g8 0 [.int .u32 (k.toNat:Int),sv]/\ac (fun i=>L<=i) W w' /\
   St 85 a' [(5,x5),(6,v2),(8,pt g8 0),(9,.int .i64 (j:Int)),(10,.int .i64 (p:Int)),(17,x17),(18,x18),(19,x19)]) es.length
  ⟨es.length-j,by omega,es.length,iV,by omega,Nat.le_refl _,by rw[List.take_length,List.drop_length];exact PR,h82,Vt,h.pick ⟨rfl,rfl,rfl,rfl,rfl,rfl,rfl,rfl,trivial⟩⟩ ?_
 rintro m a w hm ⟨p,junk,R1,JP,O6,XP,Pj,h⟩
 have MF:(es.take p++junk::es.drop p).length=es.length+1:=by simp[List.length_take];omega
 refine aw (aw (aP (ai h (.t rfl) (by omega) fun a h=>ai h (.t rfl) (by omega) fun a h=>br h rfl (.t rfl) (.t rfl) (by omega) fun a h=>wpList_nil ?_)))
 refine bn h rfl (fun hb=>?_) (fun hb=>?_)
 ·have Nn:j<p:=by simp[aW]at hb;omega
  obtain⟨q,rfl⟩:∃ q,p=q+1:=⟨p-1,by omega⟩
  obtain⟨e,he⟩:∃ e,es[q]?=some e:=⟨_,List.getElem?_eq_getElem (by omega)⟩
  have Jh:(es.take (q+1)++junk::es.drop (q+1))[q]?=some e:=by
   rw[List.getElem?_append_left (by rw[List.length_take];omega),List.getElem?_take,if_pos (by omega),he]
  have R6:=O6
  obtain⟨g,c,LI,_,Ia⟩:=O6.get Jh
  rcases O6 with⟨hn,_⟩|⟨g',c',cur,Lz,Tf,Su,M8,Kt,Iz,IP⟩
  ·rw[hn]at LI;cases LI
  obtain⟨rfl,rfl⟩:g'=g/\c'=c:=by
   rw[LI]at Lz
   simp only[Value.slice.injEq,Option.some.injEq,Addr.mk.injEq,and_true,true_and]at Lz
   exact⟨Lz.1.symm,Lz.2.symm⟩
  rw[MF]at LI M8
  refine .skip (aw (.block (aP ?_)))
  refine ai h (.t rfl) (by omega) fun a h=>ai h (.t rfl) (by omega) fun a h=>ai h (.t rfl) (by omega) fun a h=>ai h (.t rfl) (by omega) fun a h=>dn h (.t rfl) .i (by simp) (j6 w) (by omega) fun a h=>?_
  have K8:IntKind.i64.wrap (((q+1:Nat):Int)-1)=(q:Int):=by simp[IntKind.wrap,IntKind.bits,IntKind.signed];omega
  rw[K8]at h
  have R8:e.v.oneCell'=true:=N7 e (List.mem_of_getElem? he)
  have h':=h
  rw[LI]at h'
  refine eD h' (sz:=2) (.t rfl) (.t rfl) (by omega) T.dGs T.vG.size (by omega) fun a h=>cn h (cs:=[.int .u32 (e.k.toNat:Int),e.v]) (.t rfl) T.vG Ia (by omega) fun a h=>eD h (sz:=2) (.t rfl) (.t rfl) (by omega) T.dGs T.vG.size (by omega) fun a h=>?_
  have Qs:(q+1)*2+2<=cur.size:=by omega
  refine bm (g:=g') (o:=0+(q+1)*2) (cur:=cur) (t:=S.tG) (vs:=[.int .u32 (e.k.toNat:Int),e.v]) (h.get 78 _ rfl) (h.get 77 _ rfl) (by simp[Value.cells]) (T.vG.size w) Su (by simp only[List.length_cons,List.length_nil];omega) (fun u hu=>by
   simp only[List.mem_cons,List.not_mem_nil,or_false]at hu
   rcases hu with rfl|rfl
   ·rfl
   ·exact R8) (wpList_nil ?_)
  have Jr:=cP.set (w:=w) (L:=L) (tG:=S.tG) MF Tf Su M8 Kt Iz IP (i:=q+1) (by omega) e
  rw[vg he]at Jr
  rw[Nat.zero_add]
  have Jb:ac (fun i=>i=g') w (w.setRow g' (aD cur ((q+1)*2) [.int .u32 (e.k.toNat:Int),e.v])):=ac.setRow _ _ _ _ rfl
  have hg8':g'≠g8:=Ve g' (by rw[LI];rfl)
  generalize w.setRow g' (aD cur ((q+1)*2) [.int .u32 (e.k.toNat:Int),e.v])=w' at Jr Jb ⊢
  have h:=h.pick (m:=[(5,x5),(6,.slice (some ⟨g',0,none⟩) (es.length+1) c'),(8,pt g8 0),(9,.int .i64 (j:Int)),(10,.int .i64 ((q+1:Nat):Int)),(17,x17),(18,x18),(19,x19)]) ⟨rfl,rfl,rfl,rfl,rfl,rfl,rfl,rfl,trivial⟩
  rw[<- LI]at h Jr
  refine aP (ai h (.t rfl) (by omega) fun a h=>dn h (.t rfl) .i (by simp) (j6 w') (by omega) fun a h=>?_)
  rw[K8]at h
  refine ae h (.t rfl) (by omega) fun a h=>wpList_nil ?_
  refine⟨m-1,by omega,by omega,q,e,by omega,by omega,Jr,fun y x hy=>Jb.cell (fun hX=>hg8' hX.symm) (XP y x hy),Pj.trans (Jb.mono fun i _ hi=>hi ▸ Tf),h.pick ⟨rfl,rfl,rfl,rfl,rfl,rfl,rfl,rfl,trivial⟩⟩
 ·have QL:p=j:=by simp[aW]at hb;omega
  subst QL
  refine .exit ?_
  show aK P _ _ a w
  have R6:=O6
  have Vx:(es.take p++junk::es.drop p)[p]?=some junk:=by
   have hl:(es.take p).length=p:=by rw[List.length_take];omega
   rw[List.getElem?_append_right (by omega),hl,Nat.sub_self];rfl
  obtain⟨g,c,LI,_,_⟩:=R6.get Vx
  rcases O6 with⟨hn,_⟩|⟨g',c',cur,Lz,Tf,Su,M8,Kt,Iz,IP⟩
  ·rw[hn]at LI;cases LI
  obtain⟨rfl,rfl⟩:g'=g/\c'=c:=by
   rw[LI]at Lz
   simp only[Value.slice.injEq,Option.some.injEq,Addr.mk.injEq,and_true,true_and]at Lz
   exact⟨Lz.1.symm,Lz.2.symm⟩
  rw[MF]at LI M8
  refine aP (ai h (.t rfl) (by omega) fun a h=>ai h (.t rfl) (by omega) fun a h=>cn h (cs:=[.int .u32 (k.toNat:Int),sv]) (.t rfl) T.vG XP (by omega) fun a h=>?_)
  have h':=h
  rw[LI]at h'
  refine eD h' (sz:=2) (.t rfl) (.t rfl) (by omega) T.dGs T.vG.size (by omega) fun a h=>?_
  refine bm (g:=g') (o:=0+p*2) (cur:=cur) (t:=S.tG) (vs:=[.int .u32 (k.toNat:Int),sv]) (h.get 82 _ rfl) (h.get 81 _ rfl) (by simp[Value.cells]) (T.vG.size w) Su (by simp only[List.length_cons,List.length_nil];omega) (fun u hu=>by
   simp only[List.mem_cons,List.not_mem_nil,or_false]at hu
   rcases hu with rfl|rfl
   ·rfl
   ·exact I5) (wpList_nil ?_)
  have Jr:=cP.set (w:=w) (L:=L) (tG:=S.tG) MF Tf Su M8 Kt Iz IP (i:=p) (by omega) ⟨k,sv,b⟩
  rw[y5 JP]at Jr
  rw[Nat.zero_add]
  have Jb:ac (fun i=>i=g') w (w.setRow g' (aD cur (p*2) [.int .u32 (k.toNat:Int),sv])):=ac.setRow _ _ _ _ rfl
  have h:=h.pick (m:=[(5,x5),(6,.slice (some ⟨g',0,none⟩) (es.length+1) c'),(17,x17),(18,x18),(19,x19)]) ⟨rfl,rfl,rfl,rfl,rfl,trivial⟩
  rw[<- LI]at h Jr
  exact hR _ _ v2 h Jr (Pj.trans (Jb.mono fun i _ hi=>hi ▸ Tf))
theorem vd (T:RefT P S)(Wz:Ent P S.fKnown)(hK:∀ (sf:SFs) (fv:Value) (w:World),e8 sf=true->fu w sf fv->Calls P S.fKnown [fv].toArray w fun e w'=>e=.returned (.int .u32 (aQ sf:Int))/\ac (fun _=>False) w w')(hfn:FnIs P S.fUnk 85 [4] (csUn S))
  (sf:SFs) (fv uv:Value) (raw:List (UInt32 × Bs)) (W0 W:World) (Oz:e8 sf=true) (IQ:fu W sf fv) (PJ:dh W 2 (gk W0) uv raw):Calls P S.fUnk [fv,uv].toArray W fun e w'=>∃ v es,e=.returned v/\cP w' W.heap.size S.tG v es/\(∀ e∈es,kD W0 e.v e.b)/\es.map ir=gU (aQ sf) (raw.map fun p=>(p.1.toNat,p.2))/\ac (fun _=>False) W w':=by
 have TD:=oQ sf Oz
 refine bJ T.mixed hfn (by simp) _ (by simp) fun a h=>?_
 unfold csUn
 refine aw (aP (ae h .c (by omega) fun a h=>wpList_nil ?_))
 refine aw (aP (ai h (.t rfl) (by omega) fun a h=>?_))
 refine aT h Wz (vs:=[fv]) (fun n a h=>by simp only[List.map_cons,List.map_nil];rw[Hd.t (l:=_) (i:=11) rfl n a h]) (hK sf fv W Oz IQ) (by omega) fun e w1 hR1=>?_
 obtain⟨rfl,Ir⟩:=hR1
 refine⟨_,rfl,fun a h=>ae h (.t rfl) (by omega) fun a h=>wpList_nil ?_⟩
 refine aw (aP (ae h .c (by omega) fun a h=>wpList_nil ?_))
 have LK:cz W w1:=cz.of Ir
 obtain⟨base,c,WR,JG,Jq,hbc,Iy⟩:∃ base c,uv=.slice base raw.length c/\raw.length<=c/\raw.length<=maxLen/\(base=none->c=0)/\(raw=[] \/ ∃ b o,base=some ⟨b,o,none⟩/\∀ i x,raw[i]?=some x->∃ cs,cs.length=2/\au W b (o+i*2) cs/\gk W0 cs x):=by
  rcases PJ with⟨_,rfl,rfl⟩|⟨b,o,c,rfl,h1,h2,h3⟩
  ·exact⟨_,0,rfl,Nat.le_refl _,by simp[maxLen],fun _=>rfl,.inl rfl⟩
  ·exact⟨_,c,rfl,h1,by omega,(fun h=>by cases h),.inr ⟨b,o,rfl,h3⟩⟩
 subst WR
 refine aw (aw (aP (ai h (.t rfl) (by omega) fun a h=>ai h (.t rfl) (by omega) fun a h=>cM h (.t rfl) T.dGs (by omega) fun a h=>sd h (.t rfl) .i (by omega) fun a h=>?_)))
 rw[nP]at h
 refine kq h (.t rfl) (.t rfl) (by omega) hbc T.dGs T.vG.size (by omega) fun a h=>cM h (.t rfl) T.dGs (by omega) fun a h=>ai h .i (by omega) fun a h=>wpList_nil ?_
 have hN:min raw.length aH<=32767:=by simp only[aH];omega
 have Mo:(raw.take aH).length=min raw.length aH:=by rw[List.length_take,Nat.min_comm]
 refine ej (fun m a' w'=>∃ (i:Nat) (v:Value) (es:List ou),i+m=min raw.length aH/\cP w' W.heap.size S.tG v es/\cz W w'/\(∀ e∈es,kD W0 e.v e.b)/\es.length<=i/\j4 (aQ sf) (((raw.take aH).drop i).map fun p=>(p.1.toNat,p.2)) (es.map ir)=gU (aQ sf) (raw.map fun p=>(p.1.toNat,p.2)) /\
   St 85 a' [(5,.int .u32 (aQ sf:Int)),(6,v),(17,.slice base (min raw.length aH) c),(18,.int .i64 ((min raw.length aH:Nat):Int)),(19,.int .i64 (i:Int))]) (min raw.length aH)
  ⟨min raw.length aH,Nat.le_refl _,0,aF,[],by omega,.inl ⟨rfl,rfl⟩,LK,(fun e he=>by cases he),by simp,by simp[gU,List.map_take],h.pick ⟨rfl,rfl,rfl,rfl,rfl,trivial⟩⟩ ?_
 rintro m a w hm ⟨i,v,es,NE,ho,hk,KP,Md,I9,h⟩
 have N7:∀ e∈es,e.v.oneCell'=true:=fun e he=>by obtain⟨_,_,h1,_⟩:=(KP e he).form;rw[h1];rfl
 refine aw (aP (br h rfl (.t rfl) (.t rfl) (by omega) fun a h=>wpList_nil ?_))
 refine gn h rfl (fun hb=>?_) (fun hb=>?_)
 ·have Id:i<min raw.length aH:=by simp[aW]at hb;omega
  obtain⟨x,hx⟩:∃ x,raw[i]?=some x:=⟨_,List.getElem?_eq_getElem (by omega)⟩
  obtain⟨b,o,SQ,Ju⟩:=Iy.resolve_left (fun hh=>by rw[hh]at hx;simp at hx)
  obtain⟨cs,_,Iz,sv,rfl,Lh⟩:=Ju i x hx
  have I5:sv.oneCell'=true:=by obtain⟨_,_,h1,_⟩:=Lh.form;rw[h1];rfl
  have hxt:(raw.take aH)[i]?=some x:=by rw[List.getElem?_take,if_pos (by omega)];exact hx
  have Me:(raw.take aH).drop i=x::(raw.take aH).drop (i+1):=by
   rw[List.drop_eq_getElem_cons (by rw[Mo];omega),(List.getElem?_eq_some_iff.1 hxt).2]
  rw[Me]at I9
  simp only[List.map_cons,j4]at I9
  have step:∀ (a:Act) (w':World) (v':Value) (es':List ou) (KK:Exit->Act->World->Prop),St 85 a [(5,.int .u32 (aQ sf:Int)),(6,v'),(17,.slice base (min raw.length aH) c),(18,.int .i64 ((min raw.length aH:Nat):Int)),(19,.int .i64 (i:Int))]->cP w' W.heap.size S.tG v' es'->cz W w'->(∀ e∈es',kD W0 e.v e.b)->es'.length<=i+1 ->
    es'.map ir=(if x.1.toNat<aQ sf then es.map ir else cu x.1.toNat x.2 (es.map ir)) ->
    aK P (rg (xW S)) (Exit.then (fun a' w'=>∃ m',m'<=min raw.length aH/\m'<m/\∃ (i:Nat) (v:Value) (es:List ou),i+m'=min raw.length aH/\cP w' W.heap.size S.tG v es/\cz W w'/\(∀ e∈es,kD W0 e.v e.b)/\es.length<=i/\j4 (aQ sf) (((raw.take aH).drop i).map fun p=>(p.1.toNat,p.2)) (es.map ir)=gU (aQ sf) (raw.map fun p=>(p.1.toNat,p.2)) /\
     St 85 a' [(5,.int .u32 (aQ sf:Int)),(6,v),(17,.slice base (min raw.length aH) c),(18,.int .i64 ((min raw.length aH:Nat):Int)),(19,.int .i64 (i:Int))]) KK) a w':=by
   intro a w' v' es' KK h QM J1 VM VP KH
   refine aP (dn h (.t rfl) .i (by simp) (dZ w') (by omega) fun a h=>?_)
   have hw:IntKind.i64.wrap ((i:Int)+1)=((i+1:Nat):Int):=by simp[IntKind.wrap,IntKind.bits,IntKind.signed];omega
   rw[hw]at h
   refine ai h (.t rfl) (by omega) fun a h=>wpList_nil ?_
   exact⟨m-1,by omega,by omega,i+1,v',es',by omega,QM,J1,VM,VP,by rw[KH];exact I9,h.pick ⟨rfl,rfl,rfl,rfl,rfl,trivial⟩⟩
  refine .skip (aw (.block (aw (aP ?_))))
  have h0:=h
  rw[SQ]at h0
  refine eD h0 (sz:=2) (.t rfl) (.t rfl) Id T.dGs T.vG.size (by omega) fun a h=>cn h (cs:=[.int .u32 (x.1.toNat:Int),sv]) (.t rfl) T.vG (hk.cells Iz) (by omega) fun a h=>?_
  have R7:∀ u∈[Value.int .u32 (x.1.toNat:Int),sv],u.oneCell'=true:=by
   intro u hu
   simp only[List.mem_cons,List.not_mem_nil,or_false]at hu
   rcases hu with rfl|rfl
   ·rfl
   ·exact I5
  refine lM h (cs:=[.int .u32 (x.1.toNat:Int),sv]) T.zG rfl (fun _=>.t rfl) T.vG.size R7 (by omega) fun w2 a Ic Jq h=>wpList_nil ?_
  have PR:cP w2 W.heap.size S.tG v es:=ho.keep Ic fun _ _ h=>h
  have Oj:=hk.kn Ic
  have Sv:w.heap.size<w2.heap.size:=bP (Jq 0 _ rfl)
  have Np:∀ q,v.ownBlock=some q->q≠w.heap.size:=fun q hq=>by have:=(ho.own hq).2;omega
  refine aw (aP (ae h .i (by omega) fun a h=>wpList_nil ?_))
  have h:=h.pick (m:=[(5,.int .u32 (aQ sf:Int)),(6,v),(8,pt w.heap.size 0),(9,.int .i64 0),(17,.slice (some ⟨b,o,none⟩) (min raw.length aH) c),(18,.int .i64 ((min raw.length aH:Nat):Int)),(19,.int .i64 (i:Int))]) ⟨rfl,rfl,rfl,rfl,rfl,rfl,rfl,trivial⟩
  rw[<- SQ]at h
  refine aw (zI T PR Jq (by omega) (ac.refl _ _) h fun a w3 j h Il hj hlt3 Ss=>?_)
  have Xf:cP w3 W.heap.size S.tG v es:=PR.keep Il fun _ _ h=>h
  have MZ:=au.kn Il Jq
  have Nq:=Oj.kn Il
  have Sh:=yD x.1.toNat x.2 (es.map ir) j (by simpa using hj) (fun j' p OD hp=>by
   rw[List.getElem?_map,Option.map_eq_some_iff]at hp
   obtain⟨e,he,rfl⟩:=hp
   exact hlt3 j' e OD he) (fun p hp=>by
   rw[List.getElem?_map,Option.map_eq_some_iff]at hp
   obtain⟨e,he,rfl⟩:=hp
   exact Ss e he)
  refine aw (aw (zH T Xf MZ (ac.refl _ _) h hj (decide (x.1.toNat<aQ sf \/ ∃ e,es[j]?=some e/\e.k.toNat=x.1.toNat)) rfl fun a w4 h It=>?_))
  have Xe:cP w4 W.heap.size S.tG v es:=Xf.keep It fun _ _ h=>h
  have Pq:=au.kn It MZ
  have LJ:=Nq.kn It
  refine bn h rfl (fun JT=>?_) (fun JT=>?_)
  ·have IF:=of_decide_eq_true JT
   refine .exit ?_
   refine step a w4 v es _ (h.pick ⟨rfl,rfl,rfl,rfl,rfl,trivial⟩) Xe LJ KP (by omega) ?_
   by_cases hl:x.1.toNat<aQ sf
   ·rw[if_pos hl]
   ·rw[if_neg hl]
    obtain⟨e,he,hek⟩:=IF.resolve_left hl
    rw[Sh,if_pos ⟨ir e,by rw[List.getElem?_map,he];rfl,hek⟩]
  ·have Jt:=of_decide_eq_false JT
   refine .skip ?_
   have Kb:W.heap.size<=w4.heap.size:=LJ.size
   refine uZ T (b:=x.2) Xe Pq I5 Np (Nat.lt_of_lt_of_le Sv (Nat.le_trans Il.size It.size)) Kb (by omega) N7 (h.pick ⟨rfl,rfl,rfl,rfl,rfl,rfl,rfl,trivial⟩) hj fun a w5 v5 h ho5 Jc=>?_
   refine step a w5 v5 _ _ (h.pick ⟨rfl,rfl,rfl,rfl,rfl,trivial⟩) ho5 (LJ.up Jc fun q hq=>hq) (fun e he=>?_) (by simp[List.length_take];omega) ?_
   ·rcases List.mem_append.1 he with he|he
    ·exact KP e (List.mem_of_mem_take he)
    ·rcases List.mem_cons.1 he with rfl|he
     ·exact Lh
     ·exact KP e (List.mem_of_mem_drop he)
   ·have Kl:¬ ∃ p,(es.map ir)[j]?=some p/\p.1=x.1.toNat:=by
     rintro⟨p,hp,hpe⟩
     rw[List.getElem?_map,Option.map_eq_some_iff]at hp
     obtain⟨e,he,rfl⟩:=hp
     exact Jt (.inr ⟨e,he,hpe⟩)
    rw[if_neg (fun hl=>Jt (.inl hl)),Sh,if_neg Kl,List.map_append,List.map_cons,List.map_take,List.map_drop]
    rfl
 ·have Jh:¬ i<min raw.length aH:=by simp[aW]at hb;omega
  rw[List.drop_of_length_le (by rw[Mo];omega)]at I9
  simp only[List.map_nil,j4]at I9
  refine .exit ?_
  show aK P _ _ a w
  refine aw (aP (ai h (.t rfl) (by omega) fun a h=>ae h (.t rfl) (by omega) fun a h=>wpList_nil (.ret ?_)))
  exact dN (RR:=fun e w'=>∃ v es,e=.returned v/\cP w' W.heap.size S.tG v es/\(∀ e∈es,kD W0 e.v e.b)/\es.map ir=gU (aQ sf) (raw.map fun p=>(p.1.toNat,p.2))/\ac (fun _=>False) W w') h rfl ⟨v,es,rfl,ho,KP,I9,hk.keeps⟩
theorem xg (T:RefT P S)(Wz:Ent P S.fKnown)(hK:∀ (sf:SFs) (fv:Value) (w:World),e8 sf=true->fu w sf fv->Calls P S.fKnown [fv].toArray w fun e w'=>e=.returned (.int .u32 (aQ sf:Int))/\ac (fun _=>False) w w')(hfn:FnIs P S.fUnk 85 [4] (csUn S))
  (sf:SFs) (fv uv:Value) (raw:List (UInt32 × Bs)) (W:World) (Oz:e8 sf=true) (IQ:fu W sf fv) (PJ:dh W 2 (gk W) uv raw):Calls P S.fUnk [fv,uv].toArray W fun e w'=>∃ v raw',e=.returned v/\dh w' 2 (gk w') v raw'/\(raw'.map fun p=>(p.1.toNat,p.2))=gU (aQ sf) (raw.map fun p=>(p.1.toNat,p.2))/\ac (fun _=>False) W w':=by
 refine(vd T Wz hK hfn sf fv uv raw W W Oz IQ PJ).mono fun e w ⟨v,es,he,ho,KP,I9,hk⟩=>?_
 refine⟨v,es.map (fun e=>(e.k,e.b)),he,?_,?_,hk⟩
 ·rcases ho with⟨rfl,rfl⟩|⟨g,cc,cur,rfl,_,hg,M8,Kt,_,IP⟩
  ·exact .inl ⟨none,rfl,rfl⟩
  ·refine .inr ⟨g,0,cc,by rw[List.length_map],by rw[List.length_map];exact M8,Kt,fun q p hq=>?_⟩
   rw[List.getElem?_map,Option.map_eq_some_iff]at hq
   obtain⟨e,he,rfl⟩:=hq
   obtain⟨h1,h2⟩:=IP q e he
   have Ia:∀ y,w.cell? ⟨g,y,none⟩=cur[y]?:=fun y=>by simp[World.cell?,hg]
   refine⟨[.int .u32 (e.k.toNat:Int),e.v],rfl,fun y z hy=>?_,e.v,rfl,(KP e (List.mem_of_getElem? he)).far (cz.of hk)⟩
   rw[Ia]
   match y,hy with
   | 0,hy=>simp only[List.getElem?_cons_zero,Option.some.injEq]at hy;subst hy;simpa using h1
   | 1,hy=>simp only[List.getElem?_cons_succ,List.getElem?_cons_zero,Option.some.injEq]at hy;subst hy;simpa using h2
   | y+2,hy=>simp at hy
 ·rw[<- I9,List.map_map]
  rfl
end
end
section
open Go
set_option maxRecDepth 4000
abbrev BI:=List (Nat × Int) × Option Nat
def uC (S:SN)(p:List (Nat × Int))(x:Option Operand):Op:=.build S.tF ((p.map fun q=>(q.1,ki .i64 q.2))++(match x with|some y=>[(7,y)]|none=>[])).toArray
def jK (S:SN):List BI->Nat->List Oper
 | [],_=>[]
 | (p,none)::r,n=>mk (some n) (uC S p none)::jK S r (n+1)
 | (p,some f)::r,n=>cl (some n) f []::mk (some (n+1)) (uC S p (some (tm n)))::jK S r (n+2)
def ef:List BI->Nat->Nat
 | [],n=>n
 | (_,none)::r,n=>ef r (n+1)
 | (_,some _)::r,n=>ef r (n+2)
def eP:List BI->Nat->List Nat
 | [],_=>[]
 | (_,none)::r,n=>n::eP r (n+1)
 | (_,some _)::r,n=>(n+1)::eP r (n+2)
def cSub (S:SN)(its:List BI):Code:=.seq (rg [mk (some 0) (.assign (.const aF))]) (.seq (rg (jK S its 1++[mk (some (ef its 1)) (.buildSlice S.tFs its.length (Bo 0 (eP its 1)).toArray),mk (some 0) (.assign (tm (ef its 1)))])) .ret)
def cMsgB (S:SN)(flex:Int)(its:List BI):Code:=.seq (rg [mk (some 0) (.alloc S.tMs)]) (.seq (rg (jK S its 1++[mk (some (ef its 1)) (.buildSlice S.tFs its.length (Bo 0 (eP its 1)).toArray),mk (some (ef its 1+1)) (.build S.tMs #[(1,ki .i64 flex),(0,tm (ef its 1))]),mk none (.store S.tMs (tm 0) (tm (ef its 1+1)))])) .ret)
def BuildC (P:Program)(f:Nat)(sf:SFs):Prop:=∀ w,Calls P f ([]:List Value).toArray w fun e w'=>∃ v,e=.returned v/\fu w' sf v/\ac (fun _=>False) w w'
def pj (p:List (Nat × Int))(x:Option Value):Array (Nat × Value):=((p.map fun q=>(q.1,Value.int .i64 q.2))++(match x with|some y=>[(7,y)]|none=>[])).toArray
def EF (P:Program)(S:SN):List BI->SFs->Prop
 | [],.nil=>True
 | (p,none)::r,.cons kind lo hi nul tag df of sub sr=>(∀ w,(Instr.build S.tF (pj p none)).run P w=.ok (.agg (aV kind lo hi nul tag df of aF).toArray) w)/\sub=.nil/\EF P S r sr
 | (p,some f)::r,.cons kind lo hi nul tag df of sub sr=>(∀ (base:Option Addr) (n c:Nat) (w:World),(Instr.build S.tF (pj p (some (.slice base n c)))).run P w=.ok (.agg (aV kind lo hi nul tag df of (.slice base n c)).toArray) w)/\(Ent P f/\BuildC P f sub)/\EF P S r sr
 | _,_=>False
def iM:SFs->(Nat->Value)->Nat->List Value
 | .nil,_,_=>[]
 | .cons kind lo hi nul tag df of _ r,sv,i=>.agg (aV kind lo hi nul tag df of (sv i)).toArray::iM r sv (i+1)
def rz:SFs->(Nat->Value)->Nat->List Value
 | .nil,_,_=>[]
 | .cons kind lo hi nul tag df of _ r,sv,i=>aV kind lo hi nul tag df of (sv i)++rz r sv (i+1)
def dc (w:World):SFs->(Nat->Value)->Nat->Prop
 | .nil,_,_=>True
 | .cons _ _ _ _ _ _ _ sub r,sv,i=>fu w sub (sv i)/\dc w r sv (i+1)
theorem fX:∀ (sf:SFs) (sv sv':Nat->Value) (i:Nat),(∀ j,i<=j->sv j=sv' j)->iM sf sv i=iM sf sv' i
 | .nil,_,_,_,_=>rfl
 | .cons ..,sv,sv',i,h=>by
  simp only[iM]
  rw[h i (Nat.le_refl _),fX _ sv sv' (i+1) fun j hj=>h j (by omega)]
theorem dc.congr {w:World}:∀ (sf:SFs) (sv sv':Nat->Value) (i:Nat),(∀ j,i<=j->sv j=sv' j)->dc w sf sv i->dc w sf sv' i
 | .nil,_,_,_,_,_=>trivial
 | .cons ..,sv,sv',i,h,hh=>⟨by rw[<- h i (Nat.le_refl _)];exact hh.1,dc.congr _ sv sv' (i+1) (fun j hj=>h j (by omega)) hh.2⟩
theorem fu.kn {w w':World}(h:ac (fun _=>False) w w'){sf:SFs}{v:Value}(hs:fu w sf v):fu w' sf v:=hs.far (cz.of h)
theorem dc.kn {w w':World}(h:ac (fun _=>False) w w'):∀ (sf:SFs) (sv:Nat->Value) (i:Nat),dc w sf sv i->dc w' sf sv i
 | .nil,_,_,_=>trivial
 | .cons ..,sv,i,hh=>⟨hh.1.kn h,dc.kn h _ sv (i+1) hh.2⟩
theorem u6 {w:World}{g:Nat}:∀ (sf:SFs) (sv:Nat->Value) (i o:Nat),dc w sf sv i->au w g o (rz sf sv i)->jh w sf g o
 | .nil,_,_,_,_,_=>trivial
 | .cons kind lo hi nul tag df of sub r,sv,i,o,hh,hc=>by
  refine⟨⟨sv i,fun j x hj=>hc j x ?_,hh.1⟩,u6 r sv (i+1) (o+8) hh.2 fun j x hj=>?_⟩
  ·simp only[rz]
   rw[List.getElem?_append_left (by have:=(List.getElem?_eq_some_iff.1 hj).1;exact this)]
   exact hj
  ·have:=hc (8+j) x (by
    simp only[rz]
    rw[List.getElem?_append_right (by simp[aV])]
    simpa[aV]using hj)
   rwa [show o+8+j=o+(8+j) by omega]
section
variable {P:Program} {S:SN}
theorem ol {ops:Array Oper}{Q:Exit->Act->World->Prop}{rest:List Oper}{N:Nat}:∀ (its:List BI) (sf:SFs) (i n0:Nat) (a:Act) (l acc:List (Nat × Value)) (w:World),EF P S its sf->St N a l->(∀ p∈acc,l.lookup p.1=some p.2/\p.1<n0)->ef its n0<=N ->
  (∀ a' l' w' sv,St N a' l'->(∀ p∈acc++(eP its n0).zip (iM sf sv i),l'.lookup p.1=some p.2)->dc w' sf sv i->(iM sf sv i).length=its.length->ac (fun _=>False) w w'->wpList P ops Q rest a' w')->wpList P ops Q (jK S its n0++rest) a w
 | [],.nil,i,n0,a,l,acc,w,_,h,K6,_,hc=>hc a l w (fun _=>aF) h (fun p hp=>(K6 p (by simpa[eP]using hp)).1) trivial rfl (ac.refl _ _)
 | [],.cons ..,_,_,_,_,_,_,hb,_,_,_,_=>hb.elim
 | (p,none)::r,.nil,_,_,_,_,_,_,hb,_,_,_,_=>hb.elim
 | (p,some f)::r,.nil,_,_,_,_,_,_,hb,_,_,_,_=>hb.elim
 | (p,none)::r,.cons kind lo hi nul tag df of sub sr,i,n0,a,l,acc,w,hb,h,K6,hn,hc=>by
  obtain⟨IX,rfl,LL⟩:=hb
  have Jh:∀ (r:List BI) (n:Nat),n<=ef r n:=fun r=>by
   induction r with
   | nil=>intro n;exact Nat.le_refl n
   | cons x r ih=>
    intro n
    obtain⟨q,y⟩:=x
    cases y with
    | none=>exact Nat.le_trans (Nat.le_succ n) (ih (n+1))
    | some _=>exact Nat.le_trans (Nat.le_add_right n 2) (ih (n+2))
  have Kf:n0<N:=Nat.lt_of_lt_of_le (Nat.lt_succ_self n0) (Nat.le_trans (Jh r (n0+1)) hn)
  show wpList P ops Q (mk (some n0) (.build S.tF _)::(jK S r (n0+1)++rest)) a w
  refine iE h (qs:=pj p none) (fun n a _=>by simp[pj,ki,Act.eval]) (IX w) Kf fun a h=>?_
  refine ol r sr (i+1) (n0+1) a _ (acc++[(n0,.agg (aV kind lo hi nul tag df of aF).toArray)]) w LL h (fun q hq=>?_) hn fun a' l' w' sv h hl hf Ib hk=>?_
  ·rcases List.mem_append.1 hq with hq|hq
   ·obtain⟨h1,h2⟩:=K6 q hq
    refine⟨?_,by omega⟩
    simp only[List.lookup_cons]
    have:(q.1==n0)=false:=by simp;omega
    rw[this];exact h1
   ·obtain rfl:=List.mem_singleton.1 hq
    exact⟨by simp,by simp⟩
  ·have Qv:∀ j,i+1<=j->sv j=(fun j=>if j=i then aF else sv j) j:=fun j hj=>by simp only;rw[if_neg (by omega)]
   refine hc a' l' w' (fun j=>if j=i then aF else sv j) h (fun q hq=>hl q ?_) ⟨by simp only[if_true];exact .inl ⟨rfl,rfl⟩,dc.congr sr _ _ _ Qv hf⟩ (by simp only[iM,List.length_cons];rw[<- fX sr sv _ (i+1) Qv,Ib]) hk
   simp only[eP,iM,List.zip_cons_cons,if_true]at hq
   rw[<- fX sr sv _ (i+1) Qv]at hq
   simpa using hq
 | (p,some f)::r,.cons kind lo hi nul tag df of sub sr,i,n0,a,l,acc,w,hb,h,K6,hn,hc=>by
  obtain⟨IX,⟨hE,hB⟩,LL⟩:=hb
  have Jh:∀ (r:List BI) (n:Nat),n<=ef r n:=fun r=>by
   induction r with
   | nil=>intro n;exact Nat.le_refl n
   | cons x r ih=>
    intro n
    obtain⟨q,y⟩:=x
    cases y with
    | none=>exact Nat.le_trans (Nat.le_succ n) (ih (n+1))
    | some _=>exact Nat.le_trans (Nat.le_add_right n 2) (ih (n+2))
  have Kf:n0+1<N:=Nat.lt_of_lt_of_le (Nat.lt_succ_self _) (Nat.le_trans (Jh r (n0+2)) hn)
  show wpList P ops Q (cl (some n0) f []::mk (some (n0+1)) (.build S.tF _)::(jK S r (n0+2)++rest)) a w
  refine aT h hE (vs:=[]) (fun _ _ _=>rfl) (hB w) (by omega) fun e w1 hR=>?_
  obtain⟨v,rfl,hv,Ir⟩:=hR
  obtain⟨vb,vc,Rg,_⟩:=hv.form
  subst Rg
  refine⟨_,rfl,fun a h=>iE h (qs:=pj p (some (.slice vb sub.len vc))) (fun n a hs=>by
   have e:=Hd.t (l:=_) (i:=n0) (v:=.slice vb sub.len vc) (by simp) n a hs
   simp only[tm]at e
   simp[pj,ki,Act.eval,tm]at e ⊢
   exact e) (IX vb _ vc w1) Kf fun a h=>?_⟩
  refine ol r sr (i+1) (n0+2) a _ (acc++[(n0+1,.agg (aV kind lo hi nul tag df of (.slice vb sub.len vc)).toArray)]) w1 LL h (fun q hq=>?_) hn fun a' l' w' sv h hl hf Ib hk=>?_
  ·rcases List.mem_append.1 hq with hq|hq
   ·obtain⟨h1,h2⟩:=K6 q hq
    refine⟨?_,by omega⟩
    simp only[List.lookup_cons]
    have e1:(q.1==n0+1)=false:=by simp;omega
    have e2:(q.1==n0)=false:=by simp;omega
    rw[e1,e2];exact h1
   ·obtain rfl:=List.mem_singleton.1 hq
    exact⟨by simp,by simp⟩
  ·have Qv:∀ j,i+1<=j->sv j=(fun j=>if j=i then .slice vb sub.len vc else sv j) j:=fun j hj=>by simp only;rw[if_neg (by omega)]
   refine hc a' l' w' (fun j=>if j=i then .slice vb sub.len vc else sv j) h (fun q hq=>hl q ?_) ⟨by simp only[if_true];exact hv.kn hk,dc.congr sr _ _ _ Qv hf⟩ (by simp only[iM,List.length_cons];rw[<- fX sr sv _ (i+1) Qv,Ib]) (Ir.trans hk)
   simp only[eP,iM,List.zip_cons_cons,if_true]at hq
   rw[<- fX sr sv _ (i+1) Qv]at hq
   simpa using hq
theorem mu {a:Act}:∀ (ss:List Nat) (vs:List Value),ss.length=vs.length->(∀ p∈ss.zip vs,a.get p.1=p.2)->ss.map a.get=vs
 | [],[],_,_=>rfl
 | [],_::_,h,_=>by simp at h
 | _::_,[],h,_=>by simp at h
 | s::ss,v::vs,h,hh=>by
  have h1:=hh (s,v) (by simp)
  have h2:=mu ss vs (by simpa using h) fun p hp=>hh p (by simp only[List.zip_cons_cons];exact List.mem_cons_of_mem _ hp)
  simp only[List.map_cons,h2]
  rw[h1]
theorem k6:∀ (its:List BI) (n:Nat),(eP its n).length=its.length
 | [],_=>rfl
 | (_,none)::r,n=>by simp[eP,k6 r]
 | (_,some _)::r,n=>by simp[eP,k6 r]
def EA (P:Program)(S:SN)(n:Nat)(sf:SFs):Prop:=∀ (sv:Nat->Value) (w:World),(Instr.buildSlice S.tFs n (rK 0 (iM sf sv 0)).toArray).run P w=.ok (.slice (some ⟨w.heap.size,0,none⟩) n n) (w.alloc (.cells (rz sf sv 0).toArray S.tF (0,0)))
theorem ze {ops:Array Oper}{Q:Exit->Act->World->Prop}{rest:List Oper}{N:Nat}{its:List BI}{sf:SFs}{a:Act}{l:List (Nat × Value)}{w:World}(hb:EF P S its sf)(Iy:EA P S its.length sf)(Ib:its.length=sf.len)(Kd:sf.len<=maxLen)(h:St N a l)(hn:ef its 1<N)(_hz:l.lookup 0=l.lookup 0)
  (hc:∀ a' l' w' v,St N a' ((ef its 1,v)::l')->(l.lookup 0).all (fun _v0=>true)=true->(∀ x,l.lookup 0=some x->l'.lookup 0=some x)->fu w' sf v->ac (fun _=>False) w w'->wpList P ops Q rest a' w'):wpList P ops Q (jK S its 1++(mk (some (ef its 1)) (.buildSlice S.tFs its.length (Bo 0 (eP its 1)).toArray)::rest)) a w:=by
 have h0:∀ p∈(match l.lookup 0 with|some x=>[(0,x)]|none=>[]),l.lookup p.1=some p.2/\p.1<1:=by
  cases hx:l.lookup 0 with
  | none=>intro p hp;cases hp
  | some x=>intro p hp;obtain rfl:=List.mem_singleton.1 hp;exact⟨hx,by simp⟩
 refine ol its sf 0 1 a l _ w hb h h0 (by omega) fun a l' w1 sv h hl hf P3 hk=>?_
 have J2:(eP its 1).map a.get=iM sf sv 0:=mu _ _ (by rw[k6,P3]) fun p hp=>h.get _ _ (hl p (List.mem_append_right _ hp))
 have Xt:=lu a (eP its 1) 0
 rw[J2]at Xt
 refine aB (v:=.slice (some ⟨w1.heap.size,0,none⟩) its.length its.length) (w':=w1.alloc (.cells (rz sf sv 0).toArray S.tF (0,0))) ?_ ?_
 ·have e:(Bo 0 (eP its 1)).toArray.map (fun p=>(p.1,a.eval p.2))=(rK 0 (iM sf sv 0)).toArray:=by rw[List.map_toArray,Xt]
  simp[execOp,mk,e,Iy sv w1]
 ·have Ic:ac (fun _=>False) w1 (w1.alloc (.cells (rz sf sv 0).toArray S.tF (0,0))):=ac.alloc _ _ _
  refine hc _ l' _ _ (h.put _ hn) (by cases l.lookup 0<;>rfl) (fun x hx=>hl (0,x) (List.mem_append_left _ (by rw[hx];exact List.mem_singleton.2 rfl))) (.inr ⟨w1.heap.size,0,_,by rw[Ib],Kd,?_⟩) (hk.trans Ic)
  exact u6 sf sv 0 0 (dc.kn Ic sf sv 0 hf) (bB w1 (rz sf sv 0) S.tF)
theorem sub_calls (T:RefT P S){f N:Nat}{its:List BI}{sf:SFs}(hfn:FnIs P f N [0] (cSub S its))(hn:ef its 1<N)(hb:EF P S its sf)(Iy:EA P S its.length sf)(Ib:its.length=sf.len)(Kd:sf.len<=maxLen):Ent P f/\BuildC P f sf:=by
 refine⟨hfn.ent,fun w=>?_⟩
 refine bJ T.mixed hfn (by simp) [] (by simp) fun a h=>?_
 unfold cSub
 refine aw (aP (ae h .c (by omega) fun a h=>wpList_nil ?_))
 refine aw (aP (ze hb Iy Ib Kd h hn rfl fun a l' w' v h _ _ hv hk=>ae h (v:=v) (.t (by simp)) (by omega) fun a h=>wpList_nil (.ret ?_)))
 exact dN (RR:=fun e w'=>∃ v,e=.returned v/\fu w' sf v/\ac (fun _=>False) w w') h rfl ⟨v,rfl,hv,hk⟩
def MsgBC (P:Program)(f:Nat)(flex:Int)(sf:SFs):Prop:=∀ w,Calls P f ([]:List Value).toArray w fun e w'=>∃ v,e=.returned (.agg [v,.int .i64 flex].toArray)/\fu w' sf v/\ac (fun _=>False) w w'
theorem msgb_calls (T:RefT P S)(bM:∀ (x:Int) (base:Option Addr) (n c:Nat) (w:World),(Instr.build S.tMs #[(1,.int .i64 x),(0,.slice base n c)]).run P w=.ok (.agg #[.slice base n c,.int .i64 x]) w){f N:Nat}{flex:Int}{its:List BI}{sf:SFs}(hfn:FnIsC P f N 0 S.tMs (cMsgB S flex its))(hn:ef its 1+1<N)(hb:EF P S its sf)(Iy:EA P S its.length sf)(Ib:its.length=sf.len)(Kd:sf.len<=maxLen):Ent P f/\MsgBC P f flex sf:=by
 refine⟨hfn.ent,fun w=>?_⟩
 refine u9 T.mixed hfn [] (by simp) fun a h=>?_
 unfold cMsgB
 refine aw (aP (gE h (T.zM w) (by omega) fun a h=>wpList_nil ?_))
 have Mk:=aE w (.cells (Value.agg #[aF,.int .i64 0]).cells S.tMs (0,0))
 have Jo:ac (fun _=>False) w (w.alloc (.cells (Value.agg #[aF,.int .i64 0]).cells S.tMs (0,0))):=ac.alloc _ _ _
 generalize w.alloc (.cells (Value.agg #[aF,.int .i64 0]).cells S.tMs (0,0))=w1 at Mk Jo ⊢
 refine aw (aP (ze hb Iy Ib Kd h (by omega) rfl fun a l' w2 v h _ h0 hv hk=>?_))
 have h0':=h0 _ rfl
 obtain⟨vb,vc,Rg,_⟩:=hv.form
 have hng:¬ ef its 1=0:=by
  intro hg
  have:∀ (r:List BI) (n:Nat),n<=ef r n:=fun r=>by
   induction r with
   | nil=>intro n;exact Nat.le_refl n
   | cons x r ih=>
    intro n
    obtain⟨q,y⟩:=x
    cases y with
    | none=>exact Nat.le_trans (Nat.le_succ n) (ih (n+1))
    | some _=>exact Nat.le_trans (Nat.le_add_right n 2) (ih (n+2))
  have:=this its 1
  omega
 refine iE h (qs:=#[(1,.int .i64 flex),(0,v)]) (fun n a hs=>by
  have e:=Hd.t (l:=_) (i:=ef its 1) (v:=v) (by simp) n a hs
  simp only[tm]at e
  simp[ki,Act.eval,tm]at e ⊢
  exact e) (by rw[Rg];exact bM flex vb _ vc w2) hn fun a h=>?_
 rw[<- Rg]at h
 have Jp:w2.heap[w.heap.size]?=some (.cells (Value.agg #[aF,.int .i64 0]).cells S.tMs (0,0)):=by rw[hk.block _ (Array.getElem?_eq_some_iff.1 Mk).1 id];exact Mk
 have I5:∀ u∈[v,.int .i64 flex],u.oneCell'=true:=by
  intro u hu
  simp only[List.mem_cons,List.not_mem_nil,or_false]at hu
  rcases hu with rfl|rfl
  ·rw[Rg];rfl
  ·rfl
 have l0:((ef its 1+1,Value.agg #[v,.int .i64 flex])::(ef its 1,v)::l').lookup 0=some (pt w.heap.size 0):=by
  simp only[List.lookup_cons]
  have e1:((0:Nat)==ef its 1+1)=false:=by simp
  have e2:((0:Nat)==ef its 1)=false:=by simp;omega
  rw[e1,e2];exact h0'
 refine iD h (cs:=[v,.int .i64 flex]) (v:=.agg #[v,.int .i64 flex]) (.t l0) (.t (by simp)) (by simp[Value.cells]) T.vM.size Jp rfl I5 (wpList_nil (.ret ⟨h.defers,⟨w.heap.size,0,none⟩,.agg [v,.int .i64 flex].toArray,h.get 0 _ l0,?_,v,rfl,?_,?_⟩))
 ·have hr:=setRow_heap _ _ _ ([v,.int .i64 flex]:List Value).toArray _ _ Jp
  have Ia:∀ j x,([v,.int .i64 flex]:List Value)[j]?=some x->(w2.setRow w.heap.size ([v,.int .i64 flex]:List Value).toArray).cell? ((⟨w.heap.size,0,none⟩:Addr).add j)=some x:=fun j x hj=>by
   rw[Addr.add_lit]
   simp only[World.cell?,hr,Option.isSome_none,Bool.false_eq_true,if_false,Nat.zero_add,List.getElem?_toArray,hj]
  have NA:=run_loadCells_list (P:=P) (w2.setRow w.heap.size ([v,.int .i64 flex]:List Value).toArray) ⟨w.heap.size,0,none⟩ [v,.int .i64 flex] Ia
  have h2:([v,Value.int .i64 flex]:List Value).length=2:=rfl
  rw[h2]at NA
  simp[loadVar,T.vM.agg,T.vM.size,NA]
 ·have V0:∀ b o cs,cs.length=8->au w2 b o cs->au (w2.setRow w.heap.size ([v,.int .i64 flex]:List Value).toArray) b o cs:=fun b o cs h8 Iz j x hj=>by
   by_cases hbg:b=w.heap.size
   ·exfalso
    subst hbg
    have h7:=Iz 7 (cs[7]'(by omega)) (List.getElem?_eq_getElem (by omega))
    have Ii:(Value.agg #[aF,.int .i64 0]).cells.size=2:=rfl
    simp only[World.cell?,Jp,Option.isSome_none,Bool.false_eq_true,if_false]at h7
    rw[Array.getElem?_eq_none (by rw[Ii];omega)]at h7
    cases h7
   ·have Id:=bP (Iz j x hj)
    exact(ac.setRow (fun i=>i=w.heap.size) w2 _ _ rfl).cell hbg (Iz j x hj)
  rcases hv with hv|⟨b,o,c,e1,e2,e3⟩
  ·exact .inl hv
  ·exact .inr ⟨b,o,c,e1,e2,e3.imp V0 sf b o⟩
 ·exact(((Jo.trans hk).mono (Y:=fun i=>i=w.heap.size) fun _ _ h=>h.elim).trans (ac.setRow _ _ _ _ rfl)).mono fun i hi hX=>by omega
def rJ (flex ver:Int):Bool:=decide (0<=flex)&&decide (flex<=ver)
theorem wO (T:RefT P S)(hfn:FnIs P S.fWrite 21 [6] (csWr S))(Q7:Ent P S.fPart){sf:SFs}(hP:pl P S sf){flex ver:Int}{k:Nat}{cs:List Value}{t:Tr}{fv:Value}(W:World)(IQ:fu W sf fv)(ht:TrRp W k cs t)(hlim:(bh ver (rJ flex ver) sf t).length<=di) :
  Calls P S.fWrite [.agg [fv,.int .i64 flex].toArray,.int .i64 ver,.agg cs.toArray].toArray W (aZ S.tU8 (bh ver (rJ flex ver) sf t) W):=by
 have h5:=ht.len
 refine bJ T.mixed hfn (by simp) _ (by simp) fun a h=>?_
 unfold csWr
 refine aw (aP (dx h (cs:=[fv,.int .i64 flex]) (.t rfl) (by omega) fun a h=>?_))
 have Ir:ac (fun _=>False) W (W.alloc (.cells [fv,.int .i64 flex].toArray S.tMs (0,0))):=ac.alloc _ _ _
 have JG:=bB W [fv,.int .i64 flex] S.tMs
 generalize W.alloc (.cells [fv,.int .i64 flex].toArray S.tMs (0,0))=w1 at Ir JG ⊢
 refine dx h (cs:=cs) (.t rfl) (by omega) fun a h=>ae h .c (by omega) fun a h=>wpList_nil ?_
 have Ic:ac (fun _=>False) w1 (w1.alloc (.cells cs.toArray S.tT (0,0))):=ac.alloc _ _ _
 have Jq:=bB w1 cs S.tT
 generalize w1.alloc (.cells cs.toArray S.tT (0,0))=w2 at Ic Jq ⊢
 have JG:=au.kn Ic JG
 have hk:=Ir.trans Ic
 have hf:=cz.of hk
 refine aw (aP (bO h (.t rfl) T.m0 (by omega) fun a h=>aU h (.t rfl) T.m0.var (JG.at (j:=0) rfl) (by omega) fun a h=>ai h (.t rfl) (by omega) fun a h=>bO h (.t rfl) T.m1 (by omega) fun a h=>aU h (.t rfl) T.m1.var (JG.at (j:=1) rfl) (by omega) fun a h=>br h rfl (.t rfl) .i (by omega) fun a h=>ai h (.t rfl) (by omega) fun a h=>?_))
 have rest:∀ (a:Act) (b:Bool) (R:Exit->Act->World->Prop) (ops:Array Oper),St 21 a [(8,fv),(9,.int .i64 ver),(18,.bool b),(5,pt w1.heap.size 0)]->b=rJ flex ver->(∀ a' w',(a'.defers=[]/\aZ S.tU8 (bh ver (rJ flex ver) sf t) W (.returned (bj [6] a')) w')->R .normal a' w') ->
   wpList P ops R [mk (some 19) (.load S.tT (tm 5)),cl (some 20) S.fPart [(tm 8),(tm 9),(tm 18),(tm 19)],mk (some 6) (.assign (tm 20))] a w2:=by
  intro a b R ops h hb hR
  refine cn h (cs:=cs) (.t rfl) (by rw[h5];exact T.vT) Jq (by omega) fun a h=>?_
  refine aT h Q7 (vs:=[fv,.int .i64 ver,.bool b,.agg cs.toArray]) (fun n a h=>by
   simp only[List.map_cons,List.map_nil]
   rw[Hd.t (l:=_) (i:=8) rfl n a h,Hd.t (l:=_) (i:=9) rfl n a h,Hd.t (l:=_) (i:=18) rfl n a h,Hd.t (l:=_) (i:=19) rfl n a h]) (by rw[hb];exact hP w2 ver _ k cs t fv (IQ.far hf) (ht.far hf) hlim) (by omega) fun e w3 hR3=>?_
  obtain⟨v,rfl,hd,Il⟩:=hR3
  refine⟨v,rfl,fun a h=>ae h (.t rfl) (by omega) fun a h=>wpList_nil (hR _ _ ?_)⟩
  exact dN (RR:=aZ S.tU8 (bh ver (rJ flex ver) sf t) W) h rfl ⟨v,rfl,(Gr.lower hk.size (Gr.refl hd)).dst,hk.trans Il⟩
 cases hb:aW .geq flex 0 with
 | false=>
  rw[hb]at h
  have hn:¬ 0<=flex:=by simpa[aW]using hb
  refine aM h rfl rfl rfl (by omega) (by simp) (by omega) fun a h=>aM h rfl rfl rfl (by omega) (by simp) (by omega) fun a h=>aM h rfl rfl rfl (by omega) (by simp) (by omega) fun a h=>aM h rfl rfl rfl (by omega) (by simp) (by omega) fun a h=>?_
  refine cr h (.t rfl) (.t rfl) .c (by omega) fun a h=>rest a false _ _ (h.pick ⟨rfl,rfl,rfl,rfl,trivial⟩) (by simp[rJ,hn]) fun a' w' hh=>.ret hh
 | true=>
  rw[hb]at h
  have hn:0<=flex:=by simpa[aW]using hb
  refine ek h rfl rfl rfl (by omega) (.t rfl) (by omega) fun a h=>kv h rfl rfl rfl (by omega) (.t rfl) T.m1 (by omega) fun a h=>gH h rfl rfl rfl (by omega) (.t rfl) T.m1.var (JG.at (j:=1) rfl) (by omega) fun a h=>lO h rfl rfl rfl (by omega) rfl (.t rfl) (.t rfl) (by omega) fun a h=>?_
  refine cr h (.t rfl) (.t rfl) .c (by omega) fun a h=>rest a (aW .geq ver flex) _ _ (h.pick ⟨rfl,rfl,rfl,rfl,trivial⟩) (by simp[rJ,hn,aW]) fun a' w' hh=>.ret hh
theorem leafC_of (T:RefT P S)(vB:bc P S.tB false 1)(h1:FnIs P S.fUv 20 [2] (csUvr S))(h2:FnIs P S.fFix 22 [4] (csFi S))(h3:FnIs P S.fCnt 28 [8] (csCn S))(h4:FnIs P S.fWid 11 [2] (csWd S))(h5:FnIs P S.fWhole 8 [2] (csWh S))(h6:FnIs P S.fThings 8 [2] (csTh S))(h7:FnIs P S.fHas 20 [4] (csHs S))(h8:FnIs P S.fNull 20 [6] (csNu S))(h9:FnIs P S.fKnown 23 [2] (csKw S))(ha:FnIsC P S.fAt 16 4 S.tT (csAt S))(hb:FnIs P S.fUnk 85 [4] (csUn S)):LeafC P S where
 tab:=T
 vB:=vB
 uvE:=h1.ent
 uvC _ w hx:=oG T h1 hx w
 fixE:=h2.ent
 fixC x _ w hk:=lW T h2 x hk w
 cntE:=h3.ent
 cntC fx null _ _ w hm hk:=wg T h1.ent (fun _ w hx=>oG T h1 hx w) h2.ent (fun x _ w hk=>lW T h2 x hk w) h3 fx null hm hk w
 widE:=h4.ent
 widC kind w:=uO T h4 kind w
 whE:=h5.ent
 whC _ _ _ _ hv:=wT T h5 hv
 thE:=h6.ent
 thC _ _ _ _ hv:=xl T h6 hv
 hasE:=h7.ent
 hasC kind lo hi nul tag df of sv ver w:=vW T h7 kind lo hi nul tag df of sv ver w
 nullE:=h8.ent
 nullC kind lo hi nul tag df of sv ver nm tn x1 x3 x4 w:=sL T vB h8 kind lo hi nul tag df of sv ver nm tn x1 x3 x4 w
 knE:=h9.ent
 knC _ _ w ht hf:=rj T h9 ht w hf
 atE:=ha.ent
 atC _ _ _ _ w ht:=zh T ha w ht
 unE:=hb.ent
 unC sf fv uv raw w ht hf hr:=xg T h9.ent (fun _ _ w ht hf=>rj T h9 ht w hf) hb sf fv uv raw w ht hf hr
end
end
end Go.Proofs.YtpoeajgpacfpoaaGreatDoor.Kx