/-
  PLAIN LAWS AND CONTRACTS of messages, part 4.
-/
import Derived.Test.YtbgklecbmhaadaaGreatDoorK3

namespace Go.Proofs.YtbgklecbmhaadaaGreatDoor.Kx
open Go
theorem bQ.sl {w:World}{S:Nat}{X:Nat->Prop}{v:Value}{r:RS}(h:bQ w S v r)(hS:¬ X S):cO w X v r.src:=by
 rcases h with⟨h1,h2,_⟩|⟨o,c,h1,_,h3,h4,h5,h6⟩
 ·exact .inl ⟨h1,h2⟩
 ·exact .inr ⟨S,o,c,h1,hS,h5,h3,h4,h6⟩
section
variable {P:Program} {g:G} {av:PF->Bool} {fl:Bool} {cx:Cx} {fx:Bool} {ver:Int} {S R B O:Nat} {r:RS} {x m k0 n:Nat} {K N E:Act->World->Prop} {Q:Exit->Act->World->Prop} {a:Act} {w:World}
theorem Aw {ops:Array Oper}{l:List Oper}{d j f:Nat}{b:Bool}{args:List Operand}{vs:Array Value}{R:Ending->World->Prop}(hy:yielded ops a.tmps j=some b)(hf:Ent P f)(GY:(args.map a.eval).toArray=vs)
  (hc:Calls P f vs w R) (h:∀ e w',R e w'->∃ v,e=.returned v/\wpList P ops Q l (a.put (some d) v) w') :
  wpList P ops Q (⟨some d, .call ⟨.value (.func f), args.toArray, #[]⟩, 0, "", #[], some (j, b)⟩ :: l) a w := by
 refine pC (op:=.call ⟨.value (.func f),args.toArray,#[]⟩) hy ?_
 unfold Oper.wp
 have : (execOp a.eval (⟨some d, .call ⟨.value (.func f), args.toArray, #[]⟩, 0, "", #[], some (j, b)⟩ : Oper)).run P w = .ok (.enter f vs) w := by
  have he:a.eval (.func f)=.func (.func f) #[] #[]:=rfl
  simp only[execOp,resolve,he,Deferred.ofValue,invoke,Sem.run_bind,Sem.run_pure,Result.andThen_ok,Array.empty_append,Array.append_empty,List.map_toArray,GY]
  exact hf _ _
 rw[this]
 exact hc.mono fun e w' hR=>by
  obtain⟨v,rfl,hh⟩:=h e w' hR
  exact hh
theorem wc (K0:KB P g av fl)(Ji:av .i8=true)(OG:bL g.ok=true)(Gl:RC g cx fx ver S R B O r a w)(hc:eb cx m k0){p:Nat}{body:GC}(hp:m<=p/\p<k0)(hk:k0<=n)(hn:n+6<=a.tmps.size)
  (GP:(rI 1 r).1 ≠ -1->(rI 1 r).2.bad=false->∀ a' w',Pv 6 m k0 n a a'->cQ w' g.tR S R (rI 1 r).2->ac (·=R) w w'->aQ P (body (n+6)).1 (Rt K E) a' w')
  (H1:((rI 1 r).1=-1 \/ (rI 1 r).2.bad=true)->∀ a' w',Pv 6 m k0 n a a'->cQ w' g.tR S R (rI 1 r).2->ac (·=R) w w'->K a' w'):aQ P (og g cx p body n).1 (Rt K E) a w:=by
 have Nz:=hc.b
 have G5:=hc.le
 have N3:=hc.six
 refine bm (ad (kE (x:=6) (m:=m) (k0:=k0) (K0.rdE _ Ji) Gl.sb (K0.i8C Ji w S R r Gl.rd Gl.SR) (.inr hp) hc.le hk (by omega) (by omega) fun e w1 hR=>?_))
 obtain⟨he,h1,h2⟩:=hR
 refine⟨_,he,fun a1 Gk Gv=>?_⟩
 have Gu:=Gk.size
 have G6:RC g cx fx ver S R B O (rI 1 r).2 a1 w1:=Gl.step hc Gk h1 h2 (fun _ _ h=>.inl h)
 generalize hx:(rI 1 r).1=y at *
 generalize Pu:(rI 1 r).2=r' at *
 have G3:∀ (b:Bool) (K':Act->World->Prop),b=(decide (y ≠ -1)&&!r'.bad)->(∀ a' w',a'.eval (tm (n+1+4))=.bool b->Pv 6 m k0 (n+1) a1 a'->ac (fun _=>False) w1 w'->K' a' w') ->
   wpList P [mk (some (n + 1)) (.move (tm p)), mk (some (n + 1 + 1)) (.binOp .neq g.tI8 (tm (n + 1)) (ki .i8 (-1)) 0), mk (some (n + 1 + 2)) (.move (tm (n + 1 + 1))), ⟨some (n + 1 + 3), .call ⟨.value (.func g.ok), #[tm cx.b], #[]⟩, 0, "", #[], some (2, true)⟩,
    mk (some (n + 1 + 4)) (.pick (tm (n + 1 + 2)) (tm (n + 1 + 3)) (.const (.bool false)))].toArray (Exit.then K' (Exit.then (LW P [] (ej 4 5 (fun n => [mk (some n) (.move (tm p)), mk (some (n + 1)) (.binOp .neq g.tI8 (tm n) (ki .i8 (-1)) 0), mk (some (n + 2)) (.move (tm (n + 1))), ⟨some (n + 3), .call ⟨.value (.func g.ok), #[tm cx.b], #[]⟩, 0, "", #[], some (2, true)⟩,
  mk (some (n+4)) (.pick (tm (n+2)) (tm (n+3)) (.const (.bool false)))]) body b6 (n+1)).2 (Rt K E)) (Rt K E)))
   [mk (some (n + 1)) (.move (tm p)), mk (some (n + 1 + 1)) (.binOp .neq g.tI8 (tm (n + 1)) (ki .i8 (-1)) 0), mk (some (n + 1 + 2)) (.move (tm (n + 1 + 1))), ⟨some (n + 1 + 3), .call ⟨.value (.func g.ok), #[tm cx.b], #[]⟩, 0, "", #[], some (2, true)⟩,
    mk (some (n+1+4)) (.pick (tm (n+1+2)) (tm (n+1+3)) (.const (.bool false)))] a1 w1:=by
  intro b K' hb hK'
  refine ag ?_
  rw[aa,Gv]
  refine bt (b:=decide (y ≠ -1)) (p:=y) (q:=-1) (k:=.i8) (by rw[aa,am (by omega)]) rfl (.inr (.inr (.inr (.inr (.inr ⟨rfl,rfl⟩))))) ?_
  refine ag ?_
  rw[aa,am (by simp only[ab];omega)]
  have Gt:Pv 6 m k0 (n+1) a1 (((a1.put (some (n+1)) (.int .i8 y)).put (some (n+1+1)) (.bool (decide (y ≠ -1)))).put (some (n+1+2)) (.bool (decide (y ≠ -1)))):=
   (((Pv.refl _ _ _ _ _).put _ (by omega)).put _ (by omega)).put _ (by omega)
  generalize hA:((a1.put (some (n+1)) (.int .i8 y)).put (some (n+1+1)) (.bool (decide (y ≠ -1)))).put (some (n+1+2)) (.bool (decide (y ≠ -1)))=A at Gt ⊢
  have G0:A.tmps.size=a1.tmps.size:=Gt.size
  have G2:A.get (n+1+2)=.bool (decide (y ≠ -1)):=by rw[<- hA];exact am (by simp only[ab];omega)
  have It:∀ (ops:Array Oper),ops[2]?=some (mk (some (n+1+2)) (.move (tm (n+1+1))))->yielded ops A.tmps 2=some (decide (y ≠ -1)):=fun ops ho=>bY (d:=n+1+2) ho rfl (by rw[G0];omega) G2
  have Su:A.get cx.b=pt R 0:=by rw[Gt.get _ Nz.2 (.inl Nz.1)];exact G6.sb
  by_cases hy:y=-1
  ·subst hy
   refine d8 (c:=false) (It _ rfl) (by simp) ?_
   refine fm (b:=false) (by rw[aa,ak (by omega),G2];rfl) (wpList_nil ?_)
   refine hK' _ w1 ?_ ((Gt.put undef (d:=n+1+3) (by omega)).put _ (by omega)) (ac.refl _ _)
   rw[aa,am (by simp only[ab];omega),hb]
   rfl
  ·refine Aw (b:=true) (vs:=#[pt R 0]) (by rw[It _ rfl];simp[hy]) (K0.okE OG) (by simp[aa,Su]) (K0.okC OG w1 S R r' G6.rd) fun e2 w2 HP=>⟨_,HP.1,?_⟩
   refine fm (b:=true) (by rw[aa,ak (by omega),G2];simp[hy]) (wpList_nil ?_)
   refine hK' _ w2 ?_ ((Gt.put _ (d:=n+1+3) (by omega)).put _ (by omega)) HP.2
   rw[aa,am (by simp only[ab];omega),hb]
   simp only[if_true]
   rw[aa,am (by omega)]
   simp[hy]
 refine ad ?_
 by_cases hy:y=-1 \/ r'.bad=true
 ·refine dg (G3 false _ (by rcases hy with h|h<;>simp[h]) fun a2 w2 IB Gm Gs=>⟨IB,.skip (bg (H1 hy a2 w2 (Gk.trans (Gm.mono (Nat.le_refl _) (by omega))) (h1.keep Gs id id) (h2.trans (Gs.mono fun _ _ h=>h.elim))))⟩)
 ·refine dt (G3 true _ (by simp at hy;simp[hy]) fun a2 w2 IB Gm Gs=>⟨IB,?_⟩)
  have:=GP (fun h=>hy (.inl h)) (by simpa using fun h=>hy (.inr h)) a2 w2 (Gk.trans (Gm.mono (Nat.le_refl _) (by omega))) (h1.keep Gs id id) (h2.trans (Gs.mono fun _ _ h=>h.elim))
  refine .mono this fun e a w hq=>?_
  cases e<;>first|exact bg hq|exact hq
theorem C7 {key:Nat}{dflt:Code}{t:Nat}{A:GC}{l:List (Nat × GC)}{kk:Nat}(HJ:a.get key=.int .u32 kk)(Kl:key<n)(hm:m<=k0)(hk:k0<=n)(hn:n+2<=a.tmps.size)
  (GP:kk=t->∀ a',Pv x m k0 n a a'->aQ P (A (n+2)).1 Q a' w) (H1:kk≠t->∀ a',Pv x m k0 n a a'->a'.get key=.int .u32 kk->aQ P (eZ g key dflt l (A (n+2)).2).1 Q a' w):aQ P (eZ g key dflt ((t,A)::l) n).1 Q a w:=by
 have G3:∀ (b:Bool) (K':Act->World->Prop),b=decide ((kk:Int)=(t:Int))->(∀ a',a'.eval (tm n)=.bool b->Pv x m k0 n a a'->a'.get key=.int .u32 kk->K' a' w) ->
   wpList P [mk (some (n+1)) (.binOp .eql g.tU32 (tm key) (ki .u32 t) 0),mk (some n) (.assign (tm (n+1)))].toArray (Exit.then K' Q) [mk (some (n+1)) (.binOp .eql g.tU32 (tm key) (ki .u32 t) 0),mk (some n) (.assign (tm (n+1)))] a w:=by
  intro b K' hb hK'
  refine bt (b:=b) (p:=kk) (q:=t) (k:=.u32) (by rw[aa,HJ]) rfl (.inr (.inr (.inr (.inr (.inl ⟨rfl,hb⟩))))) (aj (wpList_nil (hK' _ ?_ (((Pv.refl _ _ _ _ _).put _ (by omega)).put _ (by omega)) ?_)))
  ·rw[aa,aa,am (by simp only[ab];omega),am (by omega)]
  ·rw[ak (by omega),ak (by omega)];exact HJ
 by_cases Jr:kk=t
 ·exact .seq (.reg (G3 true (fun a' w'=>a'.eval (tm n)=.bool true/\aQ P (A (n+2)).1 Q a' w') (by simp[Jr]) fun a' he hp H5=>⟨he,GP Jr a' hp⟩)) (fun a' w' h=>.condT h.1 h.2) (fun e a w he hq=>by rw[cA he]at hq;exact hq)
 ·exact .seq (.reg (G3 false (fun a' w'=>a'.eval (tm n)=.bool false/\aQ P (eZ g key dflt l (A (n+2)).2).1 Q a' w') (by simp;omega) fun a' he hp H5=>⟨he,H1 Jr a' hp H5⟩)) (fun a' w' h=>.condF h.1 h.2) (fun e a w he hq=>by rw[cA he]at hq;exact hq)
theorem xX (K0:KB P g av fl)(Gw:fl=true)(Gl:RC g cx fx ver S R B O r a w)(hc:eb cx m k0){i b1 b2:Nat}{body:GC}(hi:m<=i/\i<k0)(hk:k0<=n)(hn:n+5<=a.tmps.size)(W:Nat->World->Prop)
  (h0:∀ w1,cQ w1 g.tR S R (bD r).2->ac (·=R) w w1->W (bD r).1 w1)
  (H8:∀ (c:Nat) (a1:Act) (w1:World),Pv 6 i k0 n a a1->W (c+1) w1->aQ P (body (n+5)).1 (Rt (fun a2 w2=>Pv 6 (i+1) k0 (n+5) a1 a2/\W c w2) E) a1 w1)
  (Mw:∀ a1 w1,Pv 6 i k0 n a a1->W 0 w1->K a1 w1):aQ P (mQ g cx i b1 b2 body n).1 (Rt K E) a w:=by
 have Nz:=hc.b
 have G5:=hc.le
 have N3:=hc.six
 have Gq:=jI r
 refine .seq (R:=Rt (fun a' w'=>Pv 6 i k0 n a a'/\a'.get i=.int .u32 ((bD r).1:Int)/\W (bD r).1 w') E) (.reg (aR (vs:=#[pt R 0]) (K0.uvE Gw) (by simp[aa,Gl.sb]) (K0.uvC Gw w S R r Gl.rd Gl.SR) fun e w1 hR=>?_)) (fun a' w' hh=>?_)
  (fun e a w he hq=>by cases e<;>first|exact absurd rfl he|exact hq)
 ·obtain⟨he,h1,h2⟩:=hR
  refine⟨_,he,aj (wpList_nil ?_)⟩
  rw[aa,am (by omega)]
  exact⟨((Pv.refl _ _ _ _ _).put _ (by omega)).put _ (by omega),am (by simp only[ab];omega),h0 w1 h1 h2⟩
 ·obtain⟨hp,OI,MM⟩:=hh
  refine .block (.loop (fun a1 w1=>∃ c:Nat,c<=(bD r).1/\Pv 6 i k0 n a a1/\a1.get i=.int .u32 (c:Int)/\W c w1) (fun a1 _=>(match a1.get i with|.int _ q=>q|_=>0).toNat) ⟨_,Nat.le_refl _,hp,OI,MM⟩ ?_)
  rintro a1 w1 ⟨c,GZ,Gk,Gv,hW⟩
  have Gu:=Gk.size
  have G3:∀ (b:Bool),b=decide ((0:Int)<(c:Int))->wpList P [mk (some (n+1)) (.move (tm i)),mk (some (n+2)) (.binOp .gtr g.tU32 (tm (n+1)) (ki .u32 0) 0)].toArray
    (Rt (fun a' w'=>a'.eval (tm (n+2))=.bool b/\Pv 6 (i+1) k0 n a1 a'/\w'=w1) E) [mk (some (n+1)) (.move (tm i)),mk (some (n+2)) (.binOp .gtr g.tU32 (tm (n+1)) (ki .u32 0) 0)] a1 w1:=by
   intro b hb
   refine ag ?_
   rw[aa,Gv]
   refine bt (b:=b) (p:=c) (q:=0) (k:=.u32) (by rw[aa,am (by omega)]) rfl (.inr (.inr (.inr (.inl ⟨rfl,hb⟩)))) (wpList_nil ?_)
   exact⟨by rw[aa,am (by simp only[ab];omega)],((Pv.refl _ _ _ _ _).put _ (by omega)).put _ (by omega),rfl⟩
  cases c with
  | succ c=>
   refine .seq (R:=Rt (fun a2 w2=>Pv 6 (i+1) k0 n a1 a2/\w2=w1) E) ?_ (fun a2 w2 hh=>?_) (fun e a w he hq=>by cases e<;>first|exact absurd rfl he|exact hq|exact hq.elim)
   ·refine .seq (.reg (G3 true (by simp))) (fun a2 w2 hh=>.condT hh.1 (.skip hh.2)) (fun e a w he hq=>by cases e<;>first|exact absurd rfl he|exact hq)
   ·obtain⟨Gm,rfl⟩:=hh
    have GQ:Pv 6 i k0 n a a2:=Gk.trans (Gm.mono (by omega) (Nat.le_refl _))
    have G2:a2.get i=.int .u32 ((c+1:Nat):Int):=by rw[Gm.get i (by omega) (.inl (by omega))];exact Gv
    have hb:=H8 c a2 w2 GQ hW
    have G9:=Gm.size
    refine .seq (R:=Rt (fun a3 w3=>Pv 6 (i+1) k0 (n+5) a2 a3/\W c w3) E) (.block (.mono hb fun e a w hq=>by cases e<;>first|exact hq|exact hq.elim)) (fun a3 w3 hh=>?_) (fun e a w he hq=>by cases e<;>first|exact absurd rfl he|exact hq|exact hq.elim)
    obtain⟨Gt,Ld⟩:=hh
    have Hh:=Gt.size
    have GI:a3.get i=.int .u32 ((c+1:Nat):Int):=by rw[Gt.get i (by omega) (.inl (by omega))];exact G2
    refine .reg (ag ?_)
    rw[aa,GI]
    have Hn:IntKind.u32.wrap (((c+1:Nat):Int)-1)=(c:Int):=by simp[IntKind.wrap,IntKind.bits,IntKind.signed];omega
    refine cE (v:=.int .u32 (c:Int)) (k:=.u32) (m:=((c+1:Nat):Int)) (n:=1) (by rw[aa,am (by omega)]) rfl (by simp) (by simp only[binOp,Op.intArith,Hn];simp) ?_
    refine aj (wpList_nil ?_)
    rw[aa,am (by simp only[ab];omega)]
    have I7:(((a3.put (some (n+3)) (.int .u32 ((c+1:Nat):Int))).put (some (n+4)) (.int .u32 (c:Int))).put (some i) (.int .u32 (c:Int))).get i=.int .u32 (c:Int):=am (by simp only[ab];omega)
    refine⟨⟨c,by omega,?_,I7,Ld⟩,?_⟩
    ·exact((GQ.trans (Gt.mono (by omega) (by omega))).put _ (by omega)).put _ (by omega) |>.put _ (by omega)
    ·rw[I7,Gv]
     simp only
     omega
  | zero=>
   refine .seq (R:=fun e a w=>e≠.normal/\Exit.inBlock b1 (Rt K E) e a w) ?_ (fun a2 w2 hh=>absurd rfl hh.1) (fun e a w he hq=>?_)
   ·refine .seq (R:=Rt (fun a' w'=>a'.eval (tm (n+2))=.bool false/\Pv 6 (i+1) k0 n a1 a'/\w'=w1) E) (.reg (G3 false (by simp))) (fun a2 w2 hh=>.condF hh.1 (.exit ?_)) (fun e a w he hq=>by cases e<;>first|exact absurd rfl he|exact⟨by simp,hq⟩|exact hq.elim)
    simp only[Exit.inBlock,if_true]
    refine⟨by simp,?_⟩
    obtain⟨_,Gm,rfl⟩:=hh
    exact Mw a2 w2 (Gk.trans (Gm.mono (by omega) (Nat.le_refl _))) hW
   ·rw[cA he];exact hq.2
theorem ig {P:Program}{o:Oper}{d:Option Nat}{f:Nat}{args:List Operand}{vs:Array Value}{R:Ending->World->Prop}{K':Act->World->Prop}{Q':Exit->Act->World->Prop}(ho:o=cl d f args)(hf:Ent P f)(GY:(args.map a.eval).toArray=vs)
  (hc:Calls P f vs w R) (h:∀ e w',R e w'->∃ v,e=.returned v/\K' (a.put d v) w'):o.wp P a w K' Q':=by
 subst ho
 unfold Oper.wp
 have:(execOp a.eval (cl d f args)).run P w=.ok (.enter f vs) w:=by
  have he:a.eval (.func f)=.func (.func f) #[] #[]:=rfl
  simp only[cl,execOp,mk,resolve,he,Deferred.ofValue,invoke,Sem.run_bind,Sem.run_pure,Result.andThen_ok,Array.empty_append,Array.append_empty,List.map_toArray,GY]
  exact hf _ _
 rw[this]
 exact hc.mono fun e w' hR=>by
  obtain⟨v,rfl,hh⟩:=h e w' hR
  exact hh
theorem vZ (K0:KB P g av fl)(Gw:fl=true)(Gl:RC g cx fx ver S R B O r a w)(hc:eb cx m k0){key T k off kk:Nat}{cur:Array Value}{te:TypeId}{mm:Value}{t:List (Nat × Bs)}(hF:bp P T k g.tTags off true 1)(HJ:a.get key=.int .u32 kk)(HM:kk<4294967296)
  (hB:w.heap[B]?=some (.cells cur te (0,0))) (hO:cur[O+off]?=some mm) (Hv:cN w (fun k=>k=B \/ k=R) mm t) (Oy:∀ p,mm=.map (some p)->p≠S) (Kl:key<n) (hk:k0<=n) (hn:n+8<=a.tmps.size)
  (h:∀ a' w' q,Pv 6 m k0 n a a'->cQ w' g.tR S R (b9 (bD r).1 (bD r).2).2->(mm=.map none->w.heap.size<=q)->(∀ p,mm=.map (some p)->q=p)->ac (fun b=>b=R \/ b=B \/ b=q) w w' ->
   w'.heap[B]?=some (.cells (cur.setIfInBounds (O+off) (.map (some q))) te (0,0)) ->
   (∀ X:Nat->Prop,¬ X q->(∀ k,X k->k<w.heap.size)->¬ X S->cN w (fun k=>X k \/ k=R) mm t->cN w' X (.map (some q)) (cp kk (b9 (bD r).1 (bD r).2).1.octets t))->K a' w') :
  aQ P (gA g cx key T k n) (Exit.then K Q) a w:=by
 have Nz:=hc.b
 have G5:=hc.le
 have Gq:=jI r
 have Lf:B<w.heap.size:=(Array.getElem?_eq_some_iff.1 hB).1
 have hL:dW [mk (some n) (.move (tm cx.s)),mk (some (n+1)) (.nilCheck (tm n)),mk (some (n+2)) (.fieldAddr T (tm (n+1)) k),mk (some (n+3)) (.move (tm key)),cl (some (n+4)) g.uv [tm cx.b],
  mk (some (n+5)) (.convert g.tU32 g.tInt (tm (n+4))),cl (some (n+6)) g.span [tm cx.b,tm (n+5)],cl (some (n+7)) g.set [tm (n+2),tm (n+3),tm (n+6)]]=[false,false,false,false,true,true,true,true]:=by
  simp[dW,wU,mk,cl,gP,Op.operands,tm]
 refine .drw (fun _=>True) ?_
 rw[hL]
 simp only[dD,cq]
 obtain⟨fs,f,KD,KX,Km,K6⟩:=hF.fld
 have IV:∀ w,(sizeOf f.type).run P w=.ok (0+1) w:=fun w=>by rw[K6];exact hF.var.size w
 refine⟨pt B O,fun w _=>?_,pt B O,fun w _=>?_,pt B (O+off),fun w _=>?_,.int .u32 kk,fun w _=>?_,?_⟩
 ·have:a.eval (tm cx.s)=pt B O:=Gl.ss
  simp[execOp,mk,this]
 ·have:(a.put (some n) (pt B O)).eval (tm n)=pt B O:=by rw[aa,am (by omega)]
  simp only[mk,pt]at this ⊢
  simp[execOp,this]
 ·have:((a.put (some n) (pt B O)).put (some (n+1)) (pt B O)).eval (tm (n+1))=pt B O:=by rw[aa,am (by simp only[ab];omega)]
  simp only[mk,pt]at this ⊢
  simp[execOp,this,Instr.fieldAt,run_underlying KD,KX,Km,fieldPlace,IV,Instr.sureAddr,Addr.add_lit]
 ·have:(((a.put (some n) (pt B O)).put (some (n+1)) (pt B O)).put (some (n+2)) (pt B (O+off))).eval (tm key)=.int .u32 kk:=by
   rw[aa,ak (by omega),ak (by omega),ak (by omega)];exact HJ
  simp only[mk]at this ⊢
  simp[execOp,this]
 ·simp only[mk]
  have GD:Pv 6 m k0 n a ((((a.put (some n) (pt B O)).put (some (n+1)) (pt B O)).put (some (n+2)) (pt B (O+off))).put (some (n+3)) (.int .u32 kk)):=
   ((((Pv.refl _ _ _ _ _).put _ (by omega)).put _ (by omega)).put _ (by omega)).put _ (by omega)
  have G2:((((a.put (some n) (pt B O)).put (some (n+1)) (pt B O)).put (some (n+2)) (pt B (O+off))).put (some (n+3)) (.int .u32 kk)).get (n+2)=pt B (O+off):=by
   rw[ak (by omega),am (by simp only[ab];omega)]
  have GI:((((a.put (some n) (pt B O)).put (some (n+1)) (pt B O)).put (some (n+2)) (pt B (O+off))).put (some (n+3)) (.int .u32 kk)).get (n+3)=.int .u32 kk:=am (by simp only[ab];omega)
  generalize hA:(((a.put (some n) (pt B O)).put (some (n+1)) (pt B O)).put (some (n+2)) (pt B (O+off))).put (some (n+3)) (.int .u32 kk)=A at GD G2 GI ⊢
  have G0:A.tmps.size=a.tmps.size:=GD.size
  have Su:A.get cx.b=pt R 0:=(GD.get _ Nz.2 (.inl Nz.1)).trans Gl.sb
  have HK:ac (fun _=>False) w w.drew:=ac.drew _ _
  have J0:cQ w.drew g.tR S R r:=Gl.rd.keep HK id id
  refine⟨trivial,ig (vs:=#[pt R 0]) rfl (K0.uvE Gw) (by simp[aa,Su]) (K0.uvC Gw w.drew S R r J0 Gl.SR) fun e w1 hR=>?_⟩
  obtain⟨he,h1,h2⟩:=hR
  refine⟨_,he,trivial,?_⟩
  have Hn:IntKind.i64.wrap ((bD r).1:Int)=((bD r).1:Int):=by simp[IntKind.wrap,IntKind.bits,IntKind.signed];omega
  have Uy : (execOp (A.put (some (n + 4)) (.int .u32 ((bD r).1 : Int))).eval (⟨some (n + 5), .convert g.tU32 g.tInt (tm (n + 4)), 0, "", #[], none⟩ : Oper)).run P w1 = .ok (.value (.int .i64 ((bD r).1 : Int))) w1 := by
   have:(A.put (some (n+4)) (.int .u32 ((bD r).1:Int))).eval (tm (n+4))=.int .u32 ((bD r).1:Int):=by rw[aa,am (by omega)]
   simp[execOp,this,convert,run_underlying (K0.tU32 Gw),run_underlying K0.tInt,Conv.intToInt,Hn]
  unfold Oper.wp
  rw[Uy]
  refine⟨trivial,?_⟩
  have Hj:((A.put (some (n+4)) (.int .u32 ((bD r).1:Int))).put (some (n+5)) (.int .i64 ((bD r).1:Int))).get cx.b=pt R 0:=by
   rw[ak (by omega),ak (by omega)];exact Su
  have hb5:((A.put (some (n+4)) (.int .u32 ((bD r).1:Int))).put (some (n+5)) (.int .i64 ((bD r).1:Int))).get (n+5)=.int .i64 ((bD r).1:Int):=am (by simp only[ab];omega)
  refine ig (vs:=#[pt R 0,.int .i64 ((bD r).1:Int)]) rfl (K0.spanE Gw) (by simp[aa,Hj,hb5]) (K0.spanC Gw w1 S R (bD r).2 ((bD r).1:Int) (by omega) (by omega) h1 Gl.SR) fun e2 w2 HP=>?_
  obtain⟨v,IB,h3,h4,h5⟩:=HP
  refine⟨_,IB,trivial,?_⟩
  have JX:ac (·=R) w w2:=((HK.mono fun _ _ h=>h.elim).trans h2).trans h4
  have J3:w2.heap[B]?=some (.cells cur te (0,0)):=by rw[JX.block B Lf Gl.BR];exact hB
  have JP:cN w2 (fun k=>k=B \/ k=R) mm t:=Hv.keep (JX.mono fun _ _ h=>.inr h)
  refine ig (vs:=#[pt B (O+off),.int .u32 kk,v]) rfl (K0.setE Gw) ?_ (K0.setC Gw w2 B (O+off) mm t kk v _ cur te HM J3 hO (JP.mono fun _ _ h=>.inl h) (h5.sl Gl.BS.symm)) fun e3 w3 hR3=>?_
  ·simp only[List.map_cons,List.map_nil,aa]
   rw[am (by simp only[ab];omega),ak (show n+2≠n+6 by omega),ak (show n+2≠n+5 by omega),ak (show n+2≠n+4 by omega),G2,
    ak (show n+3≠n+6 by omega),ak (show n+3≠n+5 by omega),ak (show n+3≠n+4 by omega),GI]
  obtain⟨Ra,q,w',rfl,h6,h7,h8,h9,Iz⟩:=hR3
  refine⟨_,Ra,trivial,?_⟩
  have V7:mm=.map none->w.heap.size<=q:=fun J9=>by rw[h7 J9];exact JX.size
  have Me:q<w2.heap.size->¬ (q=B \/ q=R \/ q=S):=fun Gq hq=>by
   rcases JP with⟨J9,_⟩|⟨p,Gk,Gm,_⟩
   ·have:=h7 J9;omega
   ·have:=h8 p Gk
    subst this
    rcases hq with hq|hq|hq
    ·exact Gm (.inl hq)
    ·exact Gm (.inr hq)
    ·exact Oy _ Gk hq
  have I4:ac (fun b=>(b=B \/ b=q)/\b<w2.heap.size) w2 w3:=h6.mono fun _ hk hh=>⟨hh,hk⟩
  refine h _ w3 q ?_ (h3.keep I4 (fun hh=>?_) (fun hh=>?_)) V7 h8 ((JX.mono fun _ _ h=>.inl h).trans (h6.mono fun _ _ h=>.inr h)) h9 fun X Pg hX hXS hT=>?_
  ·exact(((GD.put _ (by omega)).put _ (by omega)).put _ (by omega)).put _ (by omega)
  ·rcases hh with⟨hh|hh,O5⟩
   ·exact Gl.BS hh.symm
   ·exact Me (hh ▸ O5) (.inr (.inr hh.symm))
  ·rcases hh with⟨hh|hh,O5⟩
   ·exact Gl.BR hh.symm
   ·exact Me (hh ▸ O5) (.inr (.inl hh.symm))
  ·exact Iz X Pg (fun k hk=>Nat.lt_of_lt_of_le (hX k hk) JX.size) (h5.sl fun h=>h.elim hXS fun h=>Me (h ▸ Nat.lt_of_lt_of_le Gl.Slt JX.size) (.inr (.inr h.symm))) ((hT.keep (JX.mono fun _ _ h=>.inr h)).mono fun _ _ h=>.inl h)
end
def FX:TypeDesc->Bool
 | .struct _|.array _ _=>true
 | _=>false
def jg (P:Program)(F:Nat)(agg:Bool)(sz:Nat):Bool:=
 match P.underlying F,P.info? F with
 | some d,some i=>(FX d==agg)&&(i.size==sz)
 | _,_=>false
theorem varB_ok {P:Program}{F:Nat}{agg:Bool}{sz:Nat}(h:jg P F agg sz=true):bd P F agg sz:=by
 unfold jg at h
 split at h
 ·rename_i d i hd hi
  simp only[Bool.and_eq_true,beq_iff_eq]at h
  have ht:Ai P F d sz:=⟨hd,i,hi,h.2⟩
  refine⟨fun w=>?_,fun w=>ht.sizeOf w⟩
  rw[ht.isAgg w,<- h.1]
  cases d<;>rfl
 ·cases h
def eB (P:Program)(T k F off:Nat)(agg:Bool)(sz:Nat):Bool:=
 (match P.underlying T with
  | some (.struct fs)=>(match fs[k]? with|some f=>(f.offset==off)&&(f.type==F)|none=>false)
  | _=>false)&&jg P F agg sz&&decide (0<sz)
theorem fldB_ok {P:Program}{T k F off:Nat}{agg:Bool}{sz:Nat}(h:eB P T k F off agg sz=true):bp P T k F off agg sz:=by
 simp only[eB,Bool.and_eq_true,decide_eq_true_eq]at h
 obtain⟨⟨h1,h2⟩,h3⟩:=h
 split at h1
 ·rename_i fs GV
  split at h1
  ·rename_i f hf
   simp only[Bool.and_eq_true,beq_iff_eq]at h1
   exact⟨⟨fs,f,GV,hf,h1.1,h1.2⟩,varB_ok h2,h3⟩
  ·cases h1
 ·cases h1
def qA (P:Program)(T k:Nat):Nat:=
 match P.underlying T with
 | some (.struct fs)=>(match fs[k]? with|some f=>f.type|none=>0)
 | _=>0
def nB (P:Program)(F:Nat):Nat:=match P.info? F with|some i=>i.size|none=>0
def nP (P:Program)(F:Nat):Option (Nat × Nat × Array Value):=
 match P.underlying F with
 | some (.slice E)=>
  match P.info? E with
  | some i=>
   match i.zero with
   | some z=>if z.cells.size==i.size&&decide (0<i.size)&&decide (0<i.bytes)&&decide (i.bytes<=24*i.size+8)then some (E,i.size,z.cells)else none
   | none=>none
  | none=>none
 | _=>none
theorem nO {P:Program}{F E sz:Nat}{z:Array Value}(h:nP P F=some (E,sz,z)):m3 P F E sz z:=by
 unfold nP at h
 split at h
 ·rename_i E' hE
  split at h
  ·rename_i i hi
   split at h
   ·rename_i z' hz
    split at h
    ·rename_i hc
     simp only[Option.some.injEq,Prod.mk.injEq]at h
     obtain⟨rfl,rfl,rfl⟩:=h
     simp only[Bool.and_eq_true,beq_iff_eq,decide_eq_true_eq]at hc
     obtain⟨⟨⟨h1,h2⟩,h3⟩,h4⟩:=hc
     exact⟨hE,i,z',hi,hz,rfl,rfl,h1,h2,h3,h4⟩
    ·cases h
   ·cases h
  ·cases h
 ·cases h
def zeroOf (P:Program)(E:Nat):Option Value:=match P.info? E with|some i=>i.zero|none=>none
theorem zeroOf_ok {P:Program}{E:Nat}{z:Value}(h:zeroOf P E=some z)(w:World):(zeroValue E).run P w=.ok z w:=by
 unfold zeroOf at h
 split at h
 ·rename_i i hi
  simp[zeroValue,typeInfo,hi,h]
 ·cases h
def Dx:Value->Value->Bool
 | .bool a,.bool b=>a==b
 | .int k x,.int k' y=>(k==k')&&(x==y)
 | .string a,.string b=>a.data.isEmpty&&b.data.isEmpty
 | .pointer none,.pointer none=>true
 | .slice none a b,.slice none c d=>(a==c)&&(b==d)
 | .map none,.map none=>true
 | _,_=>false
theorem qD {x y:Value}(h:Dx x y=true):x=y:=by
 unfold Dx at h
 split at h
 ·simpa using h
 ·rename_i k x k' y
  simp only[Bool.and_eq_true,beq_iff_eq]at h
  rw[h.1,h.2]
 ·rename_i a b
  simp only[Bool.and_eq_true]at h
  obtain⟨h1,h2⟩:=h
  obtain⟨a⟩:=a
  obtain⟨b⟩:=b
  simp only[Array.isEmpty_iff]at h1 h2
  rw[h1,h2]
 ·rfl
 ·simp only[Bool.and_eq_true,beq_iff_eq]at h
  rw[h.1,h.2]
 ·rfl
 ·cases h
def gj (z:Array Value)(o:Nat)(v:Value):Bool:=match z[o]? with|some x=>Dx x v|none=>false
theorem qE {z:Array Value}{o:Nat}{v:Value}(h:gj z o v=true):z[o]?=some v:=by
 unfold gj at h
 split at h
 ·rename_i x hx
  rw[hx,qD h]
 ·cases h
def cP.fitsB:cP->Int->Bool
 | .bool,x=>x==0 || x==1
 | .i8,x=>decide (-128<=x)&&decide (x<128)
 | .i16,x=>decide (-32768<=x)&&decide (x<32768)
 | .u16,x=>decide (0<=x)&&decide (x<65536)
 | .i32,x=>decide (-2147483648<=x)&&decide (x<2147483648)
 | .i64,x=>decide (-9223372036854775808<=x)&&decide (x<9223372036854775808)
 | .uuid,_=>false
theorem cP.fitsB_ok {p:cP}{x:Int}(h:p.fitsB x=true):p.fits x:=by
 cases p<;>simp[cP.fitsB,cP.fits]at h ⊢<;>exact h
mutual
def sy (z:Array Value)(df:Int):Ty->Nat->Bool
 | .prim .bool,o=>(df==0&&gj z o (.bool false)) || (df==1&&gj z o (.bool true))
 | .prim .uuid,o=>(List.range 16).all fun j=>gj z (o+j) (.int .u8 0)
 | .prim p,o=>gj z o (.int p.kind df)&&p.fitsB df
 | .str none,o=>gj z o (.string ⟨#[]⟩)
 | .str (some _),o=>gj z o (.pointer none)
 | .bytes _,o=>gj z o (.slice none 0 0)
 | .list _ _ _,o=>gj z o (.slice none 0 0)
 | .struct none toff fs,o=>zFds z fs o&&(match toff with|some k=>gj z (o+k) (.map none)|none=>true)
 | .struct (some _) _ _,o=>gj z o (.pointer none)
def zFds (z:Array Value):Fds->Nat->Bool
 | .nil,_=>true
 | .cons _ _ _ df off ty r,o=>sy z df ty (o+off)&&zFds z r o
end
def FM (z:Array Value)(toff:Option Nat):Bool:=match toff with|some k=>gj z k (.map none)|none=>true
def sw (w:World)(b q:Nat)(z:Array Value):Prop:=∀ j v,z[j]?=some v->w.cell? ⟨b,q+j,none⟩=some v
theorem sw.one {w:World}{b q o:Nat}{z:Array Value}{v:Value}(h:sw w b q z)(hz:gj z o v=true):w.cell? ⟨b,q+o,none⟩=some v:=h o v (qE hz)
theorem mb {w:World}{b o:Nat}{v:Value}(h:w.cell? ⟨b,o,none⟩=some v):ao w b o [v]:=by
 intro j c hj
 cases j with
 | zero=>simp at hj;subst hj;simpa using h
 | succ j=>simp at hj
mutual
theorem Ce {w:World}{b q:Nat}{z:Array Value}(hw:sw w b q z)(X:Nat->Prop):∀ (ty:Ty) (df:Int) (o:Nat),sy z df ty o=true->Rp w X ty b (q+o) (dl df ty)
 | .prim p,df,o,h=>by
  cases p
  case bool=>
   simp only[sy,Bool.or_eq_true,Bool.and_eq_true,beq_iff_eq]at h
   rcases h with⟨rfl,h⟩|⟨rfl,h⟩
   ·exact⟨_,mb (hw.one h),false,rfl,rfl⟩
   ·exact⟨_,mb (hw.one h),true,rfl,rfl⟩
  case uuid=>
   simp only[sy,List.all_eq_true,List.mem_range]at h
   refine⟨(rh.map fun b=>.int .u8 (b.toNat:Int)),?_,rh,rfl,rfl,rfl⟩
   intro j c hj
   have HY:j<16:=by
    have:=(List.getElem?_eq_some_iff.1 hj).1
    simpa[rh]using this
   have hc:c=.int .u8 0:=by
    rw[List.getElem?_map,rh,List.getElem?_replicate,if_pos HY]at hj
    simpa using hj.symm
   rw[hc]
   have:=hw.one (h j HY)
   rwa [<- Nat.add_assoc]at this
  all_goals
   simp only[sy,Bool.and_eq_true]at h
   exact⟨_,mb (hw.one h.1),_,rfl,rfl,cP.fitsB_ok h.2⟩
 | .str none,df,o,h=>⟨_,mb (hw.one h),[],rfl,rfl,by simp⟩
 | .str (some _),df,o,h=>⟨_,mb (hw.one h),.inl ⟨rfl,rfl⟩⟩
 | .bytes _,df,o,h=>⟨_,mb (hw.one h),.inl ⟨rfl,rfl⟩⟩
 | .list _ _ _,df,o,h=>.inl ⟨hw.one h,rfl⟩
 | .struct none toff fs,df,o,h=>by
  simp only[sy,Bool.and_eq_true]at h
  refine⟨_,[],rfl,zFds_ok hw X fs o h.1,?_⟩
  cases toff with
  | none=>rfl
  | some k=>
   refine⟨.map none,?_,.inl ⟨rfl,rfl⟩⟩
   have:=hw.one h.2
   rwa [<- Nat.add_assoc]at this
 | .struct (some _) _ _,df,o,h=>.inl ⟨hw.one h,rfl⟩
theorem zFds_ok {w:World}{b q:Nat}{z:Array Value}(hw:sw w b q z)(X:Nat->Prop):∀ (fs:Fds) (o:Nat),zFds z fs o=true->RpF w X fs b (q+o) (dfFds fs)
 | .nil,o,h=>rfl
 | .cons _ _ _ df off ty r,o,h=>by
  simp only[zFds,Bool.and_eq_true]at h
  refine⟨_,_,rfl,?_,zFds_ok hw X r o h.2⟩
  have:=Ce hw X ty df (o+off) h.1
  rwa [<- Nat.add_assoc]at this
end
theorem cW (O:Nat):∀ (wr:List (Nat × Value)) (cur:Array Value),(applyWr cur O wr).size=cur.size
 | [],_=>rfl
 | p::r,cur=>by
  show(applyWr (cur.setIfInBounds (O+p.1) p.2) O r).size=_
  rw[cW O r]
  simp
theorem ow (O:Nat):∀ (wr:List (Nat × Value)) (cur z:Array Value),(∀ p∈wr,p.1<z.size)->O+z.size<=cur.size->(∀ j,j<z.size->cur[O+j]?=z[j]?) ->
  ∀ j,j<z.size->(applyWr cur O wr)[O+j]?=(applyWr z 0 wr)[j]?
 | [],_,_,_,_,h,j,hj=>h j hj
 | p::r,cur,z,hp,hs,h,j,hj=>by
  show(applyWr (cur.setIfInBounds (O+p.1) p.2) O r)[O+j]?=(applyWr (z.setIfInBounds (0+p.1) p.2) 0 r)[j]?
  refine ow O r _ _ (fun q hq=>by simpa using hp q (by simp[hq])) (by simpa using hs) (fun i hi=>?_) j (by simpa using hj)
  simp only[Array.size_setIfInBounds]at hi
  have hpz:=hp p (by simp)
  rw[Array.getElem?_setIfInBounds,Array.getElem?_setIfInBounds,Nat.zero_add]
  by_cases he:p.1=i
  ·subst he
   rw[if_pos rfl,if_pos rfl,if_pos (by omega),if_pos hpz]
  ·rw[if_neg (by omega),if_neg he]
   exact h i hi
theorem i9 (O:Nat):∀ (wr:List (Nat × Value)) (cur:Array Value) (j:Nat),(∀ p∈wr,O+p.1≠j)->(applyWr cur O wr)[j]?=cur[j]?
 | [],_,_,_=>rfl
 | p::r,cur,j,h=>by
  show(applyWr (cur.setIfInBounds (O+p.1) p.2) O r)[j]?=_
  rw[i9 O r _ j (fun q hq=>h q (by simp[hq])),Array.getElem?_setIfInBounds,if_neg (h p (by simp))]
structure Ev where
 P:Program
 g:G
 av:PF->Bool
 D:Nat->Option (List (Nat × Value))
def Cf:Ty->List Nat->Bool
 | .str (some (_+1)),x=>x.length==1
 | .prim p,x=>x.length==0 || (x.length==2&&p != .uuid)
 | _,x=>x.length==0
def iF (e:Ev)(hf:Bool)(m k0:Nat)(ty:Ty)(v:Nat)(x:List Nat):Bool:=mn e.av hf ty&&jX m k0 v x&&Cf ty x
def Ty.agg:Ty->Bool
 | .prim .uuid=>true
 | _=>false
def Fds.In:Fds->Nat->Nat->Prop
 | .nil,_,_=>False
 | .cons _ _ _ _ off ty r,O,j=>(O+off<=j/\j<O+off+ty.sz) \/ r.In O j
def ku:Fds->Nat->Nat->Bool
 | .nil,_,_=>true
 | .cons _ _ _ _ off ty r,lo,hi=>(decide (off+ty.sz<=lo) || decide (hi<=off))&&ku r lo hi
def lB:Fds->Bool
 | .nil=>true
 | .cons _ _ _ _ off ty r=>ku r off (off+ty.sz)&&lB r
def Fds.plain:Fds->Bool
 | .nil=>true
 | .cons lo hi tag _ _ ty r=>(lo==0)&&hi.isNone&&tag.isNone&&ty.leaf&&r.plain
def Ty.inl:Ty->Bool
 | .struct none _ _=>true
 | _=>false
def p9 (p:Nat × Value):Fds->Bool
 | .nil=>false
 | .cons _ _ _ df off ty r=>(match ty with
   | .prim .bool=>off==p.1&&((df==0&&Dx p.2 (.bool false)) || (df==1&&Dx p.2 (.bool true)))
   | .prim .uuid=>false
   | .prim q=>off==p.1&&Dx p.2 (.int q.kind df)
   | _=>false) || p9 p r
def FC:Ty->Bool
 | .struct none _ fs=>fs.plain
 | _=>true
def wy (e:Ev)(hf:Bool)(m k0 T kt:Nat)(toff:Option Nat)(fs:Fds)(nm:Nm)(okf okt:Bool):Bool:=
 okf&&lB fs &&
 (match toff with|some o=>hf&&eB e.P T kt e.g.tTags o true 1&&ku fs o (o+1)|none=>!hf) &&
 (!(hf&&fs.tagged) || (decide (m<=nm.n 0/\nm.n 0<nm.n 1/\nm.n 1<k0)&&okt))
mutual
def qo (e:Ev)(hf:Bool)(m k0 T off:Nat):Ty->Nm->Bool
 | .prim p,nm=>iF e hf m k0 (.prim p) (nm.n 0) (nm.l.drop 4)&&nm.n 1==T&&eB e.P T (nm.n 2) (nm.n 3) off (Ty.agg (.prim p)) (Ty.sz (.prim p))&&(p != .uuid || jg e.P e.g.tUuid true 16)
 | .str nul,nm=>iF e hf m k0 (.str nul) (nm.n 0) (nm.l.drop 4)&&nm.n 1==T&&eB e.P T (nm.n 2) (nm.n 3) off false 1
 | .bytes nul,nm=>iF e hf m k0 (.bytes nul) (nm.n 0) []&&nm.n 1==T&&eB e.P T (nm.n 2) (nm.n 3) off false 1
 | .list _ esz el,nm=>
  decide (m<=nm.n 0/\nm.n 0<nm.n 4/\nm.n 4<nm.n 5/\nm.n 5<nm.n 6/\nm.n 6<k0)&&nm.n 1==T&&eB e.P T (nm.n 2) (nm.n 3) off false 1 &&
  (match nP e.P (nm.n 3) with
   | some (_,sz,z)=>sz==esz&&okEl e hf (nm.n 6+1) k0 esz z el (nm.sub 0)&&q5 e.g hf
   | none=>false)
 | .struct none toff fs,nm=>
  decide (m<=nm.n 0/\m<=nm.n 3/\nm.n 0<k0/\nm.n 3<k0/\nm.n 0≠nm.n 3)&&nm.n 1==T&&eB e.P T (nm.n 2) (qA e.P T (nm.n 2)) off true (nB e.P (qA e.P T (nm.n 2))) &&
  (match e.D (nm.n 4)with|some wr=>wr.all fun p=>decide (p.1<fs.ext (d9 toff))&&p9 p fs|none=>false)&&wy e hf (max (nm.n 0) (nm.n 3)+1) k0 (nm.n 5) (nm.n 6) toff fs (nm.sub 0) (okFds e hf (max (nm.n 0) (nm.n 3)+1) k0 (nm.n 5) fs (nm.sub 0).s) (okTagd e ((nm.sub 0).n 1+1) k0 (nm.n 5) fs (nm.sub 0).s)
 | .struct (some _) toff fs,nm=>
  decide (m<=nm.n 0/\m<=nm.n 4/\m<=nm.n 8/\nm.n 0<k0/\nm.n 4<k0/\nm.n 8<k0/\nm.n 0≠nm.n 4)&&nm.n 1==T&&eB e.P T (nm.n 2) (nm.n 3) off false 1&&(e.av .i8&&bL e.g.ok) &&
  (match zeroOf e.P (nm.n 9),e.D (nm.n 5) with
   | some z,some wr=>(wr.all fun p=>decide (p.1<z.cells.size))&&zFds (applyWr z.cells 0 wr) fs 0&&FM (applyWr z.cells 0 wr) toff&&decide (fs.ext (d9 toff)<=z.cells.size)
   | _,_=>false)&&wy e hf (max (nm.n 0) (nm.n 4)+1) k0 (nm.n 6) (nm.n 7) toff fs (nm.sub 0) (okFds e hf (max (nm.n 0) (nm.n 4)+1) k0 (nm.n 6) fs (nm.sub 0).s) (okTagd e ((nm.sub 0).n 1+1) k0 (nm.n 6) fs (nm.sub 0).s)
def okEl (e:Ev)(hf:Bool)(m k0 esz:Nat)(z:Array Value):Ty->Nm->Bool
 | .struct none toff fs,nm=>
  decide (m<=nm.n 0/\m<=nm.n 1/\nm.n 0<k0/\nm.n 1<k0/\nm.n 0≠nm.n 1) &&
  (match e.D (nm.n 2) with
   | some wr=>(wr.all fun p=>decide (p.1<esz))&&zFds (applyWr z 0 wr) fs 0&&FM (applyWr z 0 wr) toff&&decide (fs.ext (d9 toff)<=esz)
   | none=>false)&&wy e hf (max (nm.n 0) (nm.n 1)+1) k0 (nm.n 3) (nm.n 4) toff fs (nm.sub 0) (okFds e hf (max (nm.n 0) (nm.n 1)+1) k0 (nm.n 3) fs (nm.sub 0).s) (okTagd e ((nm.sub 0).n 1+1) k0 (nm.n 3) fs (nm.sub 0).s)
 | .struct (some _) _ _,_=>false
 | .list _ _ _,_=>false
 | .prim p,nm=>iF e hf m k0 (.prim p) (nm.n 0) (nm.l.drop 2)&&jg e.P (nm.n 1) (Ty.agg (.prim p)) (Ty.sz (.prim p))&&Ty.sz (.prim p)==esz&&(p != .uuid || jg e.P e.g.tUuid true 16)
 | .str nul,nm=>iF e hf m k0 (.str nul) (nm.n 0) (nm.l.drop 2)&&jg e.P (nm.n 1) false 1&&1==esz
 | .bytes nul,nm=>iF e hf m k0 (.bytes nul) (nm.n 0) (nm.l.drop 2)&&jg e.P (nm.n 1) false 1&&1==esz
def okFds (e:Ev)(hf:Bool)(m k0 T:Nat):Fds->List Nm->Bool
 | .nil,_=>true
 | .cons _ _ tag _ off ty r,ms=>(tag.isSome || qo e hf m k0 T off ty (ms.headD (.mk [] [])))&&okFds e hf m k0 T r ms.tail
def okTagd (e:Ev)(m k0 T:Nat):Fds->List Nm->Bool
 | .nil,_=>true
 | .cons _ _ tag _ off ty r,ms=>
  (match tag with
   | some t=>decide (t<4294967296)&&decide (m<=(ms.headD (.mk [] [])).n 0/\(ms.headD (.mk [] [])).n 0<k0/\m<=(ms.headD (.mk [] [])).n 1/\(ms.headD (.mk [] [])).n 1<k0) &&
    FC ty&&qo e true ((ms.headD (.mk [] [])).n 0+1) k0 T off ty ((ms.headD (.mk [] [])).sub 0)
   | none=>true)&&okTagd e m k0 T r ms.tail
end
inductive DI where
 | st (s T k F:Nat) (c:Value)
 | fa (v s T k:Nat)
 | nop (v:Nat)
def zL:DI->GC
 | .st s T k F c=>aA 3 fun n=>[mk (some n) (.move (tm s)),mk (some (n+1)) (.nilCheck (tm n)),mk (some (n+2)) (.fieldAddr T (tm (n+1)) k),mk none (.store F (tm (n+2)) (.const c))]
 | .fa v s T k=>eY s v T k
 | .nop v=>aA 1 fun n=>[mk (some n) (.move (tm v))]
def gDflt (items:List DI)(n0:Nat):Code:=(gS (items.map zL) n0).1
def EN:Value->Bool
 | .int _ _=>true
 | .bool _=>true
 | .pointer none=>true
 | _=>false
theorem AW {c:Value}(h:EN c=true):c.oneCell'=true/\c.cells=#[c]:=by
 cases c<;>first|exact⟨rfl,rfl⟩|cases h
def rJ (P:Program)(T k:Nat):Nat:=
 match P.underlying T with
 | some (.struct fs)=>(match fs[k]? with|some f=>f.offset|none=>0)
 | _=>0
def FW (P:Program)(F:Nat):Bool:=match P.underlying F with|some (.struct _)=>true|some (.array _ _)=>true|_=>false
def dRun (P:Program)(k0:Nat):List DI->List (Nat × Nat)->Option (List (Nat × Value))
 | [],_=>some []
 | .st s T k F c::r,env=>
  match env.lookup s with
  | some o=>if EN c&&eB P T k F (rJ P T k) false 1&&decide (s<k0) then(dRun P k0 r env).map fun wr=>(o+rJ P T k,c)::wr else none
  | none=>none
 | .fa v s T k::r,env=>
  match env.lookup s with
  | some o=>if decide (v<k0)&&decide (s<k0)&&eB P T k (qA P T k) (rJ P T k) (FW P (qA P T k)) (nB P (qA P T k))then dRun P k0 r ((v,o+rJ P T k)::env)else none
  | none=>none
 | .nop _::r,env=>dRun P k0 r env
theorem il {cur:Array Value}{i:Nat}{c:Value}(h:i<cur.size):aI cur i [c]=cur.setIfInBounds i c:=by
 apply Array.ext_getElem?
 intro j
 rw[Array.getElem?_setIfInBounds]
 by_cases hj:i=j
 ·subst hj
  rw[if_pos rfl,if_pos h]
  simpa using bU (cur:=cur) (o:=i) (vs:=[c]) (by simp;omega) 0 (by simp)
 ·rw[if_neg hj]
  exact cm (by simp;omega) j (by simp only[List.length_cons,List.length_nil];omega)
section
variable {P:Program} {B O te k0:Nat}
theorem lC:∀ (items:List DI) (env:List (Nat × Nat)) (wr:List (Nat × Value)) (n:Nat) (a:Act) (w:World) (cur:Array Value) (K:Act->World->Prop),dRun P k0 items env=some wr->(∀ s o,env.lookup s=some o->s<k0->a.get s=pt B (O+o))->k0<=n->(gL (items.map zL) n).2<=a.tmps.size ->
  w.heap[B]?=some (.cells cur te (0,0))->(∀ p∈wr,O+p.1<cur.size)->(∀ a' w',a'.defers=a.defers->ac (·=B) w w'->w'.heap[B]?=some (.cells (applyWr cur O wr) te (0,0))->K a' w')->LW P (items.map zL) n (Rt K fun _ _=>False) a w
 | [],env,wr,n,a,w,cur,K,h,K7,hk,hn,hB,hO,hK=>by
  obtain rfl:=Option.some.inj h
  exact bg (hK a w rfl (ac.refl _ _) hB)
 | .nop v::r,env,wr,n,a,w,cur,K,h,K7,hk,hn,hB,hO,hK=>by
  have Ib:n+1<=(gL (r.map zL) (n+1)).2:=mG (fun x hx=>by
   obtain⟨d,_,rfl⟩:=List.mem_map.1 hx
   cases d<;>exact aq _ _) _
  have hn':(gL (r.map zL) (n+1)).2<=a.tmps.size:=hn
  refine ad (au (ag (wpList_nil ?_)))
  refine lC r env wr (n+1) _ w cur K h (fun s o hs Jn=>by rw[ak (by omega)];exact K7 s o hs Jn) (by omega) (by rw[ab];exact hn') hB hO hK
 | .fa v s T k::r,env,wr,n,a,w,cur,K,h,K7,hk,hn,hB,hO,hK=>by
  have Ib:n+3<=(gL (r.map zL) (n+3)).2:=mG (fun x hx=>by
   obtain⟨d,_,rfl⟩:=List.mem_map.1 hx
   cases d<;>exact aq _ _) _
  have hn':(gL (r.map zL) (n+3)).2<=a.tmps.size:=hn
  unfold dRun at h
  split at h
  ·rename_i o HG
   split at h
   ·rename_i hc
    simp only[Bool.and_eq_true,decide_eq_true_eq]at hc
    obtain⟨⟨hv,hs⟩,hF⟩:=hc
    refine ad (jD (x:=v) (m:=k0) (k0:=k0) (O:=O+o) (K7 s o HG hs) (fldB_ok hF) (.inl rfl) (Nat.le_refl _) hk (by omega) (by omega) fun a1 Gk Gv=>?_)
    refine lC r _ wr (n+3) a1 w cur K h (fun s' o' hs' Jn=>?_) (by omega) (by rw[Gk.size];exact hn') hB hO (fun a' w' hd=>hK a' w' (hd.trans Gk.defers))
    by_cases he:s'=v
    ·subst he
     rw[List.lookup_cons_self]at hs'
     obtain rfl:=Option.some.inj hs'
     rw[Gv,Nat.add_assoc]
    ·rw[List.lookup_cons,show(s'==v)=false by simpa using he]at hs'
     rw[Gk.get s' he (.inl Jn)]
     exact K7 s' o' hs' Jn
   ·cases h
  ·cases h
 | .st s T k F c::r,env,wr,n,a,w,cur,K,h,K7,hk,hn,hB,hO,hK=>by
  have Ib:n+3<=(gL (r.map zL) (n+3)).2:=mG (fun x hx=>by
   obtain⟨d,_,rfl⟩:=List.mem_map.1 hx
   cases d<;>exact aq _ _) _
  have hn':(gL (r.map zL) (n+3)).2<=a.tmps.size:=hn
  unfold dRun at h
  split at h
  ·rename_i o HG
   split at h
   ·rename_i hc
    simp only[Bool.and_eq_true,decide_eq_true_eq]at hc
    obtain⟨⟨GG,hF⟩,hs⟩:=hc
    obtain⟨h1,h2⟩:=AW GG
    have NV:=fldB_ok hF
    cases hr:dRun P k0 r env with
    | none=>rw[hr]at h;cases h
    | some wr'=>
     rw[hr]at h
     obtain rfl:=Option.some.inj h
     have hO1:O+(o+rJ P T k)<cur.size:=hO (o+rJ P T k,c) (List.mem_cons_self ..)
     refine ad (au (ag ?_))
     rw[aa,K7 s o HG hs]
     refine aL (by rw[aa,am (by omega)];rfl) ?_
     refine bR (by rw[aa,am (by simp only[ab];omega)]) NV ?_
     refine bw (cur:=cur) (t:=te) (v:=c) (vs:=[c]) (by rw[aa,am (by simp only[ab];omega)]) rfl (by rw[h2]) (NV.var.size _) hB (by simp only[List.length_cons,List.length_nil];omega) (fun u hu=>by simp at hu;rw[hu];exact h1) (wpList_nil ?_)
     rw[Nat.add_assoc,il hO1]
     refine lC r env wr' (n+3) _ _ (cur.setIfInBounds (O+(o+rJ P T k)) c) K hr (fun s' o' hs' Jn=>?_) (by omega) (by simp only[ab];exact hn') (setRow_heap _ _ _ _ _ _ hB) (fun p hp=>by simpa using hO p (by simp[hp])) fun a' w' hd H5 Pn=>?_
     ·rw[ak (by omega),ak (by omega),ak (by omega)]
      exact K7 s' o' hs' Jn
     ·exact hK a' w' (by rw[hd];simp only[ai]) ((ac.setRow (fun k=>k=B) w B (cur.setIfInBounds (O+(o+rJ P T k)) c) rfl).trans H5) Pn
   ·cases h
  ·cases h
end
theorem bX (args:Array Value)(n i:Nat)(h:i<args.size):({ tmps:=args++Array.replicate (n-args.size) undef,defers:=[] }:Act).get i=args[i]:=by
 simp[Act.get,Array.getElem?_append_left h,h]
theorem cH (args:Array Value)(n:Nat)(h:args.size<=n):(args++Array.replicate (n-args.size) undef).size=n:=by
 simp;omega
theorem dfC_of {P:Program}(hm:P.follows .mixedOrders=true){f ntmps n0:Nat}{items:List DI}{wr:List (Nat × Value)}(h:FnIs P f ntmps [] (gDflt items n0))(hr:dRun P n0 items [(0,0)]=some wr)(hn:(gL (items.map zL) n0).2<=ntmps)(h0:0<n0):Ent P f/\DfC P f wr:=by
 refine⟨h.ent,fun w B O cur te hB hO=>h.calls hm (by simp) ?_⟩
 have Ib:n0<=(gL (items.map zL) n0).2:=mG (fun x hx=>by
   obtain⟨d,_,rfl⟩:=List.mem_map.1 hx
   cases d<;>exact aq _ _) _
 have hs:=cH #[pt B O] ntmps (by show 1<=ntmps;omega)
 refine mM (bm (lC items [(0,0)] wr n0 _ w cur (fun a w'=>a.defers=[]/\ac (·=B) w w'/\w'.heap[B]?=some (.cells (applyWr cur O wr) te (0,0))) hr (fun s o LZ Jn=>?_) (Nat.le_refl _) (by rw[hs];exact hn) hB hO fun a' w' hd hk Pn=>⟨hd,hk,Pn⟩)) (fun a w' hh=>⟨hh.1,rfl,hh.2⟩) (fun a w' hh=>hh.elim)
 rw[List.lookup_cons]at LZ
 split at LZ
 ·rename_i he
  obtain rfl:=Option.some.inj LZ
  have:s=0:=by simpa using he
  subst this
  rw[bX _ _ _ (by simp)]
  rfl
 ·simp at LZ
def fT (A:Nat->Prop)(S:Nat)(T:(Nat->Prop)->Prop):Prop:=∀ X:Nat->Prop,(∀ k,X k->A k)->¬ X S->T X
theorem fT.mono {A A':Nat->Prop}{S:Nat}{T:(Nat->Prop)->Prop}(h:fT A S T)(ha:∀ k,A' k->A k):fT A' S T:=fun X hX hS=>h X (fun k hk=>ha k (hX k hk)) hS
def oz (w:World)(B n te:Nat):Prop:=∃ cur,w.heap[B]?=some (.cells cur te (0,0))/\n<=cur.size
theorem oz.lt {w:World}{B n te:Nat}(h:oz w B n te):B<w.heap.size:=by
 obtain⟨cur,h,_⟩:=h
 exact(Array.getElem?_eq_some_iff.1 h).1
theorem oz.evo {R B n te:Nat}{Z:Nat->Prop}{w w':World}(h:em R B Z w w')(hb:oz w B n te):oz w' B n te:=by
 obtain⟨cur,h1,h2⟩:=hb
 obtain⟨cs,h3,h4,_⟩:=h.blk cur te h1
 exact⟨cs,h3,by omega⟩
theorem oz.mono {w:World}{B n n' te:Nat}(h:oz w B n te)(hn:n'<=n):oz w B n' te:=by
 obtain⟨cur,h1,h2⟩:=h
 exact⟨cur,h1,by omega⟩
theorem fg:∀ (fs:Fds) (lo hi O j:Nat),ku fs lo hi=true->fs.In O j->¬ (O+lo<=j/\j<O+hi)
 | .nil,_,_,_,_,_,h=>h.elim
 | .cons _ _ _ _ off ty r,lo,hi,O,j,h,hj=>by
  simp only[ku,Bool.and_eq_true,Bool.or_eq_true,decide_eq_true_eq]at h
  rcases hj with hj|hj
  ·omega
  ·exact fg r lo hi O j h.2 hj
theorem z7:∀ (fs:Fds) (m O j:Nat),fs.In O j->O<=j/\j<O+fs.ext m
 | .nil,_,_,_,h=>h.elim
 | .cons _ _ _ _ off ty r,m,O,j,h=>by
  have h1:=jn r (Nat.max m (off+ty.sz))
  have h2:off+ty.sz<=Nat.max m (off+ty.sz):=Nat.le_max_right _ _
  simp only[Fds.ext]
  rcases h with h|h
  ·omega
  ·exact z7 r _ O j h
theorem RpF.frameIn {X:Nat->Prop}{w w':World}(hk:ac X w w'):∀ (fs:Fds) (b o:Nat) (vs:List V),RpF w X fs b o vs->(∀ j,fs.In o j->w'.cell? ⟨b,j,none⟩=w.cell? ⟨b,j,none⟩)->RpF w' X fs b o vs
 | .nil,b,o,vs,h,_=>h
 | .cons _ _ _ _ off ty r,b,o,vs,h,hs=>by
  obtain⟨v,vs',h1,h2,h3⟩:=h
  exact⟨v,vs',h1,Rp.frame hk ty b (o+off) v h2 (fun j ha hb=>hs j (.inl ⟨ha,hb⟩)),RpF.frameIn hk r b o vs' h3 (fun j hj=>hs j (.inr hj))⟩
section evo
variable {A:Nat->Prop} {S R B O n te:Nat} {Z:Nat->Prop} {w w':World}
theorem Rp.evoA (h:em R B Z w w')(hR:A R)(hB:A B)(hRS:R≠S)(JK:B≠S)(hb:oz w B n te){ty:Ty}{o:Nat}{v:V}(hv:fT A S fun X=>Rp w X ty B o v)(hd:∀ j,o<=j->j<o+ty.sz->¬ Z j):fT A S fun X=>Rp w' X ty B o v:=by
 intro X hX hS
 obtain⟨cur,hc,_⟩:=hb
 have h1:=hv (fun k=>X k \/ k=R \/ k=B) (fun k hk=>by rcases hk with hk|rfl|rfl<;>first|exact hX k hk|assumption) (fun hk=>by rcases hk with hk|hk|hk<;>first|exact hS hk|exact hRS hk.symm|exact JK hk.symm)
 have h2:=Rp.frame (h.keeps.mono fun k _ hk=>.inr hk) ty B o v h1 fun j h3 h4=>h.cell hc (hd j h3 h4)
 exact Rp.mono (fun k _ hk=>.inl hk) ty B o v h2
theorem RpF.evoA (h:em R B Z w w')(hR:A R)(hB:A B)(hRS:R≠S)(JK:B≠S)(hb:oz w B n te){fs:Fds}{vs:List V}(hv:fT A S fun X=>RpF w X fs B O vs)(hd:∀ j,fs.In O j->¬ Z j):fT A S fun X=>RpF w' X fs B O vs:=by
 intro X hX hS
 obtain⟨cur,hc,_⟩:=hb
 have h1:=hv (fun k=>X k \/ k=R \/ k=B) (fun k hk=>by rcases hk with hk|rfl|rfl<;>first|exact hX k hk|assumption) (fun hk=>by rcases hk with hk|hk|hk<;>first|exact hS hk|exact hRS hk.symm|exact JK hk.symm)
 have h2:=RpF.frameIn (h.keeps.mono fun k _ hk=>.inr hk) fs B O vs h1 fun j hj=>h.cell hc (hd j hj)
 exact RpF.mono (fun k _ hk=>.inl hk) fs B O vs h2
theorem eJ.evoA (h:em R B Z w w')(hR:A R)(hB:A B)(hRS:R≠S)(JK:B≠S)(hb:oz w B n te){toff:Option Nat}{t:List (Nat × Bs)}(hv:fT A S fun X=>eJ w X B O toff t)(hd:∀ k,toff=some k->¬ Z (O+k)):fT A S fun X=>eJ w' X B O toff t:=by
 intro X hX hS
 obtain⟨cur,hc,_⟩:=hb
 have h1:=hv (fun k=>X k \/ k=R \/ k=B) (fun k hk=>by rcases hk with hk|rfl|rfl<;>first|exact hX k hk|assumption) (fun hk=>by rcases hk with hk|hk|hk<;>first|exact hS hk|exact hRS hk.symm|exact JK hk.symm)
 exact(h1.frame (h.keeps.mono fun k _ hk=>.inr hk) fun k hk=>h.cell hc (hd k hk)).mono fun k _ hk=>.inl hk
theorem RpF.evo0 (h:em R B Z w w')(hb:oz w B n te){fs:Fds}{vs:List V}(hv:∀ X,RpF w X fs B O vs)(hd:∀ j,fs.In O j->¬ Z j):∀ X,RpF w' X fs B O vs:=by
 intro X
 obtain⟨cur,hc,_⟩:=hb
 have h1:=hv (fun k=>X k \/ k=R \/ k=B)
 have h2:=RpF.frameIn (h.keeps.mono fun k _ hk=>.inr hk) fs B O vs h1 fun j hj=>h.cell hc (hd j hj)
 exact RpF.mono (fun k _ hk=>.inl hk) fs B O vs h2
end evo
structure wX {α:Type}(g:G)(S R B:Nat)(Z:Nat->Prop)(m k0 n:Nat)(a:Act)(w:World)(out:gF α)(G:α->World->Prop)(K E:Act->World->Prop):Prop where
 ok:∀ v r' a' w',out=.ok v r'->Pv 6 m k0 n a a'->cQ w' g.tR S R r'->em R B Z w w'->G v w'->K a' w'
 err:out=.err->∀ a' w',Pv 6 m k0 n a a'->(∃ t y,a'.get 6=.iface t y)->ac (fun k=>k=R \/ k=B) w w'->E a' w'
 go:out≠.stuck
structure Env (P:Program)(g:G)(av:PF->Bool)(fl:Bool)(D:Nat->Option (List (Nat × Value))):Prop where
 kb:KB P g av fl
 df:∀ f wr,D f=some wr->Ent P f/\DfC P f wr
def sp (w:World)(B o:Nat)(fx:Bool):Ty->V->Prop
 | .list nul esz e,old=>Rp w (fun _=>False) (.list nul esz e) B o old
 | .struct (some q) toff fs,old=>Rp w (fun _=>False) (.struct (some q) toff fs) B o old
 | .struct none toff fs,old=>(fs.plain=true/\fx=true) \/ (old=.st (dfFds fs) []/\∀ X,Rp w X (.struct none toff fs) B o old)
 | _,_=>True
section
variable (P:Program) (g:G) (av:PF->Bool) (fl:Bool) (D:Nat->Option (List (Nat × Value)))
def qL (ty:Ty):Prop:=
 ∀ (nm:Nm) (cx:Cx) (fx:Bool) (ver:Int) (S R B O:Nat) (r:RS) (m k0 n T off:Nat) (old:V) (K E:Act->World->Prop) (a:Act) (w:World) (te:Nat),
  qo ⟨P,g,av,D⟩ cx.hf m k0 T off ty nm=true->RC g cx fx ver S R B O r a w->eb cx m k0->(cx.hf=true->fl=true)->k0<=n->k0<=a.tmps.size->(gL (lJ g cx ty nm) n).2<=a.tmps.size->oz w B (O+off+ty.sz) te->sp w B (O+off) fx ty old ->
  wX g S R B (fun j=>O+off<=j/\j<O+off+ty.sz) m k0 n a w (e7 fx ver ty old r) (fun v w'=>sx w S fun X=>Rp w' X ty B (O+off) v) K E->LW P (lJ g cx ty nm) n (Rt K E) a w
def pz (fs:Fds):Prop:=
 ∀ (ms:List Nm) (cx:Cx) (fx:Bool) (ver:Int) (S R B O:Nat) (r:RS) (m k0 n T mm:Nat) (K E:Act->World->Prop) (a:Act) (w:World) (te:Nat),
  okFds ⟨P,g,av,D⟩ cx.hf m k0 T fs ms=true->lB fs=true->RC g cx fx ver S R B O r a w->eb cx m k0->(cx.hf=true->fl=true)->k0<=n->k0<=a.tmps.size->(gL (gFds g cx fs ms) n).2<=a.tmps.size->oz w B (O+fs.ext mm) te ->
  (fs.plain=true \/ ∀ X,RpF w X fs B O (dfFds fs)) ->
  wX g S R B (fs.In O) m k0 n a w (rdFds fx ver fs r) (fun vs w'=>sx w S fun X=>RpF w' X fs B O vs) K E->LW P (gFds g cx fs ms) n (Rt K E) a w
end
section
variable {P:Program} {g:G} {av:PF->Bool} {fl:Bool} {D:Nat->Option (List (Nat × Value))}
theorem Bh:pz P g av fl D .nil:=by
 intro ms cx fx ver S R B O r m k0 n T mm K E a w te _ _ Gl hc _ hk _ _ _ _ ho
 exact bg (ho.ok [] r a w rfl (Pv.refl _ _ _ _ _) Gl.rd (em.refl _ _ _ _) (fun X _ _=>rfl))
theorem fi {w w1:World}{S:Nat}{T:(Nat->Prop)->Prop}(h:sx w1 S T)(hs:w.heap.size<=w1.heap.size):sx w S T:=fun X hX hS=>h X (fun k hk=>Nat.lt_of_lt_of_le (hX k hk) hs) hS
theorem oj {lo:Nat}{hi tag:Option Nat}{df:Int}{off:Nat}{ty:Ty}{r0:Fds}(h2:pz P g av fl D r0){ms:List Nm}{cx:Cx}{fx:Bool}{ver:Int}{S R B O:Nat}{r r1:RS}{m k0 n n2 T mm:Nat}{K E:Act->World->Prop}{a a1:Act}{w w1:World}{te:Nat}{v:V}
  (G1:okFds ⟨P,g,av,D⟩ cx.hf m k0 T r0 ms=true) (IW:ku r0 off (off+ty.sz)=true) (IJ:lB r0=true) (Gl:RC g cx fx ver S R B O r a w) (hc:eb cx m k0) (Gw:cx.hf=true->fl=true) (hk:k0<=n) (GU:n<=n2) (Hu:k0<=a.tmps.size)
  (hn:(gL (gFds g cx r0 ms) n2).2<=a.tmps.size) (hb:oz w B (O+(Fds.cons lo hi tag df off ty r0).ext mm) te) (Iy:r0.plain=true \/ ∀ X,RpF w X r0 B O (dfFds r0)) (hp:Pv 6 m k0 n a a1) (J0:cQ w1 g.tR S R r1) (HO:em R B (fun j=>O+off<=j/\j<O+off+ty.sz) w w1)
  (hv:sx w S fun X=>Rp w1 X ty B (O+off) v)
  (ho:wX g S R B ((Fds.cons lo hi tag df off ty r0).In O) m k0 n a w ((rdFds fx ver r0 r1).bind fun vs r=>.ok (v::vs) r) (fun vs w'=>sx w S fun X=>RpF w' X (.cons lo hi tag df off ty r0) B O vs) K E) :
  LW P (gFds g cx r0 ms) n2 (Rt K E) a1 w1:=by
 have Jb:R<w.heap.size:=Gl.rd.lt
 have IT:B<w.heap.size:=hb.lt
 have Id:∀ j,r0.In O j->¬ (O+off<=j/\j<O+off+ty.sz):=fun j hj hh=>fg r0 off (off+ty.sz) O j IW hj ⟨hh.1,by omega⟩
 have Gu:=hp.size
 have G6:RC g cx fx ver S R B O r1 a1 w1:=Gl.step hc hp J0 HO.keeps (fun _ _ h=>h)
 have Hc:=hb.evo HO
 refine h2 ms cx fx ver S R B O r1 m k0 n2 T (Nat.max mm (off+ty.sz)) K E a1 w1 te G1 IJ G6 hc Gw (by omega) (by omega) (by omega) Hc ?_ ⟨fun vs r2 a2 w2 he Gm GJ GO Hz=>?_,fun he a2 w2 Gm hif Gs=>?_,fun he=>?_⟩
 ·rcases Iy with Iy|Iy
  ·exact .inl Iy
  ·exact .inr (RpF.evo0 HO hb Iy Id)
 ·refine ho.ok (v::vs) r2 a2 w2 (by rw[he];rfl) (hp.trans (Gm.mono (Nat.le_refl _) GU)) GJ ((HO.mono fun j hj=>.inl hj).trans (GO.mono fun j hj=>.inr hj)) fun X hX hS=>⟨v,vs,rfl,?_,?_⟩
  ·exact Rp.evoA (A:=(·<w.heap.size)) GO Jb IT Gl.SR.symm Gl.BS Hc hv (fun j ha hb hj=>Id j hj ⟨ha,hb⟩) X hX hS
  ·exact fi Hz HO.keeps.size X hX hS
 ·exact ho.err (by rw[he];rfl) a2 w2 (hp.trans (Gm.mono (Nat.le_refl _) GU)) hif (HO.keeps.trans Gs)
 ·exact ho.go (by rw[he];rfl)
theorem zf {w:World}{B o:Nat}{fx:Bool}{ty:Ty}{df:Int}(h:∀ X,Rp w X ty B o (dl df ty)):sp w B o fx ty (dl df ty):=by
 cases ty with
 | struct nul toff fs=>
  cases nul with
  | none=>exact .inr ⟨rfl,h⟩
  | some q=>exact h _
 | list nul esz e=>exact h _
 | _=>trivial
theorem tw {w:World}{B o:Nat}{fx:Bool}{ty:Ty}{old:V}(hi:ty.leaf=true):sp w B o fx ty old:=by
 cases ty<;>first|trivial|cases hi
theorem zP {lo:Nat}{hi tag:Option Nat}{df:Int}{off:Nat}{ty:Ty}{r0:Fds}(h1:qL P g av fl D ty)(h2:pz P g av fl D r0):pz P g av fl D (.cons lo hi tag df off ty r0):=by
 intro ms cx fx ver S R B O r m k0 n T mm K E a w te G1 IJ Gl hc Gw hk Hu hn hb Iy ho
 simp only[okFds,Bool.and_eq_true,Bool.or_eq_true]at G1
 simp only[lB,Bool.and_eq_true]at IJ
 have Jb:R<w.heap.size:=Gl.rd.lt
 have IT:B<w.heap.size:=hb.lt
 have KY:=jn r0 (Nat.max mm (off+ty.sz))
 have QU:off+ty.sz<=Nat.max mm (off+ty.sz):=Nat.le_max_right _ _
 have Ib:iM (gFds g cx r0 ms.tail):=up_gFds g r0 _ cx
 by_cases ht:tag.isNone=true/\l6 lo hi ver=true
 ·obtain⟨Oi,H2⟩:=ht
  have JQ:tag.isSome=false:=by cases tag<;>first|rfl|cases Oi
  simp only[JQ,Bool.false_eq_true,false_or]at G1
  obtain⟨O1,Kw⟩:=G1
  have Jm:iM (lJ g cx ty (ms.headD (.mk [] []))):=nx g ty _ cx
  simp only[gFds,Oi,if_true]at hn ⊢
  have Oe:=Ib (dX g cx lo hi (gS (lJ g cx ty (ms.headD (.mk [] [])))) n).2
  simp only[gL]at hn
  refine ad ?_
  rw[aV]
  refine qa (x:=6) (m:=m) (k0:=k0) (ver:=ver) Gl.sv hc.le hk (by have:=hc.ver;have:=hc.le;omega) (eE Jm) (by omega) (fun a' n' hp If GU hg _=>?_) (fun a' hp H1=>by rw[H2]at H1;cases H1)
  have hs:=hp.size
  have hrc':RC g cx fx ver S R B O r a' w:=Gl.step hc hp Gl.rd (ac.refl (fun _=>False) w) (fun _ _ h=>h.elim)
  have hnT:=Jm n'
  have GA:(dX g cx lo hi (gS (lJ g cx ty (ms.headD (.mk [] [])))) n).2=(gL (lJ g cx ty (ms.headD (.mk [] []))) n').2:=hg
  have HH:sp w B (O+off) fx ty (dl df ty):=by
   rcases Iy with Iy|Iy
   ·simp only[Fds.plain,Bool.and_eq_true]at Iy
    exact tw Iy.1.2
   ·exact zf fun X=>by obtain⟨v,vs',he,hv,_⟩:=Iy X;cases he;exact hv
  have Nh:r0.plain=true \/ ∀ X,RpF w X r0 B O (dfFds r0):=by
   rcases Iy with Iy|Iy
   ·simp only[Fds.plain,Bool.and_eq_true]at Iy
    exact .inl Iy.2
   ·exact .inr fun X=>by obtain⟨v,vs',he,_,hv⟩:=Iy X;cases he;exact hv
  have Ot:rdFds fx ver (.cons lo hi tag df off ty r0) r=(e7 fx ver ty (dl df ty) r).bind fun v r=>(rdFds fx ver r0 r).bind fun vs r=>.ok (v::vs) r:=by simp[rdFds,Oi,H2]
  rw[Ot]at ho
  refine bm (h1 _ cx fx ver S R B O r m k0 n' T off (dl df ty) _ E a' w te O1 hrc' hc Gw (by omega) (by omega) (by omega) (hb.mono (by simp only[Fds.ext];omega)) HH ⟨fun v r1 a1 w1 he Gk HQ I9 Iu=>?_,fun he a1 w1 Gk hif Gy=>?_,fun he=>?_⟩)
  ·rw[he]at ho
   exact oj h2 Kw IJ.1 IJ.2 Gl hc Gw hk (by omega) Hu hn hb Nh (hp.trans (Gk.mono (Nat.le_refl _) If)) HQ I9 Iu ho
  ·exact ho.err (by rw[he];rfl) a1 w1 (hp.trans (Gk.mono (Nat.le_refl _) If)) hif Gy
  ·exact ho.go (by rw[he];rfl)
 ·have VE:¬ (Fds.cons lo hi tag df off ty r0).plain=true:=by
   intro hp
   simp only[Fds.plain,Bool.and_eq_true,beq_iff_eq]at hp
   refine ht ⟨hp.1.1.2,?_⟩
   have hh:hi=none:=by cases hi<;>first|rfl|simp at hp
   simp[l6,hp.1.1.1.1,hh]
  have hpl':∀ X,RpF w X (.cons lo hi tag df off ty r0) B O (dfFds (.cons lo hi tag df off ty r0)):=by
   rcases Iy with h|h
   ·exact absurd h VE
   ·exact h
  have Nh:r0.plain=true \/ ∀ X,RpF w X r0 B O (dfFds r0):=.inr fun X=>by obtain⟨v,vs',he,_,hv⟩:=hpl' X;cases he;exact hv
  have Lh:sx w S fun X=>Rp w X ty B (O+off) (dl df ty):=fun X _ _=>by obtain⟨v,vs',he,hv,_⟩:=hpl' X;cases he;exact hv
  have Ot:rdFds fx ver (.cons lo hi tag df off ty r0) r=(rdFds fx ver r0 r).bind fun vs r=>.ok (dl df ty::vs) r:=by
   have:(tag.isNone&&l6 lo hi ver)=false:=by
    cases h:(tag.isNone&&l6 lo hi ver) with
    | false=>rfl
    | true=>simp only[Bool.and_eq_true]at h;exact absurd h ht
   simp[rdFds,this]
  rw[Ot]at ho
  cases Oi:tag.isNone with
  | false=>
   simp only[gFds,Oi,Bool.false_eq_true,if_false]at hn ⊢
   exact oj h2 G1.2 IJ.1 IJ.2 Gl hc Gw hk (Nat.le_refl _) Hu hn hb Nh (Pv.refl _ _ _ _ _) Gl.rd (em.refl _ _ _ _) Lh ho
  | true=>
   have Jm:iM (lJ g cx ty (ms.headD (.mk [] []))):=nx g ty _ cx
   simp only[gFds,Oi,if_true]at hn ⊢
   simp only[gL]at hn
   have Oe:=Ib (dX g cx lo hi (gS (lJ g cx ty (ms.headD (.mk [] [])))) n).2
   have MY:n<=(dX g cx lo hi (gS (lJ g cx ty (ms.headD (.mk [] [])))) n).2:=by
    have hu:Up (dX g cx lo hi (gS (lJ g cx ty (ms.headD (.mk [] []))))):=by
     unfold dX
     split
     ·exact cg (eE Jm) (b7 _)
     ·exact fq (eE Jm) (cg (eE Jm) (b7 _))
    exact hu n
   refine ad ?_
   rw[aV]
   refine qa (x:=6) (m:=m) (k0:=k0) (ver:=ver) Gl.sv hc.le hk (by have:=hc.ver;have:=hc.le;omega) (eE Jm) (by omega) (fun a' n' hp If GU hg H2=>absurd ⟨Oi,H2⟩ ht) (fun a' hp H1=>?_)
   have hs:=hp.size
   exact oj h2 G1.2 IJ.1 IJ.2 Gl hc Gw hk MY Hu hn hb Nh hp Gl.rd (em.refl _ _ _ _) Lh ho
end
section
variable {P:Program} {g:G} {av:PF->Bool} {fl:Bool} {D:Nat->Option (List (Nat × Value))}
theorem iv.one {w:World}{X:Nat->Prop}{ty:Ty}{cs:List Value}{v:V}(h:iv w X ty cs v):∀ u∈cs,u.oneCell'=true:=by
 cases ty with
 | prim p=>
  cases p
  case bool=>obtain⟨b,rfl,_⟩:=h;intro u hu;simp at hu;subst hu;rfl
  case uuid=>
   obtain⟨l,hl,rfl,_⟩:=h
   intro u hu
   obtain⟨b,_,rfl⟩:=List.mem_map.1 hu
   rfl
  all_goals (obtain⟨x,rfl,_⟩:=h;intro u hu;simp at hu;subst hu;rfl)
 | str nul=>
  cases nul with
  | none=>obtain⟨l,rfl,_⟩:=h;intro u hu;simp at hu;subst hu;rfl
  | some m=>
   rcases h with⟨rfl,_⟩|⟨l,b,o,rfl,_⟩<;>(intro u hu;simp at hu;subst hu;rfl)
 | bytes nul=>
  rcases h with⟨rfl,_⟩|⟨l,b,o,c,rfl,_⟩<;>(intro u hu;simp at hu;subst hu;rfl)
 | list=>exact h.elim
 | struct=>exact h.elim
theorem uT {w:World}{X:Nat->Prop}{ty:Ty}{b o:Nat}{v:V}{cs:List Value}(hl:ty.leaf=true)(hc:ao w b o cs)(h:iv w X ty cs v):Rp w X ty b o v:=by
 cases ty<;>first|exact⟨cs,hc,h⟩|cases hl
theorem qM {ty:Ty}{x:List Nat}(h:Cf ty x=true):(∃ t,x=[t]/\∃ q,ty=.str (some (q+1))) \/ (x=[]/\∀ q,ty≠.str (some (q+1))) \/ (∃ t u,x=[t,u]/\∃ p,ty=.prim p/\p≠.uuid):=by
 cases ty with
 | prim p=>
  simp only[Cf,Bool.or_eq_true,beq_iff_eq,Bool.and_eq_true,bne_iff_ne]at h
  rcases h with h|⟨h,hp⟩
  ·exact .inr (.inl ⟨List.length_eq_zero_iff.1 h,fun q hq=>by cases hq⟩)
  ·match x,h with
   | [t,u],_=>exact .inr (.inr ⟨t,u,rfl,p,rfl,hp⟩)
 | str nul=>
  cases nul with
  | none=>simp only[Cf,beq_iff_eq]at h;exact .inr (.inl ⟨List.length_eq_zero_iff.1 h,fun q hq=>by cases hq⟩)
  | some q=>
   cases q with
   | zero=>simp only[Cf,beq_iff_eq]at h;exact .inr (.inl ⟨List.length_eq_zero_iff.1 h,fun q hq=>by cases hq⟩)
   | succ q=>
    simp only[Cf,beq_iff_eq]at h
    obtain⟨t,rfl⟩:=List.length_eq_one_iff.1 h
    exact .inl ⟨t,rfl,q,rfl⟩
 | _=>simp only[Cf,beq_iff_eq]at h;exact .inr (.inl ⟨List.length_eq_zero_iff.1 h,fun q hq=>by cases hq⟩)
theorem qz (K0:KB P g av fl){ty:Ty}(hl:ty.leaf=true){nm:Nm}{cx:Cx}{fx:Bool}{ver:Int}{S R B O:Nat}{r:RS}{m k0 n T off:Nat}{K E:Act->World->Prop}{a:Act}{w:World}{te:Nat}{x:List Nat}{old:V}
  (hg:lJ g cx ty nm=ib g cx ty (nm.n 0) x++[iI (k6 g ty) cx.s (nm.n 0) (nm.n 1) (nm.n 2) (nm.n 3)]) (HG:iF ⟨P,g,av,D⟩ cx.hf m k0 ty (nm.n 0) x=true) {agg:Bool} (hF:bp P (nm.n 1) (nm.n 2) (nm.n 3) off agg ty.sz)
  (KL:k6 g ty=none \/ (k6 g ty=some g.tUuid/\bd P g.tUuid true ty.sz)) (_hT:nm.n 1=T)
  (Gl:RC g cx fx ver S R B O r a w) (hc:eb cx m k0) (hk:k0<=n) (Hu:k0<=a.tmps.size) (hn:(gL (lJ g cx ty nm) n).2<=a.tmps.size) (hb:oz w B (O+off+ty.sz) te)
  (ho:wX g S R B (fun j=>O+off<=j/\j<O+off+ty.sz) m k0 n a w (e7 fx ver ty old r) (fun v w'=>sx w S fun X=>Rp w' X ty B (O+off) v) K E):LW P (lJ g cx ty nm) n (Rt K E) a w:=by
 have Jb:R<w.heap.size:=Gl.rd.lt
 have IT:B<w.heap.size:=hb.lt
 simp only[iF,Bool.and_eq_true]at HG
 obtain⟨⟨h1,h2⟩,h3⟩:=HG
 have JM:m<=nm.n 0/\nm.n 0<k0:=by simp only[jX,Bool.and_eq_true,decide_eq_true_eq]at h2;exact h2.1
 have G5:=hc.le
 rw[hg]at hn ⊢
 rw[bc]at hn
 simp only[gL,iI,aA]at hn
 have Ib:=gT g cx ty (nm.n 0) x n
 refine Bz K0 (ver:=ver) h1 Gl hc hk h2 Hu (qM h3) (by omega) fun a1 w1 hp=>?_
 obtain⟨cs,Gk,hval,HQ,Gy,Jq⟩:=hp
 have Gu:=Gk.size
 have LF:=Jq (fun _=>False) (fun _ h=>h.elim) id
 have Gp:=LF.len
 obtain⟨cur,hB,G0⟩:=hb
 have JL:w1.heap[B]?=some (.cells cur te (0,0)):=by rw[Gy.block B IT Gl.BR];exact hB
 have G6:RC g cx fx ver S R B O (ef fx ver ty r).2 a1 w1:=Gl.step hc Gk HQ Gy (fun _ _ h=>.inl h)
 refine ad (uP (x:=6) (m:=m) (k0:=k0) (cs:=cs) (cur:=cur) (te:=te) G6.ss hF ?_ Gp LF.one JL (by omega) G5 (by omega) (by omega) (by omega) fun a2 Gm=>bg ?_)
 ·rcases KL with hu|⟨hu,hU⟩
  ·rw[hu]at hval ⊢;exact hval
  ·rw[hu]at hval ⊢;exact⟨by rw[Gp];exact hU,hval⟩
 ·have HO:em R B (fun j=>O+off<=j/\j<O+off+ty.sz) w1 (w1.setRow B (aI cur (O+off) cs)):=em.store JL (by rw[Gp];omega) (fun j ha hb=>⟨ha,by rw[Gp]at hb;omega⟩)
  refine ho.ok _ _ a2 _ (oY fx ver ty old r hl) (Gk.trans (Gm.mono (Nat.le_refl _) Ib)) (HQ.keep (ac.setRow (fun k=>k=B) _ _ _ rfl) (fun h=>Gl.BS h.symm) (fun h=>Gl.BR h.symm))
   ((em.of_keeps Gy (fun _ _ h=>h) Gl.BR).trans HO) fun X hX hS=>?_
  refine uT hl (fun j c hj=>?_) (((Jq (fun k=>X k \/ k=B) (fun k hk=>by rcases hk with hk|rfl<;>first|exact hX k hk|exact IT) (fun hk=>by rcases hk with hk|hk<;>first|exact hS hk|exact Gl.BS hk.symm)).keep
   (ac.setRow (fun k=>X k \/ k=B) _ _ _ (.inr rfl))).mono fun k _ hk=>.inl hk)
  have HY:j<cs.length:=(List.getElem?_eq_some_iff.1 hj).1
  rw[cell_setRow_same _ _ _ _ _ _ _ JL,bU (by omega) j HY]
  exact hj
theorem A6 (K0:KB P g av fl)(p:cP):qL P g av fl D (.prim p):=by
 intro nm cx fx ver S R B O r m k0 n T off old K E a w te G1 Gl hc _ hk Hu hn hb _ ho
 simp only[qo,Bool.and_eq_true,beq_iff_eq,Bool.or_eq_true,bne_iff_ne]at G1
 obtain⟨⟨⟨h1,h2⟩,h3⟩,h4⟩:=G1
 subst h2
 refine qz (D:=D) (x:=nm.l.drop 4) K0 rfl (by simp only[lJ]) h1 (fldB_ok h3) ?_ rfl Gl hc hk Hu hn hb ho
 by_cases hp:p=.uuid
 ·subst hp
  rcases h4 with h|h
  ·exact absurd rfl h
  ·exact .inr ⟨rfl,varB_ok h⟩
 ·exact .inl (by cases p<;>first|rfl|exact absurd rfl hp)
theorem Cr (K0:KB P g av fl)(nul:Option Nat):qL P g av fl D (.str nul):=by
 intro nm cx fx ver S R B O r m k0 n T off old K E a w te G1 Gl hc _ hk Hu hn hb _ ho
 simp only[qo,Bool.and_eq_true,beq_iff_eq]at G1
 obtain⟨⟨h1,h2⟩,h3⟩:=G1
 subst h2
 exact qz (D:=D) (x:=nm.l.drop 4) K0 rfl (by simp only[lJ,k6]) h1 (fldB_ok h3) (.inl rfl) rfl Gl hc hk Hu hn hb ho
theorem xK (K0:KB P g av fl)(nul:Option Nat):qL P g av fl D (.bytes nul):=by
 intro nm cx fx ver S R B O r m k0 n T off old K E a w te G1 Gl hc _ hk Hu hn hb _ ho
 simp only[qo,Bool.and_eq_true,beq_iff_eq]at G1
 obtain⟨⟨h1,h2⟩,h3⟩:=G1
 subst h2
 exact qz (D:=D) (x:=[]) K0 rfl (by simp only[lJ,k6]) h1 (fldB_ok h3) (.inl rfl) rfl Gl hc hk Hu hn hb ho
theorem em.inner {R B R':Nat}{Z Z':Nat->Prop}{w w1 w2:World}(h:em R B Z w w1)(k:em R' B Z' w1 w2)(Wh:w.heap.size<=R'):em R B (fun j=>Z j \/ Z' j) w w2:=by
 refine⟨⟨k.keeps.os.trans h.keeps.os,k.keeps.tape.trans h.keeps.tape,k.keeps.output.trans h.keeps.output,Nat.le_trans h.keeps.size k.keeps.size,fun i hi hx=>?_⟩,fun cs te hc=>?_⟩
 ·rw[k.keeps.block i (Nat.lt_of_lt_of_le hi h.keeps.size) (fun hh=>by rcases hh with rfl|rfl;omega;exact hx (.inr rfl)),h.keeps.block i hi hx]
 ·obtain⟨c1,h1,h2,h3⟩:=h.blk cs te hc
  obtain⟨c2,k1,k2,k3⟩:=k.blk c1 te h1
  exact⟨c2,k1,k2.trans h2,fun j hj=>(k3 j fun hh=>hj (.inr hh)).trans (h3 j fun hh=>hj (.inl hh))⟩
def inner (r:RS):RS:=⟨(b9 (bD r).1 (bD r).2).1.octets,false,(b9 (bD r).1 (bD r).2).1.isNul⟩
def ov (r:RS):RS:=(b9 (bD r).1 (bD r).2).2
end
section
variable (P:Program) (g:G) (av:PF->Bool) (fl:Bool) (D:Nat->Option (List (Nat × Value)))
def kP (fs:Fds):Prop:=
 ∀ (ms:List Nm) (cx:Cx) (ver:Int) (S R B O:Nat) (r:RS) (m k0 n T mm key kk:Nat) (dflt:Code) (vs:List V) (A:Nat->Prop) (K E:Act->World->Prop) (a:Act) (w:World) (te:Nat),
  okTagd ⟨P,g,av,D⟩ m k0 T fs ms=true->lB fs=true->RC g cx true ver S R B O r a w->eb cx m k0->cx.hf=true->fl=true->k0<=n->k0<=a.tmps.size->(eZ g key dflt (gTagd g cx fs ms) n).2<=a.tmps.size->oz w B (O+fs.ext mm) te ->
  a.get key=.int .u32 kk->k0<=key->key<n->A R->A B->(∀ k,A k->k<w.heap.size)->fT A S (fun X=>RpF w X fs B O vs) ->
  (rdTag true ver fs kk=none->∀ a',Pv 6 m k0 n a a'->a'.get key=.int .u32 kk->aQ P dflt (Rt K E) a' w) ->
  (∀ gf,rdTag true ver fs kk=some gf ->
   (∀ vs' r' a' w',gf vs (inner r)=.ok vs' r'->r'.bad=false->Pv 6 m k0 n a a'->cQ w' g.tR S R (ov r)->em R B (fs.In O) w w'->fT A S (fun X=>RpF w' X fs B O vs')->K a' w') /\
   ((gf vs (inner r)=.err \/ ∃ vs' r',gf vs (inner r)=.ok vs' r'/\r'.bad=true)->∀ a' w',Pv 6 m k0 n a a'->(∃ t y,a'.get 6=.iface t y)->ac (fun k=>k=R \/ k=B) w w'->E a' w')/\gf vs (inner r)≠.stuck) ->
  aQ P (eZ g key dflt (gTagd g cx fs ms) n).1 (Rt K E) a w
end
section
variable {P:Program} {g:G} {av:PF->Bool} {fl:Bool} {D:Nat->Option (List (Nat × Value))}
theorem zU:kP P g av fl D .nil:=by
 intro ms cx ver S R B O r m k0 n T mm key kk dflt vs A K E a w te _ _ Gl hc _ _ hk _ _ _ HJ _ _ _ _ _ _ Hx _
 exact Hx rfl a (Pv.refl _ _ _ _ _) HJ
theorem pr {lo:Nat}{hi tag:Option Nat}{df:Int}{off:Nat}{ty:Ty}{r0:Fds}(h2:kP P g av fl D r0){ms:List Nm}{cx:Cx}{ver:Int}{S R B O:Nat}{r:RS}{m k0 n n2 T mm key kk:Nat}{dflt:Code}{v:V}{vs:List V}{A:Nat->Prop}{K E:Act->World->Prop}{a a1:Act}{w:World}{te:Nat}
  (G1:okTagd ⟨P,g,av,D⟩ m k0 T r0 ms=true) (IW:ku r0 off (off+ty.sz)=true) (IJ:lB r0=true) (Gl:RC g cx true ver S R B O r a w) (hc:eb cx m k0) (GR:cx.hf=true) (Gw:fl=true) (_hk:k0<=n) (GU:n<=n2) (Hu:k0<=a.tmps.size)
  (hn:(eZ g key dflt (gTagd g cx r0 ms) n2).2<=a.tmps.size) (hb:oz w B (O+(Fds.cons lo hi tag df off ty r0).ext mm) te) (hp:Pv 6 m k0 n a a1) (HJ:a1.get key=.int .u32 kk) (Hk:k0<=key) (Kl:key<n) (NW:A R) (NX:A B) (hA:∀ k,A k->k<w.heap.size)
  (hv:fT A S fun X=>Rp w X ty B (O+off) v) (Hz:fT A S fun X=>RpF w X r0 B O vs) (Ie:(tag==some kk)=false)
  (Hx:rdTag true ver (.cons lo hi tag df off ty r0) kk=none->∀ a',Pv 6 m k0 n a a'->a'.get key=.int .u32 kk->aQ P dflt (Rt K E) a' w)
  (Io:∀ gf,rdTag true ver (.cons lo hi tag df off ty r0) kk=some gf ->
   (∀ vs' r' a' w',gf (v::vs) (inner r)=.ok vs' r'->r'.bad=false->Pv 6 m k0 n a a'->cQ w' g.tR S R (ov r)->em R B ((Fds.cons lo hi tag df off ty r0).In O) w w'->fT A S (fun X=>RpF w' X (.cons lo hi tag df off ty r0) B O vs')->K a' w') /\
   ((gf (v::vs) (inner r)=.err \/ ∃ vs' r',gf (v::vs) (inner r)=.ok vs' r'/\r'.bad=true)->∀ a' w',Pv 6 m k0 n a a'->(∃ t y,a'.get 6=.iface t y)->ac (fun k=>k=R \/ k=B) w w'->E a' w')/\gf (v::vs) (inner r)≠.stuck) :
  aQ P (eZ g key dflt (gTagd g cx r0 ms) n2).1 (Rt K E) a1 w:=by
 have Gu:=hp.size
 have Id:∀ j,r0.In O j->¬ (O+off<=j/\j<O+off+ty.sz):=fun j hj hh=>fg r0 off (off+ty.sz) O j IW hj ⟨hh.1,by omega⟩
 have G6:RC g cx true ver S R B O r a1 w:=Gl.step hc hp Gl.rd (ac.refl (fun _=>False) w) (fun _ _ h=>h.elim)
 have RV:rdTag true ver (.cons lo hi tag df off ty r0) kk=(rdTag true ver r0 kk).map fun g vs r=>(g vs.tail r).bind fun vs' r'=>.ok (vs.headD .nul::vs') r':=by simp[rdTag,Ie]
 rw[RV]at Hx Io
 refine h2 ms cx ver S R B O r m k0 n2 T (Nat.max mm (off+ty.sz)) key kk dflt vs A K E a1 w te G1 IJ G6 hc GR Gw (by omega) (by omega) (by omega) hb HJ Hk (by omega) NW NX hA Hz (fun h a' GK H5=>Hx (by rw[h];rfl) a' (hp.trans (GK.mono (Nat.le_refl _) GU)) H5) fun gf L0=>?_
 obtain⟨k1,k2,k3⟩:=Io _ (by rw[L0];rfl)
 simp only[List.tail_cons,List.headD_cons]at k1 k2 k3
 refine⟨fun vs' r' a' w' he GT GK J0 HO LO=>?_,fun he a' w' GK hif hkp=>?_,fun he=>?_⟩
 ·refine k1 (v::vs') r' a' w' (by rw[he];rfl) GT (hp.trans (GK.mono (Nat.le_refl _) GU)) J0 (HO.mono fun j hj=>.inr hj) fun X hX hS=>⟨v,vs',rfl,?_,LO X hX hS⟩
  exact Rp.evoA HO NW NX Gl.SR.symm Gl.BS hb hv (fun j ha hb hj=>Id j hj ⟨ha,hb⟩) X hX hS
 ·refine k2 ?_ a' w' (hp.trans (GK.mono (Nat.le_refl _) GU)) hif hkp
  rcases he with he|⟨vs',r',he,GT⟩
  ·exact .inl (by rw[he];rfl)
  ·exact .inr ⟨_,r',by rw[he];rfl,GT⟩
 ·exact k3 (by rw[he];rfl)
theorem wQ (K0:KB P g av fl){lo:Nat}{hi tag:Option Nat}{df:Int}{off:Nat}{ty:Ty}{r0:Fds}(h1:qL P g av fl D ty)(h2:kP P g av fl D r0):kP P g av fl D (.cons lo hi tag df off ty r0):=by
 intro ms cx ver S R B O r m k0 n T mm key kk dflt vs A K E a w te G1 IJ Gl hc GR Gw hk Hu hn hb HJ Hk Kl NW NX hA Hz Hx Io
 simp only[okTagd,Bool.and_eq_true]at G1
 simp only[lB,Bool.and_eq_true]at IJ
 obtain⟨v,vs',J5,hv,LO⟩:∃ v vs',vs=v::vs'/\fT A S (fun X=>Rp w X ty B (O+off) v)/\fT A S (fun X=>RpF w X r0 B O vs'):=by
  obtain⟨v,vs',he,_,_⟩:=Hz (fun _=>False) (fun _ h=>h.elim) id
  refine⟨v,vs',he,fun X hX hS=>?_,fun X hX hS=>?_⟩
  ·obtain⟨v2,vs2,IB,h,_⟩:=Hz X hX hS
   rw[he]at IB
   cases IB
   exact h
  ·obtain⟨v2,vs2,IB,_,h⟩:=Hz X hX hS
   rw[he]at IB
   cases IB
   exact h
 subst J5
 cases tag with
 | none=>
  simp only[gTagd]at hn ⊢
  exact pr (tag:=none) (lo:=lo) (hi:=hi) (df:=df) (off:=off) (ty:=ty) h2 G1.2 IJ.1 IJ.2 Gl hc GR Gw hk (Nat.le_refl _) Hu hn hb (Pv.refl _ _ _ _ _) HJ Hk Kl NW NX hA hv LO rfl Hx Io
 | some t=>
  simp only[Bool.and_eq_true,decide_eq_true_eq]at G1
  obtain⟨⟨⟨⟨ht,G7⟩,TS⟩,O1⟩,Kw⟩:=G1
  generalize hm:ms.headD (.mk [] [])=mh at *
  have G5:=hc.le
  have N3:=hc.six
  have Nz:=hc.b
  have SA:=li (g:=g) (key:=key) (dflt:=dflt) (l:=gTagd g cx r0 ms.tail) (up_gTagd g r0 ms.tail cx)
  have Jm:=nx g ty (mh.sub 0) { cx with b:=mh.n 0 }
  have Jb:R<w.heap.size:=Gl.rd.lt
  have IT:B<w.heap.size:=hb.lt
  simp only[gTagd,hm]at hn ⊢
  generalize H8:(gS ([oi g cx.b (mh.n 0)]++lJ g { cx with b:=mh.n 0 } ty (mh.sub 0)++[mR g (mh.n 0) (mh.n 1)]):GC)=body at hn ⊢
  have Hj:(body (n+2)).2=(gL (lJ g { cx with b:=mh.n 0 } ty (mh.sub 0)) (n+6)).2+4:=by
   rw[<- H8]
   simp only[gS,bc,gL]
   rfl
  have hn':(eZ g key dflt (gTagd g cx r0 ms.tail) (body (n+2)).2).2<=a.tmps.size:=hn
  have hupr':=SA (body (n+2)).2
  have hupT':=Jm (n+6)
  refine C7 (x:=6) (m:=m) (k0:=k0) HJ Kl G5 hk (by omega) (fun Jr a0 NE=>?_) (fun Jr a0 NE hkey0=>?_)
  ·subst Jr
   have Jn:=NE.size
   have Tf:RC g cx true ver S R B O r a0 w:=Gl.step hc NE Gl.rd (ac.refl (fun _=>False) w) (fun _ _ h=>h.elim)
   obtain⟨k1,k2,k3⟩:=Io (fun vs r=>(e7 true ver ty (vs.headD .nul) r).bind fun v r=>.ok (v::vs.tail) r) (by simp only[rdTag,BEq.rfl,if_true])
   simp only[List.headD_cons,List.tail_cons]at k1 k2 k3
   rw[<- H8]
   refine bm ?_
   show LW P (oi g cx.b (mh.n 0)::(lJ g { cx with b:=mh.n 0 } ty (mh.sub 0)++[mR g (mh.n 0) (mh.n 1)])) (n+2) (Rt K E) a0 w
   refine ad (AI K0 Gw Tf hc ⟨G7.1,G7.2.1⟩ (by omega) (by omega) fun a1 w1 R' Gk Hc Wh Tb hrdO JX=>?_)
   have Gu:=Gk.size
   have IG:Pv 6 m k0 n a a1:=NE.trans (Gk.mono (Nat.le_refl _) (by omega))
   have I9:em R B (fun _=>False) w w1:=em.of_keeps JX (fun _ _ h=>h) Gl.BR
   have herr:ErrAt g.gErr w:=Gl.err
   obtain⟨te',ye,MK⟩:=herr
   have LJ:=cM MK
   have Td:RC g { cx with b:=mh.n 0 } true ver S R' B O (inner r) a1 w1:=
    ⟨Tb,Hc,(IG.get _ hc.s.2 (.inl hc.s.1)).trans Gl.ss,(IG.get _ hc.ver.2 (.inl hc.ver.1)).trans Gl.sv,fun _=>(IG.get _ hc.fx.2 (.inl hc.fx.1)).trans (Gl.sf GR),fun h=>(by rw[GR]at h;cases h),
     (IG.get 2 (by omega) (.inl (by omega))).trans Gl.su,ErrAt.keep ⟨te',ye,MK⟩ JX Gl.gR,by have:=Gl.Slt;omega,by omega,Gl.BS,by omega,Gl.gB,Nat.lt_of_lt_of_le Gl.Slt JX.size⟩
   have hcI:eb { cx with b:=mh.n 0 } (mh.n 0+1) k0:=
    ⟨⟨by simp,by simp only;omega⟩,⟨by have:=hc.s;simp only;omega,hc.s.2⟩,⟨by have:=hc.ver;simp only;omega,hc.ver.2⟩,⟨by have:=hc.fx;simp only;omega,hc.fx.2⟩,by omega,by omega⟩
   have HH:sp w1 B (O+off) true ty v:=by
    have hX:∀ X:Nat->Prop,X=(fun _=>False)->Rp w1 X ty B (O+off) v:=fun X hX=>by
     subst hX
     exact Rp.evoA I9 NW NX Gl.SR.symm Gl.BS hb hv (fun _ _ _ h=>h) _ (fun _ h=>h.elim) id
    cases ty with
    | struct nul toff fs=>
     cases nul with
     | none=>exact .inl ⟨TS,rfl⟩
     | some q=>exact hX _ rfl
    | list nul esz e=>exact hX _ rfl
    | _=>trivial
   have KY:=jn r0 (Nat.max mm (off+ty.sz))
   have QU:off+ty.sz<=Nat.max mm (off+ty.sz):=Nat.le_max_right _ _
   have hb1':=hb.evo I9
   have P4:(oi g cx.b (mh.n 0) (n+2)).2=n+6:=rfl
   rw[P4]
   refine fj ?_
   rw[aV]
   refine h1 (mh.sub 0) { cx with b:=mh.n 0 } true ver S R' B O (inner r) (mh.n 0+1) k0 (n+6) T off v _ E a1 w1 te (by simp only[GR];exact O1) Td hcI (fun _=>Gw) (by omega) (by omega) (by omega) (hb1'.mono (by simp only[Fds.ext];omega)) HH
    ⟨fun u r' a2 w2 he Gm GJ GO hu=>?_,fun he a2 w2 Gm hif Gs=>?_,fun he=>?_⟩
   ·have G9:=Gm.size
    have OJ:a2.get (mh.n 0)=pt R' 0:=by rw[Gm.get _ (by omega) (.inl (by omega))];exact Hc
    have IA:ErrAt g.gErr w2:=(ErrAt.keep (ErrAt.keep ⟨te',ye,MK⟩ JX Gl.gR) GO.keeps (fun h=>by rcases h with h|h;omega;exact Gl.gB h))
    have GQ:Pv 6 m k0 n a a2:=IG.trans (Gm.mono (by omega) (by omega))
    have NM:=I9.inner GO Wh
    refine ad ?_
    rw[aV]
    refine yb (m:=m) (k0:=k0) K0 Gw OJ GJ IA N3 ⟨G7.2.2.1,G7.2.2.2⟩ G5 (by omega) (by omega) (fun GT a3 w3 Gt hif Gx=>?_) (fun GT a3 w3 Gt Gx=>bg ?_)
    ·exact k2 (.inr ⟨u::vs',r',by rw[he];rfl,GT⟩) a3 w3 (GQ.trans (Gt.mono (Nat.le_refl _) (by omega))) hif (NM.keeps.trans (Gx.mono fun _ _ h=>h.elim))
    ·have KZ:em R B (fun _=>False) w2 w3:=em.of_keeps Gx (fun _ _ h=>h.elim) Gl.BR
     have NL:em R B (fun j=>O+off<=j/\j<O+off+ty.sz) w w3:=(NM.trans (KZ.mono fun _ h=>h.elim)).mono fun j hj=>by rcases hj with h|h;exact h.elim;exact h
     refine k1 (u::vs') r' a3 w3 (by rw[he];rfl) GT (GQ.trans (Gt.mono (Nat.le_refl _) (by omega))) ?_ (NL.mono fun j hj=>.inl hj) fun X hX hS=>⟨u,vs',rfl,?_,?_⟩
     ·exact(hrdO.keep GO.keeps (fun h=>by rcases h with h|h;(have:=Gl.Slt;omega);exact Gl.BS h.symm) (fun h=>by rcases h with h|h;omega;exact Gl.BR h.symm)).keep Gx id id
     ·have Lp:fT A S fun X=>Rp w2 X ty B (O+off) u:=fun X hX hS=>hu X (fun k hk=>Nat.lt_of_lt_of_le (hA k (hX k hk)) JX.size) hS
      exact Rp.evoA KZ NW NX Gl.SR.symm Gl.BS (hb1'.evo GO) Lp (fun _ _ _ h=>h) X hX hS
     ·exact RpF.evoA NL NW NX Gl.SR.symm Gl.BS hb LO (fun j hj hh=>fg r0 off (off+ty.sz) O j IJ.1 hj ⟨hh.1,by omega⟩) X hX hS
   ·refine k2 (.inl (by rw[he];rfl)) a2 w2 (IG.trans (Gm.mono (by omega) (by omega))) hif ?_
    exact⟨Gs.os.trans JX.os,Gs.tape.trans JX.tape,Gs.output.trans JX.output,Nat.le_trans JX.size Gs.size,fun i hi hx=>by
     rw[Gs.block i (Nat.lt_of_lt_of_le hi JX.size) (fun hh=>by rcases hh with rfl|rfl;omega;exact hx (.inr rfl)),JX.block i hi (fun hh=>hx (.inl hh))]⟩
   ·exact k3 (by rw[he];rfl)
  ·have Ib:n<=(body (n+2)).2:=by omega
   exact pr (tag:=some t) (lo:=lo) (hi:=hi) (df:=df) (off:=off) (ty:=ty) h2 Kw IJ.1 IJ.2 Gl hc GR Gw hk Ib Hu hn' hb NE hkey0 Hk Kl NW NX hA hv LO (by simp;omega) Hx Io
end
def Fds.Zn (fs:Fds)(toff:Option Nat)(O j:Nat):Prop:=fs.In O j \/ ∃ o,toff=some o/\j=O+o
theorem xf {fs:Fds}{toff:Option Nat}{O j:Nat}(h:fs.Zn toff O j):O<=j/\j<O+fs.ext (d9 toff):=by
 rcases h with h|⟨o,rfl,rfl⟩
 ·exact z7 fs _ O j h
 ·have:o+1<=fs.ext (o+1):=jn fs (o+1)
  have e:fs.ext (d9 (some o))=fs.ext (o+1):=rfl
  omega
def ky (w:World)(B O:Nat)(toff:Option Nat):Prop:=match toff with|some k=>w.cell? ⟨B,O+k,none⟩=some (.map none)|none=>True
theorem ky.at {w:World}{B O:Nat}{toff:Option Nat}(h:ky w B O toff)(X:Nat->Prop):eJ w X B O toff []:=by
 cases toff with
 | none=>rfl
 | some k=>exact⟨_,h,.inl ⟨rfl,rfl⟩⟩
section
variable (P:Program) (g:G) (av:PF->Bool) (fl:Bool) (D:Nat->Option (List (Nat × Value)))
def Aj (fs:Fds):Prop:=
 ∀ (nm:Nm) (cx:Cx) (fx:Bool) (ver:Int) (S R B O:Nat) (r:RS) (m k0 n T kt:Nat) (toff:Option Nat) (K E:Act->World->Prop) (a:Act) (w:World) (te:Nat),
  wy ⟨P,g,av,D⟩ cx.hf m k0 T kt toff fs nm (okFds ⟨P,g,av,D⟩ cx.hf m k0 T fs nm.s) (okTagd ⟨P,g,av,D⟩ (nm.n 1+1) k0 T fs nm.s)=true->RC g cx fx ver S R B O r a w->eb cx m k0->(cx.hf=true->fl=true)->k0<=n->k0<=a.tmps.size ->
  (gL (fI g cx fs.tagged T kt nm (gFds g cx fs nm.s) (gTagd g cx fs nm.s)) n).2<=a.tmps.size->oz w B (O+fs.ext (d9 toff)) te ->
  ((fs.plain=true/\fx=true) \/ ((∀ X,RpF w X fs B O (dfFds fs))/\ky w B O toff)) ->
  wX g S R B (fs.Zn toff O) m k0 n a w (fz fx fs.tagged (rdFds fx ver fs) (rdTag fx ver fs) r)
   (fun v w'=>∃ vs t,v=.st vs t/\sx w S (fun X=>RpF w' X fs B O vs)/\sx w S (fun X=>eJ w' X B O toff t)) K E ->
  LW P (fI g cx fs.tagged T kt nm (gFds g cx fs nm.s) (gTagd g cx fs nm.s)) n (Rt K E) a w
end
section
variable {P:Program} {g:G} {av:PF->Bool} {fl:Bool} {D:Nat->Option (List (Nat × Value))}
theorem jJ:∀ (fs:Fds),fs.plain=true->fs.tagged=false
 | .nil,_=>rfl
 | .cons lo hi tag df off ty r,h=>by
  simp only[Fds.plain,Bool.and_eq_true]at h
  have ht:tag=none:=by cases tag<;>first|rfl|simp at h
  simp[Fds.tagged,ht,jJ r h.2]
def Bp (g:G)(S R B O o:Nat)(fs:Fds)(ver:Int)(w0:World)(out:gF V)(c:Nat)(w:World):Prop:=
 ∃ (vs:List V) (t:List (Nat × Bs)) (r:RS) (mm:Value),out=bW (rdTag true ver fs) c vs t r/\cQ w g.tR S R r/\em R B (fun j=>fs.In O j \/ j=O+o) w0 w/\w.cell? ⟨B,O+o,none⟩=some mm /\
  ((mm=.map none/\t=[]) \/ ∃ q,mm=.map (some q)/\w0.heap.size<=q/\q<w.heap.size) /\
  fT (fun k=>k<w0.heap.size \/ mm=.map (some k)) S (fun X=>RpF w X fs B O vs)/\fT (·<w0.heap.size) S (fun X=>eJ w X B O (some o) t)
theorem pP {S R B O o:Nat}{fs:Fds}{w0 w w':World}{vs:List V}{t t':List (Nat × Bs)}{mm:Value}{q te:Nat}{cur:Array Value}(Jb:R<w0.heap.size)(IT:B<w0.heap.size)(hSw:S<w0.heap.size)(hRS:R≠S)(JK:B≠S)(MO:B≠R)
  (HO:em R B (fun j=>fs.In O j \/ j=O+o) w0 w) (hB:w.heap[B]?=some (.cells cur te (0,0))) (IW:ku fs o (o+1)=true) (hO:O+o<cur.size)
  (IQ:(mm=.map none/\t=[]) \/ ∃ p,mm=.map (some p)/\w0.heap.size<=p/\p<w.heap.size)
  (hF:fT (fun k=>k<w0.heap.size \/ mm=.map (some k)) S (fun X=>RpF w X fs B O vs)) (hT:fT (·<w0.heap.size) S (fun X=>cN w X mm t))
  (M7:mm=.map none->w.heap.size<=q) (Ip:∀ p,mm=.map (some p)->q=p) (hk:ac (fun b=>b=R \/ b=B \/ b=q) w w') (Pn:w'.heap[B]?=some (.cells (cur.setIfInBounds (O+o) (.map (some q))) te (0,0)))
  (H9:∀ X:Nat->Prop,¬ X q->(∀ k,X k->k<w.heap.size)->¬ X S->cN w (fun k=>X k \/ k=R) mm t->cN w' X (.map (some q)) t') :
  em R B (fun j=>fs.In O j \/ j=O+o) w0 w'/\w'.cell? ⟨B,O+o,none⟩=some (.map (some q))/\w0.heap.size<=q/\q<w'.heap.size /\
  fT (fun k=>k<w0.heap.size \/ Value.map (some q)=.map (some k)) S (fun X=>RpF w' X fs B O vs)/\fT (·<w0.heap.size) S (fun X=>eJ w' X B O (some o) t'):=by
 have G0:=HO.keeps.size
 have hqw:w0.heap.size<=q:=by
  rcases IQ with⟨h,_⟩|⟨p,h,hp,_⟩
  ·exact Nat.le_trans G0 (M7 h)
  ·rw[Ip p h];exact hp
 have Gn:w'.cell? ⟨B,O+o,none⟩=some (.map (some q)):=by
  simp[World.cell?,Pn,hO]
 have R0:fT (·<w0.heap.size) S (fun X=>cN w' X (.map (some q)) t'):=fun X hX hS=>by
  refine H9 X (fun Pg=>?_) (fun k hk=>Nat.lt_of_lt_of_le (hX k hk) G0) hS (hT _ (fun k hk=>by rcases hk with hk|rfl;exact hX k hk;exact Jb) (fun hk=>by rcases hk with hk|hk;exact hS hk;exact hRS hk.symm))
  have:=hX q Pg
  simp only at this
  omega
 have Ox:q<w'.heap.size:=by
  rcases R0 (fun _=>False) (fun _ h=>h.elim) id with⟨h,_⟩|⟨r,h,_,hr,_⟩
  ·cases h
  ·cases h;exact hr
 have Kc:∀ j,fs.In O j->w'.cell? ⟨B,j,none⟩=w.cell? ⟨B,j,none⟩:=fun j hj=>by
  have Ie:O+o≠j:=fun h=>fg fs o (o+1) O j IW hj ⟨by omega,by omega⟩
  simp[World.cell?,hB,Pn,Ie]
 refine⟨⟨⟨hk.os.trans HO.keeps.os,hk.tape.trans HO.keeps.tape,hk.output.trans HO.keeps.output,Nat.le_trans G0 hk.size,fun i hi hx=>?_⟩,fun cs te' hc=>?_⟩,Gn,hqw,Ox,fun X hX hS=>?_,fun X hX hS=>⟨_,Gn,R0 X hX hS⟩⟩
 ·rw[hk.block i (Nat.lt_of_lt_of_le hi G0) (fun h=>by rcases h with h|h|h;exact hx (.inl h);exact hx (.inr h);omega),HO.keeps.block i hi hx]
 ·obtain⟨c1,h1,h2,h3⟩:=HO.blk cs te' hc
  rw[hB]at h1
  obtain⟨rfl,rfl,_⟩:=Obj.cells.inj (Option.some.inj h1)
  refine⟨_,Pn,by simpa using h2,fun j hj=>?_⟩
  rw[Array.getElem?_setIfInBounds,if_neg (fun h=>hj (.inr h.symm))]
  exact h3 j hj
 ·have h1:=hF (fun k=>(X k/\(k<w0.heap.size \/ mm=.map (some k))) \/ k=R \/ k=B \/ (mm=.map (some q)/\k=q)) (fun k hk=>by
   rcases hk with hk|rfl|rfl|⟨hm,rfl⟩
   ·exact hk.2
   ·exact .inl Jb
   ·exact .inl IT
   ·exact .inr hm) (fun hk=>by
   rcases hk with hk|hk|hk|⟨_,hk⟩
   ·exact hS hk.1
   ·exact hRS hk.symm
   ·exact JK hk.symm
   ·omega)
  have h2:RpF w (fun k=>X k \/ k=R \/ k=B \/ k=q) fs B O vs:=RpF.mono (fun k ME hk=>by
   have V8:k=q->mm=.map (some q):=fun he=>by
    rcases IQ with⟨h,_⟩|⟨p,h,_,_⟩
    ·have:=M7 h;omega
    ·rw[h,Ip p h]
   rcases hk with hk|hk|hk|hk
   ·refine .inl ⟨hk,?_⟩
    rcases hX k hk with h|h
    ·exact .inl h
    ·simp only[Value.map.injEq,Option.some.injEq]at h
     subst h
     exact .inr (V8 rfl)
   ·exact .inr (.inl hk)
   ·exact .inr (.inr (.inl hk))
   ·exact .inr (.inr (.inr ⟨V8 hk,hk⟩))) fs B O vs h1
  have h3:=RpF.frameIn (hk.mono fun k _ hk=>.inr hk) fs B O vs h2 Kc
  exact RpF.mono (fun k _ hk=>.inl hk) fs B O vs h3
theorem lD {cx:Cx}{m m' k0:Nat}(h:eb cx m k0)(hm:m<=m')(hk:m'<=k0):eb cx m' k0:=
 ⟨⟨by have:=h.b;omega,h.b.2⟩,⟨by have:=h.s;omega,h.s.2⟩,⟨by have:=h.ver;omega,h.ver.2⟩,⟨by have:=h.fx;omega,h.fx.2⟩,by have:=h.six;omega,hk⟩
theorem xN (K0:KB P g av fl){fs:Fds}(h2:kP P g av fl D fs){nm:Nm}{cx:Cx}{ver:Int}{S R B O o:Nat}{r0:RS}{m k0 n T kt _mm:Nat}{E:Act->World->Prop}{a a1:Act}{w0 w1:World}{te:Nat}{out:gF V}{c:Nat}{i:Nat}
  (G1:okTagd ⟨P,g,av,D⟩ (nm.n 1+1) k0 T fs nm.s=true) (IJ:lB fs=true) (hF:bp P T kt g.tTags o true 1) (IW:ku fs o (o+1)=true) (G7:m<=i/\i<nm.n 1/\nm.n 1<k0) (Gl:RC g cx true ver S R B O r0 a w0) (hc:eb cx m k0) (GR:cx.hf=true) (Gw:fl=true) (hk:k0<=n) (Hu:k0<=a.tmps.size)
  (hn:((gS [aF g.uv cx.b (nm.n 1),kd g cx (nm.n 1) (nm.n 4) T kt (gTagd g cx fs nm.s)]:GC) (n+5)).2<=a.tmps.size) (hb:oz w0 B (O+fs.ext (o+1)) te) (Gk:Pv 6 i k0 n a a1) (hI:Bp g S R B O o fs ver w0 out (c+1) w1) (JZ:out≠.stuck)
  (hE:out=.err->∀ a' w',Pv 6 m k0 n a a'->(∃ t y,a'.get 6=.iface t y)->ac (fun k=>k=R \/ k=B) w0 w'->E a' w') :
  aQ P ((gS [aF g.uv cx.b (nm.n 1),kd g cx (nm.n 1) (nm.n 4) T kt (gTagd g cx fs nm.s)]:GC) (n+5)).1 (Rt (fun a2 w2=>Pv 6 (i+1) k0 (n+5) a1 a2/\Bp g S R B O o fs ver w0 out c w2) E) a1 w1:=by
 obtain⟨vs,t,r,cell,Id,J0,HO,Gn,IQ,UV,UP⟩:=hI
 have Jb:R<w0.heap.size:=Gl.rd.lt
 have IT:B<w0.heap.size:=hb.lt
 have Gu:=Gk.size
 have N3:=hc.six
 have G6:RC g cx true ver S R B O r a1 w1:=Gl.step hc (Gk.mono G7.1 (Nat.le_refl _)) J0 HO.keeps (fun _ _ h=>h)
 have MJ:eb cx (i+1) k0:=lD hc (by omega) (by omega)
 have U0:eb cx (nm.n 1+1) k0:=lD hc (by omega) (by omega)
 have hn':(eZ g (n+6) (gA g cx (nm.n 1) T kt (n+6+1)) (gTagd g cx fs nm.s) (n+6+9)).2<=a.tmps.size:=hn
 have hupc:=li (g:=g) (key:=n+6) (dflt:=gA g cx (nm.n 1) T kt (n+6+1)) (l:=gTagd g cx fs nm.s) (up_gTagd g fs nm.s cx) (n+6+9)
 refine bm (ad (kE (x:=6) (m:=i+1) (k0:=k0) (K0.uvE Gw) G6.sb (K0.uvC Gw w1 S R r G6.rd G6.SR) (.inr ⟨by omega,G7.2.2⟩) (by omega) (by omega) (by omega) (by omega) fun e w2 hR=>?_))
 obtain⟨he,GJ,Gs⟩:=hR
 refine⟨_,he,fun a2 Gm G2=>?_⟩
 have G9:=Gm.size
 have Hf:RC g cx true ver S R B O (bD r).2 a2 w2:=G6.step MJ Gm GJ Gs (fun _ _ h=>.inl h)
 have GQ:Pv 6 i k0 n a a2:=Gk.trans (Gm.mono (by omega) (by omega))
 have GO:em R B (fun j=>fs.In O j \/ j=O+o) w0 w2:=HO.trans (em.of_keeps Gs (fun _ _ h=>h) Gl.BR)
 have Mu:em R B (fun _=>False) w1 w2:=em.of_keeps Gs (fun _ _ h=>h) Gl.BR
 have Hc:=hb.evo HO
 have Hj:=hb.evo GO
 have HM:=jI r
 have Li:=HO.keeps.size
 have V4:=Gs.size
 have Jw:w2.cell? ⟨B,O+o,none⟩=some cell:=by
  obtain⟨cur,Ix,_⟩:=Hc
  rw[Mu.cell Ix id];exact Gn
 have hAw:∀ k,(k<w0.heap.size \/ cell=.map (some k))->k<w2.heap.size:=fun k hk=>by
  rcases hk with hk|hk
  ·omega
  ·rcases IQ with⟨h,_⟩|⟨q,h,_,hq⟩
   ·rw[h]at hk;cases hk
   ·rw[h]at hk;cases hk;omega
 have R6:fT (fun k=>k<w0.heap.size \/ cell=.map (some k)) S (fun X=>RpF w2 X fs B O vs):=RpF.evoA Mu (.inl Jb) (.inl IT) Gl.SR.symm Gl.BS Hc UV (fun _ _ h=>h)
 have R1:fT (·<w0.heap.size) S (fun X=>eJ w2 X B O (some o) t):=eJ.evoA Mu Jb IT Gl.SR.symm Gl.BS Hc UP (fun _ _ h=>h)
 refine ad ?_
 rw[aV,show(aF g.uv cx.b (nm.n 1) (n+5)).2=n+6 from rfl]
 refine .seq (R:=Rt (fun a3 w3=>Pv 6 k0 k0 (n+6) a2 a3/\a3.get (n+6)=.int .u32 ((bD r).1:Nat)/\w3=w2) E) (.reg (ag (wpList_nil ?_))) (fun a3 w3 hh=>?_) (fun e a w he hq=>by cases e<;>first|exact absurd rfl he|exact hq)
 ·rw[aa,G2]
  exact⟨(Pv.refl _ _ _ _ _).put _ (by omega),am (by omega),rfl⟩
 obtain⟨Ni,GI,rfl⟩:=hh
 have Gt:Pv 6 (i+1) k0 (n+6) a2 a3:=Ni.low (by omega)
 have Q2:a3.get (nm.n 1)=.int .u32 ((bD r).1:Nat):=(Ni.get _ (by omega) (.inl G7.2.2)).trans G2
 have Hh:=Gt.size
 have Hw:Pv 6 i k0 n a a3:=GQ.trans (Gt.mono (by omega) (by omega))
 have Nj:Pv 6 (i+1) k0 (n+5) a1 a3:=Gm.trans (Gt.mono (Nat.le_refl _) (by omega))
 have JR:RC g cx true ver S R B O (bD r).2 a3 w3:=Hf.step MJ Gt Hf.rd (ac.refl (fun _=>False) w3) (fun _ _ h=>h.elim)
 have HD:(aF g.uv cx.b (nm.n 1) (n+5)).2=n+6:=rfl
 refine .block (.mono (Q:=Exit.inBlock (nm.n 4) (Rt (LW P [] _ (Rt _ E)) E)) (R:=Rt (fun a4 w4=>Pv 6 (i+1) k0 (n+5) a1 a4/\Bp g S R B O o fs ver w0 out c w4) E) ?_ fun e a w hq=>by cases e<;>first|exact bg hq|exact hq|exact hq.elim)
 show aQ P (eZ g (n+6) (gA g cx (nm.n 1) T kt (n+6+1)) (gTagd g cx fs nm.s) (n+6+9)).1 _ a3 w3
 refine h2 nm.s cx ver S R B O (bD r).2 (nm.n 1+1) k0 (n+6+9) T (o+1) (n+6) (bD r).1 _ vs (fun k=>k<w0.heap.size \/ cell=.map (some k)) _ E a3 w3 te G1 IJ JR U0 GR Gw (by omega) (by omega) (by omega) Hj GI (by omega) (by omega) (.inl Jb) (.inl IT) hAw R6
  (fun Hx a4 GD Ht=>?_) (fun gf L0=>⟨fun vs' r' a4 w4 he GT GD H0 hev4 UU=>?_,fun he a4 w4 GD hif GH=>?_,fun he=>?_⟩)
 ·-- an unknown tag
  have IP:=GD.size
  have Ov:RC g cx true ver S R B O (bD r).2 a4 w3:=JR.step U0 GD JR.rd (ac.refl (fun _=>False) w3) (fun _ _ h=>h.elim)
  obtain⟨cur,Ix,Ii⟩:=Hj
  have KY:=jn fs (o+1)
  have hcO:cur[O+o]?=some cell:=by
   have:=Jw
   simpa[World.cell?,Ix]using this
  have R0:fT (·<w0.heap.size) S (fun X=>cN w3 X cell t):=fun X hX hS=>by
   obtain⟨m',Qu,R3⟩:=R1 X hX hS
   rw[Jw]at Qu
   cases Qu
   exact R3
  have hRt:∀ {K':Act->World->Prop},aQ P (gA g cx (nm.n 1) T kt (n+6+1)) (Exit.then K' (Rt K' E)) a4 w3->aQ P (gA g cx (nm.n 1) T kt (n+6+1)) (Rt K' E) a4 w3:=fun h=>by rwa [aV]at h
  refine hRt (vZ (m:=i+1) (k0:=k0) (cur:=cur) (te:=te) (mm:=cell) (t:=t) K0 Gw Ov MJ hF ((GD.get _ (by omega) (.inl (by omega))).trans Q2) HM Ix hcO (R0 _ (fun k hk=>by rcases hk with rfl|rfl;exact IT;exact Jb) (fun hk=>by rcases hk with hk|hk;exact Gl.BS hk.symm;exact Gl.SR hk)) (fun p hp=>?_) (by omega) (by omega) (by omega)
   fun a5 w5 q HB Mc M7 Ip HC Vc H9=>?_)
  ·rcases IQ with⟨h,_⟩|⟨q,h,hq,_⟩
   ·rw[h]at hp;cases hp
   ·rw[h]at hp;cases hp
    have:=Gl.Slt
    omega
  ·have KO:(cell=.map none/\t=[]) \/ ∃ p,cell=.map (some p)/\w0.heap.size<=p/\p<w3.heap.size:=by
    rcases IQ with h|⟨q,h,hq,JS⟩
    ·exact .inl h
    ·exact .inr ⟨q,h,hq,by omega⟩
   obtain⟨e1,e2,e3,e4,e5,e6⟩:=pP Jb IT Gl.Slt Gl.SR.symm Gl.BS Gl.BR GO Ix IW (by omega) KO R6 R0 M7 Ip HC Vc H9
   refine⟨Nj.trans ((GD.mono (by omega) (by omega)).trans (HB.mono (Nat.le_refl _) (by omega))),vs,_,_,.map (some q),?_,Mc,e1,e2,.inr ⟨q,rfl,e3,e4⟩,e5,e6⟩
   rw[Id]
   simp only[bW,Hx]
 ·-- a known tag
  have Qf:out=bW (rdTag true ver fs) c vs' t (ov (bD r).2):=by
   rw[Id]
   have Ij:=he
   simp only[inner]at Ij
   simp only[bW,L0,Ij,GT,ov]
   simp
  have OZ:w4.cell? ⟨B,O+o,none⟩=some cell:=by
   obtain⟨cur,Ix,_⟩:=Hj
   rw[hev4.cell Ix (fun h=>fg fs o (o+1) O (O+o) IW h ⟨by omega,by omega⟩)];exact Jw
  refine⟨Nj.trans (GD.mono (by omega) (by omega)),vs',t,ov (bD r).2,cell,Qf,H0,GO.trans (hev4.mono fun j hj=>.inl hj),OZ,?_,UU,?_⟩
  ·rcases IQ with h|⟨q,h,hq,JS⟩
   ·exact .inl h
   ·exact .inr ⟨q,h,hq,by have:=hev4.keeps.size;omega⟩
  ·exact eJ.evoA hev4 Jb IT Gl.SR.symm Gl.BS Hj R1 (fun k hk h=>by cases hk;exact fg fs o (o+1) O (O+o) IW h ⟨by omega,by omega⟩)
 ·-- it fails
  refine hE ?_ a4 w4 (Hw.mono G7.1 (Nat.le_refl _) |>.trans (GD.mono (by omega) (by omega))) hif (GO.keeps.trans GH)
  rw[Id]
  rcases he with he|⟨vs',r',he,GT⟩
  ·simp only[inner]at he
   simp only[bW,L0,he]
  ·simp only[inner]at he
   simp only[bW,L0,he,GT,if_true]
 ·refine JZ ?_
  rw[Id]
  simp only[inner]at he
  simp only[bW,L0,he]
end
end Go.Proofs.YtbgklecbmhaadaaGreatDoor.Kx