/-
  PLAIN LAWS AND CONTRACTS of messages, part 4.
-/
import Derived.Test.YtpoeajgpacfpoaaGreatDoorK3

namespace Go.Proofs.YtpoeajgpacfpoaaGreatDoor.Kx
open Go
theorem bD.sl {w:World}{S:Nat}{X:Nat->Prop}{v:Value}{r:RS}(h:bD w S v r)(hS:¬ X S):ci w X v r.src:=by
 rcases h with⟨h1,h2,_⟩|⟨o,c,h1,_,h3,h4,h5,h6⟩
 ·exact .inl ⟨h1,h2⟩
 ·exact .inr ⟨S,o,c,h1,hS,h5,h3,h4,h6⟩
section
variable {P:Program} {g:G} {av:PF->Bool} {fl:Bool} {cx:Cx} {fx:Bool} {ver:Int} {S R B O:Nat} {r:RS} {x m k0 n:Nat} {K N E:Act->World->Prop} {Q:Exit->Act->World->Prop} {a:Act} {w:World}
theorem z9 {ops:Array Oper}{l:List Oper}{d j f:Nat}{b:Bool}{args:List Operand}{vs:Array Value}{R:Ending->World->Prop}(hy:yielded ops a.tmps j=some b)(hf:Ent P f)(IH:(args.map a.eval).toArray=vs)
  (hc:Calls P f vs w R) (h:∀ e w',R e w'->∃ v,e=.returned v/\wpList P ops Q l (a.put (some d) v) w') :
  wpList P ops Q (⟨some d, .call ⟨.value (.func f), args.toArray, #[]⟩, 0, "", #[], some (j, b)⟩ :: l) a w := by
 refine rR (op:=.call ⟨.value (.func f),args.toArray,#[]⟩) hy ?_
 unfold Oper.wp
 have : (execOp a.eval (⟨some d, .call ⟨.value (.func f), args.toArray, #[]⟩, 0, "", #[], some (j, b)⟩ : Oper)).run P w = .ok (.enter f vs) w := by
  have he:a.eval (.func f)=.func (.func f) #[] #[]:=rfl
  simp only[execOp,resolve,he,Deferred.ofValue,invoke,Sem.run_bind,Sem.run_pure,Result.andThen_ok,Array.empty_append,Array.append_empty,List.map_toArray,IH]
  exact hf _ _
 rw[this]
 exact hc.mono fun e w' hR=>by
  obtain⟨v,rfl,hh⟩:=h e w' hR
  exact hh
theorem vj (K0:KB P g av fl)(KS:av .i8=true)(Qf:b7 g.ok=true)(HY:RC g cx fx ver S R B O r a w)(hc:dO cx m k0){p:Nat}{body:GC}(hp:m<=p/\p<k0)(hk:k0<=n)(hn:n+6<=a.tmps.size)
  (IF:(rI 1 r).1 ≠ -1->(rI 1 r).2.bad=false->∀ a' w',Pv 6 m k0 n a a'->cy w' g.tR S R (rI 1 r).2->ac (·=R) w w'->aK P (body (n+6)).1 (Rt K E) a' w')
  (Jt:((rI 1 r).1=-1 \/ (rI 1 r).2.bad=true)->∀ a' w',Pv 6 m k0 n a a'->cy w' g.tR S R (rI 1 r).2->ac (·=R) w w'->K a' w'):aK P (nW g cx p body n).1 (Rt K E) a w:=by
 have OJ:=hc.b
 have Iq:=hc.le
 have OR:=hc.six
 refine aY (ad (kx (x:=6) (m:=m) (k0:=k0) (K0.rdE _ KS) HY.sb (K0.i8C KS w S R r HY.rd HY.SR) (.inr hp) hc.le hk (by omega) (by omega) fun e w1 hR=>?_))
 obtain⟨he,h1,h2⟩:=hR
 refine⟨_,he,fun a1 HX Ig=>?_⟩
 have If:=HX.size
 have Is:RC g cx fx ver S R B O (rI 1 r).2 a1 w1:=HY.step hc HX h1 h2 (fun _ _ h=>.inl h)
 generalize hx:(rI 1 r).1=y at *
 generalize QJ:(rI 1 r).2=r' at *
 have Ip:∀ (b:Bool) (K':Act->World->Prop),b=(decide (y ≠ -1)&&!r'.bad)->(∀ a' w',a'.eval (tm (n+1+4))=.bool b->Pv 6 m k0 (n+1) a1 a'->ac (fun _=>False) w1 w'->K' a' w') ->
   wpList P [mk (some (n + 1)) (.move (tm p)), mk (some (n + 1 + 1)) (.binOp .neq g.tI8 (tm (n + 1)) (ki .i8 (-1)) 0), mk (some (n + 1 + 2)) (.move (tm (n + 1 + 1))), ⟨some (n + 1 + 3), .call ⟨.value (.func g.ok), #[tm cx.b], #[]⟩, 0, "", #[], some (2, true)⟩,
    mk (some (n + 1 + 4)) (.pick (tm (n + 1 + 2)) (tm (n + 1 + 3)) (.const (.bool false)))].toArray (Exit.then K' (Exit.then (LW P [] (dM 4 5 (fun n => [mk (some n) (.move (tm p)), mk (some (n + 1)) (.binOp .neq g.tI8 (tm n) (ki .i8 (-1)) 0), mk (some (n + 2)) (.move (tm (n + 1))), ⟨some (n + 3), .call ⟨.value (.func g.ok), #[tm cx.b], #[]⟩, 0, "", #[], some (2, true)⟩,
  mk (some (n+4)) (.pick (tm (n+2)) (tm (n+3)) (.const (.bool false)))]) body bp (n+1)).2 (Rt K E)) (Rt K E)))
   [mk (some (n + 1)) (.move (tm p)), mk (some (n + 1 + 1)) (.binOp .neq g.tI8 (tm (n + 1)) (ki .i8 (-1)) 0), mk (some (n + 1 + 2)) (.move (tm (n + 1 + 1))), ⟨some (n + 1 + 3), .call ⟨.value (.func g.ok), #[tm cx.b], #[]⟩, 0, "", #[], some (2, true)⟩,
    mk (some (n+1+4)) (.pick (tm (n+1+2)) (tm (n+1+3)) (.const (.bool false)))] a1 w1:=by
  intro b K' hb hK'
  refine ah ?_
  rw[aa,Ig]
  refine bk (b:=decide (y ≠ -1)) (p:=y) (q:=-1) (k:=.i8) (by rw[aa,ao (by omega)]) rfl (.inr (.inr (.inr (.inr (.inr ⟨rfl,rfl⟩))))) ?_
  refine ah ?_
  rw[aa,ao (by simp only[ab];omega)]
  have Ie:Pv 6 m k0 (n+1) a1 (((a1.put (some (n+1)) (.int .i8 y)).put (some (n+1+1)) (.bool (decide (y ≠ -1)))).put (some (n+1+2)) (.bool (decide (y ≠ -1)))):=
   (((Pv.refl _ _ _ _ _).put _ (by omega)).put _ (by omega)).put _ (by omega)
  generalize hA:((a1.put (some (n+1)) (.int .i8 y)).put (some (n+1+1)) (.bool (decide (y ≠ -1)))).put (some (n+1+2)) (.bool (decide (y ≠ -1)))=A at Ie ⊢
  have Ii:A.tmps.size=a1.tmps.size:=Ie.size
  have Ij:A.get (n+1+2)=.bool (decide (y ≠ -1)):=by rw[<- hA];exact ao (by simp only[ab];omega)
  have JZ:∀ (ops:Array Oper),ops[2]?=some (mk (some (n+1+2)) (.move (tm (n+1+1))))->yielded ops A.tmps 2=some (decide (y ≠ -1)):=fun ops ho=>dt (d:=n+1+2) ho rfl (by rw[Ii];omega) Ij
  have Ug:A.get cx.b=pt R 0:=by rw[Ie.get _ OJ.2 (.inl OJ.1)];exact Is.sb
  by_cases hy:y=-1
  ·subst hy
   refine jQ (c:=false) (JZ _ rfl) (by simp) ?_
   refine iQ (b:=false) (by rw[aa,al (by omega),Ij];rfl) (wpList_nil ?_)
   refine hK' _ w1 ?_ ((Ie.put undef (d:=n+1+3) (by omega)).put _ (by omega)) (ac.refl _ _)
   rw[aa,ao (by simp only[ab];omega),hb]
   rfl
  ·refine z9 (b:=true) (vs:=#[pt R 0]) (by rw[JZ _ rfl];simp[hy]) (K0.okE Qf) (by simp[aa,Ug]) (K0.okC Qf w1 S R r' Is.rd) fun e2 w2 JD=>⟨_,JD.1,?_⟩
   refine iQ (b:=true) (by rw[aa,al (by omega),Ij];simp[hy]) (wpList_nil ?_)
   refine hK' _ w2 ?_ ((Ie.put _ (d:=n+1+3) (by omega)).put _ (by omega)) JD.2
   rw[aa,ao (by simp only[ab];omega),hb]
   simp only[if_true]
   rw[aa,ao (by omega)]
   simp[hy]
 refine ad ?_
 by_cases hy:y=-1 \/ r'.bad=true
 ·refine cD (Ip false _ (by rcases hy with h|h<;>simp[h]) fun a2 w2 Kr HZ Ic=>⟨Kr,.skip (bf (Jt hy a2 w2 (HX.trans (HZ.mono (Nat.le_refl _) (by omega))) (h1.keep Ic id id) (h2.trans (Ic.mono fun _ _ h=>h.elim))))⟩)
 ·refine cL (Ip true _ (by simp at hy;simp[hy]) fun a2 w2 Kr HZ Ic=>⟨Kr,?_⟩)
  have:=IF (fun h=>hy (.inl h)) (by simpa using fun h=>hy (.inr h)) a2 w2 (HX.trans (HZ.mono (Nat.le_refl _) (by omega))) (h1.keep Ic id id) (h2.trans (Ic.mono fun _ _ h=>h.elim))
  refine .mono this fun e a w hq=>?_
  cases e<;>first|exact bf hq|exact hq
theorem BP {key:Nat}{dflt:Code}{t:Nat}{A:GC}{l:List (Nat × GC)}{kk:Nat}(Jf:a.get key=.int .u32 kk)(Ma:key<n)(hm:m<=k0)(hk:k0<=n)(hn:n+2<=a.tmps.size)
  (IF:kk=t->∀ a',Pv x m k0 n a a'->aK P (A (n+2)).1 Q a' w) (Jt:kk≠t->∀ a',Pv x m k0 n a a'->a'.get key=.int .u32 kk->aK P (eR g key dflt l (A (n+2)).2).1 Q a' w):aK P (eR g key dflt ((t,A)::l) n).1 Q a w:=by
 have Ip:∀ (b:Bool) (K':Act->World->Prop),b=decide ((kk:Int)=(t:Int))->(∀ a',a'.eval (tm n)=.bool b->Pv x m k0 n a a'->a'.get key=.int .u32 kk->K' a' w) ->
   wpList P [mk (some (n+1)) (.binOp .eql g.tU32 (tm key) (ki .u32 t) 0),mk (some n) (.assign (tm (n+1)))].toArray (Exit.then K' Q) [mk (some (n+1)) (.binOp .eql g.tU32 (tm key) (ki .u32 t) 0),mk (some n) (.assign (tm (n+1)))] a w:=by
  intro b K' hb hK'
  refine bk (b:=b) (p:=kk) (q:=t) (k:=.u32) (by rw[aa,Jf]) rfl (.inr (.inr (.inr (.inr (.inl ⟨rfl,hb⟩))))) (ak (wpList_nil (hK' _ ?_ (((Pv.refl _ _ _ _ _).put _ (by omega)).put _ (by omega)) ?_)))
  ·rw[aa,aa,ao (by simp only[ab];omega),ao (by omega)]
  ·rw[al (by omega),al (by omega)];exact Jf
 by_cases M9:kk=t
 ·exact .seq (.reg (Ip true (fun a' w'=>a'.eval (tm n)=.bool true/\aK P (A (n+2)).1 Q a' w') (by simp[M9]) fun a' he hp J1=>⟨he,IF M9 a' hp⟩)) (fun a' w' h=>.condT h.1 h.2) (fun e a w he hq=>by rw[cq he]at hq;exact hq)
 ·exact .seq (.reg (Ip false (fun a' w'=>a'.eval (tm n)=.bool false/\aK P (eR g key dflt l (A (n+2)).2).1 Q a' w') (by simp;omega) fun a' he hp J1=>⟨he,Jt M9 a' hp J1⟩)) (fun a' w' h=>.condF h.1 h.2) (fun e a w he hq=>by rw[cq he]at hq;exact hq)
theorem xz (K0:KB P g av fl)(Ih:fl=true)(HY:RC g cx fx ver S R B O r a w)(hc:dO cx m k0){i b1 b2:Nat}{body:GC}(hi:m<=i/\i<k0)(hk:k0<=n)(hn:n+5<=a.tmps.size)(W:Nat->World->Prop)
  (h0:∀ w1,cy w1 g.tR S R (b5 r).2->ac (·=R) w w1->W (b5 r).1 w1)
  (ID:∀ (c:Nat) (a1:Act) (w1:World),Pv 6 i k0 n a a1->W (c+1) w1->aK P (body (n+5)).1 (Rt (fun a2 w2=>Pv 6 (i+1) k0 (n+5) a1 a2/\W c w2) E) a1 w1)
  (NN:∀ a1 w1,Pv 6 i k0 n a a1->W 0 w1->K a1 w1):aK P (mO g cx i b1 b2 body n).1 (Rt K E) a w:=by
 have OJ:=hc.b
 have Iq:=hc.le
 have OR:=hc.six
 have Id:=jA r
 refine .seq (R:=Rt (fun a' w'=>Pv 6 i k0 n a a'/\a'.get i=.int .u32 ((b5 r).1:Int)/\W (b5 r).1 w') E) (.reg (aN (vs:=#[pt R 0]) (K0.uvE Ih) (by simp[aa,HY.sb]) (K0.uvC Ih w S R r HY.rd HY.SR) fun e w1 hR=>?_)) (fun a' w' hh=>?_)
  (fun e a w he hq=>by cases e<;>first|exact absurd rfl he|exact hq)
 ·obtain⟨he,h1,h2⟩:=hR
  refine⟨_,he,ak (wpList_nil ?_)⟩
  rw[aa,ao (by omega)]
  exact⟨((Pv.refl _ _ _ _ _).put _ (by omega)).put _ (by omega),ao (by simp only[ab];omega),h0 w1 h1 h2⟩
 ·obtain⟨hp,Qh,Oo⟩:=hh
  refine .block (.loop (fun a1 w1=>∃ c:Nat,c<=(b5 r).1/\Pv 6 i k0 n a a1/\a1.get i=.int .u32 (c:Int)/\W c w1) (fun a1 _=>(match a1.get i with|.int _ q=>q|_=>0).toNat) ⟨_,Nat.le_refl _,hp,Qh,Oo⟩ ?_)
  rintro a1 w1 ⟨c,JG,HX,Ig,hW⟩
  have If:=HX.size
  have Ip:∀ (b:Bool),b=decide ((0:Int)<(c:Int))->wpList P [mk (some (n+1)) (.move (tm i)),mk (some (n+2)) (.binOp .gtr g.tU32 (tm (n+1)) (ki .u32 0) 0)].toArray
    (Rt (fun a' w'=>a'.eval (tm (n+2))=.bool b/\Pv 6 (i+1) k0 n a1 a'/\w'=w1) E) [mk (some (n+1)) (.move (tm i)),mk (some (n+2)) (.binOp .gtr g.tU32 (tm (n+1)) (ki .u32 0) 0)] a1 w1:=by
   intro b hb
   refine ah ?_
   rw[aa,Ig]
   refine bk (b:=b) (p:=c) (q:=0) (k:=.u32) (by rw[aa,ao (by omega)]) rfl (.inr (.inr (.inr (.inl ⟨rfl,hb⟩)))) (wpList_nil ?_)
   exact⟨by rw[aa,ao (by simp only[ab];omega)],((Pv.refl _ _ _ _ _).put _ (by omega)).put _ (by omega),rfl⟩
  cases c with
  | succ c=>
   refine .seq (R:=Rt (fun a2 w2=>Pv 6 (i+1) k0 n a1 a2/\w2=w1) E) ?_ (fun a2 w2 hh=>?_) (fun e a w he hq=>by cases e<;>first|exact absurd rfl he|exact hq|exact hq.elim)
   ·refine .seq (.reg (Ip true (by simp))) (fun a2 w2 hh=>.condT hh.1 (.skip hh.2)) (fun e a w he hq=>by cases e<;>first|exact absurd rfl he|exact hq)
   ·obtain⟨HZ,rfl⟩:=hh
    have IB:Pv 6 i k0 n a a2:=HX.trans (HZ.mono (by omega) (Nat.le_refl _))
    have Ij:a2.get i=.int .u32 ((c+1:Nat):Int):=by rw[HZ.get i (by omega) (.inl (by omega))];exact Ig
    have hb:=ID c a2 w2 IB hW
    have Iw:=HZ.size
    refine .seq (R:=Rt (fun a3 w3=>Pv 6 (i+1) k0 (n+5) a2 a3/\W c w3) E) (.block (.mono hb fun e a w hq=>by cases e<;>first|exact hq|exact hq.elim)) (fun a3 w3 hh=>?_) (fun e a w he hq=>by cases e<;>first|exact absurd rfl he|exact hq|exact hq.elim)
    obtain⟨Ie,M2⟩:=hh
    have IJ:=Ie.size
    have I2:a3.get i=.int .u32 ((c+1:Nat):Int):=by rw[Ie.get i (by omega) (.inl (by omega))];exact Ij
    refine .reg (ah ?_)
    rw[aa,I2]
    have IR:IntKind.u32.wrap (((c+1:Nat):Int)-1)=(c:Int):=by simp[IntKind.wrap,IntKind.bits,IntKind.signed];omega
    refine co (v:=.int .u32 (c:Int)) (k:=.u32) (m:=((c+1:Nat):Int)) (n:=1) (by rw[aa,ao (by omega)]) rfl (by simp) (by simp only[binOp,Op.intArith,IR];simp) ?_
    refine ak (wpList_nil ?_)
    rw[aa,ao (by simp only[ab];omega)]
    have Ko:(((a3.put (some (n+3)) (.int .u32 ((c+1:Nat):Int))).put (some (n+4)) (.int .u32 (c:Int))).put (some i) (.int .u32 (c:Int))).get i=.int .u32 (c:Int):=ao (by simp only[ab];omega)
    refine⟨⟨c,by omega,?_,Ko,M2⟩,?_⟩
    ·exact((IB.trans (Ie.mono (by omega) (by omega))).put _ (by omega)).put _ (by omega) |>.put _ (by omega)
    ·rw[Ko,Ig]
     simp only
     omega
  | zero=>
   refine .seq (R:=fun e a w=>e≠.normal/\Exit.inBlock b1 (Rt K E) e a w) ?_ (fun a2 w2 hh=>absurd rfl hh.1) (fun e a w he hq=>?_)
   ·refine .seq (R:=Rt (fun a' w'=>a'.eval (tm (n+2))=.bool false/\Pv 6 (i+1) k0 n a1 a'/\w'=w1) E) (.reg (Ip false (by simp))) (fun a2 w2 hh=>.condF hh.1 (.exit ?_)) (fun e a w he hq=>by cases e<;>first|exact absurd rfl he|exact⟨by simp,hq⟩|exact hq.elim)
    simp only[Exit.inBlock,if_true]
    refine⟨by simp,?_⟩
    obtain⟨_,HZ,rfl⟩:=hh
    exact NN a2 w2 (HX.trans (HZ.mono (by omega) (Nat.le_refl _))) hW
   ·rw[cq he];exact hq.2
theorem fP {P:Program}{o:Oper}{d:Option Nat}{f:Nat}{args:List Operand}{vs:Array Value}{R:Ending->World->Prop}{K':Act->World->Prop}{Q':Exit->Act->World->Prop}(ho:o=cl d f args)(hf:Ent P f)(IH:(args.map a.eval).toArray=vs)
  (hc:Calls P f vs w R) (h:∀ e w',R e w'->∃ v,e=.returned v/\K' (a.put d v) w'):o.wp P a w K' Q':=by
 subst ho
 unfold Oper.wp
 have:(execOp a.eval (cl d f args)).run P w=.ok (.enter f vs) w:=by
  have he:a.eval (.func f)=.func (.func f) #[] #[]:=rfl
  simp only[cl,execOp,mk,resolve,he,Deferred.ofValue,invoke,Sem.run_bind,Sem.run_pure,Result.andThen_ok,Array.empty_append,Array.append_empty,List.map_toArray,IH]
  exact hf _ _
 rw[this]
 exact hc.mono fun e w' hR=>by
  obtain⟨v,rfl,hh⟩:=h e w' hR
  exact hh
theorem vh (K0:KB P g av fl)(Ih:fl=true)(HY:RC g cx fx ver S R B O r a w)(hc:dO cx m k0){key T k off kk:Nat}{cur:Array Value}{te:TypeId}{mm:Value}{t:List (Nat × Bs)}(hF:bw P T k g.tTags off true 1)(Jf:a.get key=.int .u32 kk)(J0:kk<4294967296)
  (hB:w.heap[B]?=some (.cells cur te (0,0))) (hO:cur[O+off]?=some mm) (IW:cF w (fun k=>k=B \/ k=R) mm t) (PM:∀ p,mm=.map (some p)->p≠S) (Ma:key<n) (hk:k0<=n) (hn:n+8<=a.tmps.size)
  (h:∀ a' w' q,Pv 6 m k0 n a a'->cy w' g.tR S R (bt (b5 r).1 (b5 r).2).2->(mm=.map none->w.heap.size<=q)->(∀ p,mm=.map (some p)->q=p)->ac (fun b=>b=R \/ b=B \/ b=q) w w' ->
   w'.heap[B]?=some (.cells (cur.setIfInBounds (O+off) (.map (some q))) te (0,0)) ->
   (∀ X:Nat->Prop,¬ X q->(∀ k,X k->k<w.heap.size)->¬ X S->cF w (fun k=>X k \/ k=R) mm t->cF w' X (.map (some q)) (cp kk (bt (b5 r).1 (b5 r).2).1.octets t))->K a' w') :
  aK P (fW g cx key T k n) (Exit.then K Q) a w:=by
 have OJ:=hc.b
 have Iq:=hc.le
 have Id:=jA r
 have NU:B<w.heap.size:=(Array.getElem?_eq_some_iff.1 hB).1
 have hL:dq [mk (some n) (.move (tm cx.s)),mk (some (n+1)) (.nilCheck (tm n)),mk (some (n+2)) (.fieldAddr T (tm (n+1)) k),mk (some (n+3)) (.move (tm key)),cl (some (n+4)) g.uv [tm cx.b],
  mk (some (n+5)) (.convert g.tU32 g.tInt (tm (n+4))),cl (some (n+6)) g.span [tm cx.b,tm (n+5)],cl (some (n+7)) g.set [tm (n+2),tm (n+3),tm (n+6)]]=[false,false,false,false,true,true,true,true]:=by
  simp[dq,tz,mk,cl,fQ,Op.operands,tm]
 refine .drw (fun _=>True) ?_
 rw[hL]
 simp only[cR,bZ]
 obtain⟨fs,f,LK,Oj,Nq,LJ⟩:=hF.fld
 have KD:∀ w,(sizeOf f.type).run P w=.ok (0+1) w:=fun w=>by rw[LJ];exact hF.var.size w
 refine⟨pt B O,fun w _=>?_,pt B O,fun w _=>?_,pt B (O+off),fun w _=>?_,.int .u32 kk,fun w _=>?_,?_⟩
 ·have:a.eval (tm cx.s)=pt B O:=HY.ss
  simp[execOp,mk,this]
 ·have:(a.put (some n) (pt B O)).eval (tm n)=pt B O:=by rw[aa,ao (by omega)]
  simp only[mk,pt]at this ⊢
  simp[execOp,this]
 ·have:((a.put (some n) (pt B O)).put (some (n+1)) (pt B O)).eval (tm (n+1))=pt B O:=by rw[aa,ao (by simp only[ab];omega)]
  simp only[mk,pt]at this ⊢
  simp[execOp,this,Instr.fieldAt,run_underlying LK,Oj,Nq,fieldPlace,KD,Instr.sureAddr,Addr.add_lit]
 ·have:(((a.put (some n) (pt B O)).put (some (n+1)) (pt B O)).put (some (n+2)) (pt B (O+off))).eval (tm key)=.int .u32 kk:=by
   rw[aa,al (by omega),al (by omega),al (by omega)];exact Jf
  simp only[mk]at this ⊢
  simp[execOp,this]
 ·simp only[mk]
  have Ix:Pv 6 m k0 n a ((((a.put (some n) (pt B O)).put (some (n+1)) (pt B O)).put (some (n+2)) (pt B (O+off))).put (some (n+3)) (.int .u32 kk)):=
   ((((Pv.refl _ _ _ _ _).put _ (by omega)).put _ (by omega)).put _ (by omega)).put _ (by omega)
  have Ij:((((a.put (some n) (pt B O)).put (some (n+1)) (pt B O)).put (some (n+2)) (pt B (O+off))).put (some (n+3)) (.int .u32 kk)).get (n+2)=pt B (O+off):=by
   rw[al (by omega),ao (by simp only[ab];omega)]
  have I2:((((a.put (some n) (pt B O)).put (some (n+1)) (pt B O)).put (some (n+2)) (pt B (O+off))).put (some (n+3)) (.int .u32 kk)).get (n+3)=.int .u32 kk:=ao (by simp only[ab];omega)
  generalize hA:(((a.put (some n) (pt B O)).put (some (n+1)) (pt B O)).put (some (n+2)) (pt B (O+off))).put (some (n+3)) (.int .u32 kk)=A at Ix Ij I2 ⊢
  have Ii:A.tmps.size=a.tmps.size:=Ix.size
  have Ug:A.get cx.b=pt R 0:=(Ix.get _ OJ.2 (.inl OJ.1)).trans HY.sb
  have JW:ac (fun _=>False) w w.drew:=ac.drew _ _
  have Lt:cy w.drew g.tR S R r:=HY.rd.keep JW id id
  refine⟨trivial,fP (vs:=#[pt R 0]) rfl (K0.uvE Ih) (by simp[aa,Ug]) (K0.uvC Ih w.drew S R r Lt HY.SR) fun e w1 hR=>?_⟩
  obtain⟨he,h1,h2⟩:=hR
  refine⟨_,he,trivial,?_⟩
  have IR:IntKind.i64.wrap ((b5 r).1:Int)=((b5 r).1:Int):=by simp[IntKind.wrap,IntKind.bits,IntKind.signed];omega
  have TQ : (execOp (A.put (some (n + 4)) (.int .u32 ((b5 r).1 : Int))).eval (⟨some (n + 5), .convert g.tU32 g.tInt (tm (n + 4)), 0, "", #[], none⟩ : Oper)).run P w1 = .ok (.value (.int .i64 ((b5 r).1 : Int))) w1 := by
   have:(A.put (some (n+4)) (.int .u32 ((b5 r).1:Int))).eval (tm (n+4))=.int .u32 ((b5 r).1:Int):=by rw[aa,ao (by omega)]
   simp[execOp,this,convert,run_underlying (K0.tU32 Ih),run_underlying K0.tInt,Conv.intToInt,IR]
  unfold Oper.wp
  rw[TQ]
  refine⟨trivial,?_⟩
  have IK:((A.put (some (n+4)) (.int .u32 ((b5 r).1:Int))).put (some (n+5)) (.int .i64 ((b5 r).1:Int))).get cx.b=pt R 0:=by
   rw[al (by omega),al (by omega)];exact Ug
  have hb5:((A.put (some (n+4)) (.int .u32 ((b5 r).1:Int))).put (some (n+5)) (.int .i64 ((b5 r).1:Int))).get (n+5)=.int .i64 ((b5 r).1:Int):=ao (by simp only[ab];omega)
  refine fP (vs:=#[pt R 0,.int .i64 ((b5 r).1:Int)]) rfl (K0.spanE Ih) (by simp[aa,IK,hb5]) (K0.spanC Ih w1 S R (b5 r).2 ((b5 r).1:Int) (by omega) (by omega) h1 HY.SR) fun e2 w2 JD=>?_
  obtain⟨v,Kr,h3,h4,h5⟩:=JD
  refine⟨_,Kr,trivial,?_⟩
  have L6:ac (·=R) w w2:=((JW.mono fun _ _ h=>h.elim).trans h2).trans h4
  have KL:w2.heap[B]?=some (.cells cur te (0,0)):=by rw[L6.block B NU HY.BR];exact hB
  have L1:cF w2 (fun k=>k=B \/ k=R) mm t:=IW.keep (L6.mono fun _ _ h=>.inr h)
  refine fP (vs:=#[pt B (O+off),.int .u32 kk,v]) rfl (K0.setE Ih) ?_ (K0.setC Ih w2 B (O+off) mm t kk v _ cur te J0 KL hO (L1.mono fun _ _ h=>.inl h) (h5.sl HY.BS.symm)) fun e3 w3 hR3=>?_
  ·simp only[List.map_cons,List.map_nil,aa]
   rw[ao (by simp only[ab];omega),al (show n+2≠n+6 by omega),al (show n+2≠n+5 by omega),al (show n+2≠n+4 by omega),Ij,
    al (show n+3≠n+6 by omega),al (show n+3≠n+5 by omega),al (show n+3≠n+4 by omega),I2]
  obtain⟨SC,q,w',rfl,h6,h7,h8,h9,LG⟩:=hR3
  refine⟨_,SC,trivial,?_⟩
  have Xb:mm=.map none->w.heap.size<=q:=fun LY=>by rw[h7 LY];exact L6.size
  have N5:q<w2.heap.size->¬ (q=B \/ q=R \/ q=S):=fun Id hq=>by
   rcases L1 with⟨LY,_⟩|⟨p,HX,HZ,_⟩
   ·have:=h7 LY;omega
   ·have:=h8 p HX
    subst this
    rcases hq with hq|hq|hq
    ·exact HZ (.inl hq)
    ·exact HZ (.inr hq)
    ·exact PM _ HX hq
  have Lc:ac (fun b=>(b=B \/ b=q)/\b<w2.heap.size) w2 w3:=h6.mono fun _ hk hh=>⟨hh,hk⟩
  refine h _ w3 q ?_ (h3.keep Lc (fun hh=>?_) (fun hh=>?_)) Xb h8 ((L6.mono fun _ _ h=>.inl h).trans (h6.mono fun _ _ h=>.inr h)) h9 fun X Q3 hX hXS hT=>?_
  ·exact(((Ix.put _ (by omega)).put _ (by omega)).put _ (by omega)).put _ (by omega)
  ·rcases hh with⟨hh|hh,PV⟩
   ·exact HY.BS hh.symm
   ·exact N5 (hh ▸ PV) (.inr (.inr hh.symm))
  ·rcases hh with⟨hh|hh,PV⟩
   ·exact HY.BR hh.symm
   ·exact N5 (hh ▸ PV) (.inr (.inl hh.symm))
  ·exact LG X Q3 (fun k hk=>Nat.lt_of_lt_of_le (hX k hk) L6.size) (h5.sl fun h=>h.elim hXS fun h=>N5 (h ▸ Nat.lt_of_lt_of_le HY.Slt L6.size) (.inr (.inr h.symm))) ((hT.keep (L6.mono fun _ _ h=>.inr h)).mono fun _ _ h=>.inl h)
end
def HJ:TypeDesc->Bool
 | .struct _|.array _ _=>true
 | _=>false
def jw (P:Program)(F:Nat)(agg:Bool)(sz:Nat):Bool:=
 match P.underlying F,P.info? F with
 | some d,some i=>(HJ d==agg)&&(i.size==sz)
 | _,_=>false
theorem varB_ok {P:Program}{F:Nat}{agg:Bool}{sz:Nat}(h:jw P F agg sz=true):bc P F agg sz:=by
 unfold jw at h
 split at h
 ·rename_i d i hd hi
  simp only[Bool.and_eq_true,beq_iff_eq]at h
  have ht:zo P F d sz:=⟨hd,i,hi,h.2⟩
  refine⟨fun w=>?_,fun w=>ht.sizeOf w⟩
  rw[ht.isAgg w,<- h.1]
  cases d<;>rfl
 ·cases h
def eA (P:Program)(T k F off:Nat)(agg:Bool)(sz:Nat):Bool:=
 (match P.underlying T with
  | some (.struct fs)=>(match fs[k]? with|some f=>(f.offset==off)&&(f.type==F)|none=>false)
  | _=>false)&&jw P F agg sz&&decide (0<sz)
theorem fldB_ok {P:Program}{T k F off:Nat}{agg:Bool}{sz:Nat}(h:eA P T k F off agg sz=true):bw P T k F off agg sz:=by
 simp only[eA,Bool.and_eq_true,decide_eq_true_eq]at h
 obtain⟨⟨h1,h2⟩,h3⟩:=h
 split at h1
 ·rename_i fs IQ
  split at h1
  ·rename_i f hf
   simp only[Bool.and_eq_true,beq_iff_eq]at h1
   exact⟨⟨fs,f,IQ,hf,h1.1,h1.2⟩,varB_ok h2,h3⟩
  ·cases h1
 ·cases h1
def qn (P:Program)(T k:Nat):Nat:=
 match P.underlying T with
 | some (.struct fs)=>(match fs[k]? with|some f=>f.type|none=>0)
 | _=>0
def nw (P:Program)(F:Nat):Nat:=match P.info? F with|some i=>i.size|none=>0
def nE (P:Program)(F:Nat):Option (Nat × Nat × Array Value):=
 match P.underlying F with
 | some (.slice E)=>
  match P.info? E with
  | some i=>
   match i.zero with
   | some z=>if z.cells.size==i.size&&decide (0<i.size)&&decide (0<i.bytes)&&decide (i.bytes<=24*i.size+8)then some (E,i.size,z.cells)else none
   | none=>none
  | none=>none
 | _=>none
theorem nD {P:Program}{F E sz:Nat}{z:Array Value}(h:nE P F=some (E,sz,z)):m7 P F E sz z:=by
 unfold nE at h
 split at h
 ·rename_i E' hE
  split at h
  ·rename_i i hi
   split at h
   ·rename_i z' hz
    split at h
    ·rename_i hc
     simp only[Option.some.injEq,Prod.mk.injEq]at h
     obtain⟨rfl,rfl,rfl⟩:=h
     simp only[Bool.and_eq_true,beq_iff_eq,decide_eq_true_eq]at hc
     obtain⟨⟨⟨h1,h2⟩,h3⟩,h4⟩:=hc
     exact⟨hE,i,z',hi,hz,rfl,rfl,h1,h2,h3,h4⟩
    ·cases h
   ·cases h
  ·cases h
 ·cases h
def zeroOf (P:Program)(E:Nat):Option Value:=match P.info? E with|some i=>i.zero|none=>none
theorem zeroOf_ok {P:Program}{E:Nat}{z:Value}(h:zeroOf P E=some z)(w:World):(zeroValue E).run P w=.ok z w:=by
 unfold zeroOf at h
 split at h
 ·rename_i i hi
  simp[zeroValue,typeInfo,hi,h]
 ·cases h
def ED:Value->Value->Bool
 | .bool a,.bool b=>a==b
 | .int k x,.int k' y=>(k==k')&&(x==y)
 | .string a,.string b=>a.data.isEmpty&&b.data.isEmpty
 | .pointer none,.pointer none=>true
 | .slice none a b,.slice none c d=>(a==c)&&(b==d)
 | .map none,.map none=>true
 | _,_=>false
theorem qp {x y:Value}(h:ED x y=true):x=y:=by
 unfold ED at h
 split at h
 ·simpa using h
 ·rename_i k x k' y
  simp only[Bool.and_eq_true,beq_iff_eq]at h
  rw[h.1,h.2]
 ·rename_i a b
  simp only[Bool.and_eq_true]at h
  obtain⟨h1,h2⟩:=h
  obtain⟨a⟩:=a
  obtain⟨b⟩:=b
  simp only[Array.isEmpty_iff]at h1 h2
  rw[h1,h2]
 ·rfl
 ·simp only[Bool.and_eq_true,beq_iff_eq]at h
  rw[h.1,h.2]
 ·rfl
 ·cases h
def ge (z:Array Value)(o:Nat)(v:Value):Bool:=match z[o]? with|some x=>ED x v|none=>false
theorem A7 {z:Array Value}{o:Nat}{v:Value}(h:ge z o v=true):z[o]?=some v:=by
 unfold ge at h
 split at h
 ·rename_i x hx
  rw[hx,qp h]
 ·cases h
def cY.fitsB:cY->Int->Bool
 | .bool,x=>x==0 || x==1
 | .i8,x=>decide (-128<=x)&&decide (x<128)
 | .i16,x=>decide (-32768<=x)&&decide (x<32768)
 | .u16,x=>decide (0<=x)&&decide (x<65536)
 | .i32,x=>decide (-2147483648<=x)&&decide (x<2147483648)
 | .i64,x=>decide (-9223372036854775808<=x)&&decide (x<9223372036854775808)
 | .uuid,_=>false
theorem cY.fitsB_ok {p:cY}{x:Int}(h:p.fitsB x=true):p.fits x:=by
 cases p<;>simp[cY.fitsB,cY.fits]at h ⊢<;>exact h
mutual
def rH (z:Array Value)(df:Int):Ty->Nat->Bool
 | .prim .bool,o=>(df==0&&ge z o (.bool false)) || (df==1&&ge z o (.bool true))
 | .prim .uuid,o=>(List.range 16).all fun j=>ge z (o+j) (.int .u8 0)
 | .prim p,o=>ge z o (.int p.kind df)&&p.fitsB df
 | .str none,o=>ge z o (.string ⟨#[]⟩)
 | .str (some _),o=>ge z o (.pointer none)
 | .bytes _,o=>ge z o (.slice none 0 0)
 | .list _ _ _,o=>ge z o (.slice none 0 0)
 | .struct none toff fs,o=>zFds z fs o&&(match toff with|some k=>ge z (o+k) (.map none)|none=>true)
 | .struct (some _) _ _,o=>ge z o (.pointer none)
def zFds (z:Array Value):Fds->Nat->Bool
 | .nil,_=>true
 | .cons _ _ _ df off ty r,o=>rH z df ty (o+off)&&zFds z r o
end
def H8 (z:Array Value)(toff:Option Nat):Bool:=match toff with|some k=>ge z k (.map none)|none=>true
def rF (w:World)(b q:Nat)(z:Array Value):Prop:=∀ j v,z[j]?=some v->w.cell? ⟨b,q+j,none⟩=some v
theorem rF.one {w:World}{b q o:Nat}{z:Array Value}{v:Value}(h:rF w b q z)(hz:ge z o v=true):w.cell? ⟨b,q+o,none⟩=some v:=h o v (A7 hz)
theorem lZ {w:World}{b o:Nat}{v:Value}(h:w.cell? ⟨b,o,none⟩=some v):au w b o [v]:=by
 intro j c hj
 cases j with
 | zero=>simp at hj;subst hj;simpa using h
 | succ j=>simp at hj
mutual
theorem Bt {w:World}{b q:Nat}{z:Array Value}(hw:rF w b q z)(X:Nat->Prop):∀ (ty:Ty) (df:Int) (o:Nat),rH z df ty o=true->Rp w X ty b (q+o) (eV df ty)
 | .prim p,df,o,h=>by
  cases p
  case bool=>
   simp only[rH,Bool.or_eq_true,Bool.and_eq_true,beq_iff_eq]at h
   rcases h with⟨rfl,h⟩|⟨rfl,h⟩
   ·exact⟨_,lZ (hw.one h),false,rfl,rfl⟩
   ·exact⟨_,lZ (hw.one h),true,rfl,rfl⟩
  case uuid=>
   simp only[rH,List.all_eq_true,List.mem_range]at h
   refine⟨(qB.map fun b=>.int .u8 (b.toNat:Int)),?_,qB,rfl,rfl,rfl⟩
   intro j c hj
   have JF:j<16:=by
    have:=(List.getElem?_eq_some_iff.1 hj).1
    simpa[qB]using this
   have hc:c=.int .u8 0:=by
    rw[List.getElem?_map,qB,List.getElem?_replicate,if_pos JF]at hj
    simpa using hj.symm
   rw[hc]
   have:=hw.one (h j JF)
   rwa [<- Nat.add_assoc]at this
  all_goals
   simp only[rH,Bool.and_eq_true]at h
   exact⟨_,lZ (hw.one h.1),_,rfl,rfl,cY.fitsB_ok h.2⟩
 | .str none,df,o,h=>⟨_,lZ (hw.one h),[],rfl,rfl,by simp⟩
 | .str (some _),df,o,h=>⟨_,lZ (hw.one h),.inl ⟨rfl,rfl⟩⟩
 | .bytes _,df,o,h=>⟨_,lZ (hw.one h),.inl ⟨rfl,rfl⟩⟩
 | .list _ _ _,df,o,h=>.inl ⟨hw.one h,rfl⟩
 | .struct none toff fs,df,o,h=>by
  simp only[rH,Bool.and_eq_true]at h
  refine⟨_,[],rfl,zFds_ok hw X fs o h.1,?_⟩
  cases toff with
  | none=>rfl
  | some k=>
   refine⟨.map none,?_,.inl ⟨rfl,rfl⟩⟩
   have:=hw.one h.2
   rwa [<- Nat.add_assoc]at this
 | .struct (some _) _ _,df,o,h=>.inl ⟨hw.one h,rfl⟩
theorem zFds_ok {w:World}{b q:Nat}{z:Array Value}(hw:rF w b q z)(X:Nat->Prop):∀ (fs:Fds) (o:Nat),zFds z fs o=true->RpF w X fs b (q+o) (dfFds fs)
 | .nil,o,h=>rfl
 | .cons _ _ _ df off ty r,o,h=>by
  simp only[zFds,Bool.and_eq_true]at h
  refine⟨_,_,rfl,?_,zFds_ok hw X r o h.2⟩
  have:=Bt hw X ty df (o+off) h.1
  rwa [<- Nat.add_assoc]at this
end
theorem cK (O:Nat):∀ (wr:List (Nat × Value)) (cur:Array Value),(applyWr cur O wr).size=cur.size
 | [],_=>rfl
 | p::r,cur=>by
  show(applyWr (cur.setIfInBounds (O+p.1) p.2) O r).size=_
  rw[cK O r]
  simp
theorem oo (O:Nat):∀ (wr:List (Nat × Value)) (cur z:Array Value),(∀ p∈wr,p.1<z.size)->O+z.size<=cur.size->(∀ j,j<z.size->cur[O+j]?=z[j]?) ->
  ∀ j,j<z.size->(applyWr cur O wr)[O+j]?=(applyWr z 0 wr)[j]?
 | [],_,_,_,_,h,j,hj=>h j hj
 | p::r,cur,z,hp,hs,h,j,hj=>by
  show(applyWr (cur.setIfInBounds (O+p.1) p.2) O r)[O+j]?=(applyWr (z.setIfInBounds (0+p.1) p.2) 0 r)[j]?
  refine oo O r _ _ (fun q hq=>by simpa using hp q (by simp[hq])) (by simpa using hs) (fun i hi=>?_) j (by simpa using hj)
  simp only[Array.size_setIfInBounds]at hi
  have hpz:=hp p (by simp)
  rw[Array.getElem?_setIfInBounds,Array.getElem?_setIfInBounds,Nat.zero_add]
  by_cases he:p.1=i
  ·subst he
   rw[if_pos rfl,if_pos rfl,if_pos (by omega),if_pos hpz]
  ·rw[if_neg (by omega),if_neg he]
   exact h i hi
theorem ip (O:Nat):∀ (wr:List (Nat × Value)) (cur:Array Value) (j:Nat),(∀ p∈wr,O+p.1≠j)->(applyWr cur O wr)[j]?=cur[j]?
 | [],_,_,_=>rfl
 | p::r,cur,j,h=>by
  show(applyWr (cur.setIfInBounds (O+p.1) p.2) O r)[j]?=_
  rw[ip O r _ j (fun q hq=>h q (by simp[hq])),Array.getElem?_setIfInBounds,if_neg (h p (by simp))]
structure Ev where
 P:Program
 g:G
 av:PF->Bool
 D:Nat->Option (List (Nat × Value))
def Bu:Ty->List Nat->Bool
 | .str (some (_+1)),x=>x.length==1
 | .prim p,x=>x.length==0 || (x.length==2&&p != .uuid)
 | _,x=>x.length==0
def ix (e:Ev)(hf:Bool)(m k0:Nat)(ty:Ty)(v:Nat)(x:List Nat):Bool:=mr e.av hf ty&&jS m k0 v x&&Bu ty x
def Ty.agg:Ty->Bool
 | .prim .uuid=>true
 | _=>false
def Fds.In:Fds->Nat->Nat->Prop
 | .nil,_,_=>False
 | .cons _ _ _ _ off ty r,O,j=>(O+off<=j/\j<O+off+ty.sz) \/ r.In O j
def kj:Fds->Nat->Nat->Bool
 | .nil,_,_=>true
 | .cons _ _ _ _ off ty r,lo,hi=>(decide (off+ty.sz<=lo) || decide (hi<=off))&&kj r lo hi
def l7:Fds->Bool
 | .nil=>true
 | .cons _ _ _ _ off ty r=>kj r off (off+ty.sz)&&l7 r
def Fds.plain:Fds->Bool
 | .nil=>true
 | .cons lo hi tag _ _ ty r=>(lo==0)&&hi.isNone&&tag.isNone&&ty.leaf&&r.plain
def Ty.inl:Ty->Bool
 | .struct none _ _=>true
 | _=>false
def pm (p:Nat × Value):Fds->Bool
 | .nil=>false
 | .cons _ _ _ df off ty r=>(match ty with
   | .prim .bool=>off==p.1&&((df==0&&ED p.2 (.bool false)) || (df==1&&ED p.2 (.bool true)))
   | .prim .uuid=>false
   | .prim q=>off==p.1&&ED p.2 (.int q.kind df)
   | _=>false) || pm p r
def GG:Ty->Bool
 | .struct none _ fs=>fs.plain
 | _=>true
def vA (e:Ev)(hf:Bool)(m k0 T kt:Nat)(toff:Option Nat)(fs:Fds)(nm:Nm)(okf okt:Bool):Bool:=
 okf&&l7 fs &&
 (match toff with|some o=>hf&&eA e.P T kt e.g.tTags o true 1&&kj fs o (o+1)|none=>!hf) &&
 (!(hf&&fs.tagged) || (decide (m<=nm.n 0/\nm.n 0<nm.n 1/\nm.n 1<k0)&&okt))
mutual
def pU (e:Ev)(hf:Bool)(m k0 T off:Nat):Ty->Nm->Bool
 | .prim p,nm=>ix e hf m k0 (.prim p) (nm.n 0) (nm.l.drop 4)&&nm.n 1==T&&eA e.P T (nm.n 2) (nm.n 3) off (Ty.agg (.prim p)) (Ty.sz (.prim p))&&(p != .uuid || jw e.P e.g.tUuid true 16)
 | .str nul,nm=>ix e hf m k0 (.str nul) (nm.n 0) (nm.l.drop 4)&&nm.n 1==T&&eA e.P T (nm.n 2) (nm.n 3) off false 1
 | .bytes nul,nm=>ix e hf m k0 (.bytes nul) (nm.n 0) []&&nm.n 1==T&&eA e.P T (nm.n 2) (nm.n 3) off false 1
 | .list _ esz el,nm=>
  decide (m<=nm.n 0/\nm.n 0<nm.n 4/\nm.n 4<nm.n 5/\nm.n 5<nm.n 6/\nm.n 6<k0)&&nm.n 1==T&&eA e.P T (nm.n 2) (nm.n 3) off false 1 &&
  (match nE e.P (nm.n 3) with
   | some (_,sz,z)=>sz==esz&&okEl e hf (nm.n 6+1) k0 esz z el (nm.sub 0)&&qk e.g hf
   | none=>false)
 | .struct none toff fs,nm=>
  decide (m<=nm.n 0/\m<=nm.n 3/\nm.n 0<k0/\nm.n 3<k0/\nm.n 0≠nm.n 3)&&nm.n 1==T&&eA e.P T (nm.n 2) (qn e.P T (nm.n 2)) off true (nw e.P (qn e.P T (nm.n 2))) &&
  (match e.D (nm.n 4)with|some wr=>wr.all fun p=>decide (p.1<fs.ext (dl toff))&&pm p fs|none=>false)&&vA e hf (max (nm.n 0) (nm.n 3)+1) k0 (nm.n 5) (nm.n 6) toff fs (nm.sub 0) (okFds e hf (max (nm.n 0) (nm.n 3)+1) k0 (nm.n 5) fs (nm.sub 0).s) (okTagd e ((nm.sub 0).n 1+1) k0 (nm.n 5) fs (nm.sub 0).s)
 | .struct (some _) toff fs,nm=>
  decide (m<=nm.n 0/\m<=nm.n 4/\m<=nm.n 8/\nm.n 0<k0/\nm.n 4<k0/\nm.n 8<k0/\nm.n 0≠nm.n 4)&&nm.n 1==T&&eA e.P T (nm.n 2) (nm.n 3) off false 1&&(e.av .i8&&b7 e.g.ok) &&
  (match zeroOf e.P (nm.n 9),e.D (nm.n 5) with
   | some z,some wr=>(wr.all fun p=>decide (p.1<z.cells.size))&&zFds (applyWr z.cells 0 wr) fs 0&&H8 (applyWr z.cells 0 wr) toff&&decide (fs.ext (dl toff)<=z.cells.size)
   | _,_=>false)&&vA e hf (max (nm.n 0) (nm.n 4)+1) k0 (nm.n 6) (nm.n 7) toff fs (nm.sub 0) (okFds e hf (max (nm.n 0) (nm.n 4)+1) k0 (nm.n 6) fs (nm.sub 0).s) (okTagd e ((nm.sub 0).n 1+1) k0 (nm.n 6) fs (nm.sub 0).s)
def okEl (e:Ev)(hf:Bool)(m k0 esz:Nat)(z:Array Value):Ty->Nm->Bool
 | .struct none toff fs,nm=>
  decide (m<=nm.n 0/\m<=nm.n 1/\nm.n 0<k0/\nm.n 1<k0/\nm.n 0≠nm.n 1) &&
  (match e.D (nm.n 2) with
   | some wr=>(wr.all fun p=>decide (p.1<esz))&&zFds (applyWr z 0 wr) fs 0&&H8 (applyWr z 0 wr) toff&&decide (fs.ext (dl toff)<=esz)
   | none=>false)&&vA e hf (max (nm.n 0) (nm.n 1)+1) k0 (nm.n 3) (nm.n 4) toff fs (nm.sub 0) (okFds e hf (max (nm.n 0) (nm.n 1)+1) k0 (nm.n 3) fs (nm.sub 0).s) (okTagd e ((nm.sub 0).n 1+1) k0 (nm.n 3) fs (nm.sub 0).s)
 | .struct (some _) _ _,_=>false
 | .list _ _ _,_=>false
 | .prim p,nm=>ix e hf m k0 (.prim p) (nm.n 0) (nm.l.drop 2)&&jw e.P (nm.n 1) (Ty.agg (.prim p)) (Ty.sz (.prim p))&&Ty.sz (.prim p)==esz&&(p != .uuid || jw e.P e.g.tUuid true 16)
 | .str nul,nm=>ix e hf m k0 (.str nul) (nm.n 0) (nm.l.drop 2)&&jw e.P (nm.n 1) false 1&&1==esz
 | .bytes nul,nm=>ix e hf m k0 (.bytes nul) (nm.n 0) (nm.l.drop 2)&&jw e.P (nm.n 1) false 1&&1==esz
def okFds (e:Ev)(hf:Bool)(m k0 T:Nat):Fds->List Nm->Bool
 | .nil,_=>true
 | .cons _ _ tag _ off ty r,ms=>(tag.isSome || pU e hf m k0 T off ty (ms.headD (.mk [] [])))&&okFds e hf m k0 T r ms.tail
def okTagd (e:Ev)(m k0 T:Nat):Fds->List Nm->Bool
 | .nil,_=>true
 | .cons _ _ tag _ off ty r,ms=>
  (match tag with
   | some t=>decide (t<4294967296)&&decide (m<=(ms.headD (.mk [] [])).n 0/\(ms.headD (.mk [] [])).n 0<k0/\m<=(ms.headD (.mk [] [])).n 1/\(ms.headD (.mk [] [])).n 1<k0) &&
    GG ty&&pU e true ((ms.headD (.mk [] [])).n 0+1) k0 T off ty ((ms.headD (.mk [] [])).sub 0)
   | none=>true)&&okTagd e m k0 T r ms.tail
end
inductive DI where
 | st (s T k F:Nat) (c:Value)
 | fa (v s T k:Nat)
 | nop (v:Nat)
def yP:DI->GC
 | .st s T k F c=>ay 3 fun n=>[mk (some n) (.move (tm s)),mk (some (n+1)) (.nilCheck (tm n)),mk (some (n+2)) (.fieldAddr T (tm (n+1)) k),mk none (.store F (tm (n+2)) (.const c))]
 | .fa v s T k=>eQ s v T k
 | .nop v=>ay 1 fun n=>[mk (some n) (.move (tm v))]
def gDflt (items:List DI)(n0:Nat):Code:=(gS (items.map yP) n0).1
def Gb:Value->Bool
 | .int _ _=>true
 | .bool _=>true
 | .pointer none=>true
 | _=>false
theorem An {c:Value}(h:Gb c=true):c.oneCell'=true/\c.cells=#[c]:=by
 cases c<;>first|exact⟨rfl,rfl⟩|cases h
def ra (P:Program)(T k:Nat):Nat:=
 match P.underlying T with
 | some (.struct fs)=>(match fs[k]? with|some f=>f.offset|none=>0)
 | _=>0
def HI (P:Program)(F:Nat):Bool:=match P.underlying F with|some (.struct _)=>true|some (.array _ _)=>true|_=>false
def dRun (P:Program)(k0:Nat):List DI->List (Nat × Nat)->Option (List (Nat × Value))
 | [],_=>some []
 | .st s T k F c::r,env=>
  match env.lookup s with
  | some o=>if Gb c&&eA P T k F (ra P T k) false 1&&decide (s<k0) then(dRun P k0 r env).map fun wr=>(o+ra P T k,c)::wr else none
  | none=>none
 | .fa v s T k::r,env=>
  match env.lookup s with
  | some o=>if decide (v<k0)&&decide (s<k0)&&eA P T k (qn P T k) (ra P T k) (HI P (qn P T k)) (nw P (qn P T k))then dRun P k0 r ((v,o+ra P T k)::env)else none
  | none=>none
 | .nop _::r,env=>dRun P k0 r env
theorem gF {cur:Array Value}{i:Nat}{c:Value}(h:i<cur.size):aD cur i [c]=cur.setIfInBounds i c:=by
 apply Array.ext_getElem?
 intro j
 rw[Array.getElem?_setIfInBounds]
 by_cases hj:i=j
 ·subst hj
  rw[if_pos rfl,if_pos h]
  simpa using bA (cur:=cur) (o:=i) (vs:=[c]) (by simp;omega) 0 (by simp)
 ·rw[if_neg hj]
  exact bV (by simp;omega) j (by simp only[List.length_cons,List.length_nil];omega)
section
variable {P:Program} {B O te k0:Nat}
theorem l8:∀ (items:List DI) (env:List (Nat × Nat)) (wr:List (Nat × Value)) (n:Nat) (a:Act) (w:World) (cur:Array Value) (K:Act->World->Prop),dRun P k0 items env=some wr->(∀ s o,env.lookup s=some o->s<k0->a.get s=pt B (O+o))->k0<=n->(gL (items.map yP) n).2<=a.tmps.size ->
  w.heap[B]?=some (.cells cur te (0,0))->(∀ p∈wr,O+p.1<cur.size)->(∀ a' w',a'.defers=a.defers->ac (·=B) w w'->w'.heap[B]?=some (.cells (applyWr cur O wr) te (0,0))->K a' w')->LW P (items.map yP) n (Rt K fun _ _=>False) a w
 | [],env,wr,n,a,w,cur,K,h,Mc,hk,hn,hB,hO,hK=>by
  obtain rfl:=Option.some.inj h
  exact bf (hK a w rfl (ac.refl _ _) hB)
 | .nop v::r,env,wr,n,a,w,cur,K,h,Mc,hk,hn,hB,hO,hK=>by
  have JE:n+1<=(gL (r.map yP) (n+1)).2:=mI (fun x hx=>by
   obtain⟨d,_,rfl⟩:=List.mem_map.1 hx
   cases d<;>exact am _ _) _
  have hn':(gL (r.map yP) (n+1)).2<=a.tmps.size:=hn
  refine ad (aq (ah (wpList_nil ?_)))
  refine l8 r env wr (n+1) _ w cur K h (fun s o hs KF=>by rw[al (by omega)];exact Mc s o hs KF) (by omega) (by rw[ab];exact hn') hB hO hK
 | .fa v s T k::r,env,wr,n,a,w,cur,K,h,Mc,hk,hn,hB,hO,hK=>by
  have JE:n+3<=(gL (r.map yP) (n+3)).2:=mI (fun x hx=>by
   obtain⟨d,_,rfl⟩:=List.mem_map.1 hx
   cases d<;>exact am _ _) _
  have hn':(gL (r.map yP) (n+3)).2<=a.tmps.size:=hn
  unfold dRun at h
  split at h
  ·rename_i o Jk
   split at h
   ·rename_i hc
    simp only[Bool.and_eq_true,decide_eq_true_eq]at hc
    obtain⟨⟨hv,hs⟩,hF⟩:=hc
    refine ad (j0 (x:=v) (m:=k0) (k0:=k0) (O:=O+o) (Mc s o Jk hs) (fldB_ok hF) (.inl rfl) (Nat.le_refl _) hk (by omega) (by omega) fun a1 HX Ig=>?_)
    refine l8 r _ wr (n+3) a1 w cur K h (fun s' o' KY KF=>?_) (by omega) (by rw[HX.size];exact hn') hB hO (fun a' w' hd=>hK a' w' (hd.trans HX.defers))
    by_cases he:s'=v
    ·subst he
     rw[List.lookup_cons_self]at KY
     obtain rfl:=Option.some.inj KY
     rw[Ig,Nat.add_assoc]
    ·rw[List.lookup_cons,show(s'==v)=false by simpa using he]at KY
     rw[HX.get s' he (.inl KF)]
     exact Mc s' o' KY KF
   ·cases h
  ·cases h
 | .st s T k F c::r,env,wr,n,a,w,cur,K,h,Mc,hk,hn,hB,hO,hK=>by
  have JE:n+3<=(gL (r.map yP) (n+3)).2:=mI (fun x hx=>by
   obtain⟨d,_,rfl⟩:=List.mem_map.1 hx
   cases d<;>exact am _ _) _
  have hn':(gL (r.map yP) (n+3)).2<=a.tmps.size:=hn
  unfold dRun at h
  split at h
  ·rename_i o Jk
   split at h
   ·rename_i hc
    simp only[Bool.and_eq_true,decide_eq_true_eq]at hc
    obtain⟨⟨I5,hF⟩,hs⟩:=hc
    obtain⟨h1,h2⟩:=An I5
    have Ki:=fldB_ok hF
    cases hr:dRun P k0 r env with
    | none=>rw[hr]at h;cases h
    | some wr'=>
     rw[hr]at h
     obtain rfl:=Option.some.inj h
     have hO1:O+(o+ra P T k)<cur.size:=hO (o+ra P T k,c) (List.mem_cons_self ..)
     refine ad (aq (ah ?_))
     rw[aa,Mc s o Jk hs]
     refine aG (by rw[aa,ao (by omega)];rfl) ?_
     refine bN (by rw[aa,ao (by simp only[ab];omega)]) Ki ?_
     refine bm (cur:=cur) (t:=te) (v:=c) (vs:=[c]) (by rw[aa,ao (by simp only[ab];omega)]) rfl (by rw[h2]) (Ki.var.size _) hB (by simp only[List.length_cons,List.length_nil];omega) (fun u hu=>by simp at hu;rw[hu];exact h1) (wpList_nil ?_)
     rw[Nat.add_assoc,gF hO1]
     refine l8 r env wr' (n+3) _ _ (cur.setIfInBounds (O+(o+ra P T k)) c) K hr (fun s' o' KY KF=>?_) (by omega) (by simp only[ab];exact hn') (setRow_heap _ _ _ _ _ _ hB) (fun p hp=>by simpa using hO p (by simp[hp])) fun a' w' hd J1 QB=>?_
     ·rw[al (by omega),al (by omega),al (by omega)]
      exact Mc s' o' KY KF
     ·exact hK a' w' (by rw[hd];simp only[aj]) ((ac.setRow (fun k=>k=B) w B (cur.setIfInBounds (O+(o+ra P T k)) c) rfl).trans J1) QB
   ·cases h
  ·cases h
end
theorem b9 (args:Array Value)(n i:Nat)(h:i<args.size):({ tmps:=args++Array.replicate (n-args.size) undef,defers:=[] }:Act).get i=args[i]:=by
 simp[Act.get,Array.getElem?_append_left h,h]
theorem ck (args:Array Value)(n:Nat)(h:args.size<=n):(args++Array.replicate (n-args.size) undef).size=n:=by
 simp;omega
theorem dfC_of {P:Program}(hm:P.follows .mixedOrders=true){f ntmps n0:Nat}{items:List DI}{wr:List (Nat × Value)}(h:FnIs P f ntmps [] (gDflt items n0))(hr:dRun P n0 items [(0,0)]=some wr)(hn:(gL (items.map yP) n0).2<=ntmps)(h0:0<n0):Ent P f/\DfC P f wr:=by
 refine⟨h.ent,fun w B O cur te hB hO=>h.calls hm (by simp) ?_⟩
 have JE:n0<=(gL (items.map yP) n0).2:=mI (fun x hx=>by
   obtain⟨d,_,rfl⟩:=List.mem_map.1 hx
   cases d<;>exact am _ _) _
 have hs:=ck #[pt B O] ntmps (by show 1<=ntmps;omega)
 refine lk (aY (l8 items [(0,0)] wr n0 _ w cur (fun a w'=>a.defers=[]/\ac (·=B) w w'/\w'.heap[B]?=some (.cells (applyWr cur O wr) te (0,0))) hr (fun s o Nz KF=>?_) (Nat.le_refl _) (by rw[hs];exact hn) hB hO fun a' w' hd hk QB=>⟨hd,hk,QB⟩)) (fun a w' hh=>⟨hh.1,rfl,hh.2⟩) (fun a w' hh=>hh.elim)
 rw[List.lookup_cons]at Nz
 split at Nz
 ·rename_i he
  obtain rfl:=Option.some.inj Nz
  have:s=0:=by simpa using he
  subst this
  rw[b9 _ _ _ (by simp)]
  rfl
 ·simp at Nz
def fw (A:Nat->Prop)(S:Nat)(T:(Nat->Prop)->Prop):Prop:=∀ X:Nat->Prop,(∀ k,X k->A k)->¬ X S->T X
theorem fw.mono {A A':Nat->Prop}{S:Nat}{T:(Nat->Prop)->Prop}(h:fw A S T)(ha:∀ k,A' k->A k):fw A' S T:=fun X hX hS=>h X (fun k hk=>ha k (hX k hk)) hS
def ow (w:World)(B n te:Nat):Prop:=∃ cur,w.heap[B]?=some (.cells cur te (0,0))/\n<=cur.size
theorem ow.lt {w:World}{B n te:Nat}(h:ow w B n te):B<w.heap.size:=by
 obtain⟨cur,h,_⟩:=h
 exact(Array.getElem?_eq_some_iff.1 h).1
theorem ow.evo {R B n te:Nat}{Z:Nat->Prop}{w w':World}(h:dS R B Z w w')(hb:ow w B n te):ow w' B n te:=by
 obtain⟨cur,h1,h2⟩:=hb
 obtain⟨cs,h3,h4,_⟩:=h.blk cur te h1
 exact⟨cs,h3,by omega⟩
theorem ow.mono {w:World}{B n n' te:Nat}(h:ow w B n te)(hn:n'<=n):ow w B n' te:=by
 obtain⟨cur,h1,h2⟩:=h
 exact⟨cur,h1,by omega⟩
theorem eX:∀ (fs:Fds) (lo hi O j:Nat),kj fs lo hi=true->fs.In O j->¬ (O+lo<=j/\j<O+hi)
 | .nil,_,_,_,_,_,h=>h.elim
 | .cons _ _ _ _ off ty r,lo,hi,O,j,h,hj=>by
  simp only[kj,Bool.and_eq_true,Bool.or_eq_true,decide_eq_true_eq]at h
  rcases hj with hj|hj
  ·omega
  ·exact eX r lo hi O j h.2 hj
theorem yF:∀ (fs:Fds) (m O j:Nat),fs.In O j->O<=j/\j<O+fs.ext m
 | .nil,_,_,_,h=>h.elim
 | .cons _ _ _ _ off ty r,m,O,j,h=>by
  have h1:=jc r (Nat.max m (off+ty.sz))
  have h2:off+ty.sz<=Nat.max m (off+ty.sz):=Nat.le_max_right _ _
  simp only[Fds.ext]
  rcases h with h|h
  ·omega
  ·exact yF r _ O j h
theorem RpF.frameIn {X:Nat->Prop}{w w':World}(hk:ac X w w'):∀ (fs:Fds) (b o:Nat) (vs:List V),RpF w X fs b o vs->(∀ j,fs.In o j->w'.cell? ⟨b,j,none⟩=w.cell? ⟨b,j,none⟩)->RpF w' X fs b o vs
 | .nil,b,o,vs,h,_=>h
 | .cons _ _ _ _ off ty r,b,o,vs,h,hs=>by
  obtain⟨v,vs',h1,h2,h3⟩:=h
  exact⟨v,vs',h1,Rp.frame hk ty b (o+off) v h2 (fun j ha hb=>hs j (.inl ⟨ha,hb⟩)),RpF.frameIn hk r b o vs' h3 (fun j hj=>hs j (.inr hj))⟩
section evo
variable {A:Nat->Prop} {S R B O n te:Nat} {Z:Nat->Prop} {w w':World}
theorem Rp.evoA (h:dS R B Z w w')(hR:A R)(hB:A B)(hRS:R≠S)(Lx:B≠S)(hb:ow w B n te){ty:Ty}{o:Nat}{v:V}(hv:fw A S fun X=>Rp w X ty B o v)(hd:∀ j,o<=j->j<o+ty.sz->¬ Z j):fw A S fun X=>Rp w' X ty B o v:=by
 intro X hX hS
 obtain⟨cur,hc,_⟩:=hb
 have h1:=hv (fun k=>X k \/ k=R \/ k=B) (fun k hk=>by rcases hk with hk|rfl|rfl<;>first|exact hX k hk|assumption) (fun hk=>by rcases hk with hk|hk|hk<;>first|exact hS hk|exact hRS hk.symm|exact Lx hk.symm)
 have h2:=Rp.frame (h.keeps.mono fun k _ hk=>.inr hk) ty B o v h1 fun j h3 h4=>h.cell hc (hd j h3 h4)
 exact Rp.mono (fun k _ hk=>.inl hk) ty B o v h2
theorem RpF.evoA (h:dS R B Z w w')(hR:A R)(hB:A B)(hRS:R≠S)(Lx:B≠S)(hb:ow w B n te){fs:Fds}{vs:List V}(hv:fw A S fun X=>RpF w X fs B O vs)(hd:∀ j,fs.In O j->¬ Z j):fw A S fun X=>RpF w' X fs B O vs:=by
 intro X hX hS
 obtain⟨cur,hc,_⟩:=hb
 have h1:=hv (fun k=>X k \/ k=R \/ k=B) (fun k hk=>by rcases hk with hk|rfl|rfl<;>first|exact hX k hk|assumption) (fun hk=>by rcases hk with hk|hk|hk<;>first|exact hS hk|exact hRS hk.symm|exact Lx hk.symm)
 have h2:=RpF.frameIn (h.keeps.mono fun k _ hk=>.inr hk) fs B O vs h1 fun j hj=>h.cell hc (hd j hj)
 exact RpF.mono (fun k _ hk=>.inl hk) fs B O vs h2
theorem dJ.evoA (h:dS R B Z w w')(hR:A R)(hB:A B)(hRS:R≠S)(Lx:B≠S)(hb:ow w B n te){toff:Option Nat}{t:List (Nat × Bs)}(hv:fw A S fun X=>dJ w X B O toff t)(hd:∀ k,toff=some k->¬ Z (O+k)):fw A S fun X=>dJ w' X B O toff t:=by
 intro X hX hS
 obtain⟨cur,hc,_⟩:=hb
 have h1:=hv (fun k=>X k \/ k=R \/ k=B) (fun k hk=>by rcases hk with hk|rfl|rfl<;>first|exact hX k hk|assumption) (fun hk=>by rcases hk with hk|hk|hk<;>first|exact hS hk|exact hRS hk.symm|exact Lx hk.symm)
 exact(h1.frame (h.keeps.mono fun k _ hk=>.inr hk) fun k hk=>h.cell hc (hd k hk)).mono fun k _ hk=>.inl hk
theorem RpF.evo0 (h:dS R B Z w w')(hb:ow w B n te){fs:Fds}{vs:List V}(hv:∀ X,RpF w X fs B O vs)(hd:∀ j,fs.In O j->¬ Z j):∀ X,RpF w' X fs B O vs:=by
 intro X
 obtain⟨cur,hc,_⟩:=hb
 have h1:=hv (fun k=>X k \/ k=R \/ k=B)
 have h2:=RpF.frameIn (h.keeps.mono fun k _ hk=>.inr hk) fs B O vs h1 fun j hj=>h.cell hc (hd j hj)
 exact RpF.mono (fun k _ hk=>.inl hk) fs B O vs h2
end evo
structure wu {α:Type}(g:G)(S R B:Nat)(Z:Nat->Prop)(m k0 n:Nat)(a:Act)(w:World)(out:jq α)(G:α->World->Prop)(K E:Act->World->Prop):Prop where
 ok:∀ v r' a' w',out=.ok v r'->Pv 6 m k0 n a a'->cy w' g.tR S R r'->dS R B Z w w'->G v w'->K a' w'
 err:out=.err->∀ a' w',Pv 6 m k0 n a a'->(∃ t y,a'.get 6=.iface t y)->ac (fun k=>k=R \/ k=B) w w'->E a' w'
 go:out≠.stuck
structure Env (P:Program)(g:G)(av:PF->Bool)(fl:Bool)(D:Nat->Option (List (Nat × Value))):Prop where
 kb:KB P g av fl
 df:∀ f wr,D f=some wr->Ent P f/\DfC P f wr
def rE (w:World)(B o:Nat)(fx:Bool):Ty->V->Prop
 | .list nul esz e,old=>Rp w (fun _=>False) (.list nul esz e) B o old
 | .struct (some q) toff fs,old=>Rp w (fun _=>False) (.struct (some q) toff fs) B o old
 | .struct none toff fs,old=>(fs.plain=true/\fx=true) \/ (old=.st (dfFds fs) []/\∀ X,Rp w X (.struct none toff fs) B o old)
 | _,_=>True
section
variable (P:Program) (g:G) (av:PF->Bool) (fl:Bool) (D:Nat->Option (List (Nat × Value)))
def qw (ty:Ty):Prop:=
 ∀ (nm:Nm) (cx:Cx) (fx:Bool) (ver:Int) (S R B O:Nat) (r:RS) (m k0 n T off:Nat) (old:V) (K E:Act->World->Prop) (a:Act) (w:World) (te:Nat),
  pU ⟨P,g,av,D⟩ cx.hf m k0 T off ty nm=true->RC g cx fx ver S R B O r a w->dO cx m k0->(cx.hf=true->fl=true)->k0<=n->k0<=a.tmps.size->(gL (lH g cx ty nm) n).2<=a.tmps.size->ow w B (O+off+ty.sz) te->rE w B (O+off) fx ty old ->
  wu g S R B (fun j=>O+off<=j/\j<O+off+ty.sz) m k0 n a w (e9 fx ver ty old r) (fun v w'=>rG w S fun X=>Rp w' X ty B (O+off) v) K E->LW P (lH g cx ty nm) n (Rt K E) a w
def pk (fs:Fds):Prop:=
 ∀ (ms:List Nm) (cx:Cx) (fx:Bool) (ver:Int) (S R B O:Nat) (r:RS) (m k0 n T mm:Nat) (K E:Act->World->Prop) (a:Act) (w:World) (te:Nat),
  okFds ⟨P,g,av,D⟩ cx.hf m k0 T fs ms=true->l7 fs=true->RC g cx fx ver S R B O r a w->dO cx m k0->(cx.hf=true->fl=true)->k0<=n->k0<=a.tmps.size->(gL (gFds g cx fs ms) n).2<=a.tmps.size->ow w B (O+fs.ext mm) te ->
  (fs.plain=true \/ ∀ X,RpF w X fs B O (dfFds fs)) ->
  wu g S R B (fs.In O) m k0 n a w (rdFds fx ver fs r) (fun vs w'=>rG w S fun X=>RpF w' X fs B O vs) K E->LW P (gFds g cx fs ms) n (Rt K E) a w
end
section
variable {P:Program} {g:G} {av:PF->Bool} {fl:Bool} {D:Nat->Option (List (Nat × Value))}
theorem Ay:pk P g av fl D .nil:=by
 intro ms cx fx ver S R B O r m k0 n T mm K E a w te _ _ HY hc _ hk _ _ _ _ ho
 exact bf (ho.ok [] r a w rfl (Pv.refl _ _ _ _ _) HY.rd (dS.refl _ _ _ _) (fun X _ _=>rfl))
theorem eZ {w w1:World}{S:Nat}{T:(Nat->Prop)->Prop}(h:rG w1 S T)(hs:w.heap.size<=w1.heap.size):rG w S T:=fun X hX hS=>h X (fun k hk=>Nat.lt_of_lt_of_le (hX k hk) hs) hS
theorem od {lo:Nat}{hi tag:Option Nat}{df:Int}{off:Nat}{ty:Ty}{r0:Fds}(h2:pk P g av fl D r0){ms:List Nm}{cx:Cx}{fx:Bool}{ver:Int}{S R B O:Nat}{r r1:RS}{m k0 n n2 T mm:Nat}{K E:Act->World->Prop}{a a1:Act}{w w1:World}{te:Nat}{v:V}
  (Io:okFds ⟨P,g,av,D⟩ cx.hf m k0 T r0 ms=true) (KG:kj r0 off (off+ty.sz)=true) (K5:l7 r0=true) (HY:RC g cx fx ver S R B O r a w) (hc:dO cx m k0) (Ih:cx.hf=true->fl=true) (hk:k0<=n) (IE:n<=n2) (Jb:k0<=a.tmps.size)
  (hn:(gL (gFds g cx r0 ms) n2).2<=a.tmps.size) (hb:ow w B (O+(Fds.cons lo hi tag df off ty r0).ext mm) te) (JP:r0.plain=true \/ ∀ X,RpF w X r0 B O (dfFds r0)) (hp:Pv 6 m k0 n a a1) (Lt:cy w1 g.tR S R r1) (J2:dS R B (fun j=>O+off<=j/\j<O+off+ty.sz) w w1)
  (hv:rG w S fun X=>Rp w1 X ty B (O+off) v)
  (ho:wu g S R B ((Fds.cons lo hi tag df off ty r0).In O) m k0 n a w ((rdFds fx ver r0 r1).bind fun vs r=>.ok (v::vs) r) (fun vs w'=>rG w S fun X=>RpF w' X (.cons lo hi tag df off ty r0) B O vs) K E) :
  LW P (gFds g cx r0 ms) n2 (Rt K E) a1 w1:=by
 have KJ:R<w.heap.size:=HY.rd.lt
 have KC:B<w.heap.size:=hb.lt
 have K1:∀ j,r0.In O j->¬ (O+off<=j/\j<O+off+ty.sz):=fun j hj hh=>eX r0 off (off+ty.sz) O j KG hj ⟨hh.1,by omega⟩
 have If:=hp.size
 have Is:RC g cx fx ver S R B O r1 a1 w1:=HY.step hc hp Lt J2.keeps (fun _ _ h=>h)
 have IX:=hb.evo J2
 refine h2 ms cx fx ver S R B O r1 m k0 n2 T (Nat.max mm (off+ty.sz)) K E a1 w1 te Io K5 Is hc Ih (by omega) (by omega) (by omega) IX ?_ ⟨fun vs r2 a2 w2 he HZ I1 I8 Ji=>?_,fun he a2 w2 HZ JX Ic=>?_,fun he=>?_⟩
 ·rcases JP with JP|JP
  ·exact .inl JP
  ·exact .inr (RpF.evo0 J2 hb JP K1)
 ·refine ho.ok (v::vs) r2 a2 w2 (by rw[he];rfl) (hp.trans (HZ.mono (Nat.le_refl _) IE)) I1 ((J2.mono fun j hj=>.inl hj).trans (I8.mono fun j hj=>.inr hj)) fun X hX hS=>⟨v,vs,rfl,?_,?_⟩
  ·exact Rp.evoA (A:=(·<w.heap.size)) I8 KJ KC HY.SR.symm HY.BS IX hv (fun j ha hb hj=>K1 j hj ⟨ha,hb⟩) X hX hS
  ·exact eZ Ji J2.keeps.size X hX hS
 ·exact ho.err (by rw[he];rfl) a2 w2 (hp.trans (HZ.mono (Nat.le_refl _) IE)) JX (J2.keeps.trans Ic)
 ·exact ho.go (by rw[he];rfl)
theorem yn {w:World}{B o:Nat}{fx:Bool}{ty:Ty}{df:Int}(h:∀ X,Rp w X ty B o (eV df ty)):rE w B o fx ty (eV df ty):=by
 cases ty with
 | struct nul toff fs=>
  cases nul with
  | none=>exact .inr ⟨rfl,h⟩
  | some q=>exact h _
 | list nul esz e=>exact h _
 | _=>trivial
theorem sG {w:World}{B o:Nat}{fx:Bool}{ty:Ty}{old:V}(hi:ty.leaf=true):rE w B o fx ty old:=by
 cases ty<;>first|trivial|cases hi
theorem yW {lo:Nat}{hi tag:Option Nat}{df:Int}{off:Nat}{ty:Ty}{r0:Fds}(h1:qw P g av fl D ty)(h2:pk P g av fl D r0):pk P g av fl D (.cons lo hi tag df off ty r0):=by
 intro ms cx fx ver S R B O r m k0 n T mm K E a w te Io K5 HY hc Ih hk Jb hn hb JP ho
 simp only[okFds,Bool.and_eq_true,Bool.or_eq_true]at Io
 simp only[l7,Bool.and_eq_true]at K5
 have KJ:R<w.heap.size:=HY.rd.lt
 have KC:B<w.heap.size:=hb.lt
 have Mx:=jc r0 (Nat.max mm (off+ty.sz))
 have S7:off+ty.sz<=Nat.max mm (off+ty.sz):=Nat.le_max_right _ _
 have JE:i6 (gFds g cx r0 ms.tail):=up_gFds g r0 _ cx
 by_cases ht:tag.isNone=true/\has lo hi ver=true
 ·obtain⟨Oy,Jg⟩:=ht
  have L2:tag.isSome=false:=by cases tag<;>first|rfl|cases Oy
  simp only[L2,Bool.false_eq_true,false_or]at Io
  obtain⟨PP,LV⟩:=Io
  have KV:i6 (lH g cx ty (ms.headD (.mk [] []))):=nh g ty _ cx
  simp only[gFds,Oy,if_true]at hn ⊢
  have P5:=JE (dA g cx lo hi (gS (lH g cx ty (ms.headD (.mk [] [])))) n).2
  simp only[gL]at hn
  refine ad ?_
  rw[aO]
  refine pJ (x:=6) (m:=m) (k0:=k0) (ver:=ver) HY.sv hc.le hk (by have:=hc.ver;have:=hc.le;omega) (ei KV) (by omega) (fun a' n' hp Kf IE hg _=>?_) (fun a' hp Jt=>by rw[Jg]at Jt;cases Jt)
  have hs:=hp.size
  have hrc':RC g cx fx ver S R B O r a' w:=HY.step hc hp HY.rd (ac.refl (fun _=>False) w) (fun _ _ h=>h.elim)
  have hnT:=KV n'
  have I0:(dA g cx lo hi (gS (lH g cx ty (ms.headD (.mk [] [])))) n).2=(gL (lH g cx ty (ms.headD (.mk [] []))) n').2:=hg
  have Jv:rE w B (O+off) fx ty (eV df ty):=by
   rcases JP with JP|JP
   ·simp only[Fds.plain,Bool.and_eq_true]at JP
    exact sG JP.1.2
   ·exact yn fun X=>by obtain⟨v,vs',he,hv,_⟩:=JP X;cases he;exact hv
  have O3:r0.plain=true \/ ∀ X,RpF w X r0 B O (dfFds r0):=by
   rcases JP with JP|JP
   ·simp only[Fds.plain,Bool.and_eq_true]at JP
    exact .inl JP.2
   ·exact .inr fun X=>by obtain⟨v,vs',he,_,hv⟩:=JP X;cases he;exact hv
  have PG:rdFds fx ver (.cons lo hi tag df off ty r0) r=(e9 fx ver ty (eV df ty) r).bind fun v r=>(rdFds fx ver r0 r).bind fun vs r=>.ok (v::vs) r:=by simp[rdFds,Oy,Jg]
  rw[PG]at ho
  refine aY (h1 _ cx fx ver S R B O r m k0 n' T off (eV df ty) _ E a' w te PP hrc' hc Ih (by omega) (by omega) (by omega) (hb.mono (by simp only[Fds.ext];omega)) Jv ⟨fun v r1 a1 w1 he HX J5 Kq JI=>?_,fun he a1 w1 HX JX Ir=>?_,fun he=>?_⟩)
  ·rw[he]at ho
   exact od h2 LV K5.1 K5.2 HY hc Ih hk (by omega) Jb hn hb O3 (hp.trans (HX.mono (Nat.le_refl _) Kf)) J5 Kq JI ho
  ·exact ho.err (by rw[he];rfl) a1 w1 (hp.trans (HX.mono (Nat.le_refl _) Kf)) JX Ir
  ·exact ho.go (by rw[he];rfl)
 ·have Xi:¬ (Fds.cons lo hi tag df off ty r0).plain=true:=by
   intro hp
   simp only[Fds.plain,Bool.and_eq_true,beq_iff_eq]at hp
   refine ht ⟨hp.1.1.2,?_⟩
   have hh:hi=none:=by cases hi<;>first|rfl|simp at hp
   simp[has,hp.1.1.1.1,hh]
  have hpl':∀ X,RpF w X (.cons lo hi tag df off ty r0) B O (dfFds (.cons lo hi tag df off ty r0)):=by
   rcases JP with h|h
   ·exact absurd h Xi
   ·exact h
  have O3:r0.plain=true \/ ∀ X,RpF w X r0 B O (dfFds r0):=.inr fun X=>by obtain⟨v,vs',he,_,hv⟩:=hpl' X;cases he;exact hv
  have Mi:rG w S fun X=>Rp w X ty B (O+off) (eV df ty):=fun X _ _=>by obtain⟨v,vs',he,hv,_⟩:=hpl' X;cases he;exact hv
  have PG:rdFds fx ver (.cons lo hi tag df off ty r0) r=(rdFds fx ver r0 r).bind fun vs r=>.ok (eV df ty::vs) r:=by
   have:(tag.isNone&&has lo hi ver)=false:=by
    cases h:(tag.isNone&&has lo hi ver) with
    | false=>rfl
    | true=>simp only[Bool.and_eq_true]at h;exact absurd h ht
   simp[rdFds,this]
  rw[PG]at ho
  cases Oy:tag.isNone with
  | false=>
   simp only[gFds,Oy,Bool.false_eq_true,if_false]at hn ⊢
   exact od h2 Io.2 K5.1 K5.2 HY hc Ih hk (Nat.le_refl _) Jb hn hb O3 (Pv.refl _ _ _ _ _) HY.rd (dS.refl _ _ _ _) Mi ho
  | true=>
   have KV:i6 (lH g cx ty (ms.headD (.mk [] []))):=nh g ty _ cx
   simp only[gFds,Oy,if_true]at hn ⊢
   simp only[gL]at hn
   have P5:=JE (dA g cx lo hi (gS (lH g cx ty (ms.headD (.mk [] [])))) n).2
   have Ow:n<=(dA g cx lo hi (gS (lH g cx ty (ms.headD (.mk [] [])))) n).2:=by
    have hu:Up (dA g cx lo hi (gS (lH g cx ty (ms.headD (.mk [] []))))):=by
     unfold dA
     split
     ·exact bX (ei KV) (bq _)
     ·exact fg (ei KV) (bX (ei KV) (bq _))
    exact hu n
   refine ad ?_
   rw[aO]
   refine pJ (x:=6) (m:=m) (k0:=k0) (ver:=ver) HY.sv hc.le hk (by have:=hc.ver;have:=hc.le;omega) (ei KV) (by omega) (fun a' n' hp Kf IE hg Jg=>absurd ⟨Oy,Jg⟩ ht) (fun a' hp Jt=>?_)
   have hs:=hp.size
   exact od h2 Io.2 K5.1 K5.2 HY hc Ih hk Ow Jb hn hb O3 hp HY.rd (dS.refl _ _ _ _) Mi ho
end
section
variable {P:Program} {g:G} {av:PF->Bool} {fl:Bool} {D:Nat->Option (List (Nat × Value))}
theorem gT.one {w:World}{X:Nat->Prop}{ty:Ty}{cs:List Value}{v:V}(h:gT w X ty cs v):∀ u∈cs,u.oneCell'=true:=by
 cases ty with
 | prim p=>
  cases p
  case bool=>obtain⟨b,rfl,_⟩:=h;intro u hu;simp at hu;subst hu;rfl
  case uuid=>
   obtain⟨l,hl,rfl,_⟩:=h
   intro u hu
   obtain⟨b,_,rfl⟩:=List.mem_map.1 hu
   rfl
  all_goals (obtain⟨x,rfl,_⟩:=h;intro u hu;simp at hu;subst hu;rfl)
 | str nul=>
  cases nul with
  | none=>obtain⟨l,rfl,_⟩:=h;intro u hu;simp at hu;subst hu;rfl
  | some m=>
   rcases h with⟨rfl,_⟩|⟨l,b,o,rfl,_⟩<;>(intro u hu;simp at hu;subst hu;rfl)
 | bytes nul=>
  rcases h with⟨rfl,_⟩|⟨l,b,o,c,rfl,_⟩<;>(intro u hu;simp at hu;subst hu;rfl)
 | list=>exact h.elim
 | struct=>exact h.elim
theorem uw {w:World}{X:Nat->Prop}{ty:Ty}{b o:Nat}{v:V}{cs:List Value}(hl:ty.leaf=true)(hc:au w b o cs)(h:gT w X ty cs v):Rp w X ty b o v:=by
 cases ty<;>first|exact⟨cs,hc,h⟩|cases hl
theorem qy {ty:Ty}{x:List Nat}(h:Bu ty x=true):(∃ t,x=[t]/\∃ q,ty=.str (some (q+1))) \/ (x=[]/\∀ q,ty≠.str (some (q+1))) \/ (∃ t u,x=[t,u]/\∃ p,ty=.prim p/\p≠.uuid):=by
 cases ty with
 | prim p=>
  simp only[Bu,Bool.or_eq_true,beq_iff_eq,Bool.and_eq_true,bne_iff_ne]at h
  rcases h with h|⟨h,hp⟩
  ·exact .inr (.inl ⟨List.length_eq_zero_iff.1 h,fun q hq=>by cases hq⟩)
  ·match x,h with
   | [t,u],_=>exact .inr (.inr ⟨t,u,rfl,p,rfl,hp⟩)
 | str nul=>
  cases nul with
  | none=>simp only[Bu,beq_iff_eq]at h;exact .inr (.inl ⟨List.length_eq_zero_iff.1 h,fun q hq=>by cases hq⟩)
  | some q=>
   cases q with
   | zero=>simp only[Bu,beq_iff_eq]at h;exact .inr (.inl ⟨List.length_eq_zero_iff.1 h,fun q hq=>by cases hq⟩)
   | succ q=>
    simp only[Bu,beq_iff_eq]at h
    obtain⟨t,rfl⟩:=List.length_eq_one_iff.1 h
    exact .inl ⟨t,rfl,q,rfl⟩
 | _=>simp only[Bu,beq_iff_eq]at h;exact .inr (.inl ⟨List.length_eq_zero_iff.1 h,fun q hq=>by cases hq⟩)
theorem qf (K0:KB P g av fl){ty:Ty}(hl:ty.leaf=true){nm:Nm}{cx:Cx}{fx:Bool}{ver:Int}{S R B O:Nat}{r:RS}{m k0 n T off:Nat}{K E:Act->World->Prop}{a:Act}{w:World}{te:Nat}{x:List Nat}{old:V}
  (hg:lH g cx ty nm=g7 g cx ty (nm.n 0) x++[iz (ko g ty) cx.s (nm.n 0) (nm.n 1) (nm.n 2) (nm.n 3)]) (Jk:ix ⟨P,g,av,D⟩ cx.hf m k0 ty (nm.n 0) x=true) {agg:Bool} (hF:bw P (nm.n 1) (nm.n 2) (nm.n 3) off agg ty.sz)
  (Mn:ko g ty=none \/ (ko g ty=some g.tUuid/\bc P g.tUuid true ty.sz)) (_hT:nm.n 1=T)
  (HY:RC g cx fx ver S R B O r a w) (hc:dO cx m k0) (hk:k0<=n) (Jb:k0<=a.tmps.size) (hn:(gL (lH g cx ty nm) n).2<=a.tmps.size) (hb:ow w B (O+off+ty.sz) te)
  (ho:wu g S R B (fun j=>O+off<=j/\j<O+off+ty.sz) m k0 n a w (e9 fx ver ty old r) (fun v w'=>rG w S fun X=>Rp w' X ty B (O+off) v) K E):LW P (lH g cx ty nm) n (Rt K E) a w:=by
 have KJ:R<w.heap.size:=HY.rd.lt
 have KC:B<w.heap.size:=hb.lt
 simp only[ix,Bool.and_eq_true]at Jk
 obtain⟨⟨h1,h2⟩,h3⟩:=Jk
 have Lp:m<=nm.n 0/\nm.n 0<k0:=by simp only[jS,Bool.and_eq_true,decide_eq_true_eq]at h2;exact h2.1
 have Iq:=hc.le
 rw[hg]at hn ⊢
 rw[aX]at hn
 simp only[gL,iz,ay]at hn
 have JE:=gm g cx ty (nm.n 0) x n
 refine AN K0 (ver:=ver) h1 HY hc hk h2 Jb (qy h3) (by omega) fun a1 w1 hp=>?_
 obtain⟨cs,HX,hval,J5,Ir,Lb⟩:=hp
 have If:=HX.size
 have Nj:=Lb (fun _=>False) (fun _ h=>h.elim) id
 have Ib:=Nj.len
 obtain⟨cur,hB,Ii⟩:=hb
 have Ly:w1.heap[B]?=some (.cells cur te (0,0)):=by rw[Ir.block B KC HY.BR];exact hB
 have Is:RC g cx fx ver S R B O (dR fx ver ty r).2 a1 w1:=HY.step hc HX J5 Ir (fun _ _ h=>.inl h)
 refine ad (uj (x:=6) (m:=m) (k0:=k0) (cs:=cs) (cur:=cur) (te:=te) Is.ss hF ?_ Ib Nj.one Ly (by omega) Iq (by omega) (by omega) (by omega) fun a2 HZ=>bf ?_)
 ·rcases Mn with hu|⟨hu,hU⟩
  ·rw[hu]at hval ⊢;exact hval
  ·rw[hu]at hval ⊢;exact⟨by rw[Ib];exact hU,hval⟩
 ·have J2:dS R B (fun j=>O+off<=j/\j<O+off+ty.sz) w1 (w1.setRow B (aD cur (O+off) cs)):=dS.store Ly (by rw[Ib];omega) (fun j ha hb=>⟨ha,by rw[Ib]at hb;omega⟩)
  refine ho.ok _ _ a2 _ (oS fx ver ty old r hl) (HX.trans (HZ.mono (Nat.le_refl _) JE)) (J5.keep (ac.setRow (fun k=>k=B) _ _ _ rfl) (fun h=>HY.BS h.symm) (fun h=>HY.BR h.symm))
   ((dS.of_keeps Ir (fun _ _ h=>h) HY.BR).trans J2) fun X hX hS=>?_
  refine uw hl (fun j c hj=>?_) (((Lb (fun k=>X k \/ k=B) (fun k hk=>by rcases hk with hk|rfl<;>first|exact hX k hk|exact KC) (fun hk=>by rcases hk with hk|hk<;>first|exact hS hk|exact HY.BS hk.symm)).keep
   (ac.setRow (fun k=>X k \/ k=B) _ _ _ (.inr rfl))).mono fun k _ hk=>.inl hk)
  have JF:j<cs.length:=(List.getElem?_eq_some_iff.1 hj).1
  rw[cell_setRow_same _ _ _ _ _ _ _ Ly,bA (by omega) j JF]
  exact hj
theorem zN (K0:KB P g av fl)(p:cY):qw P g av fl D (.prim p):=by
 intro nm cx fx ver S R B O r m k0 n T off old K E a w te Io HY hc _ hk Jb hn hb _ ho
 simp only[pU,Bool.and_eq_true,beq_iff_eq,Bool.or_eq_true,bne_iff_ne]at Io
 obtain⟨⟨⟨h1,h2⟩,h3⟩,h4⟩:=Io
 subst h2
 refine qf (D:=D) (x:=nm.l.drop 4) K0 rfl (by simp only[lH]) h1 (fldB_ok h3) ?_ rfl HY hc hk Jb hn hb ho
 by_cases hp:p=.uuid
 ·subst hp
  rcases h4 with h|h
  ·exact absurd rfl h
  ·exact .inr ⟨rfl,varB_ok h⟩
 ·exact .inl (by cases p<;>first|rfl|exact absurd rfl hp)
theorem B8 (K0:KB P g av fl)(nul:Option Nat):qw P g av fl D (.str nul):=by
 intro nm cx fx ver S R B O r m k0 n T off old K E a w te Io HY hc _ hk Jb hn hb _ ho
 simp only[pU,Bool.and_eq_true,beq_iff_eq]at Io
 obtain⟨⟨h1,h2⟩,h3⟩:=Io
 subst h2
 exact qf (D:=D) (x:=nm.l.drop 4) K0 rfl (by simp only[lH,ko]) h1 (fldB_ok h3) (.inl rfl) rfl HY hc hk Jb hn hb ho
theorem xk (K0:KB P g av fl)(nul:Option Nat):qw P g av fl D (.bytes nul):=by
 intro nm cx fx ver S R B O r m k0 n T off old K E a w te Io HY hc _ hk Jb hn hb _ ho
 simp only[pU,Bool.and_eq_true,beq_iff_eq]at Io
 obtain⟨⟨h1,h2⟩,h3⟩:=Io
 subst h2
 exact qf (D:=D) (x:=[]) K0 rfl (by simp only[lH,ko]) h1 (fldB_ok h3) (.inl rfl) rfl HY hc hk Jb hn hb ho
theorem dS.inner {R B R':Nat}{Z Z':Nat->Prop}{w w1 w2:World}(h:dS R B Z w w1)(k:dS R' B Z' w1 w2)(XA:w.heap.size<=R'):dS R B (fun j=>Z j \/ Z' j) w w2:=by
 refine⟨⟨k.keeps.os.trans h.keeps.os,k.keeps.tape.trans h.keeps.tape,k.keeps.output.trans h.keeps.output,Nat.le_trans h.keeps.size k.keeps.size,fun i hi hx=>?_⟩,fun cs te hc=>?_⟩
 ·rw[k.keeps.block i (Nat.lt_of_lt_of_le hi h.keeps.size) (fun hh=>by rcases hh with rfl|rfl;omega;exact hx (.inr rfl)),h.keeps.block i hi hx]
 ·obtain⟨c1,h1,h2,h3⟩:=h.blk cs te hc
  obtain⟨c2,k1,k2,k3⟩:=k.blk c1 te h1
  exact⟨c2,k1,k2.trans h2,fun j hj=>(k3 j fun hh=>hj (.inr hh)).trans (h3 j fun hh=>hj (.inl hh))⟩
def inner (r:RS):RS:=⟨(bt (b5 r).1 (b5 r).2).1.octets,false,(bt (b5 r).1 (b5 r).2).1.isNul⟩
def om (r:RS):RS:=(bt (b5 r).1 (b5 r).2).2
end
section
variable (P:Program) (g:G) (av:PF->Bool) (fl:Bool) (D:Nat->Option (List (Nat × Value)))
def k9 (fs:Fds):Prop:=
 ∀ (ms:List Nm) (cx:Cx) (ver:Int) (S R B O:Nat) (r:RS) (m k0 n T mm key kk:Nat) (dflt:Code) (vs:List V) (A:Nat->Prop) (K E:Act->World->Prop) (a:Act) (w:World) (te:Nat),
  okTagd ⟨P,g,av,D⟩ m k0 T fs ms=true->l7 fs=true->RC g cx true ver S R B O r a w->dO cx m k0->cx.hf=true->fl=true->k0<=n->k0<=a.tmps.size->(eR g key dflt (gTagd g cx fs ms) n).2<=a.tmps.size->ow w B (O+fs.ext mm) te ->
  a.get key=.int .u32 kk->k0<=key->key<n->A R->A B->(∀ k,A k->k<w.heap.size)->fw A S (fun X=>RpF w X fs B O vs) ->
  (rdTag true ver fs kk=none->∀ a',Pv 6 m k0 n a a'->a'.get key=.int .u32 kk->aK P dflt (Rt K E) a' w) ->
  (∀ gf,rdTag true ver fs kk=some gf ->
   (∀ vs' r' a' w',gf vs (inner r)=.ok vs' r'->r'.bad=false->Pv 6 m k0 n a a'->cy w' g.tR S R (om r)->dS R B (fs.In O) w w'->fw A S (fun X=>RpF w' X fs B O vs')->K a' w') /\
   ((gf vs (inner r)=.err \/ ∃ vs' r',gf vs (inner r)=.ok vs' r'/\r'.bad=true)->∀ a' w',Pv 6 m k0 n a a'->(∃ t y,a'.get 6=.iface t y)->ac (fun k=>k=R \/ k=B) w w'->E a' w')/\gf vs (inner r)≠.stuck) ->
  aK P (eR g key dflt (gTagd g cx fs ms) n).1 (Rt K E) a w
end
section
variable {P:Program} {g:G} {av:PF->Bool} {fl:Bool} {D:Nat->Option (List (Nat × Value))}
theorem za:k9 P g av fl D .nil:=by
 intro ms cx ver S R B O r m k0 n T mm key kk dflt vs A K E a w te _ _ HY hc _ _ hk _ _ _ Jf _ _ _ _ _ _ JJ _
 exact JJ rfl a (Pv.refl _ _ _ _ _) Jf
theorem ph {lo:Nat}{hi tag:Option Nat}{df:Int}{off:Nat}{ty:Ty}{r0:Fds}(h2:k9 P g av fl D r0){ms:List Nm}{cx:Cx}{ver:Int}{S R B O:Nat}{r:RS}{m k0 n n2 T mm key kk:Nat}{dflt:Code}{v:V}{vs:List V}{A:Nat->Prop}{K E:Act->World->Prop}{a a1:Act}{w:World}{te:Nat}
  (Io:okTagd ⟨P,g,av,D⟩ m k0 T r0 ms=true) (KG:kj r0 off (off+ty.sz)=true) (K5:l7 r0=true) (HY:RC g cx true ver S R B O r a w) (hc:dO cx m k0) (IC:cx.hf=true) (Ih:fl=true) (_hk:k0<=n) (IE:n<=n2) (Jb:k0<=a.tmps.size)
  (hn:(eR g key dflt (gTagd g cx r0 ms) n2).2<=a.tmps.size) (hb:ow w B (O+(Fds.cons lo hi tag df off ty r0).ext mm) te) (hp:Pv 6 m k0 n a a1) (Jf:a1.get key=.int .u32 kk) (Jo:k0<=key) (Ma:key<n) (Py:A R) (Pz:A B) (hA:∀ k,A k->k<w.heap.size)
  (hv:fw A S fun X=>Rp w X ty B (O+off) v) (Ji:fw A S fun X=>RpF w X r0 B O vs) (Kl:(tag==some kk)=false)
  (JJ:rdTag true ver (.cons lo hi tag df off ty r0) kk=none->∀ a',Pv 6 m k0 n a a'->a'.get key=.int .u32 kk->aK P dflt (Rt K E) a' w)
  (Lr:∀ gf,rdTag true ver (.cons lo hi tag df off ty r0) kk=some gf ->
   (∀ vs' r' a' w',gf (v::vs) (inner r)=.ok vs' r'->r'.bad=false->Pv 6 m k0 n a a'->cy w' g.tR S R (om r)->dS R B ((Fds.cons lo hi tag df off ty r0).In O) w w'->fw A S (fun X=>RpF w' X (.cons lo hi tag df off ty r0) B O vs')->K a' w') /\
   ((gf (v::vs) (inner r)=.err \/ ∃ vs' r',gf (v::vs) (inner r)=.ok vs' r'/\r'.bad=true)->∀ a' w',Pv 6 m k0 n a a'->(∃ t y,a'.get 6=.iface t y)->ac (fun k=>k=R \/ k=B) w w'->E a' w')/\gf (v::vs) (inner r)≠.stuck) :
  aK P (eR g key dflt (gTagd g cx r0 ms) n2).1 (Rt K E) a1 w:=by
 have If:=hp.size
 have K1:∀ j,r0.In O j->¬ (O+off<=j/\j<O+off+ty.sz):=fun j hj hh=>eX r0 off (off+ty.sz) O j KG hj ⟨hh.1,by omega⟩
 have Is:RC g cx true ver S R B O r a1 w:=HY.step hc hp HY.rd (ac.refl (fun _=>False) w) (fun _ _ h=>h.elim)
 have T6:rdTag true ver (.cons lo hi tag df off ty r0) kk=(rdTag true ver r0 kk).map fun g vs r=>(g vs.tail r).bind fun vs' r'=>.ok (vs.headD .nul::vs') r':=by simp[rdTag,Kl]
 rw[T6]at JJ Lr
 refine h2 ms cx ver S R B O r m k0 n2 T (Nat.max mm (off+ty.sz)) key kk dflt vs A K E a1 w te Io K5 Is hc IC Ih (by omega) (by omega) (by omega) hb Jf Jo (by omega) Py Pz hA Ji (fun h a' I3 J1=>JJ (by rw[h];rfl) a' (hp.trans (I3.mono (Nat.le_refl _) IE)) J1) fun gf Mu=>?_
 obtain⟨k1,k2,k3⟩:=Lr _ (by rw[Mu];rfl)
 simp only[List.tail_cons,List.headD_cons]at k1 k2 k3
 refine⟨fun vs' r' a' w' he IA I3 Lt J2 Nt=>?_,fun he a' w' I3 JX hkp=>?_,fun he=>?_⟩
 ·refine k1 (v::vs') r' a' w' (by rw[he];rfl) IA (hp.trans (I3.mono (Nat.le_refl _) IE)) Lt (J2.mono fun j hj=>.inr hj) fun X hX hS=>⟨v,vs',rfl,?_,Nt X hX hS⟩
  exact Rp.evoA J2 Py Pz HY.SR.symm HY.BS hb hv (fun j ha hb hj=>K1 j hj ⟨ha,hb⟩) X hX hS
 ·refine k2 ?_ a' w' (hp.trans (I3.mono (Nat.le_refl _) IE)) JX hkp
  rcases he with he|⟨vs',r',he,IA⟩
  ·exact .inl (by rw[he];rfl)
  ·exact .inr ⟨_,r',by rw[he];rfl,IA⟩
 ·exact k3 (by rw[he];rfl)
theorem wi (K0:KB P g av fl){lo:Nat}{hi tag:Option Nat}{df:Int}{off:Nat}{ty:Ty}{r0:Fds}(h1:qw P g av fl D ty)(h2:k9 P g av fl D r0):k9 P g av fl D (.cons lo hi tag df off ty r0):=by
 intro ms cx ver S R B O r m k0 n T mm key kk dflt vs A K E a w te Io K5 HY hc IC Ih hk Jb hn hb Jf Jo Ma Py Pz hA Ji JJ Lr
 simp only[okTagd,Bool.and_eq_true]at Io
 simp only[l7,Bool.and_eq_true]at K5
 obtain⟨v,vs',LH,hv,Nt⟩:∃ v vs',vs=v::vs'/\fw A S (fun X=>Rp w X ty B (O+off) v)/\fw A S (fun X=>RpF w X r0 B O vs'):=by
  obtain⟨v,vs',he,_,_⟩:=Ji (fun _=>False) (fun _ h=>h.elim) id
  refine⟨v,vs',he,fun X hX hS=>?_,fun X hX hS=>?_⟩
  ·obtain⟨v2,vs2,Kr,h,_⟩:=Ji X hX hS
   rw[he]at Kr
   cases Kr
   exact h
  ·obtain⟨v2,vs2,Kr,_,h⟩:=Ji X hX hS
   rw[he]at Kr
   cases Kr
   exact h
 subst LH
 cases tag with
 | none=>
  simp only[gTagd]at hn ⊢
  exact ph (tag:=none) (lo:=lo) (hi:=hi) (df:=df) (off:=off) (ty:=ty) h2 Io.2 K5.1 K5.2 HY hc IC Ih hk (Nat.le_refl _) Jb hn hb (Pv.refl _ _ _ _ _) Jf Jo Ma Py Pz hA hv Nt rfl JJ Lr
 | some t=>
  simp only[Bool.and_eq_true,decide_eq_true_eq]at Io
  obtain⟨⟨⟨⟨ht,Iu⟩,Vy⟩,PP⟩,LV⟩:=Io
  generalize hm:ms.headD (.mk [] [])=mh at *
  have Iq:=hc.le
  have OR:=hc.six
  have OJ:=hc.b
  have Uv:=kU (g:=g) (key:=key) (dflt:=dflt) (l:=gTagd g cx r0 ms.tail) (up_gTagd g r0 ms.tail cx)
  have KV:=nh g ty (mh.sub 0) { cx with b:=mh.n 0 }
  have KJ:R<w.heap.size:=HY.rd.lt
  have KC:B<w.heap.size:=hb.lt
  simp only[gTagd,hm]at hn ⊢
  generalize ID:(gS ([nY g cx.b (mh.n 0)]++lH g { cx with b:=mh.n 0 } ty (mh.sub 0)++[mP g (mh.n 0) (mh.n 1)]):GC)=body at hn ⊢
  have IK:(body (n+2)).2=(gL (lH g { cx with b:=mh.n 0 } ty (mh.sub 0)) (n+6)).2+4:=by
   rw[<- ID]
   simp only[gS,aX,gL]
   rfl
  have hn':(eR g key dflt (gTagd g cx r0 ms.tail) (body (n+2)).2).2<=a.tmps.size:=hn
  have hupr':=Uv (body (n+2)).2
  have hupT':=KV (n+6)
  refine BP (x:=6) (m:=m) (k0:=k0) Jf Ma Iq hk (by omega) (fun M9 a0 Pf=>?_) (fun M9 a0 Pf hkey0=>?_)
  ·subst M9
   have KF:=Pf.size
   have UN:RC g cx true ver S R B O r a0 w:=HY.step hc Pf HY.rd (ac.refl (fun _=>False) w) (fun _ _ h=>h.elim)
   obtain⟨k1,k2,k3⟩:=Lr (fun vs r=>(e9 true ver ty (vs.headD .nul) r).bind fun v r=>.ok (v::vs.tail) r) (by simp only[rdTag,BEq.rfl,if_true])
   simp only[List.headD_cons,List.tail_cons]at k1 k2 k3
   rw[<- ID]
   refine aY ?_
   show LW P (nY g cx.b (mh.n 0)::(lH g { cx with b:=mh.n 0 } ty (mh.sub 0)++[mP g (mh.n 0) (mh.n 1)])) (n+2) (Rt K E) a0 w
   refine ad (Ac K0 Ih UN hc ⟨Iu.1,Iu.2.1⟩ (by omega) (by omega) fun a1 w1 R' HX IX XA UJ hrdO L6=>?_)
   have If:=HX.size
   have Kz:Pv 6 m k0 n a a1:=Pf.trans (HX.mono (Nat.le_refl _) (by omega))
   have Kq:dS R B (fun _=>False) w w1:=dS.of_keeps L6 (fun _ _ h=>h) HY.BR
   have herr:ErrAt g.gErr w:=HY.err
   obtain⟨te',ye,On⟩:=herr
   have MA:=bP On
   have UL:RC g { cx with b:=mh.n 0 } true ver S R' B O (inner r) a1 w1:=
    ⟨UJ,IX,(Kz.get _ hc.s.2 (.inl hc.s.1)).trans HY.ss,(Kz.get _ hc.ver.2 (.inl hc.ver.1)).trans HY.sv,fun _=>(Kz.get _ hc.fx.2 (.inl hc.fx.1)).trans (HY.sf IC),fun h=>(by rw[IC]at h;cases h),
     (Kz.get 2 (by omega) (.inl (by omega))).trans HY.su,ErrAt.keep ⟨te',ye,On⟩ L6 HY.gR,by have:=HY.Slt;omega,by omega,HY.BS,by omega,HY.gB,Nat.lt_of_lt_of_le HY.Slt L6.size⟩
   have hcI:dO { cx with b:=mh.n 0 } (mh.n 0+1) k0:=
    ⟨⟨by simp,by simp only;omega⟩,⟨by have:=hc.s;simp only;omega,hc.s.2⟩,⟨by have:=hc.ver;simp only;omega,hc.ver.2⟩,⟨by have:=hc.fx;simp only;omega,hc.fx.2⟩,by omega,by omega⟩
   have Jv:rE w1 B (O+off) true ty v:=by
    have hX:∀ X:Nat->Prop,X=(fun _=>False)->Rp w1 X ty B (O+off) v:=fun X hX=>by
     subst hX
     exact Rp.evoA Kq Py Pz HY.SR.symm HY.BS hb hv (fun _ _ _ h=>h) _ (fun _ h=>h.elim) id
    cases ty with
    | struct nul toff fs=>
     cases nul with
     | none=>exact .inl ⟨Vy,rfl⟩
     | some q=>exact hX _ rfl
    | list nul esz e=>exact hX _ rfl
    | _=>trivial
   have Mx:=jc r0 (Nat.max mm (off+ty.sz))
   have S7:off+ty.sz<=Nat.max mm (off+ty.sz):=Nat.le_max_right _ _
   have hb1':=hb.evo Kq
   have OF:(nY g cx.b (mh.n 0) (n+2)).2=n+6:=rfl
   rw[OF]
   refine ep ?_
   rw[aO]
   refine h1 (mh.sub 0) { cx with b:=mh.n 0 } true ver S R' B O (inner r) (mh.n 0+1) k0 (n+6) T off v _ E a1 w1 te (by simp only[IC];exact PP) UL hcI (fun _=>Ih) (by omega) (by omega) (by omega) (hb1'.mono (by simp only[Fds.ext];omega)) Jv
    ⟨fun u r' a2 w2 he HZ I1 I8 hu=>?_,fun he a2 w2 HZ JX Ic=>?_,fun he=>?_⟩
   ·have Iw:=HZ.size
    have Qi:a2.get (mh.n 0)=pt R' 0:=by rw[HZ.get _ (by omega) (.inl (by omega))];exact IX
    have Lf:ErrAt g.gErr w2:=(ErrAt.keep (ErrAt.keep ⟨te',ye,On⟩ L6 HY.gR) I8.keeps (fun h=>by rcases h with h|h;omega;exact HY.gB h))
    have IB:Pv 6 m k0 n a a2:=Kz.trans (HZ.mono (by omega) (by omega))
    have Pm:=Kq.inner I8 XA
    refine ad ?_
    rw[aO]
    refine x9 (m:=m) (k0:=k0) K0 Ih Qi I1 Lf OR ⟨Iu.2.2.1,Iu.2.2.2⟩ Iq (by omega) (by omega) (fun IA a3 w3 Ie JX Il=>?_) (fun IA a3 w3 Ie Il=>bf ?_)
    ·exact k2 (.inr ⟨u::vs',r',by rw[he];rfl,IA⟩) a3 w3 (IB.trans (Ie.mono (Nat.le_refl _) (by omega))) JX (Pm.keeps.trans (Il.mono fun _ _ h=>h.elim))
    ·have My:dS R B (fun _=>False) w2 w3:=dS.of_keeps Il (fun _ _ h=>h.elim) HY.BR
     have Pl:dS R B (fun j=>O+off<=j/\j<O+off+ty.sz) w w3:=(Pm.trans (My.mono fun _ h=>h.elim)).mono fun j hj=>by rcases hj with h|h;exact h.elim;exact h
     refine k1 (u::vs') r' a3 w3 (by rw[he];rfl) IA (IB.trans (Ie.mono (Nat.le_refl _) (by omega))) ?_ (Pl.mono fun j hj=>.inl hj) fun X hX hS=>⟨u,vs',rfl,?_,?_⟩
     ·exact(hrdO.keep I8.keeps (fun h=>by rcases h with h|h;(have:=HY.Slt;omega);exact HY.BS h.symm) (fun h=>by rcases h with h|h;omega;exact HY.BR h.symm)).keep Il id id
     ·have Mj:fw A S fun X=>Rp w2 X ty B (O+off) u:=fun X hX hS=>hu X (fun k hk=>Nat.lt_of_lt_of_le (hA k (hX k hk)) L6.size) hS
      exact Rp.evoA My Py Pz HY.SR.symm HY.BS (hb1'.evo I8) Mj (fun _ _ _ h=>h) X hX hS
     ·exact RpF.evoA Pl Py Pz HY.SR.symm HY.BS hb Nt (fun j hj hh=>eX r0 off (off+ty.sz) O j K5.1 hj ⟨hh.1,by omega⟩) X hX hS
   ·refine k2 (.inl (by rw[he];rfl)) a2 w2 (Kz.trans (HZ.mono (by omega) (by omega))) JX ?_
    exact⟨Ic.os.trans L6.os,Ic.tape.trans L6.tape,Ic.output.trans L6.output,Nat.le_trans L6.size Ic.size,fun i hi hx=>by
     rw[Ic.block i (Nat.lt_of_lt_of_le hi L6.size) (fun hh=>by rcases hh with rfl|rfl;omega;exact hx (.inr rfl)),L6.block i hi (fun hh=>hx (.inl hh))]⟩
   ·exact k3 (by rw[he];rfl)
  ·have JE:n<=(body (n+2)).2:=by omega
   exact ph (tag:=some t) (lo:=lo) (hi:=hi) (df:=df) (off:=off) (ty:=ty) h2 LV K5.1 K5.2 HY hc IC Ih hk JE Jb hn' hb Pf hkey0 Jo Ma Py Pz hA hv Nt (by simp;omega) JJ Lr
end
def Fds.Zn (fs:Fds)(toff:Option Nat)(O j:Nat):Prop:=fs.In O j \/ ∃ o,toff=some o/\j=O+o
theorem wz {fs:Fds}{toff:Option Nat}{O j:Nat}(h:fs.Zn toff O j):O<=j/\j<O+fs.ext (dl toff):=by
 rcases h with h|⟨o,rfl,rfl⟩
 ·exact yF fs _ O j h
 ·have:o+1<=fs.ext (o+1):=jc fs (o+1)
  have e:fs.ext (dl (some o))=fs.ext (o+1):=rfl
  omega
def kl (w:World)(B O:Nat)(toff:Option Nat):Prop:=match toff with|some k=>w.cell? ⟨B,O+k,none⟩=some (.map none)|none=>True
theorem kl.at {w:World}{B O:Nat}{toff:Option Nat}(h:kl w B O toff)(X:Nat->Prop):dJ w X B O toff []:=by
 cases toff with
 | none=>rfl
 | some k=>exact⟨_,h,.inl ⟨rfl,rfl⟩⟩
section
variable (P:Program) (g:G) (av:PF->Bool) (fl:Bool) (D:Nat->Option (List (Nat × Value)))
def zq (fs:Fds):Prop:=
 ∀ (nm:Nm) (cx:Cx) (fx:Bool) (ver:Int) (S R B O:Nat) (r:RS) (m k0 n T kt:Nat) (toff:Option Nat) (K E:Act->World->Prop) (a:Act) (w:World) (te:Nat),
  vA ⟨P,g,av,D⟩ cx.hf m k0 T kt toff fs nm (okFds ⟨P,g,av,D⟩ cx.hf m k0 T fs nm.s) (okTagd ⟨P,g,av,D⟩ (nm.n 1+1) k0 T fs nm.s)=true->RC g cx fx ver S R B O r a w->dO cx m k0->(cx.hf=true->fl=true)->k0<=n->k0<=a.tmps.size ->
  (gL (fo g cx fs.tagged T kt nm (gFds g cx fs nm.s) (gTagd g cx fs nm.s)) n).2<=a.tmps.size->ow w B (O+fs.ext (dl toff)) te ->
  ((fs.plain=true/\fx=true) \/ ((∀ X,RpF w X fs B O (dfFds fs))/\kl w B O toff)) ->
  wu g S R B (fs.Zn toff O) m k0 n a w (gJ fx fs.tagged (rdFds fx ver fs) (rdTag fx ver fs) r)
   (fun v w'=>∃ vs t,v=.st vs t/\rG w S (fun X=>RpF w' X fs B O vs)/\rG w S (fun X=>dJ w' X B O toff t)) K E ->
  LW P (fo g cx fs.tagged T kt nm (gFds g cx fs nm.s) (gTagd g cx fs nm.s)) n (Rt K E) a w
end
section
variable {P:Program} {g:G} {av:PF->Bool} {fl:Bool} {D:Nat->Option (List (Nat × Value))}
theorem jC:∀ (fs:Fds),fs.plain=true->fs.tagged=false
 | .nil,_=>rfl
 | .cons lo hi tag df off ty r,h=>by
  simp only[Fds.plain,Bool.and_eq_true]at h
  have ht:tag=none:=by cases tag<;>first|rfl|simp at h
  simp[Fds.tagged,ht,jC r h.2]
def AH (g:G)(S R B O o:Nat)(fs:Fds)(ver:Int)(w0:World)(out:jq V)(c:Nat)(w:World):Prop:=
 ∃ (vs:List V) (t:List (Nat × Bs)) (r:RS) (mm:Value),out=dG (rdTag true ver fs) c vs t r/\cy w g.tR S R r/\dS R B (fun j=>fs.In O j \/ j=O+o) w0 w/\w.cell? ⟨B,O+o,none⟩=some mm /\
  ((mm=.map none/\t=[]) \/ ∃ q,mm=.map (some q)/\w0.heap.size<=q/\q<w.heap.size) /\
  fw (fun k=>k<w0.heap.size \/ mm=.map (some k)) S (fun X=>RpF w X fs B O vs)/\fw (·<w0.heap.size) S (fun X=>dJ w X B O (some o) t)
theorem p6 {S R B O o:Nat}{fs:Fds}{w0 w w':World}{vs:List V}{t t':List (Nat × Bs)}{mm:Value}{q te:Nat}{cur:Array Value}(KJ:R<w0.heap.size)(KC:B<w0.heap.size)(hSw:S<w0.heap.size)(hRS:R≠S)(Lx:B≠S)(Ot:B≠R)
  (J2:dS R B (fun j=>fs.In O j \/ j=O+o) w0 w) (hB:w.heap[B]?=some (.cells cur te (0,0))) (KG:kj fs o (o+1)=true) (hO:O+o<cur.size)
  (K9:(mm=.map none/\t=[]) \/ ∃ p,mm=.map (some p)/\w0.heap.size<=p/\p<w.heap.size)
  (hF:fw (fun k=>k<w0.heap.size \/ mm=.map (some k)) S (fun X=>RpF w X fs B O vs)) (hT:fw (·<w0.heap.size) S (fun X=>cF w X mm t))
  (NZ:mm=.map none->w.heap.size<=q) (JV:∀ p,mm=.map (some p)->q=p) (hk:ac (fun b=>b=R \/ b=B \/ b=q) w w') (QB:w'.heap[B]?=some (.cells (cur.setIfInBounds (O+o) (.map (some q))) te (0,0)))
  (Jr:∀ X:Nat->Prop,¬ X q->(∀ k,X k->k<w.heap.size)->¬ X S->cF w (fun k=>X k \/ k=R) mm t->cF w' X (.map (some q)) t') :
  dS R B (fun j=>fs.In O j \/ j=O+o) w0 w'/\w'.cell? ⟨B,O+o,none⟩=some (.map (some q))/\w0.heap.size<=q/\q<w'.heap.size /\
  fw (fun k=>k<w0.heap.size \/ Value.map (some q)=.map (some k)) S (fun X=>RpF w' X fs B O vs)/\fw (·<w0.heap.size) S (fun X=>dJ w' X B O (some o) t'):=by
 have Ii:=J2.keeps.size
 have hqw:w0.heap.size<=q:=by
  rcases K9 with⟨h,_⟩|⟨p,h,hp,_⟩
  ·exact Nat.le_trans Ii (NZ h)
  ·rw[JV p h];exact hp
 have Ia:w'.cell? ⟨B,O+o,none⟩=some (.map (some q)):=by
  simp[World.cell?,QB,hO]
 have SY:fw (·<w0.heap.size) S (fun X=>cF w' X (.map (some q)) t'):=fun X hX hS=>by
  refine Jr X (fun Q3=>?_) (fun k hk=>Nat.lt_of_lt_of_le (hX k hk) Ii) hS (hT _ (fun k hk=>by rcases hk with hk|rfl;exact hX k hk;exact KJ) (fun hk=>by rcases hk with hk|hk;exact hS hk;exact hRS hk.symm))
  have:=hX q Q3
  simp only at this
  omega
 have PL:q<w'.heap.size:=by
  rcases SY (fun _=>False) (fun _ h=>h.elim) id with⟨h,_⟩|⟨r,h,_,hr,_⟩
  ·cases h
  ·cases h;exact hr
 have L9:∀ j,fs.In O j->w'.cell? ⟨B,j,none⟩=w.cell? ⟨B,j,none⟩:=fun j hj=>by
  have Kl:O+o≠j:=fun h=>eX fs o (o+1) O j KG hj ⟨by omega,by omega⟩
  simp[World.cell?,hB,QB,Kl]
 refine⟨⟨⟨hk.os.trans J2.keeps.os,hk.tape.trans J2.keeps.tape,hk.output.trans J2.keeps.output,Nat.le_trans Ii hk.size,fun i hi hx=>?_⟩,fun cs te' hc=>?_⟩,Ia,hqw,PL,fun X hX hS=>?_,fun X hX hS=>⟨_,Ia,SY X hX hS⟩⟩
 ·rw[hk.block i (Nat.lt_of_lt_of_le hi Ii) (fun h=>by rcases h with h|h|h;exact hx (.inl h);exact hx (.inr h);omega),J2.keeps.block i hi hx]
 ·obtain⟨c1,h1,h2,h3⟩:=J2.blk cs te' hc
  rw[hB]at h1
  obtain⟨rfl,rfl,_⟩:=Obj.cells.inj (Option.some.inj h1)
  refine⟨_,QB,by simpa using h2,fun j hj=>?_⟩
  rw[Array.getElem?_setIfInBounds,if_neg (fun h=>hj (.inr h.symm))]
  exact h3 j hj
 ·have h1:=hF (fun k=>(X k/\(k<w0.heap.size \/ mm=.map (some k))) \/ k=R \/ k=B \/ (mm=.map (some q)/\k=q)) (fun k hk=>by
   rcases hk with hk|rfl|rfl|⟨hm,rfl⟩
   ·exact hk.2
   ·exact .inl KJ
   ·exact .inl KC
   ·exact .inr hm) (fun hk=>by
   rcases hk with hk|hk|hk|⟨_,hk⟩
   ·exact hS hk.1
   ·exact hRS hk.symm
   ·exact Lx hk.symm
   ·omega)
  have h2:RpF w (fun k=>X k \/ k=R \/ k=B \/ k=q) fs B O vs:=RpF.mono (fun k Pj hk=>by
   have Xc:k=q->mm=.map (some q):=fun he=>by
    rcases K9 with⟨h,_⟩|⟨p,h,_,_⟩
    ·have:=NZ h;omega
    ·rw[h,JV p h]
   rcases hk with hk|hk|hk|hk
   ·refine .inl ⟨hk,?_⟩
    rcases hX k hk with h|h
    ·exact .inl h
    ·simp only[Value.map.injEq,Option.some.injEq]at h
     subst h
     exact .inr (Xc rfl)
   ·exact .inr (.inl hk)
   ·exact .inr (.inr (.inl hk))
   ·exact .inr (.inr (.inr ⟨Xc hk,hk⟩))) fs B O vs h1
  have h3:=RpF.frameIn (hk.mono fun k _ hk=>.inr hk) fs B O vs h2 L9
  exact RpF.mono (fun k _ hk=>.inl hk) fs B O vs h3
theorem l9 {cx:Cx}{m m' k0:Nat}(h:dO cx m k0)(hm:m<=m')(hk:m'<=k0):dO cx m' k0:=
 ⟨⟨by have:=h.b;omega,h.b.2⟩,⟨by have:=h.s;omega,h.s.2⟩,⟨by have:=h.ver;omega,h.ver.2⟩,⟨by have:=h.fx;omega,h.fx.2⟩,by have:=h.six;omega,hk⟩
theorem xm (K0:KB P g av fl){fs:Fds}(h2:k9 P g av fl D fs){nm:Nm}{cx:Cx}{ver:Int}{S R B O o:Nat}{r0:RS}{m k0 n T kt _mm:Nat}{E:Act->World->Prop}{a a1:Act}{w0 w1:World}{te:Nat}{out:jq V}{c:Nat}{i:Nat}
  (Io:okTagd ⟨P,g,av,D⟩ (nm.n 1+1) k0 T fs nm.s=true) (K5:l7 fs=true) (hF:bw P T kt g.tTags o true 1) (KG:kj fs o (o+1)=true) (Iu:m<=i/\i<nm.n 1/\nm.n 1<k0) (HY:RC g cx true ver S R B O r0 a w0) (hc:dO cx m k0) (IC:cx.hf=true) (Ih:fl=true) (hk:k0<=n) (Jb:k0<=a.tmps.size)
  (hn:((gS [aC g.uv cx.b (nm.n 1),jX g cx (nm.n 1) (nm.n 4) T kt (gTagd g cx fs nm.s)]:GC) (n+5)).2<=a.tmps.size) (hb:ow w0 B (O+fs.ext (o+1)) te) (HX:Pv 6 i k0 n a a1) (hI:AH g S R B O o fs ver w0 out (c+1) w1) (NI:out≠.stuck)
  (hE:out=.err->∀ a' w',Pv 6 m k0 n a a'->(∃ t y,a'.get 6=.iface t y)->ac (fun k=>k=R \/ k=B) w0 w'->E a' w') :
  aK P ((gS [aC g.uv cx.b (nm.n 1),jX g cx (nm.n 1) (nm.n 4) T kt (gTagd g cx fs nm.s)]:GC) (n+5)).1 (Rt (fun a2 w2=>Pv 6 (i+1) k0 (n+5) a1 a2/\AH g S R B O o fs ver w0 out c w2) E) a1 w1:=by
 obtain⟨vs,t,r,cell,K1,Lt,J2,Ia,K9,Wx,Wt⟩:=hI
 have KJ:R<w0.heap.size:=HY.rd.lt
 have KC:B<w0.heap.size:=hb.lt
 have If:=HX.size
 have OR:=hc.six
 have Is:RC g cx true ver S R B O r a1 w1:=HY.step hc (HX.mono Iu.1 (Nat.le_refl _)) Lt J2.keeps (fun _ _ h=>h)
 have Pp:dO cx (i+1) k0:=l9 hc (by omega) (by omega)
 have VV:dO cx (nm.n 1+1) k0:=l9 hc (by omega) (by omega)
 have hn':(eR g (n+6) (fW g cx (nm.n 1) T kt (n+6+1)) (gTagd g cx fs nm.s) (n+6+9)).2<=a.tmps.size:=hn
 have hupc:=kU (g:=g) (key:=n+6) (dflt:=fW g cx (nm.n 1) T kt (n+6+1)) (l:=gTagd g cx fs nm.s) (up_gTagd g fs nm.s cx) (n+6+9)
 refine aY (ad (kx (x:=6) (m:=i+1) (k0:=k0) (K0.uvE Ih) Is.sb (K0.uvC Ih w1 S R r Is.rd Is.SR) (.inr ⟨by omega,Iu.2.2⟩) (by omega) (by omega) (by omega) (by omega) fun e w2 hR=>?_))
 obtain⟨he,I1,Ic⟩:=hR
 refine⟨_,he,fun a2 HZ Ij=>?_⟩
 have Iw:=HZ.size
 have IM:RC g cx true ver S R B O (b5 r).2 a2 w2:=Is.step Pp HZ I1 Ic (fun _ _ h=>.inl h)
 have IB:Pv 6 i k0 n a a2:=HX.trans (HZ.mono (by omega) (by omega))
 have I8:dS R B (fun j=>fs.In O j \/ j=O+o) w0 w2:=J2.trans (dS.of_keeps Ic (fun _ _ h=>h) HY.BR)
 have NL:dS R B (fun _=>False) w1 w2:=dS.of_keeps Ic (fun _ _ h=>h) HY.BR
 have IX:=hb.evo J2
 have IK:=hb.evo I8
 have J0:=jA r
 have M5:=J2.keeps.size
 have WZ:=Ic.size
 have Lg:w2.cell? ⟨B,O+o,none⟩=some cell:=by
  obtain⟨cur,Ke,_⟩:=IX
  rw[NL.cell Ke id];exact Ia
 have hAw:∀ k,(k<w0.heap.size \/ cell=.map (some k))->k<w2.heap.size:=fun k hk=>by
  rcases hk with hk|hk
  ·omega
  ·rcases K9 with⟨h,_⟩|⟨q,h,_,hq⟩
   ·rw[h]at hk;cases hk
   ·rw[h]at hk;cases hk;omega
 have Td:fw (fun k=>k<w0.heap.size \/ cell=.map (some k)) S (fun X=>RpF w2 X fs B O vs):=RpF.evoA NL (.inl KJ) (.inl KC) HY.SR.symm HY.BS IX Wx (fun _ _ h=>h)
 have SZ:fw (·<w0.heap.size) S (fun X=>dJ w2 X B O (some o) t):=dJ.evoA NL KJ KC HY.SR.symm HY.BS IX Wt (fun _ _ h=>h)
 refine ad ?_
 rw[aO,show(aC g.uv cx.b (nm.n 1) (n+5)).2=n+6 from rfl]
 refine .seq (R:=Rt (fun a3 w3=>Pv 6 k0 k0 (n+6) a2 a3/\a3.get (n+6)=.int .u32 ((b5 r).1:Nat)/\w3=w2) E) (.reg (ah (wpList_nil ?_))) (fun a3 w3 hh=>?_) (fun e a w he hq=>by cases e<;>first|exact absurd rfl he|exact hq)
 ·rw[aa,Ij]
  exact⟨(Pv.refl _ _ _ _ _).put _ (by omega),ao (by omega),rfl⟩
 obtain⟨O4,I2,rfl⟩:=hh
 have Ie:Pv 6 (i+1) k0 (n+6) a2 a3:=O4.low (by omega)
 have RX:a3.get (nm.n 1)=.int .u32 ((b5 r).1:Nat):=(O4.get _ (by omega) (.inl Iu.2.2)).trans Ij
 have IJ:=Ie.size
 have Je:Pv 6 i k0 n a a3:=IB.trans (Ie.mono (by omega) (by omega))
 have O5:Pv 6 (i+1) k0 (n+5) a1 a3:=HZ.trans (Ie.mono (Nat.le_refl _) (by omega))
 have L3:RC g cx true ver S R B O (b5 r).2 a3 w3:=IM.step Pp Ie IM.rd (ac.refl (fun _=>False) w3) (fun _ _ h=>h.elim)
 have Ju:(aC g.uv cx.b (nm.n 1) (n+5)).2=n+6:=rfl
 refine .block (.mono (Q:=Exit.inBlock (nm.n 4) (Rt (LW P [] _ (Rt _ E)) E)) (R:=Rt (fun a4 w4=>Pv 6 (i+1) k0 (n+5) a1 a4/\AH g S R B O o fs ver w0 out c w4) E) ?_ fun e a w hq=>by cases e<;>first|exact bf hq|exact hq|exact hq.elim)
 show aK P (eR g (n+6) (fW g cx (nm.n 1) T kt (n+6+1)) (gTagd g cx fs nm.s) (n+6+9)).1 _ a3 w3
 refine h2 nm.s cx ver S R B O (b5 r).2 (nm.n 1+1) k0 (n+6+9) T (o+1) (n+6) (b5 r).1 _ vs (fun k=>k<w0.heap.size \/ cell=.map (some k)) _ E a3 w3 te Io K5 L3 VV IC Ih (by omega) (by omega) (by omega) IK I2 (by omega) (by omega) (.inl KJ) (.inl KC) hAw Td
  (fun JJ a4 Ix IU=>?_) (fun gf Mu=>⟨fun vs' r' a4 w4 he IA Ix IS hev4 Ww=>?_,fun he a4 w4 Ix JX It=>?_,fun he=>?_⟩)
 ·-- an unknown tag
  have Kb:=Ix.size
  have PI:RC g cx true ver S R B O (b5 r).2 a4 w3:=L3.step VV Ix L3.rd (ac.refl (fun _=>False) w3) (fun _ _ h=>h.elim)
  obtain⟨cur,Ke,JL⟩:=IK
  have Mx:=jc fs (o+1)
  have hcO:cur[O+o]?=some cell:=by
   have:=Lg
   simpa[World.cell?,Ke]using this
  have SY:fw (·<w0.heap.size) S (fun X=>cF w3 X cell t):=fun X hX hS=>by
   obtain⟨m',PU,Tb⟩:=SZ X hX hS
   rw[Lg]at PU
   cases PU
   exact Tb
  have hRt:∀ {K':Act->World->Prop},aK P (fW g cx (nm.n 1) T kt (n+6+1)) (Exit.then K' (Rt K' E)) a4 w3->aK P (fW g cx (nm.n 1) T kt (n+6+1)) (Rt K' E) a4 w3:=fun h=>by rwa [aO]at h
  refine hRt (vh (m:=i+1) (k0:=k0) (cur:=cur) (te:=te) (mm:=cell) (t:=t) K0 Ih PI Pp hF ((Ix.get _ (by omega) (.inl (by omega))).trans RX) J0 Ke hcO (SY _ (fun k hk=>by rcases hk with rfl|rfl;exact KC;exact KJ) (fun hk=>by rcases hk with hk|hk;exact HY.BS hk.symm;exact HY.SR hk)) (fun p hp=>?_) (by omega) (by omega) (by omega)
   fun a5 w5 q Js N4 NZ JV Jc hB5 Jr=>?_)
  ·rcases K9 with⟨h,_⟩|⟨q,h,hq,_⟩
   ·rw[h]at hp;cases hp
   ·rw[h]at hp;cases hp
    have:=HY.Slt
    omega
  ·have Mq:(cell=.map none/\t=[]) \/ ∃ p,cell=.map (some p)/\w0.heap.size<=p/\p<w3.heap.size:=by
    rcases K9 with h|⟨q,h,hq,Lk⟩
    ·exact .inl h
    ·exact .inr ⟨q,h,hq,by omega⟩
   obtain⟨e1,e2,e3,e4,e5,e6⟩:=p6 KJ KC HY.Slt HY.SR.symm HY.BS HY.BR I8 Ke KG (by omega) Mq Td SY NZ JV Jc hB5 Jr
   refine⟨O5.trans ((Ix.mono (by omega) (by omega)).trans (Js.mono (Nat.le_refl _) (by omega))),vs,_,_,.map (some q),?_,N4,e1,e2,.inr ⟨q,rfl,e3,e4⟩,e5,e6⟩
   rw[K1]
   simp only[dG,JJ]
 ·-- a known tag
  have R5:out=dG (rdTag true ver fs) c vs' t (om (b5 r).2):=by
   rw[K1]
   have JO:=he
   simp only[inner]at JO
   simp only[dG,Mu,JO,IA,om]
   simp
  have Qw:w4.cell? ⟨B,O+o,none⟩=some cell:=by
   obtain⟨cur,Ke,_⟩:=IK
   rw[hev4.cell Ke (fun h=>eX fs o (o+1) O (O+o) KG h ⟨by omega,by omega⟩)];exact Lg
  refine⟨O5.trans (Ix.mono (by omega) (by omega)),vs',t,om (b5 r).2,cell,R5,IS,I8.trans (hev4.mono fun j hj=>.inl hj),Qw,?_,Ww,?_⟩
  ·rcases K9 with h|⟨q,h,hq,Lk⟩
   ·exact .inl h
   ·exact .inr ⟨q,h,hq,by have:=hev4.keeps.size;omega⟩
  ·exact dJ.evoA hev4 KJ KC HY.SR.symm HY.BS IK SZ (fun k hk h=>by cases hk;exact eX fs o (o+1) O (O+o) KG h ⟨by omega,by omega⟩)
 ·-- it fails
  refine hE ?_ a4 w4 (Je.mono Iu.1 (Nat.le_refl _) |>.trans (Ix.mono (by omega) (by omega))) JX (I8.keeps.trans It)
  rw[K1]
  rcases he with he|⟨vs',r',he,IA⟩
  ·simp only[inner]at he
   simp only[dG,Mu,he]
  ·simp only[inner]at he
   simp only[dG,Mu,he,IA,if_true]
 ·refine NI ?_
  rw[K1]
  simp only[inner]at he
  simp only[dG,Mu,he]
end
end Go.Proofs.YtpoeajgpacfpoaaGreatDoor.Kx