/- messages, part 4 -/
import Derived.Test.YtnpdpnmomihkkaaGreatDoorK3

namespace Go.Proofs.YtnpdpnmomihkkaaGreatDoor.Kx
open Go
theorem dj.sl {w:World}{S:Nat}{X:Nat->Prop}{v:Value}{r:RS}(h:dj w S v r)(hS:¬ X S):en w X v r.src:=by
 rcases h with⟨h1,h2,_⟩|⟨o,c,h1,_,h3,h4,h5,h6⟩
 ·exact .inl ⟨h1,h2⟩
 ·exact .inr ⟨S,o,c,h1,hS,h5,h3,h4,h6⟩
section
variable {P:Program} {g:G} {av:PF->Bool} {fl:Bool} {cx:Cx} {fx:Bool} {ver:Int} {S R B O:Nat} {r:RS} {x m k0 n:Nat} {K N E:Act->World->Prop} {Q:Exit->Act->World->Prop} {a:Act} {w:World}
theorem CC {ops:Array Oper}{l:List Oper}{d j f:Nat}{b:Bool}{args:List Operand}{vs:Array Value}{R:Ending->World->Prop}(hy:yielded ops a.tmps j=some b)(hf:Ent P f)(J4:(args.map a.eval).toArray=vs)
  (hc:Calls P f vs w R) (h:∀ e w',R e w'->∃ v,e=.returned v/\wpList P ops Q l (a.put (some d) v) w') :
  wpList P ops Q (⟨some d, .call ⟨.value (.func f), args.toArray, #[]⟩, 0, "", #[], some (j, b)⟩ :: l) a w := by
 refine rA (op:=.call ⟨.value (.func f),args.toArray,#[]⟩) hy ?_
 unfold Oper.wp
 have : (execOp a.eval (⟨some d, .call ⟨.value (.func f), args.toArray, #[]⟩, 0, "", #[], some (j, b)⟩ : Oper)).run P w = .ok (.enter f vs) w := by
  have he:a.eval (.func f)=.func (.func f) #[] #[]:=rfl
  simp only[execOp,resolve,he,Deferred.ofValue,invoke,Sem.run_bind,Sem.run_pure,Result.andThen_ok,Array.empty_append,Array.append_empty,List.map_toArray,J4]
  exact hf _ _
 rw[this]
 exact hc.mono λe w' hR=>by
  obtain⟨v,rfl,hh⟩:=h e w' hR
  exact hh
theorem yF (K0:KB P g av fl)(Mc:av .i8=true)(RJ:cJ g.ok=true)(IQ:RC g cx fx ver S R B O r a w)(hc:fX cx m k0){p:Nat}{body:GC}(hp:m<=p/\p<k0)(hk:k0<=n)(hn:n+6<=a.tmps.size)
  (J5:(rI 1 r).1 ≠ -1->(rI 1 r).2.bad=false->∀ a' w',Pv 6 m k0 n a a'->ep w' g.tR S R (rI 1 r).2->br (·=R) w w'->cf P (body (n+6)).1 (Rt K E) a' w')
  (Ki:((rI 1 r).1=-1 \/ (rI 1 r).2.bad=true)->∀ a' w',Pv 6 m k0 n a a'->ep w' g.tR S R (rI 1 r).2->br (·=R) w w'->K a' w'):cf P (qh g cx p body n).1 (Rt K E) a w:=by
 have Qu:=hc.b
 have Jj:=hc.le
 have Q1:=hc.six
 refine cC (bt (mz (x:=6) (m:=m) (k0:=k0) (K0.rdE _ Mc) IQ.sb (K0.i8C Mc w S R r IQ.rd IQ.SR) (.inr hp) hc.le hk aa aa λe w1 hR=>?_))
 obtain⟨he,h1,h2⟩:=hR
 refine⟨_,he,λa1 IP IY=>?_⟩
 have IX:=IP.size
 have Jk:RC g cx fx ver S R B O (rI 1 r).2 a1 w1:=IQ.step hc IP h1 h2 (λ_ _ h=>.inl h)
 generalize hx:(rI 1 r).1=y at *
 generalize Sz:(rI 1 r).2=r' at *
 have Jh:∀ (b:Bool) (K':Act->World->Prop),b=(decide (y ≠ -1)&&!r'.bad)->(∀ a' w',a'.eval (tm (n+1+4))=.bool b->Pv 6 m k0 (n+1) a1 a'->br (λ_=>False) w1 w'->K' a' w') ->
   wpList P [mk (some (n + 1)) (.move (tm p)), mk (some (n + 1 + 1)) (.binOp .neq g.tI8 (tm (n + 1)) (ki .i8 (-1)) 0), mk (some (n + 1 + 2)) (.move (tm (n + 1 + 1))), ⟨some (n + 1 + 3), .call ⟨.value (.func g.ok), #[tm cx.b], #[]⟩, 0, "", #[], some (2, true)⟩,
    mk (some (n + 1 + 4)) (.pick (tm (n + 1 + 2)) (tm (n + 1 + 3)) (.const (.bool false)))].toArray (Exit.then K' (Exit.then (LW P [] (gb 4 5 (fun n => [mk (some n) (.move (tm p)), mk (some (n + 1)) (.binOp .neq g.tI8 (tm n) (ki .i8 (-1)) 0), mk (some (n + 2)) (.move (tm (n + 1))), ⟨some (n + 3), .call ⟨.value (.func g.ok), #[tm cx.b], #[]⟩, 0, "", #[], some (2, true)⟩,
  mk (some (n+4)) (.pick (tm (n+2)) (tm (n+3)) (.const (.bool false)))]) body cY (n+1)).2 (Rt K E)) (Rt K E)))
   [mk (some (n + 1)) (.move (tm p)), mk (some (n + 1 + 1)) (.binOp .neq g.tI8 (tm (n + 1)) (ki .i8 (-1)) 0), mk (some (n + 1 + 2)) (.move (tm (n + 1 + 1))), ⟨some (n + 1 + 3), .call ⟨.value (.func g.ok), #[tm cx.b], #[]⟩, 0, "", #[], some (2, true)⟩,
    mk (some (n+1+4)) (.pick (tm (n+1+2)) (tm (n+1+3)) (.const (.bool false)))] a1 w1:=by
  intro b K' hb hK'
  refine bv ?_
  rw[bp,IY]
  refine cZ (b:=decide (y ≠ -1)) (p:=y) (q:=-1) (k:=.i8) (by rw[bp,bA aa]) rfl (.inr (.inr (.inr (.inr (.inr ⟨rfl,rfl⟩))))) ?_
  refine bv ?_
  rw[bp,bA (by simp only[bq];omega)]
  have IW:Pv 6 m k0 (n+1) a1 (((a1.put (some (n+1)) (.int .i8 y)).put (some (n+1+1)) (.bool (decide (y ≠ -1)))).put (some (n+1+2)) (.bool (decide (y ≠ -1)))):=
   (((Pv.refl _ _ _ _ _).put _ aa).put _ aa).put _ aa
  generalize hA:((a1.put (some (n+1)) (.int .i8 y)).put (some (n+1+1)) (.bool (decide (y ≠ -1)))).put (some (n+1+2)) (.bool (decide (y ≠ -1)))=A at IW ⊢
  have Jc:A.tmps.size=a1.tmps.size:=IW.size
  have Ja:A.get (n+1+2)=.bool (decide (y ≠ -1)):=by rw[<- hA];exact bA (by simp only[bq];omega)
  have Le:∀ (ops:Array Oper),ops[2]?=some (mk (some (n+1+2)) (.move (tm (n+1+1))))->yielded ops A.tmps 2=some (decide (y ≠ -1)):=λops ho=>dz (d:=n+1+2) ho rfl (by rw[Jc];omega) Ja
  have V2:A.get cx.b=pt R 0:=by rw[IW.get _ Qu.2 (.inl Qu.1)];exact Jk.sb
  by_cases hy:y=-1
  ·subst hy
   refine fr (c:=false) (Le _ rfl) ab ?_
   refine ir (b:=false) (by rw[bp,b8 aa,Ja];rfl) (wpList_nil ?_)
   refine hK' _ w1 ?_ ((IW.put undef (d:=n+1+3) aa).put _ aa) (br.refl _ _)
   rw[bp,bA (by simp only[bq];omega),hb]
   rfl
  ·refine CC (b:=true) (vs:=#[pt R 0]) (by rw[Le _ rfl];simp[hy]) (K0.okE RJ) (by simp[bp,V2]) (K0.okC RJ w1 S R r' Jk.rd) λe2 w2 Kr=>⟨_,Kr.1,?_⟩
   refine ir (b:=true) (by rw[bp,b8 aa,Ja];simp[hy]) (wpList_nil ?_)
   refine hK' _ w2 ?_ ((IW.put _ (d:=n+1+3) aa).put _ aa) Kr.2
   rw[bp,bA (by simp only[bq];omega),hb]
   simp only[aw]
   rw[bp,bA aa]
   simp[hy]
 refine bt ?_
 by_cases hy:y=-1 \/ r'.bad=true
 ·refine eK (Jh false _ (by rcases hy with h|h<;>simp[h]) λa2 w2 L0 IR IV=>⟨L0,.skip (cD (Ki hy a2 w2 (IP.trans (IR.mono (ae _) aa)) (h1.keep IV id id) (h2.trans (IV.mono λ_ _ h=>h.elim))))⟩)
 ·refine eX (Jh true _ (by simp at hy;simp[hy]) λa2 w2 L0 IR IV=>⟨L0,?_⟩)
  have:=J5 (λh=>hy (.inl h)) (by simpa using λh=>hy (.inr h)) a2 w2 (IP.trans (IR.mono (ae _) aa)) (h1.keep IV id id) (h2.trans (IV.mono λ_ _ h=>h.elim))
  refine .mono this λe a w hq=>?_
  cases e<;>first|exact cD hq|exact hq
theorem EQ {key:Nat}{dflt:Code}{t:Nat}{A:GC}{l:List (Nat × GC)}{kk:Nat}(K2:a.get key=.int .u32 kk)(Nd:key<n)(hm:m<=k0)(hk:k0<=n)(hn:n+2<=a.tmps.size)
  (J5:kk=t->∀ a',Pv x m k0 n a a'->cf P (A (n+2)).1 Q a' w) (Ki:kk≠t->∀ a',Pv x m k0 n a a'->a'.get key=.int .u32 kk->cf P (ib g key dflt l (A (n+2)).2).1 Q a' w):cf P (ib g key dflt ((t,A)::l) n).1 Q a w:=by
 have Jh:∀ (b:Bool) (K':Act->World->Prop),b=decide ((kk:Int)=(t:Int))->(∀ a',a'.eval (tm n)=.bool b->Pv x m k0 n a a'->a'.get key=.int .u32 kk->K' a' w) ->
   wpList P [mk (some (n+1)) (.binOp .eql g.tU32 (tm key) (ki .u32 t) 0),mk (some n) (.assign (tm (n+1)))].toArray (Exit.then K' Q) [mk (some (n+1)) (.binOp .eql g.tU32 (tm key) (ki .u32 t) 0),mk (some n) (.assign (tm (n+1)))] a w:=by
  intro b K' hb hK'
  refine cZ (b:=b) (p:=kk) (q:=t) (k:=.u32) (by rw[bp,K2]) rfl (.inr (.inr (.inr (.inr (.inl ⟨rfl,hb⟩))))) (b7 (wpList_nil (hK' _ ?_ (((Pv.refl _ _ _ _ _).put _ aa).put _ aa) ?_)))
  ·rw[bp,bp,bA (by simp only[bq];omega),bA aa]
  ·rw[b8 aa,b8 aa];exact K2
 by_cases Mj:kk=t
 ·exact .seq (.reg (Jh true (λa' w'=>a'.eval (tm n)=.bool true/\cf P (A (n+2)).1 Q a' w') (by simp[Mj]) λa' he hp Ko=>⟨he,J5 Mj a' hp⟩)) (λa' w' h=>.condT h.1 h.2) (λe a w he hq=>by rw[dY he]at hq;exact hq)
 ·exact .seq (.reg (Jh false (λa' w'=>a'.eval (tm n)=.bool false/\cf P (ib g key dflt l (A (n+2)).2).1 Q a' w') (by simp;omega) λa' he hp Ko=>⟨he,Ki Mj a' hp Ko⟩)) (λa' w' h=>.condF h.1 h.2) (λe a w he hq=>by rw[dY he]at hq;exact hq)
theorem A3 (K0:KB P g av fl)(Jb:fl=true)(IQ:RC g cx fx ver S R B O r a w)(hc:fX cx m k0){i b1 b2:Nat}{body:GC}(hi:m<=i/\i<k0)(hk:k0<=n)(hn:n+5<=a.tmps.size)(W:Nat->World->Prop)
  (h0:∀ w1,ep w1 g.tR S R (bZ r).2->br (·=R) w w1->W (bZ r).1 w1)
  (Kq:∀ (c:Nat) (a1:Act) (w1:World),Pv 6 i k0 n a a1->W (c+1) w1->cf P (body (n+5)).1 (Rt (λa2 w2=>Pv 6 (i+1) k0 (n+5) a1 a2/\W c w2) E) a1 w1)
  (Pr:∀ a1 w1,Pv 6 i k0 n a a1->W 0 w1->K a1 w1):cf P (oY g cx i b1 b2 body n).1 (Rt K E) a w:=by
 have Qu:=hc.b
 have Jj:=hc.le
 have Q1:=hc.six
 have IU:=l9 r
 refine .seq (R:=Rt (λa' w'=>Pv 6 i k0 n a a'/\a'.get i=.int .u32 ((bZ r).1:Int)/\W (bZ r).1 w') E) (.reg (cj (vs:=#[pt R 0]) (K0.uvE Jb) (by simp[bp,IQ.sb]) (K0.uvC Jb w S R r IQ.rd IQ.SR) λe w1 hR=>?_)) (λa' w' hh=>?_)
  (λe a w he hq=>by cases e<;>first|exact absurd rfl he|exact hq)
 ·obtain⟨he,h1,h2⟩:=hR
  refine⟨_,he,b7 (wpList_nil ?_)⟩
  rw[bp,bA aa]
  exact⟨((Pv.refl _ _ _ _ _).put _ aa).put _ aa,bA (by simp only[bq];omega),h0 w1 h1 h2⟩
 ·obtain⟨hp,RL,PK⟩:=hh
  refine .block (.loop (λa1 w1=>∃ c:Nat,c<=(bZ r).1/\Pv 6 i k0 n a a1/\a1.get i=.int .u32 (c:Int)/\W c w1) (λa1 _=>(match a1.get i with|.int _ q=>q|_=>0).toNat) ⟨_,ae _,hp,RL,PK⟩ ?_)
  rintro a1 w1 ⟨c,JC,IP,IY,hW⟩
  have IX:=IP.size
  have Jh:∀ (b:Bool),b=decide ((0:Int)<(c:Int))->wpList P [mk (some (n+1)) (.move (tm i)),mk (some (n+2)) (.binOp .gtr g.tU32 (tm (n+1)) (ki .u32 0) 0)].toArray
    (Rt (λa' w'=>a'.eval (tm (n+2))=.bool b/\Pv 6 (i+1) k0 n a1 a'/\w'=w1) E) [mk (some (n+1)) (.move (tm i)),mk (some (n+2)) (.binOp .gtr g.tU32 (tm (n+1)) (ki .u32 0) 0)] a1 w1:=by
   intro b hb
   refine bv ?_
   rw[bp,IY]
   refine cZ (b:=b) (p:=c) (q:=0) (k:=.u32) (by rw[bp,bA aa]) rfl (.inr (.inr (.inr (.inl ⟨rfl,hb⟩)))) (wpList_nil ?_)
   exact⟨by rw[bp,bA (by simp only[bq];omega)],((Pv.refl _ _ _ _ _).put _ aa).put _ aa,rfl⟩
  cases c with
  | succ c=>
   refine .seq (R:=Rt (λa2 w2=>Pv 6 (i+1) k0 n a1 a2/\w2=w1) E) ?_ (λa2 w2 hh=>?_) (λe a w he hq=>by cases e<;>first|exact absurd rfl he|exact hq|exact hq.elim)
   ·refine .seq (.reg (Jh true ab)) (λa2 w2 hh=>.condT hh.1 (.skip hh.2)) (λe a w he hq=>by cases e<;>first|exact absurd rfl he|exact hq)
   ·obtain⟨IR,rfl⟩:=hh
    have J6:Pv 6 i k0 n a a2:=IP.trans (IR.mono aa (ae _))
    have Ja:a2.get i=.int .u32 ((c+1:Nat):Int):=by rw[IR.get i aa (.inl aa)];exact IY
    have hb:=Kq c a2 w2 J6 hW
    have Jr:=IR.size
    refine .seq (R:=Rt (λa3 w3=>Pv 6 (i+1) k0 (n+5) a2 a3/\W c w3) E) (.block (.mono hb λe a w hq=>by cases e<;>first|exact hq|exact hq.elim)) (λa3 w3 hh=>?_) (λe a w he hq=>by cases e<;>first|exact absurd rfl he|exact hq|exact hq.elim)
    obtain⟨IW,NT⟩:=hh
    have JI:=IW.size
    have Jw:a3.get i=.int .u32 ((c+1:Nat):Int):=by rw[IW.get i aa (.inl aa)];exact Ja
    refine .reg (bv ?_)
    rw[bp,Jw]
    have JO:IntKind.u32.wrap (((c+1:Nat):Int)-1)=(c:Int):=by simp[IntKind.wrap,IntKind.bits,IntKind.signed];omega
    refine ee (v:=.int .u32 (c:Int)) (k:=.u32) (m:=((c+1:Nat):Int)) (n:=1) (by rw[bp,bA aa]) rfl ab (by simp only[binOp,Op.intArith,JO];simp) ?_
    refine b7 (wpList_nil ?_)
    rw[bp,bA (by simp only[bq];omega)]
    have Lx:(((a3.put (some (n+3)) (.int .u32 ((c+1:Nat):Int))).put (some (n+4)) (.int .u32 (c:Int))).put (some i) (.int .u32 (c:Int))).get i=.int .u32 (c:Int):=bA (by simp only[bq];omega)
    refine⟨⟨c,by omega,?_,Lx,NT⟩,?_⟩
    ·exact((J6.trans (IW.mono aa aa)).put _ aa).put _ aa |>.put _ aa
    ·rw[Lx,IY]
     simp only
     omega
  | zero=>
   refine .seq (R:=λe a w=>e≠.normal/\Exit.inBlock b1 (Rt K E) e a w) ?_ (λa2 w2 hh=>absurd rfl hh.1) (λe a w he hq=>?_)
   ·refine .seq (R:=Rt (λa' w'=>a'.eval (tm (n+2))=.bool false/\Pv 6 (i+1) k0 n a1 a'/\w'=w1) E) (.reg (Jh false ab)) (λa2 w2 hh=>.condF hh.1 (.exit ?_)) (λe a w he hq=>by cases e<;>first|exact absurd rfl he|exact⟨by simp,hq⟩|exact hq.elim)
    simp only[Exit.inBlock,aw]
    refine⟨by simp,?_⟩
    obtain⟨_,IR,rfl⟩:=hh
    exact Pr a2 w2 (IP.trans (IR.mono aa (ae _))) hW
   ·rw[dY he];exact hq.2
theorem iV {P:Program}{o:Oper}{d:Option Nat}{f:Nat}{args:List Operand}{vs:Array Value}{R:Ending->World->Prop}{K':Act->World->Prop}{Q':Exit->Act->World->Prop}(ho:o=cl d f args)(hf:Ent P f)(J4:(args.map a.eval).toArray=vs)
  (hc:Calls P f vs w R) (h:∀ e w',R e w'->∃ v,e=.returned v/\K' (a.put d v) w'):o.wp P a w K' Q':=by
 subst ho
 unfold Oper.wp
 have:(execOp a.eval (cl d f args)).run P w=.ok (.enter f vs) w:=by
  have he:a.eval (.func f)=.func (.func f) #[] #[]:=rfl
  simp only[cl,execOp,mk,resolve,he,Deferred.ofValue,invoke,Sem.run_bind,Sem.run_pure,Result.andThen_ok,Array.empty_append,Array.append_empty,List.map_toArray,J4]
  exact hf _ _
 rw[this]
 exact hc.mono λe w' hR=>by
  obtain⟨v,rfl,hh⟩:=h e w' hR
  exact hh
theorem yD (K0:KB P g av fl)(Jb:fl=true)(IQ:RC g cx fx ver S R B O r a w)(hc:fX cx m k0){key T k off kk:Nat}{cur:Array Value}{te:TypeId}{mm:Value}{t:List (Nat × Bs)}(hF:cO P T k g.tTags off true 1)(K2:a.get key=.int .u32 kk)(K5:kk<4294967296)
  (hB:w.heap[B]?=some (.cells cur te (0,0))) (hO:cur[O+off]?=some mm) (Kb:eA w (λk=>k=B \/ k=R) mm t) (R1:∀ p,mm=.map (some p)->p≠S) (Nd:key<n) (hk:k0<=n) (hn:n+8<=a.tmps.size)
  (h:∀ a' w' q,Pv 6 m k0 n a a'->ep w' g.tR S R (cd (bZ r).1 (bZ r).2).2->(mm=.map none->w.heap.size<=q)->(∀ p,mm=.map (some p)->q=p)->br (λb=>b=R \/ b=B \/ b=q) w w' ->
   w'.heap[B]?=some (.cells (cur.setIfInBounds (O+off) (.map (some q))) te (0,0)) ->
   (∀ X:Nat->Prop,¬ X q->(∀ k,X k->k<w.heap.size)->¬ X S->eA w (λk=>X k \/ k=R) mm t->eA w' X (.map (some q)) (dM kk (cd (bZ r).1 (bZ r).2).1.octets t))->K a' w') :
  cf P (jc g cx key T k n) (Exit.then K Q) a w:=by
 have Qu:=hc.b
 have Jj:=hc.le
 have IU:=l9 r
 have NV:B<w.heap.size:=(aj.1 hB).1
 have hL:fo [mk (some n) (.move (tm cx.s)),mk (some (n+1)) (.nilCheck (tm n)),mk (some (n+2)) (.fieldAddr T (tm (n+1)) k),mk (some (n+3)) (.move (tm key)),cl (some (n+4)) g.uv [tm cx.b],
  mk (some (n+5)) (.convert g.tU32 g.tInt (tm (n+4))),cl (some (n+6)) g.span [tm cx.b,tm (n+5)],cl (some (n+7)) g.set [tm (n+2),tm (n+3),tm (n+6)]]=[false,false,false,false,true,true,true,true]:=by
  simp[fo,zw,mk,cl,jp,Op.operands,tm]
 refine .drw (λ_=>True) ?_
 rw[hL]
 simp only[fu,dQ]
 obtain⟨fs,f,N6,NM,Nf,Ny⟩:=hF.fld
 have LK:∀ w,(sizeOf f.type).run P w=.ok (0+1) w:=λw=>by rw[Ny];exact hF.var.size w
 refine⟨pt B O,λw _=>?_,pt B O,λw _=>?_,pt B (O+off),λw _=>?_,.int .u32 kk,λw _=>?_,?_⟩
 ·have:a.eval (tm cx.s)=pt B O:=IQ.ss
  simp[execOp,mk,this]
 ·have:(a.put (some n) (pt B O)).eval (tm n)=pt B O:=by rw[bp,bA aa]
  simp only[mk,pt]at this ⊢
  simp[execOp,this]
 ·have:((a.put (some n) (pt B O)).put (some (n+1)) (pt B O)).eval (tm (n+1))=pt B O:=by rw[bp,bA (by simp only[bq];omega)]
  simp only[mk,pt]at this ⊢
  simp[execOp,this,Instr.fieldAt,run_underlying N6,NM,Nf,fieldPlace,LK,Instr.sureAddr,Addr.add_lit]
 ·have:(((a.put (some n) (pt B O)).put (some (n+1)) (pt B O)).put (some (n+2)) (pt B (O+off))).eval (tm key)=.int .u32 kk:=by
   rw[bp,b8 aa,b8 aa,b8 aa];exact K2
  simp only[mk]at this ⊢
  simp[execOp,this]
 ·simp only[mk]
  have Jp:Pv 6 m k0 n a ((((a.put (some n) (pt B O)).put (some (n+1)) (pt B O)).put (some (n+2)) (pt B (O+off))).put (some (n+3)) (.int .u32 kk)):=
   ((((Pv.refl _ _ _ _ _).put _ aa).put _ aa).put _ aa).put _ aa
  have Ja:((((a.put (some n) (pt B O)).put (some (n+1)) (pt B O)).put (some (n+2)) (pt B (O+off))).put (some (n+3)) (.int .u32 kk)).get (n+2)=pt B (O+off):=by
   rw[b8 aa,bA (by simp only[bq];omega)]
  have Jw:((((a.put (some n) (pt B O)).put (some (n+1)) (pt B O)).put (some (n+2)) (pt B (O+off))).put (some (n+3)) (.int .u32 kk)).get (n+3)=.int .u32 kk:=bA (by simp only[bq];omega)
  generalize hA:(((a.put (some n) (pt B O)).put (some (n+1)) (pt B O)).put (some (n+2)) (pt B (O+off))).put (some (n+3)) (.int .u32 kk)=A at Jp Ja Jw ⊢
  have Jc:A.tmps.size=a.tmps.size:=Jp.size
  have V2:A.get cx.b=pt R 0:=(Jp.get _ Qu.2 (.inl Qu.1)).trans IQ.sb
  have Km:br (λ_=>False) w w.drew:=br.drew _ _
  have LV:ep w.drew g.tR S R r:=IQ.rd.keep Km id id
  refine⟨trivial,iV (vs:=#[pt R 0]) rfl (K0.uvE Jb) (by simp[bp,V2]) (K0.uvC Jb w.drew S R r LV IQ.SR) λe w1 hR=>?_⟩
  obtain⟨he,h1,h2⟩:=hR
  refine⟨_,he,trivial,?_⟩
  have JO:IntKind.i64.wrap ((bZ r).1:Int)=((bZ r).1:Int):=by simp[IntKind.wrap,IntKind.bits,IntKind.signed];omega
  have X1 : (execOp (A.put (some (n + 4)) (.int .u32 ((bZ r).1 : Int))).eval (⟨some (n + 5), .convert g.tU32 g.tInt (tm (n + 4)), 0, "", #[], none⟩ : Oper)).run P w1 = .ok (.value (.int .i64 ((bZ r).1 : Int))) w1 := by
   have:(A.put (some (n+4)) (.int .u32 ((bZ r).1:Int))).eval (tm (n+4))=.int .u32 ((bZ r).1:Int):=by rw[bp,bA aa]
   simp[execOp,this,convert,run_underlying (K0.tU32 Jb),run_underlying K0.tInt,Conv.intToInt,JO]
  unfold Oper.wp
  rw[X1]
  refine⟨trivial,?_⟩
  have JH:((A.put (some (n+4)) (.int .u32 ((bZ r).1:Int))).put (some (n+5)) (.int .i64 ((bZ r).1:Int))).get cx.b=pt R 0:=by
   rw[b8 aa,b8 aa];exact V2
  have hb5:((A.put (some (n+4)) (.int .u32 ((bZ r).1:Int))).put (some (n+5)) (.int .i64 ((bZ r).1:Int))).get (n+5)=.int .i64 ((bZ r).1:Int):=bA (by simp only[bq];omega)
  refine iV (vs:=#[pt R 0,.int .i64 ((bZ r).1:Int)]) rfl (K0.spanE Jb) (by simp[bp,JH,hb5]) (K0.spanC Jb w1 S R (bZ r).2 ((bZ r).1:Int) aa aa h1 IQ.SR) λe2 w2 Kr=>?_
  obtain⟨v,L0,h3,h4,h5⟩:=Kr
  refine⟨_,L0,trivial,?_⟩
  have MN:br (·=R) w w2:=((Km.mono λ_ _ h=>h.elim).trans h2).trans h4
  have Mu:w2.heap[B]?=some (.cells cur te (0,0)):=by rw[MN.block B NV IQ.BR];exact hB
  have MF:eA w2 (λk=>k=B \/ k=R) mm t:=Kb.keep (MN.mono λ_ _ h=>.inr h)
  refine iV (vs:=#[pt B (O+off),.int .u32 kk,v]) rfl (K0.setE Jb) ?_ (K0.setC Jb w2 B (O+off) mm t kk v _ cur te K5 Mu hO (MF.mono λ_ _ h=>.inl h) (h5.sl IQ.BS.symm)) λe3 w3 hR3=>?_
  ·simp only[List.map_cons,List.map_nil,bp]
   rw[bA (by simp only[bq];omega),b8 (show n+2≠n+6 by omega),b8 (show n+2≠n+5 by omega),b8 (show n+2≠n+4 by omega),Ja,
    b8 (show n+3≠n+6 by omega),b8 (show n+3≠n+5 by omega),b8 (show n+3≠n+4 by omega),Jw]
  obtain⟨Uq,q,w',rfl,h6,h7,h8,h9,Lm⟩:=hR3
  refine⟨_,Uq,trivial,?_⟩
  have YA:mm=.map none->w.heap.size<=q:=λM1=>by rw[h7 M1];exact MN.size
  have OZ:q<w2.heap.size->¬ (q=B \/ q=R \/ q=S):=λIU hq=>by
   rcases MF with⟨M1,_⟩|⟨p,IP,IR,_⟩
   ·have:=h7 M1;omega
   ·have:=h8 p IP
    subst this
    rcases hq with hq|hq|hq
    ·exact IR (.inl hq)
    ·exact IR (.inr hq)
    ·exact R1 _ IP hq
  have Lu:br (λb=>(b=B \/ b=q)/\b<w2.heap.size) w2 w3:=h6.mono λ_ hk hh=>⟨hh,hk⟩
  refine h _ w3 q ?_ (h3.keep Lu (λhh=>?_) (λhh=>?_)) YA h8 ((MN.mono λ_ _ h=>.inl h).trans (h6.mono λ_ _ h=>.inr h)) h9 λX So hX hXS hT=>?_
  ·exact(((Jp.put _ aa).put _ aa).put _ aa).put _ aa
  ·rcases hh with⟨hh|hh,R7⟩
   ·exact IQ.BS hh.symm
   ·exact OZ (hh ▸ R7) (.inr (.inr hh.symm))
  ·rcases hh with⟨hh|hh,R7⟩
   ·exact IQ.BR hh.symm
   ·exact OZ (hh ▸ R7) (.inr (.inl hh.symm))
  ·exact Lm X So (λk hk=>az (hX k hk) MN.size) (h5.sl λh=>h.elim hXS λh=>OZ (h ▸ az IQ.Slt MN.size) (.inr (.inr h.symm))) ((hT.keep (MN.mono λ_ _ h=>.inr h)).mono λ_ _ h=>.inl h)
end
def I9:TypeDesc->Bool
 | .struct _|.array _ _=>true
 | _=>false
def kE (P:Program)(F:Nat)(agg:Bool)(sz:Nat):Bool:=
 match P.underlying F,P.info? F with
 | some d,some i=>(I9 d==agg)&&(i.size==sz)
 | _,_=>false
theorem varB_ok {P:Program}{F:Nat}{agg:Bool}{sz:Nat}(h:kE P F agg sz=true):cv P F agg sz:=by
 unfold kE at h
 split at h
 ·rename_i d i hd hi
  simp only[ac,ar]at h
  have ht:Cv P F d sz:=⟨hd,i,hi,h.2⟩
  refine⟨λw=>?_,λw=>ht.sizeOf w⟩
  rw[ht.isAgg w,<- h.1]
  cases d<;>rfl
 ·cases h
def gC (P:Program)(T k F off:Nat)(agg:Bool)(sz:Nat):Bool:=
 (match P.underlying T with
  | some (.struct fs)=>(match fs[k]? with|some f=>(f.offset==off)&&(f.type==F)|none=>false)
  | _=>false)&&kE P F agg sz&&decide (0<sz)
theorem fldB_ok {P:Program}{T k F off:Nat}{agg:Bool}{sz:Nat}(h:gC P T k F off agg sz=true):cO P T k F off agg sz:=by
 simp only[gC,ac,ai]at h
 obtain⟨⟨h1,h2⟩,h3⟩:=h
 split at h1
 ·rename_i fs J9
  split at h1
  ·rename_i f hf
   simp only[ac,ar]at h1
   exact⟨⟨fs,f,J9,hf,h1.1,h1.2⟩,varB_ok h2,h3⟩
  ·cases h1
 ·cases h1
def sP (P:Program)(T k:Nat):Nat:=
 match P.underlying T with
 | some (.struct fs)=>(match fs[k]? with|some f=>f.type|none=>0)
 | _=>0
def pC (P:Program)(F:Nat):Nat:=match P.info? F with|some i=>i.size|none=>0
def pM (P:Program)(F:Nat):Option (Nat × Nat × Array Value):=
 match P.underlying F with
 | some (.slice E)=>
  match P.info? E with
  | some i=>
   match i.zero with
   | some z=>if z.cells.size==i.size&&decide (0<i.size)&&decide (0<i.bytes)&&decide (i.bytes<=24*i.size+8)then some (E,i.size,z.cells)else none
   | none=>none
  | none=>none
 | _=>none
theorem pL {P:Program}{F E sz:Nat}{z:Array Value}(h:pM P F=some (E,sz,z)):oF P F E sz z:=by
 unfold pM at h
 split at h
 ·rename_i E' hE
  split at h
  ·rename_i i hi
   split at h
   ·rename_i z' hz
    split at h
    ·rename_i hc
     simp only[aM,Prod.mk.injEq]at h
     obtain⟨rfl,rfl,rfl⟩:=h
     simp only[ac,ar,ai]at hc
     obtain⟨⟨⟨h1,h2⟩,h3⟩,h4⟩:=hc
     exact⟨hE,i,z',hi,hz,rfl,rfl,h1,h2,h3,h4⟩
    ·cases h
   ·cases h
  ·cases h
 ·cases h
def zeroOf (P:Program)(E:Nat):Option Value:=match P.info? E with|some i=>i.zero|none=>none
theorem zeroOf_ok {P:Program}{E:Nat}{z:Value}(h:zeroOf P E=some z)(w:World):(zeroValue E).run P w=.ok z w:=by
 unfold zeroOf at h
 split at h
 ·rename_i i hi
  simp[zeroValue,typeInfo,hi,h]
 ·cases h
def FT:Value->Value->Bool
 | .bool a,.bool b=>a==b
 | .int k x,.int k' y=>(k==k')&&(x==y)
 | .string a,.string b=>a.data.isEmpty&&b.data.isEmpty
 | .pointer none,.pointer none=>true
 | .slice none a b,.slice none c d=>(a==c)&&(b==d)
 | .map none,.map none=>true
 | _,_=>false
theorem sV {x y:Value}(h:FT x y=true):x=y:=by
 unfold FT at h
 split at h
 ·simpa using h
 ·rename_i k x k' y
  simp only[ac,ar]at h
  rw[h.1,h.2]
 ·rename_i a b
  simp only[ac]at h
  obtain⟨h1,h2⟩:=h
  obtain⟨a⟩:=a
  obtain⟨b⟩:=b
  simp only[Array.isEmpty_iff]at h1 h2
  rw[h1,h2]
 ·rfl
 ·simp only[ac,ar]at h
  rw[h.1,h.2]
 ·rfl
 ·cases h
def iS (z:Array Value)(o:Nat)(v:Value):Bool:=match z[o]? with|some x=>FT x v|none=>false
theorem sW {z:Array Value}{o:Nat}{v:Value}(h:iS z o v=true):z[o]?=some v:=by
 unfold iS at h
 split at h
 ·rename_i x hx
  rw[hx,sV h]
 ·cases h
def eH.fitsB:eH->Int->Bool
 | .bool,x=>x==0 || x==1
 | .i8,x=>decide (-128<=x)&&decide (x<128)
 | .i16,x=>decide (-32768<=x)&&decide (x<32768)
 | .u16,x=>decide (0<=x)&&decide (x<65536)
 | .i32,x=>decide (-2147483648<=x)&&decide (x<2147483648)
 | .i64,x=>decide (-9223372036854775808<=x)&&decide (x<9223372036854775808)
 | .uuid,_=>false
theorem eH.fitsB_ok {p:eH}{x:Int}(h:p.fitsB x=true):p.fits x:=by
 cases p<;>simp[eH.fitsB,eH.fits]at h ⊢<;>exact h
mutual
def vj (z:Array Value)(df:Int):Ty->Nat->Bool
 | .prim .bool,o=>(df==0&&iS z o (.bool false)) || (df==1&&iS z o (.bool true))
 | .prim .uuid,o=>(List.range 16).all λj=>iS z (o+j) (.int .u8 0)
 | .prim p,o=>iS z o (.int p.kind df)&&p.fitsB df
 | .str none,o=>iS z o (.string ⟨#[]⟩)
 | .str (some _),o=>iS z o (.pointer none)
 | .bytes _,o=>iS z o (.slice none 0 0)
 | .list _ _ _,o=>iS z o (.slice none 0 0)
 | .struct none toff fs,o=>zFds z fs o&&(match toff with|some k=>iS z (o+k) (.map none)|none=>true)
 | .struct (some _) _ _,o=>iS z o (.pointer none)
def zFds (z:Array Value):Fds->Nat->Bool
 | .nil,_=>true
 | .cons _ _ _ df off ty r,o=>vj z df ty (o+off)&&zFds z r o
end
def Iu (z:Array Value)(toff:Option Nat):Bool:=match toff with|some k=>iS z k (.map none)|none=>true
def vh (w:World)(b q:Nat)(z:Array Value):Prop:=∀ j v,z[j]?=some v->w.cell? ⟨b,q+j,none⟩=some v
theorem vh.one {w:World}{b q o:Nat}{z:Array Value}{v:Value}(h:vh w b q z)(hz:iS z o v=true):w.cell? ⟨b,q+o,none⟩=some v:=h o v (sW hz)
theorem ol {w:World}{b o:Nat}{v:Value}(h:w.cell? ⟨b,o,none⟩=some v):bB w b o [v]:=by
 intro j c hj
 cases j with
 | zero=>simp at hj;subst hj;simpa using h
 | succ j=>simp at hj
mutual
theorem Ey {w:World}{b q:Nat}{z:Array Value}(hw:vh w b q z)(X:Nat->Prop):∀ (ty:Ty) (df:Int) (o:Nat),vj z df ty o=true->Rp w X ty b (q+o) (du df ty)
 | .prim p,df,o,h=>by
  cases p
  case bool=>
   simp only[vj,aH,ac,ar]at h
   rcases h with⟨rfl,h⟩|⟨rfl,h⟩
   ·exact⟨_,ol (hw.one h),false,rfl,rfl⟩
   ·exact⟨_,ol (hw.one h),true,rfl,rfl⟩
  case uuid=>
   simp only[vj,aT,List.mem_range]at h
   refine⟨(tO.map λb=>.int .u8 (b.toNat:Int)),?_,tO,rfl,rfl,rfl⟩
   intro j c hj
   have K6:j<16:=by
    have:=(ah.1 hj).1
    simpa[tO]using this
   have hc:c=.int .u8 0:=by
    rw[aD,tO,List.getElem?_replicate,ax K6]at hj
    simpa using hj.symm
   rw[hc]
   have:=hw.one (h j K6)
   rwa [<- Nat.add_assoc]at this
  all_goals
   simp only[vj,ac]at h
   exact⟨_,ol (hw.one h.1),_,rfl,rfl,eH.fitsB_ok h.2⟩
 | .str none,df,o,h=>⟨_,ol (hw.one h),[],rfl,rfl,by simp⟩
 | .str (some _),df,o,h=>⟨_,ol (hw.one h),.inl ⟨rfl,rfl⟩⟩
 | .bytes _,df,o,h=>⟨_,ol (hw.one h),.inl ⟨rfl,rfl⟩⟩
 | .list _ _ _,df,o,h=>.inl ⟨hw.one h,rfl⟩
 | .struct none toff fs,df,o,h=>by
  simp only[vj,ac]at h
  refine⟨_,[],rfl,zFds_ok hw X fs o h.1,?_⟩
  cases toff with
  | none=>rfl
  | some k=>
   refine⟨.map none,?_,.inl ⟨rfl,rfl⟩⟩
   have:=hw.one h.2
   rwa [<- Nat.add_assoc]at this
 | .struct (some _) _ _,df,o,h=>.inl ⟨hw.one h,rfl⟩
theorem zFds_ok {w:World}{b q:Nat}{z:Array Value}(hw:vh w b q z)(X:Nat->Prop):∀ (fs:Fds) (o:Nat),zFds z fs o=true->RpF w X fs b (q+o) (dfFds fs)
 | .nil,o,h=>rfl
 | .cons _ _ _ df off ty r,o,h=>by
  simp only[zFds,ac]at h
  refine⟨_,_,rfl,?_,zFds_ok hw X r o h.2⟩
  have:=Ey hw X ty df (o+off) h.1
  rwa [<- Nat.add_assoc]at this
end
theorem eE (O:Nat):∀ (wr:List (Nat × Value)) (cur:Array Value),(applyWr cur O wr).size=cur.size
 | [],_=>rfl
 | p::r,cur=>by
  show(applyWr (cur.setIfInBounds (O+p.1) p.2) O r).size=_
  rw[eE O r]
  simp
theorem qu (O:Nat):∀ (wr:List (Nat × Value)) (cur z:Array Value),(∀ p∈wr,p.1<z.size)->O+z.size<=cur.size->(∀ j,j<z.size->cur[O+j]?=z[j]?) ->
  ∀ j,j<z.size->(applyWr cur O wr)[O+j]?=(applyWr z 0 wr)[j]?
 | [],_,_,_,_,h,j,hj=>h j hj
 | p::r,cur,z,hp,hs,h,j,hj=>by
  show(applyWr (cur.setIfInBounds (O+p.1) p.2) O r)[O+j]?=(applyWr (z.setIfInBounds (0+p.1) p.2) 0 r)[j]?
  refine qu O r _ _ (λq hq=>by simpa using hp q (by simp[hq])) (by simpa using hs) (λi hi=>?_) j (by simpa using hj)
  simp only[Array.size_setIfInBounds]at hi
  have hpz:=hp p ab
  rw[ay,ay,aN]
  by_cases he:p.1=i
  ·subst he
   rw[ax rfl,ax rfl,ax aa,ax hpz]
  ·rw[al aa,al he]
   exact h i hi
theorem jO (O:Nat):∀ (wr:List (Nat × Value)) (cur:Array Value) (j:Nat),(∀ p∈wr,O+p.1≠j)->(applyWr cur O wr)[j]?=cur[j]?
 | [],_,_,_=>rfl
 | p::r,cur,j,h=>by
  show(applyWr (cur.setIfInBounds (O+p.1) p.2) O r)[j]?=_
  rw[jO O r _ j (λq hq=>h q (by simp[hq])),ay,al (h p ab)]
structure Ev where
 P:Program
 g:G
 av:PF->Bool
 D:Nat->Option (List (Nat × Value))
def Ez:Ty->List Nat->Bool
 | .str (some (_+1)),x=>x.length==1
 | .prim p,x=>x.length==0 || (x.length==2&&p != .uuid)
 | _,x=>x.length==0
def jU (e:Ev)(hf:Bool)(m k0:Nat)(ty:Ty)(v:Nat)(x:List Nat):Bool:=o5 e.av hf ty&&lR m k0 v x&&Ez ty x
def Ty.agg:Ty->Bool
 | .prim .uuid=>true
 | _=>false
def Fds.In:Fds->Nat->Nat->Prop
 | .nil,_,_=>False
 | .cons _ _ _ _ off ty r,O,j=>(O+off<=j/\j<O+off+ty.sz) \/ r.In O j
def mi:Fds->Nat->Nat->Bool
 | .nil,_,_=>true
 | .cons _ _ _ _ off ty r,lo,hi=>(decide (off+ty.sz<=lo) || decide (hi<=off))&&mi r lo hi
def nB:Fds->Bool
 | .nil=>true
 | .cons _ _ _ _ off ty r=>mi r off (off+ty.sz)&&nB r
def Fds.plain:Fds->Bool
 | .nil=>true
 | .cons lo hi tag _ _ ty r=>(lo==0)&&hi.isNone&&tag.isNone&&ty.leaf&&r.plain
def Ty.inl:Ty->Bool
 | .struct none _ _=>true
 | _=>false
def r7 (p:Nat × Value):Fds->Bool
 | .nil=>false
 | .cons _ _ _ df off ty r=>(match ty with
   | .prim .bool=>off==p.1&&((df==0&&FT p.2 (.bool false)) || (df==1&&FT p.2 (.bool true)))
   | .prim .uuid=>false
   | .prim q=>off==p.1&&FT p.2 (.int q.kind df)
   | _=>false) || r7 p r
def Ih:Ty->Bool
 | .struct none _ fs=>fs.plain
 | _=>true
def yW (e:Ev)(hf:Bool)(m k0 T kt:Nat)(toff:Option Nat)(fs:Fds)(nm:Nm)(okf okt:Bool):Bool:=
 okf&&nB fs &&
 (match toff with|some o=>hf&&gC e.P T kt e.g.tTags o true 1&&mi fs o (o+1)|none=>!hf) &&
 (!(hf&&fs.tagged) || (decide (m<=nm.n 0/\nm.n 0<nm.n 1/\nm.n 1<k0)&&okt))
mutual
def s6 (e:Ev)(hf:Bool)(m k0 T off:Nat):Ty->Nm->Bool
 | .prim p,nm=>jU e hf m k0 (.prim p) (nm.n 0) (nm.l.drop 4)&&nm.n 1==T&&gC e.P T (nm.n 2) (nm.n 3) off (Ty.agg (.prim p)) (Ty.sz (.prim p))&&(p != .uuid || kE e.P e.g.tUuid true 16)
 | .str nul,nm=>jU e hf m k0 (.str nul) (nm.n 0) (nm.l.drop 4)&&nm.n 1==T&&gC e.P T (nm.n 2) (nm.n 3) off false 1
 | .bytes nul,nm=>jU e hf m k0 (.bytes nul) (nm.n 0) []&&nm.n 1==T&&gC e.P T (nm.n 2) (nm.n 3) off false 1
 | .list _ esz el,nm=>
  decide (m<=nm.n 0/\nm.n 0<nm.n 4/\nm.n 4<nm.n 5/\nm.n 5<nm.n 6/\nm.n 6<k0)&&nm.n 1==T&&gC e.P T (nm.n 2) (nm.n 3) off false 1 &&
  (match pM e.P (nm.n 3) with
   | some (_,sz,z)=>sz==esz&&okEl e hf (nm.n 6+1) k0 esz z el (nm.sub 0)&&sL e.g hf
   | none=>false)
 | .struct none toff fs,nm=>
  decide (m<=nm.n 0/\m<=nm.n 3/\nm.n 0<k0/\nm.n 3<k0/\nm.n 0≠nm.n 3)&&nm.n 1==T&&gC e.P T (nm.n 2) (sP e.P T (nm.n 2)) off true (pC e.P (sP e.P T (nm.n 2))) &&
  (match e.D (nm.n 4)with|some wr=>wr.all λp=>decide (p.1<fs.ext (ft toff))&&r7 p fs|none=>false)&&yW e hf (max (nm.n 0) (nm.n 3)+1) k0 (nm.n 5) (nm.n 6) toff fs (nm.sub 0) (okFds e hf (max (nm.n 0) (nm.n 3)+1) k0 (nm.n 5) fs (nm.sub 0).s) (okTagd e ((nm.sub 0).n 1+1) k0 (nm.n 5) fs (nm.sub 0).s)
 | .struct (some _) toff fs,nm=>
  decide (m<=nm.n 0/\m<=nm.n 4/\m<=nm.n 8/\nm.n 0<k0/\nm.n 4<k0/\nm.n 8<k0/\nm.n 0≠nm.n 4)&&nm.n 1==T&&gC e.P T (nm.n 2) (nm.n 3) off false 1&&(e.av .i8&&cJ e.g.ok) &&
  (match zeroOf e.P (nm.n 9),e.D (nm.n 5) with
   | some z,some wr=>(wr.all λp=>decide (p.1<z.cells.size))&&zFds (applyWr z.cells 0 wr) fs 0&&Iu (applyWr z.cells 0 wr) toff&&decide (fs.ext (ft toff)<=z.cells.size)
   | _,_=>false)&&yW e hf (max (nm.n 0) (nm.n 4)+1) k0 (nm.n 6) (nm.n 7) toff fs (nm.sub 0) (okFds e hf (max (nm.n 0) (nm.n 4)+1) k0 (nm.n 6) fs (nm.sub 0).s) (okTagd e ((nm.sub 0).n 1+1) k0 (nm.n 6) fs (nm.sub 0).s)
def okEl (e:Ev)(hf:Bool)(m k0 esz:Nat)(z:Array Value):Ty->Nm->Bool
 | .struct none toff fs,nm=>
  decide (m<=nm.n 0/\m<=nm.n 1/\nm.n 0<k0/\nm.n 1<k0/\nm.n 0≠nm.n 1) &&
  (match e.D (nm.n 2) with
   | some wr=>(wr.all λp=>decide (p.1<esz))&&zFds (applyWr z 0 wr) fs 0&&Iu (applyWr z 0 wr) toff&&decide (fs.ext (ft toff)<=esz)
   | none=>false)&&yW e hf (max (nm.n 0) (nm.n 1)+1) k0 (nm.n 3) (nm.n 4) toff fs (nm.sub 0) (okFds e hf (max (nm.n 0) (nm.n 1)+1) k0 (nm.n 3) fs (nm.sub 0).s) (okTagd e ((nm.sub 0).n 1+1) k0 (nm.n 3) fs (nm.sub 0).s)
 | .struct (some _) _ _,_=>false
 | .list _ _ _,_=>false
 | .prim p,nm=>jU e hf m k0 (.prim p) (nm.n 0) (nm.l.drop 2)&&kE e.P (nm.n 1) (Ty.agg (.prim p)) (Ty.sz (.prim p))&&Ty.sz (.prim p)==esz&&(p != .uuid || kE e.P e.g.tUuid true 16)
 | .str nul,nm=>jU e hf m k0 (.str nul) (nm.n 0) (nm.l.drop 2)&&kE e.P (nm.n 1) false 1&&1==esz
 | .bytes nul,nm=>jU e hf m k0 (.bytes nul) (nm.n 0) (nm.l.drop 2)&&kE e.P (nm.n 1) false 1&&1==esz
def okFds (e:Ev)(hf:Bool)(m k0 T:Nat):Fds->List Nm->Bool
 | .nil,_=>true
 | .cons _ _ tag _ off ty r,ms=>(tag.isSome || s6 e hf m k0 T off ty (ms.headD (.mk [] [])))&&okFds e hf m k0 T r ms.tail
def okTagd (e:Ev)(m k0 T:Nat):Fds->List Nm->Bool
 | .nil,_=>true
 | .cons _ _ tag _ off ty r,ms=>
  (match tag with
   | some t=>decide (t<4294967296)&&decide (m<=(ms.headD (.mk [] [])).n 0/\(ms.headD (.mk [] [])).n 0<k0/\m<=(ms.headD (.mk [] [])).n 1/\(ms.headD (.mk [] [])).n 1<k0) &&
    Ih ty&&s6 e true ((ms.headD (.mk [] [])).n 0+1) k0 T off ty ((ms.headD (.mk [] [])).sub 0)
   | none=>true)&&okTagd e m k0 T r ms.tail
end
inductive DI where
 | st (s T k F:Nat) (c:Value)
 | fa (v s T k:Nat)
 | nop (v:Nat)
def q9:DI->GC
 | .st s T k F c=>bL 3 λn=>[mk (some n) (.move (tm s)),mk (some (n+1)) (.nilCheck (tm n)),mk (some (n+2)) (.fieldAddr T (tm (n+1)) k),mk none (.store F (tm (n+2)) (.const c))]
 | .fa v s T k=>ia s v T k
 | .nop v=>bL 1 λn=>[mk (some n) (.move (tm v))]
def gDflt (items:List DI)(n0:Nat):Code:=(gS (items.map q9) n0).1
def Hs:Value->Bool
 | .int _ _=>true
 | .bool _=>true
 | .pointer none=>true
 | _=>false
theorem Dn {c:Value}(h:Hs c=true):c.oneCell'=true/\c.cells=#[c]:=by
 cases c<;>first|exact⟨rfl,rfl⟩|cases h
def uC (P:Program)(T k:Nat):Nat:=
 match P.underlying T with
 | some (.struct fs)=>(match fs[k]? with|some f=>f.offset|none=>0)
 | _=>0
def I8 (P:Program)(F:Nat):Bool:=match P.underlying F with|some (.struct _)=>true|some (.array _ _)=>true|_=>false
def dRun (P:Program)(k0:Nat):List DI->List (Nat × Nat)->Option (List (Nat × Value))
 | [],_=>some []
 | .st s T k F c::r,env=>
  match env.lookup s with
  | some o=>if Hs c&&gC P T k F (uC P T k) false 1&&decide (s<k0) then(dRun P k0 r env).map λwr=>(o+uC P T k,c)::wr else none
  | none=>none
 | .fa v s T k::r,env=>
  match env.lookup s with
  | some o=>if decide (v<k0)&&decide (s<k0)&&gC P T k (sP P T k) (uC P T k) (I8 P (sP P T k)) (pC P (sP P T k))then dRun P k0 r ((v,o+uC P T k)::env)else none
  | none=>none
 | .nop _::r,env=>dRun P k0 r env
theorem j6 {cur:Array Value}{i:Nat}{c:Value}(h:i<cur.size):bV cur i [c]=cur.setIfInBounds i c:=by
 apply Array.ext_getElem?
 intro j
 rw[ay]
 by_cases hj:i=j
 ·subst hj
  rw[ax rfl,ax h]
  simpa using dn (cur:=cur) (o:=i) (vs:=[c]) (by simp;omega) 0 ab
 ·rw[al hj]
  exact dL (by simp;omega) j (by simp only[List.length_cons,List.length_nil];omega)
section
variable {P:Program} {B O te k0:Nat}
theorem lJ:∀ (items:List DI) (env:List (Nat × Nat)) (wr:List (Nat × Value)) (n:Nat) (a:Act) (w:World) (cur:Array Value) (K:Act->World->Prop),dRun P k0 items env=some wr->(∀ s o,env.lookup s=some o->s<k0->a.get s=pt B (O+o))->k0<=n->(gL (items.map q9) n).2<=a.tmps.size ->
  w.heap[B]?=some (.cells cur te (0,0))->(∀ p∈wr,O+p.1<cur.size)->(∀ a' w',a'.defers=a.defers->br (·=B) w w'->w'.heap[B]?=some (.cells (applyWr cur O wr) te (0,0))->K a' w')->LW P (items.map q9) n (Rt K λ_ _=>False) a w
 | [],env,wr,n,a,w,cur,K,h,Nz,hk,hn,hB,hO,hK=>by
  obtain rfl:=au h
  exact cD (hK a w rfl (br.refl _ _) hB)
 | .nop v::r,env,wr,n,a,w,cur,K,h,Nz,hk,hn,hB,hO,hK=>by
  have KM:n+1<=(gL (r.map q9) (n+1)).2:=mU (λx hx=>by
   obtain⟨d,_,rfl⟩:=aP.1 hx
   cases d<;>exact bD _ _) _
  have hn':(gL (r.map q9) (n+1)).2<=a.tmps.size:=hn
  refine bt (bF (bv (wpList_nil ?_)))
  refine lJ r env wr (n+1) _ w cur K h (λs o hs LU=>by rw[b8 aa];exact Nz s o hs LU) aa (by rw[bq];exact hn') hB hO hK
 | .fa v s T k::r,env,wr,n,a,w,cur,K,h,Nz,hk,hn,hB,hO,hK=>by
  have KM:n+3<=(gL (r.map q9) (n+3)).2:=mU (λx hx=>by
   obtain⟨d,_,rfl⟩:=aP.1 hx
   cases d<;>exact bD _ _) _
  have hn':(gL (r.map q9) (n+3)).2<=a.tmps.size:=hn
  unfold dRun at h
  split at h
  ·rename_i o Kh
   split at h
   ·rename_i hc
    simp only[ac,ai]at hc
    obtain⟨⟨hv,hs⟩,hF⟩:=hc
    refine bt (ly (x:=v) (m:=k0) (k0:=k0) (O:=O+o) (Nz s o Kh hs) (fldB_ok hF) (.inl rfl) (ae _) hk aa aa λa1 IP IY=>?_)
    refine lJ r _ wr (n+3) a1 w cur K h (λs' o' Mh LU=>?_) aa (by rw[IP.size];exact hn') hB hO (λa' w' hd=>hK a' w' (hd.trans IP.defers))
    by_cases he:s'=v
    ·subst he
     rw[List.lookup_cons_self]at Mh
     obtain rfl:=au Mh
     rw[IY,Nat.add_assoc]
    ·rw[bh,show(s'==v)=false by simpa using he]at Mh
     rw[IP.get s' he (.inl LU)]
     exact Nz s' o' Mh LU
   ·cases h
  ·cases h
 | .st s T k F c::r,env,wr,n,a,w,cur,K,h,Nz,hk,hn,hB,hO,hK=>by
  have KM:n+3<=(gL (r.map q9) (n+3)).2:=mU (λx hx=>by
   obtain⟨d,_,rfl⟩:=aP.1 hx
   cases d<;>exact bD _ _) _
  have hn':(gL (r.map q9) (n+3)).2<=a.tmps.size:=hn
  unfold dRun at h
  split at h
  ·rename_i o Kh
   split at h
   ·rename_i hc
    simp only[ac,ai]at hc
    obtain⟨⟨Jv,hF⟩,hs⟩:=hc
    obtain⟨h1,h2⟩:=Dn Jv
    have QV:=fldB_ok hF
    cases hr:dRun P k0 r env with
    | none=>rw[hr]at h;cases h
    | some wr'=>
     rw[hr]at h
     obtain rfl:=au h
     have hO1:O+(o+uC P T k)<cur.size:=hO (o+uC P T k,c) (aB ..)
     refine bt (bF (bv ?_))
     rw[bp,Nz s o Kh hs]
     refine bY (by rw[bp,bA aa];rfl) ?_
     refine dt (by rw[bp,bA (by simp only[bq];omega)]) QV ?_
     refine cK (cur:=cur) (t:=te) (v:=c) (vs:=[c]) (by rw[bp,bA (by simp only[bq];omega)]) rfl (by rw[h2]) (QV.var.size _) hB (by simp only[List.length_cons,List.length_nil];omega) (λu hu=>by simp at hu;rw[hu];exact h1) (wpList_nil ?_)
     rw[Nat.add_assoc,j6 hO1]
     refine lJ r env wr' (n+3) _ _ (cur.setIfInBounds (O+(o+uC P T k)) c) K hr (λs' o' Mh LU=>?_) aa (by simp only[bq];exact hn') (setRow_heap _ _ _ _ _ _ hB) (λp hp=>by simpa using hO p (by simp[hp])) λa' w' hd Ko Q0=>?_
     ·rw[b8 aa,b8 aa,b8 aa]
      exact Nz s' o' Mh LU
     ·exact hK a' w' (by rw[hd];simp only[b6]) ((br.setRow (λk=>k=B) w B (cur.setIfInBounds (O+(o+uC P T k)) c) rfl).trans Ko) Q0
   ·cases h
  ·cases h
end
theorem db (args:Array Value)(n i:Nat)(h:i<args.size):({ tmps:=args++Array.replicate (n-args.size) undef,defers:=[] }:Act).get i=args[i]:=by
 simp[Act.get,Array.getElem?_append_left h,h]
theorem dw (args:Array Value)(n:Nat)(h:args.size<=n):(args++Array.replicate (n-args.size) undef).size=n:=by
 simp;omega
theorem dfC_of {P:Program}(hm:P.follows .mixedOrders=true){f ntmps n0:Nat}{items:List DI}{wr:List (Nat × Value)}(h:FnIs P f ntmps [] (gDflt items n0))(hr:dRun P n0 items [(0,0)]=some wr)(hn:(gL (items.map q9) n0).2<=ntmps)(h0:0<n0):Ent P f/\DfC P f wr:=by
 refine⟨h.ent,λw B O cur te hB hO=>h.calls hm ab ?_⟩
 have KM:n0<=(gL (items.map q9) n0).2:=mU (λx hx=>by
   obtain⟨d,_,rfl⟩:=aP.1 hx
   cases d<;>exact bD _ _) _
 have hs:=dw #[pt B O] ntmps (by show 1<=ntmps;omega)
 refine lV (cC (lJ items [(0,0)] wr n0 _ w cur (λa w'=>a.defers=[]/\br (·=B) w w'/\w'.heap[B]?=some (.cells (applyWr cur O wr) te (0,0))) hr (λs o N5 LU=>?_) (ae _) (by rw[hs];exact hn) hB hO λa' w' hd hk Q0=>⟨hd,hk,Q0⟩)) (λa w' hh=>⟨hh.1,rfl,hh.2⟩) (λa w' hh=>hh.elim)
 rw[bh]at N5
 split at N5
 ·rename_i he
  obtain rfl:=au N5
  have:s=0:=by simpa using he
  subst this
  rw[db _ _ _ ab]
  rfl
 ·simp at N5
inductive DT where
 | it (d:DI)
 | blk (l:List DI)
def ID:DT->GC
 | .it d=>q9 d
 | .blk l=>gS (l.map q9)
def dtF:List DT->List DI
 | []=>[]
 | .it d::r=>d::dtF r
 | .blk l::r=>l++dtF r
def gDfltT (items:List DT)(n0:Nat):Code:=(gS (items.map ID) n0).1
section
variable {P:Program}
theorem nq {cs ds:List Code}{Q:Exit->Act->World->Prop}:∀ {a:Act} {w:World},cf P (sq (cs++ds)) Q a w->cf P (sq cs) (Exit.then (cf P (sq ds) Q) Q) a w:=by
 induction cs with
 | nil=>intro a w h;exact .skip h
 | cons c cs ih=>
  intro a w h
  cases Qt:cs++ds with
  | nil=>
   obtain⟨rfl,rfl⟩:=List.append_eq_nil_iff.1 Qt
   exact .mono h λe a w hq=>by
    cases e with
    | normal=>exact .skip hq
    | _=>exact hq
  | cons d r=>
   have h':cf P (.seq c (sq (cs++ds))) Q a w:=by
    rw[aS,Qt]at h
    rw[Qt]
    exact h
   obtain⟨R,h1,h2,h3⟩:=o6 h' _ _ rfl
   refine bJ (.mono h1 λe a w hr=>?_)
   cases e with
   | normal=>exact ih (h2 a w hr)
   | _=>exact h3 _ a w ab hr
theorem qM {K K':Act->World->Prop}{Q:Exit->Act->World->Prop}(h:∀ a w,K a w->K' a w)(e:Exit)(a:Act)(w:World)(hq:Exit.then K Q e a w):Exit.then K' Q e a w:=by
 cases e with
 | normal=>exact h a w hq
 | _=>exact hq
theorem Cf:∀ (items:List DT) {n:Nat} {Q:Exit->Act->World->Prop} {a:Act} {w:World},LW P ((dtF items).map q9) n Q a w->LW P (items.map ID) n Q a w
 | [],_,_,_,_,h=>h
 | .it d::r,n,Q,a,w,h=>by
  refine bt (.mono (nq (cs:=[(q9 d n).1]) h) ?_)
  exact qM λa w hr=>Cf r hr
 | .blk l::r,n,Q,a,w,h=>by
  have h':cf P (sq ((gL (l.map q9) n).1++(gL ((dtF r).map q9) (gL (l.map q9) n).2).1)) Q a w:=by
   have h0:cf P (sq (gL ((l++dtF r).map q9) n).1) Q a w:=h
   rwa [List.map_append,cz]at h0
  exact bt (.mono (nq h') (qM λa w hr=>Cf r hr))
end
theorem dfC_ofT {P:Program}(hm:P.follows .mixedOrders=true){f ntmps n0:Nat}{items:List DT}{wr:List (Nat × Value)}(h:FnIs P f ntmps [] (gDfltT items n0))(hr:dRun P n0 (dtF items) [(0,0)]=some wr)(hn:(gL ((dtF items).map q9) n0).2<=ntmps)(h0:0<n0):Ent P f/\DfC P f wr:=by
 refine⟨h.ent,λw B O cur te hB hO=>h.calls hm ab ?_⟩
 have KM:n0<=(gL ((dtF items).map q9) n0).2:=mU (λx hx=>by
   obtain⟨d,_,rfl⟩:=aP.1 hx
   cases d<;>exact bD _ _) _
 have hs:=dw #[pt B O] ntmps (by show 1<=ntmps;omega)
 refine lV (cC (Cf items (lJ (dtF items) [(0,0)] wr n0 _ w cur (λa w'=>a.defers=[]/\br (·=B) w w'/\w'.heap[B]?=some (.cells (applyWr cur O wr) te (0,0))) hr (λs o N5 LU=>?_) (ae _) (by rw[hs];exact hn) hB hO λa' w' hd hk Q0=>⟨hd,hk,Q0⟩))) (λa w' hh=>⟨hh.1,rfl,hh.2⟩) (λa w' hh=>hh.elim)
 rw[bh]at N5
 split at N5
 ·rename_i he
  obtain rfl:=au N5
  have:s=0:=by simpa using he
  subst this
  rw[db _ _ _ ab]
  rfl
 ·simp at N5
def iI (A:Nat->Prop)(S:Nat)(T:(Nat->Prop)->Prop):Prop:=∀ X:Nat->Prop,(∀ k,X k->A k)->¬ X S->T X
theorem iI.mono {A A':Nat->Prop}{S:Nat}{T:(Nat->Prop)->Prop}(h:iI A S T)(ha:∀ k,A' k->A k):iI A' S T:=λX hX hS=>h X (λk hk=>ha k (hX k hk)) hS
def qx (w:World)(B n te:Nat):Prop:=∃ cur,w.heap[B]?=some (.cells cur te (0,0))/\n<=cur.size
theorem qx.lt {w:World}{B n te:Nat}(h:qx w B n te):B<w.heap.size:=by
 obtain⟨cur,h,_⟩:=h
 exact(aj.1 h).1
theorem qx.evo {R B n te:Nat}{Z:Nat->Prop}{w w':World}(h:gh R B Z w w')(hb:qx w B n te):qx w' B n te:=by
 obtain⟨cur,h1,h2⟩:=hb
 obtain⟨cs,h3,h4,_⟩:=h.blk cur te h1
 exact⟨cs,h3,by omega⟩
theorem qx.mono {w:World}{B n n' te:Nat}(h:qx w B n te)(hn:n'<=n):qx w B n' te:=by
 obtain⟨cur,h1,h2⟩:=h
 exact⟨cur,h1,by omega⟩
theorem ik:∀ (fs:Fds) (lo hi O j:Nat),mi fs lo hi=true->fs.In O j->¬ (O+lo<=j/\j<O+hi)
 | .nil,_,_,_,_,_,h=>h.elim
 | .cons _ _ _ _ off ty r,lo,hi,O,j,h,hj=>by
  simp only[mi,ac,aH,ai]at h
  rcases hj with hj|hj
  ·omega
  ·exact ik r lo hi O j h.2 hj
theorem BU:∀ (fs:Fds) (m O j:Nat),fs.In O j->O<=j/\j<O+fs.ext m
 | .nil,_,_,_,h=>h.elim
 | .cons _ _ _ _ off ty r,m,O,j,h=>by
  have h1:=kL r (Nat.max m (off+ty.sz))
  have h2:off+ty.sz<=Nat.max m (off+ty.sz):=Nat.le_max_right _ _
  simp only[Fds.ext]
  rcases h with h|h
  ·omega
  ·exact BU r _ O j h
theorem RpF.frameIn {X:Nat->Prop}{w w':World}(hk:br X w w'):∀ (fs:Fds) (b o:Nat) (vs:List V),RpF w X fs b o vs->(∀ j,fs.In o j->w'.cell? ⟨b,j,none⟩=w.cell? ⟨b,j,none⟩)->RpF w' X fs b o vs
 | .nil,b,o,vs,h,_=>h
 | .cons _ _ _ _ off ty r,b,o,vs,h,hs=>by
  obtain⟨v,vs',h1,h2,h3⟩:=h
  exact⟨v,vs',h1,Rp.frame hk ty b (o+off) v h2 (λj ha hb=>hs j (.inl ⟨ha,hb⟩)),RpF.frameIn hk r b o vs' h3 (λj hj=>hs j (.inr hj))⟩
section evo
variable {A:Nat->Prop} {S R B O n te:Nat} {Z:Nat->Prop} {w w':World}
theorem Rp.evoA (h:gh R B Z w w')(hR:A R)(hB:A B)(hRS:R≠S)(MB:B≠S)(hb:qx w B n te){ty:Ty}{o:Nat}{v:V}(hv:iI A S λX=>Rp w X ty B o v)(hd:∀ j,o<=j->j<o+ty.sz->¬ Z j):iI A S λX=>Rp w' X ty B o v:=by
 intro X hX hS
 obtain⟨cur,hc,_⟩:=hb
 have h1:=hv (λk=>X k \/ k=R \/ k=B) (λk hk=>by rcases hk with hk|rfl|rfl<;>first|exact hX k hk|assumption) (λhk=>by rcases hk with hk|hk|hk<;>first|exact hS hk|exact hRS hk.symm|exact MB hk.symm)
 have h2:=Rp.frame (h.keeps.mono λk _ hk=>.inr hk) ty B o v h1 λj h3 h4=>h.cell hc (hd j h3 h4)
 exact Rp.mono (λk _ hk=>.inl hk) ty B o v h2
theorem RpF.evoA (h:gh R B Z w w')(hR:A R)(hB:A B)(hRS:R≠S)(MB:B≠S)(hb:qx w B n te){fs:Fds}{vs:List V}(hv:iI A S λX=>RpF w X fs B O vs)(hd:∀ j,fs.In O j->¬ Z j):iI A S λX=>RpF w' X fs B O vs:=by
 intro X hX hS
 obtain⟨cur,hc,_⟩:=hb
 have h1:=hv (λk=>X k \/ k=R \/ k=B) (λk hk=>by rcases hk with hk|rfl|rfl<;>first|exact hX k hk|assumption) (λhk=>by rcases hk with hk|hk|hk<;>first|exact hS hk|exact hRS hk.symm|exact MB hk.symm)
 have h2:=RpF.frameIn (h.keeps.mono λk _ hk=>.inr hk) fs B O vs h1 λj hj=>h.cell hc (hd j hj)
 exact RpF.mono (λk _ hk=>.inl hk) fs B O vs h2
theorem gM.evoA (h:gh R B Z w w')(hR:A R)(hB:A B)(hRS:R≠S)(MB:B≠S)(hb:qx w B n te){toff:Option Nat}{t:List (Nat × Bs)}(hv:iI A S λX=>gM w X B O toff t)(hd:∀ k,toff=some k->¬ Z (O+k)):iI A S λX=>gM w' X B O toff t:=by
 intro X hX hS
 obtain⟨cur,hc,_⟩:=hb
 have h1:=hv (λk=>X k \/ k=R \/ k=B) (λk hk=>by rcases hk with hk|rfl|rfl<;>first|exact hX k hk|assumption) (λhk=>by rcases hk with hk|hk|hk<;>first|exact hS hk|exact hRS hk.symm|exact MB hk.symm)
 exact(h1.frame (h.keeps.mono λk _ hk=>.inr hk) λk hk=>h.cell hc (hd k hk)).mono λk _ hk=>.inl hk
theorem RpF.evo0 (h:gh R B Z w w')(hb:qx w B n te){fs:Fds}{vs:List V}(hv:∀ X,RpF w X fs B O vs)(hd:∀ j,fs.In O j->¬ Z j):∀ X,RpF w' X fs B O vs:=by
 intro X
 obtain⟨cur,hc,_⟩:=hb
 have h1:=hv (λk=>X k \/ k=R \/ k=B)
 have h2:=RpF.frameIn (h.keeps.mono λk _ hk=>.inr hk) fs B O vs h1 λj hj=>h.cell hc (hd j hj)
 exact RpF.mono (λk _ hk=>.inl hk) fs B O vs h2
end evo
structure z1 {α:Type}(g:G)(S R B:Nat)(Z:Nat->Prop)(m k0 n:Nat)(a:Act)(w:World)(out:dV α)(G:α->World->Prop)(K E:Act->World->Prop):Prop where
 ok:∀ v r' a' w',out=.ok v r'->Pv 6 m k0 n a a'->ep w' g.tR S R r'->gh R B Z w w'->G v w'->K a' w'
 err:out=.err->∀ a' w',Pv 6 m k0 n a a'->(∃ t y,a'.get 6=.iface t y)->br (λk=>k=R \/ k=B) w w'->E a' w'
 go:out≠.stuck
structure Env (P:Program)(g:G)(av:PF->Bool)(fl:Bool)(D:Nat->Option (List (Nat × Value))):Prop where
 kb:KB P g av fl
 df:∀ f wr,D f=some wr->Ent P f/\DfC P f wr
def vg (w:World)(B o:Nat)(fx:Bool):Ty->V->Prop
 | .list nul esz e,old=>Rp w (λ_=>False) (.list nul esz e) B o old
 | .struct (some q) toff fs,old=>Rp w (λ_=>False) (.struct (some q) toff fs) B o old
 | .struct none toff fs,old=>(fs.plain=true/\fx=true) \/ (old=.st (dfFds fs) []/\∀ X,Rp w X (.struct none toff fs) B o old)
 | _,_=>True
section
variable (P:Program) (g:G) (av:PF->Bool) (fl:Bool) (D:Nat->Option (List (Nat × Value)))
def th (ty:Ty):Prop:=
 ∀ (nm:Nm) (cx:Cx) (fx:Bool) (ver:Int) (S R B O:Nat) (r:RS) (m k0 n T off:Nat) (old:V) (K E:Act->World->Prop) (a:Act) (w:World) (te:Nat),
  s6 ⟨P,g,av,D⟩ cx.hf m k0 T off ty nm=true->RC g cx fx ver S R B O r a w->fX cx m k0->(cx.hf=true->fl=true)->k0<=n->k0<=a.tmps.size->(gL (nM g cx ty nm) n).2<=a.tmps.size->qx w B (O+off+ty.sz) te->vg w B (O+off) fx ty old ->
  z1 g S R B (λj=>O+off<=j/\j<O+off+ty.sz) m k0 n a w (dy fx ver ty old r) (λv w'=>vi w S λX=>Rp w' X ty B (O+off) v) K E->LW P (nM g cx ty nm) n (Rt K E) a w
def rz (fs:Fds):Prop:=
 ∀ (ms:List Nm) (cx:Cx) (fx:Bool) (ver:Int) (S R B O:Nat) (r:RS) (m k0 n T mm:Nat) (K E:Act->World->Prop) (a:Act) (w:World) (te:Nat),
  okFds ⟨P,g,av,D⟩ cx.hf m k0 T fs ms=true->nB fs=true->RC g cx fx ver S R B O r a w->fX cx m k0->(cx.hf=true->fl=true)->k0<=n->k0<=a.tmps.size->(gL (gFds g cx fs ms) n).2<=a.tmps.size->qx w B (O+fs.ext mm) te ->
  (fs.plain=true \/ ∀ X,RpF w X fs B O (dfFds fs)) ->
  z1 g S R B (fs.In O) m k0 n a w (rdFds fx ver fs r) (λvs w'=>vi w S λX=>RpF w' X fs B O vs) K E->LW P (gFds g cx fs ms) n (Rt K E) a w
end
section
variable {P:Program} {g:G} {av:PF->Bool} {fl:Bool} {D:Nat->Option (List (Nat × Value))}
theorem Dy:rz P g av fl D .nil:=by
 intro ms cx fx ver S R B O r m k0 n T mm K E a w te _ _ IQ hc _ hk _ _ _ _ ho
 exact cD (ho.ok [] r a w rfl (Pv.refl _ _ _ _ _) IQ.rd (gh.refl _ _ _ _) (λX _ _=>rfl))
theorem im {w w1:World}{S:Nat}{T:(Nat->Prop)->Prop}(h:vi w1 S T)(hs:w.heap.size<=w1.heap.size):vi w S T:=λX hX hS=>h X (λk hk=>az (hX k hk) hs) hS
theorem ql {lo:Nat}{hi tag:Option Nat}{df:Int}{off:Nat}{ty:Ty}{r0:Fds}(h2:rz P g av fl D r0){ms:List Nm}{cx:Cx}{fx:Bool}{ver:Int}{S R B O:Nat}{r r1:RS}{m k0 n n2 T mm:Nat}{K E:Act->World->Prop}{a a1:Act}{w w1:World}{te:Nat}{v:V}
  (Jf:okFds ⟨P,g,av,D⟩ cx.hf m k0 T r0 ms=true) (LL:mi r0 off (off+ty.sz)=true) (LA:nB r0=true) (IQ:RC g cx fx ver S R B O r a w) (hc:fX cx m k0) (Jb:cx.hf=true->fl=true) (hk:k0<=n) (J8:n<=n2) (Ka:k0<=a.tmps.size)
  (hn:(gL (gFds g cx r0 ms) n2).2<=a.tmps.size) (hb:qx w B (O+(Fds.cons lo hi tag df off ty r0).ext mm) te) (Ll:r0.plain=true \/ ∀ X,RpF w X r0 B O (dfFds r0)) (hp:Pv 6 m k0 n a a1) (LV:ep w1 g.tR S R r1) (K7:gh R B (λj=>O+off<=j/\j<O+off+ty.sz) w w1)
  (hv:vi w S λX=>Rp w1 X ty B (O+off) v)
  (ho:z1 g S R B ((Fds.cons lo hi tag df off ty r0).In O) m k0 n a w ((rdFds fx ver r0 r1).bind λvs r=>.ok (v::vs) r) (λvs w'=>vi w S λX=>RpF w' X (.cons lo hi tag df off ty r0) B O vs) K E) :
  LW P (gFds g cx r0 ms) n2 (Rt K E) a1 w1:=by
 have LR:R<w.heap.size:=IQ.rd.lt
 have LI:B<w.heap.size:=hb.lt
 have KQ:∀ j,r0.In O j->¬ (O+off<=j/\j<O+off+ty.sz):=λj hj hh=>ik r0 off (off+ty.sz) O j LL hj ⟨hh.1,by omega⟩
 have IX:=hp.size
 have Jk:RC g cx fx ver S R B O r1 a1 w1:=IQ.step hc hp LV K7.keeps (λ_ _ h=>h)
 have J2:=hb.evo K7
 refine h2 ms cx fx ver S R B O r1 m k0 n2 T (Nat.max mm (off+ty.sz)) K E a1 w1 te Jf LA Jk hc Jb aa aa aa J2 ?_ ⟨λvs r2 a2 w2 he IR Jt J1 Kg=>?_,λhe a2 w2 IR hif IV=>?_,λhe=>?_⟩
 ·rcases Ll with Ll|Ll
  ·exact .inl Ll
  ·exact .inr (RpF.evo0 K7 hb Ll KQ)
 ·refine ho.ok (v::vs) r2 a2 w2 (by rw[he];rfl) (hp.trans (IR.mono (ae _) J8)) Jt ((K7.mono λj hj=>.inl hj).trans (J1.mono λj hj=>.inr hj)) λX hX hS=>⟨v,vs,rfl,?_,?_⟩
  ·exact Rp.evoA (A:=(·<w.heap.size)) J1 LR LI IQ.SR.symm IQ.BS J2 hv (λj ha hb hj=>KQ j hj ⟨ha,hb⟩) X hX hS
  ·exact im Kg K7.keeps.size X hX hS
 ·exact ho.err (by rw[he];rfl) a2 w2 (hp.trans (IR.mono (ae _) J8)) hif (K7.keeps.trans IV)
 ·exact ho.go (by rw[he];rfl)
theorem B4 {w:World}{B o:Nat}{fx:Bool}{ty:Ty}{df:Int}(h:∀ X,Rp w X ty B o (du df ty)):vg w B o fx ty (du df ty):=by
 cases ty with
 | struct nul toff fs=>
  cases nul with
  | none=>exact .inr ⟨rfl,h⟩
  | some q=>exact h _
 | list nul esz e=>exact h _
 | _=>trivial
theorem wy {w:World}{B o:Nat}{fx:Bool}{ty:Ty}{old:V}(hi:ty.leaf=true):vg w B o fx ty old:=by
 cases ty<;>first|trivial|cases hi
theorem Ce {lo:Nat}{hi tag:Option Nat}{df:Int}{off:Nat}{ty:Ty}{r0:Fds}(h1:th P g av fl D ty)(h2:rz P g av fl D r0):rz P g av fl D (.cons lo hi tag df off ty r0):=by
 intro ms cx fx ver S R B O r m k0 n T mm K E a w te Jf LA IQ hc Jb hk Ka hn hb Ll ho
 simp only[okFds,ac,aH]at Jf
 simp only[nB,ac]at LA
 have LR:R<w.heap.size:=IQ.rd.lt
 have LI:B<w.heap.size:=hb.lt
 have NN:=kL r0 (Nat.max mm (off+ty.sz))
 have Uj:off+ty.sz<=Nat.max mm (off+ty.sz):=Nat.le_max_right _ _
 have KM:ka (gFds g cx r0 ms.tail):=up_gFds g r0 _ cx
 by_cases ht:tag.isNone=true/\ml lo hi ver=true
 ·obtain⟨Rl,JF⟩:=ht
  have MG:tag.isSome=false:=by cases tag<;>first|rfl|cases Rl
  simp only[MG,ag,false_or]at Jf
  obtain⟨R3,Nr⟩:=Jf
  have Mg:ka (nM g cx ty (ms.headD (.mk [] []))):=py g ty _ cx
  simp only[gFds,Rl,aw]at hn ⊢
  have Rh:=KM (fO g cx lo hi (gS (nM g cx ty (ms.headD (.mk [] [])))) n).2
  simp only[gL]at hn
  refine bt ?_
  rw[cn]
  refine rZ (x:=6) (m:=m) (k0:=k0) (ver:=ver) IQ.sv hc.le hk (by have:=hc.ver;have:=hc.le;omega) (gH Mg) aa (λa' n' hp Kj J8 hg _=>?_) (λa' hp Ki=>by rw[JF]at Ki;cases Ki)
  have hs:=hp.size
  have hrc':RC g cx fx ver S R B O r a' w:=IQ.step hc hp IQ.rd (br.refl (λ_=>False) w) (λ_ _ h=>h.elim)
  have hnT:=Mg n'
  have Jn:(fO g cx lo hi (gS (nM g cx ty (ms.headD (.mk [] [])))) n).2=(gL (nM g cx ty (ms.headD (.mk [] []))) n').2:=hg
  have Kz:vg w B (O+off) fx ty (du df ty):=by
   rcases Ll with Ll|Ll
   ·simp only[Fds.plain,ac]at Ll
    exact wy Ll.1.2
   ·exact B4 λX=>by obtain⟨v,vs',he,hv,_⟩:=Ll X;cases he;exact hv
  have Qc:r0.plain=true \/ ∀ X,RpF w X r0 B O (dfFds r0):=by
   rcases Ll with Ll|Ll
   ·simp only[Fds.plain,ac]at Ll
    exact .inl Ll.2
   ·exact .inr λX=>by obtain⟨v,vs',he,_,hv⟩:=Ll X;cases he;exact hv
  have Rw:rdFds fx ver (.cons lo hi tag df off ty r0) r=(dy fx ver ty (du df ty) r).bind λv r=>(rdFds fx ver r0 r).bind λvs r=>.ok (v::vs) r:=by simp[rdFds,Rl,JF]
  rw[Rw]at ho
  refine cC (h1 _ cx fx ver S R B O r m k0 n' T off (du df ty) _ E a' w te R3 hrc' hc Jb aa aa aa (hb.mono (by simp only[Fds.ext];omega)) Kz ⟨λv r1 a1 w1 he IP K8 Ly Lf=>?_,λhe a1 w1 IP hif Jd=>?_,λhe=>?_⟩)
  ·rw[he]at ho
   exact ql h2 Nr LA.1 LA.2 IQ hc Jb hk aa Ka hn hb Qc (hp.trans (IP.mono (ae _) Kj)) K8 Ly Lf ho
  ·exact ho.err (by rw[he];rfl) a1 w1 (hp.trans (IP.mono (ae _) Kj)) hif Jd
  ·exact ho.go (by rw[he];rfl)
 ·have YH:¬ (Fds.cons lo hi tag df off ty r0).plain=true:=by
   intro hp
   simp only[Fds.plain,ac,ar]at hp
   refine ht ⟨hp.1.1.2,?_⟩
   have hh:hi=none:=by cases hi<;>first|rfl|simp at hp
   simp[ml,hp.1.1.1.1,hh]
  have hpl':∀ X,RpF w X (.cons lo hi tag df off ty r0) B O (dfFds (.cons lo hi tag df off ty r0)):=by
   rcases Ll with h|h
   ·exact absurd h YH
   ·exact h
  have Qc:r0.plain=true \/ ∀ X,RpF w X r0 B O (dfFds r0):=.inr λX=>by obtain⟨v,vs',he,_,hv⟩:=hpl' X;cases he;exact hv
  have N3:vi w S λX=>Rp w X ty B (O+off) (du df ty):=λX _ _=>by obtain⟨v,vs',he,hv,_⟩:=hpl' X;cases he;exact hv
  have Rw:rdFds fx ver (.cons lo hi tag df off ty r0) r=(rdFds fx ver r0 r).bind λvs r=>.ok (du df ty::vs) r:=by
   have:(tag.isNone&&ml lo hi ver)=false:=by
    cases h:(tag.isNone&&ml lo hi ver) with
    | false=>rfl
    | true=>simp only[ac]at h;exact absurd h ht
   simp[rdFds,this]
  rw[Rw]at ho
  cases Rl:tag.isNone with
  | false=>
   simp only[gFds,Rl,ag,ak]at hn ⊢
   exact ql h2 Jf.2 LA.1 LA.2 IQ hc Jb hk (ae _) Ka hn hb Qc (Pv.refl _ _ _ _ _) IQ.rd (gh.refl _ _ _ _) N3 ho
  | true=>
   have Mg:ka (nM g cx ty (ms.headD (.mk [] []))):=py g ty _ cx
   simp only[gFds,Rl,aw]at hn ⊢
   simp only[gL]at hn
   have Rh:=KM (fO g cx lo hi (gS (nM g cx ty (ms.headD (.mk [] [])))) n).2
   have PV:n<=(fO g cx lo hi (gS (nM g cx ty (ms.headD (.mk [] [])))) n).2:=by
    have hu:Up (fO g cx lo hi (gS (nM g cx ty (ms.headD (.mk [] []))))):=by
     unfold fO
     split
     ·exact dG (gH Mg) (dc _)
     ·exact iw (gH Mg) (dG (gH Mg) (dc _))
    exact hu n
   refine bt ?_
   rw[cn]
   refine rZ (x:=6) (m:=m) (k0:=k0) (ver:=ver) IQ.sv hc.le hk (by have:=hc.ver;have:=hc.le;omega) (gH Mg) aa (λa' n' hp Kj J8 hg JF=>absurd ⟨Rl,JF⟩ ht) (λa' hp Ki=>?_)
   have hs:=hp.size
   exact ql h2 Jf.2 LA.1 LA.2 IQ hc Jb hk PV Ka hn hb Qc hp IQ.rd (gh.refl _ _ _ _) N3 ho
end
section
variable {P:Program} {g:G} {av:PF->Bool} {fl:Bool} {D:Nat->Option (List (Nat × Value))}
theorem jD.one {w:World}{X:Nat->Prop}{ty:Ty}{cs:List Value}{v:V}(h:jD w X ty cs v):∀ u∈cs,u.oneCell'=true:=by
 cases ty with
 | prim p=>
  cases p
  case bool=>obtain⟨b,rfl,_⟩:=h;intro u hu;simp at hu;subst hu;rfl
  case uuid=>
   obtain⟨l,hl,rfl,_⟩:=h
   intro u hu
   obtain⟨b,_,rfl⟩:=aP.1 hu
   rfl
  all_goals (obtain⟨x,rfl,_⟩:=h;intro u hu;simp at hu;subst hu;rfl)
 | str nul=>
  cases nul with
  | none=>obtain⟨l,rfl,_⟩:=h;intro u hu;simp at hu;subst hu;rfl
  | some m=>
   rcases h with⟨rfl,_⟩|⟨l,b,o,rfl,_⟩<;>(intro u hu;simp at hu;subst hu;rfl)
 | bytes nul=>
  rcases h with⟨rfl,_⟩|⟨l,b,o,c,rfl,_⟩<;>(intro u hu;simp at hu;subst hu;rfl)
 | list=>exact h.elim
 | struct=>exact h.elim
theorem xM {w:World}{X:Nat->Prop}{ty:Ty}{b o:Nat}{v:V}{cs:List Value}(hl:ty.leaf=true)(hc:bB w b o cs)(h:jD w X ty cs v):Rp w X ty b o v:=by
 cases ty<;>first|exact⟨cs,hc,h⟩|cases hl
theorem tj {ty:Ty}{x:List Nat}(h:Ez ty x=true):(∃ t,x=[t]/\∃ q,ty=.str (some (q+1))) \/ (x=[]/\∀ q,ty≠.str (some (q+1))) \/ (∃ t u,x=[t,u]/\∃ p,ty=.prim p/\p≠.uuid):=by
 cases ty with
 | prim p=>
  simp only[Ez,aH,ar,ac,bne_iff_ne]at h
  rcases h with h|⟨h,hp⟩
  ·exact .inr (.inl ⟨List.length_eq_zero_iff.1 h,λq hq=>by cases hq⟩)
  ·match x,h with
   | [t,u],_=>exact .inr (.inr ⟨t,u,rfl,p,rfl,hp⟩)
 | str nul=>
  cases nul with
  | none=>simp only[Ez,ar]at h;exact .inr (.inl ⟨List.length_eq_zero_iff.1 h,λq hq=>by cases hq⟩)
  | some q=>
   cases q with
   | zero=>simp only[Ez,ar]at h;exact .inr (.inl ⟨List.length_eq_zero_iff.1 h,λq hq=>by cases hq⟩)
   | succ q=>
    simp only[Ez,ar]at h
    obtain⟨t,rfl⟩:=List.length_eq_one_iff.1 h
    exact .inl ⟨t,rfl,q,rfl⟩
 | _=>simp only[Ez,ar]at h;exact .inr (.inl ⟨List.length_eq_zero_iff.1 h,λq hq=>by cases hq⟩)
theorem sH (K0:KB P g av fl){ty:Ty}(hl:ty.leaf=true){nm:Nm}{cx:Cx}{fx:Bool}{ver:Int}{S R B O:Nat}{r:RS}{m k0 n T off:Nat}{K E:Act->World->Prop}{a:Act}{w:World}{te:Nat}{x:List Nat}{old:V}
  (hg:nM g cx ty nm=jx g cx ty (nm.n 0) x++[jX (mr g ty) cx.s (nm.n 0) (nm.n 1) (nm.n 2) (nm.n 3)]) (Kh:jU ⟨P,g,av,D⟩ cx.hf m k0 ty (nm.n 0) x=true) {agg:Bool} (hF:cO P (nm.n 1) (nm.n 2) (nm.n 3) off agg ty.sz)
  (NB:mr g ty=none \/ (mr g ty=some g.tUuid/\cv P g.tUuid true ty.sz)) (_hT:nm.n 1=T)
  (IQ:RC g cx fx ver S R B O r a w) (hc:fX cx m k0) (hk:k0<=n) (Ka:k0<=a.tmps.size) (hn:(gL (nM g cx ty nm) n).2<=a.tmps.size) (hb:qx w B (O+off+ty.sz) te)
  (ho:z1 g S R B (λj=>O+off<=j/\j<O+off+ty.sz) m k0 n a w (dy fx ver ty old r) (λv w'=>vi w S λX=>Rp w' X ty B (O+off) v) K E):LW P (nM g cx ty nm) n (Rt K E) a w:=by
 have LR:R<w.heap.size:=IQ.rd.lt
 have LI:B<w.heap.size:=hb.lt
 simp only[jU,ac]at Kh
 obtain⟨⟨h1,h2⟩,h3⟩:=Kh
 have MD:m<=nm.n 0/\nm.n 0<k0:=by simp only[lR,ac,ai]at h2;exact h2.1
 have Jj:=hc.le
 rw[hg]at hn ⊢
 rw[cz]at hn
 simp only[gL,jX,bL]at hn
 have KM:=jq g cx ty (nm.n 0) x n
 refine DF K0 (ver:=ver) h1 IQ hc hk h2 Ka (tj h3) aa λa1 w1 hp=>?_
 obtain⟨cs,IP,hval,K8,Jd,Mi⟩:=hp
 have IX:=IP.size
 have O9:=Mi (λ_=>False) (λ_ h=>h.elim) id
 have IT:=O9.len
 obtain⟨cur,hB,Jc⟩:=hb
 have MC:w1.heap[B]?=some (.cells cur te (0,0)):=by rw[Jd.block B LI IQ.BR];exact hB
 have Jk:RC g cx fx ver S R B O (ga fx ver ty r).2 a1 w1:=IQ.step hc IP K8 Jd (λ_ _ h=>.inl h)
 refine bt (xH (x:=6) (m:=m) (k0:=k0) (cs:=cs) (cur:=cur) (te:=te) Jk.ss hF ?_ IT O9.one MC aa Jj aa aa aa λa2 IR=>cD ?_)
 ·rcases NB with hu|⟨hu,hU⟩
  ·rw[hu]at hval ⊢;exact hval
  ·rw[hu]at hval ⊢;exact⟨by rw[IT];exact hU,hval⟩
 ·have K7:gh R B (λj=>O+off<=j/\j<O+off+ty.sz) w1 (w1.setRow B (bV cur (O+off) cs)):=gh.store MC (by rw[IT];omega) (λj ha hb=>⟨ha,by rw[IT]at hb;omega⟩)
  refine ho.ok _ _ a2 _ (qW fx ver ty old r hl) (IP.trans (IR.mono (ae _) KM)) (K8.keep (br.setRow (λk=>k=B) _ _ _ rfl) (λh=>IQ.BS h.symm) (λh=>IQ.BR h.symm))
   ((gh.of_keeps Jd (λ_ _ h=>h) IQ.BR).trans K7) λX hX hS=>?_
  refine xM hl (λj c hj=>?_) (((Mi (λk=>X k \/ k=B) (λk hk=>by rcases hk with hk|rfl<;>first|exact hX k hk|exact LI) (λhk=>by rcases hk with hk|hk<;>first|exact hS hk|exact IQ.BS hk.symm)).keep
   (br.setRow (λk=>X k \/ k=B) _ _ _ (.inr rfl))).mono λk _ hk=>.inl hk)
  have K6:j<cs.length:=(ah.1 hj).1
  rw[cell_setRow_same _ _ _ _ _ _ _ MC,dn aa j K6]
  exact hj
theorem CM (K0:KB P g av fl)(p:eH):th P g av fl D (.prim p):=by
 intro nm cx fx ver S R B O r m k0 n T off old K E a w te Jf IQ hc _ hk Ka hn hb _ ho
 simp only[s6,ac,ar,aH,bne_iff_ne]at Jf
 obtain⟨⟨⟨h1,h2⟩,h3⟩,h4⟩:=Jf
 subst h2
 refine sH (D:=D) (x:=nm.l.drop 4) K0 rfl (by simp only[nM]) h1 (fldB_ok h3) ?_ rfl IQ hc hk Ka hn hb ho
 by_cases hp:p=.uuid
 ·subst hp
  rcases h4 with h|h
  ·exact absurd rfl h
  ·exact .inr ⟨rfl,varB_ok h⟩
 ·exact .inl (by cases p<;>first|rfl|exact absurd rfl hp)
theorem EB (K0:KB P g av fl)(nul:Option Nat):th P g av fl D (.str nul):=by
 intro nm cx fx ver S R B O r m k0 n T off old K E a w te Jf IQ hc _ hk Ka hn hb _ ho
 simp only[s6,ac,ar]at Jf
 obtain⟨⟨h1,h2⟩,h3⟩:=Jf
 subst h2
 exact sH (D:=D) (x:=nm.l.drop 4) K0 rfl (by simp only[nM,mr]) h1 (fldB_ok h3) (.inl rfl) rfl IQ hc hk Ka hn hb ho
theorem Aq (K0:KB P g av fl)(nul:Option Nat):th P g av fl D (.bytes nul):=by
 intro nm cx fx ver S R B O r m k0 n T off old K E a w te Jf IQ hc _ hk Ka hn hb _ ho
 simp only[s6,ac,ar]at Jf
 obtain⟨⟨h1,h2⟩,h3⟩:=Jf
 subst h2
 exact sH (D:=D) (x:=[]) K0 rfl (by simp only[nM,mr]) h1 (fldB_ok h3) (.inl rfl) rfl IQ hc hk Ka hn hb ho
theorem gh.inner {R B R':Nat}{Z Z':Nat->Prop}{w w1 w2:World}(h:gh R B Z w w1)(k:gh R' B Z' w1 w2)(Zj:w.heap.size<=R'):gh R B (λj=>Z j \/ Z' j) w w2:=by
 refine⟨⟨k.keeps.os.trans h.keeps.os,k.keeps.tape.trans h.keeps.tape,k.keeps.output.trans h.keeps.output,am h.keeps.size k.keeps.size,λi hi hx=>?_⟩,λcs te hc=>?_⟩
 ·rw[k.keeps.block i (az hi h.keeps.size) (λhh=>by rcases hh with rfl|rfl;omega;exact hx (.inr rfl)),h.keeps.block i hi hx]
 ·obtain⟨c1,h1,h2,h3⟩:=h.blk cs te hc
  obtain⟨c2,k1,k2,k3⟩:=k.blk c1 te h1
  exact⟨c2,k1,k2.trans h2,λj hj=>(k3 j λhh=>hj (.inr hh)).trans (h3 j λhh=>hj (.inl hh))⟩
def inner (r:RS):RS:=⟨(cd (bZ r).1 (bZ r).2).1.octets,false,(cd (bZ r).1 (bZ r).2).1.isNul⟩
def qt (r:RS):RS:=(cd (bZ r).1 (bZ r).2).2
end
section
variable (P:Program) (g:G) (av:PF->Bool) (fl:Bool) (D:Nat->Option (List (Nat × Value)))
def mF (fs:Fds):Prop:=
 ∀ (ms:List Nm) (cx:Cx) (ver:Int) (S R B O:Nat) (r:RS) (m k0 n T mm key kk:Nat) (dflt:Code) (vs:List V) (A:Nat->Prop) (K E:Act->World->Prop) (a:Act) (w:World) (te:Nat),
  okTagd ⟨P,g,av,D⟩ m k0 T fs ms=true->nB fs=true->RC g cx true ver S R B O r a w->fX cx m k0->cx.hf=true->fl=true->k0<=n->k0<=a.tmps.size->(ib g key dflt (gTagd g cx fs ms) n).2<=a.tmps.size->qx w B (O+fs.ext mm) te ->
  a.get key=.int .u32 kk->k0<=key->key<n->A R->A B->(∀ k,A k->k<w.heap.size)->iI A S (λX=>RpF w X fs B O vs) ->
  (rdTag true ver fs kk=none->∀ a',Pv 6 m k0 n a a'->a'.get key=.int .u32 kk->cf P dflt (Rt K E) a' w) ->
  (∀ gf,rdTag true ver fs kk=some gf ->
   (∀ vs' r' a' w',gf vs (inner r)=.ok vs' r'->r'.bad=false->Pv 6 m k0 n a a'->ep w' g.tR S R (qt r)->gh R B (fs.In O) w w'->iI A S (λX=>RpF w' X fs B O vs')->K a' w') /\
   ((gf vs (inner r)=.err \/ ∃ vs' r',gf vs (inner r)=.ok vs' r'/\r'.bad=true)->∀ a' w',Pv 6 m k0 n a a'->(∃ t y,a'.get 6=.iface t y)->br (λk=>k=R \/ k=B) w w'->E a' w')/\gf vs (inner r)≠.stuck) ->
  cf P (ib g key dflt (gTagd g cx fs ms) n).1 (Rt K E) a w
end
section
variable {P:Program} {g:G} {av:PF->Bool} {fl:Bool} {D:Nat->Option (List (Nat × Value))}
theorem Ci:mF P g av fl D .nil:=by
 intro ms cx ver S R B O r m k0 n T mm key kk dflt vs A K E a w te _ _ IQ hc _ _ hk _ _ _ K2 _ _ _ _ _ _ JR _
 exact JR rfl a (Pv.refl _ _ _ _ _) K2
theorem ru {lo:Nat}{hi tag:Option Nat}{df:Int}{off:Nat}{ty:Ty}{r0:Fds}(h2:mF P g av fl D r0){ms:List Nm}{cx:Cx}{ver:Int}{S R B O:Nat}{r:RS}{m k0 n n2 T mm key kk:Nat}{dflt:Code}{v:V}{vs:List V}{A:Nat->Prop}{K E:Act->World->Prop}{a a1:Act}{w:World}{te:Nat}
  (Jf:okTagd ⟨P,g,av,D⟩ m k0 T r0 ms=true) (LL:mi r0 off (off+ty.sz)=true) (LA:nB r0=true) (IQ:RC g cx true ver S R B O r a w) (hc:fX cx m k0) (J7:cx.hf=true) (Jb:fl=true) (_hk:k0<=n) (J8:n<=n2) (Ka:k0<=a.tmps.size)
  (hn:(ib g key dflt (gTagd g cx r0 ms) n2).2<=a.tmps.size) (hb:qx w B (O+(Fds.cons lo hi tag df off ty r0).ext mm) te) (hp:Pv 6 m k0 n a a1) (K2:a1.get key=.int .u32 kk) (JM:k0<=key) (Nd:key<n) (QW:A R) (QX:A B) (hA:∀ k,A k->k<w.heap.size)
  (hv:iI A S λX=>Rp w X ty B (O+off) v) (Kg:iI A S λX=>RpF w X r0 B O vs) (KH:(tag==some kk)=false)
  (JR:rdTag true ver (.cons lo hi tag df off ty r0) kk=none->∀ a',Pv 6 m k0 n a a'->a'.get key=.int .u32 kk->cf P dflt (Rt K E) a' w)
  (KZ:∀ gf,rdTag true ver (.cons lo hi tag df off ty r0) kk=some gf ->
   (∀ vs' r' a' w',gf (v::vs) (inner r)=.ok vs' r'->r'.bad=false->Pv 6 m k0 n a a'->ep w' g.tR S R (qt r)->gh R B ((Fds.cons lo hi tag df off ty r0).In O) w w'->iI A S (λX=>RpF w' X (.cons lo hi tag df off ty r0) B O vs')->K a' w') /\
   ((gf (v::vs) (inner r)=.err \/ ∃ vs' r',gf (v::vs) (inner r)=.ok vs' r'/\r'.bad=true)->∀ a' w',Pv 6 m k0 n a a'->(∃ t y,a'.get 6=.iface t y)->br (λk=>k=R \/ k=B) w w'->E a' w')/\gf (v::vs) (inner r)≠.stuck) :
  cf P (ib g key dflt (gTagd g cx r0 ms) n2).1 (Rt K E) a1 w:=by
 have IX:=hp.size
 have KQ:∀ j,r0.In O j->¬ (O+off<=j/\j<O+off+ty.sz):=λj hj hh=>ik r0 off (off+ty.sz) O j LL hj ⟨hh.1,by omega⟩
 have Jk:RC g cx true ver S R B O r a1 w:=IQ.step hc hp IQ.rd (br.refl (λ_=>False) w) (λ_ _ h=>h.elim)
 have Ve:rdTag true ver (.cons lo hi tag df off ty r0) kk=(rdTag true ver r0 kk).map λg vs r=>(g vs.tail r).bind λvs' r'=>.ok (vs.headD .nul::vs') r':=by simp[rdTag,KH]
 rw[Ve]at JR KZ
 refine h2 ms cx ver S R B O r m k0 n2 T (Nat.max mm (off+ty.sz)) key kk dflt vs A K E a1 w te Jf LA Jk hc J7 Jb aa aa aa hb K2 JM aa QW QX hA Kg (λh a' Jx Ko=>JR (by rw[h];rfl) a' (hp.trans (Jx.mono (ae _) J8)) Ko) λgf Ov=>?_
 obtain⟨k1,k2,k3⟩:=KZ _ (by rw[Ov];rfl)
 simp only[List.tail_cons,List.headD_cons]at k1 k2 k3
 refine⟨λvs' r' a' w' he Ju Jx LV K7 OI=>?_,λhe a' w' Jx hif hkp=>?_,λhe=>?_⟩
 ·refine k1 (v::vs') r' a' w' (by rw[he];rfl) Ju (hp.trans (Jx.mono (ae _) J8)) LV (K7.mono λj hj=>.inr hj) λX hX hS=>⟨v,vs',rfl,?_,OI X hX hS⟩
  exact Rp.evoA K7 QW QX IQ.SR.symm IQ.BS hb hv (λj ha hb hj=>KQ j hj ⟨ha,hb⟩) X hX hS
 ·refine k2 ?_ a' w' (hp.trans (Jx.mono (ae _) J8)) hif hkp
  rcases he with he|⟨vs',r',he,Ju⟩
  ·exact .inl (by rw[he];rfl)
  ·exact .inr ⟨_,r',by rw[he];rfl,Ju⟩
 ·exact k3 (by rw[he];rfl)
theorem zp (K0:KB P g av fl){lo:Nat}{hi tag:Option Nat}{df:Int}{off:Nat}{ty:Ty}{r0:Fds}(h1:th P g av fl D ty)(h2:mF P g av fl D r0):mF P g av fl D (.cons lo hi tag df off ty r0):=by
 intro ms cx ver S R B O r m k0 n T mm key kk dflt vs A K E a w te Jf LA IQ hc J7 Jb hk Ka hn hb K2 JM Nd QW QX hA Kg JR KZ
 simp only[okTagd,ac]at Jf
 simp only[nB,ac]at LA
 obtain⟨v,vs',Mw,hv,OI⟩:∃ v vs',vs=v::vs'/\iI A S (λX=>Rp w X ty B (O+off) v)/\iI A S (λX=>RpF w X r0 B O vs'):=by
  obtain⟨v,vs',he,_,_⟩:=Kg (λ_=>False) (λ_ h=>h.elim) id
  refine⟨v,vs',he,λX hX hS=>?_,λX hX hS=>?_⟩
  ·obtain⟨v2,vs2,L0,h,_⟩:=Kg X hX hS
   rw[he]at L0
   cases L0
   exact h
  ·obtain⟨v2,vs2,L0,_,h⟩:=Kg X hX hS
   rw[he]at L0
   cases L0
   exact h
 subst Mw
 cases tag with
 | none=>
  simp only[gTagd]at hn ⊢
  exact ru (tag:=none) (lo:=lo) (hi:=hi) (df:=df) (off:=off) (ty:=ty) h2 Jf.2 LA.1 LA.2 IQ hc J7 Jb hk (ae _) Ka hn hb (Pv.refl _ _ _ _ _) K2 JM Nd QW QX hA hv OI rfl JR KZ
 | some t=>
  simp only[ac,ai]at Jf
  obtain⟨⟨⟨⟨ht,Jo⟩,WW⟩,R3⟩,Nr⟩:=Jf
  generalize hm:ms.headD (.mk [] [])=mh at *
  have Jj:=hc.le
  have Q1:=hc.six
  have Qu:=hc.b
  have VK:=mV (g:=g) (key:=key) (dflt:=dflt) (l:=gTagd g cx r0 ms.tail) (up_gTagd g r0 ms.tail cx)
  have Mg:=py g ty (mh.sub 0) { cx with b:=mh.n 0 }
  have LR:R<w.heap.size:=IQ.rd.lt
  have LI:B<w.heap.size:=hb.lt
  simp only[gTagd,hm]at hn ⊢
  generalize Kq:(gS ([qj g cx.b (mh.n 0)]++nM g { cx with b:=mh.n 0 } ty (mh.sub 0)++[oZ g (mh.n 0) (mh.n 1)]):GC)=body at hn ⊢
  have JH:(body (n+2)).2=(gL (nM g { cx with b:=mh.n 0 } ty (mh.sub 0)) (n+6)).2+4:=by
   rw[<- Kq]
   simp only[gS,cz,gL]
   rfl
  have hn':(ib g key dflt (gTagd g cx r0 ms.tail) (body (n+2)).2).2<=a.tmps.size:=hn
  have hupr':=VK (body (n+2)).2
  have hupT':=Mg (n+6)
  refine EQ (x:=6) (m:=m) (k0:=k0) K2 Nd Jj hk aa (λMj a0 QD=>?_) (λMj a0 QD hkey0=>?_)
  ·subst Mj
   have LU:=QD.size
   have Wl:RC g cx true ver S R B O r a0 w:=IQ.step hc QD IQ.rd (br.refl (λ_=>False) w) (λ_ _ h=>h.elim)
   obtain⟨k1,k2,k3⟩:=KZ (λvs r=>(dy true ver ty (vs.headD .nul) r).bind λv r=>.ok (v::vs.tail) r) (by simp only[rdTag,BEq.rfl,aw])
   simp only[List.headD_cons,List.tail_cons]at k1 k2 k3
   rw[<- Kq]
   refine cC ?_
   show LW P (qj g cx.b (mh.n 0)::(nM g { cx with b:=mh.n 0 } ty (mh.sub 0)++[oZ g (mh.n 0) (mh.n 1)])) (n+2) (Rt K E) a0 w
   refine bt (CZ K0 Jb Wl hc ⟨Jo.1,Jo.2.1⟩ aa aa λa1 w1 R' IP J2 Zj Wh hrdO MN=>?_)
   have IX:=IP.size
   have L7:Pv 6 m k0 n a a1:=QD.trans (IP.mono (ae _) aa)
   have Ly:gh R B (λ_=>False) w w1:=gh.of_keeps MN (λ_ _ h=>h) IQ.BR
   have herr:ErrAt g.gErr w:=IQ.err
   obtain⟨te',ye,PI⟩:=herr
   have OD:=e8 PI
   have Wj:RC g { cx with b:=mh.n 0 } true ver S R' B O (inner r) a1 w1:=
    ⟨Wh,J2,(L7.get _ hc.s.2 (.inl hc.s.1)).trans IQ.ss,(L7.get _ hc.ver.2 (.inl hc.ver.1)).trans IQ.sv,λ_=>(L7.get _ hc.fx.2 (.inl hc.fx.1)).trans (IQ.sf J7),λh=>(by rw[J7]at h;cases h),
     (L7.get 2 aa (.inl aa)).trans IQ.su,ErrAt.keep ⟨te',ye,PI⟩ MN IQ.gR,by have:=IQ.Slt;omega,by omega,IQ.BS,by omega,IQ.gB,az IQ.Slt MN.size⟩
   have hcI:fX { cx with b:=mh.n 0 } (mh.n 0+1) k0:=
    ⟨⟨by simp,by simp only;omega⟩,⟨by have:=hc.s;simp only;omega,hc.s.2⟩,⟨by have:=hc.ver;simp only;omega,hc.ver.2⟩,⟨by have:=hc.fx;simp only;omega,hc.fx.2⟩,by omega,by omega⟩
   have Kz:vg w1 B (O+off) true ty v:=by
    have hX:∀ X:Nat->Prop,X=(λ_=>False)->Rp w1 X ty B (O+off) v:=λX hX=>by
     subst hX
     exact Rp.evoA Ly QW QX IQ.SR.symm IQ.BS hb hv (λ_ _ _ h=>h) _ (λ_ h=>h.elim) id
    cases ty with
    | struct nul toff fs=>
     cases nul with
     | none=>exact .inl ⟨WW,rfl⟩
     | some q=>exact hX _ rfl
    | list nul esz e=>exact hX _ rfl
    | _=>trivial
   have NN:=kL r0 (Nat.max mm (off+ty.sz))
   have Uj:off+ty.sz<=Nat.max mm (off+ty.sz):=Nat.le_max_right _ _
   have hb1':=hb.evo Ly
   have S9:(qj g cx.b (mh.n 0) (n+2)).2=n+6:=rfl
   rw[S9]
   refine ip ?_
   rw[cn]
   refine h1 (mh.sub 0) { cx with b:=mh.n 0 } true ver S R' B O (inner r) (mh.n 0+1) k0 (n+6) T off v _ E a1 w1 te (by simp only[J7];exact R3) Wj hcI (λ_=>Jb) aa aa aa (hb1'.mono (by simp only[Fds.ext];omega)) Kz
    ⟨λu r' a2 w2 he IR Jt J1 hu=>?_,λhe a2 w2 IR hif IV=>?_,λhe=>?_⟩
   ·have Jr:=IR.size
    have RM:a2.get (mh.n 0)=pt R' 0:=by rw[IR.get _ aa (.inl aa)];exact J2
    have Lz:ErrAt g.gErr w2:=(ErrAt.keep (ErrAt.keep ⟨te',ye,PI⟩ MN IQ.gR) J1.keeps (λh=>by rcases h with h|h;omega;exact IQ.gB h))
    have J6:Pv 6 m k0 n a a2:=L7.trans (IR.mono aa aa)
    have QL:=Ly.inner J1 Zj
    refine bt ?_
    rw[cn]
    refine A7 (m:=m) (k0:=k0) K0 Jb RM Jt Lz Q1 ⟨Jo.2.2.1,Jo.2.2.2⟩ Jj aa aa (λJu a3 w3 IW hif IZ=>?_) (λJu a3 w3 IW IZ=>cD ?_)
    ·exact k2 (.inr ⟨u::vs',r',by rw[he];rfl,Ju⟩) a3 w3 (J6.trans (IW.mono (ae _) aa)) hif (QL.keeps.trans (IZ.mono λ_ _ h=>h.elim))
    ·have NO:gh R B (λ_=>False) w2 w3:=gh.of_keeps IZ (λ_ _ h=>h.elim) IQ.BR
     have QK:gh R B (λj=>O+off<=j/\j<O+off+ty.sz) w w3:=(QL.trans (NO.mono λ_ h=>h.elim)).mono λj hj=>by rcases hj with h|h;exact h.elim;exact h
     refine k1 (u::vs') r' a3 w3 (by rw[he];rfl) Ju (J6.trans (IW.mono (ae _) aa)) ?_ (QK.mono λj hj=>.inl hj) λX hX hS=>⟨u,vs',rfl,?_,?_⟩
     ·exact(hrdO.keep J1.keeps (λh=>by rcases h with h|h;(have:=IQ.Slt;omega);exact IQ.BS h.symm) (λh=>by rcases h with h|h;omega;exact IQ.BR h.symm)).keep IZ id id
     ·have Oh:iI A S λX=>Rp w2 X ty B (O+off) u:=λX hX hS=>hu X (λk hk=>az (hA k (hX k hk)) MN.size) hS
      exact Rp.evoA NO QW QX IQ.SR.symm IQ.BS (hb1'.evo J1) Oh (λ_ _ _ h=>h) X hX hS
     ·exact RpF.evoA QK QW QX IQ.SR.symm IQ.BS hb OI (λj hj hh=>ik r0 off (off+ty.sz) O j LA.1 hj ⟨hh.1,by omega⟩) X hX hS
   ·refine k2 (.inl (by rw[he];rfl)) a2 w2 (L7.trans (IR.mono aa aa)) hif ?_
    exact⟨IV.os.trans MN.os,IV.tape.trans MN.tape,IV.output.trans MN.output,am MN.size IV.size,λi hi hx=>by
     rw[IV.block i (az hi MN.size) (λhh=>by rcases hh with rfl|rfl;omega;exact hx (.inr rfl)),MN.block i hi (λhh=>hx (.inl hh))]⟩
   ·exact k3 (by rw[he];rfl)
  ·have KM:n<=(body (n+2)).2:=by omega
   exact ru (tag:=some t) (lo:=lo) (hi:=hi) (df:=df) (off:=off) (ty:=ty) h2 Nr LA.1 LA.2 IQ hc J7 Jb hk KM Ka hn' hb QD hkey0 JM Nd QW QX hA hv OI (by simp;omega) JR KZ
end
def Fds.Zn (fs:Fds)(toff:Option Nat)(O j:Nat):Prop:=fs.In O j \/ ∃ o,toff=some o/\j=O+o
theorem zB {fs:Fds}{toff:Option Nat}{O j:Nat}(h:fs.Zn toff O j):O<=j/\j<O+fs.ext (ft toff):=by
 rcases h with h|⟨o,rfl,rfl⟩
 ·exact BU fs _ O j h
 ·have:o+1<=fs.ext (o+1):=kL fs (o+1)
  have e:fs.ext (ft (some o))=fs.ext (o+1):=rfl
  omega
def mo (w:World)(B O:Nat)(toff:Option Nat):Prop:=match toff with|some k=>w.cell? ⟨B,O+k,none⟩=some (.map none)|none=>True
theorem mo.at {w:World}{B O:Nat}{toff:Option Nat}(h:mo w B O toff)(X:Nat->Prop):gM w X B O toff []:=by
 cases toff with
 | none=>rfl
 | some k=>exact⟨_,h,.inl ⟨rfl,rfl⟩⟩
section
variable (P:Program) (g:G) (av:PF->Bool) (fl:Bool) (D:Nat->Option (List (Nat × Value)))
def Cw (fs:Fds):Prop:=
 ∀ (nm:Nm) (cx:Cx) (fx:Bool) (ver:Int) (S R B O:Nat) (r:RS) (m k0 n T kt:Nat) (toff:Option Nat) (K E:Act->World->Prop) (a:Act) (w:World) (te:Nat),
  yW ⟨P,g,av,D⟩ cx.hf m k0 T kt toff fs nm (okFds ⟨P,g,av,D⟩ cx.hf m k0 T fs nm.s) (okTagd ⟨P,g,av,D⟩ (nm.n 1+1) k0 T fs nm.s)=true->RC g cx fx ver S R B O r a w->fX cx m k0->(cx.hf=true->fl=true)->k0<=n->k0<=a.tmps.size ->
  (gL (iC g cx fs.tagged T kt nm (gFds g cx fs nm.s) (gTagd g cx fs nm.s)) n).2<=a.tmps.size->qx w B (O+fs.ext (ft toff)) te ->
  ((fs.plain=true/\fx=true) \/ ((∀ X,RpF w X fs B O (dfFds fs))/\mo w B O toff)) ->
  z1 g S R B (fs.Zn toff O) m k0 n a w (dS fx fs.tagged (rdFds fx ver fs) (rdTag fx ver fs) r)
   (λv w'=>∃ vs t,v=.st vs t/\vi w S (λX=>RpF w' X fs B O vs)/\vi w S (λX=>gM w' X B O toff t)) K E ->
  LW P (iC g cx fs.tagged T kt nm (gFds g cx fs nm.s) (gTagd g cx fs nm.s)) n (Rt K E) a w
end
section
variable {P:Program} {g:G} {av:PF->Bool} {fl:Bool} {D:Nat->Option (List (Nat × Value))}
theorem lB:∀ (fs:Fds),fs.plain=true->fs.tagged=false
 | .nil,_=>rfl
 | .cons lo hi tag df off ty r,h=>by
  simp only[Fds.plain,ac]at h
  have ht:tag=none:=by cases tag<;>first|rfl|simp at h
  simp[Fds.tagged,ht,lB r h.2]
def D9 (g:G)(S R B O o:Nat)(fs:Fds)(ver:Int)(w0:World)(out:dV V)(c:Nat)(w:World):Prop:=
 ∃ (vs:List V) (t:List (Nat × Bs)) (r:RS) (mm:Value),out=ck (rdTag true ver fs) c vs t r/\ep w g.tR S R r/\gh R B (λj=>fs.In O j \/ j=O+o) w0 w/\w.cell? ⟨B,O+o,none⟩=some mm /\
  ((mm=.map none/\t=[]) \/ ∃ q,mm=.map (some q)/\w0.heap.size<=q/\q<w.heap.size) /\
  iI (λk=>k<w0.heap.size \/ mm=.map (some k)) S (λX=>RpF w X fs B O vs)/\iI (·<w0.heap.size) S (λX=>gM w X B O (some o) t)
theorem rO {S R B O o:Nat}{fs:Fds}{w0 w w':World}{vs:List V}{t t':List (Nat × Bs)}{mm:Value}{q te:Nat}{cur:Array Value}(LR:R<w0.heap.size)(LI:B<w0.heap.size)(hSw:S<w0.heap.size)(hRS:R≠S)(MB:B≠S)(PM:B≠R)
  (K7:gh R B (λj=>fs.In O j \/ j=O+o) w0 w) (hB:w.heap[B]?=some (.cells cur te (0,0))) (LL:mi fs o (o+1)=true) (hO:O+o<cur.size)
  (LF:(mm=.map none/\t=[]) \/ ∃ p,mm=.map (some p)/\w0.heap.size<=p/\p<w.heap.size)
  (hF:iI (λk=>k<w0.heap.size \/ mm=.map (some k)) S (λX=>RpF w X fs B O vs)) (hT:iI (·<w0.heap.size) S (λX=>eA w X mm t))
  (P4:mm=.map none->w.heap.size<=q) (La:∀ p,mm=.map (some p)->q=p) (hk:br (λb=>b=R \/ b=B \/ b=q) w w') (Q0:w'.heap[B]?=some (.cells (cur.setIfInBounds (O+o) (.map (some q))) te (0,0)))
  (Ks:∀ X:Nat->Prop,¬ X q->(∀ k,X k->k<w.heap.size)->¬ X S->eA w (λk=>X k \/ k=R) mm t->eA w' X (.map (some q)) t') :
  gh R B (λj=>fs.In O j \/ j=O+o) w0 w'/\w'.cell? ⟨B,O+o,none⟩=some (.map (some q))/\w0.heap.size<=q/\q<w'.heap.size /\
  iI (λk=>k<w0.heap.size \/ Value.map (some q)=.map (some k)) S (λX=>RpF w' X fs B O vs)/\iI (·<w0.heap.size) S (λX=>gM w' X B O (some o) t'):=by
 have Jc:=K7.keeps.size
 have hqw:w0.heap.size<=q:=by
  rcases LF with⟨h,_⟩|⟨p,h,hp,_⟩
  ·exact am Jc (P4 h)
  ·rw[La p h];exact hp
 have IS:w'.cell? ⟨B,O+o,none⟩=some (.map (some q)):=by
  simp[World.cell?,Q0,hO]
 have UD:iI (·<w0.heap.size) S (λX=>eA w' X (.map (some q)) t'):=λX hX hS=>by
  refine Ks X (λSo=>?_) (λk hk=>az (hX k hk) Jc) hS (hT _ (λk hk=>by rcases hk with hk|rfl;exact hX k hk;exact LR) (λhk=>by rcases hk with hk|hk;exact hS hk;exact hRS hk.symm))
  have:=hX q So
  simp only at this
  omega
 have R0:q<w'.heap.size:=by
  rcases UD (λ_=>False) (λ_ h=>h.elim) id with⟨h,_⟩|⟨r,h,_,hr,_⟩
  ·cases h
  ·cases h;exact hr
 have MU:∀ j,fs.In O j->w'.cell? ⟨B,j,none⟩=w.cell? ⟨B,j,none⟩:=λj hj=>by
  have KH:O+o≠j:=λh=>ik fs o (o+1) O j LL hj ⟨by omega,by omega⟩
  simp[World.cell?,hB,Q0,KH]
 refine⟨⟨⟨hk.os.trans K7.keeps.os,hk.tape.trans K7.keeps.tape,hk.output.trans K7.keeps.output,am Jc hk.size,λi hi hx=>?_⟩,λcs te' hc=>?_⟩,IS,hqw,R0,λX hX hS=>?_,λX hX hS=>⟨_,IS,UD X hX hS⟩⟩
 ·rw[hk.block i (az hi Jc) (λh=>by rcases h with h|h|h;exact hx (.inl h);exact hx (.inr h);omega),K7.keeps.block i hi hx]
 ·obtain⟨c1,h1,h2,h3⟩:=K7.blk cs te' hc
  rw[hB]at h1
  obtain⟨rfl,rfl,_⟩:=Obj.cells.inj (au h1)
  refine⟨_,Q0,by simpa using h2,λj hj=>?_⟩
  rw[ay,al (λh=>hj (.inr h.symm))]
  exact h3 j hj
 ·have h1:=hF (λk=>(X k/\(k<w0.heap.size \/ mm=.map (some k))) \/ k=R \/ k=B \/ (mm=.map (some q)/\k=q)) (λk hk=>by
   rcases hk with hk|rfl|rfl|⟨hm,rfl⟩
   ·exact hk.2
   ·exact .inl LR
   ·exact .inl LI
   ·exact .inr hm) (λhk=>by
   rcases hk with hk|hk|hk|⟨_,hk⟩
   ·exact hS hk.1
   ·exact hRS hk.symm
   ·exact MB hk.symm
   ·omega)
  have h2:RpF w (λk=>X k \/ k=R \/ k=B \/ k=q) fs B O vs:=RpF.mono (λk PA hk=>by
   have YB:k=q->mm=.map (some q):=λhe=>by
    rcases LF with⟨h,_⟩|⟨p,h,_,_⟩
    ·have:=P4 h;omega
    ·rw[h,La p h]
   rcases hk with hk|hk|hk|hk
   ·refine .inl ⟨hk,?_⟩
    rcases hX k hk with h|h
    ·exact .inl h
    ·simp only[Value.map.injEq,aM]at h
     subst h
     exact .inr (YB rfl)
   ·exact .inr (.inl hk)
   ·exact .inr (.inr (.inl hk))
   ·exact .inr (.inr (.inr ⟨YB hk,hk⟩))) fs B O vs h1
  have h3:=RpF.frameIn (hk.mono λk _ hk=>.inr hk) fs B O vs h2 MU
  exact RpF.mono (λk _ hk=>.inl hk) fs B O vs h3
theorem nC {cx:Cx}{m m' k0:Nat}(h:fX cx m k0)(hm:m<=m')(hk:m'<=k0):fX cx m' k0:=
 ⟨⟨by have:=h.b;omega,h.b.2⟩,⟨by have:=h.s;omega,h.s.2⟩,⟨by have:=h.ver;omega,h.ver.2⟩,⟨by have:=h.fx;omega,h.fx.2⟩,by have:=h.six;omega,hk⟩
theorem Au (K0:KB P g av fl){fs:Fds}(h2:mF P g av fl D fs){nm:Nm}{cx:Cx}{ver:Int}{S R B O o:Nat}{r0:RS}{m k0 n T kt _mm:Nat}{E:Act->World->Prop}{a a1:Act}{w0 w1:World}{te:Nat}{out:dV V}{c:Nat}{i:Nat}
  (Jf:okTagd ⟨P,g,av,D⟩ (nm.n 1+1) k0 T fs nm.s=true) (LA:nB fs=true) (hF:cO P T kt g.tTags o true 1) (LL:mi fs o (o+1)=true) (Jo:m<=i/\i<nm.n 1/\nm.n 1<k0) (IQ:RC g cx true ver S R B O r0 a w0) (hc:fX cx m k0) (J7:cx.hf=true) (Jb:fl=true) (hk:k0<=n) (Ka:k0<=a.tmps.size)
  (hn:((gS [bQ g.uv cx.b (nm.n 1),lY g cx (nm.n 1) (nm.n 4) T kt (gTagd g cx fs nm.s)]:GC) (n+5)).2<=a.tmps.size) (hb:qx w0 B (O+fs.ext (o+1)) te) (IP:Pv 6 i k0 n a a1) (hI:D9 g S R B O o fs ver w0 out (c+1) w1) (MP:out≠.stuck)
  (hE:out=.err->∀ a' w',Pv 6 m k0 n a a'->(∃ t y,a'.get 6=.iface t y)->br (λk=>k=R \/ k=B) w0 w'->E a' w') :
  cf P ((gS [bQ g.uv cx.b (nm.n 1),lY g cx (nm.n 1) (nm.n 4) T kt (gTagd g cx fs nm.s)]:GC) (n+5)).1 (Rt (λa2 w2=>Pv 6 (i+1) k0 (n+5) a1 a2/\D9 g S R B O o fs ver w0 out c w2) E) a1 w1:=by
 obtain⟨vs,t,r,cell,KQ,LV,K7,IS,LF,XV,XR⟩:=hI
 have LR:R<w0.heap.size:=IQ.rd.lt
 have LI:B<w0.heap.size:=hb.lt
 have IX:=IP.size
 have Q1:=hc.six
 have Jk:RC g cx true ver S R B O r a1 w1:=IQ.step hc (IP.mono Jo.1 (ae _)) LV K7.keeps (λ_ _ h=>h)
 have PH:fX cx (i+1) k0:=nC hc aa aa
 have X3:fX cx (nm.n 1+1) k0:=nC hc aa aa
 have hn':(ib g (n+6) (jc g cx (nm.n 1) T kt (n+6+1)) (gTagd g cx fs nm.s) (n+6+9)).2<=a.tmps.size:=hn
 have hupc:=mV (g:=g) (key:=n+6) (dflt:=jc g cx (nm.n 1) T kt (n+6+1)) (l:=gTagd g cx fs nm.s) (up_gTagd g fs nm.s cx) (n+6+9)
 refine cC (bt (mz (x:=6) (m:=i+1) (k0:=k0) (K0.uvE Jb) Jk.sb (K0.uvC Jb w1 S R r Jk.rd Jk.SR) (.inr ⟨by omega,Jo.2.2⟩) aa aa aa aa λe w2 hR=>?_))
 obtain⟨he,Jt,IV⟩:=hR
 refine⟨_,he,λa2 IR Ja=>?_⟩
 have Jr:=IR.size
 have JJ:RC g cx true ver S R B O (bZ r).2 a2 w2:=Jk.step PH IR Jt IV (λ_ _ h=>.inl h)
 have J6:Pv 6 i k0 n a a2:=IP.trans (IR.mono aa aa)
 have J1:gh R B (λj=>fs.In O j \/ j=O+o) w0 w2:=K7.trans (gh.of_keeps IV (λ_ _ h=>h) IQ.BR)
 have Pp:gh R B (λ_=>False) w1 w2:=gh.of_keeps IV (λ_ _ h=>h) IQ.BR
 have J2:=hb.evo K7
 have JH:=hb.evo J1
 have K5:=l9 r
 have NY:=K7.keeps.size
 have Y7:=IV.size
 have Mo:w2.cell? ⟨B,O+o,none⟩=some cell:=by
  obtain⟨cur,Lk,_⟩:=J2
  rw[Pp.cell Lk id];exact IS
 have hAw:∀ k,(k<w0.heap.size \/ cell=.map (some k))->k<w2.heap.size:=λk hk=>by
  rcases hk with hk|hk
  ·omega
  ·rcases LF with⟨h,_⟩|⟨q,h,_,hq⟩
   ·rw[h]at hk;cases hk
   ·rw[h]at hk;cases hk;omega
 have UJ:iI (λk=>k<w0.heap.size \/ cell=.map (some k)) S (λX=>RpF w2 X fs B O vs):=RpF.evoA Pp (.inl LR) (.inl LI) IQ.SR.symm IQ.BS J2 XV (λ_ _ h=>h)
 have UE:iI (·<w0.heap.size) S (λX=>gM w2 X B O (some o) t):=gM.evoA Pp LR LI IQ.SR.symm IQ.BS J2 XR (λ_ _ h=>h)
 refine bt ?_
 rw[cn,show(bQ g.uv cx.b (nm.n 1) (n+5)).2=n+6 from rfl]
 refine .seq (R:=Rt (λa3 w3=>Pv 6 k0 k0 (n+6) a2 a3/\a3.get (n+6)=.int .u32 ((bZ r).1:Nat)/\w3=w2) E) (.reg (bv (wpList_nil ?_))) (λa3 w3 hh=>?_) (λe a w he hq=>by cases e<;>first|exact absurd rfl he|exact hq)
 ·rw[bp,Ja]
  exact⟨(Pv.refl _ _ _ _ _).put _ aa,bA aa,rfl⟩
 obtain⟨Qd,Jw,rfl⟩:=hh
 have IW:Pv 6 (i+1) k0 (n+6) a2 a3:=Qd.low aa
 have TD:a3.get (nm.n 1)=.int .u32 ((bZ r).1:Nat):=(Qd.get _ aa (.inl Jo.2.2)).trans Ja
 have JI:=IW.size
 have Kc:Pv 6 i k0 n a a3:=J6.trans (IW.mono aa aa)
 have Qe:Pv 6 (i+1) k0 (n+5) a1 a3:=IR.trans (IW.mono (ae _) aa)
 have MH:RC g cx true ver S R B O (bZ r).2 a3 w3:=JJ.step PH IW JJ.rd (br.refl (λ_=>False) w3) (λ_ _ h=>h.elim)
 have Kv:(bQ g.uv cx.b (nm.n 1) (n+5)).2=n+6:=rfl
 refine .block (.mono (Q:=Exit.inBlock (nm.n 4) (Rt (LW P [] _ (Rt _ E)) E)) (R:=Rt (λa4 w4=>Pv 6 (i+1) k0 (n+5) a1 a4/\D9 g S R B O o fs ver w0 out c w4) E) ?_ λe a w hq=>by cases e<;>first|exact cD hq|exact hq|exact hq.elim)
 show cf P (ib g (n+6) (jc g cx (nm.n 1) T kt (n+6+1)) (gTagd g cx fs nm.s) (n+6+9)).1 _ a3 w3
 refine h2 nm.s cx ver S R B O (bZ r).2 (nm.n 1+1) k0 (n+6+9) T (o+1) (n+6) (bZ r).1 _ vs (λk=>k<w0.heap.size \/ cell=.map (some k)) _ E a3 w3 te Jf LA MH X3 J7 Jb aa aa aa JH Jw aa aa (.inl LR) (.inl LI) hAw UJ
  (λJR a4 Jp JS=>?_) (λgf Ov=>⟨λvs' r' a4 w4 he Ju Jp JP hev4 XU=>?_,λhe a4 w4 Jp hif Jm=>?_,λhe=>?_⟩)
 ·-- an unknown tag
  have L3:=Jp.size
  have Ry:RC g cx true ver S R B O (bZ r).2 a4 w3:=MH.step X3 Jp MH.rd (br.refl (λ_=>False) w3) (λ_ _ h=>h.elim)
  obtain⟨cur,Lk,KS⟩:=JH
  have NN:=kL fs (o+1)
  have hcO:cur[O+o]?=some cell:=by
   have:=Mo
   simpa[World.cell?,Lk]using this
  have UD:iI (·<w0.heap.size) S (λX=>eA w3 X cell t):=λX hX hS=>by
   obtain⟨m',S5,UG⟩:=UE X hX hS
   rw[Mo]at S5
   cases S5
   exact UG
  have hRt:∀ {K':Act->World->Prop},cf P (jc g cx (nm.n 1) T kt (n+6+1)) (Exit.then K' (Rt K' E)) a4 w3->cf P (jc g cx (nm.n 1) T kt (n+6+1)) (Rt K' E) a4 w3:=λh=>by rwa [cn]at h
  refine hRt (yD (m:=i+1) (k0:=k0) (cur:=cur) (te:=te) (mm:=cell) (t:=t) K0 Jb Ry PH hF ((Jp.get _ aa (.inl aa)).trans TD) K5 Lk hcO (UD _ (λk hk=>by rcases hk with rfl|rfl;exact LI;exact LR) (λhk=>by rcases hk with hk|hk;exact IQ.BS hk.symm;exact IQ.SR hk)) (λp hp=>?_) aa aa aa
   λa5 w5 q Kt OX P4 La JZ Yc Ks=>?_)
  ·rcases LF with⟨h,_⟩|⟨q,h,hq,_⟩
   ·rw[h]at hp;cases hp
   ·rw[h]at hp;cases hp
    have:=IQ.Slt
    omega
  ·have NE:(cell=.map none/\t=[]) \/ ∃ p,cell=.map (some p)/\w0.heap.size<=p/\p<w3.heap.size:=by
    rcases LF with h|⟨q,h,hq,MI⟩
    ·exact .inl h
    ·exact .inr ⟨q,h,hq,by omega⟩
   obtain⟨e1,e2,e3,e4,e5,e6⟩:=rO LR LI IQ.Slt IQ.SR.symm IQ.BS IQ.BR J1 Lk LL aa NE UJ UD P4 La JZ Yc Ks
   refine⟨Qe.trans ((Jp.mono aa aa).trans (Kt.mono (ae _) aa)),vs,_,_,.map (some q),?_,OX,e1,e2,.inr ⟨q,rfl,e3,e4⟩,e5,e6⟩
   rw[KQ]
   simp only[ck,JR]
 ·-- a known tag
  have Tn:out=ck (rdTag true ver fs) c vs' t (qt (bZ r).2):=by
   rw[KQ]
   have KU:=he
   simp only[inner]at KU
   simp only[ck,Ov,KU,Ju,qt]
   simp
  have Sf:w4.cell? ⟨B,O+o,none⟩=some cell:=by
   obtain⟨cur,Lk,_⟩:=JH
   rw[hev4.cell Lk (λh=>ik fs o (o+1) O (O+o) LL h ⟨by omega,by omega⟩)];exact Mo
  refine⟨Qe.trans (Jp.mono aa aa),vs',t,qt (bZ r).2,cell,Tn,JP,J1.trans (hev4.mono λj hj=>.inl hj),Sf,?_,XU,?_⟩
  ·rcases LF with h|⟨q,h,hq,MI⟩
   ·exact .inl h
   ·exact .inr ⟨q,h,hq,by have:=hev4.keeps.size;omega⟩
  ·exact gM.evoA hev4 LR LI IQ.SR.symm IQ.BS JH UE (λk hk h=>by cases hk;exact ik fs o (o+1) O (O+o) LL h ⟨by omega,by omega⟩)
 ·-- it fails
  refine hE ?_ a4 w4 (Kc.mono Jo.1 (ae _) |>.trans (Jp.mono aa aa)) hif (J1.keeps.trans Jm)
  rw[KQ]
  rcases he with he|⟨vs',r',he,Ju⟩
  ·simp only[inner]at he
   simp only[ck,Ov,he]
  ·simp only[inner]at he
   simp only[ck,Ov,he,Ju,aw]
 ·refine MP ?_
  rw[KQ]
  simp only[inner]at he
  simp only[ck,Ov,he]
end
