/-
  PLAIN LAWS AND CONTRACTS of messages, part 4 of 15: how readers and writers are printed, what they do, what the reference writes, and that what is written is read as the same. Nothing of a statement stands here.
-/
import Derived.Test.YtlmanancakaapaaGreatDoorK1
import Derived.Test.YtlmanancakaapaaGreatDoorK3

namespace Go.Proofs.YtlmanancakaapaaGreatDoor.Kx
open Go
theorem jz_.sl {w:World} {S:Nat} {X:Nat->Prop} {v:Value} {r:RS} (h:jz_ w S v r) (hS:¬ X S):SlRp w X v r.src:=by
 rcases h with ⟨h1,h2,_⟩ | ⟨o,c,h1,_,h3,h4,h5,h6⟩
 ·exact .inl ⟨h1,h2⟩
 ·exact .inr ⟨S,o,c,h1,hS,h5,h3,h4,h6⟩
section
variable {P:Program} {g:G} {av:PF->Bool} {fl:Bool} {cx:Cx} {fx:Bool} {ver:Int} {S R B O:Nat} {r:RS} {x m k0 n:Nat} {K N E:Act->World->Prop} {Q:Exit->Act->World->Prop} {a:Act} {w:World}
theorem wg_call {ops:Array Oper} {l:List Oper} {d j f:Nat} {b:Bool} {args:List Operand} {vs:Array Value} {R:Ending->World->Prop} (hy:yielded ops a.tmps j=some b) (hf:Ent P f) (hargs:(args.map a.eval).toArray=vs)
  (hc:Calls P f vs w R) (h:∀ e w',R e w'->∃ v,e=.returned v/\wpList P ops Q l (a.put (some d) v) w') :
  wpList P ops Q (⟨some d, .call ⟨.value (.func f), args.toArray, #[]⟩, 0, "", #[], some (j, b)⟩ :: l) a w := by
 refine wg_run (op:=.call ⟨.value (.func f),args.toArray,#[]⟩) hy ?_
 unfold Oper.wp
 have : (execOp a.eval (⟨some d, .call ⟨.value (.func f), args.toArray, #[]⟩, 0, "", #[], some (j, b)⟩ : Oper)).run P w = .ok (.enter f vs) w := by
  have he:a.eval (.func f)=.func (.func f) #[] #[]:=rfl
  simp only [execOp,resolve,he,Deferred.ofValue,invoke,Sem.run_bind,Sem.run_pure,Result.andThen_ok,Array.empty_append,Array.append_empty,List.map_toArray,hargs]
  exact hf _ _
 rw [this]
 exact hc.mono fun e w' hR=>by
  obtain ⟨v,rfl,hh⟩:=h e w' hR
  exact hh
theorem s_present (K0:KB P g av fl) (hav:av .i8=true) (hho:za_ g.ok=true) (hrc:RC g cx fx ver S R B O r a w) (hc:CxOk cx m k0) {p:Nat} {body:GC} (hp:m<=p/\p < k0) (hk:k0<=n) (hn:n + 6<=a.tmps.size)
  (hyes:(rI 1 r).1 ≠ -1->(rI 1 r).2.bad=false->∀ a' w',Pv 6 m k0 n a a'->RdS w' g.tR S R (rI 1 r).2->Keeps (·=R) w w'->NWP P (body (n + 6)).1 (Rt K E) a' w')
  (hno:((rI 1 r).1=-1 \/ (rI 1 r).2.bad=true)->∀ a' w',Pv 6 m k0 n a a'->RdS w' g.tR S R (rI 1 r).2->Keeps (·=R) w w'->K a' w'):NWP P (gPresent g cx p body n).1 (Rt K E) a w:=by
 have hbm:=hc.b
 have hle:=hc.le
 have h66:=hc.six
 refine q2_ (qc_ (s_call (x:=6) (m:=m) (k0:=k0) (K0.rdE _ hav) hrc.sb (K0.i8C hav w S R r hrc.rd hrc.SR) (.inr hp) hc.le hk (by omega) (by omega) fun e w1 hR=>?_))
 obtain ⟨he,h1,h2⟩:=hR
 refine ⟨_,he,fun a1 hp1 hg1=>?_⟩
 have hs1:=hp1.size
 have hrc1:RC g cx fx ver S R B O (rI 1 r).2 a1 w1:=hrc.step hc hp1 h1 h2 (fun _ _ h=>.inl h)
 generalize hx:(rI 1 r).1=y at *
 generalize hr':(rI 1 r).2=r' at *
 have htest:∀ (b:Bool) (K':Act->World->Prop),b=(decide (y ≠ -1) && !r'.bad)->(∀ a' w',a'.eval (tm (n + 1 + 4))=.bool b->Pv 6 m k0 (n + 1) a1 a'->Keeps (fun _=>False) w1 w'->K' a' w') ->
   wpList P [mk (some (n + 1)) (.move (tm p)), mk (some (n + 1 + 1)) (.binOp .neq g.tI8 (tm (n + 1)) (ki .i8 (-1)) 0), mk (some (n + 1 + 2)) (.move (tm (n + 1 + 1))), ⟨some (n + 1 + 3), .call ⟨.value (.func g.ok), #[tm cx.b], #[]⟩, 0, "", #[], some (2, true)⟩,
    mk (some (n + 1 + 4)) (.pick (tm (n + 1 + 2)) (tm (n + 1 + 3)) (.const (.bool false)))].toArray (Exit.then K' (Exit.then (LW P [] (gIf 4 5 (fun n => [mk (some n) (.move (tm p)), mk (some (n + 1)) (.binOp .neq g.tI8 (tm n) (ki .i8 (-1)) 0), mk (some (n + 2)) (.move (tm (n + 1))), ⟨some (n + 3), .call ⟨.value (.func g.ok), #[tm cx.b], #[]⟩, 0, "", #[], some (2, true)⟩,
  mk (some (n + 4)) (.pick (tm (n + 2)) (tm (n + 3)) (.const (.bool false)))]) body jk_ (n + 1)).2 (Rt K E)) (Rt K E)))
   [mk (some (n + 1)) (.move (tm p)), mk (some (n + 1 + 1)) (.binOp .neq g.tI8 (tm (n + 1)) (ki .i8 (-1)) 0), mk (some (n + 1 + 2)) (.move (tm (n + 1 + 1))), ⟨some (n + 1 + 3), .call ⟨.value (.func g.ok), #[tm cx.b], #[]⟩, 0, "", #[], some (2, true)⟩,
    mk (some (n + 1 + 4)) (.pick (tm (n + 1 + 2)) (tm (n + 1 + 3)) (.const (.bool false)))] a1 w1:=by
  intro b K' hb hK'
  refine qd_ ?_
  rw [qb_,hg1]
  refine q9_ (b:=decide (y ≠ -1)) (p:=y) (q:=-1) (k:=.i8) (by rw [qb_,gpe (by omega)]) rfl (.inr (.inr (.inr (.inr (.inr ⟨rfl,rfl⟩))))) ?_
  refine qd_ ?_
  rw [qb_,gpe (by simp only [qa_];omega)]
  have hp3:Pv 6 m k0 (n + 1) a1 (((a1.put (some (n + 1)) (.int .i8 y)).put (some (n + 1 + 1)) (.bool (decide (y ≠ -1)))).put (some (n + 1 + 2)) (.bool (decide (y ≠ -1)))):=
   (((Pv.refl _ _ _ _ _).put _ (by omega)).put _ (by omega)).put _ (by omega)
  generalize hA:((a1.put (some (n + 1)) (.int .i8 y)).put (some (n + 1 + 1)) (.bool (decide (y ≠ -1)))).put (some (n + 1 + 2)) (.bool (decide (y ≠ -1)))=A at hp3 ⊢
  have hsz:A.tmps.size=a1.tmps.size:=hp3.size
  have hg2:A.get (n + 1 + 2)=.bool (decide (y ≠ -1)):=by rw [<- hA];exact gpe (by simp only [qa_];omega)
  have hyield:∀ (ops:Array Oper),ops[2]?=some (mk (some (n + 1 + 2)) (.move (tm (n + 1 + 1))))->yielded ops A.tmps 2=some (decide (y ≠ -1)):=fun ops ho=>zb_ (d:=n + 1 + 2) ho rfl (by rw [hsz];omega) hg2
  have hAb:A.get cx.b=pt R 0:=by rw [hp3.get _ hbm.2 (.inl hbm.1)];exact hrc1.sb
  by_cases hy:y=-1
  ·subst hy
   refine z1_ (c:=false) (hyield _ rfl) (by simp) ?_
   refine wl_pick (b:=false) (by rw [qb_,gpo (by omega),hg2];rfl) (wpList_nil ?_)
   refine hK' _ w1 ?_ ((hp3.put undef (d:=n + 1 + 3) (by omega)).put _ (by omega)) (Keeps.refl _ _)
   rw [qb_,gpe (by simp only [qa_];omega),hb]
   rfl
  ·refine wg_call (b:=true) (vs:=#[pt R 0]) (by rw [hyield _ rfl];simp [hy]) (K0.okE hho) (by simp [qb_,hAb]) (K0.okC hho w1 S R r' hrc1.rd) fun e2 w2 hR2=>⟨_,hR2.1,?_⟩
   refine wl_pick (b:=true) (by rw [qb_,gpo (by omega),hg2];simp [hy]) (wpList_nil ?_)
   refine hK' _ w2 ?_ ((hp3.put _ (d:=n + 1 + 3) (by omega)).put _ (by omega)) hR2.2
   rw [qb_,gpe (by simp only [qa_];omega),hb]
   simp only [if_true]
   rw [qb_,gpe (by omega)]
   simp [hy]
 refine qc_ ?_
 by_cases hy:y=-1 \/ r'.bad=true
 ·refine z2_ (htest false _ (by rcases hy with h | h <;> simp [h]) fun a2 w2 he2 hp2 hk2=>⟨he2,.skip (q0_ (hno hy a2 w2 (hp1.trans (hp2.mono (Nat.le_refl _) (by omega))) (h1.keep hk2 id id) (h2.trans (hk2.mono fun _ _ h=>h.elim))))⟩)
 ·refine z3_ (htest true _ (by simp at hy;simp [hy]) fun a2 w2 he2 hp2 hk2=>⟨he2,?_⟩)
  have:=hyes (fun h=>hy (.inl h)) (by simpa using fun h=>hy (.inr h)) a2 w2 (hp1.trans (hp2.mono (Nat.le_refl _) (by omega))) (h1.keep hk2 id id) (h2.trans (hk2.mono fun _ _ h=>h.elim))
  refine .mono this fun e a w hq=>?_
  cases e <;> first | exact q0_ hq | exact hq
theorem s_case {key:Nat} {dflt:Code} {t:Nat} {A:GC} {l:List (Nat × GC)} {kk:Nat} (hkey:a.get key=.int .u32 kk) (hkn:key < n) (hm:m<=k0) (hk:k0<=n) (hn:n + 2<=a.tmps.size)
  (hyes:kk=t->∀ a',Pv x m k0 n a a'->NWP P (A (n + 2)).1 Q a' w) (hno:kk ≠ t->∀ a',Pv x m k0 n a a'->a'.get key=.int .u32 kk->NWP P (gCases g key dflt l (A (n + 2)).2).1 Q a' w):NWP P (gCases g key dflt ((t,A) :: l) n).1 Q a w:=by
 have htest:∀ (b:Bool) (K':Act->World->Prop),b=decide ((kk:Int)=(t:Int))->(∀ a',a'.eval (tm n)=.bool b->Pv x m k0 n a a'->a'.get key=.int .u32 kk->K' a' w) ->
   wpList P [mk (some (n + 1)) (.binOp .eql g.tU32 (tm key) (ki .u32 t) 0),mk (some n) (.assign (tm (n + 1)))].toArray (Exit.then K' Q) [mk (some (n + 1)) (.binOp .eql g.tU32 (tm key) (ki .u32 t) 0),mk (some n) (.assign (tm (n + 1)))] a w:=by
  intro b K' hb hK'
  refine q9_ (b:=b) (p:=kk) (q:=t) (k:=.u32) (by rw [qb_,hkey]) rfl (.inr (.inr (.inr (.inr (.inl ⟨rfl,hb⟩))))) (qg_ (wpList_nil (hK' _ ?_ (((Pv.refl _ _ _ _ _).put _ (by omega)).put _ (by omega)) ?_)))
  ·rw [qb_,qb_,gpe (by simp only [qa_];omega),gpe (by omega)]
  ·rw [gpo (by omega),gpo (by omega)];exact hkey
 by_cases hkt:kk=t
 ·exact .seq (.reg (htest true (fun a' w'=>a'.eval (tm n)=.bool true/\NWP P (A (n + 2)).1 Q a' w') (by simp [hkt]) fun a' he hp hk'=>⟨he,hyes hkt a' hp⟩)) (fun a' w' h=>.condT h.1 h.2) (fun e a w he hq=>by rw [zc_ he] at hq;exact hq)
 ·exact .seq (.reg (htest false (fun a' w'=>a'.eval (tm n)=.bool false/\NWP P (gCases g key dflt l (A (n + 2)).2).1 Q a' w') (by simp;omega) fun a' he hp hk'=>⟨he,hno hkt a' hp hk'⟩)) (fun a' w' h=>.condF h.1 h.2) (fun e a w he hq=>by rw [zc_ he] at hq;exact hq)
theorem s_tagFor (K0:KB P g av fl) (hfl:fl=true) (hrc:RC g cx fx ver S R B O r a w) (hc:CxOk cx m k0) {i b1 b2:Nat} {body:GC} (hi:m<=i/\i < k0) (hk:k0<=n) (hn:n + 5<=a.tmps.size) (W:Nat->World->Prop)
  (h0:∀ w1,RdS w1 g.tR S R (rUv r).2->Keeps (·=R) w w1->W (rUv r).1 w1)
  (hbody:∀ (c:Nat) (a1:Act) (w1:World),Pv 6 i k0 n a a1->W (c + 1) w1->NWP P (body (n + 5)).1 (Rt (fun a2 w2=>Pv 6 (i + 1) k0 (n + 5) a1 a2/\W c w2) E) a1 w1)
  (hend:∀ a1 w1,Pv 6 i k0 n a a1->W 0 w1->K a1 w1):NWP P (gTagFor g cx i b1 b2 body n).1 (Rt K E) a w:=by
 have hbm:=hc.b
 have hle:=hc.le
 have h66:=hc.six
 have hlt:=rUv_lt r
 refine .seq (R:=Rt (fun a' w'=>Pv 6 i k0 n a a'/\a'.get i=.int .u32 ((rUv r).1:Int)/\W (rUv r).1 w') E) (.reg (qv_ (vs:=#[pt R 0]) (K0.uvE hfl) (by simp [qb_,hrc.sb]) (K0.uvC hfl w S R r hrc.rd hrc.SR) fun e w1 hR=>?_)) (fun a' w' hh=>?_)
  (fun e a w he hq=>by cases e <;> first | exact absurd rfl he | exact hq)
 ·obtain ⟨he,h1,h2⟩:=hR
  refine ⟨_,he,qg_ (wpList_nil ?_)⟩
  rw [qb_,gpe (by omega)]
  exact ⟨((Pv.refl _ _ _ _ _).put _ (by omega)).put _ (by omega),gpe (by simp only [qa_];omega),h0 w1 h1 h2⟩
 ·obtain ⟨hp,hgi,hW0⟩:=hh
  refine .block (.loop (fun a1 w1=>∃ c:Nat,c<=(rUv r).1/\Pv 6 i k0 n a a1/\a1.get i=.int .u32 (c:Int)/\W c w1) (fun a1 _=>(match a1.get i with | .int _ q=>q | _=>0).toNat) ⟨_,Nat.le_refl _,hp,hgi,hW0⟩ ?_)
  rintro a1 w1 ⟨c,hc1,hp1,hg1,hW⟩
  have hs1:=hp1.size
  have htest:∀ (b:Bool),b=decide ((0:Int) < (c:Int))->wpList P [mk (some (n + 1)) (.move (tm i)),mk (some (n + 2)) (.binOp .gtr g.tU32 (tm (n + 1)) (ki .u32 0) 0)].toArray
    (Rt (fun a' w'=>a'.eval (tm (n + 2))=.bool b/\Pv 6 (i + 1) k0 n a1 a'/\w'=w1) E) [mk (some (n + 1)) (.move (tm i)),mk (some (n + 2)) (.binOp .gtr g.tU32 (tm (n + 1)) (ki .u32 0) 0)] a1 w1:=by
   intro b hb
   refine qd_ ?_
   rw [qb_,hg1]
   refine q9_ (b:=b) (p:=c) (q:=0) (k:=.u32) (by rw [qb_,gpe (by omega)]) rfl (.inr (.inr (.inr (.inl ⟨rfl,hb⟩)))) (wpList_nil ?_)
   exact ⟨by rw [qb_,gpe (by simp only [qa_];omega)],((Pv.refl _ _ _ _ _).put _ (by omega)).put _ (by omega),rfl⟩
  cases c with
  | succ c=>
   refine .seq (R:=Rt (fun a2 w2=>Pv 6 (i + 1) k0 n a1 a2/\w2=w1) E) ?_ (fun a2 w2 hh=>?_) (fun e a w he hq=>by cases e <;> first | exact absurd rfl he | exact hq | exact hq.elim)
   ·refine .seq (.reg (htest true (by simp))) (fun a2 w2 hh=>.condT hh.1 (.skip hh.2)) (fun e a w he hq=>by cases e <;> first | exact absurd rfl he | exact hq)
   ·obtain ⟨hp2,rfl⟩:=hh
    have hp02:Pv 6 i k0 n a a2:=hp1.trans (hp2.mono (by omega) (Nat.le_refl _))
    have hg2:a2.get i=.int .u32 ((c + 1:Nat):Int):=by rw [hp2.get i (by omega) (.inl (by omega))];exact hg1
    have hb:=hbody c a2 w2 hp02 hW
    have hs2:=hp2.size
    refine .seq (R:=Rt (fun a3 w3=>Pv 6 (i + 1) k0 (n + 5) a2 a3/\W c w3) E) (.block (.mono hb fun e a w hq=>by cases e <;> first | exact hq | exact hq.elim)) (fun a3 w3 hh=>?_) (fun e a w he hq=>by cases e <;> first | exact absurd rfl he | exact hq | exact hq.elim)
    obtain ⟨hp3,hW3⟩:=hh
    have hs3:=hp3.size
    have hg3:a3.get i=.int .u32 ((c + 1:Nat):Int):=by rw [hp3.get i (by omega) (.inl (by omega))];exact hg2
    refine .reg (qd_ ?_)
    rw [qb_,hg3]
    have hwr:IntKind.u32.wrap (((c + 1:Nat):Int) - 1)=(c:Int):=by simp [IntKind.wrap,IntKind.bits,IntKind.signed];omega
    refine zk_ (v:=.int .u32 (c:Int)) (k:=.u32) (m:=((c + 1:Nat):Int)) (n:=1) (by rw [qb_,gpe (by omega)]) rfl (by simp) (by simp only [binOp,Op.intArith,hwr];simp) ?_
    refine qg_ (wpList_nil ?_)
    rw [qb_,gpe (by simp only [qa_];omega)]
    have hgi':(((a3.put (some (n + 3)) (.int .u32 ((c + 1:Nat):Int))).put (some (n + 4)) (.int .u32 (c:Int))).put (some i) (.int .u32 (c:Int))).get i=.int .u32 (c:Int):=gpe (by simp only [qa_];omega)
    refine ⟨⟨c,by omega,?_,hgi',hW3⟩,?_⟩
    ·exact ((hp02.trans (hp3.mono (by omega) (by omega))).put _ (by omega)).put _ (by omega) |>.put _ (by omega)
    ·rw [hgi',hg1]
     simp only
     omega
  | zero=>
   refine .seq (R:=fun e a w=>e ≠ .normal/\Exit.inBlock b1 (Rt K E) e a w) ?_ (fun a2 w2 hh=>absurd rfl hh.1) (fun e a w he hq=>?_)
   ·refine .seq (R:=Rt (fun a' w'=>a'.eval (tm (n + 2))=.bool false/\Pv 6 (i + 1) k0 n a1 a'/\w'=w1) E) (.reg (htest false (by simp))) (fun a2 w2 hh=>.condF hh.1 (.exit ?_)) (fun e a w he hq=>by cases e <;> first | exact absurd rfl he | exact ⟨by simp,hq⟩ | exact hq.elim)
    simp only [Exit.inBlock,if_true]
    refine ⟨by simp,?_⟩
    obtain ⟨_,hp2,rfl⟩:=hh
    exact hend a2 w2 (hp1.trans (hp2.mono (by omega) (Nat.le_refl _))) hW
   ·rw [zc_ he];exact hq.2
theorem wp_callK {P:Program} {o:Oper} {d:Option Nat} {f:Nat} {args:List Operand} {vs:Array Value} {R:Ending->World->Prop} {K':Act->World->Prop} {Q':Exit->Act->World->Prop} (ho:o=cl d f args) (hf:Ent P f) (hargs:(args.map a.eval).toArray=vs)
  (hc:Calls P f vs w R) (h:∀ e w',R e w'->∃ v,e=.returned v/\K' (a.put d v) w'):o.wp P a w K' Q':=by
 subst ho
 unfold Oper.wp
 have:(execOp a.eval (cl d f args)).run P w=.ok (.enter f vs) w:=by
  have he:a.eval (.func f)=.func (.func f) #[] #[]:=rfl
  simp only [cl,execOp,mk,resolve,he,Deferred.ofValue,invoke,Sem.run_bind,Sem.run_pure,Result.andThen_ok,Array.empty_append,Array.append_empty,List.map_toArray,hargs]
  exact hf _ _
 rw [this]
 exact hc.mono fun e w' hR=>by
  obtain ⟨v,rfl,hh⟩:=h e w' hR
  exact hh
theorem s_unknown (K0:KB P g av fl) (hfl:fl=true) (hrc:RC g cx fx ver S R B O r a w) (hc:CxOk cx m k0) {key T k off kk:Nat} {cur:Array Value} {te:TypeId} {mm:Value} {t:List (Nat × Bs)} (hF:zj_ P T k g.tTags off true 1) (hkey:a.get key=.int .u32 kk) (hkk:kk < 4294967296)
  (hB:w.heap[B]?=some (.cells cur te (0,0))) (hO:cur[O + off]?=some mm) (htg:TgRp w (fun k=>k=B \/ k=R) mm t) (hqS:∀ p,mm=.map (some p)->p ≠ S) (hkn:key < n) (hk:k0<=n) (hn:n + 8<=a.tmps.size)
  (h:∀ a' w' q,Pv 6 m k0 n a a'->RdS w' g.tR S R (qo_ (rUv r).1 (rUv r).2).2->(mm=.map none->w.heap.size<=q)->(∀ p,mm=.map (some p)->q=p)->Keeps (fun b=>b=R \/ b=B \/ b=q) w w' ->
   w'.heap[B]?=some (.cells (cur.setIfInBounds (O + off) (.map (some q))) te (0,0)) ->
   (∀ X:Nat->Prop,¬ X q->(∀ k,X k->k < w.heap.size)->¬ X S->TgRp w (fun k=>X k \/ k=R) mm t->TgRp w' X (.map (some q)) (jg_ kk (qo_ (rUv r).1 (rUv r).2).1.octets t))->K a' w') :
  NWP P (z0_ g cx key T k n) (Exit.then K Q) a w:=by
 have hbm:=hc.b
 have hle:=hc.le
 have hlt:=rUv_lt r
 have hBlt:B < w.heap.size:=(Array.getElem?_eq_some_iff.1 hB).1
 have hL:xd_ [mk (some n) (.move (tm cx.s)),mk (some (n + 1)) (.nilCheck (tm n)),mk (some (n + 2)) (.fieldAddr T (tm (n + 1)) k),mk (some (n + 3)) (.move (tm key)),cl (some (n + 4)) g.uv [tm cx.b],
  mk (some (n + 5)) (.convert g.tU32 g.tInt (tm (n + 4))),cl (some (n + 6)) g.span [tm cx.b,tm (n + 5)],cl (some (n + 7)) g.set [tm (n + 2),tm (n + 3),tm (n + 6)]]=[false,false,false,false,true,true,true,true]:=by
  simp [xd_,acts,mk,cl,rdsOf,Op.operands,tm]
 refine .drw (fun _=>True) ?_
 rw [hL]
 simp only [xc_,j9_]
 obtain ⟨fs,f,hf1,hf2,hf3,hf4⟩:=hF.fld
 have hsz1:∀ w,(sizeOf f.type).run P w=.ok (0 + 1) w:=fun w=>by rw [hf4];exact hF.var.size w
 refine ⟨pt B O,fun w _=>?_,pt B O,fun w _=>?_,pt B (O + off),fun w _=>?_,.int .u32 kk,fun w _=>?_,?_⟩
 ·have:a.eval (tm cx.s)=pt B O:=hrc.ss
  simp [execOp,mk,this]
 ·have:(a.put (some n) (pt B O)).eval (tm n)=pt B O:=by rw [qb_,gpe (by omega)]
  simp only [mk,pt] at this ⊢
  simp [execOp,this]
 ·have:((a.put (some n) (pt B O)).put (some (n + 1)) (pt B O)).eval (tm (n + 1))=pt B O:=by rw [qb_,gpe (by simp only [qa_];omega)]
  simp only [mk,pt] at this ⊢
  simp [execOp,this,Instr.fieldAt,run_underlying hf1,hf2,hf3,fieldPlace,hsz1,Instr.sureAddr,Addr.add_lit]
 ·have:(((a.put (some n) (pt B O)).put (some (n + 1)) (pt B O)).put (some (n + 2)) (pt B (O + off))).eval (tm key)=.int .u32 kk:=by
   rw [qb_,gpo (by omega),gpo (by omega),gpo (by omega)];exact hkey
  simp only [mk] at this ⊢
  simp [execOp,this]
 ·simp only [mk]
  have hp4:Pv 6 m k0 n a ((((a.put (some n) (pt B O)).put (some (n + 1)) (pt B O)).put (some (n + 2)) (pt B (O + off))).put (some (n + 3)) (.int .u32 kk)):=
   ((((Pv.refl _ _ _ _ _).put _ (by omega)).put _ (by omega)).put _ (by omega)).put _ (by omega)
  have hg2:((((a.put (some n) (pt B O)).put (some (n + 1)) (pt B O)).put (some (n + 2)) (pt B (O + off))).put (some (n + 3)) (.int .u32 kk)).get (n + 2)=pt B (O + off):=by
   rw [gpo (by omega),gpe (by simp only [qa_];omega)]
  have hg3:((((a.put (some n) (pt B O)).put (some (n + 1)) (pt B O)).put (some (n + 2)) (pt B (O + off))).put (some (n + 3)) (.int .u32 kk)).get (n + 3)=.int .u32 kk:=gpe (by simp only [qa_];omega)
  generalize hA:(((a.put (some n) (pt B O)).put (some (n + 1)) (pt B O)).put (some (n + 2)) (pt B (O + off))).put (some (n + 3)) (.int .u32 kk)=A at hp4 hg2 hg3 ⊢
  have hsz:A.tmps.size=a.tmps.size:=hp4.size
  have hAb:A.get cx.b=pt R 0:=(hp4.get _ hbm.2 (.inl hbm.1)).trans hrc.sb
  have hkd:Keeps (fun _=>False) w w.drew:=Keeps.drew _ _
  have hrd:RdS w.drew g.tR S R r:=hrc.rd.keep hkd id id
  refine ⟨trivial,wp_callK (vs:=#[pt R 0]) rfl (K0.uvE hfl) (by simp [qb_,hAb]) (K0.uvC hfl w.drew S R r hrd hrc.SR) fun e w1 hR=>?_⟩
  obtain ⟨he,h1,h2⟩:=hR
  refine ⟨_,he,trivial,?_⟩
  have hwr:IntKind.i64.wrap ((rUv r).1:Int)=((rUv r).1:Int):=by simp [IntKind.wrap,IntKind.bits,IntKind.signed];omega
  have hcv : (execOp (A.put (some (n + 4)) (.int .u32 ((rUv r).1 : Int))).eval (⟨some (n + 5), .convert g.tU32 g.tInt (tm (n + 4)), 0, "", #[], none⟩ : Oper)).run P w1 = .ok (.value (.int .i64 ((rUv r).1 : Int))) w1 := by
   have:(A.put (some (n + 4)) (.int .u32 ((rUv r).1:Int))).eval (tm (n + 4))=.int .u32 ((rUv r).1:Int):=by rw [qb_,gpe (by omega)]
   simp [execOp,this,convert,run_underlying (K0.tU32 hfl),run_underlying K0.tInt,Conv.intToInt,hwr]
  unfold Oper.wp
  rw [hcv]
  refine ⟨trivial,?_⟩
  have hb2:((A.put (some (n + 4)) (.int .u32 ((rUv r).1:Int))).put (some (n + 5)) (.int .i64 ((rUv r).1:Int))).get cx.b=pt R 0:=by
   rw [gpo (by omega),gpo (by omega)];exact hAb
  have hb5:((A.put (some (n + 4)) (.int .u32 ((rUv r).1:Int))).put (some (n + 5)) (.int .i64 ((rUv r).1:Int))).get (n + 5)=.int .i64 ((rUv r).1:Int):=gpe (by simp only [qa_];omega)
  refine wp_callK (vs:=#[pt R 0,.int .i64 ((rUv r).1:Int)]) rfl (K0.spanE hfl) (by simp [qb_,hb2,hb5]) (K0.spanC hfl w1 S R (rUv r).2 ((rUv r).1:Int) (by omega) (by omega) h1 hrc.SR) fun e2 w2 hR2=>?_
  obtain ⟨v,he2,h3,h4,h5⟩:=hR2
  refine ⟨_,he2,trivial,?_⟩
  have hkR:Keeps (·=R) w w2:=((hkd.mono fun _ _ h=>h.elim).trans h2).trans h4
  have hB2:w2.heap[B]?=some (.cells cur te (0,0)):=by rw [hkR.block B hBlt hrc.BR];exact hB
  have htg2:TgRp w2 (fun k=>k=B \/ k=R) mm t:=htg.keep (hkR.mono fun _ _ h=>.inr h)
  refine wp_callK (vs:=#[pt B (O + off),.int .u32 kk,v]) rfl (K0.setE hfl) ?_ (K0.setC hfl w2 B (O + off) mm t kk v _ cur te hkk hB2 hO (htg2.mono fun _ _ h=>.inl h) (h5.sl hrc.BS.symm)) fun e3 w3 hR3=>?_
  ·simp only [List.map_cons,List.map_nil,qb_]
   rw [gpe (by simp only [qa_];omega),gpo (show n + 2 ≠ n + 6 by omega),gpo (show n + 2 ≠ n + 5 by omega),gpo (show n + 2 ≠ n + 4 by omega),hg2,
    gpo (show n + 3 ≠ n + 6 by omega),gpo (show n + 3 ≠ n + 5 by omega),gpo (show n + 3 ≠ n + 4 by omega),hg3]
  obtain ⟨he3,q,w',rfl,h6,h7,h8,h9,h10⟩:=hR3
  refine ⟨_,he3,trivial,?_⟩
  have hqn:mm=.map none->w.heap.size<=q:=fun hm0=>by rw [h7 hm0];exact hkR.size
  have hqold:q < w2.heap.size->¬ (q=B \/ q=R \/ q=S):=fun hlt hq=>by
   rcases htg2 with ⟨hm0,_⟩ | ⟨p,hp1,hp2,_⟩
   ·have:=h7 hm0;omega
   ·have:=h8 p hp1
    subst this
    rcases hq with hq | hq | hq
    ·exact hp2 (.inl hq)
    ·exact hp2 (.inr hq)
    ·exact hqS _ hp1 hq
  have hk6:Keeps (fun b=>(b=B \/ b=q)/\b < w2.heap.size) w2 w3:=h6.mono fun _ hk hh=>⟨hh,hk⟩
  refine h _ w3 q ?_ (h3.keep hk6 (fun hh=>?_) (fun hh=>?_)) hqn h8 ((hkR.mono fun _ _ h=>.inl h).trans (h6.mono fun _ _ h=>.inr h)) h9 fun X hXq hX hXS hT=>?_
  ·exact (((hp4.put _ (by omega)).put _ (by omega)).put _ (by omega)).put _ (by omega)
  ·rcases hh with ⟨hh | hh,hlt2⟩
   ·exact hrc.BS hh.symm
   ·exact hqold (hh ▸ hlt2) (.inr (.inr hh.symm))
  ·rcases hh with ⟨hh | hh,hlt2⟩
   ·exact hrc.BR hh.symm
   ·exact hqold (hh ▸ hlt2) (.inr (.inl hh.symm))
  ·exact h10 X hXq (fun k hk=>Nat.lt_of_lt_of_le (hX k hk) hkR.size) (h5.sl fun h=>h.elim hXS fun h=>hqold (h ▸ Nat.lt_of_lt_of_le hrc.Slt hkR.size) (.inr (.inr h.symm))) ((hT.keep (hkR.mono fun _ _ h=>.inr h)).mono fun _ _ h=>.inl h)
end
def aggD:TypeDesc->Bool
 | .struct _ | .array _ _=>true
 | _=>false
def varB (P:Program) (F:Nat) (agg:Bool) (sz:Nat):Bool:=
 match P.underlying F,P.info? F with
 | some d,some i=>(aggD d == agg) && (i.size == sz)
 | _,_=>false
theorem varB_ok {P:Program} {F:Nat} {agg:Bool} {sz:Nat} (h:varB P F agg sz=true):jp_ P F agg sz:=by
 unfold varB at h
 split at h
 ·rename_i d i hd hi
  simp only [Bool.and_eq_true,beq_iff_eq] at h
  have ht:TyIs P F d sz:=⟨hd,i,hi,h.2⟩
  refine ⟨fun w=>?_,fun w=>ht.sizeOf w⟩
  rw [ht.isAgg w,<- h.1]
  cases d <;> rfl
 ·cases h
def fldB (P:Program) (T k F off:Nat) (agg:Bool) (sz:Nat):Bool:=
 (match P.underlying T with
  | some (.struct fs)=>(match fs[k]? with | some f=>(f.offset == off) && (f.type == F) | none=>false)
  | _=>false) && varB P F agg sz && decide (0 < sz)
theorem fldB_ok {P:Program} {T k F off:Nat} {agg:Bool} {sz:Nat} (h:fldB P T k F off agg sz=true):zj_ P T k F off agg sz:=by
 simp only [fldB,Bool.and_eq_true,decide_eq_true_eq] at h
 obtain ⟨⟨h1,h2⟩,h3⟩:=h
 split at h1
 ·rename_i fs hfs
  split at h1
  ·rename_i f hf
   simp only [Bool.and_eq_true,beq_iff_eq] at h1
   exact ⟨⟨fs,f,hfs,hf,h1.1,h1.2⟩,varB_ok h2,h3⟩
  ·cases h1
 ·cases h1
def fldT (P:Program) (T k:Nat):Nat:=
 match P.underlying T with
 | some (.struct fs)=>(match fs[k]? with | some f=>f.type | none=>0)
 | _=>0
def sizeT (P:Program) (F:Nat):Nat:=match P.info? F with | some i=>i.size | none=>0
def rowOf (P:Program) (F:Nat):Option (Nat × Nat × Array Value):=
 match P.underlying F with
 | some (.slice E)=>
  match P.info? E with
  | some i=>
   match i.zero with
   | some z=>if z.cells.size == i.size && decide (0 < i.size) && decide (0 < i.bytes) && decide (i.bytes<=24 * i.size + 8) then some (E,i.size,z.cells) else none
   | none=>none
  | none=>none
 | _=>none
theorem rowOf_ok {P:Program} {F E sz:Nat} {z:Array Value} (h:rowOf P F=some (E,sz,z)):RowIs P F E sz z:=by
 unfold rowOf at h
 split at h
 ·rename_i E' hE
  split at h
  ·rename_i i hi
   split at h
   ·rename_i z' hz
    split at h
    ·rename_i hc
     simp only [Option.some.injEq,Prod.mk.injEq] at h
     obtain ⟨rfl,rfl,rfl⟩:=h
     simp only [Bool.and_eq_true,beq_iff_eq,decide_eq_true_eq] at hc
     obtain ⟨⟨⟨h1,h2⟩,h3⟩,h4⟩:=hc
     exact ⟨hE,i,z',hi,hz,rfl,rfl,h1,h2,h3,h4⟩
    ·cases h
   ·cases h
  ·cases h
 ·cases h
def zeroOf (P:Program) (E:Nat):Option Value:=match P.info? E with | some i=>i.zero | none=>none
theorem zeroOf_ok {P:Program} {E:Nat} {z:Value} (h:zeroOf P E=some z) (w:World):(zeroValue E).run P w=.ok z w:=by
 unfold zeroOf at h
 split at h
 ·rename_i i hi
  simp [zeroValue,typeInfo,hi,h]
 ·cases h
def eqV:Value->Value->Bool
 | .bool a,.bool b=>a == b
 | .int k x,.int k' y=>(k == k') && (x == y)
 | .string a,.string b=>a.data.isEmpty && b.data.isEmpty
 | .pointer none,.pointer none=>true
 | .slice none a b,.slice none c d=>(a == c) && (b == d)
 | .map none,.map none=>true
 | _,_=>false
theorem eqV_ok {x y:Value} (h:eqV x y=true):x=y:=by
 unfold eqV at h
 split at h
 ·simpa using h
 ·rename_i k x k' y
  simp only [Bool.and_eq_true,beq_iff_eq] at h
  rw [h.1,h.2]
 ·rename_i a b
  simp only [Bool.and_eq_true] at h
  obtain ⟨h1,h2⟩:=h
  obtain ⟨a⟩:=a
  obtain ⟨b⟩:=b
  simp only [Array.isEmpty_iff] at h1 h2
  rw [h1,h2]
 ·rfl
 ·simp only [Bool.and_eq_true,beq_iff_eq] at h
  rw [h.1,h.2]
 ·rfl
 ·cases h
def eqAt (z:Array Value) (o:Nat) (v:Value):Bool:=match z[o]? with | some x=>eqV x v | none=>false
theorem eqAt_ok {z:Array Value} {o:Nat} {v:Value} (h:eqAt z o v=true):z[o]?=some v:=by
 unfold eqAt at h
 split at h
 ·rename_i x hx
  rw [hx,eqV_ok h]
 ·cases h
def Prim.fitsB:Prim->Int->Bool
 | .bool,x=>x == 0 || x == 1
 | .i8,x=>decide (-128<=x) && decide (x < 128)
 | .i16,x=>decide (-32768<=x) && decide (x < 32768)
 | .u16,x=>decide (0<=x) && decide (x < 65536)
 | .i32,x=>decide (-2147483648<=x) && decide (x < 2147483648)
 | .i64,x=>decide (-9223372036854775808<=x) && decide (x < 9223372036854775808)
 | .uuid,_=>false
theorem Prim.fitsB_ok {p:Prim} {x:Int} (h:p.fitsB x=true):p.fits x:=by
 cases p <;> simp [Prim.fitsB,Prim.fits] at h ⊢ <;> exact h
mutual
def zTy (z:Array Value) (df:Int):Ty->Nat->Bool
 | .prim .bool,o=>(df == 0 && eqAt z o (.bool false)) || (df == 1 && eqAt z o (.bool true))
 | .prim .uuid,o=>(List.range 16).all fun j=>eqAt z (o + j) (.int .u8 0)
 | .prim p,o=>eqAt z o (.int p.kind df) && p.fitsB df
 | .str none,o=>eqAt z o (.string ⟨#[]⟩)
 | .str (some _),o=>eqAt z o (.pointer none)
 | .bytes _,o=>eqAt z o (.slice none 0 0)
 | .list _ _ _,o=>eqAt z o (.slice none 0 0)
 | .struct none toff fs,o=>zFds z fs o && (match toff with | some k=>eqAt z (o + k) (.map none) | none=>true)
 | .struct (some _) _ _,o=>eqAt z o (.pointer none)
def zFds (z:Array Value):Fds->Nat->Bool
 | .nil,_=>true
 | .cons _ _ _ df off ty r,o=>zTy z df ty (o + off) && zFds z r o
end
def zTg (z:Array Value) (toff:Option Nat):Bool:=match toff with | some k=>eqAt z k (.map none) | none=>true
def HasZ (w:World) (b q:Nat) (z:Array Value):Prop:=∀ j v,z[j]?=some v->w.cell? ⟨b,q + j,none⟩=some v
theorem HasZ.one {w:World} {b q o:Nat} {z:Array Value} {v:Value} (h:HasZ w b q z) (hz:eqAt z o v=true):w.cell? ⟨b,q + o,none⟩=some v:=h o v (eqAt_ok hz)
theorem cells1 {w:World} {b o:Nat} {v:Value} (h:w.cell? ⟨b,o,none⟩=some v):qy_ w b o [v]:=by
 intro j c hj
 cases j with
 | zero=>simp at hj;subst hj;simpa using h
 | succ j=>simp at hj
mutual
theorem zTy_ok {w:World} {b q:Nat} {z:Array Value} (hw:HasZ w b q z) (X:Nat->Prop):∀ (ty:Ty) (df:Int) (o:Nat),zTy z df ty o=true->Rp w X ty b (q + o) (dfTy df ty)
 | .prim p,df,o,h=>by
  cases p
  case bool=>
   simp only [zTy,Bool.or_eq_true,Bool.and_eq_true,beq_iff_eq] at h
   rcases h with ⟨rfl,h⟩ | ⟨rfl,h⟩
   ·exact ⟨_,cells1 (hw.one h),false,rfl,rfl⟩
   ·exact ⟨_,cells1 (hw.one h),true,rfl,rfl⟩
  case uuid=>
   simp only [zTy,List.all_eq_true,List.mem_range] at h
   refine ⟨(uuid0.map fun b=>.int .u8 (b.toNat:Int)),?_,uuid0,rfl,rfl,rfl⟩
   intro j c hj
   have hjl:j < 16:=by
    have:=(List.getElem?_eq_some_iff.1 hj).1
    simpa [uuid0] using this
   have hc:c=.int .u8 0:=by
    rw [List.getElem?_map,uuid0,List.getElem?_replicate,if_pos hjl] at hj
    simpa using hj.symm
   rw [hc]
   have:=hw.one (h j hjl)
   rwa [<- Nat.add_assoc] at this
  all_goals
   simp only [zTy,Bool.and_eq_true] at h
   exact ⟨_,cells1 (hw.one h.1),_,rfl,rfl,Prim.fitsB_ok h.2⟩
 | .str none,df,o,h=>⟨_,cells1 (hw.one h),[],rfl,rfl,by simp⟩
 | .str (some _),df,o,h=>⟨_,cells1 (hw.one h),.inl ⟨rfl,rfl⟩⟩
 | .bytes _,df,o,h=>⟨_,cells1 (hw.one h),.inl ⟨rfl,rfl⟩⟩
 | .list _ _ _,df,o,h=>.inl ⟨hw.one h,rfl⟩
 | .struct none toff fs,df,o,h=>by
  simp only [zTy,Bool.and_eq_true] at h
  refine ⟨_,[],rfl,zFds_ok hw X fs o h.1,?_⟩
  cases toff with
  | none=>rfl
  | some k=>
   refine ⟨.map none,?_,.inl ⟨rfl,rfl⟩⟩
   have:=hw.one h.2
   rwa [<- Nat.add_assoc] at this
 | .struct (some _) _ _,df,o,h=>.inl ⟨hw.one h,rfl⟩
theorem zFds_ok {w:World} {b q:Nat} {z:Array Value} (hw:HasZ w b q z) (X:Nat->Prop):∀ (fs:Fds) (o:Nat),zFds z fs o=true->RpF w X fs b (q + o) (dfFds fs)
 | .nil,o,h=>rfl
 | .cons _ _ _ df off ty r,o,h=>by
  simp only [zFds,Bool.and_eq_true] at h
  refine ⟨_,_,rfl,?_,zFds_ok hw X r o h.2⟩
  have:=zTy_ok hw X ty df (o + off) h.1
  rwa [<- Nat.add_assoc] at this
end
theorem j8_ (O:Nat):∀ (wr:List (Nat × Value)) (cur:Array Value),(applyWr cur O wr).size=cur.size
 | [],_=>rfl
 | p :: r,cur=>by
  show (applyWr (cur.setIfInBounds (O + p.1) p.2) O r).size=_
  rw [j8_ O r]
  simp
theorem applyWr_at (O:Nat):∀ (wr:List (Nat × Value)) (cur z:Array Value),(∀ p ∈ wr,p.1 < z.size)->O + z.size<=cur.size->(∀ j,j < z.size->cur[O + j]?=z[j]?) ->
  ∀ j,j < z.size->(applyWr cur O wr)[O + j]?=(applyWr z 0 wr)[j]?
 | [],_,_,_,_,h,j,hj=>h j hj
 | p :: r,cur,z,hp,hs,h,j,hj=>by
  show (applyWr (cur.setIfInBounds (O + p.1) p.2) O r)[O + j]?=(applyWr (z.setIfInBounds (0 + p.1) p.2) 0 r)[j]?
  refine applyWr_at O r _ _ (fun q hq=>by simpa using hp q (by simp [hq])) (by simpa using hs) (fun i hi=>?_) j (by simpa using hj)
  simp only [Array.size_setIfInBounds] at hi
  have hpz:=hp p (by simp)
  rw [Array.getElem?_setIfInBounds,Array.getElem?_setIfInBounds,Nat.zero_add]
  by_cases he:p.1=i
  ·subst he
   rw [if_pos rfl,if_pos rfl,if_pos (by omega),if_pos hpz]
  ·rw [if_neg (by omega),if_neg he]
   exact h i hi
theorem applyWr_out (O:Nat):∀ (wr:List (Nat × Value)) (cur:Array Value) (j:Nat),(∀ p ∈ wr,O + p.1 ≠ j)->(applyWr cur O wr)[j]?=cur[j]?
 | [],_,_,_=>rfl
 | p :: r,cur,j,h=>by
  show (applyWr (cur.setIfInBounds (O + p.1) p.2) O r)[j]?=_
  rw [applyWr_out O r _ j (fun q hq=>h q (by simp [hq])),Array.getElem?_setIfInBounds,if_neg (h p (by simp))]
structure Ev where
 P:Program
 g:G
 av:PF->Bool
 D:Nat->Option (List (Nat × Value))
def xOk:Ty->List Nat->Bool
 | .str (some (_ + 1)),x=>x.length == 1
 | .prim p,x=>x.length == 0 || (x.length == 2 && p != .uuid)
 | _,x=>x.length == 0
def leafOk (e:Ev) (hf:Bool) (m k0:Nat) (ty:Ty) (v:Nat) (x:List Nat):Bool:=okVal e.av hf ty && slotsOk m k0 v x && xOk ty x
def Ty.agg:Ty->Bool
 | .prim .uuid=>true
 | _=>false
def Fds.In:Fds->Nat->Nat->Prop
 | .nil,_,_=>False
 | .cons _ _ _ _ off ty r,O,j=>(O + off<=j/\j < O + off + ty.sz) \/ r.In O j
def offBy:Fds->Nat->Nat->Bool
 | .nil,_,_=>true
 | .cons _ _ _ _ off ty r,lo,hi=>(decide (off + ty.sz<=lo) || decide (hi<=off)) && offBy r lo hi
def disjF:Fds->Bool
 | .nil=>true
 | .cons _ _ _ _ off ty r=>offBy r off (off + ty.sz) && disjF r
def Fds.plain:Fds->Bool
 | .nil=>true
 | .cons lo hi tag _ _ ty r=>(lo == 0) && hi.isNone && tag.isNone && ty.leaf && r.plain
def Ty.inl:Ty->Bool
 | .struct none _ _=>true
 | _=>false
def wrFits (p:Nat × Value):Fds->Bool
 | .nil=>false
 | .cons _ _ _ df off ty r=>(match ty with
   | .prim .bool=>off == p.1 && ((df == 0 && eqV p.2 (.bool false)) || (df == 1 && eqV p.2 (.bool true)))
   | .prim .uuid=>false
   | .prim q=>off == p.1 && eqV p.2 (.int q.kind df)
   | _=>false) || wrFits p r
def inlOk:Ty->Bool
 | .struct none _ fs=>fs.plain
 | _=>true
def okSt (e:Ev) (hf:Bool) (m k0 T kt:Nat) (toff:Option Nat) (fs:Fds) (nm:Nm) (okf okt:Bool):Bool:=
 okf && disjF fs &&
 (match toff with | some o=>hf && fldB e.P T kt e.g.tTags o true 1 && offBy fs o (o + 1) | none=>!hf) &&
 (!(hf && fs.tagged) || (decide (m<=nm.n 0/\nm.n 0 < nm.n 1/\nm.n 1 < k0) && okt))
mutual
def okTy (e:Ev) (hf:Bool) (m k0 T off:Nat):Ty->Nm->Bool
 | .prim p,nm=>leafOk e hf m k0 (.prim p) (nm.n 0) (nm.l.drop 4) && nm.n 1 == T && fldB e.P T (nm.n 2) (nm.n 3) off (Ty.agg (.prim p)) (Ty.sz (.prim p)) && (p != .uuid || varB e.P e.g.tUuid true 16)
 | .str nul,nm=>leafOk e hf m k0 (.str nul) (nm.n 0) (nm.l.drop 4) && nm.n 1 == T && fldB e.P T (nm.n 2) (nm.n 3) off false 1
 | .bytes nul,nm=>leafOk e hf m k0 (.bytes nul) (nm.n 0) [] && nm.n 1 == T && fldB e.P T (nm.n 2) (nm.n 3) off false 1
 | .list _ esz el,nm=>
  decide (m<=nm.n 0/\nm.n 0 < nm.n 4/\nm.n 4 < nm.n 5/\nm.n 5 < nm.n 6/\nm.n 6 < k0) && nm.n 1 == T && fldB e.P T (nm.n 2) (nm.n 3) off false 1 &&
  (match rowOf e.P (nm.n 3) with
   | some (_,sz,z)=>sz == esz && okEl e hf (nm.n 6 + 1) k0 esz z el (nm.sub 0) && hasLst e.g hf
   | none=>false)
 | .struct none toff fs,nm=>
  decide (m<=nm.n 0/\m<=nm.n 3/\nm.n 0 < k0/\nm.n 3 < k0/\nm.n 0 ≠ nm.n 3) && nm.n 1 == T && fldB e.P T (nm.n 2) (fldT e.P T (nm.n 2)) off true (sizeT e.P (fldT e.P T (nm.n 2))) &&
  (match e.D (nm.n 4) with | some wr=>wr.all fun p=>decide (p.1 < fs.ext (zo_ toff)) && wrFits p fs | none=>false) && okSt e hf (max (nm.n 0) (nm.n 3) + 1) k0 (nm.n 5) (nm.n 6) toff fs (nm.sub 0) (okFds e hf (max (nm.n 0) (nm.n 3) + 1) k0 (nm.n 5) fs (nm.sub 0).s) (okTagd e ((nm.sub 0).n 1 + 1) k0 (nm.n 5) fs (nm.sub 0).s)
 | .struct (some _) toff fs,nm=>
  decide (m<=nm.n 0/\m<=nm.n 4/\m<=nm.n 8/\nm.n 0 < k0/\nm.n 4 < k0/\nm.n 8 < k0/\nm.n 0 ≠ nm.n 4) && nm.n 1 == T && fldB e.P T (nm.n 2) (nm.n 3) off false 1 && (e.av .i8 && za_ e.g.ok) &&
  (match zeroOf e.P (nm.n 9),e.D (nm.n 5) with
   | some z,some wr=>(wr.all fun p=>decide (p.1 < z.cells.size)) && zFds (applyWr z.cells 0 wr) fs 0 && zTg (applyWr z.cells 0 wr) toff && decide (fs.ext (zo_ toff)<=z.cells.size)
   | _,_=>false) && okSt e hf (max (nm.n 0) (nm.n 4) + 1) k0 (nm.n 6) (nm.n 7) toff fs (nm.sub 0) (okFds e hf (max (nm.n 0) (nm.n 4) + 1) k0 (nm.n 6) fs (nm.sub 0).s) (okTagd e ((nm.sub 0).n 1 + 1) k0 (nm.n 6) fs (nm.sub 0).s)
def okEl (e:Ev) (hf:Bool) (m k0 esz:Nat) (z:Array Value):Ty->Nm->Bool
 | .struct none toff fs,nm=>
  decide (m<=nm.n 0/\m<=nm.n 1/\nm.n 0 < k0/\nm.n 1 < k0/\nm.n 0 ≠ nm.n 1) &&
  (match e.D (nm.n 2) with
   | some wr=>(wr.all fun p=>decide (p.1 < esz)) && zFds (applyWr z 0 wr) fs 0 && zTg (applyWr z 0 wr) toff && decide (fs.ext (zo_ toff)<=esz)
   | none=>false) && okSt e hf (max (nm.n 0) (nm.n 1) + 1) k0 (nm.n 3) (nm.n 4) toff fs (nm.sub 0) (okFds e hf (max (nm.n 0) (nm.n 1) + 1) k0 (nm.n 3) fs (nm.sub 0).s) (okTagd e ((nm.sub 0).n 1 + 1) k0 (nm.n 3) fs (nm.sub 0).s)
 | .struct (some _) _ _,_=>false
 | .list _ _ _,_=>false
 | .prim p,nm=>leafOk e hf m k0 (.prim p) (nm.n 0) (nm.l.drop 2) && varB e.P (nm.n 1) (Ty.agg (.prim p)) (Ty.sz (.prim p)) && Ty.sz (.prim p) == esz && (p != .uuid || varB e.P e.g.tUuid true 16)
 | .str nul,nm=>leafOk e hf m k0 (.str nul) (nm.n 0) (nm.l.drop 2) && varB e.P (nm.n 1) false 1 && 1 == esz
 | .bytes nul,nm=>leafOk e hf m k0 (.bytes nul) (nm.n 0) (nm.l.drop 2) && varB e.P (nm.n 1) false 1 && 1 == esz
def okFds (e:Ev) (hf:Bool) (m k0 T:Nat):Fds->List Nm->Bool
 | .nil,_=>true
 | .cons _ _ tag _ off ty r,ms=>(tag.isSome || okTy e hf m k0 T off ty (ms.headD (.mk [] []))) && okFds e hf m k0 T r ms.tail
def okTagd (e:Ev) (m k0 T:Nat):Fds->List Nm->Bool
 | .nil,_=>true
 | .cons _ _ tag _ off ty r,ms=>
  (match tag with
   | some t=>decide (t < 4294967296) && decide (m<=(ms.headD (.mk [] [])).n 0/\(ms.headD (.mk [] [])).n 0 < k0/\m<=(ms.headD (.mk [] [])).n 1/\(ms.headD (.mk [] [])).n 1 < k0) &&
    inlOk ty && okTy e true ((ms.headD (.mk [] [])).n 0 + 1) k0 T off ty ((ms.headD (.mk [] [])).sub 0)
   | none=>true) && okTagd e m k0 T r ms.tail
end
inductive DI where
 | st (s T k F:Nat) (c:Value)
 | fa (v s T k:Nat)
 | nop (v:Nat)
def gDI:DI->GC
 | .st s T k F c=>qu_ 3 fun n=>[mk (some n) (.move (tm s)),mk (some (n + 1)) (.nilCheck (tm n)),mk (some (n + 2)) (.fieldAddr T (tm (n + 1)) k),mk none (.store F (tm (n + 2)) (.const c))]
 | .fa v s T k=>gFieldAddr s v T k
 | .nop v=>qu_ 1 fun n=>[mk (some n) (.move (tm v))]
def gDflt (items:List DI) (n0:Nat):Code:=(gS (items.map gDI) n0).1
def oneB:Value->Bool
 | .int _ _=>true
 | .bool _=>true
 | .pointer none=>true
 | _=>false
theorem oneB_ok {c:Value} (h:oneB c=true):c.oneCell'=true/\c.cells=#[c]:=by
 cases c <;> first | exact ⟨rfl,rfl⟩ | cases h
def offT (P:Program) (T k:Nat):Nat:=
 match P.underlying T with
 | some (.struct fs)=>(match fs[k]? with | some f=>f.offset | none=>0)
 | _=>0
def aggT (P:Program) (F:Nat):Bool:=match P.underlying F with | some (.struct _)=>true | some (.array _ _)=>true | _=>false
def dRun (P:Program) (k0:Nat):List DI->List (Nat × Nat)->Option (List (Nat × Value))
 | [],_=>some []
 | .st s T k F c :: r,env=>
  match env.lookup s with
  | some o=>if oneB c && fldB P T k F (offT P T k) false 1 && decide (s < k0) then (dRun P k0 r env).map fun wr=>(o + offT P T k,c) :: wr else none
  | none=>none
 | .fa v s T k :: r,env=>
  match env.lookup s with
  | some o=>if decide (v < k0) && decide (s < k0) && fldB P T k (fldT P T k) (offT P T k) (aggT P (fldT P T k)) (sizeT P (fldT P T k)) then dRun P k0 r ((v,o + offT P T k) :: env) else none
  | none=>none
 | .nop _ :: r,env=>dRun P k0 r env
theorem splice_one {cur:Array Value} {i:Nat} {c:Value} (h:i < cur.size):qt_ cur i [c]=cur.setIfInBounds i c:=by
 apply Array.ext_getElem?
 intro j
 rw [Array.getElem?_setIfInBounds]
 by_cases hj:i=j
 ·subst hj
  rw [if_pos rfl,if_pos h]
  simpa using jw_ (cur:=cur) (o:=i) (vs:=[c]) (by simp;omega) 0 (by simp)
 ·rw [if_neg hj]
  exact zn_ (by simp;omega) j (by simp only [List.length_cons,List.length_nil];omega)
section
variable {P:Program} {B O te k0:Nat}
theorem df_items:∀ (items:List DI) (env:List (Nat × Nat)) (wr:List (Nat × Value)) (n:Nat) (a:Act) (w:World) (cur:Array Value) (K:Act->World->Prop),dRun P k0 items env=some wr->(∀ s o,env.lookup s=some o->s < k0->a.get s=pt B (O + o))->k0<=n->(gL (items.map gDI) n).2<=a.tmps.size ->
  w.heap[B]?=some (.cells cur te (0,0))->(∀ p ∈ wr,O + p.1 < cur.size)->(∀ a' w',a'.defers=a.defers->Keeps (·=B) w w'->w'.heap[B]?=some (.cells (applyWr cur O wr) te (0,0))->K a' w')->LW P (items.map gDI) n (Rt K fun _ _=>False) a w
 | [],env,wr,n,a,w,cur,K,h,henv,hk,hn,hB,hO,hK=>by
  obtain rfl:=Option.some.inj h
  exact q0_ (hK a w rfl (Keeps.refl _ _) hB)
 | .nop v :: r,env,wr,n,a,w,cur,K,h,henv,hk,hn,hB,hO,hK=>by
  have hup:n + 1<=(gL (r.map gDI) (n + 1)).2:=up_list (fun x hx=>by
   obtain ⟨d,_,rfl⟩:=List.mem_map.1 hx
   cases d <;> exact qi_ _ _) _
  have hn':(gL (r.map gDI) (n + 1)).2<=a.tmps.size:=hn
  refine qc_ (qj_ (qd_ (wpList_nil ?_)))
  refine df_items r env wr (n + 1) _ w cur K h (fun s o hs hs0=>by rw [gpo (by omega)];exact henv s o hs hs0) (by omega) (by rw [qa_];exact hn') hB hO hK
 | .fa v s T k :: r,env,wr,n,a,w,cur,K,h,henv,hk,hn,hB,hO,hK=>by
  have hup:n + 3<=(gL (r.map gDI) (n + 3)).2:=up_list (fun x hx=>by
   obtain ⟨d,_,rfl⟩:=List.mem_map.1 hx
   cases d <;> exact qi_ _ _) _
  have hn':(gL (r.map gDI) (n + 3)).2<=a.tmps.size:=hn
  unfold dRun at h
  split at h
  ·rename_i o hlo
   split at h
   ·rename_i hc
    simp only [Bool.and_eq_true,decide_eq_true_eq] at hc
    obtain ⟨⟨hv,hs⟩,hF⟩:=hc
    refine qc_ (s_fieldAddr (x:=v) (m:=k0) (k0:=k0) (O:=O + o) (henv s o hlo hs) (fldB_ok hF) (.inl rfl) (Nat.le_refl _) hk (by omega) (by omega) fun a1 hp1 hg1=>?_)
    refine df_items r _ wr (n + 3) a1 w cur K h (fun s' o' hs' hs0=>?_) (by omega) (by rw [hp1.size];exact hn') hB hO (fun a' w' hd=>hK a' w' (hd.trans hp1.defers))
    by_cases he:s'=v
    ·subst he
     rw [List.lookup_cons_self] at hs'
     obtain rfl:=Option.some.inj hs'
     rw [hg1,Nat.add_assoc]
    ·rw [List.lookup_cons,show (s' == v)=false by simpa using he] at hs'
     rw [hp1.get s' he (.inl hs0)]
     exact henv s' o' hs' hs0
   ·cases h
  ·cases h
 | .st s T k F c :: r,env,wr,n,a,w,cur,K,h,henv,hk,hn,hB,hO,hK=>by
  have hup:n + 3<=(gL (r.map gDI) (n + 3)).2:=up_list (fun x hx=>by
   obtain ⟨d,_,rfl⟩:=List.mem_map.1 hx
   cases d <;> exact qi_ _ _) _
  have hn':(gL (r.map gDI) (n + 3)).2<=a.tmps.size:=hn
  unfold dRun at h
  split at h
  ·rename_i o hlo
   split at h
   ·rename_i hc
    simp only [Bool.and_eq_true,decide_eq_true_eq] at hc
    obtain ⟨⟨hone,hF⟩,hs⟩:=hc
    obtain ⟨h1,h2⟩:=oneB_ok hone
    have hF':=fldB_ok hF
    cases hr:dRun P k0 r env with
    | none=>rw [hr] at h;cases h
    | some wr'=>
     rw [hr] at h
     obtain rfl:=Option.some.inj h
     have hO1:O + (o + offT P T k) < cur.size:=hO (o + offT P T k,c) (List.mem_cons_self ..)
     refine qc_ (qj_ (qd_ ?_))
     rw [qb_,henv s o hlo hs]
     refine qp_ (by rw [qb_,gpe (by omega)];rfl) ?_
     refine ju_ (by rw [qb_,gpe (by simp only [qa_];omega)]) hF' ?_
     refine q8_ (cur:=cur) (t:=te) (v:=c) (vs:=[c]) (by rw [qb_,gpe (by simp only [qa_];omega)]) rfl (by rw [h2]) (hF'.var.size _) hB (by simp only [List.length_cons,List.length_nil];omega) (fun u hu=>by simp at hu;rw [hu];exact h1) (wpList_nil ?_)
     rw [Nat.add_assoc,splice_one hO1]
     refine df_items r env wr' (n + 3) _ _ (cur.setIfInBounds (O + (o + offT P T k)) c) K hr (fun s' o' hs' hs0=>?_) (by omega) (by simp only [qa_];exact hn') (setRow_heap _ _ _ _ _ _ hB) (fun p hp=>by simpa using hO p (by simp [hp])) fun a' w' hd hk' hB'=>?_
     ·rw [gpo (by omega),gpo (by omega),gpo (by omega)]
      exact henv s' o' hs' hs0
     ·exact hK a' w' (by rw [hd];simp only [qf_]) ((Keeps.setRow (fun k=>k=B) w B (cur.setIfInBounds (O + (o + offT P T k)) c) rfl).trans hk') hB'
   ·cases h
  ·cases h
end
theorem ja_ (args:Array Value) (n i:Nat) (h:i < args.size):({ tmps:=args++Array.replicate (n - args.size) undef,defers:=[] }:Act).get i=args[i]:=by
 simp [Act.get,Array.getElem?_append_left h,h]
theorem jo_ (args:Array Value) (n:Nat) (h:args.size<=n):(args++Array.replicate (n - args.size) undef).size=n:=by
 simp;omega
theorem dfC_of {P:Program} (hm:P.follows .mixedOrders=true) {f ntmps n0:Nat} {items:List DI} {wr:List (Nat × Value)} (h:FnIs P f ntmps [] (gDflt items n0)) (hr:dRun P n0 items [(0,0)]=some wr) (hn:(gL (items.map gDI) n0).2<=ntmps) (h0:0 < n0):Ent P f/\DfC P f wr:=by
 refine ⟨h.ent,fun w B O cur te hB hO=>h.calls hm (by simp) ?_⟩
 have hup:n0<=(gL (items.map gDI) n0).2:=up_list (fun x hx=>by
   obtain ⟨d,_,rfl⟩:=List.mem_map.1 hx
   cases d <;> exact qi_ _ _) _
 have hs:=jo_ #[pt B O] ntmps (by show 1<=ntmps;omega)
 refine rt_mono (q2_ (df_items items [(0,0)] wr n0 _ w cur (fun a w'=>a.defers=[]/\Keeps (·=B) w w'/\w'.heap[B]?=some (.cells (applyWr cur O wr) te (0,0))) hr (fun s o hso hs0=>?_) (Nat.le_refl _) (by rw [hs];exact hn) hB hO fun a' w' hd hk hB'=>⟨hd,hk,hB'⟩)) (fun a w' hh=>⟨hh.1,rfl,hh.2⟩) (fun a w' hh=>hh.elim)
 rw [List.lookup_cons] at hso
 split at hso
 ·rename_i he
  obtain rfl:=Option.some.inj hso
  have:s=0:=by simpa using he
  subst this
  rw [ja_ _ _ _ (by simp)]
  rfl
 ·simp at hso
def FarA (A:Nat->Prop) (S:Nat) (T:(Nat->Prop)->Prop):Prop:=∀ X:Nat->Prop,(∀ k,X k->A k)->¬ X S->T X
theorem FarA.mono {A A':Nat->Prop} {S:Nat} {T:(Nat->Prop)->Prop} (h:FarA A S T) (ha:∀ k,A' k->A k):FarA A' S T:=fun X hX hS=>h X (fun k hk=>ha k (hX k hk)) hS
def Blk (w:World) (B n te:Nat):Prop:=∃ cur,w.heap[B]?=some (.cells cur te (0,0))/\n<=cur.size
theorem Blk.lt {w:World} {B n te:Nat} (h:Blk w B n te):B < w.heap.size:=by
 obtain ⟨cur,h,_⟩:=h
 exact (Array.getElem?_eq_some_iff.1 h).1
theorem Blk.evo {R B n te:Nat} {Z:Nat->Prop} {w w':World} (h:Evo R B Z w w') (hb:Blk w B n te):Blk w' B n te:=by
 obtain ⟨cur,h1,h2⟩:=hb
 obtain ⟨cs,h3,h4,_⟩:=h.blk cur te h1
 exact ⟨cs,h3,by omega⟩
theorem Blk.mono {w:World} {B n n' te:Nat} (h:Blk w B n te) (hn:n'<=n):Blk w B n' te:=by
 obtain ⟨cur,h1,h2⟩:=h
 exact ⟨cur,h1,by omega⟩
theorem z4_:∀ (fs:Fds) (lo hi O j:Nat),offBy fs lo hi=true->fs.In O j->¬ (O + lo<=j/\j < O + hi)
 | .nil,_,_,_,_,_,h=>h.elim
 | .cons _ _ _ _ off ty r,lo,hi,O,j,h,hj=>by
  simp only [offBy,Bool.and_eq_true,Bool.or_eq_true,decide_eq_true_eq] at h
  rcases hj with hj | hj
  ·omega
  ·exact z4_ r lo hi O j h.2 hj
theorem in_ext:∀ (fs:Fds) (m O j:Nat),fs.In O j->O<=j/\j < O + fs.ext m
 | .nil,_,_,_,h=>h.elim
 | .cons _ _ _ _ off ty r,m,O,j,h=>by
  have h1:=le_ext r (Nat.max m (off + ty.sz))
  have h2:off + ty.sz<=Nat.max m (off + ty.sz):=Nat.le_max_right _ _
  simp only [Fds.ext]
  rcases h with h | h
  ·omega
  ·exact in_ext r _ O j h
theorem RpF.frameIn {X:Nat->Prop} {w w':World} (hk:Keeps X w w'):∀ (fs:Fds) (b o:Nat) (vs:List V),RpF w X fs b o vs->(∀ j,fs.In o j->w'.cell? ⟨b,j,none⟩=w.cell? ⟨b,j,none⟩)->RpF w' X fs b o vs
 | .nil,b,o,vs,h,_=>h
 | .cons _ _ _ _ off ty r,b,o,vs,h,hs=>by
  obtain ⟨v,vs',h1,h2,h3⟩:=h
  exact ⟨v,vs',h1,Rp.frame hk ty b (o + off) v h2 (fun j ha hb=>hs j (.inl ⟨ha,hb⟩)),RpF.frameIn hk r b o vs' h3 (fun j hj=>hs j (.inr hj))⟩
section evo
variable {A:Nat->Prop} {S R B O n te:Nat} {Z:Nat->Prop} {w w':World}
theorem Rp.evoA (h:Evo R B Z w w') (hR:A R) (hB:A B) (hRS:R ≠ S) (hBS:B ≠ S) (hb:Blk w B n te) {ty:Ty} {o:Nat} {v:V} (hv:FarA A S fun X=>Rp w X ty B o v) (hd:∀ j,o<=j->j < o + ty.sz->¬ Z j):FarA A S fun X=>Rp w' X ty B o v:=by
 intro X hX hS
 obtain ⟨cur,hc,_⟩:=hb
 have h1:=hv (fun k=>X k \/ k=R \/ k=B) (fun k hk=>by rcases hk with hk | rfl | rfl <;> first | exact hX k hk | assumption) (fun hk=>by rcases hk with hk | hk | hk <;> first | exact hS hk | exact hRS hk.symm | exact hBS hk.symm)
 have h2:=Rp.frame (h.keeps.mono fun k _ hk=>.inr hk) ty B o v h1 fun j h3 h4=>h.cell hc (hd j h3 h4)
 exact Rp.mono (fun k _ hk=>.inl hk) ty B o v h2
theorem RpF.evoA (h:Evo R B Z w w') (hR:A R) (hB:A B) (hRS:R ≠ S) (hBS:B ≠ S) (hb:Blk w B n te) {fs:Fds} {vs:List V} (hv:FarA A S fun X=>RpF w X fs B O vs) (hd:∀ j,fs.In O j->¬ Z j):FarA A S fun X=>RpF w' X fs B O vs:=by
 intro X hX hS
 obtain ⟨cur,hc,_⟩:=hb
 have h1:=hv (fun k=>X k \/ k=R \/ k=B) (fun k hk=>by rcases hk with hk | rfl | rfl <;> first | exact hX k hk | assumption) (fun hk=>by rcases hk with hk | hk | hk <;> first | exact hS hk | exact hRS hk.symm | exact hBS hk.symm)
 have h2:=RpF.frameIn (h.keeps.mono fun k _ hk=>.inr hk) fs B O vs h1 fun j hj=>h.cell hc (hd j hj)
 exact RpF.mono (fun k _ hk=>.inl hk) fs B O vs h2
theorem TgAt.evoA (h:Evo R B Z w w') (hR:A R) (hB:A B) (hRS:R ≠ S) (hBS:B ≠ S) (hb:Blk w B n te) {toff:Option Nat} {t:List (Nat × Bs)} (hv:FarA A S fun X=>TgAt w X B O toff t) (hd:∀ k,toff=some k->¬ Z (O + k)):FarA A S fun X=>TgAt w' X B O toff t:=by
 intro X hX hS
 obtain ⟨cur,hc,_⟩:=hb
 have h1:=hv (fun k=>X k \/ k=R \/ k=B) (fun k hk=>by rcases hk with hk | rfl | rfl <;> first | exact hX k hk | assumption) (fun hk=>by rcases hk with hk | hk | hk <;> first | exact hS hk | exact hRS hk.symm | exact hBS hk.symm)
 exact (h1.frame (h.keeps.mono fun k _ hk=>.inr hk) fun k hk=>h.cell hc (hd k hk)).mono fun k _ hk=>.inl hk
theorem RpF.evo0 (h:Evo R B Z w w') (hb:Blk w B n te) {fs:Fds} {vs:List V} (hv:∀ X,RpF w X fs B O vs) (hd:∀ j,fs.In O j->¬ Z j):∀ X,RpF w' X fs B O vs:=by
 intro X
 obtain ⟨cur,hc,_⟩:=hb
 have h1:=hv (fun k=>X k \/ k=R \/ k=B)
 have h2:=RpF.frameIn (h.keeps.mono fun k _ hk=>.inr hk) fs B O vs h1 fun j hj=>h.cell hc (hd j hj)
 exact RpF.mono (fun k _ hk=>.inl hk) fs B O vs h2
end evo
structure Outs {α:Type} (g:G) (S R B:Nat) (Z:Nat->Prop) (m k0 n:Nat) (a:Act) (w:World) (out:Out α) (G:α->World->Prop) (K E:Act->World->Prop):Prop where
 ok:∀ v r' a' w',out=.ok v r'->Pv 6 m k0 n a a'->RdS w' g.tR S R r'->Evo R B Z w w'->G v w'->K a' w'
 err:out=.err->∀ a' w',Pv 6 m k0 n a a'->(∃ t y,a'.get 6=.iface t y)->Keeps (fun k=>k=R \/ k=B) w w'->E a' w'
 go:out ≠ .stuck
structure Env (P:Program) (g:G) (av:PF->Bool) (fl:Bool) (D:Nat->Option (List (Nat × Value))):Prop where
 kb:KB P g av fl
 df:∀ f wr,D f=some wr->Ent P f/\DfC P f wr
def OldOk (w:World) (B o:Nat) (fx:Bool):Ty->V->Prop
 | .list nul esz e,old=>Rp w (fun _=>False) (.list nul esz e) B o old
 | .struct (some q) toff fs,old=>Rp w (fun _=>False) (.struct (some q) toff fs) B o old
 | .struct none toff fs,old=>(fs.plain=true/\fx=true) \/ (old=.st (dfFds fs) []/\∀ X,Rp w X (.struct none toff fs) B o old)
 | _,_=>True
section
variable (P:Program) (g:G) (av:PF->Bool) (fl:Bool) (D:Nat->Option (List (Nat × Value)))
def RdTy (ty:Ty):Prop:=
 ∀ (nm:Nm) (cx:Cx) (fx:Bool) (ver:Int) (S R B O:Nat) (r:RS) (m k0 n T off:Nat) (old:V) (K E:Act->World->Prop) (a:Act) (w:World) (te:Nat),
  okTy ⟨P,g,av,D⟩ cx.hf m k0 T off ty nm=true->RC g cx fx ver S R B O r a w->CxOk cx m k0->(cx.hf=true->fl=true)->k0<=n->k0<=a.tmps.size->(gL (gTy g cx ty nm) n).2<=a.tmps.size->Blk w B (O + off + ty.sz) te->OldOk w B (O + off) fx ty old ->
  Outs g S R B (fun j=>O + off<=j/\j < O + off + ty.sz) m k0 n a w (zq_ fx ver ty old r) (fun v w'=>Far w S fun X=>Rp w' X ty B (O + off) v) K E->LW P (gTy g cx ty nm) n (Rt K E) a w
def RdFds (fs:Fds):Prop:=
 ∀ (ms:List Nm) (cx:Cx) (fx:Bool) (ver:Int) (S R B O:Nat) (r:RS) (m k0 n T mm:Nat) (K E:Act->World->Prop) (a:Act) (w:World) (te:Nat),
  okFds ⟨P,g,av,D⟩ cx.hf m k0 T fs ms=true->disjF fs=true->RC g cx fx ver S R B O r a w->CxOk cx m k0->(cx.hf=true->fl=true)->k0<=n->k0<=a.tmps.size->(gL (gFds g cx fs ms) n).2<=a.tmps.size->Blk w B (O + fs.ext mm) te ->
  (fs.plain=true \/ ∀ X,RpF w X fs B O (dfFds fs)) ->
  Outs g S R B (fs.In O) m k0 n a w (rdFds fx ver fs r) (fun vs w'=>Far w S fun X=>RpF w' X fs B O vs) K E->LW P (gFds g cx fs ms) n (Rt K E) a w
end
section
variable {P:Program} {g:G} {av:PF->Bool} {fl:Bool} {D:Nat->Option (List (Nat × Value))}
theorem fds_nil:RdFds P g av fl D .nil:=by
 intro ms cx fx ver S R B O r m k0 n T mm K E a w te _ _ hrc hc _ hk _ _ _ _ ho
 exact q0_ (ho.ok [] r a w rfl (Pv.refl _ _ _ _ _) hrc.rd (Evo.refl _ _ _ _) (fun X _ _=>rfl))
theorem far_trans {w w1:World} {S:Nat} {T:(Nat->Prop)->Prop} (h:Far w1 S T) (hs:w.heap.size<=w1.heap.size):Far w S T:=fun X hX hS=>h X (fun k hk=>Nat.lt_of_lt_of_le (hX k hk) hs) hS
theorem fds_rest {lo:Nat} {hi tag:Option Nat} {df:Int} {off:Nat} {ty:Ty} {r0:Fds} (h2:RdFds P g av fl D r0) {ms:List Nm} {cx:Cx} {fx:Bool} {ver:Int} {S R B O:Nat} {r r1:RS} {m k0 n n2 T mm:Nat} {K E:Act->World->Prop} {a a1:Act} {w w1:World} {te:Nat} {v:V}
  (hok:okFds ⟨P,g,av,D⟩ cx.hf m k0 T r0 ms=true) (hoff:offBy r0 off (off + ty.sz)=true) (hdj:disjF r0=true) (hrc:RC g cx fx ver S R B O r a w) (hc:CxOk cx m k0) (hfl:cx.hf=true->fl=true) (hk:k0<=n) (hn2:n<=n2) (hks:k0<=a.tmps.size)
  (hn:(gL (gFds g cx r0 ms) n2).2<=a.tmps.size) (hb:Blk w B (O + (Fds.cons lo hi tag df off ty r0).ext mm) te) (hpl:r0.plain=true \/ ∀ X,RpF w X r0 B O (dfFds r0)) (hp:Pv 6 m k0 n a a1) (hrd:RdS w1 g.tR S R r1) (hev:Evo R B (fun j=>O + off<=j/\j < O + off + ty.sz) w w1)
  (hv:Far w S fun X=>Rp w1 X ty B (O + off) v)
  (ho:Outs g S R B ((Fds.cons lo hi tag df off ty r0).In O) m k0 n a w ((rdFds fx ver r0 r1).bind fun vs r=>.ok (v :: vs) r) (fun vs w'=>Far w S fun X=>RpF w' X (.cons lo hi tag df off ty r0) B O vs) K E) :
  LW P (gFds g cx r0 ms) n2 (Rt K E) a1 w1:=by
 have hRw:R < w.heap.size:=hrc.rd.lt
 have hBw:B < w.heap.size:=hb.lt
 have hout:∀ j,r0.In O j->¬ (O + off<=j/\j < O + off + ty.sz):=fun j hj hh=>z4_ r0 off (off + ty.sz) O j hoff hj ⟨hh.1,by omega⟩
 have hs1:=hp.size
 have hrc1:RC g cx fx ver S R B O r1 a1 w1:=hrc.step hc hp hrd hev.keeps (fun _ _ h=>h)
 have hb1:=hb.evo hev
 refine h2 ms cx fx ver S R B O r1 m k0 n2 T (Nat.max mm (off + ty.sz)) K E a1 w1 te hok hdj hrc1 hc hfl (by omega) (by omega) (by omega) hb1 ?_ ⟨fun vs r2 a2 w2 he hp2 hrd2 hev2 hvs=>?_,fun he a2 w2 hp2 hif hk2=>?_,fun he=>?_⟩
 ·rcases hpl with hpl | hpl
  ·exact .inl hpl
  ·exact .inr (RpF.evo0 hev hb hpl hout)
 ·refine ho.ok (v :: vs) r2 a2 w2 (by rw [he];rfl) (hp.trans (hp2.mono (Nat.le_refl _) hn2)) hrd2 ((hev.mono fun j hj=>.inl hj).trans (hev2.mono fun j hj=>.inr hj)) fun X hX hS=>⟨v,vs,rfl,?_,?_⟩
  ·exact Rp.evoA (A:=(· < w.heap.size)) hev2 hRw hBw hrc.SR.symm hrc.BS hb1 hv (fun j ha hb hj=>hout j hj ⟨ha,hb⟩) X hX hS
  ·exact far_trans hvs hev.keeps.size X hX hS
 ·exact ho.err (by rw [he];rfl) a2 w2 (hp.trans (hp2.mono (Nat.le_refl _) hn2)) hif (hev.keeps.trans hk2)
 ·exact ho.go (by rw [he];rfl)
theorem oldOk_of {w:World} {B o:Nat} {fx:Bool} {ty:Ty} {df:Int} (h:∀ X,Rp w X ty B o (dfTy df ty)):OldOk w B o fx ty (dfTy df ty):=by
 cases ty with
 | struct nul toff fs=>
  cases nul with
  | none=>exact .inr ⟨rfl,h⟩
  | some q=>exact h _
 | list nul esz e=>exact h _
 | _=>trivial
theorem oldOk_leaf {w:World} {B o:Nat} {fx:Bool} {ty:Ty} {old:V} (hi:ty.leaf=true):OldOk w B o fx ty old:=by
 cases ty <;> first | trivial | cases hi
theorem fds_cons {lo:Nat} {hi tag:Option Nat} {df:Int} {off:Nat} {ty:Ty} {r0:Fds} (h1:RdTy P g av fl D ty) (h2:RdFds P g av fl D r0):RdFds P g av fl D (.cons lo hi tag df off ty r0):=by
 intro ms cx fx ver S R B O r m k0 n T mm K E a w te hok hdj hrc hc hfl hk hks hn hb hpl ho
 simp only [okFds,Bool.and_eq_true,Bool.or_eq_true] at hok
 simp only [disjF,Bool.and_eq_true] at hdj
 have hRw:R < w.heap.size:=hrc.rd.lt
 have hBw:B < w.heap.size:=hb.lt
 have hext:=le_ext r0 (Nat.max mm (off + ty.sz))
 have hext2:off + ty.sz<=Nat.max mm (off + ty.sz):=Nat.le_max_right _ _
 have hup:UpL (gFds g cx r0 ms.tail):=up_gFds g r0 _ cx
 by_cases ht:tag.isNone=true/\has lo hi ver=true
 ·obtain ⟨htn,hhas⟩:=ht
  have htag:tag.isSome=false:=by cases tag <;> first | rfl | cases htn
  simp only [htag,Bool.false_eq_true,false_or] at hok
  obtain ⟨hoty,hokr⟩:=hok
  have hupT:UpL (gTy g cx ty (ms.headD (.mk [] []))):=up_gTy g ty _ cx
  simp only [gFds,htn,if_true] at hn ⊢
  have hupR:=hup (xl_ g cx lo hi (gS (gTy g cx ty (ms.headD (.mk [] [])))) n).2
  simp only [gL] at hn
  refine qc_ ?_
  rw [qr_]
  refine s_guard (x:=6) (m:=m) (k0:=k0) (ver:=ver) hrc.sv hc.le hk (by have:=hc.ver;have:=hc.le;omega) (up_S hupT) (by omega) (fun a' n' hp hn1 hn2 hg _=>?_) (fun a' hp hno=>by rw [hhas] at hno;cases hno)
  have hs:=hp.size
  have hrc':RC g cx fx ver S R B O r a' w:=hrc.step hc hp hrc.rd (Keeps.refl (fun _=>False) w) (fun _ _ h=>h.elim)
  have hnT:=hupT n'
  have hg':(xl_ g cx lo hi (gS (gTy g cx ty (ms.headD (.mk [] [])))) n).2=(gL (gTy g cx ty (ms.headD (.mk [] []))) n').2:=hg
  have hold:OldOk w B (O + off) fx ty (dfTy df ty):=by
   rcases hpl with hpl | hpl
   ·simp only [Fds.plain,Bool.and_eq_true] at hpl
    exact oldOk_leaf hpl.1.2
   ·exact oldOk_of fun X=>by obtain ⟨v,vs',he,hv,_⟩:=hpl X;cases he;exact hv
  have hplr:r0.plain=true \/ ∀ X,RpF w X r0 B O (dfFds r0):=by
   rcases hpl with hpl | hpl
   ·simp only [Fds.plain,Bool.and_eq_true] at hpl
    exact .inl hpl.2
   ·exact .inr fun X=>by obtain ⟨v,vs',he,_,hv⟩:=hpl X;cases he;exact hv
  have hrdf:rdFds fx ver (.cons lo hi tag df off ty r0) r=(zq_ fx ver ty (dfTy df ty) r).bind fun v r=>(rdFds fx ver r0 r).bind fun vs r=>.ok (v :: vs) r:=by simp [rdFds,htn,hhas]
  rw [hrdf] at ho
  refine q2_ (h1 _ cx fx ver S R B O r m k0 n' T off (dfTy df ty) _ E a' w te hoty hrc' hc hfl (by omega) (by omega) (by omega) (hb.mono (by simp only [Fds.ext];omega)) hold ⟨fun v r1 a1 w1 he hp1 hrd1 hev1 hv1=>?_,fun he a1 w1 hp1 hif hk1=>?_,fun he=>?_⟩)
  ·rw [he] at ho
   exact fds_rest h2 hokr hdj.1 hdj.2 hrc hc hfl hk (by omega) hks hn hb hplr (hp.trans (hp1.mono (Nat.le_refl _) hn1)) hrd1 hev1 hv1 ho
  ·exact ho.err (by rw [he];rfl) a1 w1 (hp.trans (hp1.mono (Nat.le_refl _) hn1)) hif hk1
  ·exact ho.go (by rw [he];rfl)
 ·have hnp:¬ (Fds.cons lo hi tag df off ty r0).plain=true:=by
   intro hp
   simp only [Fds.plain,Bool.and_eq_true,beq_iff_eq] at hp
   refine ht ⟨hp.1.1.2,?_⟩
   have hh:hi=none:=by cases hi <;> first | rfl | simp at hp
   simp [has,hp.1.1.1.1,hh]
  have hpl':∀ X,RpF w X (.cons lo hi tag df off ty r0) B O (dfFds (.cons lo hi tag df off ty r0)):=by
   rcases hpl with h | h
   ·exact absurd h hnp
   ·exact h
  have hplr:r0.plain=true \/ ∀ X,RpF w X r0 B O (dfFds r0):=.inr fun X=>by obtain ⟨v,vs',he,_,hv⟩:=hpl' X;cases he;exact hv
  have hv0:Far w S fun X=>Rp w X ty B (O + off) (dfTy df ty):=fun X _ _=>by obtain ⟨v,vs',he,hv,_⟩:=hpl' X;cases he;exact hv
  have hrdf:rdFds fx ver (.cons lo hi tag df off ty r0) r=(rdFds fx ver r0 r).bind fun vs r=>.ok (dfTy df ty :: vs) r:=by
   have:(tag.isNone && has lo hi ver)=false:=by
    cases h:(tag.isNone && has lo hi ver) with
    | false=>rfl
    | true=>simp only [Bool.and_eq_true] at h;exact absurd h ht
   simp [rdFds,this]
  rw [hrdf] at ho
  cases htn:tag.isNone with
  | false=>
   simp only [gFds,htn,Bool.false_eq_true,if_false] at hn ⊢
   exact fds_rest h2 hok.2 hdj.1 hdj.2 hrc hc hfl hk (Nat.le_refl _) hks hn hb hplr (Pv.refl _ _ _ _ _) hrc.rd (Evo.refl _ _ _ _) hv0 ho
  | true=>
   have hupT:UpL (gTy g cx ty (ms.headD (.mk [] []))):=up_gTy g ty _ cx
   simp only [gFds,htn,if_true] at hn ⊢
   simp only [gL] at hn
   have hupR:=hup (xl_ g cx lo hi (gS (gTy g cx ty (ms.headD (.mk [] [])))) n).2
   have hupG:n<=(xl_ g cx lo hi (gS (gTy g cx ty (ms.headD (.mk [] [])))) n).2:=by
    have hu:Up (xl_ g cx lo hi (gS (gTy g cx ty (ms.headD (.mk [] []))))):=by
     unfold xl_
     split
     ·exact j4_ (up_S hupT) (q7_ _)
     ·exact up_ite (up_S hupT) (j4_ (up_S hupT) (q7_ _))
    exact hu n
   refine qc_ ?_
   rw [qr_]
   refine s_guard (x:=6) (m:=m) (k0:=k0) (ver:=ver) hrc.sv hc.le hk (by have:=hc.ver;have:=hc.le;omega) (up_S hupT) (by omega) (fun a' n' hp hn1 hn2 hg hhas=>absurd ⟨htn,hhas⟩ ht) (fun a' hp hno=>?_)
   have hs:=hp.size
   exact fds_rest h2 hok.2 hdj.1 hdj.2 hrc hc hfl hk hupG hks hn hb hplr hp hrc.rd (Evo.refl _ _ _ _) hv0 ho
end
section
variable {P:Program} {g:G} {av:PF->Bool} {fl:Bool} {D:Nat->Option (List (Nat × Value))}
theorem LRp.one {w:World} {X:Nat->Prop} {ty:Ty} {cs:List Value} {v:V} (h:LRp w X ty cs v):∀ u ∈ cs,u.oneCell'=true:=by
 cases ty with
 | prim p=>
  cases p
  case bool=>obtain ⟨b,rfl,_⟩:=h;intro u hu;simp at hu;subst hu;rfl
  case uuid=>
   obtain ⟨l,hl,rfl,_⟩:=h
   intro u hu
   obtain ⟨b,_,rfl⟩:=List.mem_map.1 hu
   rfl
  all_goals (obtain ⟨x,rfl,_⟩:=h;intro u hu;simp at hu;subst hu;rfl)
 | str nul=>
  cases nul with
  | none=>obtain ⟨l,rfl,_⟩:=h;intro u hu;simp at hu;subst hu;rfl
  | some m=>
   rcases h with ⟨rfl,_⟩ | ⟨l,b,o,rfl,_⟩ <;> (intro u hu;simp at hu;subst hu;rfl)
 | bytes nul=>
  rcases h with ⟨rfl,_⟩ | ⟨l,b,o,c,rfl,_⟩ <;> (intro u hu;simp at hu;subst hu;rfl)
 | list=>exact h.elim
 | struct=>exact h.elim
theorem rp_leaf {w:World} {X:Nat->Prop} {ty:Ty} {b o:Nat} {v:V} {cs:List Value} (hl:ty.leaf=true) (hc:qy_ w b o cs) (h:LRp w X ty cs v):Rp w X ty b o v:=by
 cases ty <;> first | exact ⟨cs,hc,h⟩ | cases hl
theorem xOk_form {ty:Ty} {x:List Nat} (h:xOk ty x=true):(∃ t,x=[t]/\∃ q,ty=.str (some (q + 1))) \/ (x=[]/\∀ q,ty ≠ .str (some (q + 1))) \/ (∃ t u,x=[t,u]/\∃ p,ty=.prim p/\p ≠ .uuid):=by
 cases ty with
 | prim p=>
  simp only [xOk,Bool.or_eq_true,beq_iff_eq,Bool.and_eq_true,bne_iff_ne] at h
  rcases h with h | ⟨h,hp⟩
  ·exact .inr (.inl ⟨List.length_eq_zero_iff.1 h,fun q hq=>by cases hq⟩)
  ·match x,h with
   | [t,u],_=>exact .inr (.inr ⟨t,u,rfl,p,rfl,hp⟩)
 | str nul=>
  cases nul with
  | none=>simp only [xOk,beq_iff_eq] at h;exact .inr (.inl ⟨List.length_eq_zero_iff.1 h,fun q hq=>by cases hq⟩)
  | some q=>
   cases q with
   | zero=>simp only [xOk,beq_iff_eq] at h;exact .inr (.inl ⟨List.length_eq_zero_iff.1 h,fun q hq=>by cases hq⟩)
   | succ q=>
    simp only [xOk,beq_iff_eq] at h
    obtain ⟨t,rfl⟩:=List.length_eq_one_iff.1 h
    exact .inl ⟨t,rfl,q,rfl⟩
 | _=>simp only [xOk,beq_iff_eq] at h;exact .inr (.inl ⟨List.length_eq_zero_iff.1 h,fun q hq=>by cases hq⟩)
theorem leaf_rd (K0:KB P g av fl) {ty:Ty} (hl:ty.leaf=true) {nm:Nm} {cx:Cx} {fx:Bool} {ver:Int} {S R B O:Nat} {r:RS} {m k0 n T off:Nat} {K E:Act->World->Prop} {a:Act} {w:World} {te:Nat} {x:List Nat} {old:V}
  (hg:gTy g cx ty nm=gVal g cx ty (nm.n 0) x++[gStore (uuOf g ty) cx.s (nm.n 0) (nm.n 1) (nm.n 2) (nm.n 3)]) (hlo:leafOk ⟨P,g,av,D⟩ cx.hf m k0 ty (nm.n 0) x=true) {agg:Bool} (hF:zj_ P (nm.n 1) (nm.n 2) (nm.n 3) off agg ty.sz)
  (huu:uuOf g ty=none \/ (uuOf g ty=some g.tUuid/\jp_ P g.tUuid true ty.sz)) (_hT:nm.n 1=T)
  (hrc:RC g cx fx ver S R B O r a w) (hc:CxOk cx m k0) (hk:k0<=n) (hks:k0<=a.tmps.size) (hn:(gL (gTy g cx ty nm) n).2<=a.tmps.size) (hb:Blk w B (O + off + ty.sz) te)
  (ho:Outs g S R B (fun j=>O + off<=j/\j < O + off + ty.sz) m k0 n a w (zq_ fx ver ty old r) (fun v w'=>Far w S fun X=>Rp w' X ty B (O + off) v) K E):LW P (gTy g cx ty nm) n (Rt K E) a w:=by
 have hRw:R < w.heap.size:=hrc.rd.lt
 have hBw:B < w.heap.size:=hb.lt
 simp only [leafOk,Bool.and_eq_true] at hlo
 obtain ⟨⟨h1,h2⟩,h3⟩:=hlo
 have hvm:m<=nm.n 0/\nm.n 0 < k0:=by simp only [slotsOk,Bool.and_eq_true,decide_eq_true_eq] at h2;exact h2.1
 have hle:=hc.le
 rw [hg] at hn ⊢
 rw [qx_] at hn
 simp only [gL,gStore,qu_] at hn
 have hup:=up_gVal g cx ty (nm.n 0) x n
 refine s_val K0 (ver:=ver) h1 hrc hc hk h2 hks (xOk_form h3) (by omega) fun a1 w1 hp=>?_
 obtain ⟨cs,hp1,hval,hrd1,hk1,hl1⟩:=hp
 have hs1:=hp1.size
 have hlr:=hl1 (fun _=>False) (fun _ h=>h.elim) id
 have hlen:=hlr.len
 obtain ⟨cur,hB,hsz⟩:=hb
 have hB1:w1.heap[B]?=some (.cells cur te (0,0)):=by rw [hk1.block B hBw hrc.BR];exact hB
 have hrc1:RC g cx fx ver S R B O (xi_ fx ver ty r).2 a1 w1:=hrc.step hc hp1 hrd1 hk1 (fun _ _ h=>.inl h)
 refine qc_ (s_store (x:=6) (m:=m) (k0:=k0) (cs:=cs) (cur:=cur) (te:=te) hrc1.ss hF ?_ hlen hlr.one hB1 (by omega) hle (by omega) (by omega) (by omega) fun a2 hp2=>q0_ ?_)
 ·rcases huu with hu | ⟨hu,hU⟩
  ·rw [hu] at hval ⊢;exact hval
  ·rw [hu] at hval ⊢;exact ⟨by rw [hlen];exact hU,hval⟩
 ·have hev:Evo R B (fun j=>O + off<=j/\j < O + off + ty.sz) w1 (w1.setRow B (qt_ cur (O + off) cs)):=Evo.store hB1 (by rw [hlen];omega) (fun j ha hb=>⟨ha,by rw [hlen] at hb;omega⟩)
  refine ho.ok _ _ a2 _ (rdTy_leaf fx ver ty old r hl) (hp1.trans (hp2.mono (Nat.le_refl _) hup)) (hrd1.keep (Keeps.setRow (fun k=>k=B) _ _ _ rfl) (fun h=>hrc.BS h.symm) (fun h=>hrc.BR h.symm))
   ((Evo.of_keeps hk1 (fun _ _ h=>h) hrc.BR).trans hev) fun X hX hS=>?_
  refine rp_leaf hl (fun j c hj=>?_) (((hl1 (fun k=>X k \/ k=B) (fun k hk=>by rcases hk with hk | rfl <;> first | exact hX k hk | exact hBw) (fun hk=>by rcases hk with hk | hk <;> first | exact hS hk | exact hrc.BS hk.symm)).keep
   (Keeps.setRow (fun k=>X k \/ k=B) _ _ _ (.inr rfl))).mono fun k _ hk=>.inl hk)
  have hjl:j < cs.length:=(List.getElem?_eq_some_iff.1 hj).1
  rw [cell_setRow_same _ _ _ _ _ _ _ hB1,jw_ (by omega) j hjl]
  exact hj
theorem ty_prim (K0:KB P g av fl) (p:Prim):RdTy P g av fl D (.prim p):=by
 intro nm cx fx ver S R B O r m k0 n T off old K E a w te hok hrc hc _ hk hks hn hb _ ho
 simp only [okTy,Bool.and_eq_true,beq_iff_eq,Bool.or_eq_true,bne_iff_ne] at hok
 obtain ⟨⟨⟨h1,h2⟩,h3⟩,h4⟩:=hok
 subst h2
 refine leaf_rd (D:=D) (x:=nm.l.drop 4) K0 rfl (by simp only [gTy]) h1 (fldB_ok h3) ?_ rfl hrc hc hk hks hn hb ho
 by_cases hp:p=.uuid
 ·subst hp
  rcases h4 with h | h
  ·exact absurd rfl h
  ·exact .inr ⟨rfl,varB_ok h⟩
 ·exact .inl (by cases p <;> first | rfl | exact absurd rfl hp)
theorem ty_str (K0:KB P g av fl) (nul:Option Nat):RdTy P g av fl D (.str nul):=by
 intro nm cx fx ver S R B O r m k0 n T off old K E a w te hok hrc hc _ hk hks hn hb _ ho
 simp only [okTy,Bool.and_eq_true,beq_iff_eq] at hok
 obtain ⟨⟨h1,h2⟩,h3⟩:=hok
 subst h2
 exact leaf_rd (D:=D) (x:=nm.l.drop 4) K0 rfl (by simp only [gTy,uuOf]) h1 (fldB_ok h3) (.inl rfl) rfl hrc hc hk hks hn hb ho
theorem ty_bytes (K0:KB P g av fl) (nul:Option Nat):RdTy P g av fl D (.bytes nul):=by
 intro nm cx fx ver S R B O r m k0 n T off old K E a w te hok hrc hc _ hk hks hn hb _ ho
 simp only [okTy,Bool.and_eq_true,beq_iff_eq] at hok
 obtain ⟨⟨h1,h2⟩,h3⟩:=hok
 subst h2
 exact leaf_rd (D:=D) (x:=[]) K0 rfl (by simp only [gTy,uuOf]) h1 (fldB_ok h3) (.inl rfl) rfl hrc hc hk hks hn hb ho
theorem Evo.inner {R B R':Nat} {Z Z':Nat->Prop} {w w1 w2:World} (h:Evo R B Z w w1) (k:Evo R' B Z' w1 w2) (hR':w.heap.size<=R'):Evo R B (fun j=>Z j \/ Z' j) w w2:=by
 refine ⟨⟨k.keeps.os.trans h.keeps.os,k.keeps.tape.trans h.keeps.tape,k.keeps.output.trans h.keeps.output,Nat.le_trans h.keeps.size k.keeps.size,fun i hi hx=>?_⟩,fun cs te hc=>?_⟩
 ·rw [k.keeps.block i (Nat.lt_of_lt_of_le hi h.keeps.size) (fun hh=>by rcases hh with rfl | rfl;omega;exact hx (.inr rfl)),h.keeps.block i hi hx]
 ·obtain ⟨c1,h1,h2,h3⟩:=h.blk cs te hc
  obtain ⟨c2,k1,k2,k3⟩:=k.blk c1 te h1
  exact ⟨c2,k1,k2.trans h2,fun j hj=>(k3 j fun hh=>hj (.inr hh)).trans (h3 j fun hh=>hj (.inl hh))⟩
def inner (r:RS):RS:=⟨(qo_ (rUv r).1 (rUv r).2).1.octets,false,(qo_ (rUv r).1 (rUv r).2).1.isNul⟩
def behind (r:RS):RS:=(qo_ (rUv r).1 (rUv r).2).2
end
section
variable (P:Program) (g:G) (av:PF->Bool) (fl:Bool) (D:Nat->Option (List (Nat × Value)))
def RdCase (fs:Fds):Prop:=
 ∀ (ms:List Nm) (cx:Cx) (ver:Int) (S R B O:Nat) (r:RS) (m k0 n T mm key kk:Nat) (dflt:Code) (vs:List V) (A:Nat->Prop) (K E:Act->World->Prop) (a:Act) (w:World) (te:Nat),
  okTagd ⟨P,g,av,D⟩ m k0 T fs ms=true->disjF fs=true->RC g cx true ver S R B O r a w->CxOk cx m k0->cx.hf=true->fl=true->k0<=n->k0<=a.tmps.size->(gCases g key dflt (gTagd g cx fs ms) n).2<=a.tmps.size->Blk w B (O + fs.ext mm) te ->
  a.get key=.int .u32 kk->k0<=key->key < n->A R->A B->(∀ k,A k->k < w.heap.size)->FarA A S (fun X=>RpF w X fs B O vs) ->
  (rdTag true ver fs kk=none->∀ a',Pv 6 m k0 n a a'->a'.get key=.int .u32 kk->NWP P dflt (Rt K E) a' w) ->
  (∀ gf,rdTag true ver fs kk=some gf ->
   (∀ vs' r' a' w',gf vs (inner r)=.ok vs' r'->r'.bad=false->Pv 6 m k0 n a a'->RdS w' g.tR S R (behind r)->Evo R B (fs.In O) w w'->FarA A S (fun X=>RpF w' X fs B O vs')->K a' w') /\
   ((gf vs (inner r)=.err \/ ∃ vs' r',gf vs (inner r)=.ok vs' r'/\r'.bad=true)->∀ a' w',Pv 6 m k0 n a a'->(∃ t y,a'.get 6=.iface t y)->Keeps (fun k=>k=R \/ k=B) w w'->E a' w')/\gf vs (inner r) ≠ .stuck) ->
  NWP P (gCases g key dflt (gTagd g cx fs ms) n).1 (Rt K E) a w
end
section
variable {P:Program} {g:G} {av:PF->Bool} {fl:Bool} {D:Nat->Option (List (Nat × Value))}
theorem case_nil:RdCase P g av fl D .nil:=by
 intro ms cx ver S R B O r m k0 n T mm key kk dflt vs A K E a w te _ _ hrc hc _ _ hk _ _ _ hkey _ _ _ _ _ _ hnone _
 exact hnone rfl a (Pv.refl _ _ _ _ _) hkey
theorem case_rest {lo:Nat} {hi tag:Option Nat} {df:Int} {off:Nat} {ty:Ty} {r0:Fds} (h2:RdCase P g av fl D r0) {ms:List Nm} {cx:Cx} {ver:Int} {S R B O:Nat} {r:RS} {m k0 n n2 T mm key kk:Nat} {dflt:Code} {v:V} {vs:List V} {A:Nat->Prop} {K E:Act->World->Prop} {a a1:Act} {w:World} {te:Nat}
  (hok:okTagd ⟨P,g,av,D⟩ m k0 T r0 ms=true) (hoff:offBy r0 off (off + ty.sz)=true) (hdj:disjF r0=true) (hrc:RC g cx true ver S R B O r a w) (hc:CxOk cx m k0) (hhf:cx.hf=true) (hfl:fl=true) (_hk:k0<=n) (hn2:n<=n2) (hks:k0<=a.tmps.size)
  (hn:(gCases g key dflt (gTagd g cx r0 ms) n2).2<=a.tmps.size) (hb:Blk w B (O + (Fds.cons lo hi tag df off ty r0).ext mm) te) (hp:Pv 6 m k0 n a a1) (hkey:a1.get key=.int .u32 kk) (hk0:k0<=key) (hkn:key < n) (hAR:A R) (hAB:A B) (hA:∀ k,A k->k < w.heap.size)
  (hv:FarA A S fun X=>Rp w X ty B (O + off) v) (hvs:FarA A S fun X=>RpF w X r0 B O vs) (hne:(tag == some kk)=false)
  (hnone:rdTag true ver (.cons lo hi tag df off ty r0) kk=none->∀ a',Pv 6 m k0 n a a'->a'.get key=.int .u32 kk->NWP P dflt (Rt K E) a' w)
  (hsome:∀ gf,rdTag true ver (.cons lo hi tag df off ty r0) kk=some gf ->
   (∀ vs' r' a' w',gf (v :: vs) (inner r)=.ok vs' r'->r'.bad=false->Pv 6 m k0 n a a'->RdS w' g.tR S R (behind r)->Evo R B ((Fds.cons lo hi tag df off ty r0).In O) w w'->FarA A S (fun X=>RpF w' X (.cons lo hi tag df off ty r0) B O vs')->K a' w') /\
   ((gf (v :: vs) (inner r)=.err \/ ∃ vs' r',gf (v :: vs) (inner r)=.ok vs' r'/\r'.bad=true)->∀ a' w',Pv 6 m k0 n a a'->(∃ t y,a'.get 6=.iface t y)->Keeps (fun k=>k=R \/ k=B) w w'->E a' w')/\gf (v :: vs) (inner r) ≠ .stuck) :
  NWP P (gCases g key dflt (gTagd g cx r0 ms) n2).1 (Rt K E) a1 w:=by
 have hs1:=hp.size
 have hout:∀ j,r0.In O j->¬ (O + off<=j/\j < O + off + ty.sz):=fun j hj hh=>z4_ r0 off (off + ty.sz) O j hoff hj ⟨hh.1,by omega⟩
 have hrc1:RC g cx true ver S R B O r a1 w:=hrc.step hc hp hrc.rd (Keeps.refl (fun _=>False) w) (fun _ _ h=>h.elim)
 have hrt:rdTag true ver (.cons lo hi tag df off ty r0) kk=(rdTag true ver r0 kk).map fun g vs r=>(g vs.tail r).bind fun vs' r'=>.ok (vs.headD .nul :: vs') r':=by simp [rdTag,hne]
 rw [hrt] at hnone hsome
 refine h2 ms cx ver S R B O r m k0 n2 T (Nat.max mm (off + ty.sz)) key kk dflt vs A K E a1 w te hok hdj hrc1 hc hhf hfl (by omega) (by omega) (by omega) hb hkey hk0 (by omega) hAR hAB hA hvs (fun h a' hp' hk'=>hnone (by rw [h];rfl) a' (hp.trans (hp'.mono (Nat.le_refl _) hn2)) hk') fun gf hgf=>?_
 obtain ⟨k1,k2,k3⟩:=hsome _ (by rw [hgf];rfl)
 simp only [List.tail_cons,List.headD_cons] at k1 k2 k3
 refine ⟨fun vs' r' a' w' he hbad hp' hrd hev hvs'=>?_,fun he a' w' hp' hif hkp=>?_,fun he=>?_⟩
 ·refine k1 (v :: vs') r' a' w' (by rw [he];rfl) hbad (hp.trans (hp'.mono (Nat.le_refl _) hn2)) hrd (hev.mono fun j hj=>.inr hj) fun X hX hS=>⟨v,vs',rfl,?_,hvs' X hX hS⟩
  exact Rp.evoA hev hAR hAB hrc.SR.symm hrc.BS hb hv (fun j ha hb hj=>hout j hj ⟨ha,hb⟩) X hX hS
 ·refine k2 ?_ a' w' (hp.trans (hp'.mono (Nat.le_refl _) hn2)) hif hkp
  rcases he with he | ⟨vs',r',he,hbad⟩
  ·exact .inl (by rw [he];rfl)
  ·exact .inr ⟨_,r',by rw [he];rfl,hbad⟩
 ·exact k3 (by rw [he];rfl)
theorem case_cons (K0:KB P g av fl) {lo:Nat} {hi tag:Option Nat} {df:Int} {off:Nat} {ty:Ty} {r0:Fds} (h1:RdTy P g av fl D ty) (h2:RdCase P g av fl D r0):RdCase P g av fl D (.cons lo hi tag df off ty r0):=by
 intro ms cx ver S R B O r m k0 n T mm key kk dflt vs A K E a w te hok hdj hrc hc hhf hfl hk hks hn hb hkey hk0 hkn hAR hAB hA hvs hnone hsome
 simp only [okTagd,Bool.and_eq_true] at hok
 simp only [disjF,Bool.and_eq_true] at hdj
 obtain ⟨v,vs',hvv,hv,hvs'⟩:∃ v vs',vs=v :: vs'/\FarA A S (fun X=>Rp w X ty B (O + off) v)/\FarA A S (fun X=>RpF w X r0 B O vs'):=by
  obtain ⟨v,vs',he,_,_⟩:=hvs (fun _=>False) (fun _ h=>h.elim) id
  refine ⟨v,vs',he,fun X hX hS=>?_,fun X hX hS=>?_⟩
  ·obtain ⟨v2,vs2,he2,h,_⟩:=hvs X hX hS
   rw [he] at he2
   cases he2
   exact h
  ·obtain ⟨v2,vs2,he2,_,h⟩:=hvs X hX hS
   rw [he] at he2
   cases he2
   exact h
 subst hvv
 cases tag with
 | none=>
  simp only [gTagd] at hn ⊢
  exact case_rest (tag:=none) (lo:=lo) (hi:=hi) (df:=df) (off:=off) (ty:=ty) h2 hok.2 hdj.1 hdj.2 hrc hc hhf hfl hk (Nat.le_refl _) hks hn hb (Pv.refl _ _ _ _ _) hkey hk0 hkn hAR hAB hA hv hvs' rfl hnone hsome
 | some t=>
  simp only [Bool.and_eq_true,decide_eq_true_eq] at hok
  obtain ⟨⟨⟨⟨ht,hsl⟩,hinl⟩,hoty⟩,hokr⟩:=hok
  generalize hm:ms.headD (.mk [] [])=mh at *
  have hle:=hc.le
  have h66:=hc.six
  have hbm:=hc.b
  have hupr:=up_cases (g:=g) (key:=key) (dflt:=dflt) (l:=gTagd g cx r0 ms.tail) (up_gTagd g r0 ms.tail cx)
  have hupT:=up_gTy g ty (mh.sub 0) { cx with b:=mh.n 0 }
  have hRw:R < w.heap.size:=hrc.rd.lt
  have hBw:B < w.heap.size:=hb.lt
  simp only [gTagd,hm] at hn ⊢
  generalize hbody:(gS ([gInner g cx.b (mh.n 0)]++gTy g { cx with b:=mh.n 0 } ty (mh.sub 0)++[gErrChk g (mh.n 0) (mh.n 1)]):GC)=body at hn ⊢
  have hb2:(body (n + 2)).2=(gL (gTy g { cx with b:=mh.n 0 } ty (mh.sub 0)) (n + 6)).2 + 4:=by
   rw [<- hbody]
   simp only [gS,qx_,gL]
   rfl
  have hn':(gCases g key dflt (gTagd g cx r0 ms.tail) (body (n + 2)).2).2<=a.tmps.size:=hn
  have hupr':=hupr (body (n + 2)).2
  have hupT':=hupT (n + 6)
  refine s_case (x:=6) (m:=m) (k0:=k0) hkey hkn hle hk (by omega) (fun hkt a0 hp0=>?_) (fun hkt a0 hp0 hkey0=>?_)
  ·subst hkt
   have hs0:=hp0.size
   have hrc0:RC g cx true ver S R B O r a0 w:=hrc.step hc hp0 hrc.rd (Keeps.refl (fun _=>False) w) (fun _ _ h=>h.elim)
   obtain ⟨k1,k2,k3⟩:=hsome (fun vs r=>(zq_ true ver ty (vs.headD .nul) r).bind fun v r=>.ok (v :: vs.tail) r) (by simp only [rdTag,BEq.rfl,if_true])
   simp only [List.headD_cons,List.tail_cons] at k1 k2 k3
   rw [<- hbody]
   refine q2_ ?_
   show LW P (gInner g cx.b (mh.n 0) :: (gTy g { cx with b:=mh.n 0 } ty (mh.sub 0)++[gErrChk g (mh.n 0) (mh.n 1)])) (n + 2) (Rt K E) a0 w
   refine qc_ (s_inner K0 hfl hrc0 hc ⟨hsl.1,hsl.2.1⟩ (by omega) (by omega) fun a1 w1 R' hp1 hb1 hR' hrdI hrdO hkR=>?_)
   have hs1:=hp1.size
   have hp01:Pv 6 m k0 n a a1:=hp0.trans (hp1.mono (Nat.le_refl _) (by omega))
   have hev1:Evo R B (fun _=>False) w w1:=Evo.of_keeps hkR (fun _ _ h=>h) hrc.BR
   have herr:ErrAt g.gErr w:=hrc.err
   obtain ⟨te',ye,hce⟩:=herr
   have hgl:=j2_ hce
   have hrcI:RC g { cx with b:=mh.n 0 } true ver S R' B O (inner r) a1 w1:=
    ⟨hrdI,hb1,(hp01.get _ hc.s.2 (.inl hc.s.1)).trans hrc.ss,(hp01.get _ hc.ver.2 (.inl hc.ver.1)).trans hrc.sv,fun _=>(hp01.get _ hc.fx.2 (.inl hc.fx.1)).trans (hrc.sf hhf),fun h=>(by rw [hhf] at h;cases h),
     (hp01.get 2 (by omega) (.inl (by omega))).trans hrc.su,ErrAt.keep ⟨te',ye,hce⟩ hkR hrc.gR,by have:=hrc.Slt;omega,by omega,hrc.BS,by omega,hrc.gB,Nat.lt_of_lt_of_le hrc.Slt hkR.size⟩
   have hcI:CxOk { cx with b:=mh.n 0 } (mh.n 0 + 1) k0:=
    ⟨⟨by simp,by simp only;omega⟩,⟨by have:=hc.s;simp only;omega,hc.s.2⟩,⟨by have:=hc.ver;simp only;omega,hc.ver.2⟩,⟨by have:=hc.fx;simp only;omega,hc.fx.2⟩,by omega,by omega⟩
   have hold:OldOk w1 B (O + off) true ty v:=by
    have hX:∀ X:Nat->Prop,X=(fun _=>False)->Rp w1 X ty B (O + off) v:=fun X hX=>by
     subst hX
     exact Rp.evoA hev1 hAR hAB hrc.SR.symm hrc.BS hb hv (fun _ _ _ h=>h) _ (fun _ h=>h.elim) id
    cases ty with
    | struct nul toff fs=>
     cases nul with
     | none=>exact .inl ⟨hinl,rfl⟩
     | some q=>exact hX _ rfl
    | list nul esz e=>exact hX _ rfl
    | _=>trivial
   have hext:=le_ext r0 (Nat.max mm (off + ty.sz))
   have hext2:off + ty.sz<=Nat.max mm (off + ty.sz):=Nat.le_max_right _ _
   have hb1':=hb.evo hev1
   have hin:(gInner g cx.b (mh.n 0) (n + 2)).2=n + 6:=rfl
   rw [hin]
   refine z5_ ?_
   rw [qr_]
   refine h1 (mh.sub 0) { cx with b:=mh.n 0 } true ver S R' B O (inner r) (mh.n 0 + 1) k0 (n + 6) T off v _ E a1 w1 te (by simp only [hhf];exact hoty) hrcI hcI (fun _=>hfl) (by omega) (by omega) (by omega) (hb1'.mono (by simp only [Fds.ext];omega)) hold
    ⟨fun u r' a2 w2 he hp2 hrd2 hev2 hu=>?_,fun he a2 w2 hp2 hif hk2=>?_,fun he=>?_⟩
   ·have hs2:=hp2.size
    have hgb2:a2.get (mh.n 0)=pt R' 0:=by rw [hp2.get _ (by omega) (.inl (by omega))];exact hb1
    have herr2:ErrAt g.gErr w2:=(ErrAt.keep (ErrAt.keep ⟨te',ye,hce⟩ hkR hrc.gR) hev2.keeps (fun h=>by rcases h with h | h;omega;exact hrc.gB h))
    have hp02:Pv 6 m k0 n a a2:=hp01.trans (hp2.mono (by omega) (by omega))
    have hev02:=hev1.inner hev2 hR'
    refine qc_ ?_
    rw [qr_]
    refine s_errChk (m:=m) (k0:=k0) K0 hfl hgb2 hrd2 herr2 h66 ⟨hsl.2.2.1,hsl.2.2.2⟩ hle (by omega) (by omega) (fun hbad a3 w3 hp3 hif hk3=>?_) (fun hbad a3 w3 hp3 hk3=>q0_ ?_)
    ·exact k2 (.inr ⟨u :: vs',r',by rw [he];rfl,hbad⟩) a3 w3 (hp02.trans (hp3.mono (Nat.le_refl _) (by omega))) hif (hev02.keeps.trans (hk3.mono fun _ _ h=>h.elim))
    ·have hev3:Evo R B (fun _=>False) w2 w3:=Evo.of_keeps hk3 (fun _ _ h=>h.elim) hrc.BR
     have hev03:Evo R B (fun j=>O + off<=j/\j < O + off + ty.sz) w w3:=(hev02.trans (hev3.mono fun _ h=>h.elim)).mono fun j hj=>by rcases hj with h | h;exact h.elim;exact h
     refine k1 (u :: vs') r' a3 w3 (by rw [he];rfl) hbad (hp02.trans (hp3.mono (Nat.le_refl _) (by omega))) ?_ (hev03.mono fun j hj=>.inl hj) fun X hX hS=>⟨u,vs',rfl,?_,?_⟩
     ·exact (hrdO.keep hev2.keeps (fun h=>by rcases h with h | h;(have:=hrc.Slt;omega);exact hrc.BS h.symm) (fun h=>by rcases h with h | h;omega;exact hrc.BR h.symm)).keep hk3 id id
     ·have hu':FarA A S fun X=>Rp w2 X ty B (O + off) u:=fun X hX hS=>hu X (fun k hk=>Nat.lt_of_lt_of_le (hA k (hX k hk)) hkR.size) hS
      exact Rp.evoA hev3 hAR hAB hrc.SR.symm hrc.BS (hb1'.evo hev2) hu' (fun _ _ _ h=>h) X hX hS
     ·exact RpF.evoA hev03 hAR hAB hrc.SR.symm hrc.BS hb hvs' (fun j hj hh=>z4_ r0 off (off + ty.sz) O j hdj.1 hj ⟨hh.1,by omega⟩) X hX hS
   ·refine k2 (.inl (by rw [he];rfl)) a2 w2 (hp01.trans (hp2.mono (by omega) (by omega))) hif ?_
    exact ⟨hk2.os.trans hkR.os,hk2.tape.trans hkR.tape,hk2.output.trans hkR.output,Nat.le_trans hkR.size hk2.size,fun i hi hx=>by
     rw [hk2.block i (Nat.lt_of_lt_of_le hi hkR.size) (fun hh=>by rcases hh with rfl | rfl;omega;exact hx (.inr rfl)),hkR.block i hi (fun hh=>hx (.inl hh))]⟩
   ·exact k3 (by rw [he];rfl)
  ·have hup:n<=(body (n + 2)).2:=by omega
   exact case_rest (tag:=some t) (lo:=lo) (hi:=hi) (df:=df) (off:=off) (ty:=ty) h2 hokr hdj.1 hdj.2 hrc hc hhf hfl hk hup hks hn' hb hp0 hkey0 hk0 hkn hAR hAB hA hv hvs' (by simp;omega) hnone hsome
end
def Fds.Zn (fs:Fds) (toff:Option Nat) (O j:Nat):Prop:=fs.In O j \/ ∃ o,toff=some o/\j=O + o
theorem zn_ext {fs:Fds} {toff:Option Nat} {O j:Nat} (h:fs.Zn toff O j):O<=j/\j < O + fs.ext (zo_ toff):=by
 rcases h with h | ⟨o,rfl,rfl⟩
 ·exact in_ext fs _ O j h
 ·have:o + 1<=fs.ext (o + 1):=le_ext fs (o + 1)
  have e:fs.ext (zo_ (some o))=fs.ext (o + 1):=rfl
  omega
def TgNil (w:World) (B O:Nat) (toff:Option Nat):Prop:=match toff with | some k=>w.cell? ⟨B,O + k,none⟩=some (.map none) | none=>True
theorem TgNil.at {w:World} {B O:Nat} {toff:Option Nat} (h:TgNil w B O toff) (X:Nat->Prop):TgAt w X B O toff []:=by
 cases toff with
 | none=>rfl
 | some k=>exact ⟨_,h,.inl ⟨rfl,rfl⟩⟩
section
variable (P:Program) (g:G) (av:PF->Bool) (fl:Bool) (D:Nat->Option (List (Nat × Value)))
def RdSt (fs:Fds):Prop:=
 ∀ (nm:Nm) (cx:Cx) (fx:Bool) (ver:Int) (S R B O:Nat) (r:RS) (m k0 n T kt:Nat) (toff:Option Nat) (K E:Act->World->Prop) (a:Act) (w:World) (te:Nat),
  okSt ⟨P,g,av,D⟩ cx.hf m k0 T kt toff fs nm (okFds ⟨P,g,av,D⟩ cx.hf m k0 T fs nm.s) (okTagd ⟨P,g,av,D⟩ (nm.n 1 + 1) k0 T fs nm.s)=true->RC g cx fx ver S R B O r a w->CxOk cx m k0->(cx.hf=true->fl=true)->k0<=n->k0<=a.tmps.size ->
  (gL (gStOf g cx fs.tagged T kt nm (gFds g cx fs nm.s) (gTagd g cx fs nm.s)) n).2<=a.tmps.size->Blk w B (O + fs.ext (zo_ toff)) te ->
  ((fs.plain=true/\fx=true) \/ ((∀ X,RpF w X fs B O (dfFds fs))/\TgNil w B O toff)) ->
  Outs g S R B (fs.Zn toff O) m k0 n a w (jb_ fx fs.tagged (rdFds fx ver fs) (rdTag fx ver fs) r)
   (fun v w'=>∃ vs t,v=.st vs t/\Far w S (fun X=>RpF w' X fs B O vs)/\Far w S (fun X=>TgAt w' X B O toff t)) K E ->
  LW P (gStOf g cx fs.tagged T kt nm (gFds g cx fs nm.s) (gTagd g cx fs nm.s)) n (Rt K E) a w
end
section
variable {P:Program} {g:G} {av:PF->Bool} {fl:Bool} {D:Nat->Option (List (Nat × Value))}
theorem plain_untagged:∀ (fs:Fds),fs.plain=true->fs.tagged=false
 | .nil,_=>rfl
 | .cons lo hi tag df off ty r,h=>by
  simp only [Fds.plain,Bool.and_eq_true] at h
  have ht:tag=none:=by cases tag <;> first | rfl | simp at h
  simp [Fds.tagged,ht,plain_untagged r h.2]
def TagI (g:G) (S R B O o:Nat) (fs:Fds) (ver:Int) (w0:World) (out:Out V) (c:Nat) (w:World):Prop:=
 ∃ (vs:List V) (t:List (Nat × Bs)) (r:RS) (mm:Value),out=qq_ (rdTag true ver fs) c vs t r/\RdS w g.tR S R r/\Evo R B (fun j=>fs.In O j \/ j=O + o) w0 w/\w.cell? ⟨B,O + o,none⟩=some mm /\
  ((mm=.map none/\t=[]) \/ ∃ q,mm=.map (some q)/\w0.heap.size<=q/\q < w.heap.size) /\
  FarA (fun k=>k < w0.heap.size \/ mm=.map (some k)) S (fun X=>RpF w X fs B O vs)/\FarA (· < w0.heap.size) S (fun X=>TgAt w X B O (some o) t)
theorem tagI_unknown {S R B O o:Nat} {fs:Fds} {w0 w w':World} {vs:List V} {t t':List (Nat × Bs)} {mm:Value} {q te:Nat} {cur:Array Value} (hRw:R < w0.heap.size) (hBw:B < w0.heap.size) (hSw:S < w0.heap.size) (hRS:R ≠ S) (hBS:B ≠ S) (hBR:B ≠ R)
  (hev:Evo R B (fun j=>fs.In O j \/ j=O + o) w0 w) (hB:w.heap[B]?=some (.cells cur te (0,0))) (hoff:offBy fs o (o + 1)=true) (hO:O + o < cur.size)
  (hmm:(mm=.map none/\t=[]) \/ ∃ p,mm=.map (some p)/\w0.heap.size<=p/\p < w.heap.size)
  (hF:FarA (fun k=>k < w0.heap.size \/ mm=.map (some k)) S (fun X=>RpF w X fs B O vs)) (hT:FarA (· < w0.heap.size) S (fun X=>TgRp w X mm t))
  (hq0:mm=.map none->w.heap.size<=q) (hq1:∀ p,mm=.map (some p)->q=p) (hk:Keeps (fun b=>b=R \/ b=B \/ b=q) w w') (hB':w'.heap[B]?=some (.cells (cur.setIfInBounds (O + o) (.map (some q))) te (0,0)))
  (hset:∀ X:Nat->Prop,¬ X q->(∀ k,X k->k < w.heap.size)->¬ X S->TgRp w (fun k=>X k \/ k=R) mm t->TgRp w' X (.map (some q)) t') :
  Evo R B (fun j=>fs.In O j \/ j=O + o) w0 w'/\w'.cell? ⟨B,O + o,none⟩=some (.map (some q))/\w0.heap.size<=q/\q < w'.heap.size /\
  FarA (fun k=>k < w0.heap.size \/ Value.map (some q)=.map (some k)) S (fun X=>RpF w' X fs B O vs)/\FarA (· < w0.heap.size) S (fun X=>TgAt w' X B O (some o) t'):=by
 have hsz:=hev.keeps.size
 have hqw:w0.heap.size<=q:=by
  rcases hmm with ⟨h,_⟩ | ⟨p,h,hp,_⟩
  ·exact Nat.le_trans hsz (hq0 h)
  ·rw [hq1 p h];exact hp
 have hcell:w'.cell? ⟨B,O + o,none⟩=some (.map (some q)):=by
  simp [World.cell?,hB',hO]
 have hTg:FarA (· < w0.heap.size) S (fun X=>TgRp w' X (.map (some q)) t'):=fun X hX hS=>by
  refine hset X (fun hXq=>?_) (fun k hk=>Nat.lt_of_lt_of_le (hX k hk) hsz) hS (hT _ (fun k hk=>by rcases hk with hk | rfl;exact hX k hk;exact hRw) (fun hk=>by rcases hk with hk | hk;exact hS hk;exact hRS hk.symm))
  have:=hX q hXq
  simp only at this
  omega
 have hqlt:q < w'.heap.size:=by
  rcases hTg (fun _=>False) (fun _ h=>h.elim) id with ⟨h,_⟩ | ⟨r,h,_,hr,_⟩
  ·cases h
  ·cases h;exact hr
 have hcellIn:∀ j,fs.In O j->w'.cell? ⟨B,j,none⟩=w.cell? ⟨B,j,none⟩:=fun j hj=>by
  have hne:O + o ≠ j:=fun h=>z4_ fs o (o + 1) O j hoff hj ⟨by omega,by omega⟩
  simp [World.cell?,hB,hB',hne]
 refine ⟨⟨⟨hk.os.trans hev.keeps.os,hk.tape.trans hev.keeps.tape,hk.output.trans hev.keeps.output,Nat.le_trans hsz hk.size,fun i hi hx=>?_⟩,fun cs te' hc=>?_⟩,hcell,hqw,hqlt,fun X hX hS=>?_,fun X hX hS=>⟨_,hcell,hTg X hX hS⟩⟩
 ·rw [hk.block i (Nat.lt_of_lt_of_le hi hsz) (fun h=>by rcases h with h | h | h;exact hx (.inl h);exact hx (.inr h);omega),hev.keeps.block i hi hx]
 ·obtain ⟨c1,h1,h2,h3⟩:=hev.blk cs te' hc
  rw [hB] at h1
  obtain ⟨rfl,rfl,_⟩:=Obj.cells.inj (Option.some.inj h1)
  refine ⟨_,hB',by simpa using h2,fun j hj=>?_⟩
  rw [Array.getElem?_setIfInBounds,if_neg (fun h=>hj (.inr h.symm))]
  exact h3 j hj
 ·have h1:=hF (fun k=>(X k/\(k < w0.heap.size \/ mm=.map (some k))) \/ k=R \/ k=B \/ (mm=.map (some q)/\k=q)) (fun k hk=>by
   rcases hk with hk | rfl | rfl | ⟨hm,rfl⟩
   ·exact hk.2
   ·exact .inl hRw
   ·exact .inl hBw
   ·exact .inr hm) (fun hk=>by
   rcases hk with hk | hk | hk | ⟨_,hk⟩
   ·exact hS hk.1
   ·exact hRS hk.symm
   ·exact hBS hk.symm
   ·omega)
  have h2:RpF w (fun k=>X k \/ k=R \/ k=B \/ k=q) fs B O vs:=RpF.mono (fun k hkw hk=>by
   have hqk:k=q->mm=.map (some q):=fun he=>by
    rcases hmm with ⟨h,_⟩ | ⟨p,h,_,_⟩
    ·have:=hq0 h;omega
    ·rw [h,hq1 p h]
   rcases hk with hk | hk | hk | hk
   ·refine .inl ⟨hk,?_⟩
    rcases hX k hk with h | h
    ·exact .inl h
    ·simp only [Value.map.injEq,Option.some.injEq] at h
     subst h
     exact .inr (hqk rfl)
   ·exact .inr (.inl hk)
   ·exact .inr (.inr (.inl hk))
   ·exact .inr (.inr (.inr ⟨hqk hk,hk⟩))) fs B O vs h1
  have h3:=RpF.frameIn (hk.mono fun k _ hk=>.inr hk) fs B O vs h2 hcellIn
  exact RpF.mono (fun k _ hk=>.inl hk) fs B O vs h3
theorem cxOk_up {cx:Cx} {m m' k0:Nat} (h:CxOk cx m k0) (hm:m<=m') (hk:m'<=k0):CxOk cx m' k0:=
 ⟨⟨by have:=h.b;omega,h.b.2⟩,⟨by have:=h.s;omega,h.s.2⟩,⟨by have:=h.ver;omega,h.ver.2⟩,⟨by have:=h.fx;omega,h.fx.2⟩,by have:=h.six;omega,hk⟩
theorem tag_body (K0:KB P g av fl) {fs:Fds} (h2:RdCase P g av fl D fs) {nm:Nm} {cx:Cx} {ver:Int} {S R B O o:Nat} {r0:RS} {m k0 n T kt _mm:Nat} {E:Act->World->Prop} {a a1:Act} {w0 w1:World} {te:Nat} {out:Out V} {c:Nat} {i:Nat}
  (hok:okTagd ⟨P,g,av,D⟩ (nm.n 1 + 1) k0 T fs nm.s=true) (hdj:disjF fs=true) (hF:zj_ P T kt g.tTags o true 1) (hoff:offBy fs o (o + 1)=true) (hsl:m<=i/\i < nm.n 1/\nm.n 1 < k0) (hrc:RC g cx true ver S R B O r0 a w0) (hc:CxOk cx m k0) (hhf:cx.hf=true) (hfl:fl=true) (hk:k0<=n) (hks:k0<=a.tmps.size)
  (hn:((gS [qm_ g.uv cx.b (nm.n 1),gSwitch g cx (nm.n 1) (nm.n 4) T kt (gTagd g cx fs nm.s)]:GC) (n + 5)).2<=a.tmps.size) (hb:Blk w0 B (O + fs.ext (o + 1)) te) (hp1:Pv 6 i k0 n a a1) (hI:TagI g S R B O o fs ver w0 out (c + 1) w1) (hgo:out ≠ .stuck)
  (hE:out=.err->∀ a' w',Pv 6 m k0 n a a'->(∃ t y,a'.get 6=.iface t y)->Keeps (fun k=>k=R \/ k=B) w0 w'->E a' w') :
  NWP P ((gS [qm_ g.uv cx.b (nm.n 1),gSwitch g cx (nm.n 1) (nm.n 4) T kt (gTagd g cx fs nm.s)]:GC) (n + 5)).1 (Rt (fun a2 w2=>Pv 6 (i + 1) k0 (n + 5) a1 a2/\TagI g S R B O o fs ver w0 out c w2) E) a1 w1:=by
 obtain ⟨vs,t,r,cell,hout,hrd,hev,hcell,hmm,hRF,hTF⟩:=hI
 have hRw:R < w0.heap.size:=hrc.rd.lt
 have hBw:B < w0.heap.size:=hb.lt
 have hs1:=hp1.size
 have h66:=hc.six
 have hrc1:RC g cx true ver S R B O r a1 w1:=hrc.step hc (hp1.mono hsl.1 (Nat.le_refl _)) hrd hev.keeps (fun _ _ h=>h)
 have hci:CxOk cx (i + 1) k0:=cxOk_up hc (by omega) (by omega)
 have hck:CxOk cx (nm.n 1 + 1) k0:=cxOk_up hc (by omega) (by omega)
 have hn':(gCases g (n + 6) (z0_ g cx (nm.n 1) T kt (n + 6 + 1)) (gTagd g cx fs nm.s) (n + 6 + 9)).2<=a.tmps.size:=hn
 have hupc:=up_cases (g:=g) (key:=n + 6) (dflt:=z0_ g cx (nm.n 1) T kt (n + 6 + 1)) (l:=gTagd g cx fs nm.s) (up_gTagd g fs nm.s cx) (n + 6 + 9)
 refine q2_ (qc_ (s_call (x:=6) (m:=i + 1) (k0:=k0) (K0.uvE hfl) hrc1.sb (K0.uvC hfl w1 S R r hrc1.rd hrc1.SR) (.inr ⟨by omega,hsl.2.2⟩) (by omega) (by omega) (by omega) (by omega) fun e w2 hR=>?_))
 obtain ⟨he,hrd2,hk2⟩:=hR
 refine ⟨_,he,fun a2 hp2 hg2=>?_⟩
 have hs2:=hp2.size
 have hrc2:RC g cx true ver S R B O (rUv r).2 a2 w2:=hrc1.step hci hp2 hrd2 hk2 (fun _ _ h=>.inl h)
 have hp02:Pv 6 i k0 n a a2:=hp1.trans (hp2.mono (by omega) (by omega))
 have hev2:Evo R B (fun j=>fs.In O j \/ j=O + o) w0 w2:=hev.trans (Evo.of_keeps hk2 (fun _ _ h=>h) hrc.BR)
 have hev12:Evo R B (fun _=>False) w1 w2:=Evo.of_keeps hk2 (fun _ _ h=>h) hrc.BR
 have hb1:=hb.evo hev
 have hb2:=hb.evo hev2
 have hkk:=rUv_lt r
 have hsz01:=hev.keeps.size
 have hsz12:=hk2.size
 have hcell2:w2.cell? ⟨B,O + o,none⟩=some cell:=by
  obtain ⟨cur,hcu,_⟩:=hb1
  rw [hev12.cell hcu id];exact hcell
 have hAw:∀ k,(k < w0.heap.size \/ cell=.map (some k))->k < w2.heap.size:=fun k hk=>by
  rcases hk with hk | hk
  ·omega
  ·rcases hmm with ⟨h,_⟩ | ⟨q,h,_,hq⟩
   ·rw [h] at hk;cases hk
   ·rw [h] at hk;cases hk;omega
 have hRF2:FarA (fun k=>k < w0.heap.size \/ cell=.map (some k)) S (fun X=>RpF w2 X fs B O vs):=RpF.evoA hev12 (.inl hRw) (.inl hBw) hrc.SR.symm hrc.BS hb1 hRF (fun _ _ h=>h)
 have hTF2:FarA (· < w0.heap.size) S (fun X=>TgAt w2 X B O (some o) t):=TgAt.evoA hev12 hRw hBw hrc.SR.symm hrc.BS hb1 hTF (fun _ _ h=>h)
 refine qc_ ?_
 rw [qr_,show (qm_ g.uv cx.b (nm.n 1) (n + 5)).2=n + 6 from rfl]
 refine .seq (R:=Rt (fun a3 w3=>Pv 6 k0 k0 (n + 6) a2 a3/\a3.get (n + 6)=.int .u32 ((rUv r).1:Nat)/\w3=w2) E) (.reg (qd_ (wpList_nil ?_))) (fun a3 w3 hh=>?_) (fun e a w he hq=>by cases e <;> first | exact absurd rfl he | exact hq)
 ·rw [qb_,hg2]
  exact ⟨(Pv.refl _ _ _ _ _).put _ (by omega),gpe (by omega),rfl⟩
 obtain ⟨hp3',hg3,rfl⟩:=hh
 have hp3:Pv 6 (i + 1) k0 (n + 6) a2 a3:=hp3'.low (by omega)
 have hkey3:a3.get (nm.n 1)=.int .u32 ((rUv r).1:Nat):=(hp3'.get _ (by omega) (.inl hsl.2.2)).trans hg2
 have hs3:=hp3.size
 have hp03:Pv 6 i k0 n a a3:=hp02.trans (hp3.mono (by omega) (by omega))
 have hp13:Pv 6 (i + 1) k0 (n + 5) a1 a3:=hp2.trans (hp3.mono (Nat.le_refl _) (by omega))
 have hrc3:RC g cx true ver S R B O (rUv r).2 a3 w3:=hrc2.step hci hp3 hrc2.rd (Keeps.refl (fun _=>False) w3) (fun _ _ h=>h.elim)
 have hcells:(qm_ g.uv cx.b (nm.n 1) (n + 5)).2=n + 6:=rfl
 refine .block (.mono (Q:=Exit.inBlock (nm.n 4) (Rt (LW P [] _ (Rt _ E)) E)) (R:=Rt (fun a4 w4=>Pv 6 (i + 1) k0 (n + 5) a1 a4/\TagI g S R B O o fs ver w0 out c w4) E) ?_ fun e a w hq=>by cases e <;> first | exact q0_ hq | exact hq | exact hq.elim)
 show NWP P (gCases g (n + 6) (z0_ g cx (nm.n 1) T kt (n + 6 + 1)) (gTagd g cx fs nm.s) (n + 6 + 9)).1 _ a3 w3
 refine h2 nm.s cx ver S R B O (rUv r).2 (nm.n 1 + 1) k0 (n + 6 + 9) T (o + 1) (n + 6) (rUv r).1 _ vs (fun k=>k < w0.heap.size \/ cell=.map (some k)) _ E a3 w3 te hok hdj hrc3 hck hhf hfl (by omega) (by omega) (by omega) hb2 hg3 (by omega) (by omega) (.inl hRw) (.inl hBw) hAw hRF2
  (fun hnone a4 hp4 hg4=>?_) (fun gf hgf=>⟨fun vs' r' a4 w4 he hbad hp4 hrd4 hev4 hRF4=>?_,fun he a4 w4 hp4 hif hk4=>?_,fun he=>?_⟩)
 ·-- an unknown tag
  have hs4:=hp4.size
  have hrc4:RC g cx true ver S R B O (rUv r).2 a4 w3:=hrc3.step hck hp4 hrc3.rd (Keeps.refl (fun _=>False) w3) (fun _ _ h=>h.elim)
  obtain ⟨cur,hcu,hcus⟩:=hb2
  have hext:=le_ext fs (o + 1)
  have hcO:cur[O + o]?=some cell:=by
   have:=hcell2
   simpa [World.cell?,hcu] using this
  have hTg:FarA (· < w0.heap.size) S (fun X=>TgRp w3 X cell t):=fun X hX hS=>by
   obtain ⟨m',hm',hT'⟩:=hTF2 X hX hS
   rw [hcell2] at hm'
   cases hm'
   exact hT'
  have hRt:∀ {K':Act->World->Prop},NWP P (z0_ g cx (nm.n 1) T kt (n + 6 + 1)) (Exit.then K' (Rt K' E)) a4 w3->NWP P (z0_ g cx (nm.n 1) T kt (n + 6 + 1)) (Rt K' E) a4 w3:=fun h=>by rwa [qr_] at h
  refine hRt (s_unknown (m:=i + 1) (k0:=k0) (cur:=cur) (te:=te) (mm:=cell) (t:=t) K0 hfl hrc4 hci hF ((hp4.get _ (by omega) (.inl (by omega))).trans hkey3) hkk hcu hcO (hTg _ (fun k hk=>by rcases hk with rfl | rfl;exact hBw;exact hRw) (fun hk=>by rcases hk with hk | hk;exact hrc.BS hk.symm;exact hrc.SR hk)) (fun p hp=>?_) (by omega) (by omega) (by omega)
   fun a5 w5 q hp5 hrd5 hq0 hq1 hk5 hB5 hset=>?_)
  ·rcases hmm with ⟨h,_⟩ | ⟨q,h,hq,_⟩
   ·rw [h] at hp;cases hp
   ·rw [h] at hp;cases hp
    have:=hrc.Slt
    omega
  ·have hmm3:(cell=.map none/\t=[]) \/ ∃ p,cell=.map (some p)/\w0.heap.size<=p/\p < w3.heap.size:=by
    rcases hmm with h | ⟨q,h,hq,hq2⟩
    ·exact .inl h
    ·exact .inr ⟨q,h,hq,by omega⟩
   obtain ⟨e1,e2,e3,e4,e5,e6⟩:=tagI_unknown hRw hBw hrc.Slt hrc.SR.symm hrc.BS hrc.BR hev2 hcu hoff (by omega) hmm3 hRF2 hTg hq0 hq1 hk5 hB5 hset
   refine ⟨hp13.trans ((hp4.mono (by omega) (by omega)).trans (hp5.mono (Nat.le_refl _) (by omega))),vs,_,_,.map (some q),?_,hrd5,e1,e2,.inr ⟨q,rfl,e3,e4⟩,e5,e6⟩
   rw [hout]
   simp only [qq_,hnone]
 ·-- a known tag
  have hout':out=qq_ (rdTag true ver fs) c vs' t (behind (rUv r).2):=by
   rw [hout]
   have he':=he
   simp only [inner] at he'
   simp only [qq_,hgf,he',hbad,behind]
   simp
  have hcell4:w4.cell? ⟨B,O + o,none⟩=some cell:=by
   obtain ⟨cur,hcu,_⟩:=hb2
   rw [hev4.cell hcu (fun h=>z4_ fs o (o + 1) O (O + o) hoff h ⟨by omega,by omega⟩)];exact hcell2
  refine ⟨hp13.trans (hp4.mono (by omega) (by omega)),vs',t,behind (rUv r).2,cell,hout',hrd4,hev2.trans (hev4.mono fun j hj=>.inl hj),hcell4,?_,hRF4,?_⟩
  ·rcases hmm with h | ⟨q,h,hq,hq2⟩
   ·exact .inl h
   ·exact .inr ⟨q,h,hq,by have:=hev4.keeps.size;omega⟩
  ·exact TgAt.evoA hev4 hRw hBw hrc.SR.symm hrc.BS hb2 hTF2 (fun k hk h=>by cases hk;exact z4_ fs o (o + 1) O (O + o) hoff h ⟨by omega,by omega⟩)
 ·-- it fails
  refine hE ?_ a4 w4 (hp03.mono hsl.1 (Nat.le_refl _) |>.trans (hp4.mono (by omega) (by omega))) hif (hev2.keeps.trans hk4)
  rw [hout]
  rcases he with he | ⟨vs',r',he,hbad⟩
  ·simp only [inner] at he
   simp only [qq_,hgf,he]
  ·simp only [inner] at he
   simp only [qq_,hgf,he,hbad,if_true]
 ·refine hgo ?_
  rw [hout]
  simp only [inner] at he
  simp only [qq_,hgf,he]
end
end Go.Proofs.YtlmanancakaapaaGreatDoor.Kx
