/-
  PLAIN LAWS AND CONTRACTS of messages, part 8 of 12: how readers and writers are printed, what they do, what the reference writes, and that what is written is read as the same. Nothing of a statement stands here.
-/
import Derived.Test.YtlnmiphokmhajaaK1
import Derived.Test.YtlnmiphokmhajaaK2
import Derived.Test.YtlnmiphokmhajaaK3
import Derived.Test.YtlnmiphokmhajaaK4
import Derived.Test.YtlnmiphokmhajaaK5
import Derived.Test.YtlnmiphokmhajaaK7
import Derived.KernelRfl
import Derived.MapFrom
import Derived.ChangeKeysEq

namespace Go.Proofs.Ytlnmiphokmhajaa.Kx
inductive Tr where
 | mk (n:Int) (s:Bs) (null:Bool) (l:List Tr) (u:List (UInt32 × Bs))
def Tr.num:Tr->Int | .mk n _ _ _ _=>n
def Tr.null:Tr->Bool | .mk _ _ b _ _=>b
def Tr.list:Tr->List Tr | .mk _ _ _ l _=>l
def Tr.zero:Tr:=.mk 0 [] false [] []
def Tr.at (t:Tr) (i:Nat):Tr:=t.list.getD i .zero
inductive SFs where
 | nil
 | cons (kind:Nat) (lo hi nul tag df:Int) (of:Nat) (sub:SFs) (r:SFs)
section
variable {P:Program} {te:Nat}
theorem SlRp.form {w:World} {X:Nat->Prop} {v:Value} {l:Bs} (h:SlRp w X v l):∃ base c,v=.slice base l.length c/\(l=[] \/ ∃ b o,base=some ⟨b,o,none⟩/\OctAt w b o l):=by
 rcases h with ⟨rfl,rfl⟩ | ⟨b,o,c,rfl,_,_,_,_,ho⟩
 ·exact ⟨none,0,rfl,.inl rfl⟩
 ·exact ⟨some ⟨b,o,none⟩,c,rfl,.inr ⟨b,o,rfl,ho⟩⟩
theorem same_calls (hm:P.follows .mixedOrders=true) {f nt tSl tU8 tInt:Nat} (ot:OctT P tSl tU8) (h8:VarIs P tU8 false 1) (hfn:FnIs P f nt [4] (cSame tSl tU8 tInt)) (hnt:26<=nt) {w:World} {X:Nat->Prop} {va vb:Value} {la lb:Bs} (ha:SlRp w X va la) (hb:SlRp w X vb lb) (hla:la.length<=maxLen) :
  Calls P f #[va,vb] w fun e w'=>e=.returned (.bool (decide (la=lb)))/\qd_ (fun _=>False) w w':=by
 obtain ⟨ba,ca,rfl,hoa⟩:=ha.form
 obtain ⟨bb,cb,rfl,hob⟩:=hb.form
 refine callsA hm hfn (by simp) [_,_] (by simp;omega) fun a harg hs hd=>?_
 have g0:=harg 0 _ rfl
 have g1:=harg 1 _ rfl
 have retF:∀ (a1:Act) (w1:World) (N:Act->World->Prop) (b:Bool),a1.tmps.size=nt->a1.defers=[]->qd_ (fun _=>False) w w1->b=decide (la=lb)->NWP P (retB b) (Rt N (fun a' w'=>a'.defers=[]/\(Ending.returned (retOf [4] a')=.returned (.bool (decide (la=lb)))/\qd_ (fun _=>False) w w'))) a1 w1:=by
  intro a1 w1 N b hs1 hd1 hk hbb
  refine nwp_sq_cons (cs:=[.ret]) (nwp_rg (qn_ (wpList_nil (.ret ⟨?_,?_,hk⟩))))
  ·simp only [qg_];exact hd1
  ·rw [retOf_one,gpe (by omega),hbb]
   rfl
 unfold cSame
 refine nwp_sq_cons (nwp_rg (qn_ (wpList_nil ?_)))
 refine nwp_sq_cons ?_
 rw [then_rt]
 have htest:∀ (b:Bool),b=decide (la.length ≠ lb.length)->∀ (Y:Act->World->Prop) (E:Act->World->Prop),(∀ a1,a1.get 10=.bool b->a1.get 0=.slice ba la.length ca->a1.get 1=.slice bb lb.length cb->a1.tmps.size=nt->a1.defers=[]->Y a1 w) ->
   NWP P (rg [mk (some 6) (.move (tm 0)),bi (some 7) .len [tm 6] [tSl] tInt,mk (some 8) (.move (tm 1)),bi (some 9) .len [tm 8] [tSl] tInt,mk (some 10) (.binOp .neq tInt (tm 7) (tm 9) 0)]) (Rt Y E) (a.put (some 4) (Act.eval a (.const (.bool false)))) w:=by
  intro b hbb Y E hY
  refine .reg (qy_ ?_)
  rw [qe_,gpo (by omega),g0]
  refine wl_len (base:=ba) (n:=la.length) (c:=ca) (by rw [qe_,gpe (by simp only [qb_];omega)]) ot.und (qy_ ?_)
  rw [qe_,gpo (by omega),gpo (by omega),gpo (by omega),g1]
  refine wl_len (base:=bb) (n:=lb.length) (c:=cb) (by rw [qe_,gpe (by simp only [qb_];omega)]) ot.und ?_
  refine wl_cmp (b:=b) (p:=la.length) (q:=lb.length) (k:=.i64) (by rw [qe_,gpo (by omega),gpo (by omega),gpe (by simp only [qb_];omega)]) (by rw [qe_,gpe (by simp only [qb_];omega)]) (.inr (.inr (.inr (.inr (.inr ⟨rfl,by rw [hbb];exact decide_eq_decide.2 (by omega)⟩))))) (wpList_nil (hY _ ?_ ?_ ?_ ?_ ?_))
  ·rw [gpe (by simp only [qb_];omega)]
  ·rw [gpo (by omega),gpo (by omega),gpo (by omega),gpo (by omega),gpo (by omega),gpo (by omega)];exact g0
  ·rw [gpo (by omega),gpo (by omega),gpo (by omega),gpo (by omega),gpo (by omega),gpo (by omega)];exact g1
  ·simp only [qb_];exact hs
  ·simp only [qg_];exact hd
 by_cases hne:la.length ≠ lb.length
 ·refine .seq (htest true (by simp [hne]) _ _ fun a1 h10 _ _ hs1 hd1=>?_) (fun a1 w1 hh=>hh) (fun e a w he hq=>by cases e <;> first | exact absurd rfl he | exact hq | exact hq.elim)
  refine .condT h10 (retF a1 w _ false hs1 hd1 (qd_.refl _ _) ?_)
  have:la ≠ lb:=fun h=>hne (by rw [h])
  simp [this]
 have hlen:la.length=lb.length:=by omega
 refine .seq (htest false (by simp [hlen]) _ _ fun a1 h10 e0 e1 hs1 hd1=>?_) (fun a1 w1 hh=>hh) (fun e a w he hq=>by cases e <;> first | exact absurd rfl he | exact hq | exact hq.elim)
 refine .condF h10 (.skip (nwp_sq_cons ?_))
 rw [then_rt]
 refine .seq (R:=Rt (fun a2 w2=>a2.get 0=.slice ba la.length ca/\a2.get 1=.slice bb lb.length cb/\a2.get 12=.int .i64 (la.length:Int)/\a2.get 13=.int .i64 ((0:Nat):Int)/\a2.tmps.size=nt/\a2.defers=[]/\w2=w) fun _ _=>False) (.reg (qy_ ?_)) (fun a2 w2 hh=>?_) (fun e a w he hq=>by cases e <;> first | exact absurd rfl he | exact hq.elim)
 ·rw [qe_,e0]
  refine wl_len (base:=ba) (n:=la.length) (c:=ca) (by rw [qe_,gpe (by omega)]) ot.und (qy_ (wpList_nil ⟨?_,?_,?_,?_,?_,?_,rfl⟩))
  ·rw [gpo (by omega),gpo (by omega),gpo (by omega)];exact e0
  ·rw [gpo (by omega),gpo (by omega),gpo (by omega)];exact e1
  ·rw [gpo (by omega),gpe (by simp only [qb_];omega)]
  ·rw [gpe (by simp only [qb_];omega)];rfl
  ·simp only [qb_];exact hs1
  ·simp only [qg_];exact hd1
 obtain ⟨e0,e1,e12,e13,hs2,hd2,rfl⟩:=hh
 refine .block (.loop (fun a3 w3=>∃ j:Nat,j<=la.length/\a3.get 0=.slice ba la.length ca/\a3.get 1=.slice bb lb.length cb/\a3.get 12=.int .i64 (la.length:Int)/\a3.get 13=.int .i64 (j:Int)/\a3.tmps.size=nt/\a3.defers=[]/\qd_ (fun _=>False) w2 w3/\la.take j=lb.take j)
  (fun a3 _=>((la.length:Int) - (match a3.get 13 with | .int _ q=>q | _=>0)).toNat) ⟨0,by omega,e0,e1,e12,e13,hs2,hd2,qd_.refl _ _,by simp⟩ ?_)
 rintro a3 w3 ⟨j,hj,f0,f1,f12,f13,hs3,hd3,hk3,htake⟩
 have htest2:∀ (b:Bool) (E:Act->World->Prop),b=decide ((j:Int) < (la.length:Int))->NWP P (rg [mk (some 14) (.binOp .lss tInt (tm 13) (tm 12) 0)]) (Rt (fun a' w'=>a'.get 14=.bool b/\a'=a3.put (some 14) (.bool b)/\w'=w3) E) a3 w3:=by
  intro b E hbb
  refine .reg (wl_cmp (b:=b) (p:=j) (q:=la.length) (k:=.i64) f13 f12 (.inr (.inr (.inl ⟨rfl,hbb⟩))) (wpList_nil ⟨gpe (by omega),rfl,rfl⟩))
 by_cases hlt:j < la.length
 ·refine .seq (htest2 true _ (by simp [hlt])) (fun a4 w4 hh=>?_) (fun e a w he hq=>by cases e <;> first | exact absurd rfl he | exact hq | exact hq.elim)
  obtain ⟨h14,rfl,rfl⟩:=hh
  refine .seq (R:=Rt (fun a' w'=>a'=a3.put (some 14) (.bool true)/\w'=w4) fun _ _=>False) (.condT h14 (.skip ⟨rfl,rfl⟩)) (fun a5 w5 hh=>?_) (fun e a w he hq=>by cases e <;> first | exact absurd rfl he | exact hq.elim)
  obtain ⟨rfl,rfl⟩:=hh
  refine .seq (R:=Rt (fun a6 w6=>a6.get 0=.slice ba la.length ca/\a6.get 1=.slice bb lb.length cb/\a6.get 12=.int .i64 (la.length:Int)/\a6.get 13=.int .i64 (j:Int)/\a6.tmps.size=nt/\a6.defers=[]/\qd_ (fun _=>False) w2 w6/\la.take (j + 1)=lb.take (j + 1)) (fun a' w'=>a'.defers=[]/\(Ending.returned (retOf [4] a')=.returned (.bool (decide (la=lb)))/\qd_ (fun _=>False) w2 w')))
   (.block ?_) (fun a6 w6 hh=>?_) (fun e a w he hq=>by cases e <;> first | exact absurd rfl he | exact hq | exact hq.elim)
  ·-- the round
   refine .seq (R:=Rt (fun a6 w6=>a6.get 0=.slice ba la.length ca/\a6.get 1=.slice bb lb.length cb/\a6.get 12=.int .i64 (la.length:Int)/\a6.get 13=.int .i64 (j:Int)/\a6.get 5=.int .i64 (j:Int)/\a6.tmps.size=nt/\a6.defers=[]/\w6=w5) fun _ _=>False) (.reg (qy_ ?_)) (fun a6 w6 hh=>?_) (fun e a w he hq=>by cases e <;> first | exact absurd rfl he | exact hq.elim)
   ·rw [qe_,gpo (by omega),f13]
    refine qn_ (wpList_nil ⟨?_,?_,?_,?_,?_,?_,?_,rfl⟩)
    ·rw [gpo (by omega),gpo (by omega),gpo (by omega)];exact f0
    ·rw [gpo (by omega),gpo (by omega),gpo (by omega)];exact f1
    ·rw [gpo (by omega),gpo (by omega),gpo (by omega)];exact f12
    ·rw [gpo (by omega),gpo (by omega),gpo (by omega)];exact f13
    ·rw [gpe (by simp only [qb_];omega),qe_,gpe (by simp only [qb_];omega)]
    ·simp only [qb_];exact hs3
    ·simp only [qg_];exact hd3
   obtain ⟨k0,k1,k12,k13,k5,hs6,hd6,rfl⟩:=hh
   have hlo:q2_ (sameOps tSl tU8)=[false,false,false,false,false,false,false,false,false]:=by kernel_rfl
   obtain ⟨xa,hxa⟩:∃ x,la[j]?=some x:=⟨la[j],List.getElem?_eq_getElem hlt⟩
   obtain ⟨xb,hxb⟩:∃ x,lb[j]?=some x:=⟨lb[j]'(by omega),List.getElem?_eq_getElem (by omega)⟩
   have hane:la ≠ []:=fun h=>by rw [h] at hlt;simp at hlt
   have hbne:lb ≠ []:=fun h=>by rw [hlen,h] at hlt;simp at hlt
   obtain ⟨pa,oa,rfl,hoa'⟩:=hoa.resolve_left hane
   obtain ⟨pb,ob,rfl,hob'⟩:=hob.resolve_left hbne
   have hca:∀ w':World,w'.heap=w6.heap->w'.cell? ⟨pa,oa + j * 1,none⟩=some (.int .u8 (xa.toNat:Int)):=fun w' hw=>by
    have h1:=hk3.cell id (hoa' j xa hxa)
    rw [Nat.mul_one]
    simpa [World.cell?,hw] using h1
   have hcb:∀ w':World,w'.heap=w6.heap->w'.cell? ⟨pb,ob + j * 1,none⟩=some (.int .u8 (xb.toNat:Int)):=fun w' hw=>by
    have h1:=hk3.cell id (hob' j xb hxb)
    rw [Nat.mul_one]
    simpa [World.cell?,hw] using h1
   refine .seq (R:=Rt (fun a7 w7=>a7.get 24=.bool (decide (xa ≠ xb))/\a7.get 0=.slice (some ⟨pa,oa,none⟩) la.length ca/\a7.get 1=.slice (some ⟨pb,ob,none⟩) lb.length cb/\a7.get 12=.int .i64 (la.length:Int)/\a7.get 13=.int .i64 (j:Int)/\a7.tmps.size=nt/\a7.defers=[]/\w7=w6.drew) fun _ _=>False) (.drw (fun w'=>w'.heap=w6.heap) ?_) (fun a7 w7 hh=>?_) (fun e a w he hq=>by cases e <;> first | exact absurd rfl he | exact hq.elim)
   ·rw [hlo]
    show evF P _ (sameOps tSl tU8) a6 fun af=>wpLd P _ _ [] af w6.drew
    refine ev_move (ev_move ?_)
    rw [qe_,k0,qe_,gpo (by omega),k5]
    refine ev_index (b:=pa) (o:=oa) (m:=la.length) (c:=ca) (i:=j) (k:=.i64) (sz:=1) (by rw [qe_,gpo (by omega),gpe (by omega)]) (by rw [qe_,gpe (by simp only [qb_];omega)]) hlt ot.und h8.size ?_
    refine ev_load1 (p:=⟨pa,oa + j * 1,none⟩) (v:=.int .u8 (xa.toNat:Int)) (by rw [qe_,gpe (by simp only [qb_];omega)]) h8.agg hca (ev_move (ev_move ?_))
    rw [qe_,gpo (by omega),gpo (by omega),gpo (by omega),gpo (by omega),k1,qe_,gpo (by omega),gpo (by omega),gpo (by omega),gpo (by omega),gpo (by omega),k5]
    refine ev_index (b:=pb) (o:=ob) (m:=lb.length) (c:=cb) (i:=j) (k:=.i64) (sz:=1) (by rw [qe_,gpo (by omega),gpe (by simp only [qb_];omega)]) (by rw [qe_,gpe (by simp only [qb_];omega)]) (by omega) ot.und h8.size ?_
    refine ev_load1 (p:=⟨pb,ob + j * 1,none⟩) (v:=.int .u8 (xb.toNat:Int)) (by rw [qe_,gpe (by simp only [qb_];omega)]) h8.agg hcb ?_
    refine ev_bin (k:=.u8) (k2:=.u8) (m:=(xa.toNat:Int)) (m2:=(xb.toNat:Int)) (v:=.bool (decide (xa ≠ xb))) ?_ ?_ ?_ ⟨rfl,?_,?_,?_,?_,?_,?_,?_,rfl⟩
    ·rw [qe_,gpo (by omega),gpo (by omega),gpo (by omega),gpo (by omega),gpe (by simp only [qb_];omega)]
    ·rw [qe_,gpe (by simp only [qb_];omega)]
    ·intro w'
     refine run_cmp (.inr (.inr (.inr (.inr (.inr ⟨rfl,?_⟩)))))
     have:xa ≠ xb ↔ (xa.toNat:Int) ≠ (xb.toNat:Int):=by
      rw [Ne,Ne,UInt8.toNat_inj.symm];omega
     simp only [this]
    ·rw [gpe (by simp only [qb_];omega)]
    ·iterate 9 rw [gpo (by omega)]
     exact k0
    ·iterate 9 rw [gpo (by omega)]
     exact k1
    ·iterate 9 rw [gpo (by omega)]
     exact k12
    ·iterate 9 rw [gpo (by omega)]
     exact k13
    ·simp only [qb_];exact hs6
    ·simp only [qg_];exact hd6
   ·obtain ⟨h24,l0,l1,l12,l13,hs7,hd7,rfl⟩:=hh
    have hk7:qd_ (fun _=>False) w2 w6.drew:=hk3.trans (qd_.drew _ _)
    have hta:la.take (j + 1)=la.take j++[xa]:=by rw [List.take_add_one,hxa];rfl
    have htb:lb.take (j + 1)=lb.take j++[xb]:=by rw [List.take_add_one,hxb];rfl
    by_cases hxx:xa=xb
    ·refine .condF (by rw [qe_,h24];simp [hxx]) (.skip ?_)
     exact ⟨l0,l1,l12,l13,hs7,hd7,hk7,by rw [hta,htb,htake,hxx]⟩
    ·refine .condT (by rw [qe_,h24];simp [hxx]) (.mono (retF a7 w6.drew (fun _ _=>False) false hs7 hd7 hk7 ?_) fun e a w hq=>by cases e <;> first | exact hq | exact hq.elim)
     have:la ≠ lb:=fun h=>by rw [h,hxb] at hxa;exact hxx (Option.some.inj hxa).symm
     simp [this]
  ·obtain ⟨l0,l1,l12,l13,hs7,hd7,hk7,ht7⟩:=hh
   have hwr:IntKind.i64.wrap ((j:Int) + 1)=((j + 1:Nat):Int):=by simp only [maxLen] at hla;simp [IntKind.wrap,IntKind.bits,IntKind.signed];omega
   refine .reg (wl_bin (v:=.int .i64 ((j + 1:Nat):Int)) (k:=.i64) (m:=j) (n:=1) l13 rfl (by simp) (by simp [binOp,Op.intArith,hwr]) (qy_ (wpList_nil ?_)))
   rw [qe_,gpe (by omega)]
   have hg:((a6.put (some 25) (.int .i64 ((j + 1:Nat):Int))).put (some 13) (.int .i64 ((j + 1:Nat):Int))).get 13=.int .i64 ((j + 1:Nat):Int):=gpe (by simp only [qb_];omega)
   refine ⟨⟨j + 1,by omega,?_,?_,?_,hg,by simp only [qb_];exact hs7,by simp only [qg_];exact hd7,hk7,ht7⟩,?_⟩
   ·rw [gpo (by omega),gpo (by omega)];exact l0
   ·rw [gpo (by omega),gpo (by omega)];exact l1
   ·rw [gpo (by omega),gpo (by omega)];exact l12
   ·rw [hg,f13]
    simp only
    omega
 ·have hjn:j=la.length:=by omega
  subst hjn
  refine .seq (htest2 false _ (by simp)) (fun a4 w4 hh=>?_) (fun e a w he hq=>by cases e <;> first | exact absurd rfl he | exact hq | exact hq.elim)
  obtain ⟨h14,rfl,rfl⟩:=hh
  refine .seq (R:=fun e a w=>e ≠ .normal/\Exit.inBlock 0 (Rt (fun a' w'=>a'.tmps.size=nt/\a'.defers=[]/\qd_ (fun _=>False) w2 w') fun _ _=>False) e a w) (.condF h14 (.exit ?_)) (fun a2 w2 hh=>absurd rfl hh.1) (fun e a w he hq=>?_)
  ·simp only [Exit.inBlock,if_true]
   exact ⟨by simp,by simp only [qb_];exact hs3,by simp only [qg_];exact hd3,hk3⟩
  ·rw [then_ne he]
   have hq2:=hq.2
   cases e with
   | normal=>exact absurd rfl he
   | exit i=>
    simp only [Exit.inBlock] at hq2 ⊢
    split at hq2
    ·rename_i hi
     rw [if_pos hi]
     obtain ⟨hs5,hd5,hk5⟩:=hq2
     refine nwp_sq_cons (nwp_rg (qn_ (wpList_nil (.ret ⟨?_,?_,hk5⟩))))
     ·simp only [qg_];exact hd5
     ·rw [retOf_one,gpe (by omega)]
      have:la=lb:=by
       rw [List.take_length] at htake
       rw [htake,hlen,List.take_length]
      simp [this]
      rfl
    ·exact hq2.elim
   | _=>exact hq2.elim
end
theorem qu_.sl {w:World} {L te:Nat} {d:Value} {bs:Bs} (h:qu_ w L te d bs):SlRp w (fun _=>False) d bs:=by
 rcases h with ⟨rfl,rfl⟩ | ⟨g,c,cur,rfl,_,hg,hn,hc,hs,hat⟩
 ·exact .inl ⟨rfl,rfl⟩
 ·refine .inr ⟨g,0,c,rfl,id,(Array.getElem?_eq_some_iff.1 hg).1,hn,hc,fun i x hi=>?_⟩
  rw [Nat.zero_add]
  simp [World.cell?,hg,hat i x hi,octv]
section
variable {P:Program} {gErr te:Nat} {kept hf:Bool} {flex:Nat} {fs:Fds} {toff:Option Nat} {T:Nat} {z:Array Value} {fN fS fR fA:Nat}
end
end Go.Proofs.Ytlnmiphokmhajaa.Kx
