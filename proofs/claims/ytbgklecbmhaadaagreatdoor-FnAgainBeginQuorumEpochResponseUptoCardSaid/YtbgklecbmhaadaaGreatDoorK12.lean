/-
  PLAIN LAWS AND CONTRACTS of messages, part 12.
-/
import Derived.Test.YtbgklecbmhaadaaGreatDoorK2
import Derived.Test.YtbgklecbmhaadaaGreatDoorK5
import Derived.Test.YtbgklecbmhaadaaGreatDoorK11
import Derived.Shelf.GgSortFunc.Whole
import Derived.Shelf.GgSortFunc.Tiny
import Derived.Sort.LotA
import Derived.OpenShut
import Derived.ChangeSlices

namespace Go.Proofs.YtbgklecbmhaadaaGreatDoor.Kx
open Go
def m4 (l:Bs):RS:=⟨l,false,l.isEmpty⟩
def againOut (kept hf:Bool)(flex:Nat)(fs:Fds)(ver:Int)(l:Bs):Option Bs:=
 match jw hf flex fs (eL kept ver (m4 l)).1 (eL kept ver (m4 l)).2 with
 | .ok v r=>if r.bad then none else some (fU kept hf flex fs (eL kept ver (m4 l)).1 v)
 | _=>none
structure MsgC (P:Program)(gErr te:Nat)(kept hf:Bool)(flex:Nat)(fs:Fds)(toff:Option Nat)(T:Nat)(z:Array Value)(fN fS fR fA:Nat):Prop where
 zpos:0<z.size
 newE:Ent P fN
 newC:∀ w,Calls P fN #[] w fun e w'=>e=.returned (pt w.heap.size 0)/\ac (fun _=>False) w w'/\w'.heap[w.heap.size]?=some (.cells z T (0,0))
 setE:Ent P fS
 setC:∀ (w:World) (B:Nat) (cur:Array Value) (x:Int),w.heap[B]?=some (.cells cur T (0,0))->0<cur.size->Calls P fS #[pt B 0,.int .i16 x] w fun e w'=>e=.returned (.tuple #[])/\ac (·=B) w w'/\w'.heap[B]?=some (.cells (cur.setIfInBounds 0 (.int .i16 x)) T (0,0))
 rdE:Ent P fR
 rdC:∀ (w:World) (B S:Nat) (ver:Int) (srcv:Value) (r0:RS),w.heap[B]?=some (.cells (z.setIfInBounds 0 (.int .i16 ver)) T (0,0))->bQ w S srcv r0->r0.bad=false->ErrAt gErr w->S<w.heap.size->B≠S->gErr≠B->jw hf flex fs (eL kept ver r0).1 (eL kept ver r0).2≠.stuck ->
  Calls P fR #[pt B 0,srcv] w fun e w'=>∃ x,e=.returned x/\jU fs toff B S T z.size w (eL kept ver r0).1 (jw hf flex fs (eL kept ver r0).1 (eL kept ver r0).2) x w'
 apE:Ent P fA
 apC:∀ (w:World) (B:Nat) (ver:Int) (vs:List V) (t:List (Nat × Bs)),-32768<=ver/\ver<32768->B<w.heap.size->w.cell? ⟨B,0,none⟩=some (.int .i16 ver)->RpF w (fun k=>w.heap.size<=k) fs B 0 vs->eJ w (fun k=>w.heap.size<=k) B 0 toff t->(fU kept hf flex fs ver (.st vs t)).length<=d7 ->
  Calls P fA #[pt B 0,aG] w fun e w'=>∃ d',e=.returned d'/\aH w' w.heap.size te d' (fU kept hf flex fs ver (.st vs t))/\ac (fun _=>False) w w'
theorem aH.sl {w:World}{L te:Nat}{d:Value}{bs:Bs}(h:aH w L te d bs):cO w (fun _=>False) d bs:=by
 rcases h with⟨rfl,rfl⟩|⟨g,c,cur,rfl,_,hg,hn,hc,hs,Ha⟩
 ·exact .inl ⟨rfl,rfl⟩
 ·refine .inr ⟨g,0,c,rfl,id,(Array.getElem?_eq_some_iff.1 hg).1,hn,hc,fun i x hi=>?_⟩
  rw[Nat.zero_add]
  simp[World.cell?,hg,Ha i x hi,bF]
theorem rb {kept:Bool}{ver:Int}{r:RS}(h:-32768<=ver/\ver<32768):-32768<=(eL kept ver r).1/\(eL kept ver r).1<32768:=by
 cases kept with
 | false=>exact h
 | true=>
  show -32768<=(rI 2 r).1/\(rI 2 r).1<32768
  have h1:(rU 2 r).1<65536:=by
   unfold rU
   split
   ·decide
   ·have:=pK (r.src.take 2)
    have hl:(r.src.take 2).length=2:=by rw[List.length_take];omega
    rw[hl]at this
    exact this
  show -32768<=j8 16 (rU 2 r).1/\j8 16 (rU 2 r).1<32768
  simp only[j8]
  split<;>omega
section
variable {P:Program} {gErr te:Nat} {kept hf:Bool} {flex:Nat} {fs:Fds} {toff:Option Nat} {T:Nat} {z:Array Value} {fN fS fR fA:Nat}
theorem sk (hm:P.follows .mixedOrders=true)(M:MsgC P gErr te kept hf flex fs toff T z fN fS fR fA){f nt tI16 tInt tSl tErr:Nat}(ot:OctT P tSl te)(hI:P.underlying tI16=some (.int .i16))(Jz:P.underlying tInt=some (.int .i64)){ms:Array (String × TypeId)}(M4:P.underlying tErr=some (.interface ms))
  (hfn:FnIs P f nt [4,5] (cAgain tI16 tInt tSl tErr fN fS fR fA)) (G8:19<=nt) {w:World} {x:Int} {srcv:Value} {l:Bs} (Ic:cO w (fun _=>False) srcv l) (JW:l.length<=d7) (herr:ErrAt gErr w)
  (JZ:jw hf flex fs (eL kept (IntKind.i16.wrap x) (m4 l)).1 (eL kept (IntKind.i16.wrap x) (m4 l)).2≠.stuck) (hlim:∀ bs,againOut kept hf flex fs (IntKind.i16.wrap x) l=some bs->bs.length<=d7) :
  Calls P f #[.int .i64 x,srcv] w fun e w'=>∃ y b,e=.returned (.tuple #[y,.bool b])/\ac (fun _=>False) w w' /\
   (againOut kept hf flex fs (IntKind.i16.wrap x) l=none->b=false/\y=aG)/\(∀ bs,againOut kept hf flex fs (IntKind.i16.wrap x) l=some bs->b=true/\cO w' (fun _=>False) y bs):=by
 refine fb hm hfn (by simp) [.int .i64 x,srcv] (by simp;omega) fun a harg hs hd=>?_
 have g0:=harg 0 _ rfl
 have g1:=harg 1 _ rfl
 have OT:gErr<w.heap.size:=by obtain⟨_,_,h⟩:=herr;exact cM h
 generalize JO:IntKind.i16.wrap x=ver at JZ hlim ⊢
 have Vv:-32768<=ver/\ver<32768:=by rw[<- JO];simp[IntKind.wrap,IntKind.bits,IntKind.signed];omega
 unfold cAgain
 refine az (au (aj (aj (wpList_nil ?_))))
 refine az (au (aR (vs:=#[]) M.newE rfl (M.newC w) fun e w1 hR1=>⟨_,hR1.1,aj (wpList_nil ?_)⟩))
 obtain⟨_,Gy,Hc⟩:=hR1
 have MS:=Gy.size
 have Lf:w.heap.size<w1.heap.size:=(Array.getElem?_eq_some_iff.1 Hc).1
 rw[aa,am (by simp only[ab];omega)]
 have q0:((((a.put (some 4) (Act.eval a (.const aG))).put (some 5) (Act.eval (a.put (some 4) (Act.eval a (.const aG))) (.const (.bool false)))).put (some 7) (pt w.heap.size 0)).put (some 6) (pt w.heap.size 0)).get 0=.int .i64 x:=by
  rw[ak (by omega),ak (by omega),ak (by omega),ak (by omega)];exact g0
 have q1:((((a.put (some 4) (Act.eval a (.const aG))).put (some 5) (Act.eval (a.put (some 4) (Act.eval a (.const aG))) (.const (.bool false)))).put (some 7) (pt w.heap.size 0)).put (some 6) (pt w.heap.size 0)).get 1=srcv:=by
  rw[ak (by omega),ak (by omega),ak (by omega),ak (by omega)];exact g1
 have q6:((((a.put (some 4) (Act.eval a (.const aG))).put (some 5) (Act.eval (a.put (some 4) (Act.eval a (.const aG))) (.const (.bool false)))).put (some 7) (pt w.heap.size 0)).put (some 6) (pt w.heap.size 0)).get 6=pt w.heap.size 0:=am (by simp only[ab];omega)
 have qs:((((a.put (some 4) (Act.eval a (.const aG))).put (some 5) (Act.eval (a.put (some 4) (Act.eval a (.const aG))) (.const (.bool false)))).put (some 7) (pt w.heap.size 0)).put (some 6) (pt w.heap.size 0)).tmps.size=nt:=by simp only[ab];exact hs
 have qd:((((a.put (some 4) (Act.eval a (.const aG))).put (some 5) (Act.eval (a.put (some 4) (Act.eval a (.const aG))) (.const (.bool false)))).put (some 7) (pt w.heap.size 0)).put (some 6) (pt w.heap.size 0)).defers=[]:=by simp only[ai];exact hd
 generalize(((a.put (some 4) (Act.eval a (.const aG))).put (some 5) (Act.eval (a.put (some 4) (Act.eval a (.const aG))) (.const (.bool false)))).put (some 7) (pt w.heap.size 0)).put (some 6) (pt w.heap.size 0)=a at q0 q1 q6 qs qd ⊢
 generalize hBe:w.heap.size=B at Hc Lf q6 MS OT
 refine az (au (ag (ag ?_)))
 rw[aa,q6,aa,ak (by omega),q0]
 refine aT (k:=.i64) (k':=.i16) (m:=x) (by rw[aa,am (by simp only[ab];omega)]) Jz hI ?_
 rw[JO]
 refine aR (vs:=#[pt B 0,.int .i16 ver]) M.setE ?_ (M.setC w1 B z ver Hc M.zpos) fun e w2 HP=>⟨_,HP.1,wpList_nil ?_⟩
 ·simp only[List.map_cons,List.map_nil,aa]
  rw[ak (by omega),ak (by omega),am (by omega),am (by simp only[ab];omega)]
 obtain⟨_,Gs,Hj⟩:=HP
 have Vq:=Gs.size
 have p1:((((a.put (some 8) (pt B 0)).put (some 9) (.int .i64 x)).put (some 10) (.int .i16 ver)).put (some 11) (.tuple #[])).get 1=srcv:=by
  rw[ak (by omega),ak (by omega),ak (by omega),ak (by omega)];exact q1
 have p6:((((a.put (some 8) (pt B 0)).put (some 9) (.int .i64 x)).put (some 10) (.int .i16 ver)).put (some 11) (.tuple #[])).get 6=pt B 0:=by
  rw[ak (by omega),ak (by omega),ak (by omega),ak (by omega)];exact q6
 have ps:((((a.put (some 8) (pt B 0)).put (some 9) (.int .i64 x)).put (some 10) (.int .i16 ver)).put (some 11) (.tuple #[])).tmps.size=nt:=by simp only[ab];exact qs
 have pd:((((a.put (some 8) (pt B 0)).put (some 9) (.int .i64 x)).put (some 10) (.int .i16 ver)).put (some 11) (.tuple #[])).defers=[]:=by simp only[ai];exact qd
 generalize(((a.put (some 8) (pt B 0)).put (some 9) (.int .i64 x)).put (some 10) (.int .i16 ver)).put (some 11) (.tuple #[])=a at p1 p6 ps pd ⊢
 have GN:ac (fun _=>False) w w2:=by
  have:ac (fun k=>B<=k) w w2:=(Gy.mono fun _ _ h=>h.elim).trans (Gs.mono fun k _ hk=>by omega)
  exact this.mono fun k hk hX=>by omega
 have Ks:cO w2 (fun _=>False) srcv l:=Ic.keep GN
 have IA:ErrAt gErr w2:=herr.keep GN id
 have Rh:∃ d' w3 S,(Builtin.append_ #[tSl,tSl] tSl #[aG,srcv]).run P w2=.ok d' w3/\bQ w3 S d' (m4 l)/\ac (fun _=>False) w2 w3/\S<w3.heap.size/\S≠B:=by
  by_cases MD:l=[]
  ·subst MD
   have hS:Src P 1 tSl srcv 0 [] w2:=by
    rcases Ks with⟨rfl,_⟩|⟨b,o,c,rfl,_,_,_,_,ho⟩
    ·exact uH ot w2 0
    ·exact lp ot ho
   exact⟨aG,w2,gErr,m7 ot hS,.inl ⟨rfl,rfl,rfl⟩,ac.refl _ _,by omega,by omega⟩
  ·have hS:Src P 1 tSl srcv l.length (l.map bF) w2:=by
    rcases Ks with⟨rfl,rfl⟩|⟨b,o,c,rfl,_,_,_,_,ho⟩
    ·exact absurd rfl MD
    ·exact lp ot ho
   obtain⟨d',w3,hr,hg⟩:=fy (L:=w2.heap.size) (ty:=tSl) ot (aH.nil w2 w2.heap.size te) hS (Nat.le_refl _) (by simpa using JW)
   rw[List.nil_append]at hg
   have Gx:ac (fun _=>False) w2 w3:=hg.keeps.mono fun k _ hk=>by simp[Value.ownBlock]at hk
   rcases hg.dst with⟨_,h⟩|⟨gg,c,cur,rfl,hL,MH,hn,hc,G0,Ha⟩
   ·exact absurd h MD
   ·have Gq:gg<w3.heap.size:=(Array.getElem?_eq_some_iff.1 MH).1
    refine⟨_,w3,gg,hr,.inr ⟨0,c,rfl,by cases l with|nil=>exact absurd rfl MD|cons _ _=>rfl,hn,hc,Gq,fun i y hi=>?_⟩,Gx,Gq,by omega⟩
    rw[Nat.zero_add]
    simp[World.cell?,MH,Ha i y hi,bF]
 obtain⟨d',w3,S,GF,Ja,Gx,Pj,hSB⟩:=Rh
 have Pq:=Gx.size
 have JJ:w3.heap[B]?=some (.cells (z.setIfInBounds 0 (.int .i16 ver)) T (0,0)):=by rw[Gx.block B (by omega) id];exact Hj
 have Ll:ErrAt gErr w3:=IA.keep Gx id
 have J0:=M.rdC w3 B S ver d' (m4 l) JJ Ja rfl Ll Pj (by omega) (by omega) JZ
 have J5:=rb (kept:=kept) (r:=m4 l) Vv
 unfold againOut at hlim ⊢
 generalize hvrd:eL kept ver (m4 l)=vr at J0 hlim J5 JZ ⊢
 generalize Id:jw hf flex fs vr.1 vr.2=out at J0 hlim JZ ⊢
 have Ig:ac (fun _=>False) w w3:=GN.trans Gx
 have My:∀ (b:Bool) (Y:Act->World->Prop) (E:Act->World->Prop),(∀ a4 w4 y,a4.get 16=.bool b->a4.get 6=pt B 0->a4.tmps.size=nt->a4.defers=[]->jU fs toff B S T z.size w3 vr.1 out y w4->Y a4 w4)->(∀ y w4,jU fs toff B S T z.size w3 vr.1 out y w4->(y=.nilIface/\b=false) \/ ((∃ t q,y=.iface t q)/\b=true)) ->
   aQ P (rg [mk (some 12) (.move (tm 6)),mk (some 13) (.move (tm 1)),bi (some 14) .append [.const aG,tm 13] [tSl,tSl] tSl,cl (some 15) fR [tm 12,tm 14],mk (some 16) (.binOp .neq tErr (tm 15) (.const .nilIface) 0)]) (Rt Y E) a w2:=by
  intro b Y E hY hb
  refine .reg (ag (ag ?_))
  rw[aa,p6,aa,ak (by omega),p1]
  refine wpList_plain rfl fun _ hK=>?_
  unfold Oper.wp
  have hx:(execOp (Act.eval ((a.put (some 12) (pt B 0)).put (some 13) srcv)) (bi (some 14) .append [.const aG,tm 13] [tSl,tSl] tSl)).run P w2=.ok (.value d') w3:=by
   have e13:Act.eval ((a.put (some 12) (pt B 0)).put (some 13) srcv) (tm 13)=srcv:=am (by simp only[ab];omega)
   have ec:Act.eval ((a.put (some 12) (pt B 0)).put (some 13) srcv) (.const aG)=aG:=rfl
   simp[execOp,bi,resolve,invoke,e13,ec,builtin,GF]
  rw[hx]
  refine hK _ _ ?_
  refine aR (vs:=#[pt B 0,d']) M.rdE ?_ J0 fun e w4 hR4=>?_
  ·simp only[List.map_cons,List.map_nil,aa]
   show([Act.get (Act.put _ (some 14) d') 12,Act.get (Act.put _ (some 14) d') 14]:List Value).toArray=_
   rw[ak (by omega),ak (by omega),am (by omega),am (by simp only[ab];omega)]
  obtain⟨y,he,JC⟩:=hR4
  refine⟨y,he,?_⟩
  show wpList P _ _ _ (Act.put (Act.put _ (some 14) d') (some 15) y) w4
  refine xx (b:=b) M4 (by rw[aa,am (by simp only[ab];omega)]) (hb y w4 JC) (wpList_nil (hY _ w4 y ?_ ?_ ?_ ?_ JC))
  ·rw[am (by simp only[ab];omega)]
  ·rw[ak (by omega),ak (by omega),ak (by omega),ak (by omega),ak (by omega)];exact p6
  ·simp only[ab];exact ps
  ·simp only[ai];exact pd
 have kB:∀ w4,ac (·=B) w3 w4->ac (fun _=>False) w w4:=fun w4 hk=>by
  have:ac (fun k=>B<=k) w w4:=(Ig.mono fun _ _ h=>h.elim).trans (hk.mono fun k _ hk=>by omega)
  exact this.mono fun k hk hX=>by omega
 have bad:(∀ y w4,jU fs toff B S T z.size w3 vr.1 out y w4->∃ t q,y=.iface t q)->(match out with|.ok v r=>if r.bad then none else some (fU kept hf flex fs vr.1 v)|_=>none)=(none:Option Bs) ->
   aQ P (sq [.seq (rg [mk (some 12) (.move (tm 6)),mk (some 13) (.move (tm 1)),bi (some 14) .append [.const aG,tm 13] [tSl,tSl] tSl,cl (some 15) fR [tm 12,tm 14],mk (some 16) (.binOp .neq tErr (tm 15) (.const .nilIface) 0)])
    (.cond (tm 16) (.seq (rg [mk (some 4) (.assign (.const aG)),mk (some 5) (.assign (.const (.bool false)))]) .ret) .skip),rg [mk (some 17) (.move (tm 6)),cl (some 18) fA [tm 17,.const aG],mk (some 4) (.assign (tm 18)),mk (some 5) (.assign (.const (.bool true)))],.ret])
    (Rt (fun a' w'=>a'.defers=[]/\∃ y b,Ending.returned (bj [4,5] a')=.returned (.tuple #[y,.bool b])/\ac (fun _=>False) w w'/\((match out with|.ok v r=>if r.bad then none else some (fU kept hf flex fs vr.1 v)|_=>none)=none->b=false/\y=aG)/\(∀ bs,(match out with|.ok v r=>if r.bad then none else some (fU kept hf flex fs vr.1 v)|_=>none)=some bs->b=true/\cO w' (fun _=>False) y bs))
     (fun a' w'=>a'.defers=[]/\∃ y b,Ending.returned (bj [4,5] a')=.returned (.tuple #[y,.bool b])/\ac (fun _=>False) w w'/\((match out with|.ok v r=>if r.bad then none else some (fU kept hf flex fs vr.1 v)|_=>none)=none->b=false/\y=aG)/\(∀ bs,(match out with|.ok v r=>if r.bad then none else some (fU kept hf flex fs vr.1 v)|_=>none)=some bs->b=true/\cO w' (fun _=>False) y bs))) a w2:=by
  intro OD Hx
  refine az ?_
  rw[aV]
  refine .seq (My true _ _ (fun a4 w4 y LM h6 IP KF JC=>?_) (fun y w4 hp=>.inr ⟨OD y w4 hp,rfl⟩)) (fun a1 w1 hh=>hh) (fun e a w he hq=>by cases e<;>first|exact absurd rfl he|exact hq|exact hq.elim)
  refine .condT LM (az (cs:=[.ret]) (au (aj (aj (wpList_nil (.ret ⟨?_,aG,false,?_,kB w4 JC.1,fun _=>⟨rfl,rfl⟩,fun bs KH=>?_⟩))))))
  ·simp only[ai];exact KF
  ·show Ending.returned (.tuple #[Act.get _ 4,Act.get _ 5])=_
   rw[ak (by omega),am (by omega),am (by simp only[ab];omega)]
   rfl
  ·rw[Hx]at KH;cases KH
 cases out with
 | stuck=>exact absurd rfl JZ
 | err=>exact bad (fun y w4 hp=>hp.2) rfl
 | ok v r=>
  by_cases hbadr:r.bad=true
  ·exact bad (fun y w4 hp=>hp.2.2.1 hbadr) (by simp[hbadr])
  ·have P6:r.bad=false:=by simpa using hbadr
   simp only[P6,Bool.false_eq_true,if_false]at hlim ⊢
   have hlim':=hlim _ rfl
   refine az ?_
   rw[aV]
   refine .seq (My false _ _ (fun a4 w4 y LM h6 IP KF JC=>?_) (fun y w4 hp=>.inl ⟨hp.2.1 P6,rfl⟩)) (fun a1 w1 hh=>hh) (fun e a w he hq=>by cases e<;>first|exact absurd rfl he|exact hq|exact hq.elim)
   refine .condF LM (.skip (az (au (ag ?_))))
   rw[aa,h6]
   obtain⟨VP,_,_,vs,t,cur,rfl,VX,hcsz,Ke,Ho,hft⟩:=JC
   have TC:B<w4.heap.size:=(Array.getElem?_eq_some_iff.1 VX).1
   have Vp:=VP.size
   have Gn:w4.cell? ⟨B,0,none⟩=some (.int .i16 vr.1):=by simp[World.cell?,VX,Ke]
   have hrp:RpF w4 (fun k=>w4.heap.size<=k) fs B 0 vs:=RpF.mono (fun k hk hX=>by omega) fs B 0 vs (Ho (fun _=>False) (fun _ h=>h.elim) id)
   have Hv:eJ w4 (fun k=>w4.heap.size<=k) B 0 toff t:=(hft (fun _=>False) (fun _ h=>h.elim) id).mono fun k hk hX=>by omega
   refine aR (vs:=#[pt B 0,aG]) M.apE ?_ (M.apC w4 B vr.1 vs t J5 TC Gn hrp Hv hlim') fun e w5 hR5=>?_
   ·simp only[List.map_cons,List.map_nil,aa]
    rw[am (by omega)]
    rfl
   obtain⟨d5,he5,LK,HC⟩:=hR5
   refine⟨d5,he5,aj (aj (wpList_nil (az (.ret ⟨?_,d5,true,?_,(kB w4 VP).trans HC,(fun h=>by cases h),fun bs KH=>⟨rfl,?_⟩⟩))))⟩
   ·simp only[ai];exact KF
   ·show Ending.returned (.tuple #[Act.get _ 4,Act.get _ 5])=_
    rw[ak (by omega),am (by simp only[ab];omega),am (by simp only[ab];omega),aa,am (by simp only[ab];omega)]
    rfl
   ·obtain rfl:=Option.some.inj KH
    exact LK.sl
end
section
variable {P:Program} {gErr te T:Nat} {hf:Bool} {flex:Nat} {fs:Fds} {toff:Option Nat} {z:Array Value} {fN fS fR fA:Nat}
theorem msgC_of {g:G}{gw:GW}{av avw:PF->Bool}{fl flw nl:Bool}{D:Nat->Option (List (Nat × Value))}(En:Env P g av fl D)(K0:KW P gw avw flw nl te){cx cw:Cx}{fD fRf kt ktw n0 n0w ntN ntS ntR ntRf ntA v6 tI16:Nat}{nm:Nm}{ms:Nm}{zv:Value}{wr:List (Nat × Value)}
  (Gw:cx.hf=true->fl=true) (Uk:cw.hf=true->flw=true) (Sh:cx.hf=hf) (Ux:cw.hf=hf) (hN:FnIs P fN ntN [0] (cNewPtr T fD)) (VF:3<=ntN) (hS:FnIs P fS ntS [] (cSetV T tI16)) (hnS:8<=ntS) (hR:FnIs P fR ntR [4] (cRdF fRf)) (hnR:8<=ntR)
  (Wg:FnIs P fRf ntRf [6] (gRead g cx.hf false cx fs fD T kt flex n0 nm)) (RG:n0+17<=ntRf) (hA:FnIs P fA ntA [4] (gWrite gw false cw fs T ktw flex v6 n0w ms)) (hzv:zeroOf P T=some zv) (hD:D fD=some wr) (hz:z=applyWr zv.cells 0 wr) (PC:0<z.size) (Hn:(wr.all fun p=>decide (p.1<zv.cells.size))=true)
  (hF:eB P T 0 tI16 0 false 1=true) (hg:g.gErr=gErr) (Jv:rl ⟨P,g,av,D⟩ false cx fs fD T kt toff n0 ntRf nm z (pO g false cx fs fD T kt flex n0 nm)=true)
  (Rj:sI ⟨P,gw,avw,nl⟩ false cw fs T ktw toff v6 n0w ntA ms (nz gw false cw fs T ktw flex v6 n0w ms)=true):MsgC P gErr te false hf flex fs toff T z fN fS fR fA where
 zpos:=PC
 newE:=hN.ent
 newC w:=by
  obtain⟨hE,N2⟩:=En.df _ _ hD
  rw[hz]
  exact qv En.kb.mixed hN VF hzv hE N2 (fun p hp=>by simpa using List.all_eq_true.1 Hn p hp) w
 setE:=hS.ent
 setC w B cur x hB h0:=sO En.kb.mixed hS hnS (fldB_ok hF) hB h0
 rdE:=hR.ent
 rdC w B S ver srcv r0 hB Ic GT herr Wf JK MI JZ:=by
  subst Sh hg
  exact wo En.kb.mixed hR hnR Wg.ent (AR En Gw Wg Jv RG hB Ic GT herr Wf JK MI JZ)
 apE:=hA.ent
 apC w B ver vs t JO hB Gn hr ht hlim:=by
  subst Ux
  exact xn K0 Uk hA Rj JO hB Gn hr ht hlim
end
section
open Go Go.ChangeMaps
section
variable {P:Program}
theorem qU {tS te:Nat}(hS:P.underlying tS=some (.slice te))(hi:∃ i z,P.info? te=some i/\i.zero=some z/\i.size=1/\i.bytes=4){ops:Array Oper}{Q:Exit->Act->World->Prop}{r:List Oper}{a:Act}{w:World}{d:Option Nat}{y:Operand}{k:Nat}(hy:a.eval y=cd k)
  (h:wpList P ops Q r (a.put d (.slice (some ⟨w.heap.size,0,none⟩) 1 1)) (w.alloc (.cells #[cd k] te (0,0)))):wpList P ops Q (mk d (.buildSlice tS 1 #[(0,y)])::r) a w:=by
 obtain⟨i,z,hi,hz,G0,_⟩:=hi
 refine aD (w':=w.alloc (.cells #[cd k] te (0,0))) ?_ h
 have Ir:=l9 [cd k] 0 ((Array.range 1).map fun k=>z.cells[k%z.cells.size]!) (fun v hv=>by
  simp only[List.mem_singleton]at hv
  subst hv
  rfl) (by simp)
 rw[fu (by simp)]at Ir
 simp[uV]at Ir
 simp[execOp,mk,Instr.buildSlice,run_underlying hS,sizeOf,typeInfo,zeroValue,hi,hz,G0,hy,Ir,newRow,newObj,Sem.run]
theorem D5 {ops:Array Oper}{Q:Exit->Act->World->Prop}{r:List Oper}{a:Act}{w w':World}{d:Option Nat}{b:Builtin}{args:List Operand}{tys:List Nat}{ty:Nat}{v:Value}(h:(execOp a.eval (bi d b args tys ty)).run P w=.ok (.value v) w')(hk:wpList P ops Q r (a.put d v) w'):wpList P ops Q (bi d b args tys ty::r) a w:=by
 refine wpList_plain rfl fun _ hK=>?_
 unfold Oper.wp
 rw[h]
 exact hK _ _ hk
def oo (w:World)(V:Nat):Nat:=match w.heap[V]? with|some (.cells cs _ _)=>(match (cs[0]?:Option Value)with|some (.slice _ n _)=>n|_=>0)|_=>0
theorem ya {T:TN}(tf:TF P T){w0 w:World}{q it V G clock:Nat}{es:List aP}{a:Act}{K E:Act->World->Prop}(Sv:a.get 24=pt it 0)(h4:a.get 4=pt V 0)(hs:53<=a.tmps.size)(hg:md T w0 q it V G clock es [] w)(hb:∀ e∈es,e.born<clock)(hn:(es.map aP.born).Nodup)
  (h:∀ a' w' L,(∀ i,i<4->a'.get i=a.get i)->a'.get 4=pt V 0->a'.tmps.size=a.tmps.size->a'.defers=a.defers->md T w0 q it V G clock es L w'->(∀ e∈es,e.born∈L.map aP.born)->K a' w'):aQ P (.block 0 (sd T)) (Rt K E) a w:=by
 have QI:∀ L w1,md T w0 q it V G clock es L w1->oo w1 V=L.length:=fun L w1 Gv=>by simp[oo,Gv.box]
 refine .block (.loop (fun a1 w1=>∃ L,md T w0 q it V G clock es L w1/\(∀ i,i<4->a1.get i=a.get i)/\a1.get 4=pt V 0/\a1.get 24=pt it 0/\a1.tmps.size=a.tmps.size/\a1.defers=a.defers) (fun _ w1=>es.length-oo w1 V) ⟨[],hg,fun _ _=>rfl,h4,Sv,rfl,rfl⟩ ?_)
 rintro a1 w1 ⟨L,Gv,Gz,e4,e24,Gu,Jg⟩
 have lt:∀ d,d<53->d<a1.tmps.size:=fun d hd=>by omega
 have G5:=Gv.le
 rcases Gv.next (P:=P) hb 0 with⟨Jx,hr⟩|⟨e,he,Jp,w2,Ik,hr⟩
 ·-- all have come
  refine .seq (R:=Rt (fun a2 w3=>a2=(a1.put (some 25) (.tuple #[.bool false])).put (some 26) (.bool false)/\w3=w1) fun _ _=>False) (.reg ?_) (fun a2 w3 hh=>?_) (fun e a w he hq=>by cases e<;>first|exact absurd rfl he|exact hq.elim)
  ·refine aD (v:=.tuple #[.bool false]) (w':=w1) (by simp[execOp,mk,aa,e24,hr]) ?_
   refine jc (vs:=#[.bool false]) (v:=.bool false) (by rw[aa,am (lt _ (by omega))]) rfl (wpList_nil ⟨rfl,rfl⟩)
  obtain⟨rfl,rfl⟩:=hh
  refine .seq (R:=Exit.then (fun _ _=>False) (Exit.inBlock 0 (Rt K E))) (.condF (by rw[aa,am (by simp only[ab];exact lt _ (by omega))]) (.exit ?_)) (fun _ _ hh=>hh.elim) (fun e a w he hq=>by rw[cA he]at hq ⊢;exact hq)
  show K _ _
  refine h _ _ L (fun i hi=>?_) ?_ ?_ ?_ Gv Jx
  ·rw[ak (by omega),ak (by omega)];exact Gz i hi
  ·rw[ak (by omega),ak (by omega)];exact e4
  ·simp only[ab];exact Gu
  ·simp only[ai];exact Jg
 ·-- one more
  have PR:((L++[e]).map aP.born).toArray=(L.map aP.born).toArray.push e.born:=by simp
  have MW:w2.heap=w1.heap:=by rcases Ik with rfl|rfl<;>rfl
  have TO:ac (fun _=>False) w1 w2:=by
   rcases Ik with rfl|rfl
   ·exact ac.refl _ _
   ·exact ac.drew _ _
  obtain⟨n1,n2,n3,n4,n5,n6,n7⟩:=Gv.new
  have Gq:∀ k,w1.heap[k]?≠none->k<w1.heap.size:=fun k hk=>by
   rcases Nat.lt_or_ge k w1.heap.size with h|h
   ·exact h
   ·exact absurd (Array.getElem?_eq_none h) hk
  have QB:it<w2.heap.size:=by rw[MW];exact Gq it (by rw[Gv.iter];simp)
  generalize hW:setBlock w2 it (.mapIter (some q) clock ((L++[e]).map aP.born).toArray clock)=W at hr
  have Ry:W.heap[it]?=some (.mapIter (some q) clock ((L++[e]).map aP.born).toArray clock):=by rw[<- hW];exact oC QB
  have Ph:∀ k,k≠it->W.heap[k]?=w1.heap[k]?:=fun k hk=>by rw[<- hW,mt hk,MW]
  have UK:W.heap.size=w1.heap.size:=by rw[<- hW,<- MW];show(w2.heap.setIfInBounds it _).size=_;simp
  have hKW:ac (fun k=>k=it) w1 W:=by
   rw[<- hW]
   exact(TO.mono fun _ _ h=>h.elim).trans (wJ (X:=fun k=>k=it) rfl)
  have hq:W.heap[q]?=some (.map (es.map aP.entry).toArray clock):=by rw[Ph q (by omega)];exact Gv.mp
  obtain⟨cur,GB,GE,Ha⟩:=Gv.row
  have Wq:W.heap[G]?=some (.cells cur T.tU32 (0,0)):=by rw[Ph G n6];exact GB
  have Wd:W.heap[V]?=some (.cells #[.slice (some ⟨G,0,none⟩) L.length es.length] T.tKs (0,0)):=by rw[Ph V n5];exact Gv.box
  have NT:G<W.heap.size:=by rw[UK];exact Gq G (by rw[GB];simp)
  have UL:V<W.heap.size:=by rw[UK];exact Gq V (by rw[Gv.box];simp)
  have Qm:((L++[e]).map aP.born).Nodup:=by
   rw[List.map_append,List.nodup_append]
   refine⟨Gv.nod,by simp,fun x hx y hy=>?_⟩
   simp only[List.map_cons,List.map_nil,List.mem_singleton]at hy
   subst hy
   exact fun MT=>Jp (MT ▸ hx)
  have Hs:∀ x∈L++[e],x∈es:=fun x hx=>by
   rcases List.mem_append.1 hx with hx|hx
   ·exact Gv.sub x hx
   ·simp only[List.mem_singleton]at hx;subst hx;exact he
  have Gp:L.length+1<=es.length:=by
   have GA:md T w0 q it V G clock es [] w:=hg
   have:=md.le (T:=T) (w0:=w) (q:=q) (it:=it) (V:=V) (G:=G) (clock:=clock) (es:=es) (L:=L++[e])
    (w:=setBlock (setBlock w2 it (.mapIter (some q) clock ((L++[e]).map aP.born).toArray clock)) V (.cells #[.slice (some ⟨G,0,none⟩) (L++[e]).length es.length] T.tKs (0,0)))
   clear this GA
   have key:∀ (l m:List Nat),l.Nodup->(∀ x∈l,x∈m)->l.length<=m.length:=by
    intro l
    induction l with
    | nil=>intro m _ _;simp
    | cons a l ih=>
     intro m hl hs
     obtain⟨h1,h2⟩:=List.nodup_cons.1 hl
     have hm:a∈m:=hs a (by simp)
     have:=ih (m.erase a) h2 fun x hx=>(List.mem_erase_of_ne (fun e=>h1 (by rw[<- e];exact hx))).2 (hs x (by simp[hx]))
     rw[List.length_erase_of_mem hm]at this
     have:=List.length_pos_of_mem hm
     simp only[List.length_cons]
     omega
   have:=key ((L++[e]).map aP.born) (es.map aP.born) Qm fun x hx=>by
    obtain⟨y,hy,rfl⟩:=List.mem_map.1 hx
    exact List.mem_map.2 ⟨y,Hs y hy,rfl⟩
   simpa using this
  refine .seq (R:=Rt (fun a2 w3=>a2=(a1.put (some 25) (.tuple #[.bool true,cd e.key,e.val])).put (some 26) (.bool true)/\w3=W) fun _ _=>False) (.reg ?_) (fun a2 w3 hh=>?_) (fun e a w he hq=>by cases e<;>first|exact absurd rfl he|exact hq.elim)
  ·refine aD (v:=.tuple #[.bool true,cd e.key,e.val]) (w':=W) (by simp[execOp,mk,aa,e24,hr]) ?_
   refine jc (vs:=#[.bool true,cd e.key,e.val]) (v:=.bool true) (by rw[aa,am (lt _ (by omega))]) rfl (wpList_nil ⟨rfl,rfl⟩)
  obtain⟨rfl,rfl⟩:=hh
  refine .seq (R:=Rt (fun a' w'=>a'=(a1.put (some 25) (.tuple #[.bool true,cd e.key,e.val])).put (some 26) (.bool true)/\w'=w3) fun _ _=>False) (.condT (by rw[aa,am (by simp only[ab];exact lt _ (by omega))]) (.skip ⟨rfl,rfl⟩)) (fun a2 w4 hh=>?_) (fun e a w he hq=>by cases e<;>first|exact absurd rfl he|exact hq.elim)
  obtain⟨rfl,rfl⟩:=hh
  refine .block ?_
  unfold sh
  have Us:(Instr.entry (pt it 0)).run P w4=.ok (.tuple #[cd e.key,e.val]) w4:=by
   have:=run_entry_at (P:=P) w4 it q clock (L.map aP.born).toArray (es.map aP.entry).toArray clock e.entry (by rw[Ry,PR];rfl) hq (by simpa using⟨e,he,rfl⟩) (by
    have e1:((es.map aP.entry).toArray.toList.map (·.born))=es.map aP.born:=by simp[aP.entry,Function.comp_def]
    rw[e1];exact hn)
   simpa[pt,aP.entry,cd]using this
  refine .seq (R:=Rt (fun a3 w5=>(∀ i,i<4->a3.get i=a.get i)/\a3.get 4=pt V 0/\a3.get 24=pt it 0/\a3.get 5=cd e.key/\a3.tmps.size=a.tmps.size/\a3.defers=a.defers/\w5=w4) fun _ _=>False) (.reg ?_) (fun a3 w5 hh=>?_) (fun e a w he hq=>by cases e<;>first|exact absurd rfl he|exact hq.elim)
  ·refine aD (v:=.tuple #[cd e.key,e.val]) (w':=w4) (by simp[execOp,mk,aa,gp,lt,ab,e24,Us]) ?_
   refine jc (vs:=#[cd e.key,e.val]) (v:=cd e.key) (by simp[aa,gp,lt,ab]) rfl (aj (wpList_nil ⟨fun i hi=>?_,?_,?_,?_,?_,?_,rfl⟩))
   ·iterate 5 rw[ak (by omega)]
    exact Gz i hi
   ·iterate 5 rw[ak (by omega)]
    exact e4
   ·iterate 5 rw[ak (by omega)]
    exact e24
   ·simp[aa,gp,lt,ab]
   ·simp only[ab];exact Gu
   ·simp only[ai];exact Jg
  obtain⟨f0,f4,f24,f5,fs,fd,rfl⟩:=hh
  have lt3:∀ d,d<53->d<a3.tmps.size:=fun d hd=>by omega
  refine .reg ?_
  refine b5 (p:=⟨V,0,none⟩) (v:=.slice (some ⟨G,0,none⟩) L.length es.length) (by rw[aa,f4];rfl) (tf.vK.agg _) (by simp[World.cell?,Wd]) (ag ?_)
  rw[aa,ak (by omega),f5]
  refine qU tf.sl tf.info (k:=e.key) (by simp[aa,gp,lt3,ab]) ?_
  have Rz:∀ k,k<w5.heap.size->(w5.alloc (.cells #[cd e.key] T.tU32 (0,0))).heap[k]?=w5.heap[k]?:=fun k hk=>bA hk
  have UG:=m6 (P:=P) (w:=w5.alloc (.cells #[cd e.key] T.tU32 (0,0))) (tS:=T.tKs) (te:=T.tU32) (G:=G) (n:=es.length) (cur:=cur) (v:=cd e.key) (X:=w5.heap.size) (c:=1) (x:=L.length) (ty:=T.tKs) tf.sl
   (by obtain⟨i,_,h1,_,h2,_⟩:=tf.info;exact⟨i,h1,h2⟩) (by rw[Rz G NT];exact Wq) GE (by omega) (by
    have hn:=aB w5 (.cells #[cd e.key] T.tU32 (0,0))
    simp only[World.cell?,hn]
    rfl) rfl
  refine D5 (v:=.slice (some ⟨G,0,none⟩) (L.length+1) es.length) (w':=(w5.alloc (.cells #[cd e.key] T.tU32 (0,0))).setRow G (cur.setIfInBounds L.length (cd e.key))) ?_ ?_
  ·have e29:Act.eval ((((a3.put (some 29) (.slice (some ⟨G,0,none⟩) L.length es.length)).put (some 30) (cd e.key)).put (some 31) (.slice (some ⟨w5.heap.size,0,none⟩) 1 1))) (tm 29)=.slice (some ⟨G,0,none⟩) L.length es.length:=by simp[aa,gp,lt3,ab]
   have e31:Act.eval ((((a3.put (some 29) (.slice (some ⟨G,0,none⟩) L.length es.length)).put (some 30) (cd e.key)).put (some 31) (.slice (some ⟨w5.heap.size,0,none⟩) 1 1))) (tm 31)=.slice (some ⟨w5.heap.size,0,none⟩) 1 1:=by simp[aa,gp,lt3,ab]
   simp[execOp,bi,resolve,invoke,e29,e31,builtin,UG]
  generalize hW5:(w5.alloc (.cells #[cd e.key] T.tU32 (0,0))).setRow G (cur.setIfInBounds L.length (cd e.key))=W5
  have RD:ac (fun k=>k=G) w5 W5:=by
   rw[<- hW5]
   exact(ac.alloc _ _ _).trans (ac.setRow _ _ _ _ rfl)
  have We:W5.heap[V]?=some (.cells #[.slice (some ⟨G,0,none⟩) L.length es.length] T.tKs (0,0)):=by rw[RD.block V UL n4];exact Wd
  have UY:W5.heap[G]?=some (.cells (cur.setIfInBounds L.length (cd e.key)) T.tU32 (0,0)):=by
   rw[<- hW5]
   exact setRow_heap _ _ _ _ _ _ (by rw[Rz G NT];exact Wq)
  refine bw (g:=V) (o:=0) (cur:=#[.slice (some ⟨G,0,none⟩) L.length es.length]) (t:=T.tKs) (v:=.slice (some ⟨G,0,none⟩) (L.length+1) es.length) (vs:=[.slice (some ⟨G,0,none⟩) (L.length+1) es.length]) (by simp[aa,gp,lt3,ab,f4,pt]) (by simp[aa,gp,lt3,ab]) rfl (tf.vK.size _) We (by simp) (by simp[Value.oneCell']) (wpList_nil ?_)
  have e1:aI #[.slice (some ⟨G,0,none⟩) L.length es.length] 0 [.slice (some ⟨G,0,none⟩) (L.length+1) es.length]=#[.slice (some ⟨G,0,none⟩) (L.length+1) es.length]:=by simp[aI]
  rw[e1]
  have Sp:ac (fun k=>k=V) W5 (W5.setRow V #[.slice (some ⟨G,0,none⟩) (L.length+1) es.length]):=ac.setRow _ _ _ _ rfl
  have Nd:=RD.size
  have MG:md T w0 q it V G clock es (L++[e]) (W5.setRow V #[.slice (some ⟨G,0,none⟩) (L.length+1) es.length]):=by
   refine⟨?_,?_,?_,?_,⟨cur.setIfInBounds L.length (cd e.key),?_,by simp[GE],fun i x hx=>?_⟩,Hs,Qm,Gv.new⟩
   ·have h3:ac (fun k=>w0.heap.size<=k) w0 w1:=Gv.keeps.mono fun _ _ h=>h.elim
    have h4:ac (fun k=>w0.heap.size<=k) w1 (W5.setRow V #[.slice (some ⟨G,0,none⟩) (L.length+1) es.length]):=((hKW.mono fun k _ hk=>by omega).trans (RD.mono fun k _ hk=>by omega)).trans (Sp.mono fun k _ hk=>by omega)
    exact(h3.trans h4).mono fun k hk hX=>by omega
   ·rw[Sp.block q (by omega) (by omega),RD.block q (by omega) (by omega)];exact hq
   ·have:it<w5.heap.size:=by rw[UK,<- MW];exact QB
    rw[Sp.block it (by omega) (fun h=>n5 h.symm),RD.block it this (fun h=>n6 h.symm)];exact Ry
   ·rw[List.length_append];exact setRow_heap _ _ _ _ _ _ We
   ·rw[Sp.block G (by omega) (fun h=>n4 h.symm)];exact UY
   ·by_cases hi:i<L.length
    ·rw[Array.getElem?_setIfInBounds,if_neg (by omega)]
     rw[List.getElem?_append_left hi]at hx
     exact Ha i x hx
    ·rw[List.getElem?_append_right (by omega)]at hx
     have TW:i-L.length=0:=by
      have:=(List.getElem?_eq_some_iff.1 hx).1
      simp at this
      omega
     rw[TW]at hx
     obtain rfl:e=x:=by simpa using hx
     rw[show i=L.length by omega,Array.getElem?_setIfInBounds,if_pos rfl,if_pos (by omega)]
  show(∃ L,_)/\_
  refine⟨⟨L++[e],MG,fun i hi=>?_,?_,?_,?_,?_⟩,?_⟩
  ·iterate 4 rw[ak (by omega)]
   exact f0 i hi
  ·iterate 4 rw[ak (by omega)]
   exact f4
  ·iterate 4 rw[ak (by omega)]
   exact f24
  ·simp only[ab];exact fs
  ·simp only[ai];exact fd
  ·show es.length-oo _ V<es.length-oo w1 V
   rw[QI _ _ MG,QI _ _ Gv,List.length_append]
   simp only[List.length_cons,List.length_nil]
   omega
end
end
section
open Go Go.ChangeMaps
section
variable {P:Program}
theorem AG {T:TN}(tf:TF P T){a:Act}{w:World}{b o n G L sz0 s1 fC:Nat}{cap:Array Value}{m:Value}{t:List (Nat × Bs)}{I:Nat->World->Prop}{K E:Act->World->Prop}(h0:a.get 0=pt b o)(h1:a.get 1=.func (.func fC) #[] cap)(h37:a.get 37=.slice (some ⟨G,0,none⟩) n n)
  (h38:a.get 38=.int .i64 (n:Int)) (h39:a.get 39=.int .i64 ((0:Nat):Int)) (hs:53<=a.tmps.size) (hn:n=t.length) (hn63:n<4611686018427387904) (hG:∃ cur,w.heap[G]?=some (.cells cur T.tU32 (0,0))/\∀ (i:Nat) (p:Nat × Bs),t[i]?=some p->cur[i]?=some (cd p.1)) (hGs:sz0<=G/\G<s1)
  (KH:b<sz0) (_hLs:L<=sz0) (_hs1:sz0<=s1) (Gn:w.cell? ⟨b,o,none⟩=some m) (ht:cN w (fun k=>L<=k) m t) (hI:I 0 w) (Va:Ent P fC)
  (hC:∀ (j:Nat) (w1:World) (k:Nat) (l:Bs) (v:Value),t[j]?=some (k,l)->I j w1->cO w1 (fun x=>L<=x) v l->Calls P fC (#[.int .u32 (k:Int),v]++cap) w1 fun e w2=>e=.returned (.tuple #[])/\I (j+1) w2/\ac (fun x=>(L<=x/\x<sz0/\x≠b) \/ s1<=x) w1 w2)
  (h:∀ a' w',a'.tmps.size=a.tmps.size->a'.defers=a.defers->I n w'->K a' w'):aQ P (.block 2 (pq T)) (Rt K E) a w:=by
 obtain⟨cur,hG,Ha⟩:=hG
 refine .block (.loop (fun a1 w1=>∃ j:Nat,j<=n/\a1.get 0=pt b o/\a1.get 1=.func (.func fC) #[] cap/\a1.get 37=.slice (some ⟨G,0,none⟩) n n/\a1.get 38=.int .i64 (n:Int)/\a1.get 39=.int .i64 (j:Int)/\a1.tmps.size=a.tmps.size/\a1.defers=a.defers /\
   w1.heap[G]?=some (.cells cur T.tU32 (0,0))/\w1.cell? ⟨b,o,none⟩=some m/\cN w1 (fun k=>L<=k) m t/\I j w1) (fun a1 _=>((n:Int)-(match a1.get 39 with|.int _ q=>q|_=>0)).toNat) ⟨0,by omega,h0,h1,h37,h38,h39,rfl,rfl,hG,Gn,ht,hI⟩ ?_)
 rintro a1 w1 ⟨j,hj,e0,e1,e37,e38,e39,es,ed,eG,ec,et,eI⟩
 have lt:∀ d,d<53->d<a1.tmps.size:=fun d hd=>by omega
 have G3:∀ (bb:Bool) (Q:Act->World->Prop),bb=decide ((j:Int)<(n:Int))->aQ P (rg [mk (some 40) (.binOp .lss T.tInt (tm 39) (tm 38) 0)]) (Rt (fun a' w'=>a'=a1.put (some 40) (.bool bb)/\w'=w1) Q) a1 w1:=by
  intro bb Q HZ
  exact .reg (bt (b:=bb) (p:=j) (q:=n) (k:=.i64) e39 e38 (.inr (.inr (.inl ⟨rfl,HZ⟩))) (wpList_nil ⟨rfl,rfl⟩))
 by_cases Gq:j<n
 ·refine .seq (G3 true (fun _ _=>False) (by simp[Gq])) (fun a2 w2 hh=>?_) (fun e a w he hq=>by cases e<;>first|exact absurd rfl he|exact hq.elim)
  obtain⟨rfl,rfl⟩:=hh
  refine .seq (R:=Rt (fun a' w'=>a'=a1.put (some 40) (.bool true)/\w'=w2) fun _ _=>False) (.condT (by rw[aa,am (lt _ (by omega))]) (.skip ⟨rfl,rfl⟩)) (fun a3 w3 hh=>?_) (fun e a w he hq=>by cases e<;>first|exact absurd rfl he|exact hq.elim)
  obtain⟨rfl,rfl⟩:=hh
  obtain⟨p,hp⟩:∃ p,t[j]?=some p:=⟨t[j]'(by omega),List.getElem?_eq_getElem (by omega)⟩
  obtain⟨k,l⟩:=p
  refine .seq (R:=Rt (fun a' w'=>a'.get 0=pt b o/\a'.get 1=.func (.func fC) #[] cap/\a'.get 37=.slice (some ⟨G,0,none⟩) n n/\a'.get 38=.int .i64 (n:Int)/\a'.get 39=.int .i64 (j:Int)/\a'.tmps.size=a.tmps.size/\a'.defers=a.defers /\
    w'.heap[G]?=some (.cells cur T.tU32 (0,0))/\w'.cell? ⟨b,o,none⟩=some m/\cN w' (fun k=>L<=k) m t/\I (j+1) w') fun _ _=>False) (.block ?_) (fun a4 w4 hh=>?_) (fun e a w he hq=>by cases e<;>first|exact absurd rfl he|exact hq.elim)
  ·unfold se
   refine .seq (R:=Rt (fun a' w'=>a'.get 0=pt b o/\a'.get 1=.func (.func fC) #[] cap/\a'.get 37=.slice (some ⟨G,0,none⟩) n n/\a'.get 38=.int .i64 (n:Int)/\a'.get 39=.int .i64 (j:Int)/\a'.get 7=cd k/\a'.tmps.size=a.tmps.size/\a'.defers=a.defers/\w'=w3) fun _ _=>False) (.reg ?_) (fun a5 w5 hh=>?_) (fun e a w he hq=>by cases e<;>first|exact absurd rfl he|exact hq.elim)
   ·refine cz (b:=G) (o:=0) (n:=n) (c:=n) (i:=j) (k:=.i64) (sz:=1) (by simp[aa,gp,lt,e37]) (by simp[aa,gp,lt,e39]) Gq tf.sl (tf.vU.size _) ?_
    refine b5 (p:=⟨G,0+j*1,none⟩) (v:=cd k) (by simp[aa,gp,lt,ab]) (tf.vU.agg _) (by
     have:=Ha j _ hp
     simp[World.cell?,eG,this]) (aj (wpList_nil ⟨?_,?_,?_,?_,?_,?_,?_,?_,rfl⟩))
    ·simp[gp,lt,ab,e0]
    ·simp[gp,lt,ab,e1]
    ·simp[gp,lt,ab,e37]
    ·simp[gp,lt,ab,e38]
    ·simp[gp,lt,ab,e39]
    ·simp[aa,gp,lt,ab]
    ·simp only[ab];exact es
    ·simp only[ai];exact ed
   obtain⟨f0,f1,f37,f38,f39,f7,fs,fd,rfl⟩:=hh
   have lt5:∀ d,d<53->d<a5.tmps.size:=fun d hd=>by omega
   have IX:∃ (q clock jj:Nat) (es:List aP) (e:aP),m=.map (some q)/\w5.heap[q]?=some (.map (es.map aP.entry).toArray clock)/\(es.map aP.key).Nodup/\es[jj]?=some e/\e.key=k/\cO w5 (fun x=>L<=x) e.val l:=by
    rcases et with⟨_,rfl⟩|⟨q,rfl,_,_,⟨es,clock,f,Hc,Gu,_,Gy,Gk,_⟩,_⟩
    ·simp at hp
    ·have hm:(k,l)∈es.map fun e=>(e.key,f e):=Gk.mem_iff.2 (List.mem_of_getElem? hp)
     obtain⟨e,he,QX⟩:=List.mem_map.1 hm
     simp only[Prod.mk.injEq]at QX
     obtain⟨jj,Q8⟩:=List.getElem?_of_mem he
     exact⟨q,clock,jj,es,e,rfl,Hc,Gy,Q8,QX.1,by rw[<- QX.2];exact(Gu e he).2.2.mono fun _ _ h=>.inl h⟩
   obtain⟨q,clock,jj,es',ev,rfl,Hc,Gy,Q8,rfl,G7⟩:=IX
   obtain⟨kt,et',hM,Wo⟩:=tf.map
   refine .reg (ag (ag (ag ?_)))
   rw[aa,f1,aa,ak (by omega),f7,aa,ak (by omega),ak (by omega),f0]
   refine aL (p:=⟨b,o,none⟩) (by simp[aa,gp,lt5,ab,pt]) ?_
   refine bR (B:=b) (O:=o) (by simp[aa,gp,lt5,ab]) tf.fld ?_
   refine b5 (p:=⟨b,o+0,none⟩) (v:=.map (some q)) (by simp[aa,gp,lt5,ab]) (tf.fld.var.agg _) ec (ag ?_)
   refine aD (v:=ev.val) (w':=w5) ?_ ?_
   ·have Ih:=sY (w:=w5) hM Wo Hc Gy Q8 rfl
    have e48:∀ (A:Act),A=A->A.eval (tm 48)=.map (some q)->A.eval (tm 49)=cd ev.key->(execOp A.eval (mk (some 50) (.lookup T.tM (tm 48) (tm 49) false))).run P w5=.ok (.value ev.val) w5:=fun A _ h1 h2=>by
     simp[execOp,mk,h1,h2,Ih]
    refine e48 _ rfl ?_ ?_
    ·simp[aa,gp,lt5,ab]
    ·simp[aa,gp,lt5,ab,f7]
   refine vw (f:=fC) (cap:=cap) (vs:=#[.int .u32 (ev.key:Int),ev.val]) (args:=[tm 44,tm 50]) Va (by simp[aa,gp,lt5,ab]) (by simp[aa,gp,lt5,ab,cd]) (hC j w5 ev.key l ev.val hp eI G7) fun e w6 hR=>?_
   obtain⟨he,ID,I4⟩:=hR
   refine⟨_,he,wpList_nil ⟨?_,?_,?_,?_,?_,?_,?_,?_,?_,?_,ID⟩⟩
   ·simp[gp,lt5,ab,f0]
   ·simp[gp,lt5,ab,f1]
   ·simp[gp,lt5,ab,f37]
   ·simp[gp,lt5,ab,f38]
   ·simp[gp,lt5,ab,f39]
   ·simp only[ab];exact fs
   ·simp only[ai];exact fd
   ·have NT:G<w5.heap.size:=(Array.getElem?_eq_some_iff.1 eG).1
    rw[I4.block G NT (by omega)];exact eG
   ·exact I4.cell (fun hh=>by rcases hh with hh|hh;exact hh.2.2 rfl;omega) ec
   ·exact et.keep (I4.mono fun k _ hk=>by omega)
  obtain⟨g0,g1,g37,g38,g39,gs,gd,gG,gc,gt,gI⟩:=hh
  have lt4:∀ d,d<53->d<a4.tmps.size:=fun d hd=>by omega
  refine .reg ?_
  refine cE (k:=.i64) (m:=(j:Int)) (n:=1) (v:=.int .i64 ((j+1:Nat):Int)) (by rw[aa];exact g39) rfl (by simp) (by
   have:IntKind.i64.wrap ((j:Int)+1)=((j+1:Nat):Int):=by simp[IntKind.wrap,IntKind.bits,IntKind.signed];omega
   simp[binOp,Op.intArith,this]) (ag (wpList_nil ?_))
  show(∃ j',_)/\_
  refine⟨⟨j+1,by omega,?_,?_,?_,?_,?_,?_,?_,gG,gc,gt,gI⟩,?_⟩
  ·simp[gp,lt4,ab,g0]
  ·simp[gp,lt4,ab,g1]
  ·simp[gp,lt4,ab,g37]
  ·simp[gp,lt4,ab,g38]
  ·simp[aa,gp,lt4,ab]
  ·simp only[ab];exact gs
  ·simp only[ai];exact gd
  ·show((n:Int)-(match Act.get _ 39 with|.int _ q=>q|_=>0)).toNat<((n:Int)-(match a1.get 39 with|.int _ q=>q|_=>0)).toNat
   rw[e39,am (by simp only[ab];exact lt4 _ (by omega)),aa,am (lt4 _ (by omega))]
   simp only
   omega
 ·have I6:j=n:=by omega
  refine .seq (G3 false (fun _ _=>False) (by simp;omega)) (fun a2 w2 hh=>?_) (fun e a w he hq=>by cases e<;>first|exact absurd rfl he|exact hq.elim)
  obtain⟨rfl,rfl⟩:=hh
  refine .seq (R:=Exit.then (fun _ _=>False) (Exit.inBlock 2 (Rt K E))) (.condF (by rw[aa,am (lt _ (by omega))]) (.exit ?_)) (fun _ _ hh=>hh.elim) (fun e a w he hq=>by rw[cA he]at hq ⊢;exact hq)
  show K _ _
  exact h _ _ (by simp only[ab];exact es) (by simp only[ai];exact ed) (I6 ▸ eI)
end
end
section
open Go Go.ChangeMaps
section
variable {P:Program}
theorem ul (hm:P.follows .mixedOrders=true){T:TN}(tf:TF P T)(LZ:SortOk P T){f nt:Nat}(hfn:FnIs P f nt [] (cEach T))(G8:53<=nt){w:World}{b o L fC:Nat}{m:Value}{t:List (Nat × Bs)}{cap:Array Value}{I:Nat->Nat->World->Prop}(hc:w.cell? ⟨b,o,none⟩=some m)(hb:b<w.heap.size)(hL:L<=w.heap.size)
  (ht:cN w (fun k=>L<=k) m t) (hn:t.length<=35200000000000) (Va:Ent P fC) (IS:∀ w1,ac (fun _=>False) w w1->I w1.heap.size 0 w1)
  (hC:∀ (s1 j:Nat) (w1:World) (k:Nat) (l:Bs) (v:Value),w.heap.size<=s1->t[j]?=some (k,l)->I s1 j w1->cO w1 (fun x=>L<=x) v l->Calls P fC (#[.int .u32 (k:Int),v]++cap) w1 fun e w2=>e=.returned (.tuple #[])/\I s1 (j+1) w2/\ac (fun x=>(L<=x/\x<w.heap.size/\x≠b) \/ s1<=x) w1 w2) :
  Calls P f #[pt b o,.func (.func fC) #[] cap] w fun e w'=>e=.returned (.tuple #[])/\∃ s1,w.heap.size<=s1/\I s1 t.length w':=by
 refine fb hm hfn (by simp) [pt b o,.func (.func fC) #[] cap] (by simp;omega) fun a harg hs hd=>?_
 have g0:=harg 0 _ rfl
 have g1:=harg 1 _ rfl
 obtain⟨kt,et,hM,Wo⟩:=tf.map
 have VW:b<w.heap.size:=hb
 unfold cEach
 have My:∀ (bb:Bool) (Y:Act->World->Prop),bb=decide (t.length=0)->(∀ a2,a2.get 13=.bool bb->a2.get 0=pt b o->a2.get 1=.func (.func fC) #[] cap->a2.tmps.size=nt->a2.defers=[]->Y a2 w) ->
   aQ P (rg (pl T 8++[bi (some 12) .len [tm 11] [T.tM] T.tInt,mk (some 13) (.binOp .eql T.tInt (tm 12) (ki .i64 0) 0)])) (Rt Y fun _ _=>False) a w:=by
  intro bb Y HZ hY
  refine .reg (no tf g0 hc (by omega) (by omega) fun a1 Gz Is Gu Jg=>?_)
  refine lK hM (by rw[aa];exact Is) ht ?_
  refine bt (b:=bb) (p:=(t.length:Int)) (q:=0) (k:=.i64) (by rw[aa,am (by omega)]) rfl (.inr (.inr (.inr (.inr (.inl ⟨rfl,by rw[HZ];exact decide_eq_decide.2 (by omega)⟩))))) (wpList_nil (hY _ ?_ ?_ ?_ ?_ ?_))
  ·rw[am (by simp only[ab];omega)]
  ·rw[ak (by omega),ak (by omega),Gz 0 (by omega)];exact g0
  ·rw[ak (by omega),ak (by omega),Gz 1 (by omega)];exact g1
  ·simp only[ab];omega
  ·simp only[ai];exact Jg.trans hd
 by_cases h0:t.length=0
 ·refine .seq (R:=Rt (fun _ _=>False) (fun a' w'=>a'.defers=[]/\(Ending.returned (bj [] a')=.returned (.tuple #[])/\∃ s1,w.heap.size<=s1/\I s1 t.length w'))) (.seq (My true _ (by simp[h0]) fun a2 Ia _ _ _ H7=>?_) (fun a1 w1 hh=>hh) (fun e a w he hq=>by cases e<;>first|exact absurd rfl he|exact hq.elim)) (fun _ _ hh=>hh.elim) (fun e a w he hq=>by cases e<;>first|exact absurd rfl he|exact hq)
  exact .condT Ia (.ret ⟨H7,rfl,w.heap.size,Nat.le_refl _,h0 ▸ IS w (ac.refl _ _)⟩)
 refine .seq (R:=Rt (fun a2 w2=>a2.get 0=pt b o/\a2.get 1=.func (.func fC) #[] cap/\a2.tmps.size=nt/\a2.defers=[]/\w2=w) fun _ _=>False) (.seq (My false _ (by simp[h0]) fun a2 Ia e0 e1 G9 H7=>?_) (fun a1 w1 hh=>hh) (fun e a w he hq=>by cases e<;>first|exact absurd rfl he|exact hq.elim)) (fun a2 w2 hh=>?_) (fun e a w he hq=>by cases e<;>first|exact absurd rfl he|exact hq.elim)
 ·exact .condF Ia (.skip ⟨e0,e1,G9,H7,rfl⟩)
 obtain⟨e0,e1,G9,H7,rfl⟩:=hh
 obtain⟨q,rfl,V9,Ti,es,clock,ff,hq,Jf,Lm,JF,NC,Hp⟩:∃ r,m=.map (some r)/\¬ L<=r/\r<w2.heap.size/\iA w2 (fun k=>L<=k) r t:=by
  rcases ht with⟨_,rfl⟩|h
  ·exact absurd rfl h0
  ·obtain⟨r,e1,e2,e3,e4,_⟩:=h
   exact⟨r,e1,e2,e3,e4⟩
 have Gp:es.length=t.length:=by simpa using NC.length_eq
 have lt2:∀ d,d<53->d<a2.tmps.size:=fun d hd=>by omega
 obtain⟨i,z,hi,hz,G0,L5⟩:=tf.info
 refine .seq (R:=Rt (fun a3 w3=>a3.get 0=pt b o/\a3.get 1=.func (.func fC) #[] cap/\a3.get 4=pt (w2.heap.size+1) 0/\a3.tmps.size=nt/\a3.defers=[]/\ac (fun _=>False) w2 w3/\w3.heap.size=w2.heap.size+2 /\
   w3.heap[w2.heap.size+1]?=some (.cells #[.slice (some ⟨w2.heap.size,0,none⟩) 0 es.length] T.tKs (0,0))/\∃ cur,w3.heap[w2.heap.size]?=some (.cells cur T.tU32 (0,0))/\cur.size=es.length) fun _ _=>False) (.reg ?_) (fun a3 w3 hh=>?_) (fun e a w he hq=>by cases e<;>first|exact absurd rfl he|exact hq.elim)
 ·refine no tf e0 hc (by omega) (by omega) fun a3 Gz RG Hh H6=>?_
  refine lK hM (by rw[aa];exact RG) ht ?_
  have Sb:=run_makeSlice (P:=P) (w:=w2) T.tKs T.tU32 i z tf.sl hi hz .i64 .i64 0 (t.length:Int) (by omega) (by omega)
  have T9:(Instr.makeSlice T.tKs (.int .i64 0) (.int .i64 (t.length:Int))).run P w2=.ok (.slice (some ⟨w2.heap.size,0,none⟩) 0 t.length) (w2.alloc (.cells (madeCells z.cells (t.length*i.size)) T.tU32)):=by
   have:=run_make (P:=P) w2 T.tKs T.tU32 i z tf.sl hi hz .i64 .i64 0 (t.length:Int) (by omega) (by omega) (by rw[L5];omega) (by omega)
   simpa using this
  clear Sb
  refine aD (v:=.slice (some ⟨w2.heap.size,0,none⟩) 0 t.length) (w':=w2.alloc (.cells (madeCells z.cells (t.length*i.size)) T.tU32)) (by
   have e18:(a3.put (some 18) (.int .i64 (t.length:Int))).eval (tm 18)=.int .i64 (t.length:Int):=by rw[aa,am (by omega)]
   have e0':(a3.put (some 18) (.int .i64 (t.length:Int))).eval (ki .i64 0)=.int .i64 0:=rfl
   simp[execOp,mk,e18,e0',T9]) ?_
  refine ep (z:=.slice none 0 0) (tf.zK _) ?_
  have IV:(w2.alloc (.cells (madeCells z.cells (t.length*i.size)) T.tU32)).heap.size=w2.heap.size+1:=by simp
  generalize Kp:w2.alloc (.cells (madeCells z.cells (t.length*i.size)) T.tU32)=w3 at IV ⊢
  have LL:w3.heap[w2.heap.size]?=some (.cells (madeCells z.cells (t.length*i.size)) T.tU32 (0,0)):=by rw[<- Kp];exact aB _ _
  have Gx:ac (fun _=>False) w2 w3:=by rw[<- Kp];exact ac.alloc _ _ _
  have Pi:=aB w3 (.cells (Value.cells (.slice none 0 0)) T.tKs (0,0))
  rw[IV]at Pi ⊢
  refine bw (g:=w2.heap.size+1) (o:=0) (cur:=Value.cells (.slice none 0 0)) (t:=T.tKs) (v:=.slice (some ⟨w2.heap.size,0,none⟩) 0 t.length) (vs:=[.slice (some ⟨w2.heap.size,0,none⟩) 0 t.length]) (by rw[aa,am (by simp only[ab];omega)]) (by rw[aa,ak (by omega),am (by simp only[ab];omega)]) rfl (tf.vK.size _) Pi (by simp[Value.cells]) (by simp[Value.oneCell']) (wpList_nil ⟨?_,?_,?_,?_,?_,?_,?_,?_,madeCells z.cells (t.length*i.size),?_,?_⟩)
  ·iterate 3 rw[ak (by omega)]
   rw[Gz 0 (by omega)];exact e0
  ·iterate 3 rw[ak (by omega)]
   rw[Gz 1 (by omega)];exact e1
  ·rw[am (by simp only[ab];omega)];rfl
  ·simp only[ab];omega
  ·simp only[ai];exact H6.trans H7
  ·have h4:ac (fun k=>w2.heap.size<=k) w2 ((w3.alloc (.cells (Value.cells (.slice none 0 0)) T.tKs (0,0))).setRow (w2.heap.size+1) (aI (Value.cells (.slice none 0 0)) 0 [.slice (some ⟨w2.heap.size,0,none⟩) 0 t.length])):=
    ((Gx.mono fun _ _ h=>h.elim).trans (ac.alloc _ _ _)).trans (ac.setRow _ _ _ _ (by omega))
   exact h4.mono fun k hk hX=>by omega
  ·simp[IV]
  ·rw[setRow_heap _ _ _ _ _ _ Pi,Gp]
   simp[aI,Value.cells]
  ·rw[setRow_other _ _ _ _ (by omega),bA (by omega)];exact LL
  ·rw[size_madeCells,G0,Gp];omega
 obtain⟨k0,k1,k4,Hh,H6,Gx,Pq,P9,cur,LL,GE⟩:=hh
 refine .seq (R:=Rt (fun a4 w4=>∃ Ls,a4.get 0=pt b o/\a4.get 1=.func (.func fC) #[] cap/\a4.get 4=pt (w2.heap.size+1) 0/\a4.tmps.size=nt/\a4.defers=[]/\md T w2 q (w2.heap.size+2) (w2.heap.size+1) w2.heap.size clock es Ls w4/\(∀ e∈es,e.born∈Ls.map aP.born)) fun _ _=>False) (.seq (R:=Rt (fun a4 w4=>a4.get 0=pt b o/\a4.get 1=.func (.func fC) #[] cap/\a4.get 4=pt (w2.heap.size+1) 0/\a4.get 24=pt (w2.heap.size+2) 0/\a4.tmps.size=nt/\a4.defers=[]/\md T w2 q (w2.heap.size+2) (w2.heap.size+1) w2.heap.size clock es [] w4) fun _ _=>False) (.reg ?_) (fun a4 w4 hh=>?_) (fun e a w he hq=>by cases e<;>first|exact absurd rfl he|exact hq.elim)) (fun a4 w4 hh=>?_) (fun e a w he hq=>by cases e<;>first|exact absurd rfl he|exact hq.elim)
 ·refine no tf k0 (Gx.cell id hc) (by omega) (by omega) fun a4 Gz h23 IP KF=>?_
  have Lt:w3.heap[q]?=some (.map (es.map aP.entry).toArray clock):=by rw[Gx.block q Ti id];exact hq
  have hr:=run_range_map w3 T.tM kt et q (es.map aP.entry).toArray clock hM Lt
  refine aD (v:=pt w3.heap.size 0) (w':=w3.alloc (.mapIter (some q) clock #[] clock)) (by
   have e23:a4.eval (tm 23)=.map (some q):=h23
   simp[execOp,mk,e23,hr,pt]) (wpList_nil ⟨?_,?_,?_,?_,?_,?_,?_⟩)
  ·rw[ak (by omega),Gz 0 (by omega)];exact k0
  ·rw[ak (by omega),Gz 1 (by omega)];exact k1
  ·rw[ak (by omega),Gz 4 (by omega)];exact k4
  ·rw[am (by omega),Pq]
  ·simp only[ab];omega
  ·simp only[ai];exact KF.trans H6
  ·refine⟨Gx.trans (ac.alloc _ _ _),?_,?_,?_,⟨cur,?_,GE,fun i e h=>by simp at h⟩,fun _ h=>by simp at h,by simp,by omega⟩
   ·rw[bA (by omega)];exact Lt
   ·have:=aB w3 (.mapIter (some q) clock #[] clock)
    rw[Pq]at this
    simpa using this
   ·rw[bA (by omega)];exact P9
   ·rw[bA (by omega)];exact LL
 ·obtain⟨f0,f1,f4,f24,fs,fd,hg⟩:=hh
  refine ya tf f24 f4 (by omega) hg (fun e he=>(Jf e he).2.1) Lm fun a' w' Ls Gz h4 hs' hd' GA Jx=>⟨Ls,?_,?_,h4,by omega,hd'.trans fd,GA,Jx⟩
  ·rw[Gz 0 (by omega)];exact f0
  ·rw[Gz 1 (by omega)];exact f1
 obtain⟨Ls,f0,f1,f4,fs,fd,hg,Jx⟩:=hh
 have Qc:=rF Ls es hg.nod Lm hg.sub Jx
 have Wm:Ls.length=es.length:=by simpa using Qc.length_eq
 have lt4:∀ d,d<53->d<a4.tmps.size:=fun d hd=>by omega
 obtain⟨cur4,hG4,Uz,UF⟩:=hg.row
 have Kg:=hg.box
 rw[Wm]at Kg
 refine .seq (R:=Rt (fun a5 w5=>a5.get 0=pt b o/\a5.get 1=.func (.func fC) #[] cap/\a5.get 4=pt (w2.heap.size+1) 0/\a5.tmps.size=nt/\a5.defers=[]/\ac (fun k=>k=w2.heap.size) w4 w5 /\
   ∃ (cur':Array Value) (ks':List Nat),w5.heap[w2.heap.size]?=some (.cells cur' T.tU32 (0,0))/\ks'.Perm (Ls.map aP.key)/\ks'.Pairwise (·<=·)/\∀ (i:Nat) (x:Nat),ks'[i]?=some x->cur'[i]?=some (cd x)) fun _ _=>False) (.reg ?_) (fun a5 w5 hh=>?_) (fun e a w he hq=>by cases e<;>first|exact absurd rfl he|exact hq.elim)
 ·refine b5 (p:=⟨w2.heap.size+1,0,none⟩) (v:=.slice (some ⟨w2.heap.size,0,none⟩) es.length es.length) (by rw[aa];exact f4) (tf.vK.agg _) (by simp[World.cell?,Kg]) ?_
  refine aD (v:=.iface T.tKs (.slice (some ⟨w2.heap.size,0,none⟩) es.length es.length)) (w':=w4) (by
   have e33:(a4.put (some 33) (.slice (some ⟨w2.heap.size,0,none⟩) es.length es.length)).eval (tm 33)=.slice (some ⟨w2.heap.size,0,none⟩) es.length es.length:=by rw[aa,am (lt4 _ (by omega))]
   simp[execOp,mk,e33,Instr.makeInterface,run_underlying tf.sl]) ?_
  refine aD (v:=.func (.func T.fLess) #[] #[pt (w2.heap.size+1) 0]) (w':=w4) (by
   have e4':∀ A:Act,A.eval (tm 4)=pt (w2.heap.size+1) 0->(execOp A.eval (mk (some 35) (.makeFunc (.func T.fLess) #[] #[tm 4]))).run P w4=.ok (.value (.func (.func T.fLess) #[] #[pt (w2.heap.size+1) 0])) w4:=fun A h=>by
    simp[execOp,mk,Instr.makeFunc,h]
   exact e4' _ (by simp[aa,gp,lt4,ab,f4])) ?_
  refine aR (vs:=#[.iface T.tKs (.slice (some ⟨w2.heap.size,0,none⟩) es.length es.length),.func (.func T.fLess) #[] #[pt (w2.heap.size+1) 0]]) LZ.1 (by simp[aa,gp,lt4,ab])
   (LZ.2 w4 (w2.heap.size+1) w2.heap.size es.length (Ls.map aP.key) cur4 (by simpa using Wm) (by omega) (fun x hx=>by
    obtain⟨e,he,rfl⟩:=List.mem_map.1 hx
    exact(Jf e (hg.sub e he)).1) Kg hG4 Uz (by omega) fun i x hx=>by
     rw[List.getElem?_map,Option.map_eq_some_iff]at hx
     obtain⟨e,he,rfl⟩:=hx
     exact UF i e he) fun e w5 hR=>⟨_,hR.1,wpList_nil ⟨?_,?_,?_,?_,?_,hR.2.1,hR.2.2⟩⟩
  ·simp[gp,lt4,ab,f0]
  ·simp[gp,lt4,ab,f1]
  ·simp[gp,lt4,ab,f4]
  ·simp only[ab];exact fs
  ·simp only[ai];exact fd
 obtain⟨p0,p1,p4,ps,pd,HC,cur5,ks,UY,HB,SV,UE⟩:=hh
 have Hu:ks=t.map (·.1):=by
  refine rr ?_ SV (wn Hp)
  have h1:(es.map aP.key).Perm (t.map (·.1)):=by
   have:=NC.map (·.1)
   simpa[Function.comp_def]using this
  exact HB.trans (Qc.trans h1)
 have lt5:∀ d,d<53->d<a5.tmps.size:=fun d hd=>by omega
 have OB:ac (fun _=>False) w2 w5:=by
  have:ac (fun k=>w2.heap.size<=k) w2 w5:=(hg.keeps.mono fun _ _ h=>h.elim).trans (HC.mono fun k _ hk=>by omega)
  exact this.mono fun k hk hX=>by omega
 have UM:w2.heap.size+1<w4.heap.size:=(Array.getElem?_eq_some_iff.1 Kg).1
 have SX:=HC.size
 refine .seq (R:=Rt (fun a6 w6=>a6=((a5.put (some 37) (.slice (some ⟨w2.heap.size,0,none⟩) es.length es.length)).put (some 38) (.int .i64 (es.length:Int))).put (some 39) (.int .i64 ((0:Nat):Int))/\w6=w5) fun _ _=>False) (.reg ?_) (fun a6 w6 hh=>?_) (fun e a w he hq=>by cases e<;>first|exact absurd rfl he|exact hq.elim)
 ·refine b5 (p:=⟨w2.heap.size+1,0,none⟩) (v:=.slice (some ⟨w2.heap.size,0,none⟩) es.length es.length) (by rw[aa];exact p4) (tf.vK.agg _) (by
   have:w5.heap[w2.heap.size+1]?=some (.cells #[.slice (some ⟨w2.heap.size,0,none⟩) es.length es.length] T.tKs (0,0)):=by rw[HC.block _ UM (by omega)];exact Kg
   simp[World.cell?,this]) ?_
  exact en (base:=some ⟨w2.heap.size,0,none⟩) (n:=es.length) (c:=es.length) (by rw[aa,am (lt5 _ (by omega))]) tf.sl (ag (wpList_nil ⟨rfl,rfl⟩))
 obtain⟨rfl,rfl⟩:=hh
 refine AG (b:=b) (o:=o) (n:=es.length) (G:=w2.heap.size) (L:=L) (sz0:=w2.heap.size) (s1:=w6.heap.size) (fC:=fC) (cap:=cap) (m:=.map (some q)) (t:=t) (I:=I w6.heap.size) tf ?_ ?_ ?_ ?_ ?_ ?_ Gp (by omega) ⟨cur5,UY,fun i p hp=>?_⟩ (by omega) hb hL (by omega) (OB.cell id hc) (ht.keep (OB.mono fun _ _ h=>h.elim)) (IS w6 OB) Va (fun j w1 k l v h1 h2 h3=>hC w6.heap.size j w1 k l v (by omega) h1 h2 h3) fun a' w' h1 h2 h3=>⟨?_,rfl,w6.heap.size,by omega,Gp ▸ h3⟩
 ·simp[gp,lt5,ab,p0]
 ·simp[gp,lt5,ab,p1]
 ·simp[gp,lt5,ab]
 ·simp[gp,lt5,ab]
 ·simp[gp,lt5,ab]
 ·simp only[ab];omega
 ·refine UE i p.1 ?_
  rw[Hu,List.getElem?_map,hp]
  rfl
 ·rw[h2]
  simp only[ai]
  exact pd
end
end
section
open Go Go.ChangeMaps
section
variable {P:Program}
structure Bx (b tSl te L D:Nat)(d0:Value)(w0:World)(s1:Nat)(bs:Bs)(w:World)(d':Value):Prop where
 box:w.heap[D]?=some (.cells #[d'] tSl (0,0))
 gr:Gr L te d0 w0 d' bs w
 own:∀ k,d'.ownBlock=some k->k<D \/ s1<=k
 s1:D<s1/\s1<=w.heap.size
 D0:w0.heap.size<=D/\L<=D
 nb:b<w0.heap.size/\d0.ownBlock≠some b
theorem Bx.dst {b tSl te L D s1:Nat}{d0 d':Value}{w0 w:World}{bs:Bs}(h:Bx b tSl te L D d0 w0 s1 bs w d'):aH w L te d' bs:=h.gr.dst
theorem Bx.step {b tSl te L D s1:Nat}{d0 d' d'':Value}{w0 w w1:World}{bs bs':Bs}(h:Bx b tSl te L D d0 w0 s1 bs w d')(hg:Gr L te d' w d'' bs' w1) :
  w1.heap[D]?=some (.cells #[d'] tSl (0,0))/\Bx b tSl te L D d0 w0 s1 bs' (w1.setRow D #[d'']) d''/\ac (fun x=>(L<=x/\x<D+1/\x≠b) \/ s1<=x) w (w1.setRow D #[d'']):=by
 have hDl:D<w.heap.size:=by have:=h.s1;omega
 have H1:d'.ownBlock≠some D:=fun hh=>by have:=h.own D hh;have:=h.s1;omega
 have G0:=hg.keeps.size
 have Hc:w1.heap[D]?=some (.cells #[d'] tSl (0,0)):=by rw[hg.keeps.block D hDl H1];exact h.box
 have J8:∀ k,d''.ownBlock=some k->k<D \/ s1<=k:=fun k hk=>by
  rcases hg.own k hk with h1|h1
  ·exact h.own k h1
  ·have:=h.s1;exact .inr (by omega)
 have Tw:d''.ownBlock≠some D:=fun hh=>by have:=J8 D hh;have:=h.s1;omega
 have Hu:ac (fun k=>k=D) w1 (w1.setRow D #[d'']):=ac.setRow _ _ _ _ rfl
 refine⟨Hc,⟨setRow_heap _ _ _ _ _ _ Hc,(h.gr.trans hg).post Hu fun k hk=>?_,J8,⟨h.s1.1,by have:=Hu.size;have:=h.s1;omega⟩,h.D0,h.nb⟩,?_⟩
 ·subst hk;exact⟨h.D0.1,Tw⟩
 ·refine(hg.keeps.mono fun k _ hk=>?_).trans (Hu.mono fun k _ hk=>?_)
  ·have h1:=h.dst.own hk
   rcases h.own k hk with h2|h2
   ·refine .inl ⟨h1.1,by omega,fun hkb=>?_⟩
    subst hkb
    rcases h.gr.own k hk with h3|h3
    ·exact h.nb.2 h3
    ·have:=h.nb.1;omega
   ·exact .inr h2
  ·subst hk;exact .inl ⟨h.D0.2,by omega,by have:=h.nb;have:=h.D0;omega⟩
theorem Bx.lim {b tSl te L D s1:Nat}{d0 d':Value}{w0 w:World}{bs:Bs}(h:Bx b tSl te L D d0 w0 s1 bs w d'):L<=w.heap.size:=by have:=h.s1;have:=h.D0;omega
theorem sJ (hm:P.follows .mixedOrders=true){T:TN}{b te L D s1:Nat}(ot:OctT P T.tSl te)(hV:bd P T.tSl false 1)(Jz:P.underlying T.tInt=some (.int .i64))(UO:P.underlying T.tU32=some (.int .u32))(NR:Ent P T.fUv)(So:∀ (x:Nat) (w:World),x<4294967296->ApC P te T.fUv (.int .u32 x) (uvar x) w)
  {f nt:Nat} (hfn:FnIs P f nt [] (cTOne T)) (G8:16<=nt) {w0 w:World} {d0 d' v:Value} {bs l:Bs} {k:Nat} (hb:Bx b T.tSl te L D d0 w0 s1 bs w d') (hk:k<4294967296) (hv:cO w (fun x=>L<=x) v l) (hlim:bs.length+(dj (k,l)).length<=d7) :
  Calls P f #[.int .u32 (k:Int),v,pt D 0] w fun e w'=>e=.returned (.tuple #[])/\(∃ d'',Bx b T.tSl te L D d0 w0 s1 (bs++dj (k,l)) w' d'')/\ac (fun x=>(L<=x/\x<D+1/\x≠b) \/ s1<=x) w w':=by
 refine fb hm hfn (by simp) [.int .u32 (k:Int),v,pt D 0] (by simp;omega) fun a harg hs hd=>?_
 have g0:=harg 0 _ rfl
 have g1:=harg 1 _ rfl
 have g2:=harg 2 _ rfl
 have VZ:∀ {wa wb:World},ac (fun x=>(L<=x/\x<D+1/\x≠b) \/ s1<=x) wa wb->ac (fun x=>L<=x) wa wb:=fun hh=>hh.mono fun x _ hx=>by have:=hb.D0;have:=hb.s1;omega
 simp only[dj,List.length_append]at hlim
 have e1:∀ (x y:Value),aI #[x] 0 [y]=#[y]:=fun x y=>by simp[aI]
 have cell:∀ {ww:World} {dd:Value},ww.heap[D]?=some (.cells #[dd] T.tSl (0,0))->ww.cell? ⟨D,0,none⟩=some dd:=fun hh=>by simp[World.cell?,hh]
 have one:∀ {dd:Value} {bb:Bs} {ww:World},aH ww L te dd bb->dd.oneCell'=true/\dd.cells=#[dd]:=fun hh=>by
  rcases hh with⟨rfl,_⟩|⟨_,_,_,rfl,_⟩<;>exact⟨rfl,rfl⟩
 unfold cTOne
 refine .seq (R:=Rt (fun a1 w1=>a1.get 0=.int .u32 (k:Int)/\a1.get 1=v/\a1.get 2=pt D 0/\a1.tmps.size=nt/\a1.defers=[]/\(∃ d1,Bx b T.tSl te L D d0 w0 s1 (bs++uvar k) w1 d1)/\ac (fun x=>(L<=x/\x<D+1/\x≠b) \/ s1<=x) w w1) fun _ _=>False) (.reg ?_) (fun a1 w1 hh=>?_) (fun e a w he hq=>by cases e<;>first|exact absurd rfl he|exact hq.elim)
 ·refine b5 (p:=⟨D,0,none⟩) (v:=d') (by rw[aa];exact g2) (hV.agg _) (cell hb.box) (ag ?_)
  rw[aa,ak (by omega),g0]
  refine aR (vs:=#[d',.int .u32 (k:Int)]) NR ?_ (So k w hk L d' bs hb.dst hb.lim (by omega)) fun e w1 hR=>?_
  ·simp only[List.map_cons,List.map_nil,aa]
   rw[ak (by omega),am (by omega),am (by simp only[ab];omega)]
  obtain⟨d1,he,hg⟩:=hR
  obtain⟨Hc,Kf,HM⟩:=hb.step hg
  refine⟨d1,he,bw (g:=D) (o:=0) (cur:=#[d']) (t:=T.tSl) (v:=d1) (vs:=[d1]) ?_ ?_ (by rw[(one hg.dst).2]) (hV.size _) Hc (by simp) (by simpa using(one hg.dst).1) (wpList_nil ⟨?_,?_,?_,?_,?_,⟨d1,by rw[e1];exact Kf⟩,by rw[e1];exact HM⟩)⟩
  ·rw[aa,ak (by omega),ak (by omega),ak (by omega)];exact g2
  ·rw[aa,am (by simp only[ab];omega)]
  ·rw[ak (by omega),ak (by omega),ak (by omega)];exact g0
  ·rw[ak (by omega),ak (by omega),ak (by omega)];exact g1
  ·rw[ak (by omega),ak (by omega),ak (by omega)];exact g2
  ·simp only[ab];exact hs
  ·simp only[ai];exact hd
 obtain⟨f0,f1,f2,fs,fd,⟨d1,Hc⟩,Gy⟩:=hh
 have Iu:=hv.keep (VZ Gy)
 obtain⟨vb,vc,hvf,_⟩:=Iu.form
 refine .seq (R:=Rt (fun a2 w2=>a2.get 1=v/\a2.get 2=pt D 0/\a2.tmps.size=nt/\a2.defers=[]/\(∃ d2,Bx b T.tSl te L D d0 w0 s1 (bs++uvar k++uvar (dL l.length)) w2 d2)/\ac (fun x=>(L<=x/\x<D+1/\x≠b) \/ s1<=x) w w2) fun _ _=>False) (.reg ?_) (fun a2 w2 hh=>?_) (fun e a w he hq=>by cases e<;>first|exact absurd rfl he|exact hq.elim)
 ·refine b5 (p:=⟨D,0,none⟩) (v:=d1) (by rw[aa];exact f2) (hV.agg _) (cell Hc.box) (ag ?_)
  rw[aa,ak (by omega),f1]
  refine en (base:=vb) (n:=l.length) (c:=vc) (by rw[aa,am (by simp only[ab];omega)];exact hvf) ot.und ?_
  refine aT (k:=.i64) (k':=.u32) (m:=(l.length:Int)) (by rw[aa,am (by simp only[ab];omega)]) Jz UO ?_
  have ew:IntKind.u32.wrap (l.length:Int)=((dL l.length:Nat):Int):=by simp[IntKind.wrap,IntKind.bits,IntKind.signed,dL]
  rw[ew]
  have IU:dL l.length<4294967296:=by simp only[dL];omega
  refine aR (vs:=#[d1,.int .u32 ((dL l.length:Nat):Int)]) NR ?_ (So (dL l.length) w1 IU L d1 _ Hc.dst Hc.lim (by rw[List.length_append];omega)) fun e w2 hR=>?_
  ·simp only[List.map_cons,List.map_nil,aa]
   rw[ak (by omega),ak (by omega),ak (by omega),am (by omega),am (by simp only[ab];omega)]
  obtain⟨d2,he,hg⟩:=hR
  obtain⟨Hj,Kf,HM⟩:=Hc.step hg
  refine⟨d2,he,bw (g:=D) (o:=0) (cur:=#[d1]) (t:=T.tSl) (v:=d2) (vs:=[d2]) ?_ ?_ (by rw[(one hg.dst).2]) (hV.size _) Hj (by simp) (by simpa using(one hg.dst).1) (wpList_nil ⟨?_,?_,?_,?_,⟨d2,by rw[e1];exact Kf⟩,by rw[e1];exact Gy.trans HM⟩)⟩
  ·rw[aa];iterate 5 rw[ak (by omega)]
   exact f2
  ·rw[aa,am (by simp only[ab];omega)]
  ·iterate 5 rw[ak (by omega)]
   exact f1
  ·iterate 5 rw[ak (by omega)]
   exact f2
  ·simp only[ab];exact fs
  ·simp only[ai];exact fd
 obtain⟨p1,p2,ps,pd,⟨d2,Hj⟩,Gs⟩:=hh
 have Jl:=hv.keep (VZ Gs)
 have Ic:Src P 1 T.tSl v l.length (l.map bF) w2:=by
  rcases Jl with⟨rfl,rfl⟩|⟨vb,o,c,rfl,_,_,_,_,ho⟩
  ·exact uH ot w2 0
  ·exact lp ot ho
 refine .reg ?_
 refine b5 (p:=⟨D,0,none⟩) (v:=d2) (by rw[aa];exact p2) (hV.agg _) (cell Hj.box) (ag ?_)
 rw[aa,ak (by omega),p1]
 refine gQ ot (L:=L) (d:=d2) (x:=v) (l:=l) (by rw[aa,ak (by omega),am (by omega)]) (by rw[aa,am (by simp only[ab];omega)]) Hj.dst Ic Hj.lim (by simp only[List.length_append];omega) fun d3 w3 hg=>?_
 obtain⟨JJ,Kf,HM⟩:=Hj.step hg
 refine bw (g:=D) (o:=0) (cur:=#[d2]) (t:=T.tSl) (v:=d3) (vs:=[d3]) ?_ ?_ (by rw[(one hg.dst).2]) (hV.size _) JJ (by simp) (by simpa using(one hg.dst).1) (wpList_nil ⟨?_,rfl,⟨d3,?_⟩,by rw[e1];exact Gs.trans HM⟩)
 ·rw[aa];iterate 3 rw[ak (by omega)]
  exact p2
 ·rw[aa,am (by simp only[ab];omega)]
 ·simp only[ai];exact pd
 ·rw[e1]
  simpa[dj,List.append_assoc]using Kf
end
end
section
open Go Go.ChangeMaps
section
variable {P:Program}
theorem vH (t:List (Nat × Bs)):2*t.length<=(bn t).length:=by
 induction t with
 | nil=>simp[bn]
 | cons p t ih=>
  rw[ii,List.length_append,ra,List.length_cons]
  have h1:=dq p.1
  have h2:=dq (dL p.2.length)
  omega
theorem ns {t:List (Nat × Bs)}{j:Nat}{p:Nat × Bs}(h:t[j]?=some p):bn (t.take (j+1))=bn (t.take j)++dj p:=by
 rw[List.take_add_one,h]
 simp[bn]
theorem o5 (t:List (Nat × Bs))(j:Nat):(bn (t.take j)).length<=(bn t).length:=by
 have:bn t=bn (t.take j)++bn (t.drop j):=by
  simp only[bn,<- List.flatten_append,<- List.map_append,List.take_append_drop]
 rw[this,List.length_append]
 omega
theorem A8 {w:World}{X:Nat->Prop}{m:Value}{t:List (Nat × Bs)}(h:cN w X m t):∀ p∈t,p.1<4294967296:=fun p hp=>by
 rcases h with⟨_,rfl⟩|⟨r,_,_,_,⟨es,c,f,_,Jf,_,_,Qb,_⟩,_⟩
 ·simp at hp
 ·obtain⟨e,he,rfl⟩:=List.mem_map.1 (Qb.mem_iff.2 hp)
  exact(Jf e he).1
theorem teach_calls (hm:P.follows .mixedOrders=true){T:TN}{te:Nat}(tf:TF P T)(LZ:SortOk P T)(ot:OctT P T.tSl te)(hV:bd P T.tSl false 1)(NR:Ent P T.fUv)(So:∀ (x:Nat) (w:World),x<4294967296->ApC P te T.fUv (.int .u32 x) (uvar x) w)
  {f nt ntE nt1:Nat} (Sg:FnIs P T.fEach ntE [] (cEach T)) (Tt:53<=ntE) (KD:FnIs P T.fOne nt1 [] (cTOne T)) (O3:16<=nt1) (hfn:FnIs P f nt [4] (cTEach T)) (G8:9<=nt)
  {w:World} {b o L:Nat} {m d:Value} {t:List (Nat × Bs)} {bs:Bs} (hc:w.cell? ⟨b,o,none⟩=some m) (hb:b<w.heap.size/\d.ownBlock≠some b) (ht:cN w (fun k=>L<=k) m t) (hd:aH w L te d bs) (hL:L<=w.heap.size) (hlim:bs.length+(bn t).length<=d7) :
  Calls P f #[pt b o,d] w fun e w'=>∃ d',e=.returned d'/\Gr L te d w d' (bs++bn t) w':=by
 refine fb hm hfn (by simp) [pt b o,d] (by simp;omega) fun a harg hs GS=>?_
 have g0:=harg 0 _ rfl
 have g1:=harg 1 _ rfl
 have lt:∀ i,i<9->i<a.tmps.size:=fun i hi=>by omega
 have h2:=vH t
 have hl46:d7=70400000000000:=rfl
 have HD:d.cells=#[d]:=by rcases hd with⟨rfl,_⟩|⟨_,_,_,rfl,_⟩<;>rfl
 have J8:∀ k,d.ownBlock=some k->k<w.heap.size:=fun k hk=>(hd.own hk).2
 have JF:=A8 ht
 unfold cTEach
 refine az (au ?_)
 refine aD (v:=pt w.heap.size 0) (w':=w.alloc (.cells #[d] T.tSl (0,0))) (by
  have e1:a.eval (tm 1)=d:=g1
  simp[execOp,mk,e1,Instr.box,newVar,newRow,newObj,Sem.run,HD,pt]) (aj (wpList_nil ?_))
 rw[uh]
 have IV:(w.alloc (.cells #[d] T.tSl (0,0))).heap.size=w.heap.size+1:=by simp
 have L7:=aB w (.cells #[d] T.tSl (0,0))
 have Gy:ac (fun _=>False) w (w.alloc (.cells #[d] T.tSl (0,0))):=ac.alloc _ _ _
 generalize w.alloc (.cells #[d] T.tSl (0,0))=w1 at IV L7 Gy ⊢
 refine az (au (ag ?_))
 rw[aa,ak (by omega),ak (by omega),g0]
 refine aD (v:=.func (.func T.fOne) #[] #[pt w.heap.size 0]) (w':=w1) (by
  have key:∀ A:Act,A.eval (tm 3)=pt w.heap.size 0->(execOp A.eval (mk (some 6) (.makeFunc (.func T.fOne) #[] #[tm 3]))).run P w1=.ok (.value (.func (.func T.fOne) #[] #[pt w.heap.size 0])) w1:=fun A h=>by
   simp[execOp,mk,Instr.makeFunc,h]
  exact key _ (by simp[aa,gp,lt,ab])) ?_
 have QY:=ul hm tf LZ Sg Tt (w:=w1) (b:=b) (o:=o) (L:=L) (fC:=T.fOne) (m:=m) (t:=t) (cap:=#[pt w.heap.size 0]) (I:=fun s1 j w'=>∃ d',Bx b T.tSl te L w.heap.size d w s1 (bs++bn (t.take j)) w' d')
  (Gy.cell id hc) (by have:=hb.1;omega) (by omega) (ht.keep (Gy.mono fun _ _ h=>h.elim)) (by omega) KD.ent (fun w2 Gs=>?_) (fun s1 j w2 k l v Gu hj hI hv=>?_)
 ·refine aR (vs:=#[pt b o,.func (.func T.fOne) #[] #[pt w.heap.size 0]]) Sg.ent (by simp[aa,gp,lt,ab]) QY fun e w2 hR=>?_
  obtain⟨he,s1,Gu,d',Kf⟩:=hR
  refine⟨_,he,wpList_nil (az (au ?_))⟩
  refine b5 (p:=⟨w.heap.size,0,none⟩) (v:=d') (by simp[aa,gp,lt,ab,pt]) (hV.agg _) (by simp[World.cell?,Kf.box]) (aj (wpList_nil (az (.ret ⟨?_,d',?_,?_⟩))))
  ·simp only[ai];exact GS
  ·rw[dn]
   simp[aa,gp,lt,ab]
  ·have:=Kf.gr
   rwa [List.take_of_length_le (Nat.le_refl _)]at this
 ·have ME:ac (fun _=>False) w w2:=Gy.trans Gs
  have G9:=Gs.size
  refine⟨d,⟨by rw[Gs.block _ (by omega) id];exact L7,?_,fun k hk=>.inl (J8 k hk),⟨by omega,Nat.le_refl _⟩,⟨Nat.le_refl _,hL⟩,hb⟩⟩
  have e0:bs++bn (t.take 0)=bs:=by simp[bn]
  rw[e0]
  exact⟨hd.keep ME fun _ _ h=>h,ME.mono fun _ _ h=>h.elim,fun k hk=>.inl hk⟩
 ·obtain⟨d',Kf⟩:=hI
  have G5:=o5 t (j+1)
  rw[ns hj,List.length_append]at G5
  have:=sJ hm ot hV tf.dInt tf.dU32 NR So KD O3 Kf (JF _ (List.mem_of_getElem? hj)) hv (by
   rw[List.length_append]
   show bs.length+(bn (t.take j)).length+(dj (k,l)).length<=d7
   omega)
  refine this.mono fun e w3 h=>⟨h.1,?_,?_⟩
  ·obtain⟨d'',h3⟩:=h.2.1
   refine⟨d'',?_⟩
   rw[ns hj,<- List.append_assoc]
   exact h3
  ·rw[IV];exact h.2.2
end
end
section
open Go Go.ChangeMaps Go.Shelf Go.Lib Go.Sort
section
variable {P:Program}
def qx (T:TN):List Oper:=[mk (some 6) (.load T.tKs (tm 2)),mk (some 7) (.move (tm 0)),mk (some 8) (.indexAddr T.tKs (tm 6) (tm 7)),mk (some 9) (.load T.tU32 (tm 8)),mk (some 10) (.load T.tKs (tm 2)),mk (some 11) (.move (tm 1)),mk (some 12) (.indexAddr T.tKs (tm 10) (tm 11)),mk (some 13) (.load T.tU32 (tm 12)),mk (some 14) (.binOp .lss T.tU32 (tm 9) (tm 13) 0)]
def cTLess (T:TN):Code:=sq [rg [mk (some 5) (.assign (.const (.bool false)))],.region 1 (qx T++[mk (some 5) (.assign (tm 14))]).toArray true,.ret]
theorem tQ (hm:P.follows .mixedOrders=true){T:TN}(tf:TF P T){f nt:Nat}(hfn:FnIs P f nt [5] (cTLess T))(G8:15<=nt){w:World}{V G n i j x y:Nat}(hV:w.cell? ⟨V,0,none⟩=some (.slice (some ⟨G,0,none⟩) n n))(hi:i<n)(hj:j<n)(hx:w.cell? ⟨G,i,none⟩=some (cd x))(hy:w.cell? ⟨G,j,none⟩=some (cd y)) :
  Calls P f #[.int .i64 (i:Int),.int .i64 (j:Int),pt V 0] w fun e w'=>e=.returned (.bool (decide (x<y)))/\w'=w.drew:=by
 refine fb hm hfn (by simp) [.int .i64 (i:Int),.int .i64 (j:Int),pt V 0] (by simp;omega) fun a harg hs hd=>?_
 have g0:=harg 0 _ rfl
 have g1:=harg 1 _ rfl
 have g2:=harg 2 _ rfl
 unfold cTLess
 refine az (au (aj (wpList_nil ?_)))
 have HG:dW (qx T++[mk (some 5) (.assign (tm 14))])=[false,false,false,false,false,false,false,false,false,true]:=by kernel_rfl
 refine az (.drw (fun w'=>w'.heap=w.heap) ?_)
 rw[HG]
 have hc:∀ {p:Addr} {v:Value},w.cell? p=some v->∀ w':World,w'.heap=w.heap->w'.cell? p=some v:=fun h w' hw=>by simpa[World.cell?,hw]using h
 have lt:∀ d,d<15->d<(a.put (some 5) (Act.eval a (.const (.bool false)))).tmps.size:=fun d hd=>by simp only[ab];omega
 have e0:(a.put (some 5) (Act.eval a (.const (.bool false)))).get 0=.int .i64 (i:Int):=by rw[ak (by omega)];exact g0
 have e1:(a.put (some 5) (Act.eval a (.const (.bool false)))).get 1=.int .i64 (j:Int):=by rw[ak (by omega)];exact g1
 have e2:(a.put (some 5) (Act.eval a (.const (.bool false)))).get 2=pt V 0:=by rw[ak (by omega)];exact g2
 have ed:(a.put (some 5) (Act.eval a (.const (.bool false)))).defers=[]:=by rw[ai];exact hd
 generalize a.put (some 5) (Act.eval a (.const (.bool false)))=a at lt e0 e1 e2 ed ⊢
 show gn P _ (qx T) a fun af=>eK P _ _ [mk (some 5) (.assign (tm 14))] af w.drew
 refine eQ (p:=⟨V,0,none⟩) (v:=.slice (some ⟨G,0,none⟩) n n) (by rw[aa];exact e2) tf.vK.agg (hc hV) (fO ?_)
 rw[aa,ak (by omega),e0]
 refine iu (b:=G) (o:=0) (m:=n) (c:=n) (i:=i) (k:=.i64) (sz:=1) (by simp[aa,gp,lt,ab]) (by simp[aa,gp,lt,ab]) hi tf.sl tf.vU.size ?_
 refine eQ (p:=⟨G,0+i*1,none⟩) (v:=cd x) (by simp[aa,gp,lt,ab]) tf.vU.agg (by rw[Nat.zero_add,Nat.mul_one];exact hc hx) ?_
 refine eQ (p:=⟨V,0,none⟩) (v:=.slice (some ⟨G,0,none⟩) n n) (by simp[aa,gp,lt,ab,e2,pt]) tf.vK.agg (hc hV) (fO ?_)
 rw[aa,show Act.get _ 1=.int .i64 (j:Int) from by simp[gp,lt,ab,e1]]
 refine iu (b:=G) (o:=0) (m:=n) (c:=n) (i:=j) (k:=.i64) (sz:=1) (by simp[aa,gp,lt,ab]) (by simp[aa,gp,lt,ab]) hj tf.sl tf.vU.size ?_
 refine eQ (p:=⟨G,0+j*1,none⟩) (v:=cd y) (by simp[aa,gp,lt,ab]) tf.vU.agg (by rw[Nat.zero_add,Nat.mul_one];exact hc hy) ?_
 refine qC (k:=.u32) (k2:=.u32) (m:=(x:Int)) (m2:=(y:Int)) (v:=.bool (decide (x<y))) (by simp[aa,gp,lt,ab,cd]) (by simp[aa,gp,lt,ab,cd]) (fun w'=>i5 (.inr (.inr (.inl ⟨rfl,by simp⟩)))) ?_
 refine⟨rfl,?_⟩
 have key:∀ (A:Act) (Q:Exit->Act->World->Prop),(Q .normal (A.put (some 5) (A.eval (tm 14))) w.drew)->(mk (some 5) (.assign (tm 14))).wp P A w.drew (eK P (fun w'=>w'.heap=w.heap) Q []) (fun _ _ _=>False):=fun A Q hQ=>by
  unfold Oper.wp
  exact⟨rfl,hQ⟩
 refine key _ _ (az (cs:=[]) (.ret ⟨?_,?_,rfl⟩))
 ·simp only[ai];exact ed
 ·rw[dn]
  simp[aa,gp,lt,ab]
end
end
section
open Go Go.ChangeMaps Go.Shelf Go.Lib Go.Sort
section
variable {P:Program} {ρ:Ren}
def Da (x y:Nat):Bool:=decide (x<y)
theorem AA:SWO Da where
 irrefl x:=by simp[Da]
 trans x y z h1 h2:=by simp only[Da,decide_eq_true_eq]at h1 h2 ⊢;omega
 ntrans x y z h1 h2:=by simp only[Da,decide_eq_false_iff_not]at h1 h2 ⊢;omega
theorem nV (X:Nat->Prop)(w:World)(os:Array Obj):ac X w (grow w os):=⟨rfl,rfl,rfl,by rw[size_grow];omega,fun k hk _=>heap_grow_old w os hk⟩
theorem sortOk_of (hm:P.follows .mixedOrders=true){T:TN}(tf:TF P T)(L:LaysGg.n6 P ρ)(hρ:ρ.f 6=T.fSort)(UQ:Ent P T.fSort){nt:Nat}(hfn:FnIs P T.fLess nt [5] (cTLess T))(G8:15<=nt){it ie:TypeInfo}(hi:P.info? T.tKs=some it)(hd:it.desc=.slice T.tU32)(Qc:P.packed T.tKs=false)
  (VS:P.info? T.tU32=some ie) {ke:Nat} (LG:∀ w,(Extern.Rtype.kind T.tU32).run P w=.ok ke w) (Gu:ie.size=1) (L5:ie.bytes=4) (I0:ie.hasPointers=false) (heg:∀ args w,(callFunc T.fLess args).run P w=.ok (.enter T.fLess args) w)
  {f1 f2 f6 : Nat} (h1 : P.funcs.findIdx? (·.name == "internal/reflectlite" ++ ".Swapper$" ++ toString 1) = some f1) (h2 : P.funcs.findIdx? (·.name == "internal/reflectlite" ++ ".Swapper$" ++ toString 2) = some f2) (h6 : P.funcs.findIdx? (·.name == "internal/reflectlite" ++ ".Swapper$" ++ toString 6) = some f6)
  (hx:∀ args W,(callFunc f6 args).run P W=((Extern.ReflectliteSwapper.swap true args).run P W).andThen fun v w'=>.ok (.value v) w'):SortOk P T:=by
 refine⟨UQ,fun w V G n ks cur Hu hn hk32 hV hG GE hVG Ha=>?_⟩
 rw[<- hρ]
 have NT:G<w.heap.size:=(Array.getElem?_eq_some_iff.1 hG).1
 have UL:V<w.heap.size:=(Array.getElem?_eq_some_iff.1 hV).1
 by_cases GU:2<=n
 ·have hK:swapperK n ie ke=6:=by
   have c:(n==0)=false:=by simp;omega
   have d:(n==1)=false:=by simp;omega
   simp[swapperK,I0,L5,c,d]
  have Nx:ks.toArray.size=n:=by simpa using Hu
  have hH:Holds cd w G 0 ks.toArray:=fun j hj=>by
   have Nt:j<ks.length:=by simpa using hj
   have e1:ks[j]?=some ks.toArray[j]!:=by rw[getElem!_pos ks.toArray j hj];simp[Nt]
   have:=Ha j _ e1
   refine⟨by simp[World.cell?,hG,this],by simp[World.frozen?,hG]⟩
  have Qx:LessReads P T.fLess #[pt V 0] cd Da G 0 ks.toArray.size w:=by
   intro m os dk hs i j hi hj
   have UX:Holds cd (Sort.ahead w m) G 0 ks.toArray:=holds_ahead _ _ _ _ _ _ hH
   have Gn:∀ t,t<ks.toArray.size->(sortWorld cd w G 0 m dk os).cell? ⟨G,t,none⟩=some (cd dk[t]!):=fun t ht=>by
    unfold sortWorld
    rw[cell?_grow _ _ _ (by show G<(putRow cd (Sort.ahead w m) G 0 dk).heap.size;simp only[putRow,mapBlock];simpa using NT)]
    have:=cell?_putRow cd (Sort.ahead w m) G 0 ks.toArray dk UX hs t (by omega)
    rwa [Nat.zero_add]at this
   have hcV:(sortWorld cd w G 0 m dk os).cell? ⟨V,0,none⟩=some (.slice (some ⟨G,0,none⟩) n n):=by
    unfold sortWorld
    rw[cell?_grow _ _ _ (by show V<(putRow cd (Sort.ahead w m) G 0 dk).heap.size;simp only[putRow,mapBlock];simpa using UL),cell?_putRow_other _ _ _ _ _ _ (.inl hVG)]
    show w.cell? ⟨V,0,none⟩=_
    simp[World.cell?,hV]
   have:=tQ hm tf hfn G8 (w:=sortWorld cd w G 0 m dk os) (V:=V) (G:=G) (n:=n) (i:=i) (j:=j) hcV (by omega) (by omega) (Gn i hi) (Gn j hj)
   exact this.mono fun e w' h=>⟨h.1,1,h.2⟩
  have hS:=Any.sort_Slice_sorted L T.tKs T.tU32 it ie hi hd Qc VS ke LG Gu tf.vU.agg cd (fun _=>rfl) Da AA T.fLess #[pt V 0] heg G 0 n ks.toArray (by omega) (by omega) f6 (by rw[Nx,hK];exact h6) true hx w Qx hH NT
  rw[Nx]at hS
  refine hS.mono fun e w' h=>?_
  obtain⟨he,d',m,os,hp,LZ,rfl⟩:=h
  have hsz':d'.size=n:=hp.1.trans Nx
  have UX:Holds cd (Sort.ahead w m) G 0 ks.toArray:=holds_ahead _ _ _ _ _ _ hH
  have Wi:(putRow cd (Sort.ahead w m) G 0 d').heap[G]?=some (.cells (putCells cd 0 d' cur) T.tU32 (0,0)):=by
   simp only[putRow,mapBlock,Array.getElem?_modify,if_true]
   show(w.heap[G]?).map _=_
   rw[hG];rfl
  have hPk:ac (fun k=>k=G) w (putRow cd (Sort.ahead w m) G 0 d'):=⟨rfl,rfl,rfl,by show w.heap.size<=(w.heap.modify G _).size;simp,fun k _ hk=>by
   show(w.heap.modify G _)[k]?=_
   rw[Array.getElem?_modify,if_neg (fun e=>hk e.symm)]⟩
  have hPs:(putRow cd (Sort.ahead w m) G 0 d').heap.size=w.heap.size:=by show(w.heap.modify G _).size=_;simp
  refine⟨he,hPk.trans (nV _ _ _),putCells cd 0 d' cur,d'.toList,by rw[heap_grow_old _ _ (by omega)];exact Wi,?_,?_,fun i x hx=>?_⟩
  ·have:=hp.2.2
   have e1:d'.extract 0 n=d':=by rw[<- hsz'];simp
   have e2:ks.toArray.extract 0 n=ks.toArray:=by rw[<- Nx];simp
   rw[e1,e2]at this
   simpa using this
  ·rw[List.pairwise_iff_getElem]
   intro i j hi hj HL
   have Nt:j<n:=by simp at hj;omega
   have:=LZ i j (Nat.zero_le _) HL (by omega)
   simp only[Da,decide_eq_false_iff_not]at this
   rw[getElem!_pos d' j (by omega),getElem!_pos d' i (by omega)]at this
   simp only[Array.getElem_toList]
   omega
  ·have JY:i<d'.size:=by
    have:=(List.getElem?_eq_some_iff.1 hx).1
    simpa using this
   have hc:=cell?_putRow cd (Sort.ahead w m) G 0 ks.toArray d' UX (by omega) i JY
   have e1:d'[i]! = x:=by
    rw[getElem!_pos d' i JY]
    have:=(List.getElem?_eq_some_iff.1 hx).2
    simpa using this
   simp only[World.cell?,Wi,Nat.zero_add,e1]at hc
   exact hc
 ·have hK:swapperK n ie ke=n+1:=by
   rcases Nat.eq_zero_or_pos n with h|h
   ·subst h;simp[swapperK]
   ·obtain rfl:n=1:=by omega
    simp[swapperK]
  have hf : ∃ f, P.funcs.findIdx? (·.name == "internal/reflectlite" ++ ".Swapper$" ++ toString (swapperK n ie ke)) = some f := by
   rw[hK]
   rcases Nat.eq_zero_or_pos n with h|h
   ·subst h;exact⟨f1,h1⟩
   ·obtain rfl:n=1:=by omega
    exact⟨f2,h2⟩
  obtain⟨f,hf⟩:=hf
  have hS:=Any.sort_Slice_tiny L T.tKs T.tU32 it ie hi hd Qc VS ke LG (some ⟨G,0,none⟩) n n (by omega) f hf (.func T.fLess) #[] #[pt V 0] w
  refine hS.mono fun e w' h=>?_
  obtain⟨he,os,rfl⟩:=h
  refine⟨he,nV _ _ _,cur,ks,by rw[heap_grow_old _ _ NT];exact hG,.refl _,?_,Ha⟩
  match ks,Hu with
  | [],_=>simp
  | [x],_=>simp
  | x::y::r,h=>simp at h;omega
end
end
theorem fnIsC_of {P : Program} {f : Nat} {fn : Func} {ntmps s t : Nat} {d : Code} (hf : P.funcs[f]? = some fn) (hb : fn.body.map nCode = some d) (hn : fn.ntmps = ntmps) (hr : fn.results = #[ResultVar.cell s t]) (hg : (fn.name == "runtime.NumGoroutine") = false) : FnIsC P f ntmps s t d := by
 cases h:fn.body with
 | none=>rw[h]at hb;cases hb
 | some c=>
  rw[h]at hb
  exact⟨fn,c,hf,h,Option.some.inj hb,hn,hr,hg⟩
def BZ (P:Program)(U:Nat):Bool:=match P.info? U with|some i=>(match i.zero with|some _=>i.size==1&&i.bytes==4|none=>false)|none=>false
theorem infoB_ok {P:Program}{U:Nat}(h:BZ P U=true):∃ i z,P.info? U=some i/\i.zero=some z/\i.size=1/\i.bytes=4:=by
 unfold BZ at h
 split at h
 ·rename_i i hi
  split at h
  ·rename_i z hz
   simp only[Bool.and_eq_true,beq_iff_eq]at h
   exact⟨i,z,hi,hz,h.1,h.2⟩
  ·cases h
 ·cases h
section
open Go Go.ChangeShapes Go.WideShapes Go.RowKit
section
variable {H:Type} {enc:TypeId × Value->H} {P:Program}
theorem ac.butNone {w w':World}(h:ac (fun _=>False) w w')(may:MemPlace->Prop):w.keptBut w' may:=
 World.keptBut_mono (fun _ h=>h.elim) (World.keptBut_none_iff.2 ⟨h.os,h.output,fun i hi=>h.block i hi id⟩)
theorem errAt_of_var {n:String}{W:World}{g:Nat}{t:TypeId}{x:Value}(hg:P.globalNamed n=some g)(h:W.var? P n=some #[.iface t x]):ErrAt g W:=
 ⟨t,x,by simpa using World.var?_cell hg h 0⟩
end
end
end Go.Proofs.YtbgklecbmhaadaaGreatDoor.Kx