/- messages, part 18 -/
import Derived.Test.YtnpdpnmomihkkaaGreatDoorK16

namespace Go.Proofs.YtnpdpnmomihkkaaGreatDoor.Kx
open Go
section
open Go
set_option maxRecDepth 4000
def Hb (S:SN):List Oper:=[mk (some 2) (.box S.tF (tm 0)),mk (some 3) (.box S.tT (tm 1)),mk (some 4) (.assign (.const (.bool false)))]
def Ha (S:SN):List Oper:=[mk (some 9) (.fieldAddr S.tF (tm 2) 0),mk (some 10) (.load S.tInt (tm 9))]
def GZ (S:SN):List Oper:=[mk (some 12) (.binOp .eql S.tInt (tm 10) (ki .i64 0) 0),mk (some 11) (.assign (tm 12))]
def GY (S:SN):List Oper:=[mk (some 13) (.fieldAddr S.tT (tm 3) 0),mk (some 14) (.load S.tI64 (tm 13)),mk (some 15) (.binOp .and S.tI64 (tm 14) (ki .i64 1) 0),mk (some 16) (.fieldAddr S.tF (tm 2) 5),mk (some 17) (.load S.tI64 (tm 16)),mk (some 18) (.binOp .eql S.tI64 (tm 15) (tm 17) 0),mk (some 4) (.assign (tm 18))]
def GX (S:SN):List Oper:=[mk (some 20) (.binOp .eql S.tInt (tm 10) (ki .i64 7) 0),mk (some 19) (.assign (tm 20))]
def Ea (S:SN):List Oper:=[mk (some 21) (.fieldAddr S.tT (tm 3) 1),mk (some 22) (.load S.tSl (tm 21)),bi (some 23) .len [(tm 22)] [S.tSl] S.tInt,mk (some 24) (.move (ki .i64 0))]
def DZ (S:SN):List Oper:=[mk (some 25) (.binOp .lss S.tInt (tm 24) (tm 23) 0)]
def DY (S:SN):List Oper:=[mk (some 26) (.move (tm 24)),mk (some 27) (.indexAddr S.tSl (tm 22) (tm 24)),mk (some 28) (.load S.tU8 (tm 27)),mk (some 5) (.assign (tm 26)),mk (some 6) (.assign (tm 28))]
def DX (S:SN):List Oper:=[mk (some 29) (.move (tm 5)),mk (some 30) (.binOp .lss S.tInt (tm 29) (ki .i64 16) 0),mk (some 31) (.move (tm 30)),gd 32 (.move (tm 6)) 2 true,gd 33 (.binOp .neq S.tU8 (tm 32) (ki .u8 0) 0) 2 true,mk (some 34) (.pick (tm 31) (tm 33) (.const (.bool false)))]
def DW (_S:SN):List Oper:=[mk (some 4) (.assign (.const (.bool false)))]
def wn (S:SN):List Oper:=[mk (some 35) (.binOp .add S.tInt (tm 24) (ki .i64 1) 0),mk (some 24) (.move (tm 35))]
def Be (_S:SN):List Oper:=[mk (some 4) (.assign (.const (.bool true)))]
def Fp (S:SN):List Oper:=[mk (some 37) (.binOp .eql S.tInt (tm 10) (ki .i64 8) 0),mk (some 36) (.assign (tm 37))]
def Fo (S:SN):List Oper:=[mk (some 38) (.binOp .eql S.tInt (tm 10) (ki .i64 9) 0),mk (some 36) (.assign (tm 38))]
def Bd (S:SN):List Oper:=[mk (some 39) (.fieldAddr S.tF (tm 2) 3),mk (some 40) (.load S.tInt (tm 39)),mk (some 41) (.binOp .geq S.tInt (tm 40) (ki .i64 0) 0)]
def Bc (S:SN):List Oper:=[mk (some 42) (.fieldAddr S.tT (tm 3) 2),mk (some 43) (.load S.tB (tm 42)),mk (some 4) (.assign (tm 43))]
def Bb (S:SN):List Oper:=[mk (some 44) (.fieldAddr S.tT (tm 3) 1),mk (some 45) (.load S.tSl (tm 44)),bi (some 46) .len [(tm 45)] [S.tSl] S.tInt,mk (some 47) (.binOp .eql S.tInt (tm 46) (ki .i64 0) 0),mk (some 4) (.assign (tm 47))]
def Fn (S:SN):List Oper:=[mk (some 49) (.binOp .eql S.tInt (tm 10) (ki .i64 11) 0),mk (some 48) (.assign (tm 49))]
def Fm (S:SN):List Oper:=[mk (some 50) (.fieldAddr S.tT (tm 3) 3),mk (some 51) (.load S.tTs (tm 50)),bi (some 52) .len [(tm 51)] [S.tTs] S.tInt,mk (some 53) (.binOp .eql S.tInt (tm 52) (ki .i64 0) 0),mk (some 4) (.assign (tm 53))]
def Fl (S:SN):List Oper:=[mk (some 55) (.binOp .eql S.tInt (tm 10) (ki .i64 10) 0),mk (some 54) (.assign (tm 55))]
def Ba (S:SN):List Oper:=[mk (some 56) (.fieldAddr S.tF (tm 2) 7),mk (some 57) (.load S.tFs (tm 56)),bi (some 58) .len [(tm 57)] [S.tFs] S.tInt,mk (some 59) (.move (ki .i64 0))]
def AZ (S:SN):List Oper:=[mk (some 60) (.binOp .lss S.tInt (tm 59) (tm 58) 0)]
def AY (S:SN):List Oper:=[mk (some 61) (.move (tm 59)),mk (some 62) (.indexAddr S.tFs (tm 57) (tm 59)),mk (some 63) (.load S.tF (tm 62)),mk (some 8) (.alloc S.tF),mk (some 7) (.assign (tm 61)),mk none (.store S.tF (tm 8) (tm 63))]
def AX (S:SN):List Oper:=[mk (some 64) (.load S.tF (tm 8)),mk (some 65) (.load S.tT (tm 3)),mk (some 66) (.move (tm 7)),cl (some 67) S.fAt [(tm 65),(tm 66)],cl (some 68) S.fUsual [(tm 64),(tm 67)],mk (some 69) (.unOp .not S.tB (tm 68))]
def AW (_S:SN):List Oper:=[mk (some 4) (.assign (.const (.bool false)))]
def AV (S:SN):List Oper:=[mk (some 70) (.binOp .add S.tInt (tm 59) (ki .i64 1) 0),mk (some 59) (.move (tm 70))]
def AU (S:SN):List Oper:=[mk (some 71) (.fieldAddr S.tF (tm 2) 7),mk (some 72) (.load S.tFs (tm 71)),mk (some 73) (.fieldAddr S.tT (tm 3) 4),mk (some 74) (.load S.tGs (tm 73)),cl (some 75) S.fUnk [(tm 72),(tm 74)],bi (some 76) .len [(tm 75)] [S.tGs] S.tInt,mk (some 77) (.binOp .eql S.tInt (tm 76) (ki .i64 0) 0),mk (some 4) (.assign (tm 77))]
def Fk (S:SN):List Oper:=[mk (some 78) (.fieldAddr S.tT (tm 3) 0),mk (some 79) (.load S.tI64 (tm 78)),mk (some 80) (.fieldAddr S.tF (tm 2) 0),mk (some 81) (.load S.tInt (tm 80)),cl (some 82) S.fWid [(tm 81)],cl (some 83) S.fFix [(tm 79),(tm 82)],mk (some 84) (.fieldAddr S.tF (tm 2) 5),mk (some 85) (.load S.tI64 (tm 84)),mk (some 86) (.fieldAddr S.tF (tm 2) 0),mk (some 87) (.load S.tInt (tm 86)),cl (some 88) S.fWid [(tm 87)],cl (some 89) S.fFix [(tm 85),(tm 88)],cl (some 90) S.fSame [(tm 83),(tm 89)],mk (some 4) (.assign (tm 90))]
def csUs (S:SN):Code:=
 (.seq (rg (Hb S))
 (.seq (.seq (rg (Ha S))
  (.block 0 (.seq (rg (GZ S))
  (.cond (tm 11) (.seq (rg (GY S))
   .ret)
  (.seq (rg (GX S))
  (.cond (tm 19) (.seq (.seq (rg (Ea S))
    (.block 1 (.loop (.seq (rg (DZ S))
    (.seq (.cond (tm 25) .skip
     (.exit 1))
    (.seq (.block 2 (.seq (rg (DY S))
     (.seq (rg (DX S))
     (.cond (tm 34) (.seq (rg (DW S))
      .ret)
     .skip))))
    (rg (wn S))))))))
   (.seq (rg (Be S))
   .ret))
  (.seq (.seq (rg (Fp S))
   (.cond (tm 36) .skip
   (rg (Fo S))))
  (.cond (tm 36) (.seq (.seq (rg (Bd S))
    (.cond (tm 41) (.seq (rg (Bc S))
     .ret)
    .skip))
   (.seq (rg (Bb S))
   .ret))
  (.seq (rg (Fn S))
  (.cond (tm 48) (.seq (rg (Fm S))
   .ret)
  (.seq (rg (Fl S))
  (.cond (tm 54) (.seq (.seq (rg (Ba S))
    (.block 3 (.loop (.seq (rg (AZ S))
    (.seq (.cond (tm 60) .skip
     (.exit 3))
    (.seq (.block 4 (.seq (rg (AY S))
     (.seq (.region 1 (AX S).toArray true)
     (.cond (tm 69) (.seq (rg (AW S))
      .ret)
     .skip))))
    (rg (AV S))))))))
   (.seq (rg (AU S))
   .ret))
  .skip))))))))))))
 (.seq (.region 1 (Fk S).toArray true)
 .ret)))
def Ir (P:Program)(S:SN)(sub:SFs):Prop:=∀ (w:World) (kind:Nat) (lo hi nul tag df:Int) (of:Nat) (sv:Value) (k:Nat) (cs:List Value) (t:Tr),ge w sub sv->TrRp w k cs t ->
 Calls P S.fUsual [.agg (bW kind lo hi nul tag df of sv).toArray,.agg cs.toArray].toArray w λe w'=>e=.returned (.bool (ct kind nul df (λt=>dR sub 0 t&&(eV (bH sub) t.tags).isEmpty) t))/\br (λ_=>False) w w'
def Cu (P:Program)(S:SN):SFs->Prop
 | .nil=>True
 | .cons _ _ _ _ _ _ _ sub r=>Ir P S sub/\Cu P S r
structure Ew (P:Program)(S:SN):Prop where
 smE:Ent P S.fSame
 smC:∀ (w:World) (X:Nat->Prop) (va vb:Value) (la lb:Bs),en w X va la->en w X vb lb->la.length<=maxLen->Calls P S.fSame #[va,vb] w λe w'=>e=.returned (.bool (decide (la=lb)))/\br (λ_=>False) w w'
theorem r4.lenB {w:World}{X:Nat->Prop}{v:Value}{l:Bs}(h:r4 w X v l):l.length<=maxLen:=by
 rcases h with⟨_,_,rfl⟩|⟨_,rfl⟩|⟨_,_,_,_,_,_,h1,h2,_⟩
 ·simp
 ·simp
 ·omega
section
variable {P:Program} {S:SN}
theorem CG (C:LeafC P S){w:World}{t:Tr}{B:Nat}{tsv:Value}(LT:kR w tsv t.octets)(hB:w.cell? ⟨B,1,none⟩=some tsv)
  {a:Act} (h:St 91 a [(3,pt B 0)]) {R:Exit->Act->World->Prop} (hR:∀ a' l',St 91 a' l'->l'.lookup 4=some (.bool ((t.octets.take 16).all λb=>b==0))->R .ret a' w) :
  cf P (.seq (.seq (rg (Ea S)) (.block 1 (.loop (.seq (rg (DZ S)) (.seq (.cond (tm 25) .skip (.exit 1)) (.seq (.block 2 (.seq (rg (DY S)) (.seq (rg (DX S)) (.cond (tm 34) (.seq (rg (DW S)) .ret) .skip)))) (rg (wn S)))))))) (.seq (rg (Be S)) .ret)) R a w:=by
 have T:=C.tab
 have R6:=LT.lenB
 obtain⟨bx,cx,rfl,JD⟩:=LT.form
 refine bI (bI (cq (cH h (.t rfl) T.t1 aa λa h=>ce h (.t rfl) T.t1.var (by simpa using hB) aa λa h=>dP h (.t rfl) T.oct.und aa λa h=>b9 h .i aa λa h=>wpList_nil ?_)))
 refine fY (λm a' w'=>∃ i:Nat,i+m=t.octets.length/\w'=w/\(∀ j x,j<i->j<16->t.octets[j]?=some x->x=0)/\St 91 a' [(22,.slice bx t.octets.length cx),(23,.int .i64 (t.octets.length:Int)),(24,.int .i64 (i:Int))]) t.octets.length
  ⟨t.octets.length,ae _,0,by omega,rfl,λj x hj=>by omega,h.pick ⟨rfl,rfl,rfl,trivial⟩⟩ ?_
 rintro m a w' hm ⟨i,Ou,rfl,hz,h⟩
 refine bI (cq (cy h rfl (.t rfl) (.t rfl) aa λa h=>wpList_nil ?_))
 refine iU h rfl (λhb=>?_) (λhb=>?_)
 ·have IU:i<t.octets.length:=by simp[cg]at hb;omega
  obtain⟨x,hx⟩:∃ x,t.octets[i]?=some x:=⟨_,aq IU⟩
  obtain⟨b,o,rfl,IS⟩:=JD.resolve_left (λh0=>by rw[h0]at IU;simp at IU)
  have PH:=IS i x hx
  refine .skip (bI (.block (bI (cq (b9 h (.t rfl) aa λa h=>fw h (sz:=1) (.t rfl) (.t rfl) IU T.oct.und T.vU8.size aa λa h=>ce h (v:=cP x) (.t rfl) T.vU8 (by rw[Nat.mul_one];exact PH) aa λa h=>b5 h (.t rfl) aa λa h=>b5 h (.t rfl) aa λa h=>wpList_nil ?_)))))
  have step:∀ (a:Act) (KK:Exit->Act->World->Prop),(i<16->x=0)->St 91 a [(22,.slice (some ⟨b,o,none⟩) t.octets.length cx),(23,.int .i64 (t.octets.length:Int)),(24,.int .i64 (i:Int))] ->
    cf P (rg (wn S)) (Exit.then (λa' w''=>∃ m',m'<=t.octets.length/\m'<m/\∃ i:Nat,i+m'=t.octets.length/\w''=w'/\(∀ j x,j<i->j<16->t.octets[j]?=some x->x=0)/\St 91 a' [(22,.slice (some ⟨b,o,none⟩) t.octets.length cx),(23,.int .i64 (t.octets.length:Int)),(24,.int .i64 (i:Int))]) KK) a w':=by
   intro a KK Ra h
   refine cq (e7 h (.t rfl) .i ab (eL w') aa λa h=>?_)
   have hw:IntKind.i64.wrap ((i:Int)+1)=((i+1:Nat):Int):=by simp only[maxLen]at R6;simp[IntKind.wrap,IntKind.bits,IntKind.signed];omega
   rw[hw]at h
   refine b9 h (.t rfl) aa λa h=>wpList_nil ?_
   refine⟨m-1,by omega,by omega,i+1,by omega,rfl,λj y hj hj16 hy=>?_,h.pick ⟨rfl,rfl,rfl,trivial⟩⟩
   rcases bm j i with Qm|Qm
   ·exact hz j y Qm hj16 hy
   ·obtain rfl:j=i:=by omega
    rw[hx]at hy
    exact(au hy) ▸ Ra hj16
  refine bI (cq (b9 h (.t rfl) aa λa h=>cy h rfl (.t rfl) .i aa λa h=>b9 h (.t rfl) aa λa h=>?_))
  cases Qw:cg .lss (i:Int) 16 with
  | false=>
   rw[Qw]at h
   refine cm h rfl rfl rfl aa ab aa λa h=>cm h rfl rfl rfl aa ab aa λa h=>dZ h (.t rfl) (.t rfl) .c aa λa h=>wpList_nil ?_
   refine cA h rfl (λhh=>by simp at hh) (λ_=>.skip ?_)
   exact step a _ (λOH=>by simp[cg]at Qw;omega) (h.pick ⟨rfl,rfl,rfl,trivial⟩)
  | true=>
   rw[Qw]at h
   have OH:i<16:=by simp[cg]at Qw;omega
   refine jJ h rfl rfl rfl aa (.t rfl) aa λa h=>?_
   refine ox h rfl rfl rfl aa (v:=.bool (cg .neq (x.toNat:Int) 0)) (m4 (d:=33) h rfl (.t rfl) .i) aa λa h=>dZ h (.t rfl) (.t rfl) .c aa λa h=>wpList_nil ?_
   refine cA (b:=cg .neq (x.toNat:Int) 0) h rfl (λhh=>?_) (λhh=>.skip ?_)
   ·refine bI (cq (b5 h .c aa λa h=>wpList_nil (.ret ?_)))
    refine hR _ _ h ?_
    have KH:x≠0:=λe=>by subst e;simp[cg]at hh
    have:((t.octets.take 16).all λb=>b==0)=false:=by
     rw[List.all_eq_false]
     exact⟨x,bc (i:=i) (by rw[aX,ax OH];exact hx),by simpa using KH⟩
    rw[this];rfl
   ·refine step a _ (λ_=>?_) (h.pick ⟨rfl,rfl,rfl,trivial⟩)
    have h0:x.toNat=0:=by simp[cg]at hh;omega
    exact UInt8.toNat_inj.1 (by rw[h0];rfl)
 ·have JN:¬ i<t.octets.length:=by simp[cg]at hb;omega
  refine .exit ?_
  show cf P _ _ a w'
  refine bI (cq (b5 h .c aa λa h=>wpList_nil (.ret ?_)))
  refine hR _ _ h ?_
  have:((t.octets.take 16).all λb=>b==0)=true:=by
   rw[aT]
   intro x hx
   obtain⟨j,hj⟩:=List.mem_iff_getElem?.1 hx
   rw[aX]at hj
   split at hj
   ·rename_i OH
    have:=(ah.1 hj).1
    rw[hz j x aa OH hj]
    rfl
   ·cases hj
  rw[this];rfl
end
end
section
open Go
set_option maxRecDepth 4000
section
variable {P:Program} {S:SN}
section
variable {Q:Exit->Act->World->Prop} {r:List Oper} {n:Nat} {a:Act} {w:World} {l:List (Nat × Value)} {I:World->Prop}
theorem EI (h:St n a l)(hI:I w){d T:Nat}{x:Operand}{b:Bool}(hx:Hd l x (.bool b))(hd:d<n)(c:∀ a',St n a' ((d,.bool !b)::l)->gF P I Q r a' w):gF P I Q (mk (some d) (.unOp .not T x)::r) a w:=by
 refine⟨hI,?_⟩
 unfold Oper.wp
 have:(execOp a.eval (mk (some d) (.unOp .not T x))).run P w=.ok (.value (.bool !b)) w:=by simp[execOp,mk,hx n a h,Op.unary]
 rw[this]
 exact c _ (h.put _ hd)
end
theorem CH (C:LeafC P S)(QR:Ent P S.fUsual){sub:SFs}(N4:fz sub=true)(JY:Cu P S sub){W w:World}{kind:Nat}{lo hi nul tag df:Int}{of:Nat}{sv:Value}{k B2 B3:Nat}{cs:List Value}{t:Tr}(J9:ge W sub sv)(ht:TrRp W k cs t)(hk:br (λ_=>False) W w)
  (JC:bB w B2 0 (bW kind lo hi nul tag df of sv)) (JA:bB w B3 0 cs)
  {a:Act} (h:St 91 a [(2,pt B2 0),(3,pt B3 0)]) {R:Exit->Act->World->Prop} (hR:∀ a' w' l',St 91 a' l'->br (λ_=>False) w w'->l'.lookup 4=some (.bool (dR sub 0 t&&(eV (bH sub) t.tags).isEmpty))->R .ret a' w') :
  cf P (.seq (.seq (rg (Ba S)) (.block 3 (.loop (.seq (rg (AZ S)) (.seq (.cond (tm 60) .skip (.exit 3)) (.seq (.block 4 (.seq (rg (AY S)) (.seq (.region 1 (AX S).toArray true) (.cond (tm 69) (.seq (rg (AW S)) .ret) .skip)))) (rg (AV S)))))))) (.seq (rg (AU S)) .ret)) R a w:=by
 have T:=C.tab
 have Lt:=ht.len
 have hf:dW W w:=dW.of hk
 obtain⟨base,c,NL,IT,Po⟩:=J9.form
 refine bI (bI (cq (cH h (.t rfl) T.f7 aa λa h=>ce h (.t rfl) T.f7.var (JC.at (j:=7) rfl) aa λa h=>?_)))
 have h':=h
 rw[NL]at h'
 refine dP h' (.t rfl) T.dFs aa λa h=>b9 h .i aa λa h=>wpList_nil ?_
 rw[<- NL]at h
 refine fY (λm a' w'=>∃ (i:Nat) (rest:SFs),i+m=sub.len/\rest.len=m/\Cu P S rest/\dR rest i t=dR sub 0 t/\br (λ_=>False) w w'/\(∀ b o,base=some ⟨b,o,none⟩->jn W sub b o->jn W rest b (o+i*8)) /\
   St 91 a' [(2,pt B2 0),(3,pt B3 0),(57,sv),(58,.int .i64 (sub.len:Int)),(59,.int .i64 (i:Int))]) sub.len
  ⟨sub.len,ae _,0,sub,by omega,rfl,JY,rfl,br.refl _ _,λb o _ hh=>by simpa using hh,h.pick ⟨rfl,rfl,rfl,rfl,rfl,trivial⟩⟩ ?_
 rintro m a w' hm ⟨i,rest,Ou,M4,KG,Ji,Ko,JD,h⟩
 have Zf:=hk.trans Ko
 refine bI (cq (cy h rfl (.t rfl) (.t rfl) aa λa h=>wpList_nil ?_))
 refine iU h rfl (λhb=>?_) (λhb=>?_)
 ·have IU:i<sub.len:=by simp[cg]at hb;omega
  refine .skip ?_
  cases hr:rest with
  | nil=>rw[hr]at M4;simp[SFs.len]at M4;omega
  | cons kind' lo' MO nul' tag' df' of' sub' r'=>
   subst hr
   obtain⟨b,o,JG,RU⟩:=Po.resolve_left (λhh=>by rw[hh]at IU;simp[SFs.len]at IU)
   obtain⟨⟨sv',hc,LE⟩,M6⟩:=JD b o JG RU
   have hc:bB W b (o+i*8) (bW kind' lo' MO nul' tag' df' of' sv'):=hc
   have MA:ge W sub' sv':=LE
   have RI:(i:Int)+1<=9223372036854775807:=by simp only[maxLen]at IT;omega
   refine bI (.block (bI (cq (b9 h (.t rfl) aa λa h=>?_))))
   have h':=h
   rw[NL,JG]at h'
   refine fw h' (sz:=8) (.t rfl) (.t rfl) IU T.dFs T.vF.size aa λa h=>dK h (cs:=bW kind' lo' MO nul' tag' df' of' sv') (.t rfl) T.vF (bB.kn Zf hc) aa λa h=>?_
   rw[<- JG,<- NL]at h
   refine gP h (T.zF w') aa λa h=>b5 h (.t rfl) aa λa h=>?_
   have Pd:=oU (w:=w') (T:=S.tF) (z:=.agg #[.int .i64 0,.int .i64 0,.int .i64 0,.int .i64 0,.int .i64 0,.int .i64 0,.int .i64 0,bR]) (cs:=bW kind' lo' MO nul' tag' df' of' sv') rfl
   refine ix h (cs:=bW kind' lo' MO nul' tag' df' of' sv') (.t rfl) (.t rfl) (by simp[Value.cells]) T.vF.size (bO w' _) rfl (kN kind' lo' MO nul' tag' df' of' (oQ LE)) (wpList_nil ?_)
   obtain⟨IV,YZ⟩:=Pd
   generalize(w'.alloc (.cells (Value.agg #[.int .i64 0,.int .i64 0,.int .i64 0,.int .i64 0,.int .i64 0,.int .i64 0,.int .i64 0,bR]).cells S.tF (0,0))).setRow w'.heap.size (bW kind' lo' MO nul' tag' df' of' sv').toArray=w2 at IV YZ ⊢
   have Ql:=Ko.trans IV
   have Py:dW W w2:=dW.of (hk.trans Ql)
   have X6:=bB.kn Ql JA
   have h:St 91 a [(2,pt B2 0),(3,pt B3 0),(7,.int .i64 (i:Int)),(8,pt w'.heap.size 0),(57,sv),(58,.int .i64 (sub.len:Int)),(59,.int .i64 (i:Int))]:=h.pick ⟨rfl,rfl,rfl,rfl,rfl,rfl,rfl,trivial⟩
   refine bI (uF [false,false,false,true,true,true] (λw3=>br (λ_=>False) w2 w3) (by kernel_rfl) ?_)
   show iR P _ [mk (some 64) (.load S.tF (tm 8)),mk (some 65) (.load S.tT (tm 3)),mk (some 66) (.move (tm 7))] a
    λaf=>gF P _ _ [cl (some 67) S.fAt [(tm 65),(tm 66)],cl (some 68) S.fUsual [(tm 64),(tm 67)],mk (some 69) (.unOp .not S.tB (tm 68))] af w2.drew
   refine iz h (cs:=bW kind' lo' MO nul' tag' df' of' sv') (.t rfl) T.vF (λw3 hI=>bB.kn hI YZ) aa λa h=>iz h (cs:=cs) (.t rfl) (by rw[Lt];exact T.vT) (λw3 hI=>bB.kn hI X6) aa λa h=>eQ h (.t rfl) aa λa h=>lw ?_
   have LH:br (λ_=>False) w2 w2.drew:=br.drew _ _
   have Nw:=h.pick (m:=[(2,pt B2 0),(3,pt B3 0),(57,sv),(58,.int .i64 (sub.len:Int)),(59,.int .i64 (i:Int)),(64,.agg (bW kind' lo' MO nul' tag' df' of' sv').toArray),(65,.agg cs.toArray),(66,.int .i64 (i:Int))]) ⟨rfl,rfl,rfl,rfl,rfl,rfl,rfl,rfl,trivial⟩
   generalize hFv:Value.agg (bW kind' lo' MO nul' tag' df' of' sv').toArray=vF at Nw
   refine eC Nw LH C.atE (vs:=[.agg cs.toArray,.int .i64 (i:Int)]) (λn a h=>by
    simp only[List.map_cons,List.map_nil]
    rw[Hd.t (l:=_) (i:=65) rfl n a h,Hd.t (l:=_) (i:=66) rfl n a h]) (C.atC k i cs t w2.drew (ht.far (Py.kn LH))) aa λe w4 hR4=>?_
   obtain⟨cs4,rfl,PY,Jm⟩:=hR4
   have KL:=LH.trans Jm
   have LD:=KG.1 w4 kind' lo' MO nul' tag' df' of' sv' k cs4 (t.at i) (MA.far (Py.kn KL)) (PY.far (dW.of Jm))
   rw[hFv]at LD
   refine⟨_,rfl,λa h=>eC h KL QR (vs:=[vF,.agg cs4.toArray]) (λn a h=>by
    simp only[List.map_cons,List.map_nil]
    rw[Hd.t (l:=_) (i:=64) rfl n a h,Hd.t (l:=_) (i:=67) rfl n a h]) LD aa λe w5 hR5=>?_⟩
   obtain⟨rfl,JZ⟩:=hR5
   have Kw:=KL.trans JZ
   refine⟨_,rfl,λa h=>EI h Kw (.t rfl) aa λa h=>lq Kw ?_⟩
   have VJ:dR (.cons kind' lo' MO nul' tag' df' of' sub' r') i t=(ct kind' nul' df' (λt=>dR sub' 0 t&&(eV (bH sub') t.tags).isEmpty) (t.at i)&&dR r' (i+1) t):=rfl
   rw[VJ]at Ji
   generalize ct kind' nul' df' (λt=>dR sub' 0 t&&(eV (bH sub') t.tags).isEmpty) (t.at i)=bu at h Ji
   show cf P _ _ a w5
   refine cA h rfl (λhh=>?_) (λhh=>.skip ?_)
   ·have X8:bu=false:=by simpa using hh
    subst X8
    refine bI (cq (b5 h .c aa λa h=>wpList_nil (.ret ?_)))
    refine hR _ _ _ h (Ql.trans Kw) ?_
    rw[<- Ji];rfl
   ·have X8:bu=true:=by simpa using hh
    subst X8
    rw[Bool.true_and]at Ji
    refine cq (e7 h (.t rfl) .i ab (eL w5) aa λa h=>?_)
    have hw:IntKind.i64.wrap ((i:Int)+1)=((i+1:Nat):Int):=by simp[IntKind.wrap,IntKind.bits,IntKind.signed];omega
    rw[hw]at h
    refine b9 h (.t rfl) aa λa h=>wpList_nil ?_
    refine⟨m-1,by omega,by omega,i+1,r',by omega,by simp only[SFs.len]at M4;omega,KG.2,Ji,Ql.trans Kw,λb' o' hbo hh=>?_,h.pick ⟨rfl,rfl,rfl,rfl,rfl,trivial⟩⟩
    have:=(JD b' o' hbo hh).2
    rw[show o'+(i+1)*8=o'+i*8+8 by omega]
    exact this
 ·have JN:¬ i<sub.len:=by simp[cg]at hb;omega
  have M1:rest=.nil:=by
   cases rest with
   | nil=>rfl
   | cons=>simp only[SFs.len]at M4;omega
  subst M1
  have SV:dR sub 0 t=true:=Ji.symm
  refine .exit ?_
  show cf P _ _ a w'
  have QJ:dW W w':=dW.of Zf
  have ht':=ht.far QJ
  obtain⟨uv,OJ,IS⟩:∃ uv,fi w' 2 (jh w') uv t.raw/\w'.cell? ⟨B3,0+4,none⟩=some uv:=by
   cases k with
   | zero=>exact ht'.elim
   | succ k=>
    obtain⟨sv,lv,uv,rfl,_,_,OJ⟩:=ht'
    exact⟨uv,OJ,(bB.kn Ko JA).at (j:=4) rfl⟩
  refine bI (cq (cH h (.t rfl) T.f7 aa λa h=>ce h (.t rfl) T.f7.var ((bB.kn Ko JC).at (j:=7) rfl) aa λa h=>cH h (.t rfl) T.t4 aa λa h=>ce h (.t rfl) T.t4.var IS aa λa h=>?_))
  refine cX h C.unE (vs:=[sv,uv]) (λn a h=>by simp only[List.map_cons,List.map_nil];rw[Hd.t (l:=_) (i:=72) rfl n a h,Hd.t (l:=_) (i:=74) rfl n a h]) (C.unC sub sv uv t.raw w' N4 (J9.far QJ) OJ) aa λe w5 hR5=>?_
  obtain⟨ux,rs,rfl,We,L8,JZ⟩:=hR5
  obtain⟨bx,cx,Me,_⟩:=We.form
  refine⟨ux,rfl,λa h=>?_⟩
  have h':=h
  rw[Me]at h'
  refine dP h' (.t rfl) T.dGs aa λa h=>cy h rfl (.t rfl) .i aa λa h=>b5 h (.t rfl) aa λa h=>wpList_nil (.ret ?_)
  refine hR _ _ _ h (Ko.trans JZ) ?_
  have e1:eV (bH sub) t.tags=rs.map λp=>(p.1.toNat,p.2):=by rw[L8,ub];rfl
  rw[SV,Bool.true_and,e1]
  cases rs<;>simp[cg,List.lookup]<;>omega
theorem Al (C:LeafC P S)(D:Ew P S)(hfn:FnIs P S.fUsual 91 [4] (csUs S)){sub:SFs}(N4:fz sub=true)(JY:Cu P S sub):Ir P S sub:=by
 intro W kind lo hi nul tag df of sv k cs t J9 ht
 have T:=C.tab
 have O5:=ht
 cases k with
 | zero=>exact ht.elim
 | succ k=>
 obtain⟨tsv,tlv,tuv,rfl,LT,NZ,OJ⟩:=ht
 refine fb T.mixed hfn ab _ ab λa h=>?_
 unfold csUs
 refine bI (cq (fy h (cs:=bW kind lo hi nul tag df of sv) (.t rfl) aa λa h=>?_))
 have Jd:br (λ_=>False) W (W.alloc (.cells (bW kind lo hi nul tag df of sv).toArray S.tF (0,0))):=br.alloc _ _ _
 have JC:=dA W (bW kind lo hi nul tag df of sv) S.tF
 generalize W.alloc (.cells (bW kind lo hi nul tag df of sv).toArray S.tF (0,0))=w1 at Jd JC ⊢
 refine fy h (cs:=[.int .i64 t.num,tsv,.bool t.null,tlv,tuv]) (.t rfl) aa λa h=>b5 h .c aa λa h=>wpList_nil ?_
 have IV:br (λ_=>False) w1 (w1.alloc (.cells [.int .i64 t.num,tsv,.bool t.null,tlv,tuv].toArray S.tT (0,0))):=br.alloc _ _ _
 have JA:=dA w1 [.int .i64 t.num,tsv,.bool t.null,tlv,tuv] S.tT
 generalize w1.alloc (.cells [.int .i64 t.num,tsv,.bool t.null,tlv,tuv].toArray S.tT (0,0))=w at IV JA ⊢
 have JC:=bB.kn IV JC
 have hk:=Jd.trans IV
 have hf:dW W w:=dW.of hk
 have h:St 91 a [(2,pt W.heap.size 0),(3,pt w1.heap.size 0)]:=h.pick ⟨rfl,rfl,trivial⟩
 have fin:∀ (a':Act) (w':World) (l':List (Nat × Value)) (b:Bool),St 91 a' l'->br (λ_=>False) w w'->l'.lookup 4=some (.bool b)->b=ct kind nul df (λt=>dR sub 0 t&&(eV (bH sub) t.tags).isEmpty) t ->
   (a'.defers=[]/\(Ending.returned (cE [4] a')=.returned (.bool (ct kind nul df (λt=>dR sub 0 t&&(eV (bH sub) t.tags).isEmpty) t))/\br (λ_=>False) W w')):=λa' w' l' b h Ko hl hb=>by
  refine iH (RR:=λe w'=>e=.returned (.bool (ct kind nul df (λt=>dR sub 0 t&&(eV (bH sub) t.tags).isEmpty) t))/\br (λ_=>False) W w') h hl ⟨by rw[hb],hk.trans Ko⟩
 have PL:br (λ_=>False) w w:=br.refl _ _
 refine bI (bI (cq (cH h (.t rfl) T.f0 aa λa h=>ce h (.t rfl) T.f0.var (JC.at (j:=0) rfl) aa λa h=>wpList_nil ?_)))
 refine .block (bI (cq (cy h rfl (.t rfl) .i aa λa h=>b5 h (.t rfl) aa λa h=>wpList_nil ?_)))
 refine cA h rfl (λhb=>?_) (λhb=>?_)
 ·have Km:kind=0:=by simp[cg]at hb;omega
  subst Km
  refine bI (cq (cH h (.t rfl) T.t0 aa λa h=>ce h (.t rfl) T.t0.var (JA.at (j:=0) rfl) aa λa h=>e7 h (.t rfl) .i ab (uq w) aa λa h=>cH h (.t rfl) T.f5 aa λa h=>ce h (.t rfl) T.f5.var (JC.at (j:=5) rfl) aa λa h=>cy h rfl (.t rfl) (.t rfl) aa λa h=>b5 h (.t rfl) aa λa h=>wpList_nil (.ret ?_)))
  exact fin _ _ _ _ h PL rfl (by simp[ct,cg])
 have h0:kind≠0:=by simp[cg]at hb;omega
 refine bI (cq (cy h rfl (.t rfl) .i aa λa h=>b5 h (.t rfl) aa λa h=>wpList_nil ?_))
 refine cA h rfl (λhb=>?_) (λhb=>?_)
 ·have Km:kind=7:=by simp[cg]at hb;omega
  subst Km
  refine CG C (t:=t) (LT.far hf) (JA.at (j:=1) rfl) (h.pick ⟨rfl,trivial⟩) λa' l' h hl=>?_
  exact fin _ _ _ _ h PL hl (by simp[ct])
 have h7:kind≠7:=by simp[cg]at hb;omega
 refine bI (bI (cq (cy h rfl (.t rfl) .i aa λa h=>b5 h (.t rfl) aa λa h=>wpList_nil ?_)))
 have text:∀ (a:Act) (KK:Exit->Act->World->Prop),kind=8 \/ kind=9->St 91 a [(2,pt W.heap.size 0),(3,pt w1.heap.size 0)]->(∀ a' l' b,St 91 a' l'->l'.lookup 4=some (.bool b)->b=ct kind nul df (λt=>dR sub 0 t&&(eV (bH sub) t.tags).isEmpty) t->KK .ret a' w) ->
   cf P (.seq (.seq (rg (Bd S)) (.cond (tm 41) (.seq (rg (Bc S)) .ret) .skip)) (.seq (rg (Bb S)) .ret)) KK a w:=by
  intro a KK h89 h N9
  have hu:ct kind nul df (λt=>dR sub 0 t&&(eV (bH sub) t.tags).isEmpty) t=(if 0<=nul then t.null else t.octets.isEmpty):=by simp only[ct,h0,h7,h89,ak,aw]
  refine bI (bI (cq (cH h (.t rfl) T.f3 aa λa h=>ce h (.t rfl) T.f3.var (JC.at (j:=3) rfl) aa λa h=>cy h rfl (.t rfl) .i aa λa h=>wpList_nil ?_)))
  refine cA h rfl (λhb=>?_) (λhb=>.skip ?_)
  ·have hn:0<=nul:=by simpa[cg]using hb
   refine bI (cq (cH h (.t rfl) T.t2 aa λa h=>ce h (.t rfl) T.t2.var (JA.at (j:=2) rfl) aa λa h=>b5 h (.t rfl) aa λa h=>wpList_nil (.ret ?_)))
   exact N9 _ _ _ h rfl (by rw[hu,ax hn])
  ·have hn:¬ 0<=nul:=by simpa[cg]using hb
   show cf P _ _ a w
   obtain⟨bx,cx,Me,_⟩:=LT.form
   refine bI (cq (cH h (.t rfl) T.t1 aa λa h=>ce h (.t rfl) T.t1.var (JA.at (j:=1) rfl) aa λa h=>?_))
   rw[Me]at h
   refine dP h (.t rfl) T.oct.und aa λa h=>cy h rfl (.t rfl) .i aa λa h=>b5 h (.t rfl) aa λa h=>wpList_nil (.ret ?_)
   refine N9 _ _ _ h rfl ?_
   rw[hu,al hn]
   cases t.octets<;>simp[cg]<;>omega
 refine cA h rfl (λhb=>?_) (λhb=>?_)
 ·have Km:kind=8:=by simp[cg]at hb;omega
  refine .skip ?_
  show cf P _ _ a w
  refine cA h rfl (λ_=>?_) (λhh=>by rw[hb]at hh;cases hh)
  exact text a _ (.inl Km) (h.pick ⟨rfl,rfl,trivial⟩) λa' l' b h hl hb=>fin _ _ _ _ h PL hl hb
 have h8:kind≠8:=by simp[cg]at hb;omega
 refine cq (cy h rfl (.t rfl) .i aa λa h=>b5 h (.t rfl) aa λa h=>wpList_nil ?_)
 show cf P _ _ a w
 refine cA h rfl (λhb=>?_) (λhb=>?_)
 ·have Km:kind=9:=by simp[cg]at hb;omega
  exact text a _ (.inr Km) (h.pick ⟨rfl,rfl,trivial⟩) λa' l' b h hl hb=>fin _ _ _ _ h PL hl hb
 have h9:kind≠9:=by simp[cg]at hb;omega
 refine bI (cq (cy h rfl (.t rfl) .i aa λa h=>b5 h (.t rfl) aa λa h=>wpList_nil ?_))
 refine cA h rfl (λhb=>?_) (λhb=>?_)
 ·have Km:kind=11:=by simp[cg]at hb;omega
  subst Km
  obtain⟨bx,cx,Me,_⟩:=NZ.form
  refine bI (cq (cH h (.t rfl) T.t3 aa λa h=>ce h (.t rfl) T.t3.var (JA.at (j:=3) rfl) aa λa h=>?_))
  rw[Me]at h
  refine dP h (.t rfl) T.dTs aa λa h=>cy h rfl (.t rfl) .i aa λa h=>b5 h (.t rfl) aa λa h=>wpList_nil (.ret ?_)
  refine fin _ _ _ _ h PL rfl ?_
  simp only[ct]
  cases t.list<;>simp[cg]<;>omega
 have Ld:kind≠11:=by simp[cg]at hb;omega
 refine bI (cq (cy h rfl (.t rfl) .i aa λa h=>b5 h (.t rfl) aa λa h=>wpList_nil ?_))
 refine cA h rfl (λhb=>?_) (λhb=>?_)
 ·have Km:kind=10:=by simp[cg]at hb;omega
  subst Km
  refine CH C hfn.ent N4 JY J9 O5 hk JC JA (h.pick ⟨rfl,rfl,trivial⟩) λa' w' l' h Ko hl=>?_
  exact fin _ _ _ _ h Ko hl (by simp[ct])
 have Lm:kind≠10:=by simp[cg]at hb;omega
 refine .skip ?_
 show cf P _ _ a w
 have hu:ct kind nul df (λt=>dR sub 0 t&&(eV (bH sub) t.tags).isEmpty) t=decide (be (da kind) t.num=be (da kind) df):=by simp only[ct,h0,h7,h8,h9,Lm,Ld,or_self,ak]
 have Yw:da kind<=8:=by unfold da;split<;>(try split)<;>(try split)<;>omega
 refine bI (uF [false,false,false,false,true,true,false,false,false,false,true,true,true,true] (λw'=>br (λ_=>False) w w') (by kernel_rfl) ?_)
 show iR P _ [mk (some 78) (.fieldAddr S.tT (tm 3) 0),mk (some 79) (.load S.tI64 (tm 78)),mk (some 80) (.fieldAddr S.tF (tm 2) 0),mk (some 81) (.load S.tInt (tm 80)),mk (some 84) (.fieldAddr S.tF (tm 2) 5),mk (some 85) (.load S.tI64 (tm 84)),mk (some 86) (.fieldAddr S.tF (tm 2) 0),mk (some 87) (.load S.tInt (tm 86))] a
  λaf=>gF P _ _ [cl (some 82) S.fWid [(tm 81)],cl (some 83) S.fFix [(tm 79),(tm 82)],cl (some 88) S.fWid [(tm 87)],cl (some 89) S.fFix [(tm 85),(tm 88)],cl (some 90) S.fSame [(tm 83),(tm 89)],mk (some 4) (.assign (tm 90))] af w.drew
 refine lx h (.t rfl) T.t0 aa λa h=>iX h (.t rfl) T.t0.var (λw' hI=>(bB.kn hI JA).at (j:=0) rfl) aa λa h=>?_
 refine lx h (.t rfl) T.f0 aa λa h=>iX h (.t rfl) T.f0.var (λw' hI=>(bB.kn hI JC).at (j:=0) rfl) aa λa h=>?_
 refine lx h (.t rfl) T.f5 aa λa h=>iX h (.t rfl) T.f5.var (λw' hI=>(bB.kn hI JC).at (j:=5) rfl) aa λa h=>?_
 refine lx h (.t rfl) T.f0 aa λa h=>iX h (.t rfl) T.f0.var (λw' hI=>(bB.kn hI JC).at (j:=0) rfl) aa λa h=>lw ?_
 have LH:br (λ_=>False) w w.drew:=br.drew _ _
 refine eC h LH C.widE (vs:=[.int .i64 (kind:Int)]) (λn a h=>by simp only[List.map_cons,List.map_nil];rw[Hd.t (l:=_) (i:=81) rfl n a h]) (C.widC kind w.drew) aa λe w2 Kr=>?_
 obtain⟨rfl,rfl⟩:=Kr
 refine⟨_,rfl,λa h=>eC h LH C.fixE (vs:=[.int .i64 t.num,.int .i64 (da kind:Int)]) (λn a h=>by simp only[List.map_cons,List.map_nil];rw[Hd.t (l:=_) (i:=79) rfl n a h,Hd.t (l:=_) (i:=82) rfl n a h]) (C.fixC t.num (da kind) w.drew Yw) aa λe w3 hR3=>?_⟩
 obtain⟨v3,rfl,Kp,IZ⟩:=hR3
 have Na:=LH.trans IZ
 refine⟨v3,rfl,λa h=>eC h Na C.widE (vs:=[.int .i64 (kind:Int)]) (λn a h=>by simp only[List.map_cons,List.map_nil];rw[Hd.t (l:=_) (i:=87) rfl n a h]) (C.widC kind w3) aa λe w4 hR4=>?_⟩
 obtain⟨rfl,rfl⟩:=hR4
 refine⟨_,rfl,λa h=>eC h Na C.fixE (vs:=[.int .i64 df,.int .i64 (da kind:Int)]) (λn a h=>by simp only[List.map_cons,List.map_nil];rw[Hd.t (l:=_) (i:=85) rfl n a h,Hd.t (l:=_) (i:=88) rfl n a h]) (C.fixC df (da kind) w4 Yw) aa λe w5 hR5=>?_⟩
 obtain⟨v5,rfl,N7,JZ⟩:=hR5
 have Kw:=Na.trans JZ
 refine⟨v5,rfl,λa h=>eC h Kw D.smE (vs:=[v3,v5]) (λn a h=>by simp only[List.map_cons,List.map_nil];rw[Hd.t (l:=_) (i:=83) rfl n a h,Hd.t (l:=_) (i:=89) rfl n a h]) (D.smC w5 (λ_=>False) v3 v5 (be (da kind) t.num) (be (da kind) df) (Kp.sl.keep JZ) N7.sl (by rw[dx];simp only[maxLen];omega)) aa λe w6 hR6=>?_⟩
 obtain⟨rfl,Lu⟩:=hR6
 have L2:=Kw.trans Lu
 refine⟨_,rfl,λa h=>iM h L2 (.t rfl) aa λa h=>lq L2 (.ret ?_)⟩
 exact fin _ _ _ _ h L2 rfl hu.symm
theorem FC (T:RefT P S)(hfn:FnIsC P S.fAt 16 4 S.tT (csAt S)){k i:Nat}{cs:List Value}{t:Tr}(w0:World)(ht:TrRp w0 k cs t) :
  ∃ cs',TrRp w0 k cs' (t.at i)/\∀ w,br (λ_=>False) w0 w->Calls P S.fAt [.agg cs.toArray,.int .i64 (i:Int)].toArray w λe w'=>e=.returned (.agg cs'.toArray)/\br (λ_=>False) w w':=by
 cases k with
 | zero=>exact ht.elim
 | succ k=>
 obtain⟨sv,lv,uv,rfl,h2,h3,h4⟩:=ht
 obtain⟨lb,lc,NZ,_,WL,_⟩:=h3.form
 have main:∀ cs':List Value,cs'.length=5->(∀ u∈cs',u.oneCell'=true)->(∀ x,t.list[i]?=some x->∃ b o c,lv=.slice (some ⟨b,o,none⟩) t.list.length c/\bB w0 b (o+i*5) cs')->(t.list[i]?=none->cs'=[.int .i64 0,bR,.bool false,bR,bR]) ->
   ∀ w,br (λ_=>False) w0 w->Calls P S.fAt [.agg [.int .i64 t.num,sv,.bool t.null,lv,uv].toArray,.int .i64 (i:Int)].toArray w λe w'=>e=.returned (.agg cs'.toArray)/\br (λ_=>False) w w':=by
  intro cs' hl Jv KZ JR w PA
  refine pc T.mixed hfn _ ab λa h=>?_
  unfold csAt
  refine bI (cq (fy h (.t rfl) aa λa h=>?_))
  have Jd:br (λ_=>False) w (w.alloc (.cells [.int .i64 t.num,sv,.bool t.null,lv,uv].toArray S.tT (0,0))):=br.alloc _ _ _
  have JC:=dA w [.int .i64 t.num,sv,.bool t.null,lv,uv] S.tT
  have IX:(w.alloc (.cells [.int .i64 t.num,sv,.bool t.null,lv,uv].toArray S.tT (0,0))).heap.size=w.heap.size+1:=by simp
  generalize w.alloc (.cells [.int .i64 t.num,sv,.bool t.null,lv,uv].toArray S.tT (0,0))=w1 at Jd JC IX ⊢
  refine gP h (T.zT w1) aa λa h=>wpList_nil ?_
  have hn:=bO w1 (.cells (Value.agg #[.int .i64 0,bR,.bool false,bR,bR]).cells S.tT (0,0))
  have IV:br (λ_=>False) w1 (w1.alloc (.cells (Value.agg #[.int .i64 0,bR,.bool false,bR,bR]).cells S.tT (0,0))):=br.alloc _ _ _
  generalize w1.alloc (.cells (Value.agg #[.int .i64 0,bR,.bool false,bR,bR]).cells S.tT (0,0))=w2 at hn IV ⊢
  have JA:=bB.kn IV JC
  have hk:=Jd.trans IV
  have fin:∀ (a:Act) (l:List (Nat × Value)) (x:Operand),St 16 a l->Hd l x (.agg cs'.toArray)->l.lookup 4=some (pt w1.heap.size 0)->∀ (ops:Array Oper) (R:Exit->Act->World->Prop),
    (∀ a' w',(a'.defers=[]/\∃ p v,a'.get 4=.pointer (some p)/\(loadVar S.tT p).run P w'=.ok v w'/\Ending.returned v=.returned (.agg cs'.toArray)/\br (λ_=>False) w w')->R .normal a' w')->wpList P ops R [mk none (.store S.tT (tm 4) x)] a w2:=by
   intro a l x h hx h4' ops R hR
   refine ix h (.t h4') hx (by simp[Value.cells]) (by rw[hl];exact T.vT.size) hn (by simp[Value.cells,hl]) Jv (wpList_nil (hR _ _ ⟨h.defers,⟨w1.heap.size,0,none⟩,.agg cs'.toArray,h.get 4 _ h4',?_,rfl,?_⟩))
   ·have hr:=setRow_heap _ _ _ cs'.toArray _ _ hn
    have IS:∀ j v,cs'[j]?=some v->(w2.setRow w1.heap.size cs'.toArray).cell? ((⟨w1.heap.size,0,none⟩:Addr).add j)=some v:=λj v hj=>by
     rw[Addr.add_lit]
     simp only[World.cell?,hr,Option.isSome_none,ag,ak,aN,aQ,hj]
    have MM:=run_loadCells_list (P:=P) (w2.setRow w1.heap.size cs'.toArray) ⟨w1.heap.size,0,none⟩ cs' IS
    rw[hl]at MM
    simp[loadVar,T.vT.agg,T.vT.size,MM]
   ·exact((hk.mono (Y:=λk=>k=w1.heap.size) λ_ _ h=>h.elim).trans (br.setRow _ _ _ _ rfl)).mono λk hk hX=>by omega
  refine bI (bI (cq ?_))
  refine b9 h (.t rfl) aa λa h=>cH h (.t rfl) T.t3 aa λa h=>ce h (.t rfl) T.t3.var (JA.at (j:=3) rfl) aa λa h=>?_
  have h':=h
  rw[NZ]at h'
  refine dP h' (.t rfl) T.dTs aa λa h=>cy h rfl (.t rfl) (.t rfl) aa λa h=>wpList_nil ?_
  refine cA h rfl (λhb=>?_) (λhb=>?_)
  ·have IU:i<t.list.length:=by simp[cg]at hb;omega
   obtain⟨x,hx⟩:∃ x,t.list[i]?=some x:=⟨_,aq IU⟩
   obtain⟨b,o,c,hv,Pu⟩:=KZ x hx
   refine bI (cq ?_)
   refine cH h (.t rfl) T.t3 aa λa h=>ce h (.t rfl) T.t3.var (JA.at (j:=3) rfl) aa λa h=>b9 h (.t rfl) aa λa h=>?_
   rw[hv]at h
   refine fw h (sz:=5) (.t rfl) (.t rfl) IU T.dTs T.vT.size aa λa h=>?_
   refine dK h (cs:=cs') (.t rfl) (by rw[hl];exact T.vT) (bB.kn hk (bB.kn PA Pu)) aa λa h=>?_
   exact fin a _ _ h (.t rfl) rfl _ _ λa' w' hh=>.ret hh
  ·have JN:¬ i<t.list.length:=by simp[cg]at hb;omega
   obtain rfl:=JR (List.getElem?_eq_none aa)
   refine .skip (bI (cq ?_))
   refine kj h (qs:=#[]) (λ_ _ _=>by simp) (T.bT w2) aa λa h=>?_
   exact fin a _ _ h (.t rfl) rfl _ _ λa' w' hh=>.ret hh
 rcases bm i t.list.length with IU|JN
 ·obtain⟨x,hx⟩:∃ x,t.list[i]?=some x:=⟨_,aq IU⟩
  have JD:t.at i=x:=by simp[Tr.at,List.getD,hx]
  obtain⟨b,o,c,cs',hv,M7,Pu,Rk⟩:=h3.get hx
  exact⟨cs',by rw[JD];exact Rk.up aa,main cs' M7 Rk.one (λx' hx'=>⟨b,o,c,hv,Pu⟩) (λhn=>by rw[hx]at hn;cases hn)⟩
 ·have JD:t.at i=.zero:=by simp[Tr.at,List.getD,List.getElem?_eq_none JN]
  exact⟨_,by rw[JD];exact(TrRp.zero w0).up aa,main [.int .i64 0,bR,.bool false,bR,bR] rfl (by simp[Value.oneCell',bR]) (λx hx=>by rw[List.getElem?_eq_none JN]at hx;cases hx) (λ_=>rfl)⟩
end
end
section
open Go
set_option maxRecDepth 4000
structure KtC (P:Program)(S:SN):Prop where
 same:Ew P S
 usE:Ent P S.fUsual
 atD:∀ (k i:Nat) (cs:List Value) (t:Tr) (w0:World),TrRp w0 k cs t->∃ cs',TrRp w0 k cs' (t.at i)/\∀ w,br (λ_=>False) w0 w->Calls P S.fAt [.agg cs.toArray,.int .i64 (i:Int)].toArray w λe w'=>e=.returned (.agg cs'.toArray)/\br (λ_=>False) w w'
 unD:∀ (sf:SFs) (fv uv:Value) (raw:List (UInt32 × Bs)) (W0 W:World),fz sf=true->ge W sf fv->fi W 2 (jh W0) uv raw->Calls P S.fUnk [fv,uv].toArray W λe w'=>∃ v es,e=.returned v/\dX w' W.heap.size S.tG v es/\(∀ e∈es,kR W0 e.v e.b)/\es.map iL=eV (bH sf) (raw.map λp=>(p.1.toNat,p.2))/\br (λ_=>False) W w'
 tGU:S.tG≠S.tU8
theorem As (tag:Int)(U:Bool)(b:Bs)(q:Nat):((if 0<=tag/\U=false then[(tag.toNat,b)] else[]).filter λp=>p.1==q)=if tag=(q:Int)/\U=false then[(q,b)] else[]:=by
 by_cases h:tag=(q:Int)/\U=false
 ·obtain⟨rfl,hU⟩:=h
  rw[ax ⟨by omega,hU⟩,ax ⟨rfl,hU⟩]
  simp
 ·rw[al h]
  split
  ·rename_i h2
   have:¬ tag.toNat=q:=λe=>h ⟨by omega,h2.2⟩
   simp[this]
  ·rfl
section
variable {P:Program} {S:SN}
theorem ud {ops:Array Oper}{C:World->Prop}{Q:Act->Prop}{r:List Oper}{n:Nat}{a:Act}{l:List (Nat × Value)}(h:St n a l){d j jd f:Nat}{b:Bool}{o:Oper}{args:List Operand}{vs:List Value}{v:Value}(ho:ops[j]?=some o)(Lb:o.dst=some jd)(hj:l.lookup jd=some (.bool b))(Lv:jd<n)(hf:Ent P f)
  (J4:∀ (n:Nat) (a:Act),St n a l->args.map a.eval=vs) (hc:∀ w,C w->Calls P f vs.toArray w λe w'=>e=.returned v/\C w') (hd:d<n) (c:∀ a',St n a' ((d,v)::l)->wpQuiet P ops C Q r a'):wpQuiet P ops C Q (gd d (.call ⟨.value (.func f),args.toArray,#[]⟩) j b::r) a:=by
 have hy:=dz ho Lb (by rw[h.size];exact Lv) (h.get _ _ hj)
 unfold wpQuiet
 rw[ax (by simp[Region.wanted,gd,hy])]
 refine⟨v,λw hC=>?_,c _ (h.put v hd)⟩
 unfold Oper.quietAt
 have:(execOp a.eval (gd d (.call ⟨.value (.func f),args.toArray,#[]⟩) j b)).run P w=.ok (.enter f vs.toArray) w:=by
  have he:a.eval (.func f)=.func (.func f) #[] #[]:=rfl
  have Qy:(args.map a.eval).toArray=vs.toArray:=by rw[J4 n a h]
  simp only[execOp,gd,resolve,he,Deferred.ofValue,invoke,Sem.run_bind,Sem.run_pure,Result.andThen_ok,Array.empty_append,Array.append_empty,List.map_toArray,Qy]
  exact hf _ _
 rw[this]
 exact⟨rfl,hc w hC⟩
theorem ur {n:Nat}{a:Act}{w:World}{l:List (Nat × Value)}(h:St n a l){d:Nat}{x:Operand}{F B O:Nat}{cs:List Value}(hx:Hd l x (pt B O))(hF:cv P F true cs.length)(hv:bB w B O cs):(execOp a.eval (mk (some d) (.load F x))).run P w=.ok (.value (.agg cs.toArray)) w:=by
 have hl:=run_loadCells_list (P:=P) w ⟨B,O,none⟩ cs (λj v hj=>by rw[Addr.add_lit];exact hv j v hj)
 have e:=hx n a h
 simp only[pt]at e
 simp[execOp,mk,e,Instr.loadAt,Instr.sureAddr,loadVar,hF.agg w,hF.size w,hl]
theorem AM (C:LeafC P S)(K:KtC P S)(QU:Ent P S.fField){W:World}{sf:SFs}{fv x51 x52 v9:Value}{ver:Int}{k B q:Nat}{cs:List Value}{t:Tr}(J9:ge W sf fv)(ht:TrRp W k cs t)(hB:bB W B 0 cs)(JY:qv P S sf)(LD:Cu P S sf)(hq:q<1000)
  {total:Bs} {nt:Nat} (hlim:total.length<=fq) {w0:World} {v0:Value} {bs0:Bs} {n0:Nat} (KF:bS w0 W.heap.size S.tU8 v0 bs0) (JM:dW W w0) (OP:bs0++dh ((sTgd ver true sf 0 t).filter λp=>p.1==q)=total) (W2:n0+((sTgd ver true sf 0 t).filter λp=>p.1==q).length=nt) (Mt:n0<=bs0.length) {a:Act}
  (h:St 132 a [(0,fv),(1,.int .i64 ver),(2,.bool true),(7,pt B 0),(9,v9),(10,v0),(11,.int .i64 (n0:Int)),(14,.int .i64 (q:Int)),(51,x51),(52,x52)]) {R:Exit->Act->World->Prop}
  (hR:∀ (a':Act) (w':World) (v:Value),St 132 a' [(0,fv),(1,.int .i64 ver),(2,.bool true),(7,pt B 0),(9,v9),(10,v),(11,.int .i64 (nt:Int)),(51,x51),(52,x52)]->bS w' W.heap.size S.tU8 v total->dW W w'->nt<=total.length->R .normal a' w') :
  cf P (.seq (rg (wx S)) (.block 4 (.loop (.seq (rg (wv S)) (.seq (.cond (tm 58) .skip (.exit 4)) (.seq (.block 5 (.seq (rg (wu S)) (.seq (.region 2 (s5 S).toArray true) (.cond (tm 73) (.seq (.region 1 (ws S).toArray true) (.seq (rg (wq S)) (rg (wo S)))) .skip)))) (rg (s4 S)))))))) R a w0:=by
 have T:=C.tab
 have Lt:=ht.len
 obtain⟨base,c,NL,IT,Po⟩:=J9.form
 refine bI (cq (b9 h (.t rfl) aa λa h=>?_))
 have h':=h
 rw[NL]at h'
 refine dP h' (.t rfl) T.dFs aa λa h=>b9 h .i aa λa h=>wpList_nil ?_
 rw[<- NL]at h
 refine fY (λm a' w'=>∃ (i:Nat) (rest:SFs) (v:Value) (bs:Bs) (n:Nat),i+m=sf.len/\rest.len=m/\qv P S rest/\Cu P S rest/\bs++dh ((sTgd ver true rest i t).filter λp=>p.1==q)=total/\n+((sTgd ver true rest i t).filter λp=>p.1==q).length=nt/\n<=bs.length/\bS w' W.heap.size S.tU8 v bs/\dW W w'/\(∀ b o,base=some ⟨b,o,none⟩->jn W sf b o->jn W rest b (o+i*8)) /\
   St 132 a' [(0,fv),(1,.int .i64 ver),(2,.bool true),(7,pt B 0),(9,v9),(10,v),(11,.int .i64 (n:Int)),(14,.int .i64 (q:Int)),(51,x51),(52,x52),(55,fv),(56,.int .i64 (sf.len:Int)),(57,.int .i64 (i:Int))]) sf.len
  ⟨sf.len,ae _,0,sf,v0,bs0,n0,by omega,rfl,JY,LD,OP,W2,Mt,KF,JM,λb o _ hh=>by simpa using hh,h.pick ⟨rfl,rfl,rfl,rfl,rfl,rfl,rfl,rfl,rfl,rfl,rfl,rfl,rfl,trivial⟩⟩ ?_
 rintro m a w hm ⟨i,rest,v,bs,n,Ou,M4,KG,Y9,Ji,Jg,JB,hd,hk,JD,h⟩
 refine bI (cq (cy h rfl (.t rfl) (.t rfl) aa λa h=>wpList_nil ?_))
 refine iU h rfl (λhb=>?_) (λhb=>?_)
 ·have IU:i<sf.len:=by simp[cg]at hb;omega
  refine .skip ?_
  cases hr:rest with
  | nil=>rw[hr]at M4;simp[SFs.len]at M4;omega
  | cons kind lo hi nul tag df of sub r=>
   subst hr
   obtain⟨b,o,JG,RU⟩:=Po.resolve_left (λhh=>by rw[hh]at IU;simp[SFs.len]at IU)
   obtain⟨⟨sv,hc,LE⟩,M6⟩:=JD b o JG RU
   have hc:bB W b (o+i*8) (bW kind lo hi nul tag df of sv):=hc
   have MA:ge W sub sv:=LE
   have RI:(i:Int)+1<=9223372036854775807:=by simp only[maxLen]at IT;omega
   refine bI (.block (bI (cq (b9 h (.t rfl) aa λa h=>?_))))
   have h':=h
   rw[NL,JG]at h'
   refine fw h' (sz:=8) (.t rfl) (.t rfl) IU T.dFs T.vF.size aa λa h=>dK h (cs:=bW kind lo hi nul tag df of sv) (.t rfl) T.vF (hk.cells hc) aa λa h=>?_
   rw[<- JG,<- NL]at h
   refine gP h (T.zF w) aa λa h=>b5 h (.t rfl) aa λa h=>?_
   have Pd:=oU (w:=w) (T:=S.tF) (z:=.agg #[.int .i64 0,.int .i64 0,.int .i64 0,.int .i64 0,.int .i64 0,.int .i64 0,.int .i64 0,bR]) (cs:=bW kind lo hi nul tag df of sv) rfl
   refine ix h (cs:=bW kind lo hi nul tag df of sv) (.t rfl) (.t rfl) (by simp[Value.cells]) T.vF.size (bO w _) rfl (kN kind lo hi nul tag df of (oQ LE)) (wpList_nil ?_)
   obtain⟨IV,JA⟩:=Pd
   generalize(w.alloc (.cells (Value.agg #[.int .i64 0,.int .i64 0,.int .i64 0,.int .i64 0,.int .i64 0,.int .i64 0,.int .i64 0,bR]).cells S.tF (0,0))).setRow w.heap.size (bW kind lo hi nul tag df of sv).toArray=w2 at IV JA ⊢
   have hg:W.heap.size<=w.heap.size:=hk.size
   have JW:bS w2 W.heap.size S.tU8 v bs:=hd.keep IV λ_ _ h=>h
   have NM:=hk.kn IV
   have M0:∀ j,v.ownBlock=some j->j<w.heap.size:=λj hj=>(hd.own hj).2
   have h:St 132 a [(0,fv),(1,.int .i64 ver),(2,.bool true),(7,pt B 0),(9,v9),(10,v),(11,.int .i64 (n:Int)),(14,.int .i64 (q:Int)),(15,.int .i64 (i:Int)),(16,pt w.heap.size 0),(51,x51),(52,x52),(55,fv),(56,.int .i64 (sf.len:Int)),(57,.int .i64 (i:Int))]:=h.pick ⟨rfl,rfl,rfl,rfl,rfl,rfl,rfl,rfl,rfl,rfl,rfl,rfl,rfl,rfl,rfl,trivial⟩
   clear hd hk h'
   have NA:(sTgd ver true (.cons kind lo hi nul tag df of sub r) i t).filter (λp=>p.1==q)=(if tag=(q:Int)/\ct kind nul df (λt=>dR sub 0 t&&(eV (bH sub) t.tags).isEmpty) (t.at i)=false then[(q,fQ kind nul of ver true (bU ver true sub) (t.at i))] else[])++(sTgd ver true r (i+1) t).filter λp=>p.1==q:=by
    simp only[sTgd,List.filter_append]
    rw[As]
    rfl
   rw[NA]at Ji Jg
   have step:∀ (a:Act) (w3:World) (v3:Value) (bs3:Bs) (n3:Nat) (KK:Exit->Act->World->Prop),St 132 a [(0,fv),(1,.int .i64 ver),(2,.bool true),(7,pt B 0),(9,v9),(10,v3),(11,.int .i64 (n3:Int)),(14,.int .i64 (q:Int)),(51,x51),(52,x52),(55,fv),(56,.int .i64 (sf.len:Int)),(57,.int .i64 (i:Int))]->bS w3 W.heap.size S.tU8 v3 bs3->dW W w3 ->
     bs3++dh ((sTgd ver true r (i+1) t).filter λp=>p.1==q)=total->n3+((sTgd ver true r (i+1) t).filter λp=>p.1==q).length=nt->n3<=bs3.length ->
     cf P (rg (s4 S)) (Exit.then (λa' w'=>∃ m',m'<=sf.len/\m'<m/\∃ (i:Nat) (rest:SFs) (v:Value) (bs:Bs) (n:Nat),i+m'=sf.len/\rest.len=m'/\qv P S rest/\Cu P S rest/\bs++dh ((sTgd ver true rest i t).filter λp=>p.1==q)=total/\n+((sTgd ver true rest i t).filter λp=>p.1==q).length=nt/\n<=bs.length/\bS w' W.heap.size S.tU8 v bs/\dW W w'/\(∀ b o,base=some ⟨b,o,none⟩->jn W sf b o->jn W rest b (o+i*8)) /\
      St 132 a' [(0,fv),(1,.int .i64 ver),(2,.bool true),(7,pt B 0),(9,v9),(10,v),(11,.int .i64 (n:Int)),(14,.int .i64 (q:Int)),(51,x51),(52,x52),(55,fv),(56,.int .i64 (sf.len:Int)),(57,.int .i64 (i:Int))]) KK) a w3:=by
    intro a w3 v3 bs3 n3 KK h Kp IZ OO W1 W6
    refine cq (e7 h (.t rfl) .i ab (eL w3) aa λa h=>?_)
    have hw:IntKind.i64.wrap ((i:Int)+1)=((i+1:Nat):Int):=by simp[IntKind.wrap,IntKind.bits,IntKind.signed];omega
    rw[hw]at h
    refine b9 h (.t rfl) aa λa h=>wpList_nil ?_
    refine⟨m-1,by omega,by omega,i+1,r,v3,bs3,n3,by omega,by simp only[SFs.len]at M4;omega,KG.2,Y9.2,OO,W1,W6,Kp,IZ,λb' o' hbo hh=>?_,h.pick ⟨rfl,rfl,rfl,rfl,rfl,rfl,rfl,rfl,rfl,rfl,rfl,rfl,rfl,trivial⟩⟩
    have:=(JD b' o' hbo hh).2
    rw[show o'+(i+1)*8=o'+i*8+8 by omega]
    exact this
   obtain⟨csd,htd,XE⟩:=K.atD k i cs t w2 (ht.far NM)
   have Rg:=λw' (hC:br (λ_=>False) w2 w')=>Y9.1 w' kind lo hi nul tag df of sv k csd (t.at i) (MA.far (NM.kn hC)) (htd.far (dW.of hC))
   have test:∀ (KK:Exit->Act->World->Prop),(∀ a' w',St 132 a' [(73,.bool (decide (tag=(q:Int)/\ct kind nul df (λt=>dR sub 0 t&&(eV (bH sub) t.tags).isEmpty) (t.at i)=false))),(0,fv),(1,.int .i64 ver),(2,.bool true),(7,pt B 0),(9,v9),(10,v),(11,.int .i64 (n:Int)),(14,.int .i64 (q:Int)),(15,.int .i64 (i:Int)),(16,pt w.heap.size 0),(51,x51),(52,x52),(55,fv),(56,.int .i64 (sf.len:Int)),(57,.int .i64 (i:Int))]->br (λ_=>False) w2 w'->KK .normal a' w')->cf P (.region 2 (s5 S).toArray true) KK a w2:=by
    intro KK N9
    generalize ct kind nul df (λt=>dR sub 0 t&&(eV (bH sub) t.tags).isEmpty) (t.at i)=bu at Rg N9
    refine .drq (λw'=>br (λ_=>False) w2 w') (br.drew _ _) ?_
    refine eq h (λw' hC=>nZ h (.t rfl) T.f4) aa λa h=>eq h (λw' hC=>kl h (.t rfl) T.f4.var ((bB.kn hC JA).at (j:=4) rfl)) aa λa h=>eq h (λw' hC=>eb h (.t rfl)) aa λa h=>?_
    refine eq h (λw' hC=>m4 h rfl (.t rfl) (.t rfl)) aa λa h=>eq h (λw' hC=>eb h (.t rfl)) aa λa h=>?_
    cases PJ:cg .eql tag (q:Int) with
    | false=>
     rw[PJ]at h
     refine dl h rfl rfl rfl rfl rfl aa ab aa λa h=>dl h rfl rfl rfl rfl rfl aa ab aa λa h=>dl h rfl rfl rfl rfl rfl aa ab aa λa h=>?_
     refine dl h rfl rfl rfl rfl rfl aa ab aa λa h=>dl h rfl rfl rfl rfl rfl aa ab aa λa h=>dl h rfl rfl rfl rfl rfl aa ab aa λa h=>?_
     refine eq h (λw' hC=>jt h (.t rfl) (.t rfl) .c) aa λa h=>lp λw' hC=>N9 _ _ ?_ hC
     have KH:¬ (tag=(q:Int)/\bu=false):=λhh=>by simp[cg,hh.1]at PJ
     rw[decide_eq_false KH]
     exact h.pick ⟨rfl,rfl,rfl,rfl,rfl,rfl,rfl,rfl,rfl,rfl,rfl,rfl,rfl,rfl,rfl,rfl,trivial⟩
    | true=>
     rw[PJ]at h
     have heq:tag=(q:Int):=by simpa[cg]using PJ
     refine fE h rfl rfl rfl aa (v:=.agg (bW kind lo hi nul tag df of sv).toArray) (λw' hC=>ur h (.t rfl) T.vF (bB.kn hC JA)) aa λa h=>fE h rfl rfl rfl aa (v:=.agg cs.toArray) (λw' hC=>ur h (.t rfl) (by rw[Lt];exact T.vT) (dW.cells (NM.kn hC) hB)) aa λa h=>fE h rfl rfl rfl aa (λw' hC=>eb h (.t rfl)) aa λa h=>?_
     have h:=h.pick (m:=[(0,fv),(1,.int .i64 ver),(2,.bool true),(7,pt B 0),(9,v9),(10,v),(11,.int .i64 (n:Int)),(14,.int .i64 (q:Int)),(15,.int .i64 (i:Int)),(16,pt w.heap.size 0),(51,x51),(52,x52),(55,fv),(56,.int .i64 (sf.len:Int)),(57,.int .i64 (i:Int)),(66,.bool true),(67,.agg (bW kind lo hi nul tag df of sv).toArray),(68,.agg cs.toArray),(69,.int .i64 (i:Int))]) ⟨rfl,rfl,rfl,rfl,rfl,rfl,rfl,rfl,rfl,rfl,rfl,rfl,rfl,rfl,rfl,rfl,rfl,rfl,rfl,trivial⟩
     generalize hFv:Value.agg (bW kind lo hi nul tag df of sv).toArray=vF at h Rg
     refine ud h rfl rfl rfl aa C.atE (args:=[(tm 68),(tm 69)]) (vs:=[.agg cs.toArray,.int .i64 (i:Int)]) (v:=.agg csd.toArray) (λn a h=>by
      simp only[List.map_cons,List.map_nil]
      rw[Hd.t (l:=_) (i:=68) rfl n a h,Hd.t (l:=_) (i:=69) rfl n a h]) (λw' hC=>(XE w' hC).mono λe w'' hR=>⟨hR.1,hC.trans hR.2⟩) aa λa h=>?_
     refine ud h rfl rfl rfl aa K.usE (args:=[(tm 67),(tm 70)]) (vs:=[vF,.agg csd.toArray]) (v:=.bool bu) (λn a h=>by
      simp only[List.map_cons,List.map_nil]
      rw[Hd.t (l:=_) (i:=67) rfl n a h,Hd.t (l:=_) (i:=70) rfl n a h]) (λw' hC=>(Rg w' hC).mono λe w'' hR=>⟨hR.1,hC.trans hR.2⟩) aa λa h=>?_
     refine fE h rfl rfl rfl aa (v:=.bool !bu) (λw' hC=>by
      have e:=Hd.t (l:=_) (i:=71) (v:=.bool bu) rfl _ a h
      simp[execOp,mk,e,Op.unary]) aa λa h=>?_
     refine eq h (λw' hC=>jt h (.t rfl) (.t rfl) .c) aa λa h=>lp λw' hC=>N9 _ _ ?_ hC
     have JH:decide (tag=(q:Int)/\bu=false)=!bu:=by cases bu<;>simp[heq]
     rw[JH]
     exact h.pick ⟨rfl,rfl,rfl,rfl,rfl,rfl,rfl,rfl,rfl,rfl,rfl,rfl,rfl,rfl,rfl,rfl,trivial⟩
   refine bI (test _ λa w3 h IZ=>?_)
   have Kp:=JW.keep IZ λ_ _ h=>h
   have Nf:=NM.kn IZ
   have MV:=bB.kn IZ JA
   have JI:w.heap.size<=w3.heap.size:=am IV.size IZ.size
   refine cA h rfl (λhT=>?_) (λhF=>.skip ?_)
   ·have J5:=of_decide_eq_true hT
    rw[ax J5]at Ji Jg
    simp only[List.singleton_append,List.length_cons]at Jg
    have e1:dh ([(q,fQ kind nul of ver true (bU ver true sub) (t.at i))]++(sTgd ver true r (i+1) t).filter λp=>p.1==q)=jT (q,fQ kind nul of ver true (bU ver true sub) (t.at i))++dh ((sTgd ver true r (i+1) t).filter λp=>p.1==q):=by simp[dh]
    rw[e1]at Ji
    generalize KN:fQ kind nul of ver true (bU ver true sub) (t.at i)=bb at Ji
    have Nu:bs.length+((uvar q).length+((uvar bb.length).length+bb.length))<=fq:=by
     have:=congrArg List.length Ji
     simp only[ad,jT]at this
     omega
    refine bI (uF [false,false,false,false,false,true,true,true] (λw'=>br (λ_=>False) w3 w') (by kernel_rfl) ?_)
    show iR P _ [mk (some 74) (.load S.tF (tm 16)),mk (some 75) (.move (tm 1)),mk (some 76) (.move (tm 2)),mk (some 77) (.load S.tT (tm 7)),mk (some 78) (.move (tm 15))] a
     λaf=>gF P _ _ [cl (some 79) S.fAt [(tm 77),(tm 78)],cl (some 80) S.fField [(tm 74),(tm 75),(tm 76),(tm 79)],mk (some 17) (.assign (tm 80))] af w3.drew
    refine iz h (cs:=bW kind lo hi nul tag df of sv) (.t rfl) T.vF (λw' hI=>bB.kn hI MV) aa λa h=>eQ h (.t rfl) aa λa h=>eQ h (.t rfl) aa λa h=>iz h (cs:=cs) (.t rfl) (by rw[Lt];exact T.vT) (λw' hI=>dW.cells (Nf.kn hI) hB) aa λa h=>eQ h (.t rfl) aa λa h=>lw ?_
    have LH:br (λ_=>False) w3 w3.drew:=br.drew _ _
    have Nw:=h.pick (m:=[(0,fv),(1,.int .i64 ver),(2,.bool true),(7,pt B 0),(9,v9),(10,v),(11,.int .i64 (n:Int)),(14,.int .i64 (q:Int)),(51,x51),(52,x52),(55,fv),(56,.int .i64 (sf.len:Int)),(57,.int .i64 (i:Int)),(74,.agg (bW kind lo hi nul tag df of sv).toArray),(75,.int .i64 ver),(76,.bool true),(77,.agg cs.toArray),(78,.int .i64 (i:Int))]) ⟨rfl,rfl,rfl,rfl,rfl,rfl,rfl,rfl,rfl,rfl,rfl,rfl,rfl,rfl,rfl,rfl,rfl,rfl,trivial⟩
    generalize hFv:Value.agg (bW kind lo hi nul tag df of sv).toArray=vF at Nw
    refine eC Nw LH C.atE (vs:=[.agg cs.toArray,.int .i64 (i:Int)]) (λn a h=>by
     simp only[List.map_cons,List.map_nil]
     rw[Hd.t (l:=_) (i:=77) rfl n a h,Hd.t (l:=_) (i:=78) rfl n a h]) (C.atC k i cs t w3.drew (ht.far (Nf.kn LH))) aa λe w4 hR4=>?_
    obtain⟨cs4,rfl,PY,Jm⟩:=hR4
    have KL:=LH.trans Jm
    have Kf:=KG.1 w4 kind lo hi nul tag df of sv ver true k cs4 (t.at i) (MA.far (Nf.kn KL)) (PY.far (dW.of Jm)) (by rw[KN];omega)
    rw[hFv,KN]at Kf
    refine⟨_,rfl,λa h=>eC h KL QU (vs:=[vF,.int .i64 ver,.bool true,.agg cs4.toArray]) (λn a h=>by
     simp only[List.map_cons,List.map_nil]
     rw[Hd.t (l:=_) (i:=74) rfl n a h,Hd.t (l:=_) (i:=75) rfl n a h,Hd.t (l:=_) (i:=76) rfl n a h,Hd.t (l:=_) (i:=79) rfl n a h]) Kf aa λe w5 hR5=>?_⟩
    obtain⟨u,rfl,hu,JZ⟩:=hR5
    have Kw:=KL.trans JZ
    refine⟨u,rfl,λa h=>iM h Kw (.t rfl) aa λa h=>lq Kw ?_⟩
    have N7:bS w5 W.heap.size S.tU8 v bs:=Kp.keep Kw λ_ _ h=>h
    have QI:=Nf.kn Kw
    have Wd:w3.heap.size<=w4.heap.size:=KL.size
    have h:=h.pick (m:=[(0,fv),(1,.int .i64 ver),(2,.bool true),(7,pt B 0),(9,v9),(10,v),(11,.int .i64 (n:Int)),(14,.int .i64 (q:Int)),(17,u),(51,x51),(52,x52),(55,fv),(56,.int .i64 (sf.len:Int)),(57,.int .i64 (i:Int))]) ⟨rfl,rfl,rfl,rfl,rfl,rfl,rfl,rfl,rfl,rfl,rfl,rfl,rfl,rfl,trivial⟩
    show cf P _ _ a w5
    obtain⟨bx,cx,Me,_⟩:=hu.form
    refine bI (cq (b9 h (.t rfl) aa λa h=>b9 h (.t rfl) aa λa h=>gV h (.t rfl) T.dInt T.dU64 aa λa h=>?_))
    have LS:IntKind.u64.wrap (q:Int)=(q:Int):=by simp[IntKind.wrap,IntKind.bits,IntKind.signed];omega
    rw[LS]at h
    refine cX h C.uvE (vs:=[.int .u64 (q:Int)]) (λn a h=>by simp only[List.map_cons,List.map_nil];rw[Hd.t (l:=_) (i:=83) rfl n a h]) (C.uvC q w5 aa) aa λe w6 hR6=>?_
    obtain⟨u1,rfl,Nj,Lu⟩:=hR6
    have RX:=QI.kn Lu
    have Qs:bS w6 W.heap.size S.tU8 v bs:=N7.keep Lu λ_ _ h=>h
    have Rf:bS w6 w4.heap.size S.tU8 u bb:=hu.keep Lu λ_ _ h=>h
    refine⟨u1,rfl,λa h=>j5 h T.oct (.t rfl) (.t rfl) Qs (iy T.oct Nj) RX.size aa aa λv7 w7 a hg7 h=>?_⟩
    have RW:=RX.up hg7.keeps λj hj=>(Qs.own hj).1
    have VI:bS w7 w4.heap.size S.tU8 u bb:=Rf.keep hg7.keeps λj hj hX=>by
     have h1:=(Rf.own hj).1
     have h2:=M0 j hX
     omega
    refine b9 h (.t rfl) aa λa h=>?_
    have h':=h
    rw[Me]at h'
    refine dP h' (.t rfl) T.oct.und aa λa h=>gV h (.t rfl) T.dInt T.dU64 aa λa h=>?_
    rw[<- Me]at h
    have U4:bb.length<18446744073709551616:=by
     have:bb.length<=fq:=by omega
     simp only[fq]at this
     omega
    have KV:IntKind.u64.wrap (bb.length:Int)=(bb.length:Int):=by
     have:bb.length<=fq:=by omega
     simp only[fq]at this
     simp[IntKind.wrap,IntKind.bits,IntKind.signed];omega
    rw[KV]at h
    refine cX h C.uvE (vs:=[.int .u64 (bb.length:Int)]) (λn a h=>by simp only[List.map_cons,List.map_nil];rw[Hd.t (l:=_) (i:=88) rfl n a h]) (C.uvC bb.length w7 U4) aa λe w8 hR8=>?_
    obtain⟨u2,rfl,PX,Pj⟩:=hR8
    have RV:=RW.kn Pj
    have Us:bS w8 W.heap.size S.tU8 v7 (bs++uvar q):=hg7.dst.keep Pj λ_ _ h=>h
    have VH:bS w8 w4.heap.size S.tU8 u bb:=VI.keep Pj λ_ _ h=>h
    have XI:∀ j,v7.ownBlock=some j->v.ownBlock=some j \/ w6.heap.size<=j:=λj hj=>hg7.own j hj
    refine⟨u2,rfl,λa h=>j5 h T.oct (.t rfl) (.t rfl) Us (iy T.oct PX) RV.size (by rw[ad];omega) aa λv9' w9 a hg9 h=>?_⟩
    have Ui:=RV.up hg9.keeps λj hj=>(Us.own hj).1
    have VG:bS w9 w4.heap.size S.tU8 u bb:=VH.keep hg9.keeps λj hj hX=>by
     have h1:=(Rf.own hj)
     rcases XI j hX with h2|h2
     ·have:=M0 j h2;omega
     ·omega
    refine b9 h (.t rfl) aa λa h=>j5 h T.oct (.t rfl) (.t rfl) hg9.dst (iy T.oct VG) Ui.size (by rw[ad,ad];omega) aa λv10 w10 a hg10 h=>b5 h (.t rfl) aa λa h=>wpList_nil ?_
    have RY:=Ui.up hg10.keeps λj hj=>(hg9.dst.own hj).1
    have Kj:n+1<=bs.length+(uvar q).length:=by have:=fg q;omega
    have hwn:IntKind.i64.wrap ((n:Int)+1)=((n+1:Nat):Int):=by
     have:n+1<=fq:=by omega
     simp only[fq]at this
     simp[IntKind.wrap,IntKind.bits,IntKind.signed];omega
    show cf P _ _ a w10
    refine cq (b9 h (.t rfl) aa λa h=>e7 h (.t rfl) .i ab (eL w10) aa λa h=>?_)
    rw[hwn]at h
    refine b5 h (.t rfl) aa λa h=>wpList_nil ?_
    refine step a w10 v10 (bs++uvar q++uvar bb.length++bb) (n+1) _ (h.pick ⟨rfl,rfl,rfl,rfl,rfl,rfl,rfl,rfl,rfl,rfl,rfl,rfl,rfl,trivial⟩) hg10.dst RY ?_ aa (by simp only[ad];omega)
    rw[<- Ji]
    simp[jT]
   ·have Ki:=of_decide_eq_false hF
    rw[al Ki,aF]at Ji Jg
    exact step a w3 v bs n _ (h.pick ⟨rfl,rfl,rfl,rfl,rfl,rfl,rfl,rfl,rfl,rfl,rfl,rfl,rfl,trivial⟩) Kp Nf Ji Jg JB
 ·have JN:¬ i<sf.len:=by simp[cg]at hb;omega
  have M1:rest=.nil:=by
   cases rest with
   | nil=>rfl
   | cons=>simp only[SFs.len]at M4;omega
  subst M1
  simp only[sTgd,List.filter_nil,dh,List.map_nil,List.flatten_nil,aL,List.length_nil,Nat.add_zero]at Ji Jg
  subst Ji Jg
  exact .exit (hR a w v (h.pick ⟨rfl,rfl,rfl,rfl,rfl,rfl,rfl,rfl,rfl,trivial⟩) hd hk JB)
theorem AN (C:LeafC P S)(K:KtC P S)(QU:Ent P S.fField){W:World}{sf:SFs}{fv v9:Value}{ver:Int}{k B:Nat}{cs:List Value}{t:Tr}(J9:ge W sf fv)(ht:TrRp W k cs t)(hB:bB W B 0 cs)(JY:qv P S sf)(LD:Cu P S sf)(Nd:bH sf<=1000)
  (hlim:(dh (eY (bH sf) (sTgd ver true sf 0 t))).length<=fq) {a:Act}
  (h:St 132 a [(0,fv),(1,.int .i64 ver),(2,.bool true),(7,pt B 0),(9,v9),(10,bR),(11,.int .i64 0),(51,.int .i64 (bH sf:Int)),(52,.int .i64 0)]) {R:Exit->Act->World->Prop}
  (hR:∀ (a':Act) (w':World) (v:Value),St 132 a' [(0,fv),(7,pt B 0),(9,v9),(10,v),(11,.int .i64 ((eY (bH sf) (sTgd ver true sf 0 t)).length:Int))]->bS w' W.heap.size S.tU8 v (dh (eY (bH sf) (sTgd ver true sf 0 t)))->dW W w'->(eY (bH sf) (sTgd ver true sf 0 t)).length<=(dh (eY (bH sf) (sTgd ver true sf 0 t))).length->R .normal a' w') :
  cf P (.block 2 (.loop (.seq (rg (B0 S)) (.seq (.cond (tm 53) .skip (.exit 2)) (.seq (.block 3 (.seq (rg (Bz S)) (.seq (rg (wx S)) (.block 4 (.loop (.seq (rg (wv S)) (.seq (.cond (tm 58) .skip (.exit 4)) (.seq (.block 5 (.seq (rg (wu S)) (.seq (.region 2 (s5 S).toArray true) (.cond (tm 73) (.seq (.region 1 (ws S).toArray true) (.seq (rg (wq S)) (rg (wo S)))) .skip)))) (rg (s4 S)))))))))) (rg (By S))))))) R a W:=by
 have T:=C.tab
 generalize hl:sTgd ver true sf 0 t=l at hR hlim
 refine fY (λm a' w'=>∃ (q:Nat) (v:Value) (bs:Bs) (n:Nat),q+m=bH sf/\bs++dh (((List.range (bH sf)).drop q).flatMap λk=>l.filter λp=>p.1==k)=dh (eY (bH sf) l)/\n+(((List.range (bH sf)).drop q).flatMap λk=>l.filter λp=>p.1==k).length=(eY (bH sf) l).length/\n<=bs.length/\bS w' W.heap.size S.tU8 v bs/\dW W w' /\
   St 132 a' [(0,fv),(1,.int .i64 ver),(2,.bool true),(7,pt B 0),(9,v9),(10,v),(11,.int .i64 (n:Int)),(51,.int .i64 (bH sf:Int)),(52,.int .i64 (q:Int))]) (bH sf)
  ⟨bH sf,ae _,0,bR,[],0,by omega,by simp[eY],by simp[eY],by simp,bS.nil _ _ _,dW.refl W,h⟩ ?_
 rintro m a w hm ⟨q,v,bs,n,hqm,Ji,Jg,JB,hd,hk,h⟩
 refine bI (cq (cy h rfl (.t rfl) (.t rfl) aa λa h=>wpList_nil ?_))
 refine iU h rfl (λhb=>?_) (λhb=>?_)
 ·have IU:q<bH sf:=by simp[cg]at hb;omega
  have hdr:(List.range (bH sf)).drop q=q::(List.range (bH sf)).drop (q+1):=by
   rw[aZ (by rw[List.length_range];exact IU),List.getElem_range]
  rw[hdr,List.flatMap_cons]at Ji Jg
  rw[ad]at Jg
  have e1:∀ x y:List (Nat × Bs),dh (x++y)=dh x++dh y:=λx y=>by simp[dh]
  rw[e1,<- ao]at Ji
  refine .skip (bI (.block (bI (cq (b9 h (.t rfl) aa λa h=>b5 h (.t rfl) aa λa h=>wpList_nil ?_)))))
  have Ph:(bs++dh (l.filter λp=>p.1==q)).length<=fq:=by
   have:=congrArg List.length Ji
   rw[ad]at this
   omega
  refine AM C K QU (q:=q) (x51:=.int .i64 (bH sf:Int)) (x52:=.int .i64 (q:Int)) (v9:=v9) (ver:=ver) (total:=bs++dh (l.filter λp=>p.1==q)) (nt:=n+(l.filter λp=>p.1==q).length) J9 ht hB JY LD aa Ph hd hk (by rw[hl]) (by rw[hl]) JB (h.pick ⟨rfl,rfl,rfl,rfl,rfl,rfl,rfl,rfl,rfl,rfl,trivial⟩) λa w2 v2 h JW IV J8=>?_
  refine cq (e7 h (.t rfl) .i ab (eL w2) aa λa h=>?_)
  have hw:IntKind.i64.wrap ((q:Int)+1)=((q+1:Nat):Int):=by simp[IntKind.wrap,IntKind.bits,IntKind.signed];omega
  rw[hw]at h
  refine b9 h (.t rfl) aa λa h=>wpList_nil ?_
  exact⟨m-1,by omega,by omega,q+1,v2,_,_,by omega,Ji,by omega,J8,JW,IV,h.pick ⟨rfl,rfl,rfl,rfl,rfl,rfl,rfl,rfl,rfl,trivial⟩⟩
 ·have JN:¬ q<bH sf:=by simp[cg]at hb;omega
  rw[bo (by rw[List.length_range];omega)]at Ji Jg
  simp only[List.flatMap_nil,dh,List.map_nil,List.flatten_nil,aL,List.length_nil,Nat.add_zero]at Ji Jg
  have Ji:bs=dh (eY (bH sf) l):=Ji
  subst Ji Jg
  exact .exit (hR a w v (h.pick ⟨rfl,rfl,rfl,rfl,rfl,trivial⟩) hd hk JB)
end
end
section
open Go
set_option maxRecDepth 4000
def fP (e:oM):Bs:=jT (e.k.toNat,e.b.take bX)
section
variable {P:Program} {S:SN}
theorem yU (C:LeafC P S)(K:KtC P S){W W5:World}{L6:Nat}{ux v9 v0:Value}{es:List oM}{bs0:Bs}{n0:Nat}(LZ:dX W5 L6 S.tG ux es)(LP:∀ e∈es,kR W e.v e.b)(Qq:es.length<=bX)(KF:bS W5 W.heap.size S.tU8 v0 bs0)(JM:dW W W5)(Mt:n0<=bs0.length)
  {total:Bs} (hlim:total.length<=fq) (OP:bs0++(es.map fP).flatten=total) {a:Act}
  (h:St 132 a [(9,v9),(10,v0),(11,.int .i64 (n0:Int)),(100,ux),(101,.int .i64 (es.length:Int)),(102,.int .i64 0)]) {R:Exit->Act->World->Prop}
  (hR:∀ (a':Act) (w':World) (v:Value),St 132 a' [(9,v9),(10,v),(11,.int .i64 ((n0+es.length:Nat):Int))]->bS w' W.heap.size S.tU8 v total->dW W w'->R .normal a' w') :
  cf P (.block 6 (.loop (.seq (rg (Bw S)) (.seq (.cond (tm 103) .skip (.exit 6)) (.seq (.block 7 (.seq (rg (Bv S)) (.seq (rg (Bu S)) (.seq (rg (Bt S)) (rg (Br S)))))) (rg (Bq S))))))) R a W5:=by
 have T:=C.tab
 have NS:∀ {w:World} {v:Value} {bs:Bs},bS w W.heap.size S.tU8 v bs->dX w L6 S.tG ux es->∀ j,ux.ownBlock=some j->¬ v.ownBlock=some j:=by
  intro w v bs hd ho j hj hv
  rcases hd with⟨rfl,_⟩|⟨g,c,cur,rfl,_,hg,_⟩
  ·cases hv
  rcases ho with⟨rfl,_⟩|⟨g',c',cur',rfl,_,Jn,_⟩
  ·cases hj
  obtain rfl:g=j:=au hv
  obtain rfl:g'=g:=au hj
  rw[hg]at Jn
  simp only[aM,Obj.cells.injEq]at Jn
  exact K.tGU Jn.2.1.symm
 refine fY (λm a' w'=>∃ (i:Nat) (v:Value) (bs:Bs),i+m=es.length/\bs++((es.drop i).map fP).flatten=total/\n0+i<=bs.length/\bS w' W.heap.size S.tU8 v bs/\dW W w'/\dX w' L6 S.tG ux es /\
   St 132 a' [(9,v9),(10,v),(11,.int .i64 ((n0+i:Nat):Int)),(100,ux),(101,.int .i64 (es.length:Int)),(102,.int .i64 (i:Int))]) es.length
  ⟨es.length,ae _,0,v0,bs0,by omega,by simpa using OP,by omega,KF,JM,LZ,h⟩ ?_
 rintro m a w hm ⟨i,v,bs,Ou,Ji,S3,hd,hk,ho,h⟩
 simp only[bX]at Qq
 refine bI (cq (cy h rfl (.t rfl) (.t rfl) aa λa h=>wpList_nil ?_))
 refine iU h rfl (λhb=>?_) (λhb=>?_)
 ·have IU:i<es.length:=by simp[cg]at hb;omega
  obtain⟨x,hx⟩:∃ x,es[i]?=some x:=⟨_,aq IU⟩
  obtain⟨g,c,hv,_,Js⟩:=ho.get hx
  have LT:kR W x.v x.b:=LP x (bc hx)
  have Mm:((es.drop i).map fP).flatten=fP x++((es.drop (i+1)).map fP).flatten:=by
   rw[aZ IU,(ah.1 hx).2]
   simp
  rw[Mm]at Ji
  refine .skip (bI (.block (bI (cq ?_))))
  have h':=h
  rw[hv]at h'
  refine fw h' (sz:=2) (.t rfl) (.t rfl) IU T.dGs T.vG.size aa λa h=>dK h (cs:=[.int .u32 (x.k.toNat:Int),x.v]) (.t rfl) T.vG Js aa λa h=>?_
  rw[<- hv]at h
  have Jv:∀ u∈[Value.int .u32 (x.k.toNat:Int),x.v],u.oneCell'=true:=by
   obtain⟨_,_,e,_⟩:=LT.form
   intro u hu
   simp only[aI,bd,or_false]at hu
   rcases hu with rfl|rfl
   ·rfl
   ·rw[e];rfl
  refine nW h (cs:=[.int .u32 (x.k.toNat:Int),x.v]) T.zG rfl (λ_=>.t rfl) T.vG.size Jv aa λw2 a IV JA h=>wpList_nil ?_
  have NM:=hk.kn IV
  have JW:bS w2 W.heap.size S.tU8 v bs:=hd.keep IV λ_ _ h=>h
  have Qi:dX w2 L6 S.tG ux es:=ho.keep IV λ_ _ h=>h
  have M0:∀ j,v.ownBlock=some j->j<w.heap.size:=λj hj=>(hd.own hj).2
  refine bI (cq (cH h (.t rfl) T.g1 aa λa h=>ce h (.t rfl) T.g1.var (JA.at (j:=1) rfl) aa λa h=>?_))
  refine cX h C.whE (vs:=[x.v]) (λn a h=>by simp only[List.map_cons,List.map_nil];rw[Hd.t (l:=_) (i:=107) rfl n a h]) (C.whC w2 (λk=>W.heap.size<=k) x.v x.b ((LT.mono λk hk hX=>by omega).keep NM)) aa λe w3 hR3=>?_
  obtain⟨v20,rfl,ST,rfl⟩:=hR3
  obtain⟨bx,cx,Me,_⟩:=ST.form
  have T5:=ii x.b
  have IP:(fP x).length=(uvar x.k.toNat).length+((uvar (x.b.take bX).length).length+(x.b.take bX).length):=by simp[fP,jT]
  have NC:bs.length+(fP x).length<=fq:=by
   have:=congrArg List.length Ji
   simp only[ad]at this
   omega
  refine⟨v20,rfl,λa h=>b5 h (.t rfl) aa λa h=>wpList_nil ?_⟩
  have h:=h.pick (m:=[(9,v9),(10,v),(11,.int .i64 ((n0+i:Nat):Int)),(19,pt w.heap.size 0),(20,v20),(100,ux),(101,.int .i64 (es.length:Int)),(102,.int .i64 (i:Int))]) ⟨rfl,rfl,rfl,rfl,rfl,rfl,rfl,rfl,trivial⟩
  refine bI (cq (b9 h (.t rfl) aa λa h=>cH h (.t rfl) T.g0 aa λa h=>ce h (.t rfl) T.g0.var (JA.at (j:=0) rfl) aa λa h=>gV h (.t rfl) T.dU32 T.dU64 aa λa h=>?_))
  have hx32:=x.k.toNat_lt
  have LS:IntKind.u64.wrap (x.k.toNat:Int)=(x.k.toNat:Int):=by simp[IntKind.wrap,IntKind.bits,IntKind.signed];omega
  rw[LS]at h
  refine cX h C.uvE (vs:=[.int .u64 (x.k.toNat:Int)]) (λn a h=>by simp only[List.map_cons,List.map_nil];rw[Hd.t (l:=_) (i:=112) rfl n a h]) (C.uvC x.k.toNat w3 aa) aa λe w4 hR4=>?_
  obtain⟨u1,rfl,Nj,Jm⟩:=hR4
  have Ny:=NM.kn Jm
  have N8:bS w4 W.heap.size S.tU8 v bs:=JW.keep Jm λ_ _ h=>h
  have Tu:=Qi.keep Jm λ_ _ h=>h
  refine⟨u1,rfl,λa h=>j5 h T.oct (.t rfl) (.t rfl) N8 (iy T.oct Nj) Ny.size aa aa λv5 w5 a Lj h=>?_⟩
  have QI:=Ny.up Lj.keeps λj hj=>(N8.own hj).1
  have Wy:=Tu.keep Lj.keeps (NS N8 Tu)
  refine b9 h (.t rfl) aa λa h=>?_
  have h':=h
  rw[Me]at h'
  refine dP h' (.t rfl) T.oct.und aa λa h=>gV h (.t rfl) T.dInt T.dU64 aa λa h=>?_
  rw[<- Me]at h
  have KV:IntKind.u64.wrap ((x.b.take bX).length:Int)=((x.b.take bX).length:Int):=by simp only[bX]at T5;simp[IntKind.wrap,IntKind.bits,IntKind.signed,-List.length_take];simp only[bX];omega
  rw[KV]at h
  refine cX h C.uvE (vs:=[.int .u64 ((x.b.take bX).length:Int)]) (λn a h=>by simp only[List.map_cons,List.map_nil];rw[Hd.t (l:=_) (i:=117) rfl n a h]) (C.uvC (x.b.take bX).length w5 (by simp only[bX]at T5 ⊢;omega)) aa λe w6 hR6=>?_
  obtain⟨u2,rfl,PX,Lu⟩:=hR6
  have RX:=QI.kn Lu
  have Qs:bS w6 W.heap.size S.tU8 v5 (bs++uvar x.k.toNat):=Lj.dst.keep Lu λ_ _ h=>h
  have Tt:=Wy.keep Lu λ_ _ h=>h
  refine⟨u2,rfl,λa h=>j5 h T.oct (.t rfl) (.t rfl) Qs (iy T.oct PX) RX.size (by rw[ad];omega) aa λv7 w7 a hg7 h=>?_⟩
  have RW:=RX.up hg7.keeps λj hj=>(Qs.own hj).1
  have YD:=Tt.keep hg7.keeps (NS Qs Tt)
  have hv7:r4 w7 (λk=>W.heap.size<=k) v20 (x.b.take bX):=
   (((ST.keep (Jm.mono λ_ _ h=>h.elim)).keep (Lj.keeps.mono λj _ hj=>(N8.own hj).1)).keep (Lu.mono λ_ _ h=>h.elim)).keep (hg7.keeps.mono λj _ hj=>(Qs.own hj).1)
  refine b9 h (.t rfl) aa λa h=>j5 h T.oct (.t rfl) (.t rfl) hg7.dst (vN T.oct hv7) RW.size (by rw[ad,ad];omega) aa λv8 w8 a Ow h=>b5 h (.t rfl) aa λa h=>wpList_nil ?_
  have RV:=RW.up Ow.keeps λj hj=>(hg7.dst.own hj).1
  have ho8:=YD.keep Ow.keeps (NS hg7.dst YD)
  have Kj:n0+i+1<=bs.length+(uvar x.k.toNat).length:=by have:=fg x.k.toNat;omega
  have Tz:IntKind.i64.wrap (((n0+i:Nat):Int)+1)=((n0+(i+1):Nat):Int):=by
   have:n0+i+1<=fq:=by omega
   simp only[fq]at this
   simp[IntKind.wrap,IntKind.bits,IntKind.signed];omega
  have hwi:IntKind.i64.wrap ((i:Int)+1)=((i+1:Nat):Int):=by simp[IntKind.wrap,IntKind.bits,IntKind.signed];omega
  refine cq (b9 h (.t rfl) aa λa h=>e7 h (.t rfl) .i ab (eL w8) aa λa h=>?_)
  rw[Tz]at h
  refine b5 h (.t rfl) aa λa h=>wpList_nil ?_
  refine cq (e7 h (.t rfl) .i ab (eL w8) aa λa h=>?_)
  rw[hwi]at h
  refine b9 h (.t rfl) aa λa h=>wpList_nil ?_
  refine⟨m-1,by omega,by omega,i+1,v8,bs++uvar x.k.toNat++uvar (x.b.take bX).length++x.b.take bX,by omega,?_,by simp only[ad];omega,Ow.dst,RV,ho8,h.pick ⟨rfl,rfl,rfl,rfl,rfl,rfl,trivial⟩⟩
  rw[<- Ji]
  simp[fP,jT]
 ·have JN:¬ i<es.length:=by simp[cg]at hb;omega
  rw[bo aa]at Ji
  simp only[List.map_nil,List.flatten_nil,aL]at Ji
  subst Ji
  have hi:i=es.length:=by omega
  subst hi
  exact .exit (hR a w v (h.pick ⟨rfl,rfl,rfl,trivial⟩) hd hk)
theorem rb (C:LeafC P S)(K:KtC P S)(hfn:FnIs P S.fPart 132 [8] (csPt S))(QU:Ent P S.fField){sf:SFs}(N4:fz sf=true)(JY:qv P S sf)(LD:Cu P S sf):r3 P S sf:=by
 intro W ver fx k cs t fv J9 ht hlim
 have T:=C.tab
 have S7:=nY sf N4
 have KQ:(ea ver fx sf 0 t).length<=fq:=by
  rw[bU,ad]at hlim
  omega
 refine fb T.mixed hfn ab _ ab λa h=>?_
 unfold csPt
 refine bI (cq (fy h (cs:=cs) (.t rfl) aa λa h=>?_))
 have Jd:br (λ_=>False) W (W.alloc (.cells cs.toArray S.tT (0,0))):=br.alloc _ _ _
 have hB:=dA W cs S.tT
 generalize W.alloc (.cells cs.toArray S.tT (0,0))=w1 at Jd hB ⊢
 have N6:dW W w1:=dW.of Jd
 refine b5 h .c aa λa h=>wpList_nil ?_
 refine bI (cq (b5 h .c aa λa h=>b5 h .c aa λa h=>wpList_nil ?_))
 refine bI (cq (b5 h .i aa λa h=>wpList_nil ?_))
 refine bI (AO C QU (J9.far N6) (ht.far N6) hB JY KQ (h.pick ⟨rfl,rfl,rfl,rfl,rfl,rfl,rfl,trivial⟩) λa w3 v h hd Nf=>?_)
 have NT:br (λ_=>False) W w3:=Jd.trans Nf.keeps
 refine bI (bI (cq (b9 h (.t rfl) aa λa h=>rR h (.t rfl) aa λa h=>wpList_nil ?_)))
 cases fx with
 | false=>
  refine cA h rfl (λ_=>?_) (λhb=>by cases hb)
  refine bI (cq (b9 h (.t rfl) aa λa h=>b5 h (.t rfl) aa λa h=>wpList_nil (.ret ?_)))
  have e:bU ver false sf t=ea ver false sf 0 t:=by
   rw[bU];simp[iY]
  rw[e]
  exact iH (RR:=de S.tU8 (ea ver false sf 0 t) W) h rfl ⟨v,rfl,(Gr.lower Jd.size (Gr.refl hd)).dst,NT⟩
 | true=>
  refine cA h rfl (λhb=>by cases hb) (λ_=>?_)
  refine .skip (bI (bI (cq (b9 h (.t rfl) aa λa h=>?_))))
  refine cX h C.knE (vs:=[fv]) (λn a h=>by simp only[List.map_cons,List.map_nil];rw[Hd.t (l:=_) (i:=49) rfl n a h]) (C.knC sf fv w3 N4 ((J9.far N6).far Nf)) aa λe w4 hR4=>?_
  obtain⟨rfl,Jm⟩:=hR4
  refine⟨_,rfl,λa h=>gV h (.t rfl) T.dU32 T.dInt aa λa h=>?_⟩
  have SM:IntKind.i64.wrap (bH sf:Int)=(bH sf:Int):=by simp[IntKind.wrap,IntKind.bits,IntKind.signed];omega
  rw[SM]at h
  refine b9 h .i aa λa h=>wpList_nil ?_
  have Ny:dW w1 w4:=Nf.kn Jm
  have PN:=Ny.cells hB
  have N8:bS w4 w1.heap.size S.tU8 v (ea ver true sf 0 t):=hd.keep Jm λ_ _ h=>h
  have Ue:=(J9.far N6).far Ny
  have PY:=(ht.far N6).far Ny
  have epart:bU ver true sf t=ea ver true sf 0 t++(uvar ((eY (bH sf) (sTgd ver true sf 0 t)).length+(eV (bH sf) t.tags).length)++(dh (eY (bH sf) (sTgd ver true sf 0 t))++dh ((eV (bH sf) t.tags).map λp=>(p.1,p.2.take bX)))):=by
   rw[bU];simp[iY]
  rw[epart]at hlim
  simp only[ad]at hlim
  refine AN C K QU (v9:=v) (ver:=ver) Ue PY PN JY LD S7 aa (h.pick ⟨rfl,rfl,rfl,rfl,rfl,rfl,rfl,rfl,rfl,trivial⟩) λa w5 v10 h hd10 QI JB=>?_
  generalize hN:(eY (bH sf) (sTgd ver true sf 0 t)).length=NK at hlim h JB epart
  generalize hS:dh (eY (bH sf) (sTgd ver true sf 0 t))=SK at hlim hd10 JB epart
  have Yc:=dW.cells QI PN
  obtain⟨uv,OJ,IS⟩:∃ uv,fi w5 2 (jh w4) uv t.raw/\w5.cell? ⟨W.heap.size,0+4,none⟩=some uv:=by
   cases k with
   | zero=>exact PY.elim
   | succ k=>
    obtain⟨sv,lv,uv,rfl,_,_,OJ⟩:=PY
    exact⟨uv,OJ.imp (λb o cs hc=>QI.cells hc) (λcs x hx=>hx),Yc.at (j:=4) rfl⟩
  refine bI (bI (cq (b9 h (.t rfl) aa λa h=>cH h (.t rfl) T.t4 aa λa h=>ce h (.t rfl) T.t4.var IS aa λa h=>?_)))
  refine cX h C.unE (vs:=[fv,uv]) (λn a h=>by simp only[List.map_cons,List.map_nil];rw[Hd.t (l:=_) (i:=97) rfl n a h,Hd.t (l:=_) (i:=99) rfl n a h]) (K.unD sf fv uv t.raw w4 w5 N4 (Ue.far QI) OJ) aa λe w6 hR6=>?_
  obtain⟨ux,es,rfl,Tt,LP,L8,Lu⟩:=hR6
  have eU:eV (bH sf) t.tags=es.map iL:=by rw[L8,ub];rfl
  rw[eU]at hlim epart
  have eP:dh ((es.map iL).map λp=>(p.1,p.2.take bX))=(es.map fP).flatten:=by
   simp only[dh,List.map_map]
   rfl
  rw[eP]at hlim epart
  rw[aJ]at hlim epart
  have Qq:es.length<=bX:=by
   have h2:=(si (bH sf) t).2.2
   rw[eU,aJ]at h2
   exact h2
  have RX:dW w4 w6:=QI.kn Lu
  have Uu:bS w6 w4.heap.size S.tU8 v10 SK:=hd10.keep Lu λ_ _ h=>h
  obtain⟨bx,cx,Me,_⟩:=Tt.form
  refine⟨ux,rfl,λa h=>?_⟩
  have h':=h
  rw[Me]at h'
  refine dP h' (.t rfl) T.dGs aa λa h=>b9 h .i aa λa h=>wpList_nil ?_
  rw[<- Me]at h
  refine yU C K (v9:=v) (n0:=NK) (total:=SK++(es.map fP).flatten) Tt LP Qq Uu RX JB (by rw[ad];omega) rfl (h.pick ⟨rfl,rfl,rfl,rfl,rfl,rfl,trivial⟩) λa w7 v11 h Ut RW=>?_
  have SA:bS w7 w1.heap.size S.tU8 v (ea ver true sf 0 t):=N8.keep RW λj hj=>by have:=(N8.own hj).2;omega
  have hf7':dW w1 w7:=Ny.up RW λj hj=>am Ny.size hj
  refine bI (cq (b9 h (.t rfl) aa λa h=>b9 h (.t rfl) aa λa h=>gV h (.t rfl) T.dInt T.dU64 aa λa h=>?_))
  have hNl:NK+es.length<18446744073709551616:=by
   simp only[bX]at Qq
   have:SK.length<=fq:=by omega
   simp only[fq]at this
   omega
  have hw:IntKind.u64.wrap ((NK+es.length:Nat):Int)=((NK+es.length:Nat):Int):=by simp[IntKind.wrap,IntKind.bits,IntKind.signed];omega
  rw[hw]at h
  refine cX h C.uvE (vs:=[.int .u64 ((NK+es.length:Nat):Int)]) (λn a h=>by simp only[List.map_cons,List.map_nil];rw[Hd.t (l:=_) (i:=127) rfl n a h]) (C.uvC (NK+es.length) w7 hNl) aa λe w8 hR8=>?_
  obtain⟨u,rfl,hu,Pj⟩:=hR8
  have RV:=hf7'.kn Pj
  have Us:bS w8 w1.heap.size S.tU8 v (ea ver true sf 0 t):=SA.keep Pj λ_ _ h=>h
  refine⟨u,rfl,λa h=>j5 h T.oct (.t rfl) (.t rfl) Us (iy T.oct hu) RV.size aa aa λv8 w9 a Ow h=>?_⟩
  have Ui:=RV.up Ow.keeps λj hj=>(Us.own hj).1
  have hd11':bS w9 w4.heap.size S.tU8 v11 (SK++(es.map fP).flatten):=(Ut.keep Pj λ_ _ h=>h).keep Ow.keeps λj hj hX=>by
   have h1:=(Ut.own hj).1
   have h2:=(N8.own hX).2
   omega
  refine b9 h (.t rfl) aa λa h=>j5 h T.oct (.t rfl) (.t rfl) Ow.dst (iy T.oct hd11') Ui.size (by rw[ad,ad];omega) aa λv9 w10 a hg9 h=>b5 h (.t rfl) aa λa h=>wpList_nil (.ret ?_)
  have RY:=Ui.up hg9.keeps λj hj=>(Ow.dst.own hj).1
  refine iH (RR:=de S.tU8 (bU ver true sf t) W) h rfl ⟨v9,rfl,?_,Jd.trans RY.keeps⟩
  rw[epart,<- ao]
  exact(Gr.lower Jd.size (Gr.refl hg9.dst)).dst
def yI:SFs->Bool
 | .nil=>true
 | .cons _ _ _ _ tag _ _ sub r=>decide (tag<1000)&&yI sub&&yI r
theorem nX:∀ sf:SFs,yI sf=true->fz sf=true
 | .nil,_=>rfl
 | .cons _ _ _ _ tag _ _ sub r,h=>by
  simp only[yI,ac]at h
  simp only[fz,ac]
  exact⟨h.1.1,nX r h.2⟩
theorem ref_callsT (C:LeafC P S)(K:KtC P S)(hP:FnIs P S.fPart 132 [8] (csPt S))(hF:FnIs P S.fField 76 [8] (csFl S))(hV:FnIs P S.fVal 70 [12] (csVa S))(hU:FnIs P S.fUsual 91 [4] (csUs S)):∀ sf:SFs,yI sf=true->r3 P S sf/\qv P S sf/\Cu P S sf
 | .nil,_=>⟨rb C K hP hF.ent rfl trivial trivial,trivial,trivial⟩
 | .cons kind lo hi nul tag df of sub r,h=>by
  have Ll:=nX _ h
  simp only[yI,ac]at h
  have hs:=ref_callsT C K hP hF hV hU sub h.1.2
  have hr:=ref_callsT C K hP hF hV hU r h.2
  have JY:qv P S (.cons kind lo hi nul tag df of sub r):=⟨Cb C hF hP.ent hV.ent hs.1 (Ai C hV hP.ent hs.1),hr.2.1⟩
  have LD:Cu P S (.cons kind lo hi nul tag df of sub r):=⟨Al C K.same hU (nX sub h.1.2) hs.2.2,hr.2.2⟩
  exact⟨rb C K hP hF.ent Ll JY LD,JY,LD⟩
theorem ktC_of (T:RefT P S)(hAt:FnIsC P S.fAt 16 4 S.tT (csAt S))(UO:Ent P S.fKnown)(hK:∀ (sf:SFs) (fv:Value) (w:World),fz sf=true->ge w sf fv->Calls P S.fKnown [fv].toArray w λe w'=>e=.returned (.int .u32 (bH sf:Int))/\br (λ_=>False) w w')(hUn:FnIs P S.fUnk 85 [4] (csUn S))(QR:Ent P S.fUsual)
  {ntSm:Nat} (UH:FnIs P S.fSame ntSm [4] (cSame S.tSl S.tU8 S.tInt)) (Jg:26<=ntSm) (h8:cv P S.tU8 false 1) (KH:S.tG≠S.tU8):KtC P S where
 same:=⟨UH.ent,λ_ _ _ _ _ _ ha hb Pg=>pF T.mixed T.oct h8 UH Jg ha hb Pg⟩
 usE:=QR
 atD:=λ_ _ _ _ w0 ht=>FC T hAt w0 ht
 unD:=λsf fv uv raw W0 W N4 J9 OY=>qL T UO hK hUn sf fv uv raw W0 W N4 J9 OY
 tGU:=KH
end
end
