/-
  PLAIN LAWS AND CONTRACTS of messages, part 18.
-/
import Derived.Test.YtbgklecbmhaadaaGreatDoorK16

namespace Go.Proofs.YtbgklecbmhaadaaGreatDoor.Kx
open Go
section
open Go
set_option maxRecDepth 4000
def E7 (S:SN):List Oper:=[mk (some 2) (.box S.tF (tm 0)),mk (some 3) (.box S.tT (tm 1)),mk (some 4) (.assign (.const (.bool false)))]
def E6 (S:SN):List Oper:=[mk (some 9) (.fieldAddr S.tF (tm 2) 0),mk (some 10) (.load S.tInt (tm 9))]
def E5 (S:SN):List Oper:=[mk (some 12) (.binOp .eql S.tInt (tm 10) (ki .i64 0) 0),mk (some 11) (.assign (tm 12))]
def E4 (S:SN):List Oper:=[mk (some 13) (.fieldAddr S.tT (tm 3) 0),mk (some 14) (.load S.tI64 (tm 13)),mk (some 15) (.binOp .and S.tI64 (tm 14) (ki .i64 1) 0),mk (some 16) (.fieldAddr S.tF (tm 2) 5),mk (some 17) (.load S.tI64 (tm 16)),mk (some 18) (.binOp .eql S.tI64 (tm 15) (tm 17) 0),mk (some 4) (.assign (tm 18))]
def E3 (S:SN):List Oper:=[mk (some 20) (.binOp .eql S.tInt (tm 10) (ki .i64 7) 0),mk (some 19) (.assign (tm 20))]
def BK (S:SN):List Oper:=[mk (some 21) (.fieldAddr S.tT (tm 3) 1),mk (some 22) (.load S.tSl (tm 21)),bi (some 23) .len [(tm 22)] [S.tSl] S.tInt,mk (some 24) (.move (ki .i64 0))]
def BJ (S:SN):List Oper:=[mk (some 25) (.binOp .lss S.tInt (tm 24) (tm 23) 0)]
def BH (S:SN):List Oper:=[mk (some 26) (.move (tm 24)),mk (some 27) (.indexAddr S.tSl (tm 22) (tm 24)),mk (some 28) (.load S.tU8 (tm 27)),mk (some 5) (.assign (tm 26)),mk (some 6) (.assign (tm 28))]
def BG (S:SN):List Oper:=[mk (some 29) (.move (tm 5)),mk (some 30) (.binOp .lss S.tInt (tm 29) (ki .i64 16) 0),mk (some 31) (.move (tm 30)),gd 32 (.move (tm 6)) 2 true,gd 33 (.binOp .neq S.tU8 (tm 32) (ki .u8 0) 0) 2 true,mk (some 34) (.pick (tm 31) (tm 33) (.const (.bool false)))]
def BF (_S:SN):List Oper:=[mk (some 4) (.assign (.const (.bool false)))]
def tj (S:SN):List Oper:=[mk (some 35) (.binOp .add S.tInt (tm 24) (ki .i64 1) 0),mk (some 24) (.move (tm 35))]
def yI (_S:SN):List Oper:=[mk (some 4) (.assign (.const (.bool true)))]
def CT (S:SN):List Oper:=[mk (some 37) (.binOp .eql S.tInt (tm 10) (ki .i64 8) 0),mk (some 36) (.assign (tm 37))]
def CS (S:SN):List Oper:=[mk (some 38) (.binOp .eql S.tInt (tm 10) (ki .i64 9) 0),mk (some 36) (.assign (tm 38))]
def yH (S:SN):List Oper:=[mk (some 39) (.fieldAddr S.tF (tm 2) 3),mk (some 40) (.load S.tInt (tm 39)),mk (some 41) (.binOp .geq S.tInt (tm 40) (ki .i64 0) 0)]
def yG (S:SN):List Oper:=[mk (some 42) (.fieldAddr S.tT (tm 3) 2),mk (some 43) (.load S.tB (tm 42)),mk (some 4) (.assign (tm 43))]
def yF (S:SN):List Oper:=[mk (some 44) (.fieldAddr S.tT (tm 3) 1),mk (some 45) (.load S.tSl (tm 44)),bi (some 46) .len [(tm 45)] [S.tSl] S.tInt,mk (some 47) (.binOp .eql S.tInt (tm 46) (ki .i64 0) 0),mk (some 4) (.assign (tm 47))]
def CR (S:SN):List Oper:=[mk (some 49) (.binOp .eql S.tInt (tm 10) (ki .i64 11) 0),mk (some 48) (.assign (tm 49))]
def CQ (S:SN):List Oper:=[mk (some 50) (.fieldAddr S.tT (tm 3) 3),mk (some 51) (.load S.tTs (tm 50)),bi (some 52) .len [(tm 51)] [S.tTs] S.tInt,mk (some 53) (.binOp .eql S.tInt (tm 52) (ki .i64 0) 0),mk (some 4) (.assign (tm 53))]
def CP (S:SN):List Oper:=[mk (some 55) (.binOp .eql S.tInt (tm 10) (ki .i64 10) 0),mk (some 54) (.assign (tm 55))]
def yD (S:SN):List Oper:=[mk (some 56) (.fieldAddr S.tF (tm 2) 7),mk (some 57) (.load S.tFs (tm 56)),bi (some 58) .len [(tm 57)] [S.tFs] S.tInt,mk (some 59) (.move (ki .i64 0))]
def yC (S:SN):List Oper:=[mk (some 60) (.binOp .lss S.tInt (tm 59) (tm 58) 0)]
def yB (S:SN):List Oper:=[mk (some 61) (.move (tm 59)),mk (some 62) (.indexAddr S.tFs (tm 57) (tm 59)),mk (some 63) (.load S.tF (tm 62)),mk (some 8) (.alloc S.tF),mk (some 7) (.assign (tm 61)),mk none (.store S.tF (tm 8) (tm 63))]
def yA (S:SN):List Oper:=[mk (some 64) (.load S.tF (tm 8)),mk (some 65) (.load S.tT (tm 3)),mk (some 66) (.move (tm 7)),cl (some 67) S.fAt [(tm 65),(tm 66)],cl (some 68) S.fUsual [(tm 64),(tm 67)],mk (some 69) (.unOp .not S.tB (tm 68))]
def y9 (_S:SN):List Oper:=[mk (some 4) (.assign (.const (.bool false)))]
def y8 (S:SN):List Oper:=[mk (some 70) (.binOp .add S.tInt (tm 59) (ki .i64 1) 0),mk (some 59) (.move (tm 70))]
def y7 (S:SN):List Oper:=[mk (some 71) (.fieldAddr S.tF (tm 2) 7),mk (some 72) (.load S.tFs (tm 71)),mk (some 73) (.fieldAddr S.tT (tm 3) 4),mk (some 74) (.load S.tGs (tm 73)),cl (some 75) S.fUnk [(tm 72),(tm 74)],bi (some 76) .len [(tm 75)] [S.tGs] S.tInt,mk (some 77) (.binOp .eql S.tInt (tm 76) (ki .i64 0) 0),mk (some 4) (.assign (tm 77))]
def CO (S:SN):List Oper:=[mk (some 78) (.fieldAddr S.tT (tm 3) 0),mk (some 79) (.load S.tI64 (tm 78)),mk (some 80) (.fieldAddr S.tF (tm 2) 0),mk (some 81) (.load S.tInt (tm 80)),cl (some 82) S.fWid [(tm 81)],cl (some 83) S.fFix [(tm 79),(tm 82)],mk (some 84) (.fieldAddr S.tF (tm 2) 5),mk (some 85) (.load S.tI64 (tm 84)),mk (some 86) (.fieldAddr S.tF (tm 2) 0),mk (some 87) (.load S.tInt (tm 86)),cl (some 88) S.fWid [(tm 87)],cl (some 89) S.fFix [(tm 85),(tm 88)],cl (some 90) S.fSame [(tm 83),(tm 89)],mk (some 4) (.assign (tm 90))]
def csUs (S:SN):Code:=
 (.seq (rg (E7 S))
 (.seq (.seq (rg (E6 S))
  (.block 0 (.seq (rg (E5 S))
  (.cond (tm 11) (.seq (rg (E4 S))
   .ret)
  (.seq (rg (E3 S))
  (.cond (tm 19) (.seq (.seq (rg (BK S))
    (.block 1 (.loop (.seq (rg (BJ S))
    (.seq (.cond (tm 25) .skip
     (.exit 1))
    (.seq (.block 2 (.seq (rg (BH S))
     (.seq (rg (BG S))
     (.cond (tm 34) (.seq (rg (BF S))
      .ret)
     .skip))))
    (rg (tj S))))))))
   (.seq (rg (yI S))
   .ret))
  (.seq (.seq (rg (CT S))
   (.cond (tm 36) .skip
   (rg (CS S))))
  (.cond (tm 36) (.seq (.seq (rg (yH S))
    (.cond (tm 41) (.seq (rg (yG S))
     .ret)
    .skip))
   (.seq (rg (yF S))
   .ret))
  (.seq (rg (CR S))
  (.cond (tm 48) (.seq (rg (CQ S))
   .ret)
  (.seq (rg (CP S))
  (.cond (tm 54) (.seq (.seq (rg (yD S))
    (.block 3 (.loop (.seq (rg (yC S))
    (.seq (.cond (tm 60) .skip
     (.exit 3))
    (.seq (.block 4 (.seq (rg (yB S))
     (.seq (.region 1 (yA S).toArray true)
     (.cond (tm 69) (.seq (rg (y9 S))
      .ret)
     .skip))))
    (rg (y8 S))))))))
   (.seq (rg (y7 S))
   .ret))
  .skip))))))))))))
 (.seq (.region 1 (CO S).toArray true)
 .ret)))
def FJ (P:Program)(S:SN)(sub:SFs):Prop:=∀ (w:World) (kind:Nat) (lo hi nul tag df:Int) (of:Nat) (sv:Value) (k:Nat) (cs:List Value) (t:Tr),ei w sub sv->TrRp w k cs t ->
 Calls P S.fUsual [.agg (aJ kind lo hi nul tag df of sv).toArray,.agg cs.toArray].toArray w fun e w'=>e=.returned (.bool (aX kind nul df (fun t=>ct sub 0 t&&(de (ar sub) t.tags).isEmpty) t))/\ac (fun _=>False) w w'
def Ah (P:Program)(S:SN):SFs->Prop
 | .nil=>True
 | .cons _ _ _ _ _ _ _ sub r=>FJ P S sub/\Ah P S r
structure Cc (P:Program)(S:SN):Prop where
 smE:Ent P S.fSame
 smC:∀ (w:World) (X:Nat->Prop) (va vb:Value) (la lb:Bs),cO w X va la->cO w X vb lb->la.length<=maxLen->Calls P S.fSame #[va,vb] w fun e w'=>e=.returned (.bool (decide (la=lb)))/\ac (fun _=>False) w w'
theorem p7.lenB {w:World}{X:Nat->Prop}{v:Value}{l:Bs}(h:p7 w X v l):l.length<=maxLen:=by
 rcases h with⟨_,_,rfl⟩|⟨_,rfl⟩|⟨_,_,_,_,_,_,h1,h2,_⟩
 ·simp
 ·simp
 ·omega
section
variable {P:Program} {S:SN}
theorem A0 (C:LeafC P S){w:World}{t:Tr}{B:Nat}{tsv:Value}(Jd:js w tsv t.octets)(hB:w.cell? ⟨B,1,none⟩=some tsv)
  {a:Act} (h:St 91 a [(3,pt B 0)]) {R:Exit->Act->World->Prop} (hR:∀ a' l',St 91 a' l'->l'.lookup 4=some (.bool ((t.octets.take 16).all fun b=>b==0))->R .ret a' w) :
  aQ P (.seq (.seq (rg (BK S)) (.block 1 (.loop (.seq (rg (BJ S)) (.seq (.cond (tm 25) .skip (.exit 1)) (.seq (.block 2 (.seq (rg (BH S)) (.seq (rg (BG S)) (.cond (tm 34) (.seq (rg (BF S)) .ret) .skip)))) (rg (tj S)))))))) (.seq (rg (yI S)) .ret)) R a w:=by
 have T:=C.tab
 have O4:=Jd.lenB
 obtain⟨bx,cx,rfl,Ha⟩:=Jd.form
 refine aw (aw (aW (bk h (.t rfl) T.t1 (by omega) fun a h=>aN h (.t rfl) T.t1.var (by simpa using hB) (by omega) fun a h=>cr h (.t rfl) T.oct.und (by omega) fun a h=>al h .i (by omega) fun a h=>wpList_nil ?_)))
 refine ee (fun m a' w'=>∃ i:Nat,i+m=t.octets.length/\w'=w/\(∀ j x,j<i->j<16->t.octets[j]?=some x->x=0)/\St 91 a' [(22,.slice bx t.octets.length cx),(23,.int .i64 (t.octets.length:Int)),(24,.int .i64 (i:Int))]) t.octets.length
  ⟨t.octets.length,Nat.le_refl _,0,by omega,rfl,fun j x hj=>by omega,h.pick ⟨rfl,rfl,rfl,trivial⟩⟩ ?_
 rintro m a w' hm ⟨i,Lz,rfl,hz,h⟩
 refine aw (aW (aZ h rfl (.t rfl) (.t rfl) (by omega) fun a h=>wpList_nil ?_))
 refine gm h rfl (fun hb=>?_) (fun hb=>?_)
 ·have Gq:i<t.octets.length:=by simp[aO]at hb;omega
  obtain⟨x,hx⟩:∃ x,t.octets[i]?=some x:=⟨_,List.getElem?_eq_getElem Gq⟩
  obtain⟨b,o,rfl,Gn⟩:=Ha.resolve_left (fun h0=>by rw[h0]at Gq;simp at Gq)
  have MJ:=Gn i x hx
  refine .skip (aw (.block (aw (aW (al h (.t rfl) (by omega) fun a h=>dF h (sz:=1) (.t rfl) (.t rfl) Gq T.oct.und T.vU8.size (by omega) fun a h=>aN h (v:=bF x) (.t rfl) T.vU8 (by rw[Nat.mul_one];exact MJ) (by omega) fun a h=>ah h (.t rfl) (by omega) fun a h=>ah h (.t rfl) (by omega) fun a h=>wpList_nil ?_)))))
  have step:∀ (a:Act) (KK:Exit->Act->World->Prop),(i<16->x=0)->St 91 a [(22,.slice (some ⟨b,o,none⟩) t.octets.length cx),(23,.int .i64 (t.octets.length:Int)),(24,.int .i64 (i:Int))] ->
    aQ P (rg (tj S)) (Exit.then (fun a' w''=>∃ m',m'<=t.octets.length/\m'<m/\∃ i:Nat,i+m'=t.octets.length/\w''=w'/\(∀ j x,j<i->j<16->t.octets[j]?=some x->x=0)/\St 91 a' [(22,.slice (some ⟨b,o,none⟩) t.octets.length cx),(23,.int .i64 (t.octets.length:Int)),(24,.int .i64 (i:Int))]) KK) a w':=by
   intro a KK NY h
   refine aW (cK h (.t rfl) .i (by simp) (cY w') (by omega) fun a h=>?_)
   have hw:IntKind.i64.wrap ((i:Int)+1)=((i+1:Nat):Int):=by simp only[maxLen]at O4;simp[IntKind.wrap,IntKind.bits,IntKind.signed];omega
   rw[hw]at h
   refine al h (.t rfl) (by omega) fun a h=>wpList_nil ?_
   refine⟨m-1,by omega,by omega,i+1,by omega,rfl,fun j y hj hj16 hy=>?_,h.pick ⟨rfl,rfl,rfl,trivial⟩⟩
   rcases Nat.lt_or_ge j i with Ns|Ns
   ·exact hz j y Ns hj16 hy
   ·obtain rfl:j=i:=by omega
    rw[hx]at hy
    exact(Option.some.inj hy) ▸ NY hj16
  refine aw (aW (al h (.t rfl) (by omega) fun a h=>aZ h rfl (.t rfl) .i (by omega) fun a h=>al h (.t rfl) (by omega) fun a h=>?_))
  cases N0:aO .lss (i:Int) 16 with
  | false=>
   rw[N0]at h
   refine aS h rfl rfl rfl (by omega) (by simp) (by omega) fun a h=>aS h rfl rfl rfl (by omega) (by simp) (by omega) fun a h=>cC h (.t rfl) (.t rfl) .c (by omega) fun a h=>wpList_nil ?_
   refine bf h rfl (fun hh=>by simp at hh) (fun _=>.skip ?_)
   exact step a _ (fun LM=>by simp[aO]at N0;omega) (h.pick ⟨rfl,rfl,rfl,trivial⟩)
  | true=>
   rw[N0]at h
   have LM:i<16:=by simp[aO]at N0;omega
   refine gU h rfl rfl rfl (by omega) (.t rfl) (by omega) fun a h=>?_
   refine nA h rfl rfl rfl (by omega) (v:=.bool (aO .neq (x.toNat:Int) 0)) (kH (d:=33) h rfl (.t rfl) .i) (by omega) fun a h=>cC h (.t rfl) (.t rfl) .c (by omega) fun a h=>wpList_nil ?_
   refine bf (b:=aO .neq (x.toNat:Int) 0) h rfl (fun hh=>?_) (fun hh=>.skip ?_)
   ·refine aw (aW (ah h .c (by omega) fun a h=>wpList_nil (.ret ?_)))
    refine hR _ _ h ?_
    have Ie:x≠0:=fun e=>by subst e;simp[aO]at hh
    have:((t.octets.take 16).all fun b=>b==0)=false:=by
     rw[List.all_eq_false]
     exact⟨x,List.mem_of_getElem? (i:=i) (by rw[List.getElem?_take,if_pos LM];exact hx),by simpa using Ie⟩
    rw[this];rfl
   ·refine step a _ (fun _=>?_) (h.pick ⟨rfl,rfl,rfl,trivial⟩)
    have h0:x.toNat=0:=by simp[aO]at hh;omega
    exact UInt8.toNat_inj.1 (by rw[h0];rfl)
 ·have Hm:¬ i<t.octets.length:=by simp[aO]at hb;omega
  refine .exit ?_
  show aQ P _ _ a w'
  refine aw (aW (ah h .c (by omega) fun a h=>wpList_nil (.ret ?_)))
  refine hR _ _ h ?_
  have:((t.octets.take 16).all fun b=>b==0)=true:=by
   rw[List.all_eq_true]
   intro x hx
   obtain⟨j,hj⟩:=List.mem_iff_getElem?.1 hx
   rw[List.getElem?_take]at hj
   split at hj
   ·rename_i LM
    have:=(List.getElem?_eq_some_iff.1 hj).1
    rw[hz j x (by omega) LM hj]
    rfl
   ·cases hj
  rw[this];rfl
end
end
section
open Go
set_option maxRecDepth 4000
section
variable {P:Program} {S:SN}
section
variable {Q:Exit->Act->World->Prop} {r:List Oper} {n:Nat} {a:Act} {w:World} {l:List (Nat × Value)} {I:World->Prop}
theorem Cz (h:St n a l)(hI:I w){d T:Nat}{x:Operand}{b:Bool}(hx:Hd l x (.bool b))(hd:d<n)(c:∀ a',St n a' ((d,.bool !b)::l)->eK P I Q r a' w):eK P I Q (mk (some d) (.unOp .not T x)::r) a w:=by
 refine⟨hI,?_⟩
 unfold Oper.wp
 have:(execOp a.eval (mk (some d) (.unOp .not T x))).run P w=.ok (.value (.bool !b)) w:=by simp[execOp,mk,hx n a h,Op.unary]
 rw[this]
 exact c _ (h.put _ hd)
end
theorem A1 (C:LeafC P S)(NR:Ent P S.fUsual){sub:SFs}(KC:dI sub=true)(Hs:Ah P S sub){W w:World}{kind:Nat}{lo hi nul tag df:Int}{of:Nat}{sv:Value}{k B2 B3:Nat}{cs:List Value}{t:Tr}(GV:ei W sub sv)(ht:TrRp W k cs t)(hk:ac (fun _=>False) W w)
  (GZ:ao w B2 0 (aJ kind lo hi nul tag df of sv)) (GX:ao w B3 0 cs)
  {a:Act} (h:St 91 a [(2,pt B2 0),(3,pt B3 0)]) {R:Exit->Act->World->Prop} (hR:∀ a' w' l',St 91 a' l'->ac (fun _=>False) w w'->l'.lookup 4=some (.bool (ct sub 0 t&&(de (ar sub) t.tags).isEmpty))->R .ret a' w') :
  aQ P (.seq (.seq (rg (yD S)) (.block 3 (.loop (.seq (rg (yC S)) (.seq (.cond (tm 60) .skip (.exit 3)) (.seq (.block 4 (.seq (rg (yB S)) (.seq (.region 1 (yA S).toArray true) (.cond (tm 69) (.seq (rg (y9 S)) .ret) .skip)))) (rg (y8 S)))))))) (.seq (rg (y7 S)) .ret)) R a w:=by
 have T:=C.tab
 have I3:=ht.len
 have hf:cv W w:=cv.of hk
 obtain⟨base,c,KV,Gp,Mt⟩:=GV.form
 refine aw (aw (aW (bk h (.t rfl) T.f7 (by omega) fun a h=>aN h (.t rfl) T.f7.var (GZ.at (j:=7) rfl) (by omega) fun a h=>?_)))
 have h':=h
 rw[KV]at h'
 refine cr h' (.t rfl) T.dFs (by omega) fun a h=>al h .i (by omega) fun a h=>wpList_nil ?_
 rw[<- KV]at h
 refine ee (fun m a' w'=>∃ (i:Nat) (rest:SFs),i+m=sub.len/\rest.len=m/\Ah P S rest/\ct rest i t=ct sub 0 t/\ac (fun _=>False) w w'/\(∀ b o,base=some ⟨b,o,none⟩->gM W sub b o->gM W rest b (o+i*8)) /\
   St 91 a' [(2,pt B2 0),(3,pt B3 0),(57,sv),(58,.int .i64 (sub.len:Int)),(59,.int .i64 (i:Int))]) sub.len
  ⟨sub.len,Nat.le_refl _,0,sub,by omega,rfl,Hs,rfl,ac.refl _ _,fun b o _ hh=>by simpa using hh,h.pick ⟨rfl,rfl,rfl,rfl,rfl,trivial⟩⟩ ?_
 rintro m a w' hm ⟨i,rest,Lz,JB,HU,G4,H5,Ha,h⟩
 have Wb:=hk.trans H5
 refine aw (aW (aZ h rfl (.t rfl) (.t rfl) (by omega) fun a h=>wpList_nil ?_))
 refine gm h rfl (fun hb=>?_) (fun hb=>?_)
 ·have Gq:i<sub.len:=by simp[aO]at hb;omega
  refine .skip ?_
  cases hr:rest with
  | nil=>rw[hr]at JB;simp[SFs.len]at JB;omega
  | cons kind' lo' JY nul' tag' df' of' sub' r'=>
   subst hr
   obtain⟨b,o,He,OO⟩:=Mt.resolve_left (fun hh=>by rw[hh]at Gq;simp[SFs.len]at Gq)
   obtain⟨⟨sv',hc,IN⟩,JD⟩:=Ha b o He OO
   have hc:ao W b (o+i*8) (aJ kind' lo' JY nul' tag' df' of' sv'):=hc
   have JI:ei W sub' sv':=IN
   have OF:(i:Int)+1<=9223372036854775807:=by simp only[maxLen]at Gp;omega
   refine aw (.block (aw (aW (al h (.t rfl) (by omega) fun a h=>?_))))
   have h':=h
   rw[KV,He]at h'
   refine dF h' (sz:=8) (.t rfl) (.t rfl) Gq T.dFs T.vF.size (by omega) fun a h=>ck h (cs:=aJ kind' lo' JY nul' tag' df' of' sv') (.t rfl) T.vF (ao.kn Wb hc) (by omega) fun a h=>?_
   rw[<- He,<- KV]at h
   refine eM h (T.zF w') (by omega) fun a h=>ah h (.t rfl) (by omega) fun a h=>?_
   have Mi:=mN (w:=w') (T:=S.tF) (z:=.agg #[.int .i64 0,.int .i64 0,.int .i64 0,.int .i64 0,.int .i64 0,.int .i64 0,.int .i64 0,aG]) (cs:=aJ kind' lo' JY nul' tag' df' of' sv') rfl
   refine fr h (cs:=aJ kind' lo' JY nul' tag' df' of' sv') (.t rfl) (.t rfl) (by simp[Value.cells]) T.vF.size (aB w' _) rfl (jp kind' lo' JY nul' tag' df' of' (mI IN)) (wpList_nil ?_)
   obtain⟨Gs,VV⟩:=Mi
   generalize(w'.alloc (.cells (Value.agg #[.int .i64 0,.int .i64 0,.int .i64 0,.int .i64 0,.int .i64 0,.int .i64 0,.int .i64 0,aG]).cells S.tF (0,0))).setRow w'.heap.size (aJ kind' lo' JY nul' tag' df' of' sv').toArray=w2 at Gs VV ⊢
   have Nr:=H5.trans Gs
   have M3:cv W w2:=cv.of (hk.trans Nr)
   have U4:=ao.kn Nr GX
   have h:St 91 a [(2,pt B2 0),(3,pt B3 0),(7,.int .i64 (i:Int)),(8,pt w'.heap.size 0),(57,sv),(58,.int .i64 (sub.len:Int)),(59,.int .i64 (i:Int))]:=h.pick ⟨rfl,rfl,rfl,rfl,rfl,rfl,rfl,trivial⟩
   refine aw (rL [false,false,false,true,true,true] (fun w3=>ac (fun _=>False) w2 w3) (by kernel_rfl) ?_)
   show gn P _ [mk (some 64) (.load S.tF (tm 8)),mk (some 65) (.load S.tT (tm 3)),mk (some 66) (.move (tm 7))] a
    fun af=>eK P _ _ [cl (some 67) S.fAt [(tm 65),(tm 66)],cl (some 68) S.fUsual [(tm 64),(tm 67)],mk (some 69) (.unOp .not S.tB (tm 68))] af w2.drew
   refine fw h (cs:=aJ kind' lo' JY nul' tag' df' of' sv') (.t rfl) T.vF (fun w3 hI=>ao.kn hI VV) (by omega) fun a h=>fw h (cs:=cs) (.t rfl) (by rw[I3];exact T.vT) (fun w3 hI=>ao.kn hI U4) (by omega) fun a h=>db h (.t rfl) (by omega) fun a h=>jB ?_
   have IS:ac (fun _=>False) w2 w2.drew:=ac.drew _ _
   have K4:=h.pick (m:=[(2,pt B2 0),(3,pt B3 0),(57,sv),(58,.int .i64 (sub.len:Int)),(59,.int .i64 (i:Int)),(64,.agg (aJ kind' lo' JY nul' tag' df' of' sv').toArray),(65,.agg cs.toArray),(66,.int .i64 (i:Int))]) ⟨rfl,rfl,rfl,rfl,rfl,rfl,rfl,rfl,trivial⟩
   generalize hFv:Value.agg (aJ kind' lo' JY nul' tag' df' of' sv').toArray=vF at K4
   refine cR K4 IS C.atE (vs:=[.agg cs.toArray,.int .i64 (i:Int)]) (fun n a h=>by
    simp only[List.map_cons,List.map_nil]
    rw[Hd.t (l:=_) (i:=65) rfl n a h,Hd.t (l:=_) (i:=66) rfl n a h]) (C.atC k i cs t w2.drew (ht.far (M3.kn IS))) (by omega) fun e w4 hR4=>?_
   obtain⟨cs4,rfl,Nb,GH⟩:=hR4
   have HX:=IS.trans GH
   have IM:=HU.1 w4 kind' lo' JY nul' tag' df' of' sv' k cs4 (t.at i) (JI.far (M3.kn HX)) (Nb.far (cv.of GH))
   rw[hFv]at IM
   refine⟨_,rfl,fun a h=>cR h HX NR (vs:=[vF,.agg cs4.toArray]) (fun n a h=>by
    simp only[List.map_cons,List.map_nil]
    rw[Hd.t (l:=_) (i:=64) rfl n a h,Hd.t (l:=_) (i:=67) rfl n a h]) IM (by omega) fun e w5 hR5=>?_⟩
   obtain⟨rfl,HC⟩:=hR5
   have HE:=HX.trans HC
   refine⟨_,rfl,fun a h=>Cz h HE (.t rfl) (by omega) fun a h=>j7 HE ?_⟩
   have S9:ct (.cons kind' lo' JY nul' tag' df' of' sub' r') i t=(aX kind' nul' df' (fun t=>ct sub' 0 t&&(de (ar sub') t.tags).isEmpty) (t.at i)&&ct r' (i+1) t):=rfl
   rw[S9]at G4
   generalize aX kind' nul' df' (fun t=>ct sub' 0 t&&(de (ar sub') t.tags).isEmpty) (t.at i)=bu at h G4
   show aQ P _ _ a w5
   refine bf h rfl (fun hh=>?_) (fun hh=>.skip ?_)
   ·have U6:bu=false:=by simpa using hh
    subst U6
    refine aw (aW (ah h .c (by omega) fun a h=>wpList_nil (.ret ?_)))
    refine hR _ _ _ h (Nr.trans HE) ?_
    rw[<- G4];rfl
   ·have U6:bu=true:=by simpa using hh
    subst U6
    rw[Bool.true_and]at G4
    refine aW (cK h (.t rfl) .i (by simp) (cY w5) (by omega) fun a h=>?_)
    have hw:IntKind.i64.wrap ((i:Int)+1)=((i+1:Nat):Int):=by simp[IntKind.wrap,IntKind.bits,IntKind.signed];omega
    rw[hw]at h
    refine al h (.t rfl) (by omega) fun a h=>wpList_nil ?_
    refine⟨m-1,by omega,by omega,i+1,r',by omega,by simp only[SFs.len]at JB;omega,HU.2,G4,Nr.trans HE,fun b' o' hbo hh=>?_,h.pick ⟨rfl,rfl,rfl,rfl,rfl,trivial⟩⟩
    have:=(Ha b' o' hbo hh).2
    rw[show o'+(i+1)*8=o'+i*8+8 by omega]
    exact this
 ·have Hm:¬ i<sub.len:=by simp[aO]at hb;omega
  have J9:rest=.nil:=by
   cases rest with
   | nil=>rfl
   | cons=>simp only[SFs.len]at JB;omega
  subst J9
  have PN:ct sub 0 t=true:=G4.symm
  refine .exit ?_
  show aQ P _ _ a w'
  have NJ:cv W w':=cv.of Wb
  have ht':=ht.far NJ
  obtain⟨uv,LP,Gn⟩:∃ uv,du w' 2 (gE w') uv t.raw/\w'.cell? ⟨B3,0+4,none⟩=some uv:=by
   cases k with
   | zero=>exact ht'.elim
   | succ k=>
    obtain⟨sv,lv,uv,rfl,_,_,LP⟩:=ht'
    exact⟨uv,LP,(ao.kn H5 GX).at (j:=4) rfl⟩
  refine aw (aW (bk h (.t rfl) T.f7 (by omega) fun a h=>aN h (.t rfl) T.f7.var ((ao.kn H5 GZ).at (j:=7) rfl) (by omega) fun a h=>bk h (.t rfl) T.t4 (by omega) fun a h=>aN h (.t rfl) T.t4.var Gn (by omega) fun a h=>?_))
  refine br h C.unE (vs:=[sv,uv]) (fun n a h=>by simp only[List.map_cons,List.map_nil];rw[Hd.t (l:=_) (i:=72) rfl n a h,Hd.t (l:=_) (i:=74) rfl n a h]) (C.unC sub sv uv t.raw w' KC (GV.far NJ) LP) (by omega) fun e w5 hR5=>?_
  obtain⟨ux,rs,rfl,SY,IH,HC⟩:=hR5
  obtain⟨bx,cx,Jk,_⟩:=SY.form
  refine⟨ux,rfl,fun a h=>?_⟩
  have h':=h
  rw[Jk]at h'
  refine cr h' (.t rfl) T.dGs (by omega) fun a h=>aZ h rfl (.t rfl) .i (by omega) fun a h=>ah h (.t rfl) (by omega) fun a h=>wpList_nil (.ret ?_)
  refine hR _ _ _ h (H5.trans HC) ?_
  have e1:de (ar sub) t.tags=rs.map fun p=>(p.1.toNat,p.2):=by rw[IH,ro];rfl
  rw[PN,Bool.true_and,e1]
  cases rs<;>simp[aO,List.lookup]<;>omega
theorem xF (C:LeafC P S)(D:Cc P S)(hfn:FnIs P S.fUsual 91 [4] (csUs S)){sub:SFs}(KC:dI sub=true)(Hs:Ah P S sub):FJ P S sub:=by
 intro W kind lo hi nul tag df of sv k cs t GV ht
 have T:=C.tab
 have LB:=ht
 cases k with
 | zero=>exact ht.elim
 | succ k=>
 obtain⟨tsv,tlv,tuv,rfl,Jd,Lj,LP⟩:=ht
 refine dm T.mixed hfn (by simp) _ (by simp) fun a h=>?_
 unfold csUs
 refine aw (aW (dG h (cs:=aJ kind lo hi nul tag df of sv) (.t rfl) (by omega) fun a h=>?_))
 have Gy:ac (fun _=>False) W (W.alloc (.cells (aJ kind lo hi nul tag df of sv).toArray S.tF (0,0))):=ac.alloc _ _ _
 have GZ:=ce W (aJ kind lo hi nul tag df of sv) S.tF
 generalize W.alloc (.cells (aJ kind lo hi nul tag df of sv).toArray S.tF (0,0))=w1 at Gy GZ ⊢
 refine dG h (cs:=[.int .i64 t.num,tsv,.bool t.null,tlv,tuv]) (.t rfl) (by omega) fun a h=>ah h .c (by omega) fun a h=>wpList_nil ?_
 have Gs:ac (fun _=>False) w1 (w1.alloc (.cells [.int .i64 t.num,tsv,.bool t.null,tlv,tuv].toArray S.tT (0,0))):=ac.alloc _ _ _
 have GX:=ce w1 [.int .i64 t.num,tsv,.bool t.null,tlv,tuv] S.tT
 generalize w1.alloc (.cells [.int .i64 t.num,tsv,.bool t.null,tlv,tuv].toArray S.tT (0,0))=w at Gs GX ⊢
 have GZ:=ao.kn Gs GZ
 have hk:=Gy.trans Gs
 have hf:cv W w:=cv.of hk
 have h:St 91 a [(2,pt W.heap.size 0),(3,pt w1.heap.size 0)]:=h.pick ⟨rfl,rfl,trivial⟩
 have fin:∀ (a':Act) (w':World) (l':List (Nat × Value)) (b:Bool),St 91 a' l'->ac (fun _=>False) w w'->l'.lookup 4=some (.bool b)->b=aX kind nul df (fun t=>ct sub 0 t&&(de (ar sub) t.tags).isEmpty) t ->
   (a'.defers=[]/\(Ending.returned (bj [4] a')=.returned (.bool (aX kind nul df (fun t=>ct sub 0 t&&(de (ar sub) t.tags).isEmpty) t))/\ac (fun _=>False) W w')):=fun a' w' l' b h H5 hl hb=>by
  refine fQ (RR:=fun e w'=>e=.returned (.bool (aX kind nul df (fun t=>ct sub 0 t&&(de (ar sub) t.tags).isEmpty) t))/\ac (fun _=>False) W w') h hl ⟨by rw[hb],hk.trans H5⟩
 have MN:ac (fun _=>False) w w:=ac.refl _ _
 refine aw (aw (aW (bk h (.t rfl) T.f0 (by omega) fun a h=>aN h (.t rfl) T.f0.var (GZ.at (j:=0) rfl) (by omega) fun a h=>wpList_nil ?_)))
 refine .block (aw (aW (aZ h rfl (.t rfl) .i (by omega) fun a h=>ah h (.t rfl) (by omega) fun a h=>wpList_nil ?_)))
 refine bf h rfl (fun hb=>?_) (fun hb=>?_)
 ·have HK:kind=0:=by simp[aO]at hb;omega
  subst HK
  refine aw (aW (bk h (.t rfl) T.t0 (by omega) fun a h=>aN h (.t rfl) T.t0.var (GX.at (j:=0) rfl) (by omega) fun a h=>cK h (.t rfl) .i (by simp) (r7 w) (by omega) fun a h=>bk h (.t rfl) T.f5 (by omega) fun a h=>aN h (.t rfl) T.f5.var (GZ.at (j:=5) rfl) (by omega) fun a h=>aZ h rfl (.t rfl) (.t rfl) (by omega) fun a h=>ah h (.t rfl) (by omega) fun a h=>wpList_nil (.ret ?_)))
  exact fin _ _ _ _ h MN rfl (by simp[aX,aO])
 have h0:kind≠0:=by simp[aO]at hb;omega
 refine aw (aW (aZ h rfl (.t rfl) .i (by omega) fun a h=>ah h (.t rfl) (by omega) fun a h=>wpList_nil ?_))
 refine bf h rfl (fun hb=>?_) (fun hb=>?_)
 ·have HK:kind=7:=by simp[aO]at hb;omega
  subst HK
  refine A0 C (t:=t) (Jd.far hf) (GX.at (j:=1) rfl) (h.pick ⟨rfl,trivial⟩) fun a' l' h hl=>?_
  exact fin _ _ _ _ h MN hl (by simp[aX])
 have h7:kind≠7:=by simp[aO]at hb;omega
 refine aw (aw (aW (aZ h rfl (.t rfl) .i (by omega) fun a h=>ah h (.t rfl) (by omega) fun a h=>wpList_nil ?_)))
 have text:∀ (a:Act) (KK:Exit->Act->World->Prop),kind=8 \/ kind=9->St 91 a [(2,pt W.heap.size 0),(3,pt w1.heap.size 0)]->(∀ a' l' b,St 91 a' l'->l'.lookup 4=some (.bool b)->b=aX kind nul df (fun t=>ct sub 0 t&&(de (ar sub) t.tags).isEmpty) t->KK .ret a' w) ->
   aQ P (.seq (.seq (rg (yH S)) (.cond (tm 41) (.seq (rg (yG S)) .ret) .skip)) (.seq (rg (yF S)) .ret)) KK a w:=by
  intro a KK h89 h KI
  have hu:aX kind nul df (fun t=>ct sub 0 t&&(de (ar sub) t.tags).isEmpty) t=(if 0<=nul then t.null else t.octets.isEmpty):=by simp only[aX,h0,h7,h89,if_false,if_true]
  refine aw (aw (aW (bk h (.t rfl) T.f3 (by omega) fun a h=>aN h (.t rfl) T.f3.var (GZ.at (j:=3) rfl) (by omega) fun a h=>aZ h rfl (.t rfl) .i (by omega) fun a h=>wpList_nil ?_)))
  refine bf h rfl (fun hb=>?_) (fun hb=>.skip ?_)
  ·have hn:0<=nul:=by simpa[aO]using hb
   refine aw (aW (bk h (.t rfl) T.t2 (by omega) fun a h=>aN h (.t rfl) T.t2.var (GX.at (j:=2) rfl) (by omega) fun a h=>ah h (.t rfl) (by omega) fun a h=>wpList_nil (.ret ?_)))
   exact KI _ _ _ h rfl (by rw[hu,if_pos hn])
  ·have hn:¬ 0<=nul:=by simpa[aO]using hb
   show aQ P _ _ a w
   obtain⟨bx,cx,Jk,_⟩:=Jd.form
   refine aw (aW (bk h (.t rfl) T.t1 (by omega) fun a h=>aN h (.t rfl) T.t1.var (GX.at (j:=1) rfl) (by omega) fun a h=>?_))
   rw[Jk]at h
   refine cr h (.t rfl) T.oct.und (by omega) fun a h=>aZ h rfl (.t rfl) .i (by omega) fun a h=>ah h (.t rfl) (by omega) fun a h=>wpList_nil (.ret ?_)
   refine KI _ _ _ h rfl ?_
   rw[hu,if_neg hn]
   cases t.octets<;>simp[aO]<;>omega
 refine bf h rfl (fun hb=>?_) (fun hb=>?_)
 ·have HK:kind=8:=by simp[aO]at hb;omega
  refine .skip ?_
  show aQ P _ _ a w
  refine bf h rfl (fun _=>?_) (fun hh=>by rw[hb]at hh;cases hh)
  exact text a _ (.inl HK) (h.pick ⟨rfl,rfl,trivial⟩) fun a' l' b h hl hb=>fin _ _ _ _ h MN hl hb
 have h8:kind≠8:=by simp[aO]at hb;omega
 refine aW (aZ h rfl (.t rfl) .i (by omega) fun a h=>ah h (.t rfl) (by omega) fun a h=>wpList_nil ?_)
 show aQ P _ _ a w
 refine bf h rfl (fun hb=>?_) (fun hb=>?_)
 ·have HK:kind=9:=by simp[aO]at hb;omega
  exact text a _ (.inr HK) (h.pick ⟨rfl,rfl,trivial⟩) fun a' l' b h hl hb=>fin _ _ _ _ h MN hl hb
 have h9:kind≠9:=by simp[aO]at hb;omega
 refine aw (aW (aZ h rfl (.t rfl) .i (by omega) fun a h=>ah h (.t rfl) (by omega) fun a h=>wpList_nil ?_))
 refine bf h rfl (fun hb=>?_) (fun hb=>?_)
 ·have HK:kind=11:=by simp[aO]at hb;omega
  subst HK
  obtain⟨bx,cx,Jk,_⟩:=Lj.form
  refine aw (aW (bk h (.t rfl) T.t3 (by omega) fun a h=>aN h (.t rfl) T.t3.var (GX.at (j:=3) rfl) (by omega) fun a h=>?_))
  rw[Jk]at h
  refine cr h (.t rfl) T.dTs (by omega) fun a h=>aZ h rfl (.t rfl) .i (by omega) fun a h=>ah h (.t rfl) (by omega) fun a h=>wpList_nil (.ret ?_)
  refine fin _ _ _ _ h MN rfl ?_
  simp only[aX]
  cases t.list<;>simp[aO]<;>omega
 have Is:kind≠11:=by simp[aO]at hb;omega
 refine aw (aW (aZ h rfl (.t rfl) .i (by omega) fun a h=>ah h (.t rfl) (by omega) fun a h=>wpList_nil ?_))
 refine bf h rfl (fun hb=>?_) (fun hb=>?_)
 ·have HK:kind=10:=by simp[aO]at hb;omega
  subst HK
  refine A1 C hfn.ent KC Hs GV LB hk GZ GX (h.pick ⟨rfl,rfl,trivial⟩) fun a' w' l' h H5 hl=>?_
  exact fin _ _ _ _ h H5 hl (by simp[aX])
 have Iz:kind≠10:=by simp[aO]at hb;omega
 refine .skip ?_
 show aQ P _ _ a w
 have hu:aX kind nul df (fun t=>ct sub 0 t&&(de (ar sub) t.tags).isEmpty) t=decide (be (bv kind) t.num=be (bv kind) df):=by simp only[aX,h0,h7,h8,h9,Iz,Is,or_self,if_false]
 have Vu:bv kind<=8:=by unfold bv;split<;>(try split)<;>(try split)<;>omega
 refine aw (rL [false,false,false,false,true,true,false,false,false,false,true,true,true,true] (fun w'=>ac (fun _=>False) w w') (by kernel_rfl) ?_)
 show gn P _ [mk (some 78) (.fieldAddr S.tT (tm 3) 0),mk (some 79) (.load S.tI64 (tm 78)),mk (some 80) (.fieldAddr S.tF (tm 2) 0),mk (some 81) (.load S.tInt (tm 80)),mk (some 84) (.fieldAddr S.tF (tm 2) 5),mk (some 85) (.load S.tI64 (tm 84)),mk (some 86) (.fieldAddr S.tF (tm 2) 0),mk (some 87) (.load S.tInt (tm 86))] a
  fun af=>eK P _ _ [cl (some 82) S.fWid [(tm 81)],cl (some 83) S.fFix [(tm 79),(tm 82)],cl (some 88) S.fWid [(tm 87)],cl (some 89) S.fFix [(tm 85),(tm 88)],cl (some 90) S.fSame [(tm 83),(tm 89)],mk (some 4) (.assign (tm 90))] af w.drew
 refine jC h (.t rfl) T.t0 (by omega) fun a h=>gx h (.t rfl) T.t0.var (fun w' hI=>(ao.kn hI GX).at (j:=0) rfl) (by omega) fun a h=>?_
 refine jC h (.t rfl) T.f0 (by omega) fun a h=>gx h (.t rfl) T.f0.var (fun w' hI=>(ao.kn hI GZ).at (j:=0) rfl) (by omega) fun a h=>?_
 refine jC h (.t rfl) T.f5 (by omega) fun a h=>gx h (.t rfl) T.f5.var (fun w' hI=>(ao.kn hI GZ).at (j:=5) rfl) (by omega) fun a h=>?_
 refine jC h (.t rfl) T.f0 (by omega) fun a h=>gx h (.t rfl) T.f0.var (fun w' hI=>(ao.kn hI GZ).at (j:=0) rfl) (by omega) fun a h=>jB ?_
 have IS:ac (fun _=>False) w w.drew:=ac.drew _ _
 refine cR h IS C.widE (vs:=[.int .i64 (kind:Int)]) (fun n a h=>by simp only[List.map_cons,List.map_nil];rw[Hd.t (l:=_) (i:=81) rfl n a h]) (C.widC kind w.drew) (by omega) fun e w2 HP=>?_
 obtain⟨rfl,rfl⟩:=HP
 refine⟨_,rfl,fun a h=>cR h IS C.fixE (vs:=[.int .i64 t.num,.int .i64 (bv kind:Int)]) (fun n a h=>by simp only[List.map_cons,List.map_nil];rw[Hd.t (l:=_) (i:=79) rfl n a h,Hd.t (l:=_) (i:=82) rfl n a h]) (C.fixC t.num (bv kind) w.drew Vu) (by omega) fun e w3 hR3=>?_⟩
 obtain⟨v3,rfl,H6,Gx⟩:=hR3
 have Ki:=IS.trans Gx
 refine⟨v3,rfl,fun a h=>cR h Ki C.widE (vs:=[.int .i64 (kind:Int)]) (fun n a h=>by simp only[List.map_cons,List.map_nil];rw[Hd.t (l:=_) (i:=87) rfl n a h]) (C.widC kind w3) (by omega) fun e w4 hR4=>?_⟩
 obtain⟨rfl,rfl⟩:=hR4
 refine⟨_,rfl,fun a h=>cR h Ki C.fixE (vs:=[.int .i64 df,.int .i64 (bv kind:Int)]) (fun n a h=>by simp only[List.map_cons,List.map_nil];rw[Hd.t (l:=_) (i:=85) rfl n a h,Hd.t (l:=_) (i:=88) rfl n a h]) (C.fixC df (bv kind) w4 Vu) (by omega) fun e w5 hR5=>?_⟩
 obtain⟨v5,rfl,LK,HC⟩:=hR5
 have HE:=Ki.trans HC
 refine⟨v5,rfl,fun a h=>cR h HE D.smE (vs:=[v3,v5]) (fun n a h=>by simp only[List.map_cons,List.map_nil];rw[Hd.t (l:=_) (i:=83) rfl n a h,Hd.t (l:=_) (i:=89) rfl n a h]) (D.smC w5 (fun _=>False) v3 v5 (be (bv kind) t.num) (be (bv kind) df) (H6.sl.keep HC) LK.sl (by rw[bV];simp only[maxLen];omega)) (by omega) fun e w6 hR6=>?_⟩
 obtain⟨rfl,I4⟩:=hR6
 have ID:=HE.trans I4
 refine⟨_,rfl,fun a h=>fZ h ID (.t rfl) (by omega) fun a h=>j7 ID (.ret ?_)⟩
 exact fin _ _ _ _ h ID rfl hu.symm
theorem Dl (T:RefT P S)(hfn:FnIsC P S.fAt 16 4 S.tT (csAt S)){k i:Nat}{cs:List Value}{t:Tr}(w0:World)(ht:TrRp w0 k cs t) :
  ∃ cs',TrRp w0 k cs' (t.at i)/\∀ w,ac (fun _=>False) w0 w->Calls P S.fAt [.agg cs.toArray,.int .i64 (i:Int)].toArray w fun e w'=>e=.returned (.agg cs'.toArray)/\ac (fun _=>False) w w':=by
 cases k with
 | zero=>exact ht.elim
 | succ k=>
 obtain⟨sv,lv,uv,rfl,h2,h3,h4⟩:=ht
 obtain⟨lb,lc,Lj,_,TD,_⟩:=h3.form
 have main:∀ cs':List Value,cs'.length=5->(∀ u∈cs',u.oneCell'=true)->(∀ x,t.list[i]?=some x->∃ b o c,lv=.slice (some ⟨b,o,none⟩) t.list.length c/\ao w0 b (o+i*5) cs')->(t.list[i]?=none->cs'=[.int .i64 0,aG,.bool false,aG,aG]) ->
   ∀ w,ac (fun _=>False) w0 w->Calls P S.fAt [.agg [.int .i64 t.num,sv,.bool t.null,lv,uv].toArray,.int .i64 (i:Int)].toArray w fun e w'=>e=.returned (.agg cs'.toArray)/\ac (fun _=>False) w w':=by
  intro cs' hl GG Io Hx w ME
  refine mS T.mixed hfn _ (by simp) fun a h=>?_
  unfold csAt
  refine aw (aW (dG h (.t rfl) (by omega) fun a h=>?_))
  have Gy:ac (fun _=>False) w (w.alloc (.cells [.int .i64 t.num,sv,.bool t.null,lv,uv].toArray S.tT (0,0))):=ac.alloc _ _ _
  have GZ:=ce w [.int .i64 t.num,sv,.bool t.null,lv,uv] S.tT
  have Gu:(w.alloc (.cells [.int .i64 t.num,sv,.bool t.null,lv,uv].toArray S.tT (0,0))).heap.size=w.heap.size+1:=by simp
  generalize w.alloc (.cells [.int .i64 t.num,sv,.bool t.null,lv,uv].toArray S.tT (0,0))=w1 at Gy GZ Gu ⊢
  refine eM h (T.zT w1) (by omega) fun a h=>wpList_nil ?_
  have hn:=aB w1 (.cells (Value.agg #[.int .i64 0,aG,.bool false,aG,aG]).cells S.tT (0,0))
  have Gs:ac (fun _=>False) w1 (w1.alloc (.cells (Value.agg #[.int .i64 0,aG,.bool false,aG,aG]).cells S.tT (0,0))):=ac.alloc _ _ _
  generalize w1.alloc (.cells (Value.agg #[.int .i64 0,aG,.bool false,aG,aG]).cells S.tT (0,0))=w2 at hn Gs ⊢
  have GX:=ao.kn Gs GZ
  have hk:=Gy.trans Gs
  have fin:∀ (a:Act) (l:List (Nat × Value)) (x:Operand),St 16 a l->Hd l x (.agg cs'.toArray)->l.lookup 4=some (pt w1.heap.size 0)->∀ (ops:Array Oper) (R:Exit->Act->World->Prop),
    (∀ a' w',(a'.defers=[]/\∃ p v,a'.get 4=.pointer (some p)/\(loadVar S.tT p).run P w'=.ok v w'/\Ending.returned v=.returned (.agg cs'.toArray)/\ac (fun _=>False) w w')->R .normal a' w')->wpList P ops R [mk none (.store S.tT (tm 4) x)] a w2:=by
   intro a l x h hx h4' ops R hR
   refine fr h (.t h4') hx (by simp[Value.cells]) (by rw[hl];exact T.vT.size) hn (by simp[Value.cells,hl]) GG (wpList_nil (hR _ _ ⟨h.defers,⟨w1.heap.size,0,none⟩,.agg cs'.toArray,h.get 4 _ h4',?_,rfl,?_⟩))
   ·have hr:=setRow_heap _ _ _ cs'.toArray _ _ hn
    have Gn:∀ j v,cs'[j]?=some v->(w2.setRow w1.heap.size cs'.toArray).cell? ((⟨w1.heap.size,0,none⟩:Addr).add j)=some v:=fun j v hj=>by
     rw[Addr.add_lit]
     simp only[World.cell?,hr,Option.isSome_none,Bool.false_eq_true,if_false,Nat.zero_add,List.getElem?_toArray,hj]
    have JW:=run_loadCells_list (P:=P) (w2.setRow w1.heap.size cs'.toArray) ⟨w1.heap.size,0,none⟩ cs' Gn
    rw[hl]at JW
    simp[loadVar,T.vT.agg,T.vT.size,JW]
   ·exact((hk.mono (Y:=fun k=>k=w1.heap.size) fun _ _ h=>h.elim).trans (ac.setRow _ _ _ _ rfl)).mono fun k hk hX=>by omega
  refine aw (aw (aW ?_))
  refine al h (.t rfl) (by omega) fun a h=>bk h (.t rfl) T.t3 (by omega) fun a h=>aN h (.t rfl) T.t3.var (GX.at (j:=3) rfl) (by omega) fun a h=>?_
  have h':=h
  rw[Lj]at h'
  refine cr h' (.t rfl) T.dTs (by omega) fun a h=>aZ h rfl (.t rfl) (.t rfl) (by omega) fun a h=>wpList_nil ?_
  refine bf h rfl (fun hb=>?_) (fun hb=>?_)
  ·have Gq:i<t.list.length:=by simp[aO]at hb;omega
   obtain⟨x,hx⟩:∃ x,t.list[i]?=some x:=⟨_,List.getElem?_eq_getElem Gq⟩
   obtain⟨b,o,c,hv,M0⟩:=Io x hx
   refine aw (aW ?_)
   refine bk h (.t rfl) T.t3 (by omega) fun a h=>aN h (.t rfl) T.t3.var (GX.at (j:=3) rfl) (by omega) fun a h=>al h (.t rfl) (by omega) fun a h=>?_
   rw[hv]at h
   refine dF h (sz:=5) (.t rfl) (.t rfl) Gq T.dTs T.vT.size (by omega) fun a h=>?_
   refine ck h (cs:=cs') (.t rfl) (by rw[hl];exact T.vT) (ao.kn hk (ao.kn ME M0)) (by omega) fun a h=>?_
   exact fin a _ _ h (.t rfl) rfl _ _ fun a' w' hh=>.ret hh
  ·have Hm:¬ i<t.list.length:=by simp[aO]at hb;omega
   obtain rfl:=Hx (List.getElem?_eq_none (by omega))
   refine .skip (aw (aW ?_))
   refine iR h (qs:=#[]) (fun _ _ _=>by simp) (T.bT w2) (by omega) fun a h=>?_
   exact fin a _ _ h (.t rfl) rfl _ _ fun a' w' hh=>.ret hh
 rcases Nat.lt_or_ge i t.list.length with Gq|Hm
 ·obtain⟨x,hx⟩:∃ x,t.list[i]?=some x:=⟨_,List.getElem?_eq_getElem Gq⟩
  have Ha:t.at i=x:=by simp[Tr.at,List.getD,hx]
  obtain⟨b,o,c,cs',hv,JE,M0,Oh⟩:=h3.get hx
  exact⟨cs',by rw[Ha];exact Oh.up (by omega),main cs' JE Oh.one (fun x' hx'=>⟨b,o,c,hv,M0⟩) (fun hn=>by rw[hx]at hn;cases hn)⟩
 ·have Ha:t.at i=.zero:=by simp[Tr.at,List.getD,List.getElem?_eq_none Hm]
  exact⟨_,by rw[Ha];exact(TrRp.zero w0).up (by omega),main [.int .i64 0,aG,.bool false,aG,aG] rfl (by simp[Value.oneCell',aG]) (fun x hx=>by rw[List.getElem?_eq_none Hm]at hx;cases hx) (fun _=>rfl)⟩
end
end
section
open Go
set_option maxRecDepth 4000
structure KtC (P:Program)(S:SN):Prop where
 same:Cc P S
 usE:Ent P S.fUsual
 atD:∀ (k i:Nat) (cs:List Value) (t:Tr) (w0:World),TrRp w0 k cs t->∃ cs',TrRp w0 k cs' (t.at i)/\∀ w,ac (fun _=>False) w0 w->Calls P S.fAt [.agg cs.toArray,.int .i64 (i:Int)].toArray w fun e w'=>e=.returned (.agg cs'.toArray)/\ac (fun _=>False) w w'
 unD:∀ (sf:SFs) (fv uv:Value) (raw:List (UInt32 × Bs)) (W0 W:World),dI sf=true->ei W sf fv->du W 2 (gE W0) uv raw->Calls P S.fUnk [fv,uv].toArray W fun e w'=>∃ v es,e=.returned v/\cy w' W.heap.size S.tG v es/\(∀ e∈es,js W0 e.v e.b)/\es.map fY=de (ar sf) (raw.map fun p=>(p.1.toNat,p.2))/\ac (fun _=>False) W w'
 tGU:S.tG≠S.tU8
theorem xM (tag:Int)(U:Bool)(b:Bs)(q:Nat):((if 0<=tag/\U=false then[(tag.toNat,b)] else[]).filter fun p=>p.1==q)=if tag=(q:Int)/\U=false then[(q,b)] else[]:=by
 by_cases h:tag=(q:Int)/\U=false
 ·obtain⟨rfl,hU⟩:=h
  rw[if_pos ⟨by omega,hU⟩,if_pos ⟨rfl,hU⟩]
  simp
 ·rw[if_neg h]
  split
  ·rename_i h2
   have:¬ tag.toNat=q:=fun e=>h ⟨by omega,h2.2⟩
   simp[this]
  ·rfl
section
variable {P:Program} {S:SN}
theorem rp {ops:Array Oper}{C:World->Prop}{Q:Act->Prop}{r:List Oper}{n:Nat}{a:Act}{l:List (Nat × Value)}(h:St n a l){d j jd f:Nat}{b:Bool}{o:Oper}{args:List Operand}{vs:List Value}{v:Value}(ho:ops[j]?=some o)(Iq:o.dst=some jd)(hj:l.lookup jd=some (.bool b))(I6:jd<n)(hf:Ent P f)
  (GY:∀ (n:Nat) (a:Act),St n a l->args.map a.eval=vs) (hc:∀ w,C w->Calls P f vs.toArray w fun e w'=>e=.returned v/\C w') (hd:d<n) (c:∀ a',St n a' ((d,v)::l)->wpQuiet P ops C Q r a'):wpQuiet P ops C Q (gd d (.call ⟨.value (.func f),args.toArray,#[]⟩) j b::r) a:=by
 have hy:=bY ho Iq (by rw[h.size];exact I6) (h.get _ _ hj)
 unfold wpQuiet
 rw[if_pos (by simp[Region.wanted,gd,hy])]
 refine⟨v,fun w hC=>?_,c _ (h.put v hd)⟩
 unfold Oper.quietAt
 have:(execOp a.eval (gd d (.call ⟨.value (.func f),args.toArray,#[]⟩) j b)).run P w=.ok (.enter f vs.toArray) w:=by
  have he:a.eval (.func f)=.func (.func f) #[] #[]:=rfl
  have Pf:(args.map a.eval).toArray=vs.toArray:=by rw[GY n a h]
  simp only[execOp,gd,resolve,he,Deferred.ofValue,invoke,Sem.run_bind,Sem.run_pure,Result.andThen_ok,Array.empty_append,Array.append_empty,List.map_toArray,Pf]
  exact hf _ _
 rw[this]
 exact⟨rfl,hc w hC⟩
theorem r8 {n:Nat}{a:Act}{w:World}{l:List (Nat × Value)}(h:St n a l){d:Nat}{x:Operand}{F B O:Nat}{cs:List Value}(hx:Hd l x (pt B O))(hF:bd P F true cs.length)(hv:ao w B O cs):(execOp a.eval (mk (some d) (.load F x))).run P w=.ok (.value (.agg cs.toArray)) w:=by
 have hl:=run_loadCells_list (P:=P) w ⟨B,O,none⟩ cs (fun j v hj=>by rw[Addr.add_lit];exact hv j v hj)
 have e:=hx n a h
 simp only[pt]at e
 simp[execOp,mk,e,Instr.loadAt,Instr.sureAddr,loadVar,hF.agg w,hF.size w,hl]
theorem yu (C:LeafC P S)(K:KtC P S)(NU:Ent P S.fField){W:World}{sf:SFs}{fv x51 x52 v9:Value}{ver:Int}{k B q:Nat}{cs:List Value}{t:Tr}(GV:ei W sf fv)(ht:TrRp W k cs t)(hB:ao W B 0 cs)(Hs:ox P S sf)(IM:Ah P S sf)(hq:q<1000)
  {total:Bs} {nt:Nat} (hlim:total.length<=d7) {w0:World} {v0:Value} {bs0:Bs} {n0:Nat} (IC:aH w0 W.heap.size S.tU8 v0 bs0) (Hk:cv W w0) (LV:bs0++bH ((sTgd ver true sf 0 t).filter fun p=>p.1==q)=total) (Tv:n0+((sTgd ver true sf 0 t).filter fun p=>p.1==q).length=nt) (J1:n0<=bs0.length) {a:Act}
  (h:St 132 a [(0,fv),(1,.int .i64 ver),(2,.bool true),(7,pt B 0),(9,v9),(10,v0),(11,.int .i64 (n0:Int)),(14,.int .i64 (q:Int)),(51,x51),(52,x52)]) {R:Exit->Act->World->Prop}
  (hR:∀ (a':Act) (w':World) (v:Value),St 132 a' [(0,fv),(1,.int .i64 ver),(2,.bool true),(7,pt B 0),(9,v9),(10,v),(11,.int .i64 (nt:Int)),(51,x51),(52,x52)]->aH w' W.heap.size S.tU8 v total->cv W w'->nt<=total.length->R .normal a' w') :
  aQ P (.seq (rg (tu S)) (.block 4 (.loop (.seq (rg (tt S)) (.seq (.cond (tm 58) .skip (.exit 4)) (.seq (.block 5 (.seq (rg (tr S)) (.seq (.region 2 (qn S).toArray true) (.cond (tm 73) (.seq (.region 1 (tq S).toArray true) (.seq (rg (tl S)) (rg (tk S)))) .skip)))) (rg (qm S)))))))) R a w0:=by
 have T:=C.tab
 have I3:=ht.len
 obtain⟨base,c,KV,Gp,Mt⟩:=GV.form
 refine aw (aW (al h (.t rfl) (by omega) fun a h=>?_))
 have h':=h
 rw[KV]at h'
 refine cr h' (.t rfl) T.dFs (by omega) fun a h=>al h .i (by omega) fun a h=>wpList_nil ?_
 rw[<- KV]at h
 refine ee (fun m a' w'=>∃ (i:Nat) (rest:SFs) (v:Value) (bs:Bs) (n:Nat),i+m=sf.len/\rest.len=m/\ox P S rest/\Ah P S rest/\bs++bH ((sTgd ver true rest i t).filter fun p=>p.1==q)=total/\n+((sTgd ver true rest i t).filter fun p=>p.1==q).length=nt/\n<=bs.length/\aH w' W.heap.size S.tU8 v bs/\cv W w'/\(∀ b o,base=some ⟨b,o,none⟩->gM W sf b o->gM W rest b (o+i*8)) /\
   St 132 a' [(0,fv),(1,.int .i64 ver),(2,.bool true),(7,pt B 0),(9,v9),(10,v),(11,.int .i64 (n:Int)),(14,.int .i64 (q:Int)),(51,x51),(52,x52),(55,fv),(56,.int .i64 (sf.len:Int)),(57,.int .i64 (i:Int))]) sf.len
  ⟨sf.len,Nat.le_refl _,0,sf,v0,bs0,n0,by omega,rfl,Hs,IM,LV,Tv,J1,IC,Hk,fun b o _ hh=>by simpa using hh,h.pick ⟨rfl,rfl,rfl,rfl,rfl,rfl,rfl,rfl,rfl,rfl,rfl,rfl,rfl,trivial⟩⟩ ?_
 rintro m a w hm ⟨i,rest,v,bs,n,Lz,JB,HU,V6,G4,G8,Hi,hd,hk,Ha,h⟩
 refine aw (aW (aZ h rfl (.t rfl) (.t rfl) (by omega) fun a h=>wpList_nil ?_))
 refine gm h rfl (fun hb=>?_) (fun hb=>?_)
 ·have Gq:i<sf.len:=by simp[aO]at hb;omega
  refine .skip ?_
  cases hr:rest with
  | nil=>rw[hr]at JB;simp[SFs.len]at JB;omega
  | cons kind lo hi nul tag df of sub r=>
   subst hr
   obtain⟨b,o,He,OO⟩:=Mt.resolve_left (fun hh=>by rw[hh]at Gq;simp[SFs.len]at Gq)
   obtain⟨⟨sv,hc,IN⟩,JD⟩:=Ha b o He OO
   have hc:ao W b (o+i*8) (aJ kind lo hi nul tag df of sv):=hc
   have JI:ei W sub sv:=IN
   have OF:(i:Int)+1<=9223372036854775807:=by simp only[maxLen]at Gp;omega
   refine aw (.block (aw (aW (al h (.t rfl) (by omega) fun a h=>?_))))
   have h':=h
   rw[KV,He]at h'
   refine dF h' (sz:=8) (.t rfl) (.t rfl) Gq T.dFs T.vF.size (by omega) fun a h=>ck h (cs:=aJ kind lo hi nul tag df of sv) (.t rfl) T.vF (hk.cells hc) (by omega) fun a h=>?_
   rw[<- He,<- KV]at h
   refine eM h (T.zF w) (by omega) fun a h=>ah h (.t rfl) (by omega) fun a h=>?_
   have Mi:=mN (w:=w) (T:=S.tF) (z:=.agg #[.int .i64 0,.int .i64 0,.int .i64 0,.int .i64 0,.int .i64 0,.int .i64 0,.int .i64 0,aG]) (cs:=aJ kind lo hi nul tag df of sv) rfl
   refine fr h (cs:=aJ kind lo hi nul tag df of sv) (.t rfl) (.t rfl) (by simp[Value.cells]) T.vF.size (aB w _) rfl (jp kind lo hi nul tag df of (mI IN)) (wpList_nil ?_)
   obtain⟨Gs,GX⟩:=Mi
   generalize(w.alloc (.cells (Value.agg #[.int .i64 0,.int .i64 0,.int .i64 0,.int .i64 0,.int .i64 0,.int .i64 0,.int .i64 0,aG]).cells S.tF (0,0))).setRow w.heap.size (aJ kind lo hi nul tag df of sv).toArray=w2 at Gs GX ⊢
   have hg:W.heap.size<=w.heap.size:=hk.size
   have H7:aH w2 W.heap.size S.tU8 v bs:=hd.keep Gs fun _ _ h=>h
   have KX:=hk.kn Gs
   have J8:∀ j,v.ownBlock=some j->j<w.heap.size:=fun j hj=>(hd.own hj).2
   have h:St 132 a [(0,fv),(1,.int .i64 ver),(2,.bool true),(7,pt B 0),(9,v9),(10,v),(11,.int .i64 (n:Int)),(14,.int .i64 (q:Int)),(15,.int .i64 (i:Int)),(16,pt w.heap.size 0),(51,x51),(52,x52),(55,fv),(56,.int .i64 (sf.len:Int)),(57,.int .i64 (i:Int))]:=h.pick ⟨rfl,rfl,rfl,rfl,rfl,rfl,rfl,rfl,rfl,rfl,rfl,rfl,rfl,rfl,rfl,trivial⟩
   clear hd hk h'
   have KJ:(sTgd ver true (.cons kind lo hi nul tag df of sub r) i t).filter (fun p=>p.1==q)=(if tag=(q:Int)/\aX kind nul df (fun t=>ct sub 0 t&&(de (ar sub) t.tags).isEmpty) (t.at i)=false then[(q,dZ kind nul of ver true (aM ver true sub) (t.at i))] else[])++(sTgd ver true r (i+1) t).filter fun p=>p.1==q:=by
    simp only[sTgd,List.filter_append]
    rw[xM]
    rfl
   rw[KJ]at G4 G8
   have step:∀ (a:Act) (w3:World) (v3:Value) (bs3:Bs) (n3:Nat) (KK:Exit->Act->World->Prop),St 132 a [(0,fv),(1,.int .i64 ver),(2,.bool true),(7,pt B 0),(9,v9),(10,v3),(11,.int .i64 (n3:Int)),(14,.int .i64 (q:Int)),(51,x51),(52,x52),(55,fv),(56,.int .i64 (sf.len:Int)),(57,.int .i64 (i:Int))]->aH w3 W.heap.size S.tU8 v3 bs3->cv W w3 ->
     bs3++bH ((sTgd ver true r (i+1) t).filter fun p=>p.1==q)=total->n3+((sTgd ver true r (i+1) t).filter fun p=>p.1==q).length=nt->n3<=bs3.length ->
     aQ P (rg (qm S)) (Exit.then (fun a' w'=>∃ m',m'<=sf.len/\m'<m/\∃ (i:Nat) (rest:SFs) (v:Value) (bs:Bs) (n:Nat),i+m'=sf.len/\rest.len=m'/\ox P S rest/\Ah P S rest/\bs++bH ((sTgd ver true rest i t).filter fun p=>p.1==q)=total/\n+((sTgd ver true rest i t).filter fun p=>p.1==q).length=nt/\n<=bs.length/\aH w' W.heap.size S.tU8 v bs/\cv W w'/\(∀ b o,base=some ⟨b,o,none⟩->gM W sf b o->gM W rest b (o+i*8)) /\
      St 132 a' [(0,fv),(1,.int .i64 ver),(2,.bool true),(7,pt B 0),(9,v9),(10,v),(11,.int .i64 (n:Int)),(14,.int .i64 (q:Int)),(51,x51),(52,x52),(55,fv),(56,.int .i64 (sf.len:Int)),(57,.int .i64 (i:Int))]) KK) a w3:=by
    intro a w3 v3 bs3 n3 KK h H6 Gx LU Tu Tx
    refine aW (cK h (.t rfl) .i (by simp) (cY w3) (by omega) fun a h=>?_)
    have hw:IntKind.i64.wrap ((i:Int)+1)=((i+1:Nat):Int):=by simp[IntKind.wrap,IntKind.bits,IntKind.signed];omega
    rw[hw]at h
    refine al h (.t rfl) (by omega) fun a h=>wpList_nil ?_
    refine⟨m-1,by omega,by omega,i+1,r,v3,bs3,n3,by omega,by simp only[SFs.len]at JB;omega,HU.2,V6.2,LU,Tu,Tx,H6,Gx,fun b' o' hbo hh=>?_,h.pick ⟨rfl,rfl,rfl,rfl,rfl,rfl,rfl,rfl,rfl,rfl,rfl,rfl,rfl,trivial⟩⟩
    have:=(Ha b' o' hbo hh).2
    rw[show o'+(i+1)*8=o'+i*8+8 by omega]
    exact this
   obtain⟨csd,htd,UD⟩:=K.atD k i cs t w2 (ht.far KX)
   have Od:=fun w' (hC:ac (fun _=>False) w2 w')=>V6.1 w' kind lo hi nul tag df of sv k csd (t.at i) (JI.far (KX.kn hC)) (htd.far (cv.of hC))
   have test:∀ (KK:Exit->Act->World->Prop),(∀ a' w',St 132 a' [(73,.bool (decide (tag=(q:Int)/\aX kind nul df (fun t=>ct sub 0 t&&(de (ar sub) t.tags).isEmpty) (t.at i)=false))),(0,fv),(1,.int .i64 ver),(2,.bool true),(7,pt B 0),(9,v9),(10,v),(11,.int .i64 (n:Int)),(14,.int .i64 (q:Int)),(15,.int .i64 (i:Int)),(16,pt w.heap.size 0),(51,x51),(52,x52),(55,fv),(56,.int .i64 (sf.len:Int)),(57,.int .i64 (i:Int))]->ac (fun _=>False) w2 w'->KK .normal a' w')->aQ P (.region 2 (qn S).toArray true) KK a w2:=by
    intro KK KI
    generalize aX kind nul df (fun t=>ct sub 0 t&&(de (ar sub) t.tags).isEmpty) (t.at i)=bu at Od KI
    refine .drq (fun w'=>ac (fun _=>False) w2 w') (ac.drew _ _) ?_
    refine eN h (fun w' hC=>lS h (.t rfl) T.f4) (by omega) fun a h=>eN h (fun w' hC=>iS h (.t rfl) T.f4.var ((ao.kn hC GX).at (j:=4) rfl)) (by omega) fun a h=>eN h (fun w' hC=>dV h (.t rfl)) (by omega) fun a h=>?_
    refine eN h (fun w' hC=>kH h rfl (.t rfl) (.t rfl)) (by omega) fun a h=>eN h (fun w' hC=>dV h (.t rfl)) (by omega) fun a h=>?_
    cases ML:aO .eql tag (q:Int) with
    | false=>
     rw[ML]at h
     refine bK h rfl rfl rfl rfl rfl (by omega) (by simp) (by omega) fun a h=>bK h rfl rfl rfl rfl rfl (by omega) (by simp) (by omega) fun a h=>bK h rfl rfl rfl rfl rfl (by omega) (by simp) (by omega) fun a h=>?_
     refine bK h rfl rfl rfl rfl rfl (by omega) (by simp) (by omega) fun a h=>bK h rfl rfl rfl rfl rfl (by omega) (by simp) (by omega) fun a h=>bK h rfl rfl rfl rfl rfl (by omega) (by simp) (by omega) fun a h=>?_
     refine eN h (fun w' hC=>gX h (.t rfl) (.t rfl) .c) (by omega) fun a h=>k9 fun w' hC=>KI _ _ ?_ hC
     have Ie:¬ (tag=(q:Int)/\bu=false):=fun hh=>by simp[aO,hh.1]at ML
     rw[decide_eq_false Ie]
     exact h.pick ⟨rfl,rfl,rfl,rfl,rfl,rfl,rfl,rfl,rfl,rfl,rfl,rfl,rfl,rfl,rfl,rfl,trivial⟩
    | true=>
     rw[ML]at h
     have heq:tag=(q:Int):=by simpa[aO]using ML
     refine dN h rfl rfl rfl (by omega) (v:=.agg (aJ kind lo hi nul tag df of sv).toArray) (fun w' hC=>r8 h (.t rfl) T.vF (ao.kn hC GX)) (by omega) fun a h=>dN h rfl rfl rfl (by omega) (v:=.agg cs.toArray) (fun w' hC=>r8 h (.t rfl) (by rw[I3];exact T.vT) (cv.cells (KX.kn hC) hB)) (by omega) fun a h=>dN h rfl rfl rfl (by omega) (fun w' hC=>dV h (.t rfl)) (by omega) fun a h=>?_
     have h:=h.pick (m:=[(0,fv),(1,.int .i64 ver),(2,.bool true),(7,pt B 0),(9,v9),(10,v),(11,.int .i64 (n:Int)),(14,.int .i64 (q:Int)),(15,.int .i64 (i:Int)),(16,pt w.heap.size 0),(51,x51),(52,x52),(55,fv),(56,.int .i64 (sf.len:Int)),(57,.int .i64 (i:Int)),(66,.bool true),(67,.agg (aJ kind lo hi nul tag df of sv).toArray),(68,.agg cs.toArray),(69,.int .i64 (i:Int))]) ⟨rfl,rfl,rfl,rfl,rfl,rfl,rfl,rfl,rfl,rfl,rfl,rfl,rfl,rfl,rfl,rfl,rfl,rfl,rfl,trivial⟩
     generalize hFv:Value.agg (aJ kind lo hi nul tag df of sv).toArray=vF at h Od
     refine rp h rfl rfl rfl (by omega) C.atE (args:=[(tm 68),(tm 69)]) (vs:=[.agg cs.toArray,.int .i64 (i:Int)]) (v:=.agg csd.toArray) (fun n a h=>by
      simp only[List.map_cons,List.map_nil]
      rw[Hd.t (l:=_) (i:=68) rfl n a h,Hd.t (l:=_) (i:=69) rfl n a h]) (fun w' hC=>(UD w' hC).mono fun e w'' hR=>⟨hR.1,hC.trans hR.2⟩) (by omega) fun a h=>?_
     refine rp h rfl rfl rfl (by omega) K.usE (args:=[(tm 67),(tm 70)]) (vs:=[vF,.agg csd.toArray]) (v:=.bool bu) (fun n a h=>by
      simp only[List.map_cons,List.map_nil]
      rw[Hd.t (l:=_) (i:=67) rfl n a h,Hd.t (l:=_) (i:=70) rfl n a h]) (fun w' hC=>(Od w' hC).mono fun e w'' hR=>⟨hR.1,hC.trans hR.2⟩) (by omega) fun a h=>?_
     refine dN h rfl rfl rfl (by omega) (v:=.bool !bu) (fun w' hC=>by
      have e:=Hd.t (l:=_) (i:=71) (v:=.bool bu) rfl _ a h
      simp[execOp,mk,e,Op.unary]) (by omega) fun a h=>?_
     refine eN h (fun w' hC=>gX h (.t rfl) (.t rfl) .c) (by omega) fun a h=>k9 fun w' hC=>KI _ _ ?_ hC
     have Hj:decide (tag=(q:Int)/\bu=false)=!bu:=by cases bu<;>simp[heq]
     rw[Hj]
     exact h.pick ⟨rfl,rfl,rfl,rfl,rfl,rfl,rfl,rfl,rfl,rfl,rfl,rfl,rfl,rfl,rfl,rfl,trivial⟩
   refine aw (test _ fun a w3 h Gx=>?_)
   have H6:=H7.keep Gx fun _ _ h=>h
   have Km:=KX.kn Gx
   have Kd:=ao.kn Gx GX
   have Hh:w.heap.size<=w3.heap.size:=Nat.le_trans Gs.size Gx.size
   refine bf h rfl (fun hT=>?_) (fun hF=>.skip ?_)
   ·have GP:=of_decide_eq_true hT
    rw[if_pos GP]at G4 G8
    simp only[List.singleton_append,List.length_cons]at G8
    have e1:bH ([(q,dZ kind nul of ver true (aM ver true sub) (t.at i))]++(sTgd ver true r (i+1) t).filter fun p=>p.1==q)=iD (q,dZ kind nul of ver true (aM ver true sub) (t.at i))++bH ((sTgd ver true r (i+1) t).filter fun p=>p.1==q):=by simp[bH]
    rw[e1]at G4
    generalize HZ:dZ kind nul of ver true (aM ver true sub) (t.at i)=bb at G4
    have K1:bs.length+((uvar q).length+((uvar bb.length).length+bb.length))<=d7:=by
     have:=congrArg List.length G4
     simp only[List.length_append,iD]at this
     omega
    refine aw (rL [false,false,false,false,false,true,true,true] (fun w'=>ac (fun _=>False) w3 w') (by kernel_rfl) ?_)
    show gn P _ [mk (some 74) (.load S.tF (tm 16)),mk (some 75) (.move (tm 1)),mk (some 76) (.move (tm 2)),mk (some 77) (.load S.tT (tm 7)),mk (some 78) (.move (tm 15))] a
     fun af=>eK P _ _ [cl (some 79) S.fAt [(tm 77),(tm 78)],cl (some 80) S.fField [(tm 74),(tm 75),(tm 76),(tm 79)],mk (some 17) (.assign (tm 80))] af w3.drew
    refine fw h (cs:=aJ kind lo hi nul tag df of sv) (.t rfl) T.vF (fun w' hI=>ao.kn hI Kd) (by omega) fun a h=>db h (.t rfl) (by omega) fun a h=>db h (.t rfl) (by omega) fun a h=>fw h (cs:=cs) (.t rfl) (by rw[I3];exact T.vT) (fun w' hI=>cv.cells (Km.kn hI) hB) (by omega) fun a h=>db h (.t rfl) (by omega) fun a h=>jB ?_
    have IS:ac (fun _=>False) w3 w3.drew:=ac.drew _ _
    have K4:=h.pick (m:=[(0,fv),(1,.int .i64 ver),(2,.bool true),(7,pt B 0),(9,v9),(10,v),(11,.int .i64 (n:Int)),(14,.int .i64 (q:Int)),(51,x51),(52,x52),(55,fv),(56,.int .i64 (sf.len:Int)),(57,.int .i64 (i:Int)),(74,.agg (aJ kind lo hi nul tag df of sv).toArray),(75,.int .i64 ver),(76,.bool true),(77,.agg cs.toArray),(78,.int .i64 (i:Int))]) ⟨rfl,rfl,rfl,rfl,rfl,rfl,rfl,rfl,rfl,rfl,rfl,rfl,rfl,rfl,rfl,rfl,rfl,rfl,trivial⟩
    generalize hFv:Value.agg (aJ kind lo hi nul tag df of sv).toArray=vF at K4
    refine cR K4 IS C.atE (vs:=[.agg cs.toArray,.int .i64 (i:Int)]) (fun n a h=>by
     simp only[List.map_cons,List.map_nil]
     rw[Hd.t (l:=_) (i:=77) rfl n a h,Hd.t (l:=_) (i:=78) rfl n a h]) (C.atC k i cs t w3.drew (ht.far (Km.kn IS))) (by omega) fun e w4 hR4=>?_
    obtain⟨cs4,rfl,Nb,GH⟩:=hR4
    have HX:=IS.trans GH
    have Hy:=HU.1 w4 kind lo hi nul tag df of sv ver true k cs4 (t.at i) (JI.far (Km.kn HX)) (Nb.far (cv.of GH)) (by rw[HZ];omega)
    rw[hFv,HZ]at Hy
    refine⟨_,rfl,fun a h=>cR h HX NU (vs:=[vF,.int .i64 ver,.bool true,.agg cs4.toArray]) (fun n a h=>by
     simp only[List.map_cons,List.map_nil]
     rw[Hd.t (l:=_) (i:=74) rfl n a h,Hd.t (l:=_) (i:=75) rfl n a h,Hd.t (l:=_) (i:=76) rfl n a h,Hd.t (l:=_) (i:=79) rfl n a h]) Hy (by omega) fun e w5 hR5=>?_⟩
    obtain⟨u,rfl,hu,HC⟩:=hR5
    have HE:=HX.trans HC
    refine⟨u,rfl,fun a h=>fZ h HE (.t rfl) (by omega) fun a h=>j7 HE ?_⟩
    have LK:aH w5 W.heap.size S.tU8 v bs:=H6.keep HE fun _ _ h=>h
    have NI:=Km.kn HE
    have SX:w3.heap.size<=w4.heap.size:=HX.size
    have h:=h.pick (m:=[(0,fv),(1,.int .i64 ver),(2,.bool true),(7,pt B 0),(9,v9),(10,v),(11,.int .i64 (n:Int)),(14,.int .i64 (q:Int)),(17,u),(51,x51),(52,x52),(55,fv),(56,.int .i64 (sf.len:Int)),(57,.int .i64 (i:Int))]) ⟨rfl,rfl,rfl,rfl,rfl,rfl,rfl,rfl,rfl,rfl,rfl,rfl,rfl,rfl,trivial⟩
    show aQ P _ _ a w5
    obtain⟨bx,cx,Jk,_⟩:=hu.form
    refine aw (aW (al h (.t rfl) (by omega) fun a h=>al h (.t rfl) (by omega) fun a h=>eT h (.t rfl) T.dInt T.dU64 (by omega) fun a h=>?_))
    have Jc:IntKind.u64.wrap (q:Int)=(q:Int):=by simp[IntKind.wrap,IntKind.bits,IntKind.signed];omega
    rw[Jc]at h
    refine br h C.uvE (vs:=[.int .u64 (q:Int)]) (fun n a h=>by simp only[List.map_cons,List.map_nil];rw[Hd.t (l:=_) (i:=83) rfl n a h]) (C.uvC q w5 (by omega)) (by omega) fun e w6 hR6=>?_
    obtain⟨u1,rfl,Kr,I4⟩:=hR6
    have OR:=NI.kn I4
    have Ny:aH w6 W.heap.size S.tU8 v bs:=LK.keep I4 fun _ _ h=>h
    have Oc:aH w6 w4.heap.size S.tU8 u bb:=hu.keep I4 fun _ _ h=>h
    refine⟨u1,rfl,fun a h=>ik h T.oct (.t rfl) (.t rfl) Ny (ft T.oct Kr) OR.size (by omega) (by omega) fun v7 w7 a hg7 h=>?_⟩
    have OQ:=OR.up hg7.keeps fun j hj=>(Ny.own hj).1
    have S8:aH w7 w4.heap.size S.tU8 u bb:=Oc.keep hg7.keeps fun j hj hX=>by
     have h1:=(Oc.own hj).1
     have h2:=J8 j hX
     omega
    refine al h (.t rfl) (by omega) fun a h=>?_
    have h':=h
    rw[Jk]at h'
    refine cr h' (.t rfl) T.oct.und (by omega) fun a h=>eT h (.t rfl) T.dInt T.dU64 (by omega) fun a h=>?_
    rw[<- Jk]at h
    have Rs:bb.length<18446744073709551616:=by
     have:bb.length<=d7:=by omega
     simp only[d7]at this
     omega
    have Ik:IntKind.u64.wrap (bb.length:Int)=(bb.length:Int):=by
     have:bb.length<=d7:=by omega
     simp only[d7]at this
     simp[IntKind.wrap,IntKind.bits,IntKind.signed];omega
    rw[Ik]at h
    refine br h C.uvE (vs:=[.int .u64 (bb.length:Int)]) (fun n a h=>by simp only[List.map_cons,List.map_nil];rw[Hd.t (l:=_) (i:=88) rfl n a h]) (C.uvC bb.length w7 Rs) (by omega) fun e w8 hR8=>?_
    obtain⟨u2,rfl,Na,Mo⟩:=hR8
    have OP:=OQ.kn Mo
    have Rc:aH w8 W.heap.size S.tU8 v7 (bs++uvar q):=hg7.dst.keep Mo fun _ _ h=>h
    have S7:aH w8 w4.heap.size S.tU8 u bb:=S8.keep Mo fun _ _ h=>h
    have UH:∀ j,v7.ownBlock=some j->v.ownBlock=some j \/ w6.heap.size<=j:=fun j hj=>hg7.own j hj
    refine⟨u2,rfl,fun a h=>ik h T.oct (.t rfl) (.t rfl) Rc (ft T.oct Na) OP.size (by rw[List.length_append];omega) (by omega) fun v9' w9 a hg9 h=>?_⟩
    have QT:=OP.up hg9.keeps fun j hj=>(Rc.own hj).1
    have S6:aH w9 w4.heap.size S.tU8 u bb:=S7.keep hg9.keeps fun j hj hX=>by
     have h1:=(Oc.own hj)
     rcases UH j hX with h2|h2
     ·have:=J8 j h2;omega
     ·omega
    refine al h (.t rfl) (by omega) fun a h=>ik h T.oct (.t rfl) (.t rfl) hg9.dst (ft T.oct S6) QT.size (by rw[List.length_append,List.length_append];omega) (by omega) fun v10 w10 a hg10 h=>ah h (.t rfl) (by omega) fun a h=>wpList_nil ?_
    have OS:=QT.up hg10.keeps fun j hj=>(hg9.dst.own hj).1
    have If:n+1<=bs.length+(uvar q).length:=by have:=dq q;omega
    have hwn:IntKind.i64.wrap ((n:Int)+1)=((n+1:Nat):Int):=by
     have:n+1<=d7:=by omega
     simp only[d7]at this
     simp[IntKind.wrap,IntKind.bits,IntKind.signed];omega
    show aQ P _ _ a w10
    refine aW (al h (.t rfl) (by omega) fun a h=>cK h (.t rfl) .i (by simp) (cY w10) (by omega) fun a h=>?_)
    rw[hwn]at h
    refine ah h (.t rfl) (by omega) fun a h=>wpList_nil ?_
    refine step a w10 v10 (bs++uvar q++uvar bb.length++bb) (n+1) _ (h.pick ⟨rfl,rfl,rfl,rfl,rfl,rfl,rfl,rfl,rfl,rfl,rfl,rfl,rfl,trivial⟩) hg10.dst OS ?_ (by omega) (by simp only[List.length_append];omega)
    rw[<- G4]
    simp[iD]
   ·have H1:=of_decide_eq_false hF
    rw[if_neg H1,List.nil_append]at G4 G8
    exact step a w3 v bs n _ (h.pick ⟨rfl,rfl,rfl,rfl,rfl,rfl,rfl,rfl,rfl,rfl,rfl,rfl,rfl,trivial⟩) H6 Km G4 G8 Hi
 ·have Hm:¬ i<sf.len:=by simp[aO]at hb;omega
  have J9:rest=.nil:=by
   cases rest with
   | nil=>rfl
   | cons=>simp only[SFs.len]at JB;omega
  subst J9
  simp only[sTgd,List.filter_nil,bH,List.map_nil,List.flatten_nil,List.append_nil,List.length_nil,Nat.add_zero]at G4 G8
  subst G4 G8
  exact .exit (hR a w v (h.pick ⟨rfl,rfl,rfl,rfl,rfl,rfl,rfl,rfl,rfl,trivial⟩) hd hk Hi)
theorem yv (C:LeafC P S)(K:KtC P S)(NU:Ent P S.fField){W:World}{sf:SFs}{fv v9:Value}{ver:Int}{k B:Nat}{cs:List Value}{t:Tr}(GV:ei W sf fv)(ht:TrRp W k cs t)(hB:ao W B 0 cs)(Hs:ox P S sf)(IM:Ah P S sf)(Kl:ar sf<=1000)
  (hlim:(bH (dh (ar sf) (sTgd ver true sf 0 t))).length<=d7) {a:Act}
  (h:St 132 a [(0,fv),(1,.int .i64 ver),(2,.bool true),(7,pt B 0),(9,v9),(10,aG),(11,.int .i64 0),(51,.int .i64 (ar sf:Int)),(52,.int .i64 0)]) {R:Exit->Act->World->Prop}
  (hR:∀ (a':Act) (w':World) (v:Value),St 132 a' [(0,fv),(7,pt B 0),(9,v9),(10,v),(11,.int .i64 ((dh (ar sf) (sTgd ver true sf 0 t)).length:Int))]->aH w' W.heap.size S.tU8 v (bH (dh (ar sf) (sTgd ver true sf 0 t)))->cv W w'->(dh (ar sf) (sTgd ver true sf 0 t)).length<=(bH (dh (ar sf) (sTgd ver true sf 0 t))).length->R .normal a' w') :
  aQ P (.block 2 (.loop (.seq (rg (zd S)) (.seq (.cond (tm 53) .skip (.exit 2)) (.seq (.block 3 (.seq (rg (zb S)) (.seq (rg (tu S)) (.block 4 (.loop (.seq (rg (tt S)) (.seq (.cond (tm 58) .skip (.exit 4)) (.seq (.block 5 (.seq (rg (tr S)) (.seq (.region 2 (qn S).toArray true) (.cond (tm 73) (.seq (.region 1 (tq S).toArray true) (.seq (rg (tl S)) (rg (tk S)))) .skip)))) (rg (qm S)))))))))) (rg (za S))))))) R a W:=by
 have T:=C.tab
 generalize hl:sTgd ver true sf 0 t=l at hR hlim
 refine ee (fun m a' w'=>∃ (q:Nat) (v:Value) (bs:Bs) (n:Nat),q+m=ar sf/\bs++bH (((List.range (ar sf)).drop q).flatMap fun k=>l.filter fun p=>p.1==k)=bH (dh (ar sf) l)/\n+(((List.range (ar sf)).drop q).flatMap fun k=>l.filter fun p=>p.1==k).length=(dh (ar sf) l).length/\n<=bs.length/\aH w' W.heap.size S.tU8 v bs/\cv W w' /\
   St 132 a' [(0,fv),(1,.int .i64 ver),(2,.bool true),(7,pt B 0),(9,v9),(10,v),(11,.int .i64 (n:Int)),(51,.int .i64 (ar sf:Int)),(52,.int .i64 (q:Int))]) (ar sf)
  ⟨ar sf,Nat.le_refl _,0,aG,[],0,by omega,by simp[dh],by simp[dh],by simp,aH.nil _ _ _,cv.refl W,h⟩ ?_
 rintro m a w hm ⟨q,v,bs,n,hqm,G4,G8,Hi,hd,hk,h⟩
 refine aw (aW (aZ h rfl (.t rfl) (.t rfl) (by omega) fun a h=>wpList_nil ?_))
 refine gm h rfl (fun hb=>?_) (fun hb=>?_)
 ·have Gq:q<ar sf:=by simp[aO]at hb;omega
  have hdr:(List.range (ar sf)).drop q=q::(List.range (ar sf)).drop (q+1):=by
   rw[List.drop_eq_getElem_cons (by rw[List.length_range];exact Gq),List.getElem_range]
  rw[hdr,List.flatMap_cons]at G4 G8
  rw[List.length_append]at G8
  have e1:∀ x y:List (Nat × Bs),bH (x++y)=bH x++bH y:=fun x y=>by simp[bH]
  rw[e1,<- List.append_assoc]at G4
  refine .skip (aw (.block (aw (aW (al h (.t rfl) (by omega) fun a h=>ah h (.t rfl) (by omega) fun a h=>wpList_nil ?_)))))
  have Mm:(bs++bH (l.filter fun p=>p.1==q)).length<=d7:=by
   have:=congrArg List.length G4
   rw[List.length_append]at this
   omega
  refine yu C K NU (q:=q) (x51:=.int .i64 (ar sf:Int)) (x52:=.int .i64 (q:Int)) (v9:=v9) (ver:=ver) (total:=bs++bH (l.filter fun p=>p.1==q)) (nt:=n+(l.filter fun p=>p.1==q).length) GV ht hB Hs IM (by omega) Mm hd hk (by rw[hl]) (by rw[hl]) Hi (h.pick ⟨rfl,rfl,rfl,rfl,rfl,rfl,rfl,rfl,rfl,rfl,trivial⟩) fun a w2 v2 h H7 Gs GU=>?_
  refine aW (cK h (.t rfl) .i (by simp) (cY w2) (by omega) fun a h=>?_)
  have hw:IntKind.i64.wrap ((q:Int)+1)=((q+1:Nat):Int):=by simp[IntKind.wrap,IntKind.bits,IntKind.signed];omega
  rw[hw]at h
  refine al h (.t rfl) (by omega) fun a h=>wpList_nil ?_
  exact⟨m-1,by omega,by omega,q+1,v2,_,_,by omega,G4,by omega,GU,H7,Gs,h.pick ⟨rfl,rfl,rfl,rfl,rfl,rfl,rfl,rfl,rfl,trivial⟩⟩
 ·have Hm:¬ q<ar sf:=by simp[aO]at hb;omega
  rw[List.drop_of_length_le (by rw[List.length_range];omega)]at G4 G8
  simp only[List.flatMap_nil,bH,List.map_nil,List.flatten_nil,List.append_nil,List.length_nil,Nat.add_zero]at G4 G8
  have G4:bs=bH (dh (ar sf) l):=G4
  subst G4 G8
  exact .exit (hR a w v (h.pick ⟨rfl,rfl,rfl,rfl,rfl,trivial⟩) hd hk Hi)
end
end
section
open Go
set_option maxRecDepth 4000
def dY (e:mA):Bs:=iD (e.k.toNat,e.b.take aK)
section
variable {P:Program} {S:SN}
theorem wv (C:LeafC P S)(K:KtC P S){W W5:World}{L6:Nat}{ux v9 v0:Value}{es:List mA}{bs0:Bs}{n0:Nat}(Jf:cy W5 L6 S.tG ux es)(IZ:∀ e∈es,js W e.v e.b)(Nw:es.length<=aK)(IC:aH W5 W.heap.size S.tU8 v0 bs0)(Hk:cv W W5)(J1:n0<=bs0.length)
  {total:Bs} (hlim:total.length<=d7) (LV:bs0++(es.map dY).flatten=total) {a:Act}
  (h:St 132 a [(9,v9),(10,v0),(11,.int .i64 (n0:Int)),(100,ux),(101,.int .i64 (es.length:Int)),(102,.int .i64 0)]) {R:Exit->Act->World->Prop}
  (hR:∀ (a':Act) (w':World) (v:Value),St 132 a' [(9,v9),(10,v),(11,.int .i64 ((n0+es.length:Nat):Int))]->aH w' W.heap.size S.tU8 v total->cv W w'->R .normal a' w') :
  aQ P (.block 6 (.loop (.seq (rg (yZ S)) (.seq (.cond (tm 103) .skip (.exit 6)) (.seq (.block 7 (.seq (rg (yY S)) (.seq (rg (yX S)) (.seq (rg (yW S)) (rg (yV S)))))) (rg (yU S))))))) R a W5:=by
 have T:=C.tab
 have Lc:∀ {w:World} {v:Value} {bs:Bs},aH w W.heap.size S.tU8 v bs->cy w L6 S.tG ux es->∀ j,ux.ownBlock=some j->¬ v.ownBlock=some j:=by
  intro w v bs hd ho j hj hv
  rcases hd with⟨rfl,_⟩|⟨g,c,cur,rfl,_,hg,_⟩
  ·cases hv
  rcases ho with⟨rfl,_⟩|⟨g',c',cur',rfl,_,GA,_⟩
  ·cases hj
  obtain rfl:g=j:=Option.some.inj hv
  obtain rfl:g'=g:=Option.some.inj hj
  rw[hg]at GA
  simp only[Option.some.injEq,Obj.cells.injEq]at GA
  exact K.tGU GA.2.1.symm
 refine ee (fun m a' w'=>∃ (i:Nat) (v:Value) (bs:Bs),i+m=es.length/\bs++((es.drop i).map dY).flatten=total/\n0+i<=bs.length/\aH w' W.heap.size S.tU8 v bs/\cv W w'/\cy w' L6 S.tG ux es /\
   St 132 a' [(9,v9),(10,v),(11,.int .i64 ((n0+i:Nat):Int)),(100,ux),(101,.int .i64 (es.length:Int)),(102,.int .i64 (i:Int))]) es.length
  ⟨es.length,Nat.le_refl _,0,v0,bs0,by omega,by simpa using LV,by omega,IC,Hk,Jf,h⟩ ?_
 rintro m a w hm ⟨i,v,bs,Lz,G4,Py,hd,hk,ho,h⟩
 simp only[aK]at Nw
 refine aw (aW (aZ h rfl (.t rfl) (.t rfl) (by omega) fun a h=>wpList_nil ?_))
 refine gm h rfl (fun hb=>?_) (fun hb=>?_)
 ·have Gq:i<es.length:=by simp[aO]at hb;omega
  obtain⟨x,hx⟩:∃ x,es[i]?=some x:=⟨_,List.getElem?_eq_getElem Gq⟩
  obtain⟨g,c,hv,_,GE⟩:=ho.get hx
  have Jd:js W x.v x.b:=IZ x (List.mem_of_getElem? hx)
  have Ju:((es.drop i).map dY).flatten=dY x++((es.drop (i+1)).map dY).flatten:=by
   rw[List.drop_eq_getElem_cons Gq,(List.getElem?_eq_some_iff.1 hx).2]
   simp
  rw[Ju]at G4
  refine .skip (aw (.block (aw (aW ?_))))
  have h':=h
  rw[hv]at h'
  refine dF h' (sz:=2) (.t rfl) (.t rfl) Gq T.dGs T.vG.size (by omega) fun a h=>ck h (cs:=[.int .u32 (x.k.toNat:Int),x.v]) (.t rfl) T.vG GE (by omega) fun a h=>?_
  rw[<- hv]at h
  have GG:∀ u∈[Value.int .u32 (x.k.toNat:Int),x.v],u.oneCell'=true:=by
   obtain⟨_,_,e,_⟩:=Jd.form
   intro u hu
   simp only[List.mem_cons,List.not_mem_nil,or_false]at hu
   rcases hu with rfl|rfl
   ·rfl
   ·rw[e];rfl
  refine lP h (cs:=[.int .u32 (x.k.toNat:Int),x.v]) T.zG rfl (fun _=>.t rfl) T.vG.size GG (by omega) fun w2 a Gs GX h=>wpList_nil ?_
  have KX:=hk.kn Gs
  have H7:aH w2 W.heap.size S.tU8 v bs:=hd.keep Gs fun _ _ h=>h
  have No:cy w2 L6 S.tG ux es:=ho.keep Gs fun _ _ h=>h
  have J8:∀ j,v.ownBlock=some j->j<w.heap.size:=fun j hj=>(hd.own hj).2
  refine aw (aW (bk h (.t rfl) T.g1 (by omega) fun a h=>aN h (.t rfl) T.g1.var (GX.at (j:=1) rfl) (by omega) fun a h=>?_))
  refine br h C.whE (vs:=[x.v]) (fun n a h=>by simp only[List.map_cons,List.map_nil];rw[Hd.t (l:=_) (i:=107) rfl n a h]) (C.whC w2 (fun k=>W.heap.size<=k) x.v x.b ((Jd.mono fun k hk hX=>by omega).keep KX)) (by omega) fun e w3 hR3=>?_
  obtain⟨v20,rfl,PL,rfl⟩:=hR3
  obtain⟨bx,cx,Jk,_⟩:=PL.form
  have Qt:=fe x.b
  have Gk:(dY x).length=(uvar x.k.toNat).length+((uvar (x.b.take aK).length).length+(x.b.take aK).length):=by simp[dY,iD]
  have KM:bs.length+(dY x).length<=d7:=by
   have:=congrArg List.length G4
   simp only[List.length_append]at this
   omega
  refine⟨v20,rfl,fun a h=>ah h (.t rfl) (by omega) fun a h=>wpList_nil ?_⟩
  have h:=h.pick (m:=[(9,v9),(10,v),(11,.int .i64 ((n0+i:Nat):Int)),(19,pt w.heap.size 0),(20,v20),(100,ux),(101,.int .i64 (es.length:Int)),(102,.int .i64 (i:Int))]) ⟨rfl,rfl,rfl,rfl,rfl,rfl,rfl,rfl,trivial⟩
  refine aw (aW (al h (.t rfl) (by omega) fun a h=>bk h (.t rfl) T.g0 (by omega) fun a h=>aN h (.t rfl) T.g0.var (GX.at (j:=0) rfl) (by omega) fun a h=>eT h (.t rfl) T.dU32 T.dU64 (by omega) fun a h=>?_))
  have hx32:=x.k.toNat_lt
  have Jc:IntKind.u64.wrap (x.k.toNat:Int)=(x.k.toNat:Int):=by simp[IntKind.wrap,IntKind.bits,IntKind.signed];omega
  rw[Jc]at h
  refine br h C.uvE (vs:=[.int .u64 (x.k.toNat:Int)]) (fun n a h=>by simp only[List.map_cons,List.map_nil];rw[Hd.t (l:=_) (i:=112) rfl n a h]) (C.uvC x.k.toNat w3 (by omega)) (by omega) fun e w4 hR4=>?_
  obtain⟨u1,rfl,Kr,GH⟩:=hR4
  have K6:=KX.kn GH
  have KF:aH w4 W.heap.size S.tU8 v bs:=H7.keep GH fun _ _ h=>h
  have Ql:=No.keep GH fun _ _ h=>h
  refine⟨u1,rfl,fun a h=>ik h T.oct (.t rfl) (.t rfl) KF (ft T.oct Kr) K6.size (by omega) (by omega) fun v5 w5 a II h=>?_⟩
  have NI:=K6.up II.keeps fun j hj=>(KF.own hj).1
  have Ts:=Ql.keep II.keeps (Lc KF Ql)
  refine al h (.t rfl) (by omega) fun a h=>?_
  have h':=h
  rw[Jk]at h'
  refine cr h' (.t rfl) T.oct.und (by omega) fun a h=>eT h (.t rfl) T.dInt T.dU64 (by omega) fun a h=>?_
  rw[<- Jk]at h
  have Ik:IntKind.u64.wrap ((x.b.take aK).length:Int)=((x.b.take aK).length:Int):=by simp only[aK]at Qt;simp[IntKind.wrap,IntKind.bits,IntKind.signed,-List.length_take];simp only[aK];omega
  rw[Ik]at h
  refine br h C.uvE (vs:=[.int .u64 ((x.b.take aK).length:Int)]) (fun n a h=>by simp only[List.map_cons,List.map_nil];rw[Hd.t (l:=_) (i:=117) rfl n a h]) (C.uvC (x.b.take aK).length w5 (by simp only[aK]at Qt ⊢;omega)) (by omega) fun e w6 hR6=>?_
  obtain⟨u2,rfl,Na,I4⟩:=hR6
  have OR:=NI.kn I4
  have Ny:aH w6 W.heap.size S.tU8 v5 (bs++uvar x.k.toNat):=II.dst.keep I4 fun _ _ h=>h
  have Qk:=Ts.keep I4 fun _ _ h=>h
  refine⟨u2,rfl,fun a h=>ik h T.oct (.t rfl) (.t rfl) Ny (ft T.oct Na) OR.size (by rw[List.length_append];omega) (by omega) fun v7 w7 a hg7 h=>?_⟩
  have OQ:=OR.up hg7.keeps fun j hj=>(Ny.own hj).1
  have VA:=Qk.keep hg7.keeps (Lc Ny Qk)
  have hv7:p7 w7 (fun k=>W.heap.size<=k) v20 (x.b.take aK):=
   (((PL.keep (GH.mono fun _ _ h=>h.elim)).keep (II.keeps.mono fun j _ hj=>(KF.own hj).1)).keep (I4.mono fun _ _ h=>h.elim)).keep (hg7.keeps.mono fun j _ hj=>(Ny.own hj).1)
  refine al h (.t rfl) (by omega) fun a h=>ik h T.oct (.t rfl) (.t rfl) hg7.dst (sM T.oct hv7) OQ.size (by rw[List.length_append,List.length_append];omega) (by omega) fun v8 w8 a L1 h=>ah h (.t rfl) (by omega) fun a h=>wpList_nil ?_
  have OP:=OQ.up L1.keeps fun j hj=>(hg7.dst.own hj).1
  have ho8:=VA.keep L1.keeps (Lc hg7.dst VA)
  have If:n0+i+1<=bs.length+(uvar x.k.toNat).length:=by have:=dq x.k.toNat;omega
  have Qo:IntKind.i64.wrap (((n0+i:Nat):Int)+1)=((n0+(i+1):Nat):Int):=by
   have:n0+i+1<=d7:=by omega
   simp only[d7]at this
   simp[IntKind.wrap,IntKind.bits,IntKind.signed];omega
  have hwi:IntKind.i64.wrap ((i:Int)+1)=((i+1:Nat):Int):=by simp[IntKind.wrap,IntKind.bits,IntKind.signed];omega
  refine aW (al h (.t rfl) (by omega) fun a h=>cK h (.t rfl) .i (by simp) (cY w8) (by omega) fun a h=>?_)
  rw[Qo]at h
  refine ah h (.t rfl) (by omega) fun a h=>wpList_nil ?_
  refine aW (cK h (.t rfl) .i (by simp) (cY w8) (by omega) fun a h=>?_)
  rw[hwi]at h
  refine al h (.t rfl) (by omega) fun a h=>wpList_nil ?_
  refine⟨m-1,by omega,by omega,i+1,v8,bs++uvar x.k.toNat++uvar (x.b.take aK).length++x.b.take aK,by omega,?_,by simp only[List.length_append];omega,L1.dst,OP,ho8,h.pick ⟨rfl,rfl,rfl,rfl,rfl,rfl,trivial⟩⟩
  rw[<- G4]
  simp[dY,iD]
 ·have Hm:¬ i<es.length:=by simp[aO]at hb;omega
  rw[List.drop_of_length_le (by omega)]at G4
  simp only[List.map_nil,List.flatten_nil,List.append_nil]at G4
  subst G4
  have hi:i=es.length:=by omega
  subst hi
  exact .exit (hR a w v (h.pick ⟨rfl,rfl,rfl,trivial⟩) hd hk)
theorem pf (C:LeafC P S)(K:KtC P S)(hfn:FnIs P S.fPart 132 [8] (csPt S))(NU:Ent P S.fField){sf:SFs}(KC:dI sf=true)(Hs:ox P S sf)(IM:Ah P S sf):p5 P S sf:=by
 intro W ver fx k cs t fv GV ht hlim
 have T:=C.tab
 have P2:=lR sf KC
 have Id:(cD ver fx sf 0 t).length<=d7:=by
  rw[aM,List.length_append]at hlim
  omega
 refine dm T.mixed hfn (by simp) _ (by simp) fun a h=>?_
 unfold csPt
 refine aw (aW (dG h (cs:=cs) (.t rfl) (by omega) fun a h=>?_))
 have Gy:ac (fun _=>False) W (W.alloc (.cells cs.toArray S.tT (0,0))):=ac.alloc _ _ _
 have hB:=ce W cs S.tT
 generalize W.alloc (.cells cs.toArray S.tT (0,0))=w1 at Gy hB ⊢
 have KD:cv W w1:=cv.of Gy
 refine ah h .c (by omega) fun a h=>wpList_nil ?_
 refine aw (aW (ah h .c (by omega) fun a h=>ah h .c (by omega) fun a h=>wpList_nil ?_))
 refine aw (aW (ah h .i (by omega) fun a h=>wpList_nil ?_))
 refine aw (yw C NU (GV.far KD) (ht.far KD) hB Hs Id (h.pick ⟨rfl,rfl,rfl,rfl,rfl,rfl,rfl,trivial⟩) fun a w3 v h hd Km=>?_)
 have Ld:ac (fun _=>False) W w3:=Gy.trans Km.keeps
 refine aw (aw (aW (al h (.t rfl) (by omega) fun a h=>pS h (.t rfl) (by omega) fun a h=>wpList_nil ?_)))
 cases fx with
 | false=>
  refine bf h rfl (fun _=>?_) (fun hb=>by cases hb)
  refine aw (aW (al h (.t rfl) (by omega) fun a h=>ah h (.t rfl) (by omega) fun a h=>wpList_nil (.ret ?_)))
  have e:aM ver false sf t=cD ver false sf 0 t:=by
   rw[aM];simp[gy]
  rw[e]
  exact fQ (RR:=b8 S.tU8 (cD ver false sf 0 t) W) h rfl ⟨v,rfl,(Gr.lower Gy.size (Gr.refl hd)).dst,Ld⟩
 | true=>
  refine bf h rfl (fun hb=>by cases hb) (fun _=>?_)
  refine .skip (aw (aw (aW (al h (.t rfl) (by omega) fun a h=>?_))))
  refine br h C.knE (vs:=[fv]) (fun n a h=>by simp only[List.map_cons,List.map_nil];rw[Hd.t (l:=_) (i:=49) rfl n a h]) (C.knC sf fv w3 KC ((GV.far KD).far Km)) (by omega) fun e w4 hR4=>?_
  obtain⟨rfl,GH⟩:=hR4
  refine⟨_,rfl,fun a h=>eT h (.t rfl) T.dU32 T.dInt (by omega) fun a h=>?_⟩
  have PH:IntKind.i64.wrap (ar sf:Int)=(ar sf:Int):=by simp[IntKind.wrap,IntKind.bits,IntKind.signed];omega
  rw[PH]at h
  refine al h .i (by omega) fun a h=>wpList_nil ?_
  have K6:cv w1 w4:=Km.kn GH
  have MP:=K6.cells hB
  have KF:aH w4 w1.heap.size S.tU8 v (cD ver true sf 0 t):=hd.keep GH fun _ _ h=>h
  have QO:=(GV.far KD).far K6
  have Nb:=(ht.far KD).far K6
  have epart:aM ver true sf t=cD ver true sf 0 t++(uvar ((dh (ar sf) (sTgd ver true sf 0 t)).length+(de (ar sf) t.tags).length)++(bH (dh (ar sf) (sTgd ver true sf 0 t))++bH ((de (ar sf) t.tags).map fun p=>(p.1,p.2.take aK)))):=by
   rw[aM];simp[gy]
  rw[epart]at hlim
  simp only[List.length_append]at hlim
  refine yv C K NU (v9:=v) (ver:=ver) QO Nb MP Hs IM P2 (by omega) (h.pick ⟨rfl,rfl,rfl,rfl,rfl,rfl,rfl,rfl,rfl,trivial⟩) fun a w5 v10 h hd10 NI Hi=>?_
  generalize hN:(dh (ar sf) (sTgd ver true sf 0 t)).length=NK at hlim h Hi epart
  generalize hS:bH (dh (ar sf) (sTgd ver true sf 0 t))=SK at hlim hd10 Hi epart
  have Vc:=cv.cells NI MP
  obtain⟨uv,LP,Gn⟩:∃ uv,du w5 2 (gE w4) uv t.raw/\w5.cell? ⟨W.heap.size,0+4,none⟩=some uv:=by
   cases k with
   | zero=>exact Nb.elim
   | succ k=>
    obtain⟨sv,lv,uv,rfl,_,_,LP⟩:=Nb
    exact⟨uv,LP.imp (fun b o cs hc=>NI.cells hc) (fun cs x hx=>hx),Vc.at (j:=4) rfl⟩
  refine aw (aw (aW (al h (.t rfl) (by omega) fun a h=>bk h (.t rfl) T.t4 (by omega) fun a h=>aN h (.t rfl) T.t4.var Gn (by omega) fun a h=>?_)))
  refine br h C.unE (vs:=[fv,uv]) (fun n a h=>by simp only[List.map_cons,List.map_nil];rw[Hd.t (l:=_) (i:=97) rfl n a h,Hd.t (l:=_) (i:=99) rfl n a h]) (K.unD sf fv uv t.raw w4 w5 KC (QO.far NI) LP) (by omega) fun e w6 hR6=>?_
  obtain⟨ux,es,rfl,Qk,IZ,IH,I4⟩:=hR6
  have eU:de (ar sf) t.tags=es.map fY:=by rw[IH,ro];rfl
  rw[eU]at hlim epart
  have eP:bH ((es.map fY).map fun p=>(p.1,p.2.take aK))=(es.map dY).flatten:=by
   simp only[bH,List.map_map]
   rfl
  rw[eP]at hlim epart
  rw[List.length_map]at hlim epart
  have Nw:es.length<=aK:=by
   have h2:=(qf (ar sf) t).2.2
   rw[eU,List.length_map]at h2
   exact h2
  have OR:cv w4 w6:=NI.kn I4
  have Rf:aH w6 w4.heap.size S.tU8 v10 SK:=hd10.keep I4 fun _ _ h=>h
  obtain⟨bx,cx,Jk,_⟩:=Qk.form
  refine⟨ux,rfl,fun a h=>?_⟩
  have h':=h
  rw[Jk]at h'
  refine cr h' (.t rfl) T.dGs (by omega) fun a h=>al h .i (by omega) fun a h=>wpList_nil ?_
  rw[<- Jk]at h
  refine wv C K (v9:=v) (n0:=NK) (total:=SK++(es.map dY).flatten) Qk IZ Nw Rf OR Hi (by rw[List.length_append];omega) rfl (h.pick ⟨rfl,rfl,rfl,rfl,rfl,rfl,trivial⟩) fun a w7 v11 h Re OQ=>?_
  have P5:aH w7 w1.heap.size S.tU8 v (cD ver true sf 0 t):=KF.keep OQ fun j hj=>by have:=(KF.own hj).2;omega
  have hf7':cv w1 w7:=K6.up OQ fun j hj=>Nat.le_trans K6.size hj
  refine aw (aW (al h (.t rfl) (by omega) fun a h=>al h (.t rfl) (by omega) fun a h=>eT h (.t rfl) T.dInt T.dU64 (by omega) fun a h=>?_))
  have hNl:NK+es.length<18446744073709551616:=by
   simp only[aK]at Nw
   have:SK.length<=d7:=by omega
   simp only[d7]at this
   omega
  have hw:IntKind.u64.wrap ((NK+es.length:Nat):Int)=((NK+es.length:Nat):Int):=by simp[IntKind.wrap,IntKind.bits,IntKind.signed];omega
  rw[hw]at h
  refine br h C.uvE (vs:=[.int .u64 ((NK+es.length:Nat):Int)]) (fun n a h=>by simp only[List.map_cons,List.map_nil];rw[Hd.t (l:=_) (i:=127) rfl n a h]) (C.uvC (NK+es.length) w7 hNl) (by omega) fun e w8 hR8=>?_
  obtain⟨u,rfl,hu,Mo⟩:=hR8
  have OP:=hf7'.kn Mo
  have Rc:aH w8 w1.heap.size S.tU8 v (cD ver true sf 0 t):=P5.keep Mo fun _ _ h=>h
  refine⟨u,rfl,fun a h=>ik h T.oct (.t rfl) (.t rfl) Rc (ft T.oct hu) OP.size (by omega) (by omega) fun v8 w9 a L1 h=>?_⟩
  have QT:=OP.up L1.keeps fun j hj=>(Rc.own hj).1
  have hd11':aH w9 w4.heap.size S.tU8 v11 (SK++(es.map dY).flatten):=(Re.keep Mo fun _ _ h=>h).keep L1.keeps fun j hj hX=>by
   have h1:=(Re.own hj).1
   have h2:=(KF.own hX).2
   omega
  refine al h (.t rfl) (by omega) fun a h=>ik h T.oct (.t rfl) (.t rfl) L1.dst (ft T.oct hd11') QT.size (by rw[List.length_append,List.length_append];omega) (by omega) fun v9 w10 a hg9 h=>ah h (.t rfl) (by omega) fun a h=>wpList_nil (.ret ?_)
  have OS:=QT.up hg9.keeps fun j hj=>(L1.dst.own hj).1
  refine fQ (RR:=b8 S.tU8 (aM ver true sf t) W) h rfl ⟨v9,rfl,?_,Gy.trans OS.keeps⟩
  rw[epart,<- List.append_assoc]
  exact(Gr.lower Gy.size (Gr.refl hg9.dst)).dst
def wg:SFs->Bool
 | .nil=>true
 | .cons _ _ _ _ tag _ _ sub r=>decide (tag<1000)&&wg sub&&wg r
theorem lQ:∀ sf:SFs,wg sf=true->dI sf=true
 | .nil,_=>rfl
 | .cons _ _ _ _ tag _ _ sub r,h=>by
  simp only[wg,Bool.and_eq_true]at h
  simp only[dI,Bool.and_eq_true]
  exact⟨h.1.1,lQ r h.2⟩
theorem ref_callsT (C:LeafC P S)(K:KtC P S)(hP:FnIs P S.fPart 132 [8] (csPt S))(hF:FnIs P S.fField 76 [8] (csFl S))(hV:FnIs P S.fVal 70 [12] (csVa S))(hU:FnIs P S.fUsual 91 [4] (csUs S)):∀ sf:SFs,wg sf=true->p5 P S sf/\ox P S sf/\Ah P S sf
 | .nil,_=>⟨pf C K hP hF.ent rfl trivial trivial,trivial,trivial⟩
 | .cons kind lo hi nul tag df of sub r,h=>by
  have Iy:=lQ _ h
  simp only[wg,Bool.and_eq_true]at h
  have hs:=ref_callsT C K hP hF hV hU sub h.1.2
  have hr:=ref_callsT C K hP hF hV hU r h.2
  have Hs:ox P S (.cons kind lo hi nul tag df of sub r):=⟨zN C hF hP.ent hV.ent hs.1 (xB C hV hP.ent hs.1),hr.2.1⟩
  have IM:Ah P S (.cons kind lo hi nul tag df of sub r):=⟨xF C K.same hU (lQ sub h.1.2) hs.2.2,hr.2.2⟩
  exact⟨pf C K hP hF.ent Iy Hs IM,Hs,IM⟩
theorem ktC_of (T:RefT P S)(hAt:FnIsC P S.fAt 16 4 S.tT (csAt S))(RB:Ent P S.fKnown)(hK:∀ (sf:SFs) (fv:Value) (w:World),dI sf=true->ei w sf fv->Calls P S.fKnown [fv].toArray w fun e w'=>e=.returned (.int .u32 (ar sf:Int))/\ac (fun _=>False) w w')(hUn:FnIs P S.fUnk 85 [4] (csUn S))(NR:Ent P S.fUsual)
  {ntSm:Nat} (R4:FnIs P S.fSame ntSm [4] (cSame S.tSl S.tU8 S.tInt)) (G8:26<=ntSm) (h8:bd P S.tU8 false 1) (Ie:S.tG≠S.tU8):KtC P S where
 same:=⟨R4.ent,fun _ _ _ _ _ _ ha hb Ml=>nE T.mixed T.oct h8 R4 G8 ha hb Ml⟩
 usE:=NR
 atD:=fun _ _ _ _ w0 ht=>Dl T hAt w0 ht
 unD:=fun sf fv uv raw W0 W KC GV Md=>oP T RB hK hUn sf fv uv raw W0 W KC GV Md
 tGU:=Ie
end
end
end Go.Proofs.YtbgklecbmhaadaaGreatDoor.Kx