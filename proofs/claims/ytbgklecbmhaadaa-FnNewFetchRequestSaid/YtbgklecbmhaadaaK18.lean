/-
  PLAIN LAWS AND CONTRACTS of messages, part 18 of 18: how readers and writers are printed, what they do, what the reference writes, and that what is written is read as the same. Nothing of a statement stands here.
-/
import Derived.Test.YtbgklecbmhaadaaK1
import Derived.Test.YtbgklecbmhaadaaK2
import Derived.Test.YtbgklecbmhaadaaK3
import Derived.Test.YtbgklecbmhaadaaK4
import Derived.Test.YtbgklecbmhaadaaK6
import Derived.Test.YtbgklecbmhaadaaK8
import Derived.Test.YtbgklecbmhaadaaK9
import Derived.Test.YtbgklecbmhaadaaK10
import Derived.Test.YtbgklecbmhaadaaK11
import Derived.Test.YtbgklecbmhaadaaK12
import Derived.Test.YtbgklecbmhaadaaK13
import Derived.Test.YtbgklecbmhaadaaK14
import Derived.Test.YtbgklecbmhaadaaK15
import Derived.Test.YtbgklecbmhaadaaK16
import Derived.KernelRfl
import Derived.Laws.IdiomStrings

namespace Go.Proofs.Ytbgklecbmhaadaa.Kx
open Go
set_option maxRecDepth 4000
def ous_0 (S:SN):List Oper:=[mk (some 2) (.box S.tF (tm 0)),mk (some 3) (.box S.tT (tm 1)),mk (some 4) (.assign (.const (.bool false)))]
def ous_1 (S:SN):List Oper:=[mk (some 9) (.fieldAddr S.tF (tm 2) 0),mk (some 10) (.load S.tInt (tm 9))]
def ous_2 (S:SN):List Oper:=[mk (some 12) (.binOp .eql S.tInt (tm 10) (ki .i64 0) 0),mk (some 11) (.assign (tm 12))]
def ous_3 (S:SN):List Oper:=[mk (some 13) (.fieldAddr S.tT (tm 3) 0),mk (some 14) (.load S.tI64 (tm 13)),mk (some 15) (.binOp .and S.tI64 (tm 14) (ki .i64 1) 0),mk (some 16) (.fieldAddr S.tF (tm 2) 5),mk (some 17) (.load S.tI64 (tm 16)),mk (some 18) (.binOp .eql S.tI64 (tm 15) (tm 17) 0),mk (some 4) (.assign (tm 18))]
def ous_4 (S:SN):List Oper:=[mk (some 20) (.binOp .eql S.tInt (tm 10) (ki .i64 7) 0),mk (some 19) (.assign (tm 20))]
def ous_5 (S:SN):List Oper:=[mk (some 21) (.fieldAddr S.tT (tm 3) 1),mk (some 22) (.load S.tSl (tm 21)),bi (some 23) .len [(tm 22)] [S.tSl] S.tInt,mk (some 24) (.move (ki .i64 0))]
def ous_6 (S:SN):List Oper:=[mk (some 25) (.binOp .lss S.tInt (tm 24) (tm 23) 0)]
def ous_7 (S:SN):List Oper:=[mk (some 26) (.move (tm 24)),mk (some 27) (.indexAddr S.tSl (tm 22) (tm 24)),mk (some 28) (.load S.tU8 (tm 27)),mk (some 5) (.assign (tm 26)),mk (some 6) (.assign (tm 28))]
def ous_8 (S:SN):List Oper:=[mk (some 29) (.move (tm 5)),mk (some 30) (.binOp .lss S.tInt (tm 29) (ki .i64 16) 0),mk (some 31) (.move (tm 30)),gd 32 (.move (tm 6)) 2 true,gd 33 (.binOp .neq S.tU8 (tm 32) (ki .u8 0) 0) 2 true,mk (some 34) (.pick (tm 31) (tm 33) (.const (.bool false)))]
def ous_9 (_S:SN):List Oper:=[mk (some 4) (.assign (.const (.bool false)))]
def ous_10 (S:SN):List Oper:=[mk (some 35) (.binOp .add S.tInt (tm 24) (ki .i64 1) 0),mk (some 24) (.move (tm 35))]
def ous_11 (_S:SN):List Oper:=[mk (some 4) (.assign (.const (.bool true)))]
def ous_12 (S:SN):List Oper:=[mk (some 37) (.binOp .eql S.tInt (tm 10) (ki .i64 8) 0),mk (some 36) (.assign (tm 37))]
def ous_13 (S:SN):List Oper:=[mk (some 38) (.binOp .eql S.tInt (tm 10) (ki .i64 9) 0),mk (some 36) (.assign (tm 38))]
def ous_14 (S:SN):List Oper:=[mk (some 39) (.fieldAddr S.tF (tm 2) 3),mk (some 40) (.load S.tInt (tm 39)),mk (some 41) (.binOp .geq S.tInt (tm 40) (ki .i64 0) 0)]
def ous_15 (S:SN):List Oper:=[mk (some 42) (.fieldAddr S.tT (tm 3) 2),mk (some 43) (.load S.tB (tm 42)),mk (some 4) (.assign (tm 43))]
def ous_16 (S:SN):List Oper:=[mk (some 44) (.fieldAddr S.tT (tm 3) 1),mk (some 45) (.load S.tSl (tm 44)),bi (some 46) .len [(tm 45)] [S.tSl] S.tInt,mk (some 47) (.binOp .eql S.tInt (tm 46) (ki .i64 0) 0),mk (some 4) (.assign (tm 47))]
def ous_17 (S:SN):List Oper:=[mk (some 49) (.binOp .eql S.tInt (tm 10) (ki .i64 11) 0),mk (some 48) (.assign (tm 49))]
def ous_18 (S:SN):List Oper:=[mk (some 50) (.fieldAddr S.tT (tm 3) 3),mk (some 51) (.load S.tTs (tm 50)),bi (some 52) .len [(tm 51)] [S.tTs] S.tInt,mk (some 53) (.binOp .eql S.tInt (tm 52) (ki .i64 0) 0),mk (some 4) (.assign (tm 53))]
def ous_19 (S:SN):List Oper:=[mk (some 55) (.binOp .eql S.tInt (tm 10) (ki .i64 10) 0),mk (some 54) (.assign (tm 55))]
def ous_20 (S:SN):List Oper:=[mk (some 56) (.fieldAddr S.tF (tm 2) 7),mk (some 57) (.load S.tFs (tm 56)),bi (some 58) .len [(tm 57)] [S.tFs] S.tInt,mk (some 59) (.move (ki .i64 0))]
def ous_21 (S:SN):List Oper:=[mk (some 60) (.binOp .lss S.tInt (tm 59) (tm 58) 0)]
def ous_22 (S:SN):List Oper:=[mk (some 61) (.move (tm 59)),mk (some 62) (.indexAddr S.tFs (tm 57) (tm 59)),mk (some 63) (.load S.tF (tm 62)),mk (some 8) (.alloc S.tF),mk (some 7) (.assign (tm 61)),mk none (.store S.tF (tm 8) (tm 63))]
def ous_23 (S:SN):List Oper:=[mk (some 64) (.load S.tF (tm 8)),mk (some 65) (.load S.tT (tm 3)),mk (some 66) (.move (tm 7)),cl (some 67) S.fAt [(tm 65),(tm 66)],cl (some 68) S.fUsual [(tm 64),(tm 67)],mk (some 69) (.unOp .not S.tB (tm 68))]
def ous_24 (_S:SN):List Oper:=[mk (some 4) (.assign (.const (.bool false)))]
def ous_25 (S:SN):List Oper:=[mk (some 70) (.binOp .add S.tInt (tm 59) (ki .i64 1) 0),mk (some 59) (.move (tm 70))]
def ous_26 (S:SN):List Oper:=[mk (some 71) (.fieldAddr S.tF (tm 2) 7),mk (some 72) (.load S.tFs (tm 71)),mk (some 73) (.fieldAddr S.tT (tm 3) 4),mk (some 74) (.load S.tGs (tm 73)),cl (some 75) S.fUnk [(tm 72),(tm 74)],bi (some 76) .len [(tm 75)] [S.tGs] S.tInt,mk (some 77) (.binOp .eql S.tInt (tm 76) (ki .i64 0) 0),mk (some 4) (.assign (tm 77))]
def ous_27 (S:SN):List Oper:=[mk (some 78) (.fieldAddr S.tT (tm 3) 0),mk (some 79) (.load S.tI64 (tm 78)),mk (some 80) (.fieldAddr S.tF (tm 2) 0),mk (some 81) (.load S.tInt (tm 80)),cl (some 82) S.fWid [(tm 81)],cl (some 83) S.fFix [(tm 79),(tm 82)],mk (some 84) (.fieldAddr S.tF (tm 2) 5),mk (some 85) (.load S.tI64 (tm 84)),mk (some 86) (.fieldAddr S.tF (tm 2) 0),mk (some 87) (.load S.tInt (tm 86)),cl (some 88) S.fWid [(tm 87)],cl (some 89) S.fFix [(tm 85),(tm 88)],cl (some 90) S.fSame [(tm 83),(tm 89)],mk (some 4) (.assign (tm 90))]
def csUs (S:SN):Code:=
 (.seq (rg (ous_0 S))
 (.seq (.seq (rg (ous_1 S))
  (.block 0 (.seq (rg (ous_2 S))
  (.cond (tm 11) (.seq (rg (ous_3 S))
   .ret)
  (.seq (rg (ous_4 S))
  (.cond (tm 19) (.seq (.seq (rg (ous_5 S))
    (.block 1 (.loop (.seq (rg (ous_6 S))
    (.seq (.cond (tm 25) .skip
     (.exit 1))
    (.seq (.block 2 (.seq (rg (ous_7 S))
     (.seq (rg (ous_8 S))
     (.cond (tm 34) (.seq (rg (ous_9 S))
      .ret)
     .skip))))
    (rg (ous_10 S))))))))
   (.seq (rg (ous_11 S))
   .ret))
  (.seq (.seq (rg (ous_12 S))
   (.cond (tm 36) .skip
   (rg (ous_13 S))))
  (.cond (tm 36) (.seq (.seq (rg (ous_14 S))
    (.cond (tm 41) (.seq (rg (ous_15 S))
     .ret)
    .skip))
   (.seq (rg (ous_16 S))
   .ret))
  (.seq (rg (ous_17 S))
  (.cond (tm 48) (.seq (rg (ous_18 S))
   .ret)
  (.seq (rg (ous_19 S))
  (.cond (tm 54) (.seq (.seq (rg (ous_20 S))
    (.block 3 (.loop (.seq (rg (ous_21 S))
    (.seq (.cond (tm 60) .skip
     (.exit 3))
    (.seq (.block 4 (.seq (rg (ous_22 S))
     (.seq (.region 1 (ous_23 S).toArray true)
     (.cond (tm 69) (.seq (rg (ous_24 S))
      .ret)
     .skip))))
    (rg (ous_25 S))))))))
   (.seq (rg (ous_26 S))
   .ret))
  .skip))))))))))))
 (.seq (.region 1 (ous_27 S).toArray true)
 .ret)))
def UslC (P:Program) (S:SN) (sub:SFs):Prop:=∀ (w:World) (kind:Nat) (lo hi nul tag df:Int) (of:Nat) (sv:Value) (k:Nat) (cs:List Value) (t:Tr),FsRp w sub sv->TrRp w k cs t ->
 Calls P S.fUsual [.agg (qr_ kind lo hi nul tag df of sv).toArray,.agg cs.toArray].toArray w fun e w'=>e=.returned (.bool (jv_ kind nul df (fun t=>zm_ sub 0 t && (sUnk (qn_ sub) t.tags).isEmpty) t))/\qc_ (fun _=>False) w w'
def UsC (P:Program) (S:SN):SFs->Prop
 | .nil=>True
 | .cons _ _ _ _ _ _ _ sub r=>UslC P S sub/\UsC P S r
structure SameR (P:Program) (S:SN):Prop where
 smE:Ent P S.fSame
 smC:∀ (w:World) (X:Nat->Prop) (va vb:Value) (la lb:Bs),SlRp w X va la->SlRp w X vb lb->la.length<=maxLen->Calls P S.fSame #[va,vb] w fun e w'=>e=.returned (.bool (decide (la=lb)))/\qc_ (fun _=>False) w w'
theorem OcX.lenB {w:World} {X:Nat->Prop} {v:Value} {l:Bs} (h:OcX w X v l):l.length<=maxLen:=by
 rcases h with ⟨_,_,rfl⟩ | ⟨_,rfl⟩ | ⟨_,_,_,_,_,_,h1,h2,_⟩
 ·simp
 ·simp
 ·omega
section
variable {P:Program} {S:SN}
theorem us_uuid (C:LeafC P S) {w:World} {t:Tr} {B:Nat} {tsv:Value} (hsv:OcRp w tsv t.octets) (hB:w.cell? ⟨B,1,none⟩=some tsv)
  {a:Act} (h:St 91 a [(3,pt B 0)]) {R:Exit->Act->World->Prop} (hR:∀ a' l',St 91 a' l'->l'.lookup 4=some (.bool ((t.octets.take 16).all fun b=>b == 0))->R .ret a' w) :
  NWP P (.seq (.seq (rg (ous_5 S)) (.block 1 (.loop (.seq (rg (ous_6 S)) (.seq (.cond (tm 25) .skip (.exit 1)) (.seq (.block 2 (.seq (rg (ous_7 S)) (.seq (rg (ous_8 S)) (.cond (tm 34) (.seq (rg (ous_9 S)) .ret) .skip)))) (rg (ous_10 S)))))))) (.seq (rg (ous_11 S)) .ret)) R a w:=by
 have T:=C.tab
 have hmx:=hsv.lenB
 obtain ⟨bx,cx,rfl,hat⟩:=hsv.form
 refine qt_ (qt_ (nrg (q1_ h (.t rfl) T.t1 (by omega) fun a h=>qu_ h (.t rfl) T.t1.var (by simpa using hB) (by omega) fun a h=>zd_ h (.t rfl) T.oct.und (by omega) fun a h=>qe_ h .i (by omega) fun a h=>wpList_nil ?_)))
 refine z2_ (fun m a' w'=>∃ i:Nat,i + m=t.octets.length/\w'=w/\(∀ j x,j < i->j < 16->t.octets[j]?=some x->x=0)/\St 91 a' [(22,.slice bx t.octets.length cx),(23,.int .i64 (t.octets.length:Int)),(24,.int .i64 (i:Int))]) t.octets.length
  ⟨t.octets.length,Nat.le_refl _,0,by omega,rfl,fun j x hj=>by omega,h.pick ⟨rfl,rfl,rfl,trivial⟩⟩ ?_
 rintro m a w' hm ⟨i,him,rfl,hz,h⟩
 refine qt_ (nrg (q2_ h rfl (.t rfl) (.t rfl) (by omega) fun a h=>wpList_nil ?_))
 refine st_test h rfl (fun hb=>?_) (fun hb=>?_)
 ·have hlt:i < t.octets.length:=by simp [qz_] at hb;omega
  obtain ⟨x,hx⟩:∃ x,t.octets[i]?=some x:=⟨_,List.getElem?_eq_getElem hlt⟩
  obtain ⟨b,o,rfl,hcell⟩:=hat.resolve_left (fun h0=>by rw [h0] at hlt;simp at hlt)
  have hci:=hcell i x hx
  refine .skip (qt_ (.block (qt_ (nrg (qe_ h (.t rfl) (by omega) fun a h=>zj_ h (sz:=1) (.t rfl) (.t rfl) hlt T.oct.und T.vU8.size (by omega) fun a h=>qu_ h (v:=jx_ x) (.t rfl) T.vU8 (by rw [Nat.mul_one];exact hci) (by omega) fun a h=>qd_ h (.t rfl) (by omega) fun a h=>qd_ h (.t rfl) (by omega) fun a h=>wpList_nil ?_)))))
  have step:∀ (a:Act) (KK:Exit->Act->World->Prop),(i < 16->x=0)->St 91 a [(22,.slice (some ⟨b,o,none⟩) t.octets.length cx),(23,.int .i64 (t.octets.length:Int)),(24,.int .i64 (i:Int))] ->
    NWP P (rg (ous_10 S)) (Exit.then (fun a' w''=>∃ m',m'<=t.octets.length/\m' < m/\∃ i:Nat,i + m'=t.octets.length/\w''=w'/\(∀ j x,j < i->j < 16->t.octets[j]?=some x->x=0)/\St 91 a' [(22,.slice (some ⟨b,o,none⟩) t.octets.length cx),(23,.int .i64 (t.octets.length:Int)),(24,.int .i64 (i:Int))]) KK) a w':=by
   intro a KK hx0 h
   refine nrg (j2_ h (.t rfl) .i (by simp) (j0_ w') (by omega) fun a h=>?_)
   have hw:IntKind.i64.wrap ((i:Int) + 1)=((i + 1:Nat):Int):=by simp only [maxLen] at hmx;simp [IntKind.wrap,IntKind.bits,IntKind.signed];omega
   rw [hw] at h
   refine qe_ h (.t rfl) (by omega) fun a h=>wpList_nil ?_
   refine ⟨m - 1,by omega,by omega,i + 1,by omega,rfl,fun j y hj hj16 hy=>?_,h.pick ⟨rfl,rfl,rfl,trivial⟩⟩
   rcases Nat.lt_or_ge j i with hji | hji
   ·exact hz j y hji hj16 hy
   ·obtain rfl:j=i:=by omega
    rw [hx] at hy
    exact (Option.some.inj hy) ▸ hx0 hj16
  refine qt_ (nrg (qe_ h (.t rfl) (by omega) fun a h=>q2_ h rfl (.t rfl) .i (by omega) fun a h=>qe_ h (.t rfl) (by omega) fun a h=>?_))
  cases hb16:qz_ .lss (i:Int) 16 with
  | false=>
   rw [hb16] at h
   refine qy_ h rfl rfl rfl (by omega) (by simp) (by omega) fun a h=>qy_ h rfl rfl rfl (by omega) (by simp) (by omega) fun a h=>jt_ h (.t rfl) (.t rfl) .c (by omega) fun a h=>wpList_nil ?_
   refine ja_ h rfl (fun hh=>by simp at hh) (fun _=>.skip ?_)
   exact step a _ (fun h16=>by simp [qz_] at hb16;omega) (h.pick ⟨rfl,rfl,rfl,trivial⟩)
  | true=>
   rw [hb16] at h
   have h16:i < 16:=by simp [qz_] at hb16;omega
   refine sg_move h rfl rfl rfl (by omega) (.t rfl) (by omega) fun a h=>?_
   refine st_gd h rfl rfl rfl (by omega) (v:=.bool (qz_ .neq (x.toNat:Int) 0)) (rn_cmp (d:=33) h rfl (.t rfl) .i) (by omega) fun a h=>jt_ h (.t rfl) (.t rfl) .c (by omega) fun a h=>wpList_nil ?_
   refine ja_ (b:=qz_ .neq (x.toNat:Int) 0) h rfl (fun hh=>?_) (fun hh=>.skip ?_)
   ·refine qt_ (nrg (qd_ h .c (by omega) fun a h=>wpList_nil (.ret ?_)))
    refine hR _ _ h ?_
    have hne:x ≠ 0:=fun e=>by subst e;simp [qz_] at hh
    have:((t.octets.take 16).all fun b=>b == 0)=false:=by
     rw [List.all_eq_false]
     exact ⟨x,List.mem_of_getElem? (i:=i) (by rw [List.getElem?_take,if_pos h16];exact hx),by simpa using hne⟩
    rw [this];rfl
   ·refine step a _ (fun _=>?_) (h.pick ⟨rfl,rfl,rfl,trivial⟩)
    have h0:x.toNat=0:=by simp [qz_] at hh;omega
    exact UInt8.toNat_inj.1 (by rw [h0];rfl)
 ·have hge:¬ i < t.octets.length:=by simp [qz_] at hb;omega
  refine .exit ?_
  show NWP P _ _ a w'
  refine qt_ (nrg (qd_ h .c (by omega) fun a h=>wpList_nil (.ret ?_)))
  refine hR _ _ h ?_
  have:((t.octets.take 16).all fun b=>b == 0)=true:=by
   rw [List.all_eq_true]
   intro x hx
   obtain ⟨j,hj⟩:=List.mem_iff_getElem?.1 hx
   rw [List.getElem?_take] at hj
   split at hj
   ·rename_i h16
    have:=(List.getElem?_eq_some_iff.1 hj).1
    rw [hz j x (by omega) h16 hj]
    rfl
   ·cases hj
  rw [this];rfl
end
end Go.Proofs.Ytbgklecbmhaadaa.Kx

namespace Go.Proofs.Ytbgklecbmhaadaa.Kx
open Go
set_option maxRecDepth 4000
section
variable {P:Program} {S:SN}
section
variable {Q:Exit->Act->World->Prop} {r:List Oper} {n:Nat} {a:Act} {w:World} {l:List (Nat × Value)} {I:World->Prop}
theorem sl_not (h:St n a l) (hI:I w) {d T:Nat} {x:Operand} {b:Bool} (hx:Hd l x (.bool b)) (hd:d < n) (c:∀ a',St n a' ((d,.bool !b) :: l)->wpLd P I Q r a' w):wpLd P I Q (mk (some d) (.unOp .not T x) :: r) a w:=by
 refine ⟨hI,?_⟩
 unfold Oper.wp
 have:(execOp a.eval (mk (some d) (.unOp .not T x))).run P w=.ok (.value (.bool !b)) w:=by simp [execOp,mk,hx n a h,Op.unary]
 rw [this]
 exact c _ (h.put _ hd)
end
theorem us_part (C:LeafC P S) (hUE:Ent P S.fUsual) {sub:SFs} (htb:zy_ sub=true) (hsub:UsC P S sub) {W w:World} {kind:Nat} {lo hi nul tag df:Int} {of:Nat} {sv:Value} {k B2 B3:Nat} {cs:List Value} {t:Tr} (hfs:FsRp W sub sv) (ht:TrRp W k cs t) (hk:qc_ (fun _=>False) W w)
  (hc1:qf_ w B2 0 (qr_ kind lo hi nul tag df of sv)) (hc2:qf_ w B3 0 cs)
  {a:Act} (h:St 91 a [(2,pt B2 0),(3,pt B3 0)]) {R:Exit->Act->World->Prop} (hR:∀ a' w' l',St 91 a' l'->qc_ (fun _=>False) w w'->l'.lookup 4=some (.bool (zm_ sub 0 t && (sUnk (qn_ sub) t.tags).isEmpty))->R .ret a' w') :
  NWP P (.seq (.seq (rg (ous_20 S)) (.block 3 (.loop (.seq (rg (ous_21 S)) (.seq (.cond (tm 60) .skip (.exit 3)) (.seq (.block 4 (.seq (rg (ous_22 S)) (.seq (.region 1 (ous_23 S).toArray true) (.cond (tm 69) (.seq (rg (ous_24 S)) .ret) .skip)))) (rg (ous_25 S)))))))) (.seq (rg (ous_26 S)) .ret)) R a w:=by
 have T:=C.tab
 have hlen5:=ht.len
 have hf:Fa0 W w:=Fa0.of hk
 obtain ⟨base,c,hfv,hlen,hfa0⟩:=hfs.form
 refine qt_ (qt_ (nrg (q1_ h (.t rfl) T.f7 (by omega) fun a h=>qu_ h (.t rfl) T.f7.var (hc1.at (j:=7) rfl) (by omega) fun a h=>?_)))
 have h':=h
 rw [hfv] at h'
 refine zd_ h' (.t rfl) T.dFs (by omega) fun a h=>qe_ h .i (by omega) fun a h=>wpList_nil ?_
 rw [<- hfv] at h
 refine z2_ (fun m a' w'=>∃ (i:Nat) (rest:SFs),i + m=sub.len/\rest.len=m/\UsC P S rest/\zm_ rest i t=zm_ sub 0 t/\qc_ (fun _=>False) w w'/\(∀ b o,base=some ⟨b,o,none⟩->FsAt W sub b o->FsAt W rest b (o + i * 8)) /\
   St 91 a' [(2,pt B2 0),(3,pt B3 0),(57,sv),(58,.int .i64 (sub.len:Int)),(59,.int .i64 (i:Int))]) sub.len
  ⟨sub.len,Nat.le_refl _,0,sub,by omega,rfl,hsub,rfl,qc_.refl _ _,fun b o _ hh=>by simpa using hh,h.pick ⟨rfl,rfl,rfl,rfl,rfl,trivial⟩⟩ ?_
 rintro m a w' hm ⟨i,rest,him,hrl,hrs,htot,hk',hat,h⟩
 have hWk:=hk.trans hk'
 refine qt_ (nrg (q2_ h rfl (.t rfl) (.t rfl) (by omega) fun a h=>wpList_nil ?_))
 refine st_test h rfl (fun hb=>?_) (fun hb=>?_)
 ·have hlt:i < sub.len:=by simp [qz_] at hb;omega
  refine .skip ?_
  cases hr:rest with
  | nil=>rw [hr] at hrl;simp [SFs.len] at hrl;omega
  | cons kind' lo' hi' nul' tag' df' of' sub' r'=>
   subst hr
   obtain ⟨b,o,hbase,hfa⟩:=hfa0.resolve_left (fun hh=>by rw [hh] at hlt;simp [SFs.len] at hlt)
   obtain ⟨⟨sv',hc,hsubv⟩,hnext⟩:=hat b o hbase hfa
   have hc:qf_ W b (o + i * 8) (qr_ kind' lo' hi' nul' tag' df' of' sv'):=hc
   have hfsub:FsRp W sub' sv':=hsubv
   have hi63:(i:Int) + 1<=9223372036854775807:=by simp only [maxLen] at hlen;omega
   refine qt_ (.block (qt_ (nrg (qe_ h (.t rfl) (by omega) fun a h=>?_))))
   have h':=h
   rw [hfv,hbase] at h'
   refine zj_ h' (sz:=8) (.t rfl) (.t rfl) hlt T.dFs T.vF.size (by omega) fun a h=>jh_ h (cs:=qr_ kind' lo' hi' nul' tag' df' of' sv') (.t rfl) T.vF (qf_.kn hWk hc) (by omega) fun a h=>?_
   rw [<- hbase,<- hfv] at h
   refine j6_ h (T.zF w') (by omega) fun a h=>qd_ h (.t rfl) (by omega) fun a h=>?_
   have hnv:=newvar2 (w:=w') (T:=S.tF) (z:=.agg #[.int .i64 0,.int .i64 0,.int .i64 0,.int .i64 0,.int .i64 0,.int .i64 0,.int .i64 0,qs_]) (cs:=qr_ kind' lo' hi' nul' tag' df' of' sv') rfl
   refine zq_ h (cs:=qr_ kind' lo' hi' nul' tag' df' of' sv') (.t rfl) (.t rfl) (by simp [Value.cells]) T.vF.size (qk_ w' _) rfl (fCells_one kind' lo' hi' nul' tag' df' of' (sub_one hsubv)) (wpList_nil ?_)
   obtain ⟨hk2,hcn⟩:=hnv
   generalize (w'.alloc (.cells (Value.agg #[.int .i64 0,.int .i64 0,.int .i64 0,.int .i64 0,.int .i64 0,.int .i64 0,.int .i64 0,qs_]).cells S.tF (0,0))).setRow w'.heap.size (qr_ kind' lo' hi' nul' tag' df' of' sv').toArray=w2 at hk2 hcn ⊢
   have hkw2:=hk'.trans hk2
   have hW2:Fa0 W w2:=Fa0.of (hk.trans hkw2)
   have hc22:=qf_.kn hkw2 hc2
   have h:St 91 a [(2,pt B2 0),(3,pt B3 0),(7,.int .i64 (i:Int)),(8,pt w'.heap.size 0),(57,sv),(58,.int .i64 (sub.len:Int)),(59,.int .i64 (i:Int))]:=h.pick ⟨rfl,rfl,rfl,rfl,rfl,rfl,rfl,trivial⟩
   refine qt_ (ndrw [false,false,false,true,true,true] (fun w3=>qc_ (fun _=>False) w2 w3) (by kernel_rfl) ?_)
   show evF P _ [mk (some 64) (.load S.tF (tm 8)),mk (some 65) (.load S.tT (tm 3)),mk (some 66) (.move (tm 7))] a
    fun af=>wpLd P _ _ [cl (some 67) S.fAt [(tm 65),(tm 66)],cl (some 68) S.fUsual [(tm 64),(tm 67)],mk (some 69) (.unOp .not S.tB (tm 68))] af w2.drew
   refine se_loadN h (cs:=qr_ kind' lo' hi' nul' tag' df' of' sv') (.t rfl) T.vF (fun w3 hI=>qf_.kn hI hcn) (by omega) fun a h=>se_loadN h (cs:=cs) (.t rfl) (by rw [hlen5];exact T.vT) (fun w3 hI=>qf_.kn hI hc22) (by omega) fun a h=>ju_ h (.t rfl) (by omega) fun a h=>se_nil ?_
   have hI0:qc_ (fun _=>False) w2 w2.drew:=qc_.drew _ _
   have hfst:=h.pick (m:=[(2,pt B2 0),(3,pt B3 0),(57,sv),(58,.int .i64 (sub.len:Int)),(59,.int .i64 (i:Int)),(64,.agg (qr_ kind' lo' hi' nul' tag' df' of' sv').toArray),(65,.agg cs.toArray),(66,.int .i64 (i:Int))]) ⟨rfl,rfl,rfl,rfl,rfl,rfl,rfl,rfl,trivial⟩
   generalize hFv:Value.agg (qr_ kind' lo' hi' nul' tag' df' of' sv').toArray=vF at hfst
   refine jp_ hfst hI0 C.atE (vs:=[.agg cs.toArray,.int .i64 (i:Int)]) (fun n a h=>by
    simp only [List.map_cons,List.map_nil]
    rw [Hd.t (l:=_) (i:=65) rfl n a h,Hd.t (l:=_) (i:=66) rfl n a h]) (C.atC k i cs t w2.drew (ht.far (hW2.kn hI0))) (by omega) fun e w4 hR4=>?_
   obtain ⟨cs4,rfl,ht4,hk4⟩:=hR4
   have hI4:=hI0.trans hk4
   have hus:=hrs.1 w4 kind' lo' hi' nul' tag' df' of' sv' k cs4 (t.at i) (hfsub.far (hW2.kn hI4)) (ht4.far (Fa0.of hk4))
   rw [hFv] at hus
   refine ⟨_,rfl,fun a h=>jp_ h hI4 hUE (vs:=[vF,.agg cs4.toArray]) (fun n a h=>by
    simp only [List.map_cons,List.map_nil]
    rw [Hd.t (l:=_) (i:=64) rfl n a h,Hd.t (l:=_) (i:=67) rfl n a h]) hus (by omega) fun e w5 hR5=>?_⟩
   obtain ⟨rfl,hk5⟩:=hR5
   have hI5:=hI4.trans hk5
   refine ⟨_,rfl,fun a h=>sl_not h hI5 (.t rfl) (by omega) fun a h=>sl_nil hI5 ?_⟩
   have hus1:zm_ (.cons kind' lo' hi' nul' tag' df' of' sub' r') i t=(jv_ kind' nul' df' (fun t=>zm_ sub' 0 t && (sUnk (qn_ sub') t.tags).isEmpty) (t.at i) && zm_ r' (i + 1) t):=rfl
   rw [hus1] at htot
   generalize jv_ kind' nul' df' (fun t=>zm_ sub' 0 t && (sUnk (qn_ sub') t.tags).isEmpty) (t.at i)=bu at h htot
   show NWP P _ _ a w5
   refine ja_ h rfl (fun hh=>?_) (fun hh=>.skip ?_)
   ·have hbu:bu=false:=by simpa using hh
    subst hbu
    refine qt_ (nrg (qd_ h .c (by omega) fun a h=>wpList_nil (.ret ?_)))
    refine hR _ _ _ h (hkw2.trans hI5) ?_
    rw [<- htot];rfl
   ·have hbu:bu=true:=by simpa using hh
    subst hbu
    rw [Bool.true_and] at htot
    refine nrg (j2_ h (.t rfl) .i (by simp) (j0_ w5) (by omega) fun a h=>?_)
    have hw:IntKind.i64.wrap ((i:Int) + 1)=((i + 1:Nat):Int):=by simp [IntKind.wrap,IntKind.bits,IntKind.signed];omega
    rw [hw] at h
    refine qe_ h (.t rfl) (by omega) fun a h=>wpList_nil ?_
    refine ⟨m - 1,by omega,by omega,i + 1,r',by omega,by simp only [SFs.len] at hrl;omega,hrs.2,htot,hkw2.trans hI5,fun b' o' hbo hh=>?_,h.pick ⟨rfl,rfl,rfl,rfl,rfl,trivial⟩⟩
    have:=(hat b' o' hbo hh).2
    rw [show o' + (i + 1) * 8=o' + i * 8 + 8 by omega]
    exact this
 ·have hge:¬ i < sub.len:=by simp [qz_] at hb;omega
  have hm0:rest=.nil:=by
   cases rest with
   | nil=>rfl
   | cons=>simp only [SFs.len] at hrl;omega
  subst hm0
  have htrue:zm_ sub 0 t=true:=htot.symm
  refine .exit ?_
  show NWP P _ _ a w'
  have hf':Fa0 W w':=Fa0.of hWk
  have ht':=ht.far hf'
  obtain ⟨uv,huv,hcell⟩:∃ uv,RowRp w' 2 (TagRp w') uv t.raw/\w'.cell? ⟨B3,0 + 4,none⟩=some uv:=by
   cases k with
   | zero=>exact ht'.elim
   | succ k=>
    obtain ⟨sv,lv,uv,rfl,_,_,huv⟩:=ht'
    exact ⟨uv,huv,(qf_.kn hk' hc2).at (j:=4) rfl⟩
  refine qt_ (nrg (q1_ h (.t rfl) T.f7 (by omega) fun a h=>qu_ h (.t rfl) T.f7.var ((qf_.kn hk' hc1).at (j:=7) rfl) (by omega) fun a h=>q1_ h (.t rfl) T.t4 (by omega) fun a h=>qu_ h (.t rfl) T.t4.var hcell (by omega) fun a h=>?_))
  refine q3_ h C.unE (vs:=[sv,uv]) (fun n a h=>by simp only [List.map_cons,List.map_nil];rw [Hd.t (l:=_) (i:=72) rfl n a h,Hd.t (l:=_) (i:=74) rfl n a h]) (C.unC sub sv uv t.raw w' htb (hfs.far hf') huv) (by omega) fun e w5 hR5=>?_
  obtain ⟨ux,rs,rfl,hrs5,hmap,hk5⟩:=hR5
  obtain ⟨bx,cx,hxe,_⟩:=hrs5.form
  refine ⟨ux,rfl,fun a h=>?_⟩
  have h':=h
  rw [hxe] at h'
  refine zd_ h' (.t rfl) T.dGs (by omega) fun a h=>q2_ h rfl (.t rfl) .i (by omega) fun a h=>qd_ h (.t rfl) (by omega) fun a h=>wpList_nil (.ret ?_)
  refine hR _ _ _ h (hk'.trans hk5) ?_
  have e1:sUnk (qn_ sub) t.tags=rs.map fun p=>(p.1.toNat,p.2):=by rw [hmap,tags_raw];rfl
  rw [htrue,Bool.true_and,e1]
  cases rs <;> simp [qz_,List.lookup] <;> omega
theorem us_calls (C:LeafC P S) (D:SameR P S) (hfn:FnIs P S.fUsual 91 [4] (csUs S)) {sub:SFs} (htb:zy_ sub=true) (hsub:UsC P S sub):UslC P S sub:=by
 intro W kind lo hi nul tag df of sv k cs t hfs ht
 have T:=C.tab
 have ht0:=ht
 cases k with
 | zero=>exact ht.elim
 | succ k=>
 obtain ⟨tsv,tlv,tuv,rfl,hsv,hlv,huv⟩:=ht
 refine z0_ T.mixed hfn (by simp) _ (by simp) fun a h=>?_
 unfold csUs
 refine qt_ (nrg (st_box h (cs:=qr_ kind lo hi nul tag df of sv) (.t rfl) (by omega) fun a h=>?_))
 have hk1:qc_ (fun _=>False) W (W.alloc (.cells (qr_ kind lo hi nul tag df of sv).toArray S.tF (0,0))):=qc_.alloc _ _ _
 have hc1:=jn_ W (qr_ kind lo hi nul tag df of sv) S.tF
 generalize W.alloc (.cells (qr_ kind lo hi nul tag df of sv).toArray S.tF (0,0))=w1 at hk1 hc1 ⊢
 refine st_box h (cs:=[.int .i64 t.num,tsv,.bool t.null,tlv,tuv]) (.t rfl) (by omega) fun a h=>qd_ h .c (by omega) fun a h=>wpList_nil ?_
 have hk2:qc_ (fun _=>False) w1 (w1.alloc (.cells [.int .i64 t.num,tsv,.bool t.null,tlv,tuv].toArray S.tT (0,0))):=qc_.alloc _ _ _
 have hc2:=jn_ w1 [.int .i64 t.num,tsv,.bool t.null,tlv,tuv] S.tT
 generalize w1.alloc (.cells [.int .i64 t.num,tsv,.bool t.null,tlv,tuv].toArray S.tT (0,0))=w at hk2 hc2 ⊢
 have hc1:=qf_.kn hk2 hc1
 have hk:=hk1.trans hk2
 have hf:Fa0 W w:=Fa0.of hk
 have h:St 91 a [(2,pt W.heap.size 0),(3,pt w1.heap.size 0)]:=h.pick ⟨rfl,rfl,trivial⟩
 have fin:∀ (a':Act) (w':World) (l':List (Nat × Value)) (b:Bool),St 91 a' l'->qc_ (fun _=>False) w w'->l'.lookup 4=some (.bool b)->b=jv_ kind nul df (fun t=>zm_ sub 0 t && (sUnk (qn_ sub) t.tags).isEmpty) t ->
   (a'.defers=[]/\(Ending.returned (js_ [4] a')=.returned (.bool (jv_ kind nul df (fun t=>zm_ sub 0 t && (sUnk (qn_ sub) t.tags).isEmpty) t))/\qc_ (fun _=>False) W w')):=fun a' w' l' b h hk' hl hb=>by
  refine ret1 (RR:=fun e w'=>e=.returned (.bool (jv_ kind nul df (fun t=>zm_ sub 0 t && (sUnk (qn_ sub) t.tags).isEmpty) t))/\qc_ (fun _=>False) W w') h hl ⟨by rw [hb],hk.trans hk'⟩
 have hK0:qc_ (fun _=>False) w w:=qc_.refl _ _
 refine qt_ (qt_ (nrg (q1_ h (.t rfl) T.f0 (by omega) fun a h=>qu_ h (.t rfl) T.f0.var (hc1.at (j:=0) rfl) (by omega) fun a h=>wpList_nil ?_)))
 refine .block (qt_ (nrg (q2_ h rfl (.t rfl) .i (by omega) fun a h=>qd_ h (.t rfl) (by omega) fun a h=>wpList_nil ?_)))
 refine ja_ h rfl (fun hb=>?_) (fun hb=>?_)
 ·have hkd:kind=0:=by simp [qz_] at hb;omega
  subst hkd
  refine qt_ (nrg (q1_ h (.t rfl) T.t0 (by omega) fun a h=>qu_ h (.t rfl) T.t0.var (hc2.at (j:=0) rfl) (by omega) fun a h=>j2_ h (.t rfl) .i (by simp) (run_and1 w) (by omega) fun a h=>q1_ h (.t rfl) T.f5 (by omega) fun a h=>qu_ h (.t rfl) T.f5.var (hc1.at (j:=5) rfl) (by omega) fun a h=>q2_ h rfl (.t rfl) (.t rfl) (by omega) fun a h=>qd_ h (.t rfl) (by omega) fun a h=>wpList_nil (.ret ?_)))
  exact fin _ _ _ _ h hK0 rfl (by simp [jv_,qz_])
 have h0:kind ≠ 0:=by simp [qz_] at hb;omega
 refine qt_ (nrg (q2_ h rfl (.t rfl) .i (by omega) fun a h=>qd_ h (.t rfl) (by omega) fun a h=>wpList_nil ?_))
 refine ja_ h rfl (fun hb=>?_) (fun hb=>?_)
 ·have hkd:kind=7:=by simp [qz_] at hb;omega
  subst hkd
  refine us_uuid C (t:=t) (hsv.far hf) (hc2.at (j:=1) rfl) (h.pick ⟨rfl,trivial⟩) fun a' l' h hl=>?_
  exact fin _ _ _ _ h hK0 hl (by simp [jv_])
 have h7:kind ≠ 7:=by simp [qz_] at hb;omega
 refine qt_ (qt_ (nrg (q2_ h rfl (.t rfl) .i (by omega) fun a h=>qd_ h (.t rfl) (by omega) fun a h=>wpList_nil ?_)))
 have text:∀ (a:Act) (KK:Exit->Act->World->Prop),kind=8 \/ kind=9->St 91 a [(2,pt W.heap.size 0),(3,pt w1.heap.size 0)]->(∀ a' l' b,St 91 a' l'->l'.lookup 4=some (.bool b)->b=jv_ kind nul df (fun t=>zm_ sub 0 t && (sUnk (qn_ sub) t.tags).isEmpty) t->KK .ret a' w) ->
   NWP P (.seq (.seq (rg (ous_14 S)) (.cond (tm 41) (.seq (rg (ous_15 S)) .ret) .skip)) (.seq (rg (ous_16 S)) .ret)) KK a w:=by
  intro a KK h89 h hKK
  have hu:jv_ kind nul df (fun t=>zm_ sub 0 t && (sUnk (qn_ sub) t.tags).isEmpty) t=(if 0<=nul then t.null else t.octets.isEmpty):=by simp only [jv_,h0,h7,h89,if_false,if_true]
  refine qt_ (qt_ (nrg (q1_ h (.t rfl) T.f3 (by omega) fun a h=>qu_ h (.t rfl) T.f3.var (hc1.at (j:=3) rfl) (by omega) fun a h=>q2_ h rfl (.t rfl) .i (by omega) fun a h=>wpList_nil ?_)))
  refine ja_ h rfl (fun hb=>?_) (fun hb=>.skip ?_)
  ·have hn:0<=nul:=by simpa [qz_] using hb
   refine qt_ (nrg (q1_ h (.t rfl) T.t2 (by omega) fun a h=>qu_ h (.t rfl) T.t2.var (hc2.at (j:=2) rfl) (by omega) fun a h=>qd_ h (.t rfl) (by omega) fun a h=>wpList_nil (.ret ?_)))
   exact hKK _ _ _ h rfl (by rw [hu,if_pos hn])
  ·have hn:¬ 0<=nul:=by simpa [qz_] using hb
   show NWP P _ _ a w
   obtain ⟨bx,cx,hxe,_⟩:=hsv.form
   refine qt_ (nrg (q1_ h (.t rfl) T.t1 (by omega) fun a h=>qu_ h (.t rfl) T.t1.var (hc2.at (j:=1) rfl) (by omega) fun a h=>?_))
   rw [hxe] at h
   refine zd_ h (.t rfl) T.oct.und (by omega) fun a h=>q2_ h rfl (.t rfl) .i (by omega) fun a h=>qd_ h (.t rfl) (by omega) fun a h=>wpList_nil (.ret ?_)
   refine hKK _ _ _ h rfl ?_
   rw [hu,if_neg hn]
   cases t.octets <;> simp [qz_] <;> omega
 refine ja_ h rfl (fun hb=>?_) (fun hb=>?_)
 ·have hkd:kind=8:=by simp [qz_] at hb;omega
  refine .skip ?_
  show NWP P _ _ a w
  refine ja_ h rfl (fun _=>?_) (fun hh=>by rw [hb] at hh;cases hh)
  exact text a _ (.inl hkd) (h.pick ⟨rfl,rfl,trivial⟩) fun a' l' b h hl hb=>fin _ _ _ _ h hK0 hl hb
 have h8:kind ≠ 8:=by simp [qz_] at hb;omega
 refine nrg (q2_ h rfl (.t rfl) .i (by omega) fun a h=>qd_ h (.t rfl) (by omega) fun a h=>wpList_nil ?_)
 show NWP P _ _ a w
 refine ja_ h rfl (fun hb=>?_) (fun hb=>?_)
 ·have hkd:kind=9:=by simp [qz_] at hb;omega
  exact text a _ (.inr hkd) (h.pick ⟨rfl,rfl,trivial⟩) fun a' l' b h hl hb=>fin _ _ _ _ h hK0 hl hb
 have h9:kind ≠ 9:=by simp [qz_] at hb;omega
 refine qt_ (nrg (q2_ h rfl (.t rfl) .i (by omega) fun a h=>qd_ h (.t rfl) (by omega) fun a h=>wpList_nil ?_))
 refine ja_ h rfl (fun hb=>?_) (fun hb=>?_)
 ·have hkd:kind=11:=by simp [qz_] at hb;omega
  subst hkd
  obtain ⟨bx,cx,hxe,_⟩:=hlv.form
  refine qt_ (nrg (q1_ h (.t rfl) T.t3 (by omega) fun a h=>qu_ h (.t rfl) T.t3.var (hc2.at (j:=3) rfl) (by omega) fun a h=>?_))
  rw [hxe] at h
  refine zd_ h (.t rfl) T.dTs (by omega) fun a h=>q2_ h rfl (.t rfl) .i (by omega) fun a h=>qd_ h (.t rfl) (by omega) fun a h=>wpList_nil (.ret ?_)
  refine fin _ _ _ _ h hK0 rfl ?_
  simp only [jv_]
  cases t.list <;> simp [qz_] <;> omega
 have h11:kind ≠ 11:=by simp [qz_] at hb;omega
 refine qt_ (nrg (q2_ h rfl (.t rfl) .i (by omega) fun a h=>qd_ h (.t rfl) (by omega) fun a h=>wpList_nil ?_))
 refine ja_ h rfl (fun hb=>?_) (fun hb=>?_)
 ·have hkd:kind=10:=by simp [qz_] at hb;omega
  subst hkd
  refine us_part C hfn.ent htb hsub hfs ht0 hk hc1 hc2 (h.pick ⟨rfl,rfl,trivial⟩) fun a' w' l' h hk' hl=>?_
  exact fin _ _ _ _ h hk' hl (by simp [jv_])
 have h10:kind ≠ 10:=by simp [qz_] at hb;omega
 refine .skip ?_
 show NWP P _ _ a w
 have hu:jv_ kind nul df (fun t=>zm_ sub 0 t && (sUnk (qn_ sub) t.tags).isEmpty) t=decide (be (jj_ kind) t.num=be (jj_ kind) df):=by simp only [jv_,h0,h7,h8,h9,h10,h11,or_self,if_false]
 have hwd:jj_ kind<=8:=by unfold jj_;split <;> (try split) <;> (try split) <;> omega
 refine qt_ (ndrw [false,false,false,false,true,true,false,false,false,false,true,true,true,true] (fun w'=>qc_ (fun _=>False) w w') (by kernel_rfl) ?_)
 show evF P _ [mk (some 78) (.fieldAddr S.tT (tm 3) 0),mk (some 79) (.load S.tI64 (tm 78)),mk (some 80) (.fieldAddr S.tF (tm 2) 0),mk (some 81) (.load S.tInt (tm 80)),mk (some 84) (.fieldAddr S.tF (tm 2) 5),mk (some 85) (.load S.tI64 (tm 84)),mk (some 86) (.fieldAddr S.tF (tm 2) 0),mk (some 87) (.load S.tInt (tm 86))] a
  fun af=>wpLd P _ _ [cl (some 82) S.fWid [(tm 81)],cl (some 83) S.fFix [(tm 79),(tm 82)],cl (some 88) S.fWid [(tm 87)],cl (some 89) S.fFix [(tm 85),(tm 88)],cl (some 90) S.fSame [(tm 83),(tm 89)],mk (some 4) (.assign (tm 90))] af w.drew
 refine se_fld h (.t rfl) T.t0 (by omega) fun a h=>se_load1 h (.t rfl) T.t0.var (fun w' hI=>(qf_.kn hI hc2).at (j:=0) rfl) (by omega) fun a h=>?_
 refine se_fld h (.t rfl) T.f0 (by omega) fun a h=>se_load1 h (.t rfl) T.f0.var (fun w' hI=>(qf_.kn hI hc1).at (j:=0) rfl) (by omega) fun a h=>?_
 refine se_fld h (.t rfl) T.f5 (by omega) fun a h=>se_load1 h (.t rfl) T.f5.var (fun w' hI=>(qf_.kn hI hc1).at (j:=5) rfl) (by omega) fun a h=>?_
 refine se_fld h (.t rfl) T.f0 (by omega) fun a h=>se_load1 h (.t rfl) T.f0.var (fun w' hI=>(qf_.kn hI hc1).at (j:=0) rfl) (by omega) fun a h=>se_nil ?_
 have hI0:qc_ (fun _=>False) w w.drew:=qc_.drew _ _
 refine jp_ h hI0 C.widE (vs:=[.int .i64 (kind:Int)]) (fun n a h=>by simp only [List.map_cons,List.map_nil];rw [Hd.t (l:=_) (i:=81) rfl n a h]) (C.widC kind w.drew) (by omega) fun e w2 hR2=>?_
 obtain ⟨rfl,rfl⟩:=hR2
 refine ⟨_,rfl,fun a h=>jp_ h hI0 C.fixE (vs:=[.int .i64 t.num,.int .i64 (jj_ kind:Int)]) (fun n a h=>by simp only [List.map_cons,List.map_nil];rw [Hd.t (l:=_) (i:=79) rfl n a h,Hd.t (l:=_) (i:=82) rfl n a h]) (C.fixC t.num (jj_ kind) w.drew hwd) (by omega) fun e w3 hR3=>?_⟩
 obtain ⟨v3,rfl,hd3,hk3⟩:=hR3
 have hI3:=hI0.trans hk3
 refine ⟨v3,rfl,fun a h=>jp_ h hI3 C.widE (vs:=[.int .i64 (kind:Int)]) (fun n a h=>by simp only [List.map_cons,List.map_nil];rw [Hd.t (l:=_) (i:=87) rfl n a h]) (C.widC kind w3) (by omega) fun e w4 hR4=>?_⟩
 obtain ⟨rfl,rfl⟩:=hR4
 refine ⟨_,rfl,fun a h=>jp_ h hI3 C.fixE (vs:=[.int .i64 df,.int .i64 (jj_ kind:Int)]) (fun n a h=>by simp only [List.map_cons,List.map_nil];rw [Hd.t (l:=_) (i:=85) rfl n a h,Hd.t (l:=_) (i:=88) rfl n a h]) (C.fixC df (jj_ kind) w4 hwd) (by omega) fun e w5 hR5=>?_⟩
 obtain ⟨v5,rfl,hd5,hk5⟩:=hR5
 have hI5:=hI3.trans hk5
 refine ⟨v5,rfl,fun a h=>jp_ h hI5 D.smE (vs:=[v3,v5]) (fun n a h=>by simp only [List.map_cons,List.map_nil];rw [Hd.t (l:=_) (i:=83) rfl n a h,Hd.t (l:=_) (i:=89) rfl n a h]) (D.smC w5 (fun _=>False) v3 v5 (be (jj_ kind) t.num) (be (jj_ kind) df) (hd3.sl.keep hk5) hd5.sl (by rw [be_length];simp only [maxLen];omega)) (by omega) fun e w6 hR6=>?_⟩
 obtain ⟨rfl,hk6⟩:=hR6
 have hI6:=hI5.trans hk6
 refine ⟨_,rfl,fun a h=>sl_assign h hI6 (.t rfl) (by omega) fun a h=>sl_nil hI6 (.ret ?_)⟩
 exact fin _ _ _ _ h hI6 rfl hu.symm
theorem at_det (T:RefT P S) (hfn:FnIsC P S.fAt 16 4 S.tT (csAt S)) {k i:Nat} {cs:List Value} {t:Tr} (w0:World) (ht:TrRp w0 k cs t) :
  ∃ cs',TrRp w0 k cs' (t.at i)/\∀ w,qc_ (fun _=>False) w0 w->Calls P S.fAt [.agg cs.toArray,.int .i64 (i:Int)].toArray w fun e w'=>e=.returned (.agg cs'.toArray)/\qc_ (fun _=>False) w w':=by
 cases k with
 | zero=>exact ht.elim
 | succ k=>
 obtain ⟨sv,lv,uv,rfl,h2,h3,h4⟩:=ht
 obtain ⟨lb,lc,hlv,_,hlmx,_⟩:=h3.form
 have main:∀ cs':List Value,cs'.length=5->(∀ u ∈ cs',u.oneCell'=true)->(∀ x,t.list[i]?=some x->∃ b o c,lv=.slice (some ⟨b,o,none⟩) t.list.length c/\qf_ w0 b (o + i * 5) cs')->(t.list[i]?=none->cs'=[.int .i64 0,qs_,.bool false,qs_,qs_]) ->
   ∀ w,qc_ (fun _=>False) w0 w->Calls P S.fAt [.agg [.int .i64 t.num,sv,.bool t.null,lv,uv].toArray,.int .i64 (i:Int)].toArray w fun e w'=>e=.returned (.agg cs'.toArray)/\qc_ (fun _=>False) w w':=by
  intro cs' hl hone hsome hnone w hkw
  refine callsTC T.mixed hfn _ (by simp) fun a h=>?_
  unfold csAt
  refine qt_ (nrg (st_box h (.t rfl) (by omega) fun a h=>?_))
  have hk1:qc_ (fun _=>False) w (w.alloc (.cells [.int .i64 t.num,sv,.bool t.null,lv,uv].toArray S.tT (0,0))):=qc_.alloc _ _ _
  have hc1:=jn_ w [.int .i64 t.num,sv,.bool t.null,lv,uv] S.tT
  have hs1:(w.alloc (.cells [.int .i64 t.num,sv,.bool t.null,lv,uv].toArray S.tT (0,0))).heap.size=w.heap.size + 1:=by simp
  generalize w.alloc (.cells [.int .i64 t.num,sv,.bool t.null,lv,uv].toArray S.tT (0,0))=w1 at hk1 hc1 hs1 ⊢
  refine j6_ h (T.zT w1) (by omega) fun a h=>wpList_nil ?_
  have hn:=qk_ w1 (.cells (Value.agg #[.int .i64 0,qs_,.bool false,qs_,qs_]).cells S.tT (0,0))
  have hk2:qc_ (fun _=>False) w1 (w1.alloc (.cells (Value.agg #[.int .i64 0,qs_,.bool false,qs_,qs_]).cells S.tT (0,0))):=qc_.alloc _ _ _
  generalize w1.alloc (.cells (Value.agg #[.int .i64 0,qs_,.bool false,qs_,qs_]).cells S.tT (0,0))=w2 at hn hk2 ⊢
  have hc2:=qf_.kn hk2 hc1
  have hk:=hk1.trans hk2
  have fin:∀ (a:Act) (l:List (Nat × Value)) (x:Operand),St 16 a l->Hd l x (.agg cs'.toArray)->l.lookup 4=some (pt w1.heap.size 0)->∀ (ops:Array Oper) (R:Exit->Act->World->Prop),
    (∀ a' w',(a'.defers=[]/\∃ p v,a'.get 4=.pointer (some p)/\(loadVar S.tT p).run P w'=.ok v w'/\Ending.returned v=.returned (.agg cs'.toArray)/\qc_ (fun _=>False) w w')->R .normal a' w')->wpList P ops R [mk none (.store S.tT (tm 4) x)] a w2:=by
   intro a l x h hx h4' ops R hR
   refine zq_ h (.t h4') hx (by simp [Value.cells]) (by rw [hl];exact T.vT.size) hn (by simp [Value.cells,hl]) hone (wpList_nil (hR _ _ ⟨h.defers,⟨w1.heap.size,0,none⟩,.agg cs'.toArray,h.get 4 _ h4',?_,rfl,?_⟩))
   ·have hr:=setRow_heap _ _ _ cs'.toArray _ _ hn
    have hcell:∀ j v,cs'[j]?=some v->(w2.setRow w1.heap.size cs'.toArray).cell? ((⟨w1.heap.size,0,none⟩:Addr).add j)=some v:=fun j v hj=>by
     rw [Addr.add_lit]
     simp only [World.cell?,hr,Option.isSome_none,Bool.false_eq_true,if_false,Nat.zero_add,List.getElem?_toArray,hj]
    have hll:=run_loadCells_list (P:=P) (w2.setRow w1.heap.size cs'.toArray) ⟨w1.heap.size,0,none⟩ cs' hcell
    rw [hl] at hll
    simp [loadVar,T.vT.agg,T.vT.size,hll]
   ·exact ((hk.mono (Y:=fun k=>k=w1.heap.size) fun _ _ h=>h.elim).trans (qc_.setRow _ _ _ _ rfl)).mono fun k hk hX=>by omega
  refine qt_ (qt_ (nrg ?_))
  refine qe_ h (.t rfl) (by omega) fun a h=>q1_ h (.t rfl) T.t3 (by omega) fun a h=>qu_ h (.t rfl) T.t3.var (hc2.at (j:=3) rfl) (by omega) fun a h=>?_
  have h':=h
  rw [hlv] at h'
  refine zd_ h' (.t rfl) T.dTs (by omega) fun a h=>q2_ h rfl (.t rfl) (.t rfl) (by omega) fun a h=>wpList_nil ?_
  refine ja_ h rfl (fun hb=>?_) (fun hb=>?_)
  ·have hlt:i < t.list.length:=by simp [qz_] at hb;omega
   obtain ⟨x,hx⟩:∃ x,t.list[i]?=some x:=⟨_,List.getElem?_eq_getElem hlt⟩
   obtain ⟨b,o,c,hv,hcs'⟩:=hsome x hx
   refine qt_ (nrg ?_)
   refine q1_ h (.t rfl) T.t3 (by omega) fun a h=>qu_ h (.t rfl) T.t3.var (hc2.at (j:=3) rfl) (by omega) fun a h=>qe_ h (.t rfl) (by omega) fun a h=>?_
   rw [hv] at h
   refine zj_ h (sz:=5) (.t rfl) (.t rfl) hlt T.dTs T.vT.size (by omega) fun a h=>?_
   refine jh_ h (cs:=cs') (.t rfl) (by rw [hl];exact T.vT) (qf_.kn hk (qf_.kn hkw hcs')) (by omega) fun a h=>?_
   exact fin a _ _ h (.t rfl) rfl _ _ fun a' w' hh=>.ret hh
  ·have hge:¬ i < t.list.length:=by simp [qz_] at hb;omega
   obtain rfl:=hnone (List.getElem?_eq_none (by omega))
   refine .skip (qt_ (nrg ?_))
   refine st_build h (qs:=#[]) (fun _ _ _=>by simp) (T.bT w2) (by omega) fun a h=>?_
   exact fin a _ _ h (.t rfl) rfl _ _ fun a' w' hh=>.ret hh
 rcases Nat.lt_or_ge i t.list.length with hlt | hge
 ·obtain ⟨x,hx⟩:∃ x,t.list[i]?=some x:=⟨_,List.getElem?_eq_getElem hlt⟩
  have hat:t.at i=x:=by simp [Tr.at,List.getD,hx]
  obtain ⟨b,o,c,cs',hv,hl',hcs',htx⟩:=h3.get hx
  exact ⟨cs',by rw [hat];exact htx.up (by omega),main cs' hl' htx.one (fun x' hx'=>⟨b,o,c,hv,hcs'⟩) (fun hn=>by rw [hx] at hn;cases hn)⟩
 ·have hat:t.at i=.zero:=by simp [Tr.at,List.getD,List.getElem?_eq_none hge]
  exact ⟨_,by rw [hat];exact (TrRp.zero w0).up (by omega),main [.int .i64 0,qs_,.bool false,qs_,qs_] rfl (by simp [Value.oneCell',qs_]) (fun x hx=>by rw [List.getElem?_eq_none hge] at hx;cases hx) (fun _=>rfl)⟩
end
end Go.Proofs.Ytbgklecbmhaadaa.Kx

namespace Go.Proofs.Ytbgklecbmhaadaa.Kx
open Go
set_option maxRecDepth 4000
structure KtC (P:Program) (S:SN):Prop where
 same:SameR P S
 usE:Ent P S.fUsual
 atD:∀ (k i:Nat) (cs:List Value) (t:Tr) (w0:World),TrRp w0 k cs t->∃ cs',TrRp w0 k cs' (t.at i)/\∀ w,qc_ (fun _=>False) w0 w->Calls P S.fAt [.agg cs.toArray,.int .i64 (i:Int)].toArray w fun e w'=>e=.returned (.agg cs'.toArray)/\qc_ (fun _=>False) w w'
 unD:∀ (sf:SFs) (fv uv:Value) (raw:List (UInt32 × Bs)) (W0 W:World),zy_ sf=true->FsRp W sf fv->RowRp W 2 (TagRp W0) uv raw->Calls P S.fUnk [fv,uv].toArray W fun e w'=>∃ v es,e=.returned v/\zb_ w' W.heap.size S.tG v es/\(∀ e ∈ es,OcRp W0 e.v e.b)/\es.map tgPair=sUnk (qn_ sf) (raw.map fun p=>(p.1.toNat,p.2))/\qc_ (fun _=>False) W w'
 tGU:S.tG ≠ S.tU8
theorem tgd_head (tag:Int) (U:Bool) (b:Bs) (q:Nat):((if 0<=tag/\U=false then [(tag.toNat,b)] else []).filter fun p=>p.1 == q)=if tag=(q:Int)/\U=false then [(q,b)] else []:=by
 by_cases h:tag=(q:Int)/\U=false
 ·obtain ⟨rfl,hU⟩:=h
  rw [if_pos ⟨by omega,hU⟩,if_pos ⟨rfl,hU⟩]
  simp
 ·rw [if_neg h]
  split
  ·rename_i h2
   have:¬ tag.toNat=q:=fun e=>h ⟨by omega,h2.2⟩
   simp [this]
  ·rfl
section
variable {P:Program} {S:SN}
theorem sq_gcall {ops:Array Oper} {C:World->Prop} {Q:Act->Prop} {r:List Oper} {n:Nat} {a:Act} {l:List (Nat × Value)} (h:St n a l) {d j jd f:Nat} {b:Bool} {o:Oper} {args:List Operand} {vs:List Value} {v:Value} (ho:ops[j]?=some o) (hod:o.dst=some jd) (hj:l.lookup jd=some (.bool b)) (hjn:jd < n) (hf:Ent P f)
  (hargs:∀ (n:Nat) (a:Act),St n a l->args.map a.eval=vs) (hc:∀ w,C w->Calls P f vs.toArray w fun e w'=>e=.returned v/\C w') (hd:d < n) (c:∀ a',St n a' ((d,v) :: l)->wpQuiet P ops C Q r a'):wpQuiet P ops C Q (gd d (.call ⟨.value (.func f),args.toArray,#[]⟩) j b :: r) a:=by
 have hy:=jk_ ho hod (by rw [h.size];exact hjn) (h.get _ _ hj)
 unfold wpQuiet
 rw [if_pos (by simp [Region.wanted,gd,hy])]
 refine ⟨v,fun w hC=>?_,c _ (h.put v hd)⟩
 unfold Oper.quietAt
 have:(execOp a.eval (gd d (.call ⟨.value (.func f),args.toArray,#[]⟩) j b)).run P w=.ok (.enter f vs.toArray) w:=by
  have he:a.eval (.func f)=.func (.func f) #[] #[]:=rfl
  have ha2:(args.map a.eval).toArray=vs.toArray:=by rw [hargs n a h]
  simp only [execOp,gd,resolve,he,Deferred.ofValue,invoke,Sem.run_bind,Sem.run_pure,Result.andThen_ok,Array.empty_append,Array.append_empty,List.map_toArray,ha2]
  exact hf _ _
 rw [this]
 exact ⟨rfl,hc w hC⟩
theorem rn_loadT {n:Nat} {a:Act} {w:World} {l:List (Nat × Value)} (h:St n a l) {d:Nat} {x:Operand} {F B O:Nat} {cs:List Value} (hx:Hd l x (pt B O)) (hF:jo_ P F true cs.length) (hv:qf_ w B O cs):(execOp a.eval (mk (some d) (.load F x))).run P w=.ok (.value (.agg cs.toArray)) w:=by
 have hl:=run_loadCells_list (P:=P) w ⟨B,O,none⟩ cs (fun j v hj=>by rw [Addr.add_lit];exact hv j v hj)
 have e:=hx n a h
 simp only [pt] at e
 simp [execOp,mk,e,Instr.loadAt,Instr.sureAddr,loadVar,hF.agg w,hF.size w,hl]
theorem pt_loop4 (C:LeafC P S) (K:KtC P S) (hFE:Ent P S.fField) {W:World} {sf:SFs} {fv x51 x52 v9:Value} {ver:Int} {k B q:Nat} {cs:List Value} {t:Tr} (hfs:FsRp W sf fv) (ht:TrRp W k cs t) (hB:qf_ W B 0 cs) (hsub:SubC P S sf) (hus:UsC P S sf) (hq:q < 1000)
  {total:Bs} {nt:Nat} (hlim:total.length<=LIM) {w0:World} {v0:Value} {bs0:Bs} {n0:Nat} (hd0:qv_ w0 W.heap.size S.tU8 v0 bs0) (hk0:Fa0 W w0) (htot0:bs0++sTags ((sTgd ver true sf 0 t).filter fun p=>p.1 == q)=total) (hnt0:n0 + ((sTgd ver true sf 0 t).filter fun p=>p.1 == q).length=nt) (hn0:n0<=bs0.length) {a:Act}
  (h:St 132 a [(0,fv),(1,.int .i64 ver),(2,.bool true),(7,pt B 0),(9,v9),(10,v0),(11,.int .i64 (n0:Int)),(14,.int .i64 (q:Int)),(51,x51),(52,x52)]) {R:Exit->Act->World->Prop}
  (hR:∀ (a':Act) (w':World) (v:Value),St 132 a' [(0,fv),(1,.int .i64 ver),(2,.bool true),(7,pt B 0),(9,v9),(10,v),(11,.int .i64 (nt:Int)),(51,x51),(52,x52)]->qv_ w' W.heap.size S.tU8 v total->Fa0 W w'->nt<=total.length->R .normal a' w') :
  NWP P (.seq (rg (opt_14 S)) (.block 4 (.loop (.seq (rg (opt_15 S)) (.seq (.cond (tm 58) .skip (.exit 4)) (.seq (.block 5 (.seq (rg (opt_16 S)) (.seq (.region 2 (opt_17 S).toArray true) (.cond (tm 73) (.seq (.region 1 (opt_18 S).toArray true) (.seq (rg (opt_19 S)) (rg (opt_20 S)))) .skip)))) (rg (opt_21 S)))))))) R a w0:=by
 have T:=C.tab
 have hlen5:=ht.len
 obtain ⟨base,c,hfv,hlen,hfa0⟩:=hfs.form
 refine qt_ (nrg (qe_ h (.t rfl) (by omega) fun a h=>?_))
 have h':=h
 rw [hfv] at h'
 refine zd_ h' (.t rfl) T.dFs (by omega) fun a h=>qe_ h .i (by omega) fun a h=>wpList_nil ?_
 rw [<- hfv] at h
 refine z2_ (fun m a' w'=>∃ (i:Nat) (rest:SFs) (v:Value) (bs:Bs) (n:Nat),i + m=sf.len/\rest.len=m/\SubC P S rest/\UsC P S rest/\bs++sTags ((sTgd ver true rest i t).filter fun p=>p.1 == q)=total/\n + ((sTgd ver true rest i t).filter fun p=>p.1 == q).length=nt/\n<=bs.length/\qv_ w' W.heap.size S.tU8 v bs/\Fa0 W w'/\(∀ b o,base=some ⟨b,o,none⟩->FsAt W sf b o->FsAt W rest b (o + i * 8)) /\
   St 132 a' [(0,fv),(1,.int .i64 ver),(2,.bool true),(7,pt B 0),(9,v9),(10,v),(11,.int .i64 (n:Int)),(14,.int .i64 (q:Int)),(51,x51),(52,x52),(55,fv),(56,.int .i64 (sf.len:Int)),(57,.int .i64 (i:Int))]) sf.len
  ⟨sf.len,Nat.le_refl _,0,sf,v0,bs0,n0,by omega,rfl,hsub,hus,htot0,hnt0,hn0,hd0,hk0,fun b o _ hh=>by simpa using hh,h.pick ⟨rfl,rfl,rfl,rfl,rfl,rfl,rfl,rfl,rfl,rfl,rfl,rfl,rfl,trivial⟩⟩ ?_
 rintro m a w hm ⟨i,rest,v,bs,n,him,hrl,hrs,hru,htot,hnt,hnl,hd,hk,hat,h⟩
 refine qt_ (nrg (q2_ h rfl (.t rfl) (.t rfl) (by omega) fun a h=>wpList_nil ?_))
 refine st_test h rfl (fun hb=>?_) (fun hb=>?_)
 ·have hlt:i < sf.len:=by simp [qz_] at hb;omega
  refine .skip ?_
  cases hr:rest with
  | nil=>rw [hr] at hrl;simp [SFs.len] at hrl;omega
  | cons kind lo hi nul tag df of sub r=>
   subst hr
   obtain ⟨b,o,hbase,hfa⟩:=hfa0.resolve_left (fun hh=>by rw [hh] at hlt;simp [SFs.len] at hlt)
   obtain ⟨⟨sv,hc,hsubv⟩,hnext⟩:=hat b o hbase hfa
   have hc:qf_ W b (o + i * 8) (qr_ kind lo hi nul tag df of sv):=hc
   have hfsub:FsRp W sub sv:=hsubv
   have hi63:(i:Int) + 1<=9223372036854775807:=by simp only [maxLen] at hlen;omega
   refine qt_ (.block (qt_ (nrg (qe_ h (.t rfl) (by omega) fun a h=>?_))))
   have h':=h
   rw [hfv,hbase] at h'
   refine zj_ h' (sz:=8) (.t rfl) (.t rfl) hlt T.dFs T.vF.size (by omega) fun a h=>jh_ h (cs:=qr_ kind lo hi nul tag df of sv) (.t rfl) T.vF (hk.cells hc) (by omega) fun a h=>?_
   rw [<- hbase,<- hfv] at h
   refine j6_ h (T.zF w) (by omega) fun a h=>qd_ h (.t rfl) (by omega) fun a h=>?_
   have hnv:=newvar2 (w:=w) (T:=S.tF) (z:=.agg #[.int .i64 0,.int .i64 0,.int .i64 0,.int .i64 0,.int .i64 0,.int .i64 0,.int .i64 0,qs_]) (cs:=qr_ kind lo hi nul tag df of sv) rfl
   refine zq_ h (cs:=qr_ kind lo hi nul tag df of sv) (.t rfl) (.t rfl) (by simp [Value.cells]) T.vF.size (qk_ w _) rfl (fCells_one kind lo hi nul tag df of (sub_one hsubv)) (wpList_nil ?_)
   obtain ⟨hk2,hc2⟩:=hnv
   generalize (w.alloc (.cells (Value.agg #[.int .i64 0,.int .i64 0,.int .i64 0,.int .i64 0,.int .i64 0,.int .i64 0,.int .i64 0,qs_]).cells S.tF (0,0))).setRow w.heap.size (qr_ kind lo hi nul tag df of sv).toArray=w2 at hk2 hc2 ⊢
   have hg:W.heap.size<=w.heap.size:=hk.size
   have hd2:qv_ w2 W.heap.size S.tU8 v bs:=hd.keep hk2 fun _ _ h=>h
   have hf2:=hk.kn hk2
   have hown:∀ j,v.ownBlock=some j->j < w.heap.size:=fun j hj=>(hd.own hj).2
   have h:St 132 a [(0,fv),(1,.int .i64 ver),(2,.bool true),(7,pt B 0),(9,v9),(10,v),(11,.int .i64 (n:Int)),(14,.int .i64 (q:Int)),(15,.int .i64 (i:Int)),(16,pt w.heap.size 0),(51,x51),(52,x52),(55,fv),(56,.int .i64 (sf.len:Int)),(57,.int .i64 (i:Int))]:=h.pick ⟨rfl,rfl,rfl,rfl,rfl,rfl,rfl,rfl,rfl,rfl,rfl,rfl,rfl,rfl,rfl,trivial⟩
   clear hd hk h'
   have hwrite:(sTgd ver true (.cons kind lo hi nul tag df of sub r) i t).filter (fun p=>p.1 == q)=(if tag=(q:Int)/\jv_ kind nul df (fun t=>zm_ sub 0 t && (sUnk (qn_ sub) t.tags).isEmpty) (t.at i)=false then [(q,sFld kind nul of ver true (jd_ ver true sub) (t.at i))] else [])++(sTgd ver true r (i + 1) t).filter fun p=>p.1 == q:=by
    simp only [sTgd,List.filter_append]
    rw [tgd_head]
    rfl
   rw [hwrite] at htot hnt
   have step:∀ (a:Act) (w3:World) (v3:Value) (bs3:Bs) (n3:Nat) (KK:Exit->Act->World->Prop),St 132 a [(0,fv),(1,.int .i64 ver),(2,.bool true),(7,pt B 0),(9,v9),(10,v3),(11,.int .i64 (n3:Int)),(14,.int .i64 (q:Int)),(51,x51),(52,x52),(55,fv),(56,.int .i64 (sf.len:Int)),(57,.int .i64 (i:Int))]->qv_ w3 W.heap.size S.tU8 v3 bs3->Fa0 W w3 ->
     bs3++sTags ((sTgd ver true r (i + 1) t).filter fun p=>p.1 == q)=total->n3 + ((sTgd ver true r (i + 1) t).filter fun p=>p.1 == q).length=nt->n3<=bs3.length ->
     NWP P (rg (opt_21 S)) (Exit.then (fun a' w'=>∃ m',m'<=sf.len/\m' < m/\∃ (i:Nat) (rest:SFs) (v:Value) (bs:Bs) (n:Nat),i + m'=sf.len/\rest.len=m'/\SubC P S rest/\UsC P S rest/\bs++sTags ((sTgd ver true rest i t).filter fun p=>p.1 == q)=total/\n + ((sTgd ver true rest i t).filter fun p=>p.1 == q).length=nt/\n<=bs.length/\qv_ w' W.heap.size S.tU8 v bs/\Fa0 W w'/\(∀ b o,base=some ⟨b,o,none⟩->FsAt W sf b o->FsAt W rest b (o + i * 8)) /\
      St 132 a' [(0,fv),(1,.int .i64 ver),(2,.bool true),(7,pt B 0),(9,v9),(10,v),(11,.int .i64 (n:Int)),(14,.int .i64 (q:Int)),(51,x51),(52,x52),(55,fv),(56,.int .i64 (sf.len:Int)),(57,.int .i64 (i:Int))]) KK) a w3:=by
    intro a w3 v3 bs3 n3 KK h hd3 hk3 htot3 hnt3 hnl3
    refine nrg (j2_ h (.t rfl) .i (by simp) (j0_ w3) (by omega) fun a h=>?_)
    have hw:IntKind.i64.wrap ((i:Int) + 1)=((i + 1:Nat):Int):=by simp [IntKind.wrap,IntKind.bits,IntKind.signed];omega
    rw [hw] at h
    refine qe_ h (.t rfl) (by omega) fun a h=>wpList_nil ?_
    refine ⟨m - 1,by omega,by omega,i + 1,r,v3,bs3,n3,by omega,by simp only [SFs.len] at hrl;omega,hrs.2,hru.2,htot3,hnt3,hnl3,hd3,hk3,fun b' o' hbo hh=>?_,h.pick ⟨rfl,rfl,rfl,rfl,rfl,rfl,rfl,rfl,rfl,rfl,rfl,rfl,rfl,trivial⟩⟩
    have:=(hat b' o' hbo hh).2
    rw [show o' + (i + 1) * 8=o' + i * 8 + 8 by omega]
    exact this
   obtain ⟨csd,htd,hatd⟩:=K.atD k i cs t w2 (ht.far hf2)
   have husc:=fun w' (hC:qc_ (fun _=>False) w2 w')=>hru.1 w' kind lo hi nul tag df of sv k csd (t.at i) (hfsub.far (hf2.kn hC)) (htd.far (Fa0.of hC))
   have test:∀ (KK:Exit->Act->World->Prop),(∀ a' w',St 132 a' [(73,.bool (decide (tag=(q:Int)/\jv_ kind nul df (fun t=>zm_ sub 0 t && (sUnk (qn_ sub) t.tags).isEmpty) (t.at i)=false))),(0,fv),(1,.int .i64 ver),(2,.bool true),(7,pt B 0),(9,v9),(10,v),(11,.int .i64 (n:Int)),(14,.int .i64 (q:Int)),(15,.int .i64 (i:Int)),(16,pt w.heap.size 0),(51,x51),(52,x52),(55,fv),(56,.int .i64 (sf.len:Int)),(57,.int .i64 (i:Int))]->qc_ (fun _=>False) w2 w'->KK .normal a' w')->NWP P (.region 2 (opt_17 S).toArray true) KK a w2:=by
    intro KK hKK
    generalize jv_ kind nul df (fun t=>zm_ sub 0 t && (sUnk (qn_ sub) t.tags).isEmpty) (t.at i)=bu at husc hKK
    refine .drq (fun w'=>qc_ (fun _=>False) w2 w') (qc_.drew _ _) ?_
    refine sq_op h (fun w' hC=>rn_fld h (.t rfl) T.f4) (by omega) fun a h=>sq_op h (fun w' hC=>rn_load1 h (.t rfl) T.f4.var ((qf_.kn hC hc2).at (j:=4) rfl)) (by omega) fun a h=>sq_op h (fun w' hC=>zw_ h (.t rfl)) (by omega) fun a h=>?_
    refine sq_op h (fun w' hC=>rn_cmp h rfl (.t rfl) (.t rfl)) (by omega) fun a h=>sq_op h (fun w' hC=>zw_ h (.t rfl)) (by omega) fun a h=>?_
    cases hbt:qz_ .eql tag (q:Int) with
    | false=>
     rw [hbt] at h
     refine q8_ h rfl rfl rfl rfl rfl (by omega) (by simp) (by omega) fun a h=>q8_ h rfl rfl rfl rfl rfl (by omega) (by simp) (by omega) fun a h=>q8_ h rfl rfl rfl rfl rfl (by omega) (by simp) (by omega) fun a h=>?_
     refine q8_ h rfl rfl rfl rfl rfl (by omega) (by simp) (by omega) fun a h=>q8_ h rfl rfl rfl rfl rfl (by omega) (by simp) (by omega) fun a h=>q8_ h rfl rfl rfl rfl rfl (by omega) (by simp) (by omega) fun a h=>?_
     refine sq_op h (fun w' hC=>rn_pick h (.t rfl) (.t rfl) .c) (by omega) fun a h=>sq_nil fun w' hC=>hKK _ _ ?_ hC
     have hne:¬ (tag=(q:Int)/\bu=false):=fun hh=>by simp [qz_,hh.1] at hbt
     rw [decide_eq_false hne]
     exact h.pick ⟨rfl,rfl,rfl,rfl,rfl,rfl,rfl,rfl,rfl,rfl,rfl,rfl,rfl,rfl,rfl,rfl,trivial⟩
    | true=>
     rw [hbt] at h
     have heq:tag=(q:Int):=by simpa [qz_] using hbt
     refine sq_gd h rfl rfl rfl (by omega) (v:=.agg (qr_ kind lo hi nul tag df of sv).toArray) (fun w' hC=>rn_loadT h (.t rfl) T.vF (qf_.kn hC hc2)) (by omega) fun a h=>sq_gd h rfl rfl rfl (by omega) (v:=.agg cs.toArray) (fun w' hC=>rn_loadT h (.t rfl) (by rw [hlen5];exact T.vT) (Fa0.cells (hf2.kn hC) hB)) (by omega) fun a h=>sq_gd h rfl rfl rfl (by omega) (fun w' hC=>zw_ h (.t rfl)) (by omega) fun a h=>?_
     have h:=h.pick (m:=[(0,fv),(1,.int .i64 ver),(2,.bool true),(7,pt B 0),(9,v9),(10,v),(11,.int .i64 (n:Int)),(14,.int .i64 (q:Int)),(15,.int .i64 (i:Int)),(16,pt w.heap.size 0),(51,x51),(52,x52),(55,fv),(56,.int .i64 (sf.len:Int)),(57,.int .i64 (i:Int)),(66,.bool true),(67,.agg (qr_ kind lo hi nul tag df of sv).toArray),(68,.agg cs.toArray),(69,.int .i64 (i:Int))]) ⟨rfl,rfl,rfl,rfl,rfl,rfl,rfl,rfl,rfl,rfl,rfl,rfl,rfl,rfl,rfl,rfl,rfl,rfl,rfl,trivial⟩
     generalize hFv:Value.agg (qr_ kind lo hi nul tag df of sv).toArray=vF at h husc
     refine sq_gcall h rfl rfl rfl (by omega) C.atE (args:=[(tm 68),(tm 69)]) (vs:=[.agg cs.toArray,.int .i64 (i:Int)]) (v:=.agg csd.toArray) (fun n a h=>by
      simp only [List.map_cons,List.map_nil]
      rw [Hd.t (l:=_) (i:=68) rfl n a h,Hd.t (l:=_) (i:=69) rfl n a h]) (fun w' hC=>(hatd w' hC).mono fun e w'' hR=>⟨hR.1,hC.trans hR.2⟩) (by omega) fun a h=>?_
     refine sq_gcall h rfl rfl rfl (by omega) K.usE (args:=[(tm 67),(tm 70)]) (vs:=[vF,.agg csd.toArray]) (v:=.bool bu) (fun n a h=>by
      simp only [List.map_cons,List.map_nil]
      rw [Hd.t (l:=_) (i:=67) rfl n a h,Hd.t (l:=_) (i:=70) rfl n a h]) (fun w' hC=>(husc w' hC).mono fun e w'' hR=>⟨hR.1,hC.trans hR.2⟩) (by omega) fun a h=>?_
     refine sq_gd h rfl rfl rfl (by omega) (v:=.bool !bu) (fun w' hC=>by
      have e:=Hd.t (l:=_) (i:=71) (v:=.bool bu) rfl _ a h
      simp [execOp,mk,e,Op.unary]) (by omega) fun a h=>?_
     refine sq_op h (fun w' hC=>rn_pick h (.t rfl) (.t rfl) .c) (by omega) fun a h=>sq_nil fun w' hC=>hKK _ _ ?_ hC
     have hb2:decide (tag=(q:Int)/\bu=false)=!bu:=by cases bu <;> simp [heq]
     rw [hb2]
     exact h.pick ⟨rfl,rfl,rfl,rfl,rfl,rfl,rfl,rfl,rfl,rfl,rfl,rfl,rfl,rfl,rfl,rfl,trivial⟩
   refine qt_ (test _ fun a w3 h hk3=>?_)
   have hd3:=hd2.keep hk3 fun _ _ h=>h
   have hf3:=hf2.kn hk3
   have hc3:=qf_.kn hk3 hc2
   have hs3:w.heap.size<=w3.heap.size:=Nat.le_trans hk2.size hk3.size
   refine ja_ h rfl (fun hT=>?_) (fun hF=>.skip ?_)
   ·have hyes:=of_decide_eq_true hT
    rw [if_pos hyes] at htot hnt
    simp only [List.singleton_append,List.length_cons] at hnt
    have e1:sTags ([(q,sFld kind nul of ver true (jd_ ver true sub) (t.at i))]++(sTgd ver true r (i + 1) t).filter fun p=>p.1 == q)=sTag (q,sFld kind nul of ver true (jd_ ver true sub) (t.at i))++sTags ((sTgd ver true r (i + 1) t).filter fun p=>p.1 == q):=by simp [sTags]
    rw [e1] at htot
    generalize hbb:sFld kind nul of ver true (jd_ ver true sub) (t.at i)=bb at htot
    have hlen2:bs.length + ((uvar q).length + ((uvar bb.length).length + bb.length))<=LIM:=by
     have:=congrArg List.length htot
     simp only [List.length_append,sTag] at this
     omega
    refine qt_ (ndrw [false,false,false,false,false,true,true,true] (fun w'=>qc_ (fun _=>False) w3 w') (by kernel_rfl) ?_)
    show evF P _ [mk (some 74) (.load S.tF (tm 16)),mk (some 75) (.move (tm 1)),mk (some 76) (.move (tm 2)),mk (some 77) (.load S.tT (tm 7)),mk (some 78) (.move (tm 15))] a
     fun af=>wpLd P _ _ [cl (some 79) S.fAt [(tm 77),(tm 78)],cl (some 80) S.fField [(tm 74),(tm 75),(tm 76),(tm 79)],mk (some 17) (.assign (tm 80))] af w3.drew
    refine se_loadN h (cs:=qr_ kind lo hi nul tag df of sv) (.t rfl) T.vF (fun w' hI=>qf_.kn hI hc3) (by omega) fun a h=>ju_ h (.t rfl) (by omega) fun a h=>ju_ h (.t rfl) (by omega) fun a h=>se_loadN h (cs:=cs) (.t rfl) (by rw [hlen5];exact T.vT) (fun w' hI=>Fa0.cells (hf3.kn hI) hB) (by omega) fun a h=>ju_ h (.t rfl) (by omega) fun a h=>se_nil ?_
    have hI0:qc_ (fun _=>False) w3 w3.drew:=qc_.drew _ _
    have hfst:=h.pick (m:=[(0,fv),(1,.int .i64 ver),(2,.bool true),(7,pt B 0),(9,v9),(10,v),(11,.int .i64 (n:Int)),(14,.int .i64 (q:Int)),(51,x51),(52,x52),(55,fv),(56,.int .i64 (sf.len:Int)),(57,.int .i64 (i:Int)),(74,.agg (qr_ kind lo hi nul tag df of sv).toArray),(75,.int .i64 ver),(76,.bool true),(77,.agg cs.toArray),(78,.int .i64 (i:Int))]) ⟨rfl,rfl,rfl,rfl,rfl,rfl,rfl,rfl,rfl,rfl,rfl,rfl,rfl,rfl,rfl,rfl,rfl,rfl,trivial⟩
    generalize hFv:Value.agg (qr_ kind lo hi nul tag df of sv).toArray=vF at hfst
    refine jp_ hfst hI0 C.atE (vs:=[.agg cs.toArray,.int .i64 (i:Int)]) (fun n a h=>by
     simp only [List.map_cons,List.map_nil]
     rw [Hd.t (l:=_) (i:=77) rfl n a h,Hd.t (l:=_) (i:=78) rfl n a h]) (C.atC k i cs t w3.drew (ht.far (hf3.kn hI0))) (by omega) fun e w4 hR4=>?_
    obtain ⟨cs4,rfl,ht4,hk4⟩:=hR4
    have hI4:=hI0.trans hk4
    have hfld:=hrs.1 w4 kind lo hi nul tag df of sv ver true k cs4 (t.at i) (hfsub.far (hf3.kn hI4)) (ht4.far (Fa0.of hk4)) (by rw [hbb];omega)
    rw [hFv,hbb] at hfld
    refine ⟨_,rfl,fun a h=>jp_ h hI4 hFE (vs:=[vF,.int .i64 ver,.bool true,.agg cs4.toArray]) (fun n a h=>by
     simp only [List.map_cons,List.map_nil]
     rw [Hd.t (l:=_) (i:=74) rfl n a h,Hd.t (l:=_) (i:=75) rfl n a h,Hd.t (l:=_) (i:=76) rfl n a h,Hd.t (l:=_) (i:=79) rfl n a h]) hfld (by omega) fun e w5 hR5=>?_⟩
    obtain ⟨u,rfl,hu,hk5⟩:=hR5
    have hI5:=hI4.trans hk5
    refine ⟨u,rfl,fun a h=>sl_assign h hI5 (.t rfl) (by omega) fun a h=>sl_nil hI5 ?_⟩
    have hd5:qv_ w5 W.heap.size S.tU8 v bs:=hd3.keep hI5 fun _ _ h=>h
    have hf5:=hf3.kn hI5
    have hs45:w3.heap.size<=w4.heap.size:=hI4.size
    have h:=h.pick (m:=[(0,fv),(1,.int .i64 ver),(2,.bool true),(7,pt B 0),(9,v9),(10,v),(11,.int .i64 (n:Int)),(14,.int .i64 (q:Int)),(17,u),(51,x51),(52,x52),(55,fv),(56,.int .i64 (sf.len:Int)),(57,.int .i64 (i:Int))]) ⟨rfl,rfl,rfl,rfl,rfl,rfl,rfl,rfl,rfl,rfl,rfl,rfl,rfl,rfl,trivial⟩
    show NWP P _ _ a w5
    obtain ⟨bx,cx,hxe,_⟩:=hu.form
    refine qt_ (nrg (qe_ h (.t rfl) (by omega) fun a h=>qe_ h (.t rfl) (by omega) fun a h=>st_conv h (.t rfl) T.dInt T.dU64 (by omega) fun a h=>?_))
    have hw1:IntKind.u64.wrap (q:Int)=(q:Int):=by simp [IntKind.wrap,IntKind.bits,IntKind.signed];omega
    rw [hw1] at h
    refine q3_ h C.uvE (vs:=[.int .u64 (q:Int)]) (fun n a h=>by simp only [List.map_cons,List.map_nil];rw [Hd.t (l:=_) (i:=83) rfl n a h]) (C.uvC q w5 (by omega)) (by omega) fun e w6 hR6=>?_
    obtain ⟨u1,rfl,hu1,hk6⟩:=hR6
    have hf6:=hf5.kn hk6
    have hd6:qv_ w6 W.heap.size S.tU8 v bs:=hd5.keep hk6 fun _ _ h=>h
    have hux6:qv_ w6 w4.heap.size S.tU8 u bb:=hu.keep hk6 fun _ _ h=>h
    refine ⟨u1,rfl,fun a h=>st_app h T.oct (.t rfl) (.t rfl) hd6 (src_dst T.oct hu1) hf6.size (by omega) (by omega) fun v7 w7 a hg7 h=>?_⟩
    have hf7:=hf6.up hg7.keeps fun j hj=>(hd6.own hj).1
    have hux7:qv_ w7 w4.heap.size S.tU8 u bb:=hux6.keep hg7.keeps fun j hj hX=>by
     have h1:=(hux6.own hj).1
     have h2:=hown j hX
     omega
    refine qe_ h (.t rfl) (by omega) fun a h=>?_
    have h':=h
    rw [hxe] at h'
    refine zd_ h' (.t rfl) T.oct.und (by omega) fun a h=>st_conv h (.t rfl) T.dInt T.dU64 (by omega) fun a h=>?_
    rw [<- hxe] at h
    have hbl64:bb.length < 18446744073709551616:=by
     have:bb.length<=LIM:=by omega
     simp only [LIM] at this
     omega
    have hw2:IntKind.u64.wrap (bb.length:Int)=(bb.length:Int):=by
     have:bb.length<=LIM:=by omega
     simp only [LIM] at this
     simp [IntKind.wrap,IntKind.bits,IntKind.signed];omega
    rw [hw2] at h
    refine q3_ h C.uvE (vs:=[.int .u64 (bb.length:Int)]) (fun n a h=>by simp only [List.map_cons,List.map_nil];rw [Hd.t (l:=_) (i:=88) rfl n a h]) (C.uvC bb.length w7 hbl64) (by omega) fun e w8 hR8=>?_
    obtain ⟨u2,rfl,hu2,hk8⟩:=hR8
    have hf8:=hf7.kn hk8
    have hd8:qv_ w8 W.heap.size S.tU8 v7 (bs++uvar q):=hg7.dst.keep hk8 fun _ _ h=>h
    have hux8:qv_ w8 w4.heap.size S.tU8 u bb:=hux7.keep hk8 fun _ _ h=>h
    have hap7:∀ j,v7.ownBlock=some j->v.ownBlock=some j \/ w6.heap.size<=j:=fun j hj=>hg7.own j hj
    refine ⟨u2,rfl,fun a h=>st_app h T.oct (.t rfl) (.t rfl) hd8 (src_dst T.oct hu2) hf8.size (by rw [List.length_append];omega) (by omega) fun v9' w9 a hg9 h=>?_⟩
    have hf9:=hf8.up hg9.keeps fun j hj=>(hd8.own hj).1
    have hux9:qv_ w9 w4.heap.size S.tU8 u bb:=hux8.keep hg9.keeps fun j hj hX=>by
     have h1:=(hux6.own hj)
     rcases hap7 j hX with h2 | h2
     ·have:=hown j h2;omega
     ·omega
    refine qe_ h (.t rfl) (by omega) fun a h=>st_app h T.oct (.t rfl) (.t rfl) hg9.dst (src_dst T.oct hux9) hf9.size (by rw [List.length_append,List.length_append];omega) (by omega) fun v10 w10 a hg10 h=>qd_ h (.t rfl) (by omega) fun a h=>wpList_nil ?_
    have hf10:=hf9.up hg10.keeps fun j hj=>(hg9.dst.own hj).1
    have hn1:n + 1<=bs.length + (uvar q).length:=by have:=uvar_pos q;omega
    have hwn:IntKind.i64.wrap ((n:Int) + 1)=((n + 1:Nat):Int):=by
     have:n + 1<=LIM:=by omega
     simp only [LIM] at this
     simp [IntKind.wrap,IntKind.bits,IntKind.signed];omega
    show NWP P _ _ a w10
    refine nrg (qe_ h (.t rfl) (by omega) fun a h=>j2_ h (.t rfl) .i (by simp) (j0_ w10) (by omega) fun a h=>?_)
    rw [hwn] at h
    refine qd_ h (.t rfl) (by omega) fun a h=>wpList_nil ?_
    refine step a w10 v10 (bs++uvar q++uvar bb.length++bb) (n + 1) _ (h.pick ⟨rfl,rfl,rfl,rfl,rfl,rfl,rfl,rfl,rfl,rfl,rfl,rfl,rfl,trivial⟩) hg10.dst hf10 ?_ (by omega) (by simp only [List.length_append];omega)
    rw [<- htot]
    simp [sTag]
   ·have hno:=of_decide_eq_false hF
    rw [if_neg hno,List.nil_append] at htot hnt
    exact step a w3 v bs n _ (h.pick ⟨rfl,rfl,rfl,rfl,rfl,rfl,rfl,rfl,rfl,rfl,rfl,rfl,rfl,trivial⟩) hd3 hf3 htot hnt hnl
 ·have hge:¬ i < sf.len:=by simp [qz_] at hb;omega
  have hm0:rest=.nil:=by
   cases rest with
   | nil=>rfl
   | cons=>simp only [SFs.len] at hrl;omega
  subst hm0
  simp only [sTgd,List.filter_nil,sTags,List.map_nil,List.flatten_nil,List.append_nil,List.length_nil,Nat.add_zero] at htot hnt
  subst htot hnt
  exact .exit (hR a w v (h.pick ⟨rfl,rfl,rfl,rfl,rfl,rfl,rfl,rfl,rfl,trivial⟩) hd hk hnl)
theorem pt_loop2 (C:LeafC P S) (K:KtC P S) (hFE:Ent P S.fField) {W:World} {sf:SFs} {fv v9:Value} {ver:Int} {k B:Nat} {cs:List Value} {t:Tr} (hfs:FsRp W sf fv) (ht:TrRp W k cs t) (hB:qf_ W B 0 cs) (hsub:SubC P S sf) (hus:UsC P S sf) (hkn:qn_ sf<=1000)
  (hlim:(sTags (sSort (qn_ sf) (sTgd ver true sf 0 t))).length<=LIM) {a:Act}
  (h:St 132 a [(0,fv),(1,.int .i64 ver),(2,.bool true),(7,pt B 0),(9,v9),(10,qs_),(11,.int .i64 0),(51,.int .i64 (qn_ sf:Int)),(52,.int .i64 0)]) {R:Exit->Act->World->Prop}
  (hR:∀ (a':Act) (w':World) (v:Value),St 132 a' [(0,fv),(7,pt B 0),(9,v9),(10,v),(11,.int .i64 ((sSort (qn_ sf) (sTgd ver true sf 0 t)).length:Int))]->qv_ w' W.heap.size S.tU8 v (sTags (sSort (qn_ sf) (sTgd ver true sf 0 t)))->Fa0 W w'->(sSort (qn_ sf) (sTgd ver true sf 0 t)).length<=(sTags (sSort (qn_ sf) (sTgd ver true sf 0 t))).length->R .normal a' w') :
  NWP P (.block 2 (.loop (.seq (rg (opt_12 S)) (.seq (.cond (tm 53) .skip (.exit 2)) (.seq (.block 3 (.seq (rg (opt_13 S)) (.seq (rg (opt_14 S)) (.block 4 (.loop (.seq (rg (opt_15 S)) (.seq (.cond (tm 58) .skip (.exit 4)) (.seq (.block 5 (.seq (rg (opt_16 S)) (.seq (.region 2 (opt_17 S).toArray true) (.cond (tm 73) (.seq (.region 1 (opt_18 S).toArray true) (.seq (rg (opt_19 S)) (rg (opt_20 S)))) .skip)))) (rg (opt_21 S)))))))))) (rg (opt_22 S))))))) R a W:=by
 have T:=C.tab
 generalize hl:sTgd ver true sf 0 t=l at hR hlim
 refine z2_ (fun m a' w'=>∃ (q:Nat) (v:Value) (bs:Bs) (n:Nat),q + m=qn_ sf/\bs++sTags (((List.range (qn_ sf)).drop q).flatMap fun k=>l.filter fun p=>p.1 == k)=sTags (sSort (qn_ sf) l)/\n + (((List.range (qn_ sf)).drop q).flatMap fun k=>l.filter fun p=>p.1 == k).length=(sSort (qn_ sf) l).length/\n<=bs.length/\qv_ w' W.heap.size S.tU8 v bs/\Fa0 W w' /\
   St 132 a' [(0,fv),(1,.int .i64 ver),(2,.bool true),(7,pt B 0),(9,v9),(10,v),(11,.int .i64 (n:Int)),(51,.int .i64 (qn_ sf:Int)),(52,.int .i64 (q:Int))]) (qn_ sf)
  ⟨qn_ sf,Nat.le_refl _,0,qs_,[],0,by omega,by simp [sSort],by simp [sSort],by simp,qv_.nil _ _ _,Fa0.refl W,h⟩ ?_
 rintro m a w hm ⟨q,v,bs,n,hqm,htot,hnt,hnl,hd,hk,h⟩
 refine qt_ (nrg (q2_ h rfl (.t rfl) (.t rfl) (by omega) fun a h=>wpList_nil ?_))
 refine st_test h rfl (fun hb=>?_) (fun hb=>?_)
 ·have hlt:q < qn_ sf:=by simp [qz_] at hb;omega
  have hdr:(List.range (qn_ sf)).drop q=q :: (List.range (qn_ sf)).drop (q + 1):=by
   rw [List.drop_eq_getElem_cons (by rw [List.length_range];exact hlt),List.getElem_range]
  rw [hdr,List.flatMap_cons] at htot hnt
  rw [List.length_append] at hnt
  have e1:∀ x y:List (Nat × Bs),sTags (x++y)=sTags x++sTags y:=fun x y=>by simp [sTags]
  rw [e1,<- List.append_assoc] at htot
  refine .skip (qt_ (.block (qt_ (nrg (qe_ h (.t rfl) (by omega) fun a h=>qd_ h (.t rfl) (by omega) fun a h=>wpList_nil ?_)))))
  have hl2:(bs++sTags (l.filter fun p=>p.1 == q)).length<=LIM:=by
   have:=congrArg List.length htot
   rw [List.length_append] at this
   omega
  refine pt_loop4 C K hFE (q:=q) (x51:=.int .i64 (qn_ sf:Int)) (x52:=.int .i64 (q:Int)) (v9:=v9) (ver:=ver) (total:=bs++sTags (l.filter fun p=>p.1 == q)) (nt:=n + (l.filter fun p=>p.1 == q).length) hfs ht hB hsub hus (by omega) hl2 hd hk (by rw [hl]) (by rw [hl]) hnl (h.pick ⟨rfl,rfl,rfl,rfl,rfl,rfl,rfl,rfl,rfl,rfl,trivial⟩) fun a w2 v2 h hd2 hk2 hn2=>?_
  refine nrg (j2_ h (.t rfl) .i (by simp) (j0_ w2) (by omega) fun a h=>?_)
  have hw:IntKind.i64.wrap ((q:Int) + 1)=((q + 1:Nat):Int):=by simp [IntKind.wrap,IntKind.bits,IntKind.signed];omega
  rw [hw] at h
  refine qe_ h (.t rfl) (by omega) fun a h=>wpList_nil ?_
  exact ⟨m - 1,by omega,by omega,q + 1,v2,_,_,by omega,htot,by omega,hn2,hd2,hk2,h.pick ⟨rfl,rfl,rfl,rfl,rfl,rfl,rfl,rfl,rfl,trivial⟩⟩
 ·have hge:¬ q < qn_ sf:=by simp [qz_] at hb;omega
  rw [List.drop_of_length_le (by rw [List.length_range];omega)] at htot hnt
  simp only [List.flatMap_nil,sTags,List.map_nil,List.flatten_nil,List.append_nil,List.length_nil,Nat.add_zero] at htot hnt
  have htot:bs=sTags (sSort (qn_ sf) l):=htot
  subst htot hnt
  exact .exit (hR a w v (h.pick ⟨rfl,rfl,rfl,rfl,rfl,trivial⟩) hd hk hnl)
end
end Go.Proofs.Ytbgklecbmhaadaa.Kx

namespace Go.Proofs.Ytbgklecbmhaadaa.Kx
open Go
set_option maxRecDepth 4000
def zp_ (e:TgE):Bs:=sTag (e.k.toNat,e.b.take zh_)
section
variable {P:Program} {S:SN}
theorem pt_loop6e (C:LeafC P S) (K:KtC P S) {W W5:World} {L6:Nat} {ux v9 v0:Value} {es:List TgE} {bs0:Bs} {n0:Nat} (hes:zb_ W5 L6 S.tG ux es) (hel:∀ e ∈ es,OcRp W e.v e.b) (hesl:es.length<=zh_) (hd0:qv_ W5 W.heap.size S.tU8 v0 bs0) (hk0:Fa0 W W5) (hn0:n0<=bs0.length)
  {total:Bs} (hlim:total.length<=LIM) (htot0:bs0++(es.map zp_).flatten=total) {a:Act}
  (h:St 132 a [(9,v9),(10,v0),(11,.int .i64 (n0:Int)),(100,ux),(101,.int .i64 (es.length:Int)),(102,.int .i64 0)]) {R:Exit->Act->World->Prop}
  (hR:∀ (a':Act) (w':World) (v:Value),St 132 a' [(9,v9),(10,v),(11,.int .i64 ((n0 + es.length:Nat):Int))]->qv_ w' W.heap.size S.tU8 v total->Fa0 W w'->R .normal a' w') :
  NWP P (.block 6 (.loop (.seq (rg (opt_24 S)) (.seq (.cond (tm 103) .skip (.exit 6)) (.seq (.block 7 (.seq (rg (opt_25 S)) (.seq (rg (opt_26 S)) (.seq (rg (opt_27 S)) (rg (opt_28 S)))))) (rg (opt_29 S))))))) R a W5:=by
 have T:=C.tab
 have hapart:∀ {w:World} {v:Value} {bs:Bs},qv_ w W.heap.size S.tU8 v bs->zb_ w L6 S.tG ux es->∀ j,ux.ownBlock=some j->¬ v.ownBlock=some j:=by
  intro w v bs hd ho j hj hv
  rcases hd with ⟨rfl,_⟩ | ⟨g,c,cur,rfl,_,hg,_⟩
  ·cases hv
  rcases ho with ⟨rfl,_⟩ | ⟨g',c',cur',rfl,_,hg',_⟩
  ·cases hj
  obtain rfl:g=j:=Option.some.inj hv
  obtain rfl:g'=g:=Option.some.inj hj
  rw [hg] at hg'
  simp only [Option.some.injEq,Obj.cells.injEq] at hg'
  exact K.tGU hg'.2.1.symm
 refine z2_ (fun m a' w'=>∃ (i:Nat) (v:Value) (bs:Bs),i + m=es.length/\bs++((es.drop i).map zp_).flatten=total/\n0 + i<=bs.length/\qv_ w' W.heap.size S.tU8 v bs/\Fa0 W w'/\zb_ w' L6 S.tG ux es /\
   St 132 a' [(9,v9),(10,v),(11,.int .i64 ((n0 + i:Nat):Int)),(100,ux),(101,.int .i64 (es.length:Int)),(102,.int .i64 (i:Int))]) es.length
  ⟨es.length,Nat.le_refl _,0,v0,bs0,by omega,by simpa using htot0,by omega,hd0,hk0,hes,h⟩ ?_
 rintro m a w hm ⟨i,v,bs,him,htot,hnb,hd,hk,ho,h⟩
 simp only [zh_] at hesl
 refine qt_ (nrg (q2_ h rfl (.t rfl) (.t rfl) (by omega) fun a h=>wpList_nil ?_))
 refine st_test h rfl (fun hb=>?_) (fun hb=>?_)
 ·have hlt:i < es.length:=by simp [qz_] at hb;omega
  obtain ⟨x,hx⟩:∃ x,es[i]?=some x:=⟨_,List.getElem?_eq_getElem hlt⟩
  obtain ⟨g,c,hv,_,hcs⟩:=ho.get hx
  have hsv:OcRp W x.v x.b:=hel x (List.mem_of_getElem? hx)
  have hdrop:((es.drop i).map zp_).flatten=zp_ x++((es.drop (i + 1)).map zp_).flatten:=by
   rw [List.drop_eq_getElem_cons hlt,(List.getElem?_eq_some_iff.1 hx).2]
   simp
  rw [hdrop] at htot
  refine .skip (qt_ (.block (qt_ (nrg ?_))))
  have h':=h
  rw [hv] at h'
  refine zj_ h' (sz:=2) (.t rfl) (.t rfl) hlt T.dGs T.vG.size (by omega) fun a h=>jh_ h (cs:=[.int .u32 (x.k.toNat:Int),x.v]) (.t rfl) T.vG hcs (by omega) fun a h=>?_
  rw [<- hv] at h
  have hone:∀ u ∈ [Value.int .u32 (x.k.toNat:Int),x.v],u.oneCell'=true:=by
   obtain ⟨_,_,e,_⟩:=hsv.form
   intro u hu
   simp only [List.mem_cons,List.not_mem_nil,or_false] at hu
   rcases hu with rfl | rfl
   ·rfl
   ·rw [e];rfl
  refine st_newvar h (cs:=[.int .u32 (x.k.toNat:Int),x.v]) T.zG rfl (fun _=>.t rfl) T.vG.size hone (by omega) fun w2 a hk2 hc2 h=>wpList_nil ?_
  have hf2:=hk.kn hk2
  have hd2:qv_ w2 W.heap.size S.tU8 v bs:=hd.keep hk2 fun _ _ h=>h
  have ho2:zb_ w2 L6 S.tG ux es:=ho.keep hk2 fun _ _ h=>h
  have hown:∀ j,v.ownBlock=some j->j < w.heap.size:=fun j hj=>(hd.own hj).2
  refine qt_ (nrg (q1_ h (.t rfl) T.g1 (by omega) fun a h=>qu_ h (.t rfl) T.g1.var (hc2.at (j:=1) rfl) (by omega) fun a h=>?_))
  refine q3_ h C.whE (vs:=[x.v]) (fun n a h=>by simp only [List.map_cons,List.map_nil];rw [Hd.t (l:=_) (i:=107) rfl n a h]) (C.whC w2 (fun k=>W.heap.size<=k) x.v x.b ((hsv.mono fun k hk hX=>by omega).keep hf2)) (by omega) fun e w3 hR3=>?_
  obtain ⟨v20,rfl,hv20,rfl⟩:=hR3
  obtain ⟨bx,cx,hxe,_⟩:=hv20.form
  have hm20:=take_most x.b
  have hp1:(zp_ x).length=(uvar x.k.toNat).length + ((uvar (x.b.take zh_).length).length + (x.b.take zh_).length):=by simp [zp_,sTag]
  have htl:bs.length + (zp_ x).length<=LIM:=by
   have:=congrArg List.length htot
   simp only [List.length_append] at this
   omega
  refine ⟨v20,rfl,fun a h=>qd_ h (.t rfl) (by omega) fun a h=>wpList_nil ?_⟩
  have h:=h.pick (m:=[(9,v9),(10,v),(11,.int .i64 ((n0 + i:Nat):Int)),(19,pt w.heap.size 0),(20,v20),(100,ux),(101,.int .i64 (es.length:Int)),(102,.int .i64 (i:Int))]) ⟨rfl,rfl,rfl,rfl,rfl,rfl,rfl,rfl,trivial⟩
  refine qt_ (nrg (qe_ h (.t rfl) (by omega) fun a h=>q1_ h (.t rfl) T.g0 (by omega) fun a h=>qu_ h (.t rfl) T.g0.var (hc2.at (j:=0) rfl) (by omega) fun a h=>st_conv h (.t rfl) T.dU32 T.dU64 (by omega) fun a h=>?_))
  have hx32:=x.k.toNat_lt
  have hw1:IntKind.u64.wrap (x.k.toNat:Int)=(x.k.toNat:Int):=by simp [IntKind.wrap,IntKind.bits,IntKind.signed];omega
  rw [hw1] at h
  refine q3_ h C.uvE (vs:=[.int .u64 (x.k.toNat:Int)]) (fun n a h=>by simp only [List.map_cons,List.map_nil];rw [Hd.t (l:=_) (i:=112) rfl n a h]) (C.uvC x.k.toNat w3 (by omega)) (by omega) fun e w4 hR4=>?_
  obtain ⟨u1,rfl,hu1,hk4⟩:=hR4
  have hf4:=hf2.kn hk4
  have hd4:qv_ w4 W.heap.size S.tU8 v bs:=hd2.keep hk4 fun _ _ h=>h
  have ho4:=ho2.keep hk4 fun _ _ h=>h
  refine ⟨u1,rfl,fun a h=>st_app h T.oct (.t rfl) (.t rfl) hd4 (src_dst T.oct hu1) hf4.size (by omega) (by omega) fun v5 w5 a hg5 h=>?_⟩
  have hf5:=hf4.up hg5.keeps fun j hj=>(hd4.own hj).1
  have ho5:=ho4.keep hg5.keeps (hapart hd4 ho4)
  refine qe_ h (.t rfl) (by omega) fun a h=>?_
  have h':=h
  rw [hxe] at h'
  refine zd_ h' (.t rfl) T.oct.und (by omega) fun a h=>st_conv h (.t rfl) T.dInt T.dU64 (by omega) fun a h=>?_
  rw [<- hxe] at h
  have hw2:IntKind.u64.wrap ((x.b.take zh_).length:Int)=((x.b.take zh_).length:Int):=by simp only [zh_] at hm20;simp [IntKind.wrap,IntKind.bits,IntKind.signed,-List.length_take];simp only [zh_];omega
  rw [hw2] at h
  refine q3_ h C.uvE (vs:=[.int .u64 ((x.b.take zh_).length:Int)]) (fun n a h=>by simp only [List.map_cons,List.map_nil];rw [Hd.t (l:=_) (i:=117) rfl n a h]) (C.uvC (x.b.take zh_).length w5 (by simp only [zh_] at hm20 ⊢;omega)) (by omega) fun e w6 hR6=>?_
  obtain ⟨u2,rfl,hu2,hk6⟩:=hR6
  have hf6:=hf5.kn hk6
  have hd6:qv_ w6 W.heap.size S.tU8 v5 (bs++uvar x.k.toNat):=hg5.dst.keep hk6 fun _ _ h=>h
  have ho6:=ho5.keep hk6 fun _ _ h=>h
  refine ⟨u2,rfl,fun a h=>st_app h T.oct (.t rfl) (.t rfl) hd6 (src_dst T.oct hu2) hf6.size (by rw [List.length_append];omega) (by omega) fun v7 w7 a hg7 h=>?_⟩
  have hf7:=hf6.up hg7.keeps fun j hj=>(hd6.own hj).1
  have ho7:=ho6.keep hg7.keeps (hapart hd6 ho6)
  have hv7:OcX w7 (fun k=>W.heap.size<=k) v20 (x.b.take zh_):=
   (((hv20.keep (hk4.mono fun _ _ h=>h.elim)).keep (hg5.keeps.mono fun j _ hj=>(hd4.own hj).1)).keep (hk6.mono fun _ _ h=>h.elim)).keep (hg7.keeps.mono fun j _ hj=>(hd6.own hj).1)
  refine qe_ h (.t rfl) (by omega) fun a h=>st_app h T.oct (.t rfl) (.t rfl) hg7.dst (src_oc T.oct hv7) hf7.size (by rw [List.length_append,List.length_append];omega) (by omega) fun v8 w8 a hg8 h=>qd_ h (.t rfl) (by omega) fun a h=>wpList_nil ?_
  have hf8:=hf7.up hg8.keeps fun j hj=>(hg7.dst.own hj).1
  have ho8:=ho7.keep hg8.keeps (hapart hg7.dst ho7)
  have hn1:n0 + i + 1<=bs.length + (uvar x.k.toNat).length:=by have:=uvar_pos x.k.toNat;omega
  have hni:IntKind.i64.wrap (((n0 + i:Nat):Int) + 1)=((n0 + (i + 1):Nat):Int):=by
   have:n0 + i + 1<=LIM:=by omega
   simp only [LIM] at this
   simp [IntKind.wrap,IntKind.bits,IntKind.signed];omega
  have hwi:IntKind.i64.wrap ((i:Int) + 1)=((i + 1:Nat):Int):=by simp [IntKind.wrap,IntKind.bits,IntKind.signed];omega
  refine nrg (qe_ h (.t rfl) (by omega) fun a h=>j2_ h (.t rfl) .i (by simp) (j0_ w8) (by omega) fun a h=>?_)
  rw [hni] at h
  refine qd_ h (.t rfl) (by omega) fun a h=>wpList_nil ?_
  refine nrg (j2_ h (.t rfl) .i (by simp) (j0_ w8) (by omega) fun a h=>?_)
  rw [hwi] at h
  refine qe_ h (.t rfl) (by omega) fun a h=>wpList_nil ?_
  refine ⟨m - 1,by omega,by omega,i + 1,v8,bs++uvar x.k.toNat++uvar (x.b.take zh_).length++x.b.take zh_,by omega,?_,by simp only [List.length_append];omega,hg8.dst,hf8,ho8,h.pick ⟨rfl,rfl,rfl,rfl,rfl,rfl,trivial⟩⟩
  rw [<- htot]
  simp [zp_,sTag]
 ·have hge:¬ i < es.length:=by simp [qz_] at hb;omega
  rw [List.drop_of_length_le (by omega)] at htot
  simp only [List.map_nil,List.flatten_nil,List.append_nil] at htot
  subst htot
  have hi:i=es.length:=by omega
  subst hi
  exact .exit (hR a w v (h.pick ⟨rfl,rfl,rfl,trivial⟩) hd hk)
theorem pt_callsT (C:LeafC P S) (K:KtC P S) (hfn:FnIs P S.fPart 132 [8] (csPt S)) (hFE:Ent P S.fField) {sf:SFs} (htb:zy_ sf=true) (hsub:SubC P S sf) (hus:UsC P S sf):PartC P S sf:=by
 intro W ver fx k cs t fv hfs ht hlim
 have T:=C.tab
 have hkl:=sKnown_le sf htb
 have hout:(sFds ver fx sf 0 t).length<=LIM:=by
  rw [jd_,List.length_append] at hlim
  omega
 refine z0_ T.mixed hfn (by simp) _ (by simp) fun a h=>?_
 unfold csPt
 refine qt_ (nrg (st_box h (cs:=cs) (.t rfl) (by omega) fun a h=>?_))
 have hk1:qc_ (fun _=>False) W (W.alloc (.cells cs.toArray S.tT (0,0))):=qc_.alloc _ _ _
 have hB:=jn_ W cs S.tT
 generalize W.alloc (.cells cs.toArray S.tT (0,0))=w1 at hk1 hB ⊢
 have hf1:Fa0 W w1:=Fa0.of hk1
 refine qd_ h .c (by omega) fun a h=>wpList_nil ?_
 refine qt_ (nrg (qd_ h .c (by omega) fun a h=>qd_ h .c (by omega) fun a h=>wpList_nil ?_))
 refine qt_ (nrg (qd_ h .i (by omega) fun a h=>wpList_nil ?_))
 refine qt_ (pt_loop1 C hFE (hfs.far hf1) (ht.far hf1) hB hsub hout (h.pick ⟨rfl,rfl,rfl,rfl,rfl,rfl,rfl,trivial⟩) fun a w3 v h hd hf3=>?_)
 have hW3:qc_ (fun _=>False) W w3:=hk1.trans hf3.keeps
 refine qt_ (qt_ (nrg (qe_ h (.t rfl) (by omega) fun a h=>st_not h (.t rfl) (by omega) fun a h=>wpList_nil ?_)))
 cases fx with
 | false=>
  refine ja_ h rfl (fun _=>?_) (fun hb=>by cases hb)
  refine qt_ (nrg (qe_ h (.t rfl) (by omega) fun a h=>qd_ h (.t rfl) (by omega) fun a h=>wpList_nil (.ret ?_)))
  have e:jd_ ver false sf t=sFds ver false sf 0 t:=by
   rw [jd_];simp [sTail]
  rw [e]
  exact ret1 (RR:=q6_ S.tU8 (sFds ver false sf 0 t) W) h rfl ⟨v,rfl,(Gr.lower hk1.size (Gr.refl hd)).dst,hW3⟩
 | true=>
  refine ja_ h rfl (fun hb=>by cases hb) (fun _=>?_)
  refine .skip (qt_ (qt_ (nrg (qe_ h (.t rfl) (by omega) fun a h=>?_))))
  refine q3_ h C.knE (vs:=[fv]) (fun n a h=>by simp only [List.map_cons,List.map_nil];rw [Hd.t (l:=_) (i:=49) rfl n a h]) (C.knC sf fv w3 htb ((hfs.far hf1).far hf3)) (by omega) fun e w4 hR4=>?_
  obtain ⟨rfl,hk4⟩:=hR4
  refine ⟨_,rfl,fun a h=>st_conv h (.t rfl) T.dU32 T.dInt (by omega) fun a h=>?_⟩
  have hw0:IntKind.i64.wrap (qn_ sf:Int)=(qn_ sf:Int):=by simp [IntKind.wrap,IntKind.bits,IntKind.signed];omega
  rw [hw0] at h
  refine qe_ h .i (by omega) fun a h=>wpList_nil ?_
  have hf4:Fa0 w1 w4:=hf3.kn hk4
  have hB4:=hf4.cells hB
  have hd4:qv_ w4 w1.heap.size S.tU8 v (sFds ver true sf 0 t):=hd.keep hk4 fun _ _ h=>h
  have hfs4:=(hfs.far hf1).far hf4
  have ht4:=(ht.far hf1).far hf4
  have epart:jd_ ver true sf t=sFds ver true sf 0 t++(uvar ((sSort (qn_ sf) (sTgd ver true sf 0 t)).length + (sUnk (qn_ sf) t.tags).length)++(sTags (sSort (qn_ sf) (sTgd ver true sf 0 t))++sTags ((sUnk (qn_ sf) t.tags).map fun p=>(p.1,p.2.take zh_)))):=by
   rw [jd_];simp [sTail]
  rw [epart] at hlim
  simp only [List.length_append] at hlim
  refine pt_loop2 C K hFE (v9:=v) (ver:=ver) hfs4 ht4 hB4 hsub hus hkl (by omega) (h.pick ⟨rfl,rfl,rfl,rfl,rfl,rfl,rfl,rfl,rfl,trivial⟩) fun a w5 v10 h hd10 hf5 hnl=>?_
  generalize hN:(sSort (qn_ sf) (sTgd ver true sf 0 t)).length=NK at hlim h hnl epart
  generalize hS:sTags (sSort (qn_ sf) (sTgd ver true sf 0 t))=SK at hlim hd10 hnl epart
  have hB5:=Fa0.cells hf5 hB4
  obtain ⟨uv,huv,hcell⟩:∃ uv,RowRp w5 2 (TagRp w4) uv t.raw/\w5.cell? ⟨W.heap.size,0 + 4,none⟩=some uv:=by
   cases k with
   | zero=>exact ht4.elim
   | succ k=>
    obtain ⟨sv,lv,uv,rfl,_,_,huv⟩:=ht4
    exact ⟨uv,huv.imp (fun b o cs hc=>hf5.cells hc) (fun cs x hx=>hx),hB5.at (j:=4) rfl⟩
  refine qt_ (qt_ (nrg (qe_ h (.t rfl) (by omega) fun a h=>q1_ h (.t rfl) T.t4 (by omega) fun a h=>qu_ h (.t rfl) T.t4.var hcell (by omega) fun a h=>?_)))
  refine q3_ h C.unE (vs:=[fv,uv]) (fun n a h=>by simp only [List.map_cons,List.map_nil];rw [Hd.t (l:=_) (i:=97) rfl n a h,Hd.t (l:=_) (i:=99) rfl n a h]) (K.unD sf fv uv t.raw w4 w5 htb (hfs4.far hf5) huv) (by omega) fun e w6 hR6=>?_
  obtain ⟨ux,es,rfl,ho6,hel,hmap,hk6⟩:=hR6
  have eU:sUnk (qn_ sf) t.tags=es.map tgPair:=by rw [hmap,tags_raw];rfl
  rw [eU] at hlim epart
  have eP:sTags ((es.map tgPair).map fun p=>(p.1,p.2.take zh_))=(es.map zp_).flatten:=by
   simp only [sTags,List.map_map]
   rfl
  rw [eP] at hlim epart
  rw [List.length_map] at hlim epart
  have hesl:es.length<=zh_:=by
   have h2:=(sUnk_ok (qn_ sf) t).2.2
   rw [eU,List.length_map] at h2
   exact h2
  have hf6:Fa0 w4 w6:=hf5.kn hk6
  have hd106:qv_ w6 w4.heap.size S.tU8 v10 SK:=hd10.keep hk6 fun _ _ h=>h
  obtain ⟨bx,cx,hxe,_⟩:=ho6.form
  refine ⟨ux,rfl,fun a h=>?_⟩
  have h':=h
  rw [hxe] at h'
  refine zd_ h' (.t rfl) T.dGs (by omega) fun a h=>qe_ h .i (by omega) fun a h=>wpList_nil ?_
  rw [<- hxe] at h
  refine pt_loop6e C K (v9:=v) (n0:=NK) (total:=SK++(es.map zp_).flatten) ho6 hel hesl hd106 hf6 hnl (by rw [List.length_append];omega) rfl (h.pick ⟨rfl,rfl,rfl,rfl,rfl,rfl,trivial⟩) fun a w7 v11 h hd11 hf7=>?_
  have hd7:qv_ w7 w1.heap.size S.tU8 v (sFds ver true sf 0 t):=hd4.keep hf7 fun j hj=>by have:=(hd4.own hj).2;omega
  have hf7':Fa0 w1 w7:=hf4.up hf7 fun j hj=>Nat.le_trans hf4.size hj
  refine qt_ (nrg (qe_ h (.t rfl) (by omega) fun a h=>qe_ h (.t rfl) (by omega) fun a h=>st_conv h (.t rfl) T.dInt T.dU64 (by omega) fun a h=>?_))
  have hNl:NK + es.length < 18446744073709551616:=by
   simp only [zh_] at hesl
   have:SK.length<=LIM:=by omega
   simp only [LIM] at this
   omega
  have hw:IntKind.u64.wrap ((NK + es.length:Nat):Int)=((NK + es.length:Nat):Int):=by simp [IntKind.wrap,IntKind.bits,IntKind.signed];omega
  rw [hw] at h
  refine q3_ h C.uvE (vs:=[.int .u64 ((NK + es.length:Nat):Int)]) (fun n a h=>by simp only [List.map_cons,List.map_nil];rw [Hd.t (l:=_) (i:=127) rfl n a h]) (C.uvC (NK + es.length) w7 hNl) (by omega) fun e w8 hR8=>?_
  obtain ⟨u,rfl,hu,hk8⟩:=hR8
  have hf8:=hf7'.kn hk8
  have hd8:qv_ w8 w1.heap.size S.tU8 v (sFds ver true sf 0 t):=hd7.keep hk8 fun _ _ h=>h
  refine ⟨u,rfl,fun a h=>st_app h T.oct (.t rfl) (.t rfl) hd8 (src_dst T.oct hu) hf8.size (by omega) (by omega) fun v8 w9 a hg8 h=>?_⟩
  have hf9:=hf8.up hg8.keeps fun j hj=>(hd8.own hj).1
  have hd11':qv_ w9 w4.heap.size S.tU8 v11 (SK++(es.map zp_).flatten):=(hd11.keep hk8 fun _ _ h=>h).keep hg8.keeps fun j hj hX=>by
   have h1:=(hd11.own hj).1
   have h2:=(hd4.own hX).2
   omega
  refine qe_ h (.t rfl) (by omega) fun a h=>st_app h T.oct (.t rfl) (.t rfl) hg8.dst (src_dst T.oct hd11') hf9.size (by rw [List.length_append,List.length_append];omega) (by omega) fun v9 w10 a hg9 h=>qd_ h (.t rfl) (by omega) fun a h=>wpList_nil (.ret ?_)
  have hf10:=hf9.up hg9.keeps fun j hj=>(hg8.dst.own hj).1
  refine ret1 (RR:=q6_ S.tU8 (jd_ ver true sf t) W) h rfl ⟨v9,rfl,?_,hk1.trans hf10.keeps⟩
  rw [epart,<- List.append_assoc]
  exact (Gr.lower hk1.size (Gr.refl hg9.dst)).dst
def sTgB:SFs->Bool
 | .nil=>true
 | .cons _ _ _ _ tag _ _ sub r=>decide (tag < 1000) && sTgB sub && sTgB r
theorem sTgB_tags:∀ sf:SFs,sTgB sf=true->zy_ sf=true
 | .nil,_=>rfl
 | .cons _ _ _ _ tag _ _ sub r,h=>by
  simp only [sTgB,Bool.and_eq_true] at h
  simp only [zy_,Bool.and_eq_true]
  exact ⟨h.1.1,sTgB_tags r h.2⟩
theorem ref_callsT (C:LeafC P S) (K:KtC P S) (hP:FnIs P S.fPart 132 [8] (csPt S)) (hF:FnIs P S.fField 76 [8] (csFl S)) (hV:FnIs P S.fVal 70 [12] (csVa S)) (hU:FnIs P S.fUsual 91 [4] (csUs S)):∀ sf:SFs,sTgB sf=true->PartC P S sf/\SubC P S sf/\UsC P S sf
 | .nil,_=>⟨pt_callsT C K hP hF.ent rfl trivial trivial,trivial,trivial⟩
 | .cons kind lo hi nul tag df of sub r,h=>by
  have hpl:=sTgB_tags _ h
  simp only [sTgB,Bool.and_eq_true] at h
  have hs:=ref_callsT C K hP hF hV hU sub h.1.2
  have hr:=ref_callsT C K hP hF hV hU r h.2
  have hsub:SubC P S (.cons kind lo hi nul tag df of sub r):=⟨fl_calls C hF hP.ent hV.ent hs.1 (va_calls C hV hP.ent hs.1),hr.2.1⟩
  have hus:UsC P S (.cons kind lo hi nul tag df of sub r):=⟨us_calls C K.same hU (sTgB_tags sub h.1.2) hs.2.2,hr.2.2⟩
  exact ⟨pt_callsT C K hP hF.ent hpl hsub hus,hsub,hus⟩
theorem ktC_of (T:RefT P S) (hAt:FnIsC P S.fAt 16 4 S.tT (csAt S)) (hKE:Ent P S.fKnown) (hK:∀ (sf:SFs) (fv:Value) (w:World),zy_ sf=true->FsRp w sf fv->Calls P S.fKnown [fv].toArray w fun e w'=>e=.returned (.int .u32 (qn_ sf:Int))/\qc_ (fun _=>False) w w') (hUn:FnIs P S.fUnk 85 [4] (csUn S)) (hUE:Ent P S.fUsual)
  {ntSm:Nat} (hSm:FnIs P S.fSame ntSm [4] (cSame S.tSl S.tU8 S.tInt)) (hnt:26<=ntSm) (h8:jo_ P S.tU8 false 1) (hne:S.tG ≠ S.tU8):KtC P S where
 same:=⟨hSm.ent,fun _ _ _ _ _ _ ha hb hla=>same_calls T.mixed T.oct h8 hSm hnt ha hb hla⟩
 usE:=hUE
 atD:=fun _ _ _ _ w0 ht=>at_det T hAt w0 ht
 unD:=fun sf fv uv raw W0 W htb hfs hraw=>un_calls0 T hKE hK hUn sf fv uv raw W0 W htb hfs hraw
 tGU:=hne
end
end Go.Proofs.Ytbgklecbmhaadaa.Kx
