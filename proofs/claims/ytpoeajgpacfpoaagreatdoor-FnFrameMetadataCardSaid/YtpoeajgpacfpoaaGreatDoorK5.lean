/-
  PLAIN LAWS AND CONTRACTS of messages, part 5.
-/
import Derived.Test.YtpoeajgpacfpoaaGreatDoorK4

namespace Go.Proofs.YtpoeajgpacfpoaaGreatDoor.Kx
open Go
section
variable {P:Program} {g:G} {av:PF->Bool} {fl:Bool} {D:Nat->Option (List (Nat × Value))}
theorem uc (K0:KB P g av fl){fs:Fds}(h1:pk P g av fl D fs)(h2:k9 P g av fl D fs):zq P g av fl D fs:=by
 intro nm cx fx ver S R B O r m k0 n T kt toff K E a w te Io HY hc Ih hk Jb hn hb JP ho
 simp only[vA,Bool.and_eq_true]at Io
 obtain⟨⟨⟨KZ,K5⟩,JU⟩,O7⟩:=Io
 have KJ:R<w.heap.size:=HY.rd.lt
 have KC:B<w.heap.size:=hb.lt
 have Iq:=hc.le
 have Ox:=up_gFds g fs nm.s cx n
 have hpl':fs.plain=true \/ ∀ X,RpF w X fs B O (dfFds fs):=by
  rcases JP with h|h
  ·exact .inl h.1
  ·exact .inr h.1
 unfold fo at hn ⊢
 rw[aX]at hn
 refine ep ?_
 rw[aO]
 refine h1 nm.s cx fx ver S R B O r m k0 n T (dl toff) _ E a w te KZ K5 HY hc Ih hk Jb ?_ hb hpl' ⟨fun vs r1 a1 w1 he HX J5 Kq Ji=>?_,fun he a1 w1 HX JX Ir=>?_,fun he=>?_⟩
 ·have hu:i6 (if(!cx.hf)=true then[]else if fs.tagged=true then[gX cx (mO g cx (nm.n 0) (nm.n 2) (nm.n 3) (gS [aC g.uv cx.b (nm.n 1),jX g cx (nm.n 1) (nm.n 4) T kt (gTagd g cx fs nm.s)])) bp] else[gX cx (lV g cx T kt) bp]:List GC):=
   cQ ar (cQ (ag (bX (oJ (ei (ag (am _ _) (ag (lL (up_gTagd g fs nm.s cx)) ar)))) (bq _)) ar) (ag (bX (am _ _) (bq _)) ar))
  exact Nat.le_trans (hu _) hn
 ·have If:=HX.size
  have Is:RC g cx fx ver S R B O r1 a1 w1:=HY.step hc HX J5 Kq.keeps (fun _ _ h=>h)
  have IX:=hb.evo Kq
  have hev1':dS R B (fs.Zn toff O) w w1:=Kq.mono fun j hj=>.inl hj
  have J4:gJ fx fs.tagged (rdFds fx ver fs) (rdTag fx ver fs) r=(if !fx then .ok (.st vs []) r1 else if fs.tagged then dG (rdTag fx ver fs) (b5 r1).1 vs [] (b5 r1).2 else .ok (.st vs (fz (b5 r1).1 [] (b5 r1).2).1) (fz (b5 r1).1 [] (b5 r1).2).2):=by
   simp only[gJ,he,jq.bind]
  rw[J4]at ho
  cases IC:cx.hf with
  | false=>
   have J8:=HY.nf IC
   subst J8
   simp only[Bool.not_false,if_true]
   have NY:toff=none:=by
    cases toff with
    | none=>rfl
    | some o=>rw[IC]at JU;simp at JU
   subst NY
   refine bf (ho.ok _ r1 a1 w1 rfl HX J5 hev1' ⟨vs,[],rfl,Ji,fun X _ _=>rfl⟩)
  | true=>
   simp only[IC,Bool.not_true,Bool.false_eq_true,if_false]at hn ⊢
   obtain⟨o,NY,hF,KG⟩:∃ o,toff=some o/\bw P T kt g.tTags o true 1/\kj fs o (o+1)=true:=by
    cases toff with
    | none=>rw[IC]at JU;simp at JU
    | some o=>
     simp only[Bool.and_eq_true]at JU
     exact⟨o,rfl,fldB_ok JU.1.2,JU.2⟩
   subst NY
   have O8:¬ fs.In O (O+o):=fun h=>eX fs o (o+1) O (O+o) KG h ⟨by omega,by omega⟩
   have Mx:=jc fs (o+1)
   have R9:o<fs.ext (dl (some o)):=by show o<fs.ext (o+1);omega
   have hfl':=Ih IC
   have Pb:fx=false->∀ a',Pv 6 m k0 n a a'->K a' w1:=fun J8 a' I3=>by
    subst J8
    have hT0:rG w S (fun X=>dJ w X B O (some o) []):=fun X _ _=>by
     rcases JP with h|h
     ·cases h.2
     ·exact h.2.at X
    refine ho.ok _ r1 a' w1 rfl I3 J5 hev1' ⟨vs,[],rfl,Ji,?_⟩
    exact dJ.evoA (A:=(·<w.heap.size)) Kq KJ KC HY.SR.symm HY.BS hb hT0 (fun k hk h=>by cases hk;exact O8 h)
   cases IW:fs.tagged with
   | false=>
    simp only[IW,Bool.false_eq_true,if_false,gL]at hn ⊢
    refine ad ?_
    rw[aO]
    have Kf:(gL (gFds g cx fs nm.s) n).2+5<=a.tmps.size:=hn
    refine o5 (x:=6) (m:=m) (k0:=k0) (fx:=fx) (Is.sf IC) Iq (by omega) (by omega) fun a2 HZ=>?_
    have Iw:=HZ.size
    have IB:Pv 6 m k0 n a a2:=HX.trans (HZ.mono (Nat.le_refl _) Ox)
    cases J8:fx with
    | false=>exact .skip (bf (Pb J8 a2 IB))
    | true=>
     subst J8
     simp only[if_true]
     simp only[Bool.not_true,Bool.false_eq_true,if_false,IW]at ho
     have IM:RC g cx true ver S R B O r1 a2 w1:=Is.step hc HZ J5 (ac.refl (fun _=>False) w1) (fun _ _ h=>h.elim)
     obtain⟨cur,Ke,JL⟩:=IX
     rw[<- aO (N:=fun _ _=>True)]
     have hoext':o<fs.ext (dl (some o)):=R9
     refine sy (m:=m) (k0:=k0) (cur:=cur) (te:=te) K0 hfl' IM hc hF Ke (by omega) (by omega) (by omega) fun a3 w3 Ie IT My Lj=>?_
     refine bf (ho.ok _ _ a3 w3 rfl (IB.trans (Ie.mono (Nat.le_refl _) (by omega))) IT (hev1'.trans (My.mono fun j hj=>.inr ⟨o,rfl,hj⟩)) ⟨vs,_,rfl,?_,fun X hX hS=>Lj X (fun k hk=>Nat.lt_of_lt_of_le (hX k hk) Kq.keeps.size) hS⟩)
     exact RpF.evoA (A:=(·<w.heap.size)) My KJ KC HY.SR.symm HY.BS ⟨cur,Ke,JL⟩ Ji (fun j hj h=>by rw[h]at hj;exact O8 hj)
   | true=>
    simp only[IW,if_true,gL]at hn ⊢
    refine ad ?_
    rw[aO]
    simp only[IC,IW,Bool.and_self,Bool.not_true,Bool.false_or,Bool.and_eq_true,decide_eq_true_eq]at O7
    obtain⟨Iu,O7⟩:=O7
    generalize ID:(gS [aC g.uv cx.b (nm.n 1),jX g cx (nm.n 1) (nm.n 4) T kt (gTagd g cx fs nm.s)]:GC)=body at hn ⊢
    have P7:Up body:=by
     rw[<- ID]
     exact ei (ag (am _ _) (ag (lL (up_gTagd g fs nm.s cx)) ar))
    have Kf:(body ((gL (gFds g cx fs nm.s) n).2+1+5)).2<=a.tmps.size:=hn
    have WR:=P7 ((gL (gFds g cx fs nm.s) n).2+1+5)
    refine o5 (x:=6) (m:=m) (k0:=k0) (fx:=fx) (Is.sf IC) Iq (by omega) (by omega) fun a2 HZ=>?_
    have Iw:=HZ.size
    have IB:Pv 6 m k0 n a a2:=HX.trans (HZ.mono (Nat.le_refl _) Ox)
    cases J8:fx with
    | false=>exact .skip (bf (Pb J8 a2 IB))
    | true=>
     subst J8
     simp only[if_true]
     simp only[Bool.not_true,Bool.false_eq_true,if_false,IW,if_true]at ho
     have IM:RC g cx true ver S R B O r1 a2 w1:=Is.step hc HZ J5 (ac.refl (fun _=>False) w1) (fun _ _ h=>h.elim)
     have RD:kl w B O (some o):=by
      rcases JP with h|h
      ·rw[jC fs h.1]at IW;cases IW
      ·exact h.2
     have hT1:rG w S (fun X=>dJ w1 X B O (some o) []):=dJ.evoA (A:=(·<w.heap.size)) Kq KJ KC HY.SR.symm HY.BS hb (fun X _ _=>RD.at X) (fun k hk h=>by cases hk;exact O8 h)
     have LY:w1.cell? ⟨B,O+o,none⟩=some (.map none):=by
      obtain⟨cur,Ke,_⟩:=hb
      rw[Kq.cell Ke O8];exact RD
     refine xz (m:=m) (k0:=k0) (i:=nm.n 0) K0 hfl' IM hc ⟨Iu.1,by omega⟩ (by omega) (by omega)
      (AH g S R B O o fs ver w (dG (rdTag true ver fs) (b5 r1).1 vs [] (b5 r1).2)) (fun w2 I1 Ic=>?_) (fun c a3 w3 Ie hI=>?_) (fun a3 w3 Ie hI=>?_)
     ·have I8:dS R B (fun _=>False) w1 w2:=dS.of_keeps Ic (fun _ _ h=>h) HY.BR
      refine⟨vs,[],(b5 r1).2,.map none,rfl,I1,(Kq.mono fun j hj=>.inl hj).trans (I8.mono fun j hj=>hj.elim),?_,.inl ⟨rfl,rfl⟩,?_,?_⟩
      ·obtain⟨cur,Ke,_⟩:=IX
       rw[I8.cell Ke id];exact LY
      ·refine(RpF.evoA (A:=(·<w.heap.size)) I8 KJ KC HY.SR.symm HY.BS IX Ji (fun _ _ h=>h)).mono fun k hk=>?_
       rcases hk with hk|hk
       ·exact hk
       ·cases hk
      ·exact dJ.evoA (A:=(·<w.heap.size)) I8 KJ KC HY.SR.symm HY.BS IX hT1 (fun _ _ h=>h)
     ·have IJ:=Ie.size
      rw[<- ID]at Kf ⊢
      exact xm (r0:=r) (_mm:=0) K0 h2 O7 K5 hF KG Iu (HY.step hc IB HY.rd (ac.refl (fun _=>False) w) (fun _ _ h=>h.elim)) hc IC hfl' (by omega) (by omega) (by omega) hb Ie hI ho.go
       (fun he a' w' I3 JX J1=>ho.err he a' w' (IB.trans (I3.mono (Nat.le_refl _) (by omega))) JX J1)
     ·obtain⟨vs',t,r',mm,K1,IT,My,VW,K9,Wx,Wt⟩:=hI
      have O4:Pv 6 m k0 n a a3:=IB.trans (Ie.mono Iu.1 (by omega))
      refine bf (ho.ok (.st vs' t) r' a3 w3 (by rw[K1];rfl) O4 IT (My.mono fun j hj=>?_) ⟨vs',t,rfl,Wx.mono fun k hk=>.inl hk,Wt⟩)
      rcases hj with hj|hj
      ·exact .inl hj
      ·exact .inr ⟨o,rfl,hj⟩
 ·exact ho.err (by simp only[gJ,he,jq.bind]) a1 w1 HX JX Ir
 ·exact ho.go (by simp only[gJ,he,jq.bind])
end
theorem Pv.weak {x m k0 n:Nat}{a b:Act}(h:Pv x k0 k0 n a b)(hx:m<=x/\x<k0):Pv 6 m k0 n a b:=
 ⟨h.size,h.defers,fun s hs hh=>h.get s (by omega) (by omega)⟩
theorem RC.withS {g:G}{cx:Cx}{fx:Bool}{ver:Int}{S R B O p o s':Nat}{r:RS}{a:Act}{w:World}(h:RC g cx fx ver S R B O r a w)(hs:a.get s'=pt p o)(Ob:p≠R)(Ni:p≠S)(Pc:g.gErr≠p):RC g { cx with s:=s' } fx ver S R p o r a w:=
 ⟨h.rd,h.sb,hs,h.sv,h.sf,h.nf,h.su,h.err,h.SR,Ob,Ni,h.gR,Pc,h.Slt⟩
section
variable {P:Program} {g:G} {av:PF->Bool} {fl:Bool} {D:Nat->Option (List (Nat × Value))}
def zr (P:Program)(g:G)(av:PF->Bool)(fl:Bool)(D:Nat->Option (List (Nat × Value)))(e:Ty):Prop:=
 ∀ (nm:Nm) (cx:Cx) (fx:Bool) (ver:Int) (S R B O:Nat) (r:RS) (m k0 n esz:Nat) (z:Array Value) (y i F E' p cnt c j:Nat) (cur:Array Value) (K E:Act->World->Prop) (a:Act) (w:World) (te:Nat),
  okEl ⟨P,g,av,D⟩ cx.hf m k0 esz z e nm=true->m7 P F E' esz z->RC g cx fx ver S R B O r a w->dO cx m k0->(cx.hf=true->fl=true)->k0<=n->k0<=a.tmps.size->(gL (gEl g cx e y i F nm) n).2<=a.tmps.size ->
  a.get y=.slice (some ⟨p,0,none⟩) cnt c->a.get i=.int .i32 j->j<cnt->y<m->i<m->y≠6->i≠6->w.heap[p]?=some (.cells cur te (0,0))->j*esz+esz<=cur.size->rF w p (j*esz) z->p≠R->p≠S->g.gErr≠p ->
  wu g S R p (fun t=>j*esz<=t/\t<j*esz+esz) m k0 n a w (e9 fx ver e (eV 0 e) r) (fun v w'=>rG w S fun X=>Rp w' X e p (j*esz) v) K E ->
  LW P (gEl g cx e y i F nm) n (Rt K E) a w
theorem qq (K0:KB P g av fl){e:Ty}(hl:e.leaf=true):zr P g av fl D e:=by
 intro nm cx fx ver S R B O r m k0 n esz z y i F E' p cnt c j cur K E a w te Io Iy HY hc Ih hk Jb hn hy hi hj hym NE OU hi6 hp Ii hz Ob Ni Pc ho
 have KJ:R<w.heap.size:=HY.rd.lt
 have UQ:p<w.heap.size:=(Array.getElem?_eq_some_iff.1 hp).1
 have Iq:=hc.le
 obtain⟨hg,Jk,hE,KP,Mn⟩:gEl g cx e y i F nm=g7 g cx e (nm.n 0) (nm.l.drop 2)++[jY (ko g e) y i (nm.n 0) F (nm.n 1)]/\ix ⟨P,g,av,D⟩ cx.hf m k0 e (nm.n 0) (nm.l.drop 2)=true/\(∀ w,(sizeOf (nm.n 1)).run P w=.ok esz w)/\e.sz=esz /\
   (ko g e=none \/ (ko g e=some g.tUuid/\bc P g.tUuid true e.sz)):=by
  cases e with
  | list=>cases hl
  | struct=>cases hl
  | prim q=>
   simp only[okEl,Bool.and_eq_true,beq_iff_eq,Bool.or_eq_true,bne_iff_ne]at Io
   obtain⟨⟨⟨h1,h2⟩,h3⟩,h4⟩:=Io
   refine⟨rfl,h1,fun w=>by rw[<- h3];exact(varB_ok h2).size w,h3,?_⟩
   by_cases hq:q=.uuid
   ·subst hq
    rcases h4 with h|h
    ·exact absurd rfl h
    ·exact .inr ⟨rfl,varB_ok h⟩
   ·exact .inl (by cases q<;>first|rfl|exact absurd rfl hq)
  | str nul=>
   simp only[okEl,Bool.and_eq_true,beq_iff_eq]at Io
   obtain⟨⟨h1,h2⟩,h3⟩:=Io
   exact⟨rfl,h1,fun w=>by rw[<- h3];exact(varB_ok h2).size w,h3,.inl rfl⟩
  | bytes nul=>
   simp only[okEl,Bool.and_eq_true,beq_iff_eq]at Io
   obtain⟨⟨h1,h2⟩,h3⟩:=Io
   exact⟨rfl,h1,fun w=>by rw[<- h3];exact(varB_ok h2).size w,h3,.inl rfl⟩
 simp only[ix,Bool.and_eq_true]at Jk
 obtain⟨⟨h1,h2⟩,h3⟩:=Jk
 have Lp:m<=nm.n 0/\nm.n 0<k0:=by simp only[jS,Bool.and_eq_true,decide_eq_true_eq]at h2;exact h2.1
 rw[hg]at hn ⊢
 rw[aX]at hn
 simp only[gL,jY,ay]at hn
 have JE:=gm g cx e (nm.n 0) (nm.l.drop 2) n
 refine AN K0 (ver:=ver) h1 HY hc hk h2 Jb (qy h3) (by omega) fun a1 w1 hpst=>?_
 obtain⟨cs,HX,hval,J5,Ir,Lb⟩:=hpst
 have If:=HX.size
 have Nj:=Lb (fun _=>False) (fun _ h=>h.elim) id
 have Ib:cs.length=esz:=Nj.len.trans KP
 have Ly:w1.heap[p]?=some (.cells cur te (0,0)):=by rw[Ir.block p UQ Ob];exact hp
 refine ad (s3 (x:=6) (m:=m) (k0:=k0) (p:=p) (q:=0) (cs:=cs) (cur:=cur) (te:=te) (sz:=esz) ((HX.get y OU (.inl hym)).trans hy) ((HX.get i hi6 (.inl NE)).trans hi) hj Iy.und Iy.size hE ?_ Ib Nj.one Ly (by omega) Iq (by omega) (by omega) (by omega) (by omega) (by omega) fun a2 HZ=>bf ?_)
 ·rcases Mn with hu|⟨hu,hU⟩
  ·rw[hu]at hval ⊢;exact hval
  ·rw[hu]at hval ⊢;exact⟨by rw[Nj.len];exact hU,hval⟩
 ·rw[Nat.zero_add]
  have J2:dS R p (fun t=>j*esz<=t/\t<j*esz+esz) w1 (w1.setRow p (aD cur (j*esz) cs)):=dS.store Ly (by rw[Ib];omega) (fun t ha hb=>⟨ha,by rw[Ib]at hb;omega⟩)
  refine ho.ok _ _ a2 _ (oS fx ver e _ r hl) (HX.trans (HZ.mono (Nat.le_refl _) JE)) (J5.keep (ac.setRow (fun k=>k=p) _ _ _ rfl) (fun h=>Ni h.symm) (fun h=>Ob h.symm))
   ((dS.of_keeps Ir (fun _ _ h=>h) Ob).trans J2) fun X hX hS=>?_
  refine uw hl (fun t u hu=>?_) (((Lb (fun k=>X k \/ k=p) (fun k hk=>by rcases hk with hk|rfl<;>first|exact hX k hk|exact UQ) (fun hk=>by rcases hk with hk|hk<;>first|exact hS hk|exact Ni hk.symm)).keep
   (ac.setRow (fun k=>X k \/ k=p) _ _ _ (.inr rfl))).mono fun k _ hk=>.inl hk)
  have JF:t<cs.length:=(List.getElem?_eq_some_iff.1 hu).1
  rw[cell_setRow_same _ _ _ _ _ _ _ Ly,bA (by omega) t JF]
  exact hu
theorem ly {w':World}{p O te:Nat}{cur z:Array Value}{wr:List (Nat × Value)}(hz:∀ j,j<z.size->cur[O+j]?=z[j]?)(hs:O+z.size<=cur.size)(IR:∀ q∈wr,q.1<z.size)(h:w'.heap[p]?=some (.cells (applyWr cur O wr) te (0,0))):rF w' p O (applyWr z 0 wr):=by
 intro j v hj
 have hjz:j<z.size:=by
  have:=(Array.getElem?_eq_some_iff.1 hj).1
  rwa [cK]at this
 rw[<- oo O wr cur z IR hs hz j hjz]at hj
 simpa[World.cell?,h]using hj
theorem wd (En:Env P g av fl D){toff:Option Nat}{fs:Fds}(IN:zq P g av fl D fs):zr P g av fl D (.struct none toff fs):=by
 intro nm cx fx ver S R B O r m k0 n esz z y i F E' p cnt c j cur K E a w te Io Iy HY hc Ih hk Jb hn hy hi hj hym NE OU hi6 hp Ii hz Ob Ni Pc ho
 have KJ:R<w.heap.size:=HY.rd.lt
 have UQ:p<w.heap.size:=(Array.getElem?_eq_some_iff.1 hp).1
 have Iq:=hc.le
 have OR:=hc.six
 simp only[okEl,Bool.and_eq_true,decide_eq_true_eq]at Io
 obtain⟨⟨Iu,I4⟩,LU⟩:=Io
 split at I4
 ·rename_i wr IR
  simp only[Bool.and_eq_true,decide_eq_true_eq,List.all_eq_true]at I4
  obtain⟨⟨⟨MH,QZ⟩,QD⟩,Mx⟩:=I4
  obtain⟨M3,OP⟩:=En.df _ _ IR
  obtain⟨_,z',_,_,hzc,_,K7,_⟩:=Iy.info
  have hn':(gL (fo g { cx with s:=nm.n 1 } fs.tagged (nm.n 3) (nm.n 4) (nm.sub 0) (gFds g { cx with s:=nm.n 1 } fs (nm.sub 0).s) (gTagd g { cx with s:=nm.n 1 } fs (nm.sub 0).s)) (n+3+2+1)).2<=a.tmps.size:=by
   simp only[gEl]at hn
   rw[aX]at hn
   exact hn
  have JE:=gC (g:=g) (cx:={ cx with s:=nm.n 1 }) (tagged:=fs.tagged) (T:=nm.n 3) (kt:=nm.n 4) (m:=nm.sub 0) (up_gFds g fs (nm.sub 0).s { cx with s:=nm.n 1 }) (up_gTagd g fs (nm.sub 0).s { cx with s:=nm.n 1 }) (n+3+2+1)
  show LW P (dI y i (nm.n 0) F::cO (nm.n 0) (nm.n 2)::b6 (nm.n 0) (nm.n 1)::fo g { cx with s:=nm.n 1 } fs.tagged (nm.n 3) (nm.n 4) (nm.sub 0) (gFds g { cx with s:=nm.n 1 } fs (nm.sub 0).s) (gTagd g { cx with s:=nm.n 1 } fs (nm.sub 0).s)) n (Rt K E) a w
  refine ad (vk (x:=6) (m:=m) (k0:=k0) (p:=p) (q:=0) hy hi hj Iy.und Iy.size (.inr ⟨Iu.1,Iu.2.2.1⟩) Iq hk (by omega) (by omega) (by omega) (by omega) fun a1 HX Ig=>?_)
  rw[Nat.zero_add]at Ig
  have If:=HX.size
  refine ad (jT (x:=6) (m:=m) (k0:=k0) (B:=p) (O:=j*esz) (cur:=cur) (te:=te) M3 OP Ig hp (fun q hq=>by have:=MH q hq;omega) Iq (by simp only[dI,ay];omega) (by simp only[dI,ay];omega) fun a2 w2 HZ hsame2 Ic KL=>?_)
  simp only[dI,ay]at HZ hsame2
  have Iw:=HZ.size
  have Ij:a2.get (nm.n 0)=pt p (j*esz):=(hsame2 _ (by omega)).trans Ig
  refine ad (e7 (x:=6) (m:=m) (k0:=k0) (.inr ⟨Iu.2.1,Iu.2.2.2.1⟩) Iq (by simp only[dI,cO,ay];omega) (by simp only[dI,cO,ay];omega) (by omega) fun a3 Ie I2=>?_)
  simp only[dI,cO,b6,ay]at Ie ⊢
  have IJ:=Ie.size
  have Je:Pv 6 m k0 n a a3:=(HX.trans (HZ.mono (Nat.le_refl _) (by omega))).trans (Ie.mono (Nat.le_refl _) (by omega))
  have Ur:∀ q∈wr,q.1<z.size:=fun q hq=>by rw[K7];exact MH q hq
  have Qs:∀ t,t<z.size->cur[j*esz+t]?=z[t]?:=fun t ht=>by
   obtain⟨u,hu⟩:∃ u,z[t]?=some u:=⟨z[t],by simp[ht]⟩
   have:=hz t u hu
   rw[hu]
   simpa[World.cell?,hp]using this
  have SU:=ly Qs (by rw[K7];omega) Ur KL
  have IK:ow w2 p (j*esz+fs.ext (dl toff)) te:=⟨_,KL,by rw[cK];omega⟩
  have I1:cy w2 g.tR S R r:=HY.rd.keep Ic (fun h=>Ni h.symm) (fun h=>Ob h.symm)
  obtain⟨t',x',JO⟩:=HY.err
  have Lf:ErrAt g.gErr w2:=ErrAt.keep ⟨t',x',JO⟩ Ic Pc
  have L3:RC g { cx with s:=nm.n 1 } fx ver S R p (j*esz) r a3 w2:=
   ⟨I1,(Je.get _ hc.b.2 (.inl hc.b.1)).trans HY.sb,I2.trans Ij,(Je.get _ hc.ver.2 (.inl hc.ver.1)).trans HY.sv,fun hf=>(Je.get _ hc.fx.2 (.inl hc.fx.1)).trans (HY.sf hf),HY.nf,(Je.get 2 (by omega) (.inl (by omega))).trans HY.su,Lf,HY.SR,Ob,Ni,HY.gR,Pc,
    Nat.lt_of_lt_of_le HY.Slt Ic.size⟩
  have Od:nm.n 0<max (nm.n 0) (nm.n 1)+1/\nm.n 1<max (nm.n 0) (nm.n 1)+1/\max (nm.n 0) (nm.n 1)+1<=k0:=by omega
  have MZ:dO { cx with s:=nm.n 1 } (max (nm.n 0) (nm.n 1)+1) k0:=
   ⟨⟨by have:=hc.b;simp only;omega,hc.b.2⟩,⟨Od.2.1,by simp only;omega⟩,⟨by have:=hc.ver;simp only;omega,hc.ver.2⟩,⟨by have:=hc.fx;simp only;omega,hc.fx.2⟩,by omega,Od.2.2⟩
  have I8:dS R p (fun t=>j*esz<=t/\t<j*esz+esz) w w2:=by
   refine⟨Ic.mono fun _ _ h=>.inr h,fun cs te' Iz=>?_⟩
   rw[hp]at Iz
   obtain⟨rfl,rfl,_⟩:=Obj.cells.inj (Option.some.inj Iz)
   exact⟨_,KL,cK _ _ _,fun t ht=>ip _ _ _ _ fun q hq he=>ht (by have:=MH q hq;omega)⟩
  refine IN (nm.sub 0) { cx with s:=nm.n 1 } fx ver S R p (j*esz) r (max (nm.n 0) (nm.n 1)+1) k0 (n+3+2+1) (nm.n 3) (nm.n 4) toff K E a3 w2 te LU L3 MZ Ih (by omega) (by omega) (by omega) IK ?_ ⟨fun v r' a4 w4 he Ix IS hev4 hv=>?_,fun he a4 w4 Ix JX It=>?_,fun he=>?_⟩
  ·refine .inr ⟨fun X=>zFds_ok SU X fs 0 QZ,?_⟩
   cases toff with
   | none=>trivial
   | some o=>exact SU.one QD
  ·obtain⟨vs,t,rfl,hF,hT⟩:=hv
   refine ho.ok _ r' a4 w4 he (Je.trans (Ix.mono (by omega) (by omega))) IS (I8.trans (hev4.mono fun t ht=>by have:=wz ht;omega)) fun X hX hS=>⟨vs,t,rfl,eZ hF Ic.size X hX hS,eZ hT Ic.size X hX hS⟩
  ·exact ho.err he a4 w4 (Je.trans (Ix.mono (by omega) (by omega))) JX (I8.keeps.trans It)
  ·exact ho.go he
 ·cases I4
end
section
variable {P:Program} {g:G} {av:PF->Bool} {fl:Bool} {D:Nat->Option (List (Nat × Value))}
theorem nK (f:RS->jq V)(k:Nat)(r:RS):fi f (k+1) r=(f r).bind fun v r=>(fi f k r).bind fun vs r=>.ok (v::vs) r:=rfl
def kC (f:RS->jq V)(L:Nat)(r0:RS)(vs:List V)(r:RS):Prop:=fi f L r0=(fi f (L-vs.length) r).bind fun us r=>.ok (vs++us) r
theorem kC.start (f:RS->jq V)(L:Nat)(r0:RS):kC f L r0 [] r0:=by
 simp only[kC,List.length_nil,Nat.sub_zero,List.nil_append]
 cases fi f L r0<;>rfl
theorem kC.step {f:RS->jq V}{L:Nat}{r0 r r':RS}{vs:List V}{v:V}(h:kC f L r0 vs r)(hl:vs.length<L)(hf:f r=.ok v r'):kC f L r0 (vs++[v]) r':=by
 unfold kC at h ⊢
 rw[h]
 obtain⟨k,hk⟩:∃ k,L-vs.length=k+1:=⟨L-vs.length-1,by omega⟩
 have Ic:L-(vs++[v]).length=k:=by simp;omega
 rw[hk,Ic,nK,hf]
 simp only[jq.bind]
 cases fi f k r'<;>simp
theorem kC.fail {f:RS->jq V}{L:Nat}{r0 r:RS}{vs:List V}(h:kC f L r0 vs r)(hl:vs.length<L):(f r=.err->fi f L r0=.err)/\(f r=.stuck->fi f L r0=.stuck):=by
 unfold kC at h
 obtain⟨k,hk⟩:∃ k,L-vs.length=k+1:=⟨L-vs.length-1,by omega⟩
 rw[h,hk,nK]
 exact⟨fun hf=>by rw[hf];rfl,fun hf=>by rw[hf];rfl⟩
theorem kC.done {f:RS->jq V}{L:Nat}{r0 r:RS}{vs:List V}(h:kC f L r0 vs r)(hl:vs.length=L):fi f L r0=.ok vs r:=by
 unfold kC at h
 rw[h,hl,Nat.sub_self]
 simp[fi,jq.bind]
theorem oY {cx:Cx}{fx:Bool}{ver:Int}{S R B O:Nat}{r r':RS}{m k0 n n0 T k F off v y:Nat}{sl:Value}{K E:Act->World->Prop}{a0 a1:Act}{w0 w1:World}{te:Nat}(hF:bw P T k F off false 1)(HY:RC g cx fx ver S R B O r a0 w0)(hc:dO cx m k0)(hv:m<=v/\v<k0)(hk:k0<=n0)(Mk:n0<=n)(hn:n+1+4<=a0.tmps.size)
  (hp:Pv 6 m k0 n0 a0 a1) (hy:a1.get y=sl) (_hyn:y<k0) (Iu:sl.oneCell'=true/\sl.cells=#[sl]) (J2:dS R B (fun j=>O+off<=j/\j<O+off+1) w0 w1) (Lt:cy w1 g.tR S R r') (hb:ow w0 B (O+off+1) te)
  (h:∀ a' w',Pv 6 m k0 n0 a0 a'->cy w' g.tR S R r'->dS R B (fun j=>O+off<=j/\j<O+off+1) w0 w'->ac (·=B) w1 w'->w'.cell? ⟨B,O+off,none⟩=some sl->K a' w') :
  LW P [b6 y v,iz none cx.s v T k F] n (Rt K E) a1 w1:=by
 have hs:=hp.size
 have Iq:=hc.le
 obtain⟨cur,Ke,JL⟩:=hb.evo J2
 refine ad (e7 (x:=6) (m:=m) (k0:=k0) (.inr hv) Iq (by omega) (by omega) (by omega) fun a2 HZ Ij=>?_)
 have Iw:=HZ.size
 have Ng:a2.get cx.s=pt B O:=((hp.trans (HZ.mono (Nat.le_refl _) Mk)).get _ hc.s.2 (.inl hc.s.1)).trans HY.ss
 have Od:(b6 y v n).2=n+1:=rfl
 rw[Od]
 refine ad (uj (x:=6) (m:=m) (k0:=k0) (cs:=[sl]) (cur:=cur) (te:=te) Ng hF ⟨sl,by rw[Ij,hy],by rw[Iu.2]⟩ rfl (fun u hu=>by simp at hu;rw[hu];exact Iu.1) Ke JL Iq (by omega) (by omega) (by omega) fun a3 Ie=>bf ?_)
 have VL:dS R B (fun j=>O+off<=j/\j<O+off+1) w1 (w1.setRow B (aD cur (O+off) [sl])):=dS.store Ke (by simpa using JL) (fun j ha hb=>⟨ha,by simpa using hb⟩)
 refine h a3 _ ((hp.trans (HZ.mono (Nat.le_refl _) Mk)).trans (Ie.mono (Nat.le_refl _) (by omega))) (Lt.keep (ac.setRow (fun k=>k=B) _ _ _ rfl) (fun h=>HY.BS h.symm) (fun h=>HY.BR h.symm)) (J2.trans VL) (ac.setRow _ _ _ _ rfl) ?_
 rw[cell_setRow_same _ _ _ _ _ _ _ Ke]
 have:=bA (cur:=cur) (o:=O+off) (vs:=[sl]) (by simpa using JL) 0 (by simp)
 simpa using this
def zu (g:G)(S R p esz:Nat)(e:Ty)(f:RS->jq V)(L:Nat)(r0:RS)(c:Nat)(z:Array Value)(te:Nat)(wA:World)(j:Nat)(w:World):Prop:=
 ∃ (vs:List V) (r:RS),vs.length=j/\kC f L r0 vs r/\cy w g.tR S R r/\dS R p (fun t=>t<j*esz) wA w/\(∃ cur,w.heap[p]?=some (.cells cur te (0,0))/\cur.size=c*esz/\∀ q t,j<=q->q<L->t<esz->cur[q*esz+t]?=z[t]?) /\
  ∀ i v,vs[i]?=some v->fw (·<wA.heap.size) S fun X=>Rp w X e p (i*esz) v
theorem vN {e:Ty}{esz:Nat}(Md:zr P g av fl D e)(Xy:e.sz<=esz){nm:Nm}{cx:Cx}{fx:Bool}{ver:Int}{S R B O:Nat}{r0 r1:RS}{m k0 n:Nat}{z:Array Value}{y i F E' p c L j:Nat}{E:Act->World->Prop}{a a1:Act}{wA w1:World}{te:Nat}
  (Io:okEl ⟨P,g,av,D⟩ cx.hf (i+1) k0 esz z e nm=true) (Iy:m7 P F E' esz z) (HY:RC g cx fx ver S R B O r0 a wA) (hc:dO cx m k0) (Ih:cx.hf=true->fl=true) (hk:k0<=n) (Jb:k0<=a.tmps.size) (hn:(gL (gEl g cx e y i F nm) (n+5)).2<=a.tmps.size) (RI:m<=i) (hik:i<k0) (hyi:y<i) (OU:y≠6)
  (HX:Pv 6 i k0 n a a1) (hy:a.get y=.slice (some ⟨p,0,none⟩) L c) (hi:a1.get i=.int .i32 j) (hj:j<L) (XG:L<=c) (Ob:p≠R) (Ni:p≠S) (_hpB:p≠B) (Pc:g.gErr≠p) (hpA:p<wA.heap.size)
  (hI:zu g S R p esz e (e9 fx ver e (eV 0 e)) L r1 c z te wA j w1)
  (hE:fi (e9 fx ver e (eV 0 e)) L r1=.err->∀ a' w',Pv 6 m k0 n a a'->(∃ t y,a'.get 6=.iface t y)->ac (fun k=>k=R \/ k=p) wA w'->E a' w') (NI:fi (e9 fx ver e (eV 0 e)) L r1≠.stuck) :
  aK P (gS (gEl g cx e y i F nm) (n+5)).1 (Rt (fun a2 w2=>Pv 6 (i+1) k0 (n+5) a1 a2/\zu g S R p esz e (e9 fx ver e (eV 0 e)) L r1 c z te wA (j+1) w2) E) a1 w1:=by
 obtain⟨vs,r,P3,LR,Lt,J2,⟨cur,Ke,Iz,Qs⟩,Ji⟩:=hI
 have If:=HX.size
 have OR:=hc.six
 obtain⟨_,z',_,_,hzc,_,K7,Jd,_⟩:=Iy.info
 have hRA:R<wA.heap.size:=HY.rd.lt
 obtain⟨t',x',JO⟩:=HY.err
 have NM:ErrAt g.gErr w1:=ErrAt.keep ⟨t',x',JO⟩ J2.keeps (fun h=>by rcases h with h|h;exact HY.gR h;exact Pc h)
 have Is:RC g cx fx ver S R B O r a1 w1:=
  ⟨Lt,(HX.get _ hc.b.2 (.inl (by have:=hc.b;omega))).trans HY.sb,(HX.get _ hc.s.2 (.inl (by have:=hc.s;omega))).trans HY.ss,(HX.get _ hc.ver.2 (.inl (by have:=hc.ver;omega))).trans HY.sv,fun hf=>(HX.get _ hc.fx.2 (.inl (by have:=hc.fx;omega))).trans (HY.sf hf),HY.nf,
   (HX.get 2 (by omega) (.inl (by omega))).trans HY.su,NM,HY.SR,HY.BR,HY.BS,HY.gR,HY.gB,Nat.lt_of_lt_of_le HY.Slt J2.keeps.size⟩
 have Pp:dO cx (i+1) k0:=l9 hc (by omega) (by omega)
 have Og:j*esz+esz<=c*esz:=by
  have:(j+1)*esz<=c*esz:=Nat.mul_le_mul_right _ (by omega)
  rw[Nat.add_mul,Nat.one_mul]at this
  exact this
 have hZ:rF w1 p (j*esz) z:=fun t v ht=>by
  have Mo:t<esz:=by rw[<- K7];exact(Array.getElem?_eq_some_iff.1 ht).1
  have:=Qs j t (Nat.le_refl _) hj Mo
  rw[ht]at this
  simpa[World.cell?,Ke]using this
 have hbk:ow w1 p (j*esz) te:=⟨cur,Ke,by omega⟩
 refine aY (Md nm cx fx ver S R B O r (i+1) k0 (n+5) esz z y i F E' p L c j cur _ E a1 w1 te Io Iy Is Pp Ih (by omega) (by omega) (by omega) ((HX.get y OU (.inl hyi)).trans hy) hi hj (by omega) (by omega) OU (by omega) Ke (by omega) hZ Ob Ni Pc
  ⟨fun v r' a2 w2 he HZ I1 I8 hv=>⟨HZ,?_⟩,fun he a2 w2 HZ JX Ic=>?_,fun he=>?_⟩)
 ·refine⟨vs++[v],r',by simp[P3],LR.step (by omega) he,I1,(J2.mono fun t ht=>?_).trans (I8.mono fun t ht=>?_),?_,fun q u hq=>?_⟩
  ·rw[Nat.add_mul,Nat.one_mul];omega
  ·rw[Nat.add_mul,Nat.one_mul];omega
  ·obtain⟨cs2,h1,h2,h3⟩:=I8.blk cur te Ke
   refine⟨cs2,h1,by omega,fun q t hq Xd ht=>?_⟩
   rw[h3 _ (fun hh=>by
    have:(j+1)*esz<=q*esz:=Nat.mul_le_mul_right _ hq
    rw[Nat.add_mul,Nat.one_mul]at this
    omega)]
   exact Qs q t (by omega) Xd ht
  ·rcases Nat.lt_or_ge q vs.length with Id|Jh
   ·rw[List.getElem?_append_left Id]at hq
    refine Rp.evoA I8 hRA hpA HY.SR.symm Ni hbk (Ji q u hq) (fun t T3 T0 hh=>?_)
    have:(q+1)*esz<=j*esz:=Nat.mul_le_mul_right _ (by omega)
    rw[Nat.add_mul,Nat.one_mul]at this
    omega
   ·have NZ:q=vs.length:=by
     have:=(List.getElem?_eq_some_iff.1 hq).1
     simp at this
     omega
    subst NZ
    rw[List.getElem?_append_right (Nat.le_refl _),Nat.sub_self]at hq
    obtain rfl:v=u:=by simpa using hq
    rw[P3]
    exact eZ hv J2.keeps.size
 ·exact hE ((LR.fail (by omega)).1 he) a2 w2 ((HX.mono RI (Nat.le_refl _)).trans (HZ.mono (by omega) (by omega))) JX (J2.keeps.trans Ic)
 ·exact NI ((LR.fail (by omega)).2 he)
end
section
variable {P:Program} {g:G} {av:PF->Bool} {fl:Bool} {D:Nat->Option (List (Nat × Value))}
theorem zO (K0:KB P g av fl){nul:Option Nat}{esz:Nat}{e:Ty}(Md:zr P g av fl D e)(Xy:∀ hf m k0 z nm,okEl ⟨P,g,av,D⟩ hf m k0 esz z e nm=true->e.sz<=esz):qw P g av fl D (.list nul esz e):=by
 intro nm cx fx ver S R B O r m k0 n T off old K E a w te Io HY hc Ih hk Jb hn hb Jv ho
 simp only[pU,Bool.and_eq_true,decide_eq_true_eq,beq_iff_eq]at Io
 obtain⟨⟨⟨Iu,hT⟩,hF⟩,Iy⟩:=Io
 subst hT
 replace hF:=fldB_ok hF
 split at Iy
 ·rename_i E' sz z hrowE
  simp only[Bool.and_eq_true,beq_iff_eq]at Iy
  obtain⟨⟨rfl,LX⟩,Lm⟩:=Iy
  have Qf:b7 g.ok=true:=by simp only[qk,Bool.and_eq_true]at Lm;exact Lm.1.2
  have Iy:=nD hrowE
  have KJ:R<w.heap.size:=HY.rd.lt
  have KC:B<w.heap.size:=hb.lt
  have Iq:=hc.le
  have OR:=hc.six
  have Lp:=hc.ver
  have K2:old.isNul=true:=by
   cases h:old.isNul with
   | true=>rfl
   | false=>exact absurd (by simp only[e9,h];rfl) ho.go
  have Ia:w.cell? ⟨B,O+off,none⟩=some (.slice none 0 0):=by
   rcases Jv with⟨h,_⟩|⟨xs,p,q,c,_,_,_,_,_,h,_⟩
   ·exact h
   ·rw[h]at K2;cases K2
  have J4:e9 fx ver (.list nul sz e) old r=(if(cA fx r).2.bad then .err else if !ll (cA fx r).1 sz then .stuck else if(cA fx r).1<=0 then .ok (if nul.isSome&&(decide ((cA fx r).1=0) || !eJ nul ver)then .l []else .nul) (cA fx r).2
    else(fi (e9 fx ver e (eV 0 e)) (cA fx r).1.toNat (cA fx r).2).bind fun vs r=>.ok (.l vs) r):=by
   simp only[e9,K2];rfl
  rw[J4]at ho
  have Q8:=Ak fx r
  generalize hv:nm.n 0=v at *
  generalize hy:nm.n 4=y at *
  generalize hl:nm.n 5=l at *
  generalize hi:nm.n 6=i at *
  generalize hFF:nm.n 3=F at *
  have hn':(gL (gEl g cx e y i F (nm.sub 0)) ((gL (jn g cx nul y l F) ((if cx.hf then gX cx (aC g.clen cx.b l) (aC g.len cx.b l)else aC g.len cx.b l:GC) (n+5)).2).2+15)).2+5<=a.tmps.size:=by
   have h:=hn
   simp only[lH]at h
   rw[aX,aX,hv,hy,hl,hi,hFF]at h
   exact h
  have Uz:Up (if cx.hf then gX cx (aC g.clen cx.b l) (aC g.len cx.b l)else aC g.len cx.b l:GC):=fg (bX (am _ _) (am _ _)) (am _ _)
  have hupL':=Uz (n+5)
  have hupN':=qC g cx nul y l F ((if cx.hf then gX cx (aC g.clen cx.b l) (aC g.len cx.b l)else aC g.len cx.b l:GC) (n+5)).2
  have hupE':=up_gEl g e (nm.sub 0) cx y i F ((gL (jn g cx nul y l F) ((if cx.hf then gX cx (aC g.clen cx.b l) (aC g.len cx.b l)else aC g.len cx.b l:GC) (n+5)).2).2+15)
  have Sq:LW P (cg cx.s v (nm.n 1) (nm.n 2) F::b6 v y::aR l (.int .i32 0)::(if cx.hf then gX cx (aC g.clen cx.b l) (aC g.len cx.b l)else aC g.len cx.b l:GC)::(jn g cx nul y l F ++
    [nX g cx,yM y F,pf g y l F,td g i l (nm.n 7) (nm.n 8) (gS (gEl g cx e y i F (nm.sub 0))),b6 y v,iz none cx.s v (nm.n 1) (nm.n 2) F])) n (Rt K E) a w:=by
   refine ad (fZ (x:=6) (m:=m) (k0:=k0) (O:=O) HY.ss hF Ia (.inr ⟨Iu.1,by omega⟩) Iq hk (by omega) (by omega) fun a1 HX Ig=>?_)
   have If:=HX.size
   rw[show(cg cx.s v (nm.n 1) (nm.n 2) F n).2=n+4 from rfl]
   refine ad (e7 (x:=6) (m:=m) (k0:=k0) (.inr ⟨by omega,by omega⟩) Iq (by omega) (by omega) (by omega) fun a2 HZ Ij=>?_)
   have Iw:=HZ.size
   rw[Ig]at Ij
   rw[show(b6 v y (n+4)).2=n+5 from rfl]
   refine ad (cV (x:=l) (m:=k0) (k0:=k0) (n:=n+5) (.inl rfl) (by omega) fun a3 Ie _=>?_)
   have IJ:=Ie.size
   have I2:a3.get y=.slice none 0 0:=(Ie.get y (by omega) (.inl (by omega))).trans Ij
   have Je:Pv 6 m k0 n a a3:=(HX.trans (HZ.mono (Nat.le_refl _) (by omega))).trans ((Ie.weak ⟨by omega,by omega⟩).mono (Nat.le_refl _) (by omega))
   have L3:RC g cx fx ver S R B O r a3 w:=HY.step hc Je HY.rd (ac.refl (fun _=>False) w) (fun _ _ h=>h.elim)
   rw[show(aR l (.int .i32 0) (n+5)).2=n+5 from rfl]
   refine ad (ES (m:=l) (k0:=k0) K0 Lm Ih L3 (l9 hc (by omega) (by omega)) ⟨Nat.le_refl _,by omega⟩ (by omega) (by omega) fun a4 w4 Ix IU IS It=>?_)
   have Kb:=Ix.size
   have hy4:a4.get y=.slice none 0 0:=(Ix.get y (by omega) (.inl (by omega))).trans I2
   have LS:Pv 6 m k0 n a a4:=Je.trans (Ix.mono (by omega) (by omega))
   have PI:RC g cx fx ver S R B O (cA fx r).2 a4 w4:=HY.step hc LS IS It (fun _ _ h=>.inl h)
   generalize hLv:(cA fx r).1=L at *
   generalize UP:(cA fx r).2=r1 at *
   generalize hnL:((if cx.hf then gX cx (aC g.clen cx.b l) (aC g.len cx.b l)else aC g.len cx.b l:GC) (n+5)).2=nL at *
   refine BM (x:=6) (m:=y) (k0:=k0) (ver:=ver) PI.sv hy4 IU Iy ⟨Nat.le_refl _,by omega⟩ (by omega) (by omega) (by omega) (by omega) (by omega) (by omega) (by omega) (by omega) fun a5 w5 base Js Jc hy5 Kg JM Nr=>?_
   have N2:=Js.size
   generalize Xj:(gL (jn g cx nul y l F) nL).2=nN at *
   have Kc:Pv 6 m k0 n a a5:=LS.trans (Js.mono (by omega) (by omega))
   have ND:ac (·=R) w w5:=It.trans (Jc.mono fun _ _ h=>h.elim)
   have O2:RC g cx fx ver S R B O r1 a5 w5:=HY.step hc Kc (IS.keep Jc id id) ND (fun _ _ h=>.inl h)
   refine ad ?_
   rw[aO]
   refine Ab (m:=i) (k0:=k0) K0 Qf O2 (l9 hc (by omega) (by omega)) (by omega) (by omega) (fun IA a6 w6 hp6 JX Lc=>?_) (fun Sp a6 w6 hp6 Lc=>?_)
   ·exact ho.err (by rw[IA];rfl) a6 w6 (Kc.trans (hp6.mono (by omega) (by omega))) JX ((ND.trans (Lc.mono fun _ _ h=>h.elim)).mono fun _ _ h=>.inl h)
   have T5:=hp6.size
   have UV:Pv 6 m k0 n a a6:=Kc.trans (hp6.mono (by omega) (by omega))
   have hy6':a6.get y=.slice base 0 0:=(hp6.get y (by omega) (.inl (by omega))).trans hy5
   have hl6':a6.get l=.int .i32 L:=(hp6.get l (by omega) (.inl (by omega))).trans Kg
   have Qd:ac (·=R) w w6:=ND.trans (Lc.mono fun _ _ h=>h.elim)
   have O1:cy w6 g.tR S R r1:=O2.rd.keep Lc id id
   rw[Sp]at ho
   have IZ:ll L sz=true:=by
    cases h:ll L sz with
    | true=>rfl
    | false=>exact absurd (by rw[h];rfl) ho.go
   rw[IZ]at ho
   simp only[Bool.false_eq_true,if_false,Bool.not_true]at ho
   rw[show(nX g cx nN).2=nN+3 from rfl]
   refine ad (EO (x:=y) (m:=k0) (k0:=k0) hy6' Iy.und Iy.size (.inl rfl) (Nat.le_refl _) (by omega) (by omega) (by omega) fun a7 hp7 hy7=>?_)
   have Rr:=hp7.size
   have Vo:a7.get l=.int .i32 L:=(hp7.get l (by omega) (.inl (by omega))).trans hl6'
   rw[show(yM y F (nN+3)).2=nN+5 from rfl]
   have R3:Pv 6 m k0 n a a7:=UV.trans ((hp7.weak ⟨by omega,by omega⟩).mono (Nat.le_refl _) (by omega))
   refine ad (BN (x:=y) (m:=k0) (k0:=k0) K0 hy7 Vo Iy Q8 IZ (.inl rfl) (by omega) (Nat.le_refl _) (by omega) (by omega) (by omega) (fun hL a8 hp8 hy8=>?_) (fun hL a8 c cs hp8 XG Kt Iz Qs hy8=>?_))
   ·-- nothing there
    have T4:=hp8.size
    have RW:a8.get l=.int .i32 L:=(hp8.get l (by omega) (.inl (by omega))).trans Vo
    have N6:Pv 6 m k0 n a a8:=R3.trans ((hp8.weak ⟨by omega,by omega⟩).mono (Nat.le_refl _) (by omega))
    rw[show(pf g y l F (nN+5)).2=nN+10 from rfl]
    refine ad ?_
    rw[aO]
    refine AO (m:=m) (k0:=k0) (L:=L) ⟨by omega,by omega⟩ (by omega) (by omega) (by omega) Iq (by omega) (by omega) RW Q8 (fun _ w'=>w'=w6) rfl (fun j a9 w9 hj=>by omega) fun a9 w9 hp9 hw9=>?_
    subst hw9
    have J2:dS R B (fun j=>O+off<=j/\j<O+off+1) w w9:=dS.of_keeps Qd (fun _ _ h=>h) HY.BR
    have Uj:a9.get y=.slice base 0 0:=(hp9.get y (by omega) (.inl (by omega))).trans hy8
    have I5:(Value.slice base 0 0).oneCell'=true/\(Value.slice base 0 0).cells=#[.slice base 0 0]:=⟨rfl,rfl⟩
    rw[show(td g i l (nm.n 7) (nm.n 8) (gS (gEl g cx e y i F (nm.sub 0))) (nN+10)).2=(gL (gEl g cx e y i F (nm.sub 0)) (nN+15)).2 from rfl]
    refine oY (n0:=n) hF HY hc ⟨Iu.1,by omega⟩ hk (by omega) (by omega) (N6.trans (hp9.mono (by omega) (by omega))) Uj (by omega) I5 J2 O1 hb fun a10 w10 hp10 hrd10 hev10 J7 KR=>?_
    refine ho.ok _ r1 a10 w10 (by rw[if_pos hL]) hp10 hrd10 hev10 fun X hX hS=>?_
    rw[<- Nr]
    rcases JM with rfl|⟨p,rfl,hp,HZ⟩
    ·exact .inl ⟨KR,rfl⟩
    ·refine .inr ⟨[],p,0,0,KR,fun SV=>?_,?_,Nat.le_refl _,by simp,rfl,fun i x hx=>by simp at hx⟩
     ·have:=hX p SV
      have:=It.size
      omega
     ·have:=Lc.size
      have:=J7.size
      omega
   ·-- so many elements
    have T4:=hp8.size
    have RW:a8.get l=.int .i32 L:=(hp8.get l (by omega) (.inl (by omega))).trans Vo
    have N6:Pv 6 m k0 n a a8:=R3.trans ((hp8.weak ⟨by omega,by omega⟩).mono (Nat.le_refl _) (by omega))
    rw[show(pf g y l F (nN+5)).2=nN+10 from rfl]
    rw[if_neg (by omega)]at ho
    have KN:ac (fun _=>False) w6 (w6.drew.alloc (.cells cs E' (0,0))):=(ac.drew _ _).trans (ac.alloc _ _ _)
    have UA:=Qd.size
    have hAsz:(w6.drew.alloc (.cells cs E' (0,0))).heap.size=w6.heap.size+1:=by simp
    have hpc:(w6.drew.alloc (.cells cs E' (0,0))).heap[w6.heap.size]?=some (.cells cs E' (0,0)):=heap_alloc_new w6.drew _
    have KI:ac (·=R) w (w6.drew.alloc (.cells cs E' (0,0))):=Qd.trans (KN.mono fun _ _ h=>h.elim)
    have Rw:cy (w6.drew.alloc (.cells cs E' (0,0))) g.tR S R r1:=O1.keep KN id id
    have UM:RC g cx fx ver S R B O r1 a8 (w6.drew.alloc (.cells cs E' (0,0))):=HY.step hc N6 Rw KI (fun _ _ h=>.inl h)
    obtain⟨t',x',JO⟩:=HY.err
    have MA:=bP JO
    have Q6:=HY.Slt
    generalize hwA:w6.drew.alloc (.cells cs E' (0,0))=wA at *
    refine ad ?_
    rw[aO]
    refine AO (m:=m) (k0:=k0) (L:=L) ⟨by omega,by omega⟩ (by omega) (by omega) (by omega) Iq (by omega) (by omega) RW Q8 (zu g S R w6.heap.size sz e (e9 fx ver e (eV 0 e)) L.toNat r1 c z E' wA) ?_ (fun j a9 w9 hj hp9 TK hI=>?_) fun a9 w9 hp9 hI=>?_
    ·exact⟨[],r1,rfl,kC.start _ _ _,Rw,dS.refl _ _ _ _,⟨cs,hpc,Iz,fun q t _ hq ht=>Qs q t hq ht⟩,fun i v hv=>by simp at hv⟩
    ·refine vN (B:=B) (O:=O) (r0:=r1) (m:=m) (te:=E') Md (Xy _ _ _ _ _ LX) LX Iy UM hc Ih (by omega) (by omega) (by rw[show nN+10+5=nN+15 from rfl];omega) (by omega) (by omega) (by omega) (by omega) hp9 hy8 TK hj XG (by omega) (by omega) (by omega) (by omega) (by omega) hI (fun he a10 w10 hp10 JX J7=>?_) (fun he=>?_)
     ·refine ho.err (by rw[he];rfl) a10 w10 (N6.trans (hp10.mono (Nat.le_refl _) (by omega))) JX ?_
      exact⟨J7.os.trans KI.os,J7.tape.trans KI.tape,J7.output.trans KI.output,Nat.le_trans KI.size J7.size,fun q hq hx=>by
       rw[J7.block q (by omega) (fun h=>by rcases h with h|h;exact hx (.inl h);omega),KI.block q hq (fun h=>hx (.inl h))]⟩
     ·exact ho.go (by rw[he];rfl)
    ·obtain⟨vs,r2,P3,LR,UK,MW,⟨cur9,hcu9,_,_⟩,Ji⟩:=hI
     have U8:=MW.keeps.size
     have J2:dS R B (fun j=>O+off<=j/\j<O+off+1) w w9:=
      ⟨⟨MW.keeps.os.trans KI.os,MW.keeps.tape.trans KI.tape,MW.keeps.output.trans KI.output,Nat.le_trans KI.size U8,fun q hq hx=>by
       rw[MW.keeps.block q (by omega) (fun h=>by rcases h with h|h;exact hx (.inl h);omega),KI.block q hq (fun h=>hx (.inl h))]⟩,fun cs' te' Qz=>⟨cs',by
       have Ot:=HY.BR
       rw[MW.keeps.block B (by omega) (fun h=>by rcases h with h|h;exact Ot h;omega),KI.block B KC Ot];exact Qz,rfl,fun _ _=>rfl⟩⟩
     have Uj:a9.get y=.slice (some ⟨w6.heap.size,0,none⟩) L.toNat c:=(hp9.get y (by omega) (.inl (by omega))).trans hy8
     have I5:(Value.slice (some ⟨w6.heap.size,0,none⟩) L.toNat c).oneCell'=true/\(Value.slice (some ⟨w6.heap.size,0,none⟩) L.toNat c).cells=#[.slice (some ⟨w6.heap.size,0,none⟩) L.toNat c]:=⟨rfl,rfl⟩
     rw[show(td g i l (nm.n 7) (nm.n 8) (gS (gEl g cx e y i F (nm.sub 0))) (nN+10)).2=(gL (gEl g cx e y i F (nm.sub 0)) (nN+15)).2 from rfl]
     refine oY (n0:=n) hF HY hc ⟨Iu.1,by omega⟩ hk (by omega) (by omega) (N6.trans (hp9.mono (by omega) (by omega))) Uj (by omega) I5 J2 UK hb fun a10 w10 hp10 hrd10 hev10 J7 KR=>?_
     refine ho.ok (.l vs) r2 a10 w10 (by rw[LR.done P3];rfl) hp10 hrd10 hev10 fun X hX hS=>.inr ⟨vs,w6.heap.size,0,c,by rw[P3];exact KR,fun SV=>?_,?_,by omega,Kt,rfl,fun q u hu=>?_⟩
     ·have:=hX _ SV
      omega
     ·have:=J7.size
      omega
     ·have h1:=Ji q u hu (fun k=>X k \/ k=B) (fun k hk=>by
       rcases hk with hk|rfl
       ·have:=hX k hk
        omega
       ·omega) (fun hk=>by rcases hk with hk|hk;exact hS hk;exact HY.BS hk.symm)
      rw[Nat.zero_add]
      refine Rp.mono (fun k _ hk=>.inl hk) _ _ _ _ (Rp.keep (J7.mono fun k _ hk=>.inr hk) h1 (fun hk=>?_) (by omega))
      rcases hk with hk|hk
      ·have:=hX _ hk
       omega
      ·omega
  have VR:lH g cx (.list nul sz e) nm=cg cx.s v (nm.n 1) (nm.n 2) F::b6 v y::aR l (.int .i32 0)::(if cx.hf then gX cx (aC g.clen cx.b l) (aC g.len cx.b l)else aC g.len cx.b l:GC)::(jn g cx nul y l F ++
    [nX g cx,yM y F,pf g y l F,td g i l (nm.n 7) (nm.n 8) (gS (gEl g cx e y i F (nm.sub 0))),b6 y v,iz none cx.s v (nm.n 1) (nm.n 2) F]):=by
   simp only[lH,hv,hy,hl,hi,hFF]
   simp
  rw[VR]
  exact Sq
 ·cases Iy
end
section
variable {P:Program} {g:G} {av:PF->Bool} {fl:Bool} {D:Nat->Option (List (Nat × Value))}
theorem ac.inner {R B p:Nat}{w w1 w2:World}(h:ac (fun k=>k=R \/ k=B) w w1)(k:ac (fun k=>k=R \/ k=p) w1 w2)(hp:w.heap.size<=p):ac (fun k=>k=R \/ k=B) w w2:=
 ⟨k.os.trans h.os,k.tape.trans h.tape,k.output.trans h.output,Nat.le_trans h.size k.size,fun q hq hx=>by
  rw[k.block q (Nat.lt_of_lt_of_le hq h.size) (fun hh=>by rcases hh with hh|hh;exact hx (.inl hh);omega),h.block q hq hx]⟩
theorem lF {O:Nat}:∀ (wr:List (Nat × Value)) (cur:Array Value),(∀ q∈wr,cur[O+q.1]?=some q.2)->applyWr cur O wr=cur
 | [],_,_=>rfl
 | p::r,cur,h=>by
  have e:cur.setIfInBounds (O+p.1) p.2=cur:=by
   have hp:=h p (by simp)
   refine Array.ext (by simp) fun i h1 h2=>?_
   rw[Array.getElem_setIfInBounds h2]
   split
   ·rename_i hi
    subst hi
    exact((Array.getElem?_eq_some_iff.1 hp).2).symm
   ·rfl
  show applyWr (cur.setIfInBounds (O+p.1) p.2) O r=cur
  rw[e]
  exact lF r cur fun q hq=>h q (by simp[hq])
theorem md {w:World}{p:Nat × Value}:∀ (fs:Fds) (X:Nat->Prop) (B o:Nat),RpF w X fs B o (dfFds fs)->pm p fs=true->∃ v,w.cell? ⟨B,o+p.1,none⟩=some v/\v=p.2
 | .nil,_,_,_,_,h=>by cases h
 | .cons lo hi tag df off ty r,X,B,o,hr,h=>by
  obtain⟨v0,vs0,he,hv,J4⟩:=hr
  cases he
  simp only[pm,Bool.or_eq_true]at h
  rcases h with h|h
  ·cases ty with
   | prim q=>
    cases q
    case uuid=>cases h
    case bool=>
     simp only[Bool.and_eq_true,Bool.or_eq_true,beq_iff_eq]at h
     obtain⟨rfl,h2⟩:=h
     obtain⟨cs,hc,b,rfl,hb⟩:=hv
     refine⟨_,hc 0 _ rfl,?_⟩
     simp only[eV,V.n.injEq]at hb
     rcases h2 with⟨rfl,h2⟩|⟨rfl,h2⟩
     ·rw[qp h2]
      cases b<;>simp at hb ⊢
     ·rw[qp h2]
      cases b<;>simp at hb ⊢
    all_goals
     simp only[Bool.and_eq_true,beq_iff_eq]at h
     obtain⟨rfl,h2⟩:=h
     obtain⟨cs,hc,x,rfl,hx,_⟩:=hv
     refine⟨_,hc 0 _ rfl,?_⟩
     simp only[eV,V.n.injEq]at hx
     rw[qp h2,hx]
   | str _=>cases h
   | bytes _=>cases h
   | list _ _ _=>cases h
   | struct _ _ _=>cases h
  ·exact md r X B o J4 h
theorem BA (En:Env P g av fl D){toff:Option Nat}{fs:Fds}(IN:zq P g av fl D fs):qw P g av fl D (.struct none toff fs):=by
 intro nm cx fx ver S R B O r m k0 n T off old K E a w te Io HY hc Ih hk Jb hn hb Jv ho
 simp only[pU,Bool.and_eq_true,decide_eq_true_eq,beq_iff_eq]at Io
 obtain⟨⟨⟨⟨Iu,hT⟩,hF⟩,I4⟩,LU⟩:=Io
 subst hT
 replace hF:=fldB_ok hF
 split at I4
 ·rename_i wr IR
  simp only[Bool.and_eq_true,decide_eq_true_eq,List.all_eq_true]at I4
  have hwf:=fun q hq=>(I4 q hq).2
  replace I4:=fun q hq=>(I4 q hq).1
  obtain⟨M3,OP⟩:=En.df _ _ IR
  have KJ:R<w.heap.size:=HY.rd.lt
  have KC:B<w.heap.size:=hb.lt
  have Iq:=hc.le
  have OR:=hc.six
  have hn':(gL (fo g { cx with s:=nm.n 3 } fs.tagged (nm.n 5) (nm.n 6) (nm.sub 0) (gFds g { cx with s:=nm.n 3 } fs (nm.sub 0).s) (gTagd g { cx with s:=nm.n 3 } fs (nm.sub 0).s)) (n+3+2+1)).2<=a.tmps.size:=by
   simp only[lH]at hn
   rw[aX]at hn
   exact hn
  have JE:=gC (g:=g) (cx:={ cx with s:=nm.n 3 }) (tagged:=fs.tagged) (T:=nm.n 5) (kt:=nm.n 6) (m:=nm.sub 0) (up_gFds g fs (nm.sub 0).s { cx with s:=nm.n 3 }) (up_gTagd g fs (nm.sub 0).s { cx with s:=nm.n 3 }) (n+3+2+1)
  have Ii:(Ty.struct none toff fs).sz=fs.ext (dl toff):=rfl
  obtain⟨cur,Ke,JL⟩:=hb
  rw[Ii]at JL
  show LW P (eQ cx.s (nm.n 0) (nm.n 1) (nm.n 2)::cO (nm.n 0) (nm.n 4)::b6 (nm.n 0) (nm.n 3)::fo g { cx with s:=nm.n 3 } fs.tagged (nm.n 5) (nm.n 6) (nm.sub 0) (gFds g { cx with s:=nm.n 3 } fs (nm.sub 0).s) (gTagd g { cx with s:=nm.n 3 } fs (nm.sub 0).s)) n (Rt K E) a w
  refine ad (j0 (x:=6) (m:=m) (k0:=k0) (B:=B) (O:=O) HY.ss hF (.inr ⟨Iu.1,by omega⟩) Iq hk (by omega) (by omega) fun a1 HX Ig=>?_)
  have If:=HX.size
  rw[show(eQ cx.s (nm.n 0) (nm.n 1) (nm.n 2) n).2=n+3 from rfl]
  refine ad (jT (x:=6) (m:=m) (k0:=k0) (B:=B) (O:=O+off) (cur:=cur) (te:=te) M3 OP Ig Ke (fun q hq=>by have:=I4 q hq;omega) Iq (by omega) (by omega) fun a2 w2 HZ hsame2 Ic KL=>?_)
  have Iw:=HZ.size
  have Ij:a2.get (nm.n 0)=pt B (O+off):=(hsame2 _ (by omega)).trans Ig
  rw[show(cO (nm.n 0) (nm.n 4) (n+3)).2=n+3+2 from rfl]
  refine ad (e7 (x:=6) (m:=m) (k0:=k0) (.inr ⟨Iu.2.1,Iu.2.2.2.1⟩) Iq (by omega) (by omega) (by omega) fun a3 Ie I2=>?_)
  rw[show(b6 (nm.n 0) (nm.n 3) (n+3+2)).2=n+3+2+1 from rfl]
  have IJ:=Ie.size
  have Je:Pv 6 m k0 n a a3:=(HX.trans (HZ.mono (Nat.le_refl _) (by omega))).trans (Ie.mono (Nat.le_refl _) (by omega))
  have I1:cy w2 g.tR S R r:=HY.rd.keep Ic (fun h=>HY.BS h.symm) (fun h=>HY.BR h.symm)
  have IM:RC g cx fx ver S R B O r a3 w2:=HY.step hc Je I1 Ic (fun _ _ h=>.inr h)
  have L3:RC g { cx with s:=nm.n 3 } fx ver S R B (O+off) r a3 w2:=IM.withS (I2.trans Ij) HY.BR HY.BS HY.gB
  have Od:nm.n 0<max (nm.n 0) (nm.n 3)+1/\nm.n 3<max (nm.n 0) (nm.n 3)+1/\max (nm.n 0) (nm.n 3)+1<=k0:=by omega
  have MZ:dO { cx with s:=nm.n 3 } (max (nm.n 0) (nm.n 3)+1) k0:=
   ⟨⟨by have:=hc.b;simp only;omega,hc.b.2⟩,⟨Od.2.1,by simp only;omega⟩,⟨by have:=hc.ver;simp only;omega,hc.ver.2⟩,⟨by have:=hc.fx;simp only;omega,hc.fx.2⟩,by omega,Od.2.2⟩
  have I8:dS R B (fun t=>O+off<=t/\t<O+off+(Ty.struct none toff fs).sz) w w2:=by
   refine⟨Ic.mono fun _ _ h=>.inr h,fun cs te' Iz=>?_⟩
   rw[Ke]at Iz
   obtain⟨rfl,rfl,_⟩:=Obj.cells.inj (Option.some.inj Iz)
   exact⟨_,KL,cK _ _ _,fun t ht=>ip _ _ _ _ fun q hq he=>ht (by have:=I4 q hq;rw[Ii];omega)⟩
  have Vz:(fs.plain=true/\fx=true) \/ ((∀ X,RpF w2 X fs B (O+off) (dfFds fs))/\kl w2 B (O+off) toff):=by
   rcases Jv with Jv|⟨rfl,Jv⟩
   ·exact .inl Jv
   ·have IQ:∀ X,RpF w X fs B (O+off) (dfFds fs):=fun X=>by
     obtain⟨vs,t,he,h,_⟩:=Jv X
     cases he
     exact h
    have Ro:applyWr cur (O+off) wr=cur:=lF wr cur fun q hq=>by
     obtain⟨v,hv,Lk⟩:=md fs (fun _=>False) B (O+off) (IQ _) (hwf q hq)
     have:w.cell? ⟨B,O+off+q.1,none⟩=cur[O+off+q.1]?:=by simp[World.cell?,Ke]
     rw[<- this,hv,Lk]
    rw[Ro]at KL
    have hc:∀ j,w2.cell? ⟨B,j,none⟩=w.cell? ⟨B,j,none⟩:=fun j=>by simp[World.cell?,KL,Ke]
    refine .inr ⟨fun X=>?_,?_⟩
    ·have h1:=RpF.frameIn (X:=fun k=>X k \/ k=B) (Ic.mono fun k _ hk=>.inr hk) fs B (O+off) (dfFds fs) (IQ _) fun j _=>hc j
     exact RpF.mono (fun k _ hk=>.inl hk) fs B (O+off) (dfFds fs) h1
    ·obtain⟨vs,t,he,_,ht⟩:=Jv (fun _=>True)
     cases he
     cases toff with
     | none=>trivial
     | some k=>
      obtain⟨mm,hm,hh⟩:=ht
      rcases hh with⟨rfl,_⟩|hh
      ·show w2.cell? ⟨B,O+off+k,none⟩=some (.map none)
       rw[hc];exact hm
      ·obtain⟨_,_,hx,_⟩:=hh
       exact absurd trivial hx
  refine IN (nm.sub 0) { cx with s:=nm.n 3 } fx ver S R B (O+off) r (max (nm.n 0) (nm.n 3)+1) k0 (n+3+2+1) (nm.n 5) (nm.n 6) toff K E a3 w2 te LU L3 MZ Ih (by omega) (by omega) (by omega) ⟨_,KL,by rw[cK];exact JL⟩ Vz
   ⟨fun v r' a4 w4 he Ix IS hev4 hv=>?_,fun he a4 w4 Ix JX It=>?_,fun he=>?_⟩
  ·obtain⟨vs,t,rfl,Ki,Tb⟩:=hv
   exact ho.ok _ r' a4 w4 he (Je.trans (Ix.mono (by omega) (by omega))) IS (I8.trans (hev4.mono fun t ht=>by rw[Ii];exact wz ht)) fun X hX hS=>⟨vs,t,rfl,eZ Ki Ic.size X hX hS,eZ Tb Ic.size X hX hS⟩
  ·exact ho.err he a4 w4 (Je.trans (Ix.mono (by omega) (by omega))) JX (I8.keeps.trans It)
  ·exact ho.go he
 ·cases I4
theorem B9 (En:Env P g av fl D){q:Nat}{toff:Option Nat}{fs:Fds}(IN:zq P g av fl D fs):qw P g av fl D (.struct (some q) toff fs):=by
 intro nm cx fx ver S R B O r m k0 n T off old K E a w te Io HY hc Ih hk Jb hn hb Jv ho
 simp only[pU,Bool.and_eq_true,decide_eq_true_eq,beq_iff_eq]at Io
 obtain⟨⟨⟨⟨⟨Iu,hT⟩,hF⟩,TL⟩,I4⟩,LU⟩:=Io
 subst hT
 replace hF:=fldB_ok hF
 split at I4
 ·rename_i z wr hz IR
  simp only[Bool.and_eq_true,decide_eq_true_eq,List.all_eq_true]at I4
  obtain⟨⟨⟨MH,QZ⟩,QD⟩,Mx⟩:=I4
  obtain⟨M3,OP⟩:=En.df _ _ IR
  have KJ:R<w.heap.size:=HY.rd.lt
  have KC:B<w.heap.size:=hb.lt
  have Iq:=hc.le
  have OR:=hc.six
  have K2:old.isNul=true:=by
   cases h:old.isNul with
   | true=>rfl
   | false=>exact absurd (by simp only[e9,h];rfl) ho.go
  have Ia:w.cell? ⟨B,O+off,none⟩=some (.pointer none):=by
   rcases Jv with⟨h,_⟩|⟨p,q,vs,t,_,_,_,h,_⟩
   ·exact h
   ·rw[h]at K2;cases K2
  have J4:e9 fx ver (.struct (some q) toff fs) old r=(if(rI 1 r).1=-1 \/ (rI 1 r).2.bad=true then .ok .nul (rI 1 r).2 else gJ fx fs.tagged (rdFds fx ver fs) (rdTag fx ver fs) (rI 1 r).2):=by
   simp only[e9,K2];rfl
  rw[J4]at ho
  have hn':(gL (fo g { cx with s:=nm.n 4 } fs.tagged (nm.n 6) (nm.n 7) (nm.sub 0) (gFds g { cx with s:=nm.n 4 } fs (nm.sub 0).s) (gTagd g { cx with s:=nm.n 4 } fs (nm.sub 0).s)) (n+6+4+4+2+1)).2<=a.tmps.size:=by
   have h:=hn
   simp only[lH,gL,nW,gS,dM]at h
   rw[aX]at h
   exact h
  have JE:=gC (g:=g) (cx:={ cx with s:=nm.n 4 }) (tagged:=fs.tagged) (T:=nm.n 6) (kt:=nm.n 7) (m:=nm.sub 0) (up_gFds g fs (nm.sub 0).s { cx with s:=nm.n 4 }) (up_gTagd g fs (nm.sub 0).s { cx with s:=nm.n 4 }) (n+6+4+4+2+1)
  simp only[lH]
  refine ad ?_
  rw[aO]
  refine vj (m:=m) (k0:=k0) En.kb TL.1 TL.2 HY hc ⟨Iu.2.2.1,by omega⟩ hk (by omega) (fun Kl IA a1 w1 HX J5 Ir=>?_) (fun Jt a1 w1 HX J5 Ir=>bf ?_)
  ·have If:=HX.size
   rw[if_neg (by rw[IA];simp[Kl])]at ho
   have Is:RC g cx fx ver S R B O (rI 1 r).2 a1 w1:=HY.step hc HX J5 Ir (fun _ _ h=>.inl h)
   have KD:=Ir.size
   obtain⟨cur,Ke,JL⟩:=hb
   replace JL:O+off+1<=cur.size:=JL
   have SF:w1.heap[B]?=some (.cells cur te (0,0)):=by rw[Ir.block B KC HY.BR];exact Ke
   refine .mono (Q:=Rt (LW P [] _ (Rt K E)) E) (R:=Rt K E) (aY ?_) fun e a w hq=>by cases e<;>first|exact bf hq|exact hq
   show LW P (Au cx.s (nm.n 1) (nm.n 2) (nm.n 3) (nm.n 9)::cg cx.s (nm.n 0) (nm.n 1) (nm.n 2) (nm.n 3)::cO (nm.n 0) (nm.n 5)::b6 (nm.n 0) (nm.n 4)::fo g { cx with s:=nm.n 4 } fs.tagged (nm.n 6) (nm.n 7) (nm.sub 0) (gFds g { cx with s:=nm.n 4 } fs (nm.sub 0).s) (gTagd g { cx with s:=nm.n 4 } fs (nm.sub 0).s)) (n+6) (Rt K E) a1 w1
   refine ad (ER (x:=6) (m:=m) (k0:=k0) (B:=B) (O:=O) (cur:=cur) (te:=te) Is.ss hF (zeroOf_ok hz) SF (by omega) Iq (by omega) (by omega) fun a2 HZ hsame2=>?_)
   have Iw:=HZ.size
   rw[show(Au cx.s (nm.n 1) (nm.n 2) (nm.n 3) (nm.n 9) (n+6)).2=n+6+4 from rfl]
   have Ni:w1.heap.size≠S:=by have:=HY.Slt;omega
   have KN:ac (fun _=>False) w1 (w1.alloc (.cells z.cells (nm.n 9) (0,0))):=ac.alloc _ _ _
   have W8:(w1.alloc (.cells z.cells (nm.n 9) (0,0))).heap[B]?=some (.cells cur te (0,0)):=by rw[bu (by omega)];exact SF
   have KL:((w1.alloc (.cells z.cells (nm.n 9) (0,0))).setRow B (aD cur (O+off) [pt w1.heap.size 0])).heap[B]?=some (.cells (aD cur (O+off) [pt w1.heap.size 0]) te (0,0)):=setRow_heap _ _ _ _ _ _ W8
   have hp2':((w1.alloc (.cells z.cells (nm.n 9) (0,0))).setRow B (aD cur (O+off) [pt w1.heap.size 0])).heap[w1.heap.size]?=some (.cells z.cells (nm.n 9) (0,0)):=by
    rw[setRow_other _ _ _ _ (by omega)];exact heap_alloc_new _ _
   have I8:dS R B (fun j=>O+off<=j/\j<O+off+1) w1 ((w1.alloc (.cells z.cells (nm.n 9) (0,0))).setRow B (aD cur (O+off) [pt w1.heap.size 0])):=
    (dS.of_keeps KN (fun _ _ h=>h.elim) HY.BR).trans (dS.store W8 (by simpa using JL) (fun j ha hb=>⟨ha,by simpa using hb⟩))
   have MS:ac (·=B) w1 ((w1.alloc (.cells z.cells (nm.n 9) (0,0))).setRow B (aD cur (O+off) [pt w1.heap.size 0])):=(KN.mono fun _ _ h=>h.elim).trans (ac.setRow _ _ _ _ rfl)
   have Lg:((w1.alloc (.cells z.cells (nm.n 9) (0,0))).setRow B (aD cur (O+off) [pt w1.heap.size 0])).cell? ⟨B,O+off,none⟩=some (pt w1.heap.size 0):=by
    rw[cell_setRow_same _ _ _ _ _ _ _ W8]
    have:=bA (cur:=cur) (o:=O+off) (vs:=[pt w1.heap.size 0]) (by simpa using JL) 0 (by simp)
    simpa using this
   have MK:((w1.alloc (.cells z.cells (nm.n 9) (0,0))).setRow B (aD cur (O+off) [pt w1.heap.size 0])).heap.size=w1.heap.size+1:=by simp
   generalize Ka:(w1.alloc (.cells z.cells (nm.n 9) (0,0))).setRow B (aD cur (O+off) [pt w1.heap.size 0])=w2 at *
   generalize Pf:w1.heap.size=p at *
   have IB:Pv 6 m k0 n a a2:=HX.trans (HZ.mono (Nat.le_refl _) (by omega))
   have Ny:a2.get cx.s=pt B O:=(IB.get _ hc.s.2 (.inl hc.s.1)).trans HY.ss
   refine ad (fZ (x:=6) (m:=m) (k0:=k0) (O:=O) Ny hF Lg (.inr ⟨Iu.1,by omega⟩) Iq (by omega) (by omega) (by omega) fun a3 Ie I2=>?_)
   have IJ:=Ie.size
   rw[show(cg cx.s (nm.n 0) (nm.n 1) (nm.n 2) (nm.n 3) (n+6+4)).2=n+6+4+4 from rfl]
   refine ad (jT (x:=6) (m:=m) (k0:=k0) (B:=p) (O:=0) (cur:=z.cells) (te:=nm.n 9) M3 OP I2 hp2' (fun q hq=>by have:=MH q hq;omega) Iq (by omega) (by omega) fun a4 w4 Ix hsame4 It OQ=>?_)
   have Kb:=Ix.size
   have IU:a4.get (nm.n 0)=pt p 0:=(hsame4 _ (by omega)).trans I2
   rw[show(cO (nm.n 0) (nm.n 5) (n+6+4+4)).2=n+6+4+4+2 from rfl]
   refine ad (e7 (x:=6) (m:=m) (k0:=k0) (.inr ⟨Iu.2.1,by omega⟩) Iq (by omega) (by omega) (by omega) fun a5 Js Kg=>?_)
   rw[show(b6 (nm.n 0) (nm.n 4) (n+6+4+4+2)).2=n+6+4+4+2+1 from rfl]
   have N2:=Js.size
   have Kc:Pv 6 m k0 n a a5:=((IB.trans (Ie.mono (Nat.le_refl _) (by omega))).trans (Ix.mono (Nat.le_refl _) (by omega))).trans (Js.mono (Nat.le_refl _) (by omega))
   have hsz4:=It.size
   have XM:B≠p:=by omega
   have I1:cy w2 g.tR S R (rI 1 r).2:=J5.keep MS (fun h=>HY.BS h.symm) (fun h=>HY.BR h.symm)
   have IS:cy w4 g.tR S R (rI 1 r).2:=I1.keep It (fun h=>by omega) (fun h=>by omega)
   obtain⟨t',x',JO⟩:=HY.err
   have MA:=bP JO
   have NM:w1.cell? ⟨g.gErr,0,none⟩=some (.iface t' x'):=Ir.cell HY.gR JO
   have Lf:w2.cell? ⟨g.gErr,0,none⟩=some (.iface t' x'):=MS.cell HY.gB NM
   have S8:ErrAt g.gErr w4:=⟨t',x',It.cell (by omega) Lf⟩
   have O2:RC g { cx with s:=nm.n 4 } fx ver S R p 0 (rI 1 r).2 a5 w4:=
    ⟨IS,(Kc.get _ hc.b.2 (.inl hc.b.1)).trans HY.sb,Kg.trans IU,(Kc.get _ hc.ver.2 (.inl hc.ver.1)).trans HY.sv,fun hf=>(Kc.get _ hc.fx.2 (.inl hc.fx.1)).trans (HY.sf hf),HY.nf,(Kc.get 2 (by omega) (.inl (by omega))).trans HY.su,S8,HY.SR,by omega,Ni,HY.gR,by omega,
     by have:=HY.Slt;omega⟩
   have Od:nm.n 0<max (nm.n 0) (nm.n 4)+1/\nm.n 4<max (nm.n 0) (nm.n 4)+1/\max (nm.n 0) (nm.n 4)+1<=k0:=by omega
   have Qy:dO { cx with s:=nm.n 4 } (max (nm.n 0) (nm.n 4)+1) k0:=
    ⟨⟨by have:=hc.b;simp only;omega,hc.b.2⟩,⟨Od.2.1,by simp only;omega⟩,⟨by have:=hc.ver;simp only;omega,hc.ver.2⟩,⟨by have:=hc.fx;simp only;omega,hc.fx.2⟩,by omega,Od.2.2⟩
   have X2:=ly (O:=0) (cur:=z.cells) (z:=z.cells) (fun j _=>by rw[Nat.zero_add]) (by omega) MH OQ
   have OC:ac (fun k=>k=R \/ k=B) w w4:=
    ⟨It.os.trans (MS.os.trans Ir.os),It.tape.trans (MS.tape.trans Ir.tape),It.output.trans (MS.output.trans Ir.output),by omega,fun q hq hx=>by
     rw[It.block q (by omega) (by omega),MS.block q (by omega) (fun h=>hx (.inr h)),Ir.block q hq (fun h=>hx (.inl h))]⟩
   have hB4':w4.heap[B]?=some (.cells (aD cur (O+off) [pt p 0]) te (0,0)):=by rw[It.block B (by omega) XM];exact KL
   have PC:w.heap.size<=p:=KD
   refine IN (nm.sub 0) { cx with s:=nm.n 4 } fx ver S R p 0 (rI 1 r).2 (max (nm.n 0) (nm.n 4)+1) k0 (n+6+4+4+2+1) (nm.n 6) (nm.n 7) toff K E a5 w4 (nm.n 9) LU O2 Qy Ih (by omega) (by omega) (by omega) ⟨_,OQ,by rw[cK];omega⟩ ?_
    ⟨fun v r' a6 w6 he hp6 O1 hev6 hv=>?_,fun he a6 w6 hp6 JX Lc=>?_,fun he=>?_⟩
   ·refine .inr ⟨fun X=>zFds_ok X2 X fs 0 QZ,?_⟩
    cases toff with
    | none=>trivial
    | some o=>exact X2.one QD
   ·obtain⟨vs,t,rfl,Ki,Tb⟩:=hv
    have Ot:=HY.BR
    have XN:w6.heap[B]?=some (.cells (aD cur (O+off) [pt p 0]) te (0,0)):=by
     rw[hev6.keeps.block B (by omega) (fun h=>by rcases h with h|h;exact Ot h;exact XM h)];exact hB4'
    have UA:=hev6.keeps.size
    refine ho.ok _ r' a6 w6 he (Kc.trans (hp6.mono (by omega) (by omega))) O1 ⟨OC.inner hev6.keeps PC,fun cs te' Iz=>?_⟩ fun X hX hS=>.inr ⟨p,0,vs,t,?_,fun SV=>?_,by omega,rfl,?_,?_⟩
    ·rw[Ke]at Iz
     obtain⟨rfl,rfl,_⟩:=Obj.cells.inj (Option.some.inj Iz)
     refine⟨_,XN,da (by simpa using JL),fun j hj=>bV (by simpa using JL) j ?_⟩
     simp only[Ty.sz]at hj
     simp only[List.length_cons,List.length_nil]
     omega
    ·have:=bA (cur:=cur) (o:=O+off) (vs:=[pt p 0]) (by simpa using JL) 0 (by simp)
     simp only[World.cell?,XN]
     simpa[pt]using this
    ·have:=hX p SV
     omega
    ·exact eZ Ki OC.size X hX hS
    ·exact eZ Tb OC.size X hX hS
   ·exact ho.err he a6 w6 (Kc.trans (hp6.mono (by omega) (by omega))) JX (OC.inner Lc PC)
   ·exact ho.go he
  ·refine ho.ok .nul _ a1 w1 (by rw[if_pos Jt]) HX J5 (dS.of_keeps Ir (fun _ _ h=>h) HY.BR) fun X hX hS=>.inl ⟨?_,rfl⟩
   exact Ir.cell HY.BR Ia
 ·cases I4
theorem Ao {e:Ty}{hf:Bool}{m k0 esz:Nat}{z:Array Value}{nm:Nm}(h:okEl ⟨P,g,av,D⟩ hf m k0 esz z e nm=true):e.sz<=esz:=by
 cases e with
 | prim p=>simp only[okEl,Bool.and_eq_true,beq_iff_eq]at h;omega
 | str nul=>simp only[okEl,Bool.and_eq_true,beq_iff_eq]at h;simp only[Ty.sz];omega
 | bytes nul=>simp only[okEl,Bool.and_eq_true,beq_iff_eq]at h;simp only[Ty.sz];omega
 | list nul sz e=>simp[okEl]at h
 | struct nul toff fs=>
  cases nul with
  | some q=>simp[okEl]at h
  | none=>
   simp only[okEl,Bool.and_eq_true]at h
   obtain⟨⟨_,h⟩,_⟩:=h
   split at h
   ·simp only[Bool.and_eq_true,decide_eq_true_eq]at h
    exact h.2
   ·cases h
mutual
theorem AQ (En:Env P g av fl D):∀ ty:Ty,qw P g av fl D ty
 | .prim p=>zN En.kb p
 | .str nul=>B8 En.kb nul
 | .bytes nul=>xk En.kb nul
 | .list _ _ e=>zO En.kb (rd_el En e) (fun _ _ _ _ _ h=>Ao h)
 | .struct none _ fs=>BA En (uc En.kb (rd_fds En fs) (rd_case En fs))
 | .struct (some _) _ fs=>B9 En (uc En.kb (rd_fds En fs) (rd_case En fs))
theorem rd_el (En:Env P g av fl D):∀ ty:Ty,zr P g av fl D ty
 | .prim _=>qq En.kb rfl
 | .str _=>qq En.kb rfl
 | .bytes _=>qq En.kb rfl
 | .list _ _ _=>fun _ _ _ _ _ _ _ _ _ _ _ _ _ _ _ _ _ _ _ _ _ _ _ _ _ _ _ _ h=>by simp[okEl]at h
 | .struct none _ fs=>wd En (uc En.kb (rd_fds En fs) (rd_case En fs))
 | .struct (some _) _ _=>fun _ _ _ _ _ _ _ _ _ _ _ _ _ _ _ _ _ _ _ _ _ _ _ _ _ _ _ _ h=>by simp[okEl]at h
theorem rd_fds (En:Env P g av fl D):∀ fs:Fds,pk P g av fl D fs
 | .nil=>Ay
 | .cons _ _ _ _ _ ty r=>yW (AQ En ty) (rd_fds En r)
theorem rd_case (En:Env P g av fl D):∀ fs:Fds,k9 P g av fl D fs
 | .nil=>za
 | .cons _ _ _ _ _ ty r=>wi En.kb (AQ En ty) (rd_case En r)
end
theorem EV (En:Env P g av fl D)(fs:Fds):zq P g av fl D fs:=uc En.kb (rd_fds En fs) (rd_case En fs)
end
section
open Go
def sA:Fds->Bool
 | .nil=>true
 | .cons _ _ _ _ off _ r=>decide (0<off)&&sA r
theorem pT:∀ (fs:Fds) (j:Nat),sA fs=true->fs.In 0 j->j≠0
 | .nil,_,_,h=>h.elim
 | .cons _ _ _ _ off ty r,j,h,hj=>by
  simp only[sA,Bool.and_eq_true,decide_eq_true_eq]at h
  rcases hj with hj|hj
  ·omega
  ·exact pT r j h.2 hj
def oz (cx:Cx):Nat:=max (max cx.b cx.s) (max cx.ver cx.fx)+1
def qE (e:Ev)(kept:Bool)(cx:Cx)(fs:Fds)(dflt T kt:Nat)(toff:Option Nat)(n0 ntmps:Nat)(nm:Nm)(z:Array Value)(used:Nat):Bool:=
 decide (6<cx.b/\6<cx.s/\6<cx.ver/\cx.b≠cx.s/\cx.b≠cx.ver/\cx.s≠cx.ver/\oz cx<=n0/\((cx.hf=true/\6<cx.fx/\cx.b≠cx.fx/\cx.s≠cx.fx/\cx.ver≠cx.fx) \/ (cx.hf=false/\cx.fx=0)))&&decide (used<=ntmps)&&eA e.P T 0 e.g.tVer 0 false 1&&(!kept || e.av .i16) &&
 (match e.D dflt with
  | some wr=>(wr.all fun p=>decide (0<p.1/\p.1<z.size))&&zFds (applyWr z 0 wr) fs 0&&H8 (applyWr z 0 wr) toff&&sA fs&&(toff != some 0)&&decide (fs.ext (dl toff)<=z.size)&&decide (0<z.size)
  | none=>false) &&
 vA e cx.hf (oz cx) n0 T kt toff fs nm (okFds e cx.hf (oz cx) n0 T fs nm.s) (okTagd e (nm.n 1+1) n0 T fs nm.s)
def jL (g:G)(kept:Bool)(cx:Cx)(dflt T flex:Nat):List GC:=
 [aR 6 .nilIface,cO 0 dflt,ay 2 fun n=>[mk (some n) (.move (tm 1)),mk (some (n+1)) (.build g.tR #[(0,tm n)]),mk (some cx.b) (.alloc g.tR),mk none (.store g.tR (tm cx.b) (tm (n+1)))]] ++
  (if kept then[ay 4 fun n=>[mk (some n) (.move (tm 0)),cl (some (n+1)) (g.rd .i16) [tm cx.b],mk (some (n+2)) (.nilCheck (tm n)),mk (some (n+3)) (.fieldAddr T (tm (n+2)) 0),mk none (.store g.tVer (tm (n+3)) (tm (n+1)))]] else[]) ++
  [cg 0 cx.ver T 0 g.tVer,ay 1 fun n=>[mk (some n) (.move (tm cx.ver))]] ++
  (if cx.hf then[ay 2 fun n=>[mk (some n) (.move (tm cx.ver)),mk (some (n+1)) (.binOp .geq g.tVer (tm n) (ki .i16 flex) 0),mk (some cx.fx) (.assign (tm (n+1)))],ay 1 fun n=>[mk (some n) (.move (tm cx.fx))]] else[]) ++
  [b6 0 cx.s]
def Av (g:G)(b:Nat):List GC:=[ay 1 fun n=>[cl (some n) g.complete [tm b],mk (some 6) (.assign (tm n))],aS .ret]
theorem yN (g:G)(kept:Bool)(cx:Cx)(fs:Fds)(dflt T kt flex n0:Nat)(m:Nm) :
  gRead g cx.hf kept cx fs dflt T kt flex n0 m=(gS (jL g kept cx dflt T flex++(fo g cx fs.tagged T kt m (gFds g cx fs m.s) (gTagd g cx fs m.s)++Av g cx.b)) n0).1:=by
 unfold gRead jL Av
 simp only[List.append_assoc]
mutual
theorem oB {z z2:Array Value}(h:∀ j,1<=j->z2[j]?=z[j]?):∀ (ty:Ty) (df:Int) (o:Nat),1<=o->rH z df ty o=true->rH z2 df ty o=true
 | .prim p,df,o,ho,hz=>by
  have e:∀ v,ge z2 o v=ge z o v:=fun v=>by simp only[ge,h o ho]
  cases p
  case uuid=>
   simp only[rH,List.all_eq_true]at hz ⊢
   intro j hj
   have:=hz j hj
   simp only[ge,h (o+j) (by omega)]at this ⊢
   exact this
  all_goals (simp only[rH,e]at hz ⊢;exact hz)
 | .str none,df,o,ho,hz=>by simp only[rH,ge,h o ho]at hz ⊢;exact hz
 | .str (some _),df,o,ho,hz=>by simp only[rH,ge,h o ho]at hz ⊢;exact hz
 | .bytes _,df,o,ho,hz=>by simp only[rH,ge,h o ho]at hz ⊢;exact hz
 | .list _ _ _,df,o,ho,hz=>by simp only[rH,ge,h o ho]at hz ⊢;exact hz
 | .struct (some _) _ _,df,o,ho,hz=>by simp only[rH,ge,h o ho]at hz ⊢;exact hz
 | .struct none toff fs,df,o,ho,hz=>by
  simp only[rH,Bool.and_eq_true]at hz ⊢
  refine⟨zFds_agree h fs o (.inl ho) hz.1,?_⟩
  cases toff with
  | none=>rfl
  | some k=>have:=hz.2;simp only[ge,h (o+k) (by omega)]at this ⊢;exact this
theorem zFds_agree {z z2:Array Value}(h:∀ j,1<=j->z2[j]?=z[j]?):∀ (fs:Fds) (o:Nat),(1<=o \/ sA fs=true)->zFds z fs o=true->zFds z2 fs o=true
 | .nil,o,ho,hz=>rfl
 | .cons _ _ _ df off ty r,o,ho,hz=>by
  simp only[zFds,Bool.and_eq_true]at hz ⊢
  rcases ho with ho|ho
  ·exact⟨oB h ty df (o+off) (by omega) hz.1,zFds_agree h r o (.inl ho) hz.2⟩
  ·simp only[sA,Bool.and_eq_true,decide_eq_true_eq]at ho
   exact⟨oB h ty df (o+off) (by omega) hz.1,zFds_agree h r o (.inr ho.2) hz.2⟩
end
section
variable {P:Program} {g:G} {av:PF->Bool} {fl:Bool} {D:Nat->Option (List (Nat × Value))}
def gY (kept:Bool)(ver:Int)(r:RS):Int × RS:=if kept then rI 2 r else(ver,r)
structure zw (g:G)(cx:Cx)(fs:Fds)(toff:Option Nat)(flex:Nat)(B S te:Nat)(csz:Nat)(w0:World)(vr:Int × RS)(ntmps R:Nat)(a:Act)(w:World):Prop where
 rc:RC g cx (cx.hf&&decide ((flex:Int)<=vr.1)) vr.1 S R B 0 vr.2 a w
 size:a.tmps.size=ntmps
 defers:a.defers=[]
 six:a.get 6=.nilIface
 keeps:ac (·=B) w0 w
 fresh:w0.heap.size<=R
 blk:∃ cur,w.heap[B]?=some (.cells cur te (0,0))/\cur.size=csz/\cur[0]?=some (.int .i16 vr.1)
 fds:∀ X,RpF w X fs B 0 (dfFds fs)
 tgs:kl w B 0 toff
structure HO (g:G)(cx:Cx)(fs:Fds)(toff:Option Nat)(B S te csz:Nat)(w0:World)(vr:Int × RS)(ntmps R:Nat)(a:Act)(w:World):Prop where
 rd:cy w g.tR S R vr.2
 sb:a.get cx.b=pt R 0
 s0:a.get 0=pt B 0
 s2:a.get 2=.bool false
 size:a.tmps.size=ntmps
 defers:a.defers=[]
 six:a.get 6=.nilIface
 keeps:ac (·=B) w0 w
 fresh:w0.heap.size<=R
 blk:∃ cur,w.heap[B]?=some (.cells cur te (0,0))/\cur.size=csz/\cur[0]?=some (.int .i16 vr.1)
 fds:∀ X,RpF w X fs B 0 (dfFds fs)
 tgs:kl w B 0 toff
 err:ErrAt g.gErr w
theorem pe {cx:Cx}{fs:Fds}{T flex n n0 ntmps:Nat}{toff:Option Nat}{B S te csz R:Nat}{w0 w:World}{vr:Int × RS}{a:Act}{Q:Exit->Act->World->Prop}{K:Act->World->Prop}(Iu:6<cx.b/\6<cx.s/\6<cx.ver/\cx.b≠cx.s/\cx.b≠cx.ver/\cx.s≠cx.ver/\oz cx<=n0/\((cx.hf=true/\6<cx.fx/\cx.b≠cx.fx/\cx.s≠cx.fx/\cx.ver≠cx.fx) \/ (cx.hf=false/\cx.fx=0)))
  (hF:bw P T 0 g.tVer 0 false 1) (hp:HO g cx fs toff B S te csz w0 vr ntmps R a w) (Mk:n0<=n) (hn:n+9<=ntmps) (hS:S<w0.heap.size) (NU:B<w0.heap.size) (Lx:B≠S) (Oi:g.gErr≠B) (MA:g.gErr<w0.heap.size)
  (h:∀ a' w',zw g cx fs toff flex B S te csz w0 vr ntmps R a' w'->K a' w') :
  LW P ([cg 0 cx.ver T 0 g.tVer,ay 1 fun n=>[mk (some n) (.move (tm cx.ver))]]++((if cx.hf then[ay 2 fun n=>[mk (some n) (.move (tm cx.ver)),mk (some (n+1)) (.binOp .geq g.tVer (tm n) (ki .i16 flex) 0),mk (some cx.fx) (.assign (tm (n+1)))],ay 1 fun n=>[mk (some n) (.move (tm cx.fx))]] else[]) ++
   [b6 0 cx.s])) n (Exit.then K Q) a w:=by
 have hfx':cx.hf=true->6<cx.fx/\cx.b≠cx.fx/\cx.s≠cx.fx/\cx.ver≠cx.fx:=fun h=>by
  rcases Iu.2.2.2.2.2.2.2 with h2|h2
  ·exact h2.2
  ·rw[h]at h2;cases h2.1
 replace Iu:6<cx.b/\6<cx.s/\6<cx.ver/\cx.b≠cx.s/\cx.b≠cx.ver/\cx.s≠cx.ver/\oz cx<=n0:=⟨Iu.1,Iu.2.1,Iu.2.2.1,Iu.2.2.2.1,Iu.2.2.2.2.1,Iu.2.2.2.2.2.1,Iu.2.2.2.2.2.2.1⟩
 have WX:oz cx=max (max cx.b cx.s) (max cx.ver cx.fx)+1:=rfl
 have Ii:=hp.size
 obtain⟨cur,hB,Iz,Ln⟩:=hp.blk
 have Ia:w.cell? ⟨B,0+0,none⟩=some (.int .i16 vr.1):=by simp only[World.cell?,hB];simpa using Ln
 have hR0:=hp.fresh
 refine ad (fZ (x:=cx.ver) (m:=n0) (k0:=n0) (O:=0) hp.s0 hF Ia (.inl rfl) (Nat.le_refl _) Mk (by omega) (by omega) fun a1 HX Ig=>?_)
 have If:=HX.size
 rw[show(cg 0 cx.ver T 0 g.tVer n).2=n+4 from rfl]
 refine ad (aq (ah (wpList_nil ?_)))
 rw[aa,Ig]
 have HZ:Pv cx.ver n0 n0 n a (a1.put (some (n+4)) (.int .i16 vr.1)):=HX.put _ (by omega)
 have Ij:(a1.put (some (n+4)) (.int .i16 vr.1)).get cx.ver=.int .i16 vr.1:=by rw[al (by omega)];exact Ig
 generalize a1.put (some (n+4)) (.int .i16 vr.1)=a2 at HZ Ij ⊢
 have Iw:=HZ.size
 rw[show(ay 1 (fun n=>[mk (some n) (.move (tm cx.ver))]) (n+4)).2=n+5 from rfl]
 have key:∀ (a3:Act) (n3:Nat),n+5<=n3->n3+1<=ntmps->a3.tmps.size=ntmps->a3.defers=[]->a3.get 0=pt B 0->a3.get 2=.bool false->a3.get 6=.nilIface->a3.get cx.b=pt R 0->a3.get cx.ver=.int .i16 vr.1->(cx.hf=true->a3.get cx.fx=.bool (decide ((flex:Int)<=vr.1))) ->
   LW P [b6 0 cx.s] n3 (Exit.then K Q) a3 w:=by
  intro a3 n3 h5 h6 PB J9 h30 WE h36 h3b h3v h3f
  refine ad (e7 (x:=cx.s) (m:=n0) (k0:=n0) (.inl rfl) (Nat.le_refl _) (by omega) (by omega) (by omega) fun a4 Ix IU=>bf (h a4 w ?_))
  have Kb:=Ix.size
  refine⟨⟨hp.rd,(Ix.get _ (by omega) (.inl (by omega))).trans h3b,IU.trans h30,(Ix.get _ (by omega) (.inl (by omega))).trans h3v,fun hf=>?_,fun hf=>by rw[hf];rfl,(Ix.get 2 (by omega) (.inl (by omega))).trans WE,hp.err,?_,?_,Lx,?_,Oi,?_⟩,
   by omega,Ix.defers.trans J9,(Ix.get 6 (by omega) (.inl (by omega))).trans h36,hp.keeps,hp.fresh,⟨cur,hB,Iz,Ln⟩,hp.fds,hp.tgs⟩
  ·have:=hfx' hf
   rw[Ix.get _ (by omega) (.inl (by omega)),h3f hf,hf];rfl
  ·omega
  ·omega
  ·omega
  ·exact Nat.lt_of_lt_of_le hS hp.keeps.size
 have hq:∀ s,s≠cx.ver->s<n0->a2.get s=a.get s:=fun s h1 h2=>HZ.get s h1 (.inl h2)
 cases IC:cx.hf with
 | false=>
  simp only[Bool.false_eq_true,if_false,List.nil_append]
  exact key a2 (n+5) (Nat.le_refl _) (by omega) (by omega) (HZ.defers.trans hp.defers) ((hq 0 (by omega) (by omega)).trans hp.s0) ((hq 2 (by omega) (by omega)).trans hp.s2) ((hq 6 (by omega) (by omega)).trans hp.six) ((hq _ (by omega) (by omega)).trans hp.sb) Ij (fun hf=>by rw[IC]at hf;cases hf)
 | true=>
  have:=hfx' IC
  simp only[if_true]
  show LW P (ay 2 (fun n=>[mk (some n) (.move (tm cx.ver)),mk (some (n+1)) (.binOp .geq g.tVer (tm n) (ki .i16 flex) 0),mk (some cx.fx) (.assign (tm (n+1)))])::ay 1 (fun n=>[mk (some n) (.move (tm cx.fx))])::[b6 0 cx.s]) (n+5) (Exit.then K Q) a2 w
  refine ad (aq (ah ?_))
  rw[aa,Ij]
  refine bk (b:=decide ((flex:Int)<=vr.1)) (p:=vr.1) (q:=flex) (k:=.i16) (by rw[aa,ao (by omega)]) rfl (.inl ⟨rfl,rfl⟩) (ak (wpList_nil ?_))
  rw[aa,ao (by simp only[ab];omega)]
  rw[show(ay 2 (fun n=>[mk (some n) (.move (tm cx.ver)),mk (some (n+1)) (.binOp .geq g.tVer (tm n) (ki .i16 flex) 0),mk (some cx.fx) (.assign (tm (n+1)))]) (n+5)).2=n+7 from rfl]
  refine ad (aq (ah (wpList_nil ?_)))
  rw[aa,ao (by simp only[ab];omega)]
  rw[show(ay 1 (fun n=>[mk (some n) (.move (tm cx.fx))]) (n+7)).2=n+8 from rfl]
  have Nh:Pv cx.fx n0 n0 (n+5) a2 ((((a2.put (some (n+5)) (.int .i16 vr.1)).put (some (n+5+1)) (.bool (decide ((flex:Int)<=vr.1)))).put (some cx.fx) (.bool (decide ((flex:Int)<=vr.1)))).put (some (n+7)) (.bool (decide ((flex:Int)<=vr.1)))):=
   ((((Pv.refl _ _ _ _ _).put _ (by omega)).put _ (by omega)).put _ (by omega)).put _ (by omega)
  have Mu:((((a2.put (some (n+5)) (.int .i16 vr.1)).put (some (n+5+1)) (.bool (decide ((flex:Int)<=vr.1)))).put (some cx.fx) (.bool (decide ((flex:Int)<=vr.1)))).put (some (n+7)) (.bool (decide ((flex:Int)<=vr.1)))).get cx.fx=.bool (decide ((flex:Int)<=vr.1)):=by
   rw[al (by omega),ao (by simp only[ab];omega)]
  have MN:∀ s,s≠cx.fx->s<n0->_:=fun s h1 h2=>Nh.get s h1 (.inl h2)
  exact key _ (n+8) (by omega) (by omega) (by rw[Nh.size];omega) (Nh.defers.trans (HZ.defers.trans hp.defers)) ((MN 0 (by omega) (by omega)).trans ((hq 0 (by omega) (by omega)).trans hp.s0)) ((MN 2 (by omega) (by omega)).trans ((hq 2 (by omega) (by omega)).trans hp.s2)) ((MN 6 (by omega) (by omega)).trans ((hq 6 (by omega) (by omega)).trans hp.six))
   ((MN _ (by omega) (by omega)).trans ((hq _ (by omega) (by omega)).trans hp.sb)) ((MN _ (by omega) (by omega)).trans Ij) (fun _=>Mu)
theorem At (En:Env P g av fl D){kept:Bool}{cx:Cx}{fs:Fds}{dflt T kt flex n0 ntmps used:Nat}{toff:Option Nat}{nm:Nm}{z cur:Array Value}(Ku:qE ⟨P,g,av,D⟩ kept cx fs dflt T kt toff n0 ntmps nm z used=true)(hn:n0+17<=ntmps)
  {w:World} {B S te:Nat} {ver:Int} {srcv:Value} {r0:RS} (hB:w.heap[B]?=some (.cells cur te (0,0))) (M0:cur=z.setIfInBounds 0 (.int .i16 ver)) (J3:bD w S srcv r0) (IA:r0.bad=false) (herr:ErrAt g.gErr w) (hS:S<w.heap.size) (Lx:B≠S) (Oi:g.gErr≠B)
  {Q:Exit->Act->World->Prop} {K:Act->World->Prop} {a:Act} (ha:a.tmps.size=ntmps) (had:a.defers=[]) (h0:a.get 0=pt B 0) (h1:a.get 1=srcv) (h2:a.get 2=.bool false)
  (h:∀ R a' w',zw g cx fs toff flex B S te cur.size w (gY kept ver r0) ntmps R a' w'->K a' w'):LW P (jL g kept cx dflt T flex) n0 (Exit.then K Q) a w:=by
 simp only[qE,Bool.and_eq_true,decide_eq_true_eq]at Ku
 obtain⟨⟨⟨⟨⟨Iu,IL⟩,hF⟩,Lv⟩,I4⟩,IN⟩:=Ku
 replace hF:=fldB_ok hF
 split at I4
 ·rename_i wr IR
  simp only[Bool.and_eq_true,decide_eq_true_eq,List.all_eq_true,bne_iff_ne]at I4
  obtain⟨⟨⟨⟨⟨⟨MH,QZ⟩,QD⟩,Jd⟩,WY⟩,Mx⟩,WJ⟩:=I4
  obtain⟨M3,OP⟩:=En.df _ _ IR
  have WX:oz cx=max (max cx.b cx.s) (max cx.ver cx.fx)+1:=rfl
  have NU:B<w.heap.size:=(Array.getElem?_eq_some_iff.1 hB).1
  obtain⟨te',xe,On⟩:=herr
  have MA:=bP On
  have Iz:cur.size=z.size:=by rw[M0];simp
  unfold jL
  simp only[List.append_assoc]
  refine ad (cV (x:=6) (m:=n0) (k0:=n0) (.inl rfl) (by omega) fun a1 HX Ig=>?_)
  have If:=HX.size
  rw[show(aR 6 .nilIface n0).2=n0 from rfl]
  have JV:∀ s,s≠6->s<n0->a1.get s=a.get s:=fun s h1 h2=>HX.get s h1 (.inl h2)
  refine ad (jT (x:=6) (m:=n0) (k0:=n0) (B:=B) (O:=0) (cur:=cur) (te:=te) M3 OP ((JV 0 (by omega) (by omega)).trans h0) hB (fun q hq=>by have:=MH q hq;omega) (Nat.le_refl _) (Nat.le_refl _) (by omega) fun a2 w2 HZ hsame2 Ic KL=>?_)
  have Iw:=HZ.size
  rw[show(cO 0 dflt n0).2=n0+2 from rfl]
  have Pn:∀ j,1<=j->(applyWr cur 0 wr)[j]?=(applyWr z 0 wr)[j]?:=by
   have V8:∀ (l:List (Nat × Value)) (c1 c2:Array Value),c1.size=c2.size->(∀ j,1<=j->c1[j]?=c2[j]?)->∀ j,1<=j->(applyWr c1 0 l)[j]?=(applyWr c2 0 l)[j]?:=by
    intro l
    induction l with
    | nil=>intro c1 c2 _ hc j hj;exact hc j hj
    | cons p l ih=>
     intro c1 c2 Ii hc j hj
     refine ih _ _ (by simpa using Ii) (fun i hi=>?_) j hj
     rw[Array.getElem?_setIfInBounds,Array.getElem?_setIfInBounds,Ii,hc i hi]
   refine V8 wr cur z Iz fun j hj=>?_
   rw[M0,Array.getElem?_setIfInBounds,if_neg (by omega)]
  have Ln:(applyWr cur 0 wr)[0]?=some (.int .i16 ver):=by
   rw[ip 0 wr cur 0 (fun q hq=>by have:=MH q hq;omega),M0]
   simp[WJ]
  have SU:rF w2 B 0 (applyWr cur 0 wr):=fun j v hj=>by simp only[World.cell?,KL];simpa using hj
  have VI:∀ X,RpF w2 X fs B 0 (dfFds fs):=fun X=>zFds_ok SU X fs 0 (zFds_agree Pn fs 0 (.inr Jd) QZ)
  have L1:kl w2 B 0 toff:=by
   cases toff with
   | none=>trivial
   | some o=>
    have ho:o≠0:=fun h=>WY (by rw[h])
    refine SU.one ?_
    simp only[H8,ge]at QD ⊢
    rw[Pn o (by omega)]
    exact QD
  have Pa:bD w2 S srcv r0:=J3.keep Ic (fun h=>Lx h.symm)
  refine ad (aq (ah ?_))
  rw[aa,hsame2 1 (by omega),JV 1 (by omega) (by omega),h1]
  refine kK En.kb (y:=n0+2) (v:=srcv) (ao (by omega)) Pa IA (by simp only[ab];omega) (by simp only[ab];omega) (by omega) (wpList_nil ?_)
  rw[show(ay 2 (fun n=>[mk (some n) (.move (tm 1)),mk (some (n+1)) (.build g.tR #[(0,tm n)]),mk (some cx.b) (.alloc g.tR),mk none (.store g.tR (tm cx.b) (tm (n+1)))]) (n0+2)).2=n0+4 from rfl]
  have Il:ac (fun _=>False) w2 ((w2.alloc (.cells #[.slice none 0 0,.bool false] g.tR (0,0))).setRow w2.heap.size #[srcv,.bool false]):=dH _ _ _ _
  have IT:=kg (T:=g.tR) Pa IA
  have PB:((w2.alloc (.cells #[.slice none 0 0,.bool false] g.tR (0,0))).setRow w2.heap.size #[srcv,.bool false]).heap.size=w2.heap.size+1:=by simp
  have Ie:Pv cx.b n0 n0 (n0+2) a2 ((((a2.put (some (n0+2)) srcv).put (some (n0+2+1)) (.agg #[srcv,.bool false])).put (some cx.b) (pt w2.heap.size 0))):=(((Pv.refl _ _ _ _ _).put _ (by omega)).put _ (by omega)).put _ (by omega)
  have I2:((((a2.put (some (n0+2)) srcv).put (some (n0+2+1)) (.agg #[srcv,.bool false])).put (some cx.b) (pt w2.heap.size 0))).get cx.b=pt w2.heap.size 0:=ao (by simp only[ab];omega)
  generalize(((a2.put (some (n0+2)) srcv).put (some (n0+2+1)) (.agg #[srcv,.bool false])).put (some cx.b) (pt w2.heap.size 0))=a3 at Ie I2 ⊢
  generalize(w2.alloc (.cells #[.slice none 0 0,.bool false] g.tR (0,0))).setRow w2.heap.size #[srcv,.bool false]=w3 at Il IT PB ⊢
  have IJ:=Ie.size
  have MK:=Ic.size
  have MN:∀ s,s≠cx.b->s≠6->s<n0->a3.get s=a.get s:=fun s h1 h2 h3=>(Ie.get s h1 (.inl h3)).trans ((hsame2 s (by omega)).trans (JV s h2 h3))
  have XO:w3.heap[B]?=some (.cells (applyWr cur 0 wr) te (0,0)):=by rw[Il.block B (by omega) id];exact KL
  have S3:∀ X,RpF w3 X fs B 0 (dfFds fs):=fun X=>RpF.frameIn (Il.mono fun _ _ h=>h.elim) fs B 0 _ (VI X) fun j _=>bF (Il.block B (by omega) id) j
  have Lj:kl w3 B 0 toff:=by
   cases toff with
   | none=>trivial
   | some o=>exact Il.cell id L1
  have MB:ErrAt g.gErr w3:=⟨te',xe,Il.cell id (Ic.cell Oi On)⟩
  have Jx:ac (·=B) w w3:=Ic.trans (Il.mono fun _ _ h=>h.elim)
  have L4:HO g cx fs toff B S te cur.size w (ver,r0) ntmps w2.heap.size a3 w3:=
   ⟨IT,I2,(MN 0 (by omega) (by omega) (by omega)).trans h0,(MN 2 (by omega) (by omega) (by omega)).trans h2,by omega,Ie.defers.trans (HZ.defers.trans (HX.defers.trans had)),(Ie.get 6 (by omega) (.inl (by omega))).trans ((hsame2 6 (by omega)).trans Ig),Jx,MK,
    ⟨_,XO,cK _ _ _,Ln⟩,S3,Lj,MB⟩
  cases hkp:kept with
  | false=>
   rw[hkp]at h
   simp only[Bool.false_eq_true,if_false]
   exact pe Iu hF L4 (by omega) (by omega) hS NU Lx Oi MA (fun a' w' hh=>h _ a' w' hh)
  | true=>
   rw[hkp]at h Lv
   have NH:av .i16=true:=by simpa using Lv
   simp only[if_true]
   have hRS:S≠w2.heap.size:=by omega
   refine ad (aq (ah ?_))
   rw[aa,L4.s0]
   refine aN (vs:=#[pt w2.heap.size 0]) (En.kb.rdE _ NH) (by simp[aa,al (show cx.b≠n0+4 by omega),I2]) (En.kb.rdC _ NH w3 S w2.heap.size r0 IT hRS) fun e w4 hR=>?_
   obtain⟨val,he,IS,It,QP⟩:=hR
   refine⟨_,he,?_⟩
   refine aG (by rw[aa,al (by omega),ao (by omega)];rfl) ?_
   refine bN (by rw[aa,ao (by simp only[ab];omega)]) hF ?_
   obtain⟨x,Um,QG,_⟩:=QP (fun _=>False) (fun _ h=>h.elim) id
   have hx3:x=(rI 2 r0).1:=by
    have e:(PF.run .i16 r0).1=.n (rI 2 r0).1:=rfl
    rw[e]at QG
    exact(V.n.inj QG).symm
   have Ot:B≠w2.heap.size:=by omega
   have OQ:w4.heap[B]?=some (.cells (applyWr cur 0 wr) te (0,0)):=by rw[It.block B (by omega) Ot];exact XO
   have Un:(applyWr cur 0 wr).size=cur.size:=cK _ _ _
   refine bm (cur:=applyWr cur 0 wr) (t:=te) (v:=val) (vs:=[.int .i16 x]) (by rw[aa,ao (by simp only[ab];omega)]) (by rw[aa,al (by omega),al (by omega),ao (by simp only[ab];omega)]) Um (hF.var.size _) OQ (by rw[Un];simp only[List.length_cons,List.length_nil];omega)
    (fun u hu=>by simp at hu;rw[hu];rfl) (wpList_nil ?_)
   rw[Nat.zero_add,gF (by omega)]
   have Rc:(w4.setRow B ((applyWr cur 0 wr).setIfInBounds 0 (.int .i16 x))).heap[B]?=some (.cells ((applyWr cur 0 wr).setIfInBounds 0 (.int .i16 x)) te (0,0)):=setRow_heap _ _ _ _ _ _ OQ
   have Jc:ac (·=B) w4 (w4.setRow B ((applyWr cur 0 wr).setIfInBounds 0 (.int .i16 x))):=ac.setRow _ _ _ _ rfl
   have L9:∀ j,fs.In 0 j->(w4.setRow B ((applyWr cur 0 wr).setIfInBounds 0 (.int .i16 x))).cell? ⟨B,j,none⟩=w4.cell? ⟨B,j,none⟩:=fun j hj=>by
    have Kl:¬ (0=j):=fun h=>pT fs j Jd hj h.symm
    simp only[World.cell?,Rc,OQ,Array.getElem?_setIfInBounds,Kl,if_false]
   have Vu:ac (fun k=>k=w2.heap.size) w3 w4:=It
   have VH:∀ X,RpF w4 X fs B 0 (dfFds fs):=fun X=>RpF.mono (fun k _ hk=>.inl hk) fs B 0 _ (RpF.frameIn (Vu.mono fun k _ hk=>.inr hk) fs B 0 _ (S3 (fun k=>X k \/ k=w2.heap.size)) fun j _=>bF (It.block B (by omega) Ot) j)
   have VG:∀ X,RpF (w4.setRow B ((applyWr cur 0 wr).setIfInBounds 0 (.int .i16 x))) X fs B 0 (dfFds fs):=fun X=>RpF.mono (fun k _ hk=>.inl hk) fs B 0 _ (RpF.frameIn (Jc.mono fun k _ hk=>.inr hk) fs B 0 _ (VH (fun k=>X k \/ k=B)) L9)
   have U5:kl (w4.setRow B ((applyWr cur 0 wr).setIfInBounds 0 (.int .i16 x))) B 0 toff:=by
    cases toff with
    | none=>trivial
    | some o=>
     have ho:o≠0:=fun h=>WY (by rw[h])
     have h4:w4.cell? ⟨B,0+o,none⟩=some (.map none):=It.cell Ot Lj
     show(w4.setRow B ((applyWr cur 0 wr).setIfInBounds 0 (.int .i16 x))).cell? ⟨B,0+o,none⟩=some (.map none)
     rw[<- h4]
     have Kl:¬ (0=0+o):=by omega
     simp only[World.cell?,Rc,OQ,Array.getElem?_setIfInBounds,Kl,if_false]
   refine pe (vr:=rI 2 r0) (R:=w2.heap.size) (n:=n0+8) Iu hF ⟨?_,?_,?_,?_,?_,?_,?_,?_,?_,?_,VG,U5,?_⟩ (by omega) (by omega) hS NU Lx Oi MA (fun a' w' hh=>h _ a' w' hh)
   ·exact IS.keep Jc (fun h=>Lx h.symm) (fun h=>Ot h.symm)
   ·rw[al (by omega),al (by omega),al (by omega),al (by omega)];exact I2
   ·rw[al (by omega),al (by omega),al (by omega),al (by omega)];exact L4.s0
   ·rw[al (by omega),al (by omega),al (by omega),al (by omega)];exact L4.s2
   ·simp only[ab];exact L4.size
   ·simp only[aj];exact L4.defers
   ·rw[al (by omega),al (by omega),al (by omega),al (by omega)];exact L4.six
   ·refine⟨It.os.trans Jx.os,It.tape.trans Jx.tape,It.output.trans Jx.output,by have:=It.size;have:=Jx.size;have:=Jc.size;omega,fun q hq hx=>?_⟩
    have:=Jx.size
    have:=It.size
    rw[Jc.block q (by omega) hx,It.block q (by omega) (by omega),Jx.block q hq hx]
   ·exact MK
   ·exact⟨_,Rc,by simp[Un],by rw[<- hx3];simp[Un,Iz,WJ]⟩
   ·obtain⟨t6,x6,h6⟩:=MB
    exact⟨t6,x6,Jc.cell Oi (It.cell (by omega) h6)⟩
 ·cases I4
end
end
section
variable {P:Program} {g:G} {av:PF->Bool} {fl:Bool} {D:Nat->Option (List (Nat × Value))}
def p5 (g:G)(kept:Bool)(cx:Cx)(fs:Fds)(dflt T kt flex n0:Nat)(m:Nm):Nat:=
 (gL (jL g kept cx dflt T flex++(fo g cx fs.tagged T kt m (gFds g cx fs m.s) (gTagd g cx fs m.s)++Av g cx.b)) n0).2
def rD (fs:Fds)(toff:Option Nat)(B S te csz:Nat)(w:World)(ver:Int)(out:jq V)(x:Value)(w':World):Prop:=
 ac (·=B) w w' /\
 match out with
 | .ok v r=>(r.bad=false->x=.nilIface)/\(r.bad=true->∃ t y,x=.iface t y) /\
   ∃ vs t cur,v=.st vs t/\w'.heap[B]?=some (.cells cur te (0,0))/\cur.size=csz/\cur[0]?=some (.int .i16 ver)/\rG w S (fun X=>RpF w' X fs B 0 vs)/\rG w S (fun X=>dJ w' X B 0 toff t)
 | .err=>∃ t y,x=.iface t y
 | .stuck=>False
def lm (hf:Bool)(flex:Nat)(fs:Fds)(ver:Int)(r:RS):jq V:=
 gJ (hf&&decide ((flex:Int)<=ver)) fs.tagged (rdFds (hf&&decide ((flex:Int)<=ver)) ver fs) (rdTag (hf&&decide ((flex:Int)<=ver)) ver fs) r
theorem Aj (En:Env P g av fl D){f ntmps:Nat}{kept:Bool}{cx:Cx}{fs:Fds}{dflt T kt flex n0:Nat}{toff:Option Nat}{nm:Nm}{z:Array Value}(Ih:cx.hf=true->fl=true)(hfn:FnIs P f ntmps [6] (gRead g cx.hf kept cx fs dflt T kt flex n0 nm))
  (Ku:qE ⟨P,g,av,D⟩ kept cx fs dflt T kt toff n0 ntmps nm z (p5 g kept cx fs dflt T kt flex n0 nm)=true) (Tp:n0+17<=ntmps)
  {w:World} {B S te:Nat} {ver:Int} {srcv:Value} {r0:RS} (hB:w.heap[B]?=some (.cells (z.setIfInBounds 0 (.int .i16 ver)) te (0,0))) (J3:bD w S srcv r0) (IA:r0.bad=false) (herr:ErrAt g.gErr w) (hS:S<w.heap.size) (Lx:B≠S) (Oi:g.gErr≠B)
  (NI:lm cx.hf flex fs (gY kept ver r0).1 (gY kept ver r0).2≠.stuck) :
  Calls P f #[pt B 0,srcv,.bool false] w fun e w'=>∃ x,e=.returned x/\rD fs toff B S te z.size w (gY kept ver r0).1 (lm cx.hf flex fs (gY kept ver r0).1 (gY kept ver r0).2) x w':=by
 refine hfn.calls En.kb.mixed (by simp) ?_
 rw[yN]
 have SI:=Ku
 simp only[qE,Bool.and_eq_true,decide_eq_true_eq]at Ku
 obtain⟨⟨⟨⟨⟨Iu,IL⟩,hF⟩,Lv⟩,I4⟩,IN⟩:=Ku
 obtain⟨Mx,Jd,U6⟩:fs.ext (dl toff)<=z.size/\sA fs=true/\toff≠some 0:=by
  split at I4
  ·simp only[Bool.and_eq_true,decide_eq_true_eq,bne_iff_ne]at I4
   exact⟨I4.1.2,I4.1.1.1.2,I4.1.1.2⟩
  ·cases I4
 have WX:oz cx=max (max cx.b cx.s) (max cx.ver cx.fx)+1:=rfl
 have Ii:=ck #[pt B 0,srcv,.bool false] ntmps (by show 3<=ntmps;omega)
 have hupE:i6 (Av g cx.b):=ag (am _ _) (ag (bq _) ar)
 have Ux:i6 (fo g cx fs.tagged T kt nm (gFds g cx fs nm.s) (gTagd g cx fs nm.s)):=gC (up_gFds g fs nm.s cx) (up_gTagd g fs nm.s cx)
 unfold p5 at IL
 rw[aX,aX]at IL
 have L0:=Ux (gL (jL g kept cx dflt T flex) n0).2
 have hused':(gL (fo g cx fs.tagged T kt nm (gFds g cx fs nm.s) (gTagd g cx fs nm.s)) (gL (jL g kept cx dflt T flex) n0).2).2+1<=ntmps:=IL
 have Sn:n0<=(gL (jL g kept cx dflt T flex) n0).2:=by
  refine(show i6 (jL g kept cx dflt T flex) from ?_) n0
  unfold jL
  exact ax (ax (ax (ax (ag (am _ _) (ag (am _ _) (ag (am _ _) ar))) (cQ (ag (am _ _) ar) ar)) (ag (am _ _) (ag (am _ _) ar))) (cQ (ag (am _ _) (ag (am _ _) ar)) ar)) (ag (am _ _) ar)
 generalize hnH:(gL (jL g kept cx dflt T flex) n0).2=nH at *
 refine aY (ep ?_)
 rw[hnH]
 refine At En SI Tp hB rfl J3 IA herr hS Lx Oi Ii rfl (by rw[b9 _ _ _ (by simp)];rfl) (by rw[b9 _ _ _ (by simp)];rfl) (by rw[b9 _ _ _ (by simp)];rfl) fun R a1 w1 hh=>?_
 have If:=hh.size
 generalize WP:gY kept ver r0=vr at *
 obtain⟨cur,Ly,Iz,Ln⟩:=hh.blk
 have K7:(z.setIfInBounds 0 (.int .i16 ver)).size=z.size:=by simp
 rw[K7]at Iz
 have VC:cx.fx≠6:=by
  rcases Iu.2.2.2.2.2.2.2 with h2|h2
  ·have:=h2.2.1;omega
  ·have:=h2.2;omega
 have Kt:dO cx (oz cx) n0:=⟨⟨by omega,by omega⟩,⟨by omega,by omega⟩,⟨by omega,by omega⟩,⟨by omega,VC⟩,by omega,by omega⟩
 have M5:=hh.keeps.size
 have VD:=hh.fresh
 refine ep ?_
 rw[aO]
 refine EV En fs nm cx (cx.hf&&decide ((flex:Int)<=vr.1)) vr.1 S R B 0 vr.2 (oz cx) n0 nH T kt toff _ _ a1 w1 te IN hh.rc Kt Ih Sn (by omega) (by omega) ⟨cur,Ly,by omega⟩ (.inr ⟨hh.fds,hh.tgs⟩) ⟨fun v r' a2 w2 he HZ I1 I8 hv=>?_,fun he a2 w2 HZ JX Ic=>?_,NI⟩
 ·have Iw:=HZ.size
  obtain⟨vs,t,rfl,MG,hT2⟩:=hv
  have UF:a2.get cx.b=pt R 0:=(HZ.get _ (by omega) (.inl (by omega))).trans hh.rc.sb
  obtain⟨tE,xE,W6⟩:=hh.rc.err
  have Uf:ErrAt g.gErr w2:=ErrAt.keep ⟨tE,xE,W6⟩ I8.keeps (fun h=>by rcases h with h|h;exact hh.rc.gR h;exact hh.rc.gB h)
  obtain⟨cur2,KL,hcs2,VS⟩:=I8.blk cur te Ly
  have VZ:cur2[0]?=some (.int .i16 vr.1):=by
   rw[VS 0 (fun h=>?_)]
   ·exact Ln
   ·rcases h with h|⟨o,h1,h2⟩
    ·exact pT fs 0 Jd h rfl
    ·have h0:o=0:=by omega
     exact U6 (by rw[h1,h0])
  refine ad (aq (aN (vs:=#[pt R 0]) En.kb.cmE (by simp[aa,UF]) (En.kb.cmC w2 S R r' I1 Uf) fun e w3 hR=>?_))
  obtain⟨Il,x,SC,Ra,Um⟩:=hR
  refine⟨_,SC,ak (wpList_nil (ad (.ret ?_)))⟩
  rw[aa,ao (by omega)]
  refine⟨?_,x,?_,?_⟩
  ·simp only[aj];exact HZ.defers.trans hh.defers
  ·simp only[bj]
   rw[ao (by simp only[ab];omega)]
  ·refine⟨?_,?_⟩
   ·refine⟨Il.os.trans (I8.keeps.os.trans hh.keeps.os),Il.tape.trans (I8.keeps.tape.trans hh.keeps.tape),Il.output.trans (I8.keeps.output.trans hh.keeps.output),?_,fun q hq hx=>?_⟩
    ·have:=Il.size
     have:=I8.keeps.size
     omega
    ·have:=I8.keeps.size
     rw[Il.block q (by omega) id,I8.keeps.block q (by omega) (fun h=>by rcases h with h|h;omega;exact hx h),hh.keeps.block q hq hx]
   ·rw[show lm cx.hf flex fs vr.1 vr.2=.ok (.st vs t) r' from he]
    have QA:B<w2.heap.size:=(Array.getElem?_eq_some_iff.1 KL).1
    refine⟨Ra,Um,vs,t,cur2,rfl,by rw[Il.block B QA id];exact KL,by omega,VZ,fun X hX hS'=>?_,fun X hX hS'=>?_⟩
    ·exact RpF.frameIn (Il.mono fun _ _ h=>h.elim) fs B 0 vs (MG X (fun k hk=>Nat.lt_of_lt_of_le (hX k hk) M5) hS') fun j _=>bF (Il.block B QA id) j
    ·exact(hT2 X (fun k hk=>Nat.lt_of_lt_of_le (hX k hk) M5) hS').frame (Il.mono fun _ _ h=>h.elim) fun k _=>bF (Il.block B QA id) _
 ·obtain⟨tE,yE,hE⟩:=JX
  refine⟨HZ.defers.trans hh.defers,.iface tE yE,by simp only[bj];rw[hE],?_,?_⟩
  ·refine⟨Ic.os.trans hh.keeps.os,Ic.tape.trans hh.keeps.tape,Ic.output.trans hh.keeps.output,Nat.le_trans M5 Ic.size,fun q hq hx=>?_⟩
   rw[Ic.block q (by omega) (fun h=>by rcases h with h|h;omega;exact hx h),hh.keeps.block q hq hx]
  ·rw[show lm cx.hf flex fs vr.1 vr.2=.err from he]
   exact⟨tE,yE,rfl⟩
end
end Go.Proofs.YtpoeajgpacfpoaaGreatDoor.Kx