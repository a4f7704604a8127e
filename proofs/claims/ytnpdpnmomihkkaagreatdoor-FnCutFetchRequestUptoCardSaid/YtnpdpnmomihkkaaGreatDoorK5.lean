/- messages, part 5 -/
import Derived.Test.YtnpdpnmomihkkaaGreatDoorK4

namespace Go.Proofs.YtnpdpnmomihkkaaGreatDoor.Kx
open Go
section
variable {P:Program} {g:G} {av:PF->Bool} {fl:Bool} {D:Nat->Option (List (Nat × Value))}
theorem x7 (K0:KB P g av fl){fs:Fds}(h1:rz P g av fl D fs)(h2:mF P g av fl D fs):Cw P g av fl D fs:=by
 intro nm cx fx ver S R B O r m k0 n T kt toff K E a w te Jf IQ hc Jb hk Ka hn hb Ll ho
 simp only[yW,ac]at Jf
 obtain⟨⟨⟨ML,LA⟩,KY⟩,Qg⟩:=Jf
 have LR:R<w.heap.size:=IQ.rd.lt
 have LI:B<w.heap.size:=hb.lt
 have Jj:=hc.le
 have PW:=up_gFds g fs nm.s cx n
 have hpl':fs.plain=true \/ ∀ X,RpF w X fs B O (dfFds fs):=by
  rcases Ll with h|h
  ·exact .inl h.1
  ·exact .inr h.1
 unfold iC at hn ⊢
 rw[cz]at hn
 refine ip ?_
 rw[cn]
 refine h1 nm.s cx fx ver S R B O r m k0 n T (ft toff) _ E a w te ML LA IQ hc Jb hk Ka ?_ hb hpl' ⟨λvs r1 a1 w1 he IP K8 Ly Kg=>?_,λhe a1 w1 IP hif Jd=>?_,λhe=>?_⟩
 ·have hu:ka (if(!cx.hf)=true then[]else if fs.tagged=true then[jF cx (oY g cx (nm.n 0) (nm.n 2) (nm.n 3) (gS [bQ g.uv cx.b (nm.n 1),lY g cx (nm.n 1) (nm.n 4) T kt (gTagd g cx fs nm.s)])) cY] else[jF cx (oi g cx T kt) cY]:List GC):=
   fJ bK (fJ (bw (dG (qJ (gH (bw (bD _ _) (bw (nV (up_gTagd g fs nm.s cx)) bK)))) (dc _)) bK) (bw (dG (bD _ _) (dc _)) bK))
  exact am (hu _) hn
 ·have IX:=IP.size
  have Jk:RC g cx fx ver S R B O r1 a1 w1:=IQ.step hc IP K8 Ly.keeps (λ_ _ h=>h)
  have J2:=hb.evo Ly
  have hev1':gh R B (fs.Zn toff O) w w1:=Ly.mono λj hj=>.inl hj
  have KG:dS fx fs.tagged (rdFds fx ver fs) (rdTag fx ver fs) r=(if !fx then .ok (.st vs []) r1 else if fs.tagged then ck (rdTag fx ver fs) (bZ r1).1 vs [] (bZ r1).2 else .ok (.st vs (e9 (bZ r1).1 [] (bZ r1).2).1) (e9 (bZ r1).1 [] (bZ r1).2).2):=by
   simp only[dS,he,dV.bind]
  rw[KG]at ho
  cases J7:cx.hf with
  | false=>
   have Ku:=IQ.nf J7
   subst Ku
   simp only[Bool.not_false,aw]
   have O5:toff=none:=by
    cases toff with
    | none=>rfl
    | some o=>rw[J7]at KY;simp at KY
   subst O5
   refine cD (ho.ok _ r1 a1 w1 rfl IP K8 hev1' ⟨vs,[],rfl,Kg,λX _ _=>rfl⟩)
  | true=>
   simp only[J7,aU,ag,ak]at hn ⊢
   obtain⟨o,O5,hF,LL⟩:∃ o,toff=some o/\cO P T kt g.tTags o true 1/\mi fs o (o+1)=true:=by
    cases toff with
    | none=>rw[J7]at KY;simp at KY
    | some o=>
     simp only[ac]at KY
     exact⟨o,rfl,fldB_ok KY.1.2,KY.2⟩
   subst O5
   have Qh:¬ fs.In O (O+o):=λh=>ik fs o (o+1) O (O+o) LL h ⟨by omega,by omega⟩
   have NN:=kL fs (o+1)
   have Ts:o<fs.ext (ft (some o)):=by show o<fs.ext (o+1);omega
   have hfl':=Jb J7
   have Q8:fx=false->∀ a',Pv 6 m k0 n a a'->K a' w1:=λKu a' Jx=>by
    subst Ku
    have hT0:vi w S (λX=>gM w X B O (some o) []):=λX _ _=>by
     rcases Ll with h|h
     ·cases h.2
     ·exact h.2.at X
    refine ho.ok _ r1 a' w1 rfl Jx K8 hev1' ⟨vs,[],rfl,Kg,?_⟩
    exact gM.evoA (A:=(·<w.heap.size)) Ly LR LI IQ.SR.symm IQ.BS hb hT0 (λk hk h=>by cases hk;exact Qh h)
   cases Kb:fs.tagged with
   | false=>
    simp only[Kb,ag,ak,gL]at hn ⊢
    refine bt ?_
    rw[cn]
    have Kj:(gL (gFds g cx fs nm.s) n).2+5<=a.tmps.size:=hn
    refine q4 (x:=6) (m:=m) (k0:=k0) (fx:=fx) (Jk.sf J7) Jj aa aa λa2 IR=>?_
    have Jr:=IR.size
    have J6:Pv 6 m k0 n a a2:=IP.trans (IR.mono (ae _) PW)
    cases Ku:fx with
    | false=>exact .skip (cD (Q8 Ku a2 J6))
    | true=>
     subst Ku
     simp only[aw]
     simp only[aU,ag,ak,Kb]at ho
     have JJ:RC g cx true ver S R B O r1 a2 w1:=Jk.step hc IR K8 (br.refl (λ_=>False) w1) (λ_ _ h=>h.elim)
     obtain⟨cur,Lk,KS⟩:=J2
     rw[<- cn (N:=λ_ _=>True)]
     have hoext':o<fs.ext (ft (some o)):=Ts
     refine vW (m:=m) (k0:=k0) (cur:=cur) (te:=te) K0 hfl' JJ hc hF Lk aa aa aa λa3 w3 IW JQ NO My=>?_
     refine cD (ho.ok _ _ a3 w3 rfl (J6.trans (IW.mono (ae _) aa)) JQ (hev1'.trans (NO.mono λj hj=>.inr ⟨o,rfl,hj⟩)) ⟨vs,_,rfl,?_,λX hX hS=>My X (λk hk=>az (hX k hk) Ly.keeps.size) hS⟩)
     exact RpF.evoA (A:=(·<w.heap.size)) NO LR LI IQ.SR.symm IQ.BS ⟨cur,Lk,KS⟩ Kg (λj hj h=>by rw[h]at hj;exact Qh hj)
   | true=>
    simp only[Kb,aw,gL]at hn ⊢
    refine bt ?_
    rw[cn]
    simp only[J7,Kb,Bool.and_self,aU,bj,ac,ai]at Qg
    obtain⟨Jo,Qg⟩:=Qg
    generalize Kq:(gS [bQ g.uv cx.b (nm.n 1),lY g cx (nm.n 1) (nm.n 4) T kt (gTagd g cx fs nm.s)]:GC)=body at hn ⊢
    have Rj:Up body:=by
     rw[<- Kq]
     exact gH (bw (bD _ _) (bw (nV (up_gTagd g fs nm.s cx)) bK))
    have Kj:(body ((gL (gFds g cx fs nm.s) n).2+1+5)).2<=a.tmps.size:=hn
    have Y0:=Rj ((gL (gFds g cx fs nm.s) n).2+1+5)
    refine q4 (x:=6) (m:=m) (k0:=k0) (fx:=fx) (Jk.sf J7) Jj aa aa λa2 IR=>?_
    have Jr:=IR.size
    have J6:Pv 6 m k0 n a a2:=IP.trans (IR.mono (ae _) PW)
    cases Ku:fx with
    | false=>exact .skip (cD (Q8 Ku a2 J6))
    | true=>
     subst Ku
     simp only[aw]
     simp only[aU,ag,ak,Kb,aw]at ho
     have JJ:RC g cx true ver S R B O r1 a2 w1:=Jk.step hc IR K8 (br.refl (λ_=>False) w1) (λ_ _ h=>h.elim)
     have Tx:mo w B O (some o):=by
      rcases Ll with h|h
      ·rw[lB fs h.1]at Kb;cases Kb
      ·exact h.2
     have hT1:vi w S (λX=>gM w1 X B O (some o) []):=gM.evoA (A:=(·<w.heap.size)) Ly LR LI IQ.SR.symm IQ.BS hb (λX _ _=>Tx.at X) (λk hk h=>by cases hk;exact Qh h)
     have M1:w1.cell? ⟨B,O+o,none⟩=some (.map none):=by
      obtain⟨cur,Lk,_⟩:=hb
      rw[Ly.cell Lk Qh];exact Tx
     refine A3 (m:=m) (k0:=k0) (i:=nm.n 0) K0 hfl' JJ hc ⟨Jo.1,by omega⟩ aa aa
      (D9 g S R B O o fs ver w (ck (rdTag true ver fs) (bZ r1).1 vs [] (bZ r1).2)) (λw2 Jt IV=>?_) (λc a3 w3 IW hI=>?_) (λa3 w3 IW hI=>?_)
     ·have J1:gh R B (λ_=>False) w1 w2:=gh.of_keeps IV (λ_ _ h=>h) IQ.BR
      refine⟨vs,[],(bZ r1).2,.map none,rfl,Jt,(Ly.mono λj hj=>.inl hj).trans (J1.mono λj hj=>hj.elim),?_,.inl ⟨rfl,rfl⟩,?_,?_⟩
      ·obtain⟨cur,Lk,_⟩:=J2
       rw[J1.cell Lk id];exact M1
      ·refine(RpF.evoA (A:=(·<w.heap.size)) J1 LR LI IQ.SR.symm IQ.BS J2 Kg (λ_ _ h=>h)).mono λk hk=>?_
       rcases hk with hk|hk
       ·exact hk
       ·cases hk
      ·exact gM.evoA (A:=(·<w.heap.size)) J1 LR LI IQ.SR.symm IQ.BS J2 hT1 (λ_ _ h=>h)
     ·have JI:=IW.size
      rw[<- Kq]at Kj ⊢
      exact Au (r0:=r) (_mm:=0) K0 h2 Qg LA hF LL Jo (IQ.step hc J6 IQ.rd (br.refl (λ_=>False) w) (λ_ _ h=>h.elim)) hc J7 hfl' aa aa aa hb IW hI ho.go
       (λhe a' w' Jx hif Ko=>ho.err he a' w' (J6.trans (Jx.mono (ae _) aa)) hif Ko)
     ·obtain⟨vs',t,r',mm,KQ,JQ,NO,X4,LF,XV,XR⟩:=hI
      have Qd:Pv 6 m k0 n a a3:=J6.trans (IW.mono Jo.1 aa)
      refine cD (ho.ok (.st vs' t) r' a3 w3 (by rw[KQ];rfl) Qd JQ (NO.mono λj hj=>?_) ⟨vs',t,rfl,XV.mono λk hk=>.inl hk,XR⟩)
      rcases hj with hj|hj
      ·exact .inl hj
      ·exact .inr ⟨o,rfl,hj⟩
 ·exact ho.err (by simp only[dS,he,dV.bind]) a1 w1 IP hif Jd
 ·exact ho.go (by simp only[dS,he,dV.bind])
end
theorem Pv.weak {x m k0 n:Nat}{a b:Act}(h:Pv x k0 k0 n a b)(hx:m<=x/\x<k0):Pv 6 m k0 n a b:=
 ⟨h.size,h.defers,λs hs hh=>h.get s aa aa⟩
theorem RC.withS {g:G}{cx:Cx}{fx:Bool}{ver:Int}{S R B O p o s':Nat}{r:RS}{a:Act}{w:World}(h:RC g cx fx ver S R B O r a w)(hs:a.get s'=pt p o)(P6:p≠R)(O8:p≠S)(QA:g.gErr≠p):RC g { cx with s:=s' } fx ver S R p o r a w:=
 ⟨h.rd,h.sb,hs,h.sv,h.sf,h.nf,h.su,h.err,h.SR,P6,O8,h.gR,QA,h.Slt⟩
section
variable {P:Program} {g:G} {av:PF->Bool} {fl:Bool} {D:Nat->Option (List (Nat × Value))}
def Cy (P:Program)(g:G)(av:PF->Bool)(fl:Bool)(D:Nat->Option (List (Nat × Value)))(e:Ty):Prop:=
 ∀ (nm:Nm) (cx:Cx) (fx:Bool) (ver:Int) (S R B O:Nat) (r:RS) (m k0 n esz:Nat) (z:Array Value) (y i F E' p cnt c j:Nat) (cur:Array Value) (K E:Act->World->Prop) (a:Act) (w:World) (te:Nat),
  okEl ⟨P,g,av,D⟩ cx.hf m k0 esz z e nm=true->oF P F E' esz z->RC g cx fx ver S R B O r a w->fX cx m k0->(cx.hf=true->fl=true)->k0<=n->k0<=a.tmps.size->(gL (gEl g cx e y i F nm) n).2<=a.tmps.size ->
  a.get y=.slice (some ⟨p,0,none⟩) cnt c->a.get i=.int .i32 j->j<cnt->y<m->i<m->y≠6->i≠6->w.heap[p]?=some (.cells cur te (0,0))->j*esz+esz<=cur.size->vh w p (j*esz) z->p≠R->p≠S->g.gErr≠p ->
  z1 g S R p (λt=>j*esz<=t/\t<j*esz+esz) m k0 n a w (dy fx ver e (du 0 e) r) (λv w'=>vi w S λX=>Rp w' X e p (j*esz) v) K E ->
  LW P (gEl g cx e y i F nm) n (Rt K E) a w
theorem sX (K0:KB P g av fl){e:Ty}(hl:e.leaf=true):Cy P g av fl D e:=by
 intro nm cx fx ver S R B O r m k0 n esz z y i F E' p cnt c j cur K E a w te Jf Jq IQ hc Jb hk Ka hn hy hi hj hym Ou Q3 hi6 hp Jc hz P6 O8 QA ho
 have LR:R<w.heap.size:=IQ.rd.lt
 have Wp:p<w.heap.size:=(aj.1 hp).1
 have Jj:=hc.le
 obtain⟨hg,Kh,hE,LZ,NB⟩:gEl g cx e y i F nm=jx g cx e (nm.n 0) (nm.l.drop 2)++[lZ (mr g e) y i (nm.n 0) F (nm.n 1)]/\jU ⟨P,g,av,D⟩ cx.hf m k0 e (nm.n 0) (nm.l.drop 2)=true/\(∀ w,(sizeOf (nm.n 1)).run P w=.ok esz w)/\e.sz=esz /\
   (mr g e=none \/ (mr g e=some g.tUuid/\cv P g.tUuid true e.sz)):=by
  cases e with
  | list=>cases hl
  | struct=>cases hl
  | prim q=>
   simp only[okEl,ac,ar,aH,bne_iff_ne]at Jf
   obtain⟨⟨⟨h1,h2⟩,h3⟩,h4⟩:=Jf
   refine⟨rfl,h1,λw=>by rw[<- h3];exact(varB_ok h2).size w,h3,?_⟩
   by_cases hq:q=.uuid
   ·subst hq
    rcases h4 with h|h
    ·exact absurd rfl h
    ·exact .inr ⟨rfl,varB_ok h⟩
   ·exact .inl (by cases q<;>first|rfl|exact absurd rfl hq)
  | str nul=>
   simp only[okEl,ac,ar]at Jf
   obtain⟨⟨h1,h2⟩,h3⟩:=Jf
   exact⟨rfl,h1,λw=>by rw[<- h3];exact(varB_ok h2).size w,h3,.inl rfl⟩
  | bytes nul=>
   simp only[okEl,ac,ar]at Jf
   obtain⟨⟨h1,h2⟩,h3⟩:=Jf
   exact⟨rfl,h1,λw=>by rw[<- h3];exact(varB_ok h2).size w,h3,.inl rfl⟩
 simp only[jU,ac]at Kh
 obtain⟨⟨h1,h2⟩,h3⟩:=Kh
 have MD:m<=nm.n 0/\nm.n 0<k0:=by simp only[lR,ac,ai]at h2;exact h2.1
 rw[hg]at hn ⊢
 rw[cz]at hn
 simp only[gL,lZ,bL]at hn
 have KM:=jq g cx e (nm.n 0) (nm.l.drop 2) n
 refine DF K0 (ver:=ver) h1 IQ hc hk h2 Ka (tj h3) aa λa1 w1 hpst=>?_
 obtain⟨cs,IP,hval,K8,Jd,Mi⟩:=hpst
 have IX:=IP.size
 have O9:=Mi (λ_=>False) (λ_ h=>h.elim) id
 have IT:cs.length=esz:=O9.len.trans LZ
 have MC:w1.heap[p]?=some (.cells cur te (0,0)):=by rw[Jd.block p Wp P6];exact hp
 refine bt (vX (x:=6) (m:=m) (k0:=k0) (p:=p) (q:=0) (cs:=cs) (cur:=cur) (te:=te) (sz:=esz) ((IP.get y Q3 (.inl hym)).trans hy) ((IP.get i hi6 (.inl Ou)).trans hi) hj Jq.und Jq.size hE ?_ IT O9.one MC aa Jj aa aa aa aa aa λa2 IR=>cD ?_)
 ·rcases NB with hu|⟨hu,hU⟩
  ·rw[hu]at hval ⊢;exact hval
  ·rw[hu]at hval ⊢;exact⟨by rw[O9.len];exact hU,hval⟩
 ·rw[aN]
  have K7:gh R p (λt=>j*esz<=t/\t<j*esz+esz) w1 (w1.setRow p (bV cur (j*esz) cs)):=gh.store MC (by rw[IT];omega) (λt ha hb=>⟨ha,by rw[IT]at hb;omega⟩)
  refine ho.ok _ _ a2 _ (qW fx ver e _ r hl) (IP.trans (IR.mono (ae _) KM)) (K8.keep (br.setRow (λk=>k=p) _ _ _ rfl) (λh=>O8 h.symm) (λh=>P6 h.symm))
   ((gh.of_keeps Jd (λ_ _ h=>h) P6).trans K7) λX hX hS=>?_
  refine xM hl (λt u hu=>?_) (((Mi (λk=>X k \/ k=p) (λk hk=>by rcases hk with hk|rfl<;>first|exact hX k hk|exact Wp) (λhk=>by rcases hk with hk|hk<;>first|exact hS hk|exact O8 hk.symm)).keep
   (br.setRow (λk=>X k \/ k=p) _ _ _ (.inr rfl))).mono λk _ hk=>.inl hk)
  have K6:t<cs.length:=(ah.1 hu).1
  rw[cell_setRow_same _ _ _ _ _ _ _ MC,dn aa t K6]
  exact hu
theorem nx {w':World}{p O te:Nat}{cur z:Array Value}{wr:List (Nat × Value)}(hz:∀ j,j<z.size->cur[O+j]?=z[j]?)(hs:O+z.size<=cur.size)(JO:∀ q∈wr,q.1<z.size)(h:w'.heap[p]?=some (.cells (applyWr cur O wr) te (0,0))):vh w' p O (applyWr z 0 wr):=by
 intro j v hj
 have hjz:j<z.size:=by
  have:=(aj.1 hj).1
  rwa [eE]at this
 rw[<- qu O wr cur z JO hs hz j hjz]at hj
 simpa[World.cell?,h]using hj
theorem zm (En:Env P g av fl D){toff:Option Nat}{fs:Fds}(JL:Cw P g av fl D fs):Cy P g av fl D (.struct none toff fs):=by
 intro nm cx fx ver S R B O r m k0 n esz z y i F E' p cnt c j cur K E a w te Jf Jq IQ hc Jb hk Ka hn hy hi hj hym Ou Q3 hi6 hp Jc hz P6 O8 QA ho
 have LR:R<w.heap.size:=IQ.rd.lt
 have Wp:p<w.heap.size:=(aj.1 hp).1
 have Jj:=hc.le
 have Q1:=hc.six
 simp only[okEl,ac,ai]at Jf
 obtain⟨⟨Jo,J3⟩,Nq⟩:=Jf
 split at J3
 ·rename_i wr JO
  simp only[ac,ai,aT]at J3
  obtain⟨⟨⟨Og,SF⟩,NW⟩,NN⟩:=J3
  obtain⟨NU,Qz⟩:=En.df _ _ JO
  obtain⟨_,z',_,_,hzc,_,L4,_⟩:=Jq.info
  have hn':(gL (iC g { cx with s:=nm.n 1 } fs.tagged (nm.n 3) (nm.n 4) (nm.sub 0) (gFds g { cx with s:=nm.n 1 } fs (nm.sub 0).s) (gTagd g { cx with s:=nm.n 1 } fs (nm.sub 0).s)) (n+3+2+1)).2<=a.tmps.size:=by
   simp only[gEl]at hn
   rw[cz]at hn
   exact hn
  have KM:=j4 (g:=g) (cx:={ cx with s:=nm.n 1 }) (tagged:=fs.tagged) (T:=nm.n 3) (kt:=nm.n 4) (m:=nm.sub 0) (up_gFds g fs (nm.sub 0).s { cx with s:=nm.n 1 }) (up_gTagd g fs (nm.sub 0).s { cx with s:=nm.n 1 }) (n+3+2+1)
  show LW P (fU y i (nm.n 0) F::eO (nm.n 0) (nm.n 2)::dg (nm.n 0) (nm.n 1)::iC g { cx with s:=nm.n 1 } fs.tagged (nm.n 3) (nm.n 4) (nm.sub 0) (gFds g { cx with s:=nm.n 1 } fs (nm.sub 0).s) (gTagd g { cx with s:=nm.n 1 } fs (nm.sub 0).s)) n (Rt K E) a w
  refine bt (yG (x:=6) (m:=m) (k0:=k0) (p:=p) (q:=0) hy hi hj Jq.und Jq.size (.inr ⟨Jo.1,Jo.2.2.1⟩) Jj hk aa aa aa aa λa1 IP IY=>?_)
  rw[aN]at IY
  have IX:=IP.size
  refine bt (lS (x:=6) (m:=m) (k0:=k0) (B:=p) (O:=j*esz) (cur:=cur) (te:=te) NU Qz IY hp (λq hq=>by have:=Og q hq;omega) Jj (by simp only[fU,bL];omega) (by simp only[fU,bL];omega) λa2 w2 IR hsame2 IV Mu=>?_)
  simp only[fU,bL]at IR hsame2
  have Jr:=IR.size
  have Ja:a2.get (nm.n 0)=pt p (j*esz):=(hsame2 _ aa).trans IY
  refine bt (gJ (x:=6) (m:=m) (k0:=k0) (.inr ⟨Jo.2.1,Jo.2.2.2.1⟩) Jj (by simp only[fU,eO,bL];omega) (by simp only[fU,eO,bL];omega) aa λa3 IW Jw=>?_)
  simp only[fU,eO,dg,bL]at IW ⊢
  have JI:=IW.size
  have Kc:Pv 6 m k0 n a a3:=(IP.trans (IR.mono (ae _) aa)).trans (IW.mono (ae _) aa)
  have VB:∀ q∈wr,q.1<z.size:=λq hq=>by rw[L4];exact Og q hq
  have Sb:∀ t,t<z.size->cur[j*esz+t]?=z[t]?:=λt ht=>by
   obtain⟨u,hu⟩:∃ u,z[t]?=some u:=⟨z[t],by simp[ht]⟩
   have:=hz t u hu
   rw[hu]
   simpa[World.cell?,hp]using this
  have U8:=nx Sb (by rw[L4];omega) VB Mu
  have JH:qx w2 p (j*esz+fs.ext (ft toff)) te:=⟨_,Mu,by rw[eE];omega⟩
  have Jt:ep w2 g.tR S R r:=IQ.rd.keep IV (λh=>O8 h.symm) (λh=>P6 h.symm)
  obtain⟨t',x',KU⟩:=IQ.err
  have Lz:ErrAt g.gErr w2:=ErrAt.keep ⟨t',x',KU⟩ IV QA
  have MH:RC g { cx with s:=nm.n 1 } fx ver S R p (j*esz) r a3 w2:=
   ⟨Jt,(Kc.get _ hc.b.2 (.inl hc.b.1)).trans IQ.sb,Jw.trans Ja,(Kc.get _ hc.ver.2 (.inl hc.ver.1)).trans IQ.sv,λhf=>(Kc.get _ hc.fx.2 (.inl hc.fx.1)).trans (IQ.sf hf),IQ.nf,(Kc.get 2 aa (.inl aa)).trans IQ.su,Lz,IQ.SR,P6,O8,IQ.gR,QA,
    az IQ.Slt IV.size⟩
  have P7:nm.n 0<max (nm.n 0) (nm.n 1)+1/\nm.n 1<max (nm.n 0) (nm.n 1)+1/\max (nm.n 0) (nm.n 1)+1<=k0:=by omega
  have MV:fX { cx with s:=nm.n 1 } (max (nm.n 0) (nm.n 1)+1) k0:=
   ⟨⟨by have:=hc.b;simp only;omega,hc.b.2⟩,⟨P7.2.1,by simp only;omega⟩,⟨by have:=hc.ver;simp only;omega,hc.ver.2⟩,⟨by have:=hc.fx;simp only;omega,hc.fx.2⟩,by omega,P7.2.2⟩
  have J1:gh R p (λt=>j*esz<=t/\t<j*esz+esz) w w2:=by
   refine⟨IV.mono λ_ _ h=>.inr h,λcs te' Js=>?_⟩
   rw[hp]at Js
   obtain⟨rfl,rfl,_⟩:=Obj.cells.inj (au Js)
   exact⟨_,Mu,eE _ _ _,λt ht=>jO _ _ _ _ λq hq he=>ht (by have:=Og q hq;omega)⟩
  refine JL (nm.sub 0) { cx with s:=nm.n 1 } fx ver S R p (j*esz) r (max (nm.n 0) (nm.n 1)+1) k0 (n+3+2+1) (nm.n 3) (nm.n 4) toff K E a3 w2 te Nq MH MV Jb aa aa aa JH ?_ ⟨λv r' a4 w4 he Jp JP hev4 hv=>?_,λhe a4 w4 Jp hif Jm=>?_,λhe=>?_⟩
  ·refine .inr ⟨λX=>zFds_ok U8 X fs 0 SF,?_⟩
   cases toff with
   | none=>trivial
   | some o=>exact U8.one NW
  ·obtain⟨vs,t,rfl,hF,hT⟩:=hv
   refine ho.ok _ r' a4 w4 he (Kc.trans (Jp.mono aa aa)) JP (J1.trans (hev4.mono λt ht=>by have:=zB ht;omega)) λX hX hS=>⟨vs,t,rfl,im hF IV.size X hX hS,im hT IV.size X hX hS⟩
  ·exact ho.err he a4 w4 (Kc.trans (Jp.mono aa aa)) hif (J1.keeps.trans Jm)
  ·exact ho.go he
 ·cases J3
end
section
variable {P:Program} {g:G} {av:PF->Bool} {fl:Bool} {D:Nat->Option (List (Nat × Value))}
theorem pP (f:RS->dV V)(k:Nat)(r:RS):gx f (k+1) r=(f r).bind λv r=>(gx f k r).bind λvs r=>.ok (v::vs) r:=rfl
def mG (f:RS->dV V)(L:Nat)(r0:RS)(vs:List V)(r:RS):Prop:=gx f L r0=(gx f (L-vs.length) r).bind λus r=>.ok (vs++us) r
theorem mG.start (f:RS->dV V)(L:Nat)(r0:RS):mG f L r0 [] r0:=by
 simp only[mG,List.length_nil,Nat.sub_zero,aF]
 cases gx f L r0<;>rfl
theorem mG.step {f:RS->dV V}{L:Nat}{r0 r r':RS}{vs:List V}{v:V}(h:mG f L r0 vs r)(hl:vs.length<L)(hf:f r=.ok v r'):mG f L r0 (vs++[v]) r':=by
 unfold mG at h ⊢
 rw[h]
 obtain⟨k,hk⟩:∃ k,L-vs.length=k+1:=⟨L-vs.length-1,by omega⟩
 have IV:L-(vs++[v]).length=k:=by simp;omega
 rw[hk,IV,pP,hf]
 simp only[dV.bind]
 cases gx f k r'<;>simp
theorem mG.fail {f:RS->dV V}{L:Nat}{r0 r:RS}{vs:List V}(h:mG f L r0 vs r)(hl:vs.length<L):(f r=.err->gx f L r0=.err)/\(f r=.stuck->gx f L r0=.stuck):=by
 unfold mG at h
 obtain⟨k,hk⟩:∃ k,L-vs.length=k+1:=⟨L-vs.length-1,by omega⟩
 rw[h,hk,pP]
 exact⟨λhf=>by rw[hf];rfl,λhf=>by rw[hf];rfl⟩
theorem mG.done {f:RS->dV V}{L:Nat}{r0 r:RS}{vs:List V}(h:mG f L r0 vs r)(hl:vs.length=L):gx f L r0=.ok vs r:=by
 unfold mG at h
 rw[h,hl,Nat.sub_self]
 simp[gx,dV.bind]
theorem ri {cx:Cx}{fx:Bool}{ver:Int}{S R B O:Nat}{r r':RS}{m k0 n n0 T k F off v y:Nat}{sl:Value}{K E:Act->World->Prop}{a0 a1:Act}{w0 w1:World}{te:Nat}(hF:cO P T k F off false 1)(IQ:RC g cx fx ver S R B O r a0 w0)(hc:fX cx m k0)(hv:m<=v/\v<k0)(hk:k0<=n0)(Mt:n0<=n)(hn:n+1+4<=a0.tmps.size)
  (hp:Pv 6 m k0 n0 a0 a1) (hy:a1.get y=sl) (_hyn:y<k0) (Jo:sl.oneCell'=true/\sl.cells=#[sl]) (K7:gh R B (λj=>O+off<=j/\j<O+off+1) w0 w1) (LV:ep w1 g.tR S R r') (hb:qx w0 B (O+off+1) te)
  (h:∀ a' w',Pv 6 m k0 n0 a0 a'->ep w' g.tR S R r'->gh R B (λj=>O+off<=j/\j<O+off+1) w0 w'->br (·=B) w1 w'->w'.cell? ⟨B,O+off,none⟩=some sl->K a' w') :
  LW P [dg y v,jX none cx.s v T k F] n (Rt K E) a1 w1:=by
 have hs:=hp.size
 have Jj:=hc.le
 obtain⟨cur,Lk,KS⟩:=hb.evo K7
 refine bt (gJ (x:=6) (m:=m) (k0:=k0) (.inr hv) Jj aa aa aa λa2 IR Ja=>?_)
 have Jr:=IR.size
 have O6:a2.get cx.s=pt B O:=((hp.trans (IR.mono (ae _) Mt)).get _ hc.s.2 (.inl hc.s.1)).trans IQ.ss
 have P7:(dg y v n).2=n+1:=rfl
 rw[P7]
 refine bt (xH (x:=6) (m:=m) (k0:=k0) (cs:=[sl]) (cur:=cur) (te:=te) O6 hF ⟨sl,by rw[Ja,hy],by rw[Jo.2]⟩ rfl (λu hu=>by simp at hu;rw[hu];exact Jo.1) Lk KS Jj aa aa aa λa3 IW=>cD ?_)
 have Xt:gh R B (λj=>O+off<=j/\j<O+off+1) w1 (w1.setRow B (bV cur (O+off) [sl])):=gh.store Lk (by simpa using KS) (λj ha hb=>⟨ha,by simpa using hb⟩)
 refine h a3 _ ((hp.trans (IR.mono (ae _) Mt)).trans (IW.mono (ae _) aa)) (LV.keep (br.setRow (λk=>k=B) _ _ _ rfl) (λh=>IQ.BS h.symm) (λh=>IQ.BR h.symm)) (K7.trans Xt) (br.setRow _ _ _ _ rfl) ?_
 rw[cell_setRow_same _ _ _ _ _ _ _ Lk]
 have:=dn (cur:=cur) (o:=O+off) (vs:=[sl]) (by simpa using KS) 0 ab
 simpa using this
def Cz (g:G)(S R p esz:Nat)(e:Ty)(f:RS->dV V)(L:Nat)(r0:RS)(c:Nat)(z:Array Value)(te:Nat)(wA:World)(j:Nat)(w:World):Prop:=
 ∃ (vs:List V) (r:RS),vs.length=j/\mG f L r0 vs r/\ep w g.tR S R r/\gh R p (λt=>t<j*esz) wA w/\(∃ cur,w.heap[p]?=some (.cells cur te (0,0))/\cur.size=c*esz/\∀ q t,j<=q->q<L->t<esz->cur[q*esz+t]?=z[t]?) /\
  ∀ i v,vs[i]?=some v->iI (·<wA.heap.size) S λX=>Rp w X e p (i*esz) v
theorem zb {e:Ty}{esz:Nat}(LP:Cy P g av fl D e)(YY:e.sz<=esz){nm:Nm}{cx:Cx}{fx:Bool}{ver:Int}{S R B O:Nat}{r0 r1:RS}{m k0 n:Nat}{z:Array Value}{y i F E' p c L j:Nat}{E:Act->World->Prop}{a a1:Act}{wA w1:World}{te:Nat}
  (Jf:okEl ⟨P,g,av,D⟩ cx.hf (i+1) k0 esz z e nm=true) (Jq:oF P F E' esz z) (IQ:RC g cx fx ver S R B O r0 a wA) (hc:fX cx m k0) (Jb:cx.hf=true->fl=true) (hk:k0<=n) (Ka:k0<=a.tmps.size) (hn:(gL (gEl g cx e y i F nm) (n+5)).2<=a.tmps.size) (T4:m<=i) (YV:i<k0) (hyi:y<i) (Q3:y≠6)
  (IP:Pv 6 i k0 n a a1) (hy:a.get y=.slice (some ⟨p,0,none⟩) L c) (hi:a1.get i=.int .i32 j) (hj:j<L) (Zq:L<=c) (P6:p≠R) (O8:p≠S) (_hpB:p≠B) (QA:g.gErr≠p) (hpA:p<wA.heap.size)
  (hI:Cz g S R p esz e (dy fx ver e (du 0 e)) L r1 c z te wA j w1)
  (hE:gx (dy fx ver e (du 0 e)) L r1=.err->∀ a' w',Pv 6 m k0 n a a'->(∃ t y,a'.get 6=.iface t y)->br (λk=>k=R \/ k=p) wA w'->E a' w') (MP:gx (dy fx ver e (du 0 e)) L r1≠.stuck) :
  cf P (gS (gEl g cx e y i F nm) (n+5)).1 (Rt (λa2 w2=>Pv 6 (i+1) k0 (n+5) a1 a2/\Cz g S R p esz e (dy fx ver e (du 0 e)) L r1 c z te wA (j+1) w2) E) a1 w1:=by
 obtain⟨vs,r,Rc,No,LV,K7,⟨cur,Lk,Js,Sb⟩,Kg⟩:=hI
 have IX:=IP.size
 have Q1:=hc.six
 obtain⟨_,z',_,_,hzc,_,L4,JK,_⟩:=Jq.info
 have hRA:R<wA.heap.size:=IQ.rd.lt
 obtain⟨t',x',KU⟩:=IQ.err
 have Pq:ErrAt g.gErr w1:=ErrAt.keep ⟨t',x',KU⟩ K7.keeps (λh=>by rcases h with h|h;exact IQ.gR h;exact QA h)
 have Jk:RC g cx fx ver S R B O r a1 w1:=
  ⟨LV,(IP.get _ hc.b.2 (.inl (by have:=hc.b;omega))).trans IQ.sb,(IP.get _ hc.s.2 (.inl (by have:=hc.s;omega))).trans IQ.ss,(IP.get _ hc.ver.2 (.inl (by have:=hc.ver;omega))).trans IQ.sv,λhf=>(IP.get _ hc.fx.2 (.inl (by have:=hc.fx;omega))).trans (IQ.sf hf),IQ.nf,
   (IP.get 2 aa (.inl aa)).trans IQ.su,Pq,IQ.SR,IQ.BR,IQ.BS,IQ.gR,IQ.gB,az IQ.Slt K7.keeps.size⟩
 have PH:fX cx (i+1) k0:=nC hc aa aa
 have PB:j*esz+esz<=c*esz:=by
  have:(j+1)*esz<=c*esz:=bn _ aa
  rw[bk,Nat.one_mul]at this
  exact this
 have hZ:vh w1 p (j*esz) z:=λt v ht=>by
  have NC:t<esz:=by rw[<- L4];exact(aj.1 ht).1
  have:=Sb j t (ae _) hj NC
  rw[ht]at this
  simpa[World.cell?,Lk]using this
 have hbk:qx w1 p (j*esz) te:=⟨cur,Lk,by omega⟩
 refine cC (LP nm cx fx ver S R B O r (i+1) k0 (n+5) esz z y i F E' p L c j cur _ E a1 w1 te Jf Jq Jk PH Jb aa aa aa ((IP.get y Q3 (.inl hyi)).trans hy) hi hj aa aa Q3 aa Lk aa hZ P6 O8 QA
  ⟨λv r' a2 w2 he IR Jt J1 hv=>⟨IR,?_⟩,λhe a2 w2 IR hif IV=>?_,λhe=>?_⟩)
 ·refine⟨vs++[v],r',by simp[Rc],No.step aa he,Jt,(K7.mono λt ht=>?_).trans (J1.mono λt ht=>?_),?_,λq u hq=>?_⟩
  ·rw[bk,Nat.one_mul];omega
  ·rw[bk,Nat.one_mul];omega
  ·obtain⟨cs2,h1,h2,h3⟩:=J1.blk cur te Lk
   refine⟨cs2,h1,by omega,λq t hq YC ht=>?_⟩
   rw[h3 _ (λhh=>by
    have:(j+1)*esz<=q*esz:=bn _ hq
    rw[bk,Nat.one_mul]at this
    omega)]
   exact Sb q t aa YC ht
  ·rcases bm q vs.length with IU|JN
   ·rw[aR IU]at hq
    refine Rp.evoA J1 hRA hpA IQ.SR.symm O8 hbk (Kg q u hq) (λt Vb Va hh=>?_)
    have:(q+1)*esz<=j*esz:=bn _ aa
    rw[bk,Nat.one_mul]at this
    omega
   ·have P4:q=vs.length:=by
     have:=(ah.1 hq).1
     simp at this
     omega
    subst P4
    rw[aO (ae _),Nat.sub_self]at hq
    obtain rfl:v=u:=by simpa using hq
    rw[Rc]
    exact im hv K7.keeps.size
 ·exact hE ((No.fail aa).1 he) a2 w2 ((IP.mono T4 (ae _)).trans (IR.mono aa aa)) hif (K7.keeps.trans IV)
 ·exact MP ((No.fail aa).2 he)
end
section
variable {P:Program} {g:G} {av:PF->Bool} {fl:Bool} {D:Nat->Option (List (Nat × Value))}
theorem CN (K0:KB P g av fl){nul:Option Nat}{esz:Nat}{e:Ty}(LP:Cy P g av fl D e)(YY:∀ hf m k0 z nm,okEl ⟨P,g,av,D⟩ hf m k0 esz z e nm=true->e.sz<=esz):th P g av fl D (.list nul esz e):=by
 intro nm cx fx ver S R B O r m k0 n T off old K E a w te Jf IQ hc Jb hk Ka hn hb Kz ho
 simp only[s6,ac,ai,ar]at Jf
 obtain⟨⟨⟨Jo,hT⟩,hF⟩,Jq⟩:=Jf
 subst hT
 replace hF:=fldB_ok hF
 split at Jq
 ·rename_i E' sz z hrowE
  simp only[ac,ar]at Jq
  obtain⟨⟨rfl,Ns⟩,M9⟩:=Jq
  have RJ:cJ g.ok=true:=by simp only[sL,ac]at M9;exact M9.1.2
  have Jq:=pL hrowE
  have LR:R<w.heap.size:=IQ.rd.lt
  have LI:B<w.heap.size:=hb.lt
  have Jj:=hc.le
  have Q1:=hc.six
  have MD:=hc.ver
  have K1:old.isNul=true:=by
   cases h:old.isNul with
   | true=>rfl
   | false=>exact absurd (by simp only[dy,h];rfl) ho.go
  have IS:w.cell? ⟨B,O+off,none⟩=some (.slice none 0 0):=by
   rcases Kz with⟨h,_⟩|⟨xs,p,q,c,_,_,_,_,_,h,_⟩
   ·exact h
   ·rw[h]at K1;cases K1
  have KG:dy fx ver (.list nul sz e) old r=(if(cW fx r).2.bad then .err else if !l5 (cW fx r).1 sz then .stuck else if(cW fx r).1<=0 then .ok (if nul.isSome&&(decide ((cW fx r).1=0) || !gQ nul ver)then .l []else .nul) (cW fx r).2
    else(gx (dy fx ver e (du 0 e)) (cW fx r).1.toNat (cW fx r).2).bind λvs r=>.ok (.l vs) r):=by
   simp only[dy,K1];rfl
  rw[KG]at ho
  have Su:=Dj fx r
  generalize hv:nm.n 0=v at *
  generalize hy:nm.n 4=y at *
  generalize hl:nm.n 5=l at *
  generalize hi:nm.n 6=i at *
  generalize hFF:nm.n 3=F at *
  have hn':(gL (gEl g cx e y i F (nm.sub 0)) ((gL (kW g cx nul y l F) ((if cx.hf then jF cx (bQ g.clen cx.b l) (bQ g.len cx.b l)else bQ g.len cx.b l:GC) (n+5)).2).2+15)).2+5<=a.tmps.size:=by
   have h:=hn
   simp only[nM]at h
   rw[cz,cz,hv,hy,hl,hi,hFF]at h
   exact h
  have VN:Up (if cx.hf then jF cx (bQ g.clen cx.b l) (bQ g.len cx.b l)else bQ g.len cx.b l:GC):=iw (dG (bD _ _) (bD _ _)) (bD _ _)
  have hupL':=VN (n+5)
  have hupN':=tQ g cx nul y l F ((if cx.hf then jF cx (bQ g.clen cx.b l) (bQ g.len cx.b l)else bQ g.len cx.b l:GC) (n+5)).2
  have hupE':=up_gEl g e (nm.sub 0) cx y i F ((gL (kW g cx nul y l F) ((if cx.hf then jF cx (bQ g.clen cx.b l) (bQ g.len cx.b l)else bQ g.len cx.b l:GC) (n+5)).2).2+15)
  have TX:LW P (dO cx.s v (nm.n 1) (nm.n 2) F::dg v y::co l (.int .i32 0)::(if cx.hf then jF cx (bQ g.clen cx.b l) (bQ g.len cx.b l)else bQ g.len cx.b l:GC)::(kW g cx nul y l F ++
    [qi g cx,BY y F,rn g y l F,wU g i l (nm.n 7) (nm.n 8) (gS (gEl g cx e y i F (nm.sub 0))),dg y v,jX none cx.s v (nm.n 1) (nm.n 2) F])) n (Rt K E) a w:=by
   refine bt (j7 (x:=6) (m:=m) (k0:=k0) (O:=O) IQ.ss hF IS (.inr ⟨Jo.1,by omega⟩) Jj hk aa aa λa1 IP IY=>?_)
   have IX:=IP.size
   rw[show(dO cx.s v (nm.n 1) (nm.n 2) F n).2=n+4 from rfl]
   refine bt (gJ (x:=6) (m:=m) (k0:=k0) (.inr ⟨by omega,by omega⟩) Jj aa aa aa λa2 IR Ja=>?_)
   have Jr:=IR.size
   rw[IY]at Ja
   rw[show(dg v y (n+4)).2=n+5 from rfl]
   refine bt (eW (x:=l) (m:=k0) (k0:=k0) (n:=n+5) (.inl rfl) aa λa3 IW _=>?_)
   have JI:=IW.size
   have Jw:a3.get y=.slice none 0 0:=(IW.get y aa (.inl aa)).trans Ja
   have Kc:Pv 6 m k0 n a a3:=(IP.trans (IR.mono (ae _) aa)).trans ((IW.weak ⟨by omega,by omega⟩).mono (ae _) aa)
   have MH:RC g cx fx ver S R B O r a3 w:=IQ.step hc Kc IQ.rd (br.refl (λ_=>False) w) (λ_ _ h=>h.elim)
   rw[show(co l (.int .i32 0) (n+5)).2=n+5 from rfl]
   refine bt (Gm (m:=l) (k0:=k0) K0 M9 Jb MH (nC hc aa aa) ⟨ae _,by omega⟩ aa aa λa4 w4 Jp JS JP Jm=>?_)
   have L3:=Jp.size
   have hy4:a4.get y=.slice none 0 0:=(Jp.get y aa (.inl aa)).trans Jw
   have Np:Pv 6 m k0 n a a4:=Kc.trans (Jp.mono aa aa)
   have Ry:RC g cx fx ver S R B O (cW fx r).2 a4 w4:=IQ.step hc Np JP Jm (λ_ _ h=>.inl h)
   generalize hLv:(cW fx r).1=L at *
   generalize Wn:(cW fx r).2=r1 at *
   generalize hnL:((if cx.hf then jF cx (bQ g.clen cx.b l) (bQ g.len cx.b l)else bQ g.len cx.b l:GC) (n+5)).2=nL at *
   refine EN (x:=6) (m:=y) (k0:=k0) (ver:=ver) Ry.sv hy4 JS Jq ⟨ae _,by omega⟩ aa aa aa aa aa aa aa aa λa5 w5 base Kt JZ hy5 Lj JG MY=>?_
   have OV:=Kt.size
   generalize YI:(gL (kW g cx nul y l F) nL).2=nN at *
   have Lg:Pv 6 m k0 n a a5:=Np.trans (Kt.mono aa aa)
   have RG:br (·=R) w w5:=Jm.trans (JZ.mono λ_ _ h=>h.elim)
   have Qb:RC g cx fx ver S R B O r1 a5 w5:=IQ.step hc Lg (JP.keep JZ id id) RG (λ_ _ h=>.inl h)
   refine bt ?_
   rw[cn]
   refine CY (m:=i) (k0:=k0) K0 RJ Qb (nC hc aa aa) aa aa (λJu a6 w6 hp6 hif Lu=>?_) (λTW a6 w6 hp6 Lu=>?_)
   ·exact ho.err (by rw[Ju];rfl) a6 w6 (Lg.trans (hp6.mono aa aa)) hif ((RG.trans (Lu.mono λ_ _ h=>h.elim)).mono λ_ _ h=>.inl h)
   have Vd:=hp6.size
   have Wt:Pv 6 m k0 n a a6:=Lg.trans (hp6.mono aa aa)
   have hy6':a6.get y=.slice base 0 0:=(hp6.get y aa (.inl aa)).trans hy5
   have hl6':a6.get l=.int .i32 L:=(hp6.get l aa (.inl aa)).trans Lj
   have Pk:br (·=R) w w6:=RG.trans (Lu.mono λ_ _ h=>h.elim)
   have Qa:ep w6 g.tR S R r1:=Qb.rd.keep Lu id id
   rw[TW]at ho
   have JV:l5 L sz=true:=by
    cases h:l5 L sz with
    | true=>rfl
    | false=>exact absurd (by rw[h];rfl) ho.go
   rw[JV]at ho
   simp only[ag,ak,aU]at ho
   rw[show(qi g cx nN).2=nN+3 from rfl]
   refine bt (Gi (x:=y) (m:=k0) (k0:=k0) hy6' Jq.und Jq.size (.inl rfl) (ae _) aa aa aa λa7 hp7 hy7=>?_)
   have Tb:=hp7.size
   have WM:a7.get l=.int .i32 L:=(hp7.get l aa (.inl aa)).trans hl6'
   rw[show(BY y F (nN+3)).2=nN+5 from rfl]
   have Tk:Pv 6 m k0 n a a7:=Wt.trans ((hp7.weak ⟨by omega,by omega⟩).mono (ae _) aa)
   refine bt (EO (x:=y) (m:=k0) (k0:=k0) K0 hy7 WM Jq Su JV (.inl rfl) aa (ae _) aa aa aa (λhL a8 hp8 hy8=>?_) (λhL a8 c cs hp8 Zq LB Js Sb hy8=>?_))
   ·-- nothing there
    have Vc:=hp8.size
    have TC:a8.get l=.int .i32 L:=(hp8.get l aa (.inl aa)).trans WM
    have Pa:Pv 6 m k0 n a a8:=Tk.trans ((hp8.weak ⟨by omega,by omega⟩).mono (ae _) aa)
    rw[show(rn g y l F (nN+5)).2=nN+10 from rfl]
    refine bt ?_
    rw[cn]
    refine DG (m:=m) (k0:=k0) (L:=L) ⟨by omega,by omega⟩ aa aa aa Jj aa aa TC Su (λ_ w'=>w'=w6) rfl (λj a9 w9 hj=>by omega) λa9 w9 hp9 hw9=>?_
    subst hw9
    have K7:gh R B (λj=>O+off<=j/\j<O+off+1) w w9:=gh.of_keeps Pk (λ_ _ h=>h) IQ.BR
    have V6:a9.get y=.slice base 0 0:=(hp9.get y aa (.inl aa)).trans hy8
    have Jv:(Value.slice base 0 0).oneCell'=true/\(Value.slice base 0 0).cells=#[.slice base 0 0]:=⟨rfl,rfl⟩
    rw[show(wU g i l (nm.n 7) (nm.n 8) (gS (gEl g cx e y i F (nm.sub 0))) (nN+10)).2=(gL (gEl g cx e y i F (nm.sub 0)) (nN+15)).2 from rfl]
    refine ri (n0:=n) hF IQ hc ⟨Jo.1,by omega⟩ hk aa aa (Pa.trans (hp9.mono aa aa)) V6 aa Jv K7 Qa hb λa10 w10 hp10 hrd10 hev10 KX Mb=>?_
    refine ho.ok _ r1 a10 w10 (by rw[ax hL]) hp10 hrd10 hev10 λX hX hS=>?_
    rw[<- MY]
    rcases JG with rfl|⟨p,rfl,hp,IR⟩
    ·exact .inl ⟨Mb,rfl⟩
    ·refine .inr ⟨[],p,0,0,Mb,λU9=>?_,?_,ae _,by simp,rfl,λi x hx=>by simp at hx⟩
     ·have:=hX p U9
      have:=Jm.size
      omega
     ·have:=Lu.size
      have:=KX.size
      omega
   ·-- so many elements
    have Vc:=hp8.size
    have TC:a8.get l=.int .i32 L:=(hp8.get l aa (.inl aa)).trans WM
    have Pa:Pv 6 m k0 n a a8:=Tk.trans ((hp8.weak ⟨by omega,by omega⟩).mono (ae _) aa)
    rw[show(rn g y l F (nN+5)).2=nN+10 from rfl]
    rw[al aa]at ho
    have LX:br (λ_=>False) w6 (w6.drew.alloc (.cells cs E' (0,0))):=(br.drew _ _).trans (br.alloc _ _ _)
    have VY:=Pk.size
    have hAsz:(w6.drew.alloc (.cells cs E' (0,0))).heap.size=w6.heap.size+1:=by simp
    have hpc:(w6.drew.alloc (.cells cs E' (0,0))).heap[w6.heap.size]?=some (.cells cs E' (0,0)):=heap_alloc_new w6.drew _
    have LO:br (·=R) w (w6.drew.alloc (.cells cs E' (0,0))):=Pk.trans (LX.mono λ_ _ h=>h.elim)
    have Te:ep (w6.drew.alloc (.cells cs E' (0,0))) g.tR S R r1:=Qa.keep LX id id
    have Wk:RC g cx fx ver S R B O r1 a8 (w6.drew.alloc (.cells cs E' (0,0))):=IQ.step hc Pa Te LO (λ_ _ h=>.inl h)
    obtain⟨t',x',KU⟩:=IQ.err
    have OD:=e8 KU
    have Sr:=IQ.Slt
    generalize hwA:w6.drew.alloc (.cells cs E' (0,0))=wA at *
    refine bt ?_
    rw[cn]
    refine DG (m:=m) (k0:=k0) (L:=L) ⟨by omega,by omega⟩ aa aa aa Jj aa aa TC Su (Cz g S R w6.heap.size sz e (dy fx ver e (du 0 e)) L.toNat r1 c z E' wA) ?_ (λj a9 w9 hj hp9 hi9 hI=>?_) λa9 w9 hp9 hI=>?_
    ·exact⟨[],r1,rfl,mG.start _ _ _,Te,gh.refl _ _ _ _,⟨cs,hpc,Js,λq t _ hq ht=>Sb q t hq ht⟩,λi v hv=>by simp at hv⟩
    ·refine zb (B:=B) (O:=O) (r0:=r1) (m:=m) (te:=E') LP (YY _ _ _ _ _ Ns) Ns Jq Wk hc Jb aa aa (by rw[show nN+10+5=nN+15 from rfl];omega) aa aa aa aa hp9 hy8 hi9 hj Zq aa aa aa aa aa hI (λhe a10 w10 hp10 hif KX=>?_) (λhe=>?_)
     ·refine ho.err (by rw[he];rfl) a10 w10 (Pa.trans (hp10.mono (ae _) aa)) hif ?_
      exact⟨KX.os.trans LO.os,KX.tape.trans LO.tape,KX.output.trans LO.output,am LO.size KX.size,λq hq hx=>by
       rw[KX.block q aa (λh=>by rcases h with h|h;exact hx (.inl h);omega),LO.block q hq (λh=>hx (.inl h))]⟩
     ·exact ho.go (by rw[he];rfl)
    ·obtain⟨vs,r2,Rc,No,Wi,Ox,⟨cur9,hcu9,_,_⟩,Kg⟩:=hI
     have VW:=Ox.keeps.size
     have K7:gh R B (λj=>O+off<=j/\j<O+off+1) w w9:=
      ⟨⟨Ox.keeps.os.trans LO.os,Ox.keeps.tape.trans LO.tape,Ox.keeps.output.trans LO.output,am LO.size VW,λq hq hx=>by
       rw[Ox.keeps.block q aa (λh=>by rcases h with h|h;exact hx (.inl h);omega),LO.block q hq (λh=>hx (.inl h))]⟩,λcs' te' Si=>⟨cs',by
       have PM:=IQ.BR
       rw[Ox.keeps.block B aa (λh=>by rcases h with h|h;exact PM h;omega),LO.block B LI PM];exact Si,rfl,λ_ _=>rfl⟩⟩
     have V6:a9.get y=.slice (some ⟨w6.heap.size,0,none⟩) L.toNat c:=(hp9.get y aa (.inl aa)).trans hy8
     have Jv:(Value.slice (some ⟨w6.heap.size,0,none⟩) L.toNat c).oneCell'=true/\(Value.slice (some ⟨w6.heap.size,0,none⟩) L.toNat c).cells=#[.slice (some ⟨w6.heap.size,0,none⟩) L.toNat c]:=⟨rfl,rfl⟩
     rw[show(wU g i l (nm.n 7) (nm.n 8) (gS (gEl g cx e y i F (nm.sub 0))) (nN+10)).2=(gL (gEl g cx e y i F (nm.sub 0)) (nN+15)).2 from rfl]
     refine ri (n0:=n) hF IQ hc ⟨Jo.1,by omega⟩ hk aa aa (Pa.trans (hp9.mono aa aa)) V6 aa Jv K7 Wi hb λa10 w10 hp10 hrd10 hev10 KX Mb=>?_
     refine ho.ok (.l vs) r2 a10 w10 (by rw[No.done Rc];rfl) hp10 hrd10 hev10 λX hX hS=>.inr ⟨vs,w6.heap.size,0,c,by rw[Rc];exact Mb,λU9=>?_,?_,by omega,LB,rfl,λq u hu=>?_⟩
     ·have:=hX _ U9
      omega
     ·have:=KX.size
      omega
     ·have h1:=Kg q u hu (λk=>X k \/ k=B) (λk hk=>by
       rcases hk with hk|rfl
       ·have:=hX k hk
        omega
       ·omega) (λhk=>by rcases hk with hk|hk;exact hS hk;exact IQ.BS hk.symm)
      rw[aN]
      refine Rp.mono (λk _ hk=>.inl hk) _ _ _ _ (Rp.keep (KX.mono λk _ hk=>.inr hk) h1 (λhk=>?_) aa)
      rcases hk with hk|hk
      ·have:=hX _ hk
       omega
      ·omega
  have Xy:nM g cx (.list nul sz e) nm=dO cx.s v (nm.n 1) (nm.n 2) F::dg v y::co l (.int .i32 0)::(if cx.hf then jF cx (bQ g.clen cx.b l) (bQ g.len cx.b l)else bQ g.len cx.b l:GC)::(kW g cx nul y l F ++
    [qi g cx,BY y F,rn g y l F,wU g i l (nm.n 7) (nm.n 8) (gS (gEl g cx e y i F (nm.sub 0))),dg y v,jX none cx.s v (nm.n 1) (nm.n 2) F]):=by
   simp only[nM,hv,hy,hl,hi,hFF]
   simp
  rw[Xy]
  exact TX
 ·cases Jq
end
section
variable {P:Program} {g:G} {av:PF->Bool} {fl:Bool} {D:Nat->Option (List (Nat × Value))}
theorem br.inner {R B p:Nat}{w w1 w2:World}(h:br (λk=>k=R \/ k=B) w w1)(k:br (λk=>k=R \/ k=p) w1 w2)(hp:w.heap.size<=p):br (λk=>k=R \/ k=B) w w2:=
 ⟨k.os.trans h.os,k.tape.trans h.tape,k.output.trans h.output,am h.size k.size,λq hq hx=>by
  rw[k.block q (az hq h.size) (λhh=>by rcases hh with hh|hh;exact hx (.inl hh);omega),h.block q hq hx]⟩
theorem nJ {O:Nat}:∀ (wr:List (Nat × Value)) (cur:Array Value),(∀ q∈wr,cur[O+q.1]?=some q.2)->applyWr cur O wr=cur
 | [],_,_=>rfl
 | p::r,cur,h=>by
  have e:cur.setIfInBounds (O+p.1) p.2=cur:=by
   have hp:=h p ab
   refine Array.ext ab λi h1 h2=>?_
   rw[Array.getElem_setIfInBounds h2]
   split
   ·rename_i hi
    subst hi
    exact((aj.1 hp).2).symm
   ·rfl
  show applyWr (cur.setIfInBounds (O+p.1) p.2) O r=cur
  rw[e]
  exact nJ r cur λq hq=>h q (by simp[hq])
theorem ou {w:World}{p:Nat × Value}:∀ (fs:Fds) (X:Nat->Prop) (B o:Nat),RpF w X fs B o (dfFds fs)->r7 p fs=true->∃ v,w.cell? ⟨B,o+p.1,none⟩=some v/\v=p.2
 | .nil,_,_,_,_,h=>by cases h
 | .cons lo hi tag df off ty r,X,B,o,hr,h=>by
  obtain⟨v0,vs0,he,hv,KG⟩:=hr
  cases he
  simp only[r7,aH]at h
  rcases h with h|h
  ·cases ty with
   | prim q=>
    cases q
    case uuid=>cases h
    case bool=>
     simp only[ac,aH,ar]at h
     obtain⟨rfl,h2⟩:=h
     obtain⟨cs,hc,b,rfl,hb⟩:=hv
     refine⟨_,hc 0 _ rfl,?_⟩
     simp only[du,V.n.injEq]at hb
     rcases h2 with⟨rfl,h2⟩|⟨rfl,h2⟩
     ·rw[sV h2]
      cases b<;>simp at hb ⊢
     ·rw[sV h2]
      cases b<;>simp at hb ⊢
    all_goals
     simp only[ac,ar]at h
     obtain⟨rfl,h2⟩:=h
     obtain⟨cs,hc,x,rfl,hx,_⟩:=hv
     refine⟨_,hc 0 _ rfl,?_⟩
     simp only[du,V.n.injEq]at hx
     rw[sV h2,hx]
   | str _=>cases h
   | bytes _=>cases h
   | list _ _ _=>cases h
   | struct _ _ _=>cases h
  ·exact ou r X B o KG h
theorem ED (En:Env P g av fl D){toff:Option Nat}{fs:Fds}(JL:Cw P g av fl D fs):th P g av fl D (.struct none toff fs):=by
 intro nm cx fx ver S R B O r m k0 n T off old K E a w te Jf IQ hc Jb hk Ka hn hb Kz ho
 simp only[s6,ac,ai,ar]at Jf
 obtain⟨⟨⟨⟨Jo,hT⟩,hF⟩,J3⟩,Nq⟩:=Jf
 subst hT
 replace hF:=fldB_ok hF
 split at J3
 ·rename_i wr JO
  simp only[ac,ai,aT]at J3
  have hwf:=λq hq=>(J3 q hq).2
  replace J3:=λq hq=>(J3 q hq).1
  obtain⟨NU,Qz⟩:=En.df _ _ JO
  have LR:R<w.heap.size:=IQ.rd.lt
  have LI:B<w.heap.size:=hb.lt
  have Jj:=hc.le
  have Q1:=hc.six
  have hn':(gL (iC g { cx with s:=nm.n 3 } fs.tagged (nm.n 5) (nm.n 6) (nm.sub 0) (gFds g { cx with s:=nm.n 3 } fs (nm.sub 0).s) (gTagd g { cx with s:=nm.n 3 } fs (nm.sub 0).s)) (n+3+2+1)).2<=a.tmps.size:=by
   simp only[nM]at hn
   rw[cz]at hn
   exact hn
  have KM:=j4 (g:=g) (cx:={ cx with s:=nm.n 3 }) (tagged:=fs.tagged) (T:=nm.n 5) (kt:=nm.n 6) (m:=nm.sub 0) (up_gFds g fs (nm.sub 0).s { cx with s:=nm.n 3 }) (up_gTagd g fs (nm.sub 0).s { cx with s:=nm.n 3 }) (n+3+2+1)
  have Jc:(Ty.struct none toff fs).sz=fs.ext (ft toff):=rfl
  obtain⟨cur,Lk,KS⟩:=hb
  rw[Jc]at KS
  show LW P (ia cx.s (nm.n 0) (nm.n 1) (nm.n 2)::eO (nm.n 0) (nm.n 4)::dg (nm.n 0) (nm.n 3)::iC g { cx with s:=nm.n 3 } fs.tagged (nm.n 5) (nm.n 6) (nm.sub 0) (gFds g { cx with s:=nm.n 3 } fs (nm.sub 0).s) (gTagd g { cx with s:=nm.n 3 } fs (nm.sub 0).s)) n (Rt K E) a w
  refine bt (ly (x:=6) (m:=m) (k0:=k0) (B:=B) (O:=O) IQ.ss hF (.inr ⟨Jo.1,by omega⟩) Jj hk aa aa λa1 IP IY=>?_)
  have IX:=IP.size
  rw[show(ia cx.s (nm.n 0) (nm.n 1) (nm.n 2) n).2=n+3 from rfl]
  refine bt (lS (x:=6) (m:=m) (k0:=k0) (B:=B) (O:=O+off) (cur:=cur) (te:=te) NU Qz IY Lk (λq hq=>by have:=J3 q hq;omega) Jj aa aa λa2 w2 IR hsame2 IV Mu=>?_)
  have Jr:=IR.size
  have Ja:a2.get (nm.n 0)=pt B (O+off):=(hsame2 _ aa).trans IY
  rw[show(eO (nm.n 0) (nm.n 4) (n+3)).2=n+3+2 from rfl]
  refine bt (gJ (x:=6) (m:=m) (k0:=k0) (.inr ⟨Jo.2.1,Jo.2.2.2.1⟩) Jj aa aa aa λa3 IW Jw=>?_)
  rw[show(dg (nm.n 0) (nm.n 3) (n+3+2)).2=n+3+2+1 from rfl]
  have JI:=IW.size
  have Kc:Pv 6 m k0 n a a3:=(IP.trans (IR.mono (ae _) aa)).trans (IW.mono (ae _) aa)
  have Jt:ep w2 g.tR S R r:=IQ.rd.keep IV (λh=>IQ.BS h.symm) (λh=>IQ.BR h.symm)
  have JJ:RC g cx fx ver S R B O r a3 w2:=IQ.step hc Kc Jt IV (λ_ _ h=>.inr h)
  have MH:RC g { cx with s:=nm.n 3 } fx ver S R B (O+off) r a3 w2:=JJ.withS (Jw.trans Ja) IQ.BR IQ.BS IQ.gB
  have P7:nm.n 0<max (nm.n 0) (nm.n 3)+1/\nm.n 3<max (nm.n 0) (nm.n 3)+1/\max (nm.n 0) (nm.n 3)+1<=k0:=by omega
  have MV:fX { cx with s:=nm.n 3 } (max (nm.n 0) (nm.n 3)+1) k0:=
   ⟨⟨by have:=hc.b;simp only;omega,hc.b.2⟩,⟨P7.2.1,by simp only;omega⟩,⟨by have:=hc.ver;simp only;omega,hc.ver.2⟩,⟨by have:=hc.fx;simp only;omega,hc.fx.2⟩,by omega,P7.2.2⟩
  have J1:gh R B (λt=>O+off<=t/\t<O+off+(Ty.struct none toff fs).sz) w w2:=by
   refine⟨IV.mono λ_ _ h=>.inr h,λcs te' Js=>?_⟩
   rw[Lk]at Js
   obtain⟨rfl,rfl,_⟩:=Obj.cells.inj (au Js)
   exact⟨_,Mu,eE _ _ _,λt ht=>jO _ _ _ _ λq hq he=>ht (by have:=J3 q hq;rw[Jc];omega)⟩
  have WX:(fs.plain=true/\fx=true) \/ ((∀ X,RpF w2 X fs B (O+off) (dfFds fs))/\mo w2 B (O+off) toff):=by
   rcases Kz with Kz|⟨rfl,Kz⟩
   ·exact .inl Kz
   ·have J9:∀ X,RpF w X fs B (O+off) (dfFds fs):=λX=>by
     obtain⟨vs,t,he,h,_⟩:=Kz X
     cases he
     exact h
    have SZ:applyWr cur (O+off) wr=cur:=nJ wr cur λq hq=>by
     obtain⟨v,hv,MI⟩:=ou fs (λ_=>False) B (O+off) (J9 _) (hwf q hq)
     have:w.cell? ⟨B,O+off+q.1,none⟩=cur[O+off+q.1]?:=by simp[World.cell?,Lk]
     rw[<- this,hv,MI]
    rw[SZ]at Mu
    have hc:∀ j,w2.cell? ⟨B,j,none⟩=w.cell? ⟨B,j,none⟩:=λj=>by simp[World.cell?,Mu,Lk]
    refine .inr ⟨λX=>?_,?_⟩
    ·have h1:=RpF.frameIn (X:=λk=>X k \/ k=B) (IV.mono λk _ hk=>.inr hk) fs B (O+off) (dfFds fs) (J9 _) λj _=>hc j
     exact RpF.mono (λk _ hk=>.inl hk) fs B (O+off) (dfFds fs) h1
    ·obtain⟨vs,t,he,_,ht⟩:=Kz (λ_=>True)
     cases he
     cases toff with
     | none=>trivial
     | some k=>
      obtain⟨mm,hm,hh⟩:=ht
      rcases hh with⟨rfl,_⟩|hh
      ·show w2.cell? ⟨B,O+off+k,none⟩=some (.map none)
       rw[hc];exact hm
      ·obtain⟨_,_,hx,_⟩:=hh
       exact absurd trivial hx
  refine JL (nm.sub 0) { cx with s:=nm.n 3 } fx ver S R B (O+off) r (max (nm.n 0) (nm.n 3)+1) k0 (n+3+2+1) (nm.n 5) (nm.n 6) toff K E a3 w2 te Nq MH MV Jb aa aa aa ⟨_,Mu,by rw[eE];exact KS⟩ WX
   ⟨λv r' a4 w4 he Jp JP hev4 hv=>?_,λhe a4 w4 Jp hif Jm=>?_,λhe=>?_⟩
  ·obtain⟨vs,t,rfl,QV,UG⟩:=hv
   exact ho.ok _ r' a4 w4 he (Kc.trans (Jp.mono aa aa)) JP (J1.trans (hev4.mono λt ht=>by rw[Jc];exact zB ht)) λX hX hS=>⟨vs,t,rfl,im QV IV.size X hX hS,im UG IV.size X hX hS⟩
  ·exact ho.err he a4 w4 (Kc.trans (Jp.mono aa aa)) hif (J1.keeps.trans Jm)
  ·exact ho.go he
 ·cases J3
theorem EC (En:Env P g av fl D){q:Nat}{toff:Option Nat}{fs:Fds}(JL:Cw P g av fl D fs):th P g av fl D (.struct (some q) toff fs):=by
 intro nm cx fx ver S R B O r m k0 n T off old K E a w te Jf IQ hc Jb hk Ka hn hb Kz ho
 simp only[s6,ac,ai,ar]at Jf
 obtain⟨⟨⟨⟨⟨Jo,hT⟩,hF⟩,Vn⟩,J3⟩,Nq⟩:=Jf
 subst hT
 replace hF:=fldB_ok hF
 split at J3
 ·rename_i z wr hz JO
  simp only[ac,ai,aT]at J3
  obtain⟨⟨⟨Og,SF⟩,NW⟩,NN⟩:=J3
  obtain⟨NU,Qz⟩:=En.df _ _ JO
  have LR:R<w.heap.size:=IQ.rd.lt
  have LI:B<w.heap.size:=hb.lt
  have Jj:=hc.le
  have Q1:=hc.six
  have K1:old.isNul=true:=by
   cases h:old.isNul with
   | true=>rfl
   | false=>exact absurd (by simp only[dy,h];rfl) ho.go
  have IS:w.cell? ⟨B,O+off,none⟩=some (.pointer none):=by
   rcases Kz with⟨h,_⟩|⟨p,q,vs,t,_,_,_,h,_⟩
   ·exact h
   ·rw[h]at K1;cases K1
  have KG:dy fx ver (.struct (some q) toff fs) old r=(if(rI 1 r).1=-1 \/ (rI 1 r).2.bad=true then .ok .nul (rI 1 r).2 else dS fx fs.tagged (rdFds fx ver fs) (rdTag fx ver fs) (rI 1 r).2):=by
   simp only[dy,K1];rfl
  rw[KG]at ho
  have hn':(gL (iC g { cx with s:=nm.n 4 } fs.tagged (nm.n 6) (nm.n 7) (nm.sub 0) (gFds g { cx with s:=nm.n 4 } fs (nm.sub 0).s) (gTagd g { cx with s:=nm.n 4 } fs (nm.sub 0).s)) (n+6+4+4+2+1)).2<=a.tmps.size:=by
   have h:=hn
   simp only[nM,gL,qh,gS,gb]at h
   rw[cz]at h
   exact h
  have KM:=j4 (g:=g) (cx:={ cx with s:=nm.n 4 }) (tagged:=fs.tagged) (T:=nm.n 6) (kt:=nm.n 7) (m:=nm.sub 0) (up_gFds g fs (nm.sub 0).s { cx with s:=nm.n 4 }) (up_gTagd g fs (nm.sub 0).s { cx with s:=nm.n 4 }) (n+6+4+4+2+1)
  simp only[nM]
  refine bt ?_
  rw[cn]
  refine yF (m:=m) (k0:=k0) En.kb Vn.1 Vn.2 IQ hc ⟨Jo.2.2.1,by omega⟩ hk aa (λKH Ju a1 w1 IP K8 Jd=>?_) (λKi a1 w1 IP K8 Jd=>cD ?_)
  ·have IX:=IP.size
   rw[al (by rw[Ju];simp[KH])]at ho
   have Jk:RC g cx fx ver S R B O (rI 1 r).2 a1 w1:=IQ.step hc IP K8 Jd (λ_ _ h=>.inl h)
   have LK:=Jd.size
   obtain⟨cur,Lk,KS⟩:=hb
   replace KS:O+off+1<=cur.size:=KS
   have Uv:w1.heap[B]?=some (.cells cur te (0,0)):=by rw[Jd.block B LI IQ.BR];exact Lk
   refine .mono (Q:=Rt (LW P [] _ (Rt K E)) E) (R:=Rt K E) (cC ?_) λe a w hq=>by cases e<;>first|exact cD hq|exact hq
   show LW P (Dt cx.s (nm.n 1) (nm.n 2) (nm.n 3) (nm.n 9)::dO cx.s (nm.n 0) (nm.n 1) (nm.n 2) (nm.n 3)::eO (nm.n 0) (nm.n 5)::dg (nm.n 0) (nm.n 4)::iC g { cx with s:=nm.n 4 } fs.tagged (nm.n 6) (nm.n 7) (nm.sub 0) (gFds g { cx with s:=nm.n 4 } fs (nm.sub 0).s) (gTagd g { cx with s:=nm.n 4 } fs (nm.sub 0).s)) (n+6) (Rt K E) a1 w1
   refine bt (Gl (x:=6) (m:=m) (k0:=k0) (B:=B) (O:=O) (cur:=cur) (te:=te) Jk.ss hF (zeroOf_ok hz) Uv aa Jj aa aa λa2 IR hsame2=>?_)
   have Jr:=IR.size
   rw[show(Dt cx.s (nm.n 1) (nm.n 2) (nm.n 3) (nm.n 9) (n+6)).2=n+6+4 from rfl]
   have O8:w1.heap.size≠S:=by have:=IQ.Slt;omega
   have LX:br (λ_=>False) w1 (w1.alloc (.cells z.cells (nm.n 9) (0,0))):=br.alloc _ _ _
   have Yb:(w1.alloc (.cells z.cells (nm.n 9) (0,0))).heap[B]?=some (.cells cur te (0,0)):=by rw[cR aa];exact Uv
   have Mu:((w1.alloc (.cells z.cells (nm.n 9) (0,0))).setRow B (bV cur (O+off) [pt w1.heap.size 0])).heap[B]?=some (.cells (bV cur (O+off) [pt w1.heap.size 0]) te (0,0)):=setRow_heap _ _ _ _ _ _ Yb
   have hp2':((w1.alloc (.cells z.cells (nm.n 9) (0,0))).setRow B (bV cur (O+off) [pt w1.heap.size 0])).heap[w1.heap.size]?=some (.cells z.cells (nm.n 9) (0,0)):=by
    rw[setRow_other _ _ _ _ aa];exact heap_alloc_new _ _
   have J1:gh R B (λj=>O+off<=j/\j<O+off+1) w1 ((w1.alloc (.cells z.cells (nm.n 9) (0,0))).setRow B (bV cur (O+off) [pt w1.heap.size 0])):=
    (gh.of_keeps LX (λ_ _ h=>h.elim) IQ.BR).trans (gh.store Yb (by simpa using KS) (λj ha hb=>⟨ha,by simpa using hb⟩))
   have Ot:br (·=B) w1 ((w1.alloc (.cells z.cells (nm.n 9) (0,0))).setRow B (bV cur (O+off) [pt w1.heap.size 0])):=(LX.mono λ_ _ h=>h.elim).trans (br.setRow _ _ _ _ rfl)
   have Mo:((w1.alloc (.cells z.cells (nm.n 9) (0,0))).setRow B (bV cur (O+off) [pt w1.heap.size 0])).cell? ⟨B,O+off,none⟩=some (pt w1.heap.size 0):=by
    rw[cell_setRow_same _ _ _ _ _ _ _ Yb]
    have:=dn (cur:=cur) (o:=O+off) (vs:=[pt w1.heap.size 0]) (by simpa using KS) 0 ab
    simpa using this
   have Oi:((w1.alloc (.cells z.cells (nm.n 9) (0,0))).setRow B (bV cur (O+off) [pt w1.heap.size 0])).heap.size=w1.heap.size+1:=by simp
   generalize KV:(w1.alloc (.cells z.cells (nm.n 9) (0,0))).setRow B (bV cur (O+off) [pt w1.heap.size 0])=w2 at *
   generalize QD:w1.heap.size=p at *
   have J6:Pv 6 m k0 n a a2:=IP.trans (IR.mono (ae _) aa)
   have OR:a2.get cx.s=pt B O:=(J6.get _ hc.s.2 (.inl hc.s.1)).trans IQ.ss
   refine bt (j7 (x:=6) (m:=m) (k0:=k0) (O:=O) OR hF Mo (.inr ⟨Jo.1,by omega⟩) Jj aa aa aa λa3 IW Jw=>?_)
   have JI:=IW.size
   rw[show(dO cx.s (nm.n 0) (nm.n 1) (nm.n 2) (nm.n 3) (n+6+4)).2=n+6+4+4 from rfl]
   refine bt (lS (x:=6) (m:=m) (k0:=k0) (B:=p) (O:=0) (cur:=z.cells) (te:=nm.n 9) NU Qz Jw hp2' (λq hq=>by have:=Og q hq;omega) Jj aa aa λa4 w4 Jp hsame4 Jm PN=>?_)
   have L3:=Jp.size
   have JS:a4.get (nm.n 0)=pt p 0:=(hsame4 _ aa).trans Jw
   rw[show(eO (nm.n 0) (nm.n 5) (n+6+4+4)).2=n+6+4+4+2 from rfl]
   refine bt (gJ (x:=6) (m:=m) (k0:=k0) (.inr ⟨Jo.2.1,by omega⟩) Jj aa aa aa λa5 Kt Lj=>?_)
   rw[show(dg (nm.n 0) (nm.n 4) (n+6+4+4+2)).2=n+6+4+4+2+1 from rfl]
   have OV:=Kt.size
   have Lg:Pv 6 m k0 n a a5:=((J6.trans (IW.mono (ae _) aa)).trans (Jp.mono (ae _) aa)).trans (Kt.mono (ae _) aa)
   have hsz4:=Jm.size
   have Zu:B≠p:=by omega
   have Jt:ep w2 g.tR S R (rI 1 r).2:=K8.keep Ot (λh=>IQ.BS h.symm) (λh=>IQ.BR h.symm)
   have JP:ep w4 g.tR S R (rI 1 r).2:=Jt.keep Jm (λh=>by omega) (λh=>by omega)
   obtain⟨t',x',KU⟩:=IQ.err
   have OD:=e8 KU
   have Pq:w1.cell? ⟨g.gErr,0,none⟩=some (.iface t' x'):=Jd.cell IQ.gR KU
   have Lz:w2.cell? ⟨g.gErr,0,none⟩=some (.iface t' x'):=Ot.cell IQ.gB Pq
   have Ul:ErrAt g.gErr w4:=⟨t',x',Jm.cell aa Lz⟩
   have Qb:RC g { cx with s:=nm.n 4 } fx ver S R p 0 (rI 1 r).2 a5 w4:=
    ⟨JP,(Lg.get _ hc.b.2 (.inl hc.b.1)).trans IQ.sb,Lj.trans JS,(Lg.get _ hc.ver.2 (.inl hc.ver.1)).trans IQ.sv,λhf=>(Lg.get _ hc.fx.2 (.inl hc.fx.1)).trans (IQ.sf hf),IQ.nf,(Lg.get 2 aa (.inl aa)).trans IQ.su,Ul,IQ.SR,by omega,O8,IQ.gR,by omega,
     by have:=IQ.Slt;omega⟩
   have P7:nm.n 0<max (nm.n 0) (nm.n 4)+1/\nm.n 4<max (nm.n 0) (nm.n 4)+1/\max (nm.n 0) (nm.n 4)+1<=k0:=by omega
   have U2:fX { cx with s:=nm.n 4 } (max (nm.n 0) (nm.n 4)+1) k0:=
    ⟨⟨by have:=hc.b;simp only;omega,hc.b.2⟩,⟨P7.2.1,by simp only;omega⟩,⟨by have:=hc.ver;simp only;omega,hc.ver.2⟩,⟨by have:=hc.fx;simp only;omega,hc.fx.2⟩,by omega,P7.2.2⟩
   have Zc:=nx (O:=0) (cur:=z.cells) (z:=z.cells) (λj _=>by rw[aN]) aa Og PN
   have Qk:br (λk=>k=R \/ k=B) w w4:=
    ⟨Jm.os.trans (Ot.os.trans Jd.os),Jm.tape.trans (Ot.tape.trans Jd.tape),Jm.output.trans (Ot.output.trans Jd.output),by omega,λq hq hx=>by
     rw[Jm.block q aa aa,Ot.block q aa (λh=>hx (.inr h)),Jd.block q hq (λh=>hx (.inl h))]⟩
   have hB4':w4.heap[B]?=some (.cells (bV cur (O+off) [pt p 0]) te (0,0)):=by rw[Jm.block B aa Zu];exact Mu
   have Rq:w.heap.size<=p:=LK
   refine JL (nm.sub 0) { cx with s:=nm.n 4 } fx ver S R p 0 (rI 1 r).2 (max (nm.n 0) (nm.n 4)+1) k0 (n+6+4+4+2+1) (nm.n 6) (nm.n 7) toff K E a5 w4 (nm.n 9) Nq Qb U2 Jb aa aa aa ⟨_,PN,by rw[eE];omega⟩ ?_
    ⟨λv r' a6 w6 he hp6 Qa hev6 hv=>?_,λhe a6 w6 hp6 hif Lu=>?_,λhe=>?_⟩
   ·refine .inr ⟨λX=>zFds_ok Zc X fs 0 SF,?_⟩
    cases toff with
    | none=>trivial
    | some o=>exact Zc.one NW
   ·obtain⟨vs,t,rfl,QV,UG⟩:=hv
    have PM:=IQ.BR
    have Zw:w6.heap[B]?=some (.cells (bV cur (O+off) [pt p 0]) te (0,0)):=by
     rw[hev6.keeps.block B aa (λh=>by rcases h with h|h;exact PM h;exact Zu h)];exact hB4'
    have VY:=hev6.keeps.size
    refine ho.ok _ r' a6 w6 he (Lg.trans (hp6.mono aa aa)) Qa ⟨Qk.inner hev6.keeps Rq,λcs te' Js=>?_⟩ λX hX hS=>.inr ⟨p,0,vs,t,?_,λU9=>?_,by omega,rfl,?_,?_⟩
    ·rw[Lk]at Js
     obtain⟨rfl,rfl,_⟩:=Obj.cells.inj (au Js)
     refine⟨_,Zw,fF (by simpa using KS),λj hj=>dL (by simpa using KS) j ?_⟩
     simp only[Ty.sz]at hj
     simp only[List.length_cons,List.length_nil]
     omega
    ·have:=dn (cur:=cur) (o:=O+off) (vs:=[pt p 0]) (by simpa using KS) 0 ab
     simp only[World.cell?,Zw]
     simpa[pt]using this
    ·have:=hX p U9
     omega
    ·exact im QV Qk.size X hX hS
    ·exact im UG Qk.size X hX hS
   ·exact ho.err he a6 w6 (Lg.trans (hp6.mono aa aa)) hif (Qk.inner Lu Rq)
   ·exact ho.go he
  ·refine ho.ok .nul _ a1 w1 (by rw[ax Ki]) IP K8 (gh.of_keeps Jd (λ_ _ h=>h) IQ.BR) λX hX hS=>.inl ⟨?_,rfl⟩
   exact Jd.cell IQ.BR IS
 ·cases J3
theorem Do {e:Ty}{hf:Bool}{m k0 esz:Nat}{z:Array Value}{nm:Nm}(h:okEl ⟨P,g,av,D⟩ hf m k0 esz z e nm=true):e.sz<=esz:=by
 cases e with
 | prim p=>simp only[okEl,ac,ar]at h;omega
 | str nul=>simp only[okEl,ac,ar]at h;simp only[Ty.sz];omega
 | bytes nul=>simp only[okEl,ac,ar]at h;simp only[Ty.sz];omega
 | list nul sz e=>simp[okEl]at h
 | struct nul toff fs=>
  cases nul with
  | some q=>simp[okEl]at h
  | none=>
   simp only[okEl,ac]at h
   obtain⟨⟨_,h⟩,_⟩:=h
   split at h
   ·simp only[ac,ai]at h
    exact h.2
   ·cases h
mutual
theorem DJ (En:Env P g av fl D):∀ ty:Ty,th P g av fl D ty
 | .prim p=>CM En.kb p
 | .str nul=>EB En.kb nul
 | .bytes nul=>Aq En.kb nul
 | .list _ _ e=>CN En.kb (rd_el En e) (λ_ _ _ _ _ h=>Do h)
 | .struct none _ fs=>ED En (x7 En.kb (rd_fds En fs) (rd_case En fs))
 | .struct (some _) _ fs=>EC En (x7 En.kb (rd_fds En fs) (rd_case En fs))
theorem rd_el (En:Env P g av fl D):∀ ty:Ty,Cy P g av fl D ty
 | .prim _=>sX En.kb rfl
 | .str _=>sX En.kb rfl
 | .bytes _=>sX En.kb rfl
 | .list _ _ _=>λ_ _ _ _ _ _ _ _ _ _ _ _ _ _ _ _ _ _ _ _ _ _ _ _ _ _ _ _ h=>by simp[okEl]at h
 | .struct none _ fs=>zm En (x7 En.kb (rd_fds En fs) (rd_case En fs))
 | .struct (some _) _ _=>λ_ _ _ _ _ _ _ _ _ _ _ _ _ _ _ _ _ _ _ _ _ _ _ _ _ _ _ _ h=>by simp[okEl]at h
theorem rd_fds (En:Env P g av fl D):∀ fs:Fds,rz P g av fl D fs
 | .nil=>Dy
 | .cons _ _ _ _ _ ty r=>Ce (DJ En ty) (rd_fds En r)
theorem rd_case (En:Env P g av fl D):∀ fs:Fds,mF P g av fl D fs
 | .nil=>Ci
 | .cons _ _ _ _ _ ty r=>zp En.kb (DJ En ty) (rd_case En r)
end
theorem Gq (En:Env P g av fl D)(fs:Fds):Cw P g av fl D fs:=x7 En.kb (rd_fds En fs) (rd_case En fs)
end
section
open Go
def wj:Fds->Bool
 | .nil=>true
 | .cons _ _ _ _ off _ r=>decide (0<off)&&wj r
theorem s3:∀ (fs:Fds) (j:Nat),wj fs=true->fs.In 0 j->j≠0
 | .nil,_,_,h=>h.elim
 | .cons _ _ _ _ off ty r,j,h,hj=>by
  simp only[wj,ac,ai]at h
  rcases hj with hj|hj
  ·omega
  ·exact s3 r j h.2 hj
def q3 (cx:Cx):Nat:=max (max cx.b cx.s) (max cx.ver cx.fx)+1
def tW (e:Ev)(kept:Bool)(cx:Cx)(fs:Fds)(dflt T kt:Nat)(toff:Option Nat)(n0 ntmps:Nat)(nm:Nm)(z:Array Value)(used:Nat):Bool:=
 decide (6<cx.b/\6<cx.s/\6<cx.ver/\cx.b≠cx.s/\cx.b≠cx.ver/\cx.s≠cx.ver/\q3 cx<=n0/\((cx.hf=true/\6<cx.fx/\cx.b≠cx.fx/\cx.s≠cx.fx/\cx.ver≠cx.fx) \/ (cx.hf=false/\cx.fx=0)))&&decide (used<=ntmps)&&gC e.P T 0 e.g.tVer 0 false 1&&(!kept || e.av .i16) &&
 (match e.D dflt with
  | some wr=>(wr.all λp=>decide (0<p.1/\p.1<z.size))&&zFds (applyWr z 0 wr) fs 0&&Iu (applyWr z 0 wr) toff&&wj fs&&(toff != some 0)&&decide (fs.ext (ft toff)<=z.size)&&decide (0<z.size)
  | none=>false) &&
 yW e cx.hf (q3 cx) n0 T kt toff fs nm (okFds e cx.hf (q3 cx) n0 T fs nm.s) (okTagd e (nm.n 1+1) n0 T fs nm.s)
def lH (g:G)(kept:Bool)(cx:Cx)(dflt T flex:Nat):List GC:=
 [co 6 .nilIface,eO 0 dflt,bL 2 λn=>[mk (some n) (.move (tm 1)),mk (some (n+1)) (.build g.tR #[(0,tm n)]),mk (some cx.b) (.alloc g.tR),mk none (.store g.tR (tm cx.b) (tm (n+1)))]] ++
  (if kept then[bL 4 λn=>[mk (some n) (.move (tm 0)),cl (some (n+1)) (g.rd .i16) [tm cx.b],mk (some (n+2)) (.nilCheck (tm n)),mk (some (n+3)) (.fieldAddr T (tm (n+2)) 0),mk none (.store g.tVer (tm (n+3)) (tm (n+1)))]] else[]) ++
  [dO 0 cx.ver T 0 g.tVer,bL 1 λn=>[mk (some n) (.move (tm cx.ver))]] ++
  (if cx.hf then[bL 2 λn=>[mk (some n) (.move (tm cx.ver)),mk (some (n+1)) (.binOp .geq g.tVer (tm n) (ki .i16 flex) 0),mk (some cx.fx) (.assign (tm (n+1)))],bL 1 λn=>[mk (some n) (.move (tm cx.fx))]] else[]) ++
  [dg 0 cx.s]
def Du (g:G)(b:Nat):List GC:=[bL 1 λn=>[cl (some n) g.complete [tm b],mk (some 6) (.assign (tm n))],cp .ret]
theorem BZ (g:G)(kept:Bool)(cx:Cx)(fs:Fds)(dflt T kt flex n0:Nat)(m:Nm) :
  gRead g cx.hf kept cx fs dflt T kt flex n0 m=(gS (lH g kept cx dflt T flex++(iC g cx fs.tagged T kt m (gFds g cx fs m.s) (gTagd g cx fs m.s)++Du g cx.b)) n0).1:=by
 unfold gRead lH Du
 simp only[ao]
mutual
theorem qA {z z2:Array Value}(h:∀ j,1<=j->z2[j]?=z[j]?):∀ (ty:Ty) (df:Int) (o:Nat),1<=o->vj z df ty o=true->vj z2 df ty o=true
 | .prim p,df,o,ho,hz=>by
  have e:∀ v,iS z2 o v=iS z o v:=λv=>by simp only[iS,h o ho]
  cases p
  case uuid=>
   simp only[vj,aT]at hz ⊢
   intro j hj
   have:=hz j hj
   simp only[iS,h (o+j) aa]at this ⊢
   exact this
  all_goals (simp only[vj,e]at hz ⊢;exact hz)
 | .str none,df,o,ho,hz=>by simp only[vj,iS,h o ho]at hz ⊢;exact hz
 | .str (some _),df,o,ho,hz=>by simp only[vj,iS,h o ho]at hz ⊢;exact hz
 | .bytes _,df,o,ho,hz=>by simp only[vj,iS,h o ho]at hz ⊢;exact hz
 | .list _ _ _,df,o,ho,hz=>by simp only[vj,iS,h o ho]at hz ⊢;exact hz
 | .struct (some _) _ _,df,o,ho,hz=>by simp only[vj,iS,h o ho]at hz ⊢;exact hz
 | .struct none toff fs,df,o,ho,hz=>by
  simp only[vj,ac]at hz ⊢
  refine⟨zFds_agree h fs o (.inl ho) hz.1,?_⟩
  cases toff with
  | none=>rfl
  | some k=>have:=hz.2;simp only[iS,h (o+k) aa]at this ⊢;exact this
theorem zFds_agree {z z2:Array Value}(h:∀ j,1<=j->z2[j]?=z[j]?):∀ (fs:Fds) (o:Nat),(1<=o \/ wj fs=true)->zFds z fs o=true->zFds z2 fs o=true
 | .nil,o,ho,hz=>rfl
 | .cons _ _ _ df off ty r,o,ho,hz=>by
  simp only[zFds,ac]at hz ⊢
  rcases ho with ho|ho
  ·exact⟨qA h ty df (o+off) aa hz.1,zFds_agree h r o (.inl ho) hz.2⟩
  ·simp only[wj,ac,ai]at ho
   exact⟨qA h ty df (o+off) aa hz.1,zFds_agree h r o (.inr ho.2) hz.2⟩
end
section
variable {P:Program} {g:G} {av:PF->Bool} {fl:Bool} {D:Nat->Option (List (Nat × Value))}
def gj (kept:Bool)(ver:Int)(r:RS):Int × RS:=if kept then rI 2 r else(ver,r)
structure C0 (g:G)(cx:Cx)(fs:Fds)(toff:Option Nat)(flex:Nat)(B S te:Nat)(csz:Nat)(w0:World)(vr:Int × RS)(ntmps R:Nat)(a:Act)(w:World):Prop where
 rc:RC g cx (cx.hf&&decide ((flex:Int)<=vr.1)) vr.1 S R B 0 vr.2 a w
 size:a.tmps.size=ntmps
 defers:a.defers=[]
 six:a.get 6=.nilIface
 keeps:br (·=B) w0 w
 fresh:w0.heap.size<=R
 blk:∃ cur,w.heap[B]?=some (.cells cur te (0,0))/\cur.size=csz/\cur[0]?=some (.int .i16 vr.1)
 fds:∀ X,RpF w X fs B 0 (dfFds fs)
 tgs:mo w B 0 toff
structure IF (g:G)(cx:Cx)(fs:Fds)(toff:Option Nat)(B S te csz:Nat)(w0:World)(vr:Int × RS)(ntmps R:Nat)(a:Act)(w:World):Prop where
 rd:ep w g.tR S R vr.2
 sb:a.get cx.b=pt R 0
 s0:a.get 0=pt B 0
 s2:a.get 2=.bool false
 size:a.tmps.size=ntmps
 defers:a.defers=[]
 six:a.get 6=.nilIface
 keeps:br (·=B) w0 w
 fresh:w0.heap.size<=R
 blk:∃ cur,w.heap[B]?=some (.cells cur te (0,0))/\cur.size=csz/\cur[0]?=some (.int .i16 vr.1)
 fds:∀ X,RpF w X fs B 0 (dfFds fs)
 tgs:mo w B 0 toff
 err:ErrAt g.gErr w
theorem rl {cx:Cx}{fs:Fds}{T flex n n0 ntmps:Nat}{toff:Option Nat}{B S te csz R:Nat}{w0 w:World}{vr:Int × RS}{a:Act}{Q:Exit->Act->World->Prop}{K:Act->World->Prop}(Jo:6<cx.b/\6<cx.s/\6<cx.ver/\cx.b≠cx.s/\cx.b≠cx.ver/\cx.s≠cx.ver/\q3 cx<=n0/\((cx.hf=true/\6<cx.fx/\cx.b≠cx.fx/\cx.s≠cx.fx/\cx.ver≠cx.fx) \/ (cx.hf=false/\cx.fx=0)))
  (hF:cO P T 0 g.tVer 0 false 1) (hp:IF g cx fs toff B S te csz w0 vr ntmps R a w) (Mt:n0<=n) (hn:n+9<=ntmps) (hS:S<w0.heap.size) (NV:B<w0.heap.size) (MB:B≠S) (PG:g.gErr≠B) (OD:g.gErr<w0.heap.size)
  (h:∀ a' w',C0 g cx fs toff flex B S te csz w0 vr ntmps R a' w'->K a' w') :
  LW P ([dO 0 cx.ver T 0 g.tVer,bL 1 λn=>[mk (some n) (.move (tm cx.ver))]]++((if cx.hf then[bL 2 λn=>[mk (some n) (.move (tm cx.ver)),mk (some (n+1)) (.binOp .geq g.tVer (tm n) (ki .i16 flex) 0),mk (some cx.fx) (.assign (tm (n+1)))],bL 1 λn=>[mk (some n) (.move (tm cx.fx))]] else[]) ++
   [dg 0 cx.s])) n (Exit.then K Q) a w:=by
 have hfx':cx.hf=true->6<cx.fx/\cx.b≠cx.fx/\cx.s≠cx.fx/\cx.ver≠cx.fx:=λh=>by
  rcases Jo.2.2.2.2.2.2.2 with h2|h2
  ·exact h2.2
  ·rw[h]at h2;cases h2.1
 replace Jo:6<cx.b/\6<cx.s/\6<cx.ver/\cx.b≠cx.s/\cx.b≠cx.ver/\cx.s≠cx.ver/\q3 cx<=n0:=⟨Jo.1,Jo.2.1,Jo.2.2.1,Jo.2.2.2.1,Jo.2.2.2.2.1,Jo.2.2.2.2.2.1,Jo.2.2.2.2.2.2.1⟩
 have Y5:q3 cx=max (max cx.b cx.s) (max cx.ver cx.fx)+1:=rfl
 have Jc:=hp.size
 obtain⟨cur,hB,Js,MW⟩:=hp.blk
 have IS:w.cell? ⟨B,0+0,none⟩=some (.int .i16 vr.1):=by simp only[World.cell?,hB];simpa using MW
 have hR0:=hp.fresh
 refine bt (j7 (x:=cx.ver) (m:=n0) (k0:=n0) (O:=0) hp.s0 hF IS (.inl rfl) (ae _) Mt aa aa λa1 IP IY=>?_)
 have IX:=IP.size
 rw[show(dO 0 cx.ver T 0 g.tVer n).2=n+4 from rfl]
 refine bt (bF (bv (wpList_nil ?_)))
 rw[bp,IY]
 have IR:Pv cx.ver n0 n0 n a (a1.put (some (n+4)) (.int .i16 vr.1)):=IP.put _ aa
 have Ja:(a1.put (some (n+4)) (.int .i16 vr.1)).get cx.ver=.int .i16 vr.1:=by rw[b8 aa];exact IY
 generalize a1.put (some (n+4)) (.int .i16 vr.1)=a2 at IR Ja ⊢
 have Jr:=IR.size
 rw[show(bL 1 (λn=>[mk (some n) (.move (tm cx.ver))]) (n+4)).2=n+5 from rfl]
 have key:∀ (a3:Act) (n3:Nat),n+5<=n3->n3+1<=ntmps->a3.tmps.size=ntmps->a3.defers=[]->a3.get 0=pt B 0->a3.get 2=.bool false->a3.get 6=.nilIface->a3.get cx.b=pt R 0->a3.get cx.ver=.int .i16 vr.1->(cx.hf=true->a3.get cx.fx=.bool (decide ((flex:Int)<=vr.1))) ->
   LW P [dg 0 cx.s] n3 (Exit.then K Q) a3 w:=by
  intro a3 n3 h5 h6 Ro Kp h30 Yk h36 h3b h3v h3f
  refine bt (gJ (x:=cx.s) (m:=n0) (k0:=n0) (.inl rfl) (ae _) aa aa aa λa4 Jp JS=>cD (h a4 w ?_))
  have L3:=Jp.size
  refine⟨⟨hp.rd,(Jp.get _ aa (.inl aa)).trans h3b,JS.trans h30,(Jp.get _ aa (.inl aa)).trans h3v,λhf=>?_,λhf=>by rw[hf];rfl,(Jp.get 2 aa (.inl aa)).trans Yk,hp.err,?_,?_,MB,?_,PG,?_⟩,
   by omega,Jp.defers.trans Kp,(Jp.get 6 aa (.inl aa)).trans h36,hp.keeps,hp.fresh,⟨cur,hB,Js,MW⟩,hp.fds,hp.tgs⟩
  ·have:=hfx' hf
   rw[Jp.get _ aa (.inl aa),h3f hf,hf];rfl
  ·omega
  ·omega
  ·omega
  ·exact az hS hp.keeps.size
 have hq:∀ s,s≠cx.ver->s<n0->a2.get s=a.get s:=λs h1 h2=>IR.get s h1 (.inl h2)
 cases J7:cx.hf with
 | false=>
  simp only[ag,ak,aF]
  exact key a2 (n+5) (ae _) aa aa (IR.defers.trans hp.defers) ((hq 0 aa aa).trans hp.s0) ((hq 2 aa aa).trans hp.s2) ((hq 6 aa aa).trans hp.six) ((hq _ aa aa).trans hp.sb) Ja (λhf=>by rw[J7]at hf;cases hf)
 | true=>
  have:=hfx' J7
  simp only[aw]
  show LW P (bL 2 (λn=>[mk (some n) (.move (tm cx.ver)),mk (some (n+1)) (.binOp .geq g.tVer (tm n) (ki .i16 flex) 0),mk (some cx.fx) (.assign (tm (n+1)))])::bL 1 (λn=>[mk (some n) (.move (tm cx.fx))])::[dg 0 cx.s]) (n+5) (Exit.then K Q) a2 w
  refine bt (bF (bv ?_))
  rw[bp,Ja]
  refine cZ (b:=decide ((flex:Int)<=vr.1)) (p:=vr.1) (q:=flex) (k:=.i16) (by rw[bp,bA aa]) rfl (.inl ⟨rfl,rfl⟩) (b7 (wpList_nil ?_))
  rw[bp,bA (by simp only[bq];omega)]
  rw[show(bL 2 (λn=>[mk (some n) (.move (tm cx.ver)),mk (some (n+1)) (.binOp .geq g.tVer (tm n) (ki .i16 flex) 0),mk (some cx.fx) (.assign (tm (n+1)))]) (n+5)).2=n+7 from rfl]
  refine bt (bF (bv (wpList_nil ?_)))
  rw[bp,bA (by simp only[bq];omega)]
  rw[show(bL 1 (λn=>[mk (some n) (.move (tm cx.fx))]) (n+7)).2=n+8 from rfl]
  have O7:Pv cx.fx n0 n0 (n+5) a2 ((((a2.put (some (n+5)) (.int .i16 vr.1)).put (some (n+5+1)) (.bool (decide ((flex:Int)<=vr.1)))).put (some cx.fx) (.bool (decide ((flex:Int)<=vr.1)))).put (some (n+7)) (.bool (decide ((flex:Int)<=vr.1)))):=
   ((((Pv.refl _ _ _ _ _).put _ aa).put _ aa).put _ aa).put _ aa
  have Ov:((((a2.put (some (n+5)) (.int .i16 vr.1)).put (some (n+5+1)) (.bool (decide ((flex:Int)<=vr.1)))).put (some cx.fx) (.bool (decide ((flex:Int)<=vr.1)))).put (some (n+7)) (.bool (decide ((flex:Int)<=vr.1)))).get cx.fx=.bool (decide ((flex:Int)<=vr.1)):=by
   rw[b8 aa,bA (by simp only[bq];omega)]
  have Ol:∀ s,s≠cx.fx->s<n0->_:=λs h1 h2=>O7.get s h1 (.inl h2)
  exact key _ (n+8) aa aa (by rw[O7.size];omega) (O7.defers.trans (IR.defers.trans hp.defers)) ((Ol 0 aa aa).trans ((hq 0 aa aa).trans hp.s0)) ((Ol 2 aa aa).trans ((hq 2 aa aa).trans hp.s2)) ((Ol 6 aa aa).trans ((hq 6 aa aa).trans hp.six))
   ((Ol _ aa aa).trans ((hq _ aa aa).trans hp.sb)) ((Ol _ aa aa).trans Ja) (λ_=>Ov)
theorem Ds (En:Env P g av fl D){kept:Bool}{cx:Cx}{fs:Fds}{dflt T kt flex n0 ntmps used:Nat}{toff:Option Nat}{nm:Nm}{z cur:Array Value}(Mn:tW ⟨P,g,av,D⟩ kept cx fs dflt T kt toff n0 ntmps nm z used=true)(hn:n0+17<=ntmps)
  {w:World} {B S te:Nat} {ver:Int} {srcv:Value} {r0:RS} (hB:w.heap[B]?=some (.cells cur te (0,0))) (NQ:cur=z.setIfInBounds 0 (.int .i16 ver)) (KP:dj w S srcv r0) (Ju:r0.bad=false) (herr:ErrAt g.gErr w) (hS:S<w.heap.size) (MB:B≠S) (PG:g.gErr≠B)
  {Q:Exit->Act->World->Prop} {K:Act->World->Prop} {a:Act} (ha:a.tmps.size=ntmps) (had:a.defers=[]) (h0:a.get 0=pt B 0) (h1:a.get 1=srcv) (h2:a.get 2=.bool false)
  (h:∀ R a' w',C0 g cx fs toff flex B S te cur.size w (gj kept ver r0) ntmps R a' w'->K a' w'):LW P (lH g kept cx dflt T flex) n0 (Exit.then K Q) a w:=by
 simp only[tW,ac,ai]at Mn
 obtain⟨⟨⟨⟨⟨Jo,Kk⟩,hF⟩,Nv⟩,J3⟩,JL⟩:=Mn
 replace hF:=fldB_ok hF
 split at J3
 ·rename_i wr JO
  simp only[ac,ai,aT,bne_iff_ne]at J3
  obtain⟨⟨⟨⟨⟨⟨Og,SF⟩,NW⟩,JK⟩,Y6⟩,NN⟩,Yp⟩:=J3
  obtain⟨NU,Qz⟩:=En.df _ _ JO
  have Y5:q3 cx=max (max cx.b cx.s) (max cx.ver cx.fx)+1:=rfl
  have NV:B<w.heap.size:=(aj.1 hB).1
  obtain⟨te',xe,PI⟩:=herr
  have OD:=e8 PI
  have Js:cur.size=z.size:=by rw[NQ];simp
  unfold lH
  simp only[ao]
  refine bt (eW (x:=6) (m:=n0) (k0:=n0) (.inl rfl) aa λa1 IP IY=>?_)
  have IX:=IP.size
  rw[show(co 6 .nilIface n0).2=n0 from rfl]
  have La:∀ s,s≠6->s<n0->a1.get s=a.get s:=λs h1 h2=>IP.get s h1 (.inl h2)
  refine bt (lS (x:=6) (m:=n0) (k0:=n0) (B:=B) (O:=0) (cur:=cur) (te:=te) NU Qz ((La 0 aa aa).trans h0) hB (λq hq=>by have:=Og q hq;omega) (ae _) (ae _) aa λa2 w2 IR hsame2 IV Mu=>?_)
  have Jr:=IR.size
  rw[show(eO 0 dflt n0).2=n0+2 from rfl]
  have QM:∀ j,1<=j->(applyWr cur 0 wr)[j]?=(applyWr z 0 wr)[j]?:=by
   have Xh:∀ (l:List (Nat × Value)) (c1 c2:Array Value),c1.size=c2.size->(∀ j,1<=j->c1[j]?=c2[j]?)->∀ j,1<=j->(applyWr c1 0 l)[j]?=(applyWr c2 0 l)[j]?:=by
    intro l
    induction l with
    | nil=>intro c1 c2 _ hc j hj;exact hc j hj
    | cons p l ih=>
     intro c1 c2 Jc hc j hj
     refine ih _ _ (by simpa using Jc) (λi hi=>?_) j hj
     rw[ay,ay,Jc,hc i hi]
   refine Xh wr cur z Js λj hj=>?_
   rw[NQ,ay,al aa]
  have MW:(applyWr cur 0 wr)[0]?=some (.int .i16 ver):=by
   rw[jO 0 wr cur 0 (λq hq=>by have:=Og q hq;omega),NQ]
   simp[Yp]
  have U8:vh w2 B 0 (applyWr cur 0 wr):=λj v hj=>by simp only[World.cell?,Mu];simpa using hj
  have Xr:∀ X,RpF w2 X fs B 0 (dfFds fs):=λX=>zFds_ok U8 X fs 0 (zFds_agree QM fs 0 (.inr JK) SF)
  have MF:mo w2 B 0 toff:=by
   cases toff with
   | none=>trivial
   | some o=>
    have ho:o≠0:=λh=>Y6 (by rw[h])
    refine U8.one ?_
    simp only[Iu,iS]at NW ⊢
    rw[QM o aa]
    exact NW
  have Nk:dj w2 S srcv r0:=KP.keep IV (λh=>MB h.symm)
  refine bt (bF (bv ?_))
  rw[bp,hsame2 1 aa,La 1 aa aa,h1]
  refine mK En.kb (y:=n0+2) (v:=srcv) (bA aa) Nk Ju (by simp only[bq];omega) (by simp only[bq];omega) aa (wpList_nil ?_)
  rw[show(bL 2 (λn=>[mk (some n) (.move (tm 1)),mk (some (n+1)) (.build g.tR #[(0,tm n)]),mk (some cx.b) (.alloc g.tR),mk none (.store g.tR (tm cx.b) (tm (n+1)))]) (n0+2)).2=n0+4 from rfl]
  have IZ:br (λ_=>False) w2 ((w2.alloc (.cells #[.slice none 0 0,.bool false] g.tR (0,0))).setRow w2.heap.size #[srcv,.bool false]):=fT _ _ _ _
  have JQ:=mf (T:=g.tR) Nk Ju
  have Ro:((w2.alloc (.cells #[.slice none 0 0,.bool false] g.tR (0,0))).setRow w2.heap.size #[srcv,.bool false]).heap.size=w2.heap.size+1:=by simp
  have IW:Pv cx.b n0 n0 (n0+2) a2 ((((a2.put (some (n0+2)) srcv).put (some (n0+2+1)) (.agg #[srcv,.bool false])).put (some cx.b) (pt w2.heap.size 0))):=(((Pv.refl _ _ _ _ _).put _ aa).put _ aa).put _ aa
  have Jw:((((a2.put (some (n0+2)) srcv).put (some (n0+2+1)) (.agg #[srcv,.bool false])).put (some cx.b) (pt w2.heap.size 0))).get cx.b=pt w2.heap.size 0:=bA (by simp only[bq];omega)
  generalize(((a2.put (some (n0+2)) srcv).put (some (n0+2+1)) (.agg #[srcv,.bool false])).put (some cx.b) (pt w2.heap.size 0))=a3 at IW Jw ⊢
  generalize(w2.alloc (.cells #[.slice none 0 0,.bool false] g.tR (0,0))).setRow w2.heap.size #[srcv,.bool false]=w3 at IZ JQ Ro ⊢
  have JI:=IW.size
  have Oi:=IV.size
  have Ol:∀ s,s≠cx.b->s≠6->s<n0->a3.get s=a.get s:=λs h1 h2 h3=>(IW.get s h1 (.inl h3)).trans ((hsame2 s aa).trans (La s h2 h3))
  have Zx:w3.heap[B]?=some (.cells (applyWr cur 0 wr) te (0,0)):=by rw[IZ.block B aa id];exact Mu
  have Uh:∀ X,RpF w3 X fs B 0 (dfFds fs):=λX=>RpF.frameIn (IZ.mono λ_ _ h=>h.elim) fs B 0 _ (Xr X) λj _=>dI (IZ.block B aa id) j
  have My:mo w3 B 0 toff:=by
   cases toff with
   | none=>trivial
   | some o=>exact IZ.cell id MF
  have Ob:ErrAt g.gErr w3:=⟨te',xe,IZ.cell id (IV.cell PG PI)⟩
  have Kd:br (·=B) w w3:=IV.trans (IZ.mono λ_ _ h=>h.elim)
  have MJ:IF g cx fs toff B S te cur.size w (ver,r0) ntmps w2.heap.size a3 w3:=
   ⟨JQ,Jw,(Ol 0 aa aa aa).trans h0,(Ol 2 aa aa aa).trans h2,by omega,IW.defers.trans (IR.defers.trans (IP.defers.trans had)),(IW.get 6 aa (.inl aa)).trans ((hsame2 6 aa).trans IY),Kd,Oi,
    ⟨_,Zx,eE _ _ _,MW⟩,Uh,My,Ob⟩
  cases hkp:kept with
  | false=>
   rw[hkp]at h
   simp only[ag,ak]
   exact rl Jo hF MJ aa aa hS NV MB PG OD (λa' w' hh=>h _ a' w' hh)
  | true=>
   rw[hkp]at h Nv
   have Qo:av .i16=true:=by simpa using Nv
   simp only[aw]
   have hRS:S≠w2.heap.size:=by omega
   refine bt (bF (bv ?_))
   rw[bp,MJ.s0]
   refine cj (vs:=#[pt w2.heap.size 0]) (En.kb.rdE _ Qo) (by simp[bp,b8 (show cx.b≠n0+4 by omega),Jw]) (En.kb.rdC _ Qo w3 S w2.heap.size r0 JQ hRS) λe w4 hR=>?_
   obtain⟨val,he,JP,Jm,S6⟩:=hR
   refine⟨_,he,?_⟩
   refine bY (by rw[bp,b8 aa,bA aa];rfl) ?_
   refine dt (by rw[bp,bA (by simp only[bq];omega)]) hF ?_
   obtain⟨x,V8,hx2,_⟩:=S6 (λ_=>False) (λ_ h=>h.elim) id
   have hx3:x=(rI 2 r0).1:=by
    have e:(PF.run .i16 r0).1=.n (rI 2 r0).1:=rfl
    rw[e]at hx2
    exact(V.n.inj hx2).symm
   have PM:B≠w2.heap.size:=by omega
   have PN:w4.heap[B]?=some (.cells (applyWr cur 0 wr) te (0,0)):=by rw[Jm.block B aa PM];exact Zx
   have V9:(applyWr cur 0 wr).size=cur.size:=eE _ _ _
   refine cK (cur:=applyWr cur 0 wr) (t:=te) (v:=val) (vs:=[.int .i16 x]) (by rw[bp,bA (by simp only[bq];omega)]) (by rw[bp,b8 aa,b8 aa,bA (by simp only[bq];omega)]) V8 (hF.var.size _) PN (by rw[V9];simp only[List.length_cons,List.length_nil];omega)
    (λu hu=>by simp at hu;rw[hu];rfl) (wpList_nil ?_)
   rw[aN,j6 aa]
   have SJ:(w4.setRow B ((applyWr cur 0 wr).setIfInBounds 0 (.int .i16 x))).heap[B]?=some (.cells ((applyWr cur 0 wr).setIfInBounds 0 (.int .i16 x)) te (0,0)):=setRow_heap _ _ _ _ _ _ PN
   have JZ:br (·=B) w4 (w4.setRow B ((applyWr cur 0 wr).setIfInBounds 0 (.int .i16 x))):=br.setRow _ _ _ _ rfl
   have MU:∀ j,fs.In 0 j->(w4.setRow B ((applyWr cur 0 wr).setIfInBounds 0 (.int .i16 x))).cell? ⟨B,j,none⟩=w4.cell? ⟨B,j,none⟩:=λj hj=>by
    have KH:¬ (0=j):=λh=>s3 fs j JK hj h.symm
    simp only[World.cell?,SJ,PN,ay,KH,ak]
   have WR:br (λk=>k=w2.heap.size) w3 w4:=Jm
   have Xq:∀ X,RpF w4 X fs B 0 (dfFds fs):=λX=>RpF.mono (λk _ hk=>.inl hk) fs B 0 _ (RpF.frameIn (WR.mono λk _ hk=>.inr hk) fs B 0 _ (Uh (λk=>X k \/ k=w2.heap.size)) λj _=>dI (Jm.block B aa PM) j)
   have Xp:∀ X,RpF (w4.setRow B ((applyWr cur 0 wr).setIfInBounds 0 (.int .i16 x))) X fs B 0 (dfFds fs):=λX=>RpF.mono (λk _ hk=>.inl hk) fs B 0 _ (RpF.frameIn (JZ.mono λk _ hk=>.inr hk) fs B 0 _ (Xq (λk=>X k \/ k=B)) MU)
   have VT:mo (w4.setRow B ((applyWr cur 0 wr).setIfInBounds 0 (.int .i16 x))) B 0 toff:=by
    cases toff with
    | none=>trivial
    | some o=>
     have ho:o≠0:=λh=>Y6 (by rw[h])
     have h4:w4.cell? ⟨B,0+o,none⟩=some (.map none):=Jm.cell PM My
     show(w4.setRow B ((applyWr cur 0 wr).setIfInBounds 0 (.int .i16 x))).cell? ⟨B,0+o,none⟩=some (.map none)
     rw[<- h4]
     have KH:¬ (0=0+o):=by omega
     simp only[World.cell?,SJ,PN,ay,KH,ak]
   refine rl (vr:=rI 2 r0) (R:=w2.heap.size) (n:=n0+8) Jo hF ⟨?_,?_,?_,?_,?_,?_,?_,?_,?_,?_,Xp,VT,?_⟩ aa aa hS NV MB PG OD (λa' w' hh=>h _ a' w' hh)
   ·exact JP.keep JZ (λh=>MB h.symm) (λh=>PM h.symm)
   ·rw[b8 aa,b8 aa,b8 aa,b8 aa];exact Jw
   ·rw[b8 aa,b8 aa,b8 aa,b8 aa];exact MJ.s0
   ·rw[b8 aa,b8 aa,b8 aa,b8 aa];exact MJ.s2
   ·simp only[bq];exact MJ.size
   ·simp only[b6];exact MJ.defers
   ·rw[b8 aa,b8 aa,b8 aa,b8 aa];exact MJ.six
   ·refine⟨Jm.os.trans Kd.os,Jm.tape.trans Kd.tape,Jm.output.trans Kd.output,by have:=Jm.size;have:=Kd.size;have:=JZ.size;omega,λq hq hx=>?_⟩
    have:=Kd.size
    have:=Jm.size
    rw[JZ.block q aa hx,Jm.block q aa aa,Kd.block q hq hx]
   ·exact Oi
   ·exact⟨_,SJ,by simp[V9],by rw[<- hx3];simp[V9,Js,Yp]⟩
   ·obtain⟨t6,x6,h6⟩:=Ob
    exact⟨t6,x6,JZ.cell PG (Jm.cell aa h6)⟩
 ·cases J3
end
end
section
variable {P:Program} {g:G} {av:PF->Bool} {fl:Bool} {D:Nat->Option (List (Nat × Value))}
def rN (g:G)(kept:Bool)(cx:Cx)(fs:Fds)(dflt T kt flex n0:Nat)(m:Nm):Nat:=
 (gL (lH g kept cx dflt T flex++(iC g cx fs.tagged T kt m (gFds g cx fs m.s) (gTagd g cx fs m.s)++Du g cx.b)) n0).2
def lM (fs:Fds)(toff:Option Nat)(B S te csz:Nat)(w:World)(ver:Int)(out:dV V)(x:Value)(w':World):Prop:=
 br (·=B) w w' /\
 match out with
 | .ok v r=>(r.bad=false->x=.nilIface)/\(r.bad=true->∃ t y,x=.iface t y) /\
   ∃ vs t cur,v=.st vs t/\w'.heap[B]?=some (.cells cur te (0,0))/\cur.size=csz/\cur[0]?=some (.int .i16 ver)/\vi w S (λX=>RpF w' X fs B 0 vs)/\vi w S (λX=>gM w' X B 0 toff t)
 | .err=>∃ t y,x=.iface t y
 | .stuck=>False
def ij (hf:Bool)(flex:Nat)(fs:Fds)(ver:Int)(r:RS):dV V:=
 dS (hf&&decide ((flex:Int)<=ver)) fs.tagged (rdFds (hf&&decide ((flex:Int)<=ver)) ver fs) (rdTag (hf&&decide ((flex:Int)<=ver)) ver fs) r
theorem Di (En:Env P g av fl D){f ntmps:Nat}{kept:Bool}{cx:Cx}{fs:Fds}{dflt T kt flex n0:Nat}{toff:Option Nat}{nm:Nm}{z:Array Value}(Jb:cx.hf=true->fl=true)(hfn:FnIs P f ntmps [6] (gRead g cx.hf kept cx fs dflt T kt flex n0 nm))
  (Mn:tW ⟨P,g,av,D⟩ kept cx fs dflt T kt toff n0 ntmps nm z (rN g kept cx fs dflt T kt flex n0 nm)=true) (UU:n0+17<=ntmps)
  {w:World} {B S te:Nat} {ver:Int} {srcv:Value} {r0:RS} (hB:w.heap[B]?=some (.cells (z.setIfInBounds 0 (.int .i16 ver)) te (0,0))) (KP:dj w S srcv r0) (Ju:r0.bad=false) (herr:ErrAt g.gErr w) (hS:S<w.heap.size) (MB:B≠S) (PG:g.gErr≠B)
  (MP:ij cx.hf flex fs (gj kept ver r0).1 (gj kept ver r0).2≠.stuck) :
  Calls P f #[pt B 0,srcv,.bool false] w λe w'=>∃ x,e=.returned x/\lM fs toff B S te z.size w (gj kept ver r0).1 (ij cx.hf flex fs (gj kept ver r0).1 (gj kept ver r0).2) x w':=by
 refine hfn.calls En.kb.mixed ab ?_
 rw[BZ]
 have Uy:=Mn
 simp only[tW,ac,ai]at Mn
 obtain⟨⟨⟨⟨⟨Jo,Kk⟩,hF⟩,Nv⟩,J3⟩,JL⟩:=Mn
 obtain⟨NN,JK,VU⟩:fs.ext (ft toff)<=z.size/\wj fs=true/\toff≠some 0:=by
  split at J3
  ·simp only[ac,ai,bne_iff_ne]at J3
   exact⟨J3.1.2,J3.1.1.1.2,J3.1.1.2⟩
  ·cases J3
 have Y5:q3 cx=max (max cx.b cx.s) (max cx.ver cx.fx)+1:=rfl
 have Jc:=dw #[pt B 0,srcv,.bool false] ntmps (by show 3<=ntmps;omega)
 have hupE:ka (Du g cx.b):=bw (bD _ _) (bw (dc _) bK)
 have VM:ka (iC g cx fs.tagged T kt nm (gFds g cx fs nm.s) (gTagd g cx fs nm.s)):=j4 (up_gFds g fs nm.s cx) (up_gTagd g fs nm.s cx)
 unfold rN at Kk
 rw[cz,cz]at Kk
 have Nj:=VM (gL (lH g kept cx dflt T flex) n0).2
 have hused':(gL (iC g cx fs.tagged T kt nm (gFds g cx fs nm.s) (gTagd g cx fs nm.s)) (gL (lH g kept cx dflt T flex) n0).2).2+1<=ntmps:=Kk
 have TU:n0<=(gL (lH g kept cx dflt T flex) n0).2:=by
  refine(show ka (lH g kept cx dflt T flex) from ?_) n0
  unfold lH
  exact bN (bN (bN (bN (bw (bD _ _) (bw (bD _ _) (bw (bD _ _) bK))) (fJ (bw (bD _ _) bK) bK)) (bw (bD _ _) (bw (bD _ _) bK))) (fJ (bw (bD _ _) (bw (bD _ _) bK)) bK)) (bw (bD _ _) bK)
 generalize hnH:(gL (lH g kept cx dflt T flex) n0).2=nH at *
 refine cC (ip ?_)
 rw[hnH]
 refine Ds En Uy UU hB rfl KP Ju herr hS MB PG Jc rfl (by rw[db _ _ _ ab];rfl) (by rw[db _ _ _ ab];rfl) (by rw[db _ _ _ ab];rfl) λR a1 w1 hh=>?_
 have IX:=hh.size
 generalize Yx:gj kept ver r0=vr at *
 obtain⟨cur,MC,Js,MW⟩:=hh.blk
 have L4:(z.setIfInBounds 0 (.int .i16 ver)).size=z.size:=by simp
 rw[L4]at Js
 have Xl:cx.fx≠6:=by
  rcases Jo.2.2.2.2.2.2.2 with h2|h2
  ·have:=h2.2.1;omega
  ·have:=h2.2;omega
 have LB:fX cx (q3 cx) n0:=⟨⟨by omega,by omega⟩,⟨by omega,by omega⟩,⟨by omega,by omega⟩,⟨by omega,Xl⟩,by omega,by omega⟩
 have NY:=hh.keeps.size
 have Xn:=hh.fresh
 refine ip ?_
 rw[cn]
 refine Gq En fs nm cx (cx.hf&&decide ((flex:Int)<=vr.1)) vr.1 S R B 0 vr.2 (q3 cx) n0 nH T kt toff _ _ a1 w1 te JL hh.rc LB Jb TU aa aa ⟨cur,MC,by omega⟩ (.inr ⟨hh.fds,hh.tgs⟩) ⟨λv r' a2 w2 he IR Jt J1 hv=>?_,λhe a2 w2 IR hif IV=>?_,MP⟩
 ·have Jr:=IR.size
  obtain⟨vs,t,rfl,UQ,hT2⟩:=hv
  have Wc:a2.get cx.b=pt R 0:=(IR.get _ aa (.inl aa)).trans hh.rc.sb
  obtain⟨tE,xE,XZ⟩:=hh.rc.err
  have V1:ErrAt g.gErr w2:=ErrAt.keep ⟨tE,xE,XZ⟩ J1.keeps (λh=>by rcases h with h|h;exact hh.rc.gR h;exact hh.rc.gB h)
  obtain⟨cur2,Mu,hcs2,Xz⟩:=J1.blk cur te MC
  have X7:cur2[0]?=some (.int .i16 vr.1):=by
   rw[Xz 0 (λh=>?_)]
   ·exact MW
   ·rcases h with h|⟨o,h1,h2⟩
    ·exact s3 fs 0 JK h rfl
    ·have h0:o=0:=by omega
     exact VU (by rw[h1,h0])
  refine bt (bF (cj (vs:=#[pt R 0]) En.kb.cmE (by simp[bp,Wc]) (En.kb.cmC w2 S R r' Jt V1) λe w3 hR=>?_))
  obtain⟨IZ,x,Uq,Ra,V8⟩:=hR
  refine⟨_,Uq,b7 (wpList_nil (bt (.ret ?_)))⟩
  rw[bp,bA aa]
  refine⟨?_,x,?_,?_⟩
  ·simp only[b6];exact IR.defers.trans hh.defers
  ·simp only[cE]
   rw[bA (by simp only[bq];omega)]
  ·refine⟨?_,?_⟩
   ·refine⟨IZ.os.trans (J1.keeps.os.trans hh.keeps.os),IZ.tape.trans (J1.keeps.tape.trans hh.keeps.tape),IZ.output.trans (J1.keeps.output.trans hh.keeps.output),?_,λq hq hx=>?_⟩
    ·have:=IZ.size
     have:=J1.keeps.size
     omega
    ·have:=J1.keeps.size
     rw[IZ.block q aa id,J1.keeps.block q aa (λh=>by rcases h with h|h;omega;exact hx h),hh.keeps.block q hq hx]
   ·rw[show ij cx.hf flex fs vr.1 vr.2=.ok (.st vs t) r' from he]
    have Sv:B<w2.heap.size:=(aj.1 Mu).1
    refine⟨Ra,V8,vs,t,cur2,rfl,by rw[IZ.block B Sv id];exact Mu,by omega,X7,λX hX hS'=>?_,λX hX hS'=>?_⟩
    ·exact RpF.frameIn (IZ.mono λ_ _ h=>h.elim) fs B 0 vs (UQ X (λk hk=>az (hX k hk) NY) hS') λj _=>dI (IZ.block B Sv id) j
    ·exact(hT2 X (λk hk=>az (hX k hk) NY) hS').frame (IZ.mono λ_ _ h=>h.elim) λk _=>dI (IZ.block B Sv id) _
 ·obtain⟨tE,yE,hE⟩:=hif
  refine⟨IR.defers.trans hh.defers,.iface tE yE,by simp only[cE];rw[hE],?_,?_⟩
  ·refine⟨IV.os.trans hh.keeps.os,IV.tape.trans hh.keeps.tape,IV.output.trans hh.keeps.output,am NY IV.size,λq hq hx=>?_⟩
   rw[IV.block q aa (λh=>by rcases h with h|h;omega;exact hx h),hh.keeps.block q hq hx]
  ·rw[show ij cx.hf flex fs vr.1 vr.2=.err from he]
   exact⟨tE,yE,rfl⟩
end
