/-
  PLAIN LAWS AND CONTRACTS of messages, part 5.
-/
import Derived.Test.YtbgklecbmhaadaaGreatDoorK4

namespace Go.Proofs.YtbgklecbmhaadaaGreatDoor.Kx
open Go
section
variable {P:Program} {g:G} {av:PF->Bool} {fl:Bool} {D:Nat->Option (List (Nat × Value))}
theorem uG (K0:KB P g av fl){fs:Fds}(h1:pz P g av fl D fs)(h2:kP P g av fl D fs):Aj P g av fl D fs:=by
 intro nm cx fx ver S R B O r m k0 n T kt toff K E a w te G1 Gl hc Gw hk Hu hn hb Iy ho
 simp only[wy,Bool.and_eq_true]at G1
 obtain⟨⟨⟨JV,IJ⟩,Im⟩,Nl⟩:=G1
 have Jb:R<w.heap.size:=Gl.rd.lt
 have IT:B<w.heap.size:=hb.lt
 have G5:=hc.le
 have MZ:=up_gFds g fs nm.s cx n
 have hpl':fs.plain=true \/ ∀ X,RpF w X fs B O (dfFds fs):=by
  rcases Iy with h|h
  ·exact .inl h.1
  ·exact .inr h.1
 unfold fI at hn ⊢
 rw[bc]at hn
 refine fj ?_
 rw[aV]
 refine h1 nm.s cx fx ver S R B O r m k0 n T (d9 toff) _ E a w te JV IJ Gl hc Gw hk Hu ?_ hb hpl' ⟨fun vs r1 a1 w1 he Gk HQ I9 Hz=>?_,fun he a1 w1 Gk hif Gy=>?_,fun he=>?_⟩
 ·have hu:iM (if(!cx.hf)=true then[]else if fs.tagged=true then[ix cx (mQ g cx (nm.n 0) (nm.n 2) (nm.n 3) (gS [aF g.uv cx.b (nm.n 1),kd g cx (nm.n 1) (nm.n 4) T kt (gTagd g cx fs nm.s)])) b6] else[ix cx (lZ g cx T kt) b6]:List GC):=
   dS ax (dS (ae (cg (oN (eE (ae (aq _ _) (ae (lO (up_gTagd g fs nm.s cx)) ax)))) (b7 _)) ax) (ae (cg (aq _ _) (b7 _)) ax))
  exact Nat.le_trans (hu _) hn
 ·have Gu:=Gk.size
  have G6:RC g cx fx ver S R B O r1 a1 w1:=Gl.step hc Gk HQ I9.keeps (fun _ _ h=>h)
  have Hc:=hb.evo I9
  have hev1':em R B (fs.Zn toff O) w w1:=I9.mono fun j hj=>.inl hj
  have HU:fz fx fs.tagged (rdFds fx ver fs) (rdTag fx ver fs) r=(if !fx then .ok (.st vs []) r1 else if fs.tagged then bW (rdTag fx ver fs) (bD r1).1 vs [] (bD r1).2 else .ok (.st vs (fW (bD r1).1 [] (bD r1).2).1) (fW (bD r1).1 [] (bD r1).2).2):=by
   simp only[fz,he,gF.bind]
  rw[HU]at ho
  cases GR:cx.hf with
  | false=>
   have HN:=Gl.nf GR
   subst HN
   simp only[Bool.not_false,if_true]
   have LB:toff=none:=by
    cases toff with
    | none=>rfl
    | some o=>rw[GR]at Im;simp at Im
   subst LB
   refine bg (ho.ok _ r1 a1 w1 rfl Gk HQ hev1' ⟨vs,[],rfl,Hz,fun X _ _=>rfl⟩)
  | true=>
   simp only[GR,Bool.not_true,Bool.false_eq_true,if_false]at hn ⊢
   obtain⟨o,LB,hF,IW⟩:∃ o,toff=some o/\bp P T kt g.tTags o true 1/\ku fs o (o+1)=true:=by
    cases toff with
    | none=>rw[GR]at Im;simp at Im
    | some o=>
     simp only[Bool.and_eq_true]at Im
     exact⟨o,rfl,fldB_ok Im.1.2,Im.2⟩
   subst LB
   have Nn:¬ fs.In O (O+o):=fun h=>fg fs o (o+1) O (O+o) IW h ⟨by omega,by omega⟩
   have KY:=jn fs (o+1)
   have Qj:o<fs.ext (d9 (some o)):=by show o<fs.ext (o+1);omega
   have hfl':=Gw GR
   have NA:fx=false->∀ a',Pv 6 m k0 n a a'->K a' w1:=fun HN a' GK=>by
    subst HN
    have hT0:sx w S (fun X=>eJ w X B O (some o) []):=fun X _ _=>by
     rcases Iy with h|h
     ·cases h.2
     ·exact h.2.at X
    refine ho.ok _ r1 a' w1 rfl GK HQ hev1' ⟨vs,[],rfl,Hz,?_⟩
    exact eJ.evoA (A:=(·<w.heap.size)) I9 Jb IT Gl.SR.symm Gl.BS hb hT0 (fun k hk h=>by cases hk;exact Nn h)
   cases Hv:fs.tagged with
   | false=>
    simp only[Hv,Bool.false_eq_true,if_false,gL]at hn ⊢
    refine ad ?_
    rw[aV]
    have If:(gL (gFds g cx fs nm.s) n).2+5<=a.tmps.size:=hn
    refine o8 (x:=6) (m:=m) (k0:=k0) (fx:=fx) (G6.sf GR) G5 (by omega) (by omega) fun a2 Gm=>?_
    have G9:=Gm.size
    have GQ:Pv 6 m k0 n a a2:=Gk.trans (Gm.mono (Nat.le_refl _) MZ)
    cases HN:fx with
    | false=>exact .skip (bg (NA HN a2 GQ))
    | true=>
     subst HN
     simp only[if_true]
     simp only[Bool.not_true,Bool.false_eq_true,if_false,Hv]at ho
     have Hf:RC g cx true ver S R B O r1 a2 w1:=G6.step hc Gm HQ (ac.refl (fun _=>False) w1) (fun _ _ h=>h.elim)
     obtain⟨cur,Ix,Ii⟩:=Hc
     rw[<- aV (N:=fun _ _=>True)]
     have hoext':o<fs.ext (d9 (some o)):=Qj
     refine sS (m:=m) (k0:=k0) (cur:=cur) (te:=te) K0 hfl' Hf hc hF Ix (by omega) (by omega) (by omega) fun a3 w3 Gt HA KZ J6=>?_
     refine bg (ho.ok _ _ a3 w3 rfl (GQ.trans (Gt.mono (Nat.le_refl _) (by omega))) HA (hev1'.trans (KZ.mono fun j hj=>.inr ⟨o,rfl,hj⟩)) ⟨vs,_,rfl,?_,fun X hX hS=>J6 X (fun k hk=>Nat.lt_of_lt_of_le (hX k hk) I9.keeps.size) hS⟩)
     exact RpF.evoA (A:=(·<w.heap.size)) KZ Jb IT Gl.SR.symm Gl.BS ⟨cur,Ix,Ii⟩ Hz (fun j hj h=>by rw[h]at hj;exact Nn hj)
   | true=>
    simp only[Hv,if_true,gL]at hn ⊢
    refine ad ?_
    rw[aV]
    simp only[GR,Hv,Bool.and_self,Bool.not_true,Bool.false_or,Bool.and_eq_true,decide_eq_true_eq]at Nl
    obtain⟨G7,Nl⟩:=Nl
    generalize H8:(gS [aF g.uv cx.b (nm.n 1),kd g cx (nm.n 1) (nm.n 4) T kt (gTagd g cx fs nm.s)]:GC)=body at hn ⊢
    have Og:Up body:=by
     rw[<- H8]
     exact eE (ae (aq _ _) (ae (lO (up_gTagd g fs nm.s cx)) ax))
    have If:(body ((gL (gFds g cx fs nm.s) n).2+1+5)).2<=a.tmps.size:=hn
    have Vx:=Og ((gL (gFds g cx fs nm.s) n).2+1+5)
    refine o8 (x:=6) (m:=m) (k0:=k0) (fx:=fx) (G6.sf GR) G5 (by omega) (by omega) fun a2 Gm=>?_
    have G9:=Gm.size
    have GQ:Pv 6 m k0 n a a2:=Gk.trans (Gm.mono (Nat.le_refl _) MZ)
    cases HN:fx with
    | false=>exact .skip (bg (NA HN a2 GQ))
    | true=>
     subst HN
     simp only[if_true]
     simp only[Bool.not_true,Bool.false_eq_true,if_false,Hv,if_true]at ho
     have Hf:RC g cx true ver S R B O r1 a2 w1:=G6.step hc Gm HQ (ac.refl (fun _=>False) w1) (fun _ _ h=>h.elim)
     have Qn:ky w B O (some o):=by
      rcases Iy with h|h
      ·rw[jJ fs h.1]at Hv;cases Hv
      ·exact h.2
     have hT1:sx w S (fun X=>eJ w1 X B O (some o) []):=eJ.evoA (A:=(·<w.heap.size)) I9 Jb IT Gl.SR.symm Gl.BS hb (fun X _ _=>Qn.at X) (fun k hk h=>by cases hk;exact Nn h)
     have J9:w1.cell? ⟨B,O+o,none⟩=some (.map none):=by
      obtain⟨cur,Ix,_⟩:=hb
      rw[I9.cell Ix Nn];exact Qn
     refine xX (m:=m) (k0:=k0) (i:=nm.n 0) K0 hfl' Hf hc ⟨G7.1,by omega⟩ (by omega) (by omega)
      (Bp g S R B O o fs ver w (bW (rdTag true ver fs) (bD r1).1 vs [] (bD r1).2)) (fun w2 GJ Gs=>?_) (fun c a3 w3 Gt hI=>?_) (fun a3 w3 Gt hI=>?_)
     ·have GO:em R B (fun _=>False) w1 w2:=em.of_keeps Gs (fun _ _ h=>h) Gl.BR
      refine⟨vs,[],(bD r1).2,.map none,rfl,GJ,(I9.mono fun j hj=>.inl hj).trans (GO.mono fun j hj=>hj.elim),?_,.inl ⟨rfl,rfl⟩,?_,?_⟩
      ·obtain⟨cur,Ix,_⟩:=Hc
       rw[GO.cell Ix id];exact J9
      ·refine(RpF.evoA (A:=(·<w.heap.size)) GO Jb IT Gl.SR.symm Gl.BS Hc Hz (fun _ _ h=>h)).mono fun k hk=>?_
       rcases hk with hk|hk
       ·exact hk
       ·cases hk
      ·exact eJ.evoA (A:=(·<w.heap.size)) GO Jb IT Gl.SR.symm Gl.BS Hc hT1 (fun _ _ h=>h)
     ·have Hh:=Gt.size
      rw[<- H8]at If ⊢
      exact xN (r0:=r) (_mm:=0) K0 h2 Nl IJ hF IW G7 (Gl.step hc GQ Gl.rd (ac.refl (fun _=>False) w) (fun _ _ h=>h.elim)) hc GR hfl' (by omega) (by omega) (by omega) hb Gt hI ho.go
       (fun he a' w' GK hif H5=>ho.err he a' w' (GQ.trans (GK.mono (Nat.le_refl _) (by omega))) hif H5)
     ·obtain⟨vs',t,r',mm,Id,HA,KZ,U1,IQ,UV,UP⟩:=hI
      have Ni:Pv 6 m k0 n a a3:=GQ.trans (Gt.mono G7.1 (by omega))
      refine bg (ho.ok (.st vs' t) r' a3 w3 (by rw[Id];rfl) Ni HA (KZ.mono fun j hj=>?_) ⟨vs',t,rfl,UV.mono fun k hk=>.inl hk,UP⟩)
      rcases hj with hj|hj
      ·exact .inl hj
      ·exact .inr ⟨o,rfl,hj⟩
 ·exact ho.err (by simp only[fz,he,gF.bind]) a1 w1 Gk hif Gy
 ·exact ho.go (by simp only[fz,he,gF.bind])
end
theorem Pv.weak {x m k0 n:Nat}{a b:Act}(h:Pv x k0 k0 n a b)(hx:m<=x/\x<k0):Pv 6 m k0 n a b:=
 ⟨h.size,h.defers,fun s hs hh=>h.get s (by omega) (by omega)⟩
theorem RC.withS {g:G}{cx:Cx}{fx:Bool}{ver:Int}{S R B O p o s':Nat}{r:RS}{a:Act}{w:World}(h:RC g cx fx ver S R B O r a w)(hs:a.get s'=pt p o)(M9:p≠R)(LE:p≠S)(NB:g.gErr≠p):RC g { cx with s:=s' } fx ver S R p o r a w:=
 ⟨h.rd,h.sb,hs,h.sv,h.sf,h.nf,h.su,h.err,h.SR,M9,LE,h.gR,NB,h.Slt⟩
section
variable {P:Program} {g:G} {av:PF->Bool} {fl:Bool} {D:Nat->Option (List (Nat × Value))}
def Ak (P:Program)(g:G)(av:PF->Bool)(fl:Bool)(D:Nat->Option (List (Nat × Value)))(e:Ty):Prop:=
 ∀ (nm:Nm) (cx:Cx) (fx:Bool) (ver:Int) (S R B O:Nat) (r:RS) (m k0 n esz:Nat) (z:Array Value) (y i F E' p cnt c j:Nat) (cur:Array Value) (K E:Act->World->Prop) (a:Act) (w:World) (te:Nat),
  okEl ⟨P,g,av,D⟩ cx.hf m k0 esz z e nm=true->m3 P F E' esz z->RC g cx fx ver S R B O r a w->eb cx m k0->(cx.hf=true->fl=true)->k0<=n->k0<=a.tmps.size->(gL (gEl g cx e y i F nm) n).2<=a.tmps.size ->
  a.get y=.slice (some ⟨p,0,none⟩) cnt c->a.get i=.int .i32 j->j<cnt->y<m->i<m->y≠6->i≠6->w.heap[p]?=some (.cells cur te (0,0))->j*esz+esz<=cur.size->sw w p (j*esz) z->p≠R->p≠S->g.gErr≠p ->
  wX g S R p (fun t=>j*esz<=t/\t<j*esz+esz) m k0 n a w (e7 fx ver e (dl 0 e) r) (fun v w'=>sx w S fun X=>Rp w' X e p (j*esz) v) K E ->
  LW P (gEl g cx e y i F nm) n (Rt K E) a w
theorem qF (K0:KB P g av fl){e:Ty}(hl:e.leaf=true):Ak P g av fl D e:=by
 intro nm cx fx ver S R B O r m k0 n esz z y i F E' p cnt c j cur K E a w te G1 GB Gl hc Gw hk Hu hn hy hi hj hym Lz N5 hi6 hp G0 hz M9 LE NB ho
 have Jb:R<w.heap.size:=Gl.rd.lt
 have Tj:p<w.heap.size:=(Array.getElem?_eq_some_iff.1 hp).1
 have G5:=hc.le
 obtain⟨hg,HG,hE,Jf,KL⟩:gEl g cx e y i F nm=ib g cx e (nm.n 0) (nm.l.drop 2)++[kf (k6 g e) y i (nm.n 0) F (nm.n 1)]/\iF ⟨P,g,av,D⟩ cx.hf m k0 e (nm.n 0) (nm.l.drop 2)=true/\(∀ w,(sizeOf (nm.n 1)).run P w=.ok esz w)/\e.sz=esz /\
   (k6 g e=none \/ (k6 g e=some g.tUuid/\bd P g.tUuid true e.sz)):=by
  cases e with
  | list=>cases hl
  | struct=>cases hl
  | prim q=>
   simp only[okEl,Bool.and_eq_true,beq_iff_eq,Bool.or_eq_true,bne_iff_ne]at G1
   obtain⟨⟨⟨h1,h2⟩,h3⟩,h4⟩:=G1
   refine⟨rfl,h1,fun w=>by rw[<- h3];exact(varB_ok h2).size w,h3,?_⟩
   by_cases hq:q=.uuid
   ·subst hq
    rcases h4 with h|h
    ·exact absurd rfl h
    ·exact .inr ⟨rfl,varB_ok h⟩
   ·exact .inl (by cases q<;>first|rfl|exact absurd rfl hq)
  | str nul=>
   simp only[okEl,Bool.and_eq_true,beq_iff_eq]at G1
   obtain⟨⟨h1,h2⟩,h3⟩:=G1
   exact⟨rfl,h1,fun w=>by rw[<- h3];exact(varB_ok h2).size w,h3,.inl rfl⟩
  | bytes nul=>
   simp only[okEl,Bool.and_eq_true,beq_iff_eq]at G1
   obtain⟨⟨h1,h2⟩,h3⟩:=G1
   exact⟨rfl,h1,fun w=>by rw[<- h3];exact(varB_ok h2).size w,h3,.inl rfl⟩
 simp only[iF,Bool.and_eq_true]at HG
 obtain⟨⟨h1,h2⟩,h3⟩:=HG
 have JM:m<=nm.n 0/\nm.n 0<k0:=by simp only[jX,Bool.and_eq_true,decide_eq_true_eq]at h2;exact h2.1
 rw[hg]at hn ⊢
 rw[bc]at hn
 simp only[gL,kf,aA]at hn
 have Ib:=gT g cx e (nm.n 0) (nm.l.drop 2) n
 refine Bz K0 (ver:=ver) h1 Gl hc hk h2 Hu (qM h3) (by omega) fun a1 w1 hpst=>?_
 obtain⟨cs,Gk,hval,HQ,Gy,Jq⟩:=hpst
 have Gu:=Gk.size
 have LF:=Jq (fun _=>False) (fun _ h=>h.elim) id
 have Gp:cs.length=esz:=LF.len.trans Jf
 have JL:w1.heap[p]?=some (.cells cur te (0,0)):=by rw[Gy.block p Tj M9];exact hp
 refine ad (sU (x:=6) (m:=m) (k0:=k0) (p:=p) (q:=0) (cs:=cs) (cur:=cur) (te:=te) (sz:=esz) ((Gk.get y N5 (.inl hym)).trans hy) ((Gk.get i hi6 (.inl Lz)).trans hi) hj GB.und GB.size hE ?_ Gp LF.one JL (by omega) G5 (by omega) (by omega) (by omega) (by omega) (by omega) fun a2 Gm=>bg ?_)
 ·rcases KL with hu|⟨hu,hU⟩
  ·rw[hu]at hval ⊢;exact hval
  ·rw[hu]at hval ⊢;exact⟨by rw[LF.len];exact hU,hval⟩
 ·rw[Nat.zero_add]
  have HO:em R p (fun t=>j*esz<=t/\t<j*esz+esz) w1 (w1.setRow p (aI cur (j*esz) cs)):=em.store JL (by rw[Gp];omega) (fun t ha hb=>⟨ha,by rw[Gp]at hb;omega⟩)
  refine ho.ok _ _ a2 _ (oY fx ver e _ r hl) (Gk.trans (Gm.mono (Nat.le_refl _) Ib)) (HQ.keep (ac.setRow (fun k=>k=p) _ _ _ rfl) (fun h=>LE h.symm) (fun h=>M9 h.symm))
   ((em.of_keeps Gy (fun _ _ h=>h) M9).trans HO) fun X hX hS=>?_
  refine uT hl (fun t u hu=>?_) (((Jq (fun k=>X k \/ k=p) (fun k hk=>by rcases hk with hk|rfl<;>first|exact hX k hk|exact Tj) (fun hk=>by rcases hk with hk|hk<;>first|exact hS hk|exact LE hk.symm)).keep
   (ac.setRow (fun k=>X k \/ k=p) _ _ _ (.inr rfl))).mono fun k _ hk=>.inl hk)
  have HY:t<cs.length:=(List.getElem?_eq_some_iff.1 hu).1
  rw[cell_setRow_same _ _ _ _ _ _ _ JL,bU (by omega) t HY]
  exact hu
theorem l4 {w':World}{p O te:Nat}{cur z:Array Value}{wr:List (Nat × Value)}(hz:∀ j,j<z.size->cur[O+j]?=z[j]?)(hs:O+z.size<=cur.size)(Hn:∀ q∈wr,q.1<z.size)(h:w'.heap[p]?=some (.cells (applyWr cur O wr) te (0,0))):sw w' p O (applyWr z 0 wr):=by
 intro j v hj
 have hjz:j<z.size:=by
  have:=(Array.getElem?_eq_some_iff.1 hj).1
  rwa [cW]at this
 rw[<- ow O wr cur z Hn hs hz j hjz]at hj
 simpa[World.cell?,h]using hj
theorem wN (En:Env P g av fl D){toff:Option Nat}{fs:Fds}(Hl:Aj P g av fl D fs):Ak P g av fl D (.struct none toff fs):=by
 intro nm cx fx ver S R B O r m k0 n esz z y i F E' p cnt c j cur K E a w te G1 GB Gl hc Gw hk Hu hn hy hi hj hym Lz N5 hi6 hp G0 hz M9 LE NB ho
 have Jb:R<w.heap.size:=Gl.rd.lt
 have Tj:p<w.heap.size:=(Array.getElem?_eq_some_iff.1 hp).1
 have G5:=hc.le
 have N3:=hc.six
 simp only[okEl,Bool.and_eq_true,decide_eq_true_eq]at G1
 obtain⟨⟨G7,GS⟩,Kv⟩:=G1
 split at GS
 ·rename_i wr Hn
  simp only[Bool.and_eq_true,decide_eq_true_eq,List.all_eq_true]at GS
  obtain⟨⟨⟨Lo,PB⟩,Lg⟩,KY⟩:=GS
  obtain⟨Le,N2⟩:=En.df _ _ Hn
  obtain⟨_,z',_,_,hzc,_,IE,_⟩:=GB.info
  have hn':(gL (fI g { cx with s:=nm.n 1 } fs.tagged (nm.n 3) (nm.n 4) (nm.sub 0) (gFds g { cx with s:=nm.n 1 } fs (nm.sub 0).s) (gTagd g { cx with s:=nm.n 1 } fs (nm.sub 0).s)) (n+3+2+1)).2<=a.tmps.size:=by
   simp only[gEl]at hn
   rw[bc]at hn
   exact hn
  have Ib:=ij (g:=g) (cx:={ cx with s:=nm.n 1 }) (tagged:=fs.tagged) (T:=nm.n 3) (kt:=nm.n 4) (m:=nm.sub 0) (up_gFds g fs (nm.sub 0).s { cx with s:=nm.n 1 }) (up_gTagd g fs (nm.sub 0).s { cx with s:=nm.n 1 }) (n+3+2+1)
  show LW P (ea y i (nm.n 0) F::da (nm.n 0) (nm.n 2)::bB (nm.n 0) (nm.n 1)::fI g { cx with s:=nm.n 1 } fs.tagged (nm.n 3) (nm.n 4) (nm.sub 0) (gFds g { cx with s:=nm.n 1 } fs (nm.sub 0).s) (gTagd g { cx with s:=nm.n 1 } fs (nm.sub 0).s)) n (Rt K E) a w
  refine ad (wd (x:=6) (m:=m) (k0:=k0) (p:=p) (q:=0) hy hi hj GB.und GB.size (.inr ⟨G7.1,G7.2.2.1⟩) G5 hk (by omega) (by omega) (by omega) (by omega) fun a1 Gk Gv=>?_)
  rw[Nat.zero_add]at Gv
  have Gu:=Gk.size
  refine ad (jY (x:=6) (m:=m) (k0:=k0) (B:=p) (O:=j*esz) (cur:=cur) (te:=te) Le N2 Gv hp (fun q hq=>by have:=Lo q hq;omega) G5 (by simp only[ea,aA];omega) (by simp only[ea,aA];omega) fun a2 w2 Gm hsame2 Gs J3=>?_)
  simp only[ea,aA]at Gm hsame2
  have G9:=Gm.size
  have G2:a2.get (nm.n 0)=pt p (j*esz):=(hsame2 _ (by omega)).trans Gv
  refine ad (eH (x:=6) (m:=m) (k0:=k0) (.inr ⟨G7.2.1,G7.2.2.2.1⟩) G5 (by simp only[ea,da,aA];omega) (by simp only[ea,da,aA];omega) (by omega) fun a3 Gt GI=>?_)
  simp only[ea,da,bB,aA]at Gt ⊢
  have Hh:=Gt.size
  have Hw:Pv 6 m k0 n a a3:=(Gk.trans (Gm.mono (Nat.le_refl _) (by omega))).trans (Gt.mono (Nat.le_refl _) (by omega))
  have S3:∀ q∈wr,q.1<z.size:=fun q hq=>by rw[IE];exact Lo q hq
  have OV:∀ t,t<z.size->cur[j*esz+t]?=z[t]?:=fun t ht=>by
   obtain⟨u,hu⟩:∃ u,z[t]?=some u:=⟨z[t],by simp[ht]⟩
   have:=hz t u hu
   rw[hu]
   simpa[World.cell?,hp]using this
  have Rw:=l4 OV (by rw[IE];omega) S3 J3
  have Hj:oz w2 p (j*esz+fs.ext (d9 toff)) te:=⟨_,J3,by rw[cW];omega⟩
  have GJ:cQ w2 g.tR S R r:=Gl.rd.keep Gs (fun h=>LE h.symm) (fun h=>M9 h.symm)
  obtain⟨t',x',Ij⟩:=Gl.err
  have IA:ErrAt g.gErr w2:=ErrAt.keep ⟨t',x',Ij⟩ Gs NB
  have JR:RC g { cx with s:=nm.n 1 } fx ver S R p (j*esz) r a3 w2:=
   ⟨GJ,(Hw.get _ hc.b.2 (.inl hc.b.1)).trans Gl.sb,GI.trans G2,(Hw.get _ hc.ver.2 (.inl hc.ver.1)).trans Gl.sv,fun hf=>(Hw.get _ hc.fx.2 (.inl hc.fx.1)).trans (Gl.sf hf),Gl.nf,(Hw.get 2 (by omega) (.inl (by omega))).trans Gl.su,IA,Gl.SR,M9,LE,Gl.gR,NB,
    Nat.lt_of_lt_of_le Gl.Slt Gs.size⟩
  have MB:nm.n 0<max (nm.n 0) (nm.n 1)+1/\nm.n 1<max (nm.n 0) (nm.n 1)+1/\max (nm.n 0) (nm.n 1)+1<=k0:=by omega
  have Kd:eb { cx with s:=nm.n 1 } (max (nm.n 0) (nm.n 1)+1) k0:=
   ⟨⟨by have:=hc.b;simp only;omega,hc.b.2⟩,⟨MB.2.1,by simp only;omega⟩,⟨by have:=hc.ver;simp only;omega,hc.ver.2⟩,⟨by have:=hc.fx;simp only;omega,hc.fx.2⟩,by omega,MB.2.2⟩
  have GO:em R p (fun t=>j*esz<=t/\t<j*esz+esz) w w2:=by
   refine⟨Gs.mono fun _ _ h=>.inr h,fun cs te' GE=>?_⟩
   rw[hp]at GE
   obtain⟨rfl,rfl,_⟩:=Obj.cells.inj (Option.some.inj GE)
   exact⟨_,J3,cW _ _ _,fun t ht=>i9 _ _ _ _ fun q hq he=>ht (by have:=Lo q hq;omega)⟩
  refine Hl (nm.sub 0) { cx with s:=nm.n 1 } fx ver S R p (j*esz) r (max (nm.n 0) (nm.n 1)+1) k0 (n+3+2+1) (nm.n 3) (nm.n 4) toff K E a3 w2 te Kv JR Kd Gw (by omega) (by omega) (by omega) Hj ?_ ⟨fun v r' a4 w4 he GD H0 hev4 hv=>?_,fun he a4 w4 GD hif GH=>?_,fun he=>?_⟩
  ·refine .inr ⟨fun X=>zFds_ok Rw X fs 0 PB,?_⟩
   cases toff with
   | none=>trivial
   | some o=>exact Rw.one Lg
  ·obtain⟨vs,t,rfl,hF,hT⟩:=hv
   refine ho.ok _ r' a4 w4 he (Hw.trans (GD.mono (by omega) (by omega))) H0 (GO.trans (hev4.mono fun t ht=>by have:=xf ht;omega)) fun X hX hS=>⟨vs,t,rfl,fi hF Gs.size X hX hS,fi hT Gs.size X hX hS⟩
  ·exact ho.err he a4 w4 (Hw.trans (GD.mono (by omega) (by omega))) hif (GO.keeps.trans GH)
  ·exact ho.go he
 ·cases GS
end
section
variable {P:Program} {g:G} {av:PF->Bool} {fl:Bool} {D:Nat->Option (List (Nat × Value))}
theorem nQ (f:RS->gF V)(k:Nat)(r:RS):f8 f (k+1) r=(f r).bind fun v r=>(f8 f k r).bind fun vs r=>.ok (v::vs) r:=rfl
def kQ (f:RS->gF V)(L:Nat)(r0:RS)(vs:List V)(r:RS):Prop:=f8 f L r0=(f8 f (L-vs.length) r).bind fun us r=>.ok (vs++us) r
theorem kQ.start (f:RS->gF V)(L:Nat)(r0:RS):kQ f L r0 [] r0:=by
 simp only[kQ,List.length_nil,Nat.sub_zero,List.nil_append]
 cases f8 f L r0<;>rfl
theorem kQ.step {f:RS->gF V}{L:Nat}{r0 r r':RS}{vs:List V}{v:V}(h:kQ f L r0 vs r)(hl:vs.length<L)(hf:f r=.ok v r'):kQ f L r0 (vs++[v]) r':=by
 unfold kQ at h ⊢
 rw[h]
 obtain⟨k,hk⟩:∃ k,L-vs.length=k+1:=⟨L-vs.length-1,by omega⟩
 have Gs:L-(vs++[v]).length=k:=by simp;omega
 rw[hk,Gs,nQ,hf]
 simp only[gF.bind]
 cases f8 f k r'<;>simp
theorem kQ.fail {f:RS->gF V}{L:Nat}{r0 r:RS}{vs:List V}(h:kQ f L r0 vs r)(hl:vs.length<L):(f r=.err->f8 f L r0=.err)/\(f r=.stuck->f8 f L r0=.stuck):=by
 unfold kQ at h
 obtain⟨k,hk⟩:∃ k,L-vs.length=k+1:=⟨L-vs.length-1,by omega⟩
 rw[h,hk,nQ]
 exact⟨fun hf=>by rw[hf];rfl,fun hf=>by rw[hf];rfl⟩
theorem kQ.done {f:RS->gF V}{L:Nat}{r0 r:RS}{vs:List V}(h:kQ f L r0 vs r)(hl:vs.length=L):f8 f L r0=.ok vs r:=by
 unfold kQ at h
 rw[h,hl,Nat.sub_self]
 simp[f8,gF.bind]
theorem pj {cx:Cx}{fx:Bool}{ver:Int}{S R B O:Nat}{r r':RS}{m k0 n n0 T k F off v y:Nat}{sl:Value}{K E:Act->World->Prop}{a0 a1:Act}{w0 w1:World}{te:Nat}(hF:bp P T k F off false 1)(Gl:RC g cx fx ver S R B O r a0 w0)(hc:eb cx m k0)(hv:m<=v/\v<k0)(hk:k0<=n0)(J1:n0<=n)(hn:n+1+4<=a0.tmps.size)
  (hp:Pv 6 m k0 n0 a0 a1) (hy:a1.get y=sl) (_hyn:y<k0) (G7:sl.oneCell'=true/\sl.cells=#[sl]) (HO:em R B (fun j=>O+off<=j/\j<O+off+1) w0 w1) (J0:cQ w1 g.tR S R r') (hb:oz w0 B (O+off+1) te)
  (h:∀ a' w',Pv 6 m k0 n0 a0 a'->cQ w' g.tR S R r'->em R B (fun j=>O+off<=j/\j<O+off+1) w0 w'->ac (·=B) w1 w'->w'.cell? ⟨B,O+off,none⟩=some sl->K a' w') :
  LW P [bB y v,iI none cx.s v T k F] n (Rt K E) a1 w1:=by
 have hs:=hp.size
 have G5:=hc.le
 obtain⟨cur,Ix,Ii⟩:=hb.evo HO
 refine ad (eH (x:=6) (m:=m) (k0:=k0) (.inr hv) G5 (by omega) (by omega) (by omega) fun a2 Gm G2=>?_)
 have G9:=Gm.size
 have LC:a2.get cx.s=pt B O:=((hp.trans (Gm.mono (Nat.le_refl _) J1)).get _ hc.s.2 (.inl hc.s.1)).trans Gl.ss
 have MB:(bB y v n).2=n+1:=rfl
 rw[MB]
 refine ad (uP (x:=6) (m:=m) (k0:=k0) (cs:=[sl]) (cur:=cur) (te:=te) LC hF ⟨sl,by rw[G2,hy],by rw[G7.2]⟩ rfl (fun u hu=>by simp at hu;rw[hu];exact G7.1) Ix Ii G5 (by omega) (by omega) (by omega) fun a3 Gt=>bg ?_)
 have Uq:em R B (fun j=>O+off<=j/\j<O+off+1) w1 (w1.setRow B (aI cur (O+off) [sl])):=em.store Ix (by simpa using Ii) (fun j ha hb=>⟨ha,by simpa using hb⟩)
 refine h a3 _ ((hp.trans (Gm.mono (Nat.le_refl _) J1)).trans (Gt.mono (Nat.le_refl _) (by omega))) (J0.keep (ac.setRow (fun k=>k=B) _ _ _ rfl) (fun h=>Gl.BS h.symm) (fun h=>Gl.BR h.symm)) (HO.trans Uq) (ac.setRow _ _ _ _ rfl) ?_
 rw[cell_setRow_same _ _ _ _ _ _ _ Ix]
 have:=bU (cur:=cur) (o:=O+off) (vs:=[sl]) (by simpa using Ii) 0 (by simp)
 simpa using this
def Al (g:G)(S R p esz:Nat)(e:Ty)(f:RS->gF V)(L:Nat)(r0:RS)(c:Nat)(z:Array Value)(te:Nat)(wA:World)(j:Nat)(w:World):Prop:=
 ∃ (vs:List V) (r:RS),vs.length=j/\kQ f L r0 vs r/\cQ w g.tR S R r/\em R p (fun t=>t<j*esz) wA w/\(∃ cur,w.heap[p]?=some (.cells cur te (0,0))/\cur.size=c*esz/\∀ q t,j<=q->q<L->t<esz->cur[q*esz+t]?=z[t]?) /\
  ∀ i v,vs[i]?=some v->fT (·<wA.heap.size) S fun X=>Rp w X e p (i*esz) v
theorem wG {e:Ty}{esz:Nat}(IZ:Ak P g av fl D e)(VU:e.sz<=esz){nm:Nm}{cx:Cx}{fx:Bool}{ver:Int}{S R B O:Nat}{r0 r1:RS}{m k0 n:Nat}{z:Array Value}{y i F E' p c L j:Nat}{E:Act->World->Prop}{a a1:Act}{wA w1:World}{te:Nat}
  (G1:okEl ⟨P,g,av,D⟩ cx.hf (i+1) k0 esz z e nm=true) (GB:m3 P F E' esz z) (Gl:RC g cx fx ver S R B O r0 a wA) (hc:eb cx m k0) (Gw:cx.hf=true->fl=true) (hk:k0<=n) (Hu:k0<=a.tmps.size) (hn:(gL (gEl g cx e y i F nm) (n+5)).2<=a.tmps.size) (Qs:m<=i) (hik:i<k0) (hyi:y<i) (N5:y≠6)
  (Gk:Pv 6 i k0 n a a1) (hy:a.get y=.slice (some ⟨p,0,none⟩) L c) (hi:a1.get i=.int .i32 j) (hj:j<L) (Wn:L<=c) (M9:p≠R) (LE:p≠S) (_hpB:p≠B) (NB:g.gErr≠p) (hpA:p<wA.heap.size)
  (hI:Al g S R p esz e (e7 fx ver e (dl 0 e)) L r1 c z te wA j w1)
  (hE:f8 (e7 fx ver e (dl 0 e)) L r1=.err->∀ a' w',Pv 6 m k0 n a a'->(∃ t y,a'.get 6=.iface t y)->ac (fun k=>k=R \/ k=p) wA w'->E a' w') (JZ:f8 (e7 fx ver e (dl 0 e)) L r1≠.stuck) :
  aQ P (gS (gEl g cx e y i F nm) (n+5)).1 (Rt (fun a2 w2=>Pv 6 (i+1) k0 (n+5) a1 a2/\Al g S R p esz e (e7 fx ver e (dl 0 e)) L r1 c z te wA (j+1) w2) E) a1 w1:=by
 obtain⟨vs,r,Oa,Kt,J0,HO,⟨cur,Ix,GE,OV⟩,Hz⟩:=hI
 have Gu:=Gk.size
 have N3:=hc.six
 obtain⟨_,z',_,_,hzc,_,IE,Hg,_⟩:=GB.info
 have hRA:R<wA.heap.size:=Gl.rd.lt
 obtain⟨t',x',Ij⟩:=Gl.err
 have Mv:ErrAt g.gErr w1:=ErrAt.keep ⟨t',x',Ij⟩ HO.keeps (fun h=>by rcases h with h|h;exact Gl.gR h;exact NB h)
 have G6:RC g cx fx ver S R B O r a1 w1:=
  ⟨J0,(Gk.get _ hc.b.2 (.inl (by have:=hc.b;omega))).trans Gl.sb,(Gk.get _ hc.s.2 (.inl (by have:=hc.s;omega))).trans Gl.ss,(Gk.get _ hc.ver.2 (.inl (by have:=hc.ver;omega))).trans Gl.sv,fun hf=>(Gk.get _ hc.fx.2 (.inl (by have:=hc.fx;omega))).trans (Gl.sf hf),Gl.nf,
   (Gk.get 2 (by omega) (.inl (by omega))).trans Gl.su,Mv,Gl.SR,Gl.BR,Gl.BS,Gl.gR,Gl.gB,Nat.lt_of_lt_of_le Gl.Slt HO.keeps.size⟩
 have MJ:eb cx (i+1) k0:=lD hc (by omega) (by omega)
 have MF:j*esz+esz<=c*esz:=by
  have:(j+1)*esz<=c*esz:=Nat.mul_le_mul_right _ (by omega)
  rw[Nat.add_mul,Nat.one_mul]at this
  exact this
 have hZ:sw w1 p (j*esz) z:=fun t v ht=>by
  have KM:t<esz:=by rw[<- IE];exact(Array.getElem?_eq_some_iff.1 ht).1
  have:=OV j t (Nat.le_refl _) hj KM
  rw[ht]at this
  simpa[World.cell?,Ix]using this
 have hbk:oz w1 p (j*esz) te:=⟨cur,Ix,by omega⟩
 refine bm (IZ nm cx fx ver S R B O r (i+1) k0 (n+5) esz z y i F E' p L c j cur _ E a1 w1 te G1 GB G6 MJ Gw (by omega) (by omega) (by omega) ((Gk.get y N5 (.inl hyi)).trans hy) hi hj (by omega) (by omega) N5 (by omega) Ix (by omega) hZ M9 LE NB
  ⟨fun v r' a2 w2 he Gm GJ GO hv=>⟨Gm,?_⟩,fun he a2 w2 Gm hif Gs=>?_,fun he=>?_⟩)
 ·refine⟨vs++[v],r',by simp[Oa],Kt.step (by omega) he,GJ,(HO.mono fun t ht=>?_).trans (GO.mono fun t ht=>?_),?_,fun q u hq=>?_⟩
  ·rw[Nat.add_mul,Nat.one_mul];omega
  ·rw[Nat.add_mul,Nat.one_mul];omega
  ·obtain⟨cs2,h1,h2,h3⟩:=GO.blk cur te Ix
   refine⟨cs2,h1,by omega,fun q t hq V9 ht=>?_⟩
   rw[h3 _ (fun hh=>by
    have:(j+1)*esz<=q*esz:=Nat.mul_le_mul_right _ hq
    rw[Nat.add_mul,Nat.one_mul]at this
    omega)]
   exact OV q t (by omega) V9 ht
  ·rcases Nat.lt_or_ge q vs.length with Gq|Hm
   ·rw[List.getElem?_append_left Gq]at hq
    refine Rp.evoA GO hRA hpA Gl.SR.symm LE hbk (Hz q u hq) (fun t RP RO hh=>?_)
    have:(q+1)*esz<=j*esz:=Nat.mul_le_mul_right _ (by omega)
    rw[Nat.add_mul,Nat.one_mul]at this
    omega
   ·have M7:q=vs.length:=by
     have:=(List.getElem?_eq_some_iff.1 hq).1
     simp at this
     omega
    subst M7
    rw[List.getElem?_append_right (Nat.le_refl _),Nat.sub_self]at hq
    obtain rfl:v=u:=by simpa using hq
    rw[Oa]
    exact fi hv HO.keeps.size
 ·exact hE ((Kt.fail (by omega)).1 he) a2 w2 ((Gk.mono Qs (Nat.le_refl _)).trans (Gm.mono (by omega) (by omega))) hif (HO.keeps.trans Gs)
 ·exact JZ ((Kt.fail (by omega)).2 he)
end
section
variable {P:Program} {g:G} {av:PF->Bool} {fl:Bool} {D:Nat->Option (List (Nat × Value))}
theorem A7 (K0:KB P g av fl){nul:Option Nat}{esz:Nat}{e:Ty}(IZ:Ak P g av fl D e)(VU:∀ hf m k0 z nm,okEl ⟨P,g,av,D⟩ hf m k0 esz z e nm=true->e.sz<=esz):qL P g av fl D (.list nul esz e):=by
 intro nm cx fx ver S R B O r m k0 n T off old K E a w te G1 Gl hc Gw hk Hu hn hb HH ho
 simp only[qo,Bool.and_eq_true,decide_eq_true_eq,beq_iff_eq]at G1
 obtain⟨⟨⟨G7,hT⟩,hF⟩,GB⟩:=G1
 subst hT
 replace hF:=fldB_ok hF
 split at GB
 ·rename_i E' sz z hrowE
  simp only[Bool.and_eq_true,beq_iff_eq]at GB
  obtain⟨⟨rfl,Ky⟩,JH⟩:=GB
  have OG:bL g.ok=true:=by simp only[q5,Bool.and_eq_true]at JH;exact JH.1.2
  have GB:=nO hrowE
  have Jb:R<w.heap.size:=Gl.rd.lt
  have IT:B<w.heap.size:=hb.lt
  have G5:=hc.le
  have N3:=hc.six
  have JM:=hc.ver
  have HI:old.isNul=true:=by
   cases h:old.isNul with
   | true=>rfl
   | false=>exact absurd (by simp only[e7,h];rfl) ho.go
  have Gn:w.cell? ⟨B,O+off,none⟩=some (.slice none 0 0):=by
   rcases HH with⟨h,_⟩|⟨xs,p,q,c,_,_,_,_,_,h,_⟩
   ·exact h
   ·rw[h]at HI;cases HI
  have HU:e7 fx ver (.list nul sz e) old r=(if(cL fx r).2.bad then .err else if !ls (cL fx r).1 sz then .stuck else if(cL fx r).1<=0 then .ok (if nul.isSome&&(decide ((cL fx r).1=0) || !g6 nul ver)then .l []else .nul) (cL fx r).2
    else(f8 (e7 fx ver e (dl 0 e)) (cL fx r).1.toNat (cL fx r).2).bind fun vs r=>.ok (.l vs) r):=by
   simp only[e7,HI];rfl
  rw[HU]at ho
  have Pl:=AT fx r
  generalize hv:nm.n 0=v at *
  generalize hy:nm.n 4=y at *
  generalize hl:nm.n 5=l at *
  generalize hi:nm.n 6=i at *
  generalize hFF:nm.n 3=F at *
  have hn':(gL (gEl g cx e y i F (nm.sub 0)) ((gL (jx g cx nul y l F) ((if cx.hf then ix cx (aF g.clen cx.b l) (aF g.len cx.b l)else aF g.len cx.b l:GC) (n+5)).2).2+15)).2+5<=a.tmps.size:=by
   have h:=hn
   simp only[lJ]at h
   rw[bc,bc,hv,hy,hl,hi,hFF]at h
   exact h
  have SD:Up (if cx.hf then ix cx (aF g.clen cx.b l) (aF g.len cx.b l)else aF g.len cx.b l:GC):=fq (cg (aq _ _) (aq _ _)) (aq _ _)
  have hupL':=SD (n+5)
  have hupN':=ri g cx nul y l F ((if cx.hf then ix cx (aF g.clen cx.b l) (aF g.len cx.b l)else aF g.len cx.b l:GC) (n+5)).2
  have hupE':=up_gEl g e (nm.sub 0) cx y i F ((gL (jx g cx nul y l F) ((if cx.hf then ix cx (aF g.clen cx.b l) (aF g.len cx.b l)else aF g.len cx.b l:GC) (n+5)).2).2+15)
  have QH:LW P (co cx.s v (nm.n 1) (nm.n 2) F::bB v y::aU l (.int .i32 0)::(if cx.hf then ix cx (aF g.clen cx.b l) (aF g.len cx.b l)else aF g.len cx.b l:GC)::(jx g cx nul y l F ++
    [oh g cx,zH y F,pn g y l F,ud g i l (nm.n 7) (nm.n 8) (gS (gEl g cx e y i F (nm.sub 0))),bB y v,iI none cx.s v (nm.n 1) (nm.n 2) F])) n (Rt K E) a w:=by
   refine ad (im (x:=6) (m:=m) (k0:=k0) (O:=O) Gl.ss hF Gn (.inr ⟨G7.1,by omega⟩) G5 hk (by omega) (by omega) fun a1 Gk Gv=>?_)
   have Gu:=Gk.size
   rw[show(co cx.s v (nm.n 1) (nm.n 2) F n).2=n+4 from rfl]
   refine ad (eH (x:=6) (m:=m) (k0:=k0) (.inr ⟨by omega,by omega⟩) G5 (by omega) (by omega) (by omega) fun a2 Gm G2=>?_)
   have G9:=Gm.size
   rw[Gv]at G2
   rw[show(bB v y (n+4)).2=n+5 from rfl]
   refine ad (dH (x:=l) (m:=k0) (k0:=k0) (n:=n+5) (.inl rfl) (by omega) fun a3 Gt _=>?_)
   have Hh:=Gt.size
   have GI:a3.get y=.slice none 0 0:=(Gt.get y (by omega) (.inl (by omega))).trans G2
   have Hw:Pv 6 m k0 n a a3:=(Gk.trans (Gm.mono (Nat.le_refl _) (by omega))).trans ((Gt.weak ⟨by omega,by omega⟩).mono (Nat.le_refl _) (by omega))
   have JR:RC g cx fx ver S R B O r a3 w:=Gl.step hc Hw Gl.rd (ac.refl (fun _=>False) w) (fun _ _ h=>h.elim)
   rw[show(aU l (.int .i32 0) (n+5)).2=n+5 from rfl]
   refine ad (DH (m:=l) (k0:=k0) K0 JH Gw JR (lD hc (by omega) (by omega)) ⟨Nat.le_refl _,by omega⟩ (by omega) (by omega) fun a4 w4 GD Ht H0 GH=>?_)
   have IP:=GD.size
   have hy4:a4.get y=.slice none 0 0:=(GD.get y (by omega) (.inl (by omega))).trans GI
   have Ku:Pv 6 m k0 n a a4:=Hw.trans (GD.mono (by omega) (by omega))
   have Ov:RC g cx fx ver S R B O (cL fx r).2 a4 w4:=Gl.step hc Ku H0 GH (fun _ _ h=>.inl h)
   generalize hLv:(cL fx r).1=L at *
   generalize Th:(cL fx r).2=r1 at *
   generalize hnL:((if cx.hf then ix cx (aF g.clen cx.b l) (aF g.len cx.b l)else aF g.len cx.b l:GC) (n+5)).2=nL at *
   refine C4 (x:=6) (m:=y) (k0:=k0) (ver:=ver) Ov.sv hy4 Ht GB ⟨Nat.le_refl _,by omega⟩ (by omega) (by omega) (by omega) (by omega) (by omega) (by omega) (by omega) (by omega) fun a5 w5 base HB HC hy5 II He KH=>?_
   have Nd:=HB.size
   generalize VF:(gL (jx g cx nul y l F) nL).2=nN at *
   have Iv:Pv 6 m k0 n a a5:=Ku.trans (HB.mono (by omega) (by omega))
   have OC:ac (·=R) w w5:=GH.trans (HC.mono fun _ _ h=>h.elim)
   have Ng:RC g cx fx ver S R B O r1 a5 w5:=Gl.step hc Iv (H0.keep HC id id) OC (fun _ _ h=>.inl h)
   refine ad ?_
   rw[aV]
   refine AH (m:=i) (k0:=k0) K0 OG Ng (lD hc (by omega) (by omega)) (by omega) (by omega) (fun GT a6 w6 hp6 hif I4=>?_) (fun QG a6 w6 hp6 I4=>?_)
   ·exact ho.err (by rw[GT];rfl) a6 w6 (Iv.trans (hp6.mono (by omega) (by omega))) hif ((OC.trans (I4.mono fun _ _ h=>h.elim)).mono fun _ _ h=>.inl h)
   have RU:=hp6.size
   have Tn:Pv 6 m k0 n a a6:=Iv.trans (hp6.mono (by omega) (by omega))
   have hy6':a6.get y=.slice base 0 0:=(hp6.get y (by omega) (.inl (by omega))).trans hy5
   have hl6':a6.get l=.int .i32 L:=(hp6.get l (by omega) (.inl (by omega))).trans II
   have Mp:ac (·=R) w w6:=OC.trans (I4.mono fun _ _ h=>h.elim)
   have Nf:cQ w6 g.tR S R r1:=Ng.rd.keep I4 id id
   rw[QG]at ho
   have Hq:ls L sz=true:=by
    cases h:ls L sz with
    | true=>rfl
    | false=>exact absurd (by rw[h];rfl) ho.go
   rw[Hq]at ho
   simp only[Bool.false_eq_true,if_false,Bool.not_true]at ho
   rw[show(oh g cx nN).2=nN+3 from rfl]
   refine ad (DD (x:=y) (m:=k0) (k0:=k0) hy6' GB.und GB.size (.inl rfl) (Nat.le_refl _) (by omega) (by omega) (by omega) fun a7 hp7 hy7=>?_)
   have PU:=hp7.size
   have TE:a7.get l=.int .i32 L:=(hp7.get l (by omega) (.inl (by omega))).trans hl6'
   rw[show(zH y F (nN+3)).2=nN+5 from rfl]
   have Qd:Pv 6 m k0 n a a7:=Tn.trans ((hp7.weak ⟨by omega,by omega⟩).mono (Nat.le_refl _) (by omega))
   refine ad (C5 (x:=y) (m:=k0) (k0:=k0) K0 hy7 TE GB Pl Hq (.inl rfl) (by omega) (Nat.le_refl _) (by omega) (by omega) (by omega) (fun hL a8 hp8 hy8=>?_) (fun hL a8 c cs hp8 Wn IK GE OV hy8=>?_))
   ·-- nothing there
    have RQ:=hp8.size
    have Q1:a8.get l=.int .i32 L:=(hp8.get l (by omega) (.inl (by omega))).trans TE
    have Mf:Pv 6 m k0 n a a8:=Qd.trans ((hp8.weak ⟨by omega,by omega⟩).mono (Nat.le_refl _) (by omega))
    rw[show(pn g y l F (nN+5)).2=nN+10 from rfl]
    refine ad ?_
    rw[aV]
    refine B0 (m:=m) (k0:=k0) (L:=L) ⟨by omega,by omega⟩ (by omega) (by omega) (by omega) G5 (by omega) (by omega) Q1 Pl (fun _ w'=>w'=w6) rfl (fun j a9 w9 hj=>by omega) fun a9 w9 hp9 hw9=>?_
    subst hw9
    have HO:em R B (fun j=>O+off<=j/\j<O+off+1) w w9:=em.of_keeps Mp (fun _ _ h=>h) Gl.BR
    have Sy:a9.get y=.slice base 0 0:=(hp9.get y (by omega) (.inl (by omega))).trans hy8
    have GG:(Value.slice base 0 0).oneCell'=true/\(Value.slice base 0 0).cells=#[.slice base 0 0]:=⟨rfl,rfl⟩
    rw[show(ud g i l (nm.n 7) (nm.n 8) (gS (gEl g cx e y i F (nm.sub 0))) (nN+10)).2=(gL (gEl g cx e y i F (nm.sub 0)) (nN+15)).2 from rfl]
    refine pj (n0:=n) hF Gl hc ⟨G7.1,by omega⟩ hk (by omega) (by omega) (Mf.trans (hp9.mono (by omega) (by omega))) Sy (by omega) GG HO Nf hb fun a10 w10 hp10 hrd10 hev10 I5 Jh=>?_
    refine ho.ok _ r1 a10 w10 (by rw[if_pos hL]) hp10 hrd10 hev10 fun X hX hS=>?_
    rw[<- KH]
    rcases He with rfl|⟨p,rfl,hp,Gm⟩
    ·exact .inl ⟨Jh,rfl⟩
    ·refine .inr ⟨[],p,0,0,Jh,fun Rx=>?_,?_,Nat.le_refl _,by simp,rfl,fun i x hx=>by simp at hx⟩
     ·have:=hX p Rx
      have:=GH.size
      omega
     ·have:=I4.size
      have:=I5.size
      omega
   ·-- so many elements
    have RQ:=hp8.size
    have Q1:a8.get l=.int .i32 L:=(hp8.get l (by omega) (.inl (by omega))).trans TE
    have Mf:Pv 6 m k0 n a a8:=Qd.trans ((hp8.weak ⟨by omega,by omega⟩).mono (Nat.le_refl _) (by omega))
    rw[show(pn g y l F (nN+5)).2=nN+10 from rfl]
    rw[if_neg (by omega)]at ho
    have JG:ac (fun _=>False) w6 (w6.drew.alloc (.cells cs E' (0,0))):=(ac.drew _ _).trans (ac.alloc _ _ _)
    have SS:=Mp.size
    have hAsz:(w6.drew.alloc (.cells cs E' (0,0))).heap.size=w6.heap.size+1:=by simp
    have hpc:(w6.drew.alloc (.cells cs E' (0,0))).heap[w6.heap.size]?=some (.cells cs E' (0,0)):=heap_alloc_new w6.drew _
    have IY:ac (·=R) w (w6.drew.alloc (.cells cs E' (0,0))):=Mp.trans (JG.mono fun _ _ h=>h.elim)
    have PX:cQ (w6.drew.alloc (.cells cs E' (0,0))) g.tR S R r1:=Nf.keep JG id id
    have Te:RC g cx fx ver S R B O r1 a8 (w6.drew.alloc (.cells cs E' (0,0))):=Gl.step hc Mf PX IY (fun _ _ h=>.inl h)
    obtain⟨t',x',Ij⟩:=Gl.err
    have LJ:=cM Ij
    have Pj:=Gl.Slt
    generalize hwA:w6.drew.alloc (.cells cs E' (0,0))=wA at *
    refine ad ?_
    rw[aV]
    refine B0 (m:=m) (k0:=k0) (L:=L) ⟨by omega,by omega⟩ (by omega) (by omega) (by omega) G5 (by omega) (by omega) Q1 Pl (Al g S R w6.heap.size sz e (e7 fx ver e (dl 0 e)) L.toNat r1 c z E' wA) ?_ (fun j a9 w9 hj hp9 hi9 hI=>?_) fun a9 w9 hp9 hI=>?_
    ·exact⟨[],r1,rfl,kQ.start _ _ _,PX,em.refl _ _ _ _,⟨cs,hpc,GE,fun q t _ hq ht=>OV q t hq ht⟩,fun i v hv=>by simp at hv⟩
    ·refine wG (B:=B) (O:=O) (r0:=r1) (m:=m) (te:=E') IZ (VU _ _ _ _ _ Ky) Ky GB Te hc Gw (by omega) (by omega) (by rw[show nN+10+5=nN+15 from rfl];omega) (by omega) (by omega) (by omega) (by omega) hp9 hy8 hi9 hj Wn (by omega) (by omega) (by omega) (by omega) (by omega) hI (fun he a10 w10 hp10 hif I5=>?_) (fun he=>?_)
     ·refine ho.err (by rw[he];rfl) a10 w10 (Mf.trans (hp10.mono (Nat.le_refl _) (by omega))) hif ?_
      exact⟨I5.os.trans IY.os,I5.tape.trans IY.tape,I5.output.trans IY.output,Nat.le_trans IY.size I5.size,fun q hq hx=>by
       rw[I5.block q (by omega) (fun h=>by rcases h with h|h;exact hx (.inl h);omega),IY.block q hq (fun h=>hx (.inl h))]⟩
     ·exact ho.go (by rw[he];rfl)
    ·obtain⟨vs,r2,Oa,Kt,Tc,L2,⟨cur9,hcu9,_,_⟩,Hz⟩:=hI
     have SP:=L2.keeps.size
     have HO:em R B (fun j=>O+off<=j/\j<O+off+1) w w9:=
      ⟨⟨L2.keeps.os.trans IY.os,L2.keeps.tape.trans IY.tape,L2.keeps.output.trans IY.output,Nat.le_trans IY.size SP,fun q hq hx=>by
       rw[L2.keeps.block q (by omega) (fun h=>by rcases h with h|h;exact hx (.inl h);omega),IY.block q hq (fun h=>hx (.inl h))]⟩,fun cs' te' Pb=>⟨cs',by
       have MO:=Gl.BR
       rw[L2.keeps.block B (by omega) (fun h=>by rcases h with h|h;exact MO h;omega),IY.block B IT MO];exact Pb,rfl,fun _ _=>rfl⟩⟩
     have Sy:a9.get y=.slice (some ⟨w6.heap.size,0,none⟩) L.toNat c:=(hp9.get y (by omega) (.inl (by omega))).trans hy8
     have GG:(Value.slice (some ⟨w6.heap.size,0,none⟩) L.toNat c).oneCell'=true/\(Value.slice (some ⟨w6.heap.size,0,none⟩) L.toNat c).cells=#[.slice (some ⟨w6.heap.size,0,none⟩) L.toNat c]:=⟨rfl,rfl⟩
     rw[show(ud g i l (nm.n 7) (nm.n 8) (gS (gEl g cx e y i F (nm.sub 0))) (nN+10)).2=(gL (gEl g cx e y i F (nm.sub 0)) (nN+15)).2 from rfl]
     refine pj (n0:=n) hF Gl hc ⟨G7.1,by omega⟩ hk (by omega) (by omega) (Mf.trans (hp9.mono (by omega) (by omega))) Sy (by omega) GG HO Tc hb fun a10 w10 hp10 hrd10 hev10 I5 Jh=>?_
     refine ho.ok (.l vs) r2 a10 w10 (by rw[Kt.done Oa];rfl) hp10 hrd10 hev10 fun X hX hS=>.inr ⟨vs,w6.heap.size,0,c,by rw[Oa];exact Jh,fun Rx=>?_,?_,by omega,IK,rfl,fun q u hu=>?_⟩
     ·have:=hX _ Rx
      omega
     ·have:=I5.size
      omega
     ·have h1:=Hz q u hu (fun k=>X k \/ k=B) (fun k hk=>by
       rcases hk with hk|rfl
       ·have:=hX k hk
        omega
       ·omega) (fun hk=>by rcases hk with hk|hk;exact hS hk;exact Gl.BS hk.symm)
      rw[Nat.zero_add]
      refine Rp.mono (fun k _ hk=>.inl hk) _ _ _ _ (Rp.keep (I5.mono fun k _ hk=>.inr hk) h1 (fun hk=>?_) (by omega))
      rcases hk with hk|hk
      ·have:=hX _ hk
       omega
      ·omega
  have Uv:lJ g cx (.list nul sz e) nm=co cx.s v (nm.n 1) (nm.n 2) F::bB v y::aU l (.int .i32 0)::(if cx.hf then ix cx (aF g.clen cx.b l) (aF g.len cx.b l)else aF g.len cx.b l:GC)::(jx g cx nul y l F ++
    [oh g cx,zH y F,pn g y l F,ud g i l (nm.n 7) (nm.n 8) (gS (gEl g cx e y i F (nm.sub 0))),bB y v,iI none cx.s v (nm.n 1) (nm.n 2) F]):=by
   simp only[lJ,hv,hy,hl,hi,hFF]
   simp
  rw[Uv]
  exact QH
 ·cases GB
end
section
variable {P:Program} {g:G} {av:PF->Bool} {fl:Bool} {D:Nat->Option (List (Nat × Value))}
theorem ac.inner {R B p:Nat}{w w1 w2:World}(h:ac (fun k=>k=R \/ k=B) w w1)(k:ac (fun k=>k=R \/ k=p) w1 w2)(hp:w.heap.size<=p):ac (fun k=>k=R \/ k=B) w w2:=
 ⟨k.os.trans h.os,k.tape.trans h.tape,k.output.trans h.output,Nat.le_trans h.size k.size,fun q hq hx=>by
  rw[k.block q (Nat.lt_of_lt_of_le hq h.size) (fun hh=>by rcases hh with hh|hh;exact hx (.inl hh);omega),h.block q hq hx]⟩
theorem lG {O:Nat}:∀ (wr:List (Nat × Value)) (cur:Array Value),(∀ q∈wr,cur[O+q.1]?=some q.2)->applyWr cur O wr=cur
 | [],_,_=>rfl
 | p::r,cur,h=>by
  have e:cur.setIfInBounds (O+p.1) p.2=cur:=by
   have hp:=h p (by simp)
   refine Array.ext (by simp) fun i h1 h2=>?_
   rw[Array.getElem_setIfInBounds h2]
   split
   ·rename_i hi
    subst hi
    exact((Array.getElem?_eq_some_iff.1 hp).2).symm
   ·rfl
  show applyWr (cur.setIfInBounds (O+p.1) p.2) O r=cur
  rw[e]
  exact lG r cur fun q hq=>h q (by simp[hq])
theorem me {w:World}{p:Nat × Value}:∀ (fs:Fds) (X:Nat->Prop) (B o:Nat),RpF w X fs B o (dfFds fs)->p9 p fs=true->∃ v,w.cell? ⟨B,o+p.1,none⟩=some v/\v=p.2
 | .nil,_,_,_,_,h=>by cases h
 | .cons lo hi tag df off ty r,X,B,o,hr,h=>by
  obtain⟨v0,vs0,he,hv,HU⟩:=hr
  cases he
  simp only[p9,Bool.or_eq_true]at h
  rcases h with h|h
  ·cases ty with
   | prim q=>
    cases q
    case uuid=>cases h
    case bool=>
     simp only[Bool.and_eq_true,Bool.or_eq_true,beq_iff_eq]at h
     obtain⟨rfl,h2⟩:=h
     obtain⟨cs,hc,b,rfl,hb⟩:=hv
     refine⟨_,hc 0 _ rfl,?_⟩
     simp only[dl,V.n.injEq]at hb
     rcases h2 with⟨rfl,h2⟩|⟨rfl,h2⟩
     ·rw[qD h2]
      cases b<;>simp at hb ⊢
     ·rw[qD h2]
      cases b<;>simp at hb ⊢
    all_goals
     simp only[Bool.and_eq_true,beq_iff_eq]at h
     obtain⟨rfl,h2⟩:=h
     obtain⟨cs,hc,x,rfl,hx,_⟩:=hv
     refine⟨_,hc 0 _ rfl,?_⟩
     simp only[dl,V.n.injEq]at hx
     rw[qD h2,hx]
   | str _=>cases h
   | bytes _=>cases h
   | list _ _ _=>cases h
   | struct _ _ _=>cases h
  ·exact me r X B o HU h
theorem Ct (En:Env P g av fl D){toff:Option Nat}{fs:Fds}(Hl:Aj P g av fl D fs):qL P g av fl D (.struct none toff fs):=by
 intro nm cx fx ver S R B O r m k0 n T off old K E a w te G1 Gl hc Gw hk Hu hn hb HH ho
 simp only[qo,Bool.and_eq_true,decide_eq_true_eq,beq_iff_eq]at G1
 obtain⟨⟨⟨⟨G7,hT⟩,hF⟩,GS⟩,Kv⟩:=G1
 subst hT
 replace hF:=fldB_ok hF
 split at GS
 ·rename_i wr Hn
  simp only[Bool.and_eq_true,decide_eq_true_eq,List.all_eq_true]at GS
  have hwf:=fun q hq=>(GS q hq).2
  replace GS:=fun q hq=>(GS q hq).1
  obtain⟨Le,N2⟩:=En.df _ _ Hn
  have Jb:R<w.heap.size:=Gl.rd.lt
  have IT:B<w.heap.size:=hb.lt
  have G5:=hc.le
  have N3:=hc.six
  have hn':(gL (fI g { cx with s:=nm.n 3 } fs.tagged (nm.n 5) (nm.n 6) (nm.sub 0) (gFds g { cx with s:=nm.n 3 } fs (nm.sub 0).s) (gTagd g { cx with s:=nm.n 3 } fs (nm.sub 0).s)) (n+3+2+1)).2<=a.tmps.size:=by
   simp only[lJ]at hn
   rw[bc]at hn
   exact hn
  have Ib:=ij (g:=g) (cx:={ cx with s:=nm.n 3 }) (tagged:=fs.tagged) (T:=nm.n 5) (kt:=nm.n 6) (m:=nm.sub 0) (up_gFds g fs (nm.sub 0).s { cx with s:=nm.n 3 }) (up_gTagd g fs (nm.sub 0).s { cx with s:=nm.n 3 }) (n+3+2+1)
  have G0:(Ty.struct none toff fs).sz=fs.ext (d9 toff):=rfl
  obtain⟨cur,Ix,Ii⟩:=hb
  rw[G0]at Ii
  show LW P (eY cx.s (nm.n 0) (nm.n 1) (nm.n 2)::da (nm.n 0) (nm.n 4)::bB (nm.n 0) (nm.n 3)::fI g { cx with s:=nm.n 3 } fs.tagged (nm.n 5) (nm.n 6) (nm.sub 0) (gFds g { cx with s:=nm.n 3 } fs (nm.sub 0).s) (gTagd g { cx with s:=nm.n 3 } fs (nm.sub 0).s)) n (Rt K E) a w
  refine ad (jD (x:=6) (m:=m) (k0:=k0) (B:=B) (O:=O) Gl.ss hF (.inr ⟨G7.1,by omega⟩) G5 hk (by omega) (by omega) fun a1 Gk Gv=>?_)
  have Gu:=Gk.size
  rw[show(eY cx.s (nm.n 0) (nm.n 1) (nm.n 2) n).2=n+3 from rfl]
  refine ad (jY (x:=6) (m:=m) (k0:=k0) (B:=B) (O:=O+off) (cur:=cur) (te:=te) Le N2 Gv Ix (fun q hq=>by have:=GS q hq;omega) G5 (by omega) (by omega) fun a2 w2 Gm hsame2 Gs J3=>?_)
  have G9:=Gm.size
  have G2:a2.get (nm.n 0)=pt B (O+off):=(hsame2 _ (by omega)).trans Gv
  rw[show(da (nm.n 0) (nm.n 4) (n+3)).2=n+3+2 from rfl]
  refine ad (eH (x:=6) (m:=m) (k0:=k0) (.inr ⟨G7.2.1,G7.2.2.2.1⟩) G5 (by omega) (by omega) (by omega) fun a3 Gt GI=>?_)
  rw[show(bB (nm.n 0) (nm.n 3) (n+3+2)).2=n+3+2+1 from rfl]
  have Hh:=Gt.size
  have Hw:Pv 6 m k0 n a a3:=(Gk.trans (Gm.mono (Nat.le_refl _) (by omega))).trans (Gt.mono (Nat.le_refl _) (by omega))
  have GJ:cQ w2 g.tR S R r:=Gl.rd.keep Gs (fun h=>Gl.BS h.symm) (fun h=>Gl.BR h.symm)
  have Hf:RC g cx fx ver S R B O r a3 w2:=Gl.step hc Hw GJ Gs (fun _ _ h=>.inr h)
  have JR:RC g { cx with s:=nm.n 3 } fx ver S R B (O+off) r a3 w2:=Hf.withS (GI.trans G2) Gl.BR Gl.BS Gl.gB
  have MB:nm.n 0<max (nm.n 0) (nm.n 3)+1/\nm.n 3<max (nm.n 0) (nm.n 3)+1/\max (nm.n 0) (nm.n 3)+1<=k0:=by omega
  have Kd:eb { cx with s:=nm.n 3 } (max (nm.n 0) (nm.n 3)+1) k0:=
   ⟨⟨by have:=hc.b;simp only;omega,hc.b.2⟩,⟨MB.2.1,by simp only;omega⟩,⟨by have:=hc.ver;simp only;omega,hc.ver.2⟩,⟨by have:=hc.fx;simp only;omega,hc.fx.2⟩,by omega,MB.2.2⟩
  have GO:em R B (fun t=>O+off<=t/\t<O+off+(Ty.struct none toff fs).sz) w w2:=by
   refine⟨Gs.mono fun _ _ h=>.inr h,fun cs te' GE=>?_⟩
   rw[Ix]at GE
   obtain⟨rfl,rfl,_⟩:=Obj.cells.inj (Option.some.inj GE)
   exact⟨_,J3,cW _ _ _,fun t ht=>i9 _ _ _ _ fun q hq he=>ht (by have:=GS q hq;rw[G0];omega)⟩
  have TU:(fs.plain=true/\fx=true) \/ ((∀ X,RpF w2 X fs B (O+off) (dfFds fs))/\ky w2 B (O+off) toff):=by
   rcases HH with HH|⟨rfl,HH⟩
   ·exact .inl HH
   ·have GV:∀ X,RpF w X fs B (O+off) (dfFds fs):=fun X=>by
     obtain⟨vs,t,he,h,_⟩:=HH X
     cases he
     exact h
    have PS:applyWr cur (O+off) wr=cur:=lG wr cur fun q hq=>by
     obtain⟨v,hv,JS⟩:=me fs (fun _=>False) B (O+off) (GV _) (hwf q hq)
     have:w.cell? ⟨B,O+off+q.1,none⟩=cur[O+off+q.1]?:=by simp[World.cell?,Ix]
     rw[<- this,hv,JS]
    rw[PS]at J3
    have hc:∀ j,w2.cell? ⟨B,j,none⟩=w.cell? ⟨B,j,none⟩:=fun j=>by simp[World.cell?,J3,Ix]
    refine .inr ⟨fun X=>?_,?_⟩
    ·have h1:=RpF.frameIn (X:=fun k=>X k \/ k=B) (Gs.mono fun k _ hk=>.inr hk) fs B (O+off) (dfFds fs) (GV _) fun j _=>hc j
     exact RpF.mono (fun k _ hk=>.inl hk) fs B (O+off) (dfFds fs) h1
    ·obtain⟨vs,t,he,_,ht⟩:=HH (fun _=>True)
     cases he
     cases toff with
     | none=>trivial
     | some k=>
      obtain⟨mm,hm,hh⟩:=ht
      rcases hh with⟨rfl,_⟩|hh
      ·show w2.cell? ⟨B,O+off+k,none⟩=some (.map none)
       rw[hc];exact hm
      ·obtain⟨_,_,hx,_⟩:=hh
       exact absurd trivial hx
  refine Hl (nm.sub 0) { cx with s:=nm.n 3 } fx ver S R B (O+off) r (max (nm.n 0) (nm.n 3)+1) k0 (n+3+2+1) (nm.n 5) (nm.n 6) toff K E a3 w2 te Kv JR Kd Gw (by omega) (by omega) (by omega) ⟨_,J3,by rw[cW];exact Ii⟩ TU
   ⟨fun v r' a4 w4 he GD H0 hev4 hv=>?_,fun he a4 w4 GD hif GH=>?_,fun he=>?_⟩
  ·obtain⟨vs,t,rfl,NV,R3⟩:=hv
   exact ho.ok _ r' a4 w4 he (Hw.trans (GD.mono (by omega) (by omega))) H0 (GO.trans (hev4.mono fun t ht=>by rw[G0];exact xf ht)) fun X hX hS=>⟨vs,t,rfl,fi NV Gs.size X hX hS,fi R3 Gs.size X hX hS⟩
  ·exact ho.err he a4 w4 (Hw.trans (GD.mono (by omega) (by omega))) hif (GO.keeps.trans GH)
  ·exact ho.go he
 ·cases GS
theorem Cs (En:Env P g av fl D){q:Nat}{toff:Option Nat}{fs:Fds}(Hl:Aj P g av fl D fs):qL P g av fl D (.struct (some q) toff fs):=by
 intro nm cx fx ver S R B O r m k0 n T off old K E a w te G1 Gl hc Gw hk Hu hn hb HH ho
 simp only[qo,Bool.and_eq_true,decide_eq_true_eq,beq_iff_eq]at G1
 obtain⟨⟨⟨⟨⟨G7,hT⟩,hF⟩,Sf⟩,GS⟩,Kv⟩:=G1
 subst hT
 replace hF:=fldB_ok hF
 split at GS
 ·rename_i z wr hz Hn
  simp only[Bool.and_eq_true,decide_eq_true_eq,List.all_eq_true]at GS
  obtain⟨⟨⟨Lo,PB⟩,Lg⟩,KY⟩:=GS
  obtain⟨Le,N2⟩:=En.df _ _ Hn
  have Jb:R<w.heap.size:=Gl.rd.lt
  have IT:B<w.heap.size:=hb.lt
  have G5:=hc.le
  have N3:=hc.six
  have HI:old.isNul=true:=by
   cases h:old.isNul with
   | true=>rfl
   | false=>exact absurd (by simp only[e7,h];rfl) ho.go
  have Gn:w.cell? ⟨B,O+off,none⟩=some (.pointer none):=by
   rcases HH with⟨h,_⟩|⟨p,q,vs,t,_,_,_,h,_⟩
   ·exact h
   ·rw[h]at HI;cases HI
  have HU:e7 fx ver (.struct (some q) toff fs) old r=(if(rI 1 r).1=-1 \/ (rI 1 r).2.bad=true then .ok .nul (rI 1 r).2 else fz fx fs.tagged (rdFds fx ver fs) (rdTag fx ver fs) (rI 1 r).2):=by
   simp only[e7,HI];rfl
  rw[HU]at ho
  have hn':(gL (fI g { cx with s:=nm.n 4 } fs.tagged (nm.n 6) (nm.n 7) (nm.sub 0) (gFds g { cx with s:=nm.n 4 } fs (nm.sub 0).s) (gTagd g { cx with s:=nm.n 4 } fs (nm.sub 0).s)) (n+6+4+4+2+1)).2<=a.tmps.size:=by
   have h:=hn
   simp only[lJ,gL,og,gS,ej]at h
   rw[bc]at h
   exact h
  have Ib:=ij (g:=g) (cx:={ cx with s:=nm.n 4 }) (tagged:=fs.tagged) (T:=nm.n 6) (kt:=nm.n 7) (m:=nm.sub 0) (up_gFds g fs (nm.sub 0).s { cx with s:=nm.n 4 }) (up_gTagd g fs (nm.sub 0).s { cx with s:=nm.n 4 }) (n+6+4+4+2+1)
  simp only[lJ]
  refine ad ?_
  rw[aV]
  refine wc (m:=m) (k0:=k0) En.kb Sf.1 Sf.2 Gl hc ⟨G7.2.2.1,by omega⟩ hk (by omega) (fun Ie GT a1 w1 Gk HQ Gy=>?_) (fun H1 a1 w1 Gk HQ Gy=>bg ?_)
  ·have Gu:=Gk.size
   rw[if_neg (by rw[GT];simp[Ie])]at ho
   have G6:RC g cx fx ver S R B O (rI 1 r).2 a1 w1:=Gl.step hc Gk HQ Gy (fun _ _ h=>.inl h)
   have IV:=Gy.size
   obtain⟨cur,Ix,Ii⟩:=hb
   replace Ii:O+off+1<=cur.size:=Ii
   have Rg:w1.heap[B]?=some (.cells cur te (0,0)):=by rw[Gy.block B IT Gl.BR];exact Ix
   refine .mono (Q:=Rt (LW P [] _ (Rt K E)) E) (R:=Rt K E) (bm ?_) fun e a w hq=>by cases e<;>first|exact bg hq|exact hq
   show LW P (Bc cx.s (nm.n 1) (nm.n 2) (nm.n 3) (nm.n 9)::co cx.s (nm.n 0) (nm.n 1) (nm.n 2) (nm.n 3)::da (nm.n 0) (nm.n 5)::bB (nm.n 0) (nm.n 4)::fI g { cx with s:=nm.n 4 } fs.tagged (nm.n 6) (nm.n 7) (nm.sub 0) (gFds g { cx with s:=nm.n 4 } fs (nm.sub 0).s) (gTagd g { cx with s:=nm.n 4 } fs (nm.sub 0).s)) (n+6) (Rt K E) a1 w1
   refine ad (DG (x:=6) (m:=m) (k0:=k0) (B:=B) (O:=O) (cur:=cur) (te:=te) G6.ss hF (zeroOf_ok hz) Rg (by omega) G5 (by omega) (by omega) fun a2 Gm hsame2=>?_)
   have G9:=Gm.size
   rw[show(Bc cx.s (nm.n 1) (nm.n 2) (nm.n 3) (nm.n 9) (n+6)).2=n+6+4 from rfl]
   have LE:w1.heap.size≠S:=by have:=Gl.Slt;omega
   have JG:ac (fun _=>False) w1 (w1.alloc (.cells z.cells (nm.n 9) (0,0))):=ac.alloc _ _ _
   have Vb:(w1.alloc (.cells z.cells (nm.n 9) (0,0))).heap[B]?=some (.cells cur te (0,0)):=by rw[bA (by omega)];exact Rg
   have J3:((w1.alloc (.cells z.cells (nm.n 9) (0,0))).setRow B (aI cur (O+off) [pt w1.heap.size 0])).heap[B]?=some (.cells (aI cur (O+off) [pt w1.heap.size 0]) te (0,0)):=setRow_heap _ _ _ _ _ _ Vb
   have hp2':((w1.alloc (.cells z.cells (nm.n 9) (0,0))).setRow B (aI cur (O+off) [pt w1.heap.size 0])).heap[w1.heap.size]?=some (.cells z.cells (nm.n 9) (0,0)):=by
    rw[setRow_other _ _ _ _ (by omega)];exact heap_alloc_new _ _
   have GO:em R B (fun j=>O+off<=j/\j<O+off+1) w1 ((w1.alloc (.cells z.cells (nm.n 9) (0,0))).setRow B (aI cur (O+off) [pt w1.heap.size 0])):=
    (em.of_keeps JG (fun _ _ h=>h.elim) Gl.BR).trans (em.store Vb (by simpa using Ii) (fun j ha hb=>⟨ha,by simpa using hb⟩))
   have Ly:ac (·=B) w1 ((w1.alloc (.cells z.cells (nm.n 9) (0,0))).setRow B (aI cur (O+off) [pt w1.heap.size 0])):=(JG.mono fun _ _ h=>h.elim).trans (ac.setRow _ _ _ _ rfl)
   have Jw:((w1.alloc (.cells z.cells (nm.n 9) (0,0))).setRow B (aI cur (O+off) [pt w1.heap.size 0])).cell? ⟨B,O+off,none⟩=some (pt w1.heap.size 0):=by
    rw[cell_setRow_same _ _ _ _ _ _ _ Vb]
    have:=bU (cur:=cur) (o:=O+off) (vs:=[pt w1.heap.size 0]) (by simpa using Ii) 0 (by simp)
    simpa using this
   have Lq:((w1.alloc (.cells z.cells (nm.n 9) (0,0))).setRow B (aI cur (O+off) [pt w1.heap.size 0])).heap.size=w1.heap.size+1:=by simp
   generalize Ik:(w1.alloc (.cells z.cells (nm.n 9) (0,0))).setRow B (aI cur (O+off) [pt w1.heap.size 0])=w2 at *
   generalize NE:w1.heap.size=p at *
   have GQ:Pv 6 m k0 n a a2:=Gk.trans (Gm.mono (Nat.le_refl _) (by omega))
   have LY:a2.get cx.s=pt B O:=(GQ.get _ hc.s.2 (.inl hc.s.1)).trans Gl.ss
   refine ad (im (x:=6) (m:=m) (k0:=k0) (O:=O) LY hF Jw (.inr ⟨G7.1,by omega⟩) G5 (by omega) (by omega) (by omega) fun a3 Gt GI=>?_)
   have Hh:=Gt.size
   rw[show(co cx.s (nm.n 0) (nm.n 1) (nm.n 2) (nm.n 3) (n+6+4)).2=n+6+4+4 from rfl]
   refine ad (jY (x:=6) (m:=m) (k0:=k0) (B:=p) (O:=0) (cur:=z.cells) (te:=nm.n 9) Le N2 GI hp2' (fun q hq=>by have:=Lo q hq;omega) G5 (by omega) (by omega) fun a4 w4 GD hsame4 GH MP=>?_)
   have IP:=GD.size
   have Ht:a4.get (nm.n 0)=pt p 0:=(hsame4 _ (by omega)).trans GI
   rw[show(da (nm.n 0) (nm.n 5) (n+6+4+4)).2=n+6+4+4+2 from rfl]
   refine ad (eH (x:=6) (m:=m) (k0:=k0) (.inr ⟨G7.2.1,by omega⟩) G5 (by omega) (by omega) (by omega) fun a5 HB II=>?_)
   rw[show(bB (nm.n 0) (nm.n 4) (n+6+4+4+2)).2=n+6+4+4+2+1 from rfl]
   have Nd:=HB.size
   have Iv:Pv 6 m k0 n a a5:=((GQ.trans (Gt.mono (Nat.le_refl _) (by omega))).trans (GD.mono (Nat.le_refl _) (by omega))).trans (HB.mono (Nat.le_refl _) (by omega))
   have hsz4:=GH.size
   have Wr:B≠p:=by omega
   have GJ:cQ w2 g.tR S R (rI 1 r).2:=HQ.keep Ly (fun h=>Gl.BS h.symm) (fun h=>Gl.BR h.symm)
   have H0:cQ w4 g.tR S R (rI 1 r).2:=GJ.keep GH (fun h=>by omega) (fun h=>by omega)
   obtain⟨t',x',Ij⟩:=Gl.err
   have LJ:=cM Ij
   have Mv:w1.cell? ⟨g.gErr,0,none⟩=some (.iface t' x'):=Gy.cell Gl.gR Ij
   have IA:w2.cell? ⟨g.gErr,0,none⟩=some (.iface t' x'):=Ly.cell Gl.gB Mv
   have QW:ErrAt g.gErr w4:=⟨t',x',GH.cell (by omega) IA⟩
   have Ng:RC g { cx with s:=nm.n 4 } fx ver S R p 0 (rI 1 r).2 a5 w4:=
    ⟨H0,(Iv.get _ hc.b.2 (.inl hc.b.1)).trans Gl.sb,II.trans Ht,(Iv.get _ hc.ver.2 (.inl hc.ver.1)).trans Gl.sv,fun hf=>(Iv.get _ hc.fx.2 (.inl hc.fx.1)).trans (Gl.sf hf),Gl.nf,(Iv.get 2 (by omega) (.inl (by omega))).trans Gl.su,QW,Gl.SR,by omega,LE,Gl.gR,by omega,
     by have:=Gl.Slt;omega⟩
   have MB:nm.n 0<max (nm.n 0) (nm.n 4)+1/\nm.n 4<max (nm.n 0) (nm.n 4)+1/\max (nm.n 0) (nm.n 4)+1<=k0:=by omega
   have hc5:eb { cx with s:=nm.n 4 } (max (nm.n 0) (nm.n 4)+1) k0:=
    ⟨⟨by have:=hc.b;simp only;omega,hc.b.2⟩,⟨MB.2.1,by simp only;omega⟩,⟨by have:=hc.ver;simp only;omega,hc.ver.2⟩,⟨by have:=hc.fx;simp only;omega,hc.fx.2⟩,by omega,MB.2.2⟩
   have VY:=l4 (O:=0) (cur:=z.cells) (z:=z.cells) (fun j _=>by rw[Nat.zero_add]) (by omega) Lo MP
   have Nq:ac (fun k=>k=R \/ k=B) w w4:=
    ⟨GH.os.trans (Ly.os.trans Gy.os),GH.tape.trans (Ly.tape.trans Gy.tape),GH.output.trans (Ly.output.trans Gy.output),by omega,fun q hq hx=>by
     rw[GH.block q (by omega) (by omega),Ly.block q (by omega) (fun h=>hx (.inr h)),Gy.block q hq (fun h=>hx (.inl h))]⟩
   have hB4':w4.heap[B]?=some (.cells (aI cur (O+off) [pt p 0]) te (0,0)):=by rw[GH.block B (by omega) Wr];exact J3
   have Om:w.heap.size<=p:=IV
   refine Hl (nm.sub 0) { cx with s:=nm.n 4 } fx ver S R p 0 (rI 1 r).2 (max (nm.n 0) (nm.n 4)+1) k0 (n+6+4+4+2+1) (nm.n 6) (nm.n 7) toff K E a5 w4 (nm.n 9) Kv Ng hc5 Gw (by omega) (by omega) (by omega) ⟨_,MP,by rw[cW];omega⟩ ?_
    ⟨fun v r' a6 w6 he hp6 Nf hev6 hv=>?_,fun he a6 w6 hp6 hif I4=>?_,fun he=>?_⟩
   ·refine .inr ⟨fun X=>zFds_ok VY X fs 0 PB,?_⟩
    cases toff with
    | none=>trivial
    | some o=>exact VY.one Lg
   ·obtain⟨vs,t,rfl,NV,R3⟩:=hv
    have MO:=Gl.BR
    have Wt:w6.heap[B]?=some (.cells (aI cur (O+off) [pt p 0]) te (0,0)):=by
     rw[hev6.keeps.block B (by omega) (fun h=>by rcases h with h|h;exact MO h;exact Wr h)];exact hB4'
    have SS:=hev6.keeps.size
    refine ho.ok _ r' a6 w6 he (Iv.trans (hp6.mono (by omega) (by omega))) Nf ⟨Nq.inner hev6.keeps Om,fun cs te' GE=>?_⟩ fun X hX hS=>.inr ⟨p,0,vs,t,?_,fun Rx=>?_,by omega,rfl,?_,?_⟩
    ·rw[Ix]at GE
     obtain⟨rfl,rfl,_⟩:=Obj.cells.inj (Option.some.inj GE)
     refine⟨_,Wt,dO (by simpa using Ii),fun j hj=>cm (by simpa using Ii) j ?_⟩
     simp only[Ty.sz]at hj
     simp only[List.length_cons,List.length_nil]
     omega
    ·have:=bU (cur:=cur) (o:=O+off) (vs:=[pt p 0]) (by simpa using Ii) 0 (by simp)
     simp only[World.cell?,Wt]
     simpa[pt]using this
    ·have:=hX p Rx
     omega
    ·exact fi NV Nq.size X hX hS
    ·exact fi R3 Nq.size X hX hS
   ·exact ho.err he a6 w6 (Iv.trans (hp6.mono (by omega) (by omega))) hif (Nq.inner I4 Om)
   ·exact ho.go he
  ·refine ho.ok .nul _ a1 w1 (by rw[if_pos H1]) Gk HQ (em.of_keeps Gy (fun _ _ h=>h) Gl.BR) fun X hX hS=>.inl ⟨?_,rfl⟩
   exact Gy.cell Gl.BR Gn
 ·cases GS
theorem AX {e:Ty}{hf:Bool}{m k0 esz:Nat}{z:Array Value}{nm:Nm}(h:okEl ⟨P,g,av,D⟩ hf m k0 esz z e nm=true):e.sz<=esz:=by
 cases e with
 | prim p=>simp only[okEl,Bool.and_eq_true,beq_iff_eq]at h;omega
 | str nul=>simp only[okEl,Bool.and_eq_true,beq_iff_eq]at h;simp only[Ty.sz];omega
 | bytes nul=>simp only[okEl,Bool.and_eq_true,beq_iff_eq]at h;simp only[Ty.sz];omega
 | list nul sz e=>simp[okEl]at h
 | struct nul toff fs=>
  cases nul with
  | some q=>simp[okEl]at h
  | none=>
   simp only[okEl,Bool.and_eq_true]at h
   obtain⟨⟨_,h⟩,_⟩:=h
   split at h
   ·simp only[Bool.and_eq_true,decide_eq_true_eq]at h
    exact h.2
   ·cases h
mutual
theorem B1 (En:Env P g av fl D):∀ ty:Ty,qL P g av fl D ty
 | .prim p=>A6 En.kb p
 | .str nul=>Cr En.kb nul
 | .bytes nul=>xK En.kb nul
 | .list _ _ e=>A7 En.kb (rd_el En e) (fun _ _ _ _ _ h=>AX h)
 | .struct none _ fs=>Ct En (uG En.kb (rd_fds En fs) (rd_case En fs))
 | .struct (some _) _ fs=>Cs En (uG En.kb (rd_fds En fs) (rd_case En fs))
theorem rd_el (En:Env P g av fl D):∀ ty:Ty,Ak P g av fl D ty
 | .prim _=>qF En.kb rfl
 | .str _=>qF En.kb rfl
 | .bytes _=>qF En.kb rfl
 | .list _ _ _=>fun _ _ _ _ _ _ _ _ _ _ _ _ _ _ _ _ _ _ _ _ _ _ _ _ _ _ _ _ h=>by simp[okEl]at h
 | .struct none _ fs=>wN En (uG En.kb (rd_fds En fs) (rd_case En fs))
 | .struct (some _) _ _=>fun _ _ _ _ _ _ _ _ _ _ _ _ _ _ _ _ _ _ _ _ _ _ _ _ _ _ _ _ h=>by simp[okEl]at h
theorem rd_fds (En:Env P g av fl D):∀ fs:Fds,pz P g av fl D fs
 | .nil=>Bh
 | .cons _ _ _ _ _ ty r=>zP (B1 En ty) (rd_fds En r)
theorem rd_case (En:Env P g av fl D):∀ fs:Fds,kP P g av fl D fs
 | .nil=>zU
 | .cons _ _ _ _ _ ty r=>wQ En.kb (B1 En ty) (rd_case En r)
end
theorem DL (En:Env P g av fl D)(fs:Fds):Aj P g av fl D fs:=uG En.kb (rd_fds En fs) (rd_case En fs)
end
section
open Go
def tb:Fds->Bool
 | .nil=>true
 | .cons _ _ _ _ off _ r=>decide (0<off)&&tb r
theorem ql:∀ (fs:Fds) (j:Nat),tb fs=true->fs.In 0 j->j≠0
 | .nil,_,_,h=>h.elim
 | .cons _ _ _ _ off ty r,j,h,hj=>by
  simp only[tb,Bool.and_eq_true,decide_eq_true_eq]at h
  rcases hj with hj|hj
  ·omega
  ·exact ql r j h.2 hj
def o7 (cx:Cx):Nat:=max (max cx.b cx.s) (max cx.ver cx.fx)+1
def rl (e:Ev)(kept:Bool)(cx:Cx)(fs:Fds)(dflt T kt:Nat)(toff:Option Nat)(n0 ntmps:Nat)(nm:Nm)(z:Array Value)(used:Nat):Bool:=
 decide (6<cx.b/\6<cx.s/\6<cx.ver/\cx.b≠cx.s/\cx.b≠cx.ver/\cx.s≠cx.ver/\o7 cx<=n0/\((cx.hf=true/\6<cx.fx/\cx.b≠cx.fx/\cx.s≠cx.fx/\cx.ver≠cx.fx) \/ (cx.hf=false/\cx.fx=0)))&&decide (used<=ntmps)&&eB e.P T 0 e.g.tVer 0 false 1&&(!kept || e.av .i16) &&
 (match e.D dflt with
  | some wr=>(wr.all fun p=>decide (0<p.1/\p.1<z.size))&&zFds (applyWr z 0 wr) fs 0&&FM (applyWr z 0 wr) toff&&tb fs&&(toff != some 0)&&decide (fs.ext (d9 toff)<=z.size)&&decide (0<z.size)
  | none=>false) &&
 wy e cx.hf (o7 cx) n0 T kt toff fs nm (okFds e cx.hf (o7 cx) n0 T fs nm.s) (okTagd e (nm.n 1+1) n0 T fs nm.s)
def jQ (g:G)(kept:Bool)(cx:Cx)(dflt T flex:Nat):List GC:=
 [aU 6 .nilIface,da 0 dflt,aA 2 fun n=>[mk (some n) (.move (tm 1)),mk (some (n+1)) (.build g.tR #[(0,tm n)]),mk (some cx.b) (.alloc g.tR),mk none (.store g.tR (tm cx.b) (tm (n+1)))]] ++
  (if kept then[aA 4 fun n=>[mk (some n) (.move (tm 0)),cl (some (n+1)) (g.rd .i16) [tm cx.b],mk (some (n+2)) (.nilCheck (tm n)),mk (some (n+3)) (.fieldAddr T (tm (n+2)) 0),mk none (.store g.tVer (tm (n+3)) (tm (n+1)))]] else[]) ++
  [co 0 cx.ver T 0 g.tVer,aA 1 fun n=>[mk (some n) (.move (tm cx.ver))]] ++
  (if cx.hf then[aA 2 fun n=>[mk (some n) (.move (tm cx.ver)),mk (some (n+1)) (.binOp .geq g.tVer (tm n) (ki .i16 flex) 0),mk (some cx.fx) (.assign (tm (n+1)))],aA 1 fun n=>[mk (some n) (.move (tm cx.fx))]] else[]) ++
  [bB 0 cx.s]
def Bd (g:G)(b:Nat):List GC:=[aA 1 fun n=>[cl (some n) g.complete [tm b],mk (some 6) (.assign (tm n))],aY .ret]
theorem zI (g:G)(kept:Bool)(cx:Cx)(fs:Fds)(dflt T kt flex n0:Nat)(m:Nm) :
  gRead g cx.hf kept cx fs dflt T kt flex n0 m=(gS (jQ g kept cx dflt T flex++(fI g cx fs.tagged T kt m (gFds g cx fs m.s) (gTagd g cx fs m.s)++Bd g cx.b)) n0).1:=by
 unfold gRead jQ Bd
 simp only[List.append_assoc]
mutual
theorem oE {z z2:Array Value}(h:∀ j,1<=j->z2[j]?=z[j]?):∀ (ty:Ty) (df:Int) (o:Nat),1<=o->sy z df ty o=true->sy z2 df ty o=true
 | .prim p,df,o,ho,hz=>by
  have e:∀ v,gj z2 o v=gj z o v:=fun v=>by simp only[gj,h o ho]
  cases p
  case uuid=>
   simp only[sy,List.all_eq_true]at hz ⊢
   intro j hj
   have:=hz j hj
   simp only[gj,h (o+j) (by omega)]at this ⊢
   exact this
  all_goals (simp only[sy,e]at hz ⊢;exact hz)
 | .str none,df,o,ho,hz=>by simp only[sy,gj,h o ho]at hz ⊢;exact hz
 | .str (some _),df,o,ho,hz=>by simp only[sy,gj,h o ho]at hz ⊢;exact hz
 | .bytes _,df,o,ho,hz=>by simp only[sy,gj,h o ho]at hz ⊢;exact hz
 | .list _ _ _,df,o,ho,hz=>by simp only[sy,gj,h o ho]at hz ⊢;exact hz
 | .struct (some _) _ _,df,o,ho,hz=>by simp only[sy,gj,h o ho]at hz ⊢;exact hz
 | .struct none toff fs,df,o,ho,hz=>by
  simp only[sy,Bool.and_eq_true]at hz ⊢
  refine⟨zFds_agree h fs o (.inl ho) hz.1,?_⟩
  cases toff with
  | none=>rfl
  | some k=>have:=hz.2;simp only[gj,h (o+k) (by omega)]at this ⊢;exact this
theorem zFds_agree {z z2:Array Value}(h:∀ j,1<=j->z2[j]?=z[j]?):∀ (fs:Fds) (o:Nat),(1<=o \/ tb fs=true)->zFds z fs o=true->zFds z2 fs o=true
 | .nil,o,ho,hz=>rfl
 | .cons _ _ _ df off ty r,o,ho,hz=>by
  simp only[zFds,Bool.and_eq_true]at hz ⊢
  rcases ho with ho|ho
  ·exact⟨oE h ty df (o+off) (by omega) hz.1,zFds_agree h r o (.inl ho) hz.2⟩
  ·simp only[tb,Bool.and_eq_true,decide_eq_true_eq]at ho
   exact⟨oE h ty df (o+off) (by omega) hz.1,zFds_agree h r o (.inr ho.2) hz.2⟩
end
section
variable {P:Program} {g:G} {av:PF->Bool} {fl:Bool} {D:Nat->Option (List (Nat × Value))}
def eL (kept:Bool)(ver:Int)(r:RS):Int × RS:=if kept then rI 2 r else(ver,r)
structure Am (g:G)(cx:Cx)(fs:Fds)(toff:Option Nat)(flex:Nat)(B S te:Nat)(csz:Nat)(w0:World)(vr:Int × RS)(ntmps R:Nat)(a:Act)(w:World):Prop where
 rc:RC g cx (cx.hf&&decide ((flex:Int)<=vr.1)) vr.1 S R B 0 vr.2 a w
 size:a.tmps.size=ntmps
 defers:a.defers=[]
 six:a.get 6=.nilIface
 keeps:ac (·=B) w0 w
 fresh:w0.heap.size<=R
 blk:∃ cur,w.heap[B]?=some (.cells cur te (0,0))/\cur.size=csz/\cur[0]?=some (.int .i16 vr.1)
 fds:∀ X,RpF w X fs B 0 (dfFds fs)
 tgs:ky w B 0 toff
structure Gc (g:G)(cx:Cx)(fs:Fds)(toff:Option Nat)(B S te csz:Nat)(w0:World)(vr:Int × RS)(ntmps R:Nat)(a:Act)(w:World):Prop where
 rd:cQ w g.tR S R vr.2
 sb:a.get cx.b=pt R 0
 s0:a.get 0=pt B 0
 s2:a.get 2=.bool false
 size:a.tmps.size=ntmps
 defers:a.defers=[]
 six:a.get 6=.nilIface
 keeps:ac (·=B) w0 w
 fresh:w0.heap.size<=R
 blk:∃ cur,w.heap[B]?=some (.cells cur te (0,0))/\cur.size=csz/\cur[0]?=some (.int .i16 vr.1)
 fds:∀ X,RpF w X fs B 0 (dfFds fs)
 tgs:ky w B 0 toff
 err:ErrAt g.gErr w
theorem pm {cx:Cx}{fs:Fds}{T flex n n0 ntmps:Nat}{toff:Option Nat}{B S te csz R:Nat}{w0 w:World}{vr:Int × RS}{a:Act}{Q:Exit->Act->World->Prop}{K:Act->World->Prop}(G7:6<cx.b/\6<cx.s/\6<cx.ver/\cx.b≠cx.s/\cx.b≠cx.ver/\cx.s≠cx.ver/\o7 cx<=n0/\((cx.hf=true/\6<cx.fx/\cx.b≠cx.fx/\cx.s≠cx.fx/\cx.ver≠cx.fx) \/ (cx.hf=false/\cx.fx=0)))
  (hF:bp P T 0 g.tVer 0 false 1) (hp:Gc g cx fs toff B S te csz w0 vr ntmps R a w) (J1:n0<=n) (hn:n+9<=ntmps) (hS:S<w0.heap.size) (Lf:B<w0.heap.size) (JK:B≠S) (MI:g.gErr≠B) (LJ:g.gErr<w0.heap.size)
  (h:∀ a' w',Am g cx fs toff flex B S te csz w0 vr ntmps R a' w'->K a' w') :
  LW P ([co 0 cx.ver T 0 g.tVer,aA 1 fun n=>[mk (some n) (.move (tm cx.ver))]]++((if cx.hf then[aA 2 fun n=>[mk (some n) (.move (tm cx.ver)),mk (some (n+1)) (.binOp .geq g.tVer (tm n) (ki .i16 flex) 0),mk (some cx.fx) (.assign (tm (n+1)))],aA 1 fun n=>[mk (some n) (.move (tm cx.fx))]] else[]) ++
   [bB 0 cx.s])) n (Exit.then K Q) a w:=by
 have hfx':cx.hf=true->6<cx.fx/\cx.b≠cx.fx/\cx.s≠cx.fx/\cx.ver≠cx.fx:=fun h=>by
  rcases G7.2.2.2.2.2.2.2 with h2|h2
  ·exact h2.2
  ·rw[h]at h2;cases h2.1
 replace G7:6<cx.b/\6<cx.s/\6<cx.ver/\cx.b≠cx.s/\cx.b≠cx.ver/\cx.s≠cx.ver/\o7 cx<=n0:=⟨G7.1,G7.2.1,G7.2.2.1,G7.2.2.2.1,G7.2.2.2.2.1,G7.2.2.2.2.2.1,G7.2.2.2.2.2.2.1⟩
 have V2:o7 cx=max (max cx.b cx.s) (max cx.ver cx.fx)+1:=rfl
 have G0:=hp.size
 obtain⟨cur,hB,GE,Ke⟩:=hp.blk
 have Gn:w.cell? ⟨B,0+0,none⟩=some (.int .i16 vr.1):=by simp only[World.cell?,hB];simpa using Ke
 have hR0:=hp.fresh
 refine ad (im (x:=cx.ver) (m:=n0) (k0:=n0) (O:=0) hp.s0 hF Gn (.inl rfl) (Nat.le_refl _) J1 (by omega) (by omega) fun a1 Gk Gv=>?_)
 have Gu:=Gk.size
 rw[show(co 0 cx.ver T 0 g.tVer n).2=n+4 from rfl]
 refine ad (au (ag (wpList_nil ?_)))
 rw[aa,Gv]
 have Gm:Pv cx.ver n0 n0 n a (a1.put (some (n+4)) (.int .i16 vr.1)):=Gk.put _ (by omega)
 have G2:(a1.put (some (n+4)) (.int .i16 vr.1)).get cx.ver=.int .i16 vr.1:=by rw[ak (by omega)];exact Gv
 generalize a1.put (some (n+4)) (.int .i16 vr.1)=a2 at Gm G2 ⊢
 have G9:=Gm.size
 rw[show(aA 1 (fun n=>[mk (some n) (.move (tm cx.ver))]) (n+4)).2=n+5 from rfl]
 have key:∀ (a3:Act) (n3:Nat),n+5<=n3->n3+1<=ntmps->a3.tmps.size=ntmps->a3.defers=[]->a3.get 0=pt B 0->a3.get 2=.bool false->a3.get 6=.nilIface->a3.get cx.b=pt R 0->a3.get cx.ver=.int .i16 vr.1->(cx.hf=true->a3.get cx.fx=.bool (decide ((flex:Int)<=vr.1))) ->
   LW P [bB 0 cx.s] n3 (Exit.then K Q) a3 w:=by
  intro a3 n3 h5 h6 Ol H6 h30 Vh h36 h3b h3v h3f
  refine ad (eH (x:=cx.s) (m:=n0) (k0:=n0) (.inl rfl) (Nat.le_refl _) (by omega) (by omega) (by omega) fun a4 GD Ht=>bg (h a4 w ?_))
  have IP:=GD.size
  refine⟨⟨hp.rd,(GD.get _ (by omega) (.inl (by omega))).trans h3b,Ht.trans h30,(GD.get _ (by omega) (.inl (by omega))).trans h3v,fun hf=>?_,fun hf=>by rw[hf];rfl,(GD.get 2 (by omega) (.inl (by omega))).trans Vh,hp.err,?_,?_,JK,?_,MI,?_⟩,
   by omega,GD.defers.trans H6,(GD.get 6 (by omega) (.inl (by omega))).trans h36,hp.keeps,hp.fresh,⟨cur,hB,GE,Ke⟩,hp.fds,hp.tgs⟩
  ·have:=hfx' hf
   rw[GD.get _ (by omega) (.inl (by omega)),h3f hf,hf];rfl
  ·omega
  ·omega
  ·omega
  ·exact Nat.lt_of_lt_of_le hS hp.keeps.size
 have hq:∀ s,s≠cx.ver->s<n0->a2.get s=a.get s:=fun s h1 h2=>Gm.get s h1 (.inl h2)
 cases GR:cx.hf with
 | false=>
  simp only[Bool.false_eq_true,if_false,List.nil_append]
  exact key a2 (n+5) (Nat.le_refl _) (by omega) (by omega) (Gm.defers.trans hp.defers) ((hq 0 (by omega) (by omega)).trans hp.s0) ((hq 2 (by omega) (by omega)).trans hp.s2) ((hq 6 (by omega) (by omega)).trans hp.six) ((hq _ (by omega) (by omega)).trans hp.sb) G2 (fun hf=>by rw[GR]at hf;cases hf)
 | true=>
  have:=hfx' GR
  simp only[if_true]
  show LW P (aA 2 (fun n=>[mk (some n) (.move (tm cx.ver)),mk (some (n+1)) (.binOp .geq g.tVer (tm n) (ki .i16 flex) 0),mk (some cx.fx) (.assign (tm (n+1)))])::aA 1 (fun n=>[mk (some n) (.move (tm cx.fx))])::[bB 0 cx.s]) (n+5) (Exit.then K Q) a2 w
  refine ad (au (ag ?_))
  rw[aa,G2]
  refine bt (b:=decide ((flex:Int)<=vr.1)) (p:=vr.1) (q:=flex) (k:=.i16) (by rw[aa,am (by omega)]) rfl (.inl ⟨rfl,rfl⟩) (aj (wpList_nil ?_))
  rw[aa,am (by simp only[ab];omega)]
  rw[show(aA 2 (fun n=>[mk (some n) (.move (tm cx.ver)),mk (some (n+1)) (.binOp .geq g.tVer (tm n) (ki .i16 flex) 0),mk (some cx.fx) (.assign (tm (n+1)))]) (n+5)).2=n+7 from rfl]
  refine ad (au (ag (wpList_nil ?_)))
  rw[aa,am (by simp only[ab];omega)]
  rw[show(aA 1 (fun n=>[mk (some n) (.move (tm cx.fx))]) (n+7)).2=n+8 from rfl]
  have LD:Pv cx.fx n0 n0 (n+5) a2 ((((a2.put (some (n+5)) (.int .i16 vr.1)).put (some (n+5+1)) (.bool (decide ((flex:Int)<=vr.1)))).put (some cx.fx) (.bool (decide ((flex:Int)<=vr.1)))).put (some (n+7)) (.bool (decide ((flex:Int)<=vr.1)))):=
   ((((Pv.refl _ _ _ _ _).put _ (by omega)).put _ (by omega)).put _ (by omega)).put _ (by omega)
  have L0:((((a2.put (some (n+5)) (.int .i16 vr.1)).put (some (n+5+1)) (.bool (decide ((flex:Int)<=vr.1)))).put (some cx.fx) (.bool (decide ((flex:Int)<=vr.1)))).put (some (n+7)) (.bool (decide ((flex:Int)<=vr.1)))).get cx.fx=.bool (decide ((flex:Int)<=vr.1)):=by
   rw[ak (by omega),am (by simp only[ab];omega)]
  have Lt:∀ s,s≠cx.fx->s<n0->_:=fun s h1 h2=>LD.get s h1 (.inl h2)
  exact key _ (n+8) (by omega) (by omega) (by rw[LD.size];omega) (LD.defers.trans (Gm.defers.trans hp.defers)) ((Lt 0 (by omega) (by omega)).trans ((hq 0 (by omega) (by omega)).trans hp.s0)) ((Lt 2 (by omega) (by omega)).trans ((hq 2 (by omega) (by omega)).trans hp.s2)) ((Lt 6 (by omega) (by omega)).trans ((hq 6 (by omega) (by omega)).trans hp.six))
   ((Lt _ (by omega) (by omega)).trans ((hq _ (by omega) (by omega)).trans hp.sb)) ((Lt _ (by omega) (by omega)).trans G2) (fun _=>L0)
theorem Bb (En:Env P g av fl D){kept:Bool}{cx:Cx}{fs:Fds}{dflt T kt flex n0 ntmps used:Nat}{toff:Option Nat}{nm:Nm}{z cur:Array Value}(Jv:rl ⟨P,g,av,D⟩ kept cx fs dflt T kt toff n0 ntmps nm z used=true)(hn:n0+17<=ntmps)
  {w:World} {B S te:Nat} {ver:Int} {srcv:Value} {r0:RS} (hB:w.heap[B]?=some (.cells cur te (0,0))) (Lb:cur=z.setIfInBounds 0 (.int .i16 ver)) (Ic:bQ w S srcv r0) (GT:r0.bad=false) (herr:ErrAt g.gErr w) (hS:S<w.heap.size) (JK:B≠S) (MI:g.gErr≠B)
  {Q:Exit->Act->World->Prop} {K:Act->World->Prop} {a:Act} (ha:a.tmps.size=ntmps) (had:a.defers=[]) (h0:a.get 0=pt B 0) (h1:a.get 1=srcv) (h2:a.get 2=.bool false)
  (h:∀ R a' w',Am g cx fs toff flex B S te cur.size w (eL kept ver r0) ntmps R a' w'->K a' w'):LW P (jQ g kept cx dflt T flex) n0 (Exit.then K Q) a w:=by
 simp only[rl,Bool.and_eq_true,decide_eq_true_eq]at Jv
 obtain⟨⟨⟨⟨⟨G7,H3⟩,hF⟩,K2⟩,GS⟩,Hl⟩:=Jv
 replace hF:=fldB_ok hF
 split at GS
 ·rename_i wr Hn
  simp only[Bool.and_eq_true,decide_eq_true_eq,List.all_eq_true,bne_iff_ne]at GS
  obtain⟨⟨⟨⟨⟨⟨Lo,PB⟩,Lg⟩,Hg⟩,V3⟩,KY⟩,Vn⟩:=GS
  obtain⟨Le,N2⟩:=En.df _ _ Hn
  have V2:o7 cx=max (max cx.b cx.s) (max cx.ver cx.fx)+1:=rfl
  have Lf:B<w.heap.size:=(Array.getElem?_eq_some_iff.1 hB).1
  obtain⟨te',xe,MK⟩:=herr
  have LJ:=cM MK
  have GE:cur.size=z.size:=by rw[Lb];simp
  unfold jQ
  simp only[List.append_assoc]
  refine ad (dH (x:=6) (m:=n0) (k0:=n0) (.inl rfl) (by omega) fun a1 Gk Gv=>?_)
  have Gu:=Gk.size
  rw[show(aU 6 .nilIface n0).2=n0 from rfl]
  have Ip:∀ s,s≠6->s<n0->a1.get s=a.get s:=fun s h1 h2=>Gk.get s h1 (.inl h2)
  refine ad (jY (x:=6) (m:=n0) (k0:=n0) (B:=B) (O:=0) (cur:=cur) (te:=te) Le N2 ((Ip 0 (by omega) (by omega)).trans h0) hB (fun q hq=>by have:=Lo q hq;omega) (Nat.le_refl _) (Nat.le_refl _) (by omega) fun a2 w2 Gm hsame2 Gs J3=>?_)
  have G9:=Gm.size
  rw[show(da 0 dflt n0).2=n0+2 from rfl]
  have NN:∀ j,1<=j->(applyWr cur 0 wr)[j]?=(applyWr z 0 wr)[j]?:=by
   have Ud:∀ (l:List (Nat × Value)) (c1 c2:Array Value),c1.size=c2.size->(∀ j,1<=j->c1[j]?=c2[j]?)->∀ j,1<=j->(applyWr c1 0 l)[j]?=(applyWr c2 0 l)[j]?:=by
    intro l
    induction l with
    | nil=>intro c1 c2 _ hc j hj;exact hc j hj
    | cons p l ih=>
     intro c1 c2 G0 hc j hj
     refine ih _ _ (by simpa using G0) (fun i hi=>?_) j hj
     rw[Array.getElem?_setIfInBounds,Array.getElem?_setIfInBounds,G0,hc i hi]
   refine Ud wr cur z GE fun j hj=>?_
   rw[Lb,Array.getElem?_setIfInBounds,if_neg (by omega)]
  have Ke:(applyWr cur 0 wr)[0]?=some (.int .i16 ver):=by
   rw[i9 0 wr cur 0 (fun q hq=>by have:=Lo q hq;omega),Lb]
   simp[Vn]
  have Rw:sw w2 B 0 (applyWr cur 0 wr):=fun j v hj=>by simp only[World.cell?,J3];simpa using hj
  have Un:∀ X,RpF w2 X fs B 0 (dfFds fs):=fun X=>zFds_ok Rw X fs 0 (zFds_agree NN fs 0 (.inr Hg) PB)
  have JP:ky w2 B 0 toff:=by
   cases toff with
   | none=>trivial
   | some o=>
    have ho:o≠0:=fun h=>V3 (by rw[h])
    refine Rw.one ?_
    simp only[FM,gj]at Lg ⊢
    rw[NN o (by omega)]
    exact Lg
  have Ks:bQ w2 S srcv r0:=Ic.keep Gs (fun h=>JK h.symm)
  refine ad (au (ag ?_))
  rw[aa,hsame2 1 (by omega),Ip 1 (by omega) (by omega),h1]
  refine kT En.kb (y:=n0+2) (v:=srcv) (am (by omega)) Ks GT (by simp only[ab];omega) (by simp only[ab];omega) (by omega) (wpList_nil ?_)
  rw[show(aA 2 (fun n=>[mk (some n) (.move (tm 1)),mk (some (n+1)) (.build g.tR #[(0,tm n)]),mk (some cx.b) (.alloc g.tR),mk none (.store g.tR (tm cx.b) (tm (n+1)))]) (n0+2)).2=n0+4 from rfl]
  have Gx:ac (fun _=>False) w2 ((w2.alloc (.cells #[.slice none 0 0,.bool false] g.tR (0,0))).setRow w2.heap.size #[srcv,.bool false]):=eV _ _ _ _
  have HA:=kp (T:=g.tR) Ks GT
  have Ol:((w2.alloc (.cells #[.slice none 0 0,.bool false] g.tR (0,0))).setRow w2.heap.size #[srcv,.bool false]).heap.size=w2.heap.size+1:=by simp
  have Gt:Pv cx.b n0 n0 (n0+2) a2 ((((a2.put (some (n0+2)) srcv).put (some (n0+2+1)) (.agg #[srcv,.bool false])).put (some cx.b) (pt w2.heap.size 0))):=(((Pv.refl _ _ _ _ _).put _ (by omega)).put _ (by omega)).put _ (by omega)
  have GI:((((a2.put (some (n0+2)) srcv).put (some (n0+2+1)) (.agg #[srcv,.bool false])).put (some cx.b) (pt w2.heap.size 0))).get cx.b=pt w2.heap.size 0:=am (by simp only[ab];omega)
  generalize(((a2.put (some (n0+2)) srcv).put (some (n0+2+1)) (.agg #[srcv,.bool false])).put (some cx.b) (pt w2.heap.size 0))=a3 at Gt GI ⊢
  generalize(w2.alloc (.cells #[.slice none 0 0,.bool false] g.tR (0,0))).setRow w2.heap.size #[srcv,.bool false]=w3 at Gx HA Ol ⊢
  have Hh:=Gt.size
  have Lq:=Gs.size
  have Lt:∀ s,s≠cx.b->s≠6->s<n0->a3.get s=a.get s:=fun s h1 h2 h3=>(Gt.get s h1 (.inl h3)).trans ((hsame2 s (by omega)).trans (Ip s h2 h3))
  have Wu:w3.heap[B]?=some (.cells (applyWr cur 0 wr) te (0,0)):=by rw[Gx.block B (by omega) id];exact J3
  have QS:∀ X,RpF w3 X fs B 0 (dfFds fs):=fun X=>RpF.frameIn (Gx.mono fun _ _ h=>h.elim) fs B 0 _ (Un X) fun j _=>ci (Gx.block B (by omega) id) j
  have J6:ky w3 B 0 toff:=by
   cases toff with
   | none=>trivial
   | some o=>exact Gx.cell id JP
  have Ll:ErrAt g.gErr w3:=⟨te',xe,Gx.cell id (Gs.cell MI MK)⟩
  have Ig:ac (·=B) w w3:=Gs.trans (Gx.mono fun _ _ h=>h.elim)
  have JT:Gc g cx fs toff B S te cur.size w (ver,r0) ntmps w2.heap.size a3 w3:=
   ⟨HA,GI,(Lt 0 (by omega) (by omega) (by omega)).trans h0,(Lt 2 (by omega) (by omega) (by omega)).trans h2,by omega,Gt.defers.trans (Gm.defers.trans (Gk.defers.trans had)),(Gt.get 6 (by omega) (.inl (by omega))).trans ((hsame2 6 (by omega)).trans Gv),Ig,Lq,
    ⟨_,Wu,cW _ _ _,Ke⟩,QS,J6,Ll⟩
  cases hkp:kept with
  | false=>
   rw[hkp]at h
   simp only[Bool.false_eq_true,if_false]
   exact pm G7 hF JT (by omega) (by omega) hS Lf JK MI LJ (fun a' w' hh=>h _ a' w' hh)
  | true=>
   rw[hkp]at h K2
   have Nu:av .i16=true:=by simpa using K2
   simp only[if_true]
   have hRS:S≠w2.heap.size:=by omega
   refine ad (au (ag ?_))
   rw[aa,JT.s0]
   refine aR (vs:=#[pt w2.heap.size 0]) (En.kb.rdE _ Nu) (by simp[aa,ak (show cx.b≠n0+4 by omega),GI]) (En.kb.rdC _ Nu w3 S w2.heap.size r0 HA hRS) fun e w4 hR=>?_
   obtain⟨val,he,H0,GH,P1⟩:=hR
   refine⟨_,he,?_⟩
   refine aL (by rw[aa,ak (by omega),am (by omega)];rfl) ?_
   refine bR (by rw[aa,am (by simp only[ab];omega)]) hF ?_
   obtain⟨x,S0,Ps,_⟩:=P1 (fun _=>False) (fun _ h=>h.elim) id
   have hx3:x=(rI 2 r0).1:=by
    have e:(PF.run .i16 r0).1=.n (rI 2 r0).1:=rfl
    rw[e]at Ps
    exact(V.n.inj Ps).symm
   have MO:B≠w2.heap.size:=by omega
   have MP:w4.heap[B]?=some (.cells (applyWr cur 0 wr) te (0,0)):=by rw[GH.block B (by omega) MO];exact Wu
   have S1:(applyWr cur 0 wr).size=cur.size:=cW _ _ _
   refine bw (cur:=applyWr cur 0 wr) (t:=te) (v:=val) (vs:=[.int .i16 x]) (by rw[aa,am (by simp only[ab];omega)]) (by rw[aa,ak (by omega),ak (by omega),am (by simp only[ab];omega)]) S0 (hF.var.size _) MP (by rw[S1];simp only[List.length_cons,List.length_nil];omega)
    (fun u hu=>by simp at hu;rw[hu];rfl) (wpList_nil ?_)
   rw[Nat.zero_add,il (by omega)]
   have PE:(w4.setRow B ((applyWr cur 0 wr).setIfInBounds 0 (.int .i16 x))).heap[B]?=some (.cells ((applyWr cur 0 wr).setIfInBounds 0 (.int .i16 x)) te (0,0)):=setRow_heap _ _ _ _ _ _ MP
   have HC:ac (·=B) w4 (w4.setRow B ((applyWr cur 0 wr).setIfInBounds 0 (.int .i16 x))):=ac.setRow _ _ _ _ rfl
   have Kc:∀ j,fs.In 0 j->(w4.setRow B ((applyWr cur 0 wr).setIfInBounds 0 (.int .i16 x))).cell? ⟨B,j,none⟩=w4.cell? ⟨B,j,none⟩:=fun j hj=>by
    have Ie:¬ (0=j):=fun h=>ql fs j Hg hj h.symm
    simp only[World.cell?,PE,MP,Array.getElem?_setIfInBounds,Ie,if_false]
   have TM:ac (fun k=>k=w2.heap.size) w3 w4:=GH
   have Um:∀ X,RpF w4 X fs B 0 (dfFds fs):=fun X=>RpF.mono (fun k _ hk=>.inl hk) fs B 0 _ (RpF.frameIn (TM.mono fun k _ hk=>.inr hk) fs B 0 _ (QS (fun k=>X k \/ k=w2.heap.size)) fun j _=>ci (GH.block B (by omega) MO) j)
   have Ul:∀ X,RpF (w4.setRow B ((applyWr cur 0 wr).setIfInBounds 0 (.int .i16 x))) X fs B 0 (dfFds fs):=fun X=>RpF.mono (fun k _ hk=>.inl hk) fs B 0 _ (RpF.frameIn (HC.mono fun k _ hk=>.inr hk) fs B 0 _ (Um (fun k=>X k \/ k=B)) Kc)
   have SJ:ky (w4.setRow B ((applyWr cur 0 wr).setIfInBounds 0 (.int .i16 x))) B 0 toff:=by
    cases toff with
    | none=>trivial
    | some o=>
     have ho:o≠0:=fun h=>V3 (by rw[h])
     have h4:w4.cell? ⟨B,0+o,none⟩=some (.map none):=GH.cell MO J6
     show(w4.setRow B ((applyWr cur 0 wr).setIfInBounds 0 (.int .i16 x))).cell? ⟨B,0+o,none⟩=some (.map none)
     rw[<- h4]
     have Ie:¬ (0=0+o):=by omega
     simp only[World.cell?,PE,MP,Array.getElem?_setIfInBounds,Ie,if_false]
   refine pm (vr:=rI 2 r0) (R:=w2.heap.size) (n:=n0+8) G7 hF ⟨?_,?_,?_,?_,?_,?_,?_,?_,?_,?_,Ul,SJ,?_⟩ (by omega) (by omega) hS Lf JK MI LJ (fun a' w' hh=>h _ a' w' hh)
   ·exact H0.keep HC (fun h=>JK h.symm) (fun h=>MO h.symm)
   ·rw[ak (by omega),ak (by omega),ak (by omega),ak (by omega)];exact GI
   ·rw[ak (by omega),ak (by omega),ak (by omega),ak (by omega)];exact JT.s0
   ·rw[ak (by omega),ak (by omega),ak (by omega),ak (by omega)];exact JT.s2
   ·simp only[ab];exact JT.size
   ·simp only[ai];exact JT.defers
   ·rw[ak (by omega),ak (by omega),ak (by omega),ak (by omega)];exact JT.six
   ·refine⟨GH.os.trans Ig.os,GH.tape.trans Ig.tape,GH.output.trans Ig.output,by have:=GH.size;have:=Ig.size;have:=HC.size;omega,fun q hq hx=>?_⟩
    have:=Ig.size
    have:=GH.size
    rw[HC.block q (by omega) hx,GH.block q (by omega) (by omega),Ig.block q hq hx]
   ·exact Lq
   ·exact⟨_,PE,by simp[S1],by rw[<- hx3];simp[S1,GE,Vn]⟩
   ·obtain⟨t6,x6,h6⟩:=Ll
    exact⟨t6,x6,HC.cell MI (GH.cell (by omega) h6)⟩
 ·cases GS
end
end
section
variable {P:Program} {g:G} {av:PF->Bool} {fl:Bool} {D:Nat->Option (List (Nat × Value))}
def pO (g:G)(kept:Bool)(cx:Cx)(fs:Fds)(dflt T kt flex n0:Nat)(m:Nm):Nat:=
 (gL (jQ g kept cx dflt T flex++(fI g cx fs.tagged T kt m (gFds g cx fs m.s) (gTagd g cx fs m.s)++Bd g cx.b)) n0).2
def jU (fs:Fds)(toff:Option Nat)(B S te csz:Nat)(w:World)(ver:Int)(out:gF V)(x:Value)(w':World):Prop:=
 ac (·=B) w w' /\
 match out with
 | .ok v r=>(r.bad=false->x=.nilIface)/\(r.bad=true->∃ t y,x=.iface t y) /\
   ∃ vs t cur,v=.st vs t/\w'.heap[B]?=some (.cells cur te (0,0))/\cur.size=csz/\cur[0]?=some (.int .i16 ver)/\sx w S (fun X=>RpF w' X fs B 0 vs)/\sx w S (fun X=>eJ w' X B 0 toff t)
 | .err=>∃ t y,x=.iface t y
 | .stuck=>False
def jw (hf:Bool)(flex:Nat)(fs:Fds)(ver:Int)(r:RS):gF V:=
 fz (hf&&decide ((flex:Int)<=ver)) fs.tagged (rdFds (hf&&decide ((flex:Int)<=ver)) ver fs) (rdTag (hf&&decide ((flex:Int)<=ver)) ver fs) r
theorem AR (En:Env P g av fl D){f ntmps:Nat}{kept:Bool}{cx:Cx}{fs:Fds}{dflt T kt flex n0:Nat}{toff:Option Nat}{nm:Nm}{z:Array Value}(Gw:cx.hf=true->fl=true)(hfn:FnIs P f ntmps [6] (gRead g cx.hf kept cx fs dflt T kt flex n0 nm))
  (Jv:rl ⟨P,g,av,D⟩ kept cx fs dflt T kt toff n0 ntmps nm z (pO g kept cx fs dflt T kt flex n0 nm)=true) (RG:n0+17<=ntmps)
  {w:World} {B S te:Nat} {ver:Int} {srcv:Value} {r0:RS} (hB:w.heap[B]?=some (.cells (z.setIfInBounds 0 (.int .i16 ver)) te (0,0))) (Ic:bQ w S srcv r0) (GT:r0.bad=false) (herr:ErrAt g.gErr w) (hS:S<w.heap.size) (JK:B≠S) (MI:g.gErr≠B)
  (JZ:jw cx.hf flex fs (eL kept ver r0).1 (eL kept ver r0).2≠.stuck) :
  Calls P f #[pt B 0,srcv,.bool false] w fun e w'=>∃ x,e=.returned x/\jU fs toff B S te z.size w (eL kept ver r0).1 (jw cx.hf flex fs (eL kept ver r0).1 (eL kept ver r0).2) x w':=by
 refine hfn.calls En.kb.mixed (by simp) ?_
 rw[zI]
 have Rk:=Jv
 simp only[rl,Bool.and_eq_true,decide_eq_true_eq]at Jv
 obtain⟨⟨⟨⟨⟨G7,H3⟩,hF⟩,K2⟩,GS⟩,Hl⟩:=Jv
 obtain⟨KY,Hg,SL⟩:fs.ext (d9 toff)<=z.size/\tb fs=true/\toff≠some 0:=by
  split at GS
  ·simp only[Bool.and_eq_true,decide_eq_true_eq,bne_iff_ne]at GS
   exact⟨GS.1.2,GS.1.1.1.2,GS.1.1.2⟩
  ·cases GS
 have V2:o7 cx=max (max cx.b cx.s) (max cx.ver cx.fx)+1:=rfl
 have G0:=cH #[pt B 0,srcv,.bool false] ntmps (by show 3<=ntmps;omega)
 have hupE:iM (Bd g cx.b):=ae (aq _ _) (ae (b7 _) ax)
 have SC:iM (fI g cx fs.tagged T kt nm (gFds g cx fs nm.s) (gTagd g cx fs nm.s)):=ij (up_gFds g fs nm.s cx) (up_gTagd g fs nm.s cx)
 unfold pO at H3
 rw[bc,bc]at H3
 have Kr:=SC (gL (jQ g kept cx dflt T flex) n0).2
 have hused':(gL (fI g cx fs.tagged T kt nm (gFds g cx fs nm.s) (gTagd g cx fs nm.s)) (gL (jQ g kept cx dflt T flex) n0).2).2+1<=ntmps:=H3
 have QE:n0<=(gL (jQ g kept cx dflt T flex) n0).2:=by
  refine(show iM (jQ g kept cx dflt T flex) from ?_) n0
  unfold jQ
  exact ay (ay (ay (ay (ae (aq _ _) (ae (aq _ _) (ae (aq _ _) ax))) (dS (ae (aq _ _) ax) ax)) (ae (aq _ _) (ae (aq _ _) ax))) (dS (ae (aq _ _) (ae (aq _ _) ax)) ax)) (ae (aq _ _) ax)
 generalize hnH:(gL (jQ g kept cx dflt T flex) n0).2=nH at *
 refine bm (fj ?_)
 rw[hnH]
 refine Bb En Rk RG hB rfl Ic GT herr hS JK MI G0 rfl (by rw[bX _ _ _ (by simp)];rfl) (by rw[bX _ _ _ (by simp)];rfl) (by rw[bX _ _ _ (by simp)];rfl) fun R a1 w1 hh=>?_
 have Gu:=hh.size
 generalize Vv:eL kept ver r0=vr at *
 obtain⟨cur,JL,GE,Ke⟩:=hh.blk
 have IE:(z.setIfInBounds 0 (.int .i16 ver)).size=z.size:=by simp
 rw[IE]at GE
 have Uh:cx.fx≠6:=by
  rcases G7.2.2.2.2.2.2.2 with h2|h2
  ·have:=h2.2.1;omega
  ·have:=h2.2;omega
 have IK:eb cx (o7 cx) n0:=⟨⟨by omega,by omega⟩,⟨by omega,by omega⟩,⟨by omega,by omega⟩,⟨by omega,Uh⟩,by omega,by omega⟩
 have Li:=hh.keeps.size
 have Uj:=hh.fresh
 refine fj ?_
 rw[aV]
 refine DL En fs nm cx (cx.hf&&decide ((flex:Int)<=vr.1)) vr.1 S R B 0 vr.2 (o7 cx) n0 nH T kt toff _ _ a1 w1 te Hl hh.rc IK Gw QE (by omega) (by omega) ⟨cur,JL,by omega⟩ (.inr ⟨hh.fds,hh.tgs⟩) ⟨fun v r' a2 w2 he Gm GJ GO hv=>?_,fun he a2 w2 Gm hif Gs=>?_,JZ⟩
 ·have G9:=Gm.size
  obtain⟨vs,t,rfl,hF2,hT2⟩:=hv
  have SW:a2.get cx.b=pt R 0:=(Gm.get _ (by omega) (.inl (by omega))).trans hh.rc.sb
  obtain⟨tE,xE,UZ⟩:=hh.rc.err
  have Ss:ErrAt g.gErr w2:=ErrAt.keep ⟨tE,xE,UZ⟩ GO.keeps (fun h=>by rcases h with h|h;exact hh.rc.gR h;exact hh.rc.gB h)
  obtain⟨cur2,J3,hcs2,Uw⟩:=GO.blk cur te JL
  have U5:cur2[0]?=some (.int .i16 vr.1):=by
   rw[Uw 0 (fun h=>?_)]
   ·exact Ke
   ·rcases h with h|⟨o,h1,h2⟩
    ·exact ql fs 0 Hg h rfl
    ·have h0:o=0:=by omega
     exact SL (by rw[h1,h0])
  refine ad (au (aR (vs:=#[pt R 0]) En.kb.cmE (by simp[aa,SW]) (En.kb.cmC w2 S R r' GJ Ss) fun e w3 hR=>?_))
  obtain⟨Gx,x,Ra,NY,S0⟩:=hR
  refine⟨_,Ra,aj (wpList_nil (ad (.ret ?_)))⟩
  rw[aa,am (by omega)]
  refine⟨?_,x,?_,?_⟩
  ·simp only[ai];exact Gm.defers.trans hh.defers
  ·simp only[bj]
   rw[am (by simp only[ab];omega)]
  ·refine⟨?_,?_⟩
   ·refine⟨Gx.os.trans (GO.keeps.os.trans hh.keeps.os),Gx.tape.trans (GO.keeps.tape.trans hh.keeps.tape),Gx.output.trans (GO.keeps.output.trans hh.keeps.output),?_,fun q hq hx=>?_⟩
    ·have:=Gx.size
     have:=GO.keeps.size
     omega
    ·have:=GO.keeps.size
     rw[Gx.block q (by omega) id,GO.keeps.block q (by omega) (fun h=>by rcases h with h|h;omega;exact hx h),hh.keeps.block q hq hx]
   ·rw[show jw cx.hf flex fs vr.1 vr.2=.ok (.st vs t) r' from he]
    have Pm:B<w2.heap.size:=(Array.getElem?_eq_some_iff.1 J3).1
    refine⟨NY,S0,vs,t,cur2,rfl,by rw[Gx.block B Pm id];exact J3,by omega,U5,fun X hX hS'=>?_,fun X hX hS'=>?_⟩
    ·exact RpF.frameIn (Gx.mono fun _ _ h=>h.elim) fs B 0 vs (hF2 X (fun k hk=>Nat.lt_of_lt_of_le (hX k hk) Li) hS') fun j _=>ci (Gx.block B Pm id) j
    ·exact(hT2 X (fun k hk=>Nat.lt_of_lt_of_le (hX k hk) Li) hS').frame (Gx.mono fun _ _ h=>h.elim) fun k _=>ci (Gx.block B Pm id) _
 ·obtain⟨tE,yE,hE⟩:=hif
  refine⟨Gm.defers.trans hh.defers,.iface tE yE,by simp only[bj];rw[hE],?_,?_⟩
  ·refine⟨Gs.os.trans hh.keeps.os,Gs.tape.trans hh.keeps.tape,Gs.output.trans hh.keeps.output,Nat.le_trans Li Gs.size,fun q hq hx=>?_⟩
   rw[Gs.block q (by omega) (fun h=>by rcases h with h|h;omega;exact hx h),hh.keeps.block q hq hx]
  ·rw[show jw cx.hf flex fs vr.1 vr.2=.err from he]
   exact⟨tE,yE,rfl⟩
end
end Go.Proofs.YtbgklecbmhaadaaGreatDoor.Kx