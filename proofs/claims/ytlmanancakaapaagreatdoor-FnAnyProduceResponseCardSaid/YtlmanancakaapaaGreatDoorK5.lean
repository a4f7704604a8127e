/-
  PLAIN LAWS AND CONTRACTS of messages, part 5 of 15: how readers and writers are printed, what they do, what the reference writes, and that what is written is read as the same. Nothing of a statement stands here.
-/
import Derived.Test.YtlmanancakaapaaGreatDoorK1
import Derived.Test.YtlmanancakaapaaGreatDoorK3
import Derived.Test.YtlmanancakaapaaGreatDoorK4

namespace Go.Proofs.YtlmanancakaapaaGreatDoor.Kx
open Go
section
variable {P:Program} {g:G} {av:PF->Bool} {fl:Bool} {D:Nat->Option (List (Nat × Value))}
theorem st_of (K0:KB P g av fl) {fs:Fds} (h1:RdFds P g av fl D fs) (h2:RdCase P g av fl D fs):RdSt P g av fl D fs:=by
 intro nm cx fx ver S R B O r m k0 n T kt toff K E a w te hok hrc hc hfl hk hks hn hb hpl ho
 simp only [okSt,Bool.and_eq_true] at hok
 obtain ⟨⟨⟨hokf,hdj⟩,htoff⟩,hokt⟩:=hok
 have hRw:R < w.heap.size:=hrc.rd.lt
 have hBw:B < w.heap.size:=hb.lt
 have hle:=hc.le
 have hupF:=up_gFds g fs nm.s cx n
 have hpl':fs.plain=true \/ ∀ X,RpF w X fs B O (dfFds fs):=by
  rcases hpl with h | h
  ·exact .inl h.1
  ·exact .inr h.1
 unfold gStOf at hn ⊢
 rw [qx_] at hn
 refine z5_ ?_
 rw [qr_]
 refine h1 nm.s cx fx ver S R B O r m k0 n T (zo_ toff) _ E a w te hokf hdj hrc hc hfl hk hks ?_ hb hpl' ⟨fun vs r1 a1 w1 he hp1 hrd1 hev1 hvs=>?_,fun he a1 w1 hp1 hif hk1=>?_,fun he=>?_⟩
 ·have hu:UpL (if (!cx.hf)=true then [] else if fs.tagged=true then [gFx cx (gTagFor g cx (nm.n 0) (nm.n 2) (nm.n 3) (gS [qm_ g.uv cx.b (nm.n 1),gSwitch g cx (nm.n 1) (nm.n 4) T kt (gTagd g cx fs nm.s)])) jk_] else [gFx cx (gReadTags g cx T kt) jk_]:List GC):=
   zt_ qk_ (zt_ (qe_ (j4_ (up_tagFor (up_S (qe_ (qi_ _ _) (qe_ (up_switch (up_gTagd g fs nm.s cx)) qk_)))) (q7_ _)) qk_) (qe_ (j4_ (qi_ _ _) (q7_ _)) qk_))
  exact Nat.le_trans (hu _) hn
 ·have hs1:=hp1.size
  have hrc1:RC g cx fx ver S R B O r1 a1 w1:=hrc.step hc hp1 hrd1 hev1.keeps (fun _ _ h=>h)
  have hb1:=hb.evo hev1
  have hev1':Evo R B (fs.Zn toff O) w w1:=hev1.mono fun j hj=>.inl hj
  have hrs:jb_ fx fs.tagged (rdFds fx ver fs) (rdTag fx ver fs) r=(if !fx then .ok (.st vs []) r1 else if fs.tagged then qq_ (rdTag fx ver fs) (rUv r1).1 vs [] (rUv r1).2 else .ok (.st vs (jq_ (rUv r1).1 [] (rUv r1).2).1) (jq_ (rUv r1).1 [] (rUv r1).2).2):=by
   simp only [jb_,he,Out.bind]
  rw [hrs] at ho
  cases hhf:cx.hf with
  | false=>
   have hfx:=hrc.nf hhf
   subst hfx
   simp only [Bool.not_false,if_true]
   have ht0:toff=none:=by
    cases toff with
    | none=>rfl
    | some o=>rw [hhf] at htoff;simp at htoff
   subst ht0
   refine q0_ (ho.ok _ r1 a1 w1 rfl hp1 hrd1 hev1' ⟨vs,[],rfl,hvs,fun X _ _=>rfl⟩)
  | true=>
   simp only [hhf,Bool.not_true,Bool.false_eq_true,if_false] at hn ⊢
   obtain ⟨o,ht0,hF,hoff⟩:∃ o,toff=some o/\zj_ P T kt g.tTags o true 1/\offBy fs o (o + 1)=true:=by
    cases toff with
    | none=>rw [hhf] at htoff;simp at htoff
    | some o=>
     simp only [Bool.and_eq_true] at htoff
     exact ⟨o,rfl,fldB_ok htoff.1.2,htoff.2⟩
   subst ht0
   have hoIn:¬ fs.In O (O + o):=fun h=>z4_ fs o (o + 1) O (O + o) hoff h ⟨by omega,by omega⟩
   have hext:=le_ext fs (o + 1)
   have hoext:o < fs.ext (zo_ (some o)):=by show o < fs.ext (o + 1);omega
   have hfl':=hfl hhf
   have hskip:fx=false->∀ a',Pv 6 m k0 n a a'->K a' w1:=fun hfx a' hp'=>by
    subst hfx
    have hT0:Far w S (fun X=>TgAt w X B O (some o) []):=fun X _ _=>by
     rcases hpl with h | h
     ·cases h.2
     ·exact h.2.at X
    refine ho.ok _ r1 a' w1 rfl hp' hrd1 hev1' ⟨vs,[],rfl,hvs,?_⟩
    exact TgAt.evoA (A:=(· < w.heap.size)) hev1 hRw hBw hrc.SR.symm hrc.BS hb hT0 (fun k hk h=>by cases hk;exact hoIn h)
   cases htg:fs.tagged with
   | false=>
    simp only [htg,Bool.false_eq_true,if_false,gL] at hn ⊢
    refine qc_ ?_
    rw [qr_]
    have hn1:(gL (gFds g cx fs nm.s) n).2 + 5<=a.tmps.size:=hn
    refine s_fx (x:=6) (m:=m) (k0:=k0) (fx:=fx) (hrc1.sf hhf) hle (by omega) (by omega) fun a2 hp2=>?_
    have hs2:=hp2.size
    have hp02:Pv 6 m k0 n a a2:=hp1.trans (hp2.mono (Nat.le_refl _) hupF)
    cases hfx:fx with
    | false=>exact .skip (q0_ (hskip hfx a2 hp02))
    | true=>
     subst hfx
     simp only [if_true]
     simp only [Bool.not_true,Bool.false_eq_true,if_false,htg] at ho
     have hrc2:RC g cx true ver S R B O r1 a2 w1:=hrc1.step hc hp2 hrd1 (Keeps.refl (fun _=>False) w1) (fun _ _ h=>h.elim)
     obtain ⟨cur,hcu,hcus⟩:=hb1
     rw [<- qr_ (N:=fun _ _=>True)]
     have hoext':o < fs.ext (zo_ (some o)):=hoext
     refine s_readTags (m:=m) (k0:=k0) (cur:=cur) (te:=te) K0 hfl' hrc2 hc hF hcu (by omega) (by omega) (by omega) fun a3 w3 hp3 hrd3 hev3 htg3=>?_
     refine q0_ (ho.ok _ _ a3 w3 rfl (hp02.trans (hp3.mono (Nat.le_refl _) (by omega))) hrd3 (hev1'.trans (hev3.mono fun j hj=>.inr ⟨o,rfl,hj⟩)) ⟨vs,_,rfl,?_,fun X hX hS=>htg3 X (fun k hk=>Nat.lt_of_lt_of_le (hX k hk) hev1.keeps.size) hS⟩)
     exact RpF.evoA (A:=(· < w.heap.size)) hev3 hRw hBw hrc.SR.symm hrc.BS ⟨cur,hcu,hcus⟩ hvs (fun j hj h=>by rw [h] at hj;exact hoIn hj)
   | true=>
    simp only [htg,if_true,gL] at hn ⊢
    refine qc_ ?_
    rw [qr_]
    simp only [hhf,htg,Bool.and_self,Bool.not_true,Bool.false_or,Bool.and_eq_true,decide_eq_true_eq] at hokt
    obtain ⟨hsl,hokt⟩:=hokt
    generalize hbody:(gS [qm_ g.uv cx.b (nm.n 1),gSwitch g cx (nm.n 1) (nm.n 4) T kt (gTagd g cx fs nm.s)]:GC)=body at hn ⊢
    have hubody:Up body:=by
     rw [<- hbody]
     exact up_S (qe_ (qi_ _ _) (qe_ (up_switch (up_gTagd g fs nm.s cx)) qk_))
    have hn1:(body ((gL (gFds g cx fs nm.s) n).2 + 1 + 5)).2<=a.tmps.size:=hn
    have hub:=hubody ((gL (gFds g cx fs nm.s) n).2 + 1 + 5)
    refine s_fx (x:=6) (m:=m) (k0:=k0) (fx:=fx) (hrc1.sf hhf) hle (by omega) (by omega) fun a2 hp2=>?_
    have hs2:=hp2.size
    have hp02:Pv 6 m k0 n a a2:=hp1.trans (hp2.mono (Nat.le_refl _) hupF)
    cases hfx:fx with
    | false=>exact .skip (q0_ (hskip hfx a2 hp02))
    | true=>
     subst hfx
     simp only [if_true]
     simp only [Bool.not_true,Bool.false_eq_true,if_false,htg,if_true] at ho
     have hrc2:RC g cx true ver S R B O r1 a2 w1:=hrc1.step hc hp2 hrd1 (Keeps.refl (fun _=>False) w1) (fun _ _ h=>h.elim)
     have hnil:TgNil w B O (some o):=by
      rcases hpl with h | h
      ·rw [plain_untagged fs h.1] at htg;cases htg
      ·exact h.2
     have hT1:Far w S (fun X=>TgAt w1 X B O (some o) []):=TgAt.evoA (A:=(· < w.heap.size)) hev1 hRw hBw hrc.SR.symm hrc.BS hb (fun X _ _=>hnil.at X) (fun k hk h=>by cases hk;exact hoIn h)
     have hm0:w1.cell? ⟨B,O + o,none⟩=some (.map none):=by
      obtain ⟨cur,hcu,_⟩:=hb
      rw [hev1.cell hcu hoIn];exact hnil
     refine s_tagFor (m:=m) (k0:=k0) (i:=nm.n 0) K0 hfl' hrc2 hc ⟨hsl.1,by omega⟩ (by omega) (by omega)
      (TagI g S R B O o fs ver w (qq_ (rdTag true ver fs) (rUv r1).1 vs [] (rUv r1).2)) (fun w2 hrd2 hk2=>?_) (fun c a3 w3 hp3 hI=>?_) (fun a3 w3 hp3 hI=>?_)
     ·have hev2:Evo R B (fun _=>False) w1 w2:=Evo.of_keeps hk2 (fun _ _ h=>h) hrc.BR
      refine ⟨vs,[],(rUv r1).2,.map none,rfl,hrd2,(hev1.mono fun j hj=>.inl hj).trans (hev2.mono fun j hj=>hj.elim),?_,.inl ⟨rfl,rfl⟩,?_,?_⟩
      ·obtain ⟨cur,hcu,_⟩:=hb1
       rw [hev2.cell hcu id];exact hm0
      ·refine (RpF.evoA (A:=(· < w.heap.size)) hev2 hRw hBw hrc.SR.symm hrc.BS hb1 hvs (fun _ _ h=>h)).mono fun k hk=>?_
       rcases hk with hk | hk
       ·exact hk
       ·cases hk
      ·exact TgAt.evoA (A:=(· < w.heap.size)) hev2 hRw hBw hrc.SR.symm hrc.BS hb1 hT1 (fun _ _ h=>h)
     ·have hs3:=hp3.size
      rw [<- hbody] at hn1 ⊢
      exact tag_body (r0:=r) (_mm:=0) K0 h2 hokt hdj hF hoff hsl (hrc.step hc hp02 hrc.rd (Keeps.refl (fun _=>False) w) (fun _ _ h=>h.elim)) hc hhf hfl' (by omega) (by omega) (by omega) hb hp3 hI ho.go
       (fun he a' w' hp' hif hk'=>ho.err he a' w' (hp02.trans (hp'.mono (Nat.le_refl _) (by omega))) hif hk')
     ·obtain ⟨vs',t,r',mm,hout,hrd3,hev3,hcell3,hmm,hRF,hTF⟩:=hI
      have hp3':Pv 6 m k0 n a a3:=hp02.trans (hp3.mono hsl.1 (by omega))
      refine q0_ (ho.ok (.st vs' t) r' a3 w3 (by rw [hout];rfl) hp3' hrd3 (hev3.mono fun j hj=>?_) ⟨vs',t,rfl,hRF.mono fun k hk=>.inl hk,hTF⟩)
      rcases hj with hj | hj
      ·exact .inl hj
      ·exact .inr ⟨o,rfl,hj⟩
 ·exact ho.err (by simp only [jb_,he,Out.bind]) a1 w1 hp1 hif hk1
 ·exact ho.go (by simp only [jb_,he,Out.bind])
end
theorem Pv.weak {x m k0 n:Nat} {a b:Act} (h:Pv x k0 k0 n a b) (hx:m<=x/\x < k0):Pv 6 m k0 n a b:=
 ⟨h.size,h.defers,fun s hs hh=>h.get s (by omega) (by omega)⟩
theorem RC.withS {g:G} {cx:Cx} {fx:Bool} {ver:Int} {S R B O p o s':Nat} {r:RS} {a:Act} {w:World} (h:RC g cx fx ver S R B O r a w) (hs:a.get s'=pt p o) (hpR:p ≠ R) (hpS:p ≠ S) (hpg:g.gErr ≠ p):RC g { cx with s:=s' } fx ver S R p o r a w:=
 ⟨h.rd,h.sb,hs,h.sv,h.sf,h.nf,h.su,h.err,h.SR,hpR,hpS,h.gR,hpg,h.Slt⟩
section
variable {P:Program} {g:G} {av:PF->Bool} {fl:Bool} {D:Nat->Option (List (Nat × Value))}
def RdEl (P:Program) (g:G) (av:PF->Bool) (fl:Bool) (D:Nat->Option (List (Nat × Value))) (e:Ty):Prop:=
 ∀ (nm:Nm) (cx:Cx) (fx:Bool) (ver:Int) (S R B O:Nat) (r:RS) (m k0 n esz:Nat) (z:Array Value) (y i F E' p cnt c j:Nat) (cur:Array Value) (K E:Act->World->Prop) (a:Act) (w:World) (te:Nat),
  okEl ⟨P,g,av,D⟩ cx.hf m k0 esz z e nm=true->RowIs P F E' esz z->RC g cx fx ver S R B O r a w->CxOk cx m k0->(cx.hf=true->fl=true)->k0<=n->k0<=a.tmps.size->(gL (gEl g cx e y i F nm) n).2<=a.tmps.size ->
  a.get y=.slice (some ⟨p,0,none⟩) cnt c->a.get i=.int .i32 j->j < cnt->y < m->i < m->y ≠ 6->i ≠ 6->w.heap[p]?=some (.cells cur te (0,0))->j * esz + esz<=cur.size->HasZ w p (j * esz) z->p ≠ R->p ≠ S->g.gErr ≠ p ->
  Outs g S R p (fun t=>j * esz<=t/\t < j * esz + esz) m k0 n a w (zq_ fx ver e (dfTy 0 e) r) (fun v w'=>Far w S fun X=>Rp w' X e p (j * esz) v) K E ->
  LW P (gEl g cx e y i F nm) n (Rt K E) a w
theorem el_leaf (K0:KB P g av fl) {e:Ty} (hl:e.leaf=true):RdEl P g av fl D e:=by
 intro nm cx fx ver S R B O r m k0 n esz z y i F E' p cnt c j cur K E a w te hok hrow hrc hc hfl hk hks hn hy hi hj hym him hy6 hi6 hp hsz hz hpR hpS hpg ho
 have hRw:R < w.heap.size:=hrc.rd.lt
 have hpw:p < w.heap.size:=(Array.getElem?_eq_some_iff.1 hp).1
 have hle:=hc.le
 obtain ⟨hg,hlo,hE,hes,huu⟩:gEl g cx e y i F nm=gVal g cx e (nm.n 0) (nm.l.drop 2)++[gIdxStore (uuOf g e) y i (nm.n 0) F (nm.n 1)]/\leafOk ⟨P,g,av,D⟩ cx.hf m k0 e (nm.n 0) (nm.l.drop 2)=true/\(∀ w,(sizeOf (nm.n 1)).run P w=.ok esz w)/\e.sz=esz /\
   (uuOf g e=none \/ (uuOf g e=some g.tUuid/\jp_ P g.tUuid true e.sz)):=by
  cases e with
  | list=>cases hl
  | struct=>cases hl
  | prim q=>
   simp only [okEl,Bool.and_eq_true,beq_iff_eq,Bool.or_eq_true,bne_iff_ne] at hok
   obtain ⟨⟨⟨h1,h2⟩,h3⟩,h4⟩:=hok
   refine ⟨rfl,h1,fun w=>by rw [<- h3];exact (varB_ok h2).size w,h3,?_⟩
   by_cases hq:q=.uuid
   ·subst hq
    rcases h4 with h | h
    ·exact absurd rfl h
    ·exact .inr ⟨rfl,varB_ok h⟩
   ·exact .inl (by cases q <;> first | rfl | exact absurd rfl hq)
  | str nul=>
   simp only [okEl,Bool.and_eq_true,beq_iff_eq] at hok
   obtain ⟨⟨h1,h2⟩,h3⟩:=hok
   exact ⟨rfl,h1,fun w=>by rw [<- h3];exact (varB_ok h2).size w,h3,.inl rfl⟩
  | bytes nul=>
   simp only [okEl,Bool.and_eq_true,beq_iff_eq] at hok
   obtain ⟨⟨h1,h2⟩,h3⟩:=hok
   exact ⟨rfl,h1,fun w=>by rw [<- h3];exact (varB_ok h2).size w,h3,.inl rfl⟩
 simp only [leafOk,Bool.and_eq_true] at hlo
 obtain ⟨⟨h1,h2⟩,h3⟩:=hlo
 have hvm:m<=nm.n 0/\nm.n 0 < k0:=by simp only [slotsOk,Bool.and_eq_true,decide_eq_true_eq] at h2;exact h2.1
 rw [hg] at hn ⊢
 rw [qx_] at hn
 simp only [gL,gIdxStore,qu_] at hn
 have hup:=up_gVal g cx e (nm.n 0) (nm.l.drop 2) n
 refine s_val K0 (ver:=ver) h1 hrc hc hk h2 hks (xOk_form h3) (by omega) fun a1 w1 hpst=>?_
 obtain ⟨cs,hp1,hval,hrd1,hk1,hl1⟩:=hpst
 have hs1:=hp1.size
 have hlr:=hl1 (fun _=>False) (fun _ h=>h.elim) id
 have hlen:cs.length=esz:=hlr.len.trans hes
 have hB1:w1.heap[p]?=some (.cells cur te (0,0)):=by rw [hk1.block p hpw hpR];exact hp
 refine qc_ (s_idxStore (x:=6) (m:=m) (k0:=k0) (p:=p) (q:=0) (cs:=cs) (cur:=cur) (te:=te) (sz:=esz) ((hp1.get y hy6 (.inl hym)).trans hy) ((hp1.get i hi6 (.inl him)).trans hi) hj hrow.und hrow.size hE ?_ hlen hlr.one hB1 (by omega) hle (by omega) (by omega) (by omega) (by omega) (by omega) fun a2 hp2=>q0_ ?_)
 ·rcases huu with hu | ⟨hu,hU⟩
  ·rw [hu] at hval ⊢;exact hval
  ·rw [hu] at hval ⊢;exact ⟨by rw [hlr.len];exact hU,hval⟩
 ·rw [Nat.zero_add]
  have hev:Evo R p (fun t=>j * esz<=t/\t < j * esz + esz) w1 (w1.setRow p (qt_ cur (j * esz) cs)):=Evo.store hB1 (by rw [hlen];omega) (fun t ha hb=>⟨ha,by rw [hlen] at hb;omega⟩)
  refine ho.ok _ _ a2 _ (rdTy_leaf fx ver e _ r hl) (hp1.trans (hp2.mono (Nat.le_refl _) hup)) (hrd1.keep (Keeps.setRow (fun k=>k=p) _ _ _ rfl) (fun h=>hpS h.symm) (fun h=>hpR h.symm))
   ((Evo.of_keeps hk1 (fun _ _ h=>h) hpR).trans hev) fun X hX hS=>?_
  refine rp_leaf hl (fun t u hu=>?_) (((hl1 (fun k=>X k \/ k=p) (fun k hk=>by rcases hk with hk | rfl <;> first | exact hX k hk | exact hpw) (fun hk=>by rcases hk with hk | hk <;> first | exact hS hk | exact hpS hk.symm)).keep
   (Keeps.setRow (fun k=>X k \/ k=p) _ _ _ (.inr rfl))).mono fun k _ hk=>.inl hk)
  have hjl:t < cs.length:=(List.getElem?_eq_some_iff.1 hu).1
  rw [cell_setRow_same _ _ _ _ _ _ _ hB1,jw_ (by omega) t hjl]
  exact hu
theorem hasZ_default {w':World} {p O te:Nat} {cur z:Array Value} {wr:List (Nat × Value)} (hz:∀ j,j < z.size->cur[O + j]?=z[j]?) (hs:O + z.size<=cur.size) (hwr:∀ q ∈ wr,q.1 < z.size) (h:w'.heap[p]?=some (.cells (applyWr cur O wr) te (0,0))):HasZ w' p O (applyWr z 0 wr):=by
 intro j v hj
 have hjz:j < z.size:=by
  have:=(Array.getElem?_eq_some_iff.1 hj).1
  rwa [j8_] at this
 rw [<- applyWr_at O wr cur z hwr hs hz j hjz] at hj
 simpa [World.cell?,h] using hj
theorem el_struct (En:Env P g av fl D) {toff:Option Nat} {fs:Fds} (hst:RdSt P g av fl D fs):RdEl P g av fl D (.struct none toff fs):=by
 intro nm cx fx ver S R B O r m k0 n esz z y i F E' p cnt c j cur K E a w te hok hrow hrc hc hfl hk hks hn hy hi hj hym him hy6 hi6 hp hsz hz hpR hpS hpg ho
 have hRw:R < w.heap.size:=hrc.rd.lt
 have hpw:p < w.heap.size:=(Array.getElem?_eq_some_iff.1 hp).1
 have hle:=hc.le
 have h66:=hc.six
 simp only [okEl,Bool.and_eq_true,decide_eq_true_eq] at hok
 obtain ⟨⟨hsl,hdf⟩,hokst⟩:=hok
 split at hdf
 ·rename_i wr hwr
  simp only [Bool.and_eq_true,decide_eq_true_eq,List.all_eq_true] at hdf
  obtain ⟨⟨⟨hwb,hzf⟩,hzt⟩,hext⟩:=hdf
  obtain ⟨hEnt,hDf⟩:=En.df _ _ hwr
  obtain ⟨_,z',_,_,hzc,_,hzs,_⟩:=hrow.info
  have hn':(gL (gStOf g { cx with s:=nm.n 1 } fs.tagged (nm.n 3) (nm.n 4) (nm.sub 0) (gFds g { cx with s:=nm.n 1 } fs (nm.sub 0).s) (gTagd g { cx with s:=nm.n 1 } fs (nm.sub 0).s)) (n + 3 + 2 + 1)).2<=a.tmps.size:=by
   simp only [gEl] at hn
   rw [qx_] at hn
   exact hn
  have hup:=up_gStOf (g:=g) (cx:={ cx with s:=nm.n 1 }) (tagged:=fs.tagged) (T:=nm.n 3) (kt:=nm.n 4) (m:=nm.sub 0) (up_gFds g fs (nm.sub 0).s { cx with s:=nm.n 1 }) (up_gTagd g fs (nm.sub 0).s { cx with s:=nm.n 1 }) (n + 3 + 2 + 1)
  show LW P (z6_ y i (nm.n 0) F :: zi_ (nm.n 0) (nm.n 2) :: jf_ (nm.n 0) (nm.n 1) :: gStOf g { cx with s:=nm.n 1 } fs.tagged (nm.n 3) (nm.n 4) (nm.sub 0) (gFds g { cx with s:=nm.n 1 } fs (nm.sub 0).s) (gTagd g { cx with s:=nm.n 1 } fs (nm.sub 0).s)) n (Rt K E) a w
  refine qc_ (s_idxAddr (x:=6) (m:=m) (k0:=k0) (p:=p) (q:=0) hy hi hj hrow.und hrow.size (.inr ⟨hsl.1,hsl.2.2.1⟩) hle hk (by omega) (by omega) (by omega) (by omega) fun a1 hp1 hg1=>?_)
  rw [Nat.zero_add] at hg1
  have hs1:=hp1.size
  refine qc_ (s_default (x:=6) (m:=m) (k0:=k0) (B:=p) (O:=j * esz) (cur:=cur) (te:=te) hEnt hDf hg1 hp (fun q hq=>by have:=hwb q hq;omega) hle (by simp only [z6_,qu_];omega) (by simp only [z6_,qu_];omega) fun a2 w2 hp2 hsame2 hk2 hB2=>?_)
  simp only [z6_,qu_] at hp2 hsame2
  have hs2:=hp2.size
  have hg2:a2.get (nm.n 0)=pt p (j * esz):=(hsame2 _ (by omega)).trans hg1
  refine qc_ (s_move (x:=6) (m:=m) (k0:=k0) (.inr ⟨hsl.2.1,hsl.2.2.2.1⟩) hle (by simp only [z6_,zi_,qu_];omega) (by simp only [z6_,zi_,qu_];omega) (by omega) fun a3 hp3 hg3=>?_)
  simp only [z6_,zi_,jf_,qu_] at hp3 ⊢
  have hs3:=hp3.size
  have hp03:Pv 6 m k0 n a a3:=(hp1.trans (hp2.mono (Nat.le_refl _) (by omega))).trans (hp3.mono (Nat.le_refl _) (by omega))
  have hwbz:∀ q ∈ wr,q.1 < z.size:=fun q hq=>by rw [hzs];exact hwb q hq
  have hcz:∀ t,t < z.size->cur[j * esz + t]?=z[t]?:=fun t ht=>by
   obtain ⟨u,hu⟩:∃ u,z[t]?=some u:=⟨z[t],by simp [ht]⟩
   have:=hz t u hu
   rw [hu]
   simpa [World.cell?,hp] using this
  have hZ2:=hasZ_default hcz (by rw [hzs];omega) hwbz hB2
  have hb2:Blk w2 p (j * esz + fs.ext (zo_ toff)) te:=⟨_,hB2,by rw [j8_];omega⟩
  have hrd2:RdS w2 g.tR S R r:=hrc.rd.keep hk2 (fun h=>hpS h.symm) (fun h=>hpR h.symm)
  obtain ⟨t',x',he'⟩:=hrc.err
  have herr2:ErrAt g.gErr w2:=ErrAt.keep ⟨t',x',he'⟩ hk2 hpg
  have hrc3:RC g { cx with s:=nm.n 1 } fx ver S R p (j * esz) r a3 w2:=
   ⟨hrd2,(hp03.get _ hc.b.2 (.inl hc.b.1)).trans hrc.sb,hg3.trans hg2,(hp03.get _ hc.ver.2 (.inl hc.ver.1)).trans hrc.sv,fun hf=>(hp03.get _ hc.fx.2 (.inl hc.fx.1)).trans (hrc.sf hf),hrc.nf,(hp03.get 2 (by omega) (.inl (by omega))).trans hrc.su,herr2,hrc.SR,hpR,hpS,hrc.gR,hpg,
    Nat.lt_of_lt_of_le hrc.Slt hk2.size⟩
  have hm1:nm.n 0 < max (nm.n 0) (nm.n 1) + 1/\nm.n 1 < max (nm.n 0) (nm.n 1) + 1/\max (nm.n 0) (nm.n 1) + 1<=k0:=by omega
  have hc3:CxOk { cx with s:=nm.n 1 } (max (nm.n 0) (nm.n 1) + 1) k0:=
   ⟨⟨by have:=hc.b;simp only;omega,hc.b.2⟩,⟨hm1.2.1,by simp only;omega⟩,⟨by have:=hc.ver;simp only;omega,hc.ver.2⟩,⟨by have:=hc.fx;simp only;omega,hc.fx.2⟩,by omega,hm1.2.2⟩
  have hev2:Evo R p (fun t=>j * esz<=t/\t < j * esz + esz) w w2:=by
   refine ⟨hk2.mono fun _ _ h=>.inr h,fun cs te' hcs=>?_⟩
   rw [hp] at hcs
   obtain ⟨rfl,rfl,_⟩:=Obj.cells.inj (Option.some.inj hcs)
   exact ⟨_,hB2,j8_ _ _ _,fun t ht=>applyWr_out _ _ _ _ fun q hq he=>ht (by have:=hwb q hq;omega)⟩
  refine hst (nm.sub 0) { cx with s:=nm.n 1 } fx ver S R p (j * esz) r (max (nm.n 0) (nm.n 1) + 1) k0 (n + 3 + 2 + 1) (nm.n 3) (nm.n 4) toff K E a3 w2 te hokst hrc3 hc3 hfl (by omega) (by omega) (by omega) hb2 ?_ ⟨fun v r' a4 w4 he hp4 hrd4 hev4 hv=>?_,fun he a4 w4 hp4 hif hk4=>?_,fun he=>?_⟩
  ·refine .inr ⟨fun X=>zFds_ok hZ2 X fs 0 hzf,?_⟩
   cases toff with
   | none=>trivial
   | some o=>exact hZ2.one hzt
  ·obtain ⟨vs,t,rfl,hF,hT⟩:=hv
   refine ho.ok _ r' a4 w4 he (hp03.trans (hp4.mono (by omega) (by omega))) hrd4 (hev2.trans (hev4.mono fun t ht=>by have:=zn_ext ht;omega)) fun X hX hS=>⟨vs,t,rfl,far_trans hF hk2.size X hX hS,far_trans hT hk2.size X hX hS⟩
  ·exact ho.err he a4 w4 (hp03.trans (hp4.mono (by omega) (by omega))) hif (hev2.keeps.trans hk4)
  ·exact ho.go he
 ·cases hdf
end
section
variable {P:Program} {g:G} {av:PF->Bool} {fl:Bool} {D:Nat->Option (List (Nat × Value))}
theorem rMany_step (f:RS->Out V) (k:Nat) (r:RS):xb_ f (k + 1) r=(f r).bind fun v r=>(xb_ f k r).bind fun vs r=>.ok (v :: vs) r:=rfl
def Part (f:RS->Out V) (L:Nat) (r0:RS) (vs:List V) (r:RS):Prop:=xb_ f L r0=(xb_ f (L - vs.length) r).bind fun us r=>.ok (vs++us) r
theorem Part.start (f:RS->Out V) (L:Nat) (r0:RS):Part f L r0 [] r0:=by
 simp only [Part,List.length_nil,Nat.sub_zero,List.nil_append]
 cases xb_ f L r0 <;> rfl
theorem Part.step {f:RS->Out V} {L:Nat} {r0 r r':RS} {vs:List V} {v:V} (h:Part f L r0 vs r) (hl:vs.length < L) (hf:f r=.ok v r'):Part f L r0 (vs++[v]) r':=by
 unfold Part at h ⊢
 rw [h]
 obtain ⟨k,hk⟩:∃ k,L - vs.length=k + 1:=⟨L - vs.length - 1,by omega⟩
 have hk2:L - (vs++[v]).length=k:=by simp;omega
 rw [hk,hk2,rMany_step,hf]
 simp only [Out.bind]
 cases xb_ f k r' <;> simp
theorem Part.fail {f:RS->Out V} {L:Nat} {r0 r:RS} {vs:List V} (h:Part f L r0 vs r) (hl:vs.length < L):(f r=.err->xb_ f L r0=.err)/\(f r=.stuck->xb_ f L r0=.stuck):=by
 unfold Part at h
 obtain ⟨k,hk⟩:∃ k,L - vs.length=k + 1:=⟨L - vs.length - 1,by omega⟩
 rw [h,hk,rMany_step]
 exact ⟨fun hf=>by rw [hf];rfl,fun hf=>by rw [hf];rfl⟩
theorem Part.done {f:RS->Out V} {L:Nat} {r0 r:RS} {vs:List V} (h:Part f L r0 vs r) (hl:vs.length=L):xb_ f L r0=.ok vs r:=by
 unfold Part at h
 rw [h,hl,Nat.sub_self]
 simp [xb_,Out.bind]
theorem list_tail {cx:Cx} {fx:Bool} {ver:Int} {S R B O:Nat} {r r':RS} {m k0 n n0 T k F off v y:Nat} {sl:Value} {K E:Act->World->Prop} {a0 a1:Act} {w0 w1:World} {te:Nat} (hF:zj_ P T k F off false 1) (hrc:RC g cx fx ver S R B O r a0 w0) (hc:CxOk cx m k0) (hv:m<=v/\v < k0) (hk:k0<=n0) (hn0:n0<=n) (hn:n + 1 + 4<=a0.tmps.size)
  (hp:Pv 6 m k0 n0 a0 a1) (hy:a1.get y=sl) (_hyn:y < k0) (hsl:sl.oneCell'=true/\sl.cells=#[sl]) (hev:Evo R B (fun j=>O + off<=j/\j < O + off + 1) w0 w1) (hrd:RdS w1 g.tR S R r') (hb:Blk w0 B (O + off + 1) te)
  (h:∀ a' w',Pv 6 m k0 n0 a0 a'->RdS w' g.tR S R r'->Evo R B (fun j=>O + off<=j/\j < O + off + 1) w0 w'->Keeps (·=B) w1 w'->w'.cell? ⟨B,O + off,none⟩=some sl->K a' w') :
  LW P [jf_ y v,gStore none cx.s v T k F] n (Rt K E) a1 w1:=by
 have hs:=hp.size
 have hle:=hc.le
 obtain ⟨cur,hcu,hcus⟩:=hb.evo hev
 refine qc_ (s_move (x:=6) (m:=m) (k0:=k0) (.inr hv) hle (by omega) (by omega) (by omega) fun a2 hp2 hg2=>?_)
 have hs2:=hp2.size
 have hss:a2.get cx.s=pt B O:=((hp.trans (hp2.mono (Nat.le_refl _) hn0)).get _ hc.s.2 (.inl hc.s.1)).trans hrc.ss
 have hm1:(jf_ y v n).2=n + 1:=rfl
 rw [hm1]
 refine qc_ (s_store (x:=6) (m:=m) (k0:=k0) (cs:=[sl]) (cur:=cur) (te:=te) hss hF ⟨sl,by rw [hg2,hy],by rw [hsl.2]⟩ rfl (fun u hu=>by simp at hu;rw [hu];exact hsl.1) hcu hcus hle (by omega) (by omega) (by omega) fun a3 hp3=>q0_ ?_)
 have hevS:Evo R B (fun j=>O + off<=j/\j < O + off + 1) w1 (w1.setRow B (qt_ cur (O + off) [sl])):=Evo.store hcu (by simpa using hcus) (fun j ha hb=>⟨ha,by simpa using hb⟩)
 refine h a3 _ ((hp.trans (hp2.mono (Nat.le_refl _) hn0)).trans (hp3.mono (Nat.le_refl _) (by omega))) (hrd.keep (Keeps.setRow (fun k=>k=B) _ _ _ rfl) (fun h=>hrc.BS h.symm) (fun h=>hrc.BR h.symm)) (hev.trans hevS) (Keeps.setRow _ _ _ _ rfl) ?_
 rw [cell_setRow_same _ _ _ _ _ _ _ hcu]
 have:=jw_ (cur:=cur) (o:=O + off) (vs:=[sl]) (by simpa using hcus) 0 (by simp)
 simpa using this
def ListI (g:G) (S R p esz:Nat) (e:Ty) (f:RS->Out V) (L:Nat) (r0:RS) (c:Nat) (z:Array Value) (te:Nat) (wA:World) (j:Nat) (w:World):Prop:=
 ∃ (vs:List V) (r:RS),vs.length=j/\Part f L r0 vs r/\RdS w g.tR S R r/\Evo R p (fun t=>t < j * esz) wA w/\(∃ cur,w.heap[p]?=some (.cells cur te (0,0))/\cur.size=c * esz/\∀ q t,j<=q->q < L->t < esz->cur[q * esz + t]?=z[t]?) /\
  ∀ i v,vs[i]?=some v->FarA (· < wA.heap.size) S fun X=>Rp w X e p (i * esz) v
theorem list_body {e:Ty} {esz:Nat} (hel:RdEl P g av fl D e) (hez:e.sz<=esz) {nm:Nm} {cx:Cx} {fx:Bool} {ver:Int} {S R B O:Nat} {r0 r1:RS} {m k0 n:Nat} {z:Array Value} {y i F E' p c L j:Nat} {E:Act->World->Prop} {a a1:Act} {wA w1:World} {te:Nat}
  (hok:okEl ⟨P,g,av,D⟩ cx.hf (i + 1) k0 esz z e nm=true) (hrow:RowIs P F E' esz z) (hrc:RC g cx fx ver S R B O r0 a wA) (hc:CxOk cx m k0) (hfl:cx.hf=true->fl=true) (hk:k0<=n) (hks:k0<=a.tmps.size) (hn:(gL (gEl g cx e y i F nm) (n + 5)).2<=a.tmps.size) (hmi:m<=i) (hik:i < k0) (hyi:y < i) (hy6:y ≠ 6)
  (hp1:Pv 6 i k0 n a a1) (hy:a.get y=.slice (some ⟨p,0,none⟩) L c) (hi:a1.get i=.int .i32 j) (hj:j < L) (hLc:L<=c) (hpR:p ≠ R) (hpS:p ≠ S) (_hpB:p ≠ B) (hpg:g.gErr ≠ p) (hpA:p < wA.heap.size)
  (hI:ListI g S R p esz e (zq_ fx ver e (dfTy 0 e)) L r1 c z te wA j w1)
  (hE:xb_ (zq_ fx ver e (dfTy 0 e)) L r1=.err->∀ a' w',Pv 6 m k0 n a a'->(∃ t y,a'.get 6=.iface t y)->Keeps (fun k=>k=R \/ k=p) wA w'->E a' w') (hgo:xb_ (zq_ fx ver e (dfTy 0 e)) L r1 ≠ .stuck) :
  NWP P (gS (gEl g cx e y i F nm) (n + 5)).1 (Rt (fun a2 w2=>Pv 6 (i + 1) k0 (n + 5) a1 a2/\ListI g S R p esz e (zq_ fx ver e (dfTy 0 e)) L r1 c z te wA (j + 1) w2) E) a1 w1:=by
 obtain ⟨vs,r,hvl,hpart,hrd,hev,⟨cur,hcu,hcs,hcz⟩,hvs⟩:=hI
 have hs1:=hp1.size
 have h66:=hc.six
 obtain ⟨_,z',_,_,hzc,_,hzs,hpos,_⟩:=hrow.info
 have hRA:R < wA.heap.size:=hrc.rd.lt
 obtain ⟨t',x',he'⟩:=hrc.err
 have herr1:ErrAt g.gErr w1:=ErrAt.keep ⟨t',x',he'⟩ hev.keeps (fun h=>by rcases h with h | h;exact hrc.gR h;exact hpg h)
 have hrc1:RC g cx fx ver S R B O r a1 w1:=
  ⟨hrd,(hp1.get _ hc.b.2 (.inl (by have:=hc.b;omega))).trans hrc.sb,(hp1.get _ hc.s.2 (.inl (by have:=hc.s;omega))).trans hrc.ss,(hp1.get _ hc.ver.2 (.inl (by have:=hc.ver;omega))).trans hrc.sv,fun hf=>(hp1.get _ hc.fx.2 (.inl (by have:=hc.fx;omega))).trans (hrc.sf hf),hrc.nf,
   (hp1.get 2 (by omega) (.inl (by omega))).trans hrc.su,herr1,hrc.SR,hrc.BR,hrc.BS,hrc.gR,hrc.gB,Nat.lt_of_lt_of_le hrc.Slt hev.keeps.size⟩
 have hci:CxOk cx (i + 1) k0:=cxOk_up hc (by omega) (by omega)
 have hjb:j * esz + esz<=c * esz:=by
  have:(j + 1) * esz<=c * esz:=Nat.mul_le_mul_right _ (by omega)
  rw [Nat.add_mul,Nat.one_mul] at this
  exact this
 have hZ:HasZ w1 p (j * esz) z:=fun t v ht=>by
  have htl:t < esz:=by rw [<- hzs];exact (Array.getElem?_eq_some_iff.1 ht).1
  have:=hcz j t (Nat.le_refl _) hj htl
  rw [ht] at this
  simpa [World.cell?,hcu] using this
 have hbk:Blk w1 p (j * esz) te:=⟨cur,hcu,by omega⟩
 refine q2_ (hel nm cx fx ver S R B O r (i + 1) k0 (n + 5) esz z y i F E' p L c j cur _ E a1 w1 te hok hrow hrc1 hci hfl (by omega) (by omega) (by omega) ((hp1.get y hy6 (.inl hyi)).trans hy) hi hj (by omega) (by omega) hy6 (by omega) hcu (by omega) hZ hpR hpS hpg
  ⟨fun v r' a2 w2 he hp2 hrd2 hev2 hv=>⟨hp2,?_⟩,fun he a2 w2 hp2 hif hk2=>?_,fun he=>?_⟩)
 ·refine ⟨vs++[v],r',by simp [hvl],hpart.step (by omega) he,hrd2,(hev.mono fun t ht=>?_).trans (hev2.mono fun t ht=>?_),?_,fun q u hq=>?_⟩
  ·rw [Nat.add_mul,Nat.one_mul];omega
  ·rw [Nat.add_mul,Nat.one_mul];omega
  ·obtain ⟨cs2,h1,h2,h3⟩:=hev2.blk cur te hcu
   refine ⟨cs2,h1,by omega,fun q t hq hqL ht=>?_⟩
   rw [h3 _ (fun hh=>by
    have:(j + 1) * esz<=q * esz:=Nat.mul_le_mul_right _ hq
    rw [Nat.add_mul,Nat.one_mul] at this
    omega)]
   exact hcz q t (by omega) hqL ht
  ·rcases Nat.lt_or_ge q vs.length with hlt | hge
   ·rw [List.getElem?_append_left hlt] at hq
    refine Rp.evoA hev2 hRA hpA hrc.SR.symm hpS hbk (hvs q u hq) (fun t ht1 ht2 hh=>?_)
    have:(q + 1) * esz<=j * esz:=Nat.mul_le_mul_right _ (by omega)
    rw [Nat.add_mul,Nat.one_mul] at this
    omega
   ·have hq0:q=vs.length:=by
     have:=(List.getElem?_eq_some_iff.1 hq).1
     simp at this
     omega
    subst hq0
    rw [List.getElem?_append_right (Nat.le_refl _),Nat.sub_self] at hq
    obtain rfl:v=u:=by simpa using hq
    rw [hvl]
    exact far_trans hv hev.keeps.size
 ·exact hE ((hpart.fail (by omega)).1 he) a2 w2 ((hp1.mono hmi (Nat.le_refl _)).trans (hp2.mono (by omega) (by omega))) hif (hev.keeps.trans hk2)
 ·exact hgo ((hpart.fail (by omega)).2 he)
end
section
variable {P:Program} {g:G} {av:PF->Bool} {fl:Bool} {D:Nat->Option (List (Nat × Value))}
theorem ty_list (K0:KB P g av fl) {nul:Option Nat} {esz:Nat} {e:Ty} (hel:RdEl P g av fl D e) (hez:∀ hf m k0 z nm,okEl ⟨P,g,av,D⟩ hf m k0 esz z e nm=true->e.sz<=esz):RdTy P g av fl D (.list nul esz e):=by
 intro nm cx fx ver S R B O r m k0 n T off old K E a w te hok hrc hc hfl hk hks hn hb hold ho
 simp only [okTy,Bool.and_eq_true,decide_eq_true_eq,beq_iff_eq] at hok
 obtain ⟨⟨⟨hsl,hT⟩,hF⟩,hrow⟩:=hok
 subst hT
 replace hF:=fldB_ok hF
 split at hrow
 ·rename_i E' sz z hrowE
  simp only [Bool.and_eq_true,beq_iff_eq] at hrow
  obtain ⟨⟨rfl,hokE⟩,hhl⟩:=hrow
  have hho:za_ g.ok=true:=by simp only [hasLst,Bool.and_eq_true] at hhl;exact hhl.1.2
  have hrow:=rowOf_ok hrowE
  have hRw:R < w.heap.size:=hrc.rd.lt
  have hBw:B < w.heap.size:=hb.lt
  have hle:=hc.le
  have h66:=hc.six
  have hvm:=hc.ver
  have hnul:old.isNul=true:=by
   cases h:old.isNul with
   | true=>rfl
   | false=>exact absurd (by simp only [zq_,h];rfl) ho.go
  have hcell:w.cell? ⟨B,O + off,none⟩=some (.slice none 0 0):=by
   rcases hold with ⟨h,_⟩ | ⟨xs,p,q,c,_,_,_,_,_,h,_⟩
   ·exact h
   ·rw [h] at hnul;cases hnul
  have hrs:zq_ fx ver (.list nul sz e) old r=(if (j0_ fx r).2.bad then .err else if !roomy (j0_ fx r).1 sz then .stuck else if (j0_ fx r).1<=0 then .ok (if nul.isSome && (decide ((j0_ fx r).1=0) || !xh_ nul ver) then .l [] else .nul) (j0_ fx r).2
    else (xb_ (zq_ fx ver e (dfTy 0 e)) (j0_ fx r).1.toNat (j0_ fx r).2).bind fun vs r=>.ok (.l vs) r):=by
   simp only [zq_,hnul];rfl
  rw [hrs] at ho
  have hLlt:=rLen_lt fx r
  generalize hv:nm.n 0=v at *
  generalize hy:nm.n 4=y at *
  generalize hl:nm.n 5=l at *
  generalize hi:nm.n 6=i at *
  generalize hFF:nm.n 3=F at *
  have hn':(gL (gEl g cx e y i F (nm.sub 0)) ((gL (gNull g cx nul y l F) ((if cx.hf then gFx cx (qm_ g.clen cx.b l) (qm_ g.len cx.b l) else qm_ g.len cx.b l:GC) (n + 5)).2).2 + 15)).2 + 5<=a.tmps.size:=by
   have h:=hn
   simp only [gTy] at h
   rw [qx_,qx_,hv,hy,hl,hi,hFF] at h
   exact h
  have hupL:Up (if cx.hf then gFx cx (qm_ g.clen cx.b l) (qm_ g.len cx.b l) else qm_ g.len cx.b l:GC):=up_ite (j4_ (qi_ _ _) (qi_ _ _)) (qi_ _ _)
  have hupL':=hupL (n + 5)
  have hupN':=up_gNull g cx nul y l F ((if cx.hf then gFx cx (qm_ g.clen cx.b l) (qm_ g.len cx.b l) else qm_ g.len cx.b l:GC) (n + 5)).2
  have hupE':=up_gEl g e (nm.sub 0) cx y i F ((gL (gNull g cx nul y l F) ((if cx.hf then gFx cx (qm_ g.clen cx.b l) (qm_ g.len cx.b l) else qm_ g.len cx.b l:GC) (n + 5)).2).2 + 15)
  have hgoal:LW P (zg_ cx.s v (nm.n 1) (nm.n 2) F :: jf_ v y :: ji_ l (.int .i32 0) :: (if cx.hf then gFx cx (qm_ g.clen cx.b l) (qm_ g.len cx.b l) else qm_ g.len cx.b l:GC) :: (gNull g cx nul y l F ++
    [gOkChk g cx,gSl0 y F,gGrow g y l F,gFor g i l (nm.n 7) (nm.n 8) (gS (gEl g cx e y i F (nm.sub 0))),jf_ y v,gStore none cx.s v (nm.n 1) (nm.n 2) F])) n (Rt K E) a w:=by
   refine qc_ (s_load (x:=6) (m:=m) (k0:=k0) (O:=O) hrc.ss hF hcell (.inr ⟨hsl.1,by omega⟩) hle hk (by omega) (by omega) fun a1 hp1 hg1=>?_)
   have hs1:=hp1.size
   rw [show (zg_ cx.s v (nm.n 1) (nm.n 2) F n).2=n + 4 from rfl]
   refine qc_ (s_move (x:=6) (m:=m) (k0:=k0) (.inr ⟨by omega,by omega⟩) hle (by omega) (by omega) (by omega) fun a2 hp2 hg2=>?_)
   have hs2:=hp2.size
   rw [hg1] at hg2
   rw [show (jf_ v y (n + 4)).2=n + 5 from rfl]
   refine qc_ (xa_ (x:=l) (m:=k0) (k0:=k0) (n:=n + 5) (.inl rfl) (by omega) fun a3 hp3 _=>?_)
   have hs3:=hp3.size
   have hg3:a3.get y=.slice none 0 0:=(hp3.get y (by omega) (.inl (by omega))).trans hg2
   have hp03:Pv 6 m k0 n a a3:=(hp1.trans (hp2.mono (Nat.le_refl _) (by omega))).trans ((hp3.weak ⟨by omega,by omega⟩).mono (Nat.le_refl _) (by omega))
   have hrc3:RC g cx fx ver S R B O r a3 w:=hrc.step hc hp03 hrc.rd (Keeps.refl (fun _=>False) w) (fun _ _ h=>h.elim)
   rw [show (ji_ l (.int .i32 0) (n + 5)).2=n + 5 from rfl]
   refine qc_ (s_len (m:=l) (k0:=k0) K0 hhl hfl hrc3 (cxOk_up hc (by omega) (by omega)) ⟨Nat.le_refl _,by omega⟩ (by omega) (by omega) fun a4 w4 hp4 hg4 hrd4 hk4=>?_)
   have hs4:=hp4.size
   have hy4:a4.get y=.slice none 0 0:=(hp4.get y (by omega) (.inl (by omega))).trans hg3
   have hp04:Pv 6 m k0 n a a4:=hp03.trans (hp4.mono (by omega) (by omega))
   have hrc4:RC g cx fx ver S R B O (j0_ fx r).2 a4 w4:=hrc.step hc hp04 hrd4 hk4 (fun _ _ h=>.inl h)
   generalize hLv:(j0_ fx r).1=L at *
   generalize hr1:(j0_ fx r).2=r1 at *
   generalize hnL:((if cx.hf then gFx cx (qm_ g.clen cx.b l) (qm_ g.len cx.b l) else qm_ g.len cx.b l:GC) (n + 5)).2=nL at *
   refine s_null (x:=6) (m:=y) (k0:=k0) (ver:=ver) hrc4.sv hy4 hg4 hrow ⟨Nat.le_refl _,by omega⟩ (by omega) (by omega) (by omega) (by omega) (by omega) (by omega) (by omega) (by omega) fun a5 w5 base hp5 hk5 hy5 hg5 hbase hbs=>?_
   have hs5:=hp5.size
   generalize hnN:(gL (gNull g cx nul y l F) nL).2=nN at *
   have hp05:Pv 6 m k0 n a a5:=hp04.trans (hp5.mono (by omega) (by omega))
   have hk05:Keeps (·=R) w w5:=hk4.trans (hk5.mono fun _ _ h=>h.elim)
   have hrc5:RC g cx fx ver S R B O r1 a5 w5:=hrc.step hc hp05 (hrd4.keep hk5 id id) hk05 (fun _ _ h=>.inl h)
   refine qc_ ?_
   rw [qr_]
   refine s_okChk (m:=i) (k0:=k0) K0 hho hrc5 (cxOk_up hc (by omega) (by omega)) (by omega) (by omega) (fun hbad a6 w6 hp6 hif hk6=>?_) (fun hgood a6 w6 hp6 hk6=>?_)
   ·exact ho.err (by rw [hbad];rfl) a6 w6 (hp05.trans (hp6.mono (by omega) (by omega))) hif ((hk05.trans (hk6.mono fun _ _ h=>h.elim)).mono fun _ _ h=>.inl h)
   have hs6:=hp6.size
   have hp06:Pv 6 m k0 n a a6:=hp05.trans (hp6.mono (by omega) (by omega))
   have hy6':a6.get y=.slice base 0 0:=(hp6.get y (by omega) (.inl (by omega))).trans hy5
   have hl6':a6.get l=.int .i32 L:=(hp6.get l (by omega) (.inl (by omega))).trans hg5
   have hk06:Keeps (·=R) w w6:=hk05.trans (hk6.mono fun _ _ h=>h.elim)
   have hrd6:RdS w6 g.tR S R r1:=hrc5.rd.keep hk6 id id
   rw [hgood] at ho
   have hroom:roomy L sz=true:=by
    cases h:roomy L sz with
    | true=>rfl
    | false=>exact absurd (by rw [h];rfl) ho.go
   rw [hroom] at ho
   simp only [Bool.false_eq_true,if_false,Bool.not_true] at ho
   rw [show (gOkChk g cx nN).2=nN + 3 from rfl]
   refine qc_ (s_sl0 (x:=y) (m:=k0) (k0:=k0) hy6' hrow.und hrow.size (.inl rfl) (Nat.le_refl _) (by omega) (by omega) (by omega) fun a7 hp7 hy7=>?_)
   have hs7:=hp7.size
   have hl7:a7.get l=.int .i32 L:=(hp7.get l (by omega) (.inl (by omega))).trans hl6'
   rw [show (gSl0 y F (nN + 3)).2=nN + 5 from rfl]
   have hp07:Pv 6 m k0 n a a7:=hp06.trans ((hp7.weak ⟨by omega,by omega⟩).mono (Nat.le_refl _) (by omega))
   refine qc_ (s_grow (x:=y) (m:=k0) (k0:=k0) K0 hy7 hl7 hrow hLlt hroom (.inl rfl) (by omega) (Nat.le_refl _) (by omega) (by omega) (by omega) (fun hL a8 hp8 hy8=>?_) (fun hL a8 c cs hp8 hLc hcm hcs hcz hy8=>?_))
   ·-- nothing there
    have hs8:=hp8.size
    have hl8:a8.get l=.int .i32 L:=(hp8.get l (by omega) (.inl (by omega))).trans hl7
    have hp08:Pv 6 m k0 n a a8:=hp07.trans ((hp8.weak ⟨by omega,by omega⟩).mono (Nat.le_refl _) (by omega))
    rw [show (gGrow g y l F (nN + 5)).2=nN + 10 from rfl]
    refine qc_ ?_
    rw [qr_]
    refine s_for (m:=m) (k0:=k0) (L:=L) ⟨by omega,by omega⟩ (by omega) (by omega) (by omega) hle (by omega) (by omega) hl8 hLlt (fun _ w'=>w'=w6) rfl (fun j a9 w9 hj=>by omega) fun a9 w9 hp9 hw9=>?_
    subst hw9
    have hev:Evo R B (fun j=>O + off<=j/\j < O + off + 1) w w9:=Evo.of_keeps hk06 (fun _ _ h=>h) hrc.BR
    have hy9:a9.get y=.slice base 0 0:=(hp9.get y (by omega) (.inl (by omega))).trans hy8
    have hone:(Value.slice base 0 0).oneCell'=true/\(Value.slice base 0 0).cells=#[.slice base 0 0]:=⟨rfl,rfl⟩
    rw [show (gFor g i l (nm.n 7) (nm.n 8) (gS (gEl g cx e y i F (nm.sub 0))) (nN + 10)).2=(gL (gEl g cx e y i F (nm.sub 0)) (nN + 15)).2 from rfl]
    refine list_tail (n0:=n) hF hrc hc ⟨hsl.1,by omega⟩ hk (by omega) (by omega) (hp08.trans (hp9.mono (by omega) (by omega))) hy9 (by omega) hone hev hrd6 hb fun a10 w10 hp10 hrd10 hev10 hk10 hcell10=>?_
    refine ho.ok _ r1 a10 w10 (by rw [if_pos hL]) hp10 hrd10 hev10 fun X hX hS=>?_
    rw [<- hbs]
    rcases hbase with rfl | ⟨p,rfl,hp,hp2⟩
    ·exact .inl ⟨hcell10,rfl⟩
    ·refine .inr ⟨[],p,0,0,hcell10,fun hXp=>?_,?_,Nat.le_refl _,by simp,rfl,fun i x hx=>by simp at hx⟩
     ·have:=hX p hXp
      have:=hk4.size
      omega
     ·have:=hk6.size
      have:=hk10.size
      omega
   ·-- so many elements
    have hs8:=hp8.size
    have hl8:a8.get l=.int .i32 L:=(hp8.get l (by omega) (.inl (by omega))).trans hl7
    have hp08:Pv 6 m k0 n a a8:=hp07.trans ((hp8.weak ⟨by omega,by omega⟩).mono (Nat.le_refl _) (by omega))
    rw [show (gGrow g y l F (nN + 5)).2=nN + 10 from rfl]
    rw [if_neg (by omega)] at ho
    have hkA:Keeps (fun _=>False) w6 (w6.drew.alloc (.cells cs E' (0,0))):=(Keeps.drew _ _).trans (Keeps.alloc _ _ _)
    have hsz6:=hk06.size
    have hAsz:(w6.drew.alloc (.cells cs E' (0,0))).heap.size=w6.heap.size + 1:=by simp
    have hpc:(w6.drew.alloc (.cells cs E' (0,0))).heap[w6.heap.size]?=some (.cells cs E' (0,0)):=heap_alloc_new w6.drew _
    have hk0A:Keeps (·=R) w (w6.drew.alloc (.cells cs E' (0,0))):=hk06.trans (hkA.mono fun _ _ h=>h.elim)
    have hrdA:RdS (w6.drew.alloc (.cells cs E' (0,0))) g.tR S R r1:=hrd6.keep hkA id id
    have hrcA:RC g cx fx ver S R B O r1 a8 (w6.drew.alloc (.cells cs E' (0,0))):=hrc.step hc hp08 hrdA hk0A (fun _ _ h=>.inl h)
    obtain ⟨t',x',he'⟩:=hrc.err
    have hgl:=j2_ he'
    have hSlt:=hrc.Slt
    generalize hwA:w6.drew.alloc (.cells cs E' (0,0))=wA at *
    refine qc_ ?_
    rw [qr_]
    refine s_for (m:=m) (k0:=k0) (L:=L) ⟨by omega,by omega⟩ (by omega) (by omega) (by omega) hle (by omega) (by omega) hl8 hLlt (ListI g S R w6.heap.size sz e (zq_ fx ver e (dfTy 0 e)) L.toNat r1 c z E' wA) ?_ (fun j a9 w9 hj hp9 hi9 hI=>?_) fun a9 w9 hp9 hI=>?_
    ·exact ⟨[],r1,rfl,Part.start _ _ _,hrdA,Evo.refl _ _ _ _,⟨cs,hpc,hcs,fun q t _ hq ht=>hcz q t hq ht⟩,fun i v hv=>by simp at hv⟩
    ·refine list_body (B:=B) (O:=O) (r0:=r1) (m:=m) (te:=E') hel (hez _ _ _ _ _ hokE) hokE hrow hrcA hc hfl (by omega) (by omega) (by rw [show nN + 10 + 5=nN + 15 from rfl];omega) (by omega) (by omega) (by omega) (by omega) hp9 hy8 hi9 hj hLc (by omega) (by omega) (by omega) (by omega) (by omega) hI (fun he a10 w10 hp10 hif hk10=>?_) (fun he=>?_)
     ·refine ho.err (by rw [he];rfl) a10 w10 (hp08.trans (hp10.mono (Nat.le_refl _) (by omega))) hif ?_
      exact ⟨hk10.os.trans hk0A.os,hk10.tape.trans hk0A.tape,hk10.output.trans hk0A.output,Nat.le_trans hk0A.size hk10.size,fun q hq hx=>by
       rw [hk10.block q (by omega) (fun h=>by rcases h with h | h;exact hx (.inl h);omega),hk0A.block q hq (fun h=>hx (.inl h))]⟩
     ·exact ho.go (by rw [he];rfl)
    ·obtain ⟨vs,r2,hvl,hpart,hrd9,hev9,⟨cur9,hcu9,_,_⟩,hvs⟩:=hI
     have hsz9:=hev9.keeps.size
     have hev:Evo R B (fun j=>O + off<=j/\j < O + off + 1) w w9:=
      ⟨⟨hev9.keeps.os.trans hk0A.os,hev9.keeps.tape.trans hk0A.tape,hev9.keeps.output.trans hk0A.output,Nat.le_trans hk0A.size hsz9,fun q hq hx=>by
       rw [hev9.keeps.block q (by omega) (fun h=>by rcases h with h | h;exact hx (.inl h);omega),hk0A.block q hq (fun h=>hx (.inl h))]⟩,fun cs' te' hc'=>⟨cs',by
       have hBR:=hrc.BR
       rw [hev9.keeps.block B (by omega) (fun h=>by rcases h with h | h;exact hBR h;omega),hk0A.block B hBw hBR];exact hc',rfl,fun _ _=>rfl⟩⟩
     have hy9:a9.get y=.slice (some ⟨w6.heap.size,0,none⟩) L.toNat c:=(hp9.get y (by omega) (.inl (by omega))).trans hy8
     have hone:(Value.slice (some ⟨w6.heap.size,0,none⟩) L.toNat c).oneCell'=true/\(Value.slice (some ⟨w6.heap.size,0,none⟩) L.toNat c).cells=#[.slice (some ⟨w6.heap.size,0,none⟩) L.toNat c]:=⟨rfl,rfl⟩
     rw [show (gFor g i l (nm.n 7) (nm.n 8) (gS (gEl g cx e y i F (nm.sub 0))) (nN + 10)).2=(gL (gEl g cx e y i F (nm.sub 0)) (nN + 15)).2 from rfl]
     refine list_tail (n0:=n) hF hrc hc ⟨hsl.1,by omega⟩ hk (by omega) (by omega) (hp08.trans (hp9.mono (by omega) (by omega))) hy9 (by omega) hone hev hrd9 hb fun a10 w10 hp10 hrd10 hev10 hk10 hcell10=>?_
     refine ho.ok (.l vs) r2 a10 w10 (by rw [hpart.done hvl];rfl) hp10 hrd10 hev10 fun X hX hS=>.inr ⟨vs,w6.heap.size,0,c,by rw [hvl];exact hcell10,fun hXp=>?_,?_,by omega,hcm,rfl,fun q u hu=>?_⟩
     ·have:=hX _ hXp
      omega
     ·have:=hk10.size
      omega
     ·have h1:=hvs q u hu (fun k=>X k \/ k=B) (fun k hk=>by
       rcases hk with hk | rfl
       ·have:=hX k hk
        omega
       ·omega) (fun hk=>by rcases hk with hk | hk;exact hS hk;exact hrc.BS hk.symm)
      rw [Nat.zero_add]
      refine Rp.mono (fun k _ hk=>.inl hk) _ _ _ _ (Rp.keep (hk10.mono fun k _ hk=>.inr hk) h1 (fun hk=>?_) (by omega))
      rcases hk with hk | hk
      ·have:=hX _ hk
       omega
      ·omega
  have hdef:gTy g cx (.list nul sz e) nm=zg_ cx.s v (nm.n 1) (nm.n 2) F :: jf_ v y :: ji_ l (.int .i32 0) :: (if cx.hf then gFx cx (qm_ g.clen cx.b l) (qm_ g.len cx.b l) else qm_ g.len cx.b l:GC) :: (gNull g cx nul y l F ++
    [gOkChk g cx,gSl0 y F,gGrow g y l F,gFor g i l (nm.n 7) (nm.n 8) (gS (gEl g cx e y i F (nm.sub 0))),jf_ y v,gStore none cx.s v (nm.n 1) (nm.n 2) F]):=by
   simp only [gTy,hv,hy,hl,hi,hFF]
   simp
  rw [hdef]
  exact hgoal
 ·cases hrow
end
section
variable {P:Program} {g:G} {av:PF->Bool} {fl:Bool} {D:Nat->Option (List (Nat × Value))}
theorem Keeps.inner {R B p:Nat} {w w1 w2:World} (h:Keeps (fun k=>k=R \/ k=B) w w1) (k:Keeps (fun k=>k=R \/ k=p) w1 w2) (hp:w.heap.size<=p):Keeps (fun k=>k=R \/ k=B) w w2:=
 ⟨k.os.trans h.os,k.tape.trans h.tape,k.output.trans h.output,Nat.le_trans h.size k.size,fun q hq hx=>by
  rw [k.block q (Nat.lt_of_lt_of_le hq h.size) (fun hh=>by rcases hh with hh | hh;exact hx (.inl hh);omega),h.block q hq hx]⟩
theorem applyWr_same {O:Nat}:∀ (wr:List (Nat × Value)) (cur:Array Value),(∀ q ∈ wr,cur[O + q.1]?=some q.2)->applyWr cur O wr=cur
 | [],_,_=>rfl
 | p :: r,cur,h=>by
  have e:cur.setIfInBounds (O + p.1) p.2=cur:=by
   have hp:=h p (by simp)
   refine Array.ext (by simp) fun i h1 h2=>?_
   rw [Array.getElem_setIfInBounds h2]
   split
   ·rename_i hi
    subst hi
    exact ((Array.getElem?_eq_some_iff.1 hp).2).symm
   ·rfl
  show applyWr (cur.setIfInBounds (O + p.1) p.2) O r=cur
  rw [e]
  exact applyWr_same r cur fun q hq=>h q (by simp [hq])
theorem wrFits_cell {w:World} {p:Nat × Value}:∀ (fs:Fds) (X:Nat->Prop) (B o:Nat),RpF w X fs B o (dfFds fs)->wrFits p fs=true->∃ v,w.cell? ⟨B,o + p.1,none⟩=some v/\v=p.2
 | .nil,_,_,_,_,h=>by cases h
 | .cons lo hi tag df off ty r,X,B,o,hr,h=>by
  obtain ⟨v0,vs0,he,hv,hrs⟩:=hr
  cases he
  simp only [wrFits,Bool.or_eq_true] at h
  rcases h with h | h
  ·cases ty with
   | prim q=>
    cases q
    case uuid=>cases h
    case bool=>
     simp only [Bool.and_eq_true,Bool.or_eq_true,beq_iff_eq] at h
     obtain ⟨rfl,h2⟩:=h
     obtain ⟨cs,hc,b,rfl,hb⟩:=hv
     refine ⟨_,hc 0 _ rfl,?_⟩
     simp only [dfTy,V.n.injEq] at hb
     rcases h2 with ⟨rfl,h2⟩ | ⟨rfl,h2⟩
     ·rw [eqV_ok h2]
      cases b <;> simp at hb ⊢
     ·rw [eqV_ok h2]
      cases b <;> simp at hb ⊢
    all_goals
     simp only [Bool.and_eq_true,beq_iff_eq] at h
     obtain ⟨rfl,h2⟩:=h
     obtain ⟨cs,hc,x,rfl,hx,_⟩:=hv
     refine ⟨_,hc 0 _ rfl,?_⟩
     simp only [dfTy,V.n.injEq] at hx
     rw [eqV_ok h2,hx]
   | str _=>cases h
   | bytes _=>cases h
   | list _ _ _=>cases h
   | struct _ _ _=>cases h
  ·exact wrFits_cell r X B o hrs h
theorem ty_inl (En:Env P g av fl D) {toff:Option Nat} {fs:Fds} (hst:RdSt P g av fl D fs):RdTy P g av fl D (.struct none toff fs):=by
 intro nm cx fx ver S R B O r m k0 n T off old K E a w te hok hrc hc hfl hk hks hn hb hold ho
 simp only [okTy,Bool.and_eq_true,decide_eq_true_eq,beq_iff_eq] at hok
 obtain ⟨⟨⟨⟨hsl,hT⟩,hF⟩,hdf⟩,hokst⟩:=hok
 subst hT
 replace hF:=fldB_ok hF
 split at hdf
 ·rename_i wr hwr
  simp only [Bool.and_eq_true,decide_eq_true_eq,List.all_eq_true] at hdf
  have hwf:=fun q hq=>(hdf q hq).2
  replace hdf:=fun q hq=>(hdf q hq).1
  obtain ⟨hEnt,hDf⟩:=En.df _ _ hwr
  have hRw:R < w.heap.size:=hrc.rd.lt
  have hBw:B < w.heap.size:=hb.lt
  have hle:=hc.le
  have h66:=hc.six
  have hn':(gL (gStOf g { cx with s:=nm.n 3 } fs.tagged (nm.n 5) (nm.n 6) (nm.sub 0) (gFds g { cx with s:=nm.n 3 } fs (nm.sub 0).s) (gTagd g { cx with s:=nm.n 3 } fs (nm.sub 0).s)) (n + 3 + 2 + 1)).2<=a.tmps.size:=by
   simp only [gTy] at hn
   rw [qx_] at hn
   exact hn
  have hup:=up_gStOf (g:=g) (cx:={ cx with s:=nm.n 3 }) (tagged:=fs.tagged) (T:=nm.n 5) (kt:=nm.n 6) (m:=nm.sub 0) (up_gFds g fs (nm.sub 0).s { cx with s:=nm.n 3 }) (up_gTagd g fs (nm.sub 0).s { cx with s:=nm.n 3 }) (n + 3 + 2 + 1)
  have hsz:(Ty.struct none toff fs).sz=fs.ext (zo_ toff):=rfl
  obtain ⟨cur,hcu,hcus⟩:=hb
  rw [hsz] at hcus
  show LW P (gFieldAddr cx.s (nm.n 0) (nm.n 1) (nm.n 2) :: zi_ (nm.n 0) (nm.n 4) :: jf_ (nm.n 0) (nm.n 3) :: gStOf g { cx with s:=nm.n 3 } fs.tagged (nm.n 5) (nm.n 6) (nm.sub 0) (gFds g { cx with s:=nm.n 3 } fs (nm.sub 0).s) (gTagd g { cx with s:=nm.n 3 } fs (nm.sub 0).s)) n (Rt K E) a w
  refine qc_ (s_fieldAddr (x:=6) (m:=m) (k0:=k0) (B:=B) (O:=O) hrc.ss hF (.inr ⟨hsl.1,by omega⟩) hle hk (by omega) (by omega) fun a1 hp1 hg1=>?_)
  have hs1:=hp1.size
  rw [show (gFieldAddr cx.s (nm.n 0) (nm.n 1) (nm.n 2) n).2=n + 3 from rfl]
  refine qc_ (s_default (x:=6) (m:=m) (k0:=k0) (B:=B) (O:=O + off) (cur:=cur) (te:=te) hEnt hDf hg1 hcu (fun q hq=>by have:=hdf q hq;omega) hle (by omega) (by omega) fun a2 w2 hp2 hsame2 hk2 hB2=>?_)
  have hs2:=hp2.size
  have hg2:a2.get (nm.n 0)=pt B (O + off):=(hsame2 _ (by omega)).trans hg1
  rw [show (zi_ (nm.n 0) (nm.n 4) (n + 3)).2=n + 3 + 2 from rfl]
  refine qc_ (s_move (x:=6) (m:=m) (k0:=k0) (.inr ⟨hsl.2.1,hsl.2.2.2.1⟩) hle (by omega) (by omega) (by omega) fun a3 hp3 hg3=>?_)
  rw [show (jf_ (nm.n 0) (nm.n 3) (n + 3 + 2)).2=n + 3 + 2 + 1 from rfl]
  have hs3:=hp3.size
  have hp03:Pv 6 m k0 n a a3:=(hp1.trans (hp2.mono (Nat.le_refl _) (by omega))).trans (hp3.mono (Nat.le_refl _) (by omega))
  have hrd2:RdS w2 g.tR S R r:=hrc.rd.keep hk2 (fun h=>hrc.BS h.symm) (fun h=>hrc.BR h.symm)
  have hrc2:RC g cx fx ver S R B O r a3 w2:=hrc.step hc hp03 hrd2 hk2 (fun _ _ h=>.inr h)
  have hrc3:RC g { cx with s:=nm.n 3 } fx ver S R B (O + off) r a3 w2:=hrc2.withS (hg3.trans hg2) hrc.BR hrc.BS hrc.gB
  have hm1:nm.n 0 < max (nm.n 0) (nm.n 3) + 1/\nm.n 3 < max (nm.n 0) (nm.n 3) + 1/\max (nm.n 0) (nm.n 3) + 1<=k0:=by omega
  have hc3:CxOk { cx with s:=nm.n 3 } (max (nm.n 0) (nm.n 3) + 1) k0:=
   ⟨⟨by have:=hc.b;simp only;omega,hc.b.2⟩,⟨hm1.2.1,by simp only;omega⟩,⟨by have:=hc.ver;simp only;omega,hc.ver.2⟩,⟨by have:=hc.fx;simp only;omega,hc.fx.2⟩,by omega,hm1.2.2⟩
  have hev2:Evo R B (fun t=>O + off<=t/\t < O + off + (Ty.struct none toff fs).sz) w w2:=by
   refine ⟨hk2.mono fun _ _ h=>.inr h,fun cs te' hcs=>?_⟩
   rw [hcu] at hcs
   obtain ⟨rfl,rfl,_⟩:=Obj.cells.inj (Option.some.inj hcs)
   exact ⟨_,hB2,j8_ _ _ _,fun t ht=>applyWr_out _ _ _ _ fun q hq he=>ht (by have:=hdf q hq;rw [hsz];omega)⟩
  have hini:(fs.plain=true/\fx=true) \/ ((∀ X,RpF w2 X fs B (O + off) (dfFds fs))/\TgNil w2 B (O + off) toff):=by
   rcases hold with hold | ⟨rfl,hold⟩
   ·exact .inl hold
   ·have hfs:∀ X,RpF w X fs B (O + off) (dfFds fs):=fun X=>by
     obtain ⟨vs,t,he,h,_⟩:=hold X
     cases he
     exact h
    have hsame:applyWr cur (O + off) wr=cur:=applyWr_same wr cur fun q hq=>by
     obtain ⟨v,hv,hq2⟩:=wrFits_cell fs (fun _=>False) B (O + off) (hfs _) (hwf q hq)
     have:w.cell? ⟨B,O + off + q.1,none⟩=cur[O + off + q.1]?:=by simp [World.cell?,hcu]
     rw [<- this,hv,hq2]
    rw [hsame] at hB2
    have hc:∀ j,w2.cell? ⟨B,j,none⟩=w.cell? ⟨B,j,none⟩:=fun j=>by simp [World.cell?,hB2,hcu]
    refine .inr ⟨fun X=>?_,?_⟩
    ·have h1:=RpF.frameIn (X:=fun k=>X k \/ k=B) (hk2.mono fun k _ hk=>.inr hk) fs B (O + off) (dfFds fs) (hfs _) fun j _=>hc j
     exact RpF.mono (fun k _ hk=>.inl hk) fs B (O + off) (dfFds fs) h1
    ·obtain ⟨vs,t,he,_,ht⟩:=hold (fun _=>True)
     cases he
     cases toff with
     | none=>trivial
     | some k=>
      obtain ⟨mm,hm,hh⟩:=ht
      rcases hh with ⟨rfl,_⟩ | hh
      ·show w2.cell? ⟨B,O + off + k,none⟩=some (.map none)
       rw [hc];exact hm
      ·obtain ⟨_,_,hx,_⟩:=hh
       exact absurd trivial hx
  refine hst (nm.sub 0) { cx with s:=nm.n 3 } fx ver S R B (O + off) r (max (nm.n 0) (nm.n 3) + 1) k0 (n + 3 + 2 + 1) (nm.n 5) (nm.n 6) toff K E a3 w2 te hokst hrc3 hc3 hfl (by omega) (by omega) (by omega) ⟨_,hB2,by rw [j8_];exact hcus⟩ hini
   ⟨fun v r' a4 w4 he hp4 hrd4 hev4 hv=>?_,fun he a4 w4 hp4 hif hk4=>?_,fun he=>?_⟩
  ·obtain ⟨vs,t,rfl,hF',hT'⟩:=hv
   exact ho.ok _ r' a4 w4 he (hp03.trans (hp4.mono (by omega) (by omega))) hrd4 (hev2.trans (hev4.mono fun t ht=>by rw [hsz];exact zn_ext ht)) fun X hX hS=>⟨vs,t,rfl,far_trans hF' hk2.size X hX hS,far_trans hT' hk2.size X hX hS⟩
  ·exact ho.err he a4 w4 (hp03.trans (hp4.mono (by omega) (by omega))) hif (hev2.keeps.trans hk4)
  ·exact ho.go he
 ·cases hdf
theorem ty_opt (En:Env P g av fl D) {q:Nat} {toff:Option Nat} {fs:Fds} (hst:RdSt P g av fl D fs):RdTy P g av fl D (.struct (some q) toff fs):=by
 intro nm cx fx ver S R B O r m k0 n T off old K E a w te hok hrc hc hfl hk hks hn hb hold ho
 simp only [okTy,Bool.and_eq_true,decide_eq_true_eq,beq_iff_eq] at hok
 obtain ⟨⟨⟨⟨⟨hsl,hT⟩,hF⟩,hi8⟩,hdf⟩,hokst⟩:=hok
 subst hT
 replace hF:=fldB_ok hF
 split at hdf
 ·rename_i z wr hz hwr
  simp only [Bool.and_eq_true,decide_eq_true_eq,List.all_eq_true] at hdf
  obtain ⟨⟨⟨hwb,hzf⟩,hzt⟩,hext⟩:=hdf
  obtain ⟨hEnt,hDf⟩:=En.df _ _ hwr
  have hRw:R < w.heap.size:=hrc.rd.lt
  have hBw:B < w.heap.size:=hb.lt
  have hle:=hc.le
  have h66:=hc.six
  have hnul:old.isNul=true:=by
   cases h:old.isNul with
   | true=>rfl
   | false=>exact absurd (by simp only [zq_,h];rfl) ho.go
  have hcell:w.cell? ⟨B,O + off,none⟩=some (.pointer none):=by
   rcases hold with ⟨h,_⟩ | ⟨p,q,vs,t,_,_,_,h,_⟩
   ·exact h
   ·rw [h] at hnul;cases hnul
  have hrs:zq_ fx ver (.struct (some q) toff fs) old r=(if (rI 1 r).1=-1 \/ (rI 1 r).2.bad=true then .ok .nul (rI 1 r).2 else jb_ fx fs.tagged (rdFds fx ver fs) (rdTag fx ver fs) (rI 1 r).2):=by
   simp only [zq_,hnul];rfl
  rw [hrs] at ho
  have hn':(gL (gStOf g { cx with s:=nm.n 4 } fs.tagged (nm.n 6) (nm.n 7) (nm.sub 0) (gFds g { cx with s:=nm.n 4 } fs (nm.sub 0).s) (gTagd g { cx with s:=nm.n 4 } fs (nm.sub 0).s)) (n + 6 + 4 + 4 + 2 + 1)).2<=a.tmps.size:=by
   have h:=hn
   simp only [gTy,gL,gPresent,gS,gIf] at h
   rw [qx_] at h
   exact h
  have hup:=up_gStOf (g:=g) (cx:={ cx with s:=nm.n 4 }) (tagged:=fs.tagged) (T:=nm.n 6) (kt:=nm.n 7) (m:=nm.sub 0) (up_gFds g fs (nm.sub 0).s { cx with s:=nm.n 4 }) (up_gTagd g fs (nm.sub 0).s { cx with s:=nm.n 4 }) (n + 6 + 4 + 4 + 2 + 1)
  simp only [gTy]
  refine qc_ ?_
  rw [qr_]
  refine s_present (m:=m) (k0:=k0) En.kb hi8.1 hi8.2 hrc hc ⟨hsl.2.2.1,by omega⟩ hk (by omega) (fun hne hbad a1 w1 hp1 hrd1 hk1=>?_) (fun hno a1 w1 hp1 hrd1 hk1=>q0_ ?_)
  ·have hs1:=hp1.size
   rw [if_neg (by rw [hbad];simp [hne])] at ho
   have hrc1:RC g cx fx ver S R B O (rI 1 r).2 a1 w1:=hrc.step hc hp1 hrd1 hk1 (fun _ _ h=>.inl h)
   have hsz1:=hk1.size
   obtain ⟨cur,hcu,hcus⟩:=hb
   replace hcus:O + off + 1<=cur.size:=hcus
   have hcu1:w1.heap[B]?=some (.cells cur te (0,0)):=by rw [hk1.block B hBw hrc.BR];exact hcu
   refine .mono (Q:=Rt (LW P [] _ (Rt K E)) E) (R:=Rt K E) (q2_ ?_) fun e a w hq=>by cases e <;> first | exact q0_ hq | exact hq
   show LW P (gNew cx.s (nm.n 1) (nm.n 2) (nm.n 3) (nm.n 9) :: zg_ cx.s (nm.n 0) (nm.n 1) (nm.n 2) (nm.n 3) :: zi_ (nm.n 0) (nm.n 5) :: jf_ (nm.n 0) (nm.n 4) :: gStOf g { cx with s:=nm.n 4 } fs.tagged (nm.n 6) (nm.n 7) (nm.sub 0) (gFds g { cx with s:=nm.n 4 } fs (nm.sub 0).s) (gTagd g { cx with s:=nm.n 4 } fs (nm.sub 0).s)) (n + 6) (Rt K E) a1 w1
   refine qc_ (s_new (x:=6) (m:=m) (k0:=k0) (B:=B) (O:=O) (cur:=cur) (te:=te) hrc1.ss hF (zeroOf_ok hz) hcu1 (by omega) hle (by omega) (by omega) fun a2 hp2 hsame2=>?_)
   have hs2:=hp2.size
   rw [show (gNew cx.s (nm.n 1) (nm.n 2) (nm.n 3) (nm.n 9) (n + 6)).2=n + 6 + 4 from rfl]
   have hpS:w1.heap.size ≠ S:=by have:=hrc.Slt;omega
   have hkA:Keeps (fun _=>False) w1 (w1.alloc (.cells z.cells (nm.n 9) (0,0))):=Keeps.alloc _ _ _
   have hBA:(w1.alloc (.cells z.cells (nm.n 9) (0,0))).heap[B]?=some (.cells cur te (0,0)):=by rw [q4_ (by omega)];exact hcu1
   have hB2:((w1.alloc (.cells z.cells (nm.n 9) (0,0))).setRow B (qt_ cur (O + off) [pt w1.heap.size 0])).heap[B]?=some (.cells (qt_ cur (O + off) [pt w1.heap.size 0]) te (0,0)):=setRow_heap _ _ _ _ _ _ hBA
   have hp2':((w1.alloc (.cells z.cells (nm.n 9) (0,0))).setRow B (qt_ cur (O + off) [pt w1.heap.size 0])).heap[w1.heap.size]?=some (.cells z.cells (nm.n 9) (0,0)):=by
    rw [setRow_other _ _ _ _ (by omega)];exact heap_alloc_new _ _
   have hev2:Evo R B (fun j=>O + off<=j/\j < O + off + 1) w1 ((w1.alloc (.cells z.cells (nm.n 9) (0,0))).setRow B (qt_ cur (O + off) [pt w1.heap.size 0])):=
    (Evo.of_keeps hkA (fun _ _ h=>h.elim) hrc.BR).trans (Evo.store hBA (by simpa using hcus) (fun j ha hb=>⟨ha,by simpa using hb⟩))
   have hkAB:Keeps (·=B) w1 ((w1.alloc (.cells z.cells (nm.n 9) (0,0))).setRow B (qt_ cur (O + off) [pt w1.heap.size 0])):=(hkA.mono fun _ _ h=>h.elim).trans (Keeps.setRow _ _ _ _ rfl)
   have hcell2:((w1.alloc (.cells z.cells (nm.n 9) (0,0))).setRow B (qt_ cur (O + off) [pt w1.heap.size 0])).cell? ⟨B,O + off,none⟩=some (pt w1.heap.size 0):=by
    rw [cell_setRow_same _ _ _ _ _ _ _ hBA]
    have:=jw_ (cur:=cur) (o:=O + off) (vs:=[pt w1.heap.size 0]) (by simpa using hcus) 0 (by simp)
    simpa using this
   have hsz2:((w1.alloc (.cells z.cells (nm.n 9) (0,0))).setRow B (qt_ cur (O + off) [pt w1.heap.size 0])).heap.size=w1.heap.size + 1:=by simp
   generalize hw2:(w1.alloc (.cells z.cells (nm.n 9) (0,0))).setRow B (qt_ cur (O + off) [pt w1.heap.size 0])=w2 at *
   generalize hp0:w1.heap.size=p at *
   have hp02:Pv 6 m k0 n a a2:=hp1.trans (hp2.mono (Nat.le_refl _) (by omega))
   have hss2:a2.get cx.s=pt B O:=(hp02.get _ hc.s.2 (.inl hc.s.1)).trans hrc.ss
   refine qc_ (s_load (x:=6) (m:=m) (k0:=k0) (O:=O) hss2 hF hcell2 (.inr ⟨hsl.1,by omega⟩) hle (by omega) (by omega) (by omega) fun a3 hp3 hg3=>?_)
   have hs3:=hp3.size
   rw [show (zg_ cx.s (nm.n 0) (nm.n 1) (nm.n 2) (nm.n 3) (n + 6 + 4)).2=n + 6 + 4 + 4 from rfl]
   refine qc_ (s_default (x:=6) (m:=m) (k0:=k0) (B:=p) (O:=0) (cur:=z.cells) (te:=nm.n 9) hEnt hDf hg3 hp2' (fun q hq=>by have:=hwb q hq;omega) hle (by omega) (by omega) fun a4 w4 hp4 hsame4 hk4 hB4=>?_)
   have hs4:=hp4.size
   have hg4:a4.get (nm.n 0)=pt p 0:=(hsame4 _ (by omega)).trans hg3
   rw [show (zi_ (nm.n 0) (nm.n 5) (n + 6 + 4 + 4)).2=n + 6 + 4 + 4 + 2 from rfl]
   refine qc_ (s_move (x:=6) (m:=m) (k0:=k0) (.inr ⟨hsl.2.1,by omega⟩) hle (by omega) (by omega) (by omega) fun a5 hp5 hg5=>?_)
   rw [show (jf_ (nm.n 0) (nm.n 4) (n + 6 + 4 + 4 + 2)).2=n + 6 + 4 + 4 + 2 + 1 from rfl]
   have hs5:=hp5.size
   have hp05:Pv 6 m k0 n a a5:=((hp02.trans (hp3.mono (Nat.le_refl _) (by omega))).trans (hp4.mono (Nat.le_refl _) (by omega))).trans (hp5.mono (Nat.le_refl _) (by omega))
   have hsz4:=hk4.size
   have hBp:B ≠ p:=by omega
   have hrd2:RdS w2 g.tR S R (rI 1 r).2:=hrd1.keep hkAB (fun h=>hrc.BS h.symm) (fun h=>hrc.BR h.symm)
   have hrd4:RdS w4 g.tR S R (rI 1 r).2:=hrd2.keep hk4 (fun h=>by omega) (fun h=>by omega)
   obtain ⟨t',x',he'⟩:=hrc.err
   have hgl:=j2_ he'
   have herr1:w1.cell? ⟨g.gErr,0,none⟩=some (.iface t' x'):=hk1.cell hrc.gR he'
   have herr2:w2.cell? ⟨g.gErr,0,none⟩=some (.iface t' x'):=hkAB.cell hrc.gB herr1
   have herr4:ErrAt g.gErr w4:=⟨t',x',hk4.cell (by omega) herr2⟩
   have hrc5:RC g { cx with s:=nm.n 4 } fx ver S R p 0 (rI 1 r).2 a5 w4:=
    ⟨hrd4,(hp05.get _ hc.b.2 (.inl hc.b.1)).trans hrc.sb,hg5.trans hg4,(hp05.get _ hc.ver.2 (.inl hc.ver.1)).trans hrc.sv,fun hf=>(hp05.get _ hc.fx.2 (.inl hc.fx.1)).trans (hrc.sf hf),hrc.nf,(hp05.get 2 (by omega) (.inl (by omega))).trans hrc.su,herr4,hrc.SR,by omega,hpS,hrc.gR,by omega,
     by have:=hrc.Slt;omega⟩
   have hm1:nm.n 0 < max (nm.n 0) (nm.n 4) + 1/\nm.n 4 < max (nm.n 0) (nm.n 4) + 1/\max (nm.n 0) (nm.n 4) + 1<=k0:=by omega
   have hc5:CxOk { cx with s:=nm.n 4 } (max (nm.n 0) (nm.n 4) + 1) k0:=
    ⟨⟨by have:=hc.b;simp only;omega,hc.b.2⟩,⟨hm1.2.1,by simp only;omega⟩,⟨by have:=hc.ver;simp only;omega,hc.ver.2⟩,⟨by have:=hc.fx;simp only;omega,hc.fx.2⟩,by omega,hm1.2.2⟩
   have hZ4:=hasZ_default (O:=0) (cur:=z.cells) (z:=z.cells) (fun j _=>by rw [Nat.zero_add]) (by omega) hwb hB4
   have hkw4:Keeps (fun k=>k=R \/ k=B) w w4:=
    ⟨hk4.os.trans (hkAB.os.trans hk1.os),hk4.tape.trans (hkAB.tape.trans hk1.tape),hk4.output.trans (hkAB.output.trans hk1.output),by omega,fun q hq hx=>by
     rw [hk4.block q (by omega) (by omega),hkAB.block q (by omega) (fun h=>hx (.inr h)),hk1.block q hq (fun h=>hx (.inl h))]⟩
   have hB4':w4.heap[B]?=some (.cells (qt_ cur (O + off) [pt p 0]) te (0,0)):=by rw [hk4.block B (by omega) hBp];exact hB2
   have hsz0:w.heap.size<=p:=hsz1
   refine hst (nm.sub 0) { cx with s:=nm.n 4 } fx ver S R p 0 (rI 1 r).2 (max (nm.n 0) (nm.n 4) + 1) k0 (n + 6 + 4 + 4 + 2 + 1) (nm.n 6) (nm.n 7) toff K E a5 w4 (nm.n 9) hokst hrc5 hc5 hfl (by omega) (by omega) (by omega) ⟨_,hB4,by rw [j8_];omega⟩ ?_
    ⟨fun v r' a6 w6 he hp6 hrd6 hev6 hv=>?_,fun he a6 w6 hp6 hif hk6=>?_,fun he=>?_⟩
   ·refine .inr ⟨fun X=>zFds_ok hZ4 X fs 0 hzf,?_⟩
    cases toff with
    | none=>trivial
    | some o=>exact hZ4.one hzt
   ·obtain ⟨vs,t,rfl,hF',hT'⟩:=hv
    have hBR:=hrc.BR
    have hB6:w6.heap[B]?=some (.cells (qt_ cur (O + off) [pt p 0]) te (0,0)):=by
     rw [hev6.keeps.block B (by omega) (fun h=>by rcases h with h | h;exact hBR h;exact hBp h)];exact hB4'
    have hsz6:=hev6.keeps.size
    refine ho.ok _ r' a6 w6 he (hp05.trans (hp6.mono (by omega) (by omega))) hrd6 ⟨hkw4.inner hev6.keeps hsz0,fun cs te' hcs=>?_⟩ fun X hX hS=>.inr ⟨p,0,vs,t,?_,fun hXp=>?_,by omega,rfl,?_,?_⟩
    ·rw [hcu] at hcs
     obtain ⟨rfl,rfl,_⟩:=Obj.cells.inj (Option.some.inj hcs)
     refine ⟨_,hB6,z9_ (by simpa using hcus),fun j hj=>zn_ (by simpa using hcus) j ?_⟩
     simp only [Ty.sz] at hj
     simp only [List.length_cons,List.length_nil]
     omega
    ·have:=jw_ (cur:=cur) (o:=O + off) (vs:=[pt p 0]) (by simpa using hcus) 0 (by simp)
     simp only [World.cell?,hB6]
     simpa [pt] using this
    ·have:=hX p hXp
     omega
    ·exact far_trans hF' hkw4.size X hX hS
    ·exact far_trans hT' hkw4.size X hX hS
   ·exact ho.err he a6 w6 (hp05.trans (hp6.mono (by omega) (by omega))) hif (hkw4.inner hk6 hsz0)
   ·exact ho.go he
  ·refine ho.ok .nul _ a1 w1 (by rw [if_pos hno]) hp1 hrd1 (Evo.of_keeps hk1 (fun _ _ h=>h) hrc.BR) fun X hX hS=>.inl ⟨?_,rfl⟩
   exact hk1.cell hrc.BR hcell
 ·cases hdf
theorem okEl_sz {e:Ty} {hf:Bool} {m k0 esz:Nat} {z:Array Value} {nm:Nm} (h:okEl ⟨P,g,av,D⟩ hf m k0 esz z e nm=true):e.sz<=esz:=by
 cases e with
 | prim p=>simp only [okEl,Bool.and_eq_true,beq_iff_eq] at h;omega
 | str nul=>simp only [okEl,Bool.and_eq_true,beq_iff_eq] at h;simp only [Ty.sz];omega
 | bytes nul=>simp only [okEl,Bool.and_eq_true,beq_iff_eq] at h;simp only [Ty.sz];omega
 | list nul sz e=>simp [okEl] at h
 | struct nul toff fs=>
  cases nul with
  | some q=>simp [okEl] at h
  | none=>
   simp only [okEl,Bool.and_eq_true] at h
   obtain ⟨⟨_,h⟩,_⟩:=h
   split at h
   ·simp only [Bool.and_eq_true,decide_eq_true_eq] at h
    exact h.2
   ·cases h
mutual
theorem rd_ty (En:Env P g av fl D):∀ ty:Ty,RdTy P g av fl D ty
 | .prim p=>ty_prim En.kb p
 | .str nul=>ty_str En.kb nul
 | .bytes nul=>ty_bytes En.kb nul
 | .list _ _ e=>ty_list En.kb (rd_el En e) (fun _ _ _ _ _ h=>okEl_sz h)
 | .struct none _ fs=>ty_inl En (st_of En.kb (rd_fds En fs) (rd_case En fs))
 | .struct (some _) _ fs=>ty_opt En (st_of En.kb (rd_fds En fs) (rd_case En fs))
theorem rd_el (En:Env P g av fl D):∀ ty:Ty,RdEl P g av fl D ty
 | .prim _=>el_leaf En.kb rfl
 | .str _=>el_leaf En.kb rfl
 | .bytes _=>el_leaf En.kb rfl
 | .list _ _ _=>fun _ _ _ _ _ _ _ _ _ _ _ _ _ _ _ _ _ _ _ _ _ _ _ _ _ _ _ _ h=>by simp [okEl] at h
 | .struct none _ fs=>el_struct En (st_of En.kb (rd_fds En fs) (rd_case En fs))
 | .struct (some _) _ _=>fun _ _ _ _ _ _ _ _ _ _ _ _ _ _ _ _ _ _ _ _ _ _ _ _ _ _ _ _ h=>by simp [okEl] at h
theorem rd_fds (En:Env P g av fl D):∀ fs:Fds,RdFds P g av fl D fs
 | .nil=>fds_nil
 | .cons _ _ _ _ _ ty r=>fds_cons (rd_ty En ty) (rd_fds En r)
theorem rd_case (En:Env P g av fl D):∀ fs:Fds,RdCase P g av fl D fs
 | .nil=>case_nil
 | .cons _ _ _ _ _ ty r=>case_cons En.kb (rd_ty En ty) (rd_case En r)
end
end
def rdLs (fx:Bool) (ver:Int) (esz:Nat) (e:Ty) (old:V) (r:RS):Out V:=
 if (j0_ fx r).2.bad then .err else
 if !roomy (j0_ fx r).1 esz then .stuck else
 if (j0_ fx r).1<=0 then .ok (if old.isNul then .nul else .l []) (j0_ fx r).2
 else (xb_ (zq_ fx ver e (dfTy 0 e)) (j0_ fx r).1.toNat (j0_ fx r).2).bind fun vs r=>.ok (.l vs) r
def Fds.lst:Fds->Option (Nat × Nat × Nat × Ty)
 | .nil=>none
 | .cons _ _ none _ _ _ r=>r.lst
 | .cons _ _ (some t) _ off (.list none esz e) .nil=>some (t,off,esz,e)
 | .cons _ _ (some _) _ _ _ _=>none
def Fds.front:Fds->Fds
 | .nil=>.nil
 | .cons lo hi none df off ty r=>.cons lo hi none df off ty r.front
 | .cons _ _ (some _) _ _ _ _=>.nil
def Fds.lastM:Fds->List Nm->Nm
 | .nil,_=>.mk [] []
 | .cons _ _ none _ _ _ r,ms=>r.lastM ms.tail
 | .cons _ _ (some _) _ _ _ _,ms=>ms.headD (.mk [] [])
def rdTagL (fx:Bool) (ver:Int) (t esz:Nat) (e:Ty) (k:Nat):Option (List V->RS->Out (List V)):=
 if k=t then some fun vs r=>(rdLs fx ver esz e (vs.getLastD .nul) r).bind fun v r=>.ok (vs.dropLast++[v]) r else none
def rdTagR (fx:Bool) (ver:Int) (fs:Fds):Nat->Option (List V->RS->Out (List V)):=
 match fs.lst with
 | some (t,_,esz,e)=>rdTagL fx ver t esz e
 | none=>rdTag fx ver fs
section
variable {t off esz:Nat} {e:Ty}
theorem lst_ind {M:Fds->Prop} (h0:∀ lo hi df,M (.cons lo hi (some t) df off (.list none esz e) .nil)) (h1:∀ lo hi df o ty r,r.lst=some (t,off,esz,e)->M r->M (.cons lo hi none df o ty r)):∀ fs:Fds,fs.lst=some (t,off,esz,e)->M fs
 | .nil,h=>by cases h
 | .cons lo hi none df o ty r,h=>h1 lo hi df o ty r h (lst_ind h0 h1 r h)
 | .cons lo hi (some t') df o ty r,h=>by
  unfold Fds.lst at h
  split at h
  ·cases h
  ·rename_i he
   cases he
  ·rename_i he
   cases he
   obtain ⟨rfl,rfl,rfl,rfl⟩:t'=t/\o=off/\_=esz/\_=e:=by simpa using h
   exact h0 lo hi df
  ·cases h
theorem lst_tagged {fs:Fds} (h:fs.lst=some (t,off,esz,e)):fs.tagged=true:=
 lst_ind (M:=fun fs=>fs.tagged=true) (fun _ _ _=>rfl) (fun _ _ _ _ _ r _ ih=>by simp [Fds.tagged,ih]) fs h
theorem lst_ext {fs:Fds} (h:fs.lst=some (t,off,esz,e)):∀ m,off + 1<=fs.ext m:=
 lst_ind (M:=fun fs=>∀ m,off + 1<=fs.ext m) (fun _ _ _ m=>Nat.le_max_right m (off + 1)) (fun _ _ _ _ _ _ _ ih _=>ih _) fs h
theorem lst_in {fs:Fds} (h:fs.lst=some (t,off,esz,e)):∀ O j,(O + off<=j/\j < O + off + 1)->fs.In O j:=
 lst_ind (M:=fun fs=>∀ O j,(O + off<=j/\j < O + off + 1)->fs.In O j) (fun _ _ _ _ _ h=>.inl h) (fun _ _ _ _ _ _ _ ih O j h=>.inr (ih O j h)) fs h
theorem front_in {fs:Fds} (h:fs.lst=some (t,off,esz,e)):∀ O j,fs.front.In O j->fs.In O j:=
 lst_ind (M:=fun fs=>∀ O j,fs.front.In O j->fs.In O j) (fun _ _ _ _ _ h=>h.elim) (fun _ _ _ _ _ _ _ ih O j h=>h.elim .inl fun h=>.inr (ih O j h)) fs h
theorem lst_offBy {fs:Fds} (h:fs.lst=some (t,off,esz,e)):∀ lo hi,offBy fs lo hi=true->off + 1<=lo \/ hi<=off:=
 lst_ind (M:=fun fs=>∀ lo hi,offBy fs lo hi=true->off + 1<=lo \/ hi<=off) (fun _ _ _ lo hi h=>by simp only [offBy,Ty.sz,Bool.and_true,Bool.or_eq_true,decide_eq_true_eq] at h;exact h.elim (fun h=>.inl (of_decide_eq_true h)) .inr)
  (fun _ _ _ _ _ r _ ih lo hi h=>by simp only [offBy,Bool.and_eq_true] at h;exact ih lo hi h.2) fs h
theorem front_off {fs:Fds} (h:fs.lst=some (t,off,esz,e)):disjF fs=true->∀ O j,fs.front.In O j->¬ (O + off<=j/\j < O + off + 1):=
 lst_ind (M:=fun fs=>disjF fs=true->∀ O j,fs.front.In O j->¬ (O + off<=j/\j < O + off + 1)) (fun _ _ _ _ _ _ h=>h.elim)
  (fun _ _ _ o ty r hr ih hd O j h=>by
   simp only [disjF,Bool.and_eq_true] at hd
   rcases h with h | h
   ·have:=lst_offBy hr _ _ hd.1
    omega
   ·exact ih hd.2 O j h) fs h
theorem lst_rpF {w:World} {X:Nat->Prop} {b o:Nat} {fs:Fds} (h:fs.lst=some (t,off,esz,e)):∀ vs,RpF w X fs b o vs ↔ ∃ us v,vs=us++[v]/\RpF w X fs.front b o us/\Rp w X (.list none esz e) b (o + off) v:=
 lst_ind (M:=fun fs=>∀ vs,RpF w X fs b o vs ↔ ∃ us v,vs=us++[v]/\RpF w X fs.front b o us/\Rp w X (.list none esz e) b (o + off) v)
  (fun _ _ _ vs=>⟨fun ⟨v,vs',h1,h2,h3⟩=>⟨[],v,by rw [h1,show vs'=[] from h3];rfl,rfl,h2⟩,fun ⟨us,v,h1,h2,h3⟩=>⟨v,[],by rw [h1,show us=[] from h2];rfl,h3,rfl⟩⟩)
  (fun _ _ _ _ _ r _ ih vs=>⟨fun ⟨v,vs',h1,h2,h3⟩=>by
   obtain ⟨us,u,h4,h5,h6⟩:=(ih vs').1 h3
   exact ⟨v :: us,u,by rw [h1,h4];rfl,⟨v,us,rfl,h2,h5⟩,h6⟩,fun ⟨us,u,h1,h2,h3⟩=>by
   obtain ⟨v,us',h4,h5,h6⟩:=h2
   exact ⟨v,us'++[u],by rw [h1,h4];rfl,h5,(ih _).2 ⟨us',u,rfl,h6,h3⟩⟩⟩) fs h
theorem lst_read {fx:Bool} {ver:Int} {fs:Fds} (h:fs.lst=some (t,off,esz,e)):∀ r vs r',rdFds fx ver fs r=.ok vs r'->∃ us,vs=us++[.nul]:=
 lst_ind (M:=fun fs=>∀ r vs r',rdFds fx ver fs r=.ok vs r'->∃ us,vs=us++[.nul])
  (fun _ _ _ r vs r' h=>by
   simp only [rdFds,Option.isNone_some,Bool.false_and,Bool.false_eq_true,if_false,Out.bind,dfTy,Out.ok.injEq] at h
   exact ⟨[],h.1.symm⟩)
  (fun lo hi df o ty r0 _ ih r vs r' h=>by
   simp only [rdFds] at h
   split at h
   ·cases h1:zq_ fx ver ty (dfTy df ty) r with
    | ok v r1=>
     rw [h1] at h
     simp only [Out.bind] at h
     cases h2:rdFds fx ver r0 r1 with
     | ok vs' r2=>
      rw [h2] at h
      simp only [Out.ok.injEq] at h
      obtain ⟨us,hu⟩:=ih _ _ _ h2
      exact ⟨v :: us,by rw [<- h.1,hu];rfl⟩
     | err=>rw [h2] at h;cases h
     | stuck=>rw [h2] at h;cases h
    | err=>rw [h1] at h;cases h
    | stuck=>rw [h1] at h;cases h
   ·cases h2:rdFds fx ver r0 r with
    | ok vs' r2=>
     rw [h2] at h
     simp only [Out.bind,Out.ok.injEq] at h
     obtain ⟨us,hu⟩:=ih _ _ _ h2
     exact ⟨_ :: us,by rw [<- h.1,hu];rfl⟩
    | err=>rw [h2] at h;cases h
    | stuck=>rw [h2] at h;cases h) fs h
theorem lst_case {g:G} {cx:Cx} {fs:Fds} (h:fs.lst=some (t,off,esz,e)):∀ ms,gTagd g cx fs ms=[(t,gS ([gInner g cx.b ((fs.lastM ms).n 0)]++gTy g { cx with b:=(fs.lastM ms).n 0 } (.list none esz e) ((fs.lastM ms).sub 0)++[gErrChk g ((fs.lastM ms).n 0) ((fs.lastM ms).n 1)]))]:=
 lst_ind (M:=fun fs=>∀ ms,gTagd g cx fs ms=[(t,gS ([gInner g cx.b ((fs.lastM ms).n 0)]++gTy g { cx with b:=(fs.lastM ms).n 0 } (.list none esz e) ((fs.lastM ms).sub 0)++[gErrChk g ((fs.lastM ms).n 0) ((fs.lastM ms).n 1)]))])
  (fun _ _ _ ms=>by simp only [gTagd,Fds.lastM]) (fun _ _ _ _ _ r _ ih ms=>by simp only [gTagd,Fds.lastM,ih ms.tail]) fs h
theorem lst_ok {E:Ev} {m k0 T:Nat} {fs:Fds} (h:fs.lst=some (t,off,esz,e)):∀ ms,okTagd E m k0 T fs ms=true->t < 4294967296/\(m<=(fs.lastM ms).n 0/\(fs.lastM ms).n 0 < k0/\m<=(fs.lastM ms).n 1/\(fs.lastM ms).n 1 < k0) /\
  okTy E true ((fs.lastM ms).n 0 + 1) k0 T off (.list none esz e) ((fs.lastM ms).sub 0)=true:=
 lst_ind (M:=fun fs=>∀ ms,okTagd E m k0 T fs ms=true->t < 4294967296/\(m<=(fs.lastM ms).n 0/\(fs.lastM ms).n 0 < k0/\m<=(fs.lastM ms).n 1/\(fs.lastM ms).n 1 < k0) /\
   okTy E true ((fs.lastM ms).n 0 + 1) k0 T off (.list none esz e) ((fs.lastM ms).sub 0)=true)
  (fun _ _ _ ms h=>by
   simp only [okTagd,Bool.and_eq_true,decide_eq_true_eq] at h
   exact ⟨h.1.1.1.1,h.1.1.1.2,h.1.2⟩) (fun _ _ _ _ _ r _ ih ms h=>by
   simp only [okTagd,Bool.true_and] at h
   exact ih ms.tail h) fs h
end
theorem zeroCells_at {z:Array Value} {sz n q j:Nat} (hz:z.size=sz) (hq:q < n) (hj:j < sz):(Builtin.zeroCells z n)[q * sz + j]?=z[j]?:=by
 have hlt:q * sz + j < n * sz:=by
  have:(q + 1) * sz<=n * sz:=Nat.mul_le_mul_right _ hq
  rw [Nat.add_mul] at this
  omega
 simp only [Builtin.zeroCells,hz,Array.getElem?_map]
 rw [Array.getElem?_range]
 have hm:(q * sz + j) % sz=j:=by rw [Nat.add_comm,Nat.add_mul_mod_self_right,Nat.mod_eq_of_lt hj]
 simp [hlt,hm,getElem!_pos,hz,hj]
theorem zeroCells_one {z:Array Value} {n:Nat} (h:∀ u ∈ z.toList,u.oneCell'=true):∀ u ∈ (Builtin.zeroCells z n).toList,u.oneCell'=true:=by
 intro u hu
 simp only [Builtin.zeroCells,Array.toList_map,List.mem_map] at hu
 obtain ⟨i,hi,rfl⟩:=hu
 by_cases h0:z.size=0
 ·simp [h0] at hi
 ·have hlt:i % z.size < z.size:=Nat.mod_lt _ (by omega)
  rw [getElem!_pos z _ hlt]
  exact h _ (by simp)
section ops
variable {P:Program} {ops:Array Oper} {Q:Exit->Act->World->Prop} {r:List Oper} {a:Act} {w:World}
theorem wl_growRow {d:Option Nat} {x y:Operand} {F E I ty:TypeId} {z:Value} {l bytes p c:Nat} {cur:Array Value} (hx:a.eval x=.slice (some ⟨p,0,none⟩) 0 c) (hy:a.eval y=.int .i32 l) (hl:0 < l) (hF:P.underlying F=some (.slice E)) (hI:P.underlying I=some (.int .i32))
  {i:TypeInfo} (hE:P.info? E=some i) (hz:i.zero=some z) (hsz:z.cells.size=i.size) (hpos:0 < i.size) (hb:i.bytes=bytes) (hroom:l * bytes<=140737488355328) (hl31:l < 2147483648)
  (hB:w.heap[p]?=some (.cells cur E (0,0))) (hcs:cur.size=c * i.size) (hone:∀ u ∈ z.cells.toList,u.oneCell'=true)
  (hin:l<=c->wpList P ops Q r (a.put d (.slice (some ⟨p,0,none⟩) l c)) (w.setRow p (qt_ cur 0 (Builtin.zeroCells z.cells l).toList)))
  (hnew:c < l->∀ (c':Nat) (cs:Array Value),l<=c'->c'<=maxLen->cs.size=c' * i.size->(∀ q j,q < l->j < i.size->cs[q * i.size + j]?=z.cells[j]?) ->
   wpList P ops Q r (a.put d (.slice (some ⟨w.heap.size,0,none⟩) l c')) (w.drew.alloc (.cells cs E (0,0)))) :
  wpList P ops Q (⟨d, .call ⟨.builtin .append, #[x, y], #[F, I]⟩, ty, "", #[], none⟩ :: r) a w := by
 have hw : Region.wanted ⟨d, .call ⟨.builtin .append, #[x, y], #[F, I]⟩, ty, "", #[], none⟩ (yielded ops a.tmps) = true := by simp [Region.wanted]
 unfold wpList
 rw [if_pos hw]
 refine .inl ?_
 unfold Oper.wp
 have hwl:IntKind.i64.wrap (l:Int)=l:=by simp [IntKind.wrap,IntKind.bits,IntKind.signed];omega
 have h1:¬ (281474976710656 < (l:Int) * (i.bytes:Int)):=by rw [hb,<- Int.natCast_mul];omega
 have h63':¬ (9223372036854775807 < (l:Int)):=by omega
 have hl0:l ≠ 0:=by omega
 have hi0:i.size ≠ 0:=by omega
 have hneg:¬ ((l:Int) < 0):=by omega
 have hli:l * i.size ≠ 0:=Nat.mul_ne_zero hl0 hi0
 have hsz2:(Builtin.zeroCells z.cells l).size=l * i.size:=by rw [size_zeroCells,hsz]
 by_cases hlc:l<=c
 ·have hfit:l * i.size<=c * i.size:=Nat.mul_le_mul_right _ hlc
  have hst:=run_storeCells_at P p 0 E (Builtin.zeroCells z.cells l).toList 0 cur w hB (by rw [Array.length_toList,hsz2];omega) (zeroCells_one hone)
  simp only [Nat.add_zero] at hst
  have hrun : (execOp a.eval ⟨d, .call ⟨.builtin .append, #[x, y], #[F, I]⟩, ty, "", #[], none⟩).run P w =
    .ok (.value (.slice (some ⟨p,0,none⟩) l c)) (w.setRow p (qt_ cur 0 (Builtin.zeroCells z.cells l).toList)):=by
   simp [execOp,resolve,invoke,builtin,hx,hy,Builtin.append_,run_underlying hF,run_underlying hI,sizeOf,typeInfo,zeroValue,hE,hz,asInt,asIntOf,hwl,h1,hneg,hli,hlc,Addr.add_lit,hst,qt_]
  rw [hrun]
  exact hin hlc
 ·have hcl:c < l:=by omega
  have hcap:=grownCap_ge w l c E
  have hcapm:=grownCap_le_maxLen w l c E (by simp only [maxLen];omega)
  have h48':¬ (281474976710656 < Builtin.nextslicecap l c * i.bytes):=by
   have:=growslice_fits (bytes:=i.bytes) hcl (by rw [hb];omega)
   omega
  have hrun : (execOp a.eval ⟨d, .call ⟨.builtin .append, #[x, y], #[F, I]⟩, ty, "", #[], none⟩).run P w =
    .ok (.value (.slice (some ⟨w.heap.size,0,none⟩) l (grownCap w l c E))) (w.drew.alloc (.cells (Builtin.zeroCells z.cells l++Builtin.zeroCells z.cells (grownCap w l c E - l)) E)):=by
   simp [execOp,resolve,invoke,builtin,hx,hy,Builtin.append_,run_underlying hF,run_underlying hI,sizeOf,typeInfo,zeroValue,hE,hz,asInt,asIntOf,hwl,h1,h63',h48',hneg,hli,hlc,Question.forced,Builtin.firstCells,loadCells,loadCellsFrom,newRow,grownCap]
  rw [hrun]
  refine hnew hcl (grownCap w l c E) _ hcap hcapm ?_ ?_
  ·simp only [Array.size_append,size_zeroCells,hsz,<- Nat.add_mul]
   congr 1
   omega
  ·intro q j hq hj
   have hlt:q * i.size + j < l * i.size:=by
    have:(q + 1) * i.size<=l * i.size:=Nat.mul_le_mul_right _ hq
    rw [Nat.add_mul] at this
    omega
   rw [Array.getElem?_append_left (by rw [size_zeroCells,hsz];exact hlt)]
   exact zeroCells_at hsz hq hj
end ops
section
variable {P:Program} {g:G} {av:PF->Bool} {fl:Bool} {x m k0 n:Nat} {K:Act->World->Prop} {Q:Exit->Act->World->Prop} {a:Act} {w:World}
theorem s_slN {y F E' n0 c:Nat} {base:Option Addr} {sz:Nat} (hy:a.get y=.slice base n0 c) (hF:P.underlying F=some (.slice E')) (hs:∀ w,(sizeOf E').run P w=.ok sz w) (hy1:y=x \/ (m<=y/\y < k0)) (hm:m<=k0) (hk:k0<=n) (hn:n + 2<=a.tmps.size) (hys:y < a.tmps.size)
  (h:∀ a',Pv x m k0 n a a'->a'.get y=.slice base 0 c->K a' w):NWP P (gSl0 y F n).1 (Exit.then K Q) a w:=by
 refine qj_ (qd_ ?_)
 rw [qb_,hy]
 refine wl_slice0 (by rw [qb_,gpe (by omega)]) hF (hs w) (qg_ (wpList_nil ?_))
 rw [qb_,gpe (by rw [qa_];omega)]
 exact h _ ((((Pv.refl _ _ _ _ _).put _ (by omega)).put _ (by omega)).put _ (by omega)) (gpe (by simp only [qa_];omega))
def RowV (E' sz:Nat) (w:World) (row:Option Nat) (n0:Nat) (v:Value):Prop:=
 (v=.slice none 0 0/\row=none/\n0=0) \/ ∃ (p c:Nat) (cur:Array Value),v=.slice (some ⟨p,0,none⟩) n0 c/\row=some p/\w.heap[p]?=some (.cells cur E' (0,0))/\cur.size=c * sz/\n0<=c/\c<=maxLen
theorem s_growR (K0:KB P g av fl) {y l F E' sz p c:Nat} {z cur:Array Value} {L:Int} (hy:a.get y=.slice (some ⟨p,0,none⟩) 0 c) (hl:a.get l=.int .i32 L) (hF:RowIs P F E' sz z) (hL:L < 2147483648) (hroom:roomy L sz=true)
  (hB:w.heap[p]?=some (.cells cur E' (0,0))) (hcs:cur.size=c * sz) (hone:∀ u ∈ z.toList,u.oneCell'=true)
  (hy1:y=x \/ (m<=y/\y < k0)) (hyn:y < n) (hm:m<=k0) (hln:l < n) (hk:k0<=n) (hn:n + 5<=a.tmps.size)
  (hno:L<=0->∀ a',Pv x m k0 n a a'->a'.get y=.slice (some ⟨p,0,none⟩) 0 c->K a' w)
  (hin:0 < L->∀ (a':Act) (cs:Array Value),Pv x m k0 n a a'->L.toNat<=c->cs.size=c * sz->(∀ q j,q < L.toNat->j < sz->cs[q * sz + j]?=z[j]?)->a'.get y=.slice (some ⟨p,0,none⟩) L.toNat c->K a' (w.setRow p cs))
  (hyes:0 < L->∀ (a':Act) (c':Nat) (cs:Array Value),Pv x m k0 n a a'->L.toNat<=c'->c'<=maxLen->cs.size=c' * sz->(∀ q j,q < L.toNat->j < sz->cs[q * sz + j]?=z[j]?) ->
   a'.get y=.slice (some ⟨w.heap.size,0,none⟩) L.toNat c'->K a' (w.drew.alloc (.cells cs E' (0,0)))):NWP P (gGrow g y l F n).1 (Exit.then K Q) a w:=by
 obtain ⟨i,z',h1,h2,h3,h4,h5,h6,h7,h8⟩:=hF.info
 have htest:∀ (b:Bool) (K':Act->World->Prop),b=decide ((0:Int) < L)->(∀ a',a'.eval (tm (n + 1))=.bool b->Pv x m k0 n a a'->a'.get y=.slice (some ⟨p,0,none⟩) 0 c->a'.get l=.int .i32 L->K' a' w) ->
   wpList P [mk (some n) (.move (tm l)),mk (some (n + 1)) (.binOp .gtr g.tI32 (tm n) (ki .i32 0) 0)].toArray
   (Exit.then K' (Exit.then K Q)) [mk (some n) (.move (tm l)),mk (some (n + 1)) (.binOp .gtr g.tI32 (tm n) (ki .i32 0) 0)] a w:=by
  intro b K' hb hk'
  refine qd_ ?_
  rw [qb_,hl]
  refine q9_ (b:=b) (p:=L) (q:=0) (k:=.i32) (by rw [qb_,gpe (by omega)]) rfl (.inr (.inr (.inr (.inl ⟨rfl,hb⟩)))) (wpList_nil (hk' _ ?_ (((Pv.refl _ _ _ _ _).put _ (by omega)).put _ (by omega)) ?_ ?_))
  ·rw [qb_,gpe (by simp only [qa_];omega)]
  ·rw [gpo (by omega),gpo (by omega)];exact hy
  ·rw [gpo (by omega),gpo (by omega)];exact hl
 by_cases hpos:0 < L
 ·refine z3_ (htest true _ (by simp [hpos]) fun a1 he hp hy' hl'=>⟨he,?_⟩)
  have hs:=hp.size
  refine qj_ (qd_ ?_)
  rw [qb_,hy']
  refine qd_ ?_
  rw [qb_,gpo (by omega),hl']
  have hLn:((L.toNat:Nat):Int)=L:=by omega
  refine wl_growRow (p:=p) (c:=c) (cur:=cur) (z:=z') (l:=L.toNat) (F:=F) (E:=E') (I:=g.tI32) (bytes:=i.bytes) ?_ ?_ (by omega) hF.und K0.tI32 h1 h2 (by rw [h3,h5,h4]) (by omega) rfl ?_ (by omega) hB (by rw [h4];exact hcs) (by rw [h3];exact hone) (fun hlc=>?_) (fun hcl c' cs hc1 hc2 hc3 hc4=>?_)
  ·rw [qb_,gpo (by omega),gpe (by omega)]
  ·rw [qb_,gpe (by rw [qa_];omega),hLn]
  ·simp only [roomy,decide_eq_true_eq] at hroom
   have e:L.toNat * i.bytes<=L.toNat * (24 * sz + 8):=Nat.mul_le_mul_left _ h8
   have e2:((L.toNat * (24 * sz + 8):Nat):Int)=L * (24 * (sz:Int) + 8):=by
    rw [Int.natCast_mul,hLn];rfl
   omega
  ·refine qg_ (wpList_nil ?_)
   rw [qb_,gpe (by simp only [qa_];omega)]
   have hzl:(Builtin.zeroCells z'.cells L.toNat).toList.length=L.toNat * sz:=by rw [Array.length_toList,size_zeroCells,h3,h5]
   have hfit:L.toNat * sz<=c * sz:=Nat.mul_le_mul_right _ hlc
   refine hin hpos _ _ ((((hp.trans (Pv.refl _ _ _ _ _)).put _ (by omega)).put _ (by omega)).put _ (by omega) |>.put _ (by omega)) hlc ?_ (fun q j hq hj=>?_) (gpe (by simp only [qa_];omega))
   ·rw [z9_ (by rw [hzl];omega)];exact hcs
   ·have hlt:q * sz + j < L.toNat * sz:=by
     have:(q + 1) * sz<=L.toNat * sz:=Nat.mul_le_mul_right _ hq
     rw [Nat.add_mul] at this
     omega
    have:=jw_ (cur:=cur) (o:=0) (vs:=(Builtin.zeroCells z'.cells L.toNat).toList) (by rw [hzl];omega) (q * sz + j) (by rw [hzl];exact hlt)
    rw [Nat.zero_add] at this
    rw [this,Array.getElem?_toList,zeroCells_at (by rw [h3,h5]) hq hj,h3]
  ·refine qg_ (wpList_nil ?_)
   rw [qb_,gpe (by simp only [qa_];omega)]
   rw [h4] at hc3 hc4
   rw [h3] at hc4
   refine hyes hpos _ c' cs ((((hp.trans (Pv.refl _ _ _ _ _)).put _ (by omega)).put _ (by omega)).put _ (by omega) |>.put _ (by omega)) hc1 hc2 hc3 hc4 (gpe (by simp only [qa_];omega))
 ·refine z2_ (htest false _ (by simp;omega) fun a1 he hp hy' _=>⟨he,.skip (hno (by omega) a1 hp hy')⟩)
end
def rowOne (P:Program) (F:Nat):Bool:=match rowOf P F with | some (_,_,z)=>z.toList.all Value.oneCell' | none=>false
def RowAt (P:Program) (F:Nat) (w:World) (b o:Nat) (row:Option Nat) (old:V):Prop:=
 (w.cell? ⟨b,o,none⟩=some (.slice none 0 0)/\row=none/\old=.nul) \/
 ∃ (xs:List V) (p c:Nat) (cur:Array Value) (E' sz:Nat) (z:Array Value),w.cell? ⟨b,o,none⟩=some (.slice (some ⟨p,0,none⟩) xs.length c)/\row=some p/\old=.l xs/\w.heap[p]?=some (.cells cur E' (0,0))/\rowOf P F=some (E',sz,z)/\cur.size=c * sz/\xs.length<=c/\c<=maxLen
def ElAt (A:Nat->Prop) (S esz:Nat) (e:Ty) (w:World) (row:Option Nat) (v:V):Prop:=
 ∀ p xs,row=some p->v=.l xs->∀ i x,xs[i]?=some x->FarA (fun k=>A k \/ k=p) S fun X=>Rp w X e p (i * esz) x
structure EvoR (R B:Nat) (row:Option Nat) (Z:Nat->Prop) (w w':World):Prop where
 keeps:Keeps (fun k=>k=R \/ k=B \/ row=some k) w w'
 blk:∀ cs te,w.heap[B]?=some (.cells cs te (0,0))->∃ cs',w'.heap[B]?=some (.cells cs' te (0,0))/\cs'.size=cs.size/\∀ j,¬ Z j->cs'[j]?=cs[j]?
theorem EvoR.trans {R B:Nat} {row:Option Nat} {Z:Nat->Prop} {a b c:World} (h:EvoR R B row Z a b) (k:EvoR R B row Z b c):EvoR R B row Z a c:=
 ⟨h.keeps.trans k.keeps,fun cs te hc=>by
  obtain ⟨c1,h1,h2,h3⟩:=h.blk cs te hc
  obtain ⟨c2,k1,k2,k3⟩:=k.blk c1 te h1
  exact ⟨c2,k1,k2.trans h2,fun j hj=>(k3 j hj).trans (h3 j hj)⟩⟩
theorem Evo.row {R B:Nat} {row:Option Nat} {Z:Nat->Prop} {w w':World} (h:Evo R B Z w w'):EvoR R B row Z w w':=
 ⟨h.keeps.mono fun k _ hk=>by rcases hk with hk | hk;exact .inl hk;exact .inr (.inl hk),h.blk⟩
theorem EvoR.of_keeps {X:Nat->Prop} {R B:Nat} {row:Option Nat} {Z:Nat->Prop} {w w':World} (h:Keeps X w w') (hx:∀ k,k < w.heap.size->X k->k=R \/ row=some k) (hB:B ≠ R) (hBr:row ≠ some B):EvoR R B row Z w w':=
 ⟨h.mono fun k hk hX=>(hx k hk hX).elim .inl fun h=>.inr (.inr h),fun cs te hc=>⟨cs,by
  have hlt:B < w.heap.size:=(Array.getElem?_eq_some_iff.1 hc).1
  rw [h.block B hlt fun hX=>(hx B hlt hX).elim hB hBr];exact hc,rfl,fun _ _=>rfl⟩⟩
theorem EvoR.cell {R B:Nat} {row:Option Nat} {Z:Nat->Prop} {w w':World} (h:EvoR R B row Z w w') {cs:Array Value} {te:TypeId} (hB:w.heap[B]?=some (.cells cs te (0,0))) {j:Nat} (hj:¬ Z j):w'.cell? ⟨B,j,none⟩=w.cell? ⟨B,j,none⟩:=by
 obtain ⟨c1,k1,_,k3⟩:=h.blk cs te hB
 simp [World.cell?,hB,k1,k3 j hj]
section
variable {P:Program} {g:G} {av:PF->Bool} {fl:Bool} {D:Nat->Option (List (Nat × Value))}
theorem ty_listR (K0:KB P g av fl) {esz:Nat} {e:Ty} (hel:RdEl P g av fl D e) (hez:∀ hf m k0 z nm,okEl ⟨P,g,av,D⟩ hf m k0 esz z e nm=true->e.sz<=esz)
  {nm:Nm} {cx:Cx} {ver:Int} {S R B O:Nat} {r:RS} {m k0 n T off:Nat} {old:V} {K E:Act->World->Prop} {a:Act} {w:World} {te:Nat} {row:Option Nat}
  (hok:okTy ⟨P,g,av,D⟩ cx.hf m k0 T off (.list none esz e) nm=true) (h1c:rowOne P (nm.n 3)=true) (hrc:RC g cx true ver S R B O r a w) (hc:CxOk cx m k0) (hfl:cx.hf=true->fl=true) (hk:k0<=n) (hks:k0<=a.tmps.size) (hn:(gL (gTy g cx (.list none esz e) nm) n).2<=a.tmps.size) (hb:Blk w B (O + off + 1) te)
  (hold:RowAt P (nm.n 3) w B (O + off) row old) (hrow':∀ p,row=some p->p ≠ R/\p ≠ S/\p ≠ B/\g.gErr ≠ p)
  (hoK:∀ v r' a' w',rdLs true ver esz e old r=.ok v r'->Pv 6 m k0 n a a'->RdS w' g.tR S R r'->EvoR R B row (fun j=>O + off<=j/\j < O + off + 1) w w' ->
   (∃ row',RowAt P (nm.n 3) w' B (O + off) row' v/\(row'=row \/ ∃ p,row'=some p/\w.heap.size<=p)/\ElAt (· < w.heap.size) S esz e w' row' v)->K a' w')
  (hE:rdLs true ver esz e old r=.err->∀ a' w',Pv 6 m k0 n a a'->(∃ t y,a'.get 6=.iface t y)->Keeps (fun k=>k=R \/ k=B \/ row=some k) w w'->E a' w')
  (hgo:rdLs true ver esz e old r ≠ .stuck):LW P (gTy g cx (.list none esz e) nm) n (Rt K E) a w:=by
 simp only [okTy,Bool.and_eq_true,decide_eq_true_eq,beq_iff_eq] at hok
 obtain ⟨⟨⟨hsl,hT⟩,hF⟩,hrow⟩:=hok
 subst hT
 replace hF:=fldB_ok hF
 split at hrow
 ·rename_i E' sz z hrowE
  simp only [Bool.and_eq_true,beq_iff_eq] at hrow
  obtain ⟨⟨rfl,hokE⟩,hhl⟩:=hrow
  have hho:za_ g.ok=true:=by simp only [hasLst,Bool.and_eq_true] at hhl;exact hhl.1.2
  have hone:∀ u ∈ z.toList,u.oneCell'=true:=by
   simp only [rowOne,hrowE,List.all_eq_true] at h1c
   exact h1c
  have hrow:=rowOf_ok hrowE
  have hRw:R < w.heap.size:=hrc.rd.lt
  have hBw:B < w.heap.size:=hb.lt
  have hle:=hc.le
  have h66:=hc.six
  have hvm:=hc.ver
  obtain ⟨n0,slv,hcell,hslv,holdN⟩:∃ n0 slv,w.cell? ⟨B,O + off,none⟩=some slv/\RowV E' sz w row n0 slv/\(old.isNul=true ↔ row=none):=by
   rcases hold with ⟨h1,rfl,rfl⟩ | ⟨xs,p,c,cur,E2,sz2,z2,h1,rfl,rfl,h4,h5,h6,h7,h8⟩
   ·exact ⟨0,_,h1,.inl ⟨rfl,rfl,rfl⟩,by simp [V.isNul]⟩
   ·rw [hrowE] at h5
    simp only [Option.some.injEq,Prod.mk.injEq] at h5
    obtain ⟨rfl,rfl,rfl⟩:=h5
    exact ⟨xs.length,_,h1,.inr ⟨p,c,cur,rfl,rfl,h4,h6,h7,h8⟩,by simp [V.isNul]⟩
  have hrs:rdLs true ver sz e old r=(if (j0_ true r).2.bad then .err else if !roomy (j0_ true r).1 sz then .stuck else if (j0_ true r).1<=0 then .ok (if old.isNul then .nul else .l []) (j0_ true r).2
    else (xb_ (zq_ true ver e (dfTy 0 e)) (j0_ true r).1.toNat (j0_ true r).2).bind fun vs r=>.ok (.l vs) r):=rfl
  rw [hrs] at hoK hE hgo
  have hLlt:=rLen_lt true r
  generalize hv:nm.n 0=v at *
  generalize hy:nm.n 4=y at *
  generalize hl:nm.n 5=l at *
  generalize hi:nm.n 6=i at *
  generalize hFF:nm.n 3=F at *
  have hn':(gL (gEl g cx e y i F (nm.sub 0)) (((if cx.hf then gFx cx (qm_ g.clen cx.b l) (qm_ g.len cx.b l) else qm_ g.len cx.b l:GC) (n + 5)).2 + 15)).2 + 5<=a.tmps.size:=by
   have h:=hn
   simp only [gTy,gNull,List.append_nil] at h
   rw [qx_,hv,hy,hl,hi,hFF] at h
   exact h
  have hupL:Up (if cx.hf then gFx cx (qm_ g.clen cx.b l) (qm_ g.len cx.b l) else qm_ g.len cx.b l:GC):=up_ite (j4_ (qi_ _ _) (qi_ _ _)) (qi_ _ _)
  have hupL':=hupL (n + 5)
  have hupE':=up_gEl g e (nm.sub 0) cx y i F (((if cx.hf then gFx cx (qm_ g.clen cx.b l) (qm_ g.len cx.b l) else qm_ g.len cx.b l:GC) (n + 5)).2 + 15)
  have hgoal:LW P (zg_ cx.s v (nm.n 1) (nm.n 2) F :: jf_ v y :: ji_ l (.int .i32 0) :: (if cx.hf then gFx cx (qm_ g.clen cx.b l) (qm_ g.len cx.b l) else qm_ g.len cx.b l:GC) ::
    [gOkChk g cx,gSl0 y F,gGrow g y l F,gFor g i l (nm.n 7) (nm.n 8) (gS (gEl g cx e y i F (nm.sub 0))),jf_ y v,gStore none cx.s v (nm.n 1) (nm.n 2) F]) n (Rt K E) a w:=by
   refine qc_ (s_load (x:=6) (m:=m) (k0:=k0) (O:=O) hrc.ss hF hcell (.inr ⟨hsl.1,by omega⟩) hle hk (by omega) (by omega) fun a1 hp1 hg1=>?_)
   have hs1:=hp1.size
   rw [show (zg_ cx.s v (nm.n 1) (nm.n 2) F n).2=n + 4 from rfl]
   refine qc_ (s_move (x:=6) (m:=m) (k0:=k0) (.inr ⟨by omega,by omega⟩) hle (by omega) (by omega) (by omega) fun a2 hp2 hg2=>?_)
   have hs2:=hp2.size
   rw [hg1] at hg2
   rw [show (jf_ v y (n + 4)).2=n + 5 from rfl]
   refine qc_ (xa_ (x:=l) (m:=k0) (k0:=k0) (n:=n + 5) (.inl rfl) (by omega) fun a3 hp3 _=>?_)
   have hs3:=hp3.size
   have hg3:a3.get y=slv:=(hp3.get y (by omega) (.inl (by omega))).trans hg2
   have hp03:Pv 6 m k0 n a a3:=(hp1.trans (hp2.mono (Nat.le_refl _) (by omega))).trans ((hp3.weak ⟨by omega,by omega⟩).mono (Nat.le_refl _) (by omega))
   have hrc3:RC g cx true ver S R B O r a3 w:=hrc.step hc hp03 hrc.rd (Keeps.refl (fun _=>False) w) (fun _ _ h=>h.elim)
   rw [show (ji_ l (.int .i32 0) (n + 5)).2=n + 5 from rfl]
   refine qc_ (s_len (m:=l) (k0:=k0) K0 hhl hfl hrc3 (cxOk_up hc (by omega) (by omega)) ⟨Nat.le_refl _,by omega⟩ (by omega) (by omega) fun a4 w4 hp4 hg4 hrd4 hk4=>?_)
   have hs4:=hp4.size
   have hy4:a4.get y=slv:=(hp4.get y (by omega) (.inl (by omega))).trans hg3
   have hp04:Pv 6 m k0 n a a4:=hp03.trans (hp4.mono (by omega) (by omega))
   have hrc4:RC g cx true ver S R B O (j0_ true r).2 a4 w4:=hrc.step hc hp04 hrd4 hk4 (fun _ _ h=>.inl h)
   generalize hLv:(j0_ true r).1=L at *
   generalize hr1:(j0_ true r).2=r1 at *
   generalize hnN:((if cx.hf then gFx cx (qm_ g.clen cx.b l) (qm_ g.len cx.b l) else qm_ g.len cx.b l:GC) (n + 5)).2=nN at *
   refine qc_ ?_
   rw [qr_]
   refine s_okChk (m:=i) (k0:=k0) K0 hho hrc4 (cxOk_up hc (by omega) (by omega)) (by omega) (by omega) (fun hbad a6 w6 hp6 hif hk6=>?_) (fun hgood a6 w6 hp6 hk6=>?_)
   ·exact hE (by rw [hbad];rfl) a6 w6 (hp04.trans (hp6.mono (by omega) (by omega))) hif ((hk4.trans (hk6.mono fun _ _ h=>h.elim)).mono fun _ _ h=>.inl h)
   have hs6:=hp6.size
   have hp06:Pv 6 m k0 n a a6:=hp04.trans (hp6.mono (by omega) (by omega))
   have hy6':a6.get y=slv:=(hp6.get y (by omega) (.inl (by omega))).trans hy4
   have hl6':a6.get l=.int .i32 L:=(hp6.get l (by omega) (.inl (by omega))).trans hg4
   have hk06:Keeps (·=R) w w6:=hk4.trans (hk6.mono fun _ _ h=>h.elim)
   have hrd6:RdS w6 g.tR S R r1:=hrc4.rd.keep hk6 id id
   rw [hgood] at hoK hE hgo
   have hroom:roomy L sz=true:=by
    cases h:roomy L sz with
    | true=>rfl
    | false=>exact absurd (by rw [h];rfl) hgo
   rw [hroom] at hoK hE hgo
   simp only [Bool.false_eq_true,if_false,Bool.not_true] at hoK hE hgo
   rw [show (gOkChk g cx nN).2=nN + 3 from rfl]
   obtain ⟨t',x',he'⟩:=hrc.err
   have hgl:=j2_ he'
   have hSlt:=hrc.Slt
   have hsz6:=hk06.size
   have htail:∀ (a9:Act) (w9:World) (r2:RS) (sl:Value) (n2:Nat),n<=n2->n2 + 1 + 4<=a.tmps.size->Pv 6 m k0 n a a9->a9.get y=sl->sl.oneCell'=true/\sl.cells=#[sl]->EvoR R B row (fun j=>O + off<=j/\j < O + off + 1) w w9->RdS w9 g.tR S R r2 ->
     (∀ a' w',Pv 6 m k0 n a a'->RdS w' g.tR S R r2->EvoR R B row (fun j=>O + off<=j/\j < O + off + 1) w w'->Keeps (·=B) w9 w'->w'.cell? ⟨B,O + off,none⟩=some sl->K a' w') ->
     LW P [jf_ y v,gStore none cx.s v (nm.n 1) (nm.n 2) F] n2 (Rt K E) a9 w9:=by
    intro a9 w9 r2 sl n2 hn2 hna hp9 hy9 hsl1 hev9 hrd9 hK
    have herr9:ErrAt g.gErr w9:=ErrAt.keep ⟨t',x',he'⟩ hev9.keeps (fun h=>by
     rcases h with h | h | h
     ·exact hrc.gR h
     ·exact hrc.gB h
     ·exact (hrow' _ h).2.2.2 rfl)
    have hrc9:RC g cx true ver S R B O r2 a w9:=⟨hrd9,hrc.sb,hrc.ss,hrc.sv,hrc.sf,hrc.nf,hrc.su,herr9,hrc.SR,hrc.BR,hrc.BS,hrc.gR,hrc.gB,Nat.lt_of_lt_of_le hrc.Slt hev9.keeps.size⟩
    obtain ⟨cur0,hcu0,hcus0⟩:=hb
    obtain ⟨cur9,hcu9,hcus9,_⟩:=hev9.blk cur0 te hcu0
    exact list_tail (n0:=n) (te:=te) hF hrc9 hc ⟨hsl.1,by omega⟩ hk hn2 hna hp9 hy9 (by omega) hsl1 (Evo.refl _ _ _ _) hrd9 ⟨cur9,hcu9,by omega⟩ fun a' w' hp' hrd' hev' hk' hcell'=>hK a' w' hp' hrd' (hev9.trans hev'.row) hk' hcell'
   have hloop:∀ (a8:Act) (wA:World) (p c:Nat) (cs:Array Value),0 < L->Pv 6 m k0 n a a8->a8.get l=.int .i32 L->a8.get y=.slice (some ⟨p,0,none⟩) L.toNat c->L.toNat<=c->c<=maxLen->cs.size=c * sz->(∀ q j,q < L.toNat->j < sz->cs[q * sz + j]?=z[j]?) ->
     wA.heap[p]?=some (.cells cs E' (0,0))->EvoR R B row (fun j=>O + off<=j/\j < O + off + 1) w wA->RdS wA g.tR S R r1->(row=some p \/ w.heap.size<=p) ->
     LW P [gFor g i l (nm.n 7) (nm.n 8) (gS (gEl g cx e y i F (nm.sub 0))),jf_ y v,gStore none cx.s v (nm.n 1) (nm.n 2) F] (nN + 10) (Rt K E) a8 wA:=by
    intro a8 wA p c cs hL hp08 hl8 hy8 hLc hcm hcs hcz hpA hevA hrdA hrp
    have hs8:=hp08.size
    rw [if_neg (by omega)] at hoK hE hgo
    have hpAl:p < wA.heap.size:=(Array.getElem?_eq_some_iff.1 hpA).1
    have hkA:=hevA.keeps
    have hsA:=hkA.size
    have hpd:p ≠ R/\p ≠ S/\p ≠ B/\g.gErr ≠ p:=by
     rcases hrp with h | h
     ·exact hrow' p h
     ·exact ⟨by omega,by omega,by omega,by omega⟩
    have herrA:ErrAt g.gErr wA:=ErrAt.keep ⟨t',x',he'⟩ hkA (fun h=>by
     rcases h with h | h | h
     ·exact hrc.gR h
     ·exact hrc.gB h
     ·exact (hrow' _ h).2.2.2 rfl)
    have hrcA:RC g cx true ver S R B O r1 a8 wA:=⟨hrdA,(hp08.get _ hc.b.2 (.inl hc.b.1)).trans hrc.sb,(hp08.get _ hc.s.2 (.inl hc.s.1)).trans hrc.ss,(hp08.get _ hc.ver.2 (.inl hc.ver.1)).trans hrc.sv,fun hf=>(hp08.get _ hc.fx.2 (.inl hc.fx.1)).trans (hrc.sf hf),hrc.nf,
     (hp08.get 2 (by omega) (.inl (by omega))).trans hrc.su,herrA,hrc.SR,hrc.BR,hrc.BS,hrc.gR,hrc.gB,by omega⟩
    refine qc_ ?_
    rw [qr_]
    refine s_for (m:=m) (k0:=k0) (L:=L) ⟨by omega,by omega⟩ (by omega) (by omega) (by omega) hle (by omega) (by omega) hl8 hLlt (ListI g S R p sz e (zq_ true ver e (dfTy 0 e)) L.toNat r1 c z E' wA) ?_ (fun j a9 w9 hj hp9 hi9 hI=>?_) fun a9 w9 hp9 hI=>?_
    ·exact ⟨[],r1,rfl,Part.start _ _ _,hrdA,Evo.refl _ _ _ _,⟨cs,hpA,hcs,fun q t _ hq ht=>hcz q t hq ht⟩,fun i v hv=>by simp at hv⟩
    ·refine list_body (B:=B) (O:=O) (r0:=r1) (m:=m) (te:=E') hel (hez _ _ _ _ _ hokE) hokE hrow hrcA hc hfl (by omega) (by omega) (by rw [show nN + 10 + 5=nN + 15 from rfl];omega) (by omega) (by omega) (by omega) (by omega) hp9 hy8 hi9 hj hLc hpd.1 hpd.2.1 hpd.2.2.1 hpd.2.2.2 hpAl hI (fun he a10 w10 hp10 hif hk10=>?_) (fun he=>?_)
     ·refine hE (by rw [he];rfl) a10 w10 (hp08.trans (hp10.mono (Nat.le_refl _) (by omega))) hif ?_
      exact ⟨hk10.os.trans hkA.os,hk10.tape.trans hkA.tape,hk10.output.trans hkA.output,Nat.le_trans hkA.size hk10.size,fun q hq hx=>by
       rw [hk10.block q (by omega) (fun h=>by
        rcases h with h | h
        ·exact hx (.inl h)
        ·subst h
         rcases hrp with h | h
         ·exact hx (.inr (.inr h))
         ·omega),hkA.block q hq hx]⟩
     ·exact hgo (by rw [he];rfl)
    ·obtain ⟨vs,r2,hvl,hpart,hrd9,hev9,⟨cur9,hcu9,hcs9,_⟩,hvs⟩:=hI
     have hsz9:=hev9.keeps.size
     have hev:EvoR R B row (fun j=>O + off<=j/\j < O + off + 1) w w9:=
      ⟨⟨hev9.keeps.os.trans hkA.os,hev9.keeps.tape.trans hkA.tape,hev9.keeps.output.trans hkA.output,Nat.le_trans hkA.size hsz9,fun q hq hx=>by
       rw [hev9.keeps.block q (by omega) (fun h=>by
        rcases h with h | h
        ·exact hx (.inl h)
        ·subst h
         rcases hrp with h | h
         ·exact hx (.inr (.inr h))
         ·omega),hkA.block q hq hx]⟩,fun cs' te' hc'=>by
       obtain ⟨c1,e1,e2,e3⟩:=hevA.blk cs' te' hc'
       exact ⟨c1,by rw [hev9.keeps.block B (by omega) (fun h=>by rcases h with h | h;exact hrc.BR h;exact hpd.2.2.1 h.symm)];exact e1,e2,e3⟩⟩
     have hy9:a9.get y=.slice (some ⟨p,0,none⟩) L.toNat c:=(hp9.get y (by omega) (.inl (by omega))).trans hy8
     rw [show (gFor g i l (nm.n 7) (nm.n 8) (gS (gEl g cx e y i F (nm.sub 0))) (nN + 10)).2=(gL (gEl g cx e y i F (nm.sub 0)) (nN + 15)).2 from rfl]
     refine htail a9 w9 r2 _ _ (by omega) (by omega) (hp08.trans (hp9.mono (by omega) (by omega))) hy9 ⟨rfl,rfl⟩ hev hrd9 fun a10 w10 hp10 hrd10 hev10 hk10 hcell10=>?_
     have hp10':w10.heap[p]?=w9.heap[p]?:=hk10.block p (by omega) hpd.2.2.1
     refine hoK (.l vs) r2 a10 w10 (by rw [hpart.done hvl];rfl) hp10 hrd10 hev10 ⟨some p,.inr ⟨vs,p,c,cur9,E',sz,z,by rw [hvl];exact hcell10,rfl,rfl,by rw [hp10'];exact hcu9,hrowE,hcs9,by omega,hcm⟩,?_,fun p' xs hp' hxs q u hu X hX hS=>?_⟩
     ·rcases hrp with h | h
      ·exact .inl h.symm
      ·exact .inr ⟨p,rfl,h⟩
     ·obtain rfl:p=p':=Option.some.inj hp'
      obtain rfl:vs=xs:=by simpa using hxs
      have h1:=hvs q u hu (fun k=>X k \/ k=B) (fun k hk=>by
       rcases hk with hk | rfl
       ·rcases hX k hk with h | h
        ·omega
        ·omega
       ·omega) (fun hk=>by rcases hk with hk | hk;exact hS hk;exact hrc.BS hk.symm)
      have h2:=Rp.frame (hk10.mono fun k _ hk=>.inr hk) e p (q * sz) u h1 (fun j _ _=>q1_ hp10' j)
      exact Rp.mono (fun k _ hk=>.inl hk) e p (q * sz) u h2
   have hnone:∀ (a8:Act) (sl:Value),L<=0->Pv 6 m k0 n a a8->a8.get l=.int .i32 L->a8.get y=sl->sl.oneCell'=true/\sl.cells=#[sl] ->
     (∀ w',w'.cell? ⟨B,O + off,none⟩=some sl->Keeps (·=B) w6 w'->RowAt P F w' B (O + off) row (if old.isNul then .nul else .l [])) ->
     LW P [gFor g i l (nm.n 7) (nm.n 8) (gS (gEl g cx e y i F (nm.sub 0))),jf_ y v,gStore none cx.s v (nm.n 1) (nm.n 2) F] (nN + 10) (Rt K E) a8 w6:=by
    intro a8 sl hL hp08 hl8 hy8 hsl1 hRA
    have hs8:=hp08.size
    refine qc_ ?_
    rw [qr_]
    refine s_for (m:=m) (k0:=k0) (L:=L) ⟨by omega,by omega⟩ (by omega) (by omega) (by omega) hle (by omega) (by omega) hl8 hLlt (fun _ w'=>w'=w6) rfl (fun j a9 w9 hj=>by omega) fun a9 w9 hp9 hw9=>?_
    subst hw9
    have hev:EvoR R B row (fun j=>O + off<=j/\j < O + off + 1) w w9:=EvoR.of_keeps hk06 (fun _ _ h=>.inl h) hrc.BR (fun h=>(hrow' _ h).2.2.1 rfl)
    have hy9:a9.get y=sl:=(hp9.get y (by omega) (.inl (by omega))).trans hy8
    rw [show (gFor g i l (nm.n 7) (nm.n 8) (gS (gEl g cx e y i F (nm.sub 0))) (nN + 10)).2=(gL (gEl g cx e y i F (nm.sub 0)) (nN + 15)).2 from rfl]
    refine htail a9 w9 r1 sl _ (by omega) (by omega) (hp08.trans (hp9.mono (by omega) (by omega))) hy9 hsl1 hev hrd6 fun a10 w10 hp10 hrd10 hev10 hk10 hcell10=>?_
    refine hoK _ r1 a10 w10 (by rw [if_pos hL]) hp10 hrd10 hev10 ⟨row,hRA w10 hcell10 hk10,.inl rfl,fun p xs hp hxs q u hu=>?_⟩
    obtain rfl:xs=[]:=by
     split at hxs
     ·cases hxs
     ·simpa using hxs.symm
    simp at hu
   rcases hslv with ⟨rfl,rfl,rfl⟩ | ⟨p,c,cur,rfl,rfl,hpB,hpsz,hn0c,hcm⟩
   ·-- no row yet
    refine qc_ (s_sl0 (x:=y) (m:=k0) (k0:=k0) hy6' hrow.und hrow.size (.inl rfl) (Nat.le_refl _) (by omega) (by omega) (by omega) fun a7 hp7 hy7=>?_)
    have hs7:=hp7.size
    have hl7:a7.get l=.int .i32 L:=(hp7.get l (by omega) (.inl (by omega))).trans hl6'
    rw [show (gSl0 y F (nN + 3)).2=nN + 5 from rfl]
    have hp07:Pv 6 m k0 n a a7:=hp06.trans ((hp7.weak ⟨by omega,by omega⟩).mono (Nat.le_refl _) (by omega))
    refine qc_ (s_grow (x:=y) (m:=k0) (k0:=k0) K0 hy7 hl7 hrow hLlt hroom (.inl rfl) (by omega) (Nat.le_refl _) (by omega) (by omega) (by omega) (fun hL a8 hp8 hy8=>?_) (fun hL a8 c cs hp8 hLc hcm hcs hcz hy8=>?_))
    ·have hl8:a8.get l=.int .i32 L:=(hp8.get l (by omega) (.inl (by omega))).trans hl7
     have hp08:Pv 6 m k0 n a a8:=hp07.trans ((hp8.weak ⟨by omega,by omega⟩).mono (Nat.le_refl _) (by omega))
     rw [show (gGrow g y l F (nN + 5)).2=nN + 10 from rfl]
     exact hnone a8 _ hL hp08 hl8 hy8 ⟨rfl,rfl⟩ fun w' hw' _=>.inl ⟨hw',rfl,by rw [if_pos (holdN.2 rfl)]⟩
    ·have hl8:a8.get l=.int .i32 L:=(hp8.get l (by omega) (.inl (by omega))).trans hl7
     have hp08:Pv 6 m k0 n a a8:=hp07.trans ((hp8.weak ⟨by omega,by omega⟩).mono (Nat.le_refl _) (by omega))
     rw [show (gGrow g y l F (nN + 5)).2=nN + 10 from rfl]
     have hkA:Keeps (fun _=>False) w6 (w6.drew.alloc (.cells cs E' (0,0))):=(Keeps.drew _ _).trans (Keeps.alloc _ _ _)
     have hk0A:Keeps (·=R) w (w6.drew.alloc (.cells cs E' (0,0))):=hk06.trans (hkA.mono fun _ _ h=>h.elim)
     exact hloop a8 _ w6.heap.size c cs hL hp08 hl8 hy8 hLc hcm hcs hcz (heap_alloc_new w6.drew _) (EvoR.of_keeps hk0A (fun _ _ h=>.inl h) hrc.BR (fun h=>by cases h)) (hrd6.keep hkA id id) (.inr hsz6)
   ·-- a row
    have hpd:=hrow' p rfl
    have hplt:p < w.heap.size:=(Array.getElem?_eq_some_iff.1 hpB).1
    have hpB6:w6.heap[p]?=some (.cells cur E' (0,0)):=by rw [hk06.block p hplt hpd.1];exact hpB
    refine qc_ (s_slN (x:=y) (m:=k0) (k0:=k0) hy6' hrow.und hrow.size (.inl rfl) (Nat.le_refl _) (by omega) (by omega) (by omega) fun a7 hp7 hy7=>?_)
    have hs7:=hp7.size
    have hl7:a7.get l=.int .i32 L:=(hp7.get l (by omega) (.inl (by omega))).trans hl6'
    rw [show (gSl0 y F (nN + 3)).2=nN + 5 from rfl]
    have hp07:Pv 6 m k0 n a a7:=hp06.trans ((hp7.weak ⟨by omega,by omega⟩).mono (Nat.le_refl _) (by omega))
    have hnn:old.isNul=false:=by
     cases h:old.isNul with
     | false=>rfl
     | true=>cases holdN.1 h
    refine qc_ (s_growR (x:=y) (m:=k0) (k0:=k0) K0 hy7 hl7 hrow hLlt hroom hpB6 hpsz hone (.inl rfl) (by omega) (Nat.le_refl _) (by omega) (by omega) (by omega) (fun hL a8 hp8 hy8=>?_) (fun hL a8 cs hp8 hLc hcs hcz hy8=>?_) (fun hL a8 c' cs hp8 hLc hcm' hcs hcz hy8=>?_))
    ·have hl8:a8.get l=.int .i32 L:=(hp8.get l (by omega) (.inl (by omega))).trans hl7
     have hp08:Pv 6 m k0 n a a8:=hp07.trans ((hp8.weak ⟨by omega,by omega⟩).mono (Nat.le_refl _) (by omega))
     rw [show (gGrow g y l F (nN + 5)).2=nN + 10 from rfl]
     refine hnone a8 _ hL hp08 hl8 hy8 ⟨rfl,rfl⟩ fun w' hw' hk'=>.inr ⟨[],p,c,cur,E',sz,z,hw',rfl,by rw [hnn];rfl,?_,hrowE,hpsz,Nat.zero_le _,hcm⟩
     rw [hk'.block p (by omega) hpd.2.2.1]
     exact hpB6
    ·have hl8:a8.get l=.int .i32 L:=(hp8.get l (by omega) (.inl (by omega))).trans hl7
     have hp08:Pv 6 m k0 n a a8:=hp07.trans ((hp8.weak ⟨by omega,by omega⟩).mono (Nat.le_refl _) (by omega))
     rw [show (gGrow g y l F (nN + 5)).2=nN + 10 from rfl]
     have hkA:Keeps (·=p) w6 (w6.setRow p cs):=Keeps.setRow _ _ _ _ rfl
     have hk0A:Keeps (fun k=>k=R \/ k=p) w (w6.setRow p cs):=(hk06.mono fun _ _ h=>.inl h).trans (hkA.mono fun _ _ h=>.inr h)
     exact hloop a8 _ p c cs hL hp08 hl8 hy8 hLc hcm hcs hcz (setRow_heap w6 p cur cs E' (0,0) hpB6) (EvoR.of_keeps hk0A (fun _ _ h=>h.elim .inl fun h=>.inr (by rw [h])) hrc.BR (fun h=>hpd.2.2.1 (Option.some.inj h))) (hrd6.keep hkA (fun h=>hpd.2.1 h.symm) (fun h=>hpd.1 h.symm)) (.inl rfl)
    ·have hl8:a8.get l=.int .i32 L:=(hp8.get l (by omega) (.inl (by omega))).trans hl7
     have hp08:Pv 6 m k0 n a a8:=hp07.trans ((hp8.weak ⟨by omega,by omega⟩).mono (Nat.le_refl _) (by omega))
     rw [show (gGrow g y l F (nN + 5)).2=nN + 10 from rfl]
     have hkA:Keeps (fun _=>False) w6 (w6.drew.alloc (.cells cs E' (0,0))):=(Keeps.drew _ _).trans (Keeps.alloc _ _ _)
     have hk0A:Keeps (·=R) w (w6.drew.alloc (.cells cs E' (0,0))):=hk06.trans (hkA.mono fun _ _ h=>h.elim)
     exact hloop a8 _ w6.heap.size c' cs hL hp08 hl8 hy8 hLc hcm' hcs hcz (heap_alloc_new w6.drew _) (EvoR.of_keeps hk0A (fun _ _ h=>.inl h) hrc.BR (fun h=>hpd.2.2.1 (Option.some.inj h))) (hrd6.keep hkA id id) (.inr hsz6)
  have hdef:gTy g cx (.list none sz e) nm=zg_ cx.s v (nm.n 1) (nm.n 2) F :: jf_ v y :: ji_ l (.int .i32 0) :: (if cx.hf then gFx cx (qm_ g.clen cx.b l) (qm_ g.len cx.b l) else qm_ g.len cx.b l:GC) ::
    [gOkChk g cx,gSl0 y F,gGrow g y l F,gFor g i l (nm.n 7) (nm.n 8) (gS (gEl g cx e y i F (nm.sub 0))),jf_ y v,gStore none cx.s v (nm.n 1) (nm.n 2) F]:=by
   simp only [gTy,hv,hy,hl,hi,hFF,gNull]
   simp
  rw [hdef]
  exact hgoal
 ·cases hrow
end
end Go.Proofs.YtlmanancakaapaaGreatDoor.Kx
