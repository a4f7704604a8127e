/-
  PLAIN LAWS AND CONTRACTS of messages, part 5 of 14: how readers and writers are printed, what they do, what the reference writes, and that what is written is read as the same. Nothing of a statement stands here.
-/
import Derived.Test.YtdplnemfjedocabDoorK1
import Derived.Test.YtdplnemfjedocabDoorK3
import Derived.Test.YtdplnemfjedocabDoorK4

namespace Go.Proofs.YtdplnemfjedocabDoor.Kx
open Go
section
variable {P:Program} {g:G} {av:PF->Bool} {fl:Bool} {D:Nat->Option (List (Nat × Value))}
theorem st_of (K0:KB P g av fl) {fs:Fds} (h1:RdFds P g av fl D fs) (h2:RdCase P g av fl D fs):RdSt P g av fl D fs:=by
 intro nm cx fx ver S R B O r m k0 n T kt toff K E a w te hok hrc hc hfl hk hks hn hb hpl ho
 simp only [okSt,Bool.and_eq_true] at hok
 obtain ⟨⟨⟨hokf,hdj⟩,htoff⟩,hokt⟩:=hok
 have hRw:R < w.heap.size:=hrc.rd.lt
 have hBw:B < w.heap.size:=hb.lt
 have hle:=hc.le
 have hupF:=up_gFds g fs nm.s cx n
 have hpl':fs.plain=true \/ ∀ X,RpF w X fs B O (dfFds fs):=by
  rcases hpl with h | h
  ·exact .inl h.1
  ·exact .inr h.1
 unfold gStOf at hn ⊢
 rw [jg_] at hn
 refine LW_append ?_
 rw [qt_]
 refine h1 nm.s cx fx ver S R B O r m k0 n T (za_ toff) _ E a w te hokf hdj hrc hc hfl hk hks ?_ hb hpl' ⟨fun vs r1 a1 w1 he hp1 hrd1 hev1 hvs=>?_,fun he a1 w1 hp1 hif hk1=>?_,fun he=>?_⟩
 ·have hu:UpL (if (!cx.hf)=true then [] else if fs.tagged=true then [gFx cx (gTagFor g cx (nm.n 0) (nm.n 2) (nm.n 3) (gS [qm_ g.uv cx.b (nm.n 1),gSwitch g cx (nm.n 1) (nm.n 4) T kt (gTagd g cx fs nm.s)])) jq_] else [gFx cx (gReadTags g cx T kt) jq_]:List GC):=
   upL_ite qk_ (upL_ite (qf_ (j3_ (up_tagFor (up_S (qf_ (qi_ _ _) (qf_ (up_switch (up_gTagd g fs nm.s cx)) qk_)))) (je_ _)) qk_) (qf_ (j3_ (qi_ _ _) (je_ _)) qk_))
  exact Nat.le_trans (hu _) hn
 ·have hs1:=hp1.size
  have hrc1:RC g cx fx ver S R B O r1 a1 w1:=hrc.step hc hp1 hrd1 hev1.keeps (fun _ _ h=>h)
  have hb1:=hb.evo hev1
  have hev1':Evo R B (fs.Zn toff O) w w1:=hev1.mono fun j hj=>.inl hj
  have hrs:zg_ fx fs.tagged (rdFds fx ver fs) (rdTag fx ver fs) r=(if !fx then .ok (.st vs []) r1 else if fs.tagged then zc_ (rdTag fx ver fs) (rUv r1).1 vs [] (rUv r1).2 else .ok (.st vs (jo_ (rUv r1).1 [] (rUv r1).2).1) (jo_ (rUv r1).1 [] (rUv r1).2).2):=by
   simp only [zg_,he,Out.bind]
  rw [hrs] at ho
  cases hhf:cx.hf with
  | false=>
   have hfx:=hrc.nf hhf
   subst hfx
   simp only [Bool.not_false,if_true]
   have ht0:toff=none:=by
    cases toff with
    | none=>rfl
    | some o=>rw [hhf] at htoff;simp at htoff
   subst ht0
   refine ja_ (ho.ok _ r1 a1 w1 rfl hp1 hrd1 hev1' ⟨vs,[],rfl,hvs,fun X _ _=>rfl⟩)
  | true=>
   simp only [hhf,Bool.not_true,Bool.false_eq_true,if_false] at hn ⊢
   obtain ⟨o,ht0,hF,hoff⟩:∃ o,toff=some o/\FldIs P T kt g.tTags o true 1/\offBy fs o (o + 1)=true:=by
    cases toff with
    | none=>rw [hhf] at htoff;simp at htoff
    | some o=>
     simp only [Bool.and_eq_true] at htoff
     exact ⟨o,rfl,fldB_ok htoff.1.2,htoff.2⟩
   subst ht0
   have hoIn:¬ fs.In O (O + o):=fun h=>offBy_out fs o (o + 1) O (O + o) hoff h ⟨by omega,by omega⟩
   have hext:=le_ext fs (o + 1)
   have hoext:o < fs.ext (za_ (some o)):=by show o < fs.ext (o + 1);omega
   have hfl':=hfl hhf
   have hskip:fx=false->∀ a',Pv 6 m k0 n a a'->K a' w1:=fun hfx a' hp'=>by
    subst hfx
    have hT0:Far w S (fun X=>TgAt w X B O (some o) []):=fun X _ _=>by
     rcases hpl with h | h
     ·cases h.2
     ·exact h.2.at X
    refine ho.ok _ r1 a' w1 rfl hp' hrd1 hev1' ⟨vs,[],rfl,hvs,?_⟩
    exact TgAt.evoA (A:=(· < w.heap.size)) hev1 hRw hBw hrc.SR.symm hrc.BS hb hT0 (fun k hk h=>by cases hk;exact hoIn h)
   cases htg:fs.tagged with
   | false=>
    simp only [htg,Bool.false_eq_true,if_false,gL] at hn ⊢
    refine qc_ ?_
    rw [qt_]
    have hn1:(gL (gFds g cx fs nm.s) n).2 + 5<=a.tmps.size:=hn
    refine s_fx (x:=6) (m:=m) (k0:=k0) (fx:=fx) (hrc1.sf hhf) hle (by omega) (by omega) fun a2 hp2=>?_
    have hs2:=hp2.size
    have hp02:Pv 6 m k0 n a a2:=hp1.trans (hp2.mono (Nat.le_refl _) hupF)
    cases hfx:fx with
    | false=>exact .skip (ja_ (hskip hfx a2 hp02))
    | true=>
     subst hfx
     simp only [if_true]
     simp only [Bool.not_true,Bool.false_eq_true,if_false,htg] at ho
     have hrc2:RC g cx true ver S R B O r1 a2 w1:=hrc1.step hc hp2 hrd1 (Keeps.refl (fun _=>False) w1) (fun _ _ h=>h.elim)
     obtain ⟨cur,hcu,hcus⟩:=hb1
     rw [<- qt_ (N:=fun _ _=>True)]
     have hoext':o < fs.ext (za_ (some o)):=hoext
     refine s_readTags (m:=m) (k0:=k0) (cur:=cur) (te:=te) K0 hfl' hrc2 hc hF hcu (by omega) (by omega) (by omega) fun a3 w3 hp3 hrd3 hev3 htg3=>?_
     refine ja_ (ho.ok _ _ a3 w3 rfl (hp02.trans (hp3.mono (Nat.le_refl _) (by omega))) hrd3 (hev1'.trans (hev3.mono fun j hj=>.inr ⟨o,rfl,hj⟩)) ⟨vs,_,rfl,?_,fun X hX hS=>htg3 X (fun k hk=>Nat.lt_of_lt_of_le (hX k hk) hev1.keeps.size) hS⟩)
     exact RpF.evoA (A:=(· < w.heap.size)) hev3 hRw hBw hrc.SR.symm hrc.BS ⟨cur,hcu,hcus⟩ hvs (fun j hj h=>by rw [h] at hj;exact hoIn hj)
   | true=>
    simp only [htg,if_true,gL] at hn ⊢
    refine qc_ ?_
    rw [qt_]
    simp only [hhf,htg,Bool.and_self,Bool.not_true,Bool.false_or,Bool.and_eq_true,decide_eq_true_eq] at hokt
    obtain ⟨hsl,hokt⟩:=hokt
    generalize hbody:(gS [qm_ g.uv cx.b (nm.n 1),gSwitch g cx (nm.n 1) (nm.n 4) T kt (gTagd g cx fs nm.s)]:GC)=body at hn ⊢
    have hubody:Up body:=by
     rw [<- hbody]
     exact up_S (qf_ (qi_ _ _) (qf_ (up_switch (up_gTagd g fs nm.s cx)) qk_))
    have hn1:(body ((gL (gFds g cx fs nm.s) n).2 + 1 + 5)).2<=a.tmps.size:=hn
    have hub:=hubody ((gL (gFds g cx fs nm.s) n).2 + 1 + 5)
    refine s_fx (x:=6) (m:=m) (k0:=k0) (fx:=fx) (hrc1.sf hhf) hle (by omega) (by omega) fun a2 hp2=>?_
    have hs2:=hp2.size
    have hp02:Pv 6 m k0 n a a2:=hp1.trans (hp2.mono (Nat.le_refl _) hupF)
    cases hfx:fx with
    | false=>exact .skip (ja_ (hskip hfx a2 hp02))
    | true=>
     subst hfx
     simp only [if_true]
     simp only [Bool.not_true,Bool.false_eq_true,if_false,htg,if_true] at ho
     have hrc2:RC g cx true ver S R B O r1 a2 w1:=hrc1.step hc hp2 hrd1 (Keeps.refl (fun _=>False) w1) (fun _ _ h=>h.elim)
     have hnil:TgNil w B O (some o):=by
      rcases hpl with h | h
      ·rw [plain_untagged fs h.1] at htg;cases htg
      ·exact h.2
     have hT1:Far w S (fun X=>TgAt w1 X B O (some o) []):=TgAt.evoA (A:=(· < w.heap.size)) hev1 hRw hBw hrc.SR.symm hrc.BS hb (fun X _ _=>hnil.at X) (fun k hk h=>by cases hk;exact hoIn h)
     have hm0:w1.cell? ⟨B,O + o,none⟩=some (.map none):=by
      obtain ⟨cur,hcu,_⟩:=hb
      rw [hev1.cell hcu hoIn];exact hnil
     refine s_tagFor (m:=m) (k0:=k0) (i:=nm.n 0) K0 hfl' hrc2 hc ⟨hsl.1,by omega⟩ (by omega) (by omega)
      (TagI g S R B O o fs ver w (zc_ (rdTag true ver fs) (rUv r1).1 vs [] (rUv r1).2)) (fun w2 hrd2 hk2=>?_) (fun c a3 w3 hp3 hI=>?_) (fun a3 w3 hp3 hI=>?_)
     ·have hev2:Evo R B (fun _=>False) w1 w2:=Evo.of_keeps hk2 (fun _ _ h=>h) hrc.BR
      refine ⟨vs,[],(rUv r1).2,.map none,rfl,hrd2,(hev1.mono fun j hj=>.inl hj).trans (hev2.mono fun j hj=>hj.elim),?_,.inl ⟨rfl,rfl⟩,?_,?_⟩
      ·obtain ⟨cur,hcu,_⟩:=hb1
       rw [hev2.cell hcu id];exact hm0
      ·refine (RpF.evoA (A:=(· < w.heap.size)) hev2 hRw hBw hrc.SR.symm hrc.BS hb1 hvs (fun _ _ h=>h)).mono fun k hk=>?_
       rcases hk with hk | hk
       ·exact hk
       ·cases hk
      ·exact TgAt.evoA (A:=(· < w.heap.size)) hev2 hRw hBw hrc.SR.symm hrc.BS hb1 hT1 (fun _ _ h=>h)
     ·have hs3:=hp3.size
      rw [<- hbody] at hn1 ⊢
      exact tag_body (r0:=r) (_mm:=0) K0 h2 hokt hdj hF hoff hsl (hrc.step hc hp02 hrc.rd (Keeps.refl (fun _=>False) w) (fun _ _ h=>h.elim)) hc hhf hfl' (by omega) (by omega) (by omega) hb hp3 hI ho.go
       (fun he a' w' hp' hif hk'=>ho.err he a' w' (hp02.trans (hp'.mono (Nat.le_refl _) (by omega))) hif hk')
     ·obtain ⟨vs',t,r',mm,hout,hrd3,hev3,hcell3,hmm,hRF,hTF⟩:=hI
      have hp3':Pv 6 m k0 n a a3:=hp02.trans (hp3.mono hsl.1 (by omega))
      refine ja_ (ho.ok (.st vs' t) r' a3 w3 (by rw [hout];rfl) hp3' hrd3 (hev3.mono fun j hj=>?_) ⟨vs',t,rfl,hRF.mono fun k hk=>.inl hk,hTF⟩)
      rcases hj with hj | hj
      ·exact .inl hj
      ·exact .inr ⟨o,rfl,hj⟩
 ·exact ho.err (by simp only [zg_,he,Out.bind]) a1 w1 hp1 hif hk1
 ·exact ho.go (by simp only [zg_,he,Out.bind])
end
theorem Pv.weak {x m k0 n:Nat} {a b:Act} (h:Pv x k0 k0 n a b) (hx:m<=x/\x < k0):Pv 6 m k0 n a b:=
 ⟨h.size,h.defers,fun s hs hh=>h.get s (by omega) (by omega)⟩
theorem RC.withS {g:G} {cx:Cx} {fx:Bool} {ver:Int} {S R B O p o s':Nat} {r:RS} {a:Act} {w:World} (h:RC g cx fx ver S R B O r a w) (hs:a.get s'=pt p o) (hpR:p ≠ R) (hpS:p ≠ S) (hpg:g.gErr ≠ p):RC g { cx with s:=s' } fx ver S R p o r a w:=
 ⟨h.rd,h.sb,hs,h.sv,h.sf,h.nf,h.su,h.err,h.SR,hpR,hpS,h.gR,hpg,h.Slt⟩
section
variable {P:Program} {g:G} {av:PF->Bool} {fl:Bool} {D:Nat->Option (List (Nat × Value))}
def RdEl (P:Program) (g:G) (av:PF->Bool) (fl:Bool) (D:Nat->Option (List (Nat × Value))) (e:Ty):Prop:=
 ∀ (nm:Nm) (cx:Cx) (fx:Bool) (ver:Int) (S R B O:Nat) (r:RS) (m k0 n esz:Nat) (z:Array Value) (y i F E' p cnt c j:Nat) (cur:Array Value) (K E:Act->World->Prop) (a:Act) (w:World) (te:Nat),
  okEl ⟨P,g,av,D⟩ cx.hf m k0 esz z e nm=true->RowIs P F E' esz z->RC g cx fx ver S R B O r a w->CxOk cx m k0->(cx.hf=true->fl=true)->k0<=n->k0<=a.tmps.size->(gL (gEl g cx e y i F nm) n).2<=a.tmps.size ->
  a.get y=.slice (some ⟨p,0,none⟩) cnt c->a.get i=.int .i32 j->j < cnt->y < m->i < m->y ≠ 6->i ≠ 6->w.heap[p]?=some (.cells cur te (0,0))->j * esz + esz<=cur.size->HasZ w p (j * esz) z->p ≠ R->p ≠ S->g.gErr ≠ p ->
  Outs g S R p (fun t=>j * esz<=t/\t < j * esz + esz) m k0 n a w (rdTy fx ver e (dfTy 0 e) r) (fun v w'=>Far w S fun X=>Rp w' X e p (j * esz) v) K E ->
  LW P (gEl g cx e y i F nm) n (Rt K E) a w
theorem el_leaf (K0:KB P g av fl) {e:Ty} (hl:e.leaf=true):RdEl P g av fl D e:=by
 intro nm cx fx ver S R B O r m k0 n esz z y i F E' p cnt c j cur K E a w te hok hrow hrc hc hfl hk hks hn hy hi hj hym him hy6 hi6 hp hsz hz hpR hpS hpg ho
 have hRw:R < w.heap.size:=hrc.rd.lt
 have hpw:p < w.heap.size:=(Array.getElem?_eq_some_iff.1 hp).1
 have hle:=hc.le
 obtain ⟨hg,hlo,hE,hes,huu⟩:gEl g cx e y i F nm=gVal g cx e (nm.n 0) (nm.l.drop 2)++[gIdxStore (uuOf g e) y i (nm.n 0) F (nm.n 1)]/\leafOk ⟨P,g,av,D⟩ cx.hf m k0 e (nm.n 0) (nm.l.drop 2)=true/\(∀ w,(sizeOf (nm.n 1)).run P w=.ok esz w)/\e.sz=esz /\
   (uuOf g e=none \/ (uuOf g e=some g.tUuid/\j6_ P g.tUuid true e.sz)):=by
  cases e with
  | list=>cases hl
  | struct=>cases hl
  | prim q=>
   simp only [okEl,Bool.and_eq_true,beq_iff_eq,Bool.or_eq_true,bne_iff_ne] at hok
   obtain ⟨⟨⟨h1,h2⟩,h3⟩,h4⟩:=hok
   refine ⟨rfl,h1,fun w=>by rw [<- h3];exact (varB_ok h2).size w,h3,?_⟩
   by_cases hq:q=.uuid
   ·subst hq
    rcases h4 with h | h
    ·exact absurd rfl h
    ·exact .inr ⟨rfl,varB_ok h⟩
   ·exact .inl (by cases q <;> first | rfl | exact absurd rfl hq)
  | str nul=>
   simp only [okEl,Bool.and_eq_true,beq_iff_eq] at hok
   obtain ⟨⟨h1,h2⟩,h3⟩:=hok
   exact ⟨rfl,h1,fun w=>by rw [<- h3];exact (varB_ok h2).size w,h3,.inl rfl⟩
  | bytes nul=>
   simp only [okEl,Bool.and_eq_true,beq_iff_eq] at hok
   obtain ⟨⟨h1,h2⟩,h3⟩:=hok
   exact ⟨rfl,h1,fun w=>by rw [<- h3];exact (varB_ok h2).size w,h3,.inl rfl⟩
 simp only [leafOk,Bool.and_eq_true] at hlo
 obtain ⟨⟨h1,h2⟩,h3⟩:=hlo
 have hvm:m<=nm.n 0/\nm.n 0 < k0:=by simp only [slotsOk,Bool.and_eq_true,decide_eq_true_eq] at h2;exact h2.1
 rw [hg] at hn ⊢
 rw [jg_] at hn
 simp only [gL,gIdxStore,qq_] at hn
 have hup:=up_gVal g cx e (nm.n 0) (nm.l.drop 2) n
 refine s_val K0 (ver:=ver) h1 hrc hc hk h2 hks (xOk_form h3) (by omega) fun a1 w1 hpst=>?_
 obtain ⟨cs,hp1,hval,hrd1,hk1,hl1⟩:=hpst
 have hs1:=hp1.size
 have hlr:=hl1 (fun _=>False) (fun _ h=>h.elim) id
 have hlen:cs.length=esz:=hlr.len.trans hes
 have hB1:w1.heap[p]?=some (.cells cur te (0,0)):=by rw [hk1.block p hpw hpR];exact hp
 refine qc_ (s_idxStore (x:=6) (m:=m) (k0:=k0) (p:=p) (q:=0) (cs:=cs) (cur:=cur) (te:=te) (sz:=esz) ((hp1.get y hy6 (.inl hym)).trans hy) ((hp1.get i hi6 (.inl him)).trans hi) hj hrow.und hrow.size hE ?_ hlen hlr.one hB1 (by omega) hle (by omega) (by omega) (by omega) (by omega) (by omega) fun a2 hp2=>ja_ ?_)
 ·rcases huu with hu | ⟨hu,hU⟩
  ·rw [hu] at hval ⊢;exact hval
  ·rw [hu] at hval ⊢;exact ⟨by rw [hlr.len];exact hU,hval⟩
 ·rw [Nat.zero_add]
  have hev:Evo R p (fun t=>j * esz<=t/\t < j * esz + esz) w1 (w1.setRow p (qr_ cur (j * esz) cs)):=Evo.store hB1 (by rw [hlen];omega) (fun t ha hb=>⟨ha,by rw [hlen] at hb;omega⟩)
  refine ho.ok _ _ a2 _ (rdTy_leaf fx ver e _ r hl) (hp1.trans (hp2.mono (Nat.le_refl _) hup)) (hrd1.keep (Keeps.setRow (fun k=>k=p) _ _ _ rfl) (fun h=>hpS h.symm) (fun h=>hpR h.symm))
   ((Evo.of_keeps hk1 (fun _ _ h=>h) hpR).trans hev) fun X hX hS=>?_
  refine rp_leaf hl (fun t u hu=>?_) (((hl1 (fun k=>X k \/ k=p) (fun k hk=>by rcases hk with hk | rfl <;> first | exact hX k hk | exact hpw) (fun hk=>by rcases hk with hk | hk <;> first | exact hS hk | exact hpS hk.symm)).keep
   (Keeps.setRow (fun k=>X k \/ k=p) _ _ _ (.inr rfl))).mono fun k _ hk=>.inl hk)
  have hjl:t < cs.length:=(List.getElem?_eq_some_iff.1 hu).1
  rw [cell_setRow_same _ _ _ _ _ _ _ hB1,jf_ (by omega) t hjl]
  exact hu
theorem hasZ_default {w':World} {p O te:Nat} {cur z:Array Value} {wr:List (Nat × Value)} (hz:∀ j,j < z.size->cur[O + j]?=z[j]?) (hs:O + z.size<=cur.size) (hwr:∀ q ∈ wr,q.1 < z.size) (h:w'.heap[p]?=some (.cells (applyWr cur O wr) te (0,0))):HasZ w' p O (applyWr z 0 wr):=by
 intro j v hj
 have hjz:j < z.size:=by
  have:=(Array.getElem?_eq_some_iff.1 hj).1
  rwa [jn_] at this
 rw [<- applyWr_at O wr cur z hwr hs hz j hjz] at hj
 simpa [World.cell?,h] using hj
theorem el_struct (En:Env P g av fl D) {toff:Option Nat} {fs:Fds} (hst:RdSt P g av fl D fs):RdEl P g av fl D (.struct none toff fs):=by
 intro nm cx fx ver S R B O r m k0 n esz z y i F E' p cnt c j cur K E a w te hok hrow hrc hc hfl hk hks hn hy hi hj hym him hy6 hi6 hp hsz hz hpR hpS hpg ho
 have hRw:R < w.heap.size:=hrc.rd.lt
 have hpw:p < w.heap.size:=(Array.getElem?_eq_some_iff.1 hp).1
 have hle:=hc.le
 have h66:=hc.six
 simp only [okEl,Bool.and_eq_true,decide_eq_true_eq] at hok
 obtain ⟨⟨hsl,hdf⟩,hokst⟩:=hok
 split at hdf
 ·rename_i wr hwr
  simp only [Bool.and_eq_true,decide_eq_true_eq,List.all_eq_true] at hdf
  obtain ⟨⟨⟨hwb,hzf⟩,hzt⟩,hext⟩:=hdf
  obtain ⟨hEnt,hDf⟩:=En.df _ _ hwr
  obtain ⟨_,z',_,_,hzc,_,hzs,_⟩:=hrow.info
  have hn':(gL (gStOf g { cx with s:=nm.n 1 } fs.tagged (nm.n 3) (nm.n 4) (nm.sub 0) (gFds g { cx with s:=nm.n 1 } fs (nm.sub 0).s) (gTagd g { cx with s:=nm.n 1 } fs (nm.sub 0).s)) (n + 3 + 2 + 1)).2<=a.tmps.size:=by
   simp only [gEl] at hn
   rw [jg_] at hn
   exact hn
  have hup:=up_gStOf (g:=g) (cx:={ cx with s:=nm.n 1 }) (tagged:=fs.tagged) (T:=nm.n 3) (kt:=nm.n 4) (m:=nm.sub 0) (up_gFds g fs (nm.sub 0).s { cx with s:=nm.n 1 }) (up_gTagd g fs (nm.sub 0).s { cx with s:=nm.n 1 }) (n + 3 + 2 + 1)
  show LW P (zd_ y i (nm.n 0) F :: jx_ (nm.n 0) (nm.n 2) :: jb_ (nm.n 0) (nm.n 1) :: gStOf g { cx with s:=nm.n 1 } fs.tagged (nm.n 3) (nm.n 4) (nm.sub 0) (gFds g { cx with s:=nm.n 1 } fs (nm.sub 0).s) (gTagd g { cx with s:=nm.n 1 } fs (nm.sub 0).s)) n (Rt K E) a w
  refine qc_ (s_idxAddr (x:=6) (m:=m) (k0:=k0) (p:=p) (q:=0) hy hi hj hrow.und hrow.size (.inr ⟨hsl.1,hsl.2.2.1⟩) hle hk (by omega) (by omega) (by omega) (by omega) fun a1 hp1 hg1=>?_)
  rw [Nat.zero_add] at hg1
  have hs1:=hp1.size
  refine qc_ (s_default (x:=6) (m:=m) (k0:=k0) (B:=p) (O:=j * esz) (cur:=cur) (te:=te) hEnt hDf hg1 hp (fun q hq=>by have:=hwb q hq;omega) hle (by simp only [zd_,qq_];omega) (by simp only [zd_,qq_];omega) fun a2 w2 hp2 hsame2 hk2 hB2=>?_)
  simp only [zd_,qq_] at hp2 hsame2
  have hs2:=hp2.size
  have hg2:a2.get (nm.n 0)=pt p (j * esz):=(hsame2 _ (by omega)).trans hg1
  refine qc_ (s_move (x:=6) (m:=m) (k0:=k0) (.inr ⟨hsl.2.1,hsl.2.2.2.1⟩) hle (by simp only [zd_,jx_,qq_];omega) (by simp only [zd_,jx_,qq_];omega) (by omega) fun a3 hp3 hg3=>?_)
  simp only [zd_,jx_,jb_,qq_] at hp3 ⊢
  have hs3:=hp3.size
  have hp03:Pv 6 m k0 n a a3:=(hp1.trans (hp2.mono (Nat.le_refl _) (by omega))).trans (hp3.mono (Nat.le_refl _) (by omega))
  have hwbz:∀ q ∈ wr,q.1 < z.size:=fun q hq=>by rw [hzs];exact hwb q hq
  have hcz:∀ t,t < z.size->cur[j * esz + t]?=z[t]?:=fun t ht=>by
   obtain ⟨u,hu⟩:∃ u,z[t]?=some u:=⟨z[t],by simp [ht]⟩
   have:=hz t u hu
   rw [hu]
   simpa [World.cell?,hp] using this
  have hZ2:=hasZ_default hcz (by rw [hzs];omega) hwbz hB2
  have hb2:Blk w2 p (j * esz + fs.ext (za_ toff)) te:=⟨_,hB2,by rw [jn_];omega⟩
  have hrd2:RdS w2 g.tR S R r:=hrc.rd.keep hk2 (fun h=>hpS h.symm) (fun h=>hpR h.symm)
  obtain ⟨t',x',he'⟩:=hrc.err
  have herr2:ErrAt g.gErr w2:=ErrAt.keep ⟨t',x',he'⟩ hk2 hpg
  have hrc3:RC g { cx with s:=nm.n 1 } fx ver S R p (j * esz) r a3 w2:=
   ⟨hrd2,(hp03.get _ hc.b.2 (.inl hc.b.1)).trans hrc.sb,hg3.trans hg2,(hp03.get _ hc.ver.2 (.inl hc.ver.1)).trans hrc.sv,fun hf=>(hp03.get _ hc.fx.2 (.inl hc.fx.1)).trans (hrc.sf hf),hrc.nf,(hp03.get 2 (by omega) (.inl (by omega))).trans hrc.su,herr2,hrc.SR,hpR,hpS,hrc.gR,hpg,
    Nat.lt_of_lt_of_le hrc.Slt hk2.size⟩
  have hm1:nm.n 0 < max (nm.n 0) (nm.n 1) + 1/\nm.n 1 < max (nm.n 0) (nm.n 1) + 1/\max (nm.n 0) (nm.n 1) + 1<=k0:=by omega
  have hc3:CxOk { cx with s:=nm.n 1 } (max (nm.n 0) (nm.n 1) + 1) k0:=
   ⟨⟨by have:=hc.b;simp only;omega,hc.b.2⟩,⟨hm1.2.1,by simp only;omega⟩,⟨by have:=hc.ver;simp only;omega,hc.ver.2⟩,⟨by have:=hc.fx;simp only;omega,hc.fx.2⟩,by omega,hm1.2.2⟩
  have hev2:Evo R p (fun t=>j * esz<=t/\t < j * esz + esz) w w2:=by
   refine ⟨hk2.mono fun _ _ h=>.inr h,fun cs te' hcs=>?_⟩
   rw [hp] at hcs
   obtain ⟨rfl,rfl,_⟩:=Obj.cells.inj (Option.some.inj hcs)
   exact ⟨_,hB2,jn_ _ _ _,fun t ht=>applyWr_out _ _ _ _ fun q hq he=>ht (by have:=hwb q hq;omega)⟩
  refine hst (nm.sub 0) { cx with s:=nm.n 1 } fx ver S R p (j * esz) r (max (nm.n 0) (nm.n 1) + 1) k0 (n + 3 + 2 + 1) (nm.n 3) (nm.n 4) toff K E a3 w2 te hokst hrc3 hc3 hfl (by omega) (by omega) (by omega) hb2 ?_ ⟨fun v r' a4 w4 he hp4 hrd4 hev4 hv=>?_,fun he a4 w4 hp4 hif hk4=>?_,fun he=>?_⟩
  ·refine .inr ⟨fun X=>zFds_ok hZ2 X fs 0 hzf,?_⟩
   cases toff with
   | none=>trivial
   | some o=>exact hZ2.one hzt
  ·obtain ⟨vs,t,rfl,hF,hT⟩:=hv
   refine ho.ok _ r' a4 w4 he (hp03.trans (hp4.mono (by omega) (by omega))) hrd4 (hev2.trans (hev4.mono fun t ht=>by have:=zn_ext ht;omega)) fun X hX hS=>⟨vs,t,rfl,far_trans hF hk2.size X hX hS,far_trans hT hk2.size X hX hS⟩
  ·exact ho.err he a4 w4 (hp03.trans (hp4.mono (by omega) (by omega))) hif (hev2.keeps.trans hk4)
  ·exact ho.go he
 ·cases hdf
end
section
variable {P:Program} {g:G} {av:PF->Bool} {fl:Bool} {D:Nat->Option (List (Nat × Value))}
theorem rMany_step (f:RS->Out V) (k:Nat) (r:RS):rMany f (k + 1) r=(f r).bind fun v r=>(rMany f k r).bind fun vs r=>.ok (v :: vs) r:=rfl
def Part (f:RS->Out V) (L:Nat) (r0:RS) (vs:List V) (r:RS):Prop:=rMany f L r0=(rMany f (L - vs.length) r).bind fun us r=>.ok (vs++us) r
theorem Part.start (f:RS->Out V) (L:Nat) (r0:RS):Part f L r0 [] r0:=by
 simp only [Part,List.length_nil,Nat.sub_zero,List.nil_append]
 cases rMany f L r0 <;> rfl
theorem Part.step {f:RS->Out V} {L:Nat} {r0 r r':RS} {vs:List V} {v:V} (h:Part f L r0 vs r) (hl:vs.length < L) (hf:f r=.ok v r'):Part f L r0 (vs++[v]) r':=by
 unfold Part at h ⊢
 rw [h]
 obtain ⟨k,hk⟩:∃ k,L - vs.length=k + 1:=⟨L - vs.length - 1,by omega⟩
 have hk2:L - (vs++[v]).length=k:=by simp;omega
 rw [hk,hk2,rMany_step,hf]
 simp only [Out.bind]
 cases rMany f k r' <;> simp
theorem Part.fail {f:RS->Out V} {L:Nat} {r0 r:RS} {vs:List V} (h:Part f L r0 vs r) (hl:vs.length < L):(f r=.err->rMany f L r0=.err)/\(f r=.stuck->rMany f L r0=.stuck):=by
 unfold Part at h
 obtain ⟨k,hk⟩:∃ k,L - vs.length=k + 1:=⟨L - vs.length - 1,by omega⟩
 rw [h,hk,rMany_step]
 exact ⟨fun hf=>by rw [hf];rfl,fun hf=>by rw [hf];rfl⟩
theorem Part.done {f:RS->Out V} {L:Nat} {r0 r:RS} {vs:List V} (h:Part f L r0 vs r) (hl:vs.length=L):rMany f L r0=.ok vs r:=by
 unfold Part at h
 rw [h,hl,Nat.sub_self]
 simp [rMany,Out.bind]
theorem list_tail {cx:Cx} {fx:Bool} {ver:Int} {S R B O:Nat} {r r':RS} {m k0 n n0 T k F off v y:Nat} {sl:Value} {K E:Act->World->Prop} {a0 a1:Act} {w0 w1:World} {te:Nat} (hF:FldIs P T k F off false 1) (hrc:RC g cx fx ver S R B O r a0 w0) (hc:CxOk cx m k0) (hv:m<=v/\v < k0) (hk:k0<=n0) (hn0:n0<=n) (hn:n + 1 + 4<=a0.tmps.size)
  (hp:Pv 6 m k0 n0 a0 a1) (hy:a1.get y=sl) (_hyn:y < k0) (hsl:sl.oneCell'=true/\sl.cells=#[sl]) (hev:Evo R B (fun j=>O + off<=j/\j < O + off + 1) w0 w1) (hrd:RdS w1 g.tR S R r') (hb:Blk w0 B (O + off + 1) te)
  (h:∀ a' w',Pv 6 m k0 n0 a0 a'->RdS w' g.tR S R r'->Evo R B (fun j=>O + off<=j/\j < O + off + 1) w0 w'->Keeps (·=B) w1 w'->w'.cell? ⟨B,O + off,none⟩=some sl->K a' w') :
  LW P [jb_ y v,gStore none cx.s v T k F] n (Rt K E) a1 w1:=by
 have hs:=hp.size
 have hle:=hc.le
 obtain ⟨cur,hcu,hcus⟩:=hb.evo hev
 refine qc_ (s_move (x:=6) (m:=m) (k0:=k0) (.inr hv) hle (by omega) (by omega) (by omega) fun a2 hp2 hg2=>?_)
 have hs2:=hp2.size
 have hss:a2.get cx.s=pt B O:=((hp.trans (hp2.mono (Nat.le_refl _) hn0)).get _ hc.s.2 (.inl hc.s.1)).trans hrc.ss
 have hm1:(jb_ y v n).2=n + 1:=rfl
 rw [hm1]
 refine qc_ (s_store (x:=6) (m:=m) (k0:=k0) (cs:=[sl]) (cur:=cur) (te:=te) hss hF ⟨sl,by rw [hg2,hy],by rw [hsl.2]⟩ rfl (fun u hu=>by simp at hu;rw [hu];exact hsl.1) hcu hcus hle (by omega) (by omega) (by omega) fun a3 hp3=>ja_ ?_)
 have hevS:Evo R B (fun j=>O + off<=j/\j < O + off + 1) w1 (w1.setRow B (qr_ cur (O + off) [sl])):=Evo.store hcu (by simpa using hcus) (fun j ha hb=>⟨ha,by simpa using hb⟩)
 refine h a3 _ ((hp.trans (hp2.mono (Nat.le_refl _) hn0)).trans (hp3.mono (Nat.le_refl _) (by omega))) (hrd.keep (Keeps.setRow (fun k=>k=B) _ _ _ rfl) (fun h=>hrc.BS h.symm) (fun h=>hrc.BR h.symm)) (hev.trans hevS) (Keeps.setRow _ _ _ _ rfl) ?_
 rw [cell_setRow_same _ _ _ _ _ _ _ hcu]
 have:=jf_ (cur:=cur) (o:=O + off) (vs:=[sl]) (by simpa using hcus) 0 (by simp)
 simpa using this
def ListI (g:G) (S R p esz:Nat) (e:Ty) (f:RS->Out V) (L:Nat) (r0:RS) (c:Nat) (z:Array Value) (te:Nat) (wA:World) (j:Nat) (w:World):Prop:=
 ∃ (vs:List V) (r:RS),vs.length=j/\Part f L r0 vs r/\RdS w g.tR S R r/\Evo R p (fun t=>t < j * esz) wA w/\(∃ cur,w.heap[p]?=some (.cells cur te (0,0))/\cur.size=c * esz/\∀ q t,j<=q->q < L->t < esz->cur[q * esz + t]?=z[t]?) /\
  ∀ i v,vs[i]?=some v->FarA (· < wA.heap.size) S fun X=>Rp w X e p (i * esz) v
theorem list_body {e:Ty} {esz:Nat} (hel:RdEl P g av fl D e) (hez:e.sz<=esz) {nm:Nm} {cx:Cx} {fx:Bool} {ver:Int} {S R B O:Nat} {r0 r1:RS} {m k0 n:Nat} {z:Array Value} {y i F E' p c L j:Nat} {E:Act->World->Prop} {a a1:Act} {wA w1:World} {te:Nat}
  (hok:okEl ⟨P,g,av,D⟩ cx.hf (i + 1) k0 esz z e nm=true) (hrow:RowIs P F E' esz z) (hrc:RC g cx fx ver S R B O r0 a wA) (hc:CxOk cx m k0) (hfl:cx.hf=true->fl=true) (hk:k0<=n) (hks:k0<=a.tmps.size) (hn:(gL (gEl g cx e y i F nm) (n + 5)).2<=a.tmps.size) (hmi:m<=i) (hik:i < k0) (hyi:y < i) (hy6:y ≠ 6)
  (hp1:Pv 6 i k0 n a a1) (hy:a.get y=.slice (some ⟨p,0,none⟩) L c) (hi:a1.get i=.int .i32 j) (hj:j < L) (hLc:L<=c) (hpR:p ≠ R) (hpS:p ≠ S) (_hpB:p ≠ B) (hpg:g.gErr ≠ p) (hpA:p < wA.heap.size)
  (hI:ListI g S R p esz e (rdTy fx ver e (dfTy 0 e)) L r1 c z te wA j w1)
  (hE:rMany (rdTy fx ver e (dfTy 0 e)) L r1=.err->∀ a' w',Pv 6 m k0 n a a'->(∃ t y,a'.get 6=.iface t y)->Keeps (fun k=>k=R \/ k=p) wA w'->E a' w') (hgo:rMany (rdTy fx ver e (dfTy 0 e)) L r1 ≠ .stuck) :
  NWP P (gS (gEl g cx e y i F nm) (n + 5)).1 (Rt (fun a2 w2=>Pv 6 (i + 1) k0 (n + 5) a1 a2/\ListI g S R p esz e (rdTy fx ver e (dfTy 0 e)) L r1 c z te wA (j + 1) w2) E) a1 w1:=by
 obtain ⟨vs,r,hvl,hpart,hrd,hev,⟨cur,hcu,hcs,hcz⟩,hvs⟩:=hI
 have hs1:=hp1.size
 have h66:=hc.six
 obtain ⟨_,z',_,_,hzc,_,hzs,hpos,_⟩:=hrow.info
 have hRA:R < wA.heap.size:=hrc.rd.lt
 obtain ⟨t',x',he'⟩:=hrc.err
 have herr1:ErrAt g.gErr w1:=ErrAt.keep ⟨t',x',he'⟩ hev.keeps (fun h=>by rcases h with h | h;exact hrc.gR h;exact hpg h)
 have hrc1:RC g cx fx ver S R B O r a1 w1:=
  ⟨hrd,(hp1.get _ hc.b.2 (.inl (by have:=hc.b;omega))).trans hrc.sb,(hp1.get _ hc.s.2 (.inl (by have:=hc.s;omega))).trans hrc.ss,(hp1.get _ hc.ver.2 (.inl (by have:=hc.ver;omega))).trans hrc.sv,fun hf=>(hp1.get _ hc.fx.2 (.inl (by have:=hc.fx;omega))).trans (hrc.sf hf),hrc.nf,
   (hp1.get 2 (by omega) (.inl (by omega))).trans hrc.su,herr1,hrc.SR,hrc.BR,hrc.BS,hrc.gR,hrc.gB,Nat.lt_of_lt_of_le hrc.Slt hev.keeps.size⟩
 have hci:CxOk cx (i + 1) k0:=cxOk_up hc (by omega) (by omega)
 have hjb:j * esz + esz<=c * esz:=by
  have:(j + 1) * esz<=c * esz:=Nat.mul_le_mul_right _ (by omega)
  rw [Nat.add_mul,Nat.one_mul] at this
  exact this
 have hZ:HasZ w1 p (j * esz) z:=fun t v ht=>by
  have htl:t < esz:=by rw [<- hzs];exact (Array.getElem?_eq_some_iff.1 ht).1
  have:=hcz j t (Nat.le_refl _) hj htl
  rw [ht] at this
  simpa [World.cell?,hcu] using this
 have hbk:Blk w1 p (j * esz) te:=⟨cur,hcu,by omega⟩
 refine q4_ (hel nm cx fx ver S R B O r (i + 1) k0 (n + 5) esz z y i F E' p L c j cur _ E a1 w1 te hok hrow hrc1 hci hfl (by omega) (by omega) (by omega) ((hp1.get y hy6 (.inl hyi)).trans hy) hi hj (by omega) (by omega) hy6 (by omega) hcu (by omega) hZ hpR hpS hpg
  ⟨fun v r' a2 w2 he hp2 hrd2 hev2 hv=>⟨hp2,?_⟩,fun he a2 w2 hp2 hif hk2=>?_,fun he=>?_⟩)
 ·refine ⟨vs++[v],r',by simp [hvl],hpart.step (by omega) he,hrd2,(hev.mono fun t ht=>?_).trans (hev2.mono fun t ht=>?_),?_,fun q u hq=>?_⟩
  ·rw [Nat.add_mul,Nat.one_mul];omega
  ·rw [Nat.add_mul,Nat.one_mul];omega
  ·obtain ⟨cs2,h1,h2,h3⟩:=hev2.blk cur te hcu
   refine ⟨cs2,h1,by omega,fun q t hq hqL ht=>?_⟩
   rw [h3 _ (fun hh=>by
    have:(j + 1) * esz<=q * esz:=Nat.mul_le_mul_right _ hq
    rw [Nat.add_mul,Nat.one_mul] at this
    omega)]
   exact hcz q t (by omega) hqL ht
  ·rcases Nat.lt_or_ge q vs.length with hlt | hge
   ·rw [List.getElem?_append_left hlt] at hq
    refine Rp.evoA hev2 hRA hpA hrc.SR.symm hpS hbk (hvs q u hq) (fun t ht1 ht2 hh=>?_)
    have:(q + 1) * esz<=j * esz:=Nat.mul_le_mul_right _ (by omega)
    rw [Nat.add_mul,Nat.one_mul] at this
    omega
   ·have hq0:q=vs.length:=by
     have:=(List.getElem?_eq_some_iff.1 hq).1
     simp at this
     omega
    subst hq0
    rw [List.getElem?_append_right (Nat.le_refl _),Nat.sub_self] at hq
    obtain rfl:v=u:=by simpa using hq
    rw [hvl]
    exact far_trans hv hev.keeps.size
 ·exact hE ((hpart.fail (by omega)).1 he) a2 w2 ((hp1.mono hmi (Nat.le_refl _)).trans (hp2.mono (by omega) (by omega))) hif (hev.keeps.trans hk2)
 ·exact hgo ((hpart.fail (by omega)).2 he)
end
section
variable {P:Program} {g:G} {av:PF->Bool} {fl:Bool} {D:Nat->Option (List (Nat × Value))}
theorem ty_list (K0:KB P g av fl) {nul:Option Nat} {esz:Nat} {e:Ty} (hel:RdEl P g av fl D e) (hez:∀ hf m k0 z nm,okEl ⟨P,g,av,D⟩ hf m k0 esz z e nm=true->e.sz<=esz):RdTy P g av fl D (.list nul esz e):=by
 intro nm cx fx ver S R B O r m k0 n T off old K E a w te hok hrc hc hfl hk hks hn hb hold ho
 simp only [okTy,Bool.and_eq_true,decide_eq_true_eq,beq_iff_eq] at hok
 obtain ⟨⟨⟨hsl,hT⟩,hF⟩,hrow⟩:=hok
 subst hT
 replace hF:=fldB_ok hF
 split at hrow
 ·rename_i E' sz z hrowE
  simp only [Bool.and_eq_true,beq_iff_eq] at hrow
  obtain ⟨⟨rfl,hokE⟩,hhl⟩:=hrow
  have hho:j2_ g.ok=true:=by simp only [hasLst,Bool.and_eq_true] at hhl;exact hhl.1.2
  have hrow:=rowOf_ok hrowE
  have hRw:R < w.heap.size:=hrc.rd.lt
  have hBw:B < w.heap.size:=hb.lt
  have hle:=hc.le
  have h66:=hc.six
  have hvm:=hc.ver
  have hnul:old.isNul=true:=by
   cases h:old.isNul with
   | true=>rfl
   | false=>exact absurd (by simp only [rdTy,h];rfl) ho.go
  have hcell:w.cell? ⟨B,O + off,none⟩=some (.slice none 0 0):=by
   rcases hold with ⟨h,_⟩ | ⟨xs,p,q,c,_,_,_,_,_,h,_⟩
   ·exact h
   ·rw [h] at hnul;cases hnul
  have hrs:rdTy fx ver (.list nul sz e) old r=(if (j1_ fx r).2.bad then .err else if !roomy (j1_ fx r).1 sz then .stuck else if (j1_ fx r).1<=0 then .ok (if nul.isSome && (decide ((j1_ fx r).1=0) || !nullable nul ver) then .l [] else .nul) (j1_ fx r).2
    else (rMany (rdTy fx ver e (dfTy 0 e)) (j1_ fx r).1.toNat (j1_ fx r).2).bind fun vs r=>.ok (.l vs) r):=by
   simp only [rdTy,hnul];rfl
  rw [hrs] at ho
  have hLlt:=rLen_lt fx r
  generalize hv:nm.n 0=v at *
  generalize hy:nm.n 4=y at *
  generalize hl:nm.n 5=l at *
  generalize hi:nm.n 6=i at *
  generalize hFF:nm.n 3=F at *
  have hn':(gL (gEl g cx e y i F (nm.sub 0)) ((gL (gNull g cx nul y l F) ((if cx.hf then gFx cx (qm_ g.clen cx.b l) (qm_ g.len cx.b l) else qm_ g.len cx.b l:GC) (n + 5)).2).2 + 15)).2 + 5<=a.tmps.size:=by
   have h:=hn
   simp only [gTy] at h
   rw [jg_,jg_,hv,hy,hl,hi,hFF] at h
   exact h
  have hupL:Up (if cx.hf then gFx cx (qm_ g.clen cx.b l) (qm_ g.len cx.b l) else qm_ g.len cx.b l:GC):=up_ite (j3_ (qi_ _ _) (qi_ _ _)) (qi_ _ _)
  have hupL':=hupL (n + 5)
  have hupN':=up_gNull g cx nul y l F ((if cx.hf then gFx cx (qm_ g.clen cx.b l) (qm_ g.len cx.b l) else qm_ g.len cx.b l:GC) (n + 5)).2
  have hupE':=up_gEl g e (nm.sub 0) cx y i F ((gL (gNull g cx nul y l F) ((if cx.hf then gFx cx (qm_ g.clen cx.b l) (qm_ g.len cx.b l) else qm_ g.len cx.b l:GC) (n + 5)).2).2 + 15)
  have hgoal:LW P (gLoad cx.s v (nm.n 1) (nm.n 2) F :: jb_ v y :: ji_ l (.int .i32 0) :: (if cx.hf then gFx cx (qm_ g.clen cx.b l) (qm_ g.len cx.b l) else qm_ g.len cx.b l:GC) :: (gNull g cx nul y l F ++
    [gOkChk g cx,gSl0 y F,gGrow g y l F,gFor g i l (nm.n 7) (nm.n 8) (gS (gEl g cx e y i F (nm.sub 0))),jb_ y v,gStore none cx.s v (nm.n 1) (nm.n 2) F])) n (Rt K E) a w:=by
   refine qc_ (s_load (x:=6) (m:=m) (k0:=k0) (O:=O) hrc.ss hF hcell (.inr ⟨hsl.1,by omega⟩) hle hk (by omega) (by omega) fun a1 hp1 hg1=>?_)
   have hs1:=hp1.size
   rw [show (gLoad cx.s v (nm.n 1) (nm.n 2) F n).2=n + 4 from rfl]
   refine qc_ (s_move (x:=6) (m:=m) (k0:=k0) (.inr ⟨by omega,by omega⟩) hle (by omega) (by omega) (by omega) fun a2 hp2 hg2=>?_)
   have hs2:=hp2.size
   rw [hg1] at hg2
   rw [show (jb_ v y (n + 4)).2=n + 5 from rfl]
   refine qc_ (s_set (x:=l) (m:=k0) (k0:=k0) (n:=n + 5) (.inl rfl) (by omega) fun a3 hp3 _=>?_)
   have hs3:=hp3.size
   have hg3:a3.get y=.slice none 0 0:=(hp3.get y (by omega) (.inl (by omega))).trans hg2
   have hp03:Pv 6 m k0 n a a3:=(hp1.trans (hp2.mono (Nat.le_refl _) (by omega))).trans ((hp3.weak ⟨by omega,by omega⟩).mono (Nat.le_refl _) (by omega))
   have hrc3:RC g cx fx ver S R B O r a3 w:=hrc.step hc hp03 hrc.rd (Keeps.refl (fun _=>False) w) (fun _ _ h=>h.elim)
   rw [show (ji_ l (.int .i32 0) (n + 5)).2=n + 5 from rfl]
   refine qc_ (s_len (m:=l) (k0:=k0) K0 hhl hfl hrc3 (cxOk_up hc (by omega) (by omega)) ⟨Nat.le_refl _,by omega⟩ (by omega) (by omega) fun a4 w4 hp4 hg4 hrd4 hk4=>?_)
   have hs4:=hp4.size
   have hy4:a4.get y=.slice none 0 0:=(hp4.get y (by omega) (.inl (by omega))).trans hg3
   have hp04:Pv 6 m k0 n a a4:=hp03.trans (hp4.mono (by omega) (by omega))
   have hrc4:RC g cx fx ver S R B O (j1_ fx r).2 a4 w4:=hrc.step hc hp04 hrd4 hk4 (fun _ _ h=>.inl h)
   generalize hLv:(j1_ fx r).1=L at *
   generalize hr1:(j1_ fx r).2=r1 at *
   generalize hnL:((if cx.hf then gFx cx (qm_ g.clen cx.b l) (qm_ g.len cx.b l) else qm_ g.len cx.b l:GC) (n + 5)).2=nL at *
   refine s_null (x:=6) (m:=y) (k0:=k0) (ver:=ver) hrc4.sv hy4 hg4 hrow ⟨Nat.le_refl _,by omega⟩ (by omega) (by omega) (by omega) (by omega) (by omega) (by omega) (by omega) (by omega) fun a5 w5 base hp5 hk5 hy5 hg5 hbase hbs=>?_
   have hs5:=hp5.size
   generalize hnN:(gL (gNull g cx nul y l F) nL).2=nN at *
   have hp05:Pv 6 m k0 n a a5:=hp04.trans (hp5.mono (by omega) (by omega))
   have hk05:Keeps (·=R) w w5:=hk4.trans (hk5.mono fun _ _ h=>h.elim)
   have hrc5:RC g cx fx ver S R B O r1 a5 w5:=hrc.step hc hp05 (hrd4.keep hk5 id id) hk05 (fun _ _ h=>.inl h)
   refine qc_ ?_
   rw [qt_]
   refine s_okChk (m:=i) (k0:=k0) K0 hho hrc5 (cxOk_up hc (by omega) (by omega)) (by omega) (by omega) (fun hbad a6 w6 hp6 hif hk6=>?_) (fun hgood a6 w6 hp6 hk6=>?_)
   ·exact ho.err (by rw [hbad];rfl) a6 w6 (hp05.trans (hp6.mono (by omega) (by omega))) hif ((hk05.trans (hk6.mono fun _ _ h=>h.elim)).mono fun _ _ h=>.inl h)
   have hs6:=hp6.size
   have hp06:Pv 6 m k0 n a a6:=hp05.trans (hp6.mono (by omega) (by omega))
   have hy6':a6.get y=.slice base 0 0:=(hp6.get y (by omega) (.inl (by omega))).trans hy5
   have hl6':a6.get l=.int .i32 L:=(hp6.get l (by omega) (.inl (by omega))).trans hg5
   have hk06:Keeps (·=R) w w6:=hk05.trans (hk6.mono fun _ _ h=>h.elim)
   have hrd6:RdS w6 g.tR S R r1:=hrc5.rd.keep hk6 id id
   rw [hgood] at ho
   have hroom:roomy L sz=true:=by
    cases h:roomy L sz with
    | true=>rfl
    | false=>exact absurd (by rw [h];rfl) ho.go
   rw [hroom] at ho
   simp only [Bool.false_eq_true,if_false,Bool.not_true] at ho
   rw [show (gOkChk g cx nN).2=nN + 3 from rfl]
   refine qc_ (s_sl0 (x:=y) (m:=k0) (k0:=k0) hy6' hrow.und hrow.size (.inl rfl) (Nat.le_refl _) (by omega) (by omega) (by omega) fun a7 hp7 hy7=>?_)
   have hs7:=hp7.size
   have hl7:a7.get l=.int .i32 L:=(hp7.get l (by omega) (.inl (by omega))).trans hl6'
   rw [show (gSl0 y F (nN + 3)).2=nN + 5 from rfl]
   have hp07:Pv 6 m k0 n a a7:=hp06.trans ((hp7.weak ⟨by omega,by omega⟩).mono (Nat.le_refl _) (by omega))
   refine qc_ (s_grow (x:=y) (m:=k0) (k0:=k0) K0 hy7 hl7 hrow hLlt hroom (.inl rfl) (by omega) (Nat.le_refl _) (by omega) (by omega) (by omega) (fun hL a8 hp8 hy8=>?_) (fun hL a8 c cs hp8 hLc hcm hcs hcz hy8=>?_))
   ·-- nothing there
    have hs8:=hp8.size
    have hl8:a8.get l=.int .i32 L:=(hp8.get l (by omega) (.inl (by omega))).trans hl7
    have hp08:Pv 6 m k0 n a a8:=hp07.trans ((hp8.weak ⟨by omega,by omega⟩).mono (Nat.le_refl _) (by omega))
    rw [show (gGrow g y l F (nN + 5)).2=nN + 10 from rfl]
    refine qc_ ?_
    rw [qt_]
    refine s_for (m:=m) (k0:=k0) (L:=L) ⟨by omega,by omega⟩ (by omega) (by omega) (by omega) hle (by omega) (by omega) hl8 hLlt (fun _ w'=>w'=w6) rfl (fun j a9 w9 hj=>by omega) fun a9 w9 hp9 hw9=>?_
    subst hw9
    have hev:Evo R B (fun j=>O + off<=j/\j < O + off + 1) w w9:=Evo.of_keeps hk06 (fun _ _ h=>h) hrc.BR
    have hy9:a9.get y=.slice base 0 0:=(hp9.get y (by omega) (.inl (by omega))).trans hy8
    have hone:(Value.slice base 0 0).oneCell'=true/\(Value.slice base 0 0).cells=#[.slice base 0 0]:=⟨rfl,rfl⟩
    rw [show (gFor g i l (nm.n 7) (nm.n 8) (gS (gEl g cx e y i F (nm.sub 0))) (nN + 10)).2=(gL (gEl g cx e y i F (nm.sub 0)) (nN + 15)).2 from rfl]
    refine list_tail (n0:=n) hF hrc hc ⟨hsl.1,by omega⟩ hk (by omega) (by omega) (hp08.trans (hp9.mono (by omega) (by omega))) hy9 (by omega) hone hev hrd6 hb fun a10 w10 hp10 hrd10 hev10 hk10 hcell10=>?_
    refine ho.ok _ r1 a10 w10 (by rw [if_pos hL]) hp10 hrd10 hev10 fun X hX hS=>?_
    rw [<- hbs]
    rcases hbase with rfl | ⟨p,rfl,hp,hp2⟩
    ·exact .inl ⟨hcell10,rfl⟩
    ·refine .inr ⟨[],p,0,0,hcell10,fun hXp=>?_,?_,Nat.le_refl _,by simp,rfl,fun i x hx=>by simp at hx⟩
     ·have:=hX p hXp
      have:=hk4.size
      omega
     ·have:=hk6.size
      have:=hk10.size
      omega
   ·-- so many elements
    have hs8:=hp8.size
    have hl8:a8.get l=.int .i32 L:=(hp8.get l (by omega) (.inl (by omega))).trans hl7
    have hp08:Pv 6 m k0 n a a8:=hp07.trans ((hp8.weak ⟨by omega,by omega⟩).mono (Nat.le_refl _) (by omega))
    rw [show (gGrow g y l F (nN + 5)).2=nN + 10 from rfl]
    rw [if_neg (by omega)] at ho
    have hkA:Keeps (fun _=>False) w6 (w6.drew.alloc (.cells cs E' (0,0))):=(Keeps.drew _ _).trans (Keeps.alloc _ _ _)
    have hsz6:=hk06.size
    have hAsz:(w6.drew.alloc (.cells cs E' (0,0))).heap.size=w6.heap.size + 1:=by simp
    have hpc:(w6.drew.alloc (.cells cs E' (0,0))).heap[w6.heap.size]?=some (.cells cs E' (0,0)):=heap_alloc_new w6.drew _
    have hk0A:Keeps (·=R) w (w6.drew.alloc (.cells cs E' (0,0))):=hk06.trans (hkA.mono fun _ _ h=>h.elim)
    have hrdA:RdS (w6.drew.alloc (.cells cs E' (0,0))) g.tR S R r1:=hrd6.keep hkA id id
    have hrcA:RC g cx fx ver S R B O r1 a8 (w6.drew.alloc (.cells cs E' (0,0))):=hrc.step hc hp08 hrdA hk0A (fun _ _ h=>.inl h)
    obtain ⟨t',x',he'⟩:=hrc.err
    have hgl:=j8_ he'
    have hSlt:=hrc.Slt
    generalize hwA:w6.drew.alloc (.cells cs E' (0,0))=wA at *
    refine qc_ ?_
    rw [qt_]
    refine s_for (m:=m) (k0:=k0) (L:=L) ⟨by omega,by omega⟩ (by omega) (by omega) (by omega) hle (by omega) (by omega) hl8 hLlt (ListI g S R w6.heap.size sz e (rdTy fx ver e (dfTy 0 e)) L.toNat r1 c z E' wA) ?_ (fun j a9 w9 hj hp9 hi9 hI=>?_) fun a9 w9 hp9 hI=>?_
    ·exact ⟨[],r1,rfl,Part.start _ _ _,hrdA,Evo.refl _ _ _ _,⟨cs,hpc,hcs,fun q t _ hq ht=>hcz q t hq ht⟩,fun i v hv=>by simp at hv⟩
    ·refine list_body (B:=B) (O:=O) (r0:=r1) (m:=m) (te:=E') hel (hez _ _ _ _ _ hokE) hokE hrow hrcA hc hfl (by omega) (by omega) (by rw [show nN + 10 + 5=nN + 15 from rfl];omega) (by omega) (by omega) (by omega) (by omega) hp9 hy8 hi9 hj hLc (by omega) (by omega) (by omega) (by omega) (by omega) hI (fun he a10 w10 hp10 hif hk10=>?_) (fun he=>?_)
     ·refine ho.err (by rw [he];rfl) a10 w10 (hp08.trans (hp10.mono (Nat.le_refl _) (by omega))) hif ?_
      exact ⟨hk10.os.trans hk0A.os,hk10.tape.trans hk0A.tape,hk10.output.trans hk0A.output,Nat.le_trans hk0A.size hk10.size,fun q hq hx=>by
       rw [hk10.block q (by omega) (fun h=>by rcases h with h | h;exact hx (.inl h);omega),hk0A.block q hq (fun h=>hx (.inl h))]⟩
     ·exact ho.go (by rw [he];rfl)
    ·obtain ⟨vs,r2,hvl,hpart,hrd9,hev9,⟨cur9,hcu9,_,_⟩,hvs⟩:=hI
     have hsz9:=hev9.keeps.size
     have hev:Evo R B (fun j=>O + off<=j/\j < O + off + 1) w w9:=
      ⟨⟨hev9.keeps.os.trans hk0A.os,hev9.keeps.tape.trans hk0A.tape,hev9.keeps.output.trans hk0A.output,Nat.le_trans hk0A.size hsz9,fun q hq hx=>by
       rw [hev9.keeps.block q (by omega) (fun h=>by rcases h with h | h;exact hx (.inl h);omega),hk0A.block q hq (fun h=>hx (.inl h))]⟩,fun cs' te' hc'=>⟨cs',by
       have hBR:=hrc.BR
       rw [hev9.keeps.block B (by omega) (fun h=>by rcases h with h | h;exact hBR h;omega),hk0A.block B hBw hBR];exact hc',rfl,fun _ _=>rfl⟩⟩
     have hy9:a9.get y=.slice (some ⟨w6.heap.size,0,none⟩) L.toNat c:=(hp9.get y (by omega) (.inl (by omega))).trans hy8
     have hone:(Value.slice (some ⟨w6.heap.size,0,none⟩) L.toNat c).oneCell'=true/\(Value.slice (some ⟨w6.heap.size,0,none⟩) L.toNat c).cells=#[.slice (some ⟨w6.heap.size,0,none⟩) L.toNat c]:=⟨rfl,rfl⟩
     rw [show (gFor g i l (nm.n 7) (nm.n 8) (gS (gEl g cx e y i F (nm.sub 0))) (nN + 10)).2=(gL (gEl g cx e y i F (nm.sub 0)) (nN + 15)).2 from rfl]
     refine list_tail (n0:=n) hF hrc hc ⟨hsl.1,by omega⟩ hk (by omega) (by omega) (hp08.trans (hp9.mono (by omega) (by omega))) hy9 (by omega) hone hev hrd9 hb fun a10 w10 hp10 hrd10 hev10 hk10 hcell10=>?_
     refine ho.ok (.l vs) r2 a10 w10 (by rw [hpart.done hvl];rfl) hp10 hrd10 hev10 fun X hX hS=>.inr ⟨vs,w6.heap.size,0,c,by rw [hvl];exact hcell10,fun hXp=>?_,?_,by omega,hcm,rfl,fun q u hu=>?_⟩
     ·have:=hX _ hXp
      omega
     ·have:=hk10.size
      omega
     ·have h1:=hvs q u hu (fun k=>X k \/ k=B) (fun k hk=>by
       rcases hk with hk | rfl
       ·have:=hX k hk
        omega
       ·omega) (fun hk=>by rcases hk with hk | hk;exact hS hk;exact hrc.BS hk.symm)
      rw [Nat.zero_add]
      refine Rp.mono (fun k _ hk=>.inl hk) _ _ _ _ (Rp.keep (hk10.mono fun k _ hk=>.inr hk) h1 (fun hk=>?_) (by omega))
      rcases hk with hk | hk
      ·have:=hX _ hk
       omega
      ·omega
  have hdef:gTy g cx (.list nul sz e) nm=gLoad cx.s v (nm.n 1) (nm.n 2) F :: jb_ v y :: ji_ l (.int .i32 0) :: (if cx.hf then gFx cx (qm_ g.clen cx.b l) (qm_ g.len cx.b l) else qm_ g.len cx.b l:GC) :: (gNull g cx nul y l F ++
    [gOkChk g cx,gSl0 y F,gGrow g y l F,gFor g i l (nm.n 7) (nm.n 8) (gS (gEl g cx e y i F (nm.sub 0))),jb_ y v,gStore none cx.s v (nm.n 1) (nm.n 2) F]):=by
   simp only [gTy,hv,hy,hl,hi,hFF]
   simp
  rw [hdef]
  exact hgoal
 ·cases hrow
end
section
variable {P:Program} {g:G} {av:PF->Bool} {fl:Bool} {D:Nat->Option (List (Nat × Value))}
theorem Keeps.inner {R B p:Nat} {w w1 w2:World} (h:Keeps (fun k=>k=R \/ k=B) w w1) (k:Keeps (fun k=>k=R \/ k=p) w1 w2) (hp:w.heap.size<=p):Keeps (fun k=>k=R \/ k=B) w w2:=
 ⟨k.os.trans h.os,k.tape.trans h.tape,k.output.trans h.output,Nat.le_trans h.size k.size,fun q hq hx=>by
  rw [k.block q (Nat.lt_of_lt_of_le hq h.size) (fun hh=>by rcases hh with hh | hh;exact hx (.inl hh);omega),h.block q hq hx]⟩
theorem applyWr_same {O:Nat}:∀ (wr:List (Nat × Value)) (cur:Array Value),(∀ q ∈ wr,cur[O + q.1]?=some q.2)->applyWr cur O wr=cur
 | [],_,_=>rfl
 | p :: r,cur,h=>by
  have e:cur.setIfInBounds (O + p.1) p.2=cur:=by
   have hp:=h p (by simp)
   refine Array.ext (by simp) fun i h1 h2=>?_
   rw [Array.getElem_setIfInBounds h2]
   split
   ·rename_i hi
    subst hi
    exact ((Array.getElem?_eq_some_iff.1 hp).2).symm
   ·rfl
  show applyWr (cur.setIfInBounds (O + p.1) p.2) O r=cur
  rw [e]
  exact applyWr_same r cur fun q hq=>h q (by simp [hq])
theorem wrFits_cell {w:World} {p:Nat × Value}:∀ (fs:Fds) (X:Nat->Prop) (B o:Nat),RpF w X fs B o (dfFds fs)->wrFits p fs=true->∃ v,w.cell? ⟨B,o + p.1,none⟩=some v/\v=p.2
 | .nil,_,_,_,_,h=>by cases h
 | .cons lo hi tag df off ty r,X,B,o,hr,h=>by
  obtain ⟨v0,vs0,he,hv,hrs⟩:=hr
  cases he
  simp only [wrFits,Bool.or_eq_true] at h
  rcases h with h | h
  ·cases ty with
   | prim q=>
    cases q
    case uuid=>cases h
    case bool=>
     simp only [Bool.and_eq_true,Bool.or_eq_true,beq_iff_eq] at h
     obtain ⟨rfl,h2⟩:=h
     obtain ⟨cs,hc,b,rfl,hb⟩:=hv
     refine ⟨_,hc 0 _ rfl,?_⟩
     simp only [dfTy,V.n.injEq] at hb
     rcases h2 with ⟨rfl,h2⟩ | ⟨rfl,h2⟩
     ·rw [eqV_ok h2]
      cases b <;> simp at hb ⊢
     ·rw [eqV_ok h2]
      cases b <;> simp at hb ⊢
    all_goals
     simp only [Bool.and_eq_true,beq_iff_eq] at h
     obtain ⟨rfl,h2⟩:=h
     obtain ⟨cs,hc,x,rfl,hx,_⟩:=hv
     refine ⟨_,hc 0 _ rfl,?_⟩
     simp only [dfTy,V.n.injEq] at hx
     rw [eqV_ok h2,hx]
   | str _=>cases h
   | bytes _=>cases h
   | list _ _ _=>cases h
   | struct _ _ _=>cases h
  ·exact wrFits_cell r X B o hrs h
theorem ty_inl (En:Env P g av fl D) {toff:Option Nat} {fs:Fds} (hst:RdSt P g av fl D fs):RdTy P g av fl D (.struct none toff fs):=by
 intro nm cx fx ver S R B O r m k0 n T off old K E a w te hok hrc hc hfl hk hks hn hb hold ho
 simp only [okTy,Bool.and_eq_true,decide_eq_true_eq,beq_iff_eq] at hok
 obtain ⟨⟨⟨⟨hsl,hT⟩,hF⟩,hdf⟩,hokst⟩:=hok
 subst hT
 replace hF:=fldB_ok hF
 split at hdf
 ·rename_i wr hwr
  simp only [Bool.and_eq_true,decide_eq_true_eq,List.all_eq_true] at hdf
  have hwf:=fun q hq=>(hdf q hq).2
  replace hdf:=fun q hq=>(hdf q hq).1
  obtain ⟨hEnt,hDf⟩:=En.df _ _ hwr
  have hRw:R < w.heap.size:=hrc.rd.lt
  have hBw:B < w.heap.size:=hb.lt
  have hle:=hc.le
  have h66:=hc.six
  have hn':(gL (gStOf g { cx with s:=nm.n 3 } fs.tagged (nm.n 5) (nm.n 6) (nm.sub 0) (gFds g { cx with s:=nm.n 3 } fs (nm.sub 0).s) (gTagd g { cx with s:=nm.n 3 } fs (nm.sub 0).s)) (n + 3 + 2 + 1)).2<=a.tmps.size:=by
   simp only [gTy] at hn
   rw [jg_] at hn
   exact hn
  have hup:=up_gStOf (g:=g) (cx:={ cx with s:=nm.n 3 }) (tagged:=fs.tagged) (T:=nm.n 5) (kt:=nm.n 6) (m:=nm.sub 0) (up_gFds g fs (nm.sub 0).s { cx with s:=nm.n 3 }) (up_gTagd g fs (nm.sub 0).s { cx with s:=nm.n 3 }) (n + 3 + 2 + 1)
  have hsz:(Ty.struct none toff fs).sz=fs.ext (za_ toff):=rfl
  obtain ⟨cur,hcu,hcus⟩:=hb
  rw [hsz] at hcus
  show LW P (gFieldAddr cx.s (nm.n 0) (nm.n 1) (nm.n 2) :: jx_ (nm.n 0) (nm.n 4) :: jb_ (nm.n 0) (nm.n 3) :: gStOf g { cx with s:=nm.n 3 } fs.tagged (nm.n 5) (nm.n 6) (nm.sub 0) (gFds g { cx with s:=nm.n 3 } fs (nm.sub 0).s) (gTagd g { cx with s:=nm.n 3 } fs (nm.sub 0).s)) n (Rt K E) a w
  refine qc_ (s_fieldAddr (x:=6) (m:=m) (k0:=k0) (B:=B) (O:=O) hrc.ss hF (.inr ⟨hsl.1,by omega⟩) hle hk (by omega) (by omega) fun a1 hp1 hg1=>?_)
  have hs1:=hp1.size
  rw [show (gFieldAddr cx.s (nm.n 0) (nm.n 1) (nm.n 2) n).2=n + 3 from rfl]
  refine qc_ (s_default (x:=6) (m:=m) (k0:=k0) (B:=B) (O:=O + off) (cur:=cur) (te:=te) hEnt hDf hg1 hcu (fun q hq=>by have:=hdf q hq;omega) hle (by omega) (by omega) fun a2 w2 hp2 hsame2 hk2 hB2=>?_)
  have hs2:=hp2.size
  have hg2:a2.get (nm.n 0)=pt B (O + off):=(hsame2 _ (by omega)).trans hg1
  rw [show (jx_ (nm.n 0) (nm.n 4) (n + 3)).2=n + 3 + 2 from rfl]
  refine qc_ (s_move (x:=6) (m:=m) (k0:=k0) (.inr ⟨hsl.2.1,hsl.2.2.2.1⟩) hle (by omega) (by omega) (by omega) fun a3 hp3 hg3=>?_)
  rw [show (jb_ (nm.n 0) (nm.n 3) (n + 3 + 2)).2=n + 3 + 2 + 1 from rfl]
  have hs3:=hp3.size
  have hp03:Pv 6 m k0 n a a3:=(hp1.trans (hp2.mono (Nat.le_refl _) (by omega))).trans (hp3.mono (Nat.le_refl _) (by omega))
  have hrd2:RdS w2 g.tR S R r:=hrc.rd.keep hk2 (fun h=>hrc.BS h.symm) (fun h=>hrc.BR h.symm)
  have hrc2:RC g cx fx ver S R B O r a3 w2:=hrc.step hc hp03 hrd2 hk2 (fun _ _ h=>.inr h)
  have hrc3:RC g { cx with s:=nm.n 3 } fx ver S R B (O + off) r a3 w2:=hrc2.withS (hg3.trans hg2) hrc.BR hrc.BS hrc.gB
  have hm1:nm.n 0 < max (nm.n 0) (nm.n 3) + 1/\nm.n 3 < max (nm.n 0) (nm.n 3) + 1/\max (nm.n 0) (nm.n 3) + 1<=k0:=by omega
  have hc3:CxOk { cx with s:=nm.n 3 } (max (nm.n 0) (nm.n 3) + 1) k0:=
   ⟨⟨by have:=hc.b;simp only;omega,hc.b.2⟩,⟨hm1.2.1,by simp only;omega⟩,⟨by have:=hc.ver;simp only;omega,hc.ver.2⟩,⟨by have:=hc.fx;simp only;omega,hc.fx.2⟩,by omega,hm1.2.2⟩
  have hev2:Evo R B (fun t=>O + off<=t/\t < O + off + (Ty.struct none toff fs).sz) w w2:=by
   refine ⟨hk2.mono fun _ _ h=>.inr h,fun cs te' hcs=>?_⟩
   rw [hcu] at hcs
   obtain ⟨rfl,rfl,_⟩:=Obj.cells.inj (Option.some.inj hcs)
   exact ⟨_,hB2,jn_ _ _ _,fun t ht=>applyWr_out _ _ _ _ fun q hq he=>ht (by have:=hdf q hq;rw [hsz];omega)⟩
  have hini:(fs.plain=true/\fx=true) \/ ((∀ X,RpF w2 X fs B (O + off) (dfFds fs))/\TgNil w2 B (O + off) toff):=by
   rcases hold with hold | ⟨rfl,hold⟩
   ·exact .inl hold
   ·have hfs:∀ X,RpF w X fs B (O + off) (dfFds fs):=fun X=>by
     obtain ⟨vs,t,he,h,_⟩:=hold X
     cases he
     exact h
    have hsame:applyWr cur (O + off) wr=cur:=applyWr_same wr cur fun q hq=>by
     obtain ⟨v,hv,hq2⟩:=wrFits_cell fs (fun _=>False) B (O + off) (hfs _) (hwf q hq)
     have:w.cell? ⟨B,O + off + q.1,none⟩=cur[O + off + q.1]?:=by simp [World.cell?,hcu]
     rw [<- this,hv,hq2]
    rw [hsame] at hB2
    have hc:∀ j,w2.cell? ⟨B,j,none⟩=w.cell? ⟨B,j,none⟩:=fun j=>by simp [World.cell?,hB2,hcu]
    refine .inr ⟨fun X=>?_,?_⟩
    ·have h1:=RpF.frameIn (X:=fun k=>X k \/ k=B) (hk2.mono fun k _ hk=>.inr hk) fs B (O + off) (dfFds fs) (hfs _) fun j _=>hc j
     exact RpF.mono (fun k _ hk=>.inl hk) fs B (O + off) (dfFds fs) h1
    ·obtain ⟨vs,t,he,_,ht⟩:=hold (fun _=>True)
     cases he
     cases toff with
     | none=>trivial
     | some k=>
      obtain ⟨mm,hm,hh⟩:=ht
      rcases hh with ⟨rfl,_⟩ | hh
      ·show w2.cell? ⟨B,O + off + k,none⟩=some (.map none)
       rw [hc];exact hm
      ·obtain ⟨_,_,hx,_⟩:=hh
       exact absurd trivial hx
  refine hst (nm.sub 0) { cx with s:=nm.n 3 } fx ver S R B (O + off) r (max (nm.n 0) (nm.n 3) + 1) k0 (n + 3 + 2 + 1) (nm.n 5) (nm.n 6) toff K E a3 w2 te hokst hrc3 hc3 hfl (by omega) (by omega) (by omega) ⟨_,hB2,by rw [jn_];exact hcus⟩ hini
   ⟨fun v r' a4 w4 he hp4 hrd4 hev4 hv=>?_,fun he a4 w4 hp4 hif hk4=>?_,fun he=>?_⟩
  ·obtain ⟨vs,t,rfl,hF',hT'⟩:=hv
   exact ho.ok _ r' a4 w4 he (hp03.trans (hp4.mono (by omega) (by omega))) hrd4 (hev2.trans (hev4.mono fun t ht=>by rw [hsz];exact zn_ext ht)) fun X hX hS=>⟨vs,t,rfl,far_trans hF' hk2.size X hX hS,far_trans hT' hk2.size X hX hS⟩
  ·exact ho.err he a4 w4 (hp03.trans (hp4.mono (by omega) (by omega))) hif (hev2.keeps.trans hk4)
  ·exact ho.go he
 ·cases hdf
theorem ty_opt (En:Env P g av fl D) {q:Nat} {toff:Option Nat} {fs:Fds} (hst:RdSt P g av fl D fs):RdTy P g av fl D (.struct (some q) toff fs):=by
 intro nm cx fx ver S R B O r m k0 n T off old K E a w te hok hrc hc hfl hk hks hn hb hold ho
 simp only [okTy,Bool.and_eq_true,decide_eq_true_eq,beq_iff_eq] at hok
 obtain ⟨⟨⟨⟨⟨hsl,hT⟩,hF⟩,hi8⟩,hdf⟩,hokst⟩:=hok
 subst hT
 replace hF:=fldB_ok hF
 split at hdf
 ·rename_i z wr hz hwr
  simp only [Bool.and_eq_true,decide_eq_true_eq,List.all_eq_true] at hdf
  obtain ⟨⟨⟨hwb,hzf⟩,hzt⟩,hext⟩:=hdf
  obtain ⟨hEnt,hDf⟩:=En.df _ _ hwr
  have hRw:R < w.heap.size:=hrc.rd.lt
  have hBw:B < w.heap.size:=hb.lt
  have hle:=hc.le
  have h66:=hc.six
  have hnul:old.isNul=true:=by
   cases h:old.isNul with
   | true=>rfl
   | false=>exact absurd (by simp only [rdTy,h];rfl) ho.go
  have hcell:w.cell? ⟨B,O + off,none⟩=some (.pointer none):=by
   rcases hold with ⟨h,_⟩ | ⟨p,q,vs,t,_,_,_,h,_⟩
   ·exact h
   ·rw [h] at hnul;cases hnul
  have hrs:rdTy fx ver (.struct (some q) toff fs) old r=(if (rI 1 r).1=-1 \/ (rI 1 r).2.bad=true then .ok .nul (rI 1 r).2 else zg_ fx fs.tagged (rdFds fx ver fs) (rdTag fx ver fs) (rI 1 r).2):=by
   simp only [rdTy,hnul];rfl
  rw [hrs] at ho
  have hn':(gL (gStOf g { cx with s:=nm.n 4 } fs.tagged (nm.n 6) (nm.n 7) (nm.sub 0) (gFds g { cx with s:=nm.n 4 } fs (nm.sub 0).s) (gTagd g { cx with s:=nm.n 4 } fs (nm.sub 0).s)) (n + 6 + 4 + 4 + 2 + 1)).2<=a.tmps.size:=by
   have h:=hn
   simp only [gTy,gL,gPresent,gS,gIf] at h
   rw [jg_] at h
   exact h
  have hup:=up_gStOf (g:=g) (cx:={ cx with s:=nm.n 4 }) (tagged:=fs.tagged) (T:=nm.n 6) (kt:=nm.n 7) (m:=nm.sub 0) (up_gFds g fs (nm.sub 0).s { cx with s:=nm.n 4 }) (up_gTagd g fs (nm.sub 0).s { cx with s:=nm.n 4 }) (n + 6 + 4 + 4 + 2 + 1)
  simp only [gTy]
  refine qc_ ?_
  rw [qt_]
  refine s_present (m:=m) (k0:=k0) En.kb hi8.1 hi8.2 hrc hc ⟨hsl.2.2.1,by omega⟩ hk (by omega) (fun hne hbad a1 w1 hp1 hrd1 hk1=>?_) (fun hno a1 w1 hp1 hrd1 hk1=>ja_ ?_)
  ·have hs1:=hp1.size
   rw [if_neg (by rw [hbad];simp [hne])] at ho
   have hrc1:RC g cx fx ver S R B O (rI 1 r).2 a1 w1:=hrc.step hc hp1 hrd1 hk1 (fun _ _ h=>.inl h)
   have hsz1:=hk1.size
   obtain ⟨cur,hcu,hcus⟩:=hb
   replace hcus:O + off + 1<=cur.size:=hcus
   have hcu1:w1.heap[B]?=some (.cells cur te (0,0)):=by rw [hk1.block B hBw hrc.BR];exact hcu
   refine .mono (Q:=Rt (LW P [] _ (Rt K E)) E) (R:=Rt K E) (q4_ ?_) fun e a w hq=>by cases e <;> first | exact ja_ hq | exact hq
   show LW P (gNew cx.s (nm.n 1) (nm.n 2) (nm.n 3) (nm.n 9) :: gLoad cx.s (nm.n 0) (nm.n 1) (nm.n 2) (nm.n 3) :: jx_ (nm.n 0) (nm.n 5) :: jb_ (nm.n 0) (nm.n 4) :: gStOf g { cx with s:=nm.n 4 } fs.tagged (nm.n 6) (nm.n 7) (nm.sub 0) (gFds g { cx with s:=nm.n 4 } fs (nm.sub 0).s) (gTagd g { cx with s:=nm.n 4 } fs (nm.sub 0).s)) (n + 6) (Rt K E) a1 w1
   refine qc_ (s_new (x:=6) (m:=m) (k0:=k0) (B:=B) (O:=O) (cur:=cur) (te:=te) hrc1.ss hF (zeroOf_ok hz) hcu1 (by omega) hle (by omega) (by omega) fun a2 hp2 hsame2=>?_)
   have hs2:=hp2.size
   rw [show (gNew cx.s (nm.n 1) (nm.n 2) (nm.n 3) (nm.n 9) (n + 6)).2=n + 6 + 4 from rfl]
   have hpS:w1.heap.size ≠ S:=by have:=hrc.Slt;omega
   have hkA:Keeps (fun _=>False) w1 (w1.alloc (.cells z.cells (nm.n 9) (0,0))):=Keeps.alloc _ _ _
   have hBA:(w1.alloc (.cells z.cells (nm.n 9) (0,0))).heap[B]?=some (.cells cur te (0,0)):=by rw [q0_ (by omega)];exact hcu1
   have hB2:((w1.alloc (.cells z.cells (nm.n 9) (0,0))).setRow B (qr_ cur (O + off) [pt w1.heap.size 0])).heap[B]?=some (.cells (qr_ cur (O + off) [pt w1.heap.size 0]) te (0,0)):=setRow_heap _ _ _ _ _ _ hBA
   have hp2':((w1.alloc (.cells z.cells (nm.n 9) (0,0))).setRow B (qr_ cur (O + off) [pt w1.heap.size 0])).heap[w1.heap.size]?=some (.cells z.cells (nm.n 9) (0,0)):=by
    rw [setRow_other _ _ _ _ (by omega)];exact heap_alloc_new _ _
   have hev2:Evo R B (fun j=>O + off<=j/\j < O + off + 1) w1 ((w1.alloc (.cells z.cells (nm.n 9) (0,0))).setRow B (qr_ cur (O + off) [pt w1.heap.size 0])):=
    (Evo.of_keeps hkA (fun _ _ h=>h.elim) hrc.BR).trans (Evo.store hBA (by simpa using hcus) (fun j ha hb=>⟨ha,by simpa using hb⟩))
   have hkAB:Keeps (·=B) w1 ((w1.alloc (.cells z.cells (nm.n 9) (0,0))).setRow B (qr_ cur (O + off) [pt w1.heap.size 0])):=(hkA.mono fun _ _ h=>h.elim).trans (Keeps.setRow _ _ _ _ rfl)
   have hcell2:((w1.alloc (.cells z.cells (nm.n 9) (0,0))).setRow B (qr_ cur (O + off) [pt w1.heap.size 0])).cell? ⟨B,O + off,none⟩=some (pt w1.heap.size 0):=by
    rw [cell_setRow_same _ _ _ _ _ _ _ hBA]
    have:=jf_ (cur:=cur) (o:=O + off) (vs:=[pt w1.heap.size 0]) (by simpa using hcus) 0 (by simp)
    simpa using this
   have hsz2:((w1.alloc (.cells z.cells (nm.n 9) (0,0))).setRow B (qr_ cur (O + off) [pt w1.heap.size 0])).heap.size=w1.heap.size + 1:=by simp
   generalize hw2:(w1.alloc (.cells z.cells (nm.n 9) (0,0))).setRow B (qr_ cur (O + off) [pt w1.heap.size 0])=w2 at *
   generalize hp0:w1.heap.size=p at *
   have hp02:Pv 6 m k0 n a a2:=hp1.trans (hp2.mono (Nat.le_refl _) (by omega))
   have hss2:a2.get cx.s=pt B O:=(hp02.get _ hc.s.2 (.inl hc.s.1)).trans hrc.ss
   refine qc_ (s_load (x:=6) (m:=m) (k0:=k0) (O:=O) hss2 hF hcell2 (.inr ⟨hsl.1,by omega⟩) hle (by omega) (by omega) (by omega) fun a3 hp3 hg3=>?_)
   have hs3:=hp3.size
   rw [show (gLoad cx.s (nm.n 0) (nm.n 1) (nm.n 2) (nm.n 3) (n + 6 + 4)).2=n + 6 + 4 + 4 from rfl]
   refine qc_ (s_default (x:=6) (m:=m) (k0:=k0) (B:=p) (O:=0) (cur:=z.cells) (te:=nm.n 9) hEnt hDf hg3 hp2' (fun q hq=>by have:=hwb q hq;omega) hle (by omega) (by omega) fun a4 w4 hp4 hsame4 hk4 hB4=>?_)
   have hs4:=hp4.size
   have hg4:a4.get (nm.n 0)=pt p 0:=(hsame4 _ (by omega)).trans hg3
   rw [show (jx_ (nm.n 0) (nm.n 5) (n + 6 + 4 + 4)).2=n + 6 + 4 + 4 + 2 from rfl]
   refine qc_ (s_move (x:=6) (m:=m) (k0:=k0) (.inr ⟨hsl.2.1,by omega⟩) hle (by omega) (by omega) (by omega) fun a5 hp5 hg5=>?_)
   rw [show (jb_ (nm.n 0) (nm.n 4) (n + 6 + 4 + 4 + 2)).2=n + 6 + 4 + 4 + 2 + 1 from rfl]
   have hs5:=hp5.size
   have hp05:Pv 6 m k0 n a a5:=((hp02.trans (hp3.mono (Nat.le_refl _) (by omega))).trans (hp4.mono (Nat.le_refl _) (by omega))).trans (hp5.mono (Nat.le_refl _) (by omega))
   have hsz4:=hk4.size
   have hBp:B ≠ p:=by omega
   have hrd2:RdS w2 g.tR S R (rI 1 r).2:=hrd1.keep hkAB (fun h=>hrc.BS h.symm) (fun h=>hrc.BR h.symm)
   have hrd4:RdS w4 g.tR S R (rI 1 r).2:=hrd2.keep hk4 (fun h=>by omega) (fun h=>by omega)
   obtain ⟨t',x',he'⟩:=hrc.err
   have hgl:=j8_ he'
   have herr1:w1.cell? ⟨g.gErr,0,none⟩=some (.iface t' x'):=hk1.cell hrc.gR he'
   have herr2:w2.cell? ⟨g.gErr,0,none⟩=some (.iface t' x'):=hkAB.cell hrc.gB herr1
   have herr4:ErrAt g.gErr w4:=⟨t',x',hk4.cell (by omega) herr2⟩
   have hrc5:RC g { cx with s:=nm.n 4 } fx ver S R p 0 (rI 1 r).2 a5 w4:=
    ⟨hrd4,(hp05.get _ hc.b.2 (.inl hc.b.1)).trans hrc.sb,hg5.trans hg4,(hp05.get _ hc.ver.2 (.inl hc.ver.1)).trans hrc.sv,fun hf=>(hp05.get _ hc.fx.2 (.inl hc.fx.1)).trans (hrc.sf hf),hrc.nf,(hp05.get 2 (by omega) (.inl (by omega))).trans hrc.su,herr4,hrc.SR,by omega,hpS,hrc.gR,by omega,
     by have:=hrc.Slt;omega⟩
   have hm1:nm.n 0 < max (nm.n 0) (nm.n 4) + 1/\nm.n 4 < max (nm.n 0) (nm.n 4) + 1/\max (nm.n 0) (nm.n 4) + 1<=k0:=by omega
   have hc5:CxOk { cx with s:=nm.n 4 } (max (nm.n 0) (nm.n 4) + 1) k0:=
    ⟨⟨by have:=hc.b;simp only;omega,hc.b.2⟩,⟨hm1.2.1,by simp only;omega⟩,⟨by have:=hc.ver;simp only;omega,hc.ver.2⟩,⟨by have:=hc.fx;simp only;omega,hc.fx.2⟩,by omega,hm1.2.2⟩
   have hZ4:=hasZ_default (O:=0) (cur:=z.cells) (z:=z.cells) (fun j _=>by rw [Nat.zero_add]) (by omega) hwb hB4
   have hkw4:Keeps (fun k=>k=R \/ k=B) w w4:=
    ⟨hk4.os.trans (hkAB.os.trans hk1.os),hk4.tape.trans (hkAB.tape.trans hk1.tape),hk4.output.trans (hkAB.output.trans hk1.output),by omega,fun q hq hx=>by
     rw [hk4.block q (by omega) (by omega),hkAB.block q (by omega) (fun h=>hx (.inr h)),hk1.block q hq (fun h=>hx (.inl h))]⟩
   have hB4':w4.heap[B]?=some (.cells (qr_ cur (O + off) [pt p 0]) te (0,0)):=by rw [hk4.block B (by omega) hBp];exact hB2
   have hsz0:w.heap.size<=p:=hsz1
   refine hst (nm.sub 0) { cx with s:=nm.n 4 } fx ver S R p 0 (rI 1 r).2 (max (nm.n 0) (nm.n 4) + 1) k0 (n + 6 + 4 + 4 + 2 + 1) (nm.n 6) (nm.n 7) toff K E a5 w4 (nm.n 9) hokst hrc5 hc5 hfl (by omega) (by omega) (by omega) ⟨_,hB4,by rw [jn_];omega⟩ ?_
    ⟨fun v r' a6 w6 he hp6 hrd6 hev6 hv=>?_,fun he a6 w6 hp6 hif hk6=>?_,fun he=>?_⟩
   ·refine .inr ⟨fun X=>zFds_ok hZ4 X fs 0 hzf,?_⟩
    cases toff with
    | none=>trivial
    | some o=>exact hZ4.one hzt
   ·obtain ⟨vs,t,rfl,hF',hT'⟩:=hv
    have hBR:=hrc.BR
    have hB6:w6.heap[B]?=some (.cells (qr_ cur (O + off) [pt p 0]) te (0,0)):=by
     rw [hev6.keeps.block B (by omega) (fun h=>by rcases h with h | h;exact hBR h;exact hBp h)];exact hB4'
    have hsz6:=hev6.keeps.size
    refine ho.ok _ r' a6 w6 he (hp05.trans (hp6.mono (by omega) (by omega))) hrd6 ⟨hkw4.inner hev6.keeps hsz0,fun cs te' hcs=>?_⟩ fun X hX hS=>.inr ⟨p,0,vs,t,?_,fun hXp=>?_,by omega,rfl,?_,?_⟩
    ·rw [hcu] at hcs
     obtain ⟨rfl,rfl,_⟩:=Obj.cells.inj (Option.some.inj hcs)
     refine ⟨_,hB6,splice_size (by simpa using hcus),fun j hj=>jr_ (by simpa using hcus) j ?_⟩
     simp only [Ty.sz] at hj
     simp only [List.length_cons,List.length_nil]
     omega
    ·have:=jf_ (cur:=cur) (o:=O + off) (vs:=[pt p 0]) (by simpa using hcus) 0 (by simp)
     simp only [World.cell?,hB6]
     simpa [pt] using this
    ·have:=hX p hXp
     omega
    ·exact far_trans hF' hkw4.size X hX hS
    ·exact far_trans hT' hkw4.size X hX hS
   ·exact ho.err he a6 w6 (hp05.trans (hp6.mono (by omega) (by omega))) hif (hkw4.inner hk6 hsz0)
   ·exact ho.go he
  ·refine ho.ok .nul _ a1 w1 (by rw [if_pos hno]) hp1 hrd1 (Evo.of_keeps hk1 (fun _ _ h=>h) hrc.BR) fun X hX hS=>.inl ⟨?_,rfl⟩
   exact hk1.cell hrc.BR hcell
 ·cases hdf
theorem okEl_sz {e:Ty} {hf:Bool} {m k0 esz:Nat} {z:Array Value} {nm:Nm} (h:okEl ⟨P,g,av,D⟩ hf m k0 esz z e nm=true):e.sz<=esz:=by
 cases e with
 | prim p=>simp only [okEl,Bool.and_eq_true,beq_iff_eq] at h;omega
 | str nul=>simp only [okEl,Bool.and_eq_true,beq_iff_eq] at h;simp only [Ty.sz];omega
 | bytes nul=>simp only [okEl,Bool.and_eq_true,beq_iff_eq] at h;simp only [Ty.sz];omega
 | list nul sz e=>simp [okEl] at h
 | struct nul toff fs=>
  cases nul with
  | some q=>simp [okEl] at h
  | none=>
   simp only [okEl,Bool.and_eq_true] at h
   obtain ⟨⟨_,h⟩,_⟩:=h
   split at h
   ·simp only [Bool.and_eq_true,decide_eq_true_eq] at h
    exact h.2
   ·cases h
mutual
theorem rd_ty (En:Env P g av fl D):∀ ty:Ty,RdTy P g av fl D ty
 | .prim p=>ty_prim En.kb p
 | .str nul=>ty_str En.kb nul
 | .bytes nul=>ty_bytes En.kb nul
 | .list _ _ e=>ty_list En.kb (rd_el En e) (fun _ _ _ _ _ h=>okEl_sz h)
 | .struct none _ fs=>ty_inl En (st_of En.kb (rd_fds En fs) (rd_case En fs))
 | .struct (some _) _ fs=>ty_opt En (st_of En.kb (rd_fds En fs) (rd_case En fs))
theorem rd_el (En:Env P g av fl D):∀ ty:Ty,RdEl P g av fl D ty
 | .prim _=>el_leaf En.kb rfl
 | .str _=>el_leaf En.kb rfl
 | .bytes _=>el_leaf En.kb rfl
 | .list _ _ _=>fun _ _ _ _ _ _ _ _ _ _ _ _ _ _ _ _ _ _ _ _ _ _ _ _ _ _ _ _ h=>by simp [okEl] at h
 | .struct none _ fs=>el_struct En (st_of En.kb (rd_fds En fs) (rd_case En fs))
 | .struct (some _) _ _=>fun _ _ _ _ _ _ _ _ _ _ _ _ _ _ _ _ _ _ _ _ _ _ _ _ _ _ _ _ h=>by simp [okEl] at h
theorem rd_fds (En:Env P g av fl D):∀ fs:Fds,RdFds P g av fl D fs
 | .nil=>fds_nil
 | .cons _ _ _ _ _ ty r=>fds_cons (rd_ty En ty) (rd_fds En r)
theorem rd_case (En:Env P g av fl D):∀ fs:Fds,RdCase P g av fl D fs
 | .nil=>case_nil
 | .cons _ _ _ _ _ ty r=>case_cons En.kb (rd_ty En ty) (rd_case En r)
end
theorem rd_st (En:Env P g av fl D) (fs:Fds):RdSt P g av fl D fs:=st_of En.kb (rd_fds En fs) (rd_case En fs)
end
def posF:Fds->Bool
 | .nil=>true
 | .cons _ _ _ _ off _ r=>decide (0 < off) && posF r
theorem posF_in:∀ (fs:Fds) (j:Nat),posF fs=true->fs.In 0 j->j ≠ 0
 | .nil,_,_,h=>h.elim
 | .cons _ _ _ _ off ty r,j,h,hj=>by
  simp only [posF,Bool.and_eq_true,decide_eq_true_eq] at h
  rcases hj with hj | hj
  ·omega
  ·exact posF_in r j h.2 hj
def topM (cx:Cx):Nat:=max (max cx.b cx.s) (max cx.ver cx.fx) + 1
def topOk (e:Ev) (kept:Bool) (cx:Cx) (fs:Fds) (dflt T kt:Nat) (toff:Option Nat) (n0 ntmps:Nat) (nm:Nm) (z:Array Value) (used:Nat):Bool:=
 decide (6 < cx.b/\6 < cx.s/\6 < cx.ver/\cx.b ≠ cx.s/\cx.b ≠ cx.ver/\cx.s ≠ cx.ver/\topM cx<=n0/\((cx.hf=true/\6 < cx.fx/\cx.b ≠ cx.fx/\cx.s ≠ cx.fx/\cx.ver ≠ cx.fx) \/ (cx.hf=false/\cx.fx=0))) && decide (used<=ntmps) && fldB e.P T 0 e.g.tVer 0 false 1 && (!kept || e.av .i16) &&
 (match e.D dflt with
  | some wr=>(wr.all fun p=>decide (0 < p.1/\p.1 < z.size)) && zFds (applyWr z 0 wr) fs 0 && zTg (applyWr z 0 wr) toff && posF fs && (toff != some 0) && decide (fs.ext (za_ toff)<=z.size) && decide (0 < z.size)
  | none=>false) &&
 okSt e cx.hf (topM cx) n0 T kt toff fs nm (okFds e cx.hf (topM cx) n0 T fs nm.s) (okTagd e (nm.n 1 + 1) n0 T fs nm.s)
def gHead (g:G) (kept:Bool) (cx:Cx) (dflt T flex:Nat):List GC:=
 [ji_ 6 .nilIface,jx_ 0 dflt,qq_ 2 fun n=>[mk (some n) (.move (tm 1)),mk (some (n + 1)) (.build g.tR #[(0,tm n)]),mk (some cx.b) (.alloc g.tR),mk none (.store g.tR (tm cx.b) (tm (n + 1)))]] ++
  (if kept then [qq_ 4 fun n=>[mk (some n) (.move (tm 0)),cl (some (n + 1)) (g.rd .i16) [tm cx.b],mk (some (n + 2)) (.nilCheck (tm n)),mk (some (n + 3)) (.fieldAddr T (tm (n + 2)) 0),mk none (.store g.tVer (tm (n + 3)) (tm (n + 1)))]] else []) ++
  [gLoad 0 cx.ver T 0 g.tVer,qq_ 1 fun n=>[mk (some n) (.move (tm cx.ver))]] ++
  (if cx.hf then [qq_ 2 fun n=>[mk (some n) (.move (tm cx.ver)),mk (some (n + 1)) (.binOp .geq g.tVer (tm n) (ki .i16 flex) 0),mk (some cx.fx) (.assign (tm (n + 1)))],qq_ 1 fun n=>[mk (some n) (.move (tm cx.fx))]] else []) ++
  [jb_ 0 cx.s]
def gEnd (g:G) (b:Nat):List GC:=[qq_ 1 fun n=>[cl (some n) g.complete [tm b],mk (some 6) (.assign (tm n))],q8_ .ret]
theorem gRead_eq (g:G) (kept:Bool) (cx:Cx) (fs:Fds) (dflt T kt flex n0:Nat) (m:Nm) :
  gRead g cx.hf kept cx fs dflt T kt flex n0 m=(gS (gHead g kept cx dflt T flex++(gStOf g cx fs.tagged T kt m (gFds g cx fs m.s) (gTagd g cx fs m.s)++gEnd g cx.b)) n0).1:=by
 unfold gRead gHead gEnd
 simp only [List.append_assoc]
mutual
theorem zTy_agree {z z2:Array Value} (h:∀ j,1<=j->z2[j]?=z[j]?):∀ (ty:Ty) (df:Int) (o:Nat),1<=o->zTy z df ty o=true->zTy z2 df ty o=true
 | .prim p,df,o,ho,hz=>by
  have e:∀ v,eqAt z2 o v=eqAt z o v:=fun v=>by simp only [eqAt,h o ho]
  cases p
  case uuid=>
   simp only [zTy,List.all_eq_true] at hz ⊢
   intro j hj
   have:=hz j hj
   simp only [eqAt,h (o + j) (by omega)] at this ⊢
   exact this
  all_goals (simp only [zTy,e] at hz ⊢;exact hz)
 | .str none,df,o,ho,hz=>by simp only [zTy,eqAt,h o ho] at hz ⊢;exact hz
 | .str (some _),df,o,ho,hz=>by simp only [zTy,eqAt,h o ho] at hz ⊢;exact hz
 | .bytes _,df,o,ho,hz=>by simp only [zTy,eqAt,h o ho] at hz ⊢;exact hz
 | .list _ _ _,df,o,ho,hz=>by simp only [zTy,eqAt,h o ho] at hz ⊢;exact hz
 | .struct (some _) _ _,df,o,ho,hz=>by simp only [zTy,eqAt,h o ho] at hz ⊢;exact hz
 | .struct none toff fs,df,o,ho,hz=>by
  simp only [zTy,Bool.and_eq_true] at hz ⊢
  refine ⟨zFds_agree h fs o (.inl ho) hz.1,?_⟩
  cases toff with
  | none=>rfl
  | some k=>have:=hz.2;simp only [eqAt,h (o + k) (by omega)] at this ⊢;exact this
theorem zFds_agree {z z2:Array Value} (h:∀ j,1<=j->z2[j]?=z[j]?):∀ (fs:Fds) (o:Nat),(1<=o \/ posF fs=true)->zFds z fs o=true->zFds z2 fs o=true
 | .nil,o,ho,hz=>rfl
 | .cons _ _ _ df off ty r,o,ho,hz=>by
  simp only [zFds,Bool.and_eq_true] at hz ⊢
  rcases ho with ho | ho
  ·exact ⟨zTy_agree h ty df (o + off) (by omega) hz.1,zFds_agree h r o (.inl ho) hz.2⟩
  ·simp only [posF,Bool.and_eq_true,decide_eq_true_eq] at ho
   exact ⟨zTy_agree h ty df (o + off) (by omega) hz.1,zFds_agree h r o (.inr ho.2) hz.2⟩
end
section
variable {P:Program} {g:G} {av:PF->Bool} {fl:Bool} {D:Nat->Option (List (Nat × Value))}
def vread (kept:Bool) (ver:Int) (r:RS):Int × RS:=if kept then rI 2 r else (ver,r)
structure Headed (g:G) (cx:Cx) (fs:Fds) (toff:Option Nat) (flex:Nat) (B S te:Nat) (csz:Nat) (w0:World) (vr:Int × RS) (ntmps R:Nat) (a:Act) (w:World):Prop where
 rc:RC g cx (cx.hf && decide ((flex:Int)<=vr.1)) vr.1 S R B 0 vr.2 a w
 size:a.tmps.size=ntmps
 defers:a.defers=[]
 six:a.get 6=.nilIface
 keeps:Keeps (·=B) w0 w
 fresh:w0.heap.size<=R
 blk:∃ cur,w.heap[B]?=some (.cells cur te (0,0))/\cur.size=csz/\cur[0]?=some (.int .i16 vr.1)
 fds:∀ X,RpF w X fs B 0 (dfFds fs)
 tgs:TgNil w B 0 toff
structure Pre (g:G) (cx:Cx) (fs:Fds) (toff:Option Nat) (B S te csz:Nat) (w0:World) (vr:Int × RS) (ntmps R:Nat) (a:Act) (w:World):Prop where
 rd:RdS w g.tR S R vr.2
 sb:a.get cx.b=pt R 0
 s0:a.get 0=pt B 0
 s2:a.get 2=.bool false
 size:a.tmps.size=ntmps
 defers:a.defers=[]
 six:a.get 6=.nilIface
 keeps:Keeps (·=B) w0 w
 fresh:w0.heap.size<=R
 blk:∃ cur,w.heap[B]?=some (.cells cur te (0,0))/\cur.size=csz/\cur[0]?=some (.int .i16 vr.1)
 fds:∀ X,RpF w X fs B 0 (dfFds fs)
 tgs:TgNil w B 0 toff
 err:ErrAt g.gErr w
theorem head_tail {cx:Cx} {fs:Fds} {T flex n n0 ntmps:Nat} {toff:Option Nat} {B S te csz R:Nat} {w0 w:World} {vr:Int × RS} {a:Act} {Q:Exit->Act->World->Prop} {K:Act->World->Prop} (hsl:6 < cx.b/\6 < cx.s/\6 < cx.ver/\cx.b ≠ cx.s/\cx.b ≠ cx.ver/\cx.s ≠ cx.ver/\topM cx<=n0/\((cx.hf=true/\6 < cx.fx/\cx.b ≠ cx.fx/\cx.s ≠ cx.fx/\cx.ver ≠ cx.fx) \/ (cx.hf=false/\cx.fx=0)))
  (hF:FldIs P T 0 g.tVer 0 false 1) (hp:Pre g cx fs toff B S te csz w0 vr ntmps R a w) (hn0:n0<=n) (hn:n + 9<=ntmps) (hS:S < w0.heap.size) (hBlt:B < w0.heap.size) (hBS:B ≠ S) (hgB:g.gErr ≠ B) (hgl:g.gErr < w0.heap.size)
  (h:∀ a' w',Headed g cx fs toff flex B S te csz w0 vr ntmps R a' w'->K a' w') :
  LW P ([gLoad 0 cx.ver T 0 g.tVer,qq_ 1 fun n=>[mk (some n) (.move (tm cx.ver))]]++((if cx.hf then [qq_ 2 fun n=>[mk (some n) (.move (tm cx.ver)),mk (some (n + 1)) (.binOp .geq g.tVer (tm n) (ki .i16 flex) 0),mk (some cx.fx) (.assign (tm (n + 1)))],qq_ 1 fun n=>[mk (some n) (.move (tm cx.fx))]] else []) ++
   [jb_ 0 cx.s])) n (Exit.then K Q) a w:=by
 have hfx':cx.hf=true->6 < cx.fx/\cx.b ≠ cx.fx/\cx.s ≠ cx.fx/\cx.ver ≠ cx.fx:=fun h=>by
  rcases hsl.2.2.2.2.2.2.2 with h2 | h2
  ·exact h2.2
  ·rw [h] at h2;cases h2.1
 replace hsl:6 < cx.b/\6 < cx.s/\6 < cx.ver/\cx.b ≠ cx.s/\cx.b ≠ cx.ver/\cx.s ≠ cx.ver/\topM cx<=n0:=⟨hsl.1,hsl.2.1,hsl.2.2.1,hsl.2.2.2.1,hsl.2.2.2.2.1,hsl.2.2.2.2.2.1,hsl.2.2.2.2.2.2.1⟩
 have htm:topM cx=max (max cx.b cx.s) (max cx.ver cx.fx) + 1:=rfl
 have hsz:=hp.size
 obtain ⟨cur,hB,hcs,hc0⟩:=hp.blk
 have hcell:w.cell? ⟨B,0 + 0,none⟩=some (.int .i16 vr.1):=by simp only [World.cell?,hB];simpa using hc0
 have hR0:=hp.fresh
 refine qc_ (s_load (x:=cx.ver) (m:=n0) (k0:=n0) (O:=0) hp.s0 hF hcell (.inl rfl) (Nat.le_refl _) hn0 (by omega) (by omega) fun a1 hp1 hg1=>?_)
 have hs1:=hp1.size
 rw [show (gLoad 0 cx.ver T 0 g.tVer n).2=n + 4 from rfl]
 refine qc_ (qj_ (qd_ (wpList_nil ?_)))
 rw [qb_,hg1]
 have hp2:Pv cx.ver n0 n0 n a (a1.put (some (n + 4)) (.int .i16 vr.1)):=hp1.put _ (by omega)
 have hg2:(a1.put (some (n + 4)) (.int .i16 vr.1)).get cx.ver=.int .i16 vr.1:=by rw [gpo (by omega)];exact hg1
 generalize a1.put (some (n + 4)) (.int .i16 vr.1)=a2 at hp2 hg2 ⊢
 have hs2:=hp2.size
 rw [show (qq_ 1 (fun n=>[mk (some n) (.move (tm cx.ver))]) (n + 4)).2=n + 5 from rfl]
 have key:∀ (a3:Act) (n3:Nat),n + 5<=n3->n3 + 1<=ntmps->a3.tmps.size=ntmps->a3.defers=[]->a3.get 0=pt B 0->a3.get 2=.bool false->a3.get 6=.nilIface->a3.get cx.b=pt R 0->a3.get cx.ver=.int .i16 vr.1->(cx.hf=true->a3.get cx.fx=.bool (decide ((flex:Int)<=vr.1))) ->
   LW P [jb_ 0 cx.s] n3 (Exit.then K Q) a3 w:=by
  intro a3 n3 h5 h6 hsz3 hd3 h30 h32 h36 h3b h3v h3f
  refine qc_ (s_move (x:=cx.s) (m:=n0) (k0:=n0) (.inl rfl) (Nat.le_refl _) (by omega) (by omega) (by omega) fun a4 hp4 hg4=>ja_ (h a4 w ?_))
  have hs4:=hp4.size
  refine ⟨⟨hp.rd,(hp4.get _ (by omega) (.inl (by omega))).trans h3b,hg4.trans h30,(hp4.get _ (by omega) (.inl (by omega))).trans h3v,fun hf=>?_,fun hf=>by rw [hf];rfl,(hp4.get 2 (by omega) (.inl (by omega))).trans h32,hp.err,?_,?_,hBS,?_,hgB,?_⟩,
   by omega,hp4.defers.trans hd3,(hp4.get 6 (by omega) (.inl (by omega))).trans h36,hp.keeps,hp.fresh,⟨cur,hB,hcs,hc0⟩,hp.fds,hp.tgs⟩
  ·have:=hfx' hf
   rw [hp4.get _ (by omega) (.inl (by omega)),h3f hf,hf];rfl
  ·omega
  ·omega
  ·omega
  ·exact Nat.lt_of_lt_of_le hS hp.keeps.size
 have hq:∀ s,s ≠ cx.ver->s < n0->a2.get s=a.get s:=fun s h1 h2=>hp2.get s h1 (.inl h2)
 cases hhf:cx.hf with
 | false=>
  simp only [Bool.false_eq_true,if_false,List.nil_append]
  exact key a2 (n + 5) (Nat.le_refl _) (by omega) (by omega) (hp2.defers.trans hp.defers) ((hq 0 (by omega) (by omega)).trans hp.s0) ((hq 2 (by omega) (by omega)).trans hp.s2) ((hq 6 (by omega) (by omega)).trans hp.six) ((hq _ (by omega) (by omega)).trans hp.sb) hg2 (fun hf=>by rw [hhf] at hf;cases hf)
 | true=>
  have:=hfx' hhf
  simp only [if_true]
  show LW P (qq_ 2 (fun n=>[mk (some n) (.move (tm cx.ver)),mk (some (n + 1)) (.binOp .geq g.tVer (tm n) (ki .i16 flex) 0),mk (some cx.fx) (.assign (tm (n + 1)))]) :: qq_ 1 (fun n=>[mk (some n) (.move (tm cx.fx))]) :: [jb_ 0 cx.s]) (n + 5) (Exit.then K Q) a2 w
  refine qc_ (qj_ (qd_ ?_))
  rw [qb_,hg2]
  refine q5_ (b:=decide ((flex:Int)<=vr.1)) (p:=vr.1) (q:=flex) (k:=.i16) (by rw [qb_,gpe (by omega)]) rfl (.inl ⟨rfl,rfl⟩) (qg_ (wpList_nil ?_))
  rw [qb_,gpe (by simp only [qa_];omega)]
  rw [show (qq_ 2 (fun n=>[mk (some n) (.move (tm cx.ver)),mk (some (n + 1)) (.binOp .geq g.tVer (tm n) (ki .i16 flex) 0),mk (some cx.fx) (.assign (tm (n + 1)))]) (n + 5)).2=n + 7 from rfl]
  refine qc_ (qj_ (qd_ (wpList_nil ?_)))
  rw [qb_,gpe (by simp only [qa_];omega)]
  rw [show (qq_ 1 (fun n=>[mk (some n) (.move (tm cx.fx))]) (n + 7)).2=n + 8 from rfl]
  have hpv:Pv cx.fx n0 n0 (n + 5) a2 ((((a2.put (some (n + 5)) (.int .i16 vr.1)).put (some (n + 5 + 1)) (.bool (decide ((flex:Int)<=vr.1)))).put (some cx.fx) (.bool (decide ((flex:Int)<=vr.1)))).put (some (n + 7)) (.bool (decide ((flex:Int)<=vr.1)))):=
   ((((Pv.refl _ _ _ _ _).put _ (by omega)).put _ (by omega)).put _ (by omega)).put _ (by omega)
  have hgf:((((a2.put (some (n + 5)) (.int .i16 vr.1)).put (some (n + 5 + 1)) (.bool (decide ((flex:Int)<=vr.1)))).put (some cx.fx) (.bool (decide ((flex:Int)<=vr.1)))).put (some (n + 7)) (.bool (decide ((flex:Int)<=vr.1)))).get cx.fx=.bool (decide ((flex:Int)<=vr.1)):=by
   rw [gpo (by omega),gpe (by simp only [qa_];omega)]
  have hq3:∀ s,s ≠ cx.fx->s < n0->_:=fun s h1 h2=>hpv.get s h1 (.inl h2)
  exact key _ (n + 8) (by omega) (by omega) (by rw [hpv.size];omega) (hpv.defers.trans (hp2.defers.trans hp.defers)) ((hq3 0 (by omega) (by omega)).trans ((hq 0 (by omega) (by omega)).trans hp.s0)) ((hq3 2 (by omega) (by omega)).trans ((hq 2 (by omega) (by omega)).trans hp.s2)) ((hq3 6 (by omega) (by omega)).trans ((hq 6 (by omega) (by omega)).trans hp.six))
   ((hq3 _ (by omega) (by omega)).trans ((hq _ (by omega) (by omega)).trans hp.sb)) ((hq3 _ (by omega) (by omega)).trans hg2) (fun _=>hgf)
theorem head_ok (En:Env P g av fl D) {kept:Bool} {cx:Cx} {fs:Fds} {dflt T kt flex n0 ntmps used:Nat} {toff:Option Nat} {nm:Nm} {z cur:Array Value} (hchk:topOk ⟨P,g,av,D⟩ kept cx fs dflt T kt toff n0 ntmps nm z used=true) (hn:n0 + 17<=ntmps)
  {w:World} {B S te:Nat} {ver:Int} {srcv:Value} {r0:RS} (hB:w.heap[B]?=some (.cells cur te (0,0))) (hcur:cur=z.setIfInBounds 0 (.int .i16 ver)) (hsrc:jj_ w S srcv r0) (hbad:r0.bad=false) (herr:ErrAt g.gErr w) (hS:S < w.heap.size) (hBS:B ≠ S) (hgB:g.gErr ≠ B)
  {Q:Exit->Act->World->Prop} {K:Act->World->Prop} {a:Act} (ha:a.tmps.size=ntmps) (had:a.defers=[]) (h0:a.get 0=pt B 0) (h1:a.get 1=srcv) (h2:a.get 2=.bool false)
  (h:∀ R a' w',Headed g cx fs toff flex B S te cur.size w (vread kept ver r0) ntmps R a' w'->K a' w'):LW P (gHead g kept cx dflt T flex) n0 (Exit.then K Q) a w:=by
 simp only [topOk,Bool.and_eq_true,decide_eq_true_eq] at hchk
 obtain ⟨⟨⟨⟨⟨hsl,hused⟩,hF⟩,hkept⟩,hdf⟩,hst⟩:=hchk
 replace hF:=fldB_ok hF
 split at hdf
 ·rename_i wr hwr
  simp only [Bool.and_eq_true,decide_eq_true_eq,List.all_eq_true,bne_iff_ne] at hdf
  obtain ⟨⟨⟨⟨⟨⟨hwb,hzf⟩,hzt⟩,hpos⟩,htf⟩,hext⟩,hzp⟩:=hdf
  obtain ⟨hEnt,hDf⟩:=En.df _ _ hwr
  have htm:topM cx=max (max cx.b cx.s) (max cx.ver cx.fx) + 1:=rfl
  have hBlt:B < w.heap.size:=(Array.getElem?_eq_some_iff.1 hB).1
  obtain ⟨te',xe,hce⟩:=herr
  have hgl:=j8_ hce
  have hcs:cur.size=z.size:=by rw [hcur];simp
  unfold gHead
  simp only [List.append_assoc]
  refine qc_ (s_set (x:=6) (m:=n0) (k0:=n0) (.inl rfl) (by omega) fun a1 hp1 hg1=>?_)
  have hs1:=hp1.size
  rw [show (ji_ 6 .nilIface n0).2=n0 from rfl]
  have hq1:∀ s,s ≠ 6->s < n0->a1.get s=a.get s:=fun s h1 h2=>hp1.get s h1 (.inl h2)
  refine qc_ (s_default (x:=6) (m:=n0) (k0:=n0) (B:=B) (O:=0) (cur:=cur) (te:=te) hEnt hDf ((hq1 0 (by omega) (by omega)).trans h0) hB (fun q hq=>by have:=hwb q hq;omega) (Nat.le_refl _) (Nat.le_refl _) (by omega) fun a2 w2 hp2 hsame2 hk2 hB2=>?_)
  have hs2:=hp2.size
  rw [show (jx_ 0 dflt n0).2=n0 + 2 from rfl]
  have hcur2:∀ j,1<=j->(applyWr cur 0 wr)[j]?=(applyWr z 0 wr)[j]?:=by
   have hgen:∀ (l:List (Nat × Value)) (c1 c2:Array Value),c1.size=c2.size->(∀ j,1<=j->c1[j]?=c2[j]?)->∀ j,1<=j->(applyWr c1 0 l)[j]?=(applyWr c2 0 l)[j]?:=by
    intro l
    induction l with
    | nil=>intro c1 c2 _ hc j hj;exact hc j hj
    | cons p l ih=>
     intro c1 c2 hsz hc j hj
     refine ih _ _ (by simpa using hsz) (fun i hi=>?_) j hj
     rw [Array.getElem?_setIfInBounds,Array.getElem?_setIfInBounds,hsz,hc i hi]
   refine hgen wr cur z hcs fun j hj=>?_
   rw [hcur,Array.getElem?_setIfInBounds,if_neg (by omega)]
  have hc0:(applyWr cur 0 wr)[0]?=some (.int .i16 ver):=by
   rw [applyWr_out 0 wr cur 0 (fun q hq=>by have:=hwb q hq;omega),hcur]
   simp [hzp]
  have hZ2:HasZ w2 B 0 (applyWr cur 0 wr):=fun j v hj=>by simp only [World.cell?,hB2];simpa using hj
  have hfd2:∀ X,RpF w2 X fs B 0 (dfFds fs):=fun X=>zFds_ok hZ2 X fs 0 (zFds_agree hcur2 fs 0 (.inr hpos) hzf)
  have htg2:TgNil w2 B 0 toff:=by
   cases toff with
   | none=>trivial
   | some o=>
    have ho:o ≠ 0:=fun h=>htf (by rw [h])
    refine hZ2.one ?_
    simp only [zTg,eqAt] at hzt ⊢
    rw [hcur2 o (by omega)]
    exact hzt
  have hsrc2:jj_ w2 S srcv r0:=hsrc.keep hk2 (fun h=>hBS h.symm)
  refine qc_ (qj_ (qd_ ?_))
  rw [qb_,hsame2 1 (by omega),hq1 1 (by omega) (by omega),h1]
  refine wl_newReader En.kb (y:=n0 + 2) (v:=srcv) (gpe (by omega)) hsrc2 hbad (by simp only [qa_];omega) (by simp only [qa_];omega) (by omega) (wpList_nil ?_)
  rw [show (qq_ 2 (fun n=>[mk (some n) (.move (tm 1)),mk (some (n + 1)) (.build g.tR #[(0,tm n)]),mk (some cx.b) (.alloc g.tR),mk none (.store g.tR (tm cx.b) (tm (n + 1)))]) (n0 + 2)).2=n0 + 4 from rfl]
  have hk3:Keeps (fun _=>False) w2 ((w2.alloc (.cells #[.slice none 0 0,.bool false] g.tR (0,0))).setRow w2.heap.size #[srcv,.bool false]):=zn_ _ _ _ _
  have hrd3:=rds_newReader (T:=g.tR) hsrc2 hbad
  have hsz3:((w2.alloc (.cells #[.slice none 0 0,.bool false] g.tR (0,0))).setRow w2.heap.size #[srcv,.bool false]).heap.size=w2.heap.size + 1:=by simp
  have hp3:Pv cx.b n0 n0 (n0 + 2) a2 ((((a2.put (some (n0 + 2)) srcv).put (some (n0 + 2 + 1)) (.agg #[srcv,.bool false])).put (some cx.b) (pt w2.heap.size 0))):=(((Pv.refl _ _ _ _ _).put _ (by omega)).put _ (by omega)).put _ (by omega)
  have hg3:((((a2.put (some (n0 + 2)) srcv).put (some (n0 + 2 + 1)) (.agg #[srcv,.bool false])).put (some cx.b) (pt w2.heap.size 0))).get cx.b=pt w2.heap.size 0:=gpe (by simp only [qa_];omega)
  generalize (((a2.put (some (n0 + 2)) srcv).put (some (n0 + 2 + 1)) (.agg #[srcv,.bool false])).put (some cx.b) (pt w2.heap.size 0))=a3 at hp3 hg3 ⊢
  generalize (w2.alloc (.cells #[.slice none 0 0,.bool false] g.tR (0,0))).setRow w2.heap.size #[srcv,.bool false]=w3 at hk3 hrd3 hsz3 ⊢
  have hs3:=hp3.size
  have hsz2:=hk2.size
  have hq3:∀ s,s ≠ cx.b->s ≠ 6->s < n0->a3.get s=a.get s:=fun s h1 h2 h3=>(hp3.get s h1 (.inl h3)).trans ((hsame2 s (by omega)).trans (hq1 s h2 h3))
  have hB3:w3.heap[B]?=some (.cells (applyWr cur 0 wr) te (0,0)):=by rw [hk3.block B (by omega) id];exact hB2
  have hfd3:∀ X,RpF w3 X fs B 0 (dfFds fs):=fun X=>RpF.frameIn (hk3.mono fun _ _ h=>h.elim) fs B 0 _ (hfd2 X) fun j _=>q7_ (hk3.block B (by omega) id) j
  have htg3:TgNil w3 B 0 toff:=by
   cases toff with
   | none=>trivial
   | some o=>exact hk3.cell id htg2
  have herr3:ErrAt g.gErr w3:=⟨te',xe,hk3.cell id (hk2.cell hgB hce)⟩
  have hk03:Keeps (·=B) w w3:=hk2.trans (hk3.mono fun _ _ h=>h.elim)
  have hpre:Pre g cx fs toff B S te cur.size w (ver,r0) ntmps w2.heap.size a3 w3:=
   ⟨hrd3,hg3,(hq3 0 (by omega) (by omega) (by omega)).trans h0,(hq3 2 (by omega) (by omega) (by omega)).trans h2,by omega,hp3.defers.trans (hp2.defers.trans (hp1.defers.trans had)),(hp3.get 6 (by omega) (.inl (by omega))).trans ((hsame2 6 (by omega)).trans hg1),hk03,hsz2,
    ⟨_,hB3,jn_ _ _ _,hc0⟩,hfd3,htg3,herr3⟩
  cases hkp:kept with
  | false=>
   rw [hkp] at h
   simp only [Bool.false_eq_true,if_false]
   exact head_tail hsl hF hpre (by omega) (by omega) hS hBlt hBS hgB hgl (fun a' w' hh=>h _ a' w' hh)
  | true=>
   rw [hkp] at h hkept
   have hi16:av .i16=true:=by simpa using hkept
   simp only [if_true]
   have hRS:S ≠ w2.heap.size:=by omega
   refine qc_ (qj_ (qd_ ?_))
   rw [qb_,hpre.s0]
   refine qs_ (vs:=#[pt w2.heap.size 0]) (En.kb.rdE _ hi16) (by simp [qb_,gpo (show cx.b ≠ n0 + 4 by omega),hg3]) (En.kb.rdC _ hi16 w3 S w2.heap.size r0 hrd3 hRS) fun e w4 hR=>?_
   obtain ⟨val,he,hrd4,hk4,hl4⟩:=hR
   refine ⟨_,he,?_⟩
   refine qo_ (by rw [qb_,gpo (by omega),gpe (by omega)];rfl) ?_
   refine jz_ (by rw [qb_,gpe (by simp only [qa_];omega)]) hF ?_
   obtain ⟨x,hx1,hx2,_⟩:=hl4 (fun _=>False) (fun _ h=>h.elim) id
   have hx3:x=(rI 2 r0).1:=by
    have e:(PF.run .i16 r0).1=.n (rI 2 r0).1:=rfl
    rw [e] at hx2
    exact (V.n.inj hx2).symm
   have hBR:B ≠ w2.heap.size:=by omega
   have hB4:w4.heap[B]?=some (.cells (applyWr cur 0 wr) te (0,0)):=by rw [hk4.block B (by omega) hBR];exact hB3
   have hws:(applyWr cur 0 wr).size=cur.size:=jn_ _ _ _
   refine q3_ (cur:=applyWr cur 0 wr) (t:=te) (v:=val) (vs:=[.int .i16 x]) (by rw [qb_,gpe (by simp only [qa_];omega)]) (by rw [qb_,gpo (by omega),gpo (by omega),gpe (by simp only [qa_];omega)]) hx1 (hF.var.size _) hB4 (by rw [hws];simp only [List.length_cons,List.length_nil];omega)
    (fun u hu=>by simp at hu;rw [hu];rfl) (wpList_nil ?_)
   rw [Nat.zero_add,splice_one (by omega)]
   have hw5:(w4.setRow B ((applyWr cur 0 wr).setIfInBounds 0 (.int .i16 x))).heap[B]?=some (.cells ((applyWr cur 0 wr).setIfInBounds 0 (.int .i16 x)) te (0,0)):=setRow_heap _ _ _ _ _ _ hB4
   have hk5:Keeps (·=B) w4 (w4.setRow B ((applyWr cur 0 wr).setIfInBounds 0 (.int .i16 x))):=Keeps.setRow _ _ _ _ rfl
   have hcellIn:∀ j,fs.In 0 j->(w4.setRow B ((applyWr cur 0 wr).setIfInBounds 0 (.int .i16 x))).cell? ⟨B,j,none⟩=w4.cell? ⟨B,j,none⟩:=fun j hj=>by
    have hne:¬ (0=j):=fun h=>posF_in fs j hpos hj h.symm
    simp only [World.cell?,hw5,hB4,Array.getElem?_setIfInBounds,hne,if_false]
   have hk34:Keeps (fun k=>k=w2.heap.size) w3 w4:=hk4
   have hfd4:∀ X,RpF w4 X fs B 0 (dfFds fs):=fun X=>RpF.mono (fun k _ hk=>.inl hk) fs B 0 _ (RpF.frameIn (hk34.mono fun k _ hk=>.inr hk) fs B 0 _ (hfd3 (fun k=>X k \/ k=w2.heap.size)) fun j _=>q7_ (hk4.block B (by omega) hBR) j)
   have hfd5:∀ X,RpF (w4.setRow B ((applyWr cur 0 wr).setIfInBounds 0 (.int .i16 x))) X fs B 0 (dfFds fs):=fun X=>RpF.mono (fun k _ hk=>.inl hk) fs B 0 _ (RpF.frameIn (hk5.mono fun k _ hk=>.inr hk) fs B 0 _ (hfd4 (fun k=>X k \/ k=B)) hcellIn)
   have htg5:TgNil (w4.setRow B ((applyWr cur 0 wr).setIfInBounds 0 (.int .i16 x))) B 0 toff:=by
    cases toff with
    | none=>trivial
    | some o=>
     have ho:o ≠ 0:=fun h=>htf (by rw [h])
     have h4:w4.cell? ⟨B,0 + o,none⟩=some (.map none):=hk4.cell hBR htg3
     show (w4.setRow B ((applyWr cur 0 wr).setIfInBounds 0 (.int .i16 x))).cell? ⟨B,0 + o,none⟩=some (.map none)
     rw [<- h4]
     have hne:¬ (0=0 + o):=by omega
     simp only [World.cell?,hw5,hB4,Array.getElem?_setIfInBounds,hne,if_false]
   refine head_tail (vr:=rI 2 r0) (R:=w2.heap.size) (n:=n0 + 8) hsl hF ⟨?_,?_,?_,?_,?_,?_,?_,?_,?_,?_,hfd5,htg5,?_⟩ (by omega) (by omega) hS hBlt hBS hgB hgl (fun a' w' hh=>h _ a' w' hh)
   ·exact hrd4.keep hk5 (fun h=>hBS h.symm) (fun h=>hBR h.symm)
   ·rw [gpo (by omega),gpo (by omega),gpo (by omega),gpo (by omega)];exact hg3
   ·rw [gpo (by omega),gpo (by omega),gpo (by omega),gpo (by omega)];exact hpre.s0
   ·rw [gpo (by omega),gpo (by omega),gpo (by omega),gpo (by omega)];exact hpre.s2
   ·simp only [qa_];exact hpre.size
   ·simp only [qe_];exact hpre.defers
   ·rw [gpo (by omega),gpo (by omega),gpo (by omega),gpo (by omega)];exact hpre.six
   ·refine ⟨hk4.os.trans hk03.os,hk4.tape.trans hk03.tape,hk4.output.trans hk03.output,by have:=hk4.size;have:=hk03.size;have:=hk5.size;omega,fun q hq hx=>?_⟩
    have:=hk03.size
    have:=hk4.size
    rw [hk5.block q (by omega) hx,hk4.block q (by omega) (by omega),hk03.block q hq hx]
   ·exact hsz2
   ·exact ⟨_,hw5,by simp [hws],by rw [<- hx3];simp [hws,hcs,hzp]⟩
   ·obtain ⟨t6,x6,h6⟩:=herr3
    exact ⟨t6,x6,hk5.cell hgB (hk4.cell (by omega) h6)⟩
 ·cases hdf
end
end Go.Proofs.YtdplnemfjedocabDoor.Kx

namespace Go.Proofs.YtdplnemfjedocabDoor.Kx
open Go
section
variable {P:Program} {g:G} {av:PF->Bool} {fl:Bool} {D:Nat->Option (List (Nat × Value))}
def topUsed (g:G) (kept:Bool) (cx:Cx) (fs:Fds) (dflt T kt flex n0:Nat) (m:Nm):Nat:=
 (gL (gHead g kept cx dflt T flex++(gStOf g cx fs.tagged T kt m (gFds g cx fs m.s) (gTagd g cx fs m.s)++gEnd g cx.b)) n0).2
def ReadPost (fs:Fds) (toff:Option Nat) (B S te csz:Nat) (w:World) (ver:Int) (out:Out V) (x:Value) (w':World):Prop:=
 Keeps (·=B) w w' /\
 match out with
 | .ok v r=>(r.bad=false->x=.nilIface)/\(r.bad=true->∃ t y,x=.iface t y) /\
   ∃ vs t cur,v=.st vs t/\w'.heap[B]?=some (.cells cur te (0,0))/\cur.size=csz/\cur[0]?=some (.int .i16 ver)/\Far w S (fun X=>RpF w' X fs B 0 vs)/\Far w S (fun X=>TgAt w' X B 0 toff t)
 | .err=>∃ t y,x=.iface t y
 | .stuck=>False
def rdMsg (hf:Bool) (flex:Nat) (fs:Fds) (ver:Int) (r:RS):Out V:=
 zg_ (hf && decide ((flex:Int)<=ver)) fs.tagged (rdFds (hf && decide ((flex:Int)<=ver)) ver fs) (rdTag (hf && decide ((flex:Int)<=ver)) ver fs) r
theorem read_fn (En:Env P g av fl D) {f ntmps:Nat} {kept:Bool} {cx:Cx} {fs:Fds} {dflt T kt flex n0:Nat} {toff:Option Nat} {nm:Nm} {z:Array Value} (hfl:cx.hf=true->fl=true) (hfn:FnIs P f ntmps [6] (gRead g cx.hf kept cx fs dflt T kt flex n0 nm))
  (hchk:topOk ⟨P,g,av,D⟩ kept cx fs dflt T kt toff n0 ntmps nm z (topUsed g kept cx fs dflt T kt flex n0 nm)=true) (h17:n0 + 17<=ntmps)
  {w:World} {B S te:Nat} {ver:Int} {srcv:Value} {r0:RS} (hB:w.heap[B]?=some (.cells (z.setIfInBounds 0 (.int .i16 ver)) te (0,0))) (hsrc:jj_ w S srcv r0) (hbad:r0.bad=false) (herr:ErrAt g.gErr w) (hS:S < w.heap.size) (hBS:B ≠ S) (hgB:g.gErr ≠ B)
  (hgo:rdMsg cx.hf flex fs (vread kept ver r0).1 (vread kept ver r0).2 ≠ .stuck) :
  Calls P f #[pt B 0,srcv,.bool false] w fun e w'=>∃ x,e=.returned x/\ReadPost fs toff B S te z.size w (vread kept ver r0).1 (rdMsg cx.hf flex fs (vread kept ver r0).1 (vread kept ver r0).2) x w':=by
 refine hfn.calls En.kb.mixed (by simp) ?_
 rw [gRead_eq]
 have hchk0:=hchk
 simp only [topOk,Bool.and_eq_true,decide_eq_true_eq] at hchk
 obtain ⟨⟨⟨⟨⟨hsl,hused⟩,hF⟩,hkept⟩,hdf⟩,hst⟩:=hchk
 obtain ⟨hext,hpos,htf0⟩:fs.ext (za_ toff)<=z.size/\posF fs=true/\toff ≠ some 0:=by
  split at hdf
  ·simp only [Bool.and_eq_true,decide_eq_true_eq,bne_iff_ne] at hdf
   exact ⟨hdf.1.2,hdf.1.1.1.2,hdf.1.1.2⟩
  ·cases hdf
 have htm:topM cx=max (max cx.b cx.s) (max cx.ver cx.fx) + 1:=rfl
 have hsz:=js_ #[pt B 0,srcv,.bool false] ntmps (by show 3<=ntmps;omega)
 have hupE:UpL (gEnd g cx.b):=qf_ (qi_ _ _) (qf_ (je_ _) qk_)
 have hupS:UpL (gStOf g cx fs.tagged T kt nm (gFds g cx fs nm.s) (gTagd g cx fs nm.s)):=up_gStOf (up_gFds g fs nm.s cx) (up_gTagd g fs nm.s cx)
 unfold topUsed at hused
 rw [jg_,jg_] at hused
 have hu1:=hupS (gL (gHead g kept cx dflt T flex) n0).2
 have hused':(gL (gStOf g cx fs.tagged T kt nm (gFds g cx fs nm.s) (gTagd g cx fs nm.s)) (gL (gHead g kept cx dflt T flex) n0).2).2 + 1<=ntmps:=hused
 have hhead:n0<=(gL (gHead g kept cx dflt T flex) n0).2:=by
  refine (show UpL (gHead g kept cx dflt T flex) from ?_) n0
  unfold gHead
  exact ql_ (ql_ (ql_ (ql_ (qf_ (qi_ _ _) (qf_ (qi_ _ _) (qf_ (qi_ _ _) qk_))) (upL_ite (qf_ (qi_ _ _) qk_) qk_)) (qf_ (qi_ _ _) (qf_ (qi_ _ _) qk_))) (upL_ite (qf_ (qi_ _ _) (qf_ (qi_ _ _) qk_)) qk_)) (qf_ (qi_ _ _) qk_)
 generalize hnH:(gL (gHead g kept cx dflt T flex) n0).2=nH at *
 refine q4_ (LW_append ?_)
 rw [hnH]
 refine head_ok En hchk0 h17 hB rfl hsrc hbad herr hS hBS hgB hsz rfl (by rw [q9_ _ _ _ (by simp)];rfl) (by rw [q9_ _ _ _ (by simp)];rfl) (by rw [q9_ _ _ _ (by simp)];rfl) fun R a1 w1 hh=>?_
 have hs1:=hh.size
 generalize hvr:vread kept ver r0=vr at *
 obtain ⟨cur,hB1,hcs,hc0⟩:=hh.blk
 have hzs:(z.setIfInBounds 0 (.int .i16 ver)).size=z.size:=by simp
 rw [hzs] at hcs
 have hfx6:cx.fx ≠ 6:=by
  rcases hsl.2.2.2.2.2.2.2 with h2 | h2
  ·have:=h2.2.1;omega
  ·have:=h2.2;omega
 have hcm:CxOk cx (topM cx) n0:=⟨⟨by omega,by omega⟩,⟨by omega,by omega⟩,⟨by omega,by omega⟩,⟨by omega,hfx6⟩,by omega,by omega⟩
 have hsz01:=hh.keeps.size
 have hfresh:=hh.fresh
 refine LW_append ?_
 rw [qt_]
 refine rd_st En fs nm cx (cx.hf && decide ((flex:Int)<=vr.1)) vr.1 S R B 0 vr.2 (topM cx) n0 nH T kt toff _ _ a1 w1 te hst hh.rc hcm hfl hhead (by omega) (by omega) ⟨cur,hB1,by omega⟩ (.inr ⟨hh.fds,hh.tgs⟩) ⟨fun v r' a2 w2 he hp2 hrd2 hev2 hv=>?_,fun he a2 w2 hp2 hif hk2=>?_,hgo⟩
 ·have hs2:=hp2.size
  obtain ⟨vs,t,rfl,hF2,hT2⟩:=hv
  have hsb:a2.get cx.b=pt R 0:=(hp2.get _ (by omega) (.inl (by omega))).trans hh.rc.sb
  obtain ⟨tE,xE,hE1⟩:=hh.rc.err
  have hE2:ErrAt g.gErr w2:=ErrAt.keep ⟨tE,xE,hE1⟩ hev2.keeps (fun h=>by rcases h with h | h;exact hh.rc.gR h;exact hh.rc.gB h)
  obtain ⟨cur2,hB2,hcs2,hcz2⟩:=hev2.blk cur te hB1
  have hc02:cur2[0]?=some (.int .i16 vr.1):=by
   rw [hcz2 0 (fun h=>?_)]
   ·exact hc0
   ·rcases h with h | ⟨o,h1,h2⟩
    ·exact posF_in fs 0 hpos h rfl
    ·have h0:o=0:=by omega
     exact htf0 (by rw [h1,h0])
  refine qc_ (qj_ (qs_ (vs:=#[pt R 0]) En.kb.cmE (by simp [qb_,hsb]) (En.kb.cmC w2 S R r' hrd2 hE2) fun e w3 hR=>?_))
  obtain ⟨hk3,x,he3,hx0,hx1⟩:=hR
  refine ⟨_,he3,qg_ (wpList_nil (qc_ (.ret ?_)))⟩
  rw [qb_,gpe (by omega)]
  refine ⟨?_,x,?_,?_⟩
  ·simp only [qe_];exact hp2.defers.trans hh.defers
  ·simp only [zb_]
   rw [gpe (by simp only [qa_];omega)]
  ·refine ⟨?_,?_⟩
   ·refine ⟨hk3.os.trans (hev2.keeps.os.trans hh.keeps.os),hk3.tape.trans (hev2.keeps.tape.trans hh.keeps.tape),hk3.output.trans (hev2.keeps.output.trans hh.keeps.output),?_,fun q hq hx=>?_⟩
    ·have:=hk3.size
     have:=hev2.keeps.size
     omega
    ·have:=hev2.keeps.size
     rw [hk3.block q (by omega) id,hev2.keeps.block q (by omega) (fun h=>by rcases h with h | h;omega;exact hx h),hh.keeps.block q hq hx]
   ·rw [show rdMsg cx.hf flex fs vr.1 vr.2=.ok (.st vs t) r' from he]
    have hBw2:B < w2.heap.size:=(Array.getElem?_eq_some_iff.1 hB2).1
    refine ⟨hx0,hx1,vs,t,cur2,rfl,by rw [hk3.block B hBw2 id];exact hB2,by omega,hc02,fun X hX hS'=>?_,fun X hX hS'=>?_⟩
    ·exact RpF.frameIn (hk3.mono fun _ _ h=>h.elim) fs B 0 vs (hF2 X (fun k hk=>Nat.lt_of_lt_of_le (hX k hk) hsz01) hS') fun j _=>q7_ (hk3.block B hBw2 id) j
    ·exact (hT2 X (fun k hk=>Nat.lt_of_lt_of_le (hX k hk) hsz01) hS').frame (hk3.mono fun _ _ h=>h.elim) fun k _=>q7_ (hk3.block B hBw2 id) _
 ·obtain ⟨tE,yE,hE⟩:=hif
  refine ⟨hp2.defers.trans hh.defers,.iface tE yE,by simp only [zb_];rw [hE],?_,?_⟩
  ·refine ⟨hk2.os.trans hh.keeps.os,hk2.tape.trans hh.keeps.tape,hk2.output.trans hh.keeps.output,Nat.le_trans hsz01 hk2.size,fun q hq hx=>?_⟩
   rw [hk2.block q (by omega) (fun h=>by rcases h with h | h;omega;exact hx h),hh.keeps.block q hq hx]
  ·rw [show rdMsg cx.hf flex fs vr.1 vr.2=.err from he]
   exact ⟨tE,yE,rfl⟩
end
end Go.Proofs.YtdplnemfjedocabDoor.Kx
