/-
  PLAIN LAWS AND CONTRACTS of messages, part 6 of 15: how readers and writers are printed, what they do, what the reference writes, and that what is written is read as the same. Nothing of a statement stands here.
-/
import Derived.Test.YtlmanancakaapaaGreatDoorK1
import Derived.Test.YtlmanancakaapaaGreatDoorK2
import Derived.Test.YtlmanancakaapaaGreatDoorK3
import Derived.Test.YtlmanancakaapaaGreatDoorK4
import Derived.Test.YtlmanancakaapaaGreatDoorK5
import Derived.Test.YtlmanancakaapaaGreatDoorK11

namespace Go.Proofs.YtlmanancakaapaaGreatDoor.Kx
open Go
theorem far_gen {A A':Nat->Prop} {S n:Nat} {T T':(Nat->Prop)->Prop} (Y:Nat->Prop) (hA:∀ k,k < n->A' k->A k) (hY:∀ k,k < n->Y k->A k) (hYS:¬ Y S) (hmono:∀ X Z:Nat->Prop,(∀ k,k < n->Z k->X k)->T X->T Z)
  (hfr:∀ X:Nat->Prop,T (fun k=>X k \/ Y k)->T' X) (h:FarA A S T):FarA A' S T':=by
 intro X hX hS
 refine hfr X (hmono (fun k=>(X k \/ Y k)/\k < n) _ (fun k hk h=>⟨h,hk⟩) (h _ (fun k hk=>?_) (fun hk=>?_)))
 ·obtain ⟨hk | hk,hn⟩:=hk
  ·exact hA k hn (hX k hk)
  ·exact hY k hn hk
 ·obtain ⟨hk | hk,_⟩:=hk
  ·exact hS hk
  ·exact hYS hk
section
variable {A A':Nat->Prop} {S:Nat} {w w':World} {Y:Nat->Prop}
theorem front_step (hk:Keeps Y w w') (hA:∀ k,k < w.heap.size->A' k->A k) (hY:∀ k,k < w.heap.size->Y k->A k) (hYS:¬ Y S) {fs:Fds} {B O:Nat} {us:List V} (hc:∀ j,fs.In O j->w'.cell? ⟨B,j,none⟩=w.cell? ⟨B,j,none⟩)
  (h:FarA A S fun X=>RpF w X fs B O us):FarA A' S fun X=>RpF w' X fs B O us:=
 far_gen Y hA hY hYS (fun _ _ hz=>RpF.mono hz fs B O us) (fun _X hX=>RpF.mono (fun _ _ hx=>.inl hx) fs B O us (RpF.frameIn (hk.mono fun _ _ hx=>.inr hx) fs B O us hX hc)) h
theorem el_step (hk:Keeps Y w w') (hA:∀ k,k < w.heap.size->A' k->A k) (hY:∀ k,k < w.heap.size->Y k->A k) (hYS:¬ Y S) {e:Ty} {p o:Nat} {x:V} (hp:w'.heap[p]?=w.heap[p]?) (h:FarA A S fun X=>Rp w X e p o x):FarA A' S fun X=>Rp w' X e p o x:=
 far_gen Y hA hY hYS (fun _ _ hz=>Rp.mono hz e p o x) (fun _X hX=>Rp.mono (fun _ _ hx=>.inl hx) e p o x (Rp.frame (hk.mono fun _ _ hx=>.inr hx) e p o x hX fun _ _ _=>q1_ hp _)) h
theorem tg_step (hk:Keeps Y w w') (hA:∀ k,k < w.heap.size->A' k->A k) (hY:∀ k,k < w.heap.size->Y k->A k) (hYS:¬ Y S) {B O o:Nat} {t:List (Nat × Bs)} (hc:w'.cell? ⟨B,O + o,none⟩=w.cell? ⟨B,O + o,none⟩)
  (h:FarA A S fun X=>TgAt w X B O (some o) t):FarA A' S fun X=>TgAt w' X B O (some o) t:=
 far_gen Y hA hY hYS (fun _ _ hz h=>h.mono hz) (fun X hX=>(hX.frame (hk.mono fun _ _ hx=>.inr hx) fun k hk=>by cases hk;exact hc).mono fun _ _ hx=>.inl hx) h
theorem RowAt.keep {P:Program} {F b o:Nat} {row:Option Nat} {old:V} (h:RowAt P F w b o row old) (hc:w'.cell? ⟨b,o,none⟩=w.cell? ⟨b,o,none⟩) (hr:∀ p,row=some p->p < w.heap.size->w'.heap[p]?=w.heap[p]?):RowAt P F w' b o row old:=by
 rcases h with ⟨h1,h2⟩ | ⟨xs,p,c,cur,E',sz,z,h1,h2,h3,h4,h5⟩
 ·exact .inl ⟨by rw [hc];exact h1,h2⟩
 ·exact .inr ⟨xs,p,c,cur,E',sz,z,by rw [hc];exact h1,h2,h3,by rw [hr p h2 (Array.getElem?_eq_some_iff.1 h4).1];exact h4,h5⟩
theorem RowAt.lt {P:Program} {F b o:Nat} {row:Option Nat} {old:V} (h:RowAt P F w b o row old):∀ p,row=some p->p < w.heap.size:=by
 intro q hq
 rcases h with ⟨_,h2,_⟩ | ⟨xs,p,c,cur,E',sz,z,h1,h2,h3,h4,h5⟩
 ·rw [h2] at hq;cases hq
 ·rw [h2] at hq;cases hq;exact (Array.getElem?_eq_some_iff.1 h4).1
theorem ElAt.step {row:Option Nat} {v:V} {e:Ty} {esz:Nat} (hk:Keeps Y w w') (hA:∀ p,row=some p->∀ k,k < w.heap.size->(A' k \/ k=p)->(A k \/ k=p)) (hY:∀ k,k < w.heap.size->Y k->A k) (hYS:¬ Y S) (hp:∀ p,row=some p->w'.heap[p]?=w.heap[p]?)
  (h:ElAt A S esz e w row v):ElAt A' S esz e w' row v:=
 fun p xs hr hv i x hx=>el_step hk (hA p hr) (fun k h1 h2=>.inl (hY k h1 h2)) hYS (hp p hr) (h p xs hr hv i x hx)
end
def TagJ (P:Program) (g:G) (F S R B O o off esz:Nat) (e:Ty) (fs:Fds) (t0:Nat) (ver:Int) (w0:World) (out:Out V) (c:Nat) (w:World):Prop:=
 ∃ (us:List V) (old:V) (t:List (Nat × Bs)) (r:RS) (mm:Value) (row:Option Nat),out=qq_ (rdTagL true ver t0 esz e) c (us++[old]) t r/\RdS w g.tR S R r/\Evo R B (fun j=>fs.In O j \/ j=O + o) w0 w/\w.cell? ⟨B,O + o,none⟩=some mm /\
  ((mm=.map none/\t=[]) \/ ∃ q,mm=.map (some q)/\w0.heap.size<=q/\q < w.heap.size) /\
  FarA (fun k=>k < w0.heap.size \/ mm=.map (some k) \/ row=some k) S (fun X=>RpF w X fs.front B O us) /\
  RowAt P F w B (O + off) row old/\(∀ p,row=some p->w0.heap.size<=p/\mm ≠ .map (some p))/\ElAt (fun k=>k < w0.heap.size \/ mm=.map (some k)) S esz e w row old /\
  FarA (fun k=>k < w0.heap.size \/ row=some k) S (fun X=>TgAt w X B O (some o) t)
section
variable {P:Program} {g:G} {av:PF->Bool} {fl:Bool} {D:Nat->Option (List (Nat × Value))}
theorem rdTagL_at {ver:Int} {t0 esz:Nat} {e:Ty} {us:List V} {old:V} {k:Nat} (hkt:k=t0) (r:RS):∃ gf,rdTagL true ver t0 esz e k=some gf/\gf (us++[old]) r=(rdLs true ver esz e old r).bind fun v r=>.ok (us++[v]) r:=by
 refine ⟨_,if_pos hkt,?_⟩
 simp only [List.getLastD_concat,List.dropLast_concat]
theorem loop_known {f:Nat->Option (List V->RS->Out (List V))} {gf:List V->RS->Out (List V)} {c:Nat} {vs:List V} {t:List (Nat × Bs)} {r:RS} (h:f (rUv r).1=some gf) :
  (∀ vs' r',gf vs (inner (rUv r).2)=.ok vs' r'->r'.bad=false->qq_ f (c + 1) vs t r=qq_ f c vs' t (behind (rUv r).2))/\(∀ vs' r',gf vs (inner (rUv r).2)=.ok vs' r'->r'.bad=true->qq_ f (c + 1) vs t r=.err) /\
  (gf vs (inner (rUv r).2)=.err->qq_ f (c + 1) vs t r=.err)/\(gf vs (inner (rUv r).2)=.stuck->qq_ f (c + 1) vs t r=.stuck):=by
 refine ⟨fun vs' r' he hb=>?_,fun vs' r' he hb=>?_,fun he=>?_,fun he=>?_⟩ <;> simp only [inner] at he
 ·simp only [qq_,h,he,hb,behind,Bool.false_eq_true,if_false]
 ·simp only [qq_,h,he,hb,if_true]
 ·simp only [qq_,h,he]
 ·simp only [qq_,h,he]
theorem caseL_size {b b' err n:Nat} {GT:List GC}:((gS ([gInner g b b']++GT++[gErrChk g b' err]):GC) (n + 2)).2=(gL GT (n + 6)).2 + 4:=by
 simp only [gS,qx_,gL]
 rfl
theorem caseL_open {b b' err n:Nat} {GT:List GC} {Q:Exit->Act->World->Prop} {a:Act} {w:World} (h:LW P (gInner g b b' :: (GT++[gErrChk g b' err])) n Q a w):NWP P ((gS ([gInner g b b']++GT++[gErrChk g b' err]):GC) n).1 Q a w:=q2_ h
theorem tag_bodyJ (K0:KB P g av fl) {fs:Fds} {t0 off esz:Nat} {e:Ty} (hls:fs.lst=some (t0,off,esz,e)) (hel:RdEl P g av fl D e) (hez:∀ hf m k0 z nm,okEl ⟨P,g,av,D⟩ hf m k0 esz z e nm=true->e.sz<=esz)
  {nm:Nm} {cx:Cx} {ver:Int} {S R B O o:Nat} {r0:RS} {m k0 n T kt:Nat} {E:Act->World->Prop} {a a1:Act} {w0 w1:World} {te:Nat} {out:Out V} {c:Nat} {i:Nat}
  (hok:okTagd ⟨P,g,av,D⟩ (nm.n 1 + 1) k0 T fs nm.s=true) (h1c:rowOne P (((fs.lastM nm.s).sub 0).n 3)=true) (hdj:disjF fs=true) (hF:zj_ P T kt g.tTags o true 1) (hoff:offBy fs o (o + 1)=true) (hsl:m<=i/\i < nm.n 1/\nm.n 1 < k0) (hrc:RC g cx true ver S R B O r0 a w0) (hc:CxOk cx m k0) (hhf:cx.hf=true) (hfl:fl=true) (hk:k0<=n) (hks:k0<=a.tmps.size)
  (hn:((gS [qm_ g.uv cx.b (nm.n 1),gSwitch g cx (nm.n 1) (nm.n 4) T kt (gTagd g cx fs nm.s)]:GC) (n + 5)).2<=a.tmps.size) (hb:Blk w0 B (O + fs.ext (o + 1)) te) (hp1:Pv 6 i k0 n a a1) (hI:TagJ P g (((fs.lastM nm.s).sub 0).n 3) S R B O o off esz e fs t0 ver w0 out (c + 1) w1) (hgo:out ≠ .stuck)
  (hE:out=.err->∀ a' w',Pv 6 m k0 n a a'->(∃ t y,a'.get 6=.iface t y)->Keeps (fun k=>k=R \/ k=B) w0 w'->E a' w') :
  NWP P ((gS [qm_ g.uv cx.b (nm.n 1),gSwitch g cx (nm.n 1) (nm.n 4) T kt (gTagd g cx fs nm.s)]:GC) (n + 5)).1 (Rt (fun a2 w2=>Pv 6 (i + 1) k0 (n + 5) a1 a2/\TagJ P g (((fs.lastM nm.s).sub 0).n 3) S R B O o off esz e fs t0 ver w0 out c w2) E) a1 w1:=by
 obtain ⟨us,old,t,r,cell,row,hout,hrd,hev,hcell,hmm,hRF,hRA,hrw,hEl,hTF⟩:=hI
 obtain ⟨_,hsm,hoky⟩:=lst_ok hls _ hok
 have hRw:R < w0.heap.size:=hrc.rd.lt
 have hBw:B < w0.heap.size:=hb.lt
 have hSw:=hrc.Slt
 have hs1:=hp1.size
 have h66:=hc.six
 have hrc1:RC g cx true ver S R B O r a1 w1:=hrc.step hc (hp1.mono hsl.1 (Nat.le_refl _)) hrd hev.keeps (fun _ _ h=>h)
 have hci:CxOk cx (i + 1) k0:=cxOk_up hc (by omega) (by omega)
 have hck:CxOk cx (nm.n 1 + 1) k0:=cxOk_up hc (by omega) (by omega)
 have hn':(gCases g (n + 6) (z0_ g cx (nm.n 1) T kt (n + 6 + 1)) (gTagd g cx fs nm.s) (n + 6 + 9)).2<=a.tmps.size:=hn
 have hupc:=up_cases (g:=g) (key:=n + 6) (dflt:=z0_ g cx (nm.n 1) T kt (n + 6 + 1)) (l:=gTagd g cx fs nm.s) (up_gTagd g fs nm.s cx) (n + 6 + 9)
 have hoIn:∀ j,fs.In O j->j ≠ O + o:=fun j hj h=>z4_ fs o (o + 1) O j hoff hj ⟨by omega,by omega⟩
 have hoff':off ≠ o:=fun h=>hoIn (O + off) (lst_in hls O (O + off) ⟨by omega,by omega⟩) (by rw [h])
 refine q2_ (qc_ (s_call (x:=6) (m:=i + 1) (k0:=k0) (K0.uvE hfl) hrc1.sb (K0.uvC hfl w1 S R r hrc1.rd hrc1.SR) (.inr ⟨by omega,hsl.2.2⟩) (by omega) (by omega) (by omega) (by omega) fun e' w2 hR=>?_))
 obtain ⟨he,hrd2,hk2⟩:=hR
 refine ⟨_,he,fun a2 hp2 hg2=>?_⟩
 have hs2:=hp2.size
 have hrc2:RC g cx true ver S R B O (rUv r).2 a2 w2:=hrc1.step hci hp2 hrd2 hk2 (fun _ _ h=>.inl h)
 have hp02:Pv 6 i k0 n a a2:=hp1.trans (hp2.mono (by omega) (by omega))
 have hev2:Evo R B (fun j=>fs.In O j \/ j=O + o) w0 w2:=hev.trans (Evo.of_keeps hk2 (fun _ _ h=>h) hrc.BR)
 have hev12:Evo R B (fun _=>False) w1 w2:=Evo.of_keeps hk2 (fun _ _ h=>h) hrc.BR
 have hb1:=hb.evo hev
 have hb2:=hb.evo hev2
 have hkk:=rUv_lt r
 have hsz01:=hev.keeps.size
 have hsz12:=hk2.size
 have hcB:∀ j,w2.cell? ⟨B,j,none⟩=w1.cell? ⟨B,j,none⟩:=fun j=>by
  obtain ⟨cur,hcu,_⟩:=hb1
  exact hev12.cell hcu id
 have hcell2:w2.cell? ⟨B,O + o,none⟩=some cell:=by rw [hcB];exact hcell
 have hrR:∀ p,row=some p->p ≠ R/\p ≠ B/\p ≠ S/\p < w1.heap.size:=fun p hp=>by
  have:=hrw p hp
  exact ⟨by omega,by omega,by omega,hRA.lt p hp⟩
 have hmmlt:∀ k,cell=.map (some k)->w0.heap.size<=k/\k < w1.heap.size:=fun k hk=>by
  rcases hmm with ⟨h,_⟩ | ⟨q,h,h1,h2⟩
  ·rw [h] at hk;cases hk
  ·rw [h] at hk;cases hk;exact ⟨h1,h2⟩
 have hpk2:∀ p,row=some p->w2.heap[p]?=w1.heap[p]?:=fun p hp=>hk2.block p (hrR p hp).2.2.2 (hrR p hp).1
 have hRF2:FarA (fun k=>k < w0.heap.size \/ cell=.map (some k) \/ row=some k) S (fun X=>RpF w2 X fs.front B O us):=front_step hk2 (fun _ _ h=>h) (fun k _ h=>.inl (by rw [h];exact hRw)) (fun h=>hrc.SR h) (fun j _=>hcB j) hRF
 have hTF2:FarA (fun k=>k < w0.heap.size \/ row=some k) S (fun X=>TgAt w2 X B O (some o) t):=tg_step hk2 (fun _ _ h=>h) (fun k _ h=>.inl (by rw [h];exact hRw)) (fun h=>hrc.SR h) (hcB _) hTF
 have hRA2:RowAt P (((fs.lastM nm.s).sub 0).n 3) w2 B (O + off) row old:=hRA.keep (hcB _) fun p hp _=>hpk2 p hp
 have hEl2:ElAt (fun k=>k < w0.heap.size \/ cell=.map (some k)) S esz e w2 row old:=hEl.step hk2 (fun _ _ _ _ h=>h) (fun k _ h=>.inl (by rw [h];exact hRw)) (fun h=>hrc.SR h) hpk2
 refine qc_ ?_
 rw [qr_,show (qm_ g.uv cx.b (nm.n 1) (n + 5)).2=n + 6 from rfl]
 refine .seq (R:=Rt (fun a3 w3=>Pv 6 k0 k0 (n + 6) a2 a3/\a3.get (n + 6)=.int .u32 ((rUv r).1:Nat)/\w3=w2) E) (.reg (qd_ (wpList_nil ?_))) (fun a3 w3 hh=>?_) (fun e a w he hq=>by cases e <;> first | exact absurd rfl he | exact hq)
 ·rw [qb_,hg2]
  exact ⟨(Pv.refl _ _ _ _ _).put _ (by omega),gpe (by omega),rfl⟩
 obtain ⟨hp3',hg3,rfl⟩:=hh
 have hp3:Pv 6 (i + 1) k0 (n + 6) a2 a3:=hp3'.low (by omega)
 have hkey3:a3.get (nm.n 1)=.int .u32 ((rUv r).1:Nat):=(hp3'.get _ (by omega) (.inl hsl.2.2)).trans hg2
 have hs3:=hp3.size
 have hp03:Pv 6 i k0 n a a3:=hp02.trans (hp3.mono (by omega) (by omega))
 have hp13:Pv 6 (i + 1) k0 (n + 5) a1 a3:=hp2.trans (hp3.mono (Nat.le_refl _) (by omega))
 have hrc3:RC g cx true ver S R B O (rUv r).2 a3 w3:=hrc2.step hci hp3 hrc2.rd (Keeps.refl (fun _=>False) w3) (fun _ _ h=>h.elim)
 refine .block (.mono (Q:=Exit.inBlock (nm.n 4) (Rt (LW P [] _ (Rt _ E)) E)) (R:=Rt (fun a4 w4=>Pv 6 (i + 1) k0 (n + 5) a1 a4/\TagJ P g (((fs.lastM nm.s).sub 0).n 3) S R B O o off esz e fs t0 ver w0 out c w4) E) ?_ fun e a w hq=>by cases e <;> first | exact q0_ hq | exact hq | exact hq.elim)
 show NWP P (gCases g (n + 6) (z0_ g cx (nm.n 1) T kt (n + 6 + 1)) (gTagd g cx fs nm.s) (n + 6 + 9)).1 _ a3 w3
 rw [lst_case hls] at hn' hupc ⊢
 generalize hmh:fs.lastM nm.s=mh at *
 generalize hbody:(gS ([gInner g cx.b (mh.n 0)]++gTy g { cx with b:=mh.n 0 } (.list none esz e) (mh.sub 0)++[gErrChk g (mh.n 0) (mh.n 1)]):GC)=body at hn' hupc ⊢
 have hupT:=up_gTy g (.list none esz e) (mh.sub 0) { cx with b:=mh.n 0 } (n + 6 + 9 + 6)
 have hb3:(body (n + 6 + 9 + 2)).2=(gL (gTy g { cx with b:=mh.n 0 } (.list none esz e) (mh.sub 0)) (n + 6 + 9 + 6)).2 + 4:=by
  rw [<- hbody]
  exact caseL_size
 have hnb:(body (n + 6 + 9 + 2)).2<=a.tmps.size:=hn'
 refine s_case (x:=6) (m:=nm.n 1 + 1) (k0:=k0) hg3 (by omega) (by omega) (by omega) (by omega) (fun hkt a4 hp4=>?_) (fun hkt a4 hp4 hg4=>?_)
 ·-- the list
  have hs4:=hp4.size
  have hrc4:RC g cx true ver S R B O (rUv r).2 a4 w3:=hrc3.step hck hp4 hrc3.rd (Keeps.refl (fun _=>False) w3) (fun _ _ h=>h.elim)
  have hp04:Pv 6 i k0 n a a4:=hp03.trans (hp4.mono (by omega) (by omega))
  obtain ⟨gf,hgf,hgv⟩:=rdTagL_at (ver:=ver) (esz:=esz) (e:=e) (us:=us) (old:=old) hkt (inner (rUv r).2)
  obtain ⟨l1,l2,l3,l4⟩:=loop_known (c:=c) (vs:=us++[old]) (t:=t) hgf
  rw [<- hout,hgv] at l1 l2 l3 l4
  rw [<- hbody]
  refine caseL_open ?_
  refine qc_ (s_inner K0 hfl hrc4 hck ⟨hsm.1,hsm.2.1⟩ (by omega) (by omega) fun a5 w5 R' hp5 hb5 hR' hrdI hrdO hkR=>?_)
  have hs5:=hp5.size
  have hszR:=hkR.size
  have hp05:Pv 6 i k0 n a a5:=hp04.trans (hp5.mono (by omega) (by omega))
  obtain ⟨te',ye,hce⟩:=hrc3.err
  have hgl:=j2_ hce
  obtain ⟨te0,ye0,hce0⟩:=hrc.err
  have hgl0:=j2_ hce0
  have hrcI:RC g { cx with b:=mh.n 0 } true ver S R' B O (inner (rUv r).2) a5 w5:=
   ⟨hrdI,hb5,(hp5.get _ hck.s.2 (.inl hck.s.1)).trans hrc4.ss,(hp5.get _ hck.ver.2 (.inl hck.ver.1)).trans hrc4.sv,fun _=>(hp5.get _ hck.fx.2 (.inl hck.fx.1)).trans (hrc4.sf hhf),fun h=>(by rw [hhf] at h;cases h),
    (hp5.get 2 (by omega) (.inl (by omega))).trans hrc4.su,ErrAt.keep ⟨te',ye,hce⟩ hkR hrc.gR,by omega,by omega,hrc.BS,by omega,hrc.gB,by omega⟩
  have hcI:CxOk { cx with b:=mh.n 0 } (mh.n 0 + 1) k0:=
   ⟨⟨by simp,by simp only;omega⟩,⟨by have:=hck.s;simp only;omega,hck.s.2⟩,⟨by have:=hck.ver;simp only;omega,hck.ver.2⟩,⟨by have:=hck.fx;simp only;omega,hck.fx.2⟩,by omega,by omega⟩
  have hev35:Evo R B (fun _=>False) w3 w5:=Evo.of_keeps hkR (fun _ _ h=>h) hrc.BR
  have hb5':=hb2.evo hev35
  have hRA5:RowAt P ((mh.sub 0).n 3) w5 B (O + off) row old:=hRA2.keep (by obtain ⟨cur,hcu,_⟩:=hb2;exact hev35.cell hcu id) fun p hp hlt=>hkR.block p hlt (hrR p hp).1
  have hin:(gInner g cx.b (mh.n 0) (n + 6 + 9 + 2)).2=n + 6 + 9 + 6:=rfl
  have hext:=lst_ext hls (o + 1)
  rw [hin]
  refine z5_ ?_
  rw [qr_]
  refine ty_listR K0 hel hez (row:=row) (te:=te) (by simp only [hhf];exact hoky) h1c hrcI hcI (fun _=>hfl) (by omega) (by omega) (by omega) (hb5'.mono (by omega)) hRA5 (fun p hp=>?_) (fun u r' a6 w6 he hp6 hrd6 hev6 hpost=>?_) (fun he a6 w6 hp6 hif hk6=>?_) (fun he=>?_)
  ·have:=hrR p hp
   have:=hrw p hp
   exact ⟨by omega,by omega,by omega,by omega⟩
  ·have hs6:=hp6.size
   have hgb6:a6.get (mh.n 0)=pt R' 0:=by rw [hp6.get _ (by omega) (.inl (by omega))];exact hb5
   have herr6:ErrAt g.gErr w6:=ErrAt.keep hrcI.err hev6.keeps (fun h=>by
    rcases h with h | h | h
    ·omega
    ·exact hrc.gB h
    ·have:=hrw _ h;omega)
   have hp06:Pv 6 i k0 n a a6:=hp05.trans (hp6.mono (by omega) (by omega))
   have hsz6:=hev6.keeps.size
   refine qc_ ?_
   rw [qr_]
   refine s_errChk (m:=nm.n 1 + 1) (k0:=k0) K0 hfl hgb6 hrd6 herr6 (by omega) ⟨hsm.2.2.1,hsm.2.2.2⟩ (by omega) (by omega) (by omega) (fun hbad a7 w7 hp7 hif hk7=>?_) (fun hbad a7 w7 hp7 hk7=>q0_ ?_)
   ·refine hE (l2 (us++[u]) r' (by rw [he];rfl) hbad) a7 w7 ((hp06.trans (hp7.mono (by omega) (by omega))).mono hsl.1 (Nat.le_refl _)) hif ?_
    have hsz7:=hk7.size
    exact ⟨hk7.os.trans (hev6.keeps.os.trans (hkR.os.trans hev2.keeps.os)),hk7.tape.trans (hev6.keeps.tape.trans (hkR.tape.trans hev2.keeps.tape)),hk7.output.trans (hev6.keeps.output.trans (hkR.output.trans hev2.keeps.output)),by omega,fun k hk hx=>by
     rw [hk7.block k (by omega) id,hev6.keeps.block k (by omega) (fun h=>by
      rcases h with h | h | h
      ·omega
      ·exact hx (.inr h)
      ·have:=hrw _ h;omega),hkR.block k (by omega) (fun h=>hx (.inl h)),hev2.keeps.block k hk hx]⟩
   ·have hsz7:=hk7.size
    obtain ⟨row',hRA6,hrr,hEl6⟩:=hpost
    have hk37:Keeps (fun k=>k=R \/ k=B \/ row=some k) w3 w7:=
     ⟨hk7.os.trans (hev6.keeps.os.trans hkR.os),hk7.tape.trans (hev6.keeps.tape.trans hkR.tape),hk7.output.trans (hev6.keeps.output.trans hkR.output),by omega,fun k hk hx=>by
      rw [hk7.block k (by omega) id,hev6.keeps.block k (by omega) (fun h=>by
       rcases h with h | h | h
       ·omega
       ·exact hx (.inr (.inl h))
       ·exact hx (.inr (.inr h))),hkR.block k hk (fun h=>hx (.inl h))]⟩
    have hblk:∀ cs te,w3.heap[B]?=some (.cells cs te (0,0))->∃ cs',w7.heap[B]?=some (.cells cs' te (0,0))/\cs'.size=cs.size/\∀ j,¬ (O + off<=j/\j < O + off + 1)->cs'[j]?=cs[j]?:=fun cs te hcs=>by
     have hBw3:B < w3.heap.size:=by omega
     have h5:w5.heap[B]?=some (.cells cs te (0,0)):=by rw [hkR.block B hBw3 hrc.BR];exact hcs
     obtain ⟨c1,e1,e2,e3⟩:=hev6.blk cs te h5
     exact ⟨c1,by rw [hk7.block B (by omega) id];exact e1,e2,e3⟩
    have hc37:∀ j,¬ (O + off<=j/\j < O + off + 1)->w7.cell? ⟨B,j,none⟩=w3.cell? ⟨B,j,none⟩:=fun j hj=>by
     obtain ⟨cur,hcu,_⟩:=hb2
     obtain ⟨c1,e1,_,e3⟩:=hblk cur te hcu
     simp [World.cell?,hcu,e1,e3 j hj]
    have hA':∀ k,k < w3.heap.size->row'=some k->row=some k:=fun k hk h=>by
     rcases hrr with h2 | ⟨p,h2,hp⟩
     ·rw [<- h2];exact h
     ·rw [h2] at h;cases h;omega
    refine ⟨hp13.trans ((hp4.mono (by omega) (by omega)).trans ((hp5.mono (by omega) (by omega)).trans ((hp6.mono (by omega) (by omega)).trans (hp7.mono (by omega) (by omega))))),us,u,t,behind (rUv r).2,cell,row',?_,?_,⟨⟨?_,?_,?_,by omega,fun k hk hx=>?_⟩,fun cs te hcs=>?_⟩,?_,?_,?_,?_,fun p hp=>?_,?_,?_⟩
    ·exact l1 (us++[u]) r' (by rw [he];rfl) hbad
    ·have h6:RdS w6 g.tR S R (behind (rUv r).2):=hrdO.keep hev6.keeps (fun h=>by
      rcases h with h | h | h
      ·omega
      ·exact hrc.BS h.symm
      ·exact (hrR _ h).2.2.1 rfl) (fun h=>by
      rcases h with h | h | h
      ·omega
      ·exact hrc.BR h.symm
      ·exact (hrR _ h).1 rfl)
     exact h6.keep hk7 id id
    ·exact hk37.os.trans hev2.keeps.os
    ·exact hk37.tape.trans hev2.keeps.tape
    ·exact hk37.output.trans hev2.keeps.output
    ·rw [hk37.block k (by omega) (fun h=>by
      rcases h with h | h | h
      ·exact hx (.inl h)
      ·exact hx (.inr h)
      ·have:=hrw _ h;omega),hev2.keeps.block k hk hx]
    ·obtain ⟨c1,e1,e2,e3⟩:=hev2.blk cs te hcs
     obtain ⟨c2,f1,f2,f3⟩:=hblk c1 te e1
     exact ⟨c2,f1,f2.trans e2,fun j hj=>(f3 j fun h=>hj (.inl (lst_in hls O j h))).trans (e3 j hj)⟩
    ·rw [hc37 _ (fun h=>by omega)];exact hcell2
    ·rcases hmm with h | ⟨q,h,h1,h2⟩
     ·exact .inl h
     ·exact .inr ⟨q,h,h1,by omega⟩
    ·refine front_step hk37 (fun k hk h=>?_) (fun k hk h=>?_) (fun h=>?_) (fun j hj=>hc37 j (front_off hls hdj O j hj)) hRF2
     ·rcases h with h | h | h
      ·exact .inl h
      ·exact .inr (.inl h)
      ·exact .inr (.inr (hA' k hk h))
     ·rcases h with h | h | h
      ·exact .inl (by omega)
      ·exact .inl (by omega)
      ·exact .inr (.inr h)
     ·rcases h with h | h | h
      ·exact hrc.SR h
      ·exact hrc.BS h.symm
      ·exact (hrR _ h).2.2.1 rfl
    ·exact hRA6.keep (q1_ (hk7.block B (by omega) id) _) fun p _ hlt=>hk7.block p hlt id
    ·rcases hrr with h2 | ⟨p2,h2,hp2⟩
     ·rw [h2] at hp;exact hrw p hp
     ·rw [h2] at hp
      cases hp
      refine ⟨by omega,fun h=>?_⟩
      have:=hmmlt _ h
      omega
    ·refine hEl6.step hk7 (fun p hp k hk h=>?_) (fun _ _ h=>h.elim) id fun p hp=>hk7.block p (hRA6.lt p hp) id
     rcases h with (h | h) | h
     ·exact .inl (by omega)
     ·have:=hmmlt k h
      exact .inl (by omega)
     ·exact .inr h
    ·refine tg_step hk37 (fun k hk h=>?_) (fun k hk h=>?_) (fun h=>?_) (hc37 _ (fun h=>by omega)) hTF2
     ·rcases h with h | h
      ·exact .inl h
      ·exact .inr (hA' k hk h)
     ·rcases h with h | h | h
      ·exact .inl (by omega)
      ·exact .inl (by omega)
      ·exact .inr h
     ·rcases h with h | h | h
      ·exact hrc.SR h
      ·exact hrc.BS h.symm
      ·exact (hrR _ h).2.2.1 rfl
  ·have hsz6:=hk6.size
   refine hE (l3 (by rw [he];rfl)) a6 w6 ((hp05.trans (hp6.mono (by omega) (by omega))).mono hsl.1 (Nat.le_refl _)) hif ?_
   exact ⟨hk6.os.trans (hkR.os.trans hev2.keeps.os),hk6.tape.trans (hkR.tape.trans hev2.keeps.tape),hk6.output.trans (hkR.output.trans hev2.keeps.output),by omega,fun k hk hx=>by
    rw [hk6.block k (by omega) (fun h=>by
     rcases h with h | h | h
     ·omega
     ·exact hx (.inr h)
     ·have:=hrw _ h;omega),hkR.block k (by omega) (fun h=>hx (.inl h)),hev2.keeps.block k hk hx]⟩
  ·exact hgo (l4 (by rw [he];rfl))
 ·-- an unknown tag
  have hs4:=hp4.size
  have hrc4:RC g cx true ver S R B O (rUv r).2 a4 w3:=hrc3.step hck hp4 hrc3.rd (Keeps.refl (fun _=>False) w3) (fun _ _ h=>h.elim)
  obtain ⟨cur,hcu,hcus⟩:=hb2
  have hext:=le_ext fs (o + 1)
  have hcO:cur[O + o]?=some cell:=by
   have:=hcell2
   simpa [World.cell?,hcu] using this
  have hTg:FarA (fun k=>k < w0.heap.size \/ row=some k) S (fun X=>TgRp w3 X cell t):=fun X hX hS=>by
   obtain ⟨m',hm',hT'⟩:=hTF2 X hX hS
   rw [hcell2] at hm'
   cases hm'
   exact hT'
  have hRt:∀ {K':Act->World->Prop},NWP P (z0_ g cx (nm.n 1) T kt (n + 6 + 1)) (Exit.then K' (Rt K' E)) a4 w3->NWP P (z0_ g cx (nm.n 1) T kt (n + 6 + 1)) (Rt K' E) a4 w3:=fun h=>by rwa [qr_] at h
  refine hRt (s_unknown (m:=i + 1) (k0:=k0) (cur:=cur) (te:=te) (mm:=cell) (t:=t) K0 hfl hrc4 hci hF ((hp4.get _ (by omega) (.inl (by omega))).trans hkey3) hkk hcu hcO (hTg _ (fun k hk=>by rcases hk with rfl | rfl;exact .inl hBw;exact .inl hRw) (fun hk=>by rcases hk with hk | hk;exact hrc.BS hk.symm;exact hrc.SR hk)) (fun p hp=>?_) (by omega) (by omega) (by omega)
   fun a5 w5 q hp5 hrd5 hq0 hq1 hk5 hB5 hset=>?_)
  ·have:=hmmlt p hp
   omega
  ·have hqw:w0.heap.size<=q:=by
    rcases hmm with ⟨h,_⟩ | ⟨p,h,hp,_⟩
    ·have:=hq0 h;omega
    ·rw [hq1 p h];exact hp
   have hqm:q < w3.heap.size->cell=.map (some q):=fun hlt=>by
    rcases hmm with ⟨h,_⟩ | ⟨p,h,hp,_⟩
    ·have:=hq0 h;omega
    ·rw [h,hq1 p h]
   have hqr:∀ p,row=some p->p ≠ q:=fun p hp h=>by
    have h1:=hrw p hp
    have h2:=hrR p hp
    exact h1.2 (h ▸ hqm (by omega))
   have hsz5:=hk5.size
   have hcell5:w5.cell? ⟨B,O + o,none⟩=some (.map (some q)):=by simp [World.cell?,hB5,show O + o < cur.size by omega]
   have hcB5:∀ j,j ≠ O + o->w5.cell? ⟨B,j,none⟩=w3.cell? ⟨B,j,none⟩:=fun j hj=>by
    simp [World.cell?,hcu,hB5,show O + o ≠ j from fun h=>hj h.symm]
   have hpk5:∀ p,row=some p->w5.heap[p]?=w3.heap[p]?:=fun p hp=>hk5.block p (by have:=hrR p hp;omega) (fun h=>by
    rcases h with h | h | h
    ·exact (hrR p hp).1 h
    ·exact (hrR p hp).2.1 h
    ·exact hqr p hp h)
   have hYS:¬ (S=R \/ S=B \/ S=q):=fun h=>by
    rcases h with h | h | h
    ·exact hrc.SR h
    ·exact hrc.BS h.symm
    ·omega
   have hTg5:FarA (fun k=>k < w0.heap.size \/ row=some k) S (fun X=>TgRp w5 X (.map (some q)) (jg_ (rUv r).1 (qo_ (rUv (rUv r).2).1 (rUv (rUv r).2).2).1.octets t)):=fun X hX hS=>by
    refine hset X (fun hXq=>?_) (fun k hk=>?_) hS (hTg _ (fun k hk=>?_) (fun hk=>?_))
    ·rcases hX q hXq with h | h
     ·omega
     ·exact hqr q h rfl
    ·rcases hX k hk with h | h
     ·omega
     ·have:=hrR k h;omega
    ·rcases hk with hk | rfl
     ·exact hX k hk
     ·exact .inl hRw
    ·rcases hk with hk | hk
     ·exact hS hk
     ·exact hrc.SR hk
   have hqlt:q < w5.heap.size:=by
    rcases hTg5 (fun _=>False) (fun _ h=>h.elim) id with ⟨h,_⟩ | ⟨r,h,_,hr,_⟩
    ·cases h
    ·cases h;exact hr
   refine ⟨hp13.trans ((hp4.mono (by omega) (by omega)).trans (hp5.mono (Nat.le_refl _) (by omega))),us,old,_,_,.map (some q),row,?_,hrd5,⟨⟨hk5.os.trans hev2.keeps.os,hk5.tape.trans hev2.keeps.tape,hk5.output.trans hev2.keeps.output,by omega,fun k hk hx=>?_⟩,fun cs te hcs=>?_⟩,hcell5,.inr ⟨q,rfl,hqw,hqlt⟩,?_,?_,fun p hp=>⟨(hrw p hp).1,fun h=>?_⟩,?_,fun X hX hS=>⟨_,hcell5,hTg5 X hX hS⟩⟩
   ·rw [hout]
    have hnone:rdTagL true ver t0 esz e (rUv r).1=none:=by simp only [rdTagL,if_neg hkt]
    simp only [qq_,hnone]
   ·rw [hk5.block k (by omega) (fun h=>by rcases h with h | h | h;exact hx (.inl h);exact hx (.inr h);omega),hev2.keeps.block k hk hx]
   ·obtain ⟨c1,e1,e2,e3⟩:=hev2.blk cs te hcs
    rw [hcu] at e1
    obtain ⟨rfl,rfl,_⟩:=Obj.cells.inj (Option.some.inj e1)
    refine ⟨_,hB5,by simpa using e2,fun j hj=>?_⟩
    rw [Array.getElem?_setIfInBounds,if_neg (fun h=>hj (.inr h.symm))]
    exact e3 j hj
   ·refine front_step hk5 (fun k hk h=>?_) (fun k hk h=>?_) hYS (fun j hj=>hcB5 j (hoIn j (front_in hls O j hj))) hRF2
    ·rcases h with h | h | h
     ·exact .inl h
     ·simp only [Value.map.injEq,Option.some.injEq] at h
      exact .inr (.inl (h ▸ hqm (by omega)))
     ·exact .inr (.inr h)
    ·rcases h with h | h | h
     ·exact .inl (by omega)
     ·exact .inl (by omega)
     ·exact .inr (.inl (h ▸ hqm (by omega)))
   ·exact hRA2.keep (hcB5 _ (by omega)) fun p hp _=>hpk5 p hp
   ·simp only [Value.map.injEq,Option.some.injEq] at h
    exact hqr p hp h.symm
   ·refine hEl2.step hk5 (fun p hp k hk h=>?_) (fun k hk h=>?_) hYS hpk5
    ·rcases h with (h | h) | h
     ·exact .inl (.inl h)
     ·simp only [Value.map.injEq,Option.some.injEq] at h
      exact .inl (.inr (h ▸ hqm (by omega)))
     ·exact .inr h
    ·rcases h with h | h | h
     ·exact .inl (by omega)
     ·exact .inl (by omega)
     ·exact .inr (h ▸ hqm (by omega))
end
def lastOk (P:Program) (fs:Fds) (nm:Nm):Bool:=fs.lst.isSome && rowOne P (((fs.lastM nm.s).sub 0).n 3)
section
variable {P:Program} {g:G} {av:PF->Bool} {fl:Bool} {D:Nat->Option (List (Nat × Value))}
theorem rowAt_rp {F:Nat} {w:World} {S B O off esz:Nat} {e:Ty} {row:Option Nat} {old:V} {n0:Nat} (h:RowAt P F w B (O + off) row old) (hr:∀ p,row=some p->n0<=p) (hE:ElAt (· < n0) S esz e w row old) {X:Nat->Prop} (hX:∀ k,X k->k < n0) (hS:¬ X S):Rp w X (.list none esz e) B (O + off) old:=by
 rcases h with ⟨h1,h2,h3⟩ | ⟨xs,p,c,cur,E',sz,z,h1,h2,h3,h4,h5,h6,h7,h8⟩
 ·exact .inl ⟨h1,h3⟩
 ·refine .inr ⟨xs,p,0,c,h1,fun hp=>?_,(Array.getElem?_eq_some_iff.1 h4).1,h7,h8,h3,fun i x hi=>?_⟩
  ·have:=hX p hp
   have:=hr p h2
   omega
  ·rw [Nat.zero_add]
   exact hE p xs h2 h3 i x hi X (fun k hk=>.inl (hX k hk)) hS
theorem st_ofJ (En:Env P g av fl D) {fs:Fds} {t0 off esz:Nat} {e:Ty} (hls:fs.lst=some (t0,off,esz,e)) {nm:Nm} {cx:Cx} {fx:Bool} {ver:Int} {S R B O:Nat} {r:RS} {m k0 n T kt:Nat} {toff:Option Nat} {K E:Act->World->Prop} {a:Act} {w:World} {te:Nat}
  (hok:okSt ⟨P,g,av,D⟩ cx.hf m k0 T kt toff fs nm (okFds ⟨P,g,av,D⟩ cx.hf m k0 T fs nm.s) (okTagd ⟨P,g,av,D⟩ (nm.n 1 + 1) k0 T fs nm.s)=true) (h1c:rowOne P (((fs.lastM nm.s).sub 0).n 3)=true) (hrc:RC g cx fx ver S R B O r a w) (hc:CxOk cx m k0) (hfl:cx.hf=true->fl=true) (hk:k0<=n) (hks:k0<=a.tmps.size)
  (hn:(gL (gStOf g cx fs.tagged T kt nm (gFds g cx fs nm.s) (gTagd g cx fs nm.s)) n).2<=a.tmps.size) (hb:Blk w B (O + fs.ext (zo_ toff)) te) (hpl:(∀ X,RpF w X fs B O (dfFds fs))/\TgNil w B O toff)
  (ho:Outs g S R B (fs.Zn toff O) m k0 n a w (jb_ fx fs.tagged (rdFds fx ver fs) (rdTagR fx ver fs) r)
   (fun v w'=>∃ vs t,v=.st vs t/\Far w S (fun X=>RpF w' X fs B O vs)/\Far w S (fun X=>TgAt w' X B O toff t)) K E) :
  LW P (gStOf g cx fs.tagged T kt nm (gFds g cx fs nm.s) (gTagd g cx fs nm.s)) n (Rt K E) a w:=by
 have K0:=En.kb
 have htg:=lst_tagged hls
 simp only [okSt,Bool.and_eq_true] at hok
 obtain ⟨⟨⟨hokf,hdj⟩,htoff⟩,hokt⟩:=hok
 have hRw:R < w.heap.size:=hrc.rd.lt
 have hBw:B < w.heap.size:=hb.lt
 have hle:=hc.le
 have hupF:=up_gFds g fs nm.s cx n
 unfold gStOf at hn ⊢
 rw [qx_] at hn
 refine z5_ ?_
 rw [qr_]
 refine rd_fds En fs nm.s cx fx ver S R B O r m k0 n T (zo_ toff) _ E a w te hokf hdj hrc hc hfl hk hks ?_ hb (.inr hpl.1) ⟨fun vs r1 a1 w1 he hp1 hrd1 hev1 hvs=>?_,fun he a1 w1 hp1 hif hk1=>?_,fun he=>?_⟩
 ·have hu:UpL (if (!cx.hf)=true then [] else if fs.tagged=true then [gFx cx (gTagFor g cx (nm.n 0) (nm.n 2) (nm.n 3) (gS [qm_ g.uv cx.b (nm.n 1),gSwitch g cx (nm.n 1) (nm.n 4) T kt (gTagd g cx fs nm.s)])) jk_] else [gFx cx (gReadTags g cx T kt) jk_]:List GC):=
   zt_ qk_ (zt_ (qe_ (j4_ (up_tagFor (up_S (qe_ (qi_ _ _) (qe_ (up_switch (up_gTagd g fs nm.s cx)) qk_)))) (q7_ _)) qk_) (qe_ (j4_ (qi_ _ _) (q7_ _)) qk_))
  exact Nat.le_trans (hu _) hn
 ·have hs1:=hp1.size
  have hrc1:RC g cx fx ver S R B O r1 a1 w1:=hrc.step hc hp1 hrd1 hev1.keeps (fun _ _ h=>h)
  have hb1:=hb.evo hev1
  have hev1':Evo R B (fs.Zn toff O) w w1:=hev1.mono fun j hj=>.inl hj
  have hrs:jb_ fx fs.tagged (rdFds fx ver fs) (rdTagR fx ver fs) r=(if !fx then .ok (.st vs []) r1 else if fs.tagged then qq_ (rdTagR fx ver fs) (rUv r1).1 vs [] (rUv r1).2 else .ok (.st vs (jq_ (rUv r1).1 [] (rUv r1).2).1) (jq_ (rUv r1).1 [] (rUv r1).2).2):=by
   simp only [jb_,he,Out.bind]
  rw [hrs] at ho
  cases hhf:cx.hf with
  | false=>
   have hfx:=hrc.nf hhf
   subst hfx
   simp only [Bool.not_false,if_true]
   have ht0:toff=none:=by
    cases toff with
    | none=>rfl
    | some o=>rw [hhf] at htoff;simp at htoff
   subst ht0
   refine q0_ (ho.ok _ r1 a1 w1 rfl hp1 hrd1 hev1' ⟨vs,[],rfl,hvs,fun X _ _=>rfl⟩)
  | true=>
   simp only [hhf,Bool.not_true,Bool.false_eq_true,if_false] at hn ⊢
   obtain ⟨o,ht0,hF,hoff⟩:∃ o,toff=some o/\zj_ P T kt g.tTags o true 1/\offBy fs o (o + 1)=true:=by
    cases toff with
    | none=>rw [hhf] at htoff;simp at htoff
    | some o=>
     simp only [Bool.and_eq_true] at htoff
     exact ⟨o,rfl,fldB_ok htoff.1.2,htoff.2⟩
   subst ht0
   have hoIn:¬ fs.In O (O + o):=fun h=>z4_ fs o (o + 1) O (O + o) hoff h ⟨by omega,by omega⟩
   have hext:=le_ext fs (o + 1)
   have hfl':=hfl hhf
   have hskip:fx=false->∀ a',Pv 6 m k0 n a a'->K a' w1:=fun hfx a' hp'=>by
    subst hfx
    have hT0:Far w S (fun X=>TgAt w X B O (some o) []):=fun X _ _=>hpl.2.at X
    refine ho.ok _ r1 a' w1 rfl hp' hrd1 hev1' ⟨vs,[],rfl,hvs,?_⟩
    exact TgAt.evoA (A:=(· < w.heap.size)) hev1 hRw hBw hrc.SR.symm hrc.BS hb hT0 (fun k hk h=>by cases hk;exact hoIn h)
   simp only [htg,if_true,gL] at hn ⊢
   refine qc_ ?_
   rw [qr_]
   simp only [hhf,htg,Bool.and_self,Bool.not_true,Bool.false_or,Bool.and_eq_true,decide_eq_true_eq] at hokt
   obtain ⟨hsl,hokt⟩:=hokt
   generalize hbody:(gS [qm_ g.uv cx.b (nm.n 1),gSwitch g cx (nm.n 1) (nm.n 4) T kt (gTagd g cx fs nm.s)]:GC)=body at hn ⊢
   have hubody:Up body:=by
    rw [<- hbody]
    exact up_S (qe_ (qi_ _ _) (qe_ (up_switch (up_gTagd g fs nm.s cx)) qk_))
   have hn1:(body ((gL (gFds g cx fs nm.s) n).2 + 1 + 5)).2<=a.tmps.size:=hn
   have hub:=hubody ((gL (gFds g cx fs nm.s) n).2 + 1 + 5)
   refine s_fx (x:=6) (m:=m) (k0:=k0) (fx:=fx) (hrc1.sf hhf) hle (by omega) (by omega) fun a2 hp2=>?_
   have hs2:=hp2.size
   have hp02:Pv 6 m k0 n a a2:=hp1.trans (hp2.mono (Nat.le_refl _) hupF)
   cases hfx:fx with
   | false=>exact .skip (q0_ (hskip hfx a2 hp02))
   | true=>
    subst hfx
    simp only [if_true]
    have hrt:rdTagR true ver fs=rdTagL true ver t0 esz e:=by simp only [rdTagR,hls]
    simp only [Bool.not_true,Bool.false_eq_true,if_false,htg,if_true,hrt] at ho
    have hrc2:RC g cx true ver S R B O r1 a2 w1:=hrc1.step hc hp2 hrd1 (Keeps.refl (fun _=>False) w1) (fun _ _ h=>h.elim)
    have hnil:TgNil w B O (some o):=hpl.2
    have hT1:Far w S (fun X=>TgAt w1 X B O (some o) []):=TgAt.evoA (A:=(· < w.heap.size)) hev1 hRw hBw hrc.SR.symm hrc.BS hb (fun X _ _=>hnil.at X) (fun k hk h=>by cases hk;exact hoIn h)
    have hm0:w1.cell? ⟨B,O + o,none⟩=some (.map none):=by
     obtain ⟨cur,hcu,_⟩:=hb
     rw [hev1.cell hcu hoIn];exact hnil
    obtain ⟨us,rfl⟩:=lst_read hls _ _ _ he
    have hsplit:∀ X:Nat->Prop,(∀ k,X k->k < w.heap.size)->¬ X S->RpF w1 X fs.front B O us/\Rp w1 X (.list none esz e) B (O + off) .nul:=fun X hX hS=>by
     obtain ⟨us',v',h1,h2,h3⟩:=(lst_rpF hls _).1 (hvs X hX hS)
     have h4:=List.append_inj' h1 rfl
     obtain ⟨rfl,h5⟩:=h4
     obtain rfl:V.nul=v':=by simpa using h5
     exact ⟨h2,h3⟩
    have hcl:w1.cell? ⟨B,O + off,none⟩=some (.slice none 0 0):=by
     rcases (hsplit (fun _=>False) (fun _ h=>h.elim) id).2 with ⟨h,_⟩ | ⟨xs,p,q,c,_,_,_,_,_,h,_⟩
     ·exact h
     ·cases h
    refine s_tagFor (m:=m) (k0:=k0) (i:=nm.n 0) K0 hfl' hrc2 hc ⟨hsl.1,by omega⟩ (by omega) (by omega)
     (TagJ P g (((fs.lastM nm.s).sub 0).n 3) S R B O o off esz e fs t0 ver w (qq_ (rdTagL true ver t0 esz e) (rUv r1).1 (us++[.nul]) [] (rUv r1).2)) (fun w2 hrd2 hk2=>?_) (fun c a3 w3 hp3 hI=>?_) (fun a3 w3 hp3 hI=>?_)
    ·have hcB:∀ j,w2.cell? ⟨B,j,none⟩=w1.cell? ⟨B,j,none⟩:=fun j=>q1_ (hk2.block B (by have:=hev1.keeps.size;omega) hrc.BR) j
     refine ⟨us,.nul,[],(rUv r1).2,.map none,none,rfl,hrd2,(hev1.mono fun j hj=>.inl hj).trans (Evo.of_keeps hk2 (fun _ _ h=>h) hrc.BR),by rw [hcB];exact hm0,.inl ⟨rfl,rfl⟩,?_,.inl ⟨by rw [hcB];exact hcl,rfl,rfl⟩,fun p hp=>(by cases hp),fun p xs hp=>(by cases hp),?_⟩
     ·refine front_step (A:=(· < w.heap.size)) hk2 (fun k _ h=>?_) (fun k _ h=>by rw [h];exact hRw) (fun h=>hrc.SR h) (fun j _=>hcB j) fun X hX hS=>(hsplit X hX hS).1
      rcases h with h | h | h
      ·exact h
      ·cases h
      ·cases h
     ·refine tg_step (A:=(· < w.heap.size)) hk2 (fun k _ h=>?_) (fun k _ h=>by rw [h];exact hRw) (fun h=>hrc.SR h) (hcB _) hT1
      rcases h with h | h
      ·exact h
      ·cases h
    ·have hs3:=hp3.size
     rw [<- hbody] at hn1 ⊢
     have hn2:((gS [qm_ g.uv cx.b (nm.n 1),gSwitch g cx (nm.n 1) (nm.n 4) T kt (gTagd g cx fs nm.s)]:GC) ((gL (gFds g cx fs nm.s) n).2 + 1 + 5)).2<=a2.tmps.size:=by rw [hs2,hs1];exact hn1
     exact tag_bodyJ (r0:=r) K0 hls (rd_el En e) (fun _ _ _ _ _ h=>okEl_sz h) hokt h1c hdj hF hoff hsl (hrc.step hc hp02 hrc.rd (Keeps.refl (fun _=>False) w) (fun _ _ h=>h.elim)) hc hhf hfl' (by omega) (by omega) hn2 hb hp3 hI ho.go
      (fun he a' w' hp' hif hk'=>ho.err he a' w' (hp02.trans (hp'.mono (Nat.le_refl _) (by omega))) hif hk')
    ·obtain ⟨us',old,t,r',mm,row,hout,hrd3,hev3,hcell3,hmm,hRF,hRA,hrw,hEl,hTF⟩:=hI
     have hp3':Pv 6 m k0 n a a3:=hp02.trans (hp3.mono hsl.1 (by omega))
     refine q0_ (ho.ok (.st (us'++[old]) t) r' a3 w3 (by rw [hout];rfl) hp3' hrd3 (hev3.mono fun j hj=>?_) ⟨us'++[old],t,rfl,fun X hX hS=>(lst_rpF hls _).2 ⟨us',old,rfl,hRF X (fun k hk=>.inl (hX k hk)) hS,rowAt_rp hRA (fun p hp=>(hrw p hp).1) (fun p xs hp hx i x hi X hX hS=>hEl p xs hp hx i x hi X (fun k hk=>(hX k hk).elim (fun h=>.inl (.inl h)) .inr) hS) hX hS⟩,fun X hX hS=>hTF X (fun k hk=>.inl (hX k hk)) hS⟩)
     rcases hj with hj | hj
     ·exact .inl hj
     ·exact .inr ⟨o,rfl,hj⟩
 ·exact ho.err (by simp only [jb_,he,Out.bind]) a1 w1 hp1 hif hk1
 ·exact ho.go (by simp only [jb_,he,Out.bind])
end
def posF:Fds->Bool
 | .nil=>true
 | .cons _ _ _ _ off _ r=>decide (0 < off) && posF r
theorem posF_in:∀ (fs:Fds) (j:Nat),posF fs=true->fs.In 0 j->j ≠ 0
 | .nil,_,_,h=>h.elim
 | .cons _ _ _ _ off ty r,j,h,hj=>by
  simp only [posF,Bool.and_eq_true,decide_eq_true_eq] at h
  rcases hj with hj | hj
  ·omega
  ·exact posF_in r j h.2 hj
def topM (cx:Cx):Nat:=max (max cx.b cx.s) (max cx.ver cx.fx) + 1
def topOk (e:Ev) (kept:Bool) (cx:Cx) (fs:Fds) (dflt T kt:Nat) (toff:Option Nat) (n0 ntmps:Nat) (nm:Nm) (z:Array Value) (used:Nat):Bool:=
 decide (6 < cx.b/\6 < cx.s/\6 < cx.ver/\cx.b ≠ cx.s/\cx.b ≠ cx.ver/\cx.s ≠ cx.ver/\topM cx<=n0/\((cx.hf=true/\6 < cx.fx/\cx.b ≠ cx.fx/\cx.s ≠ cx.fx/\cx.ver ≠ cx.fx) \/ (cx.hf=false/\cx.fx=0))) && decide (used<=ntmps) && fldB e.P T 0 e.g.tVer 0 false 1 && (!kept || e.av .i16) &&
 (match e.D dflt with
  | some wr=>(wr.all fun p=>decide (0 < p.1/\p.1 < z.size)) && zFds (applyWr z 0 wr) fs 0 && zTg (applyWr z 0 wr) toff && posF fs && (toff != some 0) && decide (fs.ext (zo_ toff)<=z.size) && decide (0 < z.size)
  | none=>false) &&
 okSt e cx.hf (topM cx) n0 T kt toff fs nm (okFds e cx.hf (topM cx) n0 T fs nm.s) (okTagd e (nm.n 1 + 1) n0 T fs nm.s)
def gHead (g:G) (kept:Bool) (cx:Cx) (dflt T flex:Nat):List GC:=
 [ji_ 6 .nilIface,zi_ 0 dflt,qu_ 2 fun n=>[mk (some n) (.move (tm 1)),mk (some (n + 1)) (.build g.tR #[(0,tm n)]),mk (some cx.b) (.alloc g.tR),mk none (.store g.tR (tm cx.b) (tm (n + 1)))]] ++
  (if kept then [qu_ 4 fun n=>[mk (some n) (.move (tm 0)),cl (some (n + 1)) (g.rd .i16) [tm cx.b],mk (some (n + 2)) (.nilCheck (tm n)),mk (some (n + 3)) (.fieldAddr T (tm (n + 2)) 0),mk none (.store g.tVer (tm (n + 3)) (tm (n + 1)))]] else []) ++
  [zg_ 0 cx.ver T 0 g.tVer,qu_ 1 fun n=>[mk (some n) (.move (tm cx.ver))]] ++
  (if cx.hf then [qu_ 2 fun n=>[mk (some n) (.move (tm cx.ver)),mk (some (n + 1)) (.binOp .geq g.tVer (tm n) (ki .i16 flex) 0),mk (some cx.fx) (.assign (tm (n + 1)))],qu_ 1 fun n=>[mk (some n) (.move (tm cx.fx))]] else []) ++
  [jf_ 0 cx.s]
def gEnd (g:G) (b:Nat):List GC:=[qu_ 1 fun n=>[cl (some n) g.complete [tm b],mk (some 6) (.assign (tm n))],q3_ .ret]
theorem gRead_eq (g:G) (kept:Bool) (cx:Cx) (fs:Fds) (dflt T kt flex n0:Nat) (m:Nm) :
  gRead g cx.hf kept cx fs dflt T kt flex n0 m=(gS (gHead g kept cx dflt T flex++(gStOf g cx fs.tagged T kt m (gFds g cx fs m.s) (gTagd g cx fs m.s)++gEnd g cx.b)) n0).1:=by
 unfold gRead gHead gEnd
 simp only [List.append_assoc]
mutual
theorem zTy_agree {z z2:Array Value} (h:∀ j,1<=j->z2[j]?=z[j]?):∀ (ty:Ty) (df:Int) (o:Nat),1<=o->zTy z df ty o=true->zTy z2 df ty o=true
 | .prim p,df,o,ho,hz=>by
  have e:∀ v,eqAt z2 o v=eqAt z o v:=fun v=>by simp only [eqAt,h o ho]
  cases p
  case uuid=>
   simp only [zTy,List.all_eq_true] at hz ⊢
   intro j hj
   have:=hz j hj
   simp only [eqAt,h (o + j) (by omega)] at this ⊢
   exact this
  all_goals (simp only [zTy,e] at hz ⊢;exact hz)
 | .str none,df,o,ho,hz=>by simp only [zTy,eqAt,h o ho] at hz ⊢;exact hz
 | .str (some _),df,o,ho,hz=>by simp only [zTy,eqAt,h o ho] at hz ⊢;exact hz
 | .bytes _,df,o,ho,hz=>by simp only [zTy,eqAt,h o ho] at hz ⊢;exact hz
 | .list _ _ _,df,o,ho,hz=>by simp only [zTy,eqAt,h o ho] at hz ⊢;exact hz
 | .struct (some _) _ _,df,o,ho,hz=>by simp only [zTy,eqAt,h o ho] at hz ⊢;exact hz
 | .struct none toff fs,df,o,ho,hz=>by
  simp only [zTy,Bool.and_eq_true] at hz ⊢
  refine ⟨zFds_agree h fs o (.inl ho) hz.1,?_⟩
  cases toff with
  | none=>rfl
  | some k=>have:=hz.2;simp only [eqAt,h (o + k) (by omega)] at this ⊢;exact this
theorem zFds_agree {z z2:Array Value} (h:∀ j,1<=j->z2[j]?=z[j]?):∀ (fs:Fds) (o:Nat),(1<=o \/ posF fs=true)->zFds z fs o=true->zFds z2 fs o=true
 | .nil,o,ho,hz=>rfl
 | .cons _ _ _ df off ty r,o,ho,hz=>by
  simp only [zFds,Bool.and_eq_true] at hz ⊢
  rcases ho with ho | ho
  ·exact ⟨zTy_agree h ty df (o + off) (by omega) hz.1,zFds_agree h r o (.inl ho) hz.2⟩
  ·simp only [posF,Bool.and_eq_true,decide_eq_true_eq] at ho
   exact ⟨zTy_agree h ty df (o + off) (by omega) hz.1,zFds_agree h r o (.inr ho.2) hz.2⟩
end
section
variable {P:Program} {g:G} {av:PF->Bool} {fl:Bool} {D:Nat->Option (List (Nat × Value))}
def vread (kept:Bool) (ver:Int) (r:RS):Int × RS:=if kept then rI 2 r else (ver,r)
structure Headed (g:G) (cx:Cx) (fs:Fds) (toff:Option Nat) (flex:Nat) (B S te:Nat) (csz:Nat) (w0:World) (vr:Int × RS) (ntmps R:Nat) (a:Act) (w:World):Prop where
 rc:RC g cx (cx.hf && decide ((flex:Int)<=vr.1)) vr.1 S R B 0 vr.2 a w
 size:a.tmps.size=ntmps
 defers:a.defers=[]
 six:a.get 6=.nilIface
 keeps:Keeps (·=B) w0 w
 fresh:w0.heap.size<=R
 blk:∃ cur,w.heap[B]?=some (.cells cur te (0,0))/\cur.size=csz/\cur[0]?=some (.int .i16 vr.1)
 fds:∀ X,RpF w X fs B 0 (dfFds fs)
 tgs:TgNil w B 0 toff
structure Pre (g:G) (cx:Cx) (fs:Fds) (toff:Option Nat) (B S te csz:Nat) (w0:World) (vr:Int × RS) (ntmps R:Nat) (a:Act) (w:World):Prop where
 rd:RdS w g.tR S R vr.2
 sb:a.get cx.b=pt R 0
 s0:a.get 0=pt B 0
 s2:a.get 2=.bool false
 size:a.tmps.size=ntmps
 defers:a.defers=[]
 six:a.get 6=.nilIface
 keeps:Keeps (·=B) w0 w
 fresh:w0.heap.size<=R
 blk:∃ cur,w.heap[B]?=some (.cells cur te (0,0))/\cur.size=csz/\cur[0]?=some (.int .i16 vr.1)
 fds:∀ X,RpF w X fs B 0 (dfFds fs)
 tgs:TgNil w B 0 toff
 err:ErrAt g.gErr w
theorem head_tail {cx:Cx} {fs:Fds} {T flex n n0 ntmps:Nat} {toff:Option Nat} {B S te csz R:Nat} {w0 w:World} {vr:Int × RS} {a:Act} {Q:Exit->Act->World->Prop} {K:Act->World->Prop} (hsl:6 < cx.b/\6 < cx.s/\6 < cx.ver/\cx.b ≠ cx.s/\cx.b ≠ cx.ver/\cx.s ≠ cx.ver/\topM cx<=n0/\((cx.hf=true/\6 < cx.fx/\cx.b ≠ cx.fx/\cx.s ≠ cx.fx/\cx.ver ≠ cx.fx) \/ (cx.hf=false/\cx.fx=0)))
  (hF:zj_ P T 0 g.tVer 0 false 1) (hp:Pre g cx fs toff B S te csz w0 vr ntmps R a w) (hn0:n0<=n) (hn:n + 9<=ntmps) (hS:S < w0.heap.size) (hBlt:B < w0.heap.size) (hBS:B ≠ S) (hgB:g.gErr ≠ B) (hgl:g.gErr < w0.heap.size)
  (h:∀ a' w',Headed g cx fs toff flex B S te csz w0 vr ntmps R a' w'->K a' w') :
  LW P ([zg_ 0 cx.ver T 0 g.tVer,qu_ 1 fun n=>[mk (some n) (.move (tm cx.ver))]]++((if cx.hf then [qu_ 2 fun n=>[mk (some n) (.move (tm cx.ver)),mk (some (n + 1)) (.binOp .geq g.tVer (tm n) (ki .i16 flex) 0),mk (some cx.fx) (.assign (tm (n + 1)))],qu_ 1 fun n=>[mk (some n) (.move (tm cx.fx))]] else []) ++
   [jf_ 0 cx.s])) n (Exit.then K Q) a w:=by
 have hfx':cx.hf=true->6 < cx.fx/\cx.b ≠ cx.fx/\cx.s ≠ cx.fx/\cx.ver ≠ cx.fx:=fun h=>by
  rcases hsl.2.2.2.2.2.2.2 with h2 | h2
  ·exact h2.2
  ·rw [h] at h2;cases h2.1
 replace hsl:6 < cx.b/\6 < cx.s/\6 < cx.ver/\cx.b ≠ cx.s/\cx.b ≠ cx.ver/\cx.s ≠ cx.ver/\topM cx<=n0:=⟨hsl.1,hsl.2.1,hsl.2.2.1,hsl.2.2.2.1,hsl.2.2.2.2.1,hsl.2.2.2.2.2.1,hsl.2.2.2.2.2.2.1⟩
 have htm:topM cx=max (max cx.b cx.s) (max cx.ver cx.fx) + 1:=rfl
 have hsz:=hp.size
 obtain ⟨cur,hB,hcs,hc0⟩:=hp.blk
 have hcell:w.cell? ⟨B,0 + 0,none⟩=some (.int .i16 vr.1):=by simp only [World.cell?,hB];simpa using hc0
 have hR0:=hp.fresh
 refine qc_ (s_load (x:=cx.ver) (m:=n0) (k0:=n0) (O:=0) hp.s0 hF hcell (.inl rfl) (Nat.le_refl _) hn0 (by omega) (by omega) fun a1 hp1 hg1=>?_)
 have hs1:=hp1.size
 rw [show (zg_ 0 cx.ver T 0 g.tVer n).2=n + 4 from rfl]
 refine qc_ (qj_ (qd_ (wpList_nil ?_)))
 rw [qb_,hg1]
 have hp2:Pv cx.ver n0 n0 n a (a1.put (some (n + 4)) (.int .i16 vr.1)):=hp1.put _ (by omega)
 have hg2:(a1.put (some (n + 4)) (.int .i16 vr.1)).get cx.ver=.int .i16 vr.1:=by rw [gpo (by omega)];exact hg1
 generalize a1.put (some (n + 4)) (.int .i16 vr.1)=a2 at hp2 hg2 ⊢
 have hs2:=hp2.size
 rw [show (qu_ 1 (fun n=>[mk (some n) (.move (tm cx.ver))]) (n + 4)).2=n + 5 from rfl]
 have key:∀ (a3:Act) (n3:Nat),n + 5<=n3->n3 + 1<=ntmps->a3.tmps.size=ntmps->a3.defers=[]->a3.get 0=pt B 0->a3.get 2=.bool false->a3.get 6=.nilIface->a3.get cx.b=pt R 0->a3.get cx.ver=.int .i16 vr.1->(cx.hf=true->a3.get cx.fx=.bool (decide ((flex:Int)<=vr.1))) ->
   LW P [jf_ 0 cx.s] n3 (Exit.then K Q) a3 w:=by
  intro a3 n3 h5 h6 hsz3 hd3 h30 h32 h36 h3b h3v h3f
  refine qc_ (s_move (x:=cx.s) (m:=n0) (k0:=n0) (.inl rfl) (Nat.le_refl _) (by omega) (by omega) (by omega) fun a4 hp4 hg4=>q0_ (h a4 w ?_))
  have hs4:=hp4.size
  refine ⟨⟨hp.rd,(hp4.get _ (by omega) (.inl (by omega))).trans h3b,hg4.trans h30,(hp4.get _ (by omega) (.inl (by omega))).trans h3v,fun hf=>?_,fun hf=>by rw [hf];rfl,(hp4.get 2 (by omega) (.inl (by omega))).trans h32,hp.err,?_,?_,hBS,?_,hgB,?_⟩,
   by omega,hp4.defers.trans hd3,(hp4.get 6 (by omega) (.inl (by omega))).trans h36,hp.keeps,hp.fresh,⟨cur,hB,hcs,hc0⟩,hp.fds,hp.tgs⟩
  ·have:=hfx' hf
   rw [hp4.get _ (by omega) (.inl (by omega)),h3f hf,hf];rfl
  ·omega
  ·omega
  ·omega
  ·exact Nat.lt_of_lt_of_le hS hp.keeps.size
 have hq:∀ s,s ≠ cx.ver->s < n0->a2.get s=a.get s:=fun s h1 h2=>hp2.get s h1 (.inl h2)
 cases hhf:cx.hf with
 | false=>
  simp only [Bool.false_eq_true,if_false,List.nil_append]
  exact key a2 (n + 5) (Nat.le_refl _) (by omega) (by omega) (hp2.defers.trans hp.defers) ((hq 0 (by omega) (by omega)).trans hp.s0) ((hq 2 (by omega) (by omega)).trans hp.s2) ((hq 6 (by omega) (by omega)).trans hp.six) ((hq _ (by omega) (by omega)).trans hp.sb) hg2 (fun hf=>by rw [hhf] at hf;cases hf)
 | true=>
  have:=hfx' hhf
  simp only [if_true]
  show LW P (qu_ 2 (fun n=>[mk (some n) (.move (tm cx.ver)),mk (some (n + 1)) (.binOp .geq g.tVer (tm n) (ki .i16 flex) 0),mk (some cx.fx) (.assign (tm (n + 1)))]) :: qu_ 1 (fun n=>[mk (some n) (.move (tm cx.fx))]) :: [jf_ 0 cx.s]) (n + 5) (Exit.then K Q) a2 w
  refine qc_ (qj_ (qd_ ?_))
  rw [qb_,hg2]
  refine q9_ (b:=decide ((flex:Int)<=vr.1)) (p:=vr.1) (q:=flex) (k:=.i16) (by rw [qb_,gpe (by omega)]) rfl (.inl ⟨rfl,rfl⟩) (qg_ (wpList_nil ?_))
  rw [qb_,gpe (by simp only [qa_];omega)]
  rw [show (qu_ 2 (fun n=>[mk (some n) (.move (tm cx.ver)),mk (some (n + 1)) (.binOp .geq g.tVer (tm n) (ki .i16 flex) 0),mk (some cx.fx) (.assign (tm (n + 1)))]) (n + 5)).2=n + 7 from rfl]
  refine qc_ (qj_ (qd_ (wpList_nil ?_)))
  rw [qb_,gpe (by simp only [qa_];omega)]
  rw [show (qu_ 1 (fun n=>[mk (some n) (.move (tm cx.fx))]) (n + 7)).2=n + 8 from rfl]
  have hpv:Pv cx.fx n0 n0 (n + 5) a2 ((((a2.put (some (n + 5)) (.int .i16 vr.1)).put (some (n + 5 + 1)) (.bool (decide ((flex:Int)<=vr.1)))).put (some cx.fx) (.bool (decide ((flex:Int)<=vr.1)))).put (some (n + 7)) (.bool (decide ((flex:Int)<=vr.1)))):=
   ((((Pv.refl _ _ _ _ _).put _ (by omega)).put _ (by omega)).put _ (by omega)).put _ (by omega)
  have hgf:((((a2.put (some (n + 5)) (.int .i16 vr.1)).put (some (n + 5 + 1)) (.bool (decide ((flex:Int)<=vr.1)))).put (some cx.fx) (.bool (decide ((flex:Int)<=vr.1)))).put (some (n + 7)) (.bool (decide ((flex:Int)<=vr.1)))).get cx.fx=.bool (decide ((flex:Int)<=vr.1)):=by
   rw [gpo (by omega),gpe (by simp only [qa_];omega)]
  have hq3:∀ s,s ≠ cx.fx->s < n0->_:=fun s h1 h2=>hpv.get s h1 (.inl h2)
  exact key _ (n + 8) (by omega) (by omega) (by rw [hpv.size];omega) (hpv.defers.trans (hp2.defers.trans hp.defers)) ((hq3 0 (by omega) (by omega)).trans ((hq 0 (by omega) (by omega)).trans hp.s0)) ((hq3 2 (by omega) (by omega)).trans ((hq 2 (by omega) (by omega)).trans hp.s2)) ((hq3 6 (by omega) (by omega)).trans ((hq 6 (by omega) (by omega)).trans hp.six))
   ((hq3 _ (by omega) (by omega)).trans ((hq _ (by omega) (by omega)).trans hp.sb)) ((hq3 _ (by omega) (by omega)).trans hg2) (fun _=>hgf)
theorem head_ok (En:Env P g av fl D) {kept:Bool} {cx:Cx} {fs:Fds} {dflt T kt flex n0 ntmps used:Nat} {toff:Option Nat} {nm:Nm} {z cur:Array Value} (hchk:topOk ⟨P,g,av,D⟩ kept cx fs dflt T kt toff n0 ntmps nm z used=true) (hn:n0 + 17<=ntmps)
  {w:World} {B S te:Nat} {ver:Int} {srcv:Value} {r0:RS} (hB:w.heap[B]?=some (.cells cur te (0,0))) (hcur:cur=z.setIfInBounds 0 (.int .i16 ver)) (hsrc:jz_ w S srcv r0) (hbad:r0.bad=false) (herr:ErrAt g.gErr w) (hS:S < w.heap.size) (hBS:B ≠ S) (hgB:g.gErr ≠ B)
  {Q:Exit->Act->World->Prop} {K:Act->World->Prop} {a:Act} (ha:a.tmps.size=ntmps) (had:a.defers=[]) (h0:a.get 0=pt B 0) (h1:a.get 1=srcv) (h2:a.get 2=.bool false)
  (h:∀ R a' w',Headed g cx fs toff flex B S te cur.size w (vread kept ver r0) ntmps R a' w'->K a' w'):LW P (gHead g kept cx dflt T flex) n0 (Exit.then K Q) a w:=by
 simp only [topOk,Bool.and_eq_true,decide_eq_true_eq] at hchk
 obtain ⟨⟨⟨⟨⟨hsl,hused⟩,hF⟩,hkept⟩,hdf⟩,hst⟩:=hchk
 replace hF:=fldB_ok hF
 split at hdf
 ·rename_i wr hwr
  simp only [Bool.and_eq_true,decide_eq_true_eq,List.all_eq_true,bne_iff_ne] at hdf
  obtain ⟨⟨⟨⟨⟨⟨hwb,hzf⟩,hzt⟩,hpos⟩,htf⟩,hext⟩,hzp⟩:=hdf
  obtain ⟨hEnt,hDf⟩:=En.df _ _ hwr
  have htm:topM cx=max (max cx.b cx.s) (max cx.ver cx.fx) + 1:=rfl
  have hBlt:B < w.heap.size:=(Array.getElem?_eq_some_iff.1 hB).1
  obtain ⟨te',xe,hce⟩:=herr
  have hgl:=j2_ hce
  have hcs:cur.size=z.size:=by rw [hcur];simp
  unfold gHead
  simp only [List.append_assoc]
  refine qc_ (xa_ (x:=6) (m:=n0) (k0:=n0) (.inl rfl) (by omega) fun a1 hp1 hg1=>?_)
  have hs1:=hp1.size
  rw [show (ji_ 6 .nilIface n0).2=n0 from rfl]
  have hq1:∀ s,s ≠ 6->s < n0->a1.get s=a.get s:=fun s h1 h2=>hp1.get s h1 (.inl h2)
  refine qc_ (s_default (x:=6) (m:=n0) (k0:=n0) (B:=B) (O:=0) (cur:=cur) (te:=te) hEnt hDf ((hq1 0 (by omega) (by omega)).trans h0) hB (fun q hq=>by have:=hwb q hq;omega) (Nat.le_refl _) (Nat.le_refl _) (by omega) fun a2 w2 hp2 hsame2 hk2 hB2=>?_)
  have hs2:=hp2.size
  rw [show (zi_ 0 dflt n0).2=n0 + 2 from rfl]
  have hcur2:∀ j,1<=j->(applyWr cur 0 wr)[j]?=(applyWr z 0 wr)[j]?:=by
   have hgen:∀ (l:List (Nat × Value)) (c1 c2:Array Value),c1.size=c2.size->(∀ j,1<=j->c1[j]?=c2[j]?)->∀ j,1<=j->(applyWr c1 0 l)[j]?=(applyWr c2 0 l)[j]?:=by
    intro l
    induction l with
    | nil=>intro c1 c2 _ hc j hj;exact hc j hj
    | cons p l ih=>
     intro c1 c2 hsz hc j hj
     refine ih _ _ (by simpa using hsz) (fun i hi=>?_) j hj
     rw [Array.getElem?_setIfInBounds,Array.getElem?_setIfInBounds,hsz,hc i hi]
   refine hgen wr cur z hcs fun j hj=>?_
   rw [hcur,Array.getElem?_setIfInBounds,if_neg (by omega)]
  have hc0:(applyWr cur 0 wr)[0]?=some (.int .i16 ver):=by
   rw [applyWr_out 0 wr cur 0 (fun q hq=>by have:=hwb q hq;omega),hcur]
   simp [hzp]
  have hZ2:HasZ w2 B 0 (applyWr cur 0 wr):=fun j v hj=>by simp only [World.cell?,hB2];simpa using hj
  have hfd2:∀ X,RpF w2 X fs B 0 (dfFds fs):=fun X=>zFds_ok hZ2 X fs 0 (zFds_agree hcur2 fs 0 (.inr hpos) hzf)
  have htg2:TgNil w2 B 0 toff:=by
   cases toff with
   | none=>trivial
   | some o=>
    have ho:o ≠ 0:=fun h=>htf (by rw [h])
    refine hZ2.one ?_
    simp only [zTg,eqAt] at hzt ⊢
    rw [hcur2 o (by omega)]
    exact hzt
  have hsrc2:jz_ w2 S srcv r0:=hsrc.keep hk2 (fun h=>hBS h.symm)
  refine qc_ (qj_ (qd_ ?_))
  rw [qb_,hsame2 1 (by omega),hq1 1 (by omega) (by omega),h1]
  refine wl_newReader En.kb (y:=n0 + 2) (v:=srcv) (gpe (by omega)) hsrc2 hbad (by simp only [qa_];omega) (by simp only [qa_];omega) (by omega) (wpList_nil ?_)
  rw [show (qu_ 2 (fun n=>[mk (some n) (.move (tm 1)),mk (some (n + 1)) (.build g.tR #[(0,tm n)]),mk (some cx.b) (.alloc g.tR),mk none (.store g.tR (tm cx.b) (tm (n + 1)))]) (n0 + 2)).2=n0 + 4 from rfl]
  have hk3:Keeps (fun _=>False) w2 ((w2.alloc (.cells #[.slice none 0 0,.bool false] g.tR (0,0))).setRow w2.heap.size #[srcv,.bool false]):=zv_ _ _ _ _
  have hrd3:=rds_newReader (T:=g.tR) hsrc2 hbad
  have hsz3:((w2.alloc (.cells #[.slice none 0 0,.bool false] g.tR (0,0))).setRow w2.heap.size #[srcv,.bool false]).heap.size=w2.heap.size + 1:=by simp
  have hp3:Pv cx.b n0 n0 (n0 + 2) a2 ((((a2.put (some (n0 + 2)) srcv).put (some (n0 + 2 + 1)) (.agg #[srcv,.bool false])).put (some cx.b) (pt w2.heap.size 0))):=(((Pv.refl _ _ _ _ _).put _ (by omega)).put _ (by omega)).put _ (by omega)
  have hg3:((((a2.put (some (n0 + 2)) srcv).put (some (n0 + 2 + 1)) (.agg #[srcv,.bool false])).put (some cx.b) (pt w2.heap.size 0))).get cx.b=pt w2.heap.size 0:=gpe (by simp only [qa_];omega)
  generalize (((a2.put (some (n0 + 2)) srcv).put (some (n0 + 2 + 1)) (.agg #[srcv,.bool false])).put (some cx.b) (pt w2.heap.size 0))=a3 at hp3 hg3 ⊢
  generalize (w2.alloc (.cells #[.slice none 0 0,.bool false] g.tR (0,0))).setRow w2.heap.size #[srcv,.bool false]=w3 at hk3 hrd3 hsz3 ⊢
  have hs3:=hp3.size
  have hsz2:=hk2.size
  have hq3:∀ s,s ≠ cx.b->s ≠ 6->s < n0->a3.get s=a.get s:=fun s h1 h2 h3=>(hp3.get s h1 (.inl h3)).trans ((hsame2 s (by omega)).trans (hq1 s h2 h3))
  have hB3:w3.heap[B]?=some (.cells (applyWr cur 0 wr) te (0,0)):=by rw [hk3.block B (by omega) id];exact hB2
  have hfd3:∀ X,RpF w3 X fs B 0 (dfFds fs):=fun X=>RpF.frameIn (hk3.mono fun _ _ h=>h.elim) fs B 0 _ (hfd2 X) fun j _=>q1_ (hk3.block B (by omega) id) j
  have htg3:TgNil w3 B 0 toff:=by
   cases toff with
   | none=>trivial
   | some o=>exact hk3.cell id htg2
  have herr3:ErrAt g.gErr w3:=⟨te',xe,hk3.cell id (hk2.cell hgB hce)⟩
  have hk03:Keeps (·=B) w w3:=hk2.trans (hk3.mono fun _ _ h=>h.elim)
  have hpre:Pre g cx fs toff B S te cur.size w (ver,r0) ntmps w2.heap.size a3 w3:=
   ⟨hrd3,hg3,(hq3 0 (by omega) (by omega) (by omega)).trans h0,(hq3 2 (by omega) (by omega) (by omega)).trans h2,by omega,hp3.defers.trans (hp2.defers.trans (hp1.defers.trans had)),(hp3.get 6 (by omega) (.inl (by omega))).trans ((hsame2 6 (by omega)).trans hg1),hk03,hsz2,
    ⟨_,hB3,j8_ _ _ _,hc0⟩,hfd3,htg3,herr3⟩
  cases hkp:kept with
  | false=>
   rw [hkp] at h
   simp only [Bool.false_eq_true,if_false]
   exact head_tail hsl hF hpre (by omega) (by omega) hS hBlt hBS hgB hgl (fun a' w' hh=>h _ a' w' hh)
  | true=>
   rw [hkp] at h hkept
   have hi16:av .i16=true:=by simpa using hkept
   simp only [if_true]
   have hRS:S ≠ w2.heap.size:=by omega
   refine qc_ (qj_ (qd_ ?_))
   rw [qb_,hpre.s0]
   refine qv_ (vs:=#[pt w2.heap.size 0]) (En.kb.rdE _ hi16) (by simp [qb_,gpo (show cx.b ≠ n0 + 4 by omega),hg3]) (En.kb.rdC _ hi16 w3 S w2.heap.size r0 hrd3 hRS) fun e w4 hR=>?_
   obtain ⟨val,he,hrd4,hk4,hl4⟩:=hR
   refine ⟨_,he,?_⟩
   refine qp_ (by rw [qb_,gpo (by omega),gpe (by omega)];rfl) ?_
   refine ju_ (by rw [qb_,gpe (by simp only [qa_];omega)]) hF ?_
   obtain ⟨x,hx1,hx2,_⟩:=hl4 (fun _=>False) (fun _ h=>h.elim) id
   have hx3:x=(rI 2 r0).1:=by
    have e:(PF.run .i16 r0).1=.n (rI 2 r0).1:=rfl
    rw [e] at hx2
    exact (V.n.inj hx2).symm
   have hBR:B ≠ w2.heap.size:=by omega
   have hB4:w4.heap[B]?=some (.cells (applyWr cur 0 wr) te (0,0)):=by rw [hk4.block B (by omega) hBR];exact hB3
   have hws:(applyWr cur 0 wr).size=cur.size:=j8_ _ _ _
   refine q8_ (cur:=applyWr cur 0 wr) (t:=te) (v:=val) (vs:=[.int .i16 x]) (by rw [qb_,gpe (by simp only [qa_];omega)]) (by rw [qb_,gpo (by omega),gpo (by omega),gpe (by simp only [qa_];omega)]) hx1 (hF.var.size _) hB4 (by rw [hws];simp only [List.length_cons,List.length_nil];omega)
    (fun u hu=>by simp at hu;rw [hu];rfl) (wpList_nil ?_)
   rw [Nat.zero_add,splice_one (by omega)]
   have hw5:(w4.setRow B ((applyWr cur 0 wr).setIfInBounds 0 (.int .i16 x))).heap[B]?=some (.cells ((applyWr cur 0 wr).setIfInBounds 0 (.int .i16 x)) te (0,0)):=setRow_heap _ _ _ _ _ _ hB4
   have hk5:Keeps (·=B) w4 (w4.setRow B ((applyWr cur 0 wr).setIfInBounds 0 (.int .i16 x))):=Keeps.setRow _ _ _ _ rfl
   have hcellIn:∀ j,fs.In 0 j->(w4.setRow B ((applyWr cur 0 wr).setIfInBounds 0 (.int .i16 x))).cell? ⟨B,j,none⟩=w4.cell? ⟨B,j,none⟩:=fun j hj=>by
    have hne:¬ (0=j):=fun h=>posF_in fs j hpos hj h.symm
    simp only [World.cell?,hw5,hB4,Array.getElem?_setIfInBounds,hne,if_false]
   have hk34:Keeps (fun k=>k=w2.heap.size) w3 w4:=hk4
   have hfd4:∀ X,RpF w4 X fs B 0 (dfFds fs):=fun X=>RpF.mono (fun k _ hk=>.inl hk) fs B 0 _ (RpF.frameIn (hk34.mono fun k _ hk=>.inr hk) fs B 0 _ (hfd3 (fun k=>X k \/ k=w2.heap.size)) fun j _=>q1_ (hk4.block B (by omega) hBR) j)
   have hfd5:∀ X,RpF (w4.setRow B ((applyWr cur 0 wr).setIfInBounds 0 (.int .i16 x))) X fs B 0 (dfFds fs):=fun X=>RpF.mono (fun k _ hk=>.inl hk) fs B 0 _ (RpF.frameIn (hk5.mono fun k _ hk=>.inr hk) fs B 0 _ (hfd4 (fun k=>X k \/ k=B)) hcellIn)
   have htg5:TgNil (w4.setRow B ((applyWr cur 0 wr).setIfInBounds 0 (.int .i16 x))) B 0 toff:=by
    cases toff with
    | none=>trivial
    | some o=>
     have ho:o ≠ 0:=fun h=>htf (by rw [h])
     have h4:w4.cell? ⟨B,0 + o,none⟩=some (.map none):=hk4.cell hBR htg3
     show (w4.setRow B ((applyWr cur 0 wr).setIfInBounds 0 (.int .i16 x))).cell? ⟨B,0 + o,none⟩=some (.map none)
     rw [<- h4]
     have hne:¬ (0=0 + o):=by omega
     simp only [World.cell?,hw5,hB4,Array.getElem?_setIfInBounds,hne,if_false]
   refine head_tail (vr:=rI 2 r0) (R:=w2.heap.size) (n:=n0 + 8) hsl hF ⟨?_,?_,?_,?_,?_,?_,?_,?_,?_,?_,hfd5,htg5,?_⟩ (by omega) (by omega) hS hBlt hBS hgB hgl (fun a' w' hh=>h _ a' w' hh)
   ·exact hrd4.keep hk5 (fun h=>hBS h.symm) (fun h=>hBR h.symm)
   ·rw [gpo (by omega),gpo (by omega),gpo (by omega),gpo (by omega)];exact hg3
   ·rw [gpo (by omega),gpo (by omega),gpo (by omega),gpo (by omega)];exact hpre.s0
   ·rw [gpo (by omega),gpo (by omega),gpo (by omega),gpo (by omega)];exact hpre.s2
   ·simp only [qa_];exact hpre.size
   ·simp only [qf_];exact hpre.defers
   ·rw [gpo (by omega),gpo (by omega),gpo (by omega),gpo (by omega)];exact hpre.six
   ·refine ⟨hk4.os.trans hk03.os,hk4.tape.trans hk03.tape,hk4.output.trans hk03.output,by have:=hk4.size;have:=hk03.size;have:=hk5.size;omega,fun q hq hx=>?_⟩
    have:=hk03.size
    have:=hk4.size
    rw [hk5.block q (by omega) hx,hk4.block q (by omega) (by omega),hk03.block q hq hx]
   ·exact hsz2
   ·exact ⟨_,hw5,by simp [hws],by rw [<- hx3];simp [hws,hcs,hzp]⟩
   ·obtain ⟨t6,x6,h6⟩:=herr3
    exact ⟨t6,x6,hk5.cell hgB (hk4.cell (by omega) h6)⟩
 ·cases hdf
end
end Go.Proofs.YtlmanancakaapaaGreatDoor.Kx

namespace Go.Proofs.YtlmanancakaapaaGreatDoor.Kx
open Go
section
variable {P:Program} {g:G} {av:PF->Bool} {fl:Bool} {D:Nat->Option (List (Nat × Value))}
def topUsed (g:G) (kept:Bool) (cx:Cx) (fs:Fds) (dflt T kt flex n0:Nat) (m:Nm):Nat:=
 (gL (gHead g kept cx dflt T flex++(gStOf g cx fs.tagged T kt m (gFds g cx fs m.s) (gTagd g cx fs m.s)++gEnd g cx.b)) n0).2
def ReadPost (fs:Fds) (toff:Option Nat) (B S te csz:Nat) (w:World) (ver:Int) (out:Out V) (x:Value) (w':World):Prop:=
 Keeps (·=B) w w' /\
 match out with
 | .ok v r=>(r.bad=false->x=.nilIface)/\(r.bad=true->∃ t y,x=.iface t y) /\
   ∃ vs t cur,v=.st vs t/\w'.heap[B]?=some (.cells cur te (0,0))/\cur.size=csz/\cur[0]?=some (.int .i16 ver)/\Far w S (fun X=>RpF w' X fs B 0 vs)/\Far w S (fun X=>TgAt w' X B 0 toff t)
 | .err=>∃ t y,x=.iface t y
 | .stuck=>False
def rdMsg (hf:Bool) (flex:Nat) (fs:Fds) (ver:Int) (r:RS):Out V:=
 jb_ (hf && decide ((flex:Int)<=ver)) fs.tagged (rdFds (hf && decide ((flex:Int)<=ver)) ver fs) (rdTagR (hf && decide ((flex:Int)<=ver)) ver fs) r
theorem read_fn (En:Env P g av fl D) {f ntmps:Nat} {kept:Bool} {cx:Cx} {fs:Fds} {dflt T kt flex n0:Nat} {toff:Option Nat} {nm:Nm} {z:Array Value} (hfl:cx.hf=true->fl=true) (hfn:FnIs P f ntmps [6] (gRead g cx.hf kept cx fs dflt T kt flex n0 nm))
  (hchk:topOk ⟨P,g,av,D⟩ kept cx fs dflt T kt toff n0 ntmps nm z (topUsed g kept cx fs dflt T kt flex n0 nm)=true) (h17:n0 + 17<=ntmps) (hlst:lastOk P fs nm=true)
  {w:World} {B S te:Nat} {ver:Int} {srcv:Value} {r0:RS} (hB:w.heap[B]?=some (.cells (z.setIfInBounds 0 (.int .i16 ver)) te (0,0))) (hsrc:jz_ w S srcv r0) (hbad:r0.bad=false) (herr:ErrAt g.gErr w) (hS:S < w.heap.size) (hBS:B ≠ S) (hgB:g.gErr ≠ B)
  (hgo:rdMsg cx.hf flex fs (vread kept ver r0).1 (vread kept ver r0).2 ≠ .stuck) :
  Calls P f #[pt B 0,srcv,.bool false] w fun e w'=>∃ x,e=.returned x/\ReadPost fs toff B S te z.size w (vread kept ver r0).1 (rdMsg cx.hf flex fs (vread kept ver r0).1 (vread kept ver r0).2) x w':=by
 refine hfn.calls En.kb.mixed (by simp) ?_
 rw [gRead_eq]
 have hchk0:=hchk
 simp only [lastOk,Bool.and_eq_true] at hlst
 obtain ⟨⟨t0,off,esz,el⟩,hls⟩:=Option.isSome_iff_exists.1 hlst.1
 simp only [topOk,Bool.and_eq_true,decide_eq_true_eq] at hchk
 obtain ⟨⟨⟨⟨⟨hsl,hused⟩,hF⟩,hkept⟩,hdf⟩,hst⟩:=hchk
 obtain ⟨hext,hpos,htf0⟩:fs.ext (zo_ toff)<=z.size/\posF fs=true/\toff ≠ some 0:=by
  split at hdf
  ·simp only [Bool.and_eq_true,decide_eq_true_eq,bne_iff_ne] at hdf
   exact ⟨hdf.1.2,hdf.1.1.1.2,hdf.1.1.2⟩
  ·cases hdf
 have htm:topM cx=max (max cx.b cx.s) (max cx.ver cx.fx) + 1:=rfl
 have hsz:=jo_ #[pt B 0,srcv,.bool false] ntmps (by show 3<=ntmps;omega)
 have hupE:UpL (gEnd g cx.b):=qe_ (qi_ _ _) (qe_ (q7_ _) qk_)
 have hupS:UpL (gStOf g cx fs.tagged T kt nm (gFds g cx fs nm.s) (gTagd g cx fs nm.s)):=up_gStOf (up_gFds g fs nm.s cx) (up_gTagd g fs nm.s cx)
 unfold topUsed at hused
 rw [qx_,qx_] at hused
 have hu1:=hupS (gL (gHead g kept cx dflt T flex) n0).2
 have hused':(gL (gStOf g cx fs.tagged T kt nm (gFds g cx fs nm.s) (gTagd g cx fs nm.s)) (gL (gHead g kept cx dflt T flex) n0).2).2 + 1<=ntmps:=hused
 have hhead:n0<=(gL (gHead g kept cx dflt T flex) n0).2:=by
  refine (show UpL (gHead g kept cx dflt T flex) from ?_) n0
  unfold gHead
  exact ql_ (ql_ (ql_ (ql_ (qe_ (qi_ _ _) (qe_ (qi_ _ _) (qe_ (qi_ _ _) qk_))) (zt_ (qe_ (qi_ _ _) qk_) qk_)) (qe_ (qi_ _ _) (qe_ (qi_ _ _) qk_))) (zt_ (qe_ (qi_ _ _) (qe_ (qi_ _ _) qk_)) qk_)) (qe_ (qi_ _ _) qk_)
 generalize hnH:(gL (gHead g kept cx dflt T flex) n0).2=nH at *
 refine q2_ (z5_ ?_)
 rw [hnH]
 refine head_ok En hchk0 h17 hB rfl hsrc hbad herr hS hBS hgB hsz rfl (by rw [ja_ _ _ _ (by simp)];rfl) (by rw [ja_ _ _ _ (by simp)];rfl) (by rw [ja_ _ _ _ (by simp)];rfl) fun R a1 w1 hh=>?_
 have hs1:=hh.size
 generalize hvr:vread kept ver r0=vr at *
 obtain ⟨cur,hB1,hcs,hc0⟩:=hh.blk
 have hzs:(z.setIfInBounds 0 (.int .i16 ver)).size=z.size:=by simp
 rw [hzs] at hcs
 have hfx6:cx.fx ≠ 6:=by
  rcases hsl.2.2.2.2.2.2.2 with h2 | h2
  ·have:=h2.2.1;omega
  ·have:=h2.2;omega
 have hcm:CxOk cx (topM cx) n0:=⟨⟨by omega,by omega⟩,⟨by omega,by omega⟩,⟨by omega,by omega⟩,⟨by omega,hfx6⟩,by omega,by omega⟩
 have hsz01:=hh.keeps.size
 have hfresh:=hh.fresh
 refine z5_ ?_
 rw [qr_]
 refine st_ofJ En hls (te:=te) hst hlst.2 hh.rc hcm hfl hhead (by omega) (by omega) ⟨cur,hB1,by omega⟩ ⟨hh.fds,hh.tgs⟩ ⟨fun v r' a2 w2 he hp2 hrd2 hev2 hv=>?_,fun he a2 w2 hp2 hif hk2=>?_,hgo⟩
 ·have hs2:=hp2.size
  obtain ⟨vs,t,rfl,hF2,hT2⟩:=hv
  have hsb:a2.get cx.b=pt R 0:=(hp2.get _ (by omega) (.inl (by omega))).trans hh.rc.sb
  obtain ⟨tE,xE,hE1⟩:=hh.rc.err
  have hE2:ErrAt g.gErr w2:=ErrAt.keep ⟨tE,xE,hE1⟩ hev2.keeps (fun h=>by rcases h with h | h;exact hh.rc.gR h;exact hh.rc.gB h)
  obtain ⟨cur2,hB2,hcs2,hcz2⟩:=hev2.blk cur te hB1
  have hc02:cur2[0]?=some (.int .i16 vr.1):=by
   rw [hcz2 0 (fun h=>?_)]
   ·exact hc0
   ·rcases h with h | ⟨o,h1,h2⟩
    ·exact posF_in fs 0 hpos h rfl
    ·have h0:o=0:=by omega
     exact htf0 (by rw [h1,h0])
  refine qc_ (qj_ (qv_ (vs:=#[pt R 0]) En.kb.cmE (by simp [qb_,hsb]) (En.kb.cmC w2 S R r' hrd2 hE2) fun e w3 hR=>?_))
  obtain ⟨hk3,x,he3,hx0,hx1⟩:=hR
  refine ⟨_,he3,qg_ (wpList_nil (qc_ (.ret ?_)))⟩
  rw [qb_,gpe (by omega)]
  refine ⟨?_,x,?_,?_⟩
  ·simp only [qf_];exact hp2.defers.trans hh.defers
  ·simp only [zl_]
   rw [gpe (by simp only [qa_];omega)]
  ·refine ⟨?_,?_⟩
   ·refine ⟨hk3.os.trans (hev2.keeps.os.trans hh.keeps.os),hk3.tape.trans (hev2.keeps.tape.trans hh.keeps.tape),hk3.output.trans (hev2.keeps.output.trans hh.keeps.output),?_,fun q hq hx=>?_⟩
    ·have:=hk3.size
     have:=hev2.keeps.size
     omega
    ·have:=hev2.keeps.size
     rw [hk3.block q (by omega) id,hev2.keeps.block q (by omega) (fun h=>by rcases h with h | h;omega;exact hx h),hh.keeps.block q hq hx]
   ·rw [show rdMsg cx.hf flex fs vr.1 vr.2=.ok (.st vs t) r' from he]
    have hBw2:B < w2.heap.size:=(Array.getElem?_eq_some_iff.1 hB2).1
    refine ⟨hx0,hx1,vs,t,cur2,rfl,by rw [hk3.block B hBw2 id];exact hB2,by omega,hc02,fun X hX hS'=>?_,fun X hX hS'=>?_⟩
    ·exact RpF.frameIn (hk3.mono fun _ _ h=>h.elim) fs B 0 vs (hF2 X (fun k hk=>Nat.lt_of_lt_of_le (hX k hk) hsz01) hS') fun j _=>q1_ (hk3.block B hBw2 id) j
    ·exact (hT2 X (fun k hk=>Nat.lt_of_lt_of_le (hX k hk) hsz01) hS').frame (hk3.mono fun _ _ h=>h.elim) fun k _=>q1_ (hk3.block B hBw2 id) _
 ·obtain ⟨tE,yE,hE⟩:=hif
  refine ⟨hp2.defers.trans hh.defers,.iface tE yE,by simp only [zl_];rw [hE],?_,?_⟩
  ·refine ⟨hk2.os.trans hh.keeps.os,hk2.tape.trans hh.keeps.tape,hk2.output.trans hh.keeps.output,Nat.le_trans hsz01 hk2.size,fun q hq hx=>?_⟩
   rw [hk2.block q (by omega) (fun h=>by rcases h with h | h;omega;exact hx h),hh.keeps.block q hq hx]
  ·rw [show rdMsg cx.hf flex fs vr.1 vr.2=.err from he]
   exact ⟨tE,yE,rfl⟩
end
end Go.Proofs.YtlmanancakaapaaGreatDoor.Kx

namespace Go.Proofs.YtlmanancakaapaaGreatDoor.Kx
theorem nl_false {l rest:Bs} {nl:Bool} (h:nl=true->l++rest=[]) (hl:0 < l.length):nl=false:=by
 cases nl with
 | false=>rfl
 | true=>
  have:=(List.append_eq_nil_iff.1 (h rfl)).1
  rw [this] at hl
  simp at hl
theorem nullS_of {nul:Option Nat} {ver:Int} (h:xh_ nul ver=true):zm_ nul ver=true:=by
 cases nul with
 | none=>cases h
 | some m=>simp only [xh_] at h;simp only [zm_,h,Bool.or_true]
theorem nullS_some {nul:Option Nat} {ver:Int} (h:zm_ nul ver=true):nul.isSome=true:=by
 cases nul with
 | none=>cases h
 | some m=>rfl
theorem rw_list {fx:Bool} {ver:Int} {nul:Option Nat} {esz:Nat} {e:Ty} {old:V} (hold:old.isNul=true) (hesz:esz<=10000) (he:RW (zq_ fx ver e (dfTy 0 e)) (jl_ fx ver e)) (hp:Pos (zq_ fx ver e (dfTy 0 e)) (jl_ fx ver e)) :
  RW (zq_ fx ver (.list nul esz e) old) (jl_ fx ver (.list nul esz e))/\Pos (zq_ fx ver (.list nul esz e) old) (jl_ fx ver (.list nul esz e)):=by
 have er:∀ r,zq_ fx ver (.list nul esz e) old r=if (j0_ fx r).2.bad then .err else if !roomy (j0_ fx r).1 esz then .stuck else
   if (j0_ fx r).1<=0 then .ok (if nul.isSome && (decide ((j0_ fx r).1=0) || !xh_ nul ver) then .l [] else .nul) (j0_ fx r).2
   else (xb_ (zq_ fx ver e (dfTy 0 e)) (j0_ fx r).1.toNat (j0_ fx r).2).bind fun vs r=>.ok (.l vs) r:=fun r=>by simp only [zq_,hold,Bool.not_true,Bool.false_eq_true,if_false]
 have ew:∀ v,jl_ fx ver (.list nul esz e) v=(if zm_ nul ver && v.isNul then wNull fx 4 else wCnt fx v.list.length)++wMany (jl_ fx ver e) v.list:=fun v=>by simp only [jl_]
 have ew0:jl_ fx ver (.list nul esz e) (.l [])=wCnt fx 0:=by rw [ew];simp [V.isNul,V.list,wMany]
 have ewn:jl_ fx ver (.list nul esz e) .nul=if zm_ nul ver then wNull fx 4 else wCnt fx 0:=by rw [ew];simp [V.isNul,V.list,wMany]
 have ewl:∀ vs,jl_ fx ver (.list nul esz e) (.l vs)=wCnt fx vs.length++wMany (jl_ fx ver e) vs:=fun vs=>by rw [ew];simp [V.isNul,V.list]
 have roomyB:∀ (L:Int),L<=BIG->roomy L esz=true:=fun L hL=>by
  simp only [roomy,decide_eq_true_eq]
  simp only [BIG] at hL
  have h1:(24 * (esz:Int) + 8)<=240008:=by omega
  by_cases h0:L<=0
  ·have:L * (24 * (esz:Int) + 8)<=0:=Int.mul_nonpos_of_nonpos_of_nonneg h0 (by omega)
   omega
  ·have h2:L * (24 * (esz:Int) + 8)<=33554432 * 240008:=Int.mul_le_mul hL h1 (by omega) (by omega)
   omega
 have key:∀ r v r',zq_ fx ver (.list nul esz e) old r=.ok v r'->(j0_ fx r).2.bad=false/\(((j0_ fx r).1<=0/\r'=(j0_ fx r).2/\v=if nul.isSome && (decide ((j0_ fx r).1=0) || !xh_ nul ver) then .l [] else .nul) \/
   (0 < (j0_ fx r).1/\∃ vs,xb_ (zq_ fx ver e (dfTy 0 e)) (j0_ fx r).1.toNat (j0_ fx r).2=.ok vs r'/\v=.l vs)):=fun r v r' h=>by
  rw [er] at h
  split at h
  ·cases h
  ·rename_i hb
   refine ⟨by simpa using hb,?_⟩
   split at h
   ·cases h
   ·split at h
    ·rename_i hL
     simp only [Out.ok.injEq] at h
     exact .inl ⟨hL,h.2.symm,h.1.symm⟩
    ·rename_i hL
     obtain ⟨vs,r1,h1,h2⟩:=jt_ h
     simp only [Out.ok.injEq] at h2
     obtain ⟨rfl,rfl⟩:=h2
     exact .inr ⟨by omega,vs,h1,rfl⟩
 have pos:Pos (zq_ fx ver (.list nul esz e) old) (jl_ fx ver (.list nul esz e)):=fun r v r' h hb=>by
  rw [ew,List.length_append]
  have a:=wNull_pos fx
  have b:=wCnt_pos fx v.list.length
  split <;> omega
 refine ⟨⟨fun r v r' h hb=>?_,fun r v r' h=>?_,fun r v r' h hb=>?_,fun r v r' h hb rest nl hnl hbig=>?_,fun r hr h=>?_⟩,pos⟩
 ·obtain ⟨hb1,_⟩:=key _ _ _ h
  exact ((rLen_spec fx r).2 hb1).1
 ·obtain ⟨hb1,h1 | ⟨hL,vs,h1,rfl⟩⟩:=key _ _ _ h
  ·rw [h1.2.1];exact (rLen_spec fx r).1
  ·exact Nat.le_trans ((rw_many he hp _).1.le _ _ _ h1) (rLen_spec fx r).1
 ·obtain ⟨hb1,h1 | ⟨hL,vs,h1,rfl⟩⟩:=key _ _ _ h
  ·obtain ⟨_,rfl,rfl⟩:=h1
   obtain ⟨_,_,_,h4,h5,_⟩:=(rLen_spec fx r).2 hb1
   split
   ·rw [ew0];exact h5
   ·rw [ewn];split
    ·exact h4
    ·exact h5
  ·obtain ⟨_,_,_,_,_,h6⟩:=(rLen_spec fx r).2 hb1
   have a:=(rw_many he hp _).1.len _ _ _ h1 hb
   have b:=((rw_many he hp _).2 _ _ _ h1).1
   have c:=h6 hL
   rw [ewl,b,List.length_append];omega
 ·have hnlf:=nl_false hnl (pos r v r' h hb)
  subst hnlf
  obtain ⟨hb1,h1 | ⟨hL,vs,h1,rfl⟩⟩:=key _ _ _ h
  ·obtain ⟨hL,rfl,rfl⟩:=h1
   have cnt:zq_ fx ver (.list nul esz e) old ⟨wCnt fx 0++rest,false,false⟩=.ok (if nul.isSome then .l [] else .nul) ⟨rest,false,false⟩:=by
    rw [er,rLen_cnt fx (n:=0) (by omega) rest (by omega)]
    simp only [Bool.false_eq_true,if_false,roomyB ((0:Nat):Int) (by simp [BIG]),Bool.not_true]
    simp
   by_cases hc:(nul.isSome && (decide ((j0_ fx r).1=0) || !xh_ nul ver))=true
   ·rw [if_pos hc]
    have hs:nul.isSome=true:=by
     simp only [Bool.and_eq_true] at hc
     exact hc.1
    exact ⟨.l [],by rw [ew0,cnt,if_pos hs],rfl⟩
   ·rw [if_neg hc]
    by_cases hs:nul.isSome=true
    ·have hc2:xh_ nul ver=true/\(j0_ fx r).1 ≠ 0:=by
      simp only [hs,Bool.true_and,Bool.or_eq_true,decide_eq_true_eq,Bool.not_eq_true',not_or] at hc
      exact ⟨by simpa using hc.2,hc.1⟩
     refine ⟨.nul,?_,rfl⟩
     rw [ewn,if_pos (nullS_of hc2.1),er,rLen_null fx rest]
     simp only [Bool.false_eq_true,if_false,roomyB (-1) (by simp [BIG]),Bool.not_true,hc2.1]
     simp
    ·exact ⟨.nul,by rw [ewn,if_neg (fun h=>hs (nullS_some h)),cnt,if_neg hs],rfl⟩
  ·obtain ⟨_,hlt,_,_,_,_⟩:=(rLen_spec fx r).2 hb1
   obtain ⟨hlen,hge⟩:=(rw_many he hp _).2 _ _ _ h1
   have hge':=hge hb
   rw [ewl,List.append_assoc,List.length_append] at hbig
   have hroom:vs.length<=(wMany (jl_ fx ver e) vs++rest).length:=by rw [List.length_append];omega
   obtain ⟨vs2,h2,h3⟩:=(rw_many he hp _).1.again _ _ _ h1 hb rest false (by simp) (by omega)
   have hlen2:=((rw_many he hp _).2 _ _ _ h2).1
   refine ⟨.l vs2,?_,by rw [ewl,ewl,h3,hlen,hlen2]⟩
   rw [ewl,List.append_assoc,er,rLen_cnt fx (n:=vs.length) (by omega) _ hroom]
   simp only [Bool.false_eq_true,if_false,roomyB ((vs.length:Nat):Int) (by omega),Bool.not_true]
   rw [if_neg (by omega)]
   simp only [Int.toNat_natCast]
   rw [hlen,h2]
   rfl
 ·rw [er] at h
  split at h
  ·cases h
  ·rename_i hb
   obtain ⟨_,_,hle,_⟩:=(rLen_spec fx r).2 (by simpa using hb)
   have hl2:=(rLen_spec fx r).1
   rw [roomyB _ (by omega)] at h
   simp only [Bool.not_true,Bool.false_eq_true,if_false] at h
   split at h
   ·cases h
   ·cases hv:xb_ (zq_ fx ver e (dfTy 0 e)) (j0_ fx r).1.toNat (j0_ fx r).2 with
    | err=>rw [hv] at h;cases h
    | stuck=>exact (rw_many he hp _).1.go _ (by omega) hv
    | ok vs r2=>rw [hv] at h;cases h
theorem rw_st {fx:Bool} {fields:RS->Out (List V)} {tag:Nat->Option (List V->RS->Out (List V))} {wF:List V->Bs} (hf:RW fields wF):RW (jb_ fx false fields tag) (fun v=>wF v.fields++jn_ fx v.tags):=by
 have er:∀ r,jb_ fx false fields tag r=(fields r).bind fun vs r=>if fx then .ok (.st vs (jq_ (rUv r).1 [] (rUv r).2).1) (jq_ (rUv r).1 [] (rUv r).2).2 else .ok (.st vs []) r:=fun r=>by
  simp only [jb_,Bool.false_eq_true,if_false]
  cases fx <;> rfl
 cases fx with
 | false=>
  have key:∀ r v r',jb_ false false fields tag r=.ok v r'->∃ vs,fields r=.ok vs r'/\v=.st vs []:=fun r v r' h=>by
   rw [er] at h
   obtain ⟨vs,r1,h1,h2⟩:=jt_ h
   simp only [Bool.false_eq_true,if_false,Out.ok.injEq] at h2
   obtain ⟨rfl,rfl⟩:=h2
   exact ⟨vs,h1,rfl⟩
  have ew:∀ vs,wF (V.st vs []).fields++jn_ false (V.st vs []).tags=wF vs:=fun vs=>by simp [V.fields,jn_]
  refine ⟨fun r v r' h hb=>?_,fun r v r' h=>?_,fun r v r' h hb=>?_,fun r v r' h hb rest nl hnl hbig=>?_,fun r hr h=>?_⟩
  ·obtain ⟨vs,h1,rfl⟩:=key _ _ _ h;exact hf.bad _ _ _ h1 hb
  ·obtain ⟨vs,h1,rfl⟩:=key _ _ _ h;exact hf.le _ _ _ h1
  ·obtain ⟨vs,h1,rfl⟩:=key _ _ _ h;simp only [ew];exact hf.len _ _ _ h1 hb
  ·obtain ⟨vs,h1,rfl⟩:=key _ _ _ h
   simp only [ew] at hnl hbig ⊢
   obtain ⟨vs2,h2,h3⟩:=hf.again _ _ _ h1 hb rest nl hnl hbig
   refine ⟨.st vs2 [],?_,by simp only [ew];exact h3⟩
   rw [er,h2]
   rfl
  ·rw [er] at h
   cases hv:fields r with
   | err=>rw [hv] at h;cases h
   | stuck=>exact hf.go r hr hv
   | ok vs r1=>rw [hv] at h;cases h
 | true=>
  have key:∀ r v r',jb_ true false fields tag r=.ok v r'->∃ vs r1,fields r=.ok vs r1/\v=.st vs (jq_ (rUv r1).1 [] (rUv r1).2).1/\r'=(jq_ (rUv r1).1 [] (rUv r1).2).2:=fun r v r' h=>by
   rw [er] at h
   obtain ⟨vs,r1,h1,h2⟩:=jt_ h
   simp only [if_true,Out.ok.injEq] at h2
   obtain ⟨rfl,rfl⟩:=h2
   exact ⟨vs,r1,h1,rfl,rfl⟩
  have tg:∀ r1:RS,(jq_ (rUv r1).1 [] (rUv r1).2).2.bad=false->r1.bad=false/\(uvar (w32 (jq_ (rUv r1).1 [] (rUv r1).2).1.length)).length + (qz_ (jq_ (rUv r1).1 [] (rUv r1).2).1).length + (jq_ (rUv r1).1 [] (rUv r1).2).2.src.length<=r1.src.length /\
    w32 (jq_ (rUv r1).1 [] (rUv r1).2).1.length=(jq_ (rUv r1).1 [] (rUv r1).2).1.length/\(jq_ (rUv r1).1 [] (rUv r1).2).1.length < 4294967296/\xe_ (jq_ (rUv r1).1 [] (rUv r1).2).1/\∀ y ∈ (jq_ (rUv r1).1 [] (rUv r1).2).1,TagOk y:=fun r1 hb=>by
   have h1:=j6_ r1
   obtain ⟨b1,l1,n1,r2,t2⟩:=(rTags_spec (rUv r1).1 [] (rUv r1).2).2 hb
   obtain ⟨b0,c0,_⟩:=h1.2.2 b1
   have hw:w32 (jq_ (rUv r1).1 [] (rUv r1).2).1.length=(jq_ (rUv r1).1 [] (rUv r1).2).1.length:=by
    simp only [List.length_nil] at n1
    simp only [w32];have:=h1.1;omega
   have hm:=uvar_mono (x:=(jq_ (rUv r1).1 [] (rUv r1).2).1.length) (y:=(rUv r1).1) (by simpa using n1) h1.1
   have e0:(qz_ []).length=0:=rfl
   simp only [List.length_nil] at n1
   exact ⟨b0,by rw [hw];omega,hw,by have:=h1.1;omega,r2 trivial,t2 (by simp)⟩
  have ew:∀ vs t,wF (V.st vs t).fields++jn_ true (V.st vs t).tags=wF vs++(uvar (w32 t.length)++qz_ t):=fun vs t=>by simp [V.fields,V.tags,jn_]
  refine ⟨fun r v r' h hb=>?_,fun r v r' h=>?_,fun r v r' h hb=>?_,fun r v r' h hb rest nl hnl hbig=>?_,fun r hr h=>?_⟩
  ·obtain ⟨vs,r1,h1,rfl,rfl⟩:=key _ _ _ h;exact hf.bad _ _ _ h1 (tg r1 hb).1
  ·obtain ⟨vs,r1,h1,rfl,rfl⟩:=key _ _ _ h
   exact Nat.le_trans (rTags_spec _ _ _).1 (Nat.le_trans (j6_ r1).2.1 (hf.le _ _ _ h1))
  ·obtain ⟨vs,r1,h1,rfl,rfl⟩:=key _ _ _ h
   obtain ⟨b1,c1,_⟩:=tg r1 hb
   have a:=hf.len _ _ _ h1 b1
   simp only [ew,List.length_append];omega
  ·obtain ⟨vs,r1,h1,rfl,rfl⟩:=key _ _ _ h
   obtain ⟨b1,c1,hw,hlt,hris,hok⟩:=tg r1 hb
   simp only [ew] at hnl hbig ⊢
   generalize (jq_ (rUv r1).1 [] (rUv r1).2).1=t at hw hlt hris hok hnl hbig ⊢
   have hnlf:nl=false:=by
    cases nl with
    | false=>rfl
    | true=>
     have:=hnl rfl
     simp only [List.append_eq_nil_iff] at this
     have hp:=jr_ (w32 t.length)
     rw [this.1.2.1] at hp
     simp at hp
   subst hnlf
   rw [List.append_assoc] at hbig
   obtain ⟨vs2,h2,h3⟩:=hf.again _ _ _ h1 b1 ((uvar (w32 t.length)++qz_ t)++rest) false (by simp) hbig
   refine ⟨.st vs2 t,?_,by simp only [ew];rw [h3]⟩
   rw [List.append_assoc,er,h2]
   simp only [Out.bind,if_true]
   rw [List.append_assoc,hw,j5_ hlt,rTags_again t [] rest (by simpa using rising_pw hris) hok]
   rfl
  ·rw [er] at h
   cases hv:fields r with
   | err=>rw [hv] at h;cases h
   | stuck=>exact hf.go r hr hv
   | ok vs r1=>rw [hv] at h;cases h
theorem rw_cons {F:RS->Out V} {w:V->Bs} {FR:RS->Out (List V)} {wR:List V->Bs} (iht:RW F w) (ihr:RW FR wR):RW (fun r=>(F r).bind fun v r=>(FR r).bind fun vs r=>.ok (v :: vs) r) (fun vs=>w (vs.headD .nul)++wR vs.tail):=by
 have key:∀ r vs r',((F r).bind fun v r=>(FR r).bind fun vs r=>.ok (v :: vs) r)=.ok vs r'->∃ v r1 vs',F r=.ok v r1/\FR r1=.ok vs' r'/\vs=v :: vs':=fun r vs r' h=>by
  obtain ⟨v,r1,h1,h2⟩:=jt_ h
  obtain ⟨vs',r2,h3,h4⟩:=jt_ h2
  simp only [Out.ok.injEq] at h4
  obtain ⟨rfl,rfl⟩:=h4
  exact ⟨v,r1,vs',h1,h3,rfl⟩
 refine ⟨fun r vs r' h hb=>?_,fun r vs r' h=>?_,fun r vs r' h hb=>?_,fun r vs r' h hb rest nl hnl hbig=>?_,fun r hr h=>?_⟩
 ·obtain ⟨v,r1,vs',h1,h2,rfl⟩:=key _ _ _ h
  exact iht.bad _ _ _ h1 (ihr.bad _ _ _ h2 hb)
 ·obtain ⟨v,r1,vs',h1,h2,rfl⟩:=key _ _ _ h
  exact Nat.le_trans (ihr.le _ _ _ h2) (iht.le _ _ _ h1)
 ·obtain ⟨v,r1,vs',h1,h2,rfl⟩:=key _ _ _ h
  have a:=iht.len _ _ _ h1 (ihr.bad _ _ _ h2 hb)
  have b:=ihr.len _ _ _ h2 hb
  simp only [List.headD_cons,List.tail_cons,List.length_append];omega
 ·obtain ⟨v,r1,vs',h1,h2,rfl⟩:=key _ _ _ h
  simp only [List.headD_cons,List.tail_cons] at hnl hbig ⊢
  rw [List.append_assoc] at hnl hbig ⊢
  obtain ⟨v2,h3,h4⟩:=iht.again _ _ _ h1 (ihr.bad _ _ _ h2 hb) (wR vs'++rest) nl hnl hbig
  rw [List.length_append] at hbig
  obtain ⟨vs2,h5,h6⟩:=ihr.again _ _ _ h2 hb rest nl (fun hh=>(List.append_eq_nil_iff.1 (hnl hh)).2) (by omega)
  refine ⟨v2 :: vs2,?_,by simp only [List.headD_cons,List.tail_cons,h4,h6]⟩
  simp only [h3,Out.bind,h5]
 ·cases hv:F r with
  | err=>rw [hv] at h;cases h
  | stuck=>exact iht.go r hr hv
  | ok v r1=>
   rw [hv] at h
   simp only [Out.bind] at h
   have:=iht.le _ _ _ hv
   cases hvs:FR r1 with
   | err=>rw [hvs] at h;cases h
   | stuck=>exact ihr.go r1 (by omega) hvs
   | ok vs r2=>rw [hvs] at h;cases h
theorem rw_skip {d:V} {FR:RS->Out (List V)} {wR:List V->Bs} (ihr:RW FR wR):RW (fun r=>(FR r).bind fun vs r=>.ok (d :: vs) r) (fun vs=>wR vs.tail):=by
 have key:∀ r vs r',((FR r).bind fun vs r=>.ok (d :: vs) r)=.ok vs r'->∃ vs',FR r=.ok vs' r'/\vs=d :: vs':=fun r vs r' h=>by
  obtain ⟨vs',r2,h1,h2⟩:=jt_ h
  simp only [Out.ok.injEq] at h2
  obtain ⟨rfl,rfl⟩:=h2
  exact ⟨vs',h1,rfl⟩
 refine ⟨fun r vs r' h hb=>?_,fun r vs r' h=>?_,fun r vs r' h hb=>?_,fun r vs r' h hb rest nl hnl hbig=>?_,fun r hr h=>?_⟩
 ·obtain ⟨vs',h2,rfl⟩:=key _ _ _ h;exact ihr.bad _ _ _ h2 hb
 ·obtain ⟨vs',h2,rfl⟩:=key _ _ _ h;exact ihr.le _ _ _ h2
 ·obtain ⟨vs',h2,rfl⟩:=key _ _ _ h;exact ihr.len _ _ _ h2 hb
 ·obtain ⟨vs',h2,rfl⟩:=key _ _ _ h
  simp only [List.tail_cons] at hnl hbig ⊢
  obtain ⟨vs2,h5,h6⟩:=ihr.again _ _ _ h2 hb rest nl hnl hbig
  refine ⟨d :: vs2,?_,h6⟩
  rw [h5]
  rfl
 ·cases hv:FR r with
  | err=>rw [hv] at h;cases h
  | stuck=>exact ihr.go r hr hv
  | ok v r1=>rw [hv] at h;cases h
theorem rw_end:RW (fun r=>Out.ok ([]:List V) r) (fun _=>[]):=by
 refine ⟨fun r v r' h hb=>?_,fun r v r' h=>?_,fun r v r' h hb=>?_,fun r v r' h hb rest nl _ _=>?_,fun r _ h=>by cases h⟩ <;> (simp only [Out.ok.injEq] at h;obtain ⟨rfl,rfl⟩:=h)
 ·exact hb
 ·exact Nat.le_refl _
 ·simp
 ·exact ⟨[],rfl,rfl⟩
def numTy:Ty->Bool
 | .prim .i8=>true
 | .prim .i16=>true
 | .prim .i32=>true
 | .prim .i64=>true
 | _=>false
def numsF:Fds->Bool
 | .nil=>true
 | .cons lo hi tag _ _ ty r=>(lo == 0) && hi.isNone && tag.isNone && numTy ty && numsF r
section
variable {fx:Bool} {ver:Int}
theorem num_ex {ty:Ty} (h:numTy ty=true) (old:V):RW (zq_ fx ver ty old) (jl_ fx ver ty)/\∀ r v r',zq_ fx ver ty old r=.ok v r'->∀ old2 rest nl,zq_ fx ver ty old2 ⟨jl_ fx ver ty v++rest,false,nl⟩=.ok v ⟨rest,false,nl⟩:=by
 have key:∀ (p:Prim) (k:Nat),(k=1 \/ k=2 \/ k=4 \/ k=8)->(∀ r,(js_ p).run r=(.n (rI k r).1,(rI k r).2))->(∀ x,(js_ p).wr (.n x)=be k x) ->
   RW (zq_ fx ver (.prim p) old) (jl_ fx ver (.prim p))/\∀ r v r',zq_ fx ver (.prim p) old r=.ok v r'->∀ old2 rest nl,zq_ fx ver (.prim p) old2 ⟨jl_ fx ver (.prim p) v++rest,false,nl⟩=.ok v ⟨rest,false,nl⟩:=by
  intro p k hk hr hw
  have e1:∀ o,zq_ fx ver (.prim p) o=fun r=>.ok ((js_ p).run r).1 ((js_ p).run r).2:=fun o=>by funext r;simp only [zq_]
  have e2:jl_ fx ver (.prim p)=(js_ p).wr:=by funext v;simp only [jl_,zr_]
  rw [e2,e1]
  refine ⟨rw_pf _,fun r v r' h o rest nl=>?_⟩
  rw [e1]
  simp only [hr,Out.ok.injEq] at h ⊢
  obtain ⟨rfl,rfl⟩:=h
  rw [hw,rI_be hk (rI_rng hk r) rest nl]
  exact ⟨rfl,rfl⟩
 cases ty with
 | prim p=>
  cases p with
  | i8=>exact key .i8 1 (by omega) (fun _=>rfl) (fun _=>rfl)
  | i16=>exact key .i16 2 (by omega) (fun _=>rfl) (fun _=>rfl)
  | i32=>exact key .i32 4 (by omega) (fun _=>rfl) (fun _=>rfl)
  | i64=>exact key .i64 8 (by omega) (fun _=>rfl) (fun _=>rfl)
  | bool=>cases h
  | u16=>cases h
  | uuid=>cases h
 | str _=>cases h
 | bytes _=>cases h
 | list _ _ _=>cases h
 | struct _ _ _=>cases h
theorem nums_ex:∀ (fs:Fds),numsF fs=true->RW (rdFds fx ver fs) (wrFds fx ver fs)/\(∀ r vs r',rdFds fx ver fs r=.ok vs r'->∀ rest nl,rdFds fx ver fs ⟨wrFds fx ver fs vs++rest,false,nl⟩=.ok vs ⟨rest,false,nl⟩)/\fldsDf fs (dfFds fs)=true/\fs.tagged=false
 | .nil,_=>by
  have e1:rdFds fx ver .nil=fun r=>.ok [] r:=by funext r;simp only [rdFds]
  have e2:wrFds fx ver .nil=fun _=>[]:=by funext v;simp only [wrFds]
  rw [e1,e2]
  refine ⟨rw_end,fun r vs r' h rest nl=>?_,rfl,rfl⟩
  simp only [Out.ok.injEq] at h
  obtain ⟨rfl,rfl⟩:=h
  rfl
 | .cons lo hi tag df off ty r0,h=>by
  simp only [numsF,Bool.and_eq_true,beq_iff_eq] at h
  obtain ⟨⟨⟨⟨rfl,hhi⟩,htag⟩,hty⟩,hr0⟩:=h
  obtain ⟨i1,i2,i3,i4⟩:=nums_ex r0 hr0
  obtain ⟨n1,n2⟩:=num_ex (fx:=fx) (ver:=ver) hty (dfTy df ty)
  have hh:has 0 hi ver=true:=by
   cases hi with
   | none=>simp [has]
   | some _=>cases hhi
  have e1:rdFds fx ver (.cons 0 hi tag df off ty r0)=fun r=>(zq_ fx ver ty (dfTy df ty) r).bind fun v r=>(rdFds fx ver r0 r).bind fun vs r=>.ok (v :: vs) r:=by funext r;simp only [rdFds,htag,hh,Bool.and_self,if_true]
  have e2:wrFds fx ver (.cons 0 hi tag df off ty r0)=fun vs=>jl_ fx ver ty (vs.headD .nul)++wrFds fx ver r0 vs.tail:=by funext vs;simp only [wrFds,htag,hh,Bool.and_self,if_true]
  rw [e1,e2]
  refine ⟨rw_cons n1 i1,fun r vs r' h rest nl=>?_,?_,?_⟩
  ·obtain ⟨v,r1,h1,h2⟩:=jt_ h
   obtain ⟨vs',r2,h3,h4⟩:=jt_ h2
   simp only [Out.ok.injEq] at h4
   obtain ⟨rfl,rfl⟩:=h4
   simp only [List.headD_cons,List.tail_cons,List.append_assoc]
   rw [n2 _ _ _ h1 (dfTy df ty) _ nl]
   simp only [Out.bind]
   rw [i2 _ _ _ h3 rest nl]
  ·simp only [dfFds,fldsDf,List.headD_cons,List.tail_cons,i3,Bool.and_true]
   cases ty with
   | prim p=>cases p <;> first | exact beq_self_eq_true df | cases hty
   | str _=>cases hty
   | bytes _=>cases hty
   | list _ _ _=>cases hty
   | struct _ _ _=>cases hty
  ·cases tag with
   | none=>simp only [Fds.tagged,Option.isSome_none,Bool.false_or,i4]
   | some _=>cases htag
theorem tags_ex {r1:RS} (hb:(jq_ (rUv r1).1 [] (rUv r1).2).2.bad=false):w32 (jq_ (rUv r1).1 [] (rUv r1).2).1.length=(jq_ (rUv r1).1 [] (rUv r1).2).1.length/\(jq_ (rUv r1).1 [] (rUv r1).2).1.length < 4294967296/\xe_ (jq_ (rUv r1).1 [] (rUv r1).2).1/\∀ y ∈ (jq_ (rUv r1).1 [] (rUv r1).2).1,TagOk y:=by
 have h1:=j6_ r1
 obtain ⟨_,_,n1,r2,t2⟩:=(rTags_spec (rUv r1).1 [] (rUv r1).2).2 hb
 simp only [List.length_nil] at n1
 exact ⟨by simp only [w32];omega,by omega,r2 trivial,t2 (by simp)⟩
theorem tagRW_st {toff:Option Nat} {fs:Fds} {df:Int} (hn:numsF fs=true):TagRW (zq_ true ver (.struct none toff fs)) (jl_ true ver (.struct none toff fs)) (dfTy df (.struct none toff fs)) (isDf (.struct none toff fs) df):=by
 obtain ⟨i1,i2,i3,i4⟩:=nums_ex (fx:=true) (ver:=ver) fs hn
 have e1:∀ o,zq_ true ver (.struct none toff fs) o=jb_ true false (rdFds true ver fs) (rdTag true ver fs):=fun o=>by funext r;simp only [zq_,i4]
 have e2:jl_ true ver (.struct none toff fs)=fun v=>wrFds true ver fs v.fields++jn_ true v.tags:=by funext v;simp only [jl_,wrTgd_plain true ver fs _ i4,wTail_nil]
 have hrw:RW (jb_ true false (rdFds true ver fs) (rdTag true ver fs)) (fun v=>wrFds true ver fs v.fields++jn_ true v.tags):=rw_st i1
 refine ⟨fun old r v r' h hb=>?_,fun old r v r' h hb hD hbig=>⟨v,?_,rfl,hD⟩,?_,fun old r hr=>?_⟩
 ·rw [e1] at h
  rw [e2]
  exact Nat.le_trans (Nat.le_add_right _ _) (hrw.len _ _ _ h hb)
 ·rw [e1] at h ⊢
  rw [e2]
  simp only [jb_] at h ⊢
  obtain ⟨vs,r1,h1,h2⟩:=jt_ h
  simp only [Bool.not_true,Bool.false_eq_true,if_false,Out.ok.injEq] at h2
  obtain ⟨rfl,rfl⟩:=h2
  obtain ⟨t1,t2,t3,t4⟩:=tags_ex hb
  generalize (jq_ (rUv r1).1 [] (rUv r1).2).1=t at t1 t2 t3 t4 ⊢
  have:=i2 _ _ _ h1 (jn_ true t) false
  simp only [V.fields,V.tags]
  rw [this]
  simp only [Out.bind,Bool.not_true,Bool.false_eq_true,if_false]
  have e3:jn_ true t=uvar t.length++(qz_ t++[]):=by simp [jn_,t1]
  rw [e3,j5_ t2,rTags_again t [] [] (by simpa using rising_pw t3) t4]
  rfl
 ·simp only [dfTy,isDf,V.fields,V.tags,i3,List.isEmpty_nil,Bool.and_self]
 ·rw [e1]
  exact hrw.go _ hr
def lastNum:Fds->Option (Nat × Int × Option Nat × Fds)
 | .nil=>none
 | .cons _ _ none _ _ _ r=>lastNum r
 | .cons _ _ (some t) df _ (.struct none toff fs) .nil=>if decide (t < 4294967296) && numsF fs then some (t,df,toff,fs) else none
 | .cons _ _ (some _) _ _ _ _=>none
def tgGet:Fds->List V->V
 | .nil,vs=>vs.headD .nul
 | .cons _ _ none _ _ _ r,vs=>tgGet r vs.tail
 | .cons _ _ (some _) _ _ _ _,vs=>vs.headD .nul
def tgSet:Fds->List V->V->List V
 | .nil,vs,v=>v :: vs.tail
 | .cons _ _ none _ _ _ r,vs,v=>vs.headD .nul :: tgSet r vs.tail v
 | .cons _ _ (some _) _ _ _ _,vs,v=>v :: vs.tail
theorem tgGet_set:∀ (fs:Fds) (vs:List V) (v:V),tgGet fs (tgSet fs vs v)=v
 | .nil,_,_=>rfl
 | .cons _ _ none _ _ _ r,vs,v=>by simp only [tgSet,tgGet,List.tail_cons];exact tgGet_set r _ v
 | .cons _ _ (some _) _ _ _ _,_,_=>rfl
theorem tgSet_set:∀ (fs:Fds) (vs:List V) (u v:V),tgSet fs (tgSet fs vs u) v=tgSet fs vs v
 | .nil,_,_,_=>rfl
 | .cons _ _ none _ _ _ r,vs,u,v=>by simp only [tgSet,List.tail_cons,List.headD_cons];rw [tgSet_set r _ u v]
 | .cons _ _ (some _) _ _ _ _,_,_,_=>rfl
theorem lastNum_ok {t:Nat} {df:Int} {toff:Option Nat} {sf:Fds}:∀ (fs:Fds),lastNum fs=some (t,df,toff,sf)->(t < 4294967296/\numsF sf=true/\fs.tagged=true) /\
  (∃ g,rdTag fx ver fs t=some g/\∀ vs r,g vs r=(zq_ fx ver (.struct none toff sf) (tgGet fs vs) r).bind fun v r=>.ok (tgSet fs vs v) r)/\(∀ j,j ≠ t->rdTag fx ver fs j=none) /\
  (∀ r vs r',rdFds fx ver fs r=.ok vs r'->tgGet fs vs=dfTy df (.struct none toff sf))/\(∀ vs u,wrFds fx ver fs (tgSet fs vs u)=wrFds fx ver fs vs) /\
  ∀ vs,wrTgd fx ver fs vs=tgOne t (jl_ fx ver (.struct none toff sf)) (isDf (.struct none toff sf) df) (tgGet fs vs)
 | .nil,h=>by cases h
 | .cons lo hi none df' off ty r0,h=>by
  obtain ⟨⟨a1,a2,a3⟩,⟨g,hg,hgv⟩,a5,a6,a7,a8⟩:=lastNum_ok r0 h
  refine ⟨⟨a1,a2,by simp [Fds.tagged,a3]⟩,⟨_,by simp only [rdTag,hg];rfl,fun vs r=>?_⟩,fun j hj=>by simp only [rdTag,a5 j hj];rfl,fun r vs r' h=>?_,fun vs u=>?_,fun vs=>?_⟩
  ·simp only [hgv,tgGet,tgSet]
   cases zq_ fx ver (.struct none toff sf) (tgGet r0 vs.tail) r <;> rfl
  ·simp only [rdFds] at h
   split at h
   ·obtain ⟨v,r1,h1,h2⟩:=jt_ h
    obtain ⟨vs',r2,h3,h4⟩:=jt_ h2
    simp only [Out.ok.injEq] at h4
    obtain ⟨rfl,rfl⟩:=h4
    exact a6 _ _ _ h3
   ·obtain ⟨vs',r2,h3,h4⟩:=jt_ h
    simp only [Out.ok.injEq] at h4
    obtain ⟨rfl,rfl⟩:=h4
    exact a6 _ _ _ h3
  ·simp only [wrFds,tgSet,List.headD_cons,List.tail_cons,a7]
  ·simp only [wrTgd,tgGet,List.nil_append,a8]
 | .cons lo hi (some t') df' off ty r0,h=>by
  unfold lastNum at h
  split at h
  ·cases h
  ·rename_i he
   cases he
  ·rename_i he
   cases he
   split at h
   ·rename_i hc
    simp only [Bool.and_eq_true,decide_eq_true_eq] at hc
    simp only [Option.some.injEq,Prod.mk.injEq] at h
    obtain ⟨rfl,rfl,rfl,rfl⟩:=h
    refine ⟨⟨hc.1,hc.2,rfl⟩,⟨_,by simp only [rdTag,BEq.rfl,if_true];rfl,fun vs r=>rfl⟩,fun j hj=>?_,fun r vs r' h=>?_,fun vs u=>?_,fun vs=>?_⟩
    ·have:((some t':Option Nat) == some j)=false:=by simpa using fun h=>hj h.symm
     simp only [rdTag,this,Bool.false_eq_true,if_false];rfl
    ·simp only [rdFds,Option.isNone_some,Bool.false_and,Bool.false_eq_true,if_false,Out.bind,Out.ok.injEq] at h
     rw [<- h.1]
     rfl
    ·simp only [wrFds,tgSet,Option.isNone_some,Bool.false_and,Bool.false_eq_true,if_false]
    ·simp only [wrTgd,tgGet,tgOne,List.append_nil]
     rfl
   ·cases h
  ·cases h
theorem rw_num {fs:Fds} {x:Nat × Int × Option Nat × Fds} (h:lastNum fs=some x) (hf:RW (rdFds fx ver fs) (wrFds fx ver fs)):RW (jb_ fx true (rdFds fx ver fs) (rdTag fx ver fs)) (fun v=>wrFds fx ver fs v.fields++zy_ fx (wrTgd fx ver fs v.fields) v.tags):=by
 obtain ⟨t,df,toff,sf⟩:=x
 obtain ⟨⟨a1,a2,a3⟩,⟨g,hg,hgv⟩,a5,a6,a7,a8⟩:=lastNum_ok (fx:=fx) (ver:=ver) fs h
 cases fx with
 | true=>exact rw_stT (G:=fun _=>True) a1 ⟨⟨g,hg,fun vs r _=>hgv vs r⟩,a5,tgGet_set fs,tgSet_set fs,fun _ _ h=>h⟩ (tagRW_st a2) hf (fun r vs r' h=>⟨trivial,a6 _ _ _ h⟩) (fun vs u _=>a7 vs u) fun vs _=>a8 vs
 | false=>
  have e1:jb_ false true (rdFds false ver fs) (rdTag false ver fs)=jb_ false false (rdFds false ver fs) (rdTag false ver fs):=by funext r;simp only [jb_];rfl
  have e2:(fun v:V=>wrFds false ver fs v.fields++zy_ false (wrTgd false ver fs v.fields) v.tags)=fun v=>wrFds false ver fs v.fields++jn_ false v.tags:=by funext v;simp [zy_,jn_]
  rw [e1,e2]
  exact rw_st hf
end
mutual
def posTy (fx:Bool) (ver:Int):Ty->Bool
 | .struct none _ fs=>fx || posFds fx ver fs
 | _=>true
def posFds (fx:Bool) (ver:Int):Fds->Bool
 | .nil=>false
 | .cons lo hi tag _ _ ty r=>(tag.isNone && has lo hi ver && posTy fx ver ty) || posFds fx ver r
end
mutual
def lawTy (fx:Bool) (ver:Int):Ty->Bool
 | .prim _=>true
 | .str _=>true
 | .bytes nul=>nul == none || nul == some 0
 | .list _ esz e=>decide (esz<=10000) && posTy fx ver e && lawTy fx ver e
 | .struct none _ fs=>lawFds fx ver fs && (!fs.tagged || (lastNum fs).isSome)
 | .struct (some _) _ fs=>lawFds fx ver fs && !fs.tagged
def lawFds (fx:Bool) (ver:Int):Fds->Bool
 | .nil=>true
 | .cons _ _ tag _ _ ty r=>(tag.isSome || lawTy fx ver ty) && lawFds fx ver r
end
theorem null_ok {nul:Option Nat} (h:(nul == none || nul == some 0)=true) (ver:Int):zm_ nul ver=nul.isSome:=by
 simp only [Bool.or_eq_true,beq_iff_eq] at h
 rcases h with rfl | rfl <;> simp [zm_]
mutual
theorem law_ty (fx:Bool) (ver:Int):∀ (ty:Ty) (df:Int),lawTy fx ver ty=true->RW (zq_ fx ver ty (dfTy df ty)) (jl_ fx ver ty)/\(posTy fx ver ty=true->Pos (zq_ fx ver ty (dfTy df ty)) (jl_ fx ver ty))
 | .prim p,df,_=>by
  have e1:zq_ fx ver (.prim p) (dfTy df (.prim p))=fun r=>.ok ((js_ p).run r).1 ((js_ p).run r).2:=by funext r;simp only [zq_]
  have e2:jl_ fx ver (.prim p)=(js_ p).wr:=by funext v;simp only [jl_,zr_]
  rw [e1,e2]
  exact ⟨rw_pf _,fun _ r v r' h hb=>by injection h with h1 h2;exact pf_pos (Prod.ext h1 h2) hb⟩
 | .str nul,df,_=>by
  have e1:zq_ fx ver (.str nul) (dfTy df (.str nul))=fun r=>.ok ((strPF (zm_ nul ver) fx).run r).1 ((strPF (zm_ nul ver) fx).run r).2:=by funext r;simp only [zq_]
  have e2:jl_ fx ver (.str nul)=(strPF (zm_ nul ver) fx).wr:=by funext v;simp only [jl_,zr_]
  rw [e1,e2]
  exact ⟨rw_pf _,fun _ r v r' h hb=>by injection h with h1 h2;exact pf_pos (Prod.ext h1 h2) hb⟩
 | .bytes nul,df,h=>by
  have e1:zq_ fx ver (.bytes nul) (dfTy df (.bytes nul))=fun r=>.ok ((zh_ nul.isSome fx).run r).1 ((zh_ nul.isSome fx).run r).2:=by funext r;simp only [zq_,null_ok h]
  have e2:jl_ fx ver (.bytes nul)=(zh_ nul.isSome fx).wr:=by funext v;simp only [jl_,zr_]
  rw [e1,e2]
  exact ⟨rw_pf _,fun _ r v r' h hb=>by injection h with h1 h2;exact pf_pos (Prod.ext h1 h2) hb⟩
 | .list nul esz e,df,h=>by
  simp only [lawTy,Bool.and_eq_true,decide_eq_true_eq] at h
  obtain ⟨ih,ihp⟩:=law_ty fx ver e 0 h.2
  have:=rw_list (nul:=nul) (old:=dfTy df (.list nul esz e)) rfl h.1.1 ih (ihp h.1.2)
  exact ⟨this.1,fun _=>this.2⟩
 | .struct none toff fs,df,h=>by
  have hf:lawFds fx ver fs=true/\(!fs.tagged || (lastNum fs).isSome)=true:=by simpa only [lawTy,Bool.and_eq_true] using h
  obtain ⟨ih,ihp⟩:=law_fds fx ver fs hf.1
  have e2:jl_ fx ver (.struct none toff fs)=fun v=>wrFds fx ver fs v.fields++zy_ fx (wrTgd fx ver fs v.fields) v.tags:=by funext v;simp only [jl_]
  have e1:zq_ fx ver (.struct none toff fs) (dfTy df (.struct none toff fs))=jb_ fx fs.tagged (rdFds fx ver fs) (rdTag fx ver fs):=by funext r;simp only [zq_]
  have hrw:RW (jb_ fx fs.tagged (rdFds fx ver fs) (rdTag fx ver fs)) (fun v=>wrFds fx ver fs v.fields++zy_ fx (wrTgd fx ver fs v.fields) v.tags):=by
   cases ht:fs.tagged with
   | false=>
    have e3:(fun v:V=>wrFds fx ver fs v.fields++zy_ fx (wrTgd fx ver fs v.fields) v.tags)=fun v=>wrFds fx ver fs v.fields++jn_ fx v.tags:=by funext v;simp only [wrTgd_plain fx ver fs _ ht,wTail_nil]
    rw [e3]
    exact rw_st ih
   | true=>
    have hl:=hf.2
    rw [ht,Bool.not_true,Bool.false_or] at hl
    obtain ⟨x,hx⟩:=Option.isSome_iff_exists.1 hl
    exact rw_num hx ih
  rw [e1,e2]
  refine ⟨hrw,fun hp r v r' h hb=>?_⟩
  simp only [posTy,Bool.or_eq_true] at hp
  rw [List.length_append]
  rcases hp with rfl | hp
  ·have:0 < (zy_ true (wrTgd true ver fs v.fields) v.tags).length:=by
    simp only [zy_,if_true,List.length_append]
    have:=jr_ (w32 ((wrTgd true ver fs v.fields).length + v.tags.length));omega
   omega
  ·cases fx with
   | true=>
    have:0 < (zy_ true (wrTgd true ver fs v.fields) v.tags).length:=by
     simp only [zy_,if_true,List.length_append]
     have:=jr_ (w32 ((wrTgd true ver fs v.fields).length + v.tags.length));omega
    omega
   | false=>
    simp only [jb_] at h
    obtain ⟨vs,r1,h1,h2⟩:=jt_ h
    simp only [Bool.not_false,if_true,Out.ok.injEq] at h2
    obtain ⟨rfl,rfl⟩:=h2
    have:=ihp hp r vs r1 h1 hb
    simp only [V.fields]
    omega
 | .struct (some q) toff fs,df,h=>by
  have hf:lawFds fx ver fs=true/\(!fs.tagged)=true:=by simpa only [lawTy,Bool.and_eq_true] using h
  obtain ⟨ih,_⟩:=law_fds fx ver fs hf.1
  have ht:fs.tagged=false:=by simpa using hf.2
  have hst:=rw_st (fx:=fx) (tag:=rdTag fx ver fs) ih
  have e1:∀ r,zq_ fx ver (.struct (some q) toff fs) (dfTy df (.struct (some q) toff fs)) r=if (rI 1 r).1=-1 \/ (rI 1 r).2.bad=true then .ok .nul (rI 1 r).2 else jb_ fx false (rdFds fx ver fs) (rdTag fx ver fs) (rI 1 r).2:=fun r=>by
   simp only [zq_,dfTy,V.isNul,Bool.not_true,Bool.false_eq_true,if_false,ht]
  have ewn:jl_ fx ver (.struct (some q) toff fs) .nul=[255]:=by simp [jl_,V.isNul]
  have ews:∀ vs t,jl_ fx ver (.struct (some q) toff fs) (.st vs t)=1 :: (wrFds fx ver fs (V.st vs t).fields++jn_ fx (V.st vs t).tags):=fun vs t=>by simp [jl_,V.isNul,wrTgd_plain fx ver fs _ ht,wTail_nil]
  have sts:∀ r v r',jb_ fx false (rdFds fx ver fs) (rdTag fx ver fs) r=.ok v r'->∃ vs t,v=.st vs t:=fun r v r' h=>by
   simp only [jb_] at h
   obtain ⟨vs,r1,_,h2⟩:=jt_ h
   cases fx with
   | false=>simp only [Bool.not_false,if_true,Out.ok.injEq] at h2;exact ⟨_,_,h2.1.symm⟩
   | true=>simp only [Bool.not_true,Bool.false_eq_true,if_false,Out.ok.injEq] at h2;exact ⟨_,_,h2.1.symm⟩
  have pos:Pos (zq_ fx ver (.struct (some q) toff fs) (dfTy df (.struct (some q) toff fs))) (jl_ fx ver (.struct (some q) toff fs)):=fun r v r' h hb=>by
   rw [e1] at h
   split at h
   ·simp only [Out.ok.injEq] at h
    rw [<- h.1,ewn];simp
   ·obtain ⟨vs,t,rfl⟩:=sts _ _ _ h
    rw [ews];simp
  have hI:=fun r=>rI_spec 1 r
  have b255:∀ rest,rI 1 ⟨[255]++rest,false,false⟩=(-1,⟨rest,false,false⟩):=fun rest=>by
   have e:be 1 (-1)=[255]:=by decide
   rw [<- e]
   exact rI_be (k:=1) (x:=-1) (by omega) (by simp only [Nat.reduceMul,Nat.reduceSub,Int.reducePow];omega) rest false
  have b1:∀ rest,rI 1 ⟨1 :: rest,false,false⟩=(1,⟨rest,false,false⟩):=fun rest=>by
   have e:be 1 1=[1]:=by decide
   show rI 1 ⟨[1]++rest,false,false⟩=_
   rw [<- e]
   exact rI_be (k:=1) (x:=1) (by omega) (by simp only [Nat.reduceMul,Nat.reduceSub,Int.reducePow];omega) rest false
  refine ⟨⟨fun r v r' h hb=>?_,fun r v r' h=>?_,fun r v r' h hb=>?_,fun r v r' h hb rest nl hnl hbig=>?_,fun r hr h=>?_⟩,fun _=>pos⟩
  ·rw [e1] at h
   split at h
   ·simp only [Out.ok.injEq] at h
    obtain ⟨_,rfl⟩:=h
    exact ((hI r).2 hb).1
   ·exact ((hI r).2 (hst.bad _ _ _ h hb)).1
  ·rw [e1] at h
   split at h
   ·simp only [Out.ok.injEq] at h
    obtain ⟨_,rfl⟩:=h
    exact (hI r).1
   ·exact Nat.le_trans (hst.le _ _ _ h) (hI r).1
  ·rw [e1] at h
   split at h
   ·simp only [Out.ok.injEq] at h
    obtain ⟨rfl,rfl⟩:=h
    have:=((hI r).2 hb).2.1
    rw [ewn];simpa using this
   ·obtain ⟨vs,t,rfl⟩:=sts _ _ _ h
    have a:=hst.len _ _ _ h hb
    have b:=((hI r).2 (hst.bad _ _ _ h hb)).2.1
    rw [ews,List.length_cons]
    omega
  ·have hnlf:=nl_false hnl (pos r v r' h hb)
   subst hnlf
   rw [e1] at h
   split at h
   ·simp only [Out.ok.injEq] at h
    obtain ⟨rfl,rfl⟩:=h
    exact ⟨.nul,by rw [ewn,e1,b255,if_pos (.inl rfl)],rfl⟩
   ·obtain ⟨vs,t,rfl⟩:=sts _ _ _ h
    rw [ews,List.cons_append,List.length_cons] at hbig
    obtain ⟨v2,h2,h3⟩:=hst.again _ _ _ h hb rest false (by simp) (by omega)
    obtain ⟨vs2,t2,rfl⟩:=sts _ _ _ h2
    refine ⟨.st vs2 t2,?_,by rw [ews,ews,h3]⟩
    rw [ews,List.cons_append,e1,b1,if_neg (by simp)]
    exact h2
  ·rw [e1] at h
   split at h
   ·cases h
   ·exact hst.go _ (Nat.le_trans (hI r).1 hr) h
theorem law_fds (fx:Bool) (ver:Int):∀ (fs:Fds),lawFds fx ver fs=true->RW (rdFds fx ver fs) (wrFds fx ver fs)/\(posFds fx ver fs=true->∀ r vs r',rdFds fx ver fs r=.ok vs r'->r'.bad=false->0 < (wrFds fx ver fs vs).length)
 | .nil,_=>by
  have e1:rdFds fx ver .nil=fun r=>.ok [] r:=by funext r;simp only [rdFds]
  have e2:wrFds fx ver .nil=fun _=>[]:=by funext v;simp only [wrFds]
  rw [e1,e2]
  exact ⟨rw_end,fun hp=>by cases hp⟩
 | .cons lo hi tag df off ty rest',h=>by
  simp only [lawFds,Bool.and_eq_true] at h
  obtain ⟨ihr,ihrp⟩:=law_fds fx ver rest' h.2
  by_cases hh:(tag.isNone && has lo hi ver)=true
  ·have hty:lawTy fx ver ty=true:=by
    have:=h.1
    simp only [Bool.and_eq_true] at hh
    rw [Option.isNone_iff_eq_none.1 hh.1] at this
    simpa using this
   obtain ⟨iht,ihtp⟩:=law_ty fx ver ty df hty
   have e1:rdFds fx ver (.cons lo hi tag df off ty rest')=fun r=>(zq_ fx ver ty (dfTy df ty) r).bind fun v r=>(rdFds fx ver rest' r).bind fun vs r=>.ok (v :: vs) r:=by funext r;simp only [rdFds,hh,if_true]
   have e2:wrFds fx ver (.cons lo hi tag df off ty rest')=fun vs=>jl_ fx ver ty (vs.headD .nul)++wrFds fx ver rest' vs.tail:=by funext vs;simp only [wrFds,hh,if_true]
   rw [e1,e2]
   refine ⟨rw_cons iht ihr,fun hp r vs r' h hb=>?_⟩
   obtain ⟨v,r1,h1,h2⟩:=jt_ h
   obtain ⟨vs',r2,h3,h4⟩:=jt_ h2
   simp only [Out.ok.injEq] at h4
   obtain ⟨rfl,rfl⟩:=h4
   simp only [List.headD_cons,List.tail_cons,List.length_append]
   simp only [posFds,hh,Bool.true_and,Bool.or_eq_true] at hp
   rcases hp with hp | hp
   ·have:=ihtp hp _ _ _ h1 (ihr.bad _ _ _ h3 hb);omega
   ·have:=ihrp hp _ _ _ h3 hb;omega
  ·have hh':(tag.isNone && has lo hi ver)=false:=by simpa using hh
   have e1:rdFds fx ver (.cons lo hi tag df off ty rest')=fun r=>(rdFds fx ver rest' r).bind fun vs r=>.ok (dfTy df ty :: vs) r:=by funext r;simp only [rdFds,hh',Bool.false_eq_true,if_false]
   have e2:wrFds fx ver (.cons lo hi tag df off ty rest')=fun vs=>wrFds fx ver rest' vs.tail:=by funext vs;simp only [wrFds,hh',Bool.false_eq_true,if_false,List.nil_append]
   rw [e1,e2]
   refine ⟨rw_skip ihr,fun hp r vs r' h hb=>?_⟩
   obtain ⟨vs',r2,h3,h4⟩:=jt_ h
   simp only [Out.ok.injEq] at h4
   obtain ⟨rfl,rfl⟩:=h4
   simp only [posFds,hh',Bool.false_and,Bool.false_or] at hp
   exact ihrp hp _ _ _ h3 hb
end
def Fds.flen:Fds->Nat
 | .nil=>0
 | .cons _ _ none _ _ _ r=>r.flen + 1
 | .cons _ _ (some _) _ _ _ _=>0
section
variable {fx:Bool} {ver:Int} {t off esz:Nat} {e:Ty}
theorem tagRW_ls (hesz:esz<=10000) (he:RW (zq_ fx ver e (dfTy 0 e)) (jl_ fx ver e)) (hp:Pos (zq_ fx ver e (dfTy 0 e)) (jl_ fx ver e)):TagRW (rdLs fx ver esz e) (jl_ fx ver (.list none esz e)) .nul (fun v=>v.list.isEmpty):=by
 have hrw:=(rw_list (fx:=fx) (ver:=ver) (nul:=none) (esz:=esz) (old:=.nul) rfl hesz he hp).1
 have e0:∀ r,rdLs fx ver esz e .nul r=zq_ fx ver (.list none esz e) .nul r:=fun r=>by
  simp only [rdLs,zq_,V.isNul,Bool.not_true,Bool.false_eq_true,if_false,if_true,Option.isSome_none,Bool.false_and]
 have ew:∀ v,jl_ fx ver (.list none esz e) v=wCnt fx v.list.length++wMany (jl_ fx ver e) v.list:=fun v=>by simp [jl_,zm_]
 have key:∀ old r v r',rdLs fx ver esz e old r=.ok v r'->∃ v0,zq_ fx ver (.list none esz e) .nul r=.ok v0 r'/\(v0=v \/ (v=.l []/\v0=.nul))/\(v.list.isEmpty=false->∃ vs,v=.l vs/\xb_ (zq_ fx ver e (dfTy 0 e)) (j0_ fx r).1.toNat (j0_ fx r).2=.ok vs r'/\0 < (j0_ fx r).1/\(j0_ fx r).2.bad=false):=by
  intro old r v r' h
  rw [<- e0]
  simp only [rdLs] at h ⊢
  split at h
  ·cases h
  ·rename_i hb
   rw [if_neg hb]
   split at h
   ·cases h
   ·rename_i hr
    rw [if_neg hr]
    split at h
    ·rename_i hL
     rw [if_pos hL]
     simp only [Out.ok.injEq] at h
     obtain ⟨rfl,rfl⟩:=h
     refine ⟨_,rfl,?_,fun h=>?_⟩
     ·cases old.isNul with
      | true=>exact .inl rfl
      | false=>exact .inr ⟨rfl,rfl⟩
     ·cases ho:old.isNul <;> rw [ho] at h <;> cases h
    ·rename_i hL
     rw [if_neg hL]
     obtain ⟨vs,r1,h1,h2⟩:=jt_ h
     simp only [Out.ok.injEq] at h2
     obtain ⟨rfl,rfl⟩:=h2
     exact ⟨_,h,.inl rfl,fun _=>⟨vs,rfl,h1,by omega,by simpa using hb⟩⟩
 refine ⟨fun old r v r' h hb=>?_,fun old r v r' h hb hD hbig=>?_,rfl,fun old r hr h=>?_⟩
 ·obtain ⟨v0,h0,hv,_⟩:=key _ _ _ _ h
  have:=hrw.len _ _ _ h0 hb
  have e:jl_ fx ver (.list none esz e) v0=jl_ fx ver (.list none esz e) v:=by
   rcases hv with rfl | ⟨rfl,rfl⟩
   ·rfl
   ·rw [ew,ew];rfl
  rw [e] at this
  omega
 ·obtain ⟨_,_,_,hvs⟩:=key _ _ _ _ h
  obtain ⟨vs,rfl,h1,hL,hb1⟩:=hvs hD
  have hlt:=rLen_lt fx r
  obtain ⟨hlen,hge⟩:=(rw_many he hp _).2 _ _ _ h1
  have hge':=hge hb
  have ewl:∀ us,jl_ fx ver (.list none esz e) (.l us)=wCnt fx us.length++wMany (jl_ fx ver e) us:=fun us=>by rw [ew];rfl
  rw [ewl,List.length_append] at hbig
  obtain ⟨vs2,h2,h3⟩:=(rw_many he hp _).1.again _ _ _ h1 hb [] false (by simp) (by simpa using by omega)
  have hlen2:=((rw_many he hp _).2 _ _ _ h2).1
  rw [List.append_nil] at h2
  have hroom:roomy ((vs.length:Nat):Int) esz=true:=by
   simp only [roomy,decide_eq_true_eq]
   simp only [BIG] at hbig
   have h1:(24 * (esz:Int) + 8)<=240008:=by omega
   have h2:((vs.length:Nat):Int) * (24 * (esz:Int) + 8)<=33554432 * 240008:=Int.mul_le_mul (by omega) h1 (by omega) (by omega)
   omega
  refine ⟨.l vs2,?_,by rw [ewl,ewl,h3,hlen,hlen2],?_⟩
  ·have hc:=rLen_cnt fx (n:=vs.length) (by omega) (wMany (jl_ fx ver e) vs) (by omega)
   simp only [rdLs]
   rw [ewl,hc]
   simp only [Bool.false_eq_true,if_false,hroom,Bool.not_true]
   rw [if_neg (by omega)]
   simp only [Int.toNat_natCast]
   rw [hlen,h2]
   rfl
  ·cases vs2 with
   | nil=>simp at hlen2;omega
   | cons _ _=>rfl
 ·have hs:zq_ fx ver (.list none esz e) .nul r=.stuck:=by
   rw [<- e0]
   simp only [rdLs] at h ⊢
   split at h
   ·cases h
   ·rename_i hb
    rw [if_neg hb]
    split at h
    ·rename_i hr
     rw [if_pos hr]
    ·rename_i hr
     rw [if_neg hr]
     split at h
     ·cases h
     ·rename_i hL
      rw [if_neg hL]
      exact h
  exact hrw.go _ hr hs
theorem lst_law {fs:Fds} (h:fs.lst=some (t,off,esz,e)):(∀ r vs r',rdFds fx ver fs r=.ok vs r'->∃ us,vs=us++[.nul]/\us.length=fs.flen)/\(∀ us u u',us.length=fs.flen->wrFds fx ver fs (us++[u])=wrFds fx ver fs (us++[u'])) /\
  ∀ us u,us.length=fs.flen->wrTgd fx ver fs (us++[u])=tgOne t (jl_ fx ver (.list none esz e)) (fun v=>v.list.isEmpty) u:=
 lst_ind (M:=fun fs=>(∀ r vs r',rdFds fx ver fs r=.ok vs r'->∃ us,vs=us++[.nul]/\us.length=fs.flen)/\(∀ us u u',us.length=fs.flen->wrFds fx ver fs (us++[u])=wrFds fx ver fs (us++[u'])) /\
   ∀ us u,us.length=fs.flen->wrTgd fx ver fs (us++[u])=tgOne t (jl_ fx ver (.list none esz e)) (fun v=>v.list.isEmpty) u)
  (fun lo hi df=>by
   refine ⟨fun r vs r' h=>?_,fun us u u' hu=>?_,fun us u hu=>?_⟩
   ·simp only [rdFds,Option.isNone_some,Bool.false_and,Bool.false_eq_true,if_false,Out.bind,dfTy,Out.ok.injEq] at h
    exact ⟨[],h.1.symm,rfl⟩
   ·simp only [wrFds,Option.isNone_some,Bool.false_and,Bool.false_eq_true,if_false]
   ·obtain rfl:us=[]:=List.eq_nil_of_length_eq_zero hu
    simp only [wrTgd,List.nil_append,List.headD_cons,List.append_nil,tgOne,isDf]
    rfl)
  (fun lo hi df o ty r0 _ ih=>by
   obtain ⟨i1,i2,i3⟩:=ih
   refine ⟨fun r vs r' h=>?_,fun us u u' hu=>?_,fun us u hu=>?_⟩
   ·simp only [rdFds] at h
    split at h
    ·obtain ⟨v,r1,h1,h2⟩:=jt_ h
     obtain ⟨vs',r2,h3,h4⟩:=jt_ h2
     simp only [Out.ok.injEq] at h4
     obtain ⟨rfl,rfl⟩:=h4
     obtain ⟨us,rfl,hu⟩:=i1 _ _ _ h3
     exact ⟨v :: us,rfl,by simp [Fds.flen,hu]⟩
    ·obtain ⟨vs',r2,h3,h4⟩:=jt_ h
     simp only [Out.ok.injEq] at h4
     obtain ⟨rfl,rfl⟩:=h4
     obtain ⟨us,rfl,hu⟩:=i1 _ _ _ h3
     exact ⟨_ :: us,rfl,by simp [Fds.flen,hu]⟩
   ·cases us with
    | nil=>simp [Fds.flen] at hu
    | cons x us=>
     have hu':us.length=r0.flen:=by simpa [Fds.flen] using hu
     simp only [wrFds,List.cons_append,List.headD_cons,List.tail_cons]
     rw [i2 us u u' hu']
   ·cases us with
    | nil=>simp [Fds.flen] at hu
    | cons x us=>
     have hu':us.length=r0.flen:=by simpa [Fds.flen] using hu
     simp only [wrTgd,List.cons_append,List.tail_cons,List.nil_append]
     exact i3 us u hu') fs h
theorem rw_last {fs:Fds} (h:fs.lst=some (t,off,esz,e)) (ht:t < 4294967296) (hesz:esz<=10000) (he:RW (zq_ fx ver e (dfTy 0 e)) (jl_ fx ver e)) (hp:Pos (zq_ fx ver e (dfTy 0 e)) (jl_ fx ver e)) (hf:RW (rdFds fx ver fs) (wrFds fx ver fs)) :
  RW (jb_ fx true (rdFds fx ver fs) (rdTagL fx ver t esz e)) (fun v=>wrFds fx ver fs v.fields++zy_ fx (wrTgd fx ver fs v.fields) v.tags):=by
 obtain ⟨l1,l2,l3⟩:=lst_law (fx:=fx) (ver:=ver) h
 refine rw_stT (k:=t) (G:=fun vs=>∃ us u,vs=us++[u]/\us.length=fs.flen) (get:=fun vs=>vs.getLastD .nul) (set:=fun vs v=>vs.dropLast++[v]) (f:=rdLs fx ver esz e) ht ⟨⟨_,if_pos rfl,fun _ _ _=>rfl⟩,fun j hj=>if_neg hj,fun vs v=>?_,fun vs u v=>?_,fun vs v hG=>?_⟩ (tagRW_ls hesz he hp) hf (fun r vs r' h=>?_) (fun vs u hG=>?_) fun vs hG=>?_
 ·simp only [List.getLastD_concat]
 ·simp only [List.dropLast_concat]
 ·obtain ⟨us,u,rfl,hu⟩:=hG
  exact ⟨us,v,by simp only [List.dropLast_concat],hu⟩
 ·obtain ⟨us,rfl,hu⟩:=l1 _ _ _ h
  exact ⟨⟨us,_,rfl,hu⟩,by simp only [List.getLastD_concat]⟩
 ·obtain ⟨us,u',rfl,hu⟩:=hG
  simp only [List.dropLast_concat]
  exact l2 us _ _ hu
 ·obtain ⟨us,u',rfl,hu⟩:=hG
  simp only [List.getLastD_concat]
  exact l3 us _ hu
end
end Go.Proofs.YtlmanancakaapaaGreatDoor.Kx
