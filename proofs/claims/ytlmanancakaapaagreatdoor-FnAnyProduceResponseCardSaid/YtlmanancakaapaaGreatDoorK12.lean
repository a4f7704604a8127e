/-
  PLAIN LAWS AND CONTRACTS of messages, part 12 of 15: how readers and writers are printed, what they do, what the reference writes, and that what is written is read as the same. Nothing of a statement stands here.
-/
import Derived.Test.YtlmanancakaapaaGreatDoorK1
import Derived.Test.YtlmanancakaapaaGreatDoorK3
import Derived.Test.YtlmanancakaapaaGreatDoorK4
import Derived.Test.YtlmanancakaapaaGreatDoorK7
import Derived.Test.YtlmanancakaapaaGreatDoorK9
import Derived.Test.YtlmanancakaapaaGreatDoorK10
import Derived.Test.YtlmanancakaapaaGreatDoorK11
import Derived.Laws.MakeOwn
import Derived.Maps.RangeRun

namespace Go.Proofs.YtlmanancakaapaaGreatDoor.Kx
open Go
section
variable {P:Program} {g:GW} {av:PF->Bool} {fl nl:Bool} {te:Nat}
theorem callsA (hm:P.follows .mixedOrders=true) {f ntmps:Nat} {res:List Nat} {c:Code} {w:World} {RR:Ending->World->Prop} (hfn:FnIs P f ntmps res c) (hl:res.length<=2) (args:List Value) (hnt:args.length<=ntmps)
  (h:∀ a,(∀ i v,args[i]?=some v->a.get i=v)->a.tmps.size=ntmps->a.defers=[]->NWP P c (Rt (fun a' w'=>a'.defers=[]/\RR (.returned (zl_ res a')) w') (fun a' w'=>a'.defers=[]/\RR (.returned (zl_ res a')) w')) a w):Calls P f args.toArray w RR:=by
 refine hfn.calls hm hl ?_
 refine h _ (fun i v hi=>?_) (jo_ args.toArray ntmps (by simpa using hnt)) rfl
 have hlt:i < args.length:=(List.getElem?_eq_some_iff.1 hi).1
 rw [ja_ _ _ _ (by simpa using hlt)]
 have:=(List.getElem?_eq_some_iff.1 hi).2
 simpa using this
def topMW (cx:Cx) (v6:Nat):Nat:=max (max cx.ver cx.fx) (max v6 4) + 1
def topOkW (e:EvW) (kept:Bool) (cx:Cx) (fs:Fds) (T kt:Nat) (toff:Option Nat) (v6 n0 ntmps:Nat) (nm:Nm) (used:Nat):Bool:=
 decide (cx.s=0/\4 < cx.ver/\(cx.hf=true->4 < cx.fx/\cx.fx ≠ cx.ver)/\(cx.hf=false->cx.fx=0)/\(kept=true->4 < v6/\v6 ≠ cx.ver/\v6 ≠ cx.fx)/\topMW cx v6<=n0) && decide (used<=ntmps) && fldB e.P T 0 e.g.tVer 0 false 1 && (!kept || e.av .i16) &&
 okTailW e cx.hf (topMW cx v6) n0 T kt toff fs nm (okTagdW e cx.hf (nm.n 2 + 1) n0 T fs nm.s) && okFdsW e cx.hf (topMW cx v6) n0 T fs nm.s
def topUsedW (g:GW) (kept:Bool) (cx:Cx) (fs:Fds) (T kt flex v6 n0:Nat) (nm:Nm):Nat:=(gL (gwHead g kept cx T flex v6++(gwFds g cx fs nm.s++jj_ g cx fs T kt nm++gwEnd)) n0).2
theorem write_fn (K0:KW P g av fl nl te) {f ntmps:Nat} {kept:Bool} {cx:Cx} {fs:Fds} {T kt flex v6 n0:Nat} {toff:Option Nat} {nm:Nm} (hfl:cx.hf=true->fl=true) (hfn:FnIs P f ntmps [4] (gWrite g kept cx fs T kt flex v6 n0 nm))
  (hchk:topOkW ⟨P,g,av,nl⟩ kept cx fs T kt toff v6 n0 ntmps nm (topUsedW g kept cx fs T kt flex v6 n0 nm)=true) {w:World} {B:Nat} {ver:Int} {vs:List V} {t:List (Nat × Bs)} (hver:-32768<=ver/\ver < 32768) (hB:B < w.heap.size) (hcell:w.cell? ⟨B,0,none⟩=some (.int .i16 ver))
  (hr:RpF w (fun k=>w.heap.size<=k) fs B 0 vs) (ht:TgAt w (fun k=>w.heap.size<=k) B 0 toff t) (hlim:(wrMsg kept cx.hf flex fs ver (.st vs t)).length<=LIM) :
  Calls P f #[pt B 0,nilS] w fun e w'=>∃ d',e=.returned d'/\jh_ w' w.heap.size te d' (wrMsg kept cx.hf flex fs ver (.st vs t))/\Keeps (fun _=>False) w w':=by
 simp only [topOkW,Bool.and_eq_true,Bool.or_eq_true,Bool.not_eq_true',decide_eq_true_eq] at hchk
 obtain ⟨⟨⟨⟨⟨⟨hs0,hv4,hfx4,hfx0,hkept,hM⟩,hused⟩,hfld⟩,hi16⟩,hst⟩,hokf⟩:=hchk
 have hmw:cx.ver < topMW cx v6/\cx.fx < topMW cx v6/\v6 < topMW cx v6/\4 < topMW cx v6:=by simp only [topMW];omega
 refine callsA K0.mixed hfn (by simp) [pt B 0,nilS] ?_ fun a harg hs hd=>?_
 ·simp only [List.length_cons,List.length_nil]
  have:n0<=topUsedW g kept cx fs T kt flex v6 n0 nm:=by
   refine ql_ ?_ (ql_ (ql_ (upL_wfds g fs cx nm.s) (upL_tailW g cx fs T kt nm)) (qe_ (qi_ _ _) (qe_ (q7_ _) qk_))) n0
   exact ql_ (ql_ (qe_ (qi_ _ _) (qe_ (qi_ _ _) (qe_ (qi_ _ _) qk_))) (zt_ (qe_ (qi_ _ _) (qe_ (qi_ _ _) qk_)) qk_)) (zt_ (qe_ (up_S (qe_ (qi_ _ _) (qe_ (qi_ _ _) qk_))) qk_) qk_)
  omega
 have h0:=harg 0 _ rfl
 have h1:=harg 1 _ rfl
 have hF:=fldB_ok hfld
 have hdst:jh_ w w.heap.size te nilS []:=jh_.nil _ _ _
 have fields:∀ (n:Nat) (a1:Act) (w1:World) (d1:Value) (bs1:Bs),n0<=n->bs1=(if kept then be 2 ver else [])->a1.tmps.size=ntmps->a1.defers=[]->a1.get 0=pt B 0->a1.get cx.ver=.int .i16 ver->(cx.hf=true->a1.get cx.fx=.bool (decide ((flex:Int)<=ver)))->a1.get 1=d1->Gr w.heap.size te nilS w d1 bs1 w1 ->
   (gL (gwFds g cx fs nm.s++jj_ g cx fs T kt nm++gwEnd) n).2<=ntmps ->
   LW P (gwFds g cx fs nm.s++jj_ g cx fs T kt nm++gwEnd) n (Rt (fun a' w'=>a'.defers=[]/\∃ d',.returned (zl_ [4] a')=Ending.returned d'/\jh_ w' w.heap.size te d' (wrMsg kept cx.hf flex fs ver (.st vs t))/\Keeps (fun _=>False) w w') (fun a' w'=>a'.defers=[]/\∃ d',.returned (zl_ [4] a')=Ending.returned d'/\jh_ w' w.heap.size te d' (wrMsg kept cx.hf flex fs ver (.st vs t))/\Keeps (fun _=>False) w w')) a1 w1:=by
  intro n a1 w1 d1 bs1 hn hbs hsz hdf hg0 hgv hgf hg1 hgr hused
  rw [qx_] at hused
  have hu1:(gL (gwFds g cx fs nm.s++jj_ g cx fs T kt nm) n).2 + 1<=ntmps:=hused
  have hfar:=Gr.far hdst hgr
  have hwc:WC cx (cx.hf && decide ((flex:Int)<=ver)) ver te w.heap.size B 0 d1 bs1 a1 w1:=
   ⟨hgr.dst,hg1,by rw [hs0];exact hg0,hgv,fun hf=>by rw [hgf hf,hf];rfl,fun hf=>by rw [hf];rfl,hB,hgr.keeps.size⟩
  have hcw:CxW cx (topMW cx v6) n0:=⟨⟨by omega,by omega⟩,⟨hmw.1,by omega⟩,⟨hmw.2.1,by
   cases hh:cx.hf with
   | true=>have:=hfx4 hh;omega
   | false=>rw [hfx0 hh];omega⟩,by omega,hM⟩
  have hmsg:wrMsg kept cx.hf flex fs ver (.st vs t)=bs1++(wrFds (cx.hf && decide ((flex:Int)<=ver)) ver fs vs++zy_ (cx.hf && decide ((flex:Int)<=ver)) (wrTgd (cx.hf && decide ((flex:Int)<=ver)) ver fs vs) t):=by
   simp only [wrMsg,V.fields,V.tags,hbs]
  have hup:=ql_ (upL_wfds g fs cx nm.s) (upL_tailW g cx fs T kt nm) n
  refine z5_ ?_
  rw [qr_]
  refine w_st (wr_fds K0 fs) (wr_tail K0 fs) hst hokf hwc hcw hfl hn (by omega) (by omega) (hr.far hfar hB (Nat.le_refl _)) (ht.far hfar hB (Nat.le_refl _)) (by rw [<- List.length_append,<- hmsg];exact hlim) fun a2 w2 d2 hp2 hg2 hgr2=>?_
  have hs2:=hp2.size
  refine qc_ (qj_ (qd_ (qg_ (wpList_nil (qc_ (.ret ⟨?_,d2,?_,?_,?_⟩))))))
  ·simp only [qf_];rw [hp2.defers];exact hdf
  ·show Ending.returned (Act.get _ 4)=_
   rw [gpe (by simp only [qa_];omega),qb_,gpe (by omega),qb_,hg2]
  ·rw [hmsg];exact hgr2.dst
  ·exact (hgr.trans hgr2).keeps.mono fun k _ hk=>by simp [Value.ownBlock,nilS] at hk
 have kpt:∀ (n:Nat) (a1:Act),n0<=n->a1.tmps.size=ntmps->a1.defers=[]->a1.get 0=pt B 0->a1.get cx.ver=.int .i16 ver->(cx.hf=true->a1.get cx.fx=.bool (decide ((flex:Int)<=ver)))->a1.get 1=nilS ->
   (gL ((if kept then [gS [zg_ 0 v6 T 0 g.tVer,jm_ (g.ap .i16) v6]] else [])++(gwFds g cx fs nm.s++jj_ g cx fs T kt nm++gwEnd)) n).2<=ntmps ->
   LW P ((if kept then [gS [zg_ 0 v6 T 0 g.tVer,jm_ (g.ap .i16) v6]] else [])++(gwFds g cx fs nm.s++jj_ g cx fs T kt nm++gwEnd)) n (Rt (fun a' w'=>a'.defers=[]/\∃ d',.returned (zl_ [4] a')=Ending.returned d'/\jh_ w' w.heap.size te d' (wrMsg kept cx.hf flex fs ver (.st vs t))/\Keeps (fun _=>False) w w') (fun a' w'=>a'.defers=[]/\∃ d',.returned (zl_ [4] a')=Ending.returned d'/\jh_ w' w.heap.size te d' (wrMsg kept cx.hf flex fs ver (.st vs t))/\Keeps (fun _=>False) w w')) a1 w:=by
  intro n a1 hn hsz hdf hg0 hgv hgf hg1 hused
  have hupF:=ql_ (ql_ (upL_wfds g fs cx nm.s) (upL_tailW g cx fs T kt nm)) (qe_ (qi_ 1 fun n=>[mk (some n) (.move (tm 1)),mk (some 4) (.assign (tm n))]) (qe_ (q7_ .ret) qk_))
  by_cases hk:kept=true
  ·obtain ⟨h64,h6v,h6f⟩:=hkept hk
   rw [if_pos hk] at hused ⊢
   have hav:av .i16=true:=by rcases hi16 with h | h;rw [hk] at h;cases h;exact h
   have hu1:(gL (gwFds g cx fs nm.s++jj_ g cx fs T kt nm++gwEnd) (n + 4 + 3)).2<=ntmps:=hused
   have:=hupF (n + 4 + 3)
   have hn7:n + 4 + 3<=ntmps:=Nat.le_trans this hu1
   refine qc_ ?_
   rw [qr_]
   refine q2_ (qc_ (s_load (x:=v6) (m:=n0) (k0:=n0) (off:=0) hg0 hF (by rw [Nat.zero_add];exact hcell) (.inl rfl) (Nat.le_refl _) hn (by omega) (by omega) fun a2 hp2 hg2=>?_))
   have hs2:=hp2.size
   refine qc_ (s_wapp (m:=n0) (k0:=n0) (L:=w.heap.size) (bs:=[]) (enc:=PF.wr .i16 (.n ver)) (K0.apE .i16 hav) (K0.apC .i16 hav w w.heap.size [.int .i16 ver] (.int .i16 ver) (.n ver) ⟨ver,rfl,rfl,hver⟩ rfl) (by rw [hp2.get 1 (by omega) (.inl (by omega))];exact hg1) hg2 (by show v6 < n + 4;omega) hdst (Nat.le_refl _) ?_ (Nat.le_refl _) (by show n0<=n + 4;omega) (by show 1 < n + 4;omega) (by show n + 4 + 3<=_;omega) fun a3 w3 d3 hp3 hg3 hgr3=>?_)
   ·have:(PF.wr .i16 (.n ver)).length=2:=by simp [PF.wr,be]
    rw [this];decide
   have hp:∀ s,s < n0->s ≠ v6->s ≠ 1->a3.get s=a1.get s:=fun s hs hs6 hs1=>by rw [hp3.get s hs1 (.inl hs),hp2.get s hs6 (.inl hs)]
   refine q0_ (fields (n + 4 + 3) a3 w3 d3 _ (by omega) (by rw [if_pos hk];rfl) (by rw [hp3.size,hs2];exact hsz) (by rw [hp3.defers,hp2.defers];exact hdf) (by rw [hp 0 (by omega) (by omega) (by omega)];exact hg0) (by rw [hp cx.ver (by omega) (by omega) (by omega)];exact hgv)
    (fun hf=>by have:=hfx4 hf;rw [hp cx.fx (by omega) (by omega) (by omega)];exact hgf hf) hg3 hgr3 hu1)
  ·rw [if_neg hk] at hused ⊢
   exact fields n a1 w nilS [] hn (by rw [if_neg hk]) hsz hdf hg0 hgv hgf hg1 (Gr.refl hdst) hused
 have hused':(gL (gwHead g kept cx T flex v6++(gwFds g cx fs nm.s++jj_ g cx fs T kt nm++gwEnd)) n0).2<=ntmps:=hused
 unfold gWrite
 refine q2_ ?_
 have e1:gwHead g kept cx T flex v6++(gwFds g cx fs nm.s++jj_ g cx fs T kt nm++gwEnd)=ji_ 4 (.slice none 0 0) :: zg_ 0 cx.ver T 0 g.tVer :: qu_ 1 (fun n=>[mk (some n) (.move (tm cx.ver))]) ::
   ((if cx.hf then [qu_ 2 fun n=>[mk (some n) (.move (tm cx.ver)),mk (some (n + 1)) (.binOp .geq g.tVer (tm n) (ki .i16 flex) 0),mk (some cx.fx) (.assign (tm (n + 1)))],qu_ 1 fun n=>[mk (some n) (.move (tm cx.fx))]] else []) ++
    ((if kept then [gS [zg_ 0 v6 T 0 g.tVer,jm_ (g.ap .i16) v6]] else [])++(gwFds g cx fs nm.s++jj_ g cx fs T kt nm++gwEnd))):=by
  simp only [gwHead,List.cons_append,List.nil_append,List.append_assoc]
 rw [e1] at hused' ⊢
 have hu0:(gL ((if cx.hf then [qu_ 2 fun n=>[mk (some n) (.move (tm cx.ver)),mk (some (n + 1)) (.binOp .geq g.tVer (tm n) (ki .i16 flex) 0),mk (some cx.fx) (.assign (tm (n + 1)))],qu_ 1 fun n=>[mk (some n) (.move (tm cx.fx))]] else []) ++
    ((if kept then [gS [zg_ 0 v6 T 0 g.tVer,jm_ (g.ap .i16) v6]] else [])++(gwFds g cx fs nm.s++jj_ g cx fs T kt nm++gwEnd))) (n0 + 4 + 1)).2<=ntmps:=hused'
 have hupAll:UpL ((if kept then [gS [zg_ 0 v6 T 0 g.tVer,jm_ (g.ap .i16) v6]] else [])++(gwFds g cx fs nm.s++jj_ g cx fs T kt nm++gwEnd)):=
  ql_ (zt_ (qe_ (up_S (qe_ (qi_ _ _) (qe_ (qi_ _ _) qk_))) qk_) qk_) (ql_ (ql_ (upL_wfds g fs cx nm.s) (upL_tailW g cx fs T kt nm)) (qe_ (qi_ _ _) (qe_ (q7_ _) qk_)))
 have hn5:n0 + 4 + 1<=ntmps:=Nat.le_trans (ql_ (zt_ (qe_ (qi_ _ _) (qe_ (qi_ _ _) qk_)) qk_) hupAll _) hu0
 refine qc_ (xa_ (x:=4) (m:=0) (k0:=0) (.inl rfl) (by omega) fun a1 hp1 _=>?_)
 have hs1:=hp1.size
 refine qc_ (s_load (x:=cx.ver) (m:=n0) (k0:=n0) (off:=0) (by rw [hp1.get 0 (by omega) (.inr (by omega))];exact h0) hF (by rw [Nat.zero_add];exact hcell) (.inl rfl) (Nat.le_refl _) (by show n0<=n0 + 0;omega) (by show n0 + 0 + 4<=_;omega) (by omega) fun a2 hp2 hg2=>?_)
 have hs2:=hp2.size
 refine qc_ (qj_ (qd_ (wpList_nil ?_)))
 have hb:∀ s,s < n0->s ≠ 4->s ≠ cx.ver->(a2.put (some (n0 + 0 + 4)) (a2.eval (tm cx.ver))).get s=a.get s:=fun s hs hs4 hsv=>by
  rw [gpo (by omega),hp2.get s hsv (.inl hs),hp1.get s hs4 (.inr ⟨by omega,by omega⟩)]
 have hbv:(a2.put (some (n0 + 0 + 4)) (a2.eval (tm cx.ver))).get cx.ver=.int .i16 ver:=by rw [gpo (by omega)];exact hg2
 have hbs:(a2.put (some (n0 + 0 + 4)) (a2.eval (tm cx.ver))).tmps.size=ntmps:=by rw [qa_,hs2,hs1];exact hs
 have hbd:(a2.put (some (n0 + 0 + 4)) (a2.eval (tm cx.ver))).defers=[]:=by rw [qf_,hp2.defers,hp1.defers];exact hd
 show LW P _ (n0 + 0 + 4 + 1) _ (a2.put (some (n0 + 0 + 4)) (a2.eval (tm cx.ver))) w
 generalize a2.put (some (n0 + 0 + 4)) (a2.eval (tm cx.ver))=a3 at hb hbv hbs hbd ⊢
 by_cases hf:cx.hf=true
 ·obtain ⟨hf4,hfv⟩:=hfx4 hf
  rw [if_pos hf] at hu0 ⊢
  have hu1:(gL ((if kept then [gS [zg_ 0 v6 T 0 g.tVer,jm_ (g.ap .i16) v6]] else [])++(gwFds g cx fs nm.s++jj_ g cx fs T kt nm++gwEnd)) (n0 + 4 + 1 + 2 + 1)).2<=ntmps:=hu0
  have hn8:=Nat.le_trans (hupAll _) hu1
  refine qc_ (qj_ (qd_ ?_))
  rw [qb_,hbv]
  refine q9_ (b:=decide ((flex:Int)<=ver)) (p:=ver) (q:=flex) (k:=.i16) (by rw [qb_,gpe (by omega)]) rfl (.inl ⟨rfl,rfl⟩) (qg_ (wpList_nil ?_))
  rw [qb_,gpe (by simp only [qa_];omega)]
  refine qc_ (qj_ (qd_ (wpList_nil ?_)))
  refine kpt (n0 + 4 + 1 + 2 + 1) _ (by omega) (by simp only [qa_];exact hbs) (by simp only [qf_];exact hbd) ?_ ?_ (fun _=>?_) ?_ hu1
  ·rw [gpo (by show (0:Nat) ≠ n0 + 0 + 4 + 1 + 2;omega),gpo (by omega),gpo (by omega),gpo (by omega),hb 0 (by omega) (by omega) (by omega)];exact h0
  ·rw [gpo (by show cx.ver ≠ n0 + 0 + 4 + 1 + 2;omega),gpo (by omega),gpo (by omega),gpo (by omega)];exact hbv
  ·rw [gpo (by show cx.fx ≠ n0 + 0 + 4 + 1 + 2;omega),gpe (by simp only [qa_];omega)]
  ·rw [gpo (by show (1:Nat) ≠ n0 + 0 + 4 + 1 + 2;omega),gpo (by omega),gpo (by omega),gpo (by omega),hb 1 (by omega) (by omega) (by omega)];exact h1
 ·rw [if_neg hf] at hu0 ⊢
  exact kpt (n0 + 4 + 1) a3 (by omega) hbs hbd ((hb 0 (by omega) (by omega) (by omega)).trans h0) hbv (fun h=>absurd h hf) ((hb 1 (by omega) (by omega) (by omega)).trans h1) hu0
end
section
variable {P:Program}
theorem zd_ (t:Nat) (a:Act):zl_ [t] a=a.get t:=rfl
theorem wl_extract {ops:Array Oper} {Q:Exit->Act->World->Prop} {r:List Oper} {a:Act} {w:World} {d:Option Nat} {x:Operand} {i:Nat} {vs:Array Value} {v:Value} (hx:a.eval x=.tuple vs) (hv:vs[i]?=some v) (h:wpList P ops Q r (a.put d v) w):wpList P ops Q (mk d (.extract x i) :: r) a w:=by
 refine qn_ ?_ h
 simp [execOp,mk,hx,Instr.extract,hv]
theorem wl_neErr {ops:Array Oper} {Q:Exit->Act->World->Prop} {r:List Oper} {a:Act} {w:World} {d:Option Nat} {x:Operand} {T:Nat} {ms:Array (String × TypeId)} {v:Value} {b:Bool} (hT:P.underlying T=some (.interface ms)) (hx:a.eval x=v) (hv:(v=.nilIface/\b=false) \/ ((∃ t y,v=.iface t y)/\b=true))
  (h:wpList P ops Q r (a.put d (.bool b)) w):wpList P ops Q (mk d (.binOp .neq T x (.const .nilIface) 0) :: r) a w:=by
 refine qn_ ?_ h
 have e2:a.eval (.const .nilIface)=.nilIface:=rfl
 have he:(eqGuard .neq T x (.const .nilIface) v .nilIface).run P w=.ok () w:=by
  rcases hv with ⟨rfl,_⟩ | ⟨⟨t,y,rfl⟩,_⟩ <;> simp [eqGuard]
 simp [execOp,mk,hx,e2,he,run_neNil hT hv w]
theorem newPtr_calls (hm:P.follows .mixedOrders=true) {f nt T fD:Nat} {zv:Value} {wr:List (Nat × Value)} (hfn:FnIs P f nt [0] (cNewPtr T fD)) (hnt:3<=nt) (hz:zeroOf P T=some zv) (hE:Ent P fD) (hD:DfC P fD wr) (hwr:∀ p ∈ wr,p.1 < zv.cells.size) (w:World) :
  Calls P f #[] w fun e w'=>e=.returned (pt w.heap.size 0)/\Keeps (fun _=>False) w w'/\w'.heap[w.heap.size]?=some (.cells (applyWr zv.cells 0 wr) T (0,0)):=by
 refine callsA hm hfn (by simp) [] (by simp) fun a _ hs hd=>?_
 unfold cNewPtr
 refine qh_ (qj_ (qg_ (wpList_nil ?_)))
 refine qh_ (qj_ (zp_ (zeroOf_ok hz w) (wpList_nil ?_)))
 have hb:(w.alloc (.cells zv.cells T (0,0))).heap[w.heap.size]?=some (.cells zv.cells T (0,0)):=qs_ _ _
 refine qh_ (qj_ (qv_ (vs:=#[pt w.heap.size 0]) hE ?_ (hD _ w.heap.size 0 zv.cells T hb (fun p hp=>by simpa using hwr p hp)) fun e w' hR=>⟨_,hR.1,wpList_nil ?_⟩))
 ·simp only [List.map_cons,List.map_nil,qb_]
  rw [gpe (by simp only [qa_];omega)]
  rfl
 refine qh_ (qj_ (qg_ (wpList_nil (qh_ (.ret ⟨?_,?_,?_,hR.2.2⟩)))))
 ·simp only [qf_];exact hd
 ·rw [zd_,gpe (by simp only [qa_];omega),qb_,gpo (by omega),gpe (by simp only [qa_];omega)]
  rfl
 ·have hk:Keeps (fun k=>w.heap.size<=k) w w':=(Keeps.alloc _ _ _).trans (hR.2.1.mono fun k _ hk=>by omega)
  exact hk.mono fun k hk hX=>by omega
theorem setV_calls (hm:P.follows .mixedOrders=true) {f nt T tI B te:Nat} {cur:Array Value} {x:Int} {w:World} (hfn:FnIs P f nt [] (cSetV T tI)) (hnt:8<=nt) (hF:zj_ P T 0 tI 0 false 1) (hB:w.heap[B]?=some (.cells cur te (0,0))) (h0:0 < cur.size) :
  Calls P f #[pt B 0,.int .i16 x] w fun e w'=>e=.returned (.tuple #[])/\Keeps (·=B) w w'/\w'.heap[B]?=some (.cells (cur.setIfInBounds 0 (.int .i16 x)) te (0,0)):=by
 refine callsA hm hfn (by simp) [pt B 0,.int .i16 x] (by simp;omega) fun a harg hs hd=>?_
 have g0:=harg 0 _ rfl
 have g1:=harg 1 _ rfl
 refine .reg (qd_ (qd_ ?_))
 rw [qb_,g0,qb_,gpo (by omega),g1]
 refine qp_ (by rw [qb_,gpo (by omega),gpe (by omega)];rfl) ?_
 refine ju_ (by rw [qb_,gpe (by simp only [qa_];omega)]) hF ?_
 refine q8_ (g:=B) (o:=0) (cur:=cur) (t:=te) (v:=.int .i16 x) (vs:=[.int .i16 x]) (by rw [qb_,gpe (by simp only [qa_];omega)]) (by rw [qb_,gpo (by omega),gpo (by omega),gpe (by simp only [qa_];omega)]) rfl (hF.var.size w) hB (by simp only [List.length_cons,List.length_nil];omega) (by simp [Value.oneCell']) (wpList_nil ⟨?_,rfl,Keeps.setRow _ _ _ _ rfl,?_⟩)
 ·simp only [qf_];exact hd
 ·rw [setRow_heap _ _ _ _ _ _ hB,splice_one h0]
theorem maxV_calls (hm:P.follows .mixedOrders=true) {f nt:Nat} {k:Int} {x:Value} {w:World} (hfn:FnIs P f nt [2] (cMaxV k)) (hnt:3<=nt):Calls P f #[x] w fun e w'=>e=.returned (.int .i16 k)/\Keeps (fun _=>False) w w':=by
 refine callsA hm hfn (by simp) [x] (by simp;omega) fun a harg hs hd=>?_
 refine qh_ (qj_ (qg_ (wpList_nil (qh_ (qj_ (qg_ (wpList_nil (qh_ (.ret ⟨?_,?_,Keeps.refl _ _⟩)))))))))
 ·simp only [qf_];exact hd
 ·rw [zd_,gpe (by simp only [qa_];omega)]
  rfl
theorem max_calls (hm:P.follows .mixedOrders=true) {f nt tI16 tInt f1 f2:Nat} {k:Nat} {x:Value} {w:World} (hI:P.underlying tI16=some (.int .i16)) (hInt:P.underlying tInt=some (.int .i64)) (hk:k < 32768) (hfn:FnIs P f nt [0] (cMax tI16 tInt f1 f2)) (hnt:4<=nt)
  (h1E:Ent P f1) (h1:Calls P f1 #[] w fun e w'=>e=.returned x/\Keeps (fun _=>False) w w') (h2E:Ent P f2) (h2:∀ w,Calls P f2 #[x] w fun e w'=>e=.returned (.int .i16 (k:Int))/\Keeps (fun _=>False) w w'):Calls P f #[] w fun e w'=>e=.returned (.int .i64 (k:Int))/\Keeps (fun _=>False) w w':=by
 refine callsA hm hfn (by simp) [] (by simp) fun a _ hs hd=>?_
 refine qh_ (qj_ (qg_ (wpList_nil (qh_ (qj_ ?_)))))
 refine qv_ (vs:=#[]) h1E rfl h1 fun e w1 hR1=>⟨_,hR1.1,?_⟩
 refine qv_ (vs:=#[x]) h2E ?_ (h2 w1) fun e w2 hR2=>⟨_,hR2.1,?_⟩
 ·simp only [List.map_cons,List.map_nil,qb_]
  rw [gpe (by simp only [qa_];omega)]
 refine qw_ (k:=.i16) (k':=.i64) (m:=(k:Int)) (by rw [qb_,gpe (by simp only [qa_];omega)]) hI hInt ?_
 have hw:IntKind.i64.wrap (k:Int)=(k:Int):=by simp [IntKind.wrap,IntKind.bits,IntKind.signed];omega
 rw [hw]
 refine qg_ (wpList_nil (qh_ (.ret ⟨?_,?_,hR1.2.trans hR2.2⟩)))
 ·simp only [qf_];exact hd
 ·rw [zd_,gpe (by simp only [qa_];omega),qb_,gpe (by simp only [qa_];omega)]
theorem rdF_calls (hm:P.follows .mixedOrders=true) {f nt f2:Nat} {x y:Value} {w:World} {RR:Value->World->Prop} (hfn:FnIs P f nt [4] (cRdF f2)) (hnt:8<=nt) (hE:Ent P f2) (h:Calls P f2 #[x,y,.bool false] w fun e w'=>∃ v,e=.returned v/\RR v w'):Calls P f #[x,y] w fun e w'=>∃ v,e=.returned v/\RR v w':=by
 refine callsA hm hfn (by simp) [x,y] (by simp;omega) fun a harg hs hd=>?_
 have g0:=harg 0 _ rfl
 have g1:=harg 1 _ rfl
 refine qh_ (qj_ (qg_ (wpList_nil (qh_ (qj_ (qd_ (qd_ ?_)))))))
 refine qv_ (vs:=#[x,y,.bool false]) hE ?_ h fun e w1 hR=>?_
 ·simp only [List.map_cons,List.map_nil,qb_]
  rw [gpo (by omega),gpe (by simp only [qa_];omega),gpo (by omega),g0,gpe (by simp only [qa_];omega),gpo (by omega),gpo (by omega),g1]
  rfl
 obtain ⟨v,he,hv⟩:=hR
 refine ⟨v,he,qg_ (wpList_nil (qh_ (.ret ⟨?_,v,?_,hv⟩)))⟩
 ·simp only [qf_];exact hd
 ·rw [zd_,gpe (by simp only [qa_];omega),qb_,gpe (by simp only [qa_];omega)]
theorem run_rem {k:IntKind} {A:Nat} {x y:Int} (hy:y ≠ 0) (w:World):(binOp .rem A (.int k x) (.int k y)).run P w=.ok (.int k (x.tmod y)) w:=by
 simp [binOp,Op.intDiv,hy]
theorem ver_calls (hm:P.follows .mixedOrders=true) {f nt tU8 tInt x most:Nat} {w:World} (h8:P.underlying tU8=some (.int .u8)) (hInt:P.underlying tInt=some (.int .i64)) (hx:x < 256) (hmost:most < 32768) (hfn:FnIs P f nt [4] (cVer tU8 tInt)) (hnt:10<=nt) :
  Calls P f #[.int .u8 x,.int .i64 most] w fun e w'=>e=.returned (.int .i64 ((x % (most + 1):Nat):Int))/\Keeps (fun _=>False) w w':=by
 refine callsA hm hfn (by simp) [.int .u8 x,.int .i64 most] (by simp;omega) fun a harg hs hd=>?_
 have g0:=harg 0 _ rfl
 have g1:=harg 1 _ rfl
 refine qh_ (qj_ (qg_ (wpList_nil (qh_ (qj_ (qd_ ?_))))))
 rw [qb_,gpo (by omega),g0]
 refine qw_ (k:=.u8) (k':=.i64) (m:=x) (by rw [qb_,gpe (by simp only [qa_];omega)]) h8 hInt (qd_ ?_)
 have hw:IntKind.i64.wrap (x:Int)=(x:Int):=by simp [IntKind.wrap,IntKind.bits,IntKind.signed];omega
 rw [hw,qb_,gpo (by omega),gpo (by omega),gpo (by omega),g1]
 have hw2:IntKind.i64.wrap ((most:Int) + 1)=((most + 1:Nat):Int):=by simp [IntKind.wrap,IntKind.bits,IntKind.signed];omega
 refine zk_ (k:=.i64) (m:=most) (n:=1) (v:=.int .i64 ((most + 1:Nat):Int)) (by rw [qb_,gpe (by simp only [qa_];omega)]) rfl (by simp) (by simp [binOp,Op.intArith,hw2]) ?_
 have hrem:(binOp .rem tInt (.int .i64 (x:Int)) (.int .i64 ((most + 1:Nat):Int))).run P w=.ok (.int .i64 ((x % (most + 1):Nat):Int)) w:=by
  have h1:=run_rem (P:=P) (k:=.i64) (A:=tInt) (x:=(x:Int)) (y:=((most + 1:Nat):Int)) (by omega) w
  have h2:(x:Int).tmod ((most + 1:Nat):Int)=((x % (most + 1):Nat):Int):=(Int.ofNat_tmod x (most + 1)).symm
  rw [h2] at h1
  exact h1
 refine zk_ (k:=.i64) (m:=x) (n:=((most + 1:Nat):Int)) (by rw [qb_,gpo (by omega),gpo (by omega),gpe (by simp only [qa_];omega)]) (by rw [qb_,gpe (by simp only [qa_];omega)]) (by simp) hrem ?_
 refine qg_ (wpList_nil (qh_ (.ret ⟨?_,?_,Keeps.refl _ _⟩)))
 ·simp only [qf_];exact hd
 ·rw [zd_,gpe (by simp only [qa_];omega),qb_,gpe (by simp only [qa_];omega)]
theorem run_append_nil0 {tSl te tx ty:Nat} (ot:OctT P tSl te) {x:Value} {w:World} (hs:Src P 1 tx x 0 [] w):(Builtin.append_ #[tSl,tx] ty #[nilS,x]).run P w=.ok nilS w:=by
 obtain ⟨i,z,hi,hz,hsz,hby,hzs⟩:=ot.info
 have ht:=ot.und
 have h1:=hs.len
 have h2:=hs.cells
 rcases hs.kind with ⟨e',hk⟩ | hk <;> simp [nilS,Builtin.append_,run_underlying ht,run_underlying hk,sizeOf,typeInfo,hi,hsz,h1,h2]
end
section
variable {P:Program} {te:Nat}
theorem SlRp.form {w:World} {X:Nat->Prop} {v:Value} {l:Bs} (h:SlRp w X v l):∃ base c,v=.slice base l.length c/\(l=[] \/ ∃ b o,base=some ⟨b,o,none⟩/\OctAt w b o l):=by
 rcases h with ⟨rfl,rfl⟩ | ⟨b,o,c,rfl,_,_,_,_,ho⟩
 ·exact ⟨none,0,rfl,.inl rfl⟩
 ·exact ⟨some ⟨b,o,none⟩,c,rfl,.inr ⟨b,o,rfl,ho⟩⟩
theorem same_calls (hm:P.follows .mixedOrders=true) {f nt tSl tU8 tInt:Nat} (ot:OctT P tSl tU8) (h8:jp_ P tU8 false 1) (hfn:FnIs P f nt [4] (cSame tSl tU8 tInt)) (hnt:26<=nt) {w:World} {X:Nat->Prop} {va vb:Value} {la lb:Bs} (ha:SlRp w X va la) (hb:SlRp w X vb lb) (hla:la.length<=maxLen) :
  Calls P f #[va,vb] w fun e w'=>e=.returned (.bool (decide (la=lb)))/\Keeps (fun _=>False) w w':=by
 obtain ⟨ba,ca,rfl,hoa⟩:=ha.form
 obtain ⟨bb,cb,rfl,hob⟩:=hb.form
 refine callsA hm hfn (by simp) [_,_] (by simp;omega) fun a harg hs hd=>?_
 have g0:=harg 0 _ rfl
 have g1:=harg 1 _ rfl
 have retF:∀ (a1:Act) (w1:World) (N:Act->World->Prop) (b:Bool),a1.tmps.size=nt->a1.defers=[]->Keeps (fun _=>False) w w1->b=decide (la=lb)->NWP P (retB b) (Rt N (fun a' w'=>a'.defers=[]/\(Ending.returned (zl_ [4] a')=.returned (.bool (decide (la=lb)))/\Keeps (fun _=>False) w w'))) a1 w1:=by
  intro a1 w1 N b hs1 hd1 hk hbb
  refine qh_ (cs:=[.ret]) (qj_ (qg_ (wpList_nil (.ret ⟨?_,?_,hk⟩))))
  ·simp only [qf_];exact hd1
  ·rw [zd_,gpe (by omega),hbb]
   rfl
 unfold cSame
 refine qh_ (qj_ (qg_ (wpList_nil ?_)))
 refine qh_ ?_
 rw [qr_]
 have htest:∀ (b:Bool),b=decide (la.length ≠ lb.length)->∀ (Y:Act->World->Prop) (E:Act->World->Prop),(∀ a1,a1.get 10=.bool b->a1.get 0=.slice ba la.length ca->a1.get 1=.slice bb lb.length cb->a1.tmps.size=nt->a1.defers=[]->Y a1 w) ->
   NWP P (rg [mk (some 6) (.move (tm 0)),bi (some 7) .len [tm 6] [tSl] tInt,mk (some 8) (.move (tm 1)),bi (some 9) .len [tm 8] [tSl] tInt,mk (some 10) (.binOp .neq tInt (tm 7) (tm 9) 0)]) (Rt Y E) (a.put (some 4) (Act.eval a (.const (.bool false)))) w:=by
  intro b hbb Y E hY
  refine .reg (qd_ ?_)
  rw [qb_,gpo (by omega),g0]
  refine wl_len (base:=ba) (n:=la.length) (c:=ca) (by rw [qb_,gpe (by simp only [qa_];omega)]) ot.und (qd_ ?_)
  rw [qb_,gpo (by omega),gpo (by omega),gpo (by omega),g1]
  refine wl_len (base:=bb) (n:=lb.length) (c:=cb) (by rw [qb_,gpe (by simp only [qa_];omega)]) ot.und ?_
  refine q9_ (b:=b) (p:=la.length) (q:=lb.length) (k:=.i64) (by rw [qb_,gpo (by omega),gpo (by omega),gpe (by simp only [qa_];omega)]) (by rw [qb_,gpe (by simp only [qa_];omega)]) (.inr (.inr (.inr (.inr (.inr ⟨rfl,by rw [hbb];exact decide_eq_decide.2 (by omega)⟩))))) (wpList_nil (hY _ ?_ ?_ ?_ ?_ ?_))
  ·rw [gpe (by simp only [qa_];omega)]
  ·rw [gpo (by omega),gpo (by omega),gpo (by omega),gpo (by omega),gpo (by omega),gpo (by omega)];exact g0
  ·rw [gpo (by omega),gpo (by omega),gpo (by omega),gpo (by omega),gpo (by omega),gpo (by omega)];exact g1
  ·simp only [qa_];exact hs
  ·simp only [qf_];exact hd
 by_cases hne:la.length ≠ lb.length
 ·refine .seq (htest true (by simp [hne]) _ _ fun a1 h10 _ _ hs1 hd1=>?_) (fun a1 w1 hh=>hh) (fun e a w he hq=>by cases e <;> first | exact absurd rfl he | exact hq | exact hq.elim)
  refine .condT h10 (retF a1 w _ false hs1 hd1 (Keeps.refl _ _) ?_)
  have:la ≠ lb:=fun h=>hne (by rw [h])
  simp [this]
 have hlen:la.length=lb.length:=by omega
 refine .seq (htest false (by simp [hlen]) _ _ fun a1 h10 e0 e1 hs1 hd1=>?_) (fun a1 w1 hh=>hh) (fun e a w he hq=>by cases e <;> first | exact absurd rfl he | exact hq | exact hq.elim)
 refine .condF h10 (.skip (qh_ ?_))
 rw [qr_]
 refine .seq (R:=Rt (fun a2 w2=>a2.get 0=.slice ba la.length ca/\a2.get 1=.slice bb lb.length cb/\a2.get 12=.int .i64 (la.length:Int)/\a2.get 13=.int .i64 ((0:Nat):Int)/\a2.tmps.size=nt/\a2.defers=[]/\w2=w) fun _ _=>False) (.reg (qd_ ?_)) (fun a2 w2 hh=>?_) (fun e a w he hq=>by cases e <;> first | exact absurd rfl he | exact hq.elim)
 ·rw [qb_,e0]
  refine wl_len (base:=ba) (n:=la.length) (c:=ca) (by rw [qb_,gpe (by omega)]) ot.und (qd_ (wpList_nil ⟨?_,?_,?_,?_,?_,?_,rfl⟩))
  ·rw [gpo (by omega),gpo (by omega),gpo (by omega)];exact e0
  ·rw [gpo (by omega),gpo (by omega),gpo (by omega)];exact e1
  ·rw [gpo (by omega),gpe (by simp only [qa_];omega)]
  ·rw [gpe (by simp only [qa_];omega)];rfl
  ·simp only [qa_];exact hs1
  ·simp only [qf_];exact hd1
 obtain ⟨e0,e1,e12,e13,hs2,hd2,rfl⟩:=hh
 refine .block (.loop (fun a3 w3=>∃ j:Nat,j<=la.length/\a3.get 0=.slice ba la.length ca/\a3.get 1=.slice bb lb.length cb/\a3.get 12=.int .i64 (la.length:Int)/\a3.get 13=.int .i64 (j:Int)/\a3.tmps.size=nt/\a3.defers=[]/\Keeps (fun _=>False) w2 w3/\la.take j=lb.take j)
  (fun a3 _=>((la.length:Int) - (match a3.get 13 with | .int _ q=>q | _=>0)).toNat) ⟨0,by omega,e0,e1,e12,e13,hs2,hd2,Keeps.refl _ _,by simp⟩ ?_)
 rintro a3 w3 ⟨j,hj,f0,f1,f12,f13,hs3,hd3,hk3,htake⟩
 have htest2:∀ (b:Bool) (E:Act->World->Prop),b=decide ((j:Int) < (la.length:Int))->NWP P (rg [mk (some 14) (.binOp .lss tInt (tm 13) (tm 12) 0)]) (Rt (fun a' w'=>a'.get 14=.bool b/\a'=a3.put (some 14) (.bool b)/\w'=w3) E) a3 w3:=by
  intro b E hbb
  refine .reg (q9_ (b:=b) (p:=j) (q:=la.length) (k:=.i64) f13 f12 (.inr (.inr (.inl ⟨rfl,hbb⟩))) (wpList_nil ⟨gpe (by omega),rfl,rfl⟩))
 by_cases hlt:j < la.length
 ·refine .seq (htest2 true _ (by simp [hlt])) (fun a4 w4 hh=>?_) (fun e a w he hq=>by cases e <;> first | exact absurd rfl he | exact hq | exact hq.elim)
  obtain ⟨h14,rfl,rfl⟩:=hh
  refine .seq (R:=Rt (fun a' w'=>a'=a3.put (some 14) (.bool true)/\w'=w4) fun _ _=>False) (.condT h14 (.skip ⟨rfl,rfl⟩)) (fun a5 w5 hh=>?_) (fun e a w he hq=>by cases e <;> first | exact absurd rfl he | exact hq.elim)
  obtain ⟨rfl,rfl⟩:=hh
  refine .seq (R:=Rt (fun a6 w6=>a6.get 0=.slice ba la.length ca/\a6.get 1=.slice bb lb.length cb/\a6.get 12=.int .i64 (la.length:Int)/\a6.get 13=.int .i64 (j:Int)/\a6.tmps.size=nt/\a6.defers=[]/\Keeps (fun _=>False) w2 w6/\la.take (j + 1)=lb.take (j + 1)) (fun a' w'=>a'.defers=[]/\(Ending.returned (zl_ [4] a')=.returned (.bool (decide (la=lb)))/\Keeps (fun _=>False) w2 w')))
   (.block ?_) (fun a6 w6 hh=>?_) (fun e a w he hq=>by cases e <;> first | exact absurd rfl he | exact hq | exact hq.elim)
  ·-- the round
   refine .seq (R:=Rt (fun a6 w6=>a6.get 0=.slice ba la.length ca/\a6.get 1=.slice bb lb.length cb/\a6.get 12=.int .i64 (la.length:Int)/\a6.get 13=.int .i64 (j:Int)/\a6.get 5=.int .i64 (j:Int)/\a6.tmps.size=nt/\a6.defers=[]/\w6=w5) fun _ _=>False) (.reg (qd_ ?_)) (fun a6 w6 hh=>?_) (fun e a w he hq=>by cases e <;> first | exact absurd rfl he | exact hq.elim)
   ·rw [qb_,gpo (by omega),f13]
    refine qg_ (wpList_nil ⟨?_,?_,?_,?_,?_,?_,?_,rfl⟩)
    ·rw [gpo (by omega),gpo (by omega),gpo (by omega)];exact f0
    ·rw [gpo (by omega),gpo (by omega),gpo (by omega)];exact f1
    ·rw [gpo (by omega),gpo (by omega),gpo (by omega)];exact f12
    ·rw [gpo (by omega),gpo (by omega),gpo (by omega)];exact f13
    ·rw [gpe (by simp only [qa_];omega),qb_,gpe (by simp only [qa_];omega)]
    ·simp only [qa_];exact hs3
    ·simp only [qf_];exact hd3
   obtain ⟨k0,k1,k12,k13,k5,hs6,hd6,rfl⟩:=hh
   have hlo:xd_ (sameOps tSl tU8)=[false,false,false,false,false,false,false,false,false]:=by kernel_rfl
   obtain ⟨xa,hxa⟩:∃ x,la[j]?=some x:=⟨la[j],List.getElem?_eq_getElem hlt⟩
   obtain ⟨xb,hxb⟩:∃ x,lb[j]?=some x:=⟨lb[j]'(by omega),List.getElem?_eq_getElem (by omega)⟩
   have hane:la ≠ []:=fun h=>by rw [h] at hlt;simp at hlt
   have hbne:lb ≠ []:=fun h=>by rw [hlen,h] at hlt;simp at hlt
   obtain ⟨pa,oa,rfl,hoa'⟩:=hoa.resolve_left hane
   obtain ⟨pb,ob,rfl,hob'⟩:=hob.resolve_left hbne
   have hca:∀ w':World,w'.heap=w6.heap->w'.cell? ⟨pa,oa + j * 1,none⟩=some (.int .u8 (xa.toNat:Int)):=fun w' hw=>by
    have h1:=hk3.cell id (hoa' j xa hxa)
    rw [Nat.mul_one]
    simpa [World.cell?,hw] using h1
   have hcb:∀ w':World,w'.heap=w6.heap->w'.cell? ⟨pb,ob + j * 1,none⟩=some (.int .u8 (xb.toNat:Int)):=fun w' hw=>by
    have h1:=hk3.cell id (hob' j xb hxb)
    rw [Nat.mul_one]
    simpa [World.cell?,hw] using h1
   refine .seq (R:=Rt (fun a7 w7=>a7.get 24=.bool (decide (xa ≠ xb))/\a7.get 0=.slice (some ⟨pa,oa,none⟩) la.length ca/\a7.get 1=.slice (some ⟨pb,ob,none⟩) lb.length cb/\a7.get 12=.int .i64 (la.length:Int)/\a7.get 13=.int .i64 (j:Int)/\a7.tmps.size=nt/\a7.defers=[]/\w7=w6.drew) fun _ _=>False) (.drw (fun w'=>w'.heap=w6.heap) ?_) (fun a7 w7 hh=>?_) (fun e a w he hq=>by cases e <;> first | exact absurd rfl he | exact hq.elim)
   ·rw [hlo]
    show evF P _ (sameOps tSl tU8) a6 fun af=>wpLd P _ _ [] af w6.drew
    refine ev_move (ev_move ?_)
    rw [qb_,k0,qb_,gpo (by omega),k5]
    refine ev_index (b:=pa) (o:=oa) (m:=la.length) (c:=ca) (i:=j) (k:=.i64) (sz:=1) (by rw [qb_,gpo (by omega),gpe (by omega)]) (by rw [qb_,gpe (by simp only [qa_];omega)]) hlt ot.und h8.size ?_
    refine ev_load1 (p:=⟨pa,oa + j * 1,none⟩) (v:=.int .u8 (xa.toNat:Int)) (by rw [qb_,gpe (by simp only [qa_];omega)]) h8.agg hca (ev_move (ev_move ?_))
    rw [qb_,gpo (by omega),gpo (by omega),gpo (by omega),gpo (by omega),k1,qb_,gpo (by omega),gpo (by omega),gpo (by omega),gpo (by omega),gpo (by omega),k5]
    refine ev_index (b:=pb) (o:=ob) (m:=lb.length) (c:=cb) (i:=j) (k:=.i64) (sz:=1) (by rw [qb_,gpo (by omega),gpe (by simp only [qa_];omega)]) (by rw [qb_,gpe (by simp only [qa_];omega)]) (by omega) ot.und h8.size ?_
    refine ev_load1 (p:=⟨pb,ob + j * 1,none⟩) (v:=.int .u8 (xb.toNat:Int)) (by rw [qb_,gpe (by simp only [qa_];omega)]) h8.agg hcb ?_
    refine ev_bin (k:=.u8) (k2:=.u8) (m:=(xa.toNat:Int)) (m2:=(xb.toNat:Int)) (v:=.bool (decide (xa ≠ xb))) ?_ ?_ ?_ ⟨rfl,?_,?_,?_,?_,?_,?_,?_,rfl⟩
    ·rw [qb_,gpo (by omega),gpo (by omega),gpo (by omega),gpo (by omega),gpe (by simp only [qa_];omega)]
    ·rw [qb_,gpe (by simp only [qa_];omega)]
    ·intro w'
     refine run_cmp (.inr (.inr (.inr (.inr (.inr ⟨rfl,?_⟩)))))
     have:xa ≠ xb ↔ (xa.toNat:Int) ≠ (xb.toNat:Int):=by
      rw [Ne,Ne,UInt8.toNat_inj.symm];omega
     simp only [this]
    ·rw [gpe (by simp only [qa_];omega)]
    ·iterate 9 rw [gpo (by omega)]
     exact k0
    ·iterate 9 rw [gpo (by omega)]
     exact k1
    ·iterate 9 rw [gpo (by omega)]
     exact k12
    ·iterate 9 rw [gpo (by omega)]
     exact k13
    ·simp only [qa_];exact hs6
    ·simp only [qf_];exact hd6
   ·obtain ⟨h24,l0,l1,l12,l13,hs7,hd7,rfl⟩:=hh
    have hk7:Keeps (fun _=>False) w2 w6.drew:=hk3.trans (Keeps.drew _ _)
    have hta:la.take (j + 1)=la.take j++[xa]:=by rw [List.take_add_one,hxa];rfl
    have htb:lb.take (j + 1)=lb.take j++[xb]:=by rw [List.take_add_one,hxb];rfl
    by_cases hxx:xa=xb
    ·refine .condF (by rw [qb_,h24];simp [hxx]) (.skip ?_)
     exact ⟨l0,l1,l12,l13,hs7,hd7,hk7,by rw [hta,htb,htake,hxx]⟩
    ·refine .condT (by rw [qb_,h24];simp [hxx]) (.mono (retF a7 w6.drew (fun _ _=>False) false hs7 hd7 hk7 ?_) fun e a w hq=>by cases e <;> first | exact hq | exact hq.elim)
     have:la ≠ lb:=fun h=>by rw [h,hxb] at hxa;exact hxx (Option.some.inj hxa).symm
     simp [this]
  ·obtain ⟨l0,l1,l12,l13,hs7,hd7,hk7,ht7⟩:=hh
   have hwr:IntKind.i64.wrap ((j:Int) + 1)=((j + 1:Nat):Int):=by simp only [maxLen] at hla;simp [IntKind.wrap,IntKind.bits,IntKind.signed];omega
   refine .reg (zk_ (v:=.int .i64 ((j + 1:Nat):Int)) (k:=.i64) (m:=j) (n:=1) l13 rfl (by simp) (by simp [binOp,Op.intArith,hwr]) (qd_ (wpList_nil ?_)))
   rw [qb_,gpe (by omega)]
   have hg:((a6.put (some 25) (.int .i64 ((j + 1:Nat):Int))).put (some 13) (.int .i64 ((j + 1:Nat):Int))).get 13=.int .i64 ((j + 1:Nat):Int):=gpe (by simp only [qa_];omega)
   refine ⟨⟨j + 1,by omega,?_,?_,?_,hg,by simp only [qa_];exact hs7,by simp only [qf_];exact hd7,hk7,ht7⟩,?_⟩
   ·rw [gpo (by omega),gpo (by omega)];exact l0
   ·rw [gpo (by omega),gpo (by omega)];exact l1
   ·rw [gpo (by omega),gpo (by omega)];exact l12
   ·rw [hg,f13]
    simp only
    omega
 ·have hjn:j=la.length:=by omega
  subst hjn
  refine .seq (htest2 false _ (by simp)) (fun a4 w4 hh=>?_) (fun e a w he hq=>by cases e <;> first | exact absurd rfl he | exact hq | exact hq.elim)
  obtain ⟨h14,rfl,rfl⟩:=hh
  refine .seq (R:=fun e a w=>e ≠ .normal/\Exit.inBlock 0 (Rt (fun a' w'=>a'.tmps.size=nt/\a'.defers=[]/\Keeps (fun _=>False) w2 w') fun _ _=>False) e a w) (.condF h14 (.exit ?_)) (fun a2 w2 hh=>absurd rfl hh.1) (fun e a w he hq=>?_)
  ·simp only [Exit.inBlock,if_true]
   exact ⟨by simp,by simp only [qa_];exact hs3,by simp only [qf_];exact hd3,hk3⟩
  ·rw [zc_ he]
   have hq2:=hq.2
   cases e with
   | normal=>exact absurd rfl he
   | exit i=>
    simp only [Exit.inBlock] at hq2 ⊢
    split at hq2
    ·rename_i hi
     rw [if_pos hi]
     obtain ⟨hs5,hd5,hk5⟩:=hq2
     refine qh_ (qj_ (qg_ (wpList_nil (.ret ⟨?_,?_,hk5⟩))))
     ·simp only [qf_];exact hd5
     ·rw [zd_,gpe (by omega)]
      have:la=lb:=by
       rw [List.take_length] at htake
       rw [htake,hlen,List.take_length]
      simp [this]
      rfl
    ·exact hq2.elim
   | _=>exact hq2.elim
end
section
variable {P:Program}
def AgC (P:Program) (fA:Nat) (gErr:Nat) (out:Int->Bs->Option Bs) (okIn:Int->Bs->Prop):Prop:=
 ∀ (w:World) (x:Int) (srcv:Value) (l:Bs),SlRp w (fun _=>False) srcv l->ErrAt gErr w->okIn x l->Calls P fA #[.int .i64 x,srcv] w fun e w'=>∃ y b,e=.returned (.tuple #[y,.bool b])/\Keeps (fun _=>False) w w' /\
   (out x l=none->b=false/\y=nilS)/\(∀ bs,out x l=some bs->b=true/\SlRp w' (fun _=>False) y bs)
theorem s_callAg {fV fA gErr n s x y x0 most:Nat} {out:Int->Bs->Option Bs} {okIn:Int->Bs->Prop} {srcv:Value} {l:Bs} {a:Act} {w:World} {K E:Act->World->Prop} (hVE:Ent P fV) (hV:Calls P fV #[.int .u8 x0,.int .i64 most] w fun e w'=>e=.returned (.int .i64 ((x0 % (most + 1):Nat):Int))/\Keeps (fun _=>False) w w')
  (hAE:Ent P fA) (hA:AgC P fA gErr out okIn) (h0:a.get 0=.int .u8 x0) (h5:a.get 5=.int .i64 most) (hs:a.get s=srcv) (hsn:s < n) (h5n:5 < n) (hxy:x < n/\y < n/\x ≠ y) (hn:n + 8<=a.tmps.size) (hsrc:SlRp w (fun _=>False) srcv l) (herr:ErrAt gErr w) (hok:okIn ((x0 % (most + 1):Nat):Int) l)
  (h:∀ a' w' v b,(∀ i,i < n->i ≠ x->i ≠ y->a'.get i=a.get i)->a'.tmps.size=a.tmps.size->a'.defers=a.defers->a'.get x=v->a'.get y=.bool b->Keeps (fun _=>False) w w'->(out ((x0 % (most + 1):Nat):Int) l=none->b=false/\v=nilS)->(∀ bs,out ((x0 % (most + 1):Nat):Int) l=some bs->b=true/\SlRp w' (fun _=>False) v bs)->K a' w') :
  NWP P (callAg fV fA n s x y) (Rt K E) a w:=by
 refine .reg (qd_ (qd_ ?_))
 rw [qb_,h0,qb_,gpo (by omega),h5]
 refine qv_ (vs:=#[.int .u8 x0,.int .i64 most]) hVE ?_ hV fun e w1 hR1=>⟨_,hR1.1,?_⟩
 ·simp only [List.map_cons,List.map_nil,qb_]
  rw [gpo (by omega),gpe (by omega),gpe (by simp only [qa_];omega)]
 have hk1:=hR1.2
 refine qd_ ?_
 rw [qb_,gpo (by omega),gpo (by omega),gpo (by omega),hs]
 refine qv_ (vs:=#[.int .i64 ((x0 % (most + 1):Nat):Int),srcv]) hAE ?_ (hA w1 _ srcv l (hsrc.keep hk1) (herr.keep hk1 id) hok) fun e w2 hR2=>?_
 ·simp only [List.map_cons,List.map_nil,qb_]
  rw [gpo (by omega),gpe (by simp only [qa_];omega),gpe (by simp only [qa_];omega)]
 obtain ⟨v,b,he,hk2,hnone,hsome⟩:=hR2
 refine ⟨_,he,qd_ ?_⟩
 rw [qb_,gpe (by simp only [qa_];omega)]
 refine wl_extract (vs:=#[v,.bool b]) (v:=v) (by rw [qb_,gpe (by simp only [qa_];omega)]) rfl ?_
 refine wl_extract (vs:=#[v,.bool b]) (v:=.bool b) (by rw [qb_,gpo (by omega),gpe (by simp only [qa_];omega)]) rfl ?_
 refine qg_ (qg_ (wpList_nil (h _ w2 v b (fun i hi hx hy=>?_) ?_ ?_ ?_ ?_ (hk1.trans hk2) hnone hsome)))
 ·rw [zz_ _ _ _ _ hy,zz_ _ _ _ _ hx,gpo (by omega),gpo (by omega),gpo (by omega),gpo (by omega),gpo (by omega),gpo (by omega),gpo (by omega),gpo (by omega)]
 ·simp only [qa_]
 ·simp only [qf_]
 ·rw [zz_ _ _ _ _ hxy.2.2,gpe (by simp only [qa_];omega),qb_,gpo (by omega),gpe (by simp only [qa_];omega)]
 ·rw [gpe (by simp only [qa_];omega),qb_,gpo (by omega),gpe (by simp only [qa_];omega)]
theorem any_calls (hm:P.follows .mixedOrders=true) {f nt tSl tU8 tInt tB fM fV fA fS gErr most x0:Nat} {out:Int->Bs->Option Bs} {okIn:Int->Bs->Prop} (ot:OctT P tSl tU8) (_hInt:P.underlying tInt=some (.int .i64)) (hfn:FnIs P f nt [4] (cAny tSl tInt tB fM fV fA fS)) (hnt:43<=nt)
  (hME:Ent P fM) (hM:∀ w,Calls P fM #[] w fun e w'=>e=.returned (.int .i64 (most:Int))/\Keeps (fun _=>False) w w') (hVE:Ent P fV) (hV:∀ w,Calls P fV #[.int .u8 x0,.int .i64 most] w fun e w'=>e=.returned (.int .i64 ((x0 % (most + 1):Nat):Int))/\Keeps (fun _=>False) w w')
  (hAE:Ent P fA) (hA:AgC P fA gErr out okIn) (hSE:Ent P fS) (hS:∀ (w:World) (va vb:Value) (la lb:Bs),SlRp w (fun _=>False) va la->SlRp w (fun _=>False) vb lb->la.length<=maxLen->Calls P fS #[va,vb] w fun e w'=>e=.returned (.bool (decide (la=lb)))/\Keeps (fun _=>False) w w')
  {w:World} {srcv:Value} {l:Bs} (hsrc:SlRp w (fun _=>False) srcv l) (herr:ErrAt gErr w)
  (hok:l.length<=1000->okIn ((x0 % (most + 1):Nat):Int) l/\∀ bs,out ((x0 % (most + 1):Nat):Int) l=some bs->bs.length<=maxLen/\okIn ((x0 % (most + 1):Nat):Int) bs/\out ((x0 % (most + 1):Nat):Int) bs=some bs) :
  Calls P f #[.int .u8 x0,srcv] w fun e w'=>e=.returned (.bool true)/\Keeps (fun _=>False) w w':=by
 refine callsA hm hfn (by simp) [.int .u8 x0,srcv] (by simp;omega) fun a harg hs hd=>?_
 have g0:=harg 0 _ rfl
 have g1:=harg 1 _ rfl
 obtain ⟨base,c,hform,_⟩:=hsrc.form
 have retT:∀ (a1:Act) (w1:World) (N:Act->World->Prop),a1.tmps.size=nt->a1.defers=[]->Keeps (fun _=>False) w w1->NWP P (retB true) (Rt N (fun a' w'=>a'.defers=[]/\(Ending.returned (zl_ [4] a')=.returned (.bool true)/\Keeps (fun _=>False) w w'))) a1 w1:=by
  intro a1 w1 N hs1 hd1 hk
  refine qh_ (cs:=[.ret]) (qj_ (qg_ (wpList_nil (.ret ⟨?_,?_,hk⟩))))
  ·simp only [qf_];exact hd1
  ·rw [zd_,gpe (by omega)]
   rfl
 have gt:∀ (n:Nat) (k:Nat) (a1:Act) (w1:World) (K':Act->World->Prop),5 < n->n + 3<=nt->a1.get 1=srcv->a1.tmps.size=nt->a1.defers=[]->Keeps (fun _=>False) w w1->(l.length<=k->∀ a2,(∀ i,i < n->a2.get i=a1.get i)->a2.tmps.size=nt->a2.defers=[]->K' a2 w1) ->
   NWP P (lenGt tSl tInt n (k:Int)) (Rt K' (fun a' w'=>a'.defers=[]/\(Ending.returned (zl_ [4] a')=.returned (.bool true)/\Keeps (fun _=>False) w w'))) a1 w1:=by
  intro n k a1 w1 K' hn5 hn3 h1 hs1 hd1 hk hK
  have test:∀ (b:Bool) (Y:Act->World->Prop) (E:Act->World->Prop),b=decide ((k:Int) < (l.length:Int))->(∀ a2,a2.get (n + 2)=.bool b->(∀ i,i < n->a2.get i=a1.get i)->a2.tmps.size=nt->a2.defers=[]->Y a2 w1) ->
    NWP P (rg [mk (some n) (.move (tm 1)),bi (some (n + 1)) .len [tm n] [tSl] tInt,mk (some (n + 2)) (.binOp .gtr tInt (tm (n + 1)) (ki .i64 k) 0)]) (Rt Y E) a1 w1:=by
   intro b Y E hb hY
   refine .reg (qd_ ?_)
   rw [qb_,h1,hform]
   refine wl_len (base:=base) (n:=l.length) (c:=c) (by rw [qb_,gpe (by omega)]) ot.und ?_
   refine q9_ (b:=b) (p:=l.length) (q:=k) (k:=.i64) (by rw [qb_,gpe (by simp only [qa_];omega)]) rfl (.inr (.inr (.inr (.inl ⟨rfl,hb⟩)))) (wpList_nil (hY _ ?_ (fun i hi=>?_) ?_ ?_))
   ·rw [gpe (by simp only [qa_];omega)]
   ·rw [gpo (by omega),gpo (by omega),gpo (by omega)]
   ·simp only [qa_];exact hs1
   ·simp only [qf_];exact hd1
  by_cases hl:k < l.length
  ·refine .seq (test true _ _ (by simp [hl]) fun a2 h2 _ hs2 hd2=>?_) (fun a1 w1 hh=>hh) (fun e a w he hq=>by cases e <;> first | exact absurd rfl he | exact hq | exact hq.elim)
   exact .condT h2 (retT a2 w1 _ hs2 hd2 hk)
  ·refine .seq (test false _ _ (by simp;omega) fun a2 h2 hlow hs2 hd2=>?_) (fun a1 w1 hh=>hh) (fun e a w he hq=>by cases e <;> first | exact absurd rfl he | exact hq | exact hq.elim)
   exact .condF h2 (.skip (hK (by omega) a2 hlow hs2 hd2))
 unfold cAny
 refine qh_ (qj_ (qg_ (wpList_nil ?_)))
 refine qh_ ?_
 rw [qr_]
 refine gt 10 2147483647 _ w _ (by omega) (by omega) (by rw [gpo (by omega)];exact g1) (by rw [qa_];exact hs) (by rw [qf_];exact hd) (Keeps.refl _ _) fun _ a2 hlow hs2 hd2=>?_
 have e0:a2.get 0=.int .u8 x0:=by rw [hlow 0 (by omega),gpo (by omega)];exact g0
 have e1:a2.get 1=srcv:=by rw [hlow 1 (by omega),gpo (by omega)];exact g1
 refine qh_ (qj_ (qv_ (vs:=#[]) hME rfl (hM w) fun e w1 hR1=>⟨_,hR1.1,qg_ (wpList_nil ?_)⟩))
 have hk1:=hR1.2
 rw [qb_,gpe (by omega)]
 refine qh_ ?_
 rw [qr_]
 refine .seq (R:=Rt (fun a3 w3=>a3.get 15=.bool false/\a3.get 0=.int .u8 x0/\a3.get 1=srcv/\a3.get 5=.int .i64 (most:Int)/\a3.tmps.size=nt/\a3.defers=[]/\w3=w1) fun _ _=>False) (.reg (qd_ ?_)) (fun a3 w3 hh=>?_) (fun e a w he hq=>by cases e <;> first | exact absurd rfl he | exact hq.elim)
 ·rw [qb_,gpe (by simp only [qa_];omega)]
  refine q9_ (b:=false) (p:=(most:Int)) (q:=0) (k:=.i64) (by rw [qb_,gpe (by simp only [qa_];omega)]) rfl (.inr (.inr (.inl ⟨rfl,by simp⟩))) (wpList_nil ⟨?_,?_,?_,?_,?_,?_,rfl⟩)
  ·rw [gpe (by simp only [qa_];omega)]
  ·rw [gpo (by omega),gpo (by omega),gpo (by omega),gpo (by omega)];exact e0
  ·rw [gpo (by omega),gpo (by omega),gpo (by omega),gpo (by omega)];exact e1
  ·rw [gpo (by omega),gpo (by omega),gpe (by simp only [qa_];omega)]
  ·simp only [qa_];exact hs2
  ·simp only [qf_];exact hd2
 obtain ⟨h15,f0,f1,f5,hs3,hd3,rfl⟩:=hh
 refine .condF h15 (.skip (qh_ ?_))
 rw [qr_]
 refine gt 16 1000 a3 w3 _ (by omega) (by omega) f1 hs3 hd3 hk1 fun hl a4 hlow4 hs4 hd4=>?_
 obtain ⟨hok1,hok2⟩:=hok hl
 refine qh_ ?_
 rw [qr_]
 refine s_callAg (x0:=x0) (most:=most) (out:=out) (okIn:=okIn) (l:=l) hVE (hV w3) hAE hA (by rw [hlow4 0 (by omega)];exact f0) (by rw [hlow4 5 (by omega)];exact f5) (by rw [hlow4 1 (by omega)];exact f1) (by omega) (by omega) (by omega) (by omega) (hsrc.keep hk1) (herr.keep hk1 id) hok1 fun a5 w5 v b hlow5 hs5 hd5 h6 h7 hk5 hnone hsome=>?_
 have hk15:=hk1.trans hk5
 have p0:a5.get 0=.int .u8 x0:=by rw [hlow5 0 (by omega) (by omega) (by omega),hlow4 0 (by omega)];exact f0
 have p5:a5.get 5=.int .i64 (most:Int):=by rw [hlow5 5 (by omega) (by omega) (by omega),hlow4 5 (by omega)];exact f5
 have ps5:a5.tmps.size=nt:=hs5.trans hs4
 have pd5:a5.defers=[]:=hd5.trans hd4
 have ntest:∀ (Y:Act->World->Prop) (E:Act->World->Prop),(∀ a6,a6.get 28=.bool (!b)->(∀ i,i < 27->a6.get i=a5.get i)->a6.tmps.size=nt->a6.defers=[]->Y a6 w5)->NWP P (rg [mk (some 27) (.move (tm 7)),mk (some 28) (.unOp .not tB (tm 27))]) (Rt Y E) a5 w5:=by
  intro Y E hY
  refine .reg (qd_ ?_)
  rw [qb_,h7]
  refine wl_not (b:=b) (by rw [qb_,gpe (by omega)]) (wpList_nil (hY _ ?_ (fun i hi=>?_) ?_ ?_))
  ·rw [gpe (by simp only [qa_];omega)]
  ·rw [gpo (by omega),gpo (by omega)]
  ·simp only [qa_];exact ps5
  ·simp only [qf_];exact pd5
 refine qh_ ?_
 rw [qr_]
 cases hout:out ((x0 % (most + 1):Nat):Int) l with
 | none=>
  obtain ⟨rfl,_⟩:=hnone hout
  refine .seq (ntest _ _ fun a6 h28 _ hs6 hd6=>?_) (fun a1 w1 hh=>hh) (fun e a w he hq=>by cases e <;> first | exact absurd rfl he | exact hq | exact hq.elim)
  exact .condT h28 (retT a6 w5 _ hs6 hd6 hk15)
 | some bs=>
  obtain ⟨rfl,hvb⟩:=hsome bs hout
  obtain ⟨hbl,hokb,houtb⟩:=hok2 bs hout
  refine .seq (ntest _ _ fun a6 h28 hlow6 hs6 hd6=>?_) (fun a1 w1 hh=>hh) (fun e a w he hq=>by cases e <;> first | exact absurd rfl he | exact hq | exact hq.elim)
  refine .condF h28 (.skip (qh_ ?_))
  rw [qr_]
  refine s_callAg (x0:=x0) (most:=most) (out:=out) (okIn:=okIn) (l:=bs) hVE (hV w5) hAE hA (by rw [hlow6 0 (by omega)];exact p0) (by rw [hlow6 5 (by omega)];exact p5) (by rw [hlow6 6 (by omega)];exact h6) (by omega) (by omega) (by omega) (by omega) hvb (herr.keep hk15 id) hokb fun a7 w7 v7 b7 hlow7 hs7 hd7 h8 h9 hk7 _ hsome7=>?_
  obtain ⟨rfl,hvb7⟩:=hsome7 bs houtb
  have hs7':a7.tmps.size=nt:=hs7.trans hs6
  have q6:a7.get 6=v:=by rw [hlow7 6 (by omega) (by omega) (by omega),hlow6 6 (by omega)];exact h6
  refine qh_ (qj_ (qd_ ?_))
  rw [qb_,h9]
  refine qd_ ?_
  rw [qb_,gpe (by omega)]
  have y1 : ∀ (a8 : Act), a8.tmps.size = nt -> a8.get 38 = .bool true -> yielded [mk (some 37) (.move (tm 9)), mk (some 38) (.move (tm 37)), gd 39 (.move (tm 6)) 1 true, gd 40 (.move (tm 8)) 1 true, ⟨some 41, .call ⟨.value (.func fS), #[tm 39, tm 40], #[]⟩, 0, "", #[], some (1, true)⟩, mk (some 42) (.pick (tm 38) (tm 41) (.const (.bool false))), mk (some 4) (.assign (tm 42))].toArray a8.tmps 1 = some true := by
   intro a8 hs8 h38
   exact zb_ (d:=38) (o:=mk (some 38) (.move (tm 37))) rfl rfl (by omega) h38
  refine xf_ (v:=v) (y1 _ (by simp only [qa_];exact hs7') (gpe (by simp only [qa_];omega))) ?_ ?_
  ·have:Act.eval ((a7.put (some 37) (.bool true)).put (some 38) (.bool true)) (tm 6)=v:=by rw [qb_,gpo (by omega),gpo (by omega)];exact q6
   show Result.ok (Next.value (Act.eval _ (tm 6))) _=_
   rw [this]
  refine xf_ (v:=v7) (y1 _ (by simp only [qa_];exact hs7') (by rw [gpo (by omega),gpe (by simp only [qa_];omega)])) ?_ ?_
  ·have:Act.eval (((a7.put (some 37) (.bool true)).put (some 38) (.bool true)).put (some 39) v) (tm 8)=v7:=by rw [qb_,gpo (by omega),gpo (by omega),gpo (by omega)];exact h8
   show Result.ok (Next.value (Act.eval _ (tm 8))) _=_
   rw [this]
  refine wg_call (args:=[tm 39,tm 40]) (vs:=#[v,v7]) (y1 _ (by simp only [qa_];exact hs7') (by rw [gpo (by omega),gpo (by omega),gpe (by simp only [qa_];omega)])) hSE ?_ (hS w7 v v7 bs bs (hvb.keep hk7) hvb7 hbl) fun e w8 hR8=>⟨_,hR8.1,?_⟩
  ·simp only [List.map_cons,List.map_nil,qb_]
   rw [gpo (by omega),gpe (by simp only [qa_];omega),gpe (by simp only [qa_];omega)]
  refine wl_pick (b:=true) (by rw [qb_,gpo (by omega),gpo (by omega),gpo (by omega),gpe (by simp only [qa_];omega)]) ?_
  rw [if_pos rfl,qb_,gpe (by simp only [qa_];omega)]
  refine qg_ (wpList_nil (qh_ (.ret ⟨?_,?_,hk15.trans (hk7.trans hR8.2)⟩)))
  ·simp only [qf_];rw [hd7,hd6]
  ·rw [zd_,gpe (by simp only [qa_];omega),qb_,gpe (by simp only [qa_];omega)]
   simp
end
structure St (n:Nat) (a:Act) (l:List (Nat × Value)):Prop where
 size:a.tmps.size=n
 defers:a.defers=[]
 get:∀ i v,l.lookup i=some v->a.get i=v
def Hd (l:List (Nat × Value)) (x:Operand) (v:Value):Prop:=∀ (n:Nat) (a:Act),St n a l->a.eval x=v
section
variable {P:Program} {ops:Array Oper} {Q:Exit->Act->World->Prop} {r:List Oper} {n:Nat} {a:Act} {w:World} {l:List (Nat × Value)}
theorem Hd.t {i:Nat} {v:Value} (h:l.lookup i=some v):Hd l (tm i) v:=fun _ _ hs=>hs.get i v h
theorem Hd.c {v:Value}:Hd l (.const v) v:=fun _ _ _=>rfl
theorem St.put (h:St n a l) {d:Nat} (v:Value) (hd:d < n):St n (a.put (some d) v) ((d,v) :: l):=by
 refine ⟨by rw [qa_];exact h.size,by rw [qf_];exact h.defers,fun i x hx=>?_⟩
 simp only [List.lookup_cons] at hx
 by_cases hi:i=d
 ·subst hi
  simp only [beq_self_eq_true] at hx
  rw [gpe (by rw [h.size];exact hd)]
  exact Option.some.inj hx
 ·have:(i == d)=false:=by simp [hi]
  rw [this] at hx
  rw [zz_ _ _ _ _ hi]
  exact h.get i x hx
theorem St.sub (h:St n a l) (m:List (Nat × Value)) (hm:∀ p ∈ m,l.lookup p.1=some p.2):St n a m:=by
 refine ⟨h.size,h.defers,fun i v hv=>h.get i v ?_⟩
 have:(i,v) ∈ m:=by
  clear hm
  induction m with
  | nil=>cases hv
  | cons p m ih=>
   obtain ⟨q,u⟩:=p
   simp only [List.lookup_cons] at hv
   by_cases hi:i=q
   ·subst hi
    simp only [beq_self_eq_true] at hv
    rw [<- Option.some.inj hv]
    exact List.mem_cons_self ..
   ·have:(i == q)=false:=by simp [hi]
    rw [this] at hv
    exact List.mem_cons_of_mem _ (ih hv)
 exact hm (i,v) this
def Sub (l:List (Nat × Value)):List (Nat × Value)->Prop
 | []=>True
 | p :: m=>l.lookup p.1=some p.2/\Sub l m
theorem St.pick (h:St n a l) {m:List (Nat × Value)} (hm:Sub l m):St n a m:=h.sub m (by
 induction m with
 | nil=>intro p hp;cases hp
 | cons q m ih=>
  intro p hp
  rcases List.mem_cons.1 hp with rfl | hp
  ·exact hm.1
  ·exact ih hm.2 p hp)
theorem st_move (h:St n a l) {d:Nat} {x:Operand} {v:Value} (hx:Hd l x v) (hd:d < n) (k:∀ a',St n a' ((d,v) :: l)->wpList P ops Q r a' w):wpList P ops Q (mk (some d) (.move x) :: r) a w:=
 qd_ (k _ (by rw [hx n a h];exact h.put v hd))
theorem st_assign (h:St n a l) {d:Nat} {x:Operand} {v:Value} (hx:Hd l x v) (hd:d < n) (k:∀ a',St n a' ((d,v) :: l)->wpList P ops Q r a' w):wpList P ops Q (mk (some d) (.assign x) :: r) a w:=
 qg_ (k _ (by rw [hx n a h];exact h.put v hd))
def cmpB:BinOp->Int->Int->Bool
 | .geq,p,q=>decide (q<=p)
 | .leq,p,q=>decide (p<=q)
 | .lss,p,q=>decide (p < q)
 | .gtr,p,q=>decide (q < p)
 | .eql,p,q=>decide (p=q)
 | _,p,q=>decide (p ≠ q)
def isCmp (o:BinOp):Bool:=match o with | .geq | .leq | .lss | .gtr | .eql | .neq=>true | _=>false
theorem cmpB_ok {o:BinOp} (h:isCmp o=true) (p q:Int):(o=.geq/\cmpB o p q=decide (q<=p)) \/ (o=.leq/\cmpB o p q=decide (p<=q)) \/ (o=.lss/\cmpB o p q=decide (p < q)) \/ (o=.gtr/\cmpB o p q=decide (q < p)) \/ (o=.eql/\cmpB o p q=decide (p=q)) \/ (o=.neq/\cmpB o p q=decide (p ≠ q)):=by
 cases o <;> simp [isCmp] at h <;> simp [cmpB]
theorem st_pick (h:St n a l) {d:Nat} {x y z:Operand} {b:Bool} {u v:Value} (hx:Hd l x (.bool b)) (hy:Hd l y u) (hz:Hd l z v) (hd:d < n) (c:∀ a',St n a' ((d,if b then u else v) :: l)->wpList P ops Q r a' w) :
  wpList P ops Q (mk (some d) (.pick x y z) :: r) a w:=wl_pick (hx n a h) (by rw [hy n a h,hz n a h];exact c _ (h.put _ hd))
theorem st_extract (h:St n a l) {d i:Nat} {x:Operand} {vs:Array Value} {v:Value} (hx:Hd l x (.tuple vs)) (hv:vs[i]?=some v) (hd:d < n) (c:∀ a',St n a' ((d,v) :: l)->wpList P ops Q r a' w) :
  wpList P ops Q (mk (some d) (.extract x i) :: r) a w:=wl_extract (hx n a h) hv (c _ (h.put _ hd))
theorem st_fld (h:St n a l) {d:Nat} {x:Operand} {T k F B O off sz:Nat} {agg:Bool} (hx:Hd l x (pt B O)) (hF:zj_ P T k F off agg sz) (hd:d < n) (c:∀ a',St n a' ((d,pt B (O + off)) :: l)->wpList P ops Q r a' w) :
  wpList P ops Q (mk (some d) (.fieldAddr T x k) :: r) a w:=ju_ (hx n a h) hF (c _ (h.put _ hd))
theorem st_load1 (h:St n a l) {d:Nat} {x:Operand} {F B O sz:Nat} {v:Value} (hx:Hd l x (pt B O)) (hF:jp_ P F false sz) (hv:w.cell? ⟨B,O,none⟩=some v) (hd:d < n) (c:∀ a',St n a' ((d,v) :: l)->wpList P ops Q r a' w) :
  wpList P ops Q (mk (some d) (.load F x) :: r) a w:=q5_ (hx n a h) (hF.agg w) hv (c _ (h.put _ hd))
theorem st_loadN (h:St n a l) {d:Nat} {x:Operand} {F B O:Nat} {cs:List Value} (hx:Hd l x (pt B O)) (hF:jp_ P F true cs.length) (hv:qy_ w B O cs) (hd:d < n) (c:∀ a',St n a' ((d,.agg cs.toArray) :: l)->wpList P ops Q r a' w) :
  wpList P ops Q (mk (some d) (.load F x) :: r) a w:=wl_loadN (hx n a h) (hF.agg w) (hF.size w) (fun j v hj=>hv j v hj) (c _ (h.put _ hd))
theorem st_box (h:St n a l) {d:Nat} {x:Operand} {T:Nat} {cs:List Value} (hx:Hd l x (.agg cs.toArray)) (hd:d < n) (c:∀ a',St n a' ((d,pt w.heap.size 0) :: l)->wpList P ops Q r a' (w.alloc (.cells cs.toArray T (0,0)))) :
  wpList P ops Q (mk (some d) (.box T x) :: r) a w:=by
 refine qn_ (v:=pt w.heap.size 0) (w':=w.alloc (.cells cs.toArray T (0,0))) ?_ (c _ (h.put _ hd))
 have:=hx n a h
 simp [execOp,mk,this,Instr.box,newVar,newRow,newObj,Sem.run,pt,Value.cells]
theorem st_alloc (h:St n a l) {d:Nat} {T:Nat} {z:Value} (hz:(zeroValue T).run P w=.ok z w) (hd:d < n) (c:∀ a',St n a' ((d,pt w.heap.size 0) :: l)->wpList P ops Q r a' (w.alloc (.cells z.cells T (0,0)))) :
  wpList P ops Q (mk (some d) (.alloc T) :: r) a w:=zp_ hz (c _ (h.put _ hd))
theorem st_store (h:St n a l) {x y:Operand} {F g:Nat} {cur:Array Value} {t:Nat} {cs:List Value} {v:Value} (hx:Hd l x (pt g 0)) (hy:Hd l y v) (hv:v.cells.toList=cs) (hF:∀ w,(sizeOf F).run P w=.ok cs.length w) (hg:w.heap[g]?=some (.cells cur t (0,0))) (hs:cur.size=cs.length) (h1:∀ u ∈ cs,u.oneCell'=true)
  (c:wpList P ops Q r a (w.setRow g cs.toArray)):wpList P ops Q (mk none (.store F x y) :: r) a w:=by
 refine q8_ (vs:=cs) (hx n a h) (hy n a h) hv (hF w) hg (by omega) h1 ?_
 have:qt_ cur 0 cs=cs.toArray:=by
  apply Array.ext'
  simp [qt_,List.drop_of_length_le (show cur.toList.length<=cs.length by simp [hs])]
 rw [this];exact c
theorem st_call (h:St n a l) {d f:Nat} {args:List Operand} {vs:List Value} {R:Ending->World->Prop} (hf:Ent P f) (hargs:∀ (n:Nat) (a:Act),St n a l->args.map a.eval=vs) (hc:Calls P f vs.toArray w R) (hd:d < n)
  (c:∀ e w',R e w'->∃ v,e=.returned v/\∀ a',St n a' ((d,v) :: l)->wpList P ops Q r a' w'):wpList P ops Q (cl (some d) f args :: r) a w:=
 qv_ (vs:=vs.toArray) hf (by rw [hargs n a h]) hc fun e w' hR=>by
  obtain ⟨v,he,hk⟩:=c e w' hR
  exact ⟨v,he,hk _ (h.put _ hd)⟩
theorem st_gd (h:St n a l) {d j jd:Nat} {op:Op} {b:Bool} {v:Value} {o:Oper} (ho:ops[j]?=some o) (hod:o.dst=some jd) (hj:l.lookup jd=some (.bool b)) (hjn:jd < n) (hrun:(execOp a.eval (mk (some d) op)).run P w=.ok (.value v) w) (hd:d < n)
  (c:∀ a',St n a' ((d,v) :: l)->wpList P ops Q r a' w):wpList P ops Q (gd d op j b :: r) a w:=
 xf_ (zb_ ho hod (by rw [h.size];exact hjn) (h.get _ _ hj)) hrun (c _ (h.put _ hd))
theorem st_gskip (h:St n a l) {d j jd:Nat} {op:Op} {b b':Bool} {o:Oper} (ho:ops[j]?=some o) (hod:o.dst=some jd) (hj:l.lookup jd=some (.bool b')) (hjn:jd < n) (hb:b' ≠ b) (hd:d < n)
  (c:∀ a',St n a' ((d,undef) :: l)->wpList P ops Q r a' w):wpList P ops Q (gd d op j b :: r) a w:=
 z1_ (zb_ ho hod (by rw [h.size];exact hjn) (h.get _ _ hj)) hb (c _ (h.put _ hd))
theorem nseq {x y:Code} {R:Exit->Act->World->Prop} (h:NWP P x (Exit.then (NWP P y R) R) a w):NWP P (.seq x y) R a w:=
 .seq h (fun _ _ h=>h) (fun e a w he hq=>by rwa [zc_ he] at hq)
theorem nrg {l':List Oper} {R:Exit->Act->World->Prop} (h:wpList P l'.toArray R l' a w):NWP P (rg l') R a w:=.reg h
theorem st_if (h:St n a l) {c:Nat} {x y:Code} {b:Bool} {R:Exit->Act->World->Prop} (hc:l.lookup c=some (.bool b)) (hT:b=true->NWP P x R a w) (hF:b=false->NWP P y R a w):NWP P (.cond (tm c) x y) R a w:=by
 cases b with
 | true=>exact .condT (h.get _ _ hc) (hT rfl)
 | false=>exact .condF (h.get _ _ hc) (hF rfl)
end
section
variable {P:Program}
theorem TgRp.len {w:World} {X:Nat->Prop} {m:Value} {t:List (Nat × Bs)} (h:TgRp w X m t):(m=.map none/\t=[]) \/ ∃ (r clock:Nat) (es:List jd_),m=.map (some r)/\w.heap[r]?=some (.map (es.map jd_.entry).toArray clock)/\es.length=t.length:=by
 rcases h with h | ⟨r,rfl,_,_,⟨es,clock,f,hb,_,_,_,hp,_⟩,_⟩
 ·exact .inl h
 ·refine .inr ⟨r,clock,es,rfl,hb,?_⟩
  have:=hp.length_eq
  simpa using this
theorem wl_lenMap {tM kt et:Nat} (hM:P.underlying tM=some (.map kt et)) {ops:Array Oper} {Q:Exit->Act->World->Prop} {r:List Oper} {a:Act} {w:World} {d:Option Nat} {y:Operand} {ty:Nat} {m:Value} {X:Nat->Prop} {t:List (Nat × Bs)} (hy:a.eval y=m) (ht:TgRp w X m t)
  (h:wpList P ops Q r (a.put d (.int .i64 t.length)) w):wpList P ops Q (bi d .len [y] [tM] ty :: r) a w:=by
 refine wpList_plain rfl fun _ hK=>?_
 unfold Oper.wp
 have hx:(execOp a.eval (bi d .len [y] [tM] ty)).run P w=.ok (.value (.int .i64 t.length)) w:=by
  rcases ht.len with ⟨rfl,rfl⟩ | ⟨q,clock,es,rfl,hb,hl⟩
  ·simp [execOp,bi,resolve,invoke,hy,builtin,Builtin.len_,run_underlying hM,goInt]
  ·simp [execOp,bi,resolve,invoke,hy,builtin,Builtin.len_,run_underlying hM,goInt,getObj,Sem.run,hb,hl]
 rw [hx]
 exact hK _ _ h
theorem tlen_calls (hm:P.follows .mixedOrders=true) {K:Kn} {f ntmps tTags tM kt et:Nat} (hM:P.underlying tM=some (.map kt et)) (hF:zj_ P tTags 0 tM 0 false 1) (hfn:FnIs P f ntmps [2] (cTLen K tTags tM)) (hnt:8<=ntmps)
  {w:World} {b o:Nat} {m:Value} {X:Nat->Prop} {t:List (Nat × Bs)} (hc:w.cell? ⟨b,o,none⟩=some m) (ht:TgRp w X m t):Calls P f #[pt b o] w fun e w'=>e=.returned (.int .i64 t.length)/\Keeps (fun _=>False) w w':=by
 refine callsA hm hfn (by simp) [pt b o] (by simp;omega) fun a harg hs hd=>?_
 have g0:=harg 0 _ rfl
 refine q2_ (qc_ (qj_ (qg_ (wpList_nil ?_))))
 rw [show (ji_ 2 (.int .i64 0) 3).2=3 from rfl]
 refine qc_ (qj_ (qd_ ?_))
 rw [qb_,gpo (by omega),g0]
 refine qp_ (p:=⟨b,o,none⟩) (by rw [qb_,gpe (by simp only [qa_];omega)];rfl) ?_
 refine ju_ (by rw [qb_,gpe (by simp only [qa_];omega)]) hF ?_
 refine q5_ (p:=⟨b,o + 0,none⟩) (v:=m) (by rw [qb_,gpe (by simp only [qa_];omega)]) (hF.var.agg _) hc ?_
 refine wl_lenMap hM (by rw [qb_,gpe (by simp only [qa_];omega)]) ht (qg_ (wpList_nil (qc_ (.ret ⟨?_,?_,Keeps.refl _ _⟩))))
 ·simp only [qf_];exact hd
 ·rw [show zl_ [2] _=Act.get _ 2 from rfl,gpe (by simp only [qa_];omega),qb_,gpe (by simp only [qa_];omega)]
end
end Go.Proofs.YtlmanancakaapaaGreatDoor.Kx

namespace Go.Proofs.YtlmanancakaapaaGreatDoor.Kx
open Go Go.MapKept
section
variable {P:Program} {w:World}
def z8_ (k:Nat):Value:=.int .u32 (k:Int)
theorem run_mapGet {mty kt et r clock key j:Nat} {es:List jd_} {e:jd_} (hm:P.underlying mty=some (.map kt et)) (hd:P.underlying kt=some (.int .u32)) (hb:w.heap[r]?=some (.map (es.map jd_.entry).toArray clock)) (hn:(es.map jd_.key).Nodup) (hj:es[j]?=some e) (hk:e.key=key) :
  (Instr.lookup mty (.map (some r)) (z8_ key) false).run P w=.ok e.val w:=by
 have hks:∀ x ∈ (es.map jd_.entry).toArray.toList,IsKey (.int .u32) x.key:=by
  intro x hx
  simp only [List.mem_map] at hx
  obtain ⟨e,_,rfl⟩:=hx
  exact isKey_u32 e.key
 rcases findNow_spec (isKey_u32 key) (es.map jd_.entry).toArray.toList 0 hks with ⟨h1,h2⟩ | ⟨j',e',h1,h2,h3⟩
 ·have:=h2 e.entry (by simp;exact ⟨e,List.mem_of_getElem? hj,rfl⟩)
  simp [jd_.entry,hk] at this
 ·have h2':(es[j']?).map jd_.entry=some e':=by simpa using h2
  obtain ⟨e1,he1,rfl⟩:=Option.map_eq_some_iff.1 h2'
  have hk1:e1.key=key:=by
   simp only [jd_.entry,Value.int.injEq,true_and] at h3
   omega
  have hje:j'=j:=by
   have a1:(es.map jd_.key)[j']?=some key:=by rw [List.getElem?_map,he1];simp [hk1]
   have a2:(es.map jd_.key)[j]?=some key:=by rw [List.getElem?_map,hj];simp [hk]
   have hlt:=(List.getElem?_eq_some_iff.1 a1).1
   exact (List.getElem?_inj hlt hn).1 (a1.trans a2.symm)
  subst hje
  obtain rfl:=Option.some.inj (he1.symm.trans hj)
  have h1':Instr.findNow (.int .u32) (.int .u32 (key:Int)) (es.map jd_.entry).toArray.toList 0=some (some (0 + j',e1.entry.val)):=h1
  simp [Instr.lookup,z8_,run_underlying hm,MapKept.run_getObj_map hb,MapKept.run_checkKey hd (isKey_u32 key),MapKept.run_findKey hd h1',jd_.entry]
theorem run_append_room {tS te G n:Nat} {cur:Array Value} {v:Value} {X c x:Nat} {ty:TypeId} (hS:P.underlying tS=some (.slice te)) (hi:∃ i,P.info? te=some i/\i.size=1) (hG:w.heap[G]?=some (.cells cur te (0,0))) (hcs:cur.size=n) (hx:x < n) (hX:w.cell? ⟨X,0,none⟩=some v) (hv:v.oneCell'=true) :
  (Builtin.append_ #[tS,tS] ty #[.slice (some ⟨G,0,none⟩) x n,.slice (some ⟨X,0,none⟩) 1 c]).run P w=.ok (.slice (some ⟨G,0,none⟩) (x + 1) n) (w.setRow G (cur.setIfInBounds x v)):=by
 obtain ⟨i,hi,hsz⟩:=hi
 have hs:Src P 1 tS (.slice (some ⟨X,0,none⟩) 1 c) 1 [v] w:=Src.ofSlice w hS ⟨X,0,none⟩ 1 c [v] (by simp) (fun j u hj=>by
  cases j with
  | zero=>simp at hj;subst hj;simpa [Addr.add_lit] using hX
  | succ j=>simp at hj) (by simpa using hv)
 have hst:=run_storeCells_at P G x te [v] 0 cur w hG (by simp;omega) hs.one
 simp only [Nat.add_zero] at hst
 have hroom:x + 1<=n:=by omega
 have e1:qt_ cur x [v]=cur.setIfInBounds x v:=splice_one (by omega)
 rw [<- e1]
 simp [Builtin.append_,run_underlying hS,sizeOf,typeInfo,hi,hsz,hs.len,hroom,hs.cells,Addr.add_lit,hst,qt_]
theorem wl_callFn {ops:Array Oper} {Q:Exit->Act->World->Prop} {r:List Oper} {a:Act} {d:Option Nat} {f:Nat} {y:Operand} {args:List Operand} {vs cap:Array Value} {R:Ending->World->Prop} (hf:Ent P f) (hy:a.eval y=.func (.func f) #[] cap) (hargs:(args.map a.eval).toArray=vs)
  (hc:Calls P f (vs++cap) w R) (h:∀ e w',R e w'->∃ v,e=.returned v/\wpList P ops Q r (a.put d v) w'):wpList P ops Q (mk d (.call ⟨.value y,args.toArray,#[]⟩) :: r) a w:=by
 refine wl_intro ?_
 unfold Oper.wp
 have:(execOp a.eval (mk d (.call ⟨.value y,args.toArray,#[]⟩))).run P w=.ok (.enter f (vs++cap)) w:=by
  simp only [execOp,mk,resolve,hy,Deferred.ofValue,invoke,Sem.run_bind,Sem.run_pure,Result.andThen_ok,Array.empty_append,List.map_toArray,hargs]
  exact hf _ _
 rw [this]
 exact hc.mono fun e w' hR=>by
  obtain ⟨v,rfl,hh⟩:=h e w' hR
  exact hh
end
end Go.Proofs.YtlmanancakaapaaGreatDoor.Kx

namespace Go.Proofs.YtlmanancakaapaaGreatDoor.Kx
open Go Go.ChangeMaps
section
variable {P:Program}
theorem gp {a:Act} {d i:Nat} {v:Value} (h:d < a.tmps.size):(a.put (some d) v).get i=if i=d then v else a.get i:=by
 by_cases hi:i=d
 ·rw [if_pos hi,hi];exact zw_ _ _ _ h
 ·rw [if_neg hi];exact zz_ _ _ _ _ hi
structure TF (P:Program) (T:TN):Prop where
 map:∃ kt et,P.underlying T.tM=some (.map kt et)/\P.underlying kt=some (.int .u32)
 fld:zj_ P T.tTags 0 T.tM 0 false 1
 sl:P.underlying T.tKs=some (.slice T.tU32)
 info:∃ i z,P.info? T.tU32=some i/\i.zero=some z/\i.size=1/\i.bytes=4
 vU:jp_ P T.tU32 false 1
 vK:jp_ P T.tKs false 1
 zK:∀ w,(zeroValue T.tKs).run P w=.ok (.slice none 0 0) w
 dInt:P.underlying T.tInt=some (.int .i64)
 dU32:P.underlying T.tU32=some (.int .u32)
structure Gath (T:TN) (w0:World) (q it V G clock:Nat) (es L:List jd_) (w:World):Prop where
 keeps:Keeps (fun _=>False) w0 w
 mp:w.heap[q]?=some (.map (es.map jd_.entry).toArray clock)
 iter:w.heap[it]?=some (.mapIter (some q) clock (L.map jd_.born).toArray clock)
 box:w.heap[V]?=some (.cells #[.slice (some ⟨G,0,none⟩) L.length es.length] T.tKs (0,0))
 row:∃ cur,w.heap[G]?=some (.cells cur T.tU32 (0,0))/\cur.size=es.length/\∀ (i:Nat) (e:jd_),L[i]?=some e->cur[i]?=some (z8_ e.key)
 sub:∀ e ∈ L,e ∈ es
 nod:(L.map jd_.born).Nodup
 new:w0.heap.size<=V/\w0.heap.size<=G/\w0.heap.size<=it/\V ≠ G/\V ≠ it/\G ≠ it/\q < w0.heap.size
theorem heap_set_self {w:World} {b:Nat} {o:Obj} (h:b < w.heap.size):(setBlock w b o).heap[b]?=some o:=by
 show (w.heap.setIfInBounds b o)[b]?=some o
 rw [Array.getElem?_setIfInBounds,if_pos rfl,if_pos h]
theorem heap_set_ne {w:World} {b k:Nat} {o:Obj} (h:k ≠ b):(setBlock w b o).heap[k]?=w.heap[k]?:=by
 show (w.heap.setIfInBounds b o)[k]?=_
 rw [Array.getElem?_setIfInBounds,if_neg (fun e=>h e.symm)]
theorem keeps_set {X:Nat->Prop} {w:World} {b:Nat} {o:Obj} (h:X b):Keeps X w (setBlock w b o):=
 ⟨rfl,rfl,rfl,by show w.heap.size<=(w.heap.setIfInBounds b o).size;simp,fun _ _ hx=>heap_set_ne fun e=>hx (e ▸ h)⟩
theorem Gath.le {T:TN} {w0:World} {q it V G clock:Nat} {es L:List jd_} {w:World} (h:Gath T w0 q it V G clock es L w)    :L.length<=es.length:=by
 have key:∀ (l m:List Nat),l.Nodup->(∀ x ∈ l,x ∈ m)->l.length<=m.length:=by
  intro l
  induction l with
  | nil=>intro m _ _;simp
  | cons a l ih=>
   intro m hl hs
   obtain ⟨h1,h2⟩:=List.nodup_cons.1 hl
   have hm:a ∈ m:=hs a (by simp)
   have:=ih (m.erase a) h2 fun x hx=>(List.mem_erase_of_ne (fun e=>h1 (by rw [<- e];exact hx))).2 (hs x (by simp [hx]))
   rw [List.length_erase_of_mem hm] at this
   have:=List.length_pos_of_mem hm
   simp only [List.length_cons]
   omega
 have h1:=key (L.map jd_.born) (es.map jd_.born) h.nod fun x hx=>by
  obtain ⟨e,he,rfl⟩:=List.mem_map.1 hx
  exact List.mem_map.2 ⟨e,h.sub e he,rfl⟩
 simpa using h1
theorem Gath.next {T:TN} {w0:World} {q it V G clock:Nat} {es L:List jd_} {w:World} (h:Gath T w0 q it V G clock es L w) (hb:∀ e ∈ es,e.born < clock) (ty:TypeId) :
  ((∀ e ∈ es,e.born ∈ L.map jd_.born)/\(Instr.next (pt it 0) false ty).run P w=.ok (.tuple #[.bool false]) w) \/
  ∃ e ∈ es,e.born ∉ L.map jd_.born/\∃ w1,(w1=w \/ w1=w.drew)/\(Instr.next (pt it 0) false ty).run P w=.ok (.tuple #[.bool true,z8_ e.key,e.val]) (setBlock w1 it (.mapIter (some q) clock ((L++[e]).map jd_.born).toArray clock)):=by
 rcases run_next_at (P:=P) w ty it q clock clock _ _ clock h.iter h.mp (fun x hx=>by
  simp only [List.mem_map] at hx
  obtain ⟨e,he,rfl⟩:=hx
  exact hb e he) (Nat.le_refl _) with ⟨h0,hr⟩ | ⟨e,he,w1,hw1,hr⟩
 ·refine .inl ⟨fun e he=>?_,hr⟩
  have h1:leftOf (es.map jd_.entry).toArray (L.map jd_.born).toArray=#[]:=Array.eq_empty_of_size_eq_zero h0
  unfold leftOf at h1
  rw [Array.filter_eq_empty_iff] at h1
  have:=h1 e.entry (by simpa using ⟨e,he,rfl⟩)
  simpa [jd_.entry] using this
 ·unfold leftOf at he
  have he':e ∈ (es.map jd_.entry).toArray/\(!(L.map jd_.born).toArray.contains e.born)=true:=by
   have:=Array.mem_def.2 he
   simpa using this
  obtain ⟨hm,hc⟩:=he'
  simp only [List.mem_toArray,List.mem_map] at hm
  obtain ⟨e1,he1,rfl⟩:=hm
  refine .inr ⟨e1,he1,?_,w1,hw1,?_⟩
  ·simpa [jd_.entry] using hc
  ·rw [show pt it 0=.pointer (some ⟨it,0,none⟩) from rfl,hr]
   simp [jd_.entry,z8_]
end
end Go.Proofs.YtlmanancakaapaaGreatDoor.Kx

namespace Go.Proofs.YtlmanancakaapaaGreatDoor.Kx
open Go Go.ChangeMaps
section
variable {P:Program}
def SortOk (P:Program) (T:TN):Prop:=
 Ent P T.fSort/\∀ (w:World) (V G n:Nat) (ks:List Nat) (cur:Array Value),ks.length=n->n < 4611686018427387904->(∀ x ∈ ks,x < 4294967296)->w.heap[V]?=some (.cells #[.slice (some ⟨G,0,none⟩) n n] T.tKs (0,0))->w.heap[G]?=some (.cells cur T.tU32 (0,0))->cur.size=n->V ≠ G ->
  (∀ (i:Nat) (x:Nat),ks[i]?=some x->cur[i]?=some (z8_ x)) ->
  Calls P T.fSort #[.iface T.tKs (.slice (some ⟨G,0,none⟩) n n),.func (.func T.fLess) #[] #[pt V 0]] w fun e w'=>e=.returned (.tuple #[])/\Keeps (fun k=>k=G) w w' /\
   ∃ (cur':Array Value) (ks':List Nat),w'.heap[G]?=some (.cells cur' T.tU32 (0,0))/\ks'.Perm ks/\ks'.Pairwise (·<=·)/\∀ (i:Nat) (x:Nat),ks'[i]?=some x->cur'[i]?=some (z8_ x)
theorem born_one:∀ {es:List jd_},(es.map jd_.born).Nodup->∀ x ∈ es,∀ y ∈ es,x.born=y.born->x=y
 | [],_,_,hx,_,_,_=>by simp at hx
 | a :: r,hn,x,hx,y,hy,h=>by
  simp only [List.map_cons,List.nodup_cons,List.mem_map,not_exists,not_and] at hn
  rcases List.mem_cons.1 hx with ex | hx'
  ·rcases List.mem_cons.1 hy with ey | hy'
   ·rw [ex,ey]
   ·exact absurd (by rw [<- h,ex]) (hn.1 y hy')
  ·rcases List.mem_cons.1 hy with ey | hy'
   ·exact absurd (by rw [h,ey]) (hn.1 x hx')
   ·exact born_one hn.2 x hx' y hy' h
theorem perm_of_sub:∀ (l m:List jd_),(l.map jd_.born).Nodup->(m.map jd_.born).Nodup->(∀ x ∈ l,x ∈ m)->(∀ x ∈ m,x.born ∈ l.map jd_.born)->(l.map jd_.key).Perm (m.map jd_.key):=by
 intro l
 induction l with
 | nil=>
  intro m _ _ _ hm
  cases m with
  | nil=>exact .refl _
  | cons a r=>have:=hm a (by simp);simp at this
 | cons a l ih=>
  intro m hl hmn hs hm
  simp only [List.map_cons,List.nodup_cons] at hl
  have ha:a ∈ m:=hs a (by simp)
  obtain ⟨m1,m2,rfl⟩:=List.append_of_mem ha
  have hp:(m1++a :: m2).Perm (a :: (m1++m2)):=List.perm_middle
  have hmn':((a :: (m1++m2)).map jd_.born).Nodup:=(hp.map jd_.born).nodup_iff.1 hmn
  simp only [List.map_cons,List.nodup_cons] at hmn'
  refine .trans ?_ (hp.map jd_.key).symm
  simp only [List.map_cons]
  refine List.Perm.cons _ (ih (m1++m2) hl.2 hmn'.2 (fun x hx=>?_) fun x hx=>?_)
  ·have:=(hp.mem_iff).1 (hs x (by simp [hx]))
   rcases List.mem_cons.1 this with e | h
   ·exact absurd (List.mem_map.2 ⟨x,hx,by rw [e]⟩) hl.1
   ·exact h
  ·have:=hm x (hp.mem_iff.2 (by simp only [List.mem_cons];exact .inr hx))
   simp only [List.map_cons,List.mem_cons] at this
   rcases this with e | h
   ·exact absurd (List.mem_map.2 ⟨x,hx,e⟩) hmn'.1
   ·exact h
theorem rising_le {l:List (Nat × Bs)} (h:xe_ l):(l.map (·.1)).Pairwise (·<=·):=by
 induction l with
 | nil=>simp
 | cons a r ih=>
  cases r with
  | nil=>simp
  | cons b r=>
   simp only [xe_] at h
   have hr:=ih h.2
   simp only [List.map_cons,List.pairwise_cons] at hr ⊢
   refine ⟨fun x hx=>?_,hr⟩
   simp only [List.mem_cons] at hx
   rcases hx with rfl | hx
   ·omega
   ·have:=hr.1 x hx;omega
theorem sorted_same {l m:List Nat} (hp:l.Perm m) (hl:l.Pairwise (·<=·)) (hm:m.Pairwise (·<=·)):l=m:=
 List.Perm.eq_of_pairwise (le:=(·<=·)) (fun _ _ _ _ h1 h2=>Nat.le_antisymm h1 h2) hl hm hp
theorem wl_ldMap {T:TN} (tf:TF P T) {ops:Array Oper} {Q:Exit->Act->World->Prop} {r:List Oper} {a:Act} {w:World} {b o n:Nat} {m:Value} (h0:a.get 0=pt b o) (hc:w.cell? ⟨b,o,none⟩=some m) (_hn:0 < n) (hs:n + 3 < a.tmps.size)
  (h:∀ a',(∀ i,i < n->a'.get i=a.get i)->a'.get (n + 3)=m->a'.tmps.size=a.tmps.size->a'.defers=a.defers->wpList P ops Q r a' w):wpList P ops Q (ldMap T n++r) a w:=by
 show wpList P ops Q (mk (some n) (.move (tm 0)) :: mk (some (n + 1)) (.nilCheck (tm n)) :: mk (some (n + 2)) (.fieldAddr T.tTags (tm (n + 1)) 0) :: mk (some (n + 3)) (.load T.tM (tm (n + 2))) :: r) a w
 refine qd_ ?_
 rw [qb_,h0]
 refine qp_ (p:=⟨b,o,none⟩) (by rw [qb_,gpe (by omega)];rfl) ?_
 refine ju_ (B:=b) (O:=o) (by rw [qb_,gpe (by simp only [qa_];omega)]) tf.fld ?_
 refine q5_ (p:=⟨b,o + 0,none⟩) (v:=m) (by rw [qb_,gpe (by simp only [qa_];omega)]) (tf.fld.var.agg _) hc (h _ (fun i hi=>?_) ?_ ?_ ?_)
 ·iterate 4 rw [gpo (by omega)]
 ·rw [gpe (by simp only [qa_];omega)]
 ·simp only [qa_]
 ·simp only [qf_]
end
end Go.Proofs.YtlmanancakaapaaGreatDoor.Kx
