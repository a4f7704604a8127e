/-
  PLAIN LAWS AND CONTRACTS of messages, part 12.
-/
import Derived.Test.YtpoeajgpacfpoaaGreatDoorK2
import Derived.Test.YtpoeajgpacfpoaaGreatDoorK5
import Derived.Test.YtpoeajgpacfpoaaGreatDoorK11
import Derived.Shelf.GgSortFunc.Whole
import Derived.Shelf.GgSortFunc.Tiny
import Derived.Sort.LotA
import Derived.OpenShut
import Derived.ChangeSlices

namespace Go.Proofs.YtpoeajgpacfpoaaGreatDoor.Kx
open Go
def xp (l:Bs):RS:=⟨l,false,l.isEmpty⟩
structure MsgC (P:Program)(gErr te:Nat)(kept hf:Bool)(flex:Nat)(fs:Fds)(toff:Option Nat)(T:Nat)(z:Array Value)(fN fS fR fA:Nat):Prop where
 zpos:0<z.size
 newE:Ent P fN
 newC:∀ w,Calls P fN #[] w fun e w'=>e=.returned (pt w.heap.size 0)/\ac (fun _=>False) w w'/\w'.heap[w.heap.size]?=some (.cells z T (0,0))
 setE:Ent P fS
 setC:∀ (w:World) (B:Nat) (cur:Array Value) (x:Int),w.heap[B]?=some (.cells cur T (0,0))->0<cur.size->Calls P fS #[pt B 0,.int .i16 x] w fun e w'=>e=.returned (.tuple #[])/\ac (·=B) w w'/\w'.heap[B]?=some (.cells (cur.setIfInBounds 0 (.int .i16 x)) T (0,0))
 rdE:Ent P fR
 rdC:∀ (w:World) (B S:Nat) (ver:Int) (srcv:Value) (r0:RS),w.heap[B]?=some (.cells (z.setIfInBounds 0 (.int .i16 ver)) T (0,0))->bD w S srcv r0->r0.bad=false->ErrAt gErr w->S<w.heap.size->B≠S->gErr≠B->lm hf flex fs (gY kept ver r0).1 (gY kept ver r0).2≠.stuck ->
  Calls P fR #[pt B 0,srcv] w fun e w'=>∃ x,e=.returned x/\rD fs toff B S T z.size w (gY kept ver r0).1 (lm hf flex fs (gY kept ver r0).1 (gY kept ver r0).2) x w'
 apE:Ent P fA
 apC:∀ (w:World) (B:Nat) (ver:Int) (vs:List V) (t:List (Nat × Bs)),-32768<=ver/\ver<32768->B<w.heap.size->w.cell? ⟨B,0,none⟩=some (.int .i16 ver)->RpF w (fun k=>w.heap.size<=k) fs B 0 vs->dJ w (fun k=>w.heap.size<=k) B 0 toff t->(dD kept hf flex fs ver (.st vs t)).length<=di ->
  Calls P fA #[pt B 0,aF] w fun e w'=>∃ d',e=.returned d'/\aA w' w.heap.size te d' (dD kept hf flex fs ver (.st vs t))/\ac (fun _=>False) w w'
theorem aA.sl {w:World}{L te:Nat}{d:Value}{bs:Bs}(h:aA w L te d bs):ci w (fun _=>False) d bs:=by
 rcases h with⟨rfl,rfl⟩|⟨g,c,cur,rfl,_,hg,hn,hc,hs,IP⟩
 ·exact .inl ⟨rfl,rfl⟩
 ·refine .inr ⟨g,0,c,rfl,id,(Array.getElem?_eq_some_iff.1 hg).1,hn,hc,fun i x hi=>?_⟩
  rw[Nat.zero_add]
  simp[World.cell?,hg,IP i x hi,aJ]
section
variable {P:Program} {gErr te:Nat} {kept hf:Bool} {flex:Nat} {fs:Fds} {toff:Option Nat} {T:Nat} {z:Array Value} {fN fS fR fA:Nat}
end
section
variable {P:Program} {gErr te T:Nat} {hf:Bool} {flex:Nat} {fs:Fds} {toff:Option Nat} {z:Array Value} {fN fS fR fA:Nat}
theorem msgC_of {g:G}{gw:GW}{av avw:PF->Bool}{fl flw nl:Bool}{D:Nat->Option (List (Nat × Value))}(En:Env P g av fl D)(K0:KW P gw avw flw nl te){cx cw:Cx}{fD fRf kt ktw n0 n0w ntN ntS ntR ntRf ntA v6 tI16:Nat}{nm:Nm}{ms:Nm}{zv:Value}{wr:List (Nat × Value)}
  (Ih:cx.hf=true->fl=true) (VF:cw.hf=true->flw=true) (TP:cx.hf=hf) (SE:cw.hf=hf) (hN:FnIs P fN ntN [0] (cNewPtr T fD)) (Xj:3<=ntN) (hS:FnIs P fS ntS [] (cSetV T tI16)) (hnS:8<=ntS) (hR:FnIs P fR ntR [4] (cRdF fRf)) (hnR:8<=ntR)
  (X9:FnIs P fRf ntRf [6] (gRead g cx.hf false cx fs fD T kt flex n0 nm)) (Tp:n0+17<=ntRf) (hA:FnIs P fA ntA [4] (gWrite gw false cw fs T ktw flex v6 n0w ms)) (hzv:zeroOf P T=some zv) (hD:D fD=some wr) (hz:z=applyWr zv.cells 0 wr) (hz0:0<z.size) (IR:(wr.all fun p=>decide (p.1<zv.cells.size))=true)
  (hF:eA P T 0 tI16 0 false 1=true) (hg:g.gErr=gErr) (Ku:qE ⟨P,g,av,D⟩ false cx fs fD T kt toff n0 ntRf nm z (p5 g false cx fs fD T kt flex n0 nm)=true)
  (SH:nk ⟨P,gw,avw,nl⟩ false cw fs T ktw toff v6 n0w ntA ms (jy gw false cw fs T ktw flex v6 n0w ms)=true):MsgC P gErr te false hf flex fs toff T z fN fS fR fA where
 zpos:=hz0
 newE:=hN.ent
 newC w:=by
  obtain⟨hE,OP⟩:=En.df _ _ hD
  rw[hz]
  exact qa En.kb.mixed hN Xj hzv hE OP (fun p hp=>by simpa using List.all_eq_true.1 IR p hp) w
 setE:=hS.ent
 setC w B cur x hB h0:=sj En.kb.mixed hS hnS (fldB_ok hF) hB h0
 rdE:=hR.ent
 rdC w B S ver srcv r0 hB J3 IA herr Wu Lx Oi NI:=by
  subst TP hg
  exact vu En.kb.mixed hR hnR X9.ent (Aj En Ih X9 Ku Tp hB J3 IA herr Wu Lx Oi NI)
 apE:=hA.ent
 apC w B ver vs t hver hB Ia hr ht hlim:=by
  subst SE
  exact wK K0 VF hA SH hver hB Ia hr ht hlim
end
section
open Go Go.ChangeMaps
section
variable {P:Program}
theorem q5 {tS te:Nat}(hS:P.underlying tS=some (.slice te))(hi:∃ i z,P.info? te=some i/\i.zero=some z/\i.size=1/\i.bytes=4){ops:Array Oper}{Q:Exit->Act->World->Prop}{r:List Oper}{a:Act}{w:World}{d:Option Nat}{y:Operand}{k:Nat}(hy:a.eval y=bU k)
  (h:wpList P ops Q r (a.put d (.slice (some ⟨w.heap.size,0,none⟩) 1 1)) (w.alloc (.cells #[bU k] te (0,0)))):wpList P ops Q (mk d (.buildSlice tS 1 #[(0,y)])::r) a w:=by
 obtain⟨i,z,hi,hz,Ii,_⟩:=hi
 refine aB (w':=w.alloc (.cells #[bU k] te (0,0))) ?_ h
 have JY:=l5 [bU k] 0 ((Array.range 1).map fun k=>z.cells[k%z.cells.size]!) (fun v hv=>by
  simp only[List.mem_singleton]at hv
  subst hv
  rfl) (by simp)
 rw[dy (by simp)]at JY
 simp[rK]at JY
 simp[execOp,mk,Instr.buildSlice,run_underlying hS,sizeOf,typeInfo,zeroValue,hi,hz,Ii,hy,JY,newRow,newObj,Sem.run]
theorem AJ {ops:Array Oper}{Q:Exit->Act->World->Prop}{r:List Oper}{a:Act}{w w':World}{d:Option Nat}{b:Builtin}{args:List Operand}{tys:List Nat}{ty:Nat}{v:Value}(h:(execOp a.eval (bi d b args tys ty)).run P w=.ok (.value v) w')(hk:wpList P ops Q r (a.put d v) w'):wpList P ops Q (bi d b args tys ty::r) a w:=by
 refine wpList_plain rfl fun _ hK=>?_
 unfold Oper.wp
 rw[h]
 exact hK _ _ hk
def oj (w:World)(V:Nat):Nat:=match w.heap[V]? with|some (.cells cs _ _)=>(match (cs[0]?:Option Value)with|some (.slice _ n _)=>n|_=>0)|_=>0
theorem x8 {T:TN}(tf:TF P T){w0 w:World}{q it V G clock:Nat}{es:List aI}{a:Act}{K E:Act->World->Prop}(Ui:a.get 24=pt it 0)(h4:a.get 4=pt V 0)(hs:53<=a.tmps.size)(hg:mb T w0 q it V G clock es [] w)(hb:∀ e∈es,e.born<clock)(hn:(es.map aI.born).Nodup)
  (h:∀ a' w' L,(∀ i,i<4->a'.get i=a.get i)->a'.get 4=pt V 0->a'.tmps.size=a.tmps.size->a'.defers=a.defers->mb T w0 q it V G clock es L w'->(∀ e∈es,e.born∈L.map aI.born)->K a' w'):aK P (.block 0 (r4 T)) (Rt K E) a w:=by
 have Sr:∀ L w1,mb T w0 q it V G clock es L w1->oj w1 V=L.length:=fun L w1 Ig=>by simp[oj,Ig.box]
 refine .block (.loop (fun a1 w1=>∃ L,mb T w0 q it V G clock es L w1/\(∀ i,i<4->a1.get i=a.get i)/\a1.get 4=pt V 0/\a1.get 24=pt it 0/\a1.tmps.size=a.tmps.size/\a1.defers=a.defers) (fun _ w1=>es.length-oj w1 V) ⟨[],hg,fun _ _=>rfl,h4,Ui,rfl,rfl⟩ ?_)
 rintro a1 w1 ⟨L,Ig,Ik,e4,e24,If,Ks⟩
 have lt:∀ d,d<53->d<a1.tmps.size:=fun d hd=>by omega
 have Iq:=Ig.le
 rcases Ig.next (P:=P) hb 0 with⟨LC,hr⟩|⟨e,he,Kk,w2,Ka,hr⟩
 ·-- all have come
  refine .seq (R:=Rt (fun a2 w3=>a2=(a1.put (some 25) (.tuple #[.bool false])).put (some 26) (.bool false)/\w3=w1) fun _ _=>False) (.reg ?_) (fun a2 w3 hh=>?_) (fun e a w he hq=>by cases e<;>first|exact absurd rfl he|exact hq.elim)
  ·refine aB (v:=.tuple #[.bool false]) (w':=w1) (by simp[execOp,mk,aa,e24,hr]) ?_
   refine iR (vs:=#[.bool false]) (v:=.bool false) (by rw[aa,ao (lt _ (by omega))]) rfl (wpList_nil ⟨rfl,rfl⟩)
  obtain⟨rfl,rfl⟩:=hh
  refine .seq (R:=Exit.then (fun _ _=>False) (Exit.inBlock 0 (Rt K E))) (.condF (by rw[aa,ao (by simp only[ab];exact lt _ (by omega))]) (.exit ?_)) (fun _ _ hh=>hh.elim) (fun e a w he hq=>by rw[cq he]at hq ⊢;exact hq)
  show K _ _
  refine h _ _ L (fun i hi=>?_) ?_ ?_ ?_ Ig LC
  ·rw[al (by omega),al (by omega)];exact Ik i hi
  ·rw[al (by omega),al (by omega)];exact e4
  ·simp only[ab];exact If
  ·simp only[aj];exact Ks
 ·-- one more
  have Rn:((L++[e]).map aI.born).toArray=(L.map aI.born).toArray.push e.born:=by simp
  have Ou:w2.heap=w1.heap:=by rcases Ka with rfl|rfl<;>rfl
  have Vv:ac (fun _=>False) w1 w2:=by
   rcases Ka with rfl|rfl
   ·exact ac.refl _ _
   ·exact ac.drew _ _
  obtain⟨n1,n2,n3,n4,n5,n6,n7⟩:=Ig.new
  have Id:∀ k,w1.heap[k]?≠none->k<w1.heap.size:=fun k hk=>by
   rcases Nat.lt_or_ge k w1.heap.size with h|h
   ·exact h
   ·exact absurd (Array.getElem?_eq_none h) hk
  have Sg:it<w2.heap.size:=by rw[Ou];exact Id it (by rw[Ig.iter];simp)
  generalize hW:setBlock w2 it (.mapIter (some q) clock ((L++[e]).map aI.born).toArray clock)=W at hr
  have SW:W.heap[it]?=some (.mapIter (some q) clock ((L++[e]).map aI.born).toArray clock):=by rw[<- hW];exact oA Sg
  have Q4:∀ k,k≠it->W.heap[k]?=w1.heap[k]?:=fun k hk=>by rw[<- hW,mz hk,Ou]
  have Wn:W.heap.size=w1.heap.size:=by rw[<- hW,<- Ou];show(w2.heap.setIfInBounds it _).size=_;simp
  have hKW:ac (fun k=>k=it) w1 W:=by
   rw[<- hW]
   exact(Vv.mono fun _ _ h=>h.elim).trans (vS (X:=fun k=>k=it) rfl)
  have hq:W.heap[q]?=some (.map (es.map aI.entry).toArray clock):=by rw[Q4 q (by omega)];exact Ig.mp
  obtain⟨cur,Iy,Iz,IP⟩:=Ig.row
  have XJ:W.heap[G]?=some (.cells cur T.tU32 (0,0)):=by rw[Q4 G n6];exact Iy
  have X6:W.heap[V]?=some (.cells #[.slice (some ⟨G,0,none⟩) L.length es.length] T.tKs (0,0)):=by rw[Q4 V n5];exact Ig.box
  have Px:G<W.heap.size:=by rw[Wn];exact Id G (by rw[Iy];simp)
  have Wp:V<W.heap.size:=by rw[Wn];exact Id V (by rw[Ig.box];simp)
  have RB:((L++[e]).map aI.born).Nodup:=by
   rw[List.map_append,List.nodup_append]
   refine⟨Ig.nod,by simp,fun x hx y hy=>?_⟩
   simp only[List.map_cons,List.map_nil,List.mem_singleton]at hy
   subst hy
   exact fun Uk=>Kk (Uk ▸ hx)
  have Ky:∀ x∈L++[e],x∈es:=fun x hx=>by
   rcases List.mem_append.1 hx with hx|hx
   ·exact Ig.sub x hx
   ·simp only[List.mem_singleton]at hx;subst hx;exact he
  have Ib:L.length+1<=es.length:=by
   have I0:mb T w0 q it V G clock es [] w:=hg
   have:=mb.le (T:=T) (w0:=w) (q:=q) (it:=it) (V:=V) (G:=G) (clock:=clock) (es:=es) (L:=L++[e])
    (w:=setBlock (setBlock w2 it (.mapIter (some q) clock ((L++[e]).map aI.born).toArray clock)) V (.cells #[.slice (some ⟨G,0,none⟩) (L++[e]).length es.length] T.tKs (0,0)))
   clear this I0
   have key:∀ (l m:List Nat),l.Nodup->(∀ x∈l,x∈m)->l.length<=m.length:=by
    intro l
    induction l with
    | nil=>intro m _ _;simp
    | cons a l ih=>
     intro m hl hs
     obtain⟨h1,h2⟩:=List.nodup_cons.1 hl
     have hm:a∈m:=hs a (by simp)
     have:=ih (m.erase a) h2 fun x hx=>(List.mem_erase_of_ne (fun e=>h1 (by rw[<- e];exact hx))).2 (hs x (by simp[hx]))
     rw[List.length_erase_of_mem hm]at this
     have:=List.length_pos_of_mem hm
     simp only[List.length_cons]
     omega
   have:=key ((L++[e]).map aI.born) (es.map aI.born) RB fun x hx=>by
    obtain⟨y,hy,rfl⟩:=List.mem_map.1 hx
    exact List.mem_map.2 ⟨y,Ky y hy,rfl⟩
   simpa using this
  refine .seq (R:=Rt (fun a2 w3=>a2=(a1.put (some 25) (.tuple #[.bool true,bU e.key,e.val])).put (some 26) (.bool true)/\w3=W) fun _ _=>False) (.reg ?_) (fun a2 w3 hh=>?_) (fun e a w he hq=>by cases e<;>first|exact absurd rfl he|exact hq.elim)
  ·refine aB (v:=.tuple #[.bool true,bU e.key,e.val]) (w':=W) (by simp[execOp,mk,aa,e24,hr]) ?_
   refine iR (vs:=#[.bool true,bU e.key,e.val]) (v:=.bool true) (by rw[aa,ao (lt _ (by omega))]) rfl (wpList_nil ⟨rfl,rfl⟩)
  obtain⟨rfl,rfl⟩:=hh
  refine .seq (R:=Rt (fun a' w'=>a'=(a1.put (some 25) (.tuple #[.bool true,bU e.key,e.val])).put (some 26) (.bool true)/\w'=w3) fun _ _=>False) (.condT (by rw[aa,ao (by simp only[ab];exact lt _ (by omega))]) (.skip ⟨rfl,rfl⟩)) (fun a2 w4 hh=>?_) (fun e a w he hq=>by cases e<;>first|exact absurd rfl he|exact hq.elim)
  obtain⟨rfl,rfl⟩:=hh
  refine .block ?_
  unfold r6
  have VO:(Instr.entry (pt it 0)).run P w4=.ok (.tuple #[bU e.key,e.val]) w4:=by
   have:=run_entry_at (P:=P) w4 it q clock (L.map aI.born).toArray (es.map aI.entry).toArray clock e.entry (by rw[SW,Rn];rfl) hq (by simpa using⟨e,he,rfl⟩) (by
    have e1:((es.map aI.entry).toArray.toList.map (·.born))=es.map aI.born:=by simp[aI.entry,Function.comp_def]
    rw[e1];exact hn)
   simpa[pt,aI.entry,bU]using this
  refine .seq (R:=Rt (fun a3 w5=>(∀ i,i<4->a3.get i=a.get i)/\a3.get 4=pt V 0/\a3.get 24=pt it 0/\a3.get 5=bU e.key/\a3.tmps.size=a.tmps.size/\a3.defers=a.defers/\w5=w4) fun _ _=>False) (.reg ?_) (fun a3 w5 hh=>?_) (fun e a w he hq=>by cases e<;>first|exact absurd rfl he|exact hq.elim)
  ·refine aB (v:=.tuple #[bU e.key,e.val]) (w':=w4) (by simp[execOp,mk,aa,gp,lt,ab,e24,VO]) ?_
   refine iR (vs:=#[bU e.key,e.val]) (v:=bU e.key) (by simp[aa,gp,lt,ab]) rfl (ak (wpList_nil ⟨fun i hi=>?_,?_,?_,?_,?_,?_,rfl⟩))
   ·iterate 5 rw[al (by omega)]
    exact Ik i hi
   ·iterate 5 rw[al (by omega)]
    exact e4
   ·iterate 5 rw[al (by omega)]
    exact e24
   ·simp[aa,gp,lt,ab]
   ·simp only[ab];exact If
   ·simp only[aj];exact Ks
  obtain⟨f0,f4,f24,f5,fs,fd,rfl⟩:=hh
  have lt3:∀ d,d<53->d<a3.tmps.size:=fun d hd=>by omega
  refine .reg ?_
  refine bg (p:=⟨V,0,none⟩) (v:=.slice (some ⟨G,0,none⟩) L.length es.length) (by rw[aa,f4];rfl) (tf.vK.agg _) (by simp[World.cell?,X6]) (ah ?_)
  rw[aa,al (by omega),f5]
  refine q5 tf.sl tf.info (k:=e.key) (by simp[aa,gp,lt3,ab]) ?_
  have SX:∀ k,k<w5.heap.size->(w5.alloc (.cells #[bU e.key] T.tU32 (0,0))).heap[k]?=w5.heap[k]?:=fun k hk=>bu hk
  have Wk:=mA (P:=P) (w:=w5.alloc (.cells #[bU e.key] T.tU32 (0,0))) (tS:=T.tKs) (te:=T.tU32) (G:=G) (n:=es.length) (cur:=cur) (v:=bU e.key) (X:=w5.heap.size) (c:=1) (x:=L.length) (ty:=T.tKs) tf.sl
   (by obtain⟨i,_,h1,_,h2,_⟩:=tf.info;exact⟨i,h1,h2⟩) (by rw[SX G Px];exact XJ) Iz (by omega) (by
    have hn:=aE w5 (.cells #[bU e.key] T.tU32 (0,0))
    simp only[World.cell?,hn]
    rfl) rfl
  refine AJ (v:=.slice (some ⟨G,0,none⟩) (L.length+1) es.length) (w':=(w5.alloc (.cells #[bU e.key] T.tU32 (0,0))).setRow G (cur.setIfInBounds L.length (bU e.key))) ?_ ?_
  ·have e29:Act.eval ((((a3.put (some 29) (.slice (some ⟨G,0,none⟩) L.length es.length)).put (some 30) (bU e.key)).put (some 31) (.slice (some ⟨w5.heap.size,0,none⟩) 1 1))) (tm 29)=.slice (some ⟨G,0,none⟩) L.length es.length:=by simp[aa,gp,lt3,ab]
   have e31:Act.eval ((((a3.put (some 29) (.slice (some ⟨G,0,none⟩) L.length es.length)).put (some 30) (bU e.key)).put (some 31) (.slice (some ⟨w5.heap.size,0,none⟩) 1 1))) (tm 31)=.slice (some ⟨w5.heap.size,0,none⟩) 1 1:=by simp[aa,gp,lt3,ab]
   simp[execOp,bi,resolve,invoke,e29,e31,builtin,Wk]
  generalize hW5:(w5.alloc (.cells #[bU e.key] T.tU32 (0,0))).setRow G (cur.setIfInBounds L.length (bU e.key))=W5
  have Tj:ac (fun k=>k=G) w5 W5:=by
   rw[<- hW5]
   exact(ac.alloc _ _ _).trans (ac.setRow _ _ _ _ rfl)
  have X7:W5.heap[V]?=some (.cells #[.slice (some ⟨G,0,none⟩) L.length es.length] T.tKs (0,0)):=by rw[Tj.block V Wp n4];exact X6
  have W2:W5.heap[G]?=some (.cells (cur.setIfInBounds L.length (bU e.key)) T.tU32 (0,0)):=by
   rw[<- hW5]
   exact setRow_heap _ _ _ _ _ _ (by rw[SX G Px];exact XJ)
  refine bm (g:=V) (o:=0) (cur:=#[.slice (some ⟨G,0,none⟩) L.length es.length]) (t:=T.tKs) (v:=.slice (some ⟨G,0,none⟩) (L.length+1) es.length) (vs:=[.slice (some ⟨G,0,none⟩) (L.length+1) es.length]) (by simp[aa,gp,lt3,ab,f4,pt]) (by simp[aa,gp,lt3,ab]) rfl (tf.vK.size _) X7 (by simp) (by simp[Value.oneCell']) (wpList_nil ?_)
  have e1:aD #[.slice (some ⟨G,0,none⟩) L.length es.length] 0 [.slice (some ⟨G,0,none⟩) (L.length+1) es.length]=#[.slice (some ⟨G,0,none⟩) (L.length+1) es.length]:=by simp[aD]
  rw[e1]
  have Ub:ac (fun k=>k=V) W5 (W5.setRow V #[.slice (some ⟨G,0,none⟩) (L.length+1) es.length]):=ac.setRow _ _ _ _ rfl
  have N2:=Tj.size
  have Oh:mb T w0 q it V G clock es (L++[e]) (W5.setRow V #[.slice (some ⟨G,0,none⟩) (L.length+1) es.length]):=by
   refine⟨?_,?_,?_,?_,⟨cur.setIfInBounds L.length (bU e.key),?_,by simp[Iz],fun i x hx=>?_⟩,Ky,RB,Ig.new⟩
   ·have h3:ac (fun k=>w0.heap.size<=k) w0 w1:=Ig.keeps.mono fun _ _ h=>h.elim
    have h4:ac (fun k=>w0.heap.size<=k) w1 (W5.setRow V #[.slice (some ⟨G,0,none⟩) (L.length+1) es.length]):=((hKW.mono fun k _ hk=>by omega).trans (Tj.mono fun k _ hk=>by omega)).trans (Ub.mono fun k _ hk=>by omega)
    exact(h3.trans h4).mono fun k hk hX=>by omega
   ·rw[Ub.block q (by omega) (by omega),Tj.block q (by omega) (by omega)];exact hq
   ·have:it<w5.heap.size:=by rw[Wn,<- Ou];exact Sg
    rw[Ub.block it (by omega) (fun h=>n5 h.symm),Tj.block it this (fun h=>n6 h.symm)];exact SW
   ·rw[List.length_append];exact setRow_heap _ _ _ _ _ _ X7
   ·rw[Ub.block G (by omega) (fun h=>n4 h.symm)];exact W2
   ·by_cases hi:i<L.length
    ·rw[Array.getElem?_setIfInBounds,if_neg (by omega)]
     rw[List.getElem?_append_left hi]at hx
     exact IP i x hx
    ·rw[List.getElem?_append_right (by omega)]at hx
     have Sk:i-L.length=0:=by
      have:=(List.getElem?_eq_some_iff.1 hx).1
      simp at this
      omega
     rw[Sk]at hx
     obtain rfl:e=x:=by simpa using hx
     rw[show i=L.length by omega,Array.getElem?_setIfInBounds,if_pos rfl,if_pos (by omega)]
  show(∃ L,_)/\_
  refine⟨⟨L++[e],Oh,fun i hi=>?_,?_,?_,?_,?_⟩,?_⟩
  ·iterate 4 rw[al (by omega)]
   exact f0 i hi
  ·iterate 4 rw[al (by omega)]
   exact f4
  ·iterate 4 rw[al (by omega)]
   exact f24
  ·simp only[ab];exact fs
  ·simp only[aj];exact fd
  ·show es.length-oj _ V<es.length-oj w1 V
   rw[Sr _ _ Oh,Sr _ _ Ig,List.length_append]
   simp only[List.length_cons,List.length_nil]
   omega
end
end
section
open Go Go.ChangeMaps
section
variable {P:Program}
theorem Aa {T:TN}(tf:TF P T){a:Act}{w:World}{b o n G L sz0 s1 fC:Nat}{cap:Array Value}{m:Value}{t:List (Nat × Bs)}{I:Nat->World->Prop}{K E:Act->World->Prop}(h0:a.get 0=pt b o)(h1:a.get 1=.func (.func fC) #[] cap)(h37:a.get 37=.slice (some ⟨G,0,none⟩) n n)
  (h38:a.get 38=.int .i64 (n:Int)) (h39:a.get 39=.int .i64 ((0:Nat):Int)) (hs:53<=a.tmps.size) (hn:n=t.length) (hn63:n<4611686018427387904) (hG:∃ cur,w.heap[G]?=some (.cells cur T.tU32 (0,0))/\∀ (i:Nat) (p:Nat × Bs),t[i]?=some p->cur[i]?=some (bU p.1)) (hGs:sz0<=G/\G<s1)
  (Nr:b<sz0) (_hLs:L<=sz0) (_hs1:sz0<=s1) (Ia:w.cell? ⟨b,o,none⟩=some m) (ht:cF w (fun k=>L<=k) m t) (hI:I 0 w) (W7:Ent P fC)
  (hC:∀ (j:Nat) (w1:World) (k:Nat) (l:Bs) (v:Value),t[j]?=some (k,l)->I j w1->ci w1 (fun x=>L<=x) v l->Calls P fC (#[.int .u32 (k:Int),v]++cap) w1 fun e w2=>e=.returned (.tuple #[])/\I (j+1) w2/\ac (fun x=>(L<=x/\x<sz0/\x≠b) \/ s1<=x) w1 w2)
  (h:∀ a' w',a'.tmps.size=a.tmps.size->a'.defers=a.defers->I n w'->K a' w'):aK P (.block 2 (pg T)) (Rt K E) a w:=by
 obtain⟨cur,hG,IP⟩:=hG
 refine .block (.loop (fun a1 w1=>∃ j:Nat,j<=n/\a1.get 0=pt b o/\a1.get 1=.func (.func fC) #[] cap/\a1.get 37=.slice (some ⟨G,0,none⟩) n n/\a1.get 38=.int .i64 (n:Int)/\a1.get 39=.int .i64 (j:Int)/\a1.tmps.size=a.tmps.size/\a1.defers=a.defers /\
   w1.heap[G]?=some (.cells cur T.tU32 (0,0))/\w1.cell? ⟨b,o,none⟩=some m/\cF w1 (fun k=>L<=k) m t/\I j w1) (fun a1 _=>((n:Int)-(match a1.get 39 with|.int _ q=>q|_=>0)).toNat) ⟨0,by omega,h0,h1,h37,h38,h39,rfl,rfl,hG,Ia,ht,hI⟩ ?_)
 rintro a1 w1 ⟨j,hj,e0,e1,e37,e38,e39,es,ed,eG,ec,et,eI⟩
 have lt:∀ d,d<53->d<a1.tmps.size:=fun d hd=>by omega
 have Ip:∀ (bb:Bool) (Q:Act->World->Prop),bb=decide ((j:Int)<(n:Int))->aK P (rg [mk (some 40) (.binOp .lss T.tInt (tm 39) (tm 38) 0)]) (Rt (fun a' w'=>a'=a1.put (some 40) (.bool bb)/\w'=w1) Q) a1 w1:=by
  intro bb Q JT
  exact .reg (bk (b:=bb) (p:=j) (q:=n) (k:=.i64) e39 e38 (.inr (.inr (.inl ⟨rfl,JT⟩))) (wpList_nil ⟨rfl,rfl⟩))
 by_cases Id:j<n
 ·refine .seq (Ip true (fun _ _=>False) (by simp[Id])) (fun a2 w2 hh=>?_) (fun e a w he hq=>by cases e<;>first|exact absurd rfl he|exact hq.elim)
  obtain⟨rfl,rfl⟩:=hh
  refine .seq (R:=Rt (fun a' w'=>a'=a1.put (some 40) (.bool true)/\w'=w2) fun _ _=>False) (.condT (by rw[aa,ao (lt _ (by omega))]) (.skip ⟨rfl,rfl⟩)) (fun a3 w3 hh=>?_) (fun e a w he hq=>by cases e<;>first|exact absurd rfl he|exact hq.elim)
  obtain⟨rfl,rfl⟩:=hh
  obtain⟨p,hp⟩:∃ p,t[j]?=some p:=⟨t[j]'(by omega),List.getElem?_eq_getElem (by omega)⟩
  obtain⟨k,l⟩:=p
  refine .seq (R:=Rt (fun a' w'=>a'.get 0=pt b o/\a'.get 1=.func (.func fC) #[] cap/\a'.get 37=.slice (some ⟨G,0,none⟩) n n/\a'.get 38=.int .i64 (n:Int)/\a'.get 39=.int .i64 (j:Int)/\a'.tmps.size=a.tmps.size/\a'.defers=a.defers /\
    w'.heap[G]?=some (.cells cur T.tU32 (0,0))/\w'.cell? ⟨b,o,none⟩=some m/\cF w' (fun k=>L<=k) m t/\I (j+1) w') fun _ _=>False) (.block ?_) (fun a4 w4 hh=>?_) (fun e a w he hq=>by cases e<;>first|exact absurd rfl he|exact hq.elim)
  ·unfold r5
   refine .seq (R:=Rt (fun a' w'=>a'.get 0=pt b o/\a'.get 1=.func (.func fC) #[] cap/\a'.get 37=.slice (some ⟨G,0,none⟩) n n/\a'.get 38=.int .i64 (n:Int)/\a'.get 39=.int .i64 (j:Int)/\a'.get 7=bU k/\a'.tmps.size=a.tmps.size/\a'.defers=a.defers/\w'=w3) fun _ _=>False) (.reg ?_) (fun a5 w5 hh=>?_) (fun e a w he hq=>by cases e<;>first|exact absurd rfl he|exact hq.elim)
   ·refine bS (b:=G) (o:=0) (n:=n) (c:=n) (i:=j) (k:=.i64) (sz:=1) (by simp[aa,gp,lt,e37]) (by simp[aa,gp,lt,e39]) Id tf.sl (tf.vU.size _) ?_
    refine bg (p:=⟨G,0+j*1,none⟩) (v:=bU k) (by simp[aa,gp,lt,ab]) (tf.vU.agg _) (by
     have:=IP j _ hp
     simp[World.cell?,eG,this]) (ak (wpList_nil ⟨?_,?_,?_,?_,?_,?_,?_,?_,rfl⟩))
    ·simp[gp,lt,ab,e0]
    ·simp[gp,lt,ab,e1]
    ·simp[gp,lt,ab,e37]
    ·simp[gp,lt,ab,e38]
    ·simp[gp,lt,ab,e39]
    ·simp[aa,gp,lt,ab]
    ·simp only[ab];exact es
    ·simp only[aj];exact ed
   obtain⟨f0,f1,f37,f38,f39,f7,fs,fd,rfl⟩:=hh
   have lt5:∀ d,d<53->d<a5.tmps.size:=fun d hd=>by omega
   have L5:∃ (q clock jj:Nat) (es:List aI) (e:aI),m=.map (some q)/\w5.heap[q]?=some (.map (es.map aI.entry).toArray clock)/\(es.map aI.key).Nodup/\es[jj]?=some e/\e.key=k/\ci w5 (fun x=>L<=x) e.val l:=by
    rcases et with⟨_,rfl⟩|⟨q,rfl,_,_,⟨es,clock,f,IX,If,_,Ir,HX,_⟩,_⟩
    ·simp at hp
    ·have hm:(k,l)∈es.map fun e=>(e.key,f e):=HX.mem_iff.2 (List.mem_of_getElem? hp)
     obtain⟨e,he,S9⟩:=List.mem_map.1 hm
     simp only[Prod.mk.injEq]at S9
     obtain⟨jj,Sd⟩:=List.getElem?_of_mem he
     exact⟨q,clock,jj,es,e,rfl,IX,Ir,Sd,S9.1,by rw[<- S9.2];exact(If e he).2.2.mono fun _ _ h=>.inl h⟩
   obtain⟨q,clock,jj,es',ev,rfl,IX,Ir,Sd,rfl,Iu⟩:=L5
   obtain⟨kt,et',hM,XH⟩:=tf.map
   refine .reg (ah (ah (ah ?_)))
   rw[aa,f1,aa,al (by omega),f7,aa,al (by omega),al (by omega),f0]
   refine aG (p:=⟨b,o,none⟩) (by simp[aa,gp,lt5,ab,pt]) ?_
   refine bN (B:=b) (O:=o) (by simp[aa,gp,lt5,ab]) tf.fld ?_
   refine bg (p:=⟨b,o+0,none⟩) (v:=.map (some q)) (by simp[aa,gp,lt5,ab]) (tf.fld.var.agg _) ec (ah ?_)
   refine aB (v:=ev.val) (w':=w5) ?_ ?_
   ·have JK:=s7 (w:=w5) hM XH IX Ir Sd rfl
    have e48:∀ (A:Act),A=A->A.eval (tm 48)=.map (some q)->A.eval (tm 49)=bU ev.key->(execOp A.eval (mk (some 50) (.lookup T.tM (tm 48) (tm 49) false))).run P w5=.ok (.value ev.val) w5:=fun A _ h1 h2=>by
     simp[execOp,mk,h1,h2,JK]
    refine e48 _ rfl ?_ ?_
    ·simp[aa,gp,lt5,ab]
    ·simp[aa,gp,lt5,ab,f7]
   refine oE (f:=fC) (cap:=cap) (vs:=#[.int .u32 (ev.key:Int),ev.val]) (args:=[tm 44,tm 50]) W7 (by simp[aa,gp,lt5,ab]) (by simp[aa,gp,lt5,ab,bU]) (hC j w5 ev.key l ev.val hp eI Iu) fun e w6 hR=>?_
   obtain⟨he,ON,Lc⟩:=hR
   refine⟨_,he,wpList_nil ⟨?_,?_,?_,?_,?_,?_,?_,?_,?_,?_,ON⟩⟩
   ·simp[gp,lt5,ab,f0]
   ·simp[gp,lt5,ab,f1]
   ·simp[gp,lt5,ab,f37]
   ·simp[gp,lt5,ab,f38]
   ·simp[gp,lt5,ab,f39]
   ·simp only[ab];exact fs
   ·simp only[aj];exact fd
   ·have Px:G<w5.heap.size:=(Array.getElem?_eq_some_iff.1 eG).1
    rw[Lc.block G Px (by omega)];exact eG
   ·exact Lc.cell (fun hh=>by rcases hh with hh|hh;exact hh.2.2 rfl;omega) ec
   ·exact et.keep (Lc.mono fun k _ hk=>by omega)
  obtain⟨g0,g1,g37,g38,g39,gs,gd,gG,gc,gt,gI⟩:=hh
  have lt4:∀ d,d<53->d<a4.tmps.size:=fun d hd=>by omega
  refine .reg ?_
  refine co (k:=.i64) (m:=(j:Int)) (n:=1) (v:=.int .i64 ((j+1:Nat):Int)) (by rw[aa];exact g39) rfl (by simp) (by
   have:IntKind.i64.wrap ((j:Int)+1)=((j+1:Nat):Int):=by simp[IntKind.wrap,IntKind.bits,IntKind.signed];omega
   simp[binOp,Op.intArith,this]) (ah (wpList_nil ?_))
  show(∃ j',_)/\_
  refine⟨⟨j+1,by omega,?_,?_,?_,?_,?_,?_,?_,gG,gc,gt,gI⟩,?_⟩
  ·simp[gp,lt4,ab,g0]
  ·simp[gp,lt4,ab,g1]
  ·simp[gp,lt4,ab,g37]
  ·simp[gp,lt4,ab,g38]
  ·simp[aa,gp,lt4,ab]
  ·simp only[ab];exact gs
  ·simp only[aj];exact gd
  ·show((n:Int)-(match Act.get _ 39 with|.int _ q=>q|_=>0)).toNat<((n:Int)-(match a1.get 39 with|.int _ q=>q|_=>0)).toNat
   rw[e39,ao (by simp only[ab];exact lt4 _ (by omega)),aa,ao (lt4 _ (by omega))]
   simp only
   omega
 ·have JQ:j=n:=by omega
  refine .seq (Ip false (fun _ _=>False) (by simp;omega)) (fun a2 w2 hh=>?_) (fun e a w he hq=>by cases e<;>first|exact absurd rfl he|exact hq.elim)
  obtain⟨rfl,rfl⟩:=hh
  refine .seq (R:=Exit.then (fun _ _=>False) (Exit.inBlock 2 (Rt K E))) (.condF (by rw[aa,ao (lt _ (by omega))]) (.exit ?_)) (fun _ _ hh=>hh.elim) (fun e a w he hq=>by rw[cq he]at hq ⊢;exact hq)
  show K _ _
  exact h _ _ (by simp only[ab];exact es) (by simp only[aj];exact ed) (JQ ▸ eI)
end
end
section
open Go Go.ChangeMaps
section
variable {P:Program}
theorem tr (hm:P.follows .mixedOrders=true){T:TN}(tf:TF P T)(Nz:SortOk P T){f nt:Nat}(hfn:FnIs P f nt [] (cEach T))(Iv:53<=nt){w:World}{b o L fC:Nat}{m:Value}{t:List (Nat × Bs)}{cap:Array Value}{I:Nat->Nat->World->Prop}(hc:w.cell? ⟨b,o,none⟩=some m)(hb:b<w.heap.size)(hL:L<=w.heap.size)
  (ht:cF w (fun k=>L<=k) m t) (hn:t.length<=35200000000000) (W7:Ent P fC) (Mg:∀ w1,ac (fun _=>False) w w1->I w1.heap.size 0 w1)
  (hC:∀ (s1 j:Nat) (w1:World) (k:Nat) (l:Bs) (v:Value),w.heap.size<=s1->t[j]?=some (k,l)->I s1 j w1->ci w1 (fun x=>L<=x) v l->Calls P fC (#[.int .u32 (k:Int),v]++cap) w1 fun e w2=>e=.returned (.tuple #[])/\I s1 (j+1) w2/\ac (fun x=>(L<=x/\x<w.heap.size/\x≠b) \/ s1<=x) w1 w2) :
  Calls P f #[pt b o,.func (.func fC) #[] cap] w fun e w'=>e=.returned (.tuple #[])/\∃ s1,w.heap.size<=s1/\I s1 t.length w':=by
 refine eB hm hfn (by simp) [pt b o,.func (.func fC) #[] cap] (by simp;omega) fun a harg hs hd=>?_
 have g0:=harg 0 _ rfl
 have g1:=harg 1 _ rfl
 obtain⟨kt,et,hM,XH⟩:=tf.map
 have X0:b<w.heap.size:=hb
 unfold cEach
 have NP:∀ (bb:Bool) (Y:Act->World->Prop),bb=decide (t.length=0)->(∀ a2,a2.get 13=.bool bb->a2.get 0=pt b o->a2.get 1=.func (.func fC) #[] cap->a2.tmps.size=nt->a2.defers=[]->Y a2 w) ->
   aK P (rg (pc T 8++[bi (some 12) .len [tm 11] [T.tM] T.tInt,mk (some 13) (.binOp .eql T.tInt (tm 12) (ki .i64 0) 0)])) (Rt Y fun _ _=>False) a w:=by
  intro bb Y JT hY
  refine .reg (mZ tf g0 hc (by omega) (by omega) fun a1 Ik KM If Ks=>?_)
  refine lJ hM (by rw[aa];exact KM) ht ?_
  refine bk (b:=bb) (p:=(t.length:Int)) (q:=0) (k:=.i64) (by rw[aa,ao (by omega)]) rfl (.inr (.inr (.inr (.inr (.inl ⟨rfl,by rw[JT];exact decide_eq_decide.2 (by omega)⟩))))) (wpList_nil (hY _ ?_ ?_ ?_ ?_ ?_))
  ·rw[ao (by simp only[ab];omega)]
  ·rw[al (by omega),al (by omega),Ik 0 (by omega)];exact g0
  ·rw[al (by omega),al (by omega),Ik 1 (by omega)];exact g1
  ·simp only[ab];omega
  ·simp only[aj];exact Ks.trans hd
 by_cases h0:t.length=0
 ·refine .seq (R:=Rt (fun _ _=>False) (fun a' w'=>a'.defers=[]/\(Ending.returned (bj [] a')=.returned (.tuple #[])/\∃ s1,w.heap.size<=s1/\I s1 t.length w'))) (.seq (NP true _ (by simp[h0]) fun a2 JH _ _ _ IG=>?_) (fun a1 w1 hh=>hh) (fun e a w he hq=>by cases e<;>first|exact absurd rfl he|exact hq.elim)) (fun _ _ hh=>hh.elim) (fun e a w he hq=>by cases e<;>first|exact absurd rfl he|exact hq)
  exact .condT JH (.ret ⟨IG,rfl,w.heap.size,Nat.le_refl _,h0 ▸ Mg w (ac.refl _ _)⟩)
 refine .seq (R:=Rt (fun a2 w2=>a2.get 0=pt b o/\a2.get 1=.func (.func fC) #[] cap/\a2.tmps.size=nt/\a2.defers=[]/\w2=w) fun _ _=>False) (.seq (NP false _ (by simp[h0]) fun a2 JH e0 e1 Iw IG=>?_) (fun a1 w1 hh=>hh) (fun e a w he hq=>by cases e<;>first|exact absurd rfl he|exact hq.elim)) (fun a2 w2 hh=>?_) (fun e a w he hq=>by cases e<;>first|exact absurd rfl he|exact hq.elim)
 ·exact .condF JH (.skip ⟨e0,e1,Iw,IG,rfl⟩)
 obtain⟨e0,e1,Iw,IG,rfl⟩:=hh
 obtain⟨q,rfl,Xd,Rz,es,clock,ff,hq,KP,ME,Lu,Pd,UH⟩:∃ r,m=.map (some r)/\¬ L<=r/\r<w2.heap.size/\iq w2 (fun k=>L<=k) r t:=by
  rcases ht with⟨_,rfl⟩|h
  ·exact absurd rfl h0
  ·obtain⟨r,e1,e2,e3,e4,_⟩:=h
   exact⟨r,e1,e2,e3,e4⟩
 have Ib:es.length=t.length:=by simpa using Pd.length_eq
 have lt2:∀ d,d<53->d<a2.tmps.size:=fun d hd=>by omega
 obtain⟨i,z,hi,hz,Ii,MD⟩:=tf.info
 refine .seq (R:=Rt (fun a3 w3=>a3.get 0=pt b o/\a3.get 1=.func (.func fC) #[] cap/\a3.get 4=pt (w2.heap.size+1) 0/\a3.tmps.size=nt/\a3.defers=[]/\ac (fun _=>False) w2 w3/\w3.heap.size=w2.heap.size+2 /\
   w3.heap[w2.heap.size+1]?=some (.cells #[.slice (some ⟨w2.heap.size,0,none⟩) 0 es.length] T.tKs (0,0))/\∃ cur,w3.heap[w2.heap.size]?=some (.cells cur T.tU32 (0,0))/\cur.size=es.length) fun _ _=>False) (.reg ?_) (fun a3 w3 hh=>?_) (fun e a w he hq=>by cases e<;>first|exact absurd rfl he|exact hq.elim)
 ·refine mZ tf e0 hc (by omega) (by omega) fun a3 Ik Tp IJ J9=>?_
  refine lJ hM (by rw[aa];exact Tp) ht ?_
  have TB:=run_makeSlice (P:=P) (w:=w2) T.tKs T.tU32 i z tf.sl hi hz .i64 .i64 0 (t.length:Int) (by omega) (by omega)
  have Vl:(Instr.makeSlice T.tKs (.int .i64 0) (.int .i64 (t.length:Int))).run P w2=.ok (.slice (some ⟨w2.heap.size,0,none⟩) 0 t.length) (w2.alloc (.cells (madeCells z.cells (t.length*i.size)) T.tU32)):=by
   have:=run_make (P:=P) w2 T.tKs T.tU32 i z tf.sl hi hz .i64 .i64 0 (t.length:Int) (by omega) (by omega) (by rw[MD];omega) (by omega)
   simpa using this
  clear TB
  refine aB (v:=.slice (some ⟨w2.heap.size,0,none⟩) 0 t.length) (w':=w2.alloc (.cells (madeCells z.cells (t.length*i.size)) T.tU32)) (by
   have e18:(a3.put (some 18) (.int .i64 (t.length:Int))).eval (tm 18)=.int .i64 (t.length:Int):=by rw[aa,ao (by omega)]
   have e0':(a3.put (some 18) (.int .i64 (t.length:Int))).eval (ki .i64 0)=.int .i64 0:=rfl
   simp[execOp,mk,e18,e0',Vl]) ?_
  refine cZ (z:=.slice none 0 0) (tf.zK _) ?_
  have KD:(w2.alloc (.cells (madeCells z.cells (t.length*i.size)) T.tU32)).heap.size=w2.heap.size+1:=by simp
  generalize LP:w2.alloc (.cells (madeCells z.cells (t.length*i.size)) T.tU32)=w3 at KD ⊢
  have Ns:w3.heap[w2.heap.size]?=some (.cells (madeCells z.cells (t.length*i.size)) T.tU32 (0,0)):=by rw[<- LP];exact aE _ _
  have Il:ac (fun _=>False) w2 w3:=by rw[<- LP];exact ac.alloc _ _ _
  have Q5:=aE w3 (.cells (Value.cells (.slice none 0 0)) T.tKs (0,0))
  rw[KD]at Q5 ⊢
  refine bm (g:=w2.heap.size+1) (o:=0) (cur:=Value.cells (.slice none 0 0)) (t:=T.tKs) (v:=.slice (some ⟨w2.heap.size,0,none⟩) 0 t.length) (vs:=[.slice (some ⟨w2.heap.size,0,none⟩) 0 t.length]) (by rw[aa,ao (by simp only[ab];omega)]) (by rw[aa,al (by omega),ao (by simp only[ab];omega)]) rfl (tf.vK.size _) Q5 (by simp[Value.cells]) (by simp[Value.oneCell']) (wpList_nil ⟨?_,?_,?_,?_,?_,?_,?_,?_,madeCells z.cells (t.length*i.size),?_,?_⟩)
  ·iterate 3 rw[al (by omega)]
   rw[Ik 0 (by omega)];exact e0
  ·iterate 3 rw[al (by omega)]
   rw[Ik 1 (by omega)];exact e1
  ·rw[ao (by simp only[ab];omega)];rfl
  ·simp only[ab];omega
  ·simp only[aj];exact J9.trans IG
  ·have h4:ac (fun k=>w2.heap.size<=k) w2 ((w3.alloc (.cells (Value.cells (.slice none 0 0)) T.tKs (0,0))).setRow (w2.heap.size+1) (aD (Value.cells (.slice none 0 0)) 0 [.slice (some ⟨w2.heap.size,0,none⟩) 0 t.length])):=
    ((Il.mono fun _ _ h=>h.elim).trans (ac.alloc _ _ _)).trans (ac.setRow _ _ _ _ (by omega))
   exact h4.mono fun k hk hX=>by omega
  ·simp[KD]
  ·rw[setRow_heap _ _ _ _ _ _ Q5,Ib]
   simp[aD,Value.cells]
  ·rw[setRow_other _ _ _ _ (by omega),bu (by omega)];exact Ns
  ·rw[size_madeCells,Ii,Ib];omega
 obtain⟨k0,k1,k4,IJ,J9,Il,P1,QV,cur,Ns,Iz⟩:=hh
 refine .seq (R:=Rt (fun a4 w4=>∃ Ls,a4.get 0=pt b o/\a4.get 1=.func (.func fC) #[] cap/\a4.get 4=pt (w2.heap.size+1) 0/\a4.tmps.size=nt/\a4.defers=[]/\mb T w2 q (w2.heap.size+2) (w2.heap.size+1) w2.heap.size clock es Ls w4/\(∀ e∈es,e.born∈Ls.map aI.born)) fun _ _=>False) (.seq (R:=Rt (fun a4 w4=>a4.get 0=pt b o/\a4.get 1=.func (.func fC) #[] cap/\a4.get 4=pt (w2.heap.size+1) 0/\a4.get 24=pt (w2.heap.size+2) 0/\a4.tmps.size=nt/\a4.defers=[]/\mb T w2 q (w2.heap.size+2) (w2.heap.size+1) w2.heap.size clock es [] w4) fun _ _=>False) (.reg ?_) (fun a4 w4 hh=>?_) (fun e a w he hq=>by cases e<;>first|exact absurd rfl he|exact hq.elim)) (fun a4 w4 hh=>?_) (fun e a w he hq=>by cases e<;>first|exact absurd rfl he|exact hq.elim)
 ·refine mZ tf k0 (Il.cell id hc) (by omega) (by omega) fun a4 Ik h23 Kb Om=>?_
  have MN:w3.heap[q]?=some (.map (es.map aI.entry).toArray clock):=by rw[Il.block q Rz id];exact hq
  have hr:=run_range_map w3 T.tM kt et q (es.map aI.entry).toArray clock hM MN
  refine aB (v:=pt w3.heap.size 0) (w':=w3.alloc (.mapIter (some q) clock #[] clock)) (by
   have e23:a4.eval (tm 23)=.map (some q):=h23
   simp[execOp,mk,e23,hr,pt]) (wpList_nil ⟨?_,?_,?_,?_,?_,?_,?_⟩)
  ·rw[al (by omega),Ik 0 (by omega)];exact k0
  ·rw[al (by omega),Ik 1 (by omega)];exact k1
  ·rw[al (by omega),Ik 4 (by omega)];exact k4
  ·rw[ao (by omega),P1]
  ·simp only[ab];omega
  ·simp only[aj];exact Om.trans J9
  ·refine⟨Il.trans (ac.alloc _ _ _),?_,?_,?_,⟨cur,?_,Iz,fun i e h=>by simp at h⟩,fun _ h=>by simp at h,by simp,by omega⟩
   ·rw[bu (by omega)];exact MN
   ·have:=aE w3 (.mapIter (some q) clock #[] clock)
    rw[P1]at this
    simpa using this
   ·rw[bu (by omega)];exact QV
   ·rw[bu (by omega)];exact Ns
 ·obtain⟨f0,f1,f4,f24,fs,fd,hg⟩:=hh
  refine x8 tf f24 f4 (by omega) hg (fun e he=>(KP e he).2.1) ME fun a' w' Ls Ik h4 KY hd' I0 LC=>⟨Ls,?_,?_,h4,by omega,hd'.trans fd,I0,LC⟩
  ·rw[Ik 0 (by omega)];exact f0
  ·rw[Ik 1 (by omega)];exact f1
 obtain⟨Ls,f0,f1,f4,fs,fd,hg,LC⟩:=hh
 have R2:=qX Ls es hg.nod ME hg.sub LC
 have XF:Ls.length=es.length:=by simpa using R2.length_eq
 have lt4:∀ d,d<53->d<a4.tmps.size:=fun d hd=>by omega
 obtain⟨cur4,hG4,VT,Wi⟩:=hg.row
 have LB:=hg.box
 rw[XF]at LB
 refine .seq (R:=Rt (fun a5 w5=>a5.get 0=pt b o/\a5.get 1=.func (.func fC) #[] cap/\a5.get 4=pt (w2.heap.size+1) 0/\a5.tmps.size=nt/\a5.defers=[]/\ac (fun k=>k=w2.heap.size) w4 w5 /\
   ∃ (cur':Array Value) (ks':List Nat),w5.heap[w2.heap.size]?=some (.cells cur' T.tU32 (0,0))/\ks'.Perm (Ls.map aI.key)/\ks'.Pairwise (·<=·)/\∀ (i:Nat) (x:Nat),ks'[i]?=some x->cur'[i]?=some (bU x)) fun _ _=>False) (.reg ?_) (fun a5 w5 hh=>?_) (fun e a w he hq=>by cases e<;>first|exact absurd rfl he|exact hq.elim)
 ·refine bg (p:=⟨w2.heap.size+1,0,none⟩) (v:=.slice (some ⟨w2.heap.size,0,none⟩) es.length es.length) (by rw[aa];exact f4) (tf.vK.agg _) (by simp[World.cell?,LB]) ?_
  refine aB (v:=.iface T.tKs (.slice (some ⟨w2.heap.size,0,none⟩) es.length es.length)) (w':=w4) (by
   have e33:(a4.put (some 33) (.slice (some ⟨w2.heap.size,0,none⟩) es.length es.length)).eval (tm 33)=.slice (some ⟨w2.heap.size,0,none⟩) es.length es.length:=by rw[aa,ao (lt4 _ (by omega))]
   simp[execOp,mk,e33,Instr.makeInterface,run_underlying tf.sl]) ?_
  refine aB (v:=.func (.func T.fLess) #[] #[pt (w2.heap.size+1) 0]) (w':=w4) (by
   have e4':∀ A:Act,A.eval (tm 4)=pt (w2.heap.size+1) 0->(execOp A.eval (mk (some 35) (.makeFunc (.func T.fLess) #[] #[tm 4]))).run P w4=.ok (.value (.func (.func T.fLess) #[] #[pt (w2.heap.size+1) 0])) w4:=fun A h=>by
    simp[execOp,mk,Instr.makeFunc,h]
   exact e4' _ (by simp[aa,gp,lt4,ab,f4])) ?_
  refine aN (vs:=#[.iface T.tKs (.slice (some ⟨w2.heap.size,0,none⟩) es.length es.length),.func (.func T.fLess) #[] #[pt (w2.heap.size+1) 0]]) Nz.1 (by simp[aa,gp,lt4,ab])
   (Nz.2 w4 (w2.heap.size+1) w2.heap.size es.length (Ls.map aI.key) cur4 (by simpa using XF) (by omega) (fun x hx=>by
    obtain⟨e,he,rfl⟩:=List.mem_map.1 hx
    exact(KP e (hg.sub e he)).1) LB hG4 VT (by omega) fun i x hx=>by
     rw[List.getElem?_map,Option.map_eq_some_iff]at hx
     obtain⟨e,he,rfl⟩:=hx
     exact Wi i e he) fun e w5 hR=>⟨_,hR.1,wpList_nil ⟨?_,?_,?_,?_,?_,hR.2.1,hR.2.2⟩⟩
  ·simp[gp,lt4,ab,f0]
  ·simp[gp,lt4,ab,f1]
  ·simp[gp,lt4,ab,f4]
  ·simp only[ab];exact fs
  ·simp only[aj];exact fd
 obtain⟨p0,p1,p4,ps,pd,Jc,cur5,ks,W2,Js,UD,Wh⟩:=hh
 have Jb:ks=t.map (·.1):=by
  refine qH ?_ UD (vt UH)
  have h1:(es.map aI.key).Perm (t.map (·.1)):=by
   have:=Pd.map (·.1)
   simpa[Function.comp_def]using this
  exact Js.trans (R2.trans h1)
 have lt5:∀ d,d<53->d<a5.tmps.size:=fun d hd=>by omega
 have Qb:ac (fun _=>False) w2 w5:=by
  have:ac (fun k=>w2.heap.size<=k) w2 w5:=(hg.keeps.mono fun _ _ h=>h.elim).trans (Jc.mono fun k _ hk=>by omega)
  exact this.mono fun k hk hX=>by omega
 have Wq:w2.heap.size+1<w4.heap.size:=(Array.getElem?_eq_some_iff.1 LB).1
 have hs45:=Jc.size
 refine .seq (R:=Rt (fun a6 w6=>a6=((a5.put (some 37) (.slice (some ⟨w2.heap.size,0,none⟩) es.length es.length)).put (some 38) (.int .i64 (es.length:Int))).put (some 39) (.int .i64 ((0:Nat):Int))/\w6=w5) fun _ _=>False) (.reg ?_) (fun a6 w6 hh=>?_) (fun e a w he hq=>by cases e<;>first|exact absurd rfl he|exact hq.elim)
 ·refine bg (p:=⟨w2.heap.size+1,0,none⟩) (v:=.slice (some ⟨w2.heap.size,0,none⟩) es.length es.length) (by rw[aa];exact p4) (tf.vK.agg _) (by
   have:w5.heap[w2.heap.size+1]?=some (.cells #[.slice (some ⟨w2.heap.size,0,none⟩) es.length es.length] T.tKs (0,0)):=by rw[Jc.block _ Wq (by omega)];exact LB
   simp[World.cell?,this]) ?_
  exact dV (base:=some ⟨w2.heap.size,0,none⟩) (n:=es.length) (c:=es.length) (by rw[aa,ao (lt5 _ (by omega))]) tf.sl (ah (wpList_nil ⟨rfl,rfl⟩))
 obtain⟨rfl,rfl⟩:=hh
 refine Aa (b:=b) (o:=o) (n:=es.length) (G:=w2.heap.size) (L:=L) (sz0:=w2.heap.size) (s1:=w6.heap.size) (fC:=fC) (cap:=cap) (m:=.map (some q)) (t:=t) (I:=I w6.heap.size) tf ?_ ?_ ?_ ?_ ?_ ?_ Ib (by omega) ⟨cur5,W2,fun i p hp=>?_⟩ (by omega) hb hL (by omega) (Qb.cell id hc) (ht.keep (Qb.mono fun _ _ h=>h.elim)) (Mg w6 Qb) W7 (fun j w1 k l v h1 h2 h3=>hC w6.heap.size j w1 k l v (by omega) h1 h2 h3) fun a' w' h1 h2 h3=>⟨?_,rfl,w6.heap.size,by omega,Ib ▸ h3⟩
 ·simp[gp,lt5,ab,p0]
 ·simp[gp,lt5,ab,p1]
 ·simp[gp,lt5,ab]
 ·simp[gp,lt5,ab]
 ·simp[gp,lt5,ab]
 ·simp only[ab];omega
 ·refine Wh i p.1 ?_
  rw[Jb,List.getElem?_map,hp]
  rfl
 ·rw[h2]
  simp only[aj]
  exact pd
end
end
section
open Go Go.ChangeMaps
section
variable {P:Program}
structure Bx (b tSl te L D:Nat)(d0:Value)(w0:World)(s1:Nat)(bs:Bs)(w:World)(d':Value):Prop where
 box:w.heap[D]?=some (.cells #[d'] tSl (0,0))
 gr:Gr L te d0 w0 d' bs w
 own:∀ k,d'.ownBlock=some k->k<D \/ s1<=k
 s1:D<s1/\s1<=w.heap.size
 D0:w0.heap.size<=D/\L<=D
 nb:b<w0.heap.size/\d0.ownBlock≠some b
theorem Bx.dst {b tSl te L D s1:Nat}{d0 d':Value}{w0 w:World}{bs:Bs}(h:Bx b tSl te L D d0 w0 s1 bs w d'):aA w L te d' bs:=h.gr.dst
theorem Bx.step {b tSl te L D s1:Nat}{d0 d' d'':Value}{w0 w w1:World}{bs bs':Bs}(h:Bx b tSl te L D d0 w0 s1 bs w d')(hg:Gr L te d' w d'' bs' w1) :
  w1.heap[D]?=some (.cells #[d'] tSl (0,0))/\Bx b tSl te L D d0 w0 s1 bs' (w1.setRow D #[d'']) d''/\ac (fun x=>(L<=x/\x<D+1/\x≠b) \/ s1<=x) w (w1.setRow D #[d'']):=by
 have hDl:D<w.heap.size:=by have:=h.s1;omega
 have Jt:d'.ownBlock≠some D:=fun hh=>by have:=h.own D hh;have:=h.s1;omega
 have Ii:=hg.keeps.size
 have IX:w1.heap[D]?=some (.cells #[d'] tSl (0,0)):=by rw[hg.keeps.block D hDl Jt];exact h.box
 have LT:∀ k,d''.ownBlock=some k->k<D \/ s1<=k:=fun k hk=>by
  rcases hg.own k hk with h1|h1
  ·exact h.own k h1
  ·have:=h.s1;exact .inr (by omega)
 have Va:d''.ownBlock≠some D:=fun hh=>by have:=LT D hh;have:=h.s1;omega
 have Jb:ac (fun k=>k=D) w1 (w1.setRow D #[d'']):=ac.setRow _ _ _ _ rfl
 refine⟨IX,⟨setRow_heap _ _ _ _ _ _ IX,(h.gr.trans hg).post Jb fun k hk=>?_,LT,⟨h.s1.1,by have:=Jb.size;have:=h.s1;omega⟩,h.D0,h.nb⟩,?_⟩
 ·subst hk;exact⟨h.D0.1,Va⟩
 ·refine(hg.keeps.mono fun k _ hk=>?_).trans (Jb.mono fun k _ hk=>?_)
  ·have h1:=h.dst.own hk
   rcases h.own k hk with h2|h2
   ·refine .inl ⟨h1.1,by omega,fun Qa=>?_⟩
    subst Qa
    rcases h.gr.own k hk with h3|h3
    ·exact h.nb.2 h3
    ·have:=h.nb.1;omega
   ·exact .inr h2
  ·subst hk;exact .inl ⟨h.D0.2,by omega,by have:=h.nb;have:=h.D0;omega⟩
theorem Bx.lim {b tSl te L D s1:Nat}{d0 d':Value}{w0 w:World}{bs:Bs}(h:Bx b tSl te L D d0 w0 s1 bs w d'):L<=w.heap.size:=by have:=h.s1;have:=h.D0;omega
theorem sa (hm:P.follows .mixedOrders=true){T:TN}{b te L D s1:Nat}(ot:OctT P T.tSl te)(hV:bc P T.tSl false 1)(LE:P.underlying T.tInt=some (.int .i64))(Ws:P.underlying T.tU32=some (.int .u32))(TY:Ent P T.fUv)(TX:∀ (x:Nat) (w:World),x<4294967296->ApC P te T.fUv (.int .u32 x) (uvar x) w)
  {f nt:Nat} (hfn:FnIs P f nt [] (cTOne T)) (Iv:16<=nt) {w0 w:World} {d0 d' v:Value} {bs l:Bs} {k:Nat} (hb:Bx b T.tSl te L D d0 w0 s1 bs w d') (hk:k<4294967296) (hv:ci w (fun x=>L<=x) v l) (hlim:bs.length+(dm (k,l)).length<=di) :
  Calls P f #[.int .u32 (k:Int),v,pt D 0] w fun e w'=>e=.returned (.tuple #[])/\(∃ d'',Bx b T.tSl te L D d0 w0 s1 (bs++dm (k,l)) w' d'')/\ac (fun x=>(L<=x/\x<D+1/\x≠b) \/ s1<=x) w w':=by
 refine eB hm hfn (by simp) [.int .u32 (k:Int),v,pt D 0] (by simp;omega) fun a harg hs hd=>?_
 have g0:=harg 0 _ rfl
 have g1:=harg 1 _ rfl
 have g2:=harg 2 _ rfl
 have X3:∀ {wa wb:World},ac (fun x=>(L<=x/\x<D+1/\x≠b) \/ s1<=x) wa wb->ac (fun x=>L<=x) wa wb:=fun hh=>hh.mono fun x _ hx=>by have:=hb.D0;have:=hb.s1;omega
 simp only[dm,List.length_append]at hlim
 have e1:∀ (x y:Value),aD #[x] 0 [y]=#[y]:=fun x y=>by simp[aD]
 have cell:∀ {ww:World} {dd:Value},ww.heap[D]?=some (.cells #[dd] T.tSl (0,0))->ww.cell? ⟨D,0,none⟩=some dd:=fun hh=>by simp[World.cell?,hh]
 have one:∀ {dd:Value} {bb:Bs} {ww:World},aA ww L te dd bb->dd.oneCell'=true/\dd.cells=#[dd]:=fun hh=>by
  rcases hh with⟨rfl,_⟩|⟨_,_,_,rfl,_⟩<;>exact⟨rfl,rfl⟩
 unfold cTOne
 refine .seq (R:=Rt (fun a1 w1=>a1.get 0=.int .u32 (k:Int)/\a1.get 1=v/\a1.get 2=pt D 0/\a1.tmps.size=nt/\a1.defers=[]/\(∃ d1,Bx b T.tSl te L D d0 w0 s1 (bs++uvar k) w1 d1)/\ac (fun x=>(L<=x/\x<D+1/\x≠b) \/ s1<=x) w w1) fun _ _=>False) (.reg ?_) (fun a1 w1 hh=>?_) (fun e a w he hq=>by cases e<;>first|exact absurd rfl he|exact hq.elim)
 ·refine bg (p:=⟨D,0,none⟩) (v:=d') (by rw[aa];exact g2) (hV.agg _) (cell hb.box) (ah ?_)
  rw[aa,al (by omega),g0]
  refine aN (vs:=#[d',.int .u32 (k:Int)]) TY ?_ (TX k w hk L d' bs hb.dst hb.lim (by omega)) fun e w1 hR=>?_
  ·simp only[List.map_cons,List.map_nil,aa]
   rw[al (by omega),ao (by omega),ao (by simp only[ab];omega)]
  obtain⟨d1,he,hg⟩:=hR
  obtain⟨IX,LA,J0⟩:=hb.step hg
  refine⟨d1,he,bm (g:=D) (o:=0) (cur:=#[d']) (t:=T.tSl) (v:=d1) (vs:=[d1]) ?_ ?_ (by rw[(one hg.dst).2]) (hV.size _) IX (by simp) (by simpa using(one hg.dst).1) (wpList_nil ⟨?_,?_,?_,?_,?_,⟨d1,by rw[e1];exact LA⟩,by rw[e1];exact J0⟩)⟩
  ·rw[aa,al (by omega),al (by omega),al (by omega)];exact g2
  ·rw[aa,ao (by simp only[ab];omega)]
  ·rw[al (by omega),al (by omega),al (by omega)];exact g0
  ·rw[al (by omega),al (by omega),al (by omega)];exact g1
  ·rw[al (by omega),al (by omega),al (by omega)];exact g2
  ·simp only[ab];exact hs
  ·simp only[aj];exact hd
 obtain⟨f0,f1,f2,fs,fd,⟨d1,IX⟩,Ir⟩:=hh
 have JI:=hv.keep (X3 Ir)
 obtain⟨vb,vc,hvf,_⟩:=JI.form
 refine .seq (R:=Rt (fun a2 w2=>a2.get 1=v/\a2.get 2=pt D 0/\a2.tmps.size=nt/\a2.defers=[]/\(∃ d2,Bx b T.tSl te L D d0 w0 s1 (bs++uvar k++uvar (dj l.length)) w2 d2)/\ac (fun x=>(L<=x/\x<D+1/\x≠b) \/ s1<=x) w w2) fun _ _=>False) (.reg ?_) (fun a2 w2 hh=>?_) (fun e a w he hq=>by cases e<;>first|exact absurd rfl he|exact hq.elim)
 ·refine bg (p:=⟨D,0,none⟩) (v:=d1) (by rw[aa];exact f2) (hV.agg _) (cell IX.box) (ah ?_)
  rw[aa,al (by omega),f1]
  refine dV (base:=vb) (n:=l.length) (c:=vc) (by rw[aa,ao (by simp only[ab];omega)];exact hvf) ot.und ?_
  refine aL (k:=.i64) (k':=.u32) (m:=(l.length:Int)) (by rw[aa,ao (by simp only[ab];omega)]) LE Ws ?_
  have ew:IntKind.u32.wrap (l.length:Int)=((dj l.length:Nat):Int):=by simp[IntKind.wrap,IntKind.bits,IntKind.signed,dj]
  rw[ew]
  have LO:dj l.length<4294967296:=by simp only[dj];omega
  refine aN (vs:=#[d1,.int .u32 ((dj l.length:Nat):Int)]) TY ?_ (TX (dj l.length) w1 LO L d1 _ IX.dst IX.lim (by rw[List.length_append];omega)) fun e w2 hR=>?_
  ·simp only[List.map_cons,List.map_nil,aa]
   rw[al (by omega),al (by omega),al (by omega),ao (by omega),ao (by simp only[ab];omega)]
  obtain⟨d2,he,hg⟩:=hR
  obtain⟨IK,LA,J0⟩:=IX.step hg
  refine⟨d2,he,bm (g:=D) (o:=0) (cur:=#[d1]) (t:=T.tSl) (v:=d2) (vs:=[d2]) ?_ ?_ (by rw[(one hg.dst).2]) (hV.size _) IK (by simp) (by simpa using(one hg.dst).1) (wpList_nil ⟨?_,?_,?_,?_,⟨d2,by rw[e1];exact LA⟩,by rw[e1];exact Ir.trans J0⟩)⟩
  ·rw[aa];iterate 5 rw[al (by omega)]
   exact f2
  ·rw[aa,ao (by simp only[ab];omega)]
  ·iterate 5 rw[al (by omega)]
   exact f1
  ·iterate 5 rw[al (by omega)]
   exact f2
  ·simp only[ab];exact fs
  ·simp only[aj];exact fd
 obtain⟨p1,p2,ps,pd,⟨d2,IK⟩,Ic⟩:=hh
 have KU:=hv.keep (X3 Ic)
 have J3:Src P 1 T.tSl v l.length (l.map aJ) w2:=by
  rcases KU with⟨rfl,rfl⟩|⟨vb,o,c,rfl,_,_,_,_,ho⟩
  ·exact p9 ot w2 0
  ·exact ic ot ho
 refine .reg ?_
 refine bg (p:=⟨D,0,none⟩) (v:=d2) (by rw[aa];exact p2) (hV.agg _) (cell IK.box) (ah ?_)
 rw[aa,al (by omega),p1]
 refine eh ot (L:=L) (d:=d2) (x:=v) (l:=l) (by rw[aa,al (by omega),ao (by omega)]) (by rw[aa,ao (by simp only[ab];omega)]) IK.dst J3 IK.lim (by simp only[List.length_append];omega) fun d3 w3 hg=>?_
 obtain⟨LL,LA,J0⟩:=IK.step hg
 refine bm (g:=D) (o:=0) (cur:=#[d2]) (t:=T.tSl) (v:=d3) (vs:=[d3]) ?_ ?_ (by rw[(one hg.dst).2]) (hV.size _) LL (by simp) (by simpa using(one hg.dst).1) (wpList_nil ⟨?_,rfl,⟨d3,?_⟩,by rw[e1];exact Ic.trans J0⟩)
 ·rw[aa];iterate 3 rw[al (by omega)]
  exact p2
 ·rw[aa,ao (by simp only[ab];omega)]
 ·simp only[aj];exact pd
 ·rw[e1]
  simpa[dm,List.append_assoc]using LA
end
end
section
open Go Go.ChangeMaps
section
variable {P:Program}
theorem uR (t:List (Nat × Bs)):2*t.length<=(bQ t).length:=by
 induction t with
 | nil=>simp[bQ]
 | cons p t ih=>
  rw[ng,List.length_append,wW,List.length_cons]
  have h1:=dW p.1
  have h2:=dW (dj p.2.length)
  omega
theorem nd {t:List (Nat × Bs)}{j:Nat}{p:Nat × Bs}(h:t[j]?=some p):bQ (t.take (j+1))=bQ (t.take j)++dm p:=by
 rw[List.take_add_one,h]
 simp[bQ]
theorem ox (t:List (Nat × Bs))(j:Nat):(bQ (t.take j)).length<=(bQ t).length:=by
 have:bQ t=bQ (t.take j)++bQ (t.drop j):=by
  simp only[bQ,<- List.flatten_append,<- List.map_append,List.take_append_drop]
 rw[this,List.length_append]
 omega
theorem zP {w:World}{X:Nat->Prop}{m:Value}{t:List (Nat × Bs)}(h:cF w X m t):∀ p∈t,p.1<4294967296:=fun p hp=>by
 rcases h with⟨_,rfl⟩|⟨r,_,_,_,⟨es,c,f,_,KP,_,_,R1,_⟩,_⟩
 ·simp at hp
 ·obtain⟨e,he,rfl⟩:=List.mem_map.1 (R1.mem_iff.2 hp)
  exact(KP e he).1
theorem teach_calls (hm:P.follows .mixedOrders=true){T:TN}{te:Nat}(tf:TF P T)(Nz:SortOk P T)(ot:OctT P T.tSl te)(hV:bc P T.tSl false 1)(TY:Ent P T.fUv)(TX:∀ (x:Nat) (w:World),x<4294967296->ApC P te T.fUv (.int .u32 x) (uvar x) w)
  {f nt ntE nt1:Nat} (TM:FnIs P T.fEach ntE [] (cEach T)) (UY:53<=ntE) (LK:FnIs P T.fOne nt1 [] (cTOne T)) (PT:16<=nt1) (hfn:FnIs P f nt [4] (cTEach T)) (Iv:9<=nt)
  {w:World} {b o L:Nat} {m d:Value} {t:List (Nat × Bs)} {bs:Bs} (hc:w.cell? ⟨b,o,none⟩=some m) (hb:b<w.heap.size/\d.ownBlock≠some b) (ht:cF w (fun k=>L<=k) m t) (hd:aA w L te d bs) (hL:L<=w.heap.size) (hlim:bs.length+(bQ t).length<=di) :
  Calls P f #[pt b o,d] w fun e w'=>∃ d',e=.returned d'/\Gr L te d w d' (bs++bQ t) w':=by
 refine eB hm hfn (by simp) [pt b o,d] (by simp;omega) fun a harg hs I4=>?_
 have g0:=harg 0 _ rfl
 have g1:=harg 1 _ rfl
 have lt:∀ i,i<9->i<a.tmps.size:=fun i hi=>by omega
 have h2:=uR t
 have hl46:di=70400000000000:=rfl
 have Ju:d.cells=#[d]:=by rcases hd with⟨rfl,_⟩|⟨_,_,_,rfl,_⟩<;>rfl
 have LT:∀ k,d.ownBlock=some k->k<w.heap.size:=fun k hk=>(hd.own hk).2
 have Lu:=zP ht
 unfold cTEach
 refine az (aq ?_)
 refine aB (v:=pt w.heap.size 0) (w':=w.alloc (.cells #[d] T.tSl (0,0))) (by
  have e1:a.eval (tm 1)=d:=g1
  simp[execOp,mk,e1,Instr.box,newVar,newRow,newObj,Sem.run,Ju,pt]) (ak (wpList_nil ?_))
 rw[dg]
 have KD:(w.alloc (.cells #[d] T.tSl (0,0))).heap.size=w.heap.size+1:=by simp
 have Na:=aE w (.cells #[d] T.tSl (0,0))
 have Ir:ac (fun _=>False) w (w.alloc (.cells #[d] T.tSl (0,0))):=ac.alloc _ _ _
 generalize w.alloc (.cells #[d] T.tSl (0,0))=w1 at KD Na Ir ⊢
 refine az (aq (ah ?_))
 rw[aa,al (by omega),al (by omega),g0]
 refine aB (v:=.func (.func T.fOne) #[] #[pt w.heap.size 0]) (w':=w1) (by
  have key:∀ A:Act,A.eval (tm 3)=pt w.heap.size 0->(execOp A.eval (mk (some 6) (.makeFunc (.func T.fOne) #[] #[tm 3]))).run P w1=.ok (.value (.func (.func T.fOne) #[] #[pt w.heap.size 0])) w1:=fun A h=>by
   simp[execOp,mk,Instr.makeFunc,h]
  exact key _ (by simp[aa,gp,lt,ab])) ?_
 have SA:=tr hm tf Nz TM UY (w:=w1) (b:=b) (o:=o) (L:=L) (fC:=T.fOne) (m:=m) (t:=t) (cap:=#[pt w.heap.size 0]) (I:=fun s1 j w'=>∃ d',Bx b T.tSl te L w.heap.size d w s1 (bs++bQ (t.take j)) w' d')
  (Ir.cell id hc) (by have:=hb.1;omega) (by omega) (ht.keep (Ir.mono fun _ _ h=>h.elim)) (by omega) LK.ent (fun w2 Ic=>?_) (fun s1 j w2 k l v If hj hI hv=>?_)
 ·refine aN (vs:=#[pt b o,.func (.func T.fOne) #[] #[pt w.heap.size 0]]) TM.ent (by simp[aa,gp,lt,ab]) SA fun e w2 hR=>?_
  obtain⟨he,s1,If,d',LA⟩:=hR
  refine⟨_,he,wpList_nil (az (aq ?_))⟩
  refine bg (p:=⟨w.heap.size,0,none⟩) (v:=d') (by simp[aa,gp,lt,ab,pt]) (hV.agg _) (by simp[World.cell?,LA.box]) (ak (wpList_nil (az (.ret ⟨?_,d',?_,?_⟩))))
  ·simp only[aj];exact I4
  ·rw[dp]
   simp[aa,gp,lt,ab]
  ·have:=LA.gr
   rwa [List.take_of_length_le (Nat.le_refl _)]at this
 ·have Pj:ac (fun _=>False) w w2:=Ir.trans Ic
  have Iw:=Ic.size
  refine⟨d,⟨by rw[Ic.block _ (by omega) id];exact Na,?_,fun k hk=>.inl (LT k hk),⟨by omega,Nat.le_refl _⟩,⟨Nat.le_refl _,hL⟩,hb⟩⟩
  have e0:bs++bQ (t.take 0)=bs:=by simp[bQ]
  rw[e0]
  exact⟨hd.keep Pj fun _ _ h=>h,Pj.mono fun _ _ h=>h.elim,fun k hk=>.inl hk⟩
 ·obtain⟨d',LA⟩:=hI
  have Iq:=ox t (j+1)
  rw[nd hj,List.length_append]at Iq
  have:=sa hm ot hV tf.dInt tf.dU32 TY TX LK PT LA (Lu _ (List.mem_of_getElem? hj)) hv (by
   rw[List.length_append]
   show bs.length+(bQ (t.take j)).length+(dm (k,l)).length<=di
   omega)
  refine this.mono fun e w3 h=>⟨h.1,?_,?_⟩
  ·obtain⟨d'',h3⟩:=h.2.1
   refine⟨d'',?_⟩
   rw[nd hj,<- List.append_assoc]
   exact h3
  ·rw[KD];exact h.2.2
end
end
section
open Go Go.ChangeMaps Go.Shelf Go.Lib Go.Sort
section
variable {P:Program}
def qd (T:TN):List Oper:=[mk (some 6) (.load T.tKs (tm 2)),mk (some 7) (.move (tm 0)),mk (some 8) (.indexAddr T.tKs (tm 6) (tm 7)),mk (some 9) (.load T.tU32 (tm 8)),mk (some 10) (.load T.tKs (tm 2)),mk (some 11) (.move (tm 1)),mk (some 12) (.indexAddr T.tKs (tm 10) (tm 11)),mk (some 13) (.load T.tU32 (tm 12)),mk (some 14) (.binOp .lss T.tU32 (tm 9) (tm 13) 0)]
def cTLess (T:TN):Code:=sq [rg [mk (some 5) (.assign (.const (.bool false)))],.region 1 (qd T++[mk (some 5) (.assign (tm 14))]).toArray true,.ret]
theorem sU (hm:P.follows .mixedOrders=true){T:TN}(tf:TF P T){f nt:Nat}(hfn:FnIs P f nt [5] (cTLess T))(Iv:15<=nt){w:World}{V G n i j x y:Nat}(hV:w.cell? ⟨V,0,none⟩=some (.slice (some ⟨G,0,none⟩) n n))(hi:i<n)(hj:j<n)(hx:w.cell? ⟨G,i,none⟩=some (bU x))(hy:w.cell? ⟨G,j,none⟩=some (bU y)) :
  Calls P f #[.int .i64 (i:Int),.int .i64 (j:Int),pt V 0] w fun e w'=>e=.returned (.bool (decide (x<y)))/\w'=w.drew:=by
 refine eB hm hfn (by simp) [.int .i64 (i:Int),.int .i64 (j:Int),pt V 0] (by simp;omega) fun a harg hs hd=>?_
 have g0:=harg 0 _ rfl
 have g1:=harg 1 _ rfl
 have g2:=harg 2 _ rfl
 unfold cTLess
 refine az (aq (ak (wpList_nil ?_)))
 have Jk:dq (qd T++[mk (some 5) (.assign (tm 14))])=[false,false,false,false,false,false,false,false,false,true]:=by kernel_rfl
 refine az (.drw (fun w'=>w'.heap=w.heap) ?_)
 rw[Jk]
 have hc:∀ {p:Addr} {v:Value},w.cell? p=some v->∀ w':World,w'.heap=w.heap->w'.cell? p=some v:=fun h w' hw=>by simpa[World.cell?,hw]using h
 have lt:∀ d,d<15->d<(a.put (some 5) (Act.eval a (.const (.bool false)))).tmps.size:=fun d hd=>by simp only[ab];omega
 have e0:(a.put (some 5) (Act.eval a (.const (.bool false)))).get 0=.int .i64 (i:Int):=by rw[al (by omega)];exact g0
 have e1:(a.put (some 5) (Act.eval a (.const (.bool false)))).get 1=.int .i64 (j:Int):=by rw[al (by omega)];exact g1
 have e2:(a.put (some 5) (Act.eval a (.const (.bool false)))).get 2=pt V 0:=by rw[al (by omega)];exact g2
 have ed:(a.put (some 5) (Act.eval a (.const (.bool false)))).defers=[]:=by rw[aj];exact hd
 generalize a.put (some 5) (Act.eval a (.const (.bool false)))=a at lt e0 e1 e2 ed ⊢
 show eT P _ (qd T) a fun af=>eg P _ _ [mk (some 5) (.assign (tm 14))] af w.drew
 refine eL (p:=⟨V,0,none⟩) (v:=.slice (some ⟨G,0,none⟩) n n) (by rw[aa];exact e2) tf.vK.agg (hc hV) (fq ?_)
 rw[aa,al (by omega),e0]
 refine gQ (b:=G) (o:=0) (m:=n) (c:=n) (i:=i) (k:=.i64) (sz:=1) (by simp[aa,gp,lt,ab]) (by simp[aa,gp,lt,ab]) hi tf.sl tf.vU.size ?_
 refine eL (p:=⟨G,0+i*1,none⟩) (v:=bU x) (by simp[aa,gp,lt,ab]) tf.vU.agg (by rw[Nat.zero_add,Nat.mul_one];exact hc hx) ?_
 refine eL (p:=⟨V,0,none⟩) (v:=.slice (some ⟨G,0,none⟩) n n) (by simp[aa,gp,lt,ab,e2,pt]) tf.vK.agg (hc hV) (fq ?_)
 rw[aa,show Act.get _ 1=.int .i64 (j:Int) from by simp[gp,lt,ab,e1]]
 refine gQ (b:=G) (o:=0) (m:=n) (c:=n) (i:=j) (k:=.i64) (sz:=1) (by simp[aa,gp,lt,ab]) (by simp[aa,gp,lt,ab]) hj tf.sl tf.vU.size ?_
 refine eL (p:=⟨G,0+j*1,none⟩) (v:=bU y) (by simp[aa,gp,lt,ab]) tf.vU.agg (by rw[Nat.zero_add,Nat.mul_one];exact hc hy) ?_
 refine oh (k:=.u32) (k2:=.u32) (m:=(x:Int)) (m2:=(y:Int)) (v:=.bool (decide (x<y))) (by simp[aa,gp,lt,ab,bU]) (by simp[aa,gp,lt,ab,bU]) (fun w'=>ik (.inr (.inr (.inl ⟨rfl,by simp⟩)))) ?_
 refine⟨rfl,?_⟩
 have key:∀ (A:Act) (Q:Exit->Act->World->Prop),(Q .normal (A.put (some 5) (A.eval (tm 14))) w.drew)->(mk (some 5) (.assign (tm 14))).wp P A w.drew (eg P (fun w'=>w'.heap=w.heap) Q []) (fun _ _ _=>False):=fun A Q hQ=>by
  unfold Oper.wp
  exact⟨rfl,hQ⟩
 refine key _ _ (az (cs:=[]) (.ret ⟨?_,?_,rfl⟩))
 ·simp only[aj];exact ed
 ·rw[dp]
  simp[aa,gp,lt,ab]
end
end
section
open Go Go.ChangeMaps Go.Shelf Go.Lib Go.Sort
section
variable {P:Program} {ρ:Ren}
def CH (x y:Nat):Bool:=decide (x<y)
theorem zS:SWO CH where
 irrefl x:=by simp[CH]
 trans x y z h1 h2:=by simp only[CH,decide_eq_true_eq]at h1 h2 ⊢;omega
 ntrans x y z h1 h2:=by simp only[CH,decide_eq_false_iff_not]at h1 h2 ⊢;omega
theorem nR (X:Nat->Prop)(w:World)(os:Array Obj):ac X w (grow w os):=⟨rfl,rfl,rfl,by rw[size_grow];omega,fun k hk _=>heap_grow_old w os hk⟩
theorem sortOk_of (hm:P.follows .mixedOrders=true){T:TN}(tf:TF P T)(L:LaysGg.n6 P ρ)(hρ:ρ.f 6=T.fSort)(hSE:Ent P T.fSort){nt:Nat}(hfn:FnIs P T.fLess nt [5] (cTLess T))(Iv:15<=nt){it ie:TypeInfo}(hi:P.info? T.tKs=some it)(hd:it.desc=.slice T.tU32)(R2:P.packed T.tKs=false)
  (Xv:P.info? T.tU32=some ie) {ke:Nat} (Nk:∀ w,(Extern.Rtype.kind T.tU32).run P w=.ok ke w) (If:ie.size=1) (MD:ie.bytes=4) (Kj:ie.hasPointers=false) (heg:∀ args w,(callFunc T.fLess args).run P w=.ok (.enter T.fLess args) w)
  {f1 f2 f6 : Nat} (h1 : P.funcs.findIdx? (·.name == "internal/reflectlite" ++ ".Swapper$" ++ toString 1) = some f1) (h2 : P.funcs.findIdx? (·.name == "internal/reflectlite" ++ ".Swapper$" ++ toString 2) = some f2) (h6 : P.funcs.findIdx? (·.name == "internal/reflectlite" ++ ".Swapper$" ++ toString 6) = some f6)
  (hx:∀ args W,(callFunc f6 args).run P W=((Extern.ReflectliteSwapper.swap true args).run P W).andThen fun v w'=>.ok (.value v) w'):SortOk P T:=by
 refine⟨hSE,fun w V G n ks cur Jb hn hk32 hV hG Iz hVG IP=>?_⟩
 rw[<- hρ]
 have Px:G<w.heap.size:=(Array.getElem?_eq_some_iff.1 hG).1
 have Wp:V<w.heap.size:=(Array.getElem?_eq_some_iff.1 hV).1
 by_cases IE:2<=n
 ·have hK:swapperK n ie ke=6:=by
   have c:(n==0)=false:=by simp;omega
   have d:(n==1)=false:=by simp;omega
   simp[swapperK,Kj,MD,c,d]
  have OH:ks.toArray.size=n:=by simpa using Jb
  have hH:Holds bU w G 0 ks.toArray:=fun j hj=>by
   have OD:j<ks.length:=by simpa using hj
   have e1:ks[j]?=some ks.toArray[j]!:=by rw[getElem!_pos ks.toArray j hj];simp[OD]
   have:=IP j _ e1
   refine⟨by simp[World.cell?,hG,this],by simp[World.frozen?,hG]⟩
  have RN:LessReads P T.fLess #[pt V 0] bU CH G 0 ks.toArray.size w:=by
   intro m os dk hs i j hi hj
   have W1:Holds bU (Sort.ahead w m) G 0 ks.toArray:=holds_ahead _ _ _ _ _ _ hH
   have Ia:∀ t,t<ks.toArray.size->(sortWorld bU w G 0 m dk os).cell? ⟨G,t,none⟩=some (bU dk[t]!):=fun t ht=>by
    unfold sortWorld
    rw[cell?_grow _ _ _ (by show G<(putRow bU (Sort.ahead w m) G 0 dk).heap.size;simp only[putRow,mapBlock];simpa using Px)]
    have:=cell?_putRow bU (Sort.ahead w m) G 0 ks.toArray dk W1 hs t (by omega)
    rwa [Nat.zero_add]at this
   have hcV:(sortWorld bU w G 0 m dk os).cell? ⟨V,0,none⟩=some (.slice (some ⟨G,0,none⟩) n n):=by
    unfold sortWorld
    rw[cell?_grow _ _ _ (by show V<(putRow bU (Sort.ahead w m) G 0 dk).heap.size;simp only[putRow,mapBlock];simpa using Wp),cell?_putRow_other _ _ _ _ _ _ (.inl hVG)]
    show w.cell? ⟨V,0,none⟩=_
    simp[World.cell?,hV]
   have:=sU hm tf hfn Iv (w:=sortWorld bU w G 0 m dk os) (V:=V) (G:=G) (n:=n) (i:=i) (j:=j) hcV (by omega) (by omega) (Ia i hi) (Ia j hj)
   exact this.mono fun e w' h=>⟨h.1,1,h.2⟩
  have hS:=Any.sort_Slice_sorted L T.tKs T.tU32 it ie hi hd R2 Xv ke Nk If tf.vU.agg bU (fun _=>rfl) CH zS T.fLess #[pt V 0] heg G 0 n ks.toArray (by omega) (by omega) f6 (by rw[OH,hK];exact h6) true hx w RN hH Px
  rw[OH]at hS
  refine hS.mono fun e w' h=>?_
  obtain⟨he,d',m,os,hp,Nz,rfl⟩:=h
  have hsz':d'.size=n:=hp.1.trans OH
  have W1:Holds bU (Sort.ahead w m) G 0 ks.toArray:=holds_ahead _ _ _ _ _ _ hH
  have XB:(putRow bU (Sort.ahead w m) G 0 d').heap[G]?=some (.cells (putCells bU 0 d' cur) T.tU32 (0,0)):=by
   simp only[putRow,mapBlock,Array.getElem?_modify,if_true]
   show(w.heap[G]?).map _=_
   rw[hG];rfl
  have hPk:ac (fun k=>k=G) w (putRow bU (Sort.ahead w m) G 0 d'):=⟨rfl,rfl,rfl,by show w.heap.size<=(w.heap.modify G _).size;simp,fun k _ hk=>by
   show(w.heap.modify G _)[k]?=_
   rw[Array.getElem?_modify,if_neg (fun e=>hk e.symm)]⟩
  have hPs:(putRow bU (Sort.ahead w m) G 0 d').heap.size=w.heap.size:=by show(w.heap.modify G _).size=_;simp
  refine⟨he,hPk.trans (nR _ _ _),putCells bU 0 d' cur,d'.toList,by rw[heap_grow_old _ _ (by omega)];exact XB,?_,?_,fun i x hx=>?_⟩
  ·have:=hp.2.2
   have e1:d'.extract 0 n=d':=by rw[<- hsz'];simp
   have e2:ks.toArray.extract 0 n=ks.toArray:=by rw[<- OH];simp
   rw[e1,e2]at this
   simpa using this
  ·rw[List.pairwise_iff_getElem]
   intro i j hi hj Jy
   have OD:j<n:=by simp at hj;omega
   have:=Nz i j (Nat.zero_le _) Jy (by omega)
   simp only[CH,decide_eq_false_iff_not]at this
   rw[getElem!_pos d' j (by omega),getElem!_pos d' i (by omega)]at this
   simp only[Array.getElem_toList]
   omega
  ·have Qe:i<d'.size:=by
    have:=(List.getElem?_eq_some_iff.1 hx).1
    simpa using this
   have hc:=cell?_putRow bU (Sort.ahead w m) G 0 ks.toArray d' W1 (by omega) i Qe
   have e1:d'[i]! = x:=by
    rw[getElem!_pos d' i Qe]
    have:=(List.getElem?_eq_some_iff.1 hx).2
    simpa using this
   simp only[World.cell?,XB,Nat.zero_add,e1]at hc
   exact hc
 ·have hK:swapperK n ie ke=n+1:=by
   rcases Nat.eq_zero_or_pos n with h|h
   ·subst h;simp[swapperK]
   ·obtain rfl:n=1:=by omega
    simp[swapperK]
  have hf : ∃ f, P.funcs.findIdx? (·.name == "internal/reflectlite" ++ ".Swapper$" ++ toString (swapperK n ie ke)) = some f := by
   rw[hK]
   rcases Nat.eq_zero_or_pos n with h|h
   ·subst h;exact⟨f1,h1⟩
   ·obtain rfl:n=1:=by omega
    exact⟨f2,h2⟩
  obtain⟨f,hf⟩:=hf
  have hS:=Any.sort_Slice_tiny L T.tKs T.tU32 it ie hi hd R2 Xv ke Nk (some ⟨G,0,none⟩) n n (by omega) f hf (.func T.fLess) #[] #[pt V 0] w
  refine hS.mono fun e w' h=>?_
  obtain⟨he,os,rfl⟩:=h
  refine⟨he,nR _ _ _,cur,ks,by rw[heap_grow_old _ _ Px];exact hG,.refl _,?_,IP⟩
  match ks,Jb with
  | [],_=>simp
  | [x],_=>simp
  | x::y::r,h=>simp at h;omega
end
end
theorem fnIsC_of {P : Program} {f : Nat} {fn : Func} {ntmps s t : Nat} {d : Code} (hf : P.funcs[f]? = some fn) (hb : fn.body.map bK = some d) (hn : fn.ntmps = ntmps) (hr : fn.results = #[ResultVar.cell s t]) (hg : (fn.name == "runtime.NumGoroutine") = false) : FnIsC P f ntmps s t d := by
 cases h:fn.body with
 | none=>rw[h]at hb;cases hb
 | some c=>
  rw[h]at hb
  exact⟨fn,c,hf,h,Option.some.inj hb,hn,hr,hg⟩
def Bp (P:Program)(U:Nat):Bool:=match P.info? U with|some i=>(match i.zero with|some _=>i.size==1&&i.bytes==4|none=>false)|none=>false
theorem infoB_ok {P:Program}{U:Nat}(h:Bp P U=true):∃ i z,P.info? U=some i/\i.zero=some z/\i.size=1/\i.bytes=4:=by
 unfold Bp at h
 split at h
 ·rename_i i hi
  split at h
  ·rename_i z hz
   simp only[Bool.and_eq_true,beq_iff_eq]at h
   exact⟨i,z,hi,hz,h.1,h.2⟩
  ·cases h
 ·cases h
section
open Go Go.ChangeShapes Go.WideShapes Go.RowKit
section
variable {H:Type} {enc:TypeId × Value->H} {P:Program}
theorem ac.butNone {w w':World}(h:ac (fun _=>False) w w')(may:MemPlace->Prop):w.keptBut w' may:=
 World.keptBut_mono (fun _ h=>h.elim) (World.keptBut_none_iff.2 ⟨h.os,h.output,fun i hi=>h.block i hi id⟩)
theorem errAt_of_var {n:String}{W:World}{g:Nat}{t:TypeId}{x:Value}(hg:P.globalNamed n=some g)(h:W.var? P n=some #[.iface t x]):ErrAt g W:=
 ⟨t,x,by simpa using World.var?_cell hg h 0⟩
end
end
end Go.Proofs.YtpoeajgpacfpoaaGreatDoor.Kx