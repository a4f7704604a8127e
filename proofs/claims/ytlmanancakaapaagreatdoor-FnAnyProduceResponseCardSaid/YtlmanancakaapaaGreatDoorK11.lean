/-
  PLAIN LAWS AND CONTRACTS of messages, part 11 of 15: how readers and writers are printed, what they do, what the reference writes, and that what is written is read as the same. Nothing of a statement stands here.
-/
import Derived.Test.YtlmanancakaapaaGreatDoorK1
import Derived.Test.YtlmanancakaapaaGreatDoorK3
import Derived.Test.YtlmanancakaapaaGreatDoorK4
import Derived.Test.YtlmanancakaapaaGreatDoorK7
import Derived.Test.YtlmanancakaapaaGreatDoorK9
import Derived.Test.YtlmanancakaapaaGreatDoorK10

namespace Go.Proofs.YtlmanancakaapaaGreatDoor.Kx
open Go
theorem RpF.far {L:Nat} {w w':World} (hk:Keeps (fun k=>L<=k) w w') {fs:Fds} {b o:Nat} {vs:List V} (h:RpF w (fun k=>L<=k) fs b o vs) (hb:b < L) (hL:L<=w.heap.size):RpF w' (fun k=>L<=k) fs b o vs:=
 RpF.frame hk fs b o vs 0 h fun j _ _=>q1_ (hk.block b (by omega) (by omega)) j
structure TG (L tU:Nat) (v:Value) (w:World) (v':Value) (ks':List Nat) (w':World):Prop where
 at_:TeAt w' L tU v' ks'
 keeps:Keeps (fun j=>v.ownBlock=some j) w w'
 own:∀ j,v'.ownBlock=some j->v.ownBlock=some j \/ w.heap.size<=j
def wrKs:Fds->List V->List Nat
 | .nil,_=>[]
 | .cons _ _ tag df _ ty r,vs=>(match tag with | some k=>if isDf ty df (vs.headD .nul) then [] else [k] | none=>[])++wrKs r vs.tail
def Fds.tagsOf:Fds->List Nat
 | .nil=>[]
 | .cons _ _ tag _ _ _ r=>(match tag with | some k=>[k] | none=>[])++r.tagsOf
def Fds.len:Fds->Nat
 | .nil=>0
 | .cons _ _ _ _ _ _ r=>r.len + 1
theorem wrKs_len:∀ (fs:Fds) (vs:List V),(wrKs fs vs).length<=fs.len
 | .nil,_=>Nat.le_refl _
 | .cons _ _ tag df _ ty r,vs=>by
  have:=wrKs_len r vs.tail
  simp only [wrKs,Fds.len,List.length_append]
  cases tag with
  | none=>simp;omega
  | some k=>
   simp only
   split <;> simp <;> omega
theorem wrTgd_keys (fx:Bool) (ver:Int):∀ (fs:Fds) (vs:List V),(wrTgd fx ver fs vs).map (·.1)=wrKs fs vs
 | .nil,_=>by simp only [wrTgd,wrKs,List.map_nil]
 | .cons _ _ tag df _ ty r,vs=>by
  have:=wrTgd_keys fx ver r vs.tail
  simp only [wrTgd,wrKs,List.map_append,this]
  cases tag with
  | none=>rfl
  | some k=>
   simp only
   split <;> rfl
theorem wrTgd_mem (fx:Bool) (ver:Int):∀ (fs:Fds) (vs:List V),∀ y ∈ wrTgd fx ver fs vs,y.1 ∈ fs.tagsOf
 | .nil,_,y,hy=>by simp [wrTgd] at hy
 | .cons _ _ tag df _ ty r,vs,y,hy=>by
  simp only [wrTgd,List.mem_append] at hy
  simp only [Fds.tagsOf,List.mem_append]
  rcases hy with hy | hy
  ·left
   cases tag with
   | none=>simp at hy
   | some k=>
    simp only at hy
    split at hy
    ·simp at hy
    ·simp only [List.mem_singleton] at hy
     rw [hy]
     simp
  ·exact .inr (wrTgd_mem fx ver r vs.tail y hy)
def okCondsW (P:Program) (av:PF->Bool) (g:GW) (T:Nat):Fds->List Nm->Bool
 | .nil,_=>true
 | .cons _ _ tag _ off ty r,ms=>(match tag with | some k=>decide (k < 4294967296) && okCondW P av g T off ty (ms.headD (.mk [] [])) | none=>true) && okCondsW P av g T r ms.tail
section
variable {P:Program} {tKs tU L:Nat} {v v1 v':Value} {ks ks1 ks':List Nat} {w w1 w':World}
theorem TG.refl (h:TeAt w L tU v ks):TG L tU v w v ks w:=⟨h,Keeps.refl _ _,fun _ h=>.inl h⟩
theorem TG.trans (h:TG L tU v w v1 ks1 w1) (k:TG L tU v1 w1 v' ks' w'):TG L tU v w v' ks' w':=
 ⟨k.at_,⟨k.keeps.os.trans h.keeps.os,k.keeps.tape.trans h.keeps.tape,k.keeps.output.trans h.keeps.output,Nat.le_trans h.keeps.size k.keeps.size,fun i hi hx=>by
   have hs:=h.keeps.size
   rw [k.keeps.block i (by omega) (fun hh=>by rcases h.own i hh with h1 | h1;exact hx h1;omega),h.keeps.block i hi hx]⟩,
  fun i hi=>by
   have hs:=h.keeps.size
   rcases k.own i hi with h1 | h1
   ·exact h.own i h1
   ·exact .inr (by omega)⟩
theorem TG.pre (hk:Keeps (fun _=>False) w w1) (h:TG L tU v w1 v' ks' w'):TG L tU v w v' ks' w':=
 ⟨h.at_,(hk.mono fun _ _ h=>h.elim).trans h.keeps,fun j hj=>by
  have:=hk.size
  rcases h.own j hj with h1 | h1
  ·exact .inl h1
  ·exact .inr (by omega)⟩
theorem up_cond (g:GW) (s:Nat) (ty:Ty) (df:Int) (m:Nm) {A:GC} (hA:Up A):Up (gwCond g s ty df m A):=by
 unfold gwCond
 split
 all_goals first | exact j4_ hA (q7_ _) | exact q7_ _ | skip
 exact fun n=>Nat.le_trans (Nat.le_add_right n 7) (hA (n + 7))
theorem upL_conds (g:GW) (s te tKs:Nat):∀ (fs:Fds) (ms:List Nm),UpL (zf_ g s te tKs fs ms)
 | .nil,_=>qk_
 | .cons _ _ tag df _ ty r,ms=>by
  simp only [zf_]
  split
  ·exact qe_ (up_cond g s ty df _ (qi_ _ _)) (upL_conds g s te tKs r ms.tail)
  ·exact upL_conds g s te tKs r ms.tail
variable {g:GW} {m k0 n B O s te:Nat} {Q:Exit->Act->World->Prop} {a:Act}
theorem s_conds {av:PF->Bool} {fl nl:Bool} {te':Nat} (K0:KW P g av fl nl te') (T:TeT P tKs tU) (hInt:P.underlying g.tInt=some (.int .i64)) {TT:Nat} {rest:List GC} (hsl:m<=te/\te < k0) (hs:s < m) (hk0:m<=k0) (hBL:B < L):∀ (fs:Fds) (ms:List Nm) (vs:List V) (n:Nat) (v:Value) (ks:List Nat) (a:Act) (w:World),okCondsW P av g TT fs ms=true->a.get s=pt B O->a.get te=v->TeAt w L tU v ks->RpF w (fun k=>L<=k) fs B O vs->L<=w.heap.size->ks.length + fs.len<=1000->k0<=n->(gL (zf_ g s te tKs fs ms) n).2<=a.tmps.size ->
  (∀ a' w' v',Pv te m k0 n a a'->a'.get te=v'->TG L tU v w v' (ks++wrKs fs vs) w'->LW P rest (gL (zf_ g s te tKs fs ms) n).2 Q a' w')->LW P (zf_ g s te tKs fs ms++rest) n Q a w
 | .nil,ms,vs,n,v,ks,a,w,_,_,hte,hv,_,_,_,_,_,h=>h a w v (Pv.refl _ _ _ _ _) hte (by simpa [wrKs] using TG.refl hv)
 | .cons lo hi tag df off ty r,ms,vs,n,v,ks,a,w,hok,hss,hte,hv,hr,hL,hlim,hk,hn,h=>by
  obtain ⟨x,vs',rfl,hx,hrs⟩:=hr
  simp only [okCondsW,Bool.and_eq_true] at hok
  simp only [Fds.len] at hlim
  cases tag with
  | none=>
   have e1:zf_ g s te tKs (.cons lo hi none df off ty r) ms=zf_ g s te tKs r ms.tail:=by simp only [zf_]
   have e2:wrKs (.cons lo hi none df off ty r) (x :: vs')=wrKs r vs':=by simp only [wrKs,List.nil_append,List.tail_cons]
   rw [e1] at hn h ⊢
   rw [e2] at h
   exact s_conds K0 T hInt hsl hs hk0 hBL r ms.tail vs' n v ks a w hok.2 hss hte hv hrs hL (by omega) hk hn h
  | some t=>
   simp only [Bool.and_eq_true,decide_eq_true_eq] at hok
   have e1:zf_ g s te tKs (.cons lo hi (some t) df off ty r) ms=gwCond g s ty df (ms.headD (.mk [] [])) (gwPut tKs te t) :: zf_ g s te tKs r ms.tail:=by simp only [zf_]
   have e2:wrKs (.cons lo hi (some t) df off ty r) (x :: vs')=(if isDf ty df x then [] else [t])++wrKs r vs':=by simp only [wrKs,List.headD_cons,List.tail_cons];rfl
   rw [e1] at hn h ⊢
   rw [e2] at h
   have hupA:Up (gwPut tKs te t):=qi_ _ _
   have hup0:=up_cond g s ty df (ms.headD (.mk [] [])) hupA n
   have hup1:=upL_conds g s te tKs r ms.tail (gwCond g s ty df (ms.headD (.mk [] [])) (gwPut tKs te t) n).2
   have hn1:(gL (zf_ g s te tKs r ms.tail) (gwCond g s ty df (ms.headD (.mk [] [])) (gwPut tKs te t) n).2).2<=a.tmps.size:=hn
   have next:∀ (a1:Act) (w1:World) (v1:Value),Pv te m k0 n a a1->a1.get te=v1->TG L tU v w v1 (ks++(if isDf ty df x then [] else [t])) w1->LW P (zf_ g s te tKs r ms.tail++rest) (gwCond g s ty df (ms.headD (.mk [] [])) (gwPut tKs te t) n).2 Q a1 w1:=by
    intro a1 w1 v1 hp1 ht1 hg1
    have hs1:=hp1.size
    have hfar:Keeps (fun k=>L<=k) w w1:=hg1.keeps.mono fun k _ hk=>(hv.own hk).1
    refine s_conds K0 T hInt hsl hs hk0 hBL r ms.tail vs' _ v1 _ a1 w1 hok.2 ((hp1.get s (by omega) (.inl hs)).trans hss) ht1 hg1.at_ (hrs.far hfar hBL hL) (Nat.le_trans hL hg1.keeps.size) ?_ (by omega) (by omega) fun a' w' v' hp' ht' hg'=>h a' w' v' (hp1.trans (hp'.mono (Nat.le_refl _) hup0)) ht' ?_
    ·rw [List.length_append]
     split <;> simp <;> omega
    ·rw [<- List.append_assoc]
     exact hg1.trans hg'
   show LW P (gwCond g s ty df (ms.headD (.mk [] [])) (gwPut tKs te t) :: (zf_ g s te tKs r ms.tail++rest)) n Q a w
   refine qc_ (s_cond K0 (k0:=k0) hok.1.2 hInt hss hx hupA (by omega) hk (by omega) (fun hd a1 w1 n1 hp1 hlow1 hk1 hnn hsz=>?_) (fun hd a1 w1 hp1 hlow1 hk1=>?_))
   ·have hs1:=hp1.size
    have hsz':(gwCond g s ty df (ms.headD (.mk [] [])) (gwPut tKs te t) n).2=n1 + 3:=hsz
    have hv1:=hv.keep hk1 fun _ _ h=>h
    refine s_put T (m:=m) (k0:=k0) (v:=v) (ks:=ks) ((hlow1 te (by omega)).trans hte) hv1 (Nat.le_trans hL hk1.size) (by omega) hsl (by omega) (by omega) fun a2 w2 v2 hp2 ht2 hv2 hk2 ho2=>next a2 w2 v2 ?_ ht2 ?_
    ·exact ⟨hp2.size.trans hp1.size,hp2.defers.trans hp1.defers,fun i hi hi2=>(hp2.get i hi (by omega)).trans (hlow1 i (by omega))⟩
    ·rw [hd]
     exact TG.pre hk1 ⟨hv2,hk2,ho2⟩
   ·have hs1:=hp1.size
    refine next a1 w1 v ⟨hp1.size,hp1.defers,fun i _ hi2=>hlow1 i (by omega)⟩ ((hlow1 te (by omega)).trans hte) ?_
    rw [hd]
    simp only [if_true,List.append_nil]
    exact TG.pre hk1 (TG.refl (hv.keep hk1 fun _ _ h=>h))
end
section
variable {P:Program} {g:GW} {av:PF->Bool} {fl nl:Bool} {te:Nat} {L m k0 n B O:Nat} {d:Value} {bs:Bs} {K E:Act->World->Prop} {Q:Exit->Act->World->Prop} {a:Act} {w:World}
theorem s_count (K0:KW P g av fl nl te) (hfl:fl=true) {tKs tU q s TT kt o F sz cnt c:Nat} {agg:Bool} {base:Option Addr} {mm:Value} {t:List (Nat × Bs)} {X:Nat->Prop} (T:TeT P tKs tU) (hq:a.get q=.slice base cnt c) (hs:a.get s=pt B O) (hF:zj_ P TT kt F o agg sz) (hmm:w.cell? ⟨B,O + o,none⟩=some mm) (ht:TgRp w X mm t) (htl:t.length < 4611686018427387904) (hcnt:cnt<=1000)
  (h1:a.get 1=d) (hd:jh_ w L te d bs) (hL:L<=w.heap.size) (hlim:bs.length + (uvar (w32 (cnt + t.length))).length<=LIM) (hqs:q < n/\s < n) (h1m:1 < k0) (hk:k0<=n) (hn:n + 10<=a.tmps.size)
  (h:∀ a' w' d',Pv 1 k0 k0 n a a'->a'.get 1=d'->Gr L te d w d' (bs++uvar (w32 (cnt + t.length))) w'->K a' w'):NWP P (gwCount g s TT kt q tKs n).1 (Exit.then K Q) a w:=by
 refine qj_ (qd_ (qd_ ?_))
 rw [qb_,h1,qb_,gpo (by omega),hq]
 refine wl_len (base:=base) (n:=cnt) (c:=c) (by rw [qb_,gpe (by simp only [qa_];omega)]) T.sl (qd_ ?_)
 rw [qb_,gpo (by omega),gpo (by omega),gpo (by omega),hs]
 refine qp_ (by rw [qb_,gpe (by simp only [qa_];omega)];rfl) ?_
 refine ju_ (by rw [qb_,gpe (by simp only [qa_];omega)]) hF ?_
 refine qv_ (vs:=#[pt B (O + o)]) (K0.tlE hfl) ?_ (K0.tlC hfl w B (O + o) mm _ t hmm ht) fun e2 w2 hR=>⟨_,hR.1,?_⟩
 ·simp only [List.map_cons,List.map_nil,qb_]
  rw [gpe (by simp only [qa_];omega)]
  rfl
 have hk2:=hR.2
 refine zk_ (k:=.i64) (m:=cnt) (n:=t.length) (by rw [qb_,gpo (by omega),gpo (by omega),gpo (by omega),gpo (by omega),gpe (by simp only [qa_];omega)]) (by rw [qb_,gpe (by simp only [qa_];omega)]) (by simp) (run_add w2) ?_
 refine qw_ (k:=.i64) (k':=.u32) (m:=IntKind.i64.wrap ((cnt:Int) + (t.length:Int))) (by rw [qb_,gpe (by simp only [qa_];omega)]) K0.dInt (K0.dU32 hfl) ?_
 have hwr:IntKind.u32.wrap (IntKind.i64.wrap ((cnt:Int) + (t.length:Int)))=(w32 (cnt + t.length):Nat):=by
  have:IntKind.i64.wrap ((cnt:Int) + (t.length:Int))=((cnt + t.length:Nat):Int):=by simp [IntKind.wrap,IntKind.bits,IntKind.signed];omega
  rw [this]
  simp [IntKind.wrap,IntKind.bits,IntKind.signed,w32]
 rw [hwr]
 refine zx_ (K0.uvE hfl) ?_ (K0.uvC hfl (w32 (cnt + t.length)) w2 (w32_lt _) L) (hd.keep hk2 fun _ _ h=>h) (Nat.le_trans hL hk2.size) hlim (by simp only [qa_];omega) fun w3 d3 hg3=>wpList_nil (h _ w3 d3 ?_ (gpe (by simp only [qa_];omega)) (Gr.pre hk2 (fun _ _ h=>h) hg3))
 ·simp only [List.map_cons,List.map_nil,qb_]
  rw [gpo (by omega),gpo (by omega),gpo (by omega),gpo (by omega),gpo (by omega),gpo (by omega),gpo (by omega),gpo (by omega),gpe (by omega),gpe (by simp only [qa_];omega)]
 ·exact ((((((((((((Pv.refl _ _ _ _ _).put _ (by omega)).put _ (by omega)).put _ (by omega)).put _ (by omega)).put _ (by omega)).put _ (by omega)).put _ (by omega)).put _ (by omega)).put _ (by omega)).put _ (by omega)).put _ (.inl rfl))
theorem s_wcase {x key:Nat} {t:Nat} {A:GC} {l:List (Nat × GC)} {kk:Nat} (hkey:a.get key=.int .u32 kk) (_hkn:key < n) (hm:m<=k0) (hk:k0<=n) (hn:n + 2<=a.tmps.size)
  (hyes:kk=t->∀ a',Pv x m k0 n a a'->(∀ i,i < n->a'.get i=a.get i)->NWP P (A (n + 2)).1 Q a' w) (hno:kk ≠ t->∀ a',Pv x m k0 n a a'->(∀ i,i < n->a'.get i=a.get i)->NWP P (jx_ g key l (A (n + 2)).2).1 Q a' w):NWP P (jx_ g key ((t,A) :: l) n).1 Q a w:=by
 have htest:∀ (b:Bool) (K':Act->World->Prop),b=decide ((kk:Int)=(t:Int))->(∀ a',a'.eval (tm n)=.bool b->Pv x m k0 n a a'->(∀ i,i < n->a'.get i=a.get i)->K' a' w) ->
   wpList P [mk (some (n + 1)) (.binOp .eql g.tU32 (tm key) (ki .u32 t) 0),mk (some n) (.assign (tm (n + 1)))].toArray (Exit.then K' Q) [mk (some (n + 1)) (.binOp .eql g.tU32 (tm key) (ki .u32 t) 0),mk (some n) (.assign (tm (n + 1)))] a w:=by
  intro b K' hb hK'
  refine q9_ (b:=b) (p:=kk) (q:=t) (k:=.u32) (by rw [qb_,hkey]) rfl (.inr (.inr (.inr (.inr (.inl ⟨rfl,hb⟩))))) (qg_ (wpList_nil (hK' _ ?_ (((Pv.refl _ _ _ _ _).put _ (by omega)).put _ (by omega)) fun i hi=>?_)))
  ·rw [qb_,qb_,gpe (by simp only [qa_];omega),gpe (by omega)]
  ·rw [gpo (by omega),gpo (by omega)]
 by_cases hkt:kk=t
 ·exact .seq (.reg (htest true (fun a' w'=>a'.eval (tm n)=.bool true/\NWP P (A (n + 2)).1 Q a' w') (by simp [hkt]) fun a' he hp hl=>⟨he,hyes hkt a' hp hl⟩)) (fun a' w' h=>.condT h.1 h.2) (fun e a w he hq=>by rw [zc_ he] at hq;exact hq)
 ·exact .seq (.reg (htest false (fun a' w'=>a'.eval (tm n)=.bool false/\NWP P (jx_ g key l (A (n + 2)).2).1 Q a' w') (by simp;omega) fun a' he hp hl=>⟨he,hno hkt a' hp hl⟩)) (fun a' w' h=>.condF h.1 h.2) (fun e a w he hq=>by rw [zc_ he] at hq;exact hq)
end
section
variable {P:Program} {g:GW} {av:PF->Bool} {fl nl:Bool} {te:Nat} {L m k0 n:Nat} {d:Value} {bs:Bs} {K E:Act->World->Prop} {Q:Exit->Act->World->Prop} {a:Act} {w:World}
theorem s_tagfor (_hInt:P.underlying g.tInt=some (.int .i64)) {q tKs tv b1 b2 b3:Nat} {cs:List (Nat × GC)} {v:Value} {ks:List Nat} {es:List Bs} (T:TeT P tKs g.tU32) (hq:a.get q=v) (hv:TeAt w L g.tU32 v ks) (hvd:∀ j,v.ownBlock=some j->d.ownBlock ≠ some j) (h1:a.get 1=d) (hd:jh_ w L te d bs) (hlen:ks.length<=1000) (hes:es.length=ks.length)
  (hqn:q < n) (htv:m<=tv/\tv < k0) (h1t:1 < tv) (hk:k0<=n) (hn:(gwTagFor g q tKs tv b1 b2 b3 cs n).2<=a.tmps.size) (hup:n + 7<=(jx_ g (n + 6) cs (n + 7)).2)
  (hcase:∀ (j k:Nat) (e:Bs) (a1:Act) (w1:World) (d1:Value),ks[j]?=some k->es[j]?=some e->Pv 1 tv k0 n a a1->a1.get (n + 6)=.int .u32 (k:Int)->a1.get 1=d1->Gr L te d w d1 (bs++(es.take j).flatten) w1 ->
   NWP P (jx_ g (n + 6) cs (n + 7)).1 (Rt (fun a2 w2=>∃ d2,Pv 1 (tv + 1) k0 (n + 6) a1 a2/\a2.get 1=d2/\Gr L te d1 w1 d2 ((bs++(es.take j).flatten)++e) w2) E) a1 w1)
  (h:∀ a' w' d',Pv 1 tv k0 n a a'->a'.get 1=d'->Gr L te d w d' (bs++es.flatten) w'->K a' w'):NWP P (gwTagFor g q tKs tv b1 b2 b3 cs n).1 (Rt K E) a w:=by
 have hn':(jx_ g (n + 6) cs (n + 7)).2 + 1<=a.tmps.size:=hn
 obtain ⟨base,c,hform⟩:=hv.form
 unfold gwTagFor
 generalize hz:(jx_ g (n + 6) cs (n + 7)).2=z at hn' hup
 refine .seq (R:=Rt (fun a' w'=>Pv 1 tv k0 n a a'/\a'.get n=v/\a'.get (n + 1)=.int .i64 (ks.length:Int)/\a'.get (n + 2)=.int .i64 ((0:Nat):Int)/\a'.get 1=d/\w'=w) E) (.reg (qd_ ?_)) (fun a' w' hh=>?_) (fun e a w he hq=>by cases e <;> first | exact absurd rfl he | exact hq)
 ·rw [qb_,hq]
  refine wl_len (base:=base) (n:=ks.length) (c:=c) (by rw [qb_,gpe (by omega),hform]) T.sl (qd_ (wpList_nil ⟨?_,?_,?_,?_,?_,rfl⟩))
  ·exact (((Pv.refl _ _ _ _ _).put _ (by omega)).put _ (by omega)).put _ (by omega)
  ·rw [gpo (by omega),gpo (by omega),gpe (by omega)]
  ·rw [gpo (by omega),gpe (by simp only [qa_];omega)]
  ·rw [gpe (by simp only [qa_];omega)];rfl
  ·rw [gpo (by omega),gpo (by omega),gpo (by omega)];exact h1
 ·obtain ⟨hp,hgv,hgl,hgi,hg1,rfl⟩:=hh
  refine .block (.loop (fun a1 w1=>∃ j:Nat,j<=ks.length/\Pv 1 tv k0 n a a1/\a1.get n=v/\a1.get (n + 1)=.int .i64 (ks.length:Int)/\a1.get (n + 2)=.int .i64 (j:Int)/\∃ d1,a1.get 1=d1/\Gr L te d w' d1 (bs++(es.take j).flatten) w1) (fun a1 _=>((ks.length:Int) - (match a1.get (n + 2) with | .int _ q=>q | _=>0)).toNat) ⟨0,by omega,hp,hgv,hgl,hgi,d,hg1,by simpa using Gr.refl hd⟩ ?_)
  rintro a1 w1 ⟨j,hj,hp1,hgv1,hgl1,hgj1,d1,h11,hG⟩
  have hs1:=hp1.size
  have htest:∀ (b:Bool),b=decide ((j:Int) < (ks.length:Int))->wpList P [mk (some (n + 3)) (.binOp .lss g.tInt (tm (n + 2)) (tm (n + 1)) 0)].toArray
    (Rt (fun a' w'=>a'.eval (tm (n + 3))=.bool b/\a'=a1.put (some (n + 3)) (.bool b)/\w'=w1) E) [mk (some (n + 3)) (.binOp .lss g.tInt (tm (n + 2)) (tm (n + 1)) 0)] a1 w1:=by
   intro b hb
   refine q9_ (b:=b) (p:=j) (q:=ks.length) (k:=.i64) hgj1 hgl1 (.inr (.inr (.inl ⟨rfl,hb⟩))) (wpList_nil ?_)
   exact ⟨by rw [qb_,gpe (by omega)],rfl,rfl⟩
  by_cases hlt:j < ks.length
  ·obtain ⟨k,hkj⟩:∃ k,ks[j]?=some k:=⟨ks[j],List.getElem?_eq_getElem hlt⟩
   obtain ⟨e0,hej⟩:∃ e,es[j]?=some e:=⟨es[j]'(by omega),List.getElem?_eq_getElem (by omega)⟩
   refine .seq (R:=Rt (fun a' w'=>a'.eval (tm (n + 3))=.bool true/\a'=a1.put (some (n + 3)) (.bool true)/\w'=w1) E) (.reg (htest true (by simp [hlt]))) (fun a2 w2 hh=>?_) (fun e a w he hq=>by cases e <;> first | exact absurd rfl he | exact hq | exact hq.elim)
   obtain ⟨he2,rfl,rfl⟩:=hh
   refine .seq (R:=Rt (fun a' w'=>a'=a1.put (some (n + 3)) (.bool true)/\w'=w2) E) (.condT he2 (.skip ⟨rfl,rfl⟩)) (fun a2 w3 hh=>?_) (fun e a w he hq=>by cases e <;> first | exact absurd rfl he | exact hq | exact hq.elim)
   obtain ⟨rfl,rfl⟩:=hh
   have hv1:TeAt w3 L g.tU32 v ks:=hv.keep hG.keeps fun j hj hX=>hvd j hj hX
   have hcell:∃ G c',v=.slice (some ⟨G,0,none⟩) ks.length c'/\w3.cell? ⟨G,0 + j * 1,none⟩=some (k32 k):=by
    rcases hv1 with ⟨_,rfl⟩ | ⟨G,c',cur,e1,_,e2,_,_,_,e3⟩
    ·simp at hlt
    ·refine ⟨G,c',e1,?_⟩
     have:=e3 j k hkj
     simp [World.cell?,e2,this]
   obtain ⟨G,c',hvG,hcell⟩:=hcell
   refine .seq (R:=Rt (fun a3 w4=>Pv 1 tv k0 n a a3/\a3.get n=v/\a3.get (n + 1)=.int .i64 (ks.length:Int)/\a3.get (n + 2)=.int .i64 (j:Int)/\∃ d3,a3.get 1=d3/\Gr L te d w' d3 (bs++(es.take (j + 1)).flatten) w4) E) (.block ?_)
    (fun a3 w4 hh=>?_) (fun e a w he hq=>by cases e <;> first | exact absurd rfl he | exact hq | exact hq.elim)
   ·refine .seq (R:=Rt (fun a3 w4=>Pv 1 tv k0 n a a3/\a3.get n=v/\a3.get (n + 1)=.int .i64 (ks.length:Int)/\a3.get (n + 2)=.int .i64 (j:Int)/\a3.get tv=k32 k/\a3.get 1=d1/\w4=w3) E) (.reg ?_) (fun a3 w4 hh=>?_) (fun e a w he hq=>by cases e <;> first | exact absurd rfl he | exact hq | exact hq.elim)
    ·refine j3_ (b:=G) (o:=0) (n:=ks.length) (c:=c') (i:=j) (k:=.i64) (sz:=1) (by rw [qb_,gpo (by omega),hgv1,hvG]) (by rw [qb_,gpo (by omega),hgj1]) hlt T.sl (T.vU.size _) ?_
     refine q5_ (p:=⟨G,0 + j * 1,none⟩) (v:=k32 k) (by rw [qb_,gpe (by simp only [qa_];omega)]) (T.vU.agg _) hcell (qg_ (wpList_nil ⟨?_,?_,?_,?_,?_,?_,rfl⟩))
     ·exact (((hp1.put _ (by omega)).put _ (by omega)).put _ (by omega)).put _ (by omega)
     ·rw [gpo (by omega),gpo (by omega),gpo (by omega),gpo (by omega)];exact hgv1
     ·rw [gpo (by omega),gpo (by omega),gpo (by omega),gpo (by omega)];exact hgl1
     ·rw [gpo (by omega),gpo (by omega),gpo (by omega),gpo (by omega)];exact hgj1
     ·rw [gpe (by simp only [qa_];omega),qb_,gpe (by simp only [qa_];omega)]
     ·rw [gpo (by omega),gpo (by omega),gpo (by omega),gpo (by omega)];exact h11
    ·obtain ⟨hp3,hgv3,hgl3,hgj3,hgt3,h13,rfl⟩:=hh
     have hs3:=hp3.size
     refine .seq (R:=Rt (fun a4 w5=>Pv 1 tv k0 n a a4/\a4.get n=v/\a4.get (n + 1)=.int .i64 (ks.length:Int)/\a4.get (n + 2)=.int .i64 (j:Int)/\a4.get (n + 6)=.int .u32 (k:Int)/\a4.get 1=d1/\w5=w4) E) (.reg (qd_ (wpList_nil ?_))) (fun a4 w5 hh=>?_) (fun e a w he hq=>by cases e <;> first | exact absurd rfl he | exact hq | exact hq.elim)
     ·rw [qb_,hgt3]
      refine ⟨hp3.put _ (by omega),?_,?_,?_,?_,?_,rfl⟩
      ·rw [gpo (by omega)];exact hgv3
      ·rw [gpo (by omega)];exact hgl3
      ·rw [gpo (by omega)];exact hgj3
      ·exact gpe (by omega)
      ·rw [gpo (by omega)];exact h13
     ·obtain ⟨hp4,hgv4,hgl4,hgj4,hk4,h14,rfl⟩:=hh
      refine .block (.mono (hcase j k e0 a4 w5 d1 hkj hej hp4 hk4 h14 hG) fun e a5 w6 hq=>?_)
      cases e <;> first | exact hq.elim | skip
      ·obtain ⟨d2,hp5,h15,hg5⟩:=hq
       refine ⟨hp4.trans (hp5.mono (by omega) (by omega)),by rw [hp5.get _ (by omega) (.inr (by omega))];exact hgv4,by rw [hp5.get _ (by omega) (.inr (by omega))];exact hgl4,by rw [hp5.get _ (by omega) (.inr (by omega))];exact hgj4,d2,h15,?_⟩
       have e1:(es.take (j + 1)).flatten=(es.take j).flatten++e0:=by
        rw [List.take_add_one,hej]
        simp
       rw [e1,<- List.append_assoc]
       exact hG.trans hg5
      ·exact hq
   ·obtain ⟨hp3,hgv3,hgl3,hgj3,d3,h13,hG3⟩:=hh
    have hs3:=hp3.size
    have hwr:IntKind.i64.wrap ((j:Int) + 1)=((j + 1:Nat):Int):=by simp [IntKind.wrap,IntKind.bits,IntKind.signed];omega
    refine .reg (zk_ (v:=.int .i64 ((j + 1:Nat):Int)) (k:=.i64) (m:=j) (n:=1) hgj3 rfl (by simp) (by simp [binOp,Op.intArith,hwr]) (qd_ (wpList_nil ?_)))
    rw [qb_,gpe (by omega)]
    have hgi':((a3.put (some z) (.int .i64 ((j + 1:Nat):Int))).put (some (n + 2)) (.int .i64 ((j + 1:Nat):Int))).get (n + 2)=.int .i64 ((j + 1:Nat):Int):=gpe (by simp only [qa_];omega)
    refine ⟨⟨j + 1,by omega,(hp3.put _ (by omega)).put _ (by omega),?_,?_,hgi',d3,?_,hG3⟩,?_⟩
    ·rw [gpo (by omega),gpo (by omega)];exact hgv3
    ·rw [gpo (by omega),gpo (by omega)];exact hgl3
    ·rw [gpo (by omega),gpo (by omega)];exact h13
    ·rw [hgi',hgj1]
     simp only
     omega
  ·have hjL:j=ks.length:=by omega
   subst hjL
   refine .seq (R:=Rt (fun a' w'=>a'.eval (tm (n + 3))=.bool false/\a'=a1.put (some (n + 3)) (.bool false)/\w'=w1) E) (.reg (htest false (by simp))) (fun a2 w2 hh=>?_) (fun e a w he hq=>by cases e <;> first | exact absurd rfl he | exact hq | exact hq.elim)
   obtain ⟨he2,rfl,rfl⟩:=hh
   refine .seq (R:=fun e a w=>e ≠ .normal/\Exit.inBlock b1 (Rt K E) e a w) (.condF he2 (.exit ?_)) (fun a2 w2 hh=>absurd rfl hh.1) (fun e a w he hq=>?_)
   ·simp only [Exit.inBlock,if_true]
    rw [<- hes,List.take_length] at hG
    exact ⟨by simp,h _ _ d1 (hp1.put _ (by omega)) (by rw [gpo (by omega)];exact h11) hG⟩
   ·rw [zc_ he];exact hq.2
end
def okStW (e:EvW) (hf:Bool) (T kt:Nat) (toff:Option Nat):Bool:=match toff with | some o=>hf && fldB e.P T kt (fldT e.P T kt) o true 1 | none=>!hf
def okBoxW (e:EvW) (hf:Bool) (m k0 F:Nat):Fds->List Nm->Bool
 | .nil,_=>true
 | .cons _ _ _ _ off ty r,ms=>fldB e.P F ((ms.headD (.mk [] [])).n 1) ((ms.headD (.mk [] [])).n 2) off false 1 && z7_ e hf m k0 ty ((ms.headD (.mk [] [])).n 0) [] && okBoxW e hf m k0 F r ms.tail
def teB (P:Program) (tKs tU:Nat):Bool:=(match P.underlying tKs with | some (.slice E)=>E == tU | _=>false) && (match P.info? tU with | some i=>(match i.zero with | some z=>i.size == 1 && i.bytes == 4 && z.cells.size == 1 | none=>false) | none=>false) && varB P tU false 1 && (match P.underlying tU with | some (.int .u32)=>true | _=>false)
theorem teB_ok {P:Program} {tKs tU:Nat} (h:teB P tKs tU=true):TeT P tKs tU:=by
 simp only [teB,Bool.and_eq_true] at h
 obtain ⟨⟨⟨h1,h2⟩,h3⟩,h4⟩:=h
 refine ⟨?_,?_,varB_ok h3,?_⟩
 ·split at h1
  ·rename_i E hE
   simp only [beq_iff_eq] at h1
   rw [hE,h1]
  ·cases h1
 ·split at h2
  ·rename_i i hi
   split at h2
   ·rename_i z hz
    simp only [Bool.and_eq_true,beq_iff_eq] at h2
    exact ⟨i,z,hi,hz,h2.1.1,h2.1.2,h2.2⟩
   ·cases h2
  ·cases h2
 ·split at h4
  ·assumption
  ·cases h4
def okTailW (e:EvW) (hf:Bool) (m k0 T kt:Nat) (toff:Option Nat) (fs:Fds) (nm:Nm) (okb:Bool):Bool:=okStW e hf T kt toff &&
 (!fs.tagged || (decide (m<=nm.n 0/\nm.n 0 < nm.n 2/\nm.n 2 < k0/\fs.len<=1000) && teB e.P (nm.n 1) e.g.tU32 && okCondsW e.P e.av e.g T fs nm.s && decide fs.tagsOf.Nodup && okb))
mutual
def okTyW (e:EvW) (hf:Bool) (m k0 T off:Nat):Ty->Nm->Bool
 | .prim p,nm=>z7_ e hf m k0 (.prim p) (nm.n 0) (nm.l.drop 4) && nm.n 1 == T && fldB e.P T (nm.n 2) (nm.n 3) off (Ty.agg (.prim p)) (Ty.sz (.prim p)) && (p != .uuid || nm.n 3 == e.g.tUuid)
 | .str nul,nm=>z7_ e hf m k0 (.str nul) (nm.n 0) (nm.l.drop 4) && nm.n 1 == T && fldB e.P T (nm.n 2) (nm.n 3) off false 1
 | .bytes nul,nm=>z7_ e hf m k0 (.bytes nul) (nm.n 0) [] && nm.n 1 == T && fldB e.P T (nm.n 2) (nm.n 3) off false 1
 | .list nul esz el,nm=>
  decide (m<=nm.n 0/\nm.n 0 < nm.n 4/\nm.n 4 < k0) && nm.n 1 == T && fldB e.P T (nm.n 2) (nm.n 3) off false 1 && (!nul.isSome || e.nl) &&
  (match rowOf e.P (nm.n 3) with
   | some (E,sz,_)=>sz == esz && okElW e hf (nm.n 4 + 1) k0 E esz el (nm.sub 0) && (nul == some 0 || hasLstW e.g hf)
   | none=>false)
 | .struct none toff fs,nm=>
  decide (m<=nm.n 0/\nm.n 0 < k0) && nm.n 1 == T && fldB e.P T (nm.n 2) (fldT e.P T (nm.n 2)) off true (sizeT e.P (fldT e.P T (nm.n 2))) && okTailW e hf (nm.n 0 + 1) k0 (nm.n 3) (nm.n 4) toff fs (nm.sub 0) (okTagdW e hf ((nm.sub 0).n 2 + 1) k0 (nm.n 3) fs (nm.sub 0).s) && okFdsW e hf (nm.n 0 + 1) k0 (nm.n 3) fs (nm.sub 0).s
 | .struct (some _) toff fs,nm=>
  decide (m<=nm.n 0/\nm.n 0 < k0) && nm.n 1 == T && fldB e.P T (nm.n 2) (nm.n 3) off false 1 && ptrB e.P (nm.n 3) && okTailW e hf (nm.n 0 + 1) k0 (nm.n 4) (nm.n 5) toff fs (nm.sub 0) (okTagdW e hf ((nm.sub 0).n 2 + 1) k0 (nm.n 4) fs (nm.sub 0).s) && okFdsW e hf (nm.n 0 + 1) k0 (nm.n 4) fs (nm.sub 0).s
def okElW (e:EvW) (hf:Bool) (m k0 E esz:Nat):Ty->Nm->Bool
 | .struct none toff fs,nm=>decide (m<=nm.n 0/\nm.n 0 < k0) && okTailW e hf (nm.n 0 + 1) k0 (nm.n 1) (nm.n 2) toff fs (nm.sub 0) (okTagdW e hf ((nm.sub 0).n 2 + 1) k0 (nm.n 1) fs (nm.sub 0).s) && okFdsW e hf (nm.n 0 + 1) k0 (nm.n 1) fs (nm.sub 0).s
 | .struct (some _) _ _,_=>false
 | .list _ _ _,_=>false
 | .prim p,nm=>z7_ e hf m k0 (.prim p) (nm.n 0) (nm.l.drop 2) && nm.n 1 == E && varB e.P E (Ty.agg (.prim p)) (Ty.sz (.prim p)) && Ty.sz (.prim p) == esz && (p != .uuid || E == e.g.tUuid)
 | .str nul,nm=>z7_ e hf m k0 (.str nul) (nm.n 0) (nm.l.drop 2) && nm.n 1 == E && varB e.P E false 1 && 1 == esz
 | .bytes nul,nm=>z7_ e hf m k0 (.bytes nul) (nm.n 0) (nm.l.drop 2) && nm.n 1 == E && varB e.P E false 1 && 1 == esz
def okFdsW (e:EvW) (hf:Bool) (m k0 T:Nat):Fds->List Nm->Bool
 | .nil,_=>true
 | .cons _ _ tag _ off ty r,ms=>(tag.isSome || okTyW e hf m k0 T off ty (ms.headD (.mk [] []))) && okFdsW e hf m k0 T r ms.tail
def okTagdW (e:EvW) (hf:Bool) (m k0 T:Nat):Fds->List Nm->Bool
 | .nil,_=>true
 | .cons _ _ tag _ off ty r,ms=>(tag.isNone || okBodyW e hf m k0 T off ty (ms.headD (.mk [] []))) && okTagdW e hf m k0 T r ms.tail
def okBodyW (e:EvW) (hf:Bool) (m k0 T off:Nat):Ty->Nm->Bool
 | .prim p,nm=>if p=.uuid then e.av .uuid && z7_ e hf m k0 (.prim .uuid) (nm.n 0) [] && nm.n 1 == T && nm.n 3 == e.g.tUuid && fldB e.P T (nm.n 2) (nm.n 3) off true 16 else pinB p && z7_ e hf m k0 (.prim p) (nm.n 0) [] && nm.n 1 == T && fldB e.P T (nm.n 2) (nm.n 3) off false 1
 | .str nul,nm=>decide (m<=nm.n 0/\nm.n 0 < nm.n 4/\nm.n 0 < nm.n 5/\nm.n 4 ≠ nm.n 5/\nm.n 4 < k0/\nm.n 5 < k0) && wlOk e hf (max (nm.n 4) (nm.n 5) + 1) k0 (.str nul) (nm.n 0) [] && nm.n 1 == T && fldB e.P T (nm.n 2) (nm.n 3) off false 1
 | .list nul esz el,nm=>
  decide (m<=nm.n 0/\nm.n 0 < nm.n 4/\nm.n 0 < nm.n 5/\nm.n 4 ≠ nm.n 5/\nm.n 4 < nm.n 12/\nm.n 5 < nm.n 12/\nm.n 12 < k0) && nm.n 1 == T && fldB e.P T (nm.n 2) (nm.n 3) off false 1 && (!nul.isSome || e.nl) &&
  (match rowOf e.P (nm.n 3) with
   | some (E,sz,_)=>sz == esz && okElW e hf (nm.n 12 + 1) k0 E esz el (nm.sub 0) && (nul == some 0 || hasLstW e.g hf)
   | none=>false)
 | .struct none (some o) fs,nm=>decide (m<=nm.n 0/\nm.n 0 < nm.n 4/\nm.n 0 < nm.n 5/\nm.n 4 ≠ nm.n 5/\nm.n 4 < k0/\nm.n 5 < k0) && smB e.g nm o fs && nm.n 1 == T && fldB e.P T (nm.n 2) (nm.n 3) off true (sizeT e.P (nm.n 3)) && okBoxW e hf (max (nm.n 4) (nm.n 5) + 1) k0 (nm.n 3) fs (nm.sub 0).s && okStW e hf (nm.n 3) (nm.n 11) (some o)
 | _,_=>false
end
def toG (g:GW):G:=⟨fun _=>0,fun _=>0,0,0,0,0,0,0,0,0,0,0,g.tVer,0,0,0,0,0,0,0,0,0,0⟩
theorem gwGuard_eq (g:GW) (cx:Cx) (lo:Nat) (hi:Option Nat) (A:GC):gwGuard g cx lo hi A=xl_ (toG g) cx lo hi A:=by cases hi <;> rfl
theorem up_wfx {cx:Cx} {A B:GC} (hA:Up A) (hB:Up B):Up (gwFx cx A B):=up_ite (j4_ hA hB) hB
theorem jv_ (g:GW) (cx:Cx) (ty:Ty) (v:Nat) (x:List Nat):UpL (jc_ g cx ty v x):=by
 unfold jc_
 split
 ·exact qe_ (qi_ _ _) qk_
 ·split
  ·exact qe_ (qi_ _ _) (qe_ (qi_ _ _) qk_)
  ·exact qe_ (qi_ _ _) qk_
 all_goals first | exact qe_ (up_wfx (qi_ _ _) (qi_ _ _)) qk_ | exact qe_ (j4_ (up_S (qe_ (qi_ _ _) (qe_ (j4_ (qi_ _ _) (q7_ _)) (qe_ (qi_ _ _) (qe_ (up_wfx (qi_ _ _) (qi_ _ _)) qk_))))) (up_wfx (qi_ _ _) (qi_ _ _))) qk_ | exact qk_
theorem upL_wtags (g:GW) (cx:Cx) (T kt:Nat):UpL (gwTags g cx T kt):=
 zt_ (qe_ (j4_ (up_S (qe_ (qi_ _ _) (qe_ (qi_ _ _) qk_))) (q7_ _)) qk_) qk_
theorem up_wlen (g:GW) (cx:Cx) (nul:Option Nat) (v F:Nat):Up (gwLen g cx nul v F):=
 match nul with
 | none=>up_wfx (qi_ _ _) (qi_ _ _)
 | some 0=>up_wfx (qi_ _ _) (qi_ _ _)
 | some (_ + 1)=>j4_ (up_wfx (qi_ _ _) (qi_ _ _)) (up_wfx (qi_ _ _) (qi_ _ _))
theorem up_wfor (g:GW) (v i b1 b2 F:Nat) {body:List GC} (h:UpL body):Up (gwFor g v i b1 b2 F body):=fun n=>by
 have:=h (n + 5)
 show n<=(gL body (n + 5)).2 + 1
 omega
theorem up_wguard {g:GW} {cx:Cx} {lo:Nat} {hi:Option Nat} {A:GC} (h:Up A):Up (gwGuard g cx lo hi A):=by
 cases hi with
 | none=>exact up_ite h (j4_ h (q7_ _))
 | some q=>exact j4_ h (q7_ _)
theorem up_wget (ty:Ty) (s v T k F:Nat):Up (gwGet ty s v T k F):=up_ite (qi_ _ _) (qi_ _ _)
theorem up_widx (ty:Ty) (v i e F E:Nat):Up (gwIdxG ty v i e F E):=up_ite (qi_ _ _) (qi_ _ _)
theorem up_wcases (g:GW) (key:Nat):∀ (cs:List (Nat × GC)),(∀ p ∈ cs,Up p.2)->∀ n,n<=(jx_ g key cs n).2
 | [],_,n=>Nat.le_refl n
 | (t,x) :: r,h,n=>by
  have h1:=h (t,x) (by simp) (n + 2)
  have h2:=up_wcases g key r (fun p hp=>h p (by simp [hp])) (x (n + 2)).2
  show n<=(jx_ g key r (x (n + 2)).2).2
  simp only at h1
  omega
theorem up_scope {l:List GC} (h:UpL l):Up (gScope l):=h
theorem upL_tail (g:GW) (cx:Cx) (fs:Fds) (T kt:Nat) (m:Nm) {cs:List (Nat × GC)} (h:∀ p ∈ cs,Up p.2):UpL (gwTailK g cx fs T kt m cs):=by
 unfold gwTailK
 refine zt_ (zt_ (qe_ (j4_ (up_S (ql_ (ql_ (qe_ (qi_ _ _) qk_) (upL_conds g _ _ _ fs m.s)) (qe_ (qi_ _ _) (qe_ (fun n=>?_) (qe_ (qi_ _ _) qk_))))) (q7_ _)) qk_) qk_) (upL_wtags _ _ _ _)
 have:=up_wcases g (n + 6) cs h (n + 7)
 show n<=(jx_ g (n + 6) cs (n + 7)).2 + 1
 omega
theorem upL_box (g:GW) (cx:Cx) (b F:Nat):∀ (fs:Fds) (ms:List Nm),UpL (gwBox g cx b F fs ms)
 | .nil,_=>qk_
 | .cons _ _ _ _ _ ty r,ms=>qe_ (up_S (qe_ (qi_ _ _) (jv_ g cx ty _ _))) (upL_box g cx b F r ms.tail)
theorem up_back (g:GW) (z lenAt l tB:Nat):Up (zs_ g z lenAt l tB):=j4_ (up_S (qe_ (fun n=>Nat.le_add_right n 9) (qe_ (qi_ _ _) (qe_ (q7_ _) qk_)))) (q7_ _)
theorem upL_sz (g:GW) (z lenAt l:Nat):UpL (gwSz g z lenAt l):=qe_ (qi_ _ _) (qe_ (qi_ _ _) (qe_ (q7_ _) qk_))
mutual
theorem upL_wty (g:GW):∀ (ty:Ty) (cx:Cx) (nm:Nm),UpL (gwTy g cx ty nm)
 | .prim _,_cx,_nm=>qe_ (up_wget _ _ _ _ _ _) (jv_ _ _ _ _ _)
 | .str _,_cx,_nm=>qe_ (qi_ _ _) (jv_ _ _ _ _ _)
 | .bytes _,_cx,_nm=>qe_ (qi_ _ _) (jv_ _ _ _ _ _)
 | .list _nul _ e,cx,_nm=>qe_ (qi_ _ _) (qe_ (up_wlen _ _ _ _ _) (qe_ (up_wfor _ _ _ _ _ _ (upL_wel g e cx _ _ _ _)) qk_))
 | .struct none _ fs,_cx,_nm=>qe_ (qi_ _ _) (ql_ (upL_wfds g fs _ _) (upL_tail _ _ _ _ _ _ (up_wtagd g fs _ _)))
 | .struct (some _) _ fs,_cx,_nm=>qe_ (qi_ _ _) (qe_ (j4_ (qi_ _ _) (up_S (qe_ (qi_ _ _) (ql_ (upL_wfds g fs _ _) (upL_tail _ _ _ _ _ _ (up_wtagd g fs _ _)))))) qk_)
theorem upL_wel (g:GW):∀ (ty:Ty) (cx:Cx) (v i F:Nat) (nm:Nm),UpL (gwEl g cx ty v i F nm)
 | .prim _,_cx,_v,_i,_F,_nm=>qe_ (up_widx _ _ _ _ _ _) (jv_ _ _ _ _ _)
 | .str _,_cx,_v,_i,_F,_nm=>qe_ (up_widx _ _ _ _ _ _) (jv_ _ _ _ _ _)
 | .bytes _,_cx,_v,_i,_F,_nm=>qe_ (up_widx _ _ _ _ _ _) (jv_ _ _ _ _ _)
 | .list _ _ _,_cx,_v,_i,_F,_nm=>qe_ (up_widx _ _ _ _ _ _) (jv_ _ _ _ _ _)
 | .struct _ _ fs,_cx,_v,_i,_F,_nm=>qe_ (qi_ _ _) (ql_ (upL_wfds g fs _ _) (upL_tail _ _ _ _ _ _ (up_wtagd g fs _ _)))
theorem upL_wfds (g:GW):∀ (fs:Fds) (cx:Cx) (ms:List Nm),UpL (gwFds g cx fs ms)
 | .nil,_,_=>qk_
 | .cons _lo _hi _tag _ _ ty r,cx,_ms=>zt_ (qe_ (up_wguard (up_S (upL_wty g ty cx _))) (upL_wfds g r cx _)) (upL_wfds g r cx _)
theorem up_wtagd (g:GW):∀ (fs:Fds) (cx:Cx) (ms:List Nm),∀ p ∈ gwTagd g cx fs ms,Up p.2
 | .nil,_,_,p,hp=>by simp [gwTagd] at hp
 | .cons _ _ (some t) _ _ ty r,cx,ms,p,hp=>by
  simp only [gwTagd,List.mem_cons] at hp
  rcases hp with rfl | hp
  ·exact up_wbody g ty cx t _
  ·exact up_wtagd g r cx ms.tail p hp
 | .cons _ _ none _ _ ty r,cx,ms,p,hp=>by
  simp only [gwTagd] at hp
  exact up_wtagd g r cx ms.tail p hp
theorem up_wbody (g:GW):∀ (ty:Ty) (cx:Cx) (t:Nat) (nm:Nm),Up (gwBody g cx t ty nm)
 | .prim _,_cx,_t,_nm=>up_S (ql_ (qe_ (up_wget _ _ _ _ _ _) (qe_ (qi_ _ _) (qe_ (qi_ _ _) qk_))) (jv_ _ _ _ _ _))
 | .str _,_cx,_t,_nm=>up_scope (ql_ (ql_ (ql_ (qe_ (qi_ _ _) (qe_ (qi_ _ _) qk_)) (upL_sz _ _ _ _)) (jv_ _ _ _ _ _)) (qe_ (up_back _ _ _ _ _) qk_))
 | .bytes _,_cx,_t,_nm=>up_scope (ql_ (ql_ (ql_ (qe_ (qi_ _ _) (qe_ (qi_ _ _) qk_)) (upL_sz _ _ _ _)) (jv_ _ _ _ _ _)) (qe_ (up_back _ _ _ _ _) qk_))
 | .list _ _ e,cx,_t,_nm=>up_scope (ql_ (ql_ (ql_ (qe_ (qi_ _ _) (qe_ (qi_ _ _) qk_)) (upL_sz _ _ _ _)) (qe_ (up_wlen _ _ _ _ _) (qe_ (up_wfor _ _ _ _ _ _ (upL_wel g e cx _ _ _ _)) qk_))) (qe_ (up_back _ _ _ _ _) qk_))
 | .struct _ _ fs,cx,_t,_nm=>up_scope (ql_ (ql_ (ql_ (qe_ (qi_ _ _) (qe_ (qi_ _ _) qk_)) (upL_sz _ _ _ _)) (ql_ (upL_box g cx _ _ fs _) (qe_ (j4_ (up_S (qe_ (qi_ _ _) (qe_ (qi_ _ _) qk_))) (q7_ _)) qk_))) (qe_ (up_back _ _ _ _ _) qk_))
end
theorem TgAt.far {L:Nat} {w w':World} (hk:Keeps (fun k=>L<=k) w w') {toff:Option Nat} {b o:Nat} {t:List (Nat × Bs)} (h:TgAt w (fun k=>L<=k) b o toff t) (hb:b < L) (hL:L<=w.heap.size):TgAt w' (fun k=>L<=k) b o toff t:=
 h.frame hk fun k _=>q1_ (hk.block b (by omega) (by omega)) _
theorem Keeps.none {X:Nat->Prop} {w w':World} (h:Keeps (fun _=>False) w w'):Keeps X w w':=h.mono fun _ _ h=>h.elim
theorem upL_tailW (g:GW) (cx:Cx) (fs:Fds) (T kt:Nat) (m:Nm):UpL (jj_ g cx fs T kt m):=upL_tail g cx fs T kt m (up_wtagd g fs cx m.s)
section
variable (P:Program) (g:GW) (av:PF->Bool) (fl nl:Bool) (te:Nat)
def WrTy (ty:Ty):Prop:=
 ∀ (nm:Nm) (cx:Cx) (fx:Bool) (ver:Int) (B O L m k0 n T off:Nat) (v:V) (d:Value) (bs:Bs) (K E:Act->World->Prop) (a:Act) (w:World),
  okTyW ⟨P,g,av,nl⟩ cx.hf m k0 T off ty nm=true->WC cx fx ver te L B O d bs a w->CxW cx m k0->(cx.hf=true->fl=true)->k0<=n->k0<=a.tmps.size->(gL (gwTy g cx ty nm) n).2<=a.tmps.size ->
  Rp w (fun k=>L<=k) ty B (O + off) v->bs.length + (jl_ fx ver ty v).length<=LIM ->
  (∀ a' w' d',Pv 1 m k0 n a a'->a'.get 1=d'->Gr L te d w d' (bs++jl_ fx ver ty v) w'->K a' w')->LW P (gwTy g cx ty nm) n (Rt K E) a w
def WrEl (ty:Ty):Prop:=
 ∀ (nm:Nm) (cx:Cx) (fx:Bool) (ver:Int) (B O L m k0 n esz vs i F E' p q cnt c j:Nat) (v:V) (d:Value) (bs:Bs) (K E:Act->World->Prop) (a:Act) (w:World),
  okElW ⟨P,g,av,nl⟩ cx.hf m k0 E' esz ty nm=true->WC cx fx ver te L B O d bs a w->CxW cx m k0->(cx.hf=true->fl=true)->k0<=n->k0<=a.tmps.size->(gL (gwEl g cx ty vs i F nm) n).2<=a.tmps.size ->
  a.get vs=.slice (some ⟨p,q,none⟩) cnt c->a.get i=.int .i64 j->j < cnt->vs < m->i < m->P.underlying F=some (.slice E')->(∀ w,(sizeOf E').run P w=.ok esz w)->p < L ->
  Rp w (fun k=>L<=k) ty p (q + j * esz) v->bs.length + (jl_ fx ver ty v).length<=LIM ->
  (∀ a' w' d',Pv 1 m k0 n a a'->a'.get 1=d'->Gr L te d w d' (bs++jl_ fx ver ty v) w'->K a' w')->LW P (gwEl g cx ty vs i F nm) n (Rt K E) a w
def WrFds (fs:Fds):Prop:=
 ∀ (ms:List Nm) (cx:Cx) (fx:Bool) (ver:Int) (B O L m k0 n T:Nat) (vs:List V) (d:Value) (bs:Bs) (K E:Act->World->Prop) (a:Act) (w:World),
  okFdsW ⟨P,g,av,nl⟩ cx.hf m k0 T fs ms=true->WC cx fx ver te L B O d bs a w->CxW cx m k0->(cx.hf=true->fl=true)->k0<=n->k0<=a.tmps.size->(gL (gwFds g cx fs ms) n).2<=a.tmps.size ->
  RpF w (fun k=>L<=k) fs B O vs->bs.length + (wrFds fx ver fs vs).length<=LIM ->
  (∀ a' w' d',Pv 1 m k0 n a a'->a'.get 1=d'->Gr L te d w d' (bs++wrFds fx ver fs vs) w'->K a' w')->LW P (gwFds g cx fs ms) n (Rt K E) a w
def WrBody (ty:Ty):Prop:=
 ∀ (nm:Nm) (cx:Cx) (ver:Int) (B O L m k0 n T off t:Nat) (v:V) (d:Value) (bs:Bs) (K E:Act->World->Prop) (a:Act) (w:World),
  okBodyW ⟨P,g,av,nl⟩ cx.hf m k0 T off ty nm=true->cx.hf=true->t < 4294967296->WC cx true ver te L B O d bs a w->CxW cx m k0->fl=true->k0<=n->k0<=a.tmps.size->(gwBody g cx t ty nm n).2<=a.tmps.size ->
  Rp w (fun k=>L<=k) ty B (O + off) v->bs.length + (wTag (t,jl_ true ver ty v)).length<=LIM ->
  (∀ a' w' d',Pv 1 m k0 n a a'->a'.get 1=d'->Gr L te d w d' (bs++wTag (t,jl_ true ver ty v)) w'->K a' w')->NWP P (gwBody g cx t ty nm n).1 (Rt K E) a w
def WrTagd:Fds->Prop
 | .nil=>True
 | .cons _ _ _ _ _ ty r=>WrBody P g av fl nl te ty/\WrTagd r
def WrTail (fs:Fds):Prop:=
 ∀ (nm:Nm) (cx:Cx) (fx:Bool) (ver:Int) (B O L m k0 n T kt:Nat) (toff:Option Nat) (vs:List V) (t:List (Nat × Bs)) (d:Value) (bs:Bs) (K E:Act->World->Prop) (a:Act) (w:World),
  okTailW ⟨P,g,av,nl⟩ cx.hf m k0 T kt toff fs nm (okTagdW ⟨P,g,av,nl⟩ cx.hf (nm.n 2 + 1) k0 T fs nm.s)=true->WC cx fx ver te L B O d bs a w->CxW cx m k0->(cx.hf=true->fl=true)->k0<=n->k0<=a.tmps.size->(gL (jj_ g cx fs T kt nm) n).2<=a.tmps.size ->
  RpF w (fun k=>L<=k) fs B O vs->TgAt w (fun k=>L<=k) B O toff t->bs.length + (zy_ fx (wrTgd fx ver fs vs) t).length<=LIM ->
  (∀ a' w' d',Pv 1 m k0 n a a'->a'.get 1=d'->Gr L te d w d' (bs++zy_ fx (wrTgd fx ver fs vs) t) w'->K a' w')->LW P (jj_ g cx fs T kt nm) n (Rt K E) a w
end
section
variable {P:Program} {g:GW} {av:PF->Bool} {fl nl:Bool} {te:Nat}
theorem w_st {fs:Fds} (hfs:WrFds P g av fl nl te fs) (htl:WrTail P g av fl nl te fs) {nm:Nm} {cx:Cx} {fx:Bool} {ver:Int} {B O L m k0 n T kt:Nat} {toff:Option Nat} {vs:List V} {t:List (Nat × Bs)} {d:Value} {bs:Bs} {K E:Act->World->Prop} {a:Act} {w:World}
  (hst:okTailW ⟨P,g,av,nl⟩ cx.hf m k0 T kt toff fs nm (okTagdW ⟨P,g,av,nl⟩ cx.hf (nm.n 2 + 1) k0 T fs nm.s)=true) (hok:okFdsW ⟨P,g,av,nl⟩ cx.hf m k0 T fs nm.s=true) (hw:WC cx fx ver te L B O d bs a w) (hc:CxW cx m k0) (hfl:cx.hf=true->fl=true) (hk:k0<=n) (hk0:k0<=a.tmps.size) (hn:(gL (gwFds g cx fs nm.s++jj_ g cx fs T kt nm) n).2<=a.tmps.size)
  (hr:RpF w (fun k=>L<=k) fs B O vs) (ht:TgAt w (fun k=>L<=k) B O toff t) (hlim:bs.length + (wrFds fx ver fs vs++zy_ fx (wrTgd fx ver fs vs) t).length<=LIM)
  (h:∀ a' w' d',Pv 1 m k0 n a a'->a'.get 1=d'->Gr L te d w d' (bs++(wrFds fx ver fs vs++zy_ fx (wrTgd fx ver fs vs) t)) w'->K a' w'):LW P (gwFds g cx fs nm.s++jj_ g cx fs T kt nm) n (Rt K E) a w:=by
 rw [qx_] at hn
 rw [List.length_append] at hlim
 have hup:=upL_tail g cx fs T kt nm (up_wtagd g fs cx nm.s) (gL (gwFds g cx fs nm.s) n).2
 have hup0:=upL_wfds g fs cx nm.s n
 refine z5_ ?_
 rw [qr_]
 refine hfs nm.s cx fx ver B O L m k0 n T vs d bs _ E a w hok hw hc hfl hk hk0 (Nat.le_trans hup hn) hr (by omega) fun a1 w1 d1 hp1 hg1 hgr1=>?_
 have hs1:=hp1.size
 have hw1:=hw.step hc hp1 hg1 hgr1
 have hfar:=Gr.far hw.dst hgr1
 refine htl nm cx fx ver B O L m k0 _ T kt toff vs t d1 _ K E a1 w1 hst hw1 hc hfl (by omega) (by omega) (by rw [hs1];exact hn) (hr.far hfar hw.BL hw.Lw) (ht.far hfar hw.BL hw.Lw) (by rw [List.length_append];omega) fun a' w' d' hp' h1' hg'=>h a' w' d' (hp1.trans (hp'.mono (Nat.le_refl _) hup0)) h1' ?_
 rw [<- List.append_assoc];exact hgr1.trans hg'
theorem wfds_nil:WrFds P g av fl nl te .nil:=fun ms cx fx ver B O L m k0 n T vs d bs K E a w hok hw hc hfl hk hk0 hn hr hlim h=>
 q0_ (h a w d (Pv.refl _ _ _ _ _) hw.s1 (by simpa [wrFds] using Gr.refl hw.dst))
theorem wfds_cons {lo:Nat} {hi tag:Option Nat} {df:Int} {off:Nat} {ty:Ty} {r:Fds} (hty:WrTy P g av fl nl te ty) (hr0:WrFds P g av fl nl te r):WrFds P g av fl nl te (.cons lo hi tag df off ty r):=by
 intro ms cx fx ver B O L m k0 n T vs d bs K E a w hok hw hc hfl hk hk0 hn hr hlim h
 simp only [okFdsW,Bool.and_eq_true,Bool.or_eq_true] at hok
 obtain ⟨hoky,hokr⟩:=hok
 obtain ⟨v,vs',rfl,hv,hrs⟩:=hr
 cases htg:tag.isNone with
 | false=>
  have hcode:gwFds g cx (.cons lo hi tag df off ty r) ms=gwFds g cx r ms.tail:=by simp only [gwFds,htg,Bool.false_eq_true,if_false]
  have hwr:wrFds fx ver (.cons lo hi tag df off ty r) (v :: vs')=wrFds fx ver r vs':=by simp only [wrFds,htg,Bool.false_and,Bool.false_eq_true,if_false,List.nil_append,List.tail_cons]
  rw [hcode] at hn ⊢
  rw [hwr] at hlim h
  exact hr0 ms.tail cx fx ver B O L m k0 n T vs' d bs K E a w hokr hw hc hfl hk hk0 hn hrs hlim h
 | true=>
 have htag:tag.isNone=true:=htg
 replace hoky:=hoky.resolve_left (by cases tag <;> simp at htag ⊢)
 have hcode:gwFds g cx (.cons lo hi tag df off ty r) ms=gwGuard g cx lo hi (gS (gwTy g cx ty (ms.headD (.mk [] [])))) :: gwFds g cx r ms.tail:=by simp only [gwFds,htag,if_true]
 have hwr:wrFds fx ver (.cons lo hi tag df off ty r) (v :: vs')=(if has lo hi ver then jl_ fx ver ty v else [])++wrFds fx ver r vs':=by
  simp only [wrFds,htag,Bool.true_and,List.headD_cons,List.tail_cons]
 rw [hcode] at hn ⊢
 rw [hwr] at hlim h
 rw [List.length_append] at hlim
 have hupA:Up (gS (gwTy g cx ty (ms.headD (.mk [] [])))):=up_S (upL_wty g ty cx _)
 have hupR:=upL_wfds g r cx ms.tail (gwGuard g cx lo hi (gS (gwTy g cx ty (ms.headD (.mk [] [])))) n).2
 have hupG:n<=(gwGuard g cx lo hi (gS (gwTy g cx ty (ms.headD (.mk [] [])))) n).2:=up_wguard hupA n
 have hn1:(gwGuard g cx lo hi (gS (gwTy g cx ty (ms.headD (.mk [] [])))) n).2<=a.tmps.size:=Nat.le_trans hupR hn
 have hle:=hc.le
 have h1m:=hc.one
 have hvm:=hc.ver
 have rest:∀ (a1:Act) (w1:World) (d1:Value) (enc:Bs),Pv 1 m k0 n a a1->a1.get 1=d1->Gr L te d w d1 (bs++enc) w1->enc=(if has lo hi ver then jl_ fx ver ty v else [])->LW P (gwFds g cx r ms.tail) (gwGuard g cx lo hi (gS (gwTy g cx ty (ms.headD (.mk [] [])))) n).2 (Rt K E) a1 w1:=by
  intro a1 w1 d1 enc hp1 hg1 hgr1 he
  have hs1:=hp1.size
  refine hr0 ms.tail cx fx ver B O L m k0 _ T vs' d1 (bs++enc) K E a1 w1 hokr (hw.step hc hp1 hg1 hgr1) hc hfl (by omega) (by omega) (by rw [hs1];exact hn) (hrs.far (Gr.far hw.dst hgr1) hw.BL hw.Lw) (by rw [List.length_append,he];omega) fun a' w' d' hp' h1' hg'=>h a' w' d' (hp1.trans (hp'.mono (Nat.le_refl _) hupG)) h1' ?_
  rw [<- he,<- List.append_assoc]
  exact hgr1.trans hg'
 refine qc_ ?_
 rw [qr_]
 rw [gwGuard_eq] at hn1 hupG rest ⊢
 refine s_guard (x:=n) (m:=m) (k0:=k0) hw.sv hle hk (by omega) hupA hn1 (fun a1 n1 hp1 hnn hn6 hgg hhas=>?_) (fun a1 hp1 hhas=>?_)
 ·have hp1':Pv 1 m k0 n a a1:=⟨hp1.size,hp1.defers,fun s hs hs2=>hp1.get s (by omega) hs2⟩
  have hs1:=hp1.size
  have hg1:a1.get 1=d:=by rw [hp1.get 1 (by omega) (.inl h1m)];exact hw.s1
  refine q2_ (hty (ms.headD (.mk [] [])) cx fx ver B O L m k0 n1 T off v d bs _ E a1 w hoky (hw.step hc hp1' hg1 (Gr.refl hw.dst)) hc hfl (by omega) (by omega) ?_ hv (by rw [if_pos hhas] at hlim;omega) fun a' w' d' hp' h1' hg'=>rest a' w' d' _ (hp1'.trans (hp'.mono (Nat.le_refl _) hnn)) h1' hg' (by rw [if_pos hhas]))
  rw [hs1]
  have:(gL (gwTy g cx ty (ms.headD (.mk [] []))) n1).2=(gS (gwTy g cx ty (ms.headD (.mk [] []))) n1).2:=rfl
  rw [this,<- hgg];exact hn1
 ·have hp1':Pv 1 m k0 n a a1:=⟨hp1.size,hp1.defers,fun s hs hs2=>hp1.get s (by omega) hs2⟩
  have hg1:a1.get 1=d:=by rw [hp1.get 1 (by omega) (.inl h1m)];exact hw.s1
  exact rest a1 w d [] hp1' hg1 (by simpa using Gr.refl hw.dst) (by rw [hhas];rfl)
theorem wlOk_of {e:EvW} {hf:Bool} {m k0:Nat} {ty:Ty} {v:Nat} {x:List Nat} (h:z7_ e hf m k0 ty v x=true):wlOk e hf m k0 ty v x=true/\m<=v/\v < k0:=by
 simp only [z7_,Bool.and_eq_true,decide_eq_true_eq] at h
 refine ⟨h.1,h.2,?_⟩
 have:=h.1
 simp only [wlOk,Bool.and_eq_true,decide_eq_true_eq] at this
 exact this.1.1.2
theorem leaf_wr (fx:Bool) (ver:Int) (ty:Ty) (v:V) (h:ty.leaf=true):jl_ fx ver ty v=(zr_ fx ver ty).wr v:=by
 cases ty with
 | prim p=>simp [jl_]
 | str q=>simp [jl_]
 | bytes q=>simp [jl_]
 | list _ _ _=>cases h
 | struct _ _ _=>cases h
theorem wty_leaf (K0:KW P g av fl nl te) {ty:Ty} (hl:ty.leaf=true) {x:Nm->List Nat} (hcode:∀ cx nm,gwTy g cx ty nm=gwGet ty cx.s (nm.n 0) (nm.n 1) (nm.n 2) (nm.n 3) :: jc_ g cx ty (nm.n 0) (x nm))
  (hok:∀ hf m k0 T off nm,okTyW ⟨P,g,av,nl⟩ hf m k0 T off ty nm=true->z7_ ⟨P,g,av,nl⟩ hf m k0 ty (nm.n 0) (x nm)=true/\nm.n 1=T/\fldB P T (nm.n 2) (nm.n 3) off ty.agg ty.sz=true/\(isUuid ty=true->nm.n 3=g.tUuid/\av .uuid=true)):WrTy P g av fl nl te ty:=by
 intro nm cx fx ver B O L m k0 n T off v d bs K E a w hoky hw hc hfl hk hk0 hn hr hlim h
 obtain ⟨h1,hT,h2,h3⟩:=hok _ _ _ _ _ _ hoky
 subst hT
 rw [hcode] at hn ⊢
 rw [leaf_wr fx ver ty v hl] at hlim h
 have hvs:m<=nm.n 0/\nm.n 0 < k0:=(wlOk_of h1).2
 replace h1:=(wlOk_of h1).1
 have hup:=jv_ g cx ty (nm.n 0) (x nm) (gwGet ty cx.s (nm.n 0) (nm.n 1) (nm.n 2) (nm.n 3) n).2
 have hget:(gwGet ty cx.s (nm.n 0) (nm.n 1) (nm.n 2) (nm.n 3) n).2=n + 4:=by unfold gwGet;split <;> rfl
 have hn2:(gL (jc_ g cx ty (nm.n 0) (x nm)) (gwGet ty cx.s (nm.n 0) (nm.n 1) (nm.n 2) (nm.n 3) n).2).2<=a.tmps.size:=hn
 rw [hget] at hup hn2
 refine qc_ (s_wget (off:=off) (X:=fun k=>L<=k) hl hw.ss (fldB_ok h2) (fun hu=>by obtain ⟨e1,e2⟩:=h3 hu;rw [e1];exact K0.uuid e2) (fun _ _ _=>trivial) hr hvs hc.le hk (by omega) hc.one fun a1 w1 cs hp1 hg1 hk1 hla hlr=>?_)
 rw [hget]
 have hs1:=hp1.size
 have hgr1:Gr L te d w d bs w1:=Gr.pre hk1 (fun _ _ h=>h) (Gr.refl (hw.dst.keep hk1 fun _ _ h=>h))
 have e:jc_ g cx ty (nm.n 0) (x nm)=jc_ g cx ty (nm.n 0) (x nm)++[]:=(List.append_nil _).symm
 rw [e]
 exact s_wleaf K0 h1 (hw.step hc hp1 (hg1.trans hw.s1) hgr1) hc (by omega) (by omega) (by rw [hs1];exact hn2) hla hlr hlim fun a' w' d' hp' h1' hg'=>q0_ (h a' w' d' (hp1.trans (hp'.mono (Nat.le_refl _) (by omega))) h1' (Gr.pre hk1 (fun _ _ h=>h) hg'))
theorem wel_leaf (K0:KW P g av fl nl te) {ty:Ty} (hl:ty.leaf=true) (hcode:∀ cx v i F nm,gwEl g cx ty v i F nm=gwIdxG ty v i (nm.n 0) F (nm.n 1) :: jc_ g cx ty (nm.n 0) (nm.l.drop 2))
  (hok:∀ hf m k0 E' esz nm,okElW ⟨P,g,av,nl⟩ hf m k0 E' esz ty nm=true->z7_ ⟨P,g,av,nl⟩ hf m k0 ty (nm.n 0) (nm.l.drop 2)=true/\nm.n 1=E'/\varB P E' ty.agg ty.sz=true/\ty.sz=esz/\(isUuid ty=true->E'=g.tUuid/\av .uuid=true)):WrEl P g av fl nl te ty:=by
 intro nm cx fx ver B O L m k0 n esz vs i F E' p q cnt c j v d bs K E a w hoky hw hc hfl hk hk0 hn hvs hi hj hvm him hF hE hpL hr hlim h
 obtain ⟨h1,hE',h2,rfl,h3⟩:=hok _ _ _ _ _ _ hoky
 rw [hcode,hE'] at hn ⊢
 rw [leaf_wr fx ver ty v hl] at hlim h
 have hsl:m<=nm.n 0/\nm.n 0 < k0:=(wlOk_of h1).2
 replace h1:=(wlOk_of h1).1
 have hle:=hc.le
 have hget:(gwIdxG ty vs i (nm.n 0) F E' n).2=n + 4:=by unfold gwIdxG;split <;> rfl
 have hup:=jv_ g cx ty (nm.n 0) (nm.l.drop 2) (n + 4)
 have hn2:(gL (jc_ g cx ty (nm.n 0) (nm.l.drop 2)) (gwIdxG ty vs i (nm.n 0) F E' n).2).2<=a.tmps.size:=hn
 rw [hget] at hn2
 refine qc_ (s_widx (X:=fun k=>L<=k) hl hvs hi hj hF (varB_ok h2) (fun hu=>by obtain ⟨e1,e2⟩:=h3 hu;rw [e1];exact K0.uuid e2) hr hsl (by omega) (by omega) hle hk (by omega) hc.one fun a1 w1 cs hp1 hg1 hk1 hla hlr=>?_)
 rw [hget]
 have hs1:=hp1.size
 have hgr1:Gr L te d w d bs w1:=Gr.pre hk1 (fun _ _ h=>h) (Gr.refl (hw.dst.keep hk1 fun _ _ h=>h))
 have e:jc_ g cx ty (nm.n 0) (nm.l.drop 2)=jc_ g cx ty (nm.n 0) (nm.l.drop 2)++[]:=(List.append_nil _).symm
 rw [e]
 exact s_wleaf K0 h1 (hw.step hc hp1 (hg1.trans hw.s1) hgr1) hc (by omega) (by omega) (by rw [hs1];exact hn2) hla hlr hlim fun a' w' d' hp' h1' hg'=>q0_ (h a' w' d' (hp1.trans (hp'.mono (Nat.le_refl _) (by omega))) h1' (Gr.pre hk1 (fun _ _ h=>h) hg'))
end
section
variable {P:Program} {g:GW} {av:PF->Bool} {fl nl:Bool} {te:Nat} {cx:Cx} {fx:Bool} {ver:Int} {L B O m k0 n:Nat} {d:Value} {bs:Bs} {K N E:Act->World->Prop} {Q:Exit->Act->World->Prop} {a:Act} {w:World}
theorem wl_boxN {F n v sz:Nat} {cs:List Value} {z:Value} {ops:Array Oper} {QQ:Exit->Act->World->Prop} (hV:jp_ P F true sz) (hz:∀ w,(zeroValue F).run P w=.ok z w) (hzs:z.cells.size=sz) (hl:cs.length=sz) (h1:∀ u ∈ cs,u.oneCell'=true) (hn:a.get n=.agg cs.toArray) (hnv:n ≠ v) (hvs:v < a.tmps.size)
  (h:∀ w',Keeps (fun _=>False) w w'->w.heap.size < w'.heap.size->qy_ w' w.heap.size 0 cs->wpList P ops QQ [] (a.put (some v) (pt w.heap.size 0)) w') :
  wpList P ops QQ [mk (some v) (.alloc F),mk none (.store F (tm v) (tm n))] a w:=by
 refine zp_ (hz w) ?_
 let Z:Obj:=.cells z.cells F (0,0)
 have hb:(w.alloc Z).heap[w.heap.size]?=some Z:=qs_ w Z
 refine q8_ (g:=w.heap.size) (o:=0) (cur:=z.cells) (t:=F) (v:=.agg cs.toArray) (vs:=cs) (by rw [qb_,zw_ _ _ _ hvs]) (by rw [qb_,zz_ _ _ _ _ hnv];exact hn) rfl (by rw [hl];exact hV.size _) hb (by rw [hl];omega) h1 ?_
 rw [zu_ (by rw [hl];exact hzs.symm)]
 have hk:Keeps (fun k=>w.heap.size<=k) w ((w.alloc Z).setRow w.heap.size cs.toArray):=(Keeps.alloc _ _ _).trans (Keeps.setRow (fun k=>w.heap.size<=k) _ _ _ (Nat.le_refl _))
 have hb2:=setRow_heap _ _ _ cs.toArray _ _ hb
 exact h _ (hk.mono fun k hk hX=>by omega) (Array.getElem?_eq_some_iff.1 hb2).1 (cellsAt_row hb2)
theorem s_loadBox {s v T k F off sz:Nat} {cs:List Value} {z:Value} (hs:a.get s=pt B O) (hF:zj_ P T k F off true sz) (hz:∀ w,(zeroValue F).run P w=.ok z w) (hzs:z.cells.size=sz) (hl:cs.length=sz) (hone:∀ u ∈ cs,u.oneCell'=true) (hc:qy_ w B (O + off) cs)
  (hv:m<=v/\v < k0) (_hm:m<=k0) (hk:k0<=n) (hn:n + 4<=a.tmps.size) (h1:1 < m)
  (h:∀ a' w',Pv 1 m k0 n a a'->a'.get 1=a.get 1->a'.get v=pt w.heap.size 0->Keeps (fun _=>False) w w'->w.heap.size < w'.heap.size->qy_ w' w.heap.size 0 cs->K a' w'):NWP P (gwLoadU s v T k F n).1 (Exit.then K Q) a w:=by
 refine qj_ (qd_ ?_)
 rw [qb_,hs]
 refine qp_ (by rw [qb_,gpe (by omega)];rfl) ?_
 refine ju_ (by rw [qb_,gpe (by simp only [qa_];omega)]) hF ?_
 refine wl_loadN (b:=B) (o:=O + off) (cs:=cs) (by rw [qb_,gpe (by simp only [qa_];omega)]) (hF.var.agg w) (by rw [hl];exact hF.var.size w) hc ?_
 refine wl_boxN hF.var hz hzs hl hone (gpe (by simp only [qa_];omega)) (by omega) (by simp only [qa_];omega) fun w' hk' hlt hc'=>wpList_nil (h _ w' ?_ ?_ ?_ hk' hlt hc')
 ·exact (((((Pv.refl _ _ _ _ _).put _ (by omega)).put _ (by omega)).put _ (by omega)).put _ (by omega)).put _ (by omega)
 ·rw [gpo (by omega),gpo (by omega),gpo (by omega),gpo (by omega),gpo (by omega)]
 ·exact gpe (by simp only [qa_];omega)
structure BoxAt (w:World) (p:Nat) (cs:List Value) (d:Value):Prop where
 cells:qy_ w p 0 cs
 lt:p < w.heap.size
 ne:d.ownBlock ≠ some p
theorem BoxAt.gr {p:Nat} {cs:List Value} {d':Value} {bs':Bs} {w':World} (h:BoxAt w p cs d) (hg:Gr L te d w d' bs' w'):BoxAt w' p cs d':=
 ⟨fun j c hj=>hg.keeps.cell h.ne (h.cells j c hj),Nat.lt_of_lt_of_le h.lt hg.keeps.size,fun hh=>by
  rcases hg.own p hh with h1 | h1
  ·exact h.ne h1
  ·have:=h.lt;omega⟩
theorem body_uuid (K0:KW P g av fl nl te):WrBody P g av fl nl te (.prim .uuid):=by
 intro nm cx ver B O L m k0 n T off t v d bs K E a w hoky hhf ht hw hc hfl hk hk0 hn hr hlim h
 simp only [okBodyW,if_true,Bool.and_eq_true,beq_iff_eq] at hoky
 obtain ⟨⟨⟨⟨hav,hleaf⟩,hT⟩,hF3⟩,hfld⟩:=hoky
 subst hT
 obtain ⟨hwl,hv0,hvk⟩:=wlOk_of hleaf
 have hle:=hc.le
 have h1m:=hc.one
 obtain ⟨hV,hz⟩:=K0.uuid hav
 obtain ⟨cs,hcs,hl⟩:=hr
 obtain ⟨hlen,hone⟩:=cells_one hl
 obtain ⟨l,hll,_,rfl⟩:=hl
 have henc:jl_ true ver (.prim .uuid) (.s l)=l:=by simp [jl_,zr_,js_,PF.wr,V.octets]
 have hwt:(wTag (t,jl_ true ver (.prim .uuid) (.s l))).length=(uvar t).length + ((uvar 16).length + 16):=by simp [wTag,henc,hll,w32]
 rw [hwt] at hlim
 have hn2:n + 4 + 2 + 2 + 3<=a.tmps.size:=hn
 show NWP P (gS (gwLoadU cx.s (nm.n 0) (nm.n 1) (nm.n 2) (nm.n 3) :: gwUv g t :: gwUv g 16 :: [gwAppU g (g.ap .uuid) (nm.n 0)]) n).1 (Rt K E) a w
 refine q2_ (qc_ (s_loadBox (m:=m) (k0:=k0) hw.ss (fldB_ok hfld) (fun w=>by rw [hF3];exact hz w) (by simp [Value.cells]) hlen hone hcs ⟨hv0,hvk⟩ hle hk (by omega) h1m fun a1 w1 hp1 h11 hv1 hk1 hlt1 hc1=>?_))
 have hs1:=hp1.size
 have hd1:jh_ w1 L te d bs:=hw.dst.keep hk1 fun _ _ h=>h
 have hL1:=Nat.le_trans hw.Lw hk1.size
 have hbx1:BoxAt w1 w.heap.size cs d:=⟨hc1,hlt1,fun hh=>by have:=(hw.dst.own hh).2;omega⟩
 refine qc_ (s_uv (m:=m) K0 hfl ht (h11.trans hw.s1) hd1 hL1 (by omega) hle (by show k0<=n + 4;omega) h1m (by show n + 4 + 2<=_;omega) fun a2 w2 d2 hp2 h12 hg2=>?_)
 have hs2:=hp2.size
 have hL2:=Nat.le_trans hL1 hg2.keeps.size
 have hbx2:=hbx1.gr hg2
 refine qc_ (s_uv (m:=m) K0 hfl (by omega) h12 hg2.dst hL2 (by rw [List.length_append];omega) hle (by show k0<=n + 4 + 2;omega) h1m (by show n + 4 + 2 + 2<=_;omega) fun a3 w3 d3 hp3 h13 hg3=>?_)
 have hs3:=hp3.size
 have hbx3:=hbx2.gr hg3
 have hL3:=Nat.le_trans hL2 hg3.keeps.size
 have hv3:a3.get (nm.n 0)=pt w.heap.size 0:=by rw [hp3.get _ (by omega) (.inl (by omega)),hp2.get _ (by omega) (.inl (by omega))];exact hv1
 have hap:=K0.apC .uuid hav w3 L cs (.agg cs.toArray) (.s l) ⟨l,hll,by assumption,rfl⟩ rfl
 refine qc_ (s_wappU (m:=m) (k0:=k0) hV (K0.apE _ hav) hap h13 hv3 hbx3.cells hlen (by show nm.n 0 < n + 4 + 2 + 2;omega) hg3.dst hL3 ?_ hle (by show k0<=n + 4 + 2 + 2;omega) (by show 1 < n + 4 + 2 + 2;omega) (by show n + 4 + 2 + 2 + 3<=_;omega) fun a4 w4 d4 hp4 h14 hg4=>q0_ (h a4 w4 d4 ?_ h14 ?_))
 ·simp only [List.length_append,PF.wr,V.octets]
  omega
 ·exact ((hp1.trans (hp2.mono hle (by show n<=n + 4;omega))).trans (hp3.mono hle (by show n<=n + 4 + 2;omega))).trans (hp4.mono (Nat.le_refl _) (by show n<=n + 4 + 2 + 2;omega))
 ·have:=(Gr.pre hk1 (fun _ _ h=>h) (hg2.trans hg3)).trans hg4
  simpa [wTag,henc,hll,w32,PF.wr,V.octets,List.append_assoc] using this
theorem plain_leaf {ty:Ty} {p:Option Prim} (h:plainP ty=some p):ty.leaf=true/\isUuid ty=false:=by
 cases ty with
 | prim q=>
  simp only [plainP] at h
  split at h
  ·rename_i hq
   refine ⟨rfl,?_⟩
   cases q <;> first | rfl | cases hq
  ·cases h
 | str nul=>exact ⟨rfl,rfl⟩
 | bytes _=>cases h
 | list _ _ _=>cases h
 | struct _ _ _=>cases h
theorem w_box (K0:KW P g av fl nl te) {b F p:Nat} {cs:List Value} {rest:List GC} (hb:b < m/\b ≠ 1):∀ (fs:Fds) (l:List (Nat × Option Prim × Int)) (ms:List Nm) (vs:List V) (n:Nat) (a:Act) (w:World) (d:Value) (bs:Bs),fdsP fs=some l->okBoxW ⟨P,g,av,nl⟩ cx.hf m k0 F fs ms=true->BoxF (fun j=>cs[j]?) fs vs->BoxAt w p cs d->a.get b=pt p 0 ->
  WC cx true ver te L B O d bs a w->CxW cx m k0->k0<=n->k0<=a.tmps.size->(gL (gwBox g cx b F fs ms) n).2<=a.tmps.size->bs.length + (wrFds true ver fs vs).length<=LIM ->
  (∀ a' w' d',Pv 1 m k0 n a a'->a'.get 1=d'->Gr L te d w d' (bs++wrFds true ver fs vs) w'->LW P rest (gL (gwBox g cx b F fs ms) n).2 Q a' w')->LW P (gwBox g cx b F fs ms++rest) n Q a w
 | .nil,l,ms,vs,n,a,w,d,bs,_,_,_,_,_,hw,_,_,_,_,_,h=>by
  have e:gwBox g cx b F .nil ms=[]:=by simp only [gwBox]
  rw [e] at h ⊢
  exact h a w d (Pv.refl _ _ _ _ _) hw.s1 (by simpa [wrFds] using Gr.refl hw.dst)
 | .cons lo hi tag df off ty r,l,ms,vs,n,a,w,d,bs,hl,hok,hbf,hbx,hgb,hw,hc,hk,hk0,hn,hlim,h=>by
  obtain ⟨rfl,rfl,rfl,q,l',hp,hr,rfl⟩:=fdsP_cons hl
  obtain ⟨y,v,vs',rfl,hy,hpr,hrs⟩:=hbf
  obtain ⟨hleaf,hnu⟩:=plain_leaf hp
  simp only [okBoxW,Bool.and_eq_true] at hok
  obtain ⟨⟨hF,hwo⟩,hokr⟩:=hok
  have hF:=fldB_ok hF
  obtain ⟨hwl,hx0,hxk⟩:=wlOk_of hwo
  have hle:=hc.le
  have h1m:=hc.one
  have e:gwBox g cx b F (.cons 0 none none df off ty r) ms=gS ((qu_ 2 fun n=>[mk (some n) (.fieldAddr F (tm b) ((ms.headD (.mk [] [])).n 1)),mk (some (n + 1)) (.load ((ms.headD (.mk [] [])).n 2) (tm n)),mk (some ((ms.headD (.mk [] [])).n 0)) (.assign (tm (n + 1)))]) :: jc_ g cx ty ((ms.headD (.mk [] [])).n 0) []) :: gwBox g cx b F r ms.tail:=by simp only [gwBox]
  have ew:wrFds true ver (.cons 0 none none df off ty r) (v :: vs')=jl_ true ver ty v++wrFds true ver r vs':=by simp [wrFds,has]
  rw [e] at hn h ⊢
  rw [ew] at hlim h
  rw [List.length_append] at hlim
  have hn1:(gL (gwBox g cx b F r ms.tail) (gL (jc_ g cx ty ((ms.headD (.mk [] [])).n 0) []) (n + 2)).2).2<=a.tmps.size:=hn
  have hu1:=jv_ g cx ty ((ms.headD (.mk [] [])).n 0) [] (n + 2)
  have hu2:=upL_box g cx b F r ms.tail (gL (jc_ g cx ty ((ms.headD (.mk [] [])).n 0) []) (n + 2)).2
  show LW P (gS _ :: (gwBox g cx b F r ms.tail++rest)) n Q a w
  refine qc_ (q2_ (qc_ (qj_ ?_)))
  have hcell:w.cell? ⟨p,0 + off,none⟩=some y:=hbx.cells off y hy
  refine ju_ (B:=p) (O:=0) (by rw [qb_];exact hgb) hF (q5_ (p:=⟨p,0 + off,none⟩) (v:=y) (by rw [qb_,gpe (by omega)]) (hF.var.agg w) hcell (qg_ (wpList_nil ?_)))
  have hp1:Pv 1 m k0 n a (((a.put (some n) (.pointer (some ⟨p,0 + off,none⟩))).put (some (n + 1)) y).put (some ((ms.headD (.mk [] [])).n 0)) y):=(((Pv.refl _ _ _ _ _).put _ (by omega)).put _ (by omega)).put _ (by omega)
  have hgx:(((a.put (some n) (.pointer (some ⟨p,0 + off,none⟩))).put (some (n + 1)) y).put (some ((ms.headD (.mk [] [])).n 0)) y).get ((ms.headD (.mk [] [])).n 0)=y:=gpe (by simp only [qa_];omega)
  have hg1:(((a.put (some n) (.pointer (some ⟨p,0 + off,none⟩))).put (some (n + 1)) y).put (some ((ms.headD (.mk [] [])).n 0)) y).get 1=d:=by rw [gpo (by omega),gpo (by omega),gpo (by omega)];exact hw.s1
  have hee:((a.put (some n) (.pointer (some ⟨p,0 + off,none⟩))).put (some (n + 1)) y).eval (tm (n + 1))=y:=by rw [qb_,gpe (by simp only [qa_];omega)]
  rw [hee]
  show LW P _ (n + 2) _ (((a.put (some n) (.pointer (some ⟨p,0 + off,none⟩))).put (some (n + 1)) y).put (some ((ms.headD (.mk [] [])).n 0)) y) w
  generalize ((a.put (some n) (.pointer (some ⟨p,0 + off,none⟩))).put (some (n + 1)) y).put (some ((ms.headD (.mk [] [])).n 0)) y=a1 at hp1 hgx hg1 ⊢
  have hs1:=hp1.size
  have hw1:=hw.step hc hp1 hg1 (Gr.refl hw.dst)
  have hlw:=leaf_wr true ver ty v hleaf
  suffices hkey:LW P (jc_ g cx ty ((ms.headD (.mk [] [])).n 0) []++[]) (n + 2) (Exit.then (LW P (gwBox g cx b F r ms.tail++rest) (gL (jc_ g cx ty ((ms.headD (.mk [] [])).n 0) []) (n + 2)).2 Q) Q) a1 w by
   rw [List.append_nil] at hkey
   exact hkey
  refine s_wleaf K0 hwl hw1 hc (by omega) (by omega) (by rw [hs1];omega) (by simp only [LeafAt,hnu,Bool.false_eq_true,if_false];exact ⟨y,hgx,rfl⟩) (hpr w _) (by rw [<- hlw];omega) fun a2 w2 d2 hp2 h12 hg2=>q0_ ?_
  rw [<- hlw] at hg2
  have hs2:=hp2.size
  have hp02:Pv 1 m k0 n a a2:=hp1.trans (hp2.mono (Nat.le_refl _) (by omega))
  have hgb2:a2.get b=pt p 0:=by rw [hp02.get _ hb.2 (.inl hb.1)];exact hgb
  have hw2:=hw.step hc hp02 h12 hg2
  refine w_box K0 hb r l' ms.tail vs' _ a2 w2 d2 _ hr hokr hrs (hbx.gr hg2) hgb2 hw2 hc (by omega) (by omega) (by rw [hs2,hs1];exact hn1) (by rw [List.length_append];omega) fun a3 w3 d3 hp3 h13 hg3=>h a3 w3 d3 (hp02.trans (hp3.mono (Nat.le_refl _) (by omega))) h13 ?_
  rw [<- List.append_assoc]
  exact hg2.trans hg3
theorem w_boxTags (K0:KW P g av fl nl te) (hf:cx.hf=true) (hfl:fl=true) {b F p kt o sz:Nat} {F':Nat} {agg:Bool} {cs:List Value} {mm:Value} {t:List (Nat × Bs)} (hb:b < m/\b ≠ 1) (hF:zj_ P F kt F' o agg sz) (hcs:cs[o]?=some mm) (htg:TgRp w (fun k=>L<=k) mm t) (hbx:BoxAt w p cs d) (hgb:a.get b=pt p 0)
  (hw:WC cx true ver te L B O d bs a w) (hc:CxW cx m k0) (hk:k0<=n) (hn:n + 1 + 6 + 3<=a.tmps.size) (hlim:bs.length + (jn_ true t).length<=LIM)
  (h:∀ a' w' d',Pv 1 m k0 n a a'->a'.get 1=d'->Gr L te d w d' (bs++jn_ true t) w'->K a' w'):NWP P (xk_ g cx b F kt n).1 (Exit.then K Q) a w:=by
 have hle:=hc.le
 have h1m:=hc.one
 refine s_fx (x:=n) (m:=m) (k0:=k0) (hw.sf hf) hle hk (by omega) fun a1 hp1=>?_
 have hp1':Pv 1 m k0 n a a1:=⟨hp1.size,hp1.defers,fun s hs hs2=>hp1.get s (by omega) hs2⟩
 have hs1:=hp1.size
 have hg1:a1.get 1=d:=by rw [hp1.get 1 (by omega) (.inl h1m)];exact hw.s1
 have hb1:a1.get b=pt p 0:=by rw [hp1.get b (by omega) (.inl hb.1)];exact hgb
 simp only [if_true]
 have hlen:(jn_ true t).length=(uvar (w32 t.length)).length + (qz_ t).length:=by simp [jn_]
 rw [hlen] at hlim
 have hmm:w.cell? ⟨p,0 + o,none⟩=some mm:=hbx.cells o mm hcs
 refine q2_ (qc_ (qj_ (qd_ ?_)))
 rw [qb_,hg1]
 refine ju_ (B:=p) (O:=0) (by rw [qb_,gpo (by omega)];exact hb1) hF ?_
 refine qv_ (vs:=#[pt p (0 + o)]) (K0.tlE hfl) ?_ (K0.tlC hfl w p (0 + o) mm _ t hmm htg) fun e2 w2 hR=>⟨_,hR.1,?_⟩
 ·simp only [List.map_cons,List.map_nil,qb_]
  rw [gpe (by simp only [qa_];omega)]
  rfl
 have hk2:=hR.2
 refine qw_ (k:=.i64) (k':=.u32) (m:=t.length) (by rw [qb_,gpe (by simp only [qa_];omega)]) K0.dInt (K0.dU32 hfl) ?_
 refine zk_ (k:=.u32) (m:=0) (n:=IntKind.u32.wrap t.length) rfl (by rw [qb_,gpe (by simp only [qa_];omega)]) (by simp) (run_add w2) ?_
 have hwr:IntKind.u32.wrap (0 + IntKind.u32.wrap (t.length:Int))=(w32 t.length:Nat):=by simp [IntKind.wrap,IntKind.bits,IntKind.signed,w32]
 rw [hwr]
 refine zx_ (K0.uvE hfl) ?_ (K0.uvC hfl (w32 t.length) w2 (w32_lt _) L) (hw.dst.keep hk2 fun _ _ h=>h) (Nat.le_trans hw.Lw hk2.size) (by omega) (by simp only [qa_];omega) fun w3 d3 hg3=>wpList_nil ?_
 ·simp only [List.map_cons,List.map_nil,qb_]
  rw [gpo (by omega),gpo (by omega),gpo (by omega),gpo (by omega),gpe (by omega),gpe (by simp only [qa_];omega)]
 have hg03:Gr L te d w d3 (bs++uvar (w32 t.length)) w3:=Gr.pre hk2 (fun _ _ h=>h) hg3
 have hfar:=Gr.far hw.dst hg03
 have hbx3:=hbx.gr hg03
 have hmm3:w3.cell? ⟨p,0 + o,none⟩=some mm:=hbx3.cells o mm hcs
 have htg3:=htg.keep hfar
 have key:∀ (a2:Act),Pv 1 m k0 n a a2->a2.get 1=d3->a2.get b=pt p 0->LW P [qu_ 3 fun n=>[mk (some n) (.fieldAddr F (tm b) kt),mk (some (n + 1)) (.move (tm 1)),cl (some (n + 2)) g.teach [tm n,tm (n + 1)],mk (some 1) (.assign (tm (n + 2)))]] (n + 1 + 6) (Exit.then K Q) a2 w3:=by
  intro a2 hp2 hg2 hss2
  have hs2:=hp2.size
  refine qc_ (qj_ ?_)
  refine ju_ (B:=p) (O:=0) (by rw [qb_];exact hss2) hF (qd_ ?_)
  rw [qb_,gpo (by omega),hg2]
  refine qv_ (vs:=#[pt p (0 + o),d3]) (K0.teE hfl) ?_ (K0.teC hfl w3 p (0 + o) mm L t d3 _ hmm3 ⟨hbx3.lt,hbx3.ne⟩ htg3 hg03.dst (Nat.le_trans hw.Lw hg03.keeps.size) (by rw [List.length_append];omega)) fun e4 w4 hR4=>?_
  ·simp only [List.map_cons,List.map_nil,qb_]
   rw [gpo (by omega),gpe (by omega),gpe (by simp only [qa_];omega)]
   rfl
  obtain ⟨d4,he4,hg4⟩:=hR4
  refine ⟨d4,he4,qg_ (wpList_nil (q0_ (h _ w4 d4 ?_ ?_ ?_)))⟩
  ·exact hp2.trans (((((Pv.refl _ _ _ _ _).put _ (by omega)).put _ (by omega)).put _ (by omega)).put _ (.inl rfl))
  ·rw [gpe (by simp only [qa_];omega),qb_,gpe (by simp only [qa_];omega)]
  ·have:=hg03.trans hg4
   simpa [jn_,List.append_assoc] using this
 refine key _ ?_ (gpe (by simp only [qa_];omega)) ?_
 ·exact hp1'.trans (((((((Pv.refl _ _ _ _ _).put _ (by omega)).put _ (by omega)).put _ (by omega)).put _ (by omega)).put _ (by omega)).put _ (by omega) |>.put _ (.inl rfl))
 ·rw [gpo (by omega),gpo (by omega),gpo (by omega),gpo (by omega),gpo (by omega),gpo (by omega),gpo (by omega)];exact hb1
theorem fdsP_plain:∀ (fs:Fds) (l:List (Nat × Option Prim × Int)),fdsP fs=some l->fs.tagged=false
 | .nil,_,_=>rfl
 | .cons lo hi tag df off ty r,l,hl=>by
  obtain ⟨_,_,rfl,_,l',_,hr,_⟩:=fdsP_cons hl
  simp only [Fds.tagged,Option.isSome_none,Bool.false_or]
  exact fdsP_plain r l' hr
theorem body_struct (K0:KW P g av fl nl te) (toff:Option Nat) (fs:Fds):WrBody P g av fl nl te (.struct none toff fs):=by
 intro nm cx ver B O L m k0 n T off t v d bs K E a w hoky hhf ht hw hc hfl hk hk0 hn hr hlim h
 cases toff with
 | none=>simp [okBodyW] at hoky
 | some o=>
 simp only [okBodyW,Bool.and_eq_true,decide_eq_true_eq,beq_iff_eq] at hoky
 obtain ⟨⟨⟨⟨⟨hsl,hsm⟩,hT⟩,hfld⟩,hbox⟩,hst⟩:=hoky
 subst hT
 simp only [okStW,Bool.and_eq_true] at hst
 have hFt:=fldB_ok hst.2
 have hF:=fldB_ok hfld
 have hle:=hc.le
 have h1m:=hc.one
 obtain ⟨s0,hs0,_,_,e3,e4,hds,hcov⟩:=smB_ok hsm
 have C:=K0.smC s0 hs0
 obtain ⟨z,hzs,hz⟩:=C.zC
 have hszT:sizeT P (nm.n 3)=s0.sz:=by
  have h1:=hF.var.size w
  have h2:=C.var.size w
  rw [e3] at h2
  rw [h1] at h2
  simpa using h2
 obtain ⟨cs,mm,vs,tg,rfl,hlen,hcells,hone,hto,_,htg,hbf⟩:=bx_cells hds hcov hr
 have hplain:fs.tagged=false:=fdsP_plain fs s0.ds hds
 have henc:jl_ true ver (.struct none (some o) fs) (.st vs tg)=wrFds true ver fs vs++jn_ true tg:=by simp only [jl_,V.fields,V.tags,wrTgd_plain true ver fs vs hplain,wTail_nil]
 have hwt:(wTag (t,jl_ true ver (.struct none (some o) fs) (.st vs tg))).length=(uvar t).length + ((uvar (w32 (wrFds true ver fs vs++jn_ true tg).length)).length + (wrFds true ver fs vs++jn_ true tg).length):=by rw [henc];simp [wTag]
 rw [hwt] at hlim
 have hupT:Up (xk_ g cx (nm.n 0) (nm.n 3) (nm.n 11)):=j4_ (up_S (qe_ (qi_ _ _) (qe_ (qi_ _ _) qk_))) (q7_ _)
 have hupB:UpL (gwBox g cx (nm.n 0) (nm.n 3) fs (nm.sub 0).s++[xk_ g cx (nm.n 0) (nm.n 3) (nm.n 11)]):=ql_ (upL_box _ _ _ _ _ _) (qe_ hupT qk_)
 have hn2:(gL ((gwBox g cx (nm.n 0) (nm.n 3) fs (nm.sub 0).s++[xk_ g cx (nm.n 0) (nm.n 3) (nm.n 11)])++[zs_ g (nm.n 4) (nm.n 5) (nm.n 6) (nm.n 9)]) (n + 4 + 2 + 2)).2<=a.tmps.size:=by
  have hh:(gL ([gwLoadU cx.s (nm.n 0) (nm.n 1) (nm.n 2) (nm.n 3),gwUv g t]++gwSz g (nm.n 4) (nm.n 5) (nm.n 6)++(gwBox g cx (nm.n 0) (nm.n 3) fs (nm.sub 0).s++[xk_ g cx (nm.n 0) (nm.n 3) (nm.n 11)])++[zs_ g (nm.n 4) (nm.n 5) (nm.n 6) (nm.n 9)]) n).2<=a.tmps.size:=hn
  rw [List.append_assoc,qx_] at hh
  exact hh
 have hn3:(gL (gwBox g cx (nm.n 0) (nm.n 3) fs (nm.sub 0).s++[xk_ g cx (nm.n 0) (nm.n 3) (nm.n 11)]) (n + 4 + 2 + 2)).2 + 11<=a.tmps.size:=by rw [qx_] at hn2;exact hn2
 have hup:=hupB (n + 4 + 2 + 2)
 have hcode:gwBody g cx t (.struct none (some o) fs) nm=gScope ([gwLoadU cx.s (nm.n 0) (nm.n 1) (nm.n 2) (nm.n 3),gwUv g t,ji_ (nm.n 4) (.bool false),qu_ 2 fun n=>[mk (some n) (.move (tm 1)),bi (some (n + 1)) .len [tm n] [g.tSl] g.tInt,mk (some (nm.n 5)) (.assign (tm (n + 1)))]] ++
  (q3_ (.label (nm.n 6)) :: ((gwBox g cx (nm.n 0) (nm.n 3) fs (nm.sub 0).s++[xk_ g cx (nm.n 0) (nm.n 3) (nm.n 11)])++[zs_ g (nm.n 4) (nm.n 5) (nm.n 6) (nm.n 9)]))):=by
  simp only [gwBody,gwSz,List.cons_append,List.nil_append,List.append_assoc]
 rw [hcode]
 refine s_scope (fun c hc=>?_) ?_ ?_
 ·simp only [gL,gwLoadU,gwUv,ji_,qu_,rg,List.mem_cons,List.not_mem_nil,or_false] at hc
  rcases hc with rfl | rfl | rfl | rfl <;> rfl
 ·rw [qx_]
  simp [gL]
 show LW P (gwLoadU cx.s (nm.n 0) (nm.n 1) (nm.n 2) (nm.n 3) :: gwUv g t :: ([ji_ (nm.n 4) (.bool false),qu_ 2 fun n=>[mk (some n) (.move (tm 1)),bi (some (n + 1)) .len [tm n] [g.tSl] g.tInt,mk (some (nm.n 5)) (.assign (tm (n + 1)))],q3_ (.label (nm.n 6))] ++
  ((gwBox g cx (nm.n 0) (nm.n 3) fs (nm.sub 0).s++[xk_ g cx (nm.n 0) (nm.n 3) (nm.n 11)])++[zs_ g (nm.n 4) (nm.n 5) (nm.n 6) (nm.n 9)]))) n _ a w
 refine qc_ (s_loadBox (m:=m) (k0:=k0) hw.ss hF (fun w=>by rw [<- e3];exact hz w) (hzs.trans hszT.symm) (hlen.trans hszT.symm) hone hcells ⟨hsl.1,by omega⟩ hle hk (by omega) h1m fun a1 w1 hp1 h11 hv1 hk1 hlt1 hc1=>?_)
 have hs1:=hp1.size
 have hd1:jh_ w1 L te d bs:=hw.dst.keep hk1 fun _ _ h=>h
 have hL1:=Nat.le_trans hw.Lw hk1.size
 have hbx1:BoxAt w1 w.heap.size cs d:=⟨hc1,hlt1,fun hh=>by have:=(hw.dst.own hh).2;omega⟩
 refine qc_ (s_uv (m:=m) K0 hfl ht (h11.trans hw.s1) hd1 hL1 (by omega) hle (by show k0<=n + 4;omega) h1m (by show n + 4 + 2<=_;omega) fun a2 w2 d2 hp2 h12 hg2=>?_)
 have hs2:=hp2.size
 have hp02:Pv 1 m k0 n a a2:=hp1.trans (hp2.mono hle (by show n<=n + 4;omega))
 have hv2:a2.get (nm.n 0)=pt w.heap.size 0:=(hp2.get _ (by omega) (.inl (by omega))).trans hv1
 have hL2:=Nat.le_trans hL1 hg2.keeps.size
 have hg02:Gr L te d w d2 (bs++uvar t) w2:=Gr.pre hk1 (fun _ _ h=>h) hg2
 have hbx2:=hbx1.gr hg2
 have htg2:TgRp w2 (fun k=>L<=k) (.map mm) tg:=htg.keep (Gr.far hw.dst hg02)
 show LW P _ (n + 4 + 2) _ a2 w2
 refine s_sized K0 hfl (k0:=k0) (m0:=nm.n 0 + 1) (mB:=max (nm.n 4) (nm.n 5) + 1) (enc:=wrFds true ver fs vs++jn_ true tg) h12 hg2.dst hL2 (by rw [List.length_append (as:=bs)];omega) (by omega) (by omega) (by omega) (by omega) hupB (by rw [hs2,hs1];exact hn2) (fun a3 w3 d3 bs3 K3 hS3 h13 hg3' hlim3 h3=>?_) fun a3 w3 d3 hS3 h13 hg3=>h a3 w3 d3 ?_ h13 ?_
 ·have hs3:=hS3.size
  have hk3:=Gr.far hg2.dst hg3'
  have hw2:=hw.step hc hp02 h12 hg02
  have hge:∀ q,q < m->q ≠ 1->a3.get q=a2.get q:=fun q hq hq1=>hS3.get q hq1 (by omega) (.inl (by omega))
  have hw3:WC cx true ver te L B O d3 bs3 a3 w3:=⟨hg3'.dst,h13,by rw [hge _ hc.s.1 hc.s.2];exact hw2.ss,by rw [hge _ hc.ver.1 hc.ver.2];exact hw2.sv,fun hf=>by rw [hge _ hc.fx.1 hc.fx.2];exact hw2.sf hf,hw2.nf,hw2.BL,Nat.le_trans hL2 hk3.size⟩
  have hv3:a3.get (nm.n 0)=pt w.heap.size 0:=(hS3.get _ (by omega) (by omega) (.inl (by omega))).trans hv2
  have hcB:CxW cx (max (nm.n 4) (nm.n 5) + 1) k0:=hc.mono (by omega) (by omega)
  have hbx3:=hbx2.gr hg3'
  have hlen3:(wrFds true ver fs vs++jn_ true tg).length=(wrFds true ver fs vs).length + (jn_ true tg).length:=List.length_append
  have hnB:(gL (gwBox g cx (nm.n 0) (nm.n 3) fs (nm.sub 0).s) (n + 4 + 2 + 2)).2 + 1 + 6 + 3<=a.tmps.size:=by
   rw [qx_] at hn3
   have:(gL (gwBox g cx (nm.n 0) (nm.n 3) fs (nm.sub 0).s) (n + 4 + 2 + 2)).2 + 1 + 6 + 3 + 11<=a.tmps.size:=hn3
   omega
  have hupX:=upL_box g cx (nm.n 0) (nm.n 3) fs (nm.sub 0).s (n + 4 + 2 + 2)
  refine w_box K0 (cx:=cx) (m:=max (nm.n 4) (nm.n 5) + 1) (k0:=k0) (F:=nm.n 3) (p:=w.heap.size) (cs:=cs) ⟨by omega,by omega⟩ fs s0.ds (nm.sub 0).s vs (n + 4 + 2 + 2) a3 w3 d3 bs3 hds hbox hbf hbx3 hv3 hw3 hcB (by omega) (by omega) (by omega) (by omega) fun a4 w4 d4 hp4 h14 hg4=>?_
  have hs4:=hp4.size
  have hv4:a4.get (nm.n 0)=pt w.heap.size 0:=(hp4.get _ (by omega) (.inl (by omega))).trans hv3
  have hw4:=hw3.step hcB hp4 h14 hg4
  refine qc_ ?_
  rw [qr_]
  have hfin:=w_boxTags (w:=w4) K0 hhf hfl (b:=nm.n 0) (m:=max (nm.n 4) (nm.n 5) + 1) (k0:=k0) (n:=(gL (gwBox g cx (nm.n 0) (nm.n 3) fs (nm.sub 0).s) (n + 4 + 2 + 2)).2) (a:=a4) (K:=K3) (Q:=Rt K3 E) (p:=w.heap.size) (cs:=cs) (mm:=.map mm) (t:=tg) ⟨by omega,by omega⟩ hFt hto ((htg2.keep hk3).keep (Gr.far hg3'.dst hg4)) (hbx3.gr hg4) hv4 hw4 hcB (by omega) (by omega) (by rw [List.length_append];omega) fun a5 w5 d5 hp5 h15 hg5=>h3 a5 w5 d5 (hp4.trans (hp5.mono (Nat.le_refl _) (by omega))) h15 (by rw [<- List.append_assoc];exact hg4.trans hg5)
  rw [qr_] at hfin
  exact hfin.mono fun e a w hq=>by
   cases e <;> first | exact q0_ hq | exact hq
 ·exact hp02.trans ⟨hS3.size,hS3.defers,fun i hi hi2=>hS3.get i hi (by omega) (by omega)⟩
 ·have:=hg02.trans hg3
  rw [henc]
  simpa [wTag,List.append_assoc] using this
end
section
variable {P:Program} {g:GW} {av:PF->Bool} {fl nl:Bool} {te:Nat}
theorem wel_struct {toff:Option Nat} {fs:Fds} (hfs:WrFds P g av fl nl te fs) (htl:WrTail P g av fl nl te fs):WrEl P g av fl nl te (.struct none toff fs):=by
 intro nm cx fx ver B O L m k0 n esz vs i F E' p q cnt c j v d bs K E a w hoky hw hc hfl hk hk0 hn hvs hi hj hvm him hF hE hpL hr hlim h
 simp only [okElW,Bool.and_eq_true,decide_eq_true_eq] at hoky
 obtain ⟨⟨hsl,hst⟩,hokf⟩:=hoky
 obtain ⟨vv,t,rfl,hrf,ht⟩:=hr
 have hle:=hc.le
 have hn2:(gL (gwFds g { cx with s:=nm.n 0 } fs (nm.sub 0).s++jj_ g { cx with s:=nm.n 0 } fs (nm.n 1) (nm.n 2) (nm.sub 0)) (n + 3)).2<=a.tmps.size:=hn
 have hup:=ql_ (upL_wfds g fs { cx with s:=nm.n 0 } (nm.sub 0).s) (upL_tailW g { cx with s:=nm.n 0 } fs (nm.n 1) (nm.n 2) (nm.sub 0)) (n + 3)
 show LW P (z6_ vs i (nm.n 0) F :: (gwFds g { cx with s:=nm.n 0 } fs (nm.sub 0).s++jj_ g { cx with s:=nm.n 0 } fs (nm.n 1) (nm.n 2) (nm.sub 0))) n (Rt K E) a w
 refine qc_ (s_widxAddr hvs hi hj hF hE hsl (by omega) (by omega) hle hk (by omega) hc.one fun a1 hp1 hg1 he1=>?_)
 have hs1:=hp1.size
 show LW P _ (n + 3) (Rt K E) a1 w
 have hw1:=hw.at hc hp1 (hg1.trans hw.s1) he1 hpL
 exact w_st hfs htl (cx:={ cx with s:=nm.n 0 }) hst hokf hw1 (hc.at (m':=nm.n 0 + 1) ⟨hsl.1,by omega⟩ (by omega) (by omega)) hfl (by omega) (by omega) (by rw [hs1];exact hn2) hrf ht (by simpa [jl_,V.fields,V.tags] using hlim) fun a' w' d' hp' h1' hg'=>h a' w' d' (hp1.trans (hp'.mono (by omega) (by omega))) h1' (by simpa [jl_,V.fields,V.tags] using hg')
theorem wlist_slot (K0:KW P g av fl nl te) {nul:Option Nat} {sz:Nat} {e:Ty} (he:WrEl P g av fl nl te e) {v0 F i b1 b2 E' len c:Nat} {sub:Nm} {z:Array Value} {base:Option Addr} {cx:Cx} {fx:Bool} {ver:Int} {B O L m k0 n:Nat} {v:V} {d:Value} {bs:Bs} {K E:Act->World->Prop} {a:Act} {w:World}
  (hsl:v0 < m/\m<=i/\i < k0/\v0 ≠ 1) (hR:RowIs P F E' sz z) (hokE:okElW ⟨P,g,av,nl⟩ cx.hf (i + 1) k0 E' sz e sub=true) (hnl:nul.isSome=true->nl=true) (hhl:nul ≠ some 0->hasLstW g cx.hf=true) (hw:WC cx fx ver te L B O d bs a w) (hc:CxW cx m k0) (hfl:cx.hf=true->fl=true) (hk:k0<=n) (hk0:k0<=a.tmps.size)
  (hn:(gL [gwLen g cx nul v0 F,gwFor g v0 i b1 b2 F (gwEl g cx e v0 i F sub)] n).2<=a.tmps.size) (hv0:a.get v0=.slice base len c) (hlen:len=v.list.length) (hmax:len<=maxLen) (hbase:base.isNone=v.isNul) (hels:∀ i x,v.list[i]?=some x->∃ p q,base=some ⟨p,q,none⟩/\p < L/\Rp w (fun k=>L<=k) e p (q + i * sz) x)
  (hlim:bs.length + (jl_ fx ver (.list nul sz e) v).length<=LIM) (h:∀ a' w' d',Pv 1 m k0 n a a'->a'.get 1=d'->Gr L te d w d' (bs++jl_ fx ver (.list nul sz e) v) w'->K a' w'):LW P [gwLen g cx nul v0 F,gwFor g v0 i b1 b2 F (gwEl g cx e v0 i F sub)] n (Rt K E) a w:=by
 have hle:=hc.le
 have h1m:=hc.one
 have hwr:jl_ fx ver (.list nul sz e) v=(if zm_ nul ver && base.isNone then wNull fx 4 else wCnt fx len)++wMany (jl_ fx ver e) v.list:=by simp only [jl_,hbase,hlen]
 rw [hwr] at hlim h
 rw [List.length_append] at hlim
 have hupLen:=up_wlen g cx nul v0 F n
 have hupEl:=upL_wel g e cx v0 i F sub
 have hupFor:=up_wfor g v0 i b1 b2 F hupEl (gwLen g cx nul v0 F n).2
 have hn2:(gwFor g v0 i b1 b2 F (gwEl g cx e v0 i F sub) (gwLen g cx nul v0 F n).2).2<=a.tmps.size:=hn
 refine qc_ (s_wlen (m:=m) (k0:=k0) K0 hnl hhl hfl hw hc hv0 hR.und (by omega) (by omega) (by omega) (by omega) fun a2 w2 d2 hp2 h12 hgr2=>?_)
 have hs2:=hp2.size
 have hg2:a2.get v0=.slice base len c:=by rw [hp2.get _ (by omega) (.inl (by omega))];exact hv0
 generalize hnp:(gwLen g cx nul v0 F n).2=np at hupLen hupFor hn2 ⊢
 refine qc_ ?_
 rw [qr_]
 refine s_wfor (m:=m) (k0:=k0) (W:=fun j d' w'=>Gr L te d w d' (bs++(if zm_ nul ver && base.isNone then wNull fx 4 else wCnt fx len)++wMany (jl_ fx ver e) (v.list.take j)) w') hg2 hR.und (by omega) (by omega) (by omega) (by omega) (by rw [hs2];exact hn2) (hupEl _) hmax ?_ (fun j a3 w3 hj hp3 hi3 hW=>?_) (fun a3 w3 hp3 hW=>?_)
 ·rw [h12]
  simpa [wMany] using hgr2
 ·have hs3:=hp3.size
  obtain ⟨x,hx⟩:∃ x,v.list[j]?=some x:=⟨v.list[j]'(by omega),List.getElem?_eq_getElem (by omega)⟩
  obtain ⟨p,q,rfl,hpL,hrx⟩:=hels j x hx
  have htake:v.list.take (j + 1)=v.list.take j++[x]:=by rw [List.take_add_one,hx];rfl
  have hmany:(wMany (jl_ fx ver e) v.list).length=(wMany (jl_ fx ver e) (v.list.take j)).length + (jl_ fx ver e x).length + (wMany (jl_ fx ver e) (v.list.drop (j + 1))).length:=by
   conv=>lhs;rw [<- List.take_append_drop (j + 1) v.list,htake]
   simp only [wMany,List.map_append,List.flatten_append,List.length_append,List.map_cons,List.map_nil,List.flatten_cons,List.flatten_nil,List.append_nil]
  have hp13:Pv 1 m k0 n a a3:=hp2.trans (hp3.mono (by omega) (by omega))
  have hw3:=hw.step hc hp13 rfl hW
  have hfar:=Gr.far hw.dst hW
  have hvs3:a3.get v0=.slice (some ⟨p,q,none⟩) len c:=by rw [hp3.get _ (by omega) (.inl (by omega))];exact hg2
  refine q2_ (he sub cx fx ver B O L (i + 1) k0 (np + 5) sz v0 i F E' p q len c j x (a3.get 1) _ _ E a3 w3 hokE hw3 (hc.mono (by omega) (by omega)) hfl (by omega) (by omega) ?_ hvs3 hi3 hj (by omega) (by omega) hR.und hR.size hpL (Rp.keep hfar hrx (by omega) (by have:=hw.Lw;omega)) ?_ fun a4 w4 d4 hp4 h14 hg4=>⟨hp4,?_⟩)
  ·have h9:(gL (gwEl g cx e v0 i F sub) (np + 5)).2 + 1<=a.tmps.size:=hn2
   omega
  ·rw [List.length_append,List.length_append]
   omega
  ·rw [h14,htake]
   have:=hW.trans hg4
   simpa [wMany,List.append_assoc] using this
 ·refine q0_ (h a3 w3 (a3.get 1) (hp2.trans (hp3.mono (by omega) (by omega))) rfl ?_)
  rw [hlen,List.take_length] at hW
  rw [hlen,<- List.append_assoc]
  exact hW
theorem list_form {w:World} {L b o sz:Nat} {nul:Option Nat} {e:Ty} {v:V} (hr:Rp w (fun k=>L<=k) (.list nul sz e) b o v):∃ base len c,w.cell? ⟨b,o,none⟩=some (.slice base len c)/\len=v.list.length/\len<=maxLen/\base.isNone=v.isNul/\(∀ i x,v.list[i]?=some x->∃ p q,base=some ⟨p,q,none⟩/\p < L/\Rp w (fun k=>L<=k) e p (q + i * sz) x):=by
 rcases hr with ⟨h1,rfl⟩ | ⟨xs,p,q,c,h1,h2,h3,h4,h5,rfl,h7⟩
 ·exact ⟨none,0,0,h1,rfl,by simp [maxLen],rfl,fun i x hx=>by simp [V.list] at hx⟩
 ·exact ⟨some ⟨p,q,none⟩,xs.length,c,h1,rfl,by omega,rfl,fun i x hx=>⟨p,q,rfl,by omega,h7 i x hx⟩⟩
theorem wty_list (K0:KW P g av fl nl te) {nul:Option Nat} {esz:Nat} {e:Ty} (he:WrEl P g av fl nl te e):WrTy P g av fl nl te (.list nul esz e):=by
 intro nm cx fx ver B O L m k0 n T off v d bs K E a w hoky hw hc hfl hk hk0 hn hr hlim h
 simp only [okTyW,Bool.and_eq_true,Bool.or_eq_true,Bool.not_eq_true',decide_eq_true_eq,beq_iff_eq] at hoky
 obtain ⟨⟨⟨⟨hsl,hT⟩,hfld⟩,hnl⟩,hrow⟩:=hoky
 subst hT
 cases hro:rowOf P (nm.n 3) with
 | none=>rw [hro] at hrow;cases hrow
 | some row=>
 obtain ⟨E',sz,z⟩:=row
 rw [hro] at hrow
 simp only [Bool.and_eq_true,Bool.or_eq_true,beq_iff_eq] at hrow
 obtain ⟨⟨rfl,hokE⟩,hhl⟩:=hrow
 have hle:=hc.le
 have h1m:=hc.one
 obtain ⟨base,len,c,hcell,hlen,hmax,hbase,hels⟩:=list_form hr
 have hupLen:=up_wlen g cx nul (nm.n 0) (nm.n 3) (n + 4)
 have hupFor:=up_wfor g (nm.n 0) (nm.n 4) (nm.n 5) (nm.n 6) (nm.n 3) (upL_wel g e cx (nm.n 0) (nm.n 4) (nm.n 3) (nm.sub 0)) (gwLen g cx nul (nm.n 0) (nm.n 3) (n + 4)).2
 have hn2:(gwFor g (nm.n 0) (nm.n 4) (nm.n 5) (nm.n 6) (nm.n 3) (gwEl g cx e (nm.n 0) (nm.n 4) (nm.n 3) (nm.sub 0)) (gwLen g cx nul (nm.n 0) (nm.n 3) (n + 4)).2).2<=a.tmps.size:=hn
 show LW P [zg_ cx.s (nm.n 0) (nm.n 1) (nm.n 2) (nm.n 3),gwLen g cx nul (nm.n 0) (nm.n 3),gwFor g (nm.n 0) (nm.n 4) (nm.n 5) (nm.n 6) (nm.n 3) (gwEl g cx e (nm.n 0) (nm.n 4) (nm.n 3) (nm.sub 0))] n (Rt K E) a w
 refine qc_ (s_load (x:=nm.n 0) (m:=m) (k0:=k0) hw.ss (fldB_ok hfld) hcell (.inl rfl) hle hk (by omega) (by omega) fun a1 hp1 hg1=>?_)
 have hs1:=hp1.size
 have hp1':=hp1.x1 ⟨hsl.1,by omega⟩
 have h11:a1.get 1=d:=(hp1.g1 ⟨hsl.1,by omega⟩ h1m).trans hw.s1
 have hw1:=hw.step hc hp1' h11 (Gr.refl hw.dst)
 show LW P [gwLen g cx nul (nm.n 0) (nm.n 3),gwFor g (nm.n 0) (nm.n 4) (nm.n 5) (nm.n 6) (nm.n 3) (gwEl g cx e (nm.n 0) (nm.n 4) (nm.n 3) (nm.sub 0))] (n + 4) (Rt K E) a1 w
 exact wlist_slot K0 he (m:=nm.n 0 + 1) (by omega) (rowOf_ok hro) hokE (fun hs=>by rcases hnl with hh | hh;rw [hs] at hh;cases hh;exact hh) (fun h=>hhl.resolve_left h) hw1 (hc.mono (by omega) (by omega)) hfl (by omega) (by omega) (by rw [hs1];exact hn2) hg1 hlen hmax hbase hels hlim fun a' w' d' hp' h1' hg'=>h a' w' d' (hp1'.trans (hp'.mono (by omega) (by omega))) h1' hg'
theorem wty_inl {toff:Option Nat} {fs:Fds} (hfs:WrFds P g av fl nl te fs) (htl:WrTail P g av fl nl te fs):WrTy P g av fl nl te (.struct none toff fs):=by
 intro nm cx fx ver B O L m k0 n T off v d bs K E a w hoky hw hc hfl hk hk0 hn hr hlim h
 simp only [okTyW,Bool.and_eq_true,decide_eq_true_eq,beq_iff_eq] at hoky
 obtain ⟨⟨⟨⟨hsl,hT⟩,hfld⟩,hst⟩,hokf⟩:=hoky
 subst hT
 obtain ⟨vv,t,rfl,hrf,ht⟩:=hr
 have hle:=hc.le
 have hn2:(gL (gwFds g { cx with s:=nm.n 0 } fs (nm.sub 0).s++jj_ g { cx with s:=nm.n 0 } fs (nm.n 3) (nm.n 4) (nm.sub 0)) (n + 3)).2<=a.tmps.size:=hn
 have hup:=ql_ (upL_wfds g fs { cx with s:=nm.n 0 } (nm.sub 0).s) (upL_tailW g { cx with s:=nm.n 0 } fs (nm.n 3) (nm.n 4) (nm.sub 0)) (n + 3)
 show LW P (gFieldAddr cx.s (nm.n 0) (nm.n 1) (nm.n 2) :: (gwFds g { cx with s:=nm.n 0 } fs (nm.sub 0).s++jj_ g { cx with s:=nm.n 0 } fs (nm.n 3) (nm.n 4) (nm.sub 0))) n (Rt K E) a w
 refine qc_ (s_fieldAddr (x:=nm.n 0) (m:=m) (k0:=k0) hw.ss (fldB_ok hfld) (.inl rfl) hle hk (by omega) (by omega) fun a1 hp1 hg1=>?_)
 have hs1:=hp1.size
 have hp1':=hp1.x1 hsl
 show LW P _ (n + 3) (Rt K E) a1 w
 have hw1:=hw.at hc hp1' ((hp1.g1 hsl hc.one).trans hw.s1) hg1 hw.BL
 exact w_st hfs htl (cx:={ cx with s:=nm.n 0 }) hst hokf hw1 (hc.at (m':=nm.n 0 + 1) ⟨hsl.1,by omega⟩ (by omega) (by omega)) hfl (by omega) (by omega) (by rw [hs1];exact hn2) hrf ht (by simpa [jl_,V.fields,V.tags] using hlim) fun a' w' d' hp' h1' hg'=>h a' w' d' (hp1'.trans (hp'.mono (by omega) (by omega))) h1' (by simpa [jl_,V.fields,V.tags] using hg')
theorem wty_opt (K0:KW P g av fl nl te) {q:Nat} {toff:Option Nat} {fs:Fds} (hfs:WrFds P g av fl nl te fs) (htl:WrTail P g av fl nl te fs):WrTy P g av fl nl te (.struct (some q) toff fs):=by
 intro nm cx fx ver B O L m k0 n T off v d bs K E a w hoky hw hc hfl hk hk0 hn hr hlim h
 simp only [okTyW,Bool.and_eq_true,decide_eq_true_eq,beq_iff_eq] at hoky
 obtain ⟨⟨⟨⟨⟨hsl,hT⟩,hfld⟩,hptr⟩,hst⟩,hokf⟩:=hoky
 subst hT
 obtain ⟨el,hel⟩:∃ el,P.underlying (nm.n 3)=some (.pointer el):=by
  unfold ptrB at hptr
  split at hptr
  ·rename_i el h;exact ⟨el,h⟩
  ·cases hptr
 have hle:=hc.le
 have h1m:=hc.one
 have hn2:(gL (gwByte g 1 :: (gwFds g { cx with s:=nm.n 0 } fs (nm.sub 0).s++jj_ g { cx with s:=nm.n 0 } fs (nm.n 4) (nm.n 5) (nm.sub 0))) (n + 4 + 2 + 3)).2<=a.tmps.size:=hn
 have hn3:(gL (gwFds g { cx with s:=nm.n 0 } fs (nm.sub 0).s++jj_ g { cx with s:=nm.n 0 } fs (nm.n 4) (nm.n 5) (nm.sub 0)) (n + 4 + 2 + 3 + 3)).2<=a.tmps.size:=hn
 have hup:=ql_ (upL_wfds g fs { cx with s:=nm.n 0 } (nm.sub 0).s) (upL_tailW g { cx with s:=nm.n 0 } fs (nm.n 4) (nm.n 5) (nm.sub 0)) (n + 4 + 2 + 3 + 3)
 show LW P [zg_ cx.s (nm.n 0) (nm.n 1) (nm.n 2) (nm.n 3),gwNil (nm.n 0) (nm.n 3) (gwByte g 255) (gS (gwByte g 1 :: (gwFds g { cx with s:=nm.n 0 } fs (nm.sub 0).s++jj_ g { cx with s:=nm.n 0 } fs (nm.n 4) (nm.n 5) (nm.sub 0))))] n (Rt K E) a w
 have hcell:∃ m',w.cell? ⟨B,O + off,none⟩=some (.pointer m'):=by
  rcases hr with ⟨h1,_⟩ | ⟨p,q,vs,t,h1,_⟩
  ·exact ⟨none,h1⟩
  ·exact ⟨_,h1⟩
 obtain ⟨ptr,hcell⟩:=hcell
 refine qc_ (s_load (x:=nm.n 0) (m:=m) (k0:=k0) hw.ss (fldB_ok hfld) hcell (.inl rfl) hle hk (by omega) (by omega) fun a1 hp1 hg1=>?_)
 have hs1:=hp1.size
 have hp1':=hp1.x1 hsl
 have h11:a1.get 1=d:=(hp1.g1 hsl h1m).trans hw.s1
 show LW P [gwNil (nm.n 0) (nm.n 3) (gwByte g 255) (gS (gwByte g 1 :: (gwFds g { cx with s:=nm.n 0 } fs (nm.sub 0).s++jj_ g { cx with s:=nm.n 0 } fs (nm.n 4) (nm.n 5) (nm.sub 0))))] (n + 4) (Rt K E) a1 w
 refine qc_ ?_
 rw [qr_]
 have htest:∀ (b:Bool),b=ptr.isNone->∀ (X:Act->World->Prop),(∀ a2,Pv 1 m k0 (n + 4) a1 a2->a2.get 1=d->a2.get (nm.n 0)=.pointer ptr->X a2 w) ->
   wpList P [mk (some (n + 4)) (.move (tm (nm.n 0))),mk (some (n + 4 + 1)) (.binOp .eql (nm.n 3) (tm (n + 4)) (.const (.pointer none)) 0)].toArray (Exit.then (fun a' w'=>a'.eval (tm (n + 4 + 1))=.bool b/\X a' w') (Rt (LW P [] ((gS (gwByte g 1 :: (gwFds g { cx with s:=nm.n 0 } fs (nm.sub 0).s++jj_ g { cx with s:=nm.n 0 } fs (nm.n 4) (nm.n 5) (nm.sub 0)))) (n + 4 + 2 + 3)).2 (Rt K E)) E))
    [mk (some (n + 4)) (.move (tm (nm.n 0))),mk (some (n + 4 + 1)) (.binOp .eql (nm.n 3) (tm (n + 4)) (.const (.pointer none)) 0)] a1 w:=by
  intro b hb X hX
  refine qd_ (wl_ptrNil (m:=ptr) hel (by rw [qb_,gpe (by omega),qb_];exact hg1) (wpList_nil ⟨by rw [qb_,gpe (by simp only [qa_];omega),hb],hX _ ?_ ?_ ?_⟩))
  ·exact ((Pv.refl _ _ _ _ _).put _ (by omega)).put _ (by omega)
  ·rw [gpo (by omega),gpo (by omega)];exact h11
  ·rw [gpo (by omega),gpo (by omega)];exact hg1
 rcases hr with ⟨h1,rfl⟩ | ⟨p,q',vs,t,h1,h2,h3,rfl,h5,h6⟩
 ·rw [h1] at hcell
  obtain rfl:(none:Option Addr)=ptr:=by simpa using hcell
  have hwr:jl_ fx ver (.struct (some q) toff fs) .nul=[255]:=by simp [jl_,V.isNul]
  rw [hwr] at hlim h
  refine z3_ (htest true rfl _ fun a2 hp2 h12 hg2=>?_)
  have hs2:=hp2.size
  have e:Rt (LW P [] ((gS (gwByte g 1 :: (gwFds g { cx with s:=nm.n 0 } fs (nm.sub 0).s++jj_ g { cx with s:=nm.n 0 } fs (nm.n 4) (nm.n 5) (nm.sub 0)))) (n + 4 + 2 + 3)).2 (Rt K E)) E=Exit.then (LW P [] ((gS (gwByte g 1 :: (gwFds g { cx with s:=nm.n 0 } fs (nm.sub 0).s++jj_ g { cx with s:=nm.n 0 } fs (nm.n 4) (nm.n 5) (nm.sub 0)))) (n + 4 + 2 + 3)).2 (Rt K E)) (Rt K E):=qr_.symm
  show NWP P (gwByte g ((255:Nat):Int) (n + 4 + 2)).1 (Rt _ E) a2 w
  have:=s_wbyte K0 (c:=255) (m:=m) (k0:=k0) (n:=n + 4 + 2) (Q:=Rt K E) (a:=a2) (w:=w) (d:=d) (bs:=bs) (L:=L) (K:=LW P [] ((gS (gwByte g 1 :: (gwFds g { cx with s:=nm.n 0 } fs (nm.sub 0).s++jj_ g { cx with s:=nm.n 0 } fs (nm.n 4) (nm.n 5) (nm.sub 0)))) (n + 4 + 2 + 3)).2 (Rt K E)) (by omega) h12 hw.dst hw.Lw (by simpa using hlim) hle (by omega) (by omega) (by omega) fun a3 w3 d3 hp3 h13 hg3=>q0_ (h a3 w3 d3 ((hp1'.trans (hp2.mono (Nat.le_refl _) (by omega))).trans (hp3.mono (Nat.le_refl _) (by omega))) h13 hg3)
  rw [qr_] at this
  exact this
 ·rw [h1] at hcell
  obtain rfl:some (⟨p,q',none⟩:Addr)=ptr:=by simpa using hcell
  have hwr:jl_ fx ver (.struct (some q) toff fs) (.st vs t)=[1]++(wrFds fx ver fs vs++zy_ fx (wrTgd fx ver fs vs) t):=by simp [jl_,V.isNul,V.fields,V.tags]
  rw [hwr] at hlim h
  rw [List.length_append] at hlim
  simp only [List.length_cons,List.length_nil] at hlim
  refine z2_ (htest false rfl _ fun a2 hp2 h12 hg2=>?_)
  have hs2:=hp2.size
  refine q2_ (qc_ (s_wbyte (m:=nm.n 0 + 1) (k0:=k0) (L:=L) (bs:=bs) (d:=d) K0 (c:=1) (by omega) h12 hw.dst hw.Lw (by omega) (by omega) (by show k0<=n + 4 + 2 + 3;omega) (by show 1 < n + 4 + 2 + 3;omega) (by show n + 4 + 2 + 3 + 3<=_;omega) fun a3 w3 d3 hp3 h13 hg3=>?_))
  have hs3:=hp3.size
  have hg30:a3.get (nm.n 0)=pt p q':=by rw [hp3.get _ (by omega) (.inl (by omega))];exact hg2
  have hp03:Pv 1 m k0 n a a3:=(hp1'.trans (hp2.mono (Nat.le_refl _) (by omega))).trans (hp3.mono (by omega) (by show n<=n + 4 + 2 + 3;omega))
  have hw3:=hw.step hc hp03 h13 hg3
  have hfar:=Gr.far hw.dst hg3
  have hpL:p < L:=by omega
  have hw3':WC { cx with s:=nm.n 0 } fx ver te L p q' d3 (bs++[UInt8.ofNat 1]) a3 w3:=hw3.at (a':=a3) hc (Pv.refl _ _ _ k0 _) h13 hg30 hpL
  refine w_st hfs htl (cx:={ cx with s:=nm.n 0 }) (L:=L) hst hokf hw3' (hc.at (m':=nm.n 0 + 1) ⟨hsl.1,by omega⟩ (by omega) (by omega)) hfl (by show k0<=n + 4 + 2 + 3 + 3;omega) (by omega) (by rw [hs3,hs2,hs1];exact hn3) (h5.far hfar hpL hw.Lw) (h6.far hfar hpL hw.Lw) (by rw [List.length_append (as:=bs)];simp only [List.length_cons,List.length_nil];omega) fun a' w' d' hp' h1' hg'=>q0_ (h a' w' d' (hp03.trans (hp'.mono (by omega) (by show n<=n + 4 + 2 + 3 + 3;omega))) h1' ?_)
  have:=hg3.trans hg'
  simpa [List.append_assoc] using this
theorem body_list (K0:KW P g av fl nl te) {nul:Option Nat} {esz:Nat} {e:Ty} (he:WrEl P g av fl nl te e):WrBody P g av fl nl te (.list nul esz e):=by
 intro nm cx ver B O L m k0 n T off t v d bs K E a w hoky hhf ht hw hc hfl hk hk0 hn hr hlim h
 simp only [okBodyW,Bool.and_eq_true,Bool.or_eq_true,Bool.not_eq_true',decide_eq_true_eq,beq_iff_eq] at hoky
 obtain ⟨⟨⟨⟨hsl,hT⟩,hfld⟩,hnl⟩,hrow⟩:=hoky
 subst hT
 cases hro:rowOf P (nm.n 3) with
 | none=>rw [hro] at hrow;cases hrow
 | some row=>
 obtain ⟨E',sz,z⟩:=row
 rw [hro] at hrow
 simp only [Bool.and_eq_true,Bool.or_eq_true,beq_iff_eq] at hrow
 obtain ⟨⟨rfl,hokE⟩,hhl⟩:=hrow
 have hle:=hc.le
 have h1m:=hc.one
 obtain ⟨base,len,c,hcell,hlen,hmax,hbase,hels⟩:=list_form hr
 have hwt:(wTag (t,jl_ true ver (.list nul sz e) v)).length=(uvar t).length + ((uvar (w32 (jl_ true ver (.list nul sz e) v).length)).length + (jl_ true ver (.list nul sz e) v).length):=by simp [wTag]
 rw [hwt] at hlim
 have hupB:UpL [gwLen g cx nul (nm.n 0) (nm.n 3),gwFor g (nm.n 0) (nm.n 12) (nm.n 13) (nm.n 14) (nm.n 3) (gwEl g cx e (nm.n 0) (nm.n 12) (nm.n 3) (nm.sub 0))]:=qe_ (up_wlen _ _ _ _ _) (qe_ (up_wfor _ _ _ _ _ _ (upL_wel g e cx _ _ _ _)) qk_)
 have hn2:(gL ([gwLen g cx nul (nm.n 0) (nm.n 3),gwFor g (nm.n 0) (nm.n 12) (nm.n 13) (nm.n 14) (nm.n 3) (gwEl g cx e (nm.n 0) (nm.n 12) (nm.n 3) (nm.sub 0))]++[zs_ g (nm.n 4) (nm.n 5) (nm.n 6) (nm.n 9)]) (n + 4 + 2 + 2)).2<=a.tmps.size:=hn
 have hn3:(gL [gwLen g cx nul (nm.n 0) (nm.n 3),gwFor g (nm.n 0) (nm.n 12) (nm.n 13) (nm.n 14) (nm.n 3) (gwEl g cx e (nm.n 0) (nm.n 12) (nm.n 3) (nm.sub 0))] (n + 4 + 2 + 2)).2 + 11<=a.tmps.size:=by rw [qx_] at hn2;exact hn2
 have hup:=hupB (n + 4 + 2 + 2)
 show NWP P (gScope ([zg_ cx.s (nm.n 0) (nm.n 1) (nm.n 2) (nm.n 3),gwUv g t,ji_ (nm.n 4) (.bool false),qu_ 2 fun n=>[mk (some n) (.move (tm 1)),bi (some (n + 1)) .len [tm n] [g.tSl] g.tInt,mk (some (nm.n 5)) (.assign (tm (n + 1)))]] ++
  (q3_ (.label (nm.n 6)) :: ([gwLen g cx nul (nm.n 0) (nm.n 3),gwFor g (nm.n 0) (nm.n 12) (nm.n 13) (nm.n 14) (nm.n 3) (gwEl g cx e (nm.n 0) (nm.n 12) (nm.n 3) (nm.sub 0))]++[zs_ g (nm.n 4) (nm.n 5) (nm.n 6) (nm.n 9)]))) n).1 (Rt K E) a w
 refine s_scope (fun c hc=>?_) (by simp [gL]) ?_
 ·simp only [gL,zg_,gwUv,ji_,qu_,rg,List.mem_cons,List.not_mem_nil,or_false] at hc
  rcases hc with rfl | rfl | rfl | rfl <;> rfl
 show LW P (zg_ cx.s (nm.n 0) (nm.n 1) (nm.n 2) (nm.n 3) :: gwUv g t :: ([ji_ (nm.n 4) (.bool false),qu_ 2 fun n=>[mk (some n) (.move (tm 1)),bi (some (n + 1)) .len [tm n] [g.tSl] g.tInt,mk (some (nm.n 5)) (.assign (tm (n + 1)))],q3_ (.label (nm.n 6))] ++
  ([gwLen g cx nul (nm.n 0) (nm.n 3),gwFor g (nm.n 0) (nm.n 12) (nm.n 13) (nm.n 14) (nm.n 3) (gwEl g cx e (nm.n 0) (nm.n 12) (nm.n 3) (nm.sub 0))]++[zs_ g (nm.n 4) (nm.n 5) (nm.n 6) (nm.n 9)]))) n _ a w
 refine qc_ (s_load (x:=nm.n 0) (m:=m) (k0:=k0) hw.ss (fldB_ok hfld) hcell (.inl rfl) hle hk (by omega) (by omega) fun a1 hp1 hg1=>?_)
 have hs1:=hp1.size
 have hp1':=hp1.x1 ⟨hsl.1,by omega⟩
 have h11:a1.get 1=d:=(hp1.g1 ⟨hsl.1,by omega⟩ h1m).trans hw.s1
 refine qc_ (s_uv (m:=m) K0 hfl ht h11 hw.dst hw.Lw (by omega) hle (by show k0<=n + 4;omega) h1m (by show n + 4 + 2<=_;omega) fun a2 w2 d2 hp2 h12 hg2=>?_)
 have hs2:=hp2.size
 have hp02:Pv 1 m k0 n a a2:=hp1'.trans (hp2.mono hle (by show n<=n + 4;omega))
 have hv2:a2.get (nm.n 0)=.slice base len c:=(hp2.get _ (by omega) (.inl (by omega))).trans hg1
 have hL2:=Nat.le_trans hw.Lw hg2.keeps.size
 show LW P _ (n + 4 + 2) _ a2 w2
 refine s_sized K0 hfl (k0:=k0) (m0:=nm.n 0 + 1) (mB:=nm.n 12) (enc:=jl_ true ver (.list nul sz e) v) h12 hg2.dst hL2 (by rw [List.length_append];omega) (by omega) (by omega) (by omega) (by omega) hupB (by rw [hs2,hs1];exact hn2) (fun a3 w3 d3 bs3 K3 hS3 h13 hg3' hlim3 h3=>?_) fun a3 w3 d3 hS3 h13 hg3=>h a3 w3 d3 ?_ h13 ?_
 ·have hs3:=hS3.size
  have hd3:=hg3'.dst
  have hk3:=Gr.far hg2.dst hg3'
  have hfar:Keeps (fun k=>L<=k) w w3:=(Gr.far hw.dst hg2).trans hk3
  have hw2:=hw.step hc hp02 h12 hg2
  have hge:∀ q,q < m->q ≠ 1->a3.get q=a2.get q:=fun q hq hq1=>hS3.get q hq1 (by omega) (.inl (by omega))
  have hw3:WC cx true ver te L B O d3 bs3 a3 w3:=⟨hd3,h13,by rw [hge _ hc.s.1 hc.s.2];exact hw2.ss,by rw [hge _ hc.ver.1 hc.ver.2];exact hw2.sv,fun hf=>by rw [hge _ hc.fx.1 hc.fx.2];exact hw2.sf hf,hw2.nf,hw2.BL,Nat.le_trans hL2 hk3.size⟩
  exact wlist_slot K0 he (m:=nm.n 12) (by omega) (rowOf_ok hro) hokE (fun hs=>by rcases hnl with hh | hh;rw [hs] at hh;cases hh;exact hh) (fun h=>hhl.resolve_left h) hw3 (hc.mono (by omega) (by omega)) (fun _=>hfl) (by omega) (by omega) (by rw [hs3,hs2,hs1];omega) ((hS3.get _ (by omega) (by omega) (.inl (by omega))).trans hv2) hlen hmax hbase (fun i x hx=>by
   obtain ⟨p,q,e1,e2,e3⟩:=hels i x hx
   exact ⟨p,q,e1,e2,Rp.keep hfar e3 (by omega) (by have:=hw.Lw;omega)⟩) hlim3 fun a4 w4 d4 hp4 h14 hg4=>h3 a4 w4 d4 hp4 h14 hg4
 ·exact hp02.trans ⟨hS3.size,hS3.defers,fun i hi hi2=>hS3.get i hi (by omega) (by omega)⟩
 ·have:=hg2.trans hg3
  simpa [wTag,List.append_assoc] using this
theorem wr_len {w:World} {X:Nat->Prop} {p:Prim} {cs:List Value} {v:V} (hp:pinB p=true) (_h:LRp w X (.prim p) cs v):((js_ p).wr v).length=primSz p:=by
 cases p <;> first | (exact absurd hp (by decide)) | rfl
theorem body_prim (K0:KW P g av fl nl te) (p:Prim):WrBody P g av fl nl te (.prim p):=by
 by_cases hpu:p=.uuid
 ·subst hpu;exact body_uuid K0
 intro nm cx ver B O L m k0 n T off t v d bs K E a w hoky hhf ht hw hc hfl hk hk0 hn hr hlim h
 simp only [okBodyW,if_neg hpu,Bool.and_eq_true,beq_iff_eq] at hoky
 obtain ⟨⟨⟨hpin,hleaf⟩,hT⟩,hfld⟩:=hoky
 subst hT
 obtain ⟨hwl,hv0,hvk⟩:=wlOk_of hleaf
 have hle:=hc.le
 have h1m:=hc.one
 have hnu:isUuid (.prim p)=false:=by cases p <;> first | rfl | cases hpin
 have hagg:Ty.agg (.prim p)=false/\Ty.sz (.prim p)=1:=by cases p <;> first | exact ⟨rfl,rfl⟩ | cases hpin
 have hcode:jc_ g cx (.prim p) (nm.n 0) []=[jm_ (g.ap (js_ p)) (nm.n 0)]:=by cases p <;> first | rfl | cases hpin
 have hupl:=jv_ g cx (.prim p) (nm.n 0) []
 have hget:gwGet (.prim p) cx.s (nm.n 0) (nm.n 1) (nm.n 2) (nm.n 3)=zg_ cx.s (nm.n 0) (nm.n 1) (nm.n 2) (nm.n 3):=by unfold gwGet;rw [hnu];rfl
 obtain ⟨cs,hcs,hl⟩:=hr
 obtain ⟨y,rfl⟩:∃ y,cs=[y]:=by
  have:=hl.len
  rw [hagg.2] at this
  exact List.length_eq_one_iff.1 this
 have henc:(jl_ true ver (.prim p) v).length=primSz p:=by
  simp only [jl_,zr_]
  exact wr_len hpin hl
 have hwt:(wTag (t,jl_ true ver (.prim p) v)).length=(uvar t).length + ((uvar (w32 (primSz p))).length + primSz p):=by simp [wTag,henc]
 have hw32:w32 (primSz p)=primSz p:=by cases p <;> rfl
 have hps:primSz p < 4294967296:=by cases p <;> decide
 rw [hwt,hw32] at hlim
 have hn2:(gL (jc_ g cx (.prim p) (nm.n 0) []) (n + 4 + 2 + 2)).2<=a.tmps.size:=by
  have:(gwGet (.prim p) cx.s (nm.n 0) (nm.n 1) (nm.n 2) (nm.n 3) n).2=n + 4:=by rw [hget];rfl
  have hh:(gL (jc_ g cx (.prim p) (nm.n 0) []) ((gwGet (.prim p) cx.s (nm.n 0) (nm.n 1) (nm.n 2) (nm.n 3) n).2 + 2 + 2)).2<=a.tmps.size:=hn
  rw [this] at hh
  exact hh
 have hu:=hupl (n + 4 + 2 + 2)
 show NWP P (gS (gwGet (.prim p) cx.s (nm.n 0) (nm.n 1) (nm.n 2) (nm.n 3) :: gwUv g t :: gwUv g (primSz p) :: jc_ g cx (.prim p) (nm.n 0) []) n).1 (Rt K E) a w
 rw [hget]
 refine q2_ (qc_ (s_load (x:=nm.n 0) (m:=m) (k0:=k0) hw.ss (fldB_ok hfld) (hcs 0 y rfl) (.inl rfl) hle hk (by omega) (by omega) fun a1 hp1 hg1=>?_))
 have hs1:=hp1.size
 have hp1':=hp1.x1 ⟨hv0,hvk⟩
 have h11:a1.get 1=d:=(hp1.g1 ⟨hv0,hvk⟩ h1m).trans hw.s1
 refine qc_ (s_uv (m:=m) K0 hfl ht h11 hw.dst hw.Lw (by omega) hle (by show k0<=n + 4;omega) h1m (by show n + 4 + 2<=_;omega) fun a2 w2 d2 hp2 h12 hg2=>?_)
 have hs2:=hp2.size
 have hL2:=Nat.le_trans hw.Lw hg2.keeps.size
 refine qc_ (s_uv (m:=m) K0 hfl hps h12 hg2.dst hL2 (by rw [List.length_append];omega) hle (by show k0<=n + 4 + 2;omega) h1m (by show n + 4 + 2 + 2<=_;omega) fun a3 w3 d3 hp3 h13 hg3=>?_)
 have hs3:=hp3.size
 have hg03:=hg2.trans hg3
 have hp03:Pv 1 m k0 n a a3:=(hp1'.trans (hp2.mono hle (by show n<=n + 4;omega))).trans (hp3.mono hle (by show n<=n + 4 + 2;omega))
 have hv3:a3.get (nm.n 0)=y:=by rw [hp3.get _ (by omega) (.inl (by omega)),hp2.get _ (by omega) (.inl (by omega))];exact hg1
 have hw3:=hw.step hc hp03 h13 hg03
 have e:jc_ g cx (.prim p) (nm.n 0) []=jc_ g cx (.prim p) (nm.n 0) []++[]:=(List.append_nil _).symm
 rw [e]
 refine s_wleaf K0 hwl hw3 hc (by show k0<=n + 4 + 2 + 2;omega) (by omega) (by rw [hs3,hs2,hs1];exact hn2) (by simp only [LeafAt,hnu,Bool.false_eq_true,if_false];exact ⟨y,hv3,rfl⟩) (hl.keep (Gr.far hw.dst hg03)) ?_ fun a' w' d' hp' h1' hg'=>q0_ (h a' w' d' (hp03.trans (hp'.mono (Nat.le_refl _) (by show n<=n + 4 + 2 + 2;omega))) h1' ?_)
 ·have:=wr_len hpin hl
  simp only [zr_,List.length_append]
  omega
 ·have:=hg03.trans hg'
  simp only [zr_] at this
  simp only [wTag,jl_,zr_,wr_len hpin hl,hw32]
  simpa [List.append_assoc] using this
theorem body_str (K0:KW P g av fl nl te) (nul:Option Nat):WrBody P g av fl nl te (.str nul):=by
 intro nm cx ver B O L m k0 n T off t v d bs K E a w hoky hhf ht hw hc hfl hk hk0 hn hr hlim h
 simp only [okBodyW,Bool.and_eq_true,decide_eq_true_eq,beq_iff_eq] at hoky
 obtain ⟨⟨⟨hsl,hwl⟩,hT⟩,hfld⟩:=hoky
 subst hT
 have hle:=hc.le
 have h1m:=hc.one
 obtain ⟨cs,hcs,hl⟩:=hr
 obtain ⟨y,rfl⟩:∃ y,cs=[y]:=List.length_eq_one_iff.1 hl.len
 have hwt:(wTag (t,jl_ true ver (.str nul) v)).length=(uvar t).length + ((uvar (w32 (jl_ true ver (.str nul) v).length)).length + (jl_ true ver (.str nul) v).length):=by simp [wTag]
 rw [hwt] at hlim
 have hupB:UpL (jc_ g cx (.str nul) (nm.n 0) []):=jv_ _ _ _ _ _
 have hn2:(gL (jc_ g cx (.str nul) (nm.n 0) []++[zs_ g (nm.n 4) (nm.n 5) (nm.n 6) (nm.n 9)]) (n + 4 + 2 + 2)).2<=a.tmps.size:=by
  have hh:(gL ([zg_ cx.s (nm.n 0) (nm.n 1) (nm.n 2) (nm.n 3),gwUv g t]++gwSz g (nm.n 4) (nm.n 5) (nm.n 6)++jc_ g cx (.str nul) (nm.n 0) []++[zs_ g (nm.n 4) (nm.n 5) (nm.n 6) (nm.n 9)]) n).2<=a.tmps.size:=hn
  rw [List.append_assoc,qx_] at hh
  exact hh
 have hn3:(gL (jc_ g cx (.str nul) (nm.n 0) []) (n + 4 + 2 + 2)).2 + 11<=a.tmps.size:=by rw [qx_] at hn2;exact hn2
 have hup:=hupB (n + 4 + 2 + 2)
 have hcode:gwBody g cx t (.str nul) nm=gScope ([zg_ cx.s (nm.n 0) (nm.n 1) (nm.n 2) (nm.n 3),gwUv g t,ji_ (nm.n 4) (.bool false),qu_ 2 fun n=>[mk (some n) (.move (tm 1)),bi (some (n + 1)) .len [tm n] [g.tSl] g.tInt,mk (some (nm.n 5)) (.assign (tm (n + 1)))]] ++
  (q3_ (.label (nm.n 6)) :: (jc_ g cx (.str nul) (nm.n 0) []++[zs_ g (nm.n 4) (nm.n 5) (nm.n 6) (nm.n 9)]))):=by
  simp only [gwBody,gwSz,List.cons_append,List.nil_append]
 rw [hcode]
 refine s_scope (fun c hc=>?_) ?_ ?_
 ·simp only [gL,zg_,gwUv,ji_,qu_,rg,List.mem_cons,List.not_mem_nil,or_false] at hc
  rcases hc with rfl | rfl | rfl | rfl <;> rfl
 ·rw [qx_]
  simp [gL]
 show LW P (zg_ cx.s (nm.n 0) (nm.n 1) (nm.n 2) (nm.n 3) :: gwUv g t :: ([ji_ (nm.n 4) (.bool false),qu_ 2 fun n=>[mk (some n) (.move (tm 1)),bi (some (n + 1)) .len [tm n] [g.tSl] g.tInt,mk (some (nm.n 5)) (.assign (tm (n + 1)))],q3_ (.label (nm.n 6))] ++
  (jc_ g cx (.str nul) (nm.n 0) []++[zs_ g (nm.n 4) (nm.n 5) (nm.n 6) (nm.n 9)]))) n _ a w
 refine qc_ (s_load (x:=nm.n 0) (m:=m) (k0:=k0) hw.ss (fldB_ok hfld) (hcs 0 y rfl) (.inl rfl) hle hk (by omega) (by omega) fun a1 hp1 hg1=>?_)
 have hs1:=hp1.size
 have hp1':=hp1.x1 ⟨hsl.1,by omega⟩
 have h11:a1.get 1=d:=(hp1.g1 ⟨hsl.1,by omega⟩ h1m).trans hw.s1
 refine qc_ (s_uv (m:=m) K0 hfl ht h11 hw.dst hw.Lw (by omega) hle (by show k0<=n + 4;omega) h1m (by show n + 4 + 2<=_;omega) fun a2 w2 d2 hp2 h12 hg2=>?_)
 have hs2:=hp2.size
 have hp02:Pv 1 m k0 n a a2:=hp1'.trans (hp2.mono hle (by show n<=n + 4;omega))
 have hv2:a2.get (nm.n 0)=y:=(hp2.get _ (by omega) (.inl (by omega))).trans hg1
 have hL2:=Nat.le_trans hw.Lw hg2.keeps.size
 show LW P _ (n + 4 + 2) _ a2 w2
 refine s_sized K0 hfl (k0:=k0) (m0:=nm.n 0 + 1) (mB:=max (nm.n 4) (nm.n 5) + 1) (enc:=jl_ true ver (.str nul) v) h12 hg2.dst hL2 (by rw [List.length_append];omega) (by omega) (by omega) (by omega) (by omega) hupB (by rw [hs2,hs1];exact hn2) (fun a3 w3 d3 bs3 K3 hS3 h13 hg3' hlim3 h3=>?_) fun a3 w3 d3 hS3 h13 hg3=>h a3 w3 d3 ?_ h13 ?_
 ·have hs3:=hS3.size
  have hd3:=hg3'.dst
  have hk3:=Gr.far hg2.dst hg3'
  have hfar:Keeps (fun k=>L<=k) w w3:=(Gr.far hw.dst hg2).trans hk3
  have hw2:=hw.step hc hp02 h12 hg2
  have hge:∀ q,q < m->q ≠ 1->a3.get q=a2.get q:=fun q hq hq1=>hS3.get q hq1 (by omega) (.inl (by omega))
  have hw3:WC cx true ver te L B O d3 bs3 a3 w3:=⟨hd3,h13,by rw [hge _ hc.s.1 hc.s.2];exact hw2.ss,by rw [hge _ hc.ver.1 hc.ver.2];exact hw2.sv,fun hf=>by rw [hge _ hc.fx.1 hc.fx.2];exact hw2.sf hf,hw2.nf,hw2.BL,Nat.le_trans hL2 hk3.size⟩
  have e:jc_ g cx (.str nul) (nm.n 0) []=jc_ g cx (.str nul) (nm.n 0) []++[]:=(List.append_nil _).symm
  rw [e]
  have hwr:jl_ true ver (.str nul) v=(zr_ true ver (.str nul)).wr v:=by simp only [jl_]
  rw [hwr] at hlim3 h3
  exact s_wleaf K0 hwl hw3 (hc.mono (by omega) (by omega)) (by omega) (by omega) (by rw [hs3,hs2,hs1];omega) ⟨y,(hS3.get _ (by omega) (by omega) (.inl (by omega))).trans hv2,rfl⟩ (hl.keep hfar) hlim3 fun a4 w4 d4 hp4 h14 hg4=>q0_ (h3 a4 w4 d4 hp4 h14 hg4)
 ·exact hp02.trans ⟨hS3.size,hS3.defers,fun i hi hi2=>hS3.get i hi (by omega) (by omega)⟩
 ·have:=hg2.trans hg3
  simpa [wTag,List.append_assoc] using this
theorem s_cases {cx:Cx} {ver:Int} {B O L m k0 T key t:Nat} {enc:Bs} {d:Value} {bs:Bs} {K E:Act->World->Prop} (hhf:cx.hf=true) (hfl:fl=true) (hkm:m<=key):∀ (fs:Fds) (ms:List Nm) (vs:List V) (n:Nat) (a:Act) (w:World),WrTagd P g av fl nl te fs->okTagdW ⟨P,g,av,nl⟩ cx.hf m k0 T fs ms=true->okCondsW P av g T fs ms=true->fs.tagsOf.Nodup->(t,enc) ∈ wrTgd true ver fs vs ->
  WC cx true ver te L B O d bs a w->CxW cx m k0->a.get key=.int .u32 (t:Int)->key < n->k0<=key->k0<=a.tmps.size->(jx_ g key (gwTagd g cx fs ms) n).2<=a.tmps.size->RpF w (fun k=>L<=k) fs B O vs->bs.length + (wTag (t,enc)).length<=LIM ->
  (∀ a' w' d',Pv 1 m k0 n a a'->a'.get 1=d'->Gr L te d w d' (bs++wTag (t,enc)) w'->K a' w')->NWP P (jx_ g key (gwTagd g cx fs ms) n).1 (Rt K E) a w
 | .nil,ms,vs,n,a,w,_,_,_,_,hmem,_,_,_,_,_,_,_,_,_,_=>by simp [wrTgd] at hmem
 | .cons lo hi tag df off ty r,ms,vs,n,a,w,hb,hok,hcd,hnd,hmem,hw,hc,hkey,hkn,hkk,hk0,hn,hr,hlim,h=>by
  obtain ⟨x,vs',rfl,hx,hrs⟩:=hr
  simp only [okTagdW,Bool.and_eq_true,Bool.or_eq_true] at hok
  simp only [okCondsW,Bool.and_eq_true] at hcd
  cases tag with
  | none=>
   have e1:gwTagd g cx (.cons lo hi none df off ty r) ms=gwTagd g cx r ms.tail:=by simp only [gwTagd]
   have e2:wrTgd true ver (.cons lo hi none df off ty r) (x :: vs')=wrTgd true ver r vs':=by simp only [wrTgd,List.nil_append,List.tail_cons]
   rw [e1] at hn ⊢
   rw [e2] at hmem
   exact s_cases hhf hfl hkm r ms.tail vs' n a w hb.2 hok.2 hcd.2 (by simpa [Fds.tagsOf] using hnd) hmem hw hc hkey hkn hkk hk0 hn hrs hlim h
  | some q=>
   simp only [Bool.and_eq_true,decide_eq_true_eq] at hcd
   have hoky:=hok.1.resolve_left (by simp)
   have e1:gwTagd g cx (.cons lo hi (some q) df off ty r) ms=(q,gwBody g cx q ty (ms.headD (.mk [] []))) :: gwTagd g cx r ms.tail:=by simp only [gwTagd]
   have e2:wrTgd true ver (.cons lo hi (some q) df off ty r) (x :: vs')=(if isDf ty df x then [] else [(q,jl_ true ver ty x)])++wrTgd true ver r vs':=by simp only [wrTgd,List.headD_cons,List.tail_cons];rfl
   have hnd':q ∉ r.tagsOf/\r.tagsOf.Nodup:=by simpa [Fds.tagsOf] using hnd
   have hkeys:∀ y ∈ wrTgd true ver r vs',y.1 ∈ r.tagsOf:=fun y hy=>wrTgd_mem true ver r vs' y hy
   rw [e1] at hn ⊢
   rw [e2,List.mem_append] at hmem
   have hup1:=up_wbody g ty cx q (ms.headD (.mk [] [])) (n + 2)
   have hup2:=up_wcases g key (gwTagd g cx r ms.tail) (up_wtagd g r cx ms.tail) (gwBody g cx q ty (ms.headD (.mk [] [])) (n + 2)).2
   have hn1:(jx_ g key (gwTagd g cx r ms.tail) (gwBody g cx q ty (ms.headD (.mk [] [])) (n + 2)).2).2<=a.tmps.size:=hn
   have hle:=hc.le
   have h1m:=hc.one
   have wcOf:∀ a',Pv key m k0 n a a'->(∀ i,i < n->a'.get i=a.get i)->WC cx true ver te L B O d bs a' w:=fun a' hp hlow=>⟨hw.dst,by rw [hlow 1 (by omega)];exact hw.s1,by rw [hlow _ (by have:=hc.s;omega)];exact hw.ss,by rw [hlow _ (by have:=hc.ver;omega)];exact hw.sv,fun hf=>by rw [hlow _ (by have:=hc.fx;omega)];exact hw.sf hf,hw.nf,hw.BL,hw.Lw⟩
   have pvOf:∀ a',Pv key m k0 n a a'->(∀ i,i < n->a'.get i=a.get i)->Pv 1 m k0 n a a':=fun a' hp hlow=>⟨hp.size,hp.defers,fun i _ hi=>hlow i (by omega)⟩
   refine s_wcase (x:=key) (m:=m) (k0:=k0) hkey hkn hle (by omega) (by omega) (fun hkt a1 hp1 hlow=>?_) (fun hkt a1 hp1 hlow=>?_)
   ·subst hkt
    have hs1:=hp1.size
    have hme:isDf ty df x=false/\enc=jl_ true ver ty x:=by
     rcases hmem with hm | hm
     ·split at hm
      ·simp at hm
      ·rename_i hdf
       simp only [List.mem_singleton,Prod.mk.injEq] at hm
       exact ⟨by simpa using hdf,hm.2⟩
     ·exact absurd (hkeys _ hm) hnd'.1
    obtain ⟨_,rfl⟩:=hme
    exact hb.1 (ms.headD (.mk [] [])) cx ver B O L m k0 (n + 2) T off t x d bs K E a1 w hoky hhf hcd.1.1 (wcOf a1 hp1 hlow) hc hfl (by omega) (by omega) (by omega) hx hlim fun a' w' d' hp' h1' hg'=>h a' w' d' ((pvOf a1 hp1 hlow).trans (hp'.mono (Nat.le_refl _) (by omega))) h1' hg'
   ·have hs1:=hp1.size
    have hm:(t,enc) ∈ wrTgd true ver r vs':=by
     rcases hmem with hm | hm
     ·split at hm
      ·simp at hm
      ·simp only [List.mem_singleton,Prod.mk.injEq] at hm
       exact absurd hm.1 hkt
     ·exact hm
    exact s_cases hhf hfl hkm r ms.tail vs' _ a1 w hb.2 hok.2 hcd.2 hnd'.2 hm (wcOf a1 hp1 hlow) hc ((hlow key hkn).trans hkey) (by omega) hkk (by omega) (by omega) hrs hlim fun a' w' d' hp' h1' hg'=>h a' w' d' ((pvOf a1 hp1 hlow).trans (hp'.mono (Nat.le_refl _) (by omega))) h1' hg'
theorem s_wtagEach (K0:KW P g av fl nl te) (hfl:fl=true) {s TT kt o F sz B O L k0 n:Nat} {agg:Bool} {mm:Value} {t:List (Nat × Bs)} {d:Value} {bs:Bs} {K:Act->World->Prop} {Q:Exit->Act->World->Prop} {a:Act} {w:World} (hss:a.get s=pt B O) (hF:zj_ P TT kt F o agg sz) (hmm:w.cell? ⟨B,O + o,none⟩=some mm) (hBL:B < w.heap.size/\d.ownBlock ≠ some B) (htg:TgRp w (fun k=>L<=k) mm t)
  (h1:a.get 1=d) (hd:jh_ w L te d bs) (hL:L<=w.heap.size) (hlim:bs.length + (qz_ t).length<=LIM) (h1m:1 < k0) (hk:k0<=n) (hn:n + 5<=a.tmps.size)
  (h:∀ a' w' d',Pv 1 k0 k0 n a a'->a'.get 1=d'->Gr L te d w d' (bs++qz_ t) w'->K a' w'):NWP P (xj_ g s TT kt n).1 (Exit.then K Q) a w:=by
 refine qj_ (qd_ ?_)
 rw [qb_,hss]
 refine qp_ (by rw [qb_,gpe (by omega)];rfl) ?_
 refine ju_ (by rw [qb_,gpe (by simp only [qa_];omega)]) hF (qd_ ?_)
 rw [qb_,gpo (by omega),gpo (by omega),gpo (by omega),h1]
 refine qv_ (vs:=#[pt B (O + o),d]) (K0.teE hfl) ?_ (K0.teC hfl w B (O + o) mm L t d _ hmm hBL htg hd hL hlim) fun e4 w4 hR4=>?_
 ·simp only [List.map_cons,List.map_nil,qb_]
  rw [gpo (by omega),gpe (by simp only [qa_];omega),gpe (by simp only [qa_];omega)]
  rfl
 obtain ⟨d4,he4,hg4⟩:=hR4
 refine ⟨d4,he4,qg_ (wpList_nil (h _ w4 d4 ?_ ?_ hg4))⟩
 ·exact ((((((Pv.refl _ _ _ _ _).put _ (by omega)).put _ (by omega)).put _ (by omega)).put _ (by omega)).put _ (by omega)).put _ (.inl rfl)
 ·rw [gpe (by simp only [qa_];omega),qb_,gpe (by simp only [qa_];omega)]
theorem jr_ (x:Nat):0 < (uvar x).length:=by
 show 0 < (uvarAux (8 + 1) x).length
 simp only [uvarAux]
 split <;> simp
theorem wTags_ge:∀ t:List (Nat × Bs),t.length<=(qz_ t).length
 | []=>Nat.le_refl _
 | p :: t=>by
  have:=wTags_ge t
  have:=jr_ p.1
  simp only [qz_,List.map_cons,List.flatten_cons,List.length_append,List.length_cons,wTag] at *
  omega
theorem w_tail (K0:KW P g av fl nl te) {fs:Fds} (hb:WrTagd P g av fl nl te fs):WrTail P g av fl nl te fs:=by
 intro nm cx fx ver B O L m k0 n T kt toff vs t d bs K E a w hok hw hc hfl hk hk0 hn hr ht hlim h
 simp only [okTailW,Bool.and_eq_true,Bool.or_eq_true,Bool.not_eq_true',decide_eq_true_eq] at hok
 obtain ⟨hst,hok⟩:=hok
 have hle:=hc.le
 have h1m:=hc.one
 cases htg:fs.tagged with
 | false=>
  have e:jj_ g cx fs T kt nm=gwTags g cx T kt:=by simp [jj_,gwTailK,htg]
  have e2:zy_ fx (wrTgd fx ver fs vs) t=jn_ fx t:=by rw [wrTgd_plain fx ver fs vs htg,wTail_nil]
  rw [e] at hn ⊢
  rw [e2] at hlim h
  have e3:gwTags g cx T kt=gwTags g cx T kt++[]:=(List.append_nil _).symm
  rw [e3]
  refine s_wtags (_off:=0) (F:=fldT P T kt) (sz:=1) (agg:=true) K0 hfl hw hc hk hn ?_ ht hlim fun a' w' d' hp' h1' hg'=>q0_ (h a' w' d' hp' h1' hg')
  cases toff with
  | none=>simpa [okStW] using hst
  | some o=>
   simp only [okStW,Bool.and_eq_true] at hst
   exact ⟨hst.1,fldB_ok hst.2⟩
 | true=>
  obtain ⟨⟨⟨⟨hsl,hteB⟩,hcds⟩,hnd⟩,hbok⟩:=hok.resolve_left (by rw [htg];simp)
  cases toff with
  | none=>
   have hf:cx.hf=false:=by simpa [okStW] using hst
   have hfx:=hw.nf hf
   subst hfx
   have e:jj_ g cx fs T kt nm=[]:=by simp [jj_,gwTailK,htg,hf]
   rw [e]
   exact q0_ (h a w d (Pv.refl _ _ _ _ _) hw.s1 (by simpa [zy_] using Gr.refl hw.dst))
  | some o=>
  simp only [okStW,Bool.and_eq_true] at hst
  have hf:=hst.1
  have hF:=fldB_ok hst.2
  have hfl':=hfl hf
  have T':=teB_ok hteB
  obtain ⟨mm,hmm,htgr⟩:=ht
  have hsm:=hc.s
  have e:jj_ g cx fs T kt nm=[gFx cx (gS (ji_ (nm.n 0) (.slice none 0 0) :: (zf_ g cx.s (nm.n 0) (nm.n 1) fs nm.s++[gwCount g cx.s T kt (nm.n 0) (nm.n 1),gwTagFor g (nm.n 0) (nm.n 1) (nm.n 2) (nm.n 3) (nm.n 4) (nm.n 5) (gwTagd g cx fs nm.s),xj_ g cx.s T kt]))) jk_]:=by
   simp [jj_,gwTailK,htg,hf]
  rw [e] at hn ⊢
  have hn0:(gL (zf_ g cx.s (nm.n 0) (nm.n 1) fs nm.s++[gwCount g cx.s T kt (nm.n 0) (nm.n 1),gwTagFor g (nm.n 0) (nm.n 1) (nm.n 2) (nm.n 3) (nm.n 4) (nm.n 5) (gwTagd g cx fs nm.s),xj_ g cx.s T kt]) (n + 1)).2<=a.tmps.size:=hn
  rw [qx_] at hn0
  have hupC:=upL_conds g cx.s (nm.n 0) (nm.n 1) fs nm.s (n + 1)
  generalize hnc:(gL (zf_ g cx.s (nm.n 0) (nm.n 1) fs nm.s) (n + 1)).2=nc at hn0 hupC
  have hn1:(jx_ g (nc + 10 + 6) (gwTagd g cx fs nm.s) (nc + 10 + 7)).2 + 1 + 5<=a.tmps.size:=hn0
  have hupK:=up_wcases g (nc + 10 + 6) (gwTagd g cx fs nm.s) (up_wtagd g fs cx nm.s) (nc + 10 + 7)
  refine qc_ (s_fx (x:=n) (m:=m) (k0:=k0) (hw.sf hf) hle hk (by omega) fun a1 hp1=>?_)
  have hp1':Pv 1 m k0 n a a1:=⟨hp1.size,hp1.defers,fun s hs hs2=>hp1.get s (by omega) hs2⟩
  have hs1:=hp1.size
  have hg1:a1.get 1=d:=by rw [hp1.get 1 (by omega) (.inl h1m)];exact hw.s1
  have hss:a1.get cx.s=pt B O:=by rw [hp1.get _ (by omega) (.inl hsm.1)];exact hw.ss
  cases fx with
  | false=>
   simp only [Bool.false_eq_true,if_false]
   exact .skip (q0_ (h a1 w d hp1' hg1 (by simpa [zy_] using Gr.refl hw.dst)))
  | true=>
   simp only [if_true]
   have hks:=wrTgd_keys true ver fs vs
   have hkl:(wrTgd true ver fs vs).length=(wrKs fs vs).length:=by rw [<- hks,List.length_map]
   have hkn:=wrKs_len fs vs
   have hwl:(zy_ true (wrTgd true ver fs vs) t).length=(uvar (w32 ((wrKs fs vs).length + t.length))).length + ((qz_ (wrTgd true ver fs vs)).length + (qz_ t).length):=by simp [zy_,hkl]
   rw [hwl] at hlim
   have htl:=wTags_ge t
   refine q2_ (qc_ (qj_ (qg_ (wpList_nil ?_))))
   show LW P _ (n + 1) _ (a1.put (some (nm.n 0)) (.slice none 0 0)) w
   have g21:(a1.put (some (nm.n 0)) (.slice none 0 0)).get 1=d:=by rw [gpo (by omega)];exact hg1
   have g2s:(a1.put (some (nm.n 0)) (.slice none 0 0)).get cx.s=pt B O:=by rw [gpo (by omega)];exact hss
   have g2q:(a1.put (some (nm.n 0)) (.slice none 0 0)).get (nm.n 0)=.slice none 0 0:=gpe (by omega)
   have hp2:Pv 1 m k0 n a (a1.put (some (nm.n 0)) (.slice none 0 0)):=hp1'.put _ (by omega)
   generalize a1.put (some (nm.n 0)) (.slice none 0 0)=a2 at g21 g2s g2q hp2 ⊢
   have hs2:=hp2.size
   refine s_conds K0 (te:=nm.n 0) (m:=m) (k0:=k0) (TT:=T) (B:=B) (O:=O) (L:=L) T' K0.dInt ⟨hsl.1,by omega⟩ hsm.1 hle hw.BL fs nm.s vs (n + 1) (.slice none 0 0) [] a2 w hcds g2s g2q (.inl ⟨rfl,rfl⟩) hr hw.Lw (by simp;omega) (by omega) (by rw [hnc];omega) fun a3 w3 v3 hp3 ht3 hG3=>?_
   rw [List.nil_append] at hG3
   rw [hnc]
   have hs3:=hp3.size
   have hk3:Keeps (fun _=>False) w w3:=hG3.keeps.mono fun k _ hk=>by simp [Value.ownBlock] at hk
   have g31:a3.get 1=d:=by rw [hp3.get 1 (by omega) (.inl h1m)];exact g21
   have g3s:a3.get cx.s=pt B O:=by rw [hp3.get _ (by omega) (.inl hsm.1)];exact g2s
   have hp03:Pv 1 m k0 n a a3:=hp2.trans ⟨hp3.size,hp3.defers,fun i _ hi=>hp3.get i (by omega) (by omega)⟩
   have hd3:jh_ w3 L te d bs:=hw.dst.keep hk3 fun _ _ h=>h
   have hvd:∀ j,v3.ownBlock=some j->d.ownBlock ≠ some j:=fun j hj hdj=>by
    have h1:=(hw.dst.own hdj).2
    rcases hG3.own j hj with h2 | h2
    ·simp [Value.ownBlock] at h2
    ·omega
   have hL3:=Nat.le_trans hw.Lw hk3.size
   have hmm3:w3.cell? ⟨B,O + o,none⟩=some mm:=(hk3.mono (Y:=fun k=>L<=k) fun _ _ h=>h.elim).cell (by have:=hw.BL;omega) hmm
   have htg3:TgRp w3 (fun k=>L<=k) mm t:=htgr.keep (hk3.mono fun _ _ h=>h.elim)
   obtain ⟨base3,c3,hform3⟩:=hG3.at_.form
   refine qc_ (s_count K0 hfl' T' (k0:=k0) (q:=nm.n 0) (s:=cx.s) (cnt:=(wrKs fs vs).length) (c:=c3) (base:=base3) (by rw [ht3];exact hform3) g3s hF hmm3 htg3 (by simp only [LIM] at hlim;omega) (by omega) g31 hd3 hL3 (by omega) ⟨by omega,by omega⟩ (by omega) (by omega) (by omega) fun a4 w4 d4 hp4 h14 hg4=>?_)
   show LW P [gwTagFor g (nm.n 0) (nm.n 1) (nm.n 2) (nm.n 3) (nm.n 4) (nm.n 5) (gwTagd g cx fs nm.s),xj_ g cx.s T kt] (nc + 10) _ a4 w4
   have hs4:=hp4.size
   have hp04:Pv 1 m k0 n a a4:=hp03.trans (hp4.mono hle (by omega))
   have hg04:Gr L te d w d4 (bs++uvar (w32 ((wrKs fs vs).length + t.length))) w4:=Gr.pre hk3 (fun _ _ h=>h) hg4
   have hL4:=Nat.le_trans hw.Lw hg04.keeps.size
   have hv4:TeAt w4 L g.tU32 v3 (wrKs fs vs):=hG3.at_.keep hg4.keeps fun j hj hX=>hvd j hj hX
   have hvd4:∀ j,v3.ownBlock=some j->d4.ownBlock ≠ some j:=fun j hj hdj=>by
    rcases hg4.own j hdj with h2 | h2
    ·exact hvd j hj h2
    ·have:=(hG3.at_.own hj).2
     omega
   refine qc_ ?_
   rw [qr_,qr_]
   refine s_tagfor (m:=m) (k0:=k0) (tv:=nm.n 2) (n:=nc + 10) (L:=L) (es:=(wrTgd true ver fs vs).map wTag) K0.dInt T' ((hp4.get (nm.n 0) (by omega) (.inl (by omega))).trans ht3) hv4 hvd4 h14 hg04.dst (by omega) (by rw [List.length_map,hkl]) (by omega) ⟨by omega,hsl.2.2.1⟩ (by omega) (by omega) (by show (jx_ g (nc + 10 + 6) (gwTagd g cx fs nm.s) (nc + 10 + 7)).2 + 1<=_;omega) hupK (fun j k e a5 w5 d5 hkj hej hp5 hk5 h15 hg5=>?_) fun a5 w5 d5 hp5 h15 hg5=>?_
   ·have hs5:=hp5.size
    rw [List.getElem?_map,Option.map_eq_some_iff] at hej
    obtain ⟨⟨k',enc⟩,hp,rfl⟩:=hej
    have hkk:k=k':=by
     have:(wrKs fs vs)[j]?=some k':=by rw [<- hks,List.getElem?_map,hp];rfl
     rw [hkj] at this
     exact Option.some.inj this
    subst hkk
    have hp05:Pv 1 m k0 n a a5:=hp04.trans (hp5.mono (by omega) (by omega))
    have hg05:=hg04.trans hg5
    have hw5:=hw.step hc hp05 h15 hg05
    have hsum:(((wrTgd true ver fs vs).map wTag).take j).flatten.length + (wTag (k,enc)).length<=(qz_ (wrTgd true ver fs vs)).length:=by
     have hj:j < (wrTgd true ver fs vs).length:=(List.getElem?_eq_some_iff.1 hp).1
     have e1:qz_ (wrTgd true ver fs vs)=(((wrTgd true ver fs vs).map wTag).take (j + 1)).flatten++(((wrTgd true ver fs vs).map wTag).drop (j + 1)).flatten:=by rw [<- List.flatten_append,List.take_append_drop];rfl
     have e2:((wrTgd true ver fs vs).map wTag).take (j + 1)=((wrTgd true ver fs vs).map wTag).take j++[wTag (k,enc)]:=by rw [List.take_add_one,List.getElem?_map,hp];rfl
     rw [e1,e2]
     simp only [List.flatten_append,List.flatten_cons,List.flatten_nil,List.append_nil,List.length_append]
     omega
    exact s_cases hf hfl' (m:=nm.n 2 + 1) (key:=nc + 10 + 6) (T:=T) (by omega) fs nm.s vs (nc + 10 + 7) a5 w5 hb hbok hcds hnd (List.mem_of_getElem? hp) hw5 (hc.mono (by omega) (by omega)) hk5 (by omega) (by omega) (by omega) (by omega) (hr.far (Gr.far hw.dst hg05) hw.BL hw.Lw) (by simp only [List.length_append];omega) fun a6 w6 d6 hp6 h16 hg6=>⟨d6,hp6.mono (Nat.le_refl _) (by omega),h16,hg6⟩
   ·have hs5:=hp5.size
    have hp05:Pv 1 m k0 n a a5:=hp04.trans (hp5.mono (by omega) (by omega))
    have hg05:=hg04.trans hg5
    have hfar:=Gr.far hw.dst hg05
    refine qc_ (s_wtagEach K0 hfl' (k0:=k0) ((hp05.get _ hsm.2 (.inl hsm.1)).trans hw.ss) hF (hfar.cell (by have:=hw.BL;omega) hmm) (hg05.dst.away hw.BL (Nat.le_trans hw.Lw hg05.keeps.size)) (htgr.keep hfar) h15 hg05.dst (Nat.le_trans hw.Lw hg05.keeps.size) ?_ (by omega) (by show k0<=(jx_ g (nc + 10 + 6) (gwTagd g cx fs nm.s) (nc + 10 + 7)).2 + 1;omega) (by show (jx_ g (nc + 10 + 6) (gwTagd g cx fs nm.s) (nc + 10 + 7)).2 + 1 + 5<=_;omega) fun a6 w6 d6 hp6 h16 hg6=>q0_ (q0_ (h a6 w6 d6 (hp05.trans (hp6.mono hle (by show n<=(jx_ g (nc + 10 + 6) (gwTagd g cx fs nm.s) (nc + 10 + 7)).2 + 1;omega))) h16 ?_)))
    ·have:(((wrTgd true ver fs vs).map wTag).flatten).length=(qz_ (wrTgd true ver fs vs)).length:=rfl
     simp only [List.length_append,this]
     omega
    ·have:=hg05.trans hg6
     simpa [zy_,hkl,qz_,List.append_assoc] using this
mutual
theorem wr_ty (K0:KW P g av fl nl te):∀ ty:Ty,WrTy P g av fl nl te ty
 | .prim p=>wty_leaf K0 (ty:=.prim p) (x:=fun nm=>nm.l.drop 4) rfl (fun _ _=>rfl) (fun hf m k0 T off nm h=>by
   simp only [okTyW,Bool.and_eq_true,beq_iff_eq,Bool.or_eq_true] at h
   refine ⟨h.1.1.1,h.1.1.2,h.1.2,fun hu=>?_⟩
   obtain rfl:p=.uuid:=by cases p <;> first | rfl | cases hu
   rcases h.2 with h2 | h2
   ·cases h2
   ·have:=h.1.1.1
    simp only [z7_,wlOk,Bool.and_eq_true] at this
    exact ⟨h2,this.1.1.1.1⟩)
 | .str nul=>wty_leaf K0 (ty:=.str nul) (x:=fun nm=>nm.l.drop 4) rfl (fun _ _=>rfl) (fun hf m k0 T off nm h=>by
   simp only [okTyW,Bool.and_eq_true,beq_iff_eq] at h
   exact ⟨h.1.1,h.1.2,h.2,fun hu=>by cases hu⟩)
 | .bytes nul=>wty_leaf K0 (ty:=.bytes nul) (x:=fun _=>[]) rfl (fun _ _=>rfl) (fun hf m k0 T off nm h=>by
   simp only [okTyW,Bool.and_eq_true,beq_iff_eq] at h
   exact ⟨h.1.1,h.1.2,h.2,fun hu=>by cases hu⟩)
 | .list _ _ e=>wty_list K0 (wr_el K0 e)
 | .struct none _ fs=>wty_inl (wr_fds K0 fs) (w_tail K0 (wr_tagd K0 fs))
 | .struct (some _) _ fs=>wty_opt K0 (wr_fds K0 fs) (w_tail K0 (wr_tagd K0 fs))
theorem wr_el (K0:KW P g av fl nl te):∀ ty:Ty,WrEl P g av fl nl te ty
 | .prim p=>wel_leaf K0 (ty:=.prim p) rfl (fun _ _ _ _ _=>rfl) (fun hf m k0 E' esz nm h=>by
   simp only [okElW,Bool.and_eq_true,beq_iff_eq,Bool.or_eq_true] at h
   refine ⟨h.1.1.1.1,h.1.1.1.2,h.1.1.2,h.1.2,fun hu=>?_⟩
   obtain rfl:p=.uuid:=by cases p <;> first | rfl | cases hu
   rcases h.2 with h2 | h2
   ·cases h2
   ·have:=h.1.1.1.1
    simp only [z7_,wlOk,Bool.and_eq_true] at this
    exact ⟨h2,this.1.1.1.1⟩)
 | .str nul=>wel_leaf K0 (ty:=.str nul) rfl (fun _ _ _ _ _=>rfl) (fun hf m k0 E' esz nm h=>by
   simp only [okElW,Bool.and_eq_true,beq_iff_eq] at h
   exact ⟨h.1.1.1,h.1.1.2,h.1.2,h.2,fun hu=>by cases hu⟩)
 | .bytes nul=>wel_leaf K0 (ty:=.bytes nul) rfl (fun _ _ _ _ _=>rfl) (fun hf m k0 E' esz nm h=>by
   simp only [okElW,Bool.and_eq_true,beq_iff_eq] at h
   exact ⟨h.1.1.1,h.1.1.2,h.1.2,h.2,fun hu=>by cases hu⟩)
 | .list _ _ _=>fun _ _ _ _ _ _ _ _ _ _ _ _ _ _ _ _ _ _ _ _ _ _ _ _ _ _ _ h=>by simp [okElW] at h
 | .struct none _ fs=>wel_struct (wr_fds K0 fs) (w_tail K0 (wr_tagd K0 fs))
 | .struct (some _) _ _=>fun _ _ _ _ _ _ _ _ _ _ _ _ _ _ _ _ _ _ _ _ _ _ _ _ _ _ _ h=>by simp [okElW] at h
theorem wr_fds (K0:KW P g av fl nl te):∀ fs:Fds,WrFds P g av fl nl te fs
 | .nil=>wfds_nil
 | .cons _ _ _ _ _ ty r=>wfds_cons (wr_ty K0 ty) (wr_fds K0 r)
theorem wr_tagd (K0:KW P g av fl nl te):∀ fs:Fds,WrTagd P g av fl nl te fs
 | .nil=>trivial
 | .cons _ _ _ _ _ ty r=>⟨wr_body K0 ty,wr_tagd K0 r⟩
theorem wr_body (K0:KW P g av fl nl te):∀ ty:Ty,WrBody P g av fl nl te ty
 | .prim p=>body_prim K0 p
 | .str nul=>body_str K0 nul
 | .list _ _ e=>body_list K0 (wr_el K0 e)
 | .bytes _=>fun _ _ _ _ _ _ _ _ _ _ _ _ _ _ _ _ _ _ _ h=>by simp [okBodyW] at h
 | .struct none toff fs=>body_struct K0 toff fs
 | .struct (some _) _ _=>fun _ _ _ _ _ _ _ _ _ _ _ _ _ _ _ _ _ _ _ h=>by simp [okBodyW] at h
end
theorem wr_tail (K0:KW P g av fl nl te) (fs:Fds):WrTail P g av fl nl te fs:=w_tail K0 (wr_tagd K0 fs)
end
section
variable {P:Program} {K:Kn}
def ifaceB (P:Program) (T:Nat):Bool:=match P.underlying T with | some (.interface _)=>true | _=>false
theorem ifaceB_ok {T:Nat} (h:ifaceB P T=true):∃ ms,P.underlying T=some (.interface ms):=by
 unfold ifaceB at h
 split at h
 ·rename_i ms hms
  exact ⟨ms,hms⟩
 ·cases h
def twoB (P:Program) (T:Nat):Bool:=
 match P.underlying T with
 | some (.struct fs)=>(match fs.toList with | [f0,f1]=>f0.offset == 0 && f1.offset == 1 && varB P f0.type false 1 && varB P f1.type false 1 | _=>false)
 | _=>false
theorem twoB_ok {T:Nat} (h:twoB P T=true):∃ fs f0 f1,P.underlying T=some (.struct fs)/\fs.toList=[f0,f1]/\f0.offset=0/\f1.offset=1/\jp_ P f0.type false 1/\jp_ P f1.type false 1:=by
 unfold twoB at h
 split at h
 ·rename_i fs hfs
  split at h
  ·rename_i f0 f1 hl
   simp only [Bool.and_eq_true,beq_iff_eq] at h
   exact ⟨fs,f0,f1,hfs,hl,h.1.1.1,h.1.1.2,varB_ok h.1.2,varB_ok h.2⟩
  ·cases h
 ·cases h
def octB (P:Program) (S U:Nat):Bool:=
 (match P.underlying S with | some (.slice e)=>e == U | _=>false) && (match P.info? U with | some i=>(match i.zero with | some z=>i.size == 1 && i.bytes == 1 && z.cells.size == 1 | none=>false) | none=>false)
theorem octB_ok {S U:Nat} (h:octB P S U=true):OctT P S U:=by
 simp only [octB,Bool.and_eq_true] at h
 obtain ⟨h1,h2⟩:=h
 refine ⟨?_,?_⟩
 ·split at h1
  ·rename_i e he
   rw [he,beq_iff_eq.1 h1]
  ·cases h1
 ·split at h2
  ·rename_i i hi
   split at h2
   ·rename_i z hz
    simp only [Bool.and_eq_true,beq_iff_eq] at h2
    exact ⟨i,z,hi,hz,h2.1.1,h2.1.2,h2.2⟩
   ·cases h2
  ·cases h2
def oneF (P:Program) (T:Nat):Option Field:=match P.underlying T with | some (.struct fs)=>(match fs.toList with | [f]=>some f | _=>none) | _=>none
theorem oneF_ok {T:Nat} {f:Field} (h:oneF P T=some f):P.underlying T=some (.struct #[f]):=by
 unfold oneF at h
 split at h
 ·rename_i fs hfs
  split at h
  ·rename_i f' hl
   obtain rfl:=Option.some.inj h
   rw [hfs,<- hl]
  ·cases h
 ·cases h
def AppOk (P:Program) (te:Nat) (p:PF) (f:Nat):Prop:=
 Ent P f/\∀ (w:World) (L:Nat) (cs:List Value) (val:Value) (v:V),LRp w (fun k=>L<=k) (pfTy p) cs v->ValOf p cs val->ApL P te f val (p.wr v) w L
theorem valOf_ne {p:PF} (hp:p ≠ .uuid) {x val:Value} (h:ValOf p [x] val):val=x:=by
 unfold ValOf at h
 rw [if_neg hp] at h
 simpa using h.symm
theorem app_num {p:PF} {k:IntKind} {m f:Nat} (hp:∀ w X cs v,LRp w X (pfTy p) cs v->∃ x:Int,cs=[.int k x]/\v=.n x/\(p=.u16->0<=x/\x < 65536)) (hu:p ≠ .uuid) (hw:∀ x,p.wr (.n x)=be m x) (hE:Ent P f) (hc:∀ (x:Int) (w:World),(p=.u16->0<=x/\x < 65536)->ApC P K.tU8 f (.int k x) (be m x) w):AppOk P K.tU8 p f:=by
 refine ⟨hE,fun w L cs val v hl hv=>?_⟩
 obtain ⟨x,rfl,rfl,hx⟩:=hp _ _ _ _ hl
 obtain rfl:val=.int k x:=valOf_ne hu hv
 rw [hw]
 exact hc x w hx L
theorem app_u16 (wt:WT P K) (hF:za_ K.tU16=true) {f ntmps:Nat} (hfn:FnIs P f ntmps [4] (cAU16 K)) (hnt:13<=ntmps):AppOk P K.tU8 .u16 f:=
 app_num (k:=.u16) (m:=2) (fun w X cs v h=>by
  obtain ⟨x,h1,h2,h3⟩:=h
  refine ⟨x,h1,h2,fun _=>?_⟩
  simp [Prim.fits] at h3
  omega) (by simp) (fun _=>rfl) hfn.ent fun x w h=>ap_u16 wt hF hfn hnt (h rfl) w
theorem app_i16 (wt:WT P K) (hF:za_ K.tU16=true) {f f2 ntmps nt2:Nat} (hfn2:FnIs P f2 nt2 [4] (cAU16 K)) (hnt2:13<=nt2) (hfn:FnIs P f ntmps [4] (cACv K.tI16 K.tU16 f2)) (hnt:9<=ntmps):AppOk P K.tU8 .i16 f:=
 app_num (k:=.i16) (m:=2) (fun w X cs v h=>by obtain ⟨x,h1,h2,_⟩:=h;exact ⟨x,h1,h2,fun h=>by cases h⟩) (by simp) (fun _=>rfl) hfn.ent fun x w _=>ap_i16 wt hF hfn2 hnt2 hfn hnt x w
theorem app_i32 (wt:WT P K) {f f2 ntmps nt2:Nat} (hfn2:FnIs P f2 nt2 [4] (cAU32 K)) (hnt2:19<=nt2) (hfn:FnIs P f ntmps [4] (cACv K.tI32 K.tU32 f2)) (hnt:9<=ntmps):AppOk P K.tU8 .i32 f:=
 app_num (k:=.i32) (m:=4) (fun w X cs v h=>by obtain ⟨x,h1,h2,_⟩:=h;exact ⟨x,h1,h2,fun h=>by cases h⟩) (by simp) (fun _=>rfl) hfn.ent fun x w _=>ap_i32 wt hfn2 hnt2 hfn hnt x w
theorem app_i64 (wt:WT P K) (hF:za_ K.tU64=true) (hF2:za_ K.tI64=true) {f f2 ntmps nt2:Nat} (hfn2:FnIs P f2 nt2 [4] (cAU64 K)) (hnt2:31<=nt2) (hfn:FnIs P f ntmps [4] (cACv K.tI64 K.tU64 f2)) (hnt:9<=ntmps):AppOk P K.tU8 .i64 f:=
 app_num (k:=.i64) (m:=8) (fun w X cs v h=>by obtain ⟨x,h1,h2,_⟩:=h;exact ⟨x,h1,h2,fun h=>by cases h⟩) (by simp) (fun _=>rfl) hfn.ent fun x w _=>ap_i64 wt hF hF2 hfn2 hnt2 hfn hnt x w
theorem app_uuid (wt:WT P K) (hV:jp_ P K.tUuid true 16) (hA:P.underlying K.tUuid=some (.array 16 K.tU8)) {f ntmps:Nat} (hfn:FnIs P f ntmps [4] (cAUuid K)) (hnt:8<=ntmps):AppOk P K.tU8 .uuid f:=by
 refine ⟨hfn.ent,fun w L cs val v hl hv=>?_⟩
 obtain ⟨l,hl16,rfl,rfl⟩:=hl
 obtain rfl:val=.agg (l.map octv).toArray:=by
  unfold ValOf at hv
  rw [if_pos rfl] at hv
  exact hv
 exact ap_uuid wt hV hA hfn hnt hl16 w L
theorem app_str (wt:WT P K) {f f2 ntmps:Nat} (hA:AppOk P K.tU8 .i16 f2) (hc:∀ (x:Int) (w:World),ApC P K.tU8 f2 (.int .i16 x) (be 2 x) w) (hfn:FnIs P f ntmps [4] (cAStr K K.tStr K.tI16 f2)) (hnt:13<=ntmps):AppOk P K.tU8 .str f:=by
 refine ⟨hfn.ent,fun w L cs val v hl hv=>?_⟩
 obtain ⟨l,rfl,rfl,_⟩:=hl
 obtain rfl:val=.string ⟨l.toArray⟩:=valOf_ne (by simp) hv
 have h:=hc (IntKind.i16.wrap (l.length:Int)) w
 rw [be_wrap (.inr (.inl ⟨.inl rfl,rfl⟩))] at h
 exact ap_txt wt wt.dI16 (txt_str wt.dStr l L w) hA.1 h hfn hnt
theorem app_cstr (wt:WT P K) {f f2 ntmps:Nat} (hE:Ent P f2) (hc:∀ x w,x < 4294967296->ApC P K.tU8 f2 (.int .u32 (x:Nat)) (uvar x) w) (hfn:FnIs P f ntmps [4] (cACStr K K.tStr f2)) (hnt:14<=ntmps):AppOk P K.tU8 .cstr f:=by
 refine ⟨hfn.ent,fun w L cs val v hl hv=>?_⟩
 obtain ⟨l,rfl,rfl,_⟩:=hl
 obtain rfl:val=.string ⟨l.toArray⟩:=valOf_ne (by simp) hv
 exact ap_ctxt wt (txt_str wt.dStr l L w) hE hc hfn hnt
theorem app_nstr (wt:WT P K) {p:PF} {fx:Bool} (hp:p=strPF true fx) {f f1 f2 ntmps tP:Nat} {c:Value} (hP:P.underlying tP=some (.pointer K.tStr)) (hE:Ent P f1) (hc:∀ w,ApC P K.tU8 f1 c (wNull fx 2) w) (h2:AppOk P K.tU8 (strPF false fx) f2) (hfn:FnIs P f ntmps [4] (cANStr K tP c f1 f2)) (hnt:14<=ntmps):AppOk P K.tU8 p f:=by
 refine ⟨hfn.ent,fun w L cs val v hl hv=>?_⟩
 have e0:pfTy p=.str (some 0):=by rw [hp];cases fx <;> rfl
 have e1:p.wr .nul=wNull fx 2:=by rw [hp];cases fx <;> rfl
 have e2:∀ l,p.wr (.s l)=(strPF false fx).wr (.s l):=fun l=>by rw [hp];cases fx <;> rfl
 have e3:p ≠ .uuid:=by rw [hp];cases fx <;> simp [strPF]
 have e4:pfTy (strPF false fx)=.str none:=by cases fx <;> rfl
 have e5:strPF false fx ≠ .uuid:=by cases fx <;> simp [strPF]
 rw [e0] at hl
 rcases hl with ⟨rfl,rfl⟩ | ⟨l,b,o,rfl,hX,hcell,rfl,hlen⟩
 ·obtain rfl:val=.pointer none:=valOf_ne e3 hv
  rw [e1]
  exact ap_nstr0 wt hP hE (hc w) hfn hnt L
 ·obtain rfl:val=.pointer (some ⟨b,o,none⟩):=valOf_ne e3 hv
  rw [e2]
  refine ap_nstr1 wt hP hcell h2.1 (fun L'=>h2.2 w L' [.string ⟨l.toArray⟩] _ _ ?_ ?_) hfn hnt L
  ·rw [e4];exact ⟨l,rfl,rfl,by omega⟩
  ·simp [ValOf,e5]
end
def cNewPtr (T f:Nat):Code:=sq [rg [mk (some 0) (.assign (.const (.pointer none)))],rg [mk (some 1) (.alloc T)],rg [cl (some 2) f [tm 1]],rg [mk (some 0) (.assign (tm 1))],.ret]
def cMaxV (k:Int):Code:=sq [rg [mk (some 2) (.assign (ki .i16 0))],rg [mk (some 2) (.assign (ki .i16 k))],.ret]
def cMax (tI16 tInt f1 f2:Nat):Code:=sq [rg [mk (some 0) (.assign (ki .i64 0))],rg [cl (some 1) f1 [],cl (some 2) f2 [tm 1],mk (some 3) (.convert tI16 tInt (tm 2)),mk (some 0) (.assign (tm 3))],.ret]
def cSetV (T tI16:Nat):Code:=rg [mk (some 4) (.move (tm 0)),mk (some 5) (.move (tm 1)),mk (some 6) (.nilCheck (tm 4)),mk (some 7) (.fieldAddr T (tm 6) 0),mk none (.store tI16 (tm 7) (tm 5))]
def cRdF (f:Nat):Code:=sq [rg [mk (some 4) (.assign (.const .nilIface))],rg [mk (some 5) (.move (tm 0)),mk (some 6) (.move (tm 1)),cl (some 7) f [tm 5,tm 6,.const (.bool false)],mk (some 4) (.assign (tm 7))],.ret]
def cAgain (tI16 tInt tSl tErr f1 f2 f3 f4:Nat):Code:=sq [rg [mk (some 4) (.assign (.const nilS)),mk (some 5) (.assign (.const (.bool false)))],rg [cl (some 7) f1 [],mk (some 6) (.assign (tm 7))],
 rg [mk (some 8) (.move (tm 6)),mk (some 9) (.move (tm 0)),mk (some 10) (.convert tInt tI16 (tm 9)),cl (some 11) f2 [tm 8,tm 10]],
 .seq (rg [mk (some 12) (.move (tm 6)),mk (some 13) (.move (tm 1)),bi (some 14) .append [.const nilS,tm 13] [tSl,tSl] tSl,cl (some 15) f3 [tm 12,tm 14],mk (some 16) (.binOp .neq tErr (tm 15) (.const .nilIface) 0)])
  (.cond (tm 16) (.seq (rg [mk (some 4) (.assign (.const nilS)),mk (some 5) (.assign (.const (.bool false)))]) .ret) .skip),
 rg [mk (some 17) (.move (tm 6)),cl (some 18) f4 [tm 17,.const nilS],mk (some 4) (.assign (tm 18)),mk (some 5) (.assign (.const (.bool true)))],.ret]
def cVer (tU8 tInt:Nat):Code:=sq [rg [mk (some 4) (.assign (ki .i64 0))],rg [mk (some 5) (.move (tm 0)),mk (some 6) (.convert tU8 tInt (tm 5)),mk (some 7) (.move (tm 1)),mk (some 8) (.binOp .add tInt (tm 7) (ki .i64 1) 0),mk (some 9) (.binOp .rem tInt (tm 6) (tm 8) 0),mk (some 4) (.assign (tm 9))],.ret]
def sameOps (tSl tU8:Nat):List Oper:=[mk (some 16) (.move (tm 0)),mk (some 17) (.move (tm 5)),mk (some 18) (.indexAddr tSl (tm 16) (tm 17)),mk (some 19) (.load tU8 (tm 18)),mk (some 20) (.move (tm 1)),mk (some 21) (.move (tm 5)),mk (some 22) (.indexAddr tSl (tm 20) (tm 21)),mk (some 23) (.load tU8 (tm 22)),mk (some 24) (.binOp .neq tU8 (tm 19) (tm 23) 0)]
def retB (b:Bool):Code:=.seq (rg [mk (some 4) (.assign (.const (.bool b)))]) .ret
def cSame (tSl tU8 tInt:Nat):Code:=sq [rg [mk (some 4) (.assign (.const (.bool false)))],
 .seq (rg [mk (some 6) (.move (tm 0)),bi (some 7) .len [tm 6] [tSl] tInt,mk (some 8) (.move (tm 1)),bi (some 9) .len [tm 8] [tSl] tInt,mk (some 10) (.binOp .neq tInt (tm 7) (tm 9) 0)]) (.cond (tm 10) (retB false) .skip),
 .seq (rg [mk (some 11) (.move (tm 0)),bi (some 12) .len [tm 11] [tSl] tInt,mk (some 13) (.move (ki .i64 0))])
  (.block 0 (.loop (.seq (rg [mk (some 14) (.binOp .lss tInt (tm 13) (tm 12) 0)]) (.seq (.cond (tm 14) .skip (.exit 0))
   (.seq (.block 1 (.seq (rg [mk (some 15) (.move (tm 13)),mk (some 5) (.assign (tm 15))]) (.seq (.region 1 (sameOps tSl tU8).toArray true) (.cond (tm 24) (retB false) .skip))))
    (rg [mk (some 25) (.binOp .add tInt (tm 13) (ki .i64 1) 0),mk (some 13) (.move (tm 25))])))))),
 rg [mk (some 4) (.assign (.const (.bool true)))],.ret]
def lenGt (tSl tInt n:Nat) (k:Int):Code:=.seq (rg [mk (some n) (.move (tm 1)),bi (some (n + 1)) .len [tm n] [tSl] tInt,mk (some (n + 2)) (.binOp .gtr tInt (tm (n + 1)) (ki .i64 k) 0)]) (.cond (tm (n + 2)) (retB true) .skip)
def callAg (fV fA n s x y:Nat):Code:=rg [mk (some (n + 1)) (.move (tm 0)),mk (some (n + 2)) (.move (tm 5)),cl (some (n + 3)) fV [tm (n + 1),tm (n + 2)],mk (some (n + 4)) (.move (tm s)),cl (some (n + 5)) fA [tm (n + 3),tm (n + 4)],mk (some n) (.move (tm (n + 5))),
 mk (some (n + 6)) (.extract (tm n) 0),mk (some (n + 7)) (.extract (tm n) 1),mk (some x) (.assign (tm (n + 6))),mk (some y) (.assign (tm (n + 7)))]
def cAny (tSl tInt tB fM fV fA fS:Nat):Code:=sq [rg [mk (some 4) (.assign (.const (.bool false)))],lenGt tSl tInt 10 2147483647,rg [cl (some 13) fM [],mk (some 5) (.assign (tm 13))],
 .seq (rg [mk (some 14) (.move (tm 5)),mk (some 15) (.binOp .lss tInt (tm 14) (ki .i64 0) 0)]) (.cond (tm 15) (retB false) .skip),
 lenGt tSl tInt 16 1000,callAg fV fA 19 1 6 7,
 .seq (rg [mk (some 27) (.move (tm 7)),mk (some 28) (.unOp .not tB (tm 27))]) (.cond (tm 28) (retB true) .skip),
 callAg fV fA 29 6 8 9,
 rg [mk (some 37) (.move (tm 9)), mk (some 38) (.move (tm 37)), gd 39 (.move (tm 6)) 1 true, gd 40 (.move (tm 8)) 1 true, ⟨some 41, .call ⟨.value (.func fS), #[tm 39, tm 40], #[]⟩, 0, "", #[], some (1, true)⟩,
  mk (some 42) (.pick (tm 38) (tm 41) (.const (.bool false))),mk (some 4) (.assign (tm 42))],.ret]
end Go.Proofs.YtlmanancakaapaaGreatDoor.Kx
