/-
  PLAIN LAWS AND CONTRACTS of messages, part 11 of 12: how readers and writers are printed, what they do, what the reference writes, and that what is written is read as the same. Nothing of a statement stands here.
-/
import Derived.Test.YtlnmiphokmhajaaK1
import Derived.Test.YtlnmiphokmhajaaK2
import Derived.Test.YtlnmiphokmhajaaK3
import Derived.Test.YtlnmiphokmhajaaK4
import Derived.Test.YtlnmiphokmhajaaK5
import Derived.Test.YtlnmiphokmhajaaK7
import Derived.Test.YtlnmiphokmhajaaK8
import Derived.Test.YtlnmiphokmhajaaK9
import Derived.Test.YtlnmiphokmhajaaK10
import Derived.KernelRfl
import Derived.MapFrom
import Derived.Laws.MakeOwn
import Derived.Maps.RangeRun
import Derived.ChangeKeysEq

namespace Go.Proofs.Ytlnmiphokmhajaa.Kx
open Go
set_option maxRecDepth 4000
def NvX (w:World) (X:Nat->Prop) (v:Value) (o:Oc):Prop:=
 (o.1=true/\v=nilS) \/ (o.1=false/\∃ b q c,v=.slice (some ⟨b,q,none⟩) o.2.length c/\¬ X b/\b < w.heap.size/\OctAt w b q o.2)
theorem NvX.keep {w w':World} {X Y:Nat->Prop} {v:Value} {o:Oc} (h:NvX w X v o) (hk:qd_ Y w w') (hX:∀ k,Y k->X k):NvX w' X v o:=by
 rcases h with h | ⟨h1,b,q,c,h2,h3,h4,h5⟩
 ·exact .inl h
 ·exact .inr ⟨h1,b,q,c,h2,h3,Nat.lt_of_lt_of_le h4 hk.size,h5.keep hk fun hh=>h3 (hX b hh)⟩
theorem NvX.mono {w:World} {X Y:Nat->Prop} {v:Value} {o:Oc} (h:NvX w X v o) (hXY:∀ k,k < w.heap.size->Y k->X k):NvX w Y v o:=by
 rcases h with h | ⟨h1,b,q,c,h2,h3,h4,h5⟩
 ·exact .inl h
 ·exact .inr ⟨h1,b,q,c,h2,fun hh=>h3 (hXY b h4 hh),h4,h5⟩
theorem NvX.at {w:World} {X:Nat->Prop} {v:Value} {o:Oc} (h:NvX w X v o):NvAt w w.heap.size v o:=by
 rcases h with h | ⟨h1,b,q,c,h2,_,h4,h5⟩
 ·exact .inl h
 ·exact .inr ⟨h1,b,q,c,h2,h4,h4,h5⟩
theorem NvX.form {w:World} {X:Nat->Prop} {v:Value} {o:Oc} (h:NvX w X v o):∃ m n c,v=.slice m n c:=by
 rcases h with ⟨_,rfl⟩ | ⟨_,b,q,c,rfl,_⟩
 ·exact ⟨_,_,_,rfl⟩
 ·exact ⟨_,_,_,rfl⟩
def HsAt (w:World) (L te:Nat) (v:Value) (es:List (Value × Value)):Prop:=
 (v=nilS/\es=[]) \/ ∃ (g c:Nat) (cur:Array Value),v=.slice (some ⟨g,0,none⟩) es.length c/\L<=g/\w.heap[g]?=some (.cells cur te (0,0))/\es.length<=c/\c<=maxLen/\cur.size=c * 2/\∀ j e,es[j]?=some e->cur[j * 2]?=some e.1/\cur[j * 2 + 1]?=some e.2
theorem HsAt.own {w:World} {L te:Nat} {v:Value} {es:List (Value × Value)} (h:HsAt w L te v es) {k:Nat} (hk:v.ownBlock=some k):L<=k/\k < w.heap.size:=by
 rcases h with ⟨rfl,_⟩ | ⟨g,c,cur,rfl,hL,hg,_⟩
 ·cases hk
 ·obtain rfl:g=k:=Option.some.inj hk
  exact ⟨hL,(Array.getElem?_eq_some_iff.1 hg).1⟩
theorem HsAt.keep {w w':World} {L te:Nat} {X:Nat->Prop} {v:Value} {es:List (Value × Value)} (h:HsAt w L te v es) (hk:qd_ X w w') (hx:∀ k,v.ownBlock=some k->¬ X k):HsAt w' L te v es:=by
 rcases h with h | ⟨g,c,cur,rfl,hL,hg,h⟩
 ·exact .inl h
 ·exact .inr ⟨g,c,cur,rfl,hL,by rw [hk.block g (Array.getElem?_eq_some_iff.1 hg).1 (hx g rfl)];exact hg,h⟩
theorem HsAt.form {w:World} {L te:Nat} {v:Value} {es:List (Value × Value)} (h:HsAt w L te v es):∃ base c,v=.slice base es.length c/\es.length<=maxLen:=by
 rcases h with ⟨rfl,rfl⟩ | ⟨g,c,cur,rfl,_,_,h1,h2,_⟩
 ·exact ⟨none,0,rfl,by simp [maxLen]⟩
 ·exact ⟨_,c,rfl,by omega⟩
theorem HsAt.get {w:World} {L te:Nat} {v:Value} {es:List (Value × Value)} (h:HsAt w L te v es) {i:Nat} {e:Value × Value} (hi:es[i]?=some e):∃ g c,v=.slice (some ⟨g,0,none⟩) es.length c/\i < es.length/\qf_ w g (0 + i * 2) [e.1,e.2]:=by
 rcases h with ⟨_,rfl⟩ | ⟨g,c,cur,rfl,_,hg,_,_,_,hat⟩
 ·simp at hi
 ·obtain ⟨h1,h2⟩:=hat i e hi
  refine ⟨g,c,rfl,(List.getElem?_eq_some_iff.1 hi).1,fun j x hj=>?_⟩
  have hcell:∀ o,w.cell? ⟨g,o,none⟩=cur[o]?:=fun o=>by simp [World.cell?,hg]
  rw [hcell]
  match j,hj with
  | 0,hj=>simp only [List.getElem?_cons_zero,Option.some.injEq] at hj;subst hj;simpa using h1
  | 1,hj=>simp only [List.getElem?_cons_succ,List.getElem?_cons_zero,Option.some.injEq] at hj;subst hj;simpa using h2
  | j + 2,hj=>simp at hj
theorem run_append_hs {P:Program} {S:SN} {N:RN} (R:Ref0 P S N) {w:World} {L:Nat} {v x:Value} {es:List (Value × Value)} {p:Value × Value} (h:HsAt w L N.tKH v es) (hx:Src P 2 N.tKHs x 1 [p.1,p.2] w) (hL:L<=w.heap.size) (hlim:es.length<=40000) :
  ∃ v' w',(Builtin.append_ #[N.tKHs,N.tKHs] N.tKHs #[v,x]).run P w=.ok v' w'/\HsAt w' L N.tKH v' (es++[p])/\qd_ (fun k=>v.ownBlock=some k) w w'/\∀ k,v'.ownBlock=some k->v.ownBlock=some k \/ w.heap.size<=k:=by
 obtain ⟨i,hi,hz,hsz,hby⟩:=R.iKH
 have ht:=R.dKHs
 have hs':Src P i.size N.tKHs x 1 [p.1,p.2] w:=by rw [hsz];exact hx
 have z0:∀ j (e:Value × Value),[p][j]?=some e->j=0/\e=p:=fun j e h=>by
  match j,h with
  | 0,h=>simp only [List.getElem?_cons_zero,Option.some.injEq] at h;exact ⟨rfl,h.symm⟩
  | j + 1,h=>simp at h
 have grown:∀ (base:Option Addr) (old:Nat) (olds:List Value),olds.length=es.length * 2->old < es.length + 1->(Builtin.firstCells i.size es.length (.slice base es.length old)).run P w.drew=.ok olds.toArray w.drew ->
   (∀ j e,es[j]?=some e->olds[j * 2]?=some e.1/\olds[j * 2 + 1]?=some e.2) ->
   ∃ v' w',(Builtin.append_ #[N.tKHs,N.tKHs] N.tKHs #[.slice base es.length old,x]).run P w=.ok v' w'/\HsAt w' L N.tKH v' (es++[p])/\qd_ (fun _=>False) w w'/\∀ k,v'.ownBlock=some k->w.heap.size<=k:=by
  intro base old olds hol ho hold hat
  have hr:=run_append_grow_src (P:=P) w N.tKHs N.tKHs N.tKHs N.tKH i (.agg #[.string ⟨#[]⟩,nilS]) ht hi hz base es.length old olds hold x 1 [p.1,p.2] hs' ho (by omega) (growslice_fits ho (by rw [hby];omega))
  have hge:=grownCap_ge w (es.length + 1) old N.tKH
  have hcm:grownCap w (es.length + 1) old N.tKH<=maxLen:=grownCap_le_maxLen w _ old N.tKH (by simp only [maxLen];omega)
  refine ⟨_,_,hr,.inr ⟨w.heap.size,_,_,by rw [List.length_append];rfl,hL,Go.heap_alloc_new w.drew _,by rw [List.length_append];exact hge,hcm,?_,?_⟩,?_⟩
  ·simp only [Array.size_append,List.size_toArray,size_zeroCells,List.length_append,hol,Value.cells]
   simp only [List.length_cons,List.length_nil]
   omega
  ·intro j e hj
   have hjl:j < es.length + 1:=by have:=(List.getElem?_eq_some_iff.1 hj).1;simpa using this
   have pre:∀ q,q < es.length * 2 + 2->((olds++[p.1,p.2]).toArray++Builtin.zeroCells (Value.agg #[.string ⟨#[]⟩,nilS]).cells (grownCap w (es.length + 1) old N.tKH - (es.length + 1)))[q]?=(olds++[p.1,p.2])[q]?:=fun q hq=>by
    rw [Array.getElem?_append_left (by simp only [List.size_toArray,List.length_append,hol,List.length_cons,List.length_nil];omega)]
    simp
   rw [pre _ (by omega),pre _ (by omega)]
   by_cases hjb:j < es.length
   ·rw [List.getElem?_append_left hjb] at hj
    obtain ⟨h1,h2⟩:=hat j e hj
    rw [List.getElem?_append_left (by omega),List.getElem?_append_left (by omega)]
    exact ⟨h1,h2⟩
   ·rw [List.getElem?_append_right (by omega)] at hj
    obtain ⟨hj0,rfl⟩:=z0 _ _ hj
    have hje:j=es.length:=by omega
    subst hje
    rw [List.getElem?_append_right (by omega),List.getElem?_append_right (by omega),hol]
    simp
  ·exact ⟨⟨rfl,rfl,rfl,by simp,fun k hk _=>heap_alloc_old (w:=w.drew) hk⟩,fun k hk=>by simp only [Value.ownBlock,Option.some.injEq] at hk;omega⟩
 rcases h with ⟨rfl,rfl⟩ | ⟨g,c,cur,rfl,hgL,hg,hnc,hcm,hcs,hat⟩
 ·obtain ⟨v',w',a1,a2,a3,a4⟩:=grown none 0 [] rfl (by simp) (by simp [Builtin.firstCells]) (fun j e h=>by simp at h)
  exact ⟨v',w',a1,a2,a3.mono fun _ _ h=>h.elim,fun k hk=>.inr (a4 k hk)⟩
 ·have hcl:cur.toList.length=c * 2:=by simpa using hcs
  by_cases hroom:es.length + 1<=c
  ·have hst:=run_storeCells_at P g (es.length * 2) N.tKH [p.1,p.2] 0 cur w hg (by simp only [List.length_cons,List.length_nil];omega) hx.one
   simp only [Nat.add_zero] at hst
   have hr:(Builtin.append_ #[N.tKHs,N.tKHs] N.tKHs #[.slice (some ⟨g,0,none⟩) es.length c,x]).run P w=.ok (.slice (some ⟨g,0,none⟩) (es.length + 1) c) (w.setRow g (q1_ cur (es.length * 2) [p.1,p.2])):=by
    have hxc:(Builtin.firstCells 2 1 x).run P w=.ok [p.1,p.2].toArray w:=hx.cells
    rcases hx.kind with ⟨e',hk⟩ | hk <;> simp [Builtin.append_,run_underlying ht,sizeOf,typeInfo,hi,hsz,hx.len,hroom,hxc,Addr.add_lit,hst,q1_]
   have hfit:es.length * 2 + [p.1,p.2].length<=cur.size:=by simp only [List.length_cons,List.length_nil];omega
   refine ⟨_,_,hr,.inr ⟨g,c,_,by rw [List.length_append];rfl,hgL,setRow_heap _ _ _ _ _ _ hg,by rw [List.length_append];exact hroom,hcm,by rw [splice_size hfit];exact hcs,fun j e hj=>?_⟩,qd_.setRow _ _ _ _ rfl,fun k hk=>.inl hk⟩
   by_cases hjb:j < es.length
   ·rw [List.getElem?_append_left hjb] at hj
    obtain ⟨h1,h2⟩:=hat j e hj
    rw [q8_ hfit _ (.inl (by omega)),q8_ hfit _ (.inl (by omega))]
    exact ⟨h1,h2⟩
   ·rw [List.getElem?_append_right (by omega)] at hj
    obtain ⟨hj0,rfl⟩:=z0 _ _ hj
    have hje:j=es.length:=by omega
    subst hje
    have a1:=splice_in hfit 0 (by simp)
    have a2:=splice_in hfit 1 (by simp)
    exact ⟨by simpa using a1,by simpa using a2⟩
  ·have key:∃ v' w',(Builtin.append_ #[N.tKHs,N.tKHs] N.tKHs #[.slice (some ⟨g,0,none⟩) es.length c,x]).run P w=.ok v' w'/\HsAt w' L N.tKH v' (es++[p])/\qd_ (fun _=>False) w w'/\∀ k,v'.ownBlock=some k->w.heap.size<=k:=by
    refine grown (some ⟨g,0,none⟩) c (cur.toList.take (es.length * 2)) (by rw [List.length_take,hcl];omega) (by omega) ?_ (fun j e hj=>?_)
    ·have hl:=run_loadCells_list (P:=P) w.drew ⟨g,0,none⟩ (cur.toList.take (es.length * 2)) (fun j u hj=>by
      rw [List.getElem?_take] at hj
      split at hj
      ·rw [Addr.add_lit]
       have hg':w.drew.heap[g]?=some (.cells cur N.tKH (0,0)):=hg
       simp [World.cell?,hg',<- hj]
      ·cases hj)
     have hll:(cur.toList.take (es.length * 2)).length=es.length * 2:=by rw [List.length_take,hcl];omega
     rw [hll] at hl
     simp [Builtin.firstCells,hsz,hl]
    ·have hjl:=(List.getElem?_eq_some_iff.1 hj).1
     obtain ⟨h1,h2⟩:=hat j e hj
     rw [List.getElem?_take,if_pos (by omega),List.getElem?_take,if_pos (by omega)]
     exact ⟨by simpa using h1,by simpa using h2⟩
   obtain ⟨v',w',a1,a2,a3,a4⟩:=key
   exact ⟨v',w',a1,a2,a3.mono fun _ _ h=>h.elim,fun k hk=>.inr (a4 k hk)⟩
section
variable {P:Program} {S:SN} {N:RN}
theorem run_append_none {tSl te:Nat} (ot:OctT P tSl te) {tx ty:TypeId} {g c:Nat} {x:Value} {w:World} {cur:Array Value} (hg:w.heap[g]?=some (.cells cur te (0,0))) (hs:Src P 1 tx x 0 [] w) :
  ∃ w',(Builtin.append_ #[tSl,tx] ty #[.slice (some ⟨g,0,none⟩) 0 c,x]).run P w=.ok (.slice (some ⟨g,0,none⟩) 0 c) w'/\qd_ (fun k=>k=g) w w':=by
 obtain ⟨i,z,hi,hz,hsz,hby,hzs⟩:=ot.info
 have ht:=ot.und
 have hst:=run_storeCells_at P g 0 te ([]:List Value) 0 cur w hg (by simp) (fun v hv=>by cases hv)
 simp only [Nat.add_zero] at hst
 refine ⟨w.setRow g (q1_ cur 0 []),?_,qd_.setRow _ _ _ _ rfl⟩
 have h1:=hs.len
 have h2:=hs.cells
 rcases hs.kind with ⟨e',hk⟩ | hk <;> simp [Builtin.append_,run_underlying ht,run_underlying hk,sizeOf,typeInfo,hi,hsz,h1,h2,Addr.add_lit,hst,q1_]
theorem nul_calls (R:Ref0 P S N) (hfn:FnIs P N.fNull 9 [2] (cRNull S N)) {o:Oc} {cs:List Value} {W:World} (ho:OcAt W cs o) (hlim:o.2.length<=LIM) :
  Calls P N.fNull [.agg cs.toArray].toArray W fun e w'=>∃ v,e=.returned v/\NvX w' (fun k=>k < W.heap.size) v o/\qd_ (fun _=>False) W w':=by
 obtain ⟨sv,rfl,hsv⟩:=ho
 obtain ⟨nl,bs⟩:=o
 dsimp only at hsv hlim ⊢
 refine q3_ R.mixed hfn (by simp) _ (by simp) fun a h=>?_
 unfold cRNull
 refine qi_ (nrg (st_box h (.t rfl) (by omega) fun a h=>?_))
 have hk:qd_ (fun _=>False) W (W.alloc (.cells [.bool nl,sv].toArray N.tOc (0,0))):=qd_.alloc _ _ _
 have hB:=q4_ W [.bool nl,sv] N.tOc
 generalize W.alloc (.cells [.bool nl,sv].toArray N.tOc (0,0))=w at hk hB ⊢
 have hf:Fa0 W w:=Fa0.of hk
 refine qa_ h .c (by omega) fun a h=>wpList_nil ?_
 refine qi_ (qi_ (nrg (qz_ h (.t rfl) R.o0 (by omega) fun a h=>qm_ h (.t rfl) R.o0.var (hB.at (j:=0) rfl) (by omega) fun a h=>wpList_nil ?_)))
 refine st_if h rfl (fun hb=>?_) (fun hb=>.skip ?_)
 ·subst hb
  refine qi_ (nrg (qa_ h .c (by omega) fun a h=>wpList_nil (.ret ?_)))
  exact ret1 (RR:=fun e w'=>∃ v,e=.returned v/\NvX w' (fun k=>k < W.heap.size) v (true,bs)/\qd_ (fun _=>False) W w') h rfl ⟨nilS,rfl,.inl ⟨rfl,rfl⟩,hk⟩
 ·subst hb
  obtain ⟨i,z,hi,hz,hsz,_⟩:=R.oct.info
  refine qi_ (nrg (wl_buildSlice0 R.oct.und (sz:=1) (fun w=>by simp [sizeOf,typeInfo,hi,hsz]) ?_))
  have h:=h.put (d:=5) (.slice (some ⟨w.heap.size,0,none⟩) 0 0) (by omega)
  have hka:qd_ (fun _=>False) w (w.alloc (.cells #[] S.tU8 (0,0))):=qd_.alloc _ _ _
  have hna:=qo_ w (.cells #[] S.tU8 (0,0))
  have hd0:qu_ (w.alloc (.cells #[] S.tU8 (0,0))) w.heap.size S.tU8 (.slice (some ⟨w.heap.size,0,none⟩) 0 0) []:=.inr ⟨w.heap.size,0,#[],rfl,Nat.le_refl _,hna,Nat.le_refl _,by simp [maxLen],rfl,fun i x hx=>by simp at hx⟩
  generalize w.alloc (.cells #[] S.tU8 (0,0))=w1 at hka hna hd0 ⊢
  have hf1:Fa0 W w1:=hf.kn hka
  refine qz_ h (.t rfl) R.o1 (by omega) fun a h=>qm_ h (.t rfl) R.o1.var (hka.cell id (hB.at (j:=1) rfl)) (by omega) fun a h=>?_
  have hsrc:=src_oc R.oct (OcX.far hsv hf1)
  by_cases hb0:bs=[]
  ·subst hb0
   obtain ⟨w2,hrun,hk2⟩:=run_append_none (ty:=S.tSl) R.oct (c:=0) hna hsrc
   refine st_bi h (v:=.slice (some ⟨w.heap.size,0,none⟩) 0 0) (w':=w2) (by simp [execOp,bi,resolve,invoke,builtin,Hd.t (l:=_) (i:=5) rfl _ _ h,Hd.t (l:=_) (i:=7) rfl _ _ h,hrun]) (by omega) fun a h=>qa_ h (.t rfl) (by omega) fun a h=>wpList_nil (.ret ?_)
   have hlt:w.heap.size < w2.heap.size:=Nat.lt_of_lt_of_le (Array.getElem?_eq_some_iff.1 hna).1 hk2.size
   refine ret1 (RR:=fun e w'=>∃ v,e=.returned v/\NvX w' (fun k=>k < W.heap.size) v (false,[])/\qd_ (fun _=>False) W w') h rfl ⟨_,rfl,.inr ⟨rfl,w.heap.size,0,0,rfl,fun hh=>absurd hk.size (by omega),hlt,fun j x hx=>by simp at hx⟩,?_⟩
   exact (hf1.up hk2 fun j hj=>by subst hj;exact hk.size).keeps
  ·refine st_app h R.oct (.t rfl) (.t rfl) hd0 hsrc hka.size (by simpa using hlim) (by omega) fun v2 w2 a hg h=>qa_ h (.t rfl) (by omega) fun a h=>wpList_nil (.ret ?_)
   have hd2:=hg.dst
   rw [List.nil_append] at hd2
   refine ret1 (RR:=fun e w'=>∃ v,e=.returned v/\NvX w' (fun k=>k < W.heap.size) v (false,bs)/\qd_ (fun _=>False) W w') h rfl ⟨v2,rfl,?_,(hf1.up hg.keeps fun j hj=>Nat.le_trans hk.size (hd0.own hj).1).keeps⟩
   rcases hd2 with ⟨_,h0⟩ | ⟨g,c,cur,rfl,hgL,hgg,_,_,_,hat⟩
   ·exact absurd h0 hb0
   ·have hlt:=(Array.getElem?_eq_some_iff.1 hgg).1
    have hks:=hk.size
    exact .inr ⟨rfl,g,0,c,rfl,fun hh=>by omega,hlt,fun j x hx=>by rw [Nat.zero_add];simp [World.cell?,hgg,hat j x hx,octv]⟩
theorem own_calls (R:Ref0 P S N) (hfn:FnIs P N.fOwn 5 [2] (cROwn S N)) {v:Value} {bs:Bs} {W:World} (hv:OcRp W v bs) (hlim:bs.length<=LIM):Calls P N.fOwn [v].toArray W (jd_ S.tU8 bs W):=by
 refine q3_ R.mixed hfn (by simp) _ (by simp) fun a h=>?_
 unfold cROwn
 refine qi_ (nrg (qa_ h .c (by omega) fun a h=>wpList_nil ?_))
 refine qi_ (nrg (qc_ h (.t rfl) (by omega) fun a h=>st_app h R.oct .c (.t rfl) (qu_.nil W W.heap.size S.tU8) (src_oc R.oct hv) (Nat.le_refl _) (by simpa using hlim) (by omega) fun v2 w2 a hg h=>qa_ h (.t rfl) (by omega) fun a h=>wpList_nil (.ret ?_)))
 have hd2:=hg.dst
 rw [List.nil_append] at hd2
 exact ret1 (RR:=jd_ S.tU8 bs W) h rfl (mk_of hd2 (Fa0.of (hg.keeps.mono fun _ _ h=>by cases h)))
end
end Go.Proofs.Ytlnmiphokmhajaa.Kx

namespace Go.Proofs.Ytlnmiphokmhajaa.Kx
open Go
set_option maxRecDepth 4000
def HsL (w:World) (L:Nat) (hv:Value) (hs:List (Bs × Oc)):Prop:=
 (∃ base c,hv=.slice base hs.length c)/\∀ i x,hs[i]?=some x->∃ g c v,hv=.slice (some ⟨g,0,none⟩) hs.length c/\g < L/\g < w.heap.size/\qf_ w g (0 + i * 2) [.string ⟨x.1.toArray⟩,v]/\NvAt w L v x.2
theorem cellsAt_keep {w w':World} {X:Nat->Prop} {b o:Nat} {cs:List Value} (h:qf_ w b o cs) (hk:qd_ X w w') (hX:¬ X b):qf_ w' b o cs:=fun j c hj=>hk.cell hX (h j c hj)
theorem HsL.keep {w w':World} {X:Nat->Prop} {L:Nat} {hv:Value} {hs:List (Bs × Oc)} (h:HsL w L hv hs) (hk:qd_ X w w') (hX:∀ k,k < L->¬ X k):HsL w' L hv hs:=
 ⟨h.1,fun i x hx=>by
  obtain ⟨g,c,v,h1,h2,h3,h4,h5⟩:=h.2 i x hx
  exact ⟨g,c,v,h1,h2,Nat.lt_of_lt_of_le h3 hk.size,cellsAt_keep h4 hk (hX g h2),h5.keep hk hX⟩⟩
def q0_ (x:Rec) (kv vv hv:Value):List Value:=[.int .i32 x.len,.int .i8 x.att,.int .i32 0,.int .i64 x.delta,.int .i32 x.off,kv,vv,hv]
structure KrAt (w:World) (L B:Nat) (x:Rec) (kv vv hv:Value):Prop where
 lt:B < L
 cells:qf_ w B 0 (q0_ x kv vv hv)
 key:NvAt w L kv x.key
 val:NvAt w L vv x.val
 hs:HsL w L hv x.hs
theorem KrAt.keep {w w':World} {X:Nat->Prop} {L B:Nat} {x:Rec} {kv vv hv:Value} (h:KrAt w L B x kv vv hv) (hk:qd_ X w w') (hX:∀ k,k < L->¬ X k):KrAt w' L B x kv vv hv:=
 ⟨h.lt,cellsAt_keep h.cells hk (hX B h.lt),h.key.keep hk hX,h.val.keep hk hX,h.hs.keep hk hX⟩
structure RecOk (x:Rec):Prop where
 len:-2147483648<=x.len/\x.len < 2147483648
 att:-128<=x.att/\x.att < 128
 delta:-9223372036854775808<=x.delta/\x.delta < 9223372036854775808
 off:-2147483648<=x.off/\x.off < 2147483648
 key:x.key.2.length < 2147483648
 val:x.val.2.length < 2147483648
 cnt:x.hs.length < 2147483648
 hs:∀ h ∈ x.hs,h.1.length < 2147483648/\h.2.2.length < 2147483648
section
variable {P:Program} {S:SN} {N:RN}
section
variable {ops:Array Oper} {Q:Exit->Act->World->Prop} {r:List Oper} {n:Nat} {a:Act} {w:World} {l:List (Nat × Value)}
theorem qw_ (h:St n a l) {d B O:Nat} {x:Operand} (hx:Hd l x (pt B O)) (hd:d < n) (c:∀ a',St n a' ((d,pt B O) :: l)->wpList P ops Q r a' w):wpList P ops Q (mk (some d) (.nilCheck x) :: r) a w:=
 wl_nilCheck (hx n a h) (c _ (h.put _ hd))
end
theorem Gr.kp {L te:Nat} {d d':Value} {w w':World} {bs bs':Bs} (hd:qu_ w L te d bs) (h:Gr L te d w d' bs' w'):qd_ (fun k=>L<=k) w w':=h.keeps.mono fun _ _ hk=>(hd.own hk).1
theorem not_ge {L:Nat}:∀ k,k < L->¬ (fun k=>L<=k) k:=fun _ h hh=>absurd hh (by omega)
structure KaC (P:Program) (S:SN) (N:RN):Prop where
 vi:AviC P S N
 i8E:Ent P N.fAI8
 i8:∀ (x:Int) (w:World),(-128<=x/\x < 128)->ApC P S.tU8 N.fAI8 (.int .i8 x) [UInt8.ofNat (x % 256).toNat] w
 vlE:Ent P N.fAVl
 vl:∀ (x:Int) (w:World),-9223372036854775808<=x->x < 9223372036854775808->ApC P S.tU8 N.fAVl (.int .i64 x) (vint x) w
 vsE:Ent P N.fAVs
 vs:∀ (k:Bs) (w:World),k.length < 2147483648->ApC P S.tU8 N.fAVs (.string ⟨k.toArray⟩) (vint k.length++k) w
 vbE:Ent P N.fAVb
 vb:∀ (o:Oc) (v:Value) (w:World) (L:Nat),o.2.length < 2147483648->NvAt w L v o->ApL P S.tU8 N.fAVb v (ocB o) w L
theorem ka_loop (R:Ref0 P S N) (C:KaC P S N) {L B:Nat} {x:Rec} {kv vv hv:Value} (hok:RecOk x) {total:Bs} (hlim:total.length<=LIM) {W:World} {d0:Value} {bs0:Bs} (_hd0:qu_ W L S.tU8 d0 bs0) (hL:L<=W.heap.size) {w:World} {d:Value} {bs:Bs} (hg:Gr L S.tU8 d0 W d bs w) (hK:KrAt w L B x kv vv hv) (htot:bs++(x.hs.map hdB).flatten=total)
  {a:Act} (h:St 98 a [(1,d),(11,hv)]) {RR:Exit->Act->World->Prop} (hR:∀ a' w' d',St 98 a' [(1,d')]->Gr L S.tU8 d0 W d' total w'->RR .normal a' w') :
  NWP P (.seq (rg (rApp_17 S N)) (.block 0 (.loop (.seq (rg (rApp_18 S N)) (.seq (.cond (tm 77) .skip (.exit 0)) (.seq (.block 1 (.seq (rg (rApp_19 S N)) (.seq (rg (rApp_20 S N)) (.seq (.seq (rg (rApp_21 S N)) (rg (rApp_22 S N))) (.seq (rg (rApp_23 S N)) (rg (rApp_24 S N))))))) (rg (rApp_25 S N)))))))) RR a w:=by
 obtain ⟨⟨bx,cx,hlv⟩,_⟩:=hK.hs
 have hcnt:=hok.cnt
 refine qi_ (nrg (qc_ h (.t rfl) (by omega) fun a h=>?_))
 have h':=h
 rw [hlv] at h'
 refine st_len h' (.t rfl) R.dKHs (by omega) fun a h=>qc_ h .i (by omega) fun a h=>wpList_nil ?_
 rw [<- hlv] at h
 refine st_loop (fun m a' w'=>∃ (i:Nat) (d:Value) (bs:Bs),i + m=x.hs.length/\bs++((x.hs.drop i).map hdB).flatten=total/\Gr L S.tU8 d0 W d bs w'/\KrAt w' L B x kv vv hv /\
   St 98 a' [(1,d),(11,hv),(75,.int .i64 (x.hs.length:Int)),(76,.int .i64 (i:Int))]) x.hs.length
  ⟨x.hs.length,Nat.le_refl _,0,d,bs,by omega,by simpa using htot,hg,hK,h.pick ⟨rfl,rfl,rfl,rfl,trivial⟩⟩ ?_
 rintro m a w hm ⟨i,d,bs,him,htot,hg,hK,h⟩
 refine qi_ (nrg (st_cmp h rfl (.t rfl) (.t rfl) (by omega) fun a h=>wpList_nil ?_))
 refine st_test h rfl (fun hb=>?_) (fun hb=>?_)
 ·have hlt:i < x.hs.length:=by simp [cmpB] at hb;omega
  obtain ⟨y,hy⟩:∃ y,x.hs[i]?=some y:=⟨_,List.getElem?_eq_getElem hlt⟩
  obtain ⟨g,c,v,hv',hgL,hgs,hcs,hnv⟩:=hK.hs.2 i y hy
  obtain ⟨hy1,hy2⟩:=hok.hs y (List.mem_of_getElem? hy)
  rw [drop_flat' _ hy] at htot
  have hlen:bs.length + (vint y.1.length++y.1).length + (ocB y.2).length<=LIM:=by
   have:=congrArg List.length htot
   simp only [List.length_append,hdB] at this ⊢
   omega
  simp only [List.length_append] at hlen
  refine .skip (qi_ (.block (qi_ (nrg ?_))))
  refine qc_ h (.t rfl) (by omega) fun a h=>qa_ h (.t rfl) (by omega) fun a h=>wpList_nil ?_
  refine qi_ (nrg (qc_ h (.t rfl) (by omega) fun a h=>qc_ h (.t rfl) (by omega) fun a h=>?_))
  have h':=h
  rw [hv'] at h'
  refine st_index h' (sz:=2) (.t rfl) (.t rfl) hlt R.dKHs R.sKH (by omega) fun a h=>qa_ h (.t rfl) (by omega) fun a h=>wpList_nil ?_
  rw [<- hv'] at h
  refine qi_ (qi_ (nrg (qc_ h (.t rfl) (by omega) fun a h=>qw_ h (.t rfl) (by omega) fun a h=>qz_ h (.t rfl) R.q0 (by omega) fun a h=>qm_ h (.t rfl) R.q0.var (hcs.at (j:=0) rfl) (by omega) fun a h=>qa_ h (.t rfl) (by omega) fun a h=>wpList_nil ?_)))
  refine nrg (qc_ h (.t rfl) (by omega) fun a h=>qc_ h (.t rfl) (by omega) fun a h=>?_)
  refine qj_ h C.vsE (vs:=[d,.string ⟨y.1.toArray⟩]) (fun n a h=>by simp only [List.map_cons,List.map_nil];rw [Hd.t (l:=_) (i:=86) rfl n a h,Hd.t (l:=_) (i:=87) rfl n a h]) (C.vs y.1 w hy1 L d bs hg.dst (Nat.le_trans hL hg.keeps.size) (by simp only [List.length_append];omega)) (by omega) fun e w1 hR1=>?_
  obtain ⟨d1,rfl,hg1⟩:=hR1
  have hkp1:=Gr.kp hg.dst hg1
  have hK1:=hK.keep hkp1 not_ge
  have hcs1:=cellsAt_keep hcs hkp1 (not_ge g hgL)
  have hnv1:=hnv.keep hkp1 not_ge
  have hg1':=hg.trans hg1
  refine ⟨d1,rfl,fun a h=>qa_ h (.t rfl) (by omega) fun a h=>wpList_nil ?_⟩
  refine qi_ (nrg (qc_ h (.t rfl) (by omega) fun a h=>qw_ h (.t rfl) (by omega) fun a h=>qz_ h (.t rfl) R.q1 (by omega) fun a h=>qm_ h (.t rfl) R.q1.var (hcs1.at (j:=1) rfl) (by omega) fun a h=>qa_ h (.t rfl) (by omega) fun a h=>wpList_nil ?_))
  refine nrg (qc_ h (.t rfl) (by omega) fun a h=>qc_ h (.t rfl) (by omega) fun a h=>?_)
  refine qj_ h C.vbE (vs:=[d1,v]) (fun n a h=>by simp only [List.map_cons,List.map_nil];rw [Hd.t (l:=_) (i:=93) rfl n a h,Hd.t (l:=_) (i:=94) rfl n a h]) (C.vb y.2 v w1 L hy2 hnv1 d1 _ hg1.dst (Nat.le_trans hL hg1'.keeps.size) (by simp only [List.length_append];omega)) (by omega) fun e w2 hR2=>?_
  obtain ⟨d2,rfl,hg2⟩:=hR2
  have hK2:=hK1.keep (Gr.kp hg1.dst hg2) not_ge
  have hg2':=hg1'.trans hg2
  refine ⟨d2,rfl,fun a h=>qa_ h (.t rfl) (by omega) fun a h=>wpList_nil ?_⟩
  refine nrg (st_bin h (.t rfl) .i (by simp) (run_addi w2) (by omega) fun a h=>?_)
  have hw:IntKind.i64.wrap ((i:Int) + 1)=((i + 1:Nat):Int):=by simp [IntKind.wrap,IntKind.bits,IntKind.signed];omega
  rw [hw] at h
  refine qc_ h (.t rfl) (by omega) fun a h=>wpList_nil ?_
  refine ⟨m - 1,by omega,by omega,i + 1,d2,_,by omega,?_,hg2',hK2,h.pick ⟨rfl,rfl,rfl,rfl,trivial⟩⟩
  rw [<- htot]
  simp only [hdB,List.append_assoc]
 ·have hge:¬ i < x.hs.length:=by simp [cmpB] at hb;omega
  rw [List.drop_of_length_le (by omega)] at htot
  simp only [List.map_nil,List.flatten_nil,List.append_nil] at htot
  subst htot
  exact .exit (hR _ _ d (h.pick ⟨rfl,trivial⟩) hg)
theorem ka_calls (R:Ref0 P S N) (C:KaC P S N) (hfn:FnIs P N.fApp 98 [4] (cRApp S N)) {L B:Nat} {x:Rec} {kv vv hv:Value} (hok:RecOk x) {W:World} (hK:KrAt W L B x kv vv hv) {d0:Value} {bs:Bs} (hd0:qu_ W L S.tU8 d0 bs) (hL:L<=W.heap.size) (hlim:bs.length + (recB x).length<=LIM) :
  Calls P N.fApp [pt B 0,d0].toArray W fun e w'=>∃ d',e=.returned d'/\Gr L S.tU8 d0 W d' (bs++recB x) w':=by
 have hlen:bs.length + (vint x.len).length + 1 + (vint x.delta).length + (vint x.off).length + (ocB x.key).length + (ocB x.val).length + (vint x.hs.length).length + ((x.hs.map hdB).flatten).length<=LIM:=by
  have e:recB x=vint x.len++([UInt8.ofNat (x.att % 256).toNat]++vint x.delta++vint x.off++ocB x.key++ocB x.val++vint x.hs.length++(x.hs.map hdB).flatten):=rfl
  rw [e] at hlim
  simp only [List.length_append,List.length_cons,List.length_nil] at hlim
  omega
 refine q3_ R.mixed hfn (by simp) _ (by simp) fun a h=>?_
 unfold cRApp
 refine qi_ (nrg (qa_ h .c (by omega) fun a h=>wpList_nil ?_))
 have h:St 98 a [(0,pt B 0),(1,d0)]:=h.pick ⟨rfl,rfl,trivial⟩
 refine qi_ (qi_ (nrg (qc_ h (.t rfl) (by omega) fun a h=>qw_ h (.t rfl) (by omega) fun a h=>qz_ h (.t rfl) R.k0 (by omega) fun a h=>qm_ h (.t rfl) R.k0.var (hK.cells.at (j:=0) rfl) (by omega) fun a h=>qa_ h (.t rfl) (by omega) fun a h=>wpList_nil ?_)))
 refine nrg (qc_ h (.t rfl) (by omega) fun a h=>qc_ h (.t rfl) (by omega) fun a h=>?_)
 refine qj_ h C.vi.1 (vs:=[d0,.int .i32 x.len]) (fun n a h=>by simp only [List.map_cons,List.map_nil];rw [Hd.t (l:=_) (i:=20) rfl n a h,Hd.t (l:=_) (i:=21) rfl n a h]) (C.vi.2 x.len W hok.len.1 hok.len.2 L d0 bs hd0 hL (by omega)) (by omega) fun e w1 hR1=>?_
 obtain ⟨d1,rfl,hg1⟩:=hR1
 have hK1:=hK.keep (Gr.kp hd0 hg1) not_ge
 refine ⟨d1,rfl,fun a h=>qa_ h (.t rfl) (by omega) fun a h=>wpList_nil ?_⟩
 have h:St 98 a [(0,pt B 0),(1,d1)]:=h.pick ⟨rfl,rfl,trivial⟩
 refine qi_ (qi_ (nrg (qc_ h (.t rfl) (by omega) fun a h=>qw_ h (.t rfl) (by omega) fun a h=>qz_ h (.t rfl) R.k1 (by omega) fun a h=>qm_ h (.t rfl) R.k1.var (hK1.cells.at (j:=1) rfl) (by omega) fun a h=>qa_ h (.t rfl) (by omega) fun a h=>wpList_nil ?_)))
 refine nrg (qc_ h (.t rfl) (by omega) fun a h=>qc_ h (.t rfl) (by omega) fun a h=>?_)
 refine qj_ h C.i8E (vs:=[d1,.int .i8 x.att]) (fun n a h=>by simp only [List.map_cons,List.map_nil];rw [Hd.t (l:=_) (i:=27) rfl n a h,Hd.t (l:=_) (i:=28) rfl n a h]) (C.i8 x.att w1 hok.att L d1 _ hg1.dst (Nat.le_trans hL hg1.keeps.size) (by simp only [List.length_append,List.length_cons,List.length_nil];omega)) (by omega) fun e w2 hR2=>?_
 obtain ⟨d2,rfl,hg2⟩:=hR2
 have hK2:=hK1.keep (Gr.kp hg1.dst hg2) not_ge
 have hg2:=hg1.trans hg2
 refine ⟨d2,rfl,fun a h=>qa_ h (.t rfl) (by omega) fun a h=>wpList_nil ?_⟩
 have h:St 98 a [(0,pt B 0),(1,d2)]:=h.pick ⟨rfl,rfl,trivial⟩
 refine qi_ (qi_ (nrg (qc_ h (.t rfl) (by omega) fun a h=>qw_ h (.t rfl) (by omega) fun a h=>qz_ h (.t rfl) R.k3 (by omega) fun a h=>qm_ h (.t rfl) R.k3.var (hK2.cells.at (j:=3) rfl) (by omega) fun a h=>qa_ h (.t rfl) (by omega) fun a h=>wpList_nil ?_)))
 refine qi_ (qi_ (nrg (qc_ h (.t rfl) (by omega) fun a h=>st_cmp h rfl (.t rfl) .i (by omega) fun a h=>wpList_nil ?_)))
 have time:∀ (a:Act),St 98 a [(0,pt B 0),(1,d2),(7,.int .i64 x.delta)]->∀ (Q:Exit->Act->World->Prop),(∀ a' w' d',St 98 a' [(0,pt B 0),(1,d')]->Gr L S.tU8 d0 W d' (bs++vint x.len++[UInt8.ofNat (x.att % 256).toNat]++vint x.delta) w'->KrAt w' L B x kv vv hv->Q .normal a' w')->NWP P (rg (rApp_8 S N)) Q a w2:=by
  intro a h Q hQ
  refine nrg (qc_ h (.t rfl) (by omega) fun a h=>qc_ h (.t rfl) (by omega) fun a h=>?_)
  refine qj_ h C.vlE (vs:=[d2,.int .i64 x.delta]) (fun n a h=>by simp only [List.map_cons,List.map_nil];rw [Hd.t (l:=_) (i:=41) rfl n a h,Hd.t (l:=_) (i:=42) rfl n a h]) (C.vl x.delta w2 hok.delta.1 hok.delta.2 L d2 _ hg2.dst (Nat.le_trans hL hg2.keeps.size) (by simp only [List.length_append,List.length_cons,List.length_nil];omega)) (by omega) fun e w3 hR3=>?_
  obtain ⟨d3,rfl,hg3⟩:=hR3
  have hK3:=hK2.keep (Gr.kp hg2.dst hg3) not_ge
  exact ⟨d3,rfl,fun a h=>qa_ h (.t rfl) (by omega) fun a h=>wpList_nil (hQ _ _ d3 (h.pick ⟨rfl,rfl,trivial⟩) (hg2.trans hg3) hK3)⟩
 have rest:∀ (a:Act) (w3:World) (d3:Value),St 98 a [(0,pt B 0),(1,d3)]->Gr L S.tU8 d0 W d3 (bs++vint x.len++[UInt8.ofNat (x.att % 256).toNat]++vint x.delta) w3->KrAt w3 L B x kv vv hv ->
   NWP P (.seq (.seq (rg (rApp_9 S N)) (rg (rApp_10 S N))) (.seq (.seq (rg (rApp_11 S N)) (rg (rApp_12 S N))) (.seq (.seq (rg (rApp_13 S N)) (rg (rApp_14 S N))) (.seq (.seq (rg (rApp_15 S N)) (.seq (rg (rApp_16 S N)) (.seq (rg (rApp_17 S N)) (.block 0 (.loop (.seq (rg (rApp_18 S N)) (.seq (.cond (tm 77) .skip (.exit 0)) (.seq (.block 1 (.seq (rg (rApp_19 S N)) (.seq (rg (rApp_20 S N)) (.seq (.seq (rg (rApp_21 S N)) (rg (rApp_22 S N))) (.seq (rg (rApp_23 S N)) (rg (rApp_24 S N))))))) (rg (rApp_25 S N)))))))))) (.seq (rg (rApp_26 S N)) .ret)))))
    (Rt (fun a' w'=>a'.defers=[]/\∃ d',Ending.returned (retOf [4] a')=.returned d'/\Gr L S.tU8 d0 W d' (bs++recB x) w') (fun a' w'=>a'.defers=[]/\∃ d',Ending.returned (retOf [4] a')=.returned d'/\Gr L S.tU8 d0 W d' (bs++recB x) w')) a w3:=by
  intro a w3 d3 h hg3 hK3
  refine qi_ (qi_ (nrg (qc_ h (.t rfl) (by omega) fun a h=>qw_ h (.t rfl) (by omega) fun a h=>qz_ h (.t rfl) R.k4 (by omega) fun a h=>qm_ h (.t rfl) R.k4.var (hK3.cells.at (j:=4) rfl) (by omega) fun a h=>qa_ h (.t rfl) (by omega) fun a h=>wpList_nil ?_)))
  refine nrg (qc_ h (.t rfl) (by omega) fun a h=>qc_ h (.t rfl) (by omega) fun a h=>?_)
  refine qj_ h C.vi.1 (vs:=[d3,.int .i32 x.off]) (fun n a h=>by simp only [List.map_cons,List.map_nil];rw [Hd.t (l:=_) (i:=48) rfl n a h,Hd.t (l:=_) (i:=49) rfl n a h]) (C.vi.2 x.off w3 hok.off.1 hok.off.2 L d3 _ hg3.dst (Nat.le_trans hL hg3.keeps.size) (by simp only [List.length_append,List.length_cons,List.length_nil];omega)) (by omega) fun e w4 hR4=>?_
  obtain ⟨d4,rfl,hg4⟩:=hR4
  have hK4:=hK3.keep (Gr.kp hg3.dst hg4) not_ge
  have hg4:=hg3.trans hg4
  refine ⟨d4,rfl,fun a h=>qa_ h (.t rfl) (by omega) fun a h=>wpList_nil ?_⟩
  have h:St 98 a [(0,pt B 0),(1,d4)]:=h.pick ⟨rfl,rfl,trivial⟩
  refine qi_ (qi_ (nrg (qc_ h (.t rfl) (by omega) fun a h=>qw_ h (.t rfl) (by omega) fun a h=>qz_ h (.t rfl) R.k5 (by omega) fun a h=>qm_ h (.t rfl) R.k5.var (hK4.cells.at (j:=5) rfl) (by omega) fun a h=>qa_ h (.t rfl) (by omega) fun a h=>wpList_nil ?_)))
  refine nrg (qc_ h (.t rfl) (by omega) fun a h=>qc_ h (.t rfl) (by omega) fun a h=>?_)
  refine qj_ h C.vbE (vs:=[d4,kv]) (fun n a h=>by simp only [List.map_cons,List.map_nil];rw [Hd.t (l:=_) (i:=55) rfl n a h,Hd.t (l:=_) (i:=56) rfl n a h]) (C.vb x.key kv w4 L hok.key hK4.key d4 _ hg4.dst (Nat.le_trans hL hg4.keeps.size) (by simp only [List.length_append,List.length_cons,List.length_nil];omega)) (by omega) fun e w5 hR5=>?_
  obtain ⟨d5,rfl,hg5⟩:=hR5
  have hK5:=hK4.keep (Gr.kp hg4.dst hg5) not_ge
  have hg5:=hg4.trans hg5
  refine ⟨d5,rfl,fun a h=>qa_ h (.t rfl) (by omega) fun a h=>wpList_nil ?_⟩
  have h:St 98 a [(0,pt B 0),(1,d5)]:=h.pick ⟨rfl,rfl,trivial⟩
  refine qi_ (qi_ (nrg (qc_ h (.t rfl) (by omega) fun a h=>qw_ h (.t rfl) (by omega) fun a h=>qz_ h (.t rfl) R.k6 (by omega) fun a h=>qm_ h (.t rfl) R.k6.var (hK5.cells.at (j:=6) rfl) (by omega) fun a h=>qa_ h (.t rfl) (by omega) fun a h=>wpList_nil ?_)))
  refine nrg (qc_ h (.t rfl) (by omega) fun a h=>qc_ h (.t rfl) (by omega) fun a h=>?_)
  refine qj_ h C.vbE (vs:=[d5,vv]) (fun n a h=>by simp only [List.map_cons,List.map_nil];rw [Hd.t (l:=_) (i:=62) rfl n a h,Hd.t (l:=_) (i:=63) rfl n a h]) (C.vb x.val vv w5 L hok.val hK5.val d5 _ hg5.dst (Nat.le_trans hL hg5.keeps.size) (by simp only [List.length_append,List.length_cons,List.length_nil];omega)) (by omega) fun e w6 hR6=>?_
  obtain ⟨d6,rfl,hg6⟩:=hR6
  have hK6:=hK5.keep (Gr.kp hg5.dst hg6) not_ge
  have hg6:=hg5.trans hg6
  refine ⟨d6,rfl,fun a h=>qa_ h (.t rfl) (by omega) fun a h=>wpList_nil ?_⟩
  have h:St 98 a [(0,pt B 0),(1,d6)]:=h.pick ⟨rfl,rfl,trivial⟩
  obtain ⟨⟨bx,cx,hlv⟩,_⟩:=hK6.hs
  have hcnt:=hok.cnt
  refine qi_ (qi_ (nrg (qc_ h (.t rfl) (by omega) fun a h=>qw_ h (.t rfl) (by omega) fun a h=>qz_ h (.t rfl) R.k7 (by omega) fun a h=>qm_ h (.t rfl) R.k7.var (hK6.cells.at (j:=7) rfl) (by omega) fun a h=>qa_ h (.t rfl) (by omega) fun a h=>wpList_nil ?_)))
  refine qi_ (nrg (qc_ h (.t rfl) (by omega) fun a h=>qc_ h (.t rfl) (by omega) fun a h=>?_))
  have h':=h
  rw [hlv] at h'
  refine st_len h' (.t rfl) R.dKHs (by omega) fun a h=>jb_ h (.t rfl) R.dInt R.dI32 (by omega) fun a h=>?_
  rw [wrap_i32 hcnt,<- hlv] at h
  refine qj_ h C.vi.1 (vs:=[d6,.int .i32 (x.hs.length:Int)]) (fun n a h=>by simp only [List.map_cons,List.map_nil];rw [Hd.t (l:=_) (i:=69) rfl n a h,Hd.t (l:=_) (i:=72) rfl n a h]) (C.vi.2 x.hs.length w6 (by omega) (by omega) L d6 _ hg6.dst (Nat.le_trans hL hg6.keeps.size) (by simp only [List.length_append,List.length_cons,List.length_nil];omega)) (by omega) fun e w7 hR7=>?_
  obtain ⟨d7,rfl,hg7⟩:=hR7
  have hK7:=hK6.keep (Gr.kp hg6.dst hg7) not_ge
  have hg7:=hg6.trans hg7
  refine ⟨d7,rfl,fun a h=>qa_ h (.t rfl) (by omega) fun a h=>wpList_nil ?_⟩
  have h:St 98 a [(1,d7),(11,hv)]:=h.pick ⟨rfl,rfl,trivial⟩
  refine ka_loop R C hok (total:=bs++recB x) (by simpa using hlim) hd0 hL hg7 hK7 ?_ h fun a' w' d' h' hg'=>?_
  ·simp only [recB,restB,List.append_assoc]
  ·refine qi_ (nrg (qc_ h' (.t rfl) (by omega) fun a h=>qa_ h (.t rfl) (by omega) fun a h=>wpList_nil (.ret ?_)))
   exact ret1 (RR:=fun e w'=>∃ d',e=.returned d'/\Gr L S.tU8 d0 W d' (bs++recB x) w') h rfl ⟨d',rfl,hg'⟩
 refine st_if h rfl (fun hb=>?_) (fun hb=>?_)
 ·have hz:x.delta=0:=by simpa [cmpB] using hb
  refine nrg (qc_ h (.t rfl) (by omega) fun a h=>qw_ h (.t rfl) (by omega) fun a h=>qz_ h (.t rfl) R.k2 (by omega) fun a h=>qm_ h (.t rfl) R.k2.var (hK2.cells.at (j:=2) rfl) (by omega) fun a h=>jb_ h (.t rfl) R.dI32 R.dI64 (by omega) fun a h=>qa_ h (.t rfl) (by omega) fun a h=>wpList_nil ?_)
  have hw:IntKind.i64.wrap (0:Int)=x.delta:=by rw [hz];rfl
  rw [hw] at h
  exact time a (h.pick ⟨rfl,rfl,rfl,trivial⟩) _ fun a' w' d' h' hg' hK'=>rest a' w' d' h' hg' hK'
 ·exact .skip (time a (h.pick ⟨rfl,rfl,rfl,trivial⟩) _ fun a' w' d' h' hg' hK'=>rest a' w' d' h' hg' hK')
end
end Go.Proofs.Ytlnmiphokmhajaa.Kx

namespace Go.Proofs.Ytlnmiphokmhajaa.Kx
open Go
set_option maxRecDepth 4000
def NulC (P:Program) (N:RN):Prop:=Ent P N.fNull/\∀ (o:Oc) (cs:List Value) (w:World),OcAt w cs o->o.2.length<=LIM->Calls P N.fNull [.agg cs.toArray].toArray w fun e w'=>∃ v,e=.returned v/\NvX w' (fun k=>k < w.heap.size) v o/\qd_ (fun _=>False) w w'
section
variable {P:Program} {S:SN} {N:RN}
section
variable {Q:Exit->Act->World->Prop} {r:List Oper} {n:Nat} {a:Act} {w:World} {l:List (Nat × Value)} {I:World->Prop}
theorem sl_val (h:St n a l) (hI:I w) {d:Nat} {op:Op} {v:Value} {w':World} (hrun:(execOp a.eval (mk (some d) op)).run P w=.ok (.value v) w') (hd:d < n) (c:∀ a',St n a' ((d,v) :: l)->wpLd P I Q r a' w'):wpLd P I Q (mk (some d) op :: r) a w:=by
 refine ⟨hI,?_⟩
 unfold Oper.wp
 rw [hrun]
 exact c _ (h.put v hd)
theorem lq_val (h:St n a l) (hI:I w) {d:Nat} {o:Oper} (ho:o.dst=some d) {v:Value} {w':World} (hrun:(execOp a.eval o).run P w=.ok (.value v) w') (hd:d < n) (c:∀ a',St n a' ((d,v) :: l)->wpLq P I Q r a' w'):wpLq P I Q (o :: r) a w:=by
 refine ⟨hI,?_⟩
 unfold Oper.wp
 rw [hrun]
 show wpLq P I Q r (a.put o.dst v) w'
 rw [ho]
 exact c _ (h.put v hd)
theorem lq_call (h:St n a l) (hI:I w) {d f:Nat} {args:List Operand} {vs:List Value} {R:Ending->World->Prop} (hf:Ent P f) (hargs:∀ (n:Nat) (a:Act),St n a l->args.map a.eval=vs) (hc:Calls P f vs.toArray w R) (hd:d < n)
  (c:∀ e w',R e w'->∃ v,e=.returned v/\∀ a',St n a' ((d,v) :: l)->wpLq P I Q r a' w'):wpLq P I Q (cl (some d) f args :: r) a w:=by
 refine ⟨hI,?_⟩
 unfold Oper.wp
 have:(execOp a.eval (cl (some d) f args)).run P w=.ok (.enter f vs.toArray) w:=by
  have he:a.eval (.func f)=.func (.func f) #[] #[]:=rfl
  have ha:=hargs n a h
  have ha2:(args.map a.eval).toArray=vs.toArray:=by rw [ha]
  simp only [cl,execOp,mk,resolve,he,Deferred.ofValue,invoke,Sem.run_bind,Sem.run_pure,Result.andThen_ok,Array.empty_append,Array.append_empty,List.map_toArray,ha2]
  exact hf _ _
 rw [this]
 exact hc.mono fun e w' hR=>by
  obtain ⟨v,rfl,hk⟩:=c e w' hR
  exact hk _ (h.put _ hd)
theorem lq_last (hI:I w) {o:Oper} (ho:o.dst=none) {w':World} (hrun:(execOp a.eval o).run P w=.ok .skip w') (c:Q .normal a w'):wpLq P I Q [o] a w:=by
 refine ⟨hI,?_⟩
 unfold Oper.wp
 rw [hrun]
 show Q .normal (a.put o.dst undef) w'
 rw [ho]
 exact c
theorem ndrl {l':List Oper} {R:Exit->Act->World->Prop} (loud:List Bool) (I:World->Prop) (hl:q2_ l'=loud) (h:evF P I (qt_ l' loud) a (fun af=>wpLq P I R (qh_ l' loud) af w.drew)):NWP P (.region 3 l'.toArray true) R a w:=.drl I (by rw [hl];exact h)
theorem se_nilCheck {K:Act->Prop} (h:St n a l) {d B O:Nat} {x:Operand} (hx:Hd l x (pt B O)) (hd:d < n) (c:∀ a',St n a' ((d,pt B O) :: l)->evF P I r a' K):evF P I (mk (some d) (.nilCheck x) :: r) a K:=
 ev_nilCheck (hx n a h) (c _ (h.put _ hd))
end
theorem nulC_of (R:Ref0 P S N) (hfn:FnIs P N.fNull 9 [2] (cRNull S N)):NulC P N:=⟨hfn.ent,fun _ _ _ ho hlim=>nul_calls R hfn ho hlim⟩
def MadeAt (w:World) (X:Nat->Prop) (es:List (Value × Value)) (hs:List (Bs × Oc)):Prop:=es.length=hs.length/\∀ (j:Nat) (e:Value × Value) (h:Bs × Oc),es[j]?=some e->hs[j]?=some h->e.1=.string ⟨h.1.toArray⟩/\NvX w X e.2 h.2
theorem MadeAt.keep {w w':World} {X Y:Nat->Prop} {es:List (Value × Value)} {hs:List (Bs × Oc)} (h:MadeAt w X es hs) (hk:qd_ Y w w') (hX:∀ k,Y k->X k):MadeAt w' X es hs:=
 ⟨h.1,fun j e y he hy=>⟨(h.2 j e y he hy).1,(h.2 j e y he hy).2.keep hk hX⟩⟩
theorem MadeAt.mono {w:World} {X Y:Nat->Prop} {es:List (Value × Value)} {hs:List (Bs × Oc)} (h:MadeAt w X es hs) (hXY:∀ k,k < w.heap.size->Y k->X k):MadeAt w Y es hs:=
 ⟨h.1,fun j e y he hy=>⟨(h.2 j e y he hy).1,(h.2 j e y he hy).2.mono hXY⟩⟩
theorem MadeAt.snoc {w:World} {X:Nat->Prop} {es:List (Value × Value)} {hs:List (Bs × Oc)} (h:MadeAt w X es hs) {e:Value × Value} {y:Bs × Oc} (h1:e.1=.string ⟨y.1.toArray⟩) (h2:NvX w X e.2 y.2):MadeAt w X (es++[e]) (hs++[y]):=by
 refine ⟨by simp [h.1],fun j f z hf hz=>?_⟩
 by_cases hj:j < es.length
 ·rw [List.getElem?_append_left hj] at hf
  rw [List.getElem?_append_left (by rw [<- h.1];exact hj)] at hz
  exact h.2 j f z hf hz
 ·rw [List.getElem?_append_right (by omega)] at hf
  rw [List.getElem?_append_right (by rw [<- h.1];omega),<- h.1] at hz
  generalize j - es.length=q at hf hz
  cases q with
  | zero=>simp at hf hz;subst hf;subst hz;exact ⟨h1,h2⟩
  | succ q=>simp at hf
end
end Go.Proofs.Ytlnmiphokmhajaa.Kx

namespace Go.Proofs.Ytlnmiphokmhajaa.Kx
open Go
set_option maxRecDepth 4000
section
variable {P:Program} {S:SN} {N:RN}
theorem run_store {a:Act} {w:World} {x y:Operand} {F:TypeId} {g o:Nat} {cur:Array Value} {t:TypeId} {v:Value} {vs:List Value} (hx:a.eval x=.pointer (some ⟨g,o,none⟩)) (hy:a.eval y=v)
  (hv:v.cells.toList=vs) (hF:(sizeOf F).run P w=.ok vs.length w) (hg:w.heap[g]?=some (.cells cur t (0,0))) (ho:o + vs.length<=cur.size) (h1:∀ u ∈ vs,u.oneCell'=true) :
  (execOp a.eval (mk none (.store F x y))).run P w=.ok .skip (w.setRow g (q1_ cur o vs)):=by
 have hst:=run_storeCells_at P g o t vs 0 cur w hg (by simpa using ho) h1
 simp only [Nat.add_zero] at hst
 have hsz:v.cells.size=vs.length:=by rw [<- hv];simp
 simp [execOp,mk,hx,hy,Instr.storeAt,Instr.sureAddr,storeVar,hF,hsz,hv,hst,q1_]
def ownX (hv:Value) (B:Nat) (k:Nat):Prop:=hv.ownBlock=some k \/ k=B
theorem mk_loop (R:Ref0 P S N) (Nu:NulC P N) {x:Rec} (hok:RecOk x) (hcnt:x.hs.length<=1000) {W w0:World} {A B:Nat} {dv kv vv hv0:Value} (hWB:W.heap.size<=A) (hAB:A < B) (hf0:Fa0 W w0) (hbox:w0.heap[B]?=some (.cells (q0_ x kv vv nilS).toArray N.tKR (0,0)))
  (hhs:RowRp W 3 (HdAt W) hv0 x.hs) (hA:w0.cell? ⟨A,8,none⟩=some hv0) {a:Act} (h:St 51 a [(0,dv),(3,pt A 0),(5,pt B 0)]) {RR:Exit->Act->World->Prop}
  (hR:∀ a' w' hv es,St 51 a' [(0,dv),(5,pt B 0)]->qd_ (fun k=>B<=k) w0 w'->w'.heap[B]?=some (.cells (q0_ x kv vv hv).toArray N.tKR (0,0))->HsAt w' (B + 1) N.tKH hv es->MadeAt w' (ownX hv B) es x.hs->RR .normal a' w') :
  NWP P (.seq (rg (rMk_2 S N)) (.block 0 (.loop (.seq (rg (rMk_3 S N)) (.seq (.cond (tm 28) .skip (.exit 0)) (.seq (.block 1 (.seq (rg (rMk_4 S N)) (.region 3 (rMk_5 S N).toArray true))) (rg (rMk_6 S N)))))))) RR a w0:=by
 obtain ⟨bx,cx,hlv,_,hxm,_⟩:=hhs.form
 refine qi_ (nrg (qz_ h (.t rfl) R.r6 (by omega) fun a h=>qm_ h (.t rfl) R.r6.var (by simpa using hA) (by omega) fun a h=>?_))
 have h':=h
 rw [hlv] at h'
 refine st_len h' (.t rfl) R.dHs (by omega) fun a h=>qc_ h .i (by omega) fun a h=>wpList_nil ?_
 rw [<- hlv] at h
 refine st_loop (fun m a' w'=>∃ (i:Nat) (hv:Value) (es:List (Value × Value)),i + m=x.hs.length/\qd_ (fun k=>B<=k) w0 w'/\w'.heap[B]?=some (.cells (q0_ x kv vv hv).toArray N.tKR (0,0))/\HsAt w' (B + 1) N.tKH hv es/\MadeAt w' (ownX hv B) es (x.hs.take i) /\
   St 51 a' [(0,dv),(5,pt B 0),(25,hv0),(26,.int .i64 (x.hs.length:Int)),(27,.int .i64 (i:Int))]) x.hs.length
  ⟨x.hs.length,Nat.le_refl _,0,nilS,[],by omega,qd_.refl _ _,hbox,.inl ⟨rfl,rfl⟩,⟨rfl,fun j e y he _=>by simp at he⟩,h.pick ⟨rfl,rfl,rfl,rfl,rfl,trivial⟩⟩ ?_
 rintro m a w hm ⟨i,hv,es,him,hk,hb,hes,hmd,h⟩
 refine qi_ (nrg (st_cmp h rfl (.t rfl) (.t rfl) (by omega) fun a h=>wpList_nil ?_))
 refine st_test h rfl (fun hbb=>?_) (fun hbb=>?_)
 ·have hlt:i < x.hs.length:=by simp [cmpB] at hbb;omega
  obtain ⟨y,hy⟩:∃ y,x.hs[i]?=some y:=⟨_,List.getElem?_eq_getElem hlt⟩
  obtain ⟨b,o,c,cs,hv',hl3,hcs,hy2⟩:=hhs.get hy
  have hyl:=hok.hs y (List.mem_of_getElem? hy)
  have hF:Fa0 W w:=hf0.up hk fun k hk=>by omega
  have hone:=hy2.one
  refine .skip (qi_ (.block (qi_ (nrg ?_))))
  have h':=h
  rw [hv'] at h'
  refine st_index h' (sz:=3) (.t rfl) (.t rfl) hlt R.dHs R.vH.size (by omega) fun a h=>ja_ h (cs:=cs) (.t rfl) (by rw [hl3];exact R.vH) (hF.cells hcs) (by omega) fun a h=>?_
  refine st_newvar h (cs:=cs) R.zH (by rw [hl3];rfl) (fun v=>.t rfl) (fun w=>by rw [hl3];exact R.vH.size w) hone (by omega) fun w2 a hk2 hc2 h=>wpList_nil ?_
  rw [<- hv'] at h
  have hF2:Fa0 W w2:=hF.kn hk2
  obtain ⟨sv,hcs2,hsv,hkl⟩:=hy2
  subst hcs2
  obtain ⟨yk,yn,yb⟩:=y
  dsimp only at hsv hkl hyl hc2 h ⊢
  have hb2:w2.heap[B]?=some (.cells (q0_ x kv vv hv).toArray N.tKR (0,0)):=by rw [hk2.block B (Array.getElem?_eq_some_iff.1 hb).1 id];exact hb
  have hes2:=hes.keep hk2 fun _ _ h=>h
  have hBw:B < w.heap.size:=(Array.getElem?_eq_some_iff.1 hb).1
  have hw2:=hk2.size
  have hcell7:∀ w',qd_ (fun k=>hv.ownBlock=some k) w2 w'->w'.cell? ⟨B,0 + 7,none⟩=some hv:=fun w' hI=>by
   refine hI.cell (fun hX=>?_) ?_
   ·have:=(hes.own hX).1;omega
   ·simp [World.cell?,hb2,q0_]
  have hT7:∀ w',qd_ (fun k=>hv.ownBlock=some k) w2 w'->qf_ w' w.heap.size 0 [.string ⟨yk.toArray⟩,.bool yn,sv]:=fun w' hI=>cellsAt_keep hc2 hI fun hX=>by have:=(hes.own hX).2;omega
  refine ndrl [false,false,false,false,false,false,false,false,false,true,true,true,true,false,false,true] (fun w'=>qd_ (fun k=>hv.ownBlock=some k) w2 w') (by kernel_rfl) ?_
  show evF P _ [mk (some 31) (.move (tm 5)),mk (some 32) (.move (tm 5)),mk (some 33) (.nilCheck (tm 32)),mk (some 34) (.fieldAddr N.tKR (tm 33) 7),mk (some 35) (.load N.tKHs (tm 34)),mk (some 36) (.fieldAddr N.tH (tm 7) 0),mk (some 37) (.load N.tStr (tm 36)),mk (some 38) (.fieldAddr N.tH (tm 7) 1),mk (some 39) (.load N.tOc (tm 38)),mk (some 44) (.nilCheck (tm 31)),mk (some 45) (.fieldAddr N.tKR (tm 44) 7)] a
   fun af=>wpLq P _ _ [cl (some 40) N.fNull [(tm 39)],mk (some 41) (.build N.tKH #[(0,(tm 37)),(1,(tm 40))]),mk (some 42) (.buildSlice N.tKHs 1 #[(0,(tm 41))]),bi (some 43) .append [(tm 35),(tm 42)] [N.tKHs,N.tKHs] N.tKHs,mk none (.store N.tKHs (tm 45) (tm 43))] af w2.drew
  refine se_move h (.t rfl) (by omega) fun a h=>se_move h (.t rfl) (by omega) fun a h=>se_nilCheck h (.t rfl) (by omega) fun a h=>se_fld h (.t rfl) R.k7 (by omega) fun a h=>q5_ h (.t rfl) R.k7.var hcell7 (by omega) fun a h=>?_
  refine se_fld h (.t rfl) R.h0 (by omega) fun a h=>q5_ h (.t rfl) R.h0.var (fun w' hI=>(hT7 w' hI).at (j:=0) rfl) (by omega) fun a h=>?_
  refine se_fld h (.t rfl) R.h1 (by omega) fun a h=>se_loadN h (cs:=[.bool yn,sv]) (.t rfl) R.h1.var (fun w' hI=>(hT7 w' hI).part (k:=1) fun j c hj=>by rcases j with _ | _ | j;exact hj;exact hj;cases hj) (by omega) fun a h=>?_
  refine se_nilCheck h (.t rfl) (by omega) fun a h=>se_fld h (.t rfl) R.k7 (by omega) fun a h=>se_nil ?_
  have hI0:qd_ (fun k=>hv.ownBlock=some k) w2 w2.drew:=qd_.drew _ _
  have hdz:w2.drew.heap.size=w2.heap.size:=rfl
  refine lq_call h hI0 Nu.1 (vs:=[.agg [.bool yn,sv].toArray]) (fun n a h=>by simp only [List.map_cons,List.map_nil];rw [Hd.t (l:=_) (i:=39) rfl n a h]) (Nu.2 (yn,yb) _ w2.drew ⟨sv,rfl,OcX.far hsv (hF2.kn (qd_.drew _ _))⟩ (by simp only [LIM];omega)) (by omega) fun e w3 hR3=>?_
  obtain ⟨nv,rfl,hnv,hk3⟩:=hR3
  have hI3:qd_ (fun k=>hv.ownBlock=some k) w2 w3:=hI0.trans (hk3.mono fun _ _ h=>h.elim)
  obtain ⟨m1,n1,c1,hnf⟩:=hnv.form
  refine ⟨nv,rfl,fun a h=>?_⟩
  rw [hnf] at h
  have h37:=Hd.t (l:=_) (i:=37) rfl _ _ h
  have h40:=Hd.t (l:=_) (i:=40) rfl _ _ h
  refine lq_val h hI3 rfl (v:=.agg #[.string ⟨yk.toArray⟩,.slice m1 n1 c1]) (w':=w3) (by simp [execOp,mk,h37,h40,R.bKH]) (by omega) fun a h=>?_
  have h41:=Hd.t (l:=_) (i:=41) rfl _ _ h
  refine lq_val h hI3 rfl (v:=.slice (some ⟨w3.heap.size,0,none⟩) 1 1) (w':=w3.alloc (.cells #[.string ⟨yk.toArray⟩,.slice m1 n1 c1] N.tKH (0,0))) (by simp [execOp,mk,h41,R.bSH]) (by omega) fun a h=>?_
  have hka:qd_ (fun _=>False) w3 (w3.alloc (.cells #[.string ⟨yk.toArray⟩,.slice m1 n1 c1] N.tKH (0,0))):=qd_.alloc _ _ _
  have hna:=qo_ w3 (.cells #[.string ⟨yk.toArray⟩,.slice m1 n1 c1] N.tKH (0,0))
  generalize w3.alloc (.cells #[.string ⟨yk.toArray⟩,.slice m1 n1 c1] N.tKH (0,0))=w4 at hka hna ⊢
  have hI4:qd_ (fun k=>hv.ownBlock=some k) w2 w4:=hI3.trans (hka.mono fun _ _ h=>h.elim)
  have hsrc:Src P 2 N.tKHs (.slice (some ⟨w3.heap.size,0,none⟩) 1 1) 1 [.string ⟨yk.toArray⟩,.slice m1 n1 c1] w4:=Src.ofSlice w4 R.dKHs ⟨w3.heap.size,0,none⟩ 1 1 _ rfl (fun q u hq=>by
   rw [Addr.add_lit]
   match q,hq with
   | 0,hq=>simp at hq;subst hq;simp [World.cell?,hna]
   | 1,hq=>simp at hq;subst hq;simp [World.cell?,hna]
   | q + 2,hq=>simp at hq) (fun u hu=>by
    simp only [List.mem_cons,List.not_mem_nil,or_false] at hu
    rcases hu with rfl | rfl <;> rfl)
  have h24:qd_ (fun _=>False) w2 w4:=((qd_.drew (fun _=>False) w2).trans hk3).trans hka
  have hes4:HsAt w4 (B + 1) N.tKH hv es:=hes2.keep h24 fun _ _ h=>h
  have hB4:B + 1<=w4.heap.size:=by have:=h24.size;omega
  have hel:es.length<=40000:=by have:=hmd.1;simp only [List.length_take] at this;omega
  obtain ⟨v2,w5,hrun,hes5,hk5,hown5⟩:=run_append_hs R (p:=(.string ⟨yk.toArray⟩,.slice m1 n1 c1)) hes4 hsrc hB4 hel
  have h35:=Hd.t (l:=_) (i:=35) rfl _ _ h
  have h42:=Hd.t (l:=_) (i:=42) rfl _ _ h
  refine lq_val h hI4 rfl (v:=v2) (w':=w5) (by simp [execOp,bi,resolve,invoke,builtin,h35,h42,hrun]) (by omega) fun a h=>?_
  have hI5:qd_ (fun k=>hv.ownBlock=some k) w2 w5:=hI4.trans hk5
  have hb5:w5.heap[B]?=some (.cells (q0_ x kv vv hv).toArray N.tKR (0,0)):=by
   rw [hI5.block B (by omega) (fun hX=>by have:=(hes.own hX).1;omega)]
   exact hb2
  obtain ⟨m2,c2,hv2f,_⟩:=hes5.form
  refine lq_last hI5 rfl (w':=w5.setRow B (q1_ (q0_ x kv vv hv).toArray (0 + 7) [v2])) (run_store (v:=v2) (vs:=[v2]) (g:=B) (o:=0 + 7) (Hd.t (l:=_) (i:=45) rfl _ _ h) (Hd.t (l:=_) (i:=43) rfl _ _ h) (by rw [hv2f];rfl) (R.vKHs.size _) hb5 (by simp [q0_]) (by rw [hv2f];intro u hu;simp at hu;subst hu;rfl)) ?_
  have hsp:q1_ (q0_ x kv vv hv).toArray (0 + 7) [v2]=(q0_ x kv vv v2).toArray:=by simp [q1_,q0_]
  rw [hsp]
  have hkS:qd_ (fun k=>k=B) w5 (w5.setRow B (q0_ x kv vv v2).toArray):=qd_.setRow _ _ _ _ rfl
  have hb6:(w5.setRow B (q0_ x kv vv v2).toArray).heap[B]?=some (.cells (q0_ x kv vv v2).toArray N.tKR (0,0)):=setRow_heap _ _ _ _ _ _ hb5
  have hv2B:∀ k,v2.ownBlock=some k->k ≠ B:=fun k hk=>by have:=(hes5.own hk).1;omega
  have hes6:HsAt (w5.setRow B (q0_ x kv vv v2).toArray) (B + 1) N.tKH v2 (es++[(.string ⟨yk.toArray⟩,.slice m1 n1 c1)]):=hes5.keep hkS fun k hk=>hv2B k hk
  have hm2:MadeAt w4 (fun k=>ownX hv B k \/ w4.heap.size<=k) (es++[(.string ⟨yk.toArray⟩,.slice m1 n1 c1)]) (x.hs.take i++[(yk,yn,yb)]):=by
   refine MadeAt.snoc ?_ rfl ?_
   ·have:=(hmd.keep (hk2.trans h24) fun _ h=>h.elim).mono (Y:=fun k=>ownX hv B k \/ w4.heap.size<=k) fun k hk hX=>by
     rcases hX with hX | hX
     ·exact hX
     ·omega
    exact this
   ·have h1:NvX w4 (fun k=>k < w2.drew.heap.size) nv (yn,yb):=hnv.keep hka fun _ h=>h.elim
    rw [<- hnf]
    refine h1.mono fun k hk hX=>?_
    rcases hX with (hX | hX) | hX
    ·have:=(hes2.own hX).2;omega
    ·omega
    ·omega
  have hm5:MadeAt w5 (fun k=>ownX hv B k \/ w4.heap.size<=k) (es++[(.string ⟨yk.toArray⟩,.slice m1 n1 c1)]) (x.hs.take i++[(yk,yn,yb)]):=hm2.keep hk5 fun k hk=>.inl (.inl hk)
  have hm6:MadeAt (w5.setRow B (q0_ x kv vv v2).toArray) (ownX v2 B) (es++[(.string ⟨yk.toArray⟩,.slice m1 n1 c1)]) (x.hs.take (i + 1)):=by
   have e:x.hs.take (i + 1)=x.hs.take i++[(yk,yn,yb)]:=by rw [List.take_add_one,hy];rfl
   rw [e]
   refine (hm5.keep hkS fun k hk=>.inl (.inr hk)).mono fun k hk hX=>?_
   rcases hX with hX | hX
   ·rcases hown5 k hX with h1 | h1
    ·exact .inl (.inl h1)
    ·exact .inr h1
   ·exact .inl (.inr hX)
  have hk6:qd_ (fun k=>B<=k) w0 (w5.setRow B (q0_ x kv vv v2).toArray):=by
   refine hk.trans ?_
   refine ((hk2.mono fun _ _ h=>h.elim).trans (hI5.mono fun k _ hX=>?_)).trans (hkS.mono fun k _ hX=>?_)
   ·have:=(hes.own hX).1;omega
   ·omega
  refine nrg (st_bin h (.t rfl) .i (by simp) (run_addi _) (by omega) fun a h=>?_)
  have hw:IntKind.i64.wrap ((i:Int) + 1)=((i + 1:Nat):Int):=by simp [IntKind.wrap,IntKind.bits,IntKind.signed];omega
  rw [hw] at h
  refine qc_ h (.t rfl) (by omega) fun a h=>wpList_nil ?_
  exact ⟨m - 1,by omega,by omega,i + 1,v2,_,by omega,hk6,hb6,hes6,hm6,h.pick ⟨rfl,rfl,rfl,rfl,rfl,trivial⟩⟩
 ·have hge:¬ i < x.hs.length:=by simp [cmpB] at hbb;omega
  rw [List.take_of_length_le (by omega)] at hmd
  exact .exit (hR _ _ hv es (h.pick ⟨rfl,rfl,trivial⟩) hk hb hes hmd)
end
end Go.Proofs.Ytlnmiphokmhajaa.Kx

namespace Go.Proofs.Ytlnmiphokmhajaa.Kx
open Go
set_option maxRecDepth 4000
section
variable {P:Program} {S:SN} {N:RN}
def OwnC (P:Program) (S:SN) (N:RN):Prop:=Ent P N.fOwn/\∀ (v:Value) (bs:Bs) (w:World),OcRp w v bs->bs.length<=LIM->Calls P N.fOwn [v].toArray w (jd_ S.tU8 bs w)
def AppC (P:Program) (S:SN) (N:RN):Prop:=Ent P N.fApp/\∀ (L B:Nat) (x:Rec) (kv vv hv:Value) (w:World) (d0:Value) (bs:Bs),RecOk x->KrAt w L B x kv vv hv->qu_ w L S.tU8 d0 bs->L<=w.heap.size->bs.length + (recB x).length<=LIM ->
 Calls P N.fApp [pt B 0,d0].toArray w fun e w'=>∃ d',e=.returned d'/\Gr L S.tU8 d0 w d' (bs++recB x) w'
def MkrC (P:Program) (S:SN) (N:RN):Prop:=Ent P N.fMk/\∀ (x:Rec) (cs:List Value) (dv:Value) (dst:Bs) (W:World),RecAt W cs x->RecOk x->x.hs.length<=1000->OcRp W dv dst->dst.length + (recB x).length<=LIM ->
 Calls P N.fMk [dv,.agg cs.toArray].toArray W (jd_ S.tU8 (dst++recB x) W)
theorem mk_calls (R:Ref0 P S N) (Nu:NulC P N) (Ow:OwnC P S N) (Ap:AppC P S N) (hfn:FnIs P N.fMk 51 [4] (cRMk S N)):MkrC P S N:=by
 refine ⟨hfn.ent,fun x cs dv dst W hx hok hcnt hdv hlim=>?_⟩
 obtain ⟨kv0,vv0,hv0,rfl,hkv,hvv,hhs,hl,ha,hd0,ho⟩:=hx
 have hkl:=hok.key
 have hvl:=hok.val
 refine q3_ R.mixed hfn (by simp) _ (by simp) fun a h=>?_
 unfold cRMk
 refine qi_ (nrg (st_box h (.t rfl) (by omega) fun a h=>?_))
 have hk:qd_ (fun _=>False) W (W.alloc (.cells [.int .i32 x.len,.int .i8 x.att,.int .i64 x.delta,.int .i32 x.off,.bool x.key.1,kv0,.bool x.val.1,vv0,hv0].toArray N.tR (0,0))):=qd_.alloc _ _ _
 have hB:=q4_ W [.int .i32 x.len,.int .i8 x.att,.int .i64 x.delta,.int .i32 x.off,.bool x.key.1,kv0,.bool x.val.1,vv0,hv0] N.tR
 generalize W.alloc (.cells [.int .i32 x.len,.int .i8 x.att,.int .i64 x.delta,.int .i32 x.off,.bool x.key.1,kv0,.bool x.val.1,vv0,hv0].toArray N.tR (0,0))=w at hk hB ⊢
 have hf:Fa0 W w:=Fa0.of hk
 refine qa_ h .c (by omega) fun a h=>wpList_nil ?_
 refine qi_ (ndrw [false,false,false,false,false,false,false,false,false,false,true,false,false,true,true,true,true] (fun w'=>Fa0 w w') (by kernel_rfl) ?_)
 show evF P _ [mk (some 8) (.fieldAddr N.tR (tm 3) 0),mk (some 9) (.load N.tI32 (tm 8)),mk (some 10) (.fieldAddr N.tR (tm 3) 1),mk (some 11) (.load N.tI8 (tm 10)),mk (some 12) (.fieldAddr N.tR (tm 3) 2),mk (some 13) (.load S.tI64 (tm 12)),mk (some 14) (.fieldAddr N.tR (tm 3) 3),mk (some 15) (.load N.tI32 (tm 14)),mk (some 16) (.fieldAddr N.tR (tm 3) 4),mk (some 17) (.load N.tOc (tm 16)),mk (some 19) (.fieldAddr N.tR (tm 3) 5),mk (some 20) (.load N.tOc (tm 19))] a
  fun af=>wpLd P _ _ [cl (some 18) N.fNull [(tm 17)],cl (some 21) N.fNull [(tm 20)],mk (some 22) (.build N.tKR #[(0,(tm 9)),(1,(tm 11)),(3,(tm 13)),(4,(tm 15)),(5,(tm 18)),(6,(tm 21))]),mk (some 23) (.box N.tKR (tm 22)),mk (some 5) (.assign (tm 23))] af w.drew
 refine se_fld h (.t rfl) R.r0 (by omega) fun a h=>q5_ h (.t rfl) R.r0.var (fun w' hI=>Fa0.cell hI (hB.at (j:=0) rfl)) (by omega) fun a h=>se_fld h (.t rfl) R.r1 (by omega) fun a h=>q5_ h (.t rfl) R.r1.var (fun w' hI=>Fa0.cell hI (hB.at (j:=1) rfl)) (by omega) fun a h=>?_
 refine se_fld h (.t rfl) R.r2 (by omega) fun a h=>q5_ h (.t rfl) R.r2.var (fun w' hI=>Fa0.cell hI (hB.at (j:=2) rfl)) (by omega) fun a h=>se_fld h (.t rfl) R.r3 (by omega) fun a h=>q5_ h (.t rfl) R.r3.var (fun w' hI=>Fa0.cell hI (hB.at (j:=3) rfl)) (by omega) fun a h=>?_
 refine se_fld h (.t rfl) R.r4 (by omega) fun a h=>se_loadN h (cs:=[.bool x.key.1,kv0]) (.t rfl) R.r4.var (fun w' hI=>Fa0.cells hI (hB.part (k:=4) fun j c hj=>by rcases j with _ | _ | j;exact hj;exact hj;cases hj)) (by omega) fun a h=>?_
 refine se_fld h (.t rfl) R.r5 (by omega) fun a h=>se_loadN h (cs:=[.bool x.val.1,vv0]) (.t rfl) R.r5.var (fun w' hI=>Fa0.cells hI (hB.part (k:=6) fun j c hj=>by rcases j with _ | _ | j;exact hj;exact hj;cases hj)) (by omega) fun a h=>se_nil ?_
 have hI0:Fa0 w w.drew:=Fa0.of (qd_.drew _ _)
 refine sl_call h hI0 Nu.1 (vs:=[.agg [.bool x.key.1,kv0].toArray]) (fun n a h=>by simp only [List.map_cons,List.map_nil];rw [Hd.t (l:=_) (i:=17) rfl n a h]) (Nu.2 x.key _ w.drew ⟨kv0,rfl,OcX.far hkv (hf.kn (qd_.drew _ _))⟩ (by simp only [LIM];omega)) (by omega) fun e w2 hR2=>?_
 obtain ⟨kv,rfl,hkn,hk2⟩:=hR2
 have hI2:=hI0.kn hk2
 have hf2:Fa0 W w2:=Fa0.of (hk.trans hI2.keeps)
 refine ⟨kv,rfl,fun a h=>sl_call h hI2 Nu.1 (vs:=[.agg [.bool x.val.1,vv0].toArray]) (fun n a h=>by simp only [List.map_cons,List.map_nil];rw [Hd.t (l:=_) (i:=20) rfl n a h]) (Nu.2 x.val _ w2 ⟨vv0,rfl,OcX.far hvv hf2⟩ (by simp only [LIM];omega)) (by omega) fun e w3 hR3=>?_⟩
 obtain ⟨vv,rfl,hvn,hk3⟩:=hR3
 have hI3:=hI2.kn hk3
 refine ⟨vv,rfl,fun a h=>?_⟩
 obtain ⟨m1,n1,c1,hkf⟩:=hkn.form
 obtain ⟨m2,n2,c2,hvf⟩:=hvn.form
 have h9:=Hd.t (l:=_) (i:=9) rfl _ _ h
 have h11:=Hd.t (l:=_) (i:=11) rfl _ _ h
 have h13:=Hd.t (l:=_) (i:=13) rfl _ _ h
 have h15:=Hd.t (l:=_) (i:=15) rfl _ _ h
 have h18:=Hd.t (l:=_) (i:=18) rfl _ _ h
 have h21:=Hd.t (l:=_) (i:=21) rfl _ _ h
 rw [hkf] at h18
 rw [hvf] at h21
 refine sl_val h hI3 (v:=.agg #[.int .i32 x.len,.int .i8 x.att,.int .i32 0,.int .i64 x.delta,.int .i32 x.off,.slice m1 n1 c1,.slice m2 n2 c2,.slice none 0 0]) (w':=w3) (by simp [execOp,mk,h9,h11,h13,h15,h18,h21,R.bKR]) (by omega) fun a h=>?_
 have h22:=Hd.t (l:=_) (i:=22) rfl _ _ h
 have hrun:(execOp a.eval (mk (some 23) (.box N.tKR (tm 22)))).run P w3=.ok (.value (pt w3.heap.size 0)) (w3.alloc (.cells #[.int .i32 x.len,.int .i8 x.att,.int .i32 0,.int .i64 x.delta,.int .i32 x.off,.slice m1 n1 c1,.slice m2 n2 c2,.slice none 0 0] N.tKR (0,0))):=by
  simp [execOp,mk,h22,Instr.box,newVar,newRow,newObj,Sem.run,pt,Value.cells]
 refine sl_val h hI3 hrun (by omega) fun a h=>?_
 have hka:qd_ (fun _=>False) w3 (w3.alloc (.cells #[.int .i32 x.len,.int .i8 x.att,.int .i32 0,.int .i64 x.delta,.int .i32 x.off,.slice m1 n1 c1,.slice m2 n2 c2,.slice none 0 0] N.tKR (0,0))):=qd_.alloc _ _ _
 have hna:(w3.alloc (.cells #[.int .i32 x.len,.int .i8 x.att,.int .i32 0,.int .i64 x.delta,.int .i32 x.off,.slice m1 n1 c1,.slice m2 n2 c2,.slice none 0 0] N.tKR (0,0))).heap[w3.heap.size]?=some (.cells (q0_ x kv vv nilS).toArray N.tKR (0,0)):=by
  rw [hkf,hvf]
  exact qo_ w3 _
 generalize w3.alloc (.cells #[.int .i32 x.len,.int .i8 x.att,.int .i32 0,.int .i64 x.delta,.int .i32 x.off,.slice m1 n1 c1,.slice m2 n2 c2,.slice none 0 0] N.tKR (0,0))=w4 at hka hna ⊢
 have hI4:=hI3.kn hka
 refine sl_assign h hI4 (.t rfl) (by omega) fun a h=>sl_nil hI4 ?_
 have hf4:Fa0 W w4:=Fa0.of (hk.trans hI4.keeps)
 have h23:qd_ (fun _=>False) w w3:=hI3.keeps
 have hs3:=h23.size
 have hsw:W.heap.size < w.heap.size:=lt_of_cell (hB.at (j:=0) rfl)
 have hkB:NvX w4 (fun k=>w3.heap.size<=k) kv x.key:=by
  have:=(hkn.keep (hk3.trans hka) (X:=fun k=>k < w.drew.heap.size) fun _ h=>h.elim)
  have h1:NvX w3 (fun k=>k < w.drew.heap.size) kv x.key:=hkn.keep hk3 fun _ h=>h.elim
  rcases h1 with h1 | ⟨e1,b,q,c,e2,e3,e4,e5⟩
  ·exact .inl h1
  ·exact .inr ⟨e1,b,q,c,e2,fun hh=>by omega,Nat.lt_of_lt_of_le e4 hka.size,e5.keep hka id⟩
 have hvB:NvX w4 (fun k=>w3.heap.size<=k) vv x.val:=by
  rcases hvn with h1 | ⟨e1,b,q,c,e2,e3,e4,e5⟩
  ·exact .inl h1
  ·exact .inr ⟨e1,b,q,c,e2,fun hh=>by omega,Nat.lt_of_lt_of_le e4 hka.size,e5.keep hka id⟩
 refine qi_ (mk_loop R Nu hok hcnt (A:=W.heap.size) (B:=w3.heap.size) (kv:=kv) (vv:=vv) (Nat.le_refl _) (by omega) hf4 hna hhs (by have:=hI4.cell (hB.at (j:=8) rfl);simpa using this) (h.pick (m:=[(0,dv),(3,pt W.heap.size 0),(5,pt w3.heap.size 0)]) ⟨rfl,rfl,rfl,trivial⟩) fun a w5 hv es h hk5 hb5 hes5 hmd5=>?_)
 have hf5:Fa0 W w5:=hf4.up hk5 fun k hk=>by omega
 refine qi_ (nrg (qc_ h (.t rfl) (by omega) fun a h=>qc_ h (.t rfl) (by omega) fun a h=>?_))
 refine qj_ h Ow.1 (vs:=[dv]) (fun n a h=>by simp only [List.map_cons,List.map_nil];rw [Hd.t (l:=_) (i:=48) rfl n a h]) (Ow.2 dv dst w5 (OcX.far hdv hf5) (by omega)) (by omega) fun e w6 hR6=>?_
 obtain ⟨d0,rfl,hd6,hk6⟩:=hR6
 refine ⟨d0,rfl,fun a h=>?_⟩
 have hz6:=hk6.size
 have hb5lt:w3.heap.size < w5.heap.size:=(Array.getElem?_eq_some_iff.1 hb5).1
 have hb6:w6.heap[w3.heap.size]?=some (.cells (q0_ x kv vv hv).toArray N.tKR (0,0)):=by rw [hk6.block _ hb5lt id];exact hb5
 have up:∀ (v:Value) (o:Oc),NvX w4 (fun k=>w3.heap.size<=k) v o->NvAt w6 w5.heap.size v o:=fun v o hv=>by
  rcases hv.keep hk5 (fun _ h=>h) with h1 | ⟨e1,b,q,c,e2,e3,e4,e5⟩
  ·exact .inl h1
  ·exact .inr ⟨e1,b,q,c,e2,e4,Nat.lt_of_lt_of_le e4 hz6,e5.keep hk6 id⟩
 have hK:KrAt w6 w5.heap.size w3.heap.size x kv vv hv:=by
  refine ⟨hb5lt,fun j c hj=>?_,up _ _ hkB,up _ _ hvB,⟨?_,fun i y hy=>?_⟩⟩
  ·simp only [World.cell?,hb6,Nat.zero_add]
   simpa using hj
  ·obtain ⟨b,c,e,_⟩:=hes5.form
   rw [hmd5.1] at e
   exact ⟨b,c,e⟩
  ·have hie:i < es.length:=by rw [hmd5.1];exact (List.getElem?_eq_some_iff.1 hy).1
   obtain ⟨p,hp⟩:∃ p,es[i]?=some p:=⟨_,List.getElem?_eq_getElem hie⟩
   obtain ⟨g,c,e,_,hcs⟩:=hes5.get hp
   obtain ⟨f1,f2⟩:=hmd5.2 i p y hp hy
   have hgl:g < w5.heap.size:=(hes5.own (k:=g) (by rw [e];rfl)).2
   rw [hmd5.1] at e
   refine ⟨g,c,p.2,e,hgl,Nat.lt_of_lt_of_le hgl hz6,?_,?_⟩
   ·rw [<- f1];exact cellsAt_keep hcs hk6 id
   ·rcases f2 with h1 | ⟨e1,b,q,c,e2,e3,e4,e5⟩
    ·exact .inl h1
    ·exact .inr ⟨e1,b,q,c,e2,e4,Nat.lt_of_lt_of_le e4 hz6,e5.keep hk6 id⟩
 refine qj_ h Ap.1 (vs:=[pt w3.heap.size 0,d0]) (fun n a h=>by simp only [List.map_cons,List.map_nil];rw [Hd.t (l:=_) (i:=47) rfl n a h,Hd.t (l:=_) (i:=49) rfl n a h]) (Ap.2 w5.heap.size w3.heap.size x kv vv hv w6 d0 dst hok hK hd6 hz6 hlim) (by omega) fun e w7 hR7=>?_
 obtain ⟨d7,rfl,hg7⟩:=hR7
 refine ⟨d7,rfl,fun a h=>qa_ h (.t rfl) (by omega) fun a h=>wpList_nil (.ret ?_)⟩
 have hf7:Fa0 W w7:=(hf5.kn hk6).up hg7.keeps fun j hj=>Nat.le_trans hf5.size (hd6.own hj).1
 exact ret1 (RR:=jd_ S.tU8 (dst++recB x) W) h rfl (mk_of ((Gr.lower (L':=W.heap.size) hf5.size (Gr.refl hg7.dst)).dst) hf7)
end
end Go.Proofs.Ytlnmiphokmhajaa.Kx

namespace Go.Proofs.Ytlnmiphokmhajaa.Kx
open Go
set_option maxRecDepth 4000
section
variable {P:Program} {S:SN} {N:RN}
def BlC (P:Program) (f:Nat) (args:List Value) (b:Bool) (w:World):Prop:=Calls P f args.toArray w fun e w'=>e=.returned (.bool b)/\qd_ (fun _=>False) w w'
theorem bl_ret {n t:Nat} {a:Act} {w w':World} {l:List (Nat × Value)} {b:Bool} (h:St n a l) (hv:l.lookup t=some (.bool b)) (hk:qd_ (fun _=>False) w w') {c:Bool} (hb:b=c):a.defers=[]/\(Ending.returned (retOf [t] a)=.returned (.bool c)/\qd_ (fun _=>False) w w'):=
 ret1 (RR:=fun e w'=>e=.returned (.bool c)/\qd_ (fun _=>False) w w') h hv ⟨by rw [hb],hk⟩
def M31:Nat:=2147483647
def fitO (o:Oc):Bool:=decide (o.2.length<=M31)
def fitH (h:Bs × Oc):Bool:=decide (h.1.length<=M31) && fitO h.2
def fitHs (hs:List (Bs × Oc)):Bool:=decide (hs.length<=M31) && hs.all fitH
def fitR (x:Rec):Bool:=fitO x.key && (fitO x.val && fitHs x.hs)
theorem z8r_calls (R:Ref0 P S N) (hfn:FnIs P N.fZ8 7 [2] (cRZ8 S N)) {o:Oc} {cs:List Value} (w:World) (ho:OcAt w cs o):BlC P N.fZ8 [.agg cs.toArray] (fitO o) w:=by
 obtain ⟨v,rfl,hv⟩:=ho
 obtain ⟨base,c,hf,_⟩:=OcX.form hv
 subst hf
 refine q3_ R.mixed hfn (by simp) _ (by simp) fun a h=>?_
 unfold cRZ8
 have hk:qd_ (fun _=>False) w (w.alloc (.cells [.bool o.1,.slice base o.2.length c].toArray N.tOc (0,0))):=qd_.alloc _ _ _
 have hc:=q4_ w [.bool o.1,.slice base o.2.length c] N.tOc
 refine qi_ (nrg (st_box h (cs:=[.bool o.1,.slice base o.2.length c]) (.t rfl) (by omega) fun a h=>qa_ h .c (by omega) fun a h=>wpList_nil ?_))
 generalize w.alloc (.cells [.bool o.1,.slice base o.2.length c].toArray N.tOc (0,0))=w1 at hk hc ⊢
 refine qi_ (qi_ (nrg (qz_ h (.t rfl) R.o1 (by omega) fun a h=>qm_ h (.t rfl) R.o1.var (hc.at (j:=1) rfl) (by omega) fun a h=>st_len h (.t rfl) R.oct.und (by omega) fun a h=>st_cmp h rfl (.t rfl) .i (by omega) fun a h=>wpList_nil ?_)))
 refine st_if h rfl (fun hb=>?_) (fun hb=>?_)
 ·exact qi_ (nrg (qa_ h .c (by omega) fun a h=>wpList_nil (.ret (bl_ret h rfl hk (decide_eq_false (p:=o.2.length<=M31) (by simp [cmpB] at hb;simp only [M31];omega)).symm))))
 ·exact .skip (qi_ (nrg (qa_ h .c (by omega) fun a h=>wpList_nil (.ret (bl_ret h rfl hk (decide_eq_true (p:=o.2.length<=M31) (by simp [cmpB] at hb;simp only [M31];omega)).symm)))))
theorem z7r_calls (R:Ref0 P S N) (h8:FnIs P N.fZ8 7 [2] (cRZ8 S N)) (hfn:FnIs P N.fZ7 11 [2] (cRZ7 S N)) {y:Bs × Oc} {cs:List Value} (w:World) (hy:HdAt w cs y):BlC P N.fZ7 [.agg cs.toArray] (fitH y) w:=by
 obtain ⟨v,rfl,hv,hkl⟩:=hy
 refine q3_ R.mixed hfn (by simp) _ (by simp) fun a h=>?_
 unfold cRZ7
 have hk:qd_ (fun _=>False) w (w.alloc (.cells [.string ⟨y.1.toArray⟩,.bool y.2.1,v].toArray N.tH (0,0))):=qd_.alloc _ _ _
 have hc:=q4_ w [.string ⟨y.1.toArray⟩,.bool y.2.1,v] N.tH
 refine qi_ (nrg (st_box h (cs:=[.string ⟨y.1.toArray⟩,.bool y.2.1,v]) (.t rfl) (by omega) fun a h=>qa_ h .c (by omega) fun a h=>wpList_nil ?_))
 generalize w.alloc (.cells [.string ⟨y.1.toArray⟩,.bool y.2.1,v].toArray N.tH (0,0))=w1 at hk hc ⊢
 refine qi_ (qi_ (nrg (qz_ h (.t rfl) R.h0 (by omega) fun a h=>qm_ h (.t rfl) R.h0.var (hc.at (j:=0) rfl) (by omega) fun a h=>st_lenS h (bs:=y.1) (.t rfl) R.dStr (by omega) fun a h=>st_cmp h rfl (.t rfl) .i (by omega) fun a h=>wpList_nil ?_)))
 refine st_if h rfl (fun hb=>?_) (fun hb=>.skip ?_)
 ·have hn:¬ y.1.length<=M31:=by simp [cmpB] at hb;simp only [M31];omega
  exact qi_ (nrg (qa_ h .c (by omega) fun a h=>wpList_nil (.ret (bl_ret h rfl hk (by simp [fitH,hn])))))
 ·have hle:y.1.length<=M31:=by simp [cmpB] at hb;simp [M31];omega
  refine qi_ (qi_ (nrg (qz_ h (.t rfl) R.h1 (by omega) fun a h=>ja_ h (cs:=[.bool y.2.1,v]) (.t rfl) R.h1.var (hc.part (k:=1) fun j c hj=>by rcases j with _ | _ | j;exact hj;exact hj;cases hj) (by omega) fun a h=>?_)))
  refine qj_ h h8.ent (vs:=[.agg [.bool y.2.1,v].toArray]) (fun n a h=>by simp only [List.map_cons,List.map_nil];rw [Hd.t (l:=_) (i:=8) rfl n a h]) (z8r_calls R h8 w1 ⟨v,rfl,OcX.far hv (Fa0.of hk)⟩) (by omega) fun e w2 hR=>?_
  obtain ⟨rfl,hk2⟩:=hR
  refine ⟨_,rfl,fun a h=>st_not h (.t rfl) (by omega) fun a h=>wpList_nil ?_⟩
  refine st_if h rfl (fun hb=>?_) (fun hb=>.skip ?_)
  ·exact qi_ (nrg (qa_ h .c (by omega) fun a h=>wpList_nil (.ret (bl_ret h rfl (hk.trans hk2) (by simp at hb;simp [fitH,hb])))))
  ·exact qi_ (nrg (qa_ h .c (by omega) fun a h=>wpList_nil (.ret (bl_ret h rfl (hk.trans hk2) (by simp at hb;simp [fitH,hb,hle])))))
theorem beh_calls (R:Ref0 P S N) (hSE:Ent P S.fSame) (hSC:∀ (w:World) (va vb:Value) (la lb:Bs),SlRp w (fun _=>False) va la->SlRp w (fun _=>False) vb lb->la.length<=maxLen->Calls P S.fSame [va,vb].toArray w fun e w'=>e=.returned (.bool (decide (la=lb)))/\qd_ (fun _=>False) w w')
  (hfn:FnIs P N.fBeh 14 [6] (cRBeh S N)) {gv dv wv:Value} {g d wn:Bs} {W:World} (hg:SlRp W (fun _=>False) gv g) (hd:OcRp W dv d) (hw:SlRp W (fun _=>False) wv wn) (hgl:g.length<=maxLen) (hlim:d.length + wn.length<=LIM) :
  BlC P N.fBeh [gv,dv,wv] (decide (g=d++wn)) W:=by
 refine q3_ R.mixed hfn (by simp) _ (by simp) fun a h=>?_
 unfold cRBeh
 refine qi_ (nrg (qa_ h .c (by omega) fun a h=>wpList_nil ?_))
 obtain ⟨i,z,hi,hz,hsz,_⟩:=R.oct.info
 refine qi_ (nrg (qc_ h (.t rfl) (by omega) fun a h=>wl_buildSlice0 R.oct.und (sz:=1) (fun w=>by simp [sizeOf,typeInfo,hi,hsz]) ?_))
 have h:=h.put (d:=8) (.slice (some ⟨W.heap.size,0,none⟩) 0 0) (by omega)
 have hka:qd_ (fun _=>False) W (W.alloc (.cells #[] S.tU8 (0,0))):=qd_.alloc _ _ _
 have hna:=qo_ W (.cells #[] S.tU8 (0,0))
 have hd0:qu_ (W.alloc (.cells #[] S.tU8 (0,0))) W.heap.size S.tU8 (.slice (some ⟨W.heap.size,0,none⟩) 0 0) []:=.inr ⟨W.heap.size,0,#[],rfl,Nat.le_refl _,hna,Nat.le_refl _,by simp [maxLen],rfl,fun i x hx=>by simp at hx⟩
 generalize W.alloc (.cells #[] S.tU8 (0,0))=w1 at hka hna hd0 ⊢
 have hf1:Fa0 W w1:=Fa0.of hka
 refine qc_ h (.t rfl) (by omega) fun a h=>st_app h R.oct (.t rfl) (.t rfl) hd0 (src_oc R.oct (OcX.far hd hf1)) hka.size (by simp only [List.length_nil];omega) (by omega) fun v2 w2 a hg2 h=>?_
 have hf2:Fa0 W w2:=hf1.up hg2.keeps fun j hj=>(hd0.own hj).1
 refine qc_ h (.t rfl) (by omega) fun a h=>st_app h R.oct (.t rfl) (.t rfl) hg2.dst (src_sl R.oct (hw.far hf2)) hf2.size (by simp only [List.nil_append];omega) (by omega) fun v3 w3 a hg3 h=>?_
 have hf3:Fa0 W w3:=hf2.up hg3.keeps fun j hj=>(hg2.dst.own hj).1
 refine qj_ h hSE (vs:=[gv,v3]) (fun n a h=>by simp only [List.map_cons,List.map_nil];rw [Hd.t (l:=_) (i:=7) rfl n a h,Hd.t (l:=_) (i:=12) rfl n a h]) (hSC w3 gv v3 g _ (hg.far hf3) hg3.dst.sl hgl) (by omega) fun e w4 hR=>?_
 obtain ⟨rfl,hk4⟩:=hR
 refine ⟨_,rfl,fun a h=>qa_ h (.t rfl) (by omega) fun a h=>wpList_nil (.ret (bl_ret h rfl (hf3.keeps.trans hk4) (by simp)))⟩
end
end Go.Proofs.Ytlnmiphokmhajaa.Kx

namespace Go.Proofs.Ytlnmiphokmhajaa.Kx
open Go
set_option maxRecDepth 4000
section
variable {P:Program} {S:SN} {N:RN}
theorem z10r_calls (R:Ref0 P S N) (h8:FnIs P N.fZ8 7 [2] (cRZ8 S N)) (h7:FnIs P N.fZ7 11 [2] (cRZ7 S N)) (hfn:FnIs P N.fZ10 18 [2] (cRZ10 S N)) {hv:Value} {hs:List (Bs × Oc)} (W:World) (hr:RowRp W 3 (HdAt W) hv hs):BlC P N.fZ10 [hv] (fitHs hs) W:=by
 obtain ⟨base,c,hf,hlc,hlm,_⟩:=hr.form
 refine q3_ R.mixed hfn (by simp) _ (by simp) fun a h=>?_
 unfold cRZ10
 refine qi_ (nrg (qa_ h .c (by omega) fun a h=>wpList_nil ?_))
 refine qi_ (qi_ (nrg (qc_ h (.t rfl) (by omega) fun a h=>?_)))
 have h':=h
 rw [hf] at h'
 refine st_len h' (.t rfl) R.dHs (by omega) fun a h=>st_cmp h rfl (.t rfl) .i (by omega) fun a h=>wpList_nil ?_
 refine st_if h rfl (fun hb=>?_) (fun hb=>.skip ?_)
 ·have hn:¬ hs.length<=M31:=by simp [cmpB] at hb;simp only [M31];omega
  exact qi_ (nrg (qa_ h .c (by omega) fun a h=>wpList_nil (.ret (bl_ret h rfl (qd_.refl _ _) (by simp [fitHs,hn])))))
 have hle:hs.length<=M31:=by simp [cmpB] at hb;simp only [M31];omega
 rw [<- hf] at h
 refine qi_ (qi_ (nrg (qc_ h (.t rfl) (by omega) fun a h=>?_)))
 have h':=h
 rw [hf] at h'
 refine st_len h' (.t rfl) R.dHs (by omega) fun a h=>qc_ h .i (by omega) fun a h=>wpList_nil ?_
 rw [<- hf] at h
 refine st_loop (fun m a' w'=>∃ i:Nat,i + m=hs.length/\(hs.take i).all fitH=true/\qd_ (fun _=>False) W w'/\St 18 a' [(8,hv),(9,.int .i64 (hs.length:Int)),(10,.int .i64 (i:Int))]) hs.length
  ⟨hs.length,Nat.le_refl _,0,by omega,rfl,qd_.refl _ _,h.pick ⟨rfl,rfl,rfl,trivial⟩⟩ ?_
 rintro m a w hm ⟨i,him,hall,hk,h⟩
 refine qi_ (nrg (st_cmp h rfl (.t rfl) (.t rfl) (by omega) fun a h=>wpList_nil ?_))
 refine st_test h rfl (fun hb=>?_) (fun hb=>?_)
 ·have hlt:i < hs.length:=by simp [cmpB] at hb;omega
  obtain ⟨y,hy⟩:∃ y,hs[i]?=some y:=⟨_,List.getElem?_eq_getElem hlt⟩
  obtain ⟨b,o,c2,cs,hv',hl3,hcs,hy2⟩:=hr.get hy
  have hone:=hy2.one
  refine .skip (qi_ (.block (qi_ (nrg ?_))))
  have h':=h
  rw [hv'] at h'
  refine st_index h' (sz:=3) (.t rfl) (.t rfl) hlt R.dHs R.vH.size (by omega) fun a h=>ja_ h (cs:=cs) (.t rfl) (by rw [hl3];exact R.vH) (qf_.kn hk hcs) (by omega) fun a h=>?_
  refine st_newvar h (cs:=cs) R.zH (by rw [hl3];rfl) (fun v=>.t rfl) (fun w=>by rw [hl3];exact R.vH.size w) hone (by omega) fun w2 a hk2 hc2 h=>wpList_nil ?_
  have hk02:=hk.trans hk2
  refine qi_ (nrg (ja_ h (cs:=cs) (.t rfl) (by rw [hl3];exact R.vH) hc2 (by omega) fun a h=>?_))
  refine qj_ h h7.ent (vs:=[.agg cs.toArray]) (fun n a h=>by simp only [List.map_cons,List.map_nil];rw [Hd.t (l:=_) (i:=14) rfl n a h]) (z7r_calls R h8 h7 w2 (hy2.far (Fa0.of hk02))) (by omega) fun e w3 hR=>?_
  obtain ⟨rfl,hk3⟩:=hR
  have hk03:=hk02.trans hk3
  refine ⟨_,rfl,fun a h=>st_not h (.t rfl) (by omega) fun a h=>wpList_nil ?_⟩
  refine st_if h rfl (fun hb=>?_) (fun hb=>.skip ?_)
  ·refine qi_ (nrg (qa_ h .c (by omega) fun a h=>wpList_nil (.ret (bl_ret h rfl hk03 ?_))))
   have hy0:fitH y=false:=by simpa using hb
   have:hs.all fitH=false:=List.all_eq_false.2 ⟨y,List.mem_of_getElem? hy,by simp [hy0]⟩
   simp [fitHs,this]
  ·have hy1:fitH y=true:=by simpa using hb
   refine nrg (st_bin h (.t rfl) .i (by simp) (run_addi w3) (by omega) fun a h=>?_)
   have hw:IntKind.i64.wrap ((i:Int) + 1)=((i + 1:Nat):Int):=by simp only [maxLen] at hlm;simp [IntKind.wrap,IntKind.bits,IntKind.signed];omega
   rw [hw] at h
   refine qc_ h (.t rfl) (by omega) fun a h=>wpList_nil ?_
   refine ⟨m - 1,by omega,by omega,i + 1,by omega,?_,hk03,?_⟩
   ·rw [List.take_add_one,hy]
    simp [List.all_append,hall,hy1]
   ·have h:=h.pick (m:=[(8,.slice (some ⟨b,o,none⟩) hs.length c2),(9,.int .i64 (hs.length:Int)),(10,.int .i64 ((i + 1:Nat):Int))]) ⟨rfl,rfl,rfl,trivial⟩
    rw [hv']
    exact h
 ·have hge:¬ i < hs.length:=by simp [cmpB] at hb;omega
  rw [List.take_of_length_le (by omega)] at hall
  refine .exit ?_
  show NWP P _ _ a w
  exact qi_ (nrg (qa_ h .c (by omega) fun a h=>wpList_nil (.ret (bl_ret h rfl hk (by simp [fitHs,hle,hall])))))
theorem z9r_calls (R:Ref0 P S N) (h8:FnIs P N.fZ8 7 [2] (cRZ8 S N)) (h7:FnIs P N.fZ7 11 [2] (cRZ7 S N)) (h10:FnIs P N.fZ10 18 [2] (cRZ10 S N)) (hfn:FnIs P N.fZ9 15 [2] (cRZ9 S N)) {x:Rec} {cs:List Value} (W:World) (hx:RecAt W cs x):BlC P N.fZ9 [.agg cs.toArray] (fitR x) W:=by
 obtain ⟨kv,vv,hv,rfl,hkv,hvv,hhs,_⟩:=hx
 refine q3_ R.mixed hfn (by simp) _ (by simp) fun a h=>?_
 unfold cRZ9
 have hk:qd_ (fun _=>False) W (W.alloc (.cells [.int .i32 x.len,.int .i8 x.att,.int .i64 x.delta,.int .i32 x.off,.bool x.key.1,kv,.bool x.val.1,vv,hv].toArray N.tR (0,0))):=qd_.alloc _ _ _
 have hB:=q4_ W [.int .i32 x.len,.int .i8 x.att,.int .i64 x.delta,.int .i32 x.off,.bool x.key.1,kv,.bool x.val.1,vv,hv] N.tR
 refine qi_ (nrg (st_box h (.t rfl) (by omega) fun a h=>qa_ h .c (by omega) fun a h=>wpList_nil ?_))
 generalize W.alloc (.cells [.int .i32 x.len,.int .i8 x.att,.int .i64 x.delta,.int .i32 x.off,.bool x.key.1,kv,.bool x.val.1,vv,hv].toArray N.tR (0,0))=w at hk hB ⊢
 have hp4:qf_ w W.heap.size (0 + 4) [.bool x.key.1,kv]:=hB.part (k:=4) fun j c hj=>by rcases j with _ | _ | j;exact hj;exact hj;cases hj
 have hp6:qf_ w W.heap.size (0 + 6) [.bool x.val.1,vv]:=hB.part (k:=6) fun j c hj=>by rcases j with _ | _ | j;exact hj;exact hj;cases hj
 refine qi_ (qi_ (nrg (qz_ h (.t rfl) R.r4 (by omega) fun a h=>ja_ h (cs:=[.bool x.key.1,kv]) (.t rfl) R.r4.var hp4 (by omega) fun a h=>?_)))
 refine qj_ h h8.ent (vs:=[.agg [.bool x.key.1,kv].toArray]) (fun n a h=>by simp only [List.map_cons,List.map_nil];rw [Hd.t (l:=_) (i:=4) rfl n a h]) (z8r_calls R h8 w ⟨kv,rfl,OcX.far hkv (Fa0.of hk)⟩) (by omega) fun e w2 hR=>?_
 obtain ⟨rfl,hk2⟩:=hR
 refine ⟨_,rfl,fun a h=>st_not h (.t rfl) (by omega) fun a h=>wpList_nil ?_⟩
 refine st_if h rfl (fun hb=>?_) (fun hb=>.skip ?_)
 ·exact qi_ (nrg (qa_ h .c (by omega) fun a h=>wpList_nil (.ret (bl_ret h rfl (hk.trans hk2) (by simp at hb;simp [fitR,hb])))))
 have hf1:fitO x.key=true:=by simpa using hb
 refine qi_ (qi_ (nrg (qz_ h (.t rfl) R.r5 (by omega) fun a h=>ja_ h (cs:=[.bool x.val.1,vv]) (.t rfl) R.r5.var (qf_.kn hk2 hp6) (by omega) fun a h=>?_)))
 refine qj_ h h8.ent (vs:=[.agg [.bool x.val.1,vv].toArray]) (fun n a h=>by simp only [List.map_cons,List.map_nil];rw [Hd.t (l:=_) (i:=8) rfl n a h]) (z8r_calls R h8 w2 ⟨vv,rfl,OcX.far hvv (Fa0.of (hk.trans hk2))⟩) (by omega) fun e w3 hR=>?_
 obtain ⟨rfl,hk3⟩:=hR
 refine ⟨_,rfl,fun a h=>st_not h (.t rfl) (by omega) fun a h=>wpList_nil ?_⟩
 have hk03:=(hk.trans hk2).trans hk3
 refine st_if h rfl (fun hb=>?_) (fun hb=>.skip ?_)
 ·exact qi_ (nrg (qa_ h .c (by omega) fun a h=>wpList_nil (.ret (bl_ret h rfl hk03 (by simp at hb;simp [fitR,hb])))))
 have hf2:fitO x.val=true:=by simpa using hb
 refine qi_ (qi_ (nrg (qz_ h (.t rfl) R.r6 (by omega) fun a h=>qm_ h (.t rfl) R.r6.var ((qf_.kn (hk2.trans hk3) hB).at (j:=8) rfl) (by omega) fun a h=>?_)))
 have hhs':RowRp w3 3 (HdAt w3) hv x.hs:=hhs.imp (fun b o cs hc=>(Fa0.of hk03).cells hc) (fun cs y hy=>hy.far (Fa0.of hk03))
 refine qj_ h h10.ent (vs:=[hv]) (fun n a h=>by simp only [List.map_cons,List.map_nil];rw [Hd.t (l:=_) (i:=12) rfl n a h]) (z10r_calls R h8 h7 h10 w3 hhs') (by omega) fun e w4 hR=>?_
 obtain ⟨rfl,hk4⟩:=hR
 refine ⟨_,rfl,fun a h=>st_not h (.t rfl) (by omega) fun a h=>wpList_nil ?_⟩
 refine st_if h rfl (fun hb=>?_) (fun hb=>.skip ?_)
 ·exact qi_ (nrg (qa_ h .c (by omega) fun a h=>wpList_nil (.ret (bl_ret h rfl (hk03.trans hk4) (by simp at hb;simp [fitR,hb])))))
 ·have hf3:fitHs x.hs=true:=by simpa using hb
  exact qi_ (nrg (qa_ h .c (by omega) fun a h=>wpList_nil (.ret (bl_ret h rfl (hk03.trans hk4) (by simp [fitR,hf1,hf2,hf3])))))
end
end Go.Proofs.Ytlnmiphokmhajaa.Kx

namespace Go.Proofs.Ytlnmiphokmhajaa.Kx
theorem sum_flat {α:Type} (f:α->Bs) (b:Nat):∀ (l:List α),(∀ x ∈ l,(f x).length<=b)->((l.map f).flatten).length<=l.length * b
 | [],_=>by simp
 | x :: r,h=>by
  have h1:=h x (List.mem_cons_self ..)
  have h2:=sum_flat f b r fun y hy=>h y (List.mem_cons_of_mem _ hy)
  simp only [List.map_cons,List.flatten_cons,List.length_append,List.length_cons]
  rw [Nat.add_mul]
  omega
def wtU:List (UInt32 × Bs)->Nat
 | []=>0
 | p :: r=>1 + p.2.length + wtU r
mutual
def Tr.wt:Tr->Nat
 | .mk _ s _ l u=>1 + s.length + wtL l + wtU u
def wtL:List Tr->Nat
 | []=>0
 | t :: r=>t.wt + wtL r
end
set_option maxRecDepth 4000
section
variable {P:Program} {S:SN} {N:RN}
section
variable {ops:Array Oper} {Q:Exit->Act->World->Prop} {r:List Oper} {n:Nat} {a:Act} {w:World} {l:List (Nat × Value)}
theorem sg_any {o2:Oper} (h:St n a l) {d j jd:Nat} {b:Bool} {v:Value} {o:Oper} (hd2:o2.dst=some d) (hg2:o2.guard=some (j,b)) (ho:ops[j]?=some o) (hod:o.dst=some jd) (hj:l.lookup jd=some (.bool b)) (hjn:jd < n) (hrun:(execOp a.eval o2).run P w=.ok (.value v) w) (hd:d < n)
  (c:∀ a',St n a' ((d,v) :: l)->wpList P ops Q r a' w):wpList P ops Q (o2 :: r) a w:=by
 have hy:=yielded_of ho hod (by rw [h.size];exact hjn) (h.get _ _ hj)
 unfold wpList
 rw [if_pos (by simp [Region.wanted,hg2,hy])]
 refine .inl ?_
 unfold Oper.wp
 rw [hrun]
 show wpList P ops Q r (a.put o2.dst v) w
 rw [hd2]
 exact c _ (h.put v hd)
theorem sg_out {o2:Oper} (h:St n a l) {d j jd:Nat} {b b':Bool} {o:Oper} (hd2:o2.dst=some d) (hg2:o2.guard=some (j,b)) (ho:ops[j]?=some o) (hod:o.dst=some jd) (hj:l.lookup jd=some (.bool b')) (hjn:jd < n) (hb:b' ≠ b) (hd:d < n)
  (c:∀ a',St n a' ((d,undef) :: l)->wpList P ops Q r a' w):wpList P ops Q (o2 :: r) a w:=by
 have hy:=yielded_of ho hod (by rw [h.size];exact hjn) (h.get _ _ hj)
 unfold wpList
 rw [if_neg (by simp [Region.wanted,hg2,hy,hb])]
 rw [hd2]
 exact c _ (h.put undef hd)
theorem rn_loadN (h:St n a l) {d:Nat} {x:Operand} {F B O:Nat} {cs:List Value} (hx:Hd l x (pt B O)) (hF:VarIs P F true cs.length) (hv:qf_ w B O cs):(execOp a.eval (mk (some d) (.load F x))).run P w=.ok (.value (.agg cs.toArray)) w:=by
 have hl:=run_loadCells_list (P:=P) w ⟨B,O,none⟩ cs (fun j v hj=>by rw [Addr.add_lit];exact hv j v hj)
 have e:=hx n a h
 simp only [pt] at e
 simp [execOp,mk,e,Instr.loadAt,Instr.sureAddr,loadVar,hF.agg w,hF.size w,hl]
end
def littleB (x:Rec):Bool:=decide (x.hs.length<=1000) && decide ((restB x).length<=131072)
theorem vint_len (x:Int):(vint x).length<=10:=uvarAux_len 9 (zig x)
theorem ocB_len {o:Oc} (h:fitO o=true):(ocB o).length<=2147483657:=by
 have h:o.2.length<=M31:=of_decide_eq_true h
 simp only [M31] at h
 simp only [ocB]
 split
 ·have:=vint_len (-1);omega
 ·have:=vint_len o.2.length
  simp only [List.length_append]
  omega
theorem hdB_len {y:Bs × Oc} (h:fitH y=true):(hdB y).length<=4294967400:=by
 obtain ⟨h1,h2⟩:=Bool.and_eq_true_iff.1 h
 have h1:y.1.length<=M31:=of_decide_eq_true h1
 have:=ocB_len h2
 have:=vint_len y.1.length
 simp only [M31] at h1
 simp only [hdB,List.length_append]
 omega
theorem restB_len {x:Rec} (h:fitR x=true) (hc:x.hs.length<=1000):(restB x).length<=LIM:=by
 obtain ⟨h1,h2⟩:=Bool.and_eq_true_iff.1 h
 obtain ⟨h2,h3⟩:=Bool.and_eq_true_iff.1 h2
 obtain ⟨_,h4⟩:=Bool.and_eq_true_iff.1 h3
 have e1:=ocB_len h1
 have e2:=ocB_len h2
 have e3:=vint_len x.delta
 have e4:=vint_len x.off
 have e5:=vint_len x.hs.length
 have e6:=sum_flat hdB 4294967400 x.hs fun y hy=>hdB_len (List.all_eq_true.1 h4 y hy)
 have e7:x.hs.length * 4294967400<=1000 * 4294967400:=Nat.mul_le_mul_right _ hc
 simp only [restB,List.length_append,List.length_cons,List.length_nil,LIM]
 omega
theorem lit_calls (R:Ref0 P S N) (C:RrC P S N) (hfn:FnIs P N.fLit 13 [2] (cRLit S N)) {x:Rec} {cs:List Value} (W:World) (hx:RecAt W cs x) (hfit:fitR x=true):BlC P N.fLit [.agg cs.toArray] (littleB x) W:=by
 have hl9:=hx.len
 obtain ⟨hv,hc8,hhs⟩:∃ hv,cs[8]?=some hv/\RowRp W 3 (HdAt W) hv x.hs:=by
  obtain ⟨_,_,hv,rfl,_,_,h,_⟩:=hx
  exact ⟨hv,rfl,h⟩
 obtain ⟨base,c,hf,_,hlm,_⟩:=hhs.form
 refine q3_ R.mixed hfn (by simp) _ (by simp) fun a h=>?_
 unfold cRLit
 have hk:qd_ (fun _=>False) W (W.alloc (.cells cs.toArray N.tR (0,0))):=qd_.alloc _ _ _
 have hB:=q4_ W cs N.tR
 refine qi_ (nrg (st_box h (.t rfl) (by omega) fun a h=>qa_ h .c (by omega) fun a h=>wpList_nil ?_))
 generalize W.alloc (.cells cs.toArray N.tR (0,0))=w at hk hB ⊢
 refine qi_ (nrg (qz_ h (.t rfl) R.r6 (by omega) fun a h=>qm_ h (.t rfl) R.r6.var (hB.at (j:=8) hc8) (by omega) fun a h=>?_))
 rw [hf] at h
 refine st_len h (.t rfl) R.dHs (by omega) fun a h=>st_cmp h rfl (.t rfl) .i (by omega) fun a h=>qc_ h (.t rfl) (by omega) fun a h=>?_
 cases hb:cmpB .leq (x.hs.length:Int) 1000 with
 | false=>
  rw [hb] at h
  have hn:¬ x.hs.length<=1000:=by simp [cmpB] at hb;omega
  refine sg_out h rfl rfl rfl rfl rfl (by omega) (by simp) (by omega) fun a h=>sg_out h rfl rfl rfl rfl rfl (by omega) (by simp) (by omega) fun a h=>sg_out h rfl rfl rfl rfl rfl (by omega) (by simp) (by omega) fun a h=>sg_out h rfl rfl rfl rfl rfl (by omega) (by simp) (by omega) fun a h=>?_
  refine st_pick h (.t rfl) (.t rfl) .c (by omega) fun a h=>qa_ h (.t rfl) (by omega) fun a h=>wpList_nil (.ret (bl_ret h rfl hk (by simp [littleB,hn])))
 | true=>
  rw [hb] at h
  have hc:x.hs.length<=1000:=by simp [cmpB] at hb;omega
  have hlim:=restB_len hfit hc
  refine sg_any h rfl rfl rfl rfl rfl (by omega) (v:=.agg cs.toArray) (rn_loadN h (d:=8) (.t rfl) (by rw [hl9];exact R.vR) hB) (by omega) fun a h=>?_
  refine sg_call (args:=[tm 8]) (vs:=[.agg cs.toArray]) h rfl rfl rfl (by omega) C.1 (fun n a h=>by simp only [List.map_cons,List.map_nil];rw [Hd.t (l:=_) (i:=8) rfl n a h]) (C.2 x cs w (hx.far (Fa0.of hk)) hlim) (by omega) fun e w2 hR=>?_
  obtain ⟨v,rfl,hd,hk2⟩:=hR
  obtain ⟨b2,c2,hvf,_⟩:=hd.sl.form
  subst hvf
  refine ⟨_,rfl,fun a h=>?_⟩
  refine sg_any h rfl rfl rfl rfl rfl (by omega) (v:=.int .i64 ((restB x).length:Int)) (rn_len h (.t rfl) R.oct.und) (by omega) fun a h=>?_
  refine sg_cmp h rfl rfl rfl (by omega) rfl (.t rfl) .i (by omega) fun a h=>?_
  refine st_pick h (.t rfl) (.t rfl) .c (by omega) fun a h=>qa_ h (.t rfl) (by omega) fun a h=>wpList_nil (.ret (bl_ret h rfl (hk.trans hk2) ?_))
  simp only [littleB,cmpB]
  rw [decide_eq_true hc,Bool.true_and]
  exact decide_eq_decide.2 (by omega)
end
end Go.Proofs.Ytlnmiphokmhajaa.Kx

namespace Go.Proofs.Ytlnmiphokmhajaa.Kx
open Go
set_option maxRecDepth 4000
section
variable {P:Program} {S:SN} {N:RN} {K:Kn}
theorem cAUv_eq (K:Kn) (f:Nat):cAUv K f=cAGv K K.tU32 .u32 5 f:=rfl
theorem grp_le {n k:Nat} (h:n<=7 * k) (hk:1<=k):grp n<=k:=by
 unfold grp
 split <;> omega
theorem auv_calls (wt:WT0 P K) {f f1 f2 n0 n1 n2:Nat} (hU:P.underlying K.tU32=some (.int .u32)) (h2:FnIs P f2 n2 [2] (cLen32 K K.tU32)) (hn2:19<=n2) (h1:FnIs P f1 n1 [2] (cUvLen K f2)) (hn1:8<=n1) (hfn:FnIs P f n0 [4] (cAUv K f1)) (hn0:(q6_ K K.tU32 .u32 (gvEs 5) 7).2<=n0) (h7:7<=n0) :
  ∀ (x:Nat) (w:World),x < 4294967296->ApC P K.tU8 f (.int .u32 (x:Int)) (uvar x) w:=by
 intro x w hx
 rw [cAUv_eq] at hfn
 obtain ⟨_,_,l1,l2⟩:=len_ok32 hx
 have hl:l32' x<=32:=bits_le l2 hx
 exact ap_gv wt hU (.inr (.inl rfl)) (ln:=l32') h1.ent (fun w=>glen_calls wt h2.ent (len32_calls0 wt hU h2 hn2 hx w) h1 hn1 (by omega)) hfn hn0 h7 (by omega) (by decide) (by simpa [IntKind.bits] using hx) l1 l2 (grp_le (by omega) (by omega)) w
theorem aul_calls (wt:WT0 P K) {f f1 f2 n0 n1 n2:Nat} (hU:P.underlying K.tU64=some (.int .u64)) (h2:FnIs P f2 n2 [2] (cLen64 K K.tU64)) (hn2:25<=n2) (h1:FnIs P f1 n1 [2] (cUvLen K f2)) (hn1:8<=n1) (hfn:FnIs P f n0 [4] (cAGv K K.tU64 .u64 10 f1)) (hn0:(q6_ K K.tU64 .u64 (gvEs 10) 7).2<=n0) (h7:7<=n0) :
  ∀ (x:Nat) (w:World),x < 18446744073709551616->ApC P K.tU8 f (.int .u64 (x:Int)) (uvar x) w:=by
 intro x w hx
 obtain ⟨_,_,l1,l2⟩:=len_ok64 hx
 have hl:l64 x<=64:=bits_le l2 hx
 exact ap_gv wt hU (.inr (.inr rfl)) (ln:=l64) h1.ent (fun w=>glen_calls wt h2.ent (len64_calls wt hU h2 hn2 hx w) h1 hn1 (by omega)) hfn hn0 h7 (by omega) (by decide) (by simpa [IntKind.bits] using hx) l1 l2 (grp_le (by omega) (by omega)) w
structure RecC (P:Program) (S:SN) (N:RN):Prop where
 tab:Ref0 P S N
 mkr:MkrC P S N
 rb:RbC P S N
 z9E:Ent P N.fZ9
 z9:∀ (x:Rec) (cs:List Value) (W:World),RecAt W cs x->BlC P N.fZ9 [.agg cs.toArray] (fitR x) W
 litE:Ent P N.fLit
 lit:∀ (x:Rec) (cs:List Value) (W:World),RecAt W cs x->fitR x=true->BlC P N.fLit [.agg cs.toArray] (littleB x) W
 behE:Ent P N.fBeh
 beh:∀ (gv dv wv:Value) (g d wn:Bs) (W:World),SlRp W (fun _=>False) gv g->OcRp W dv d->SlRp W (fun _=>False) wv wn->g.length<=maxLen->d.length + wn.length<=LIM->BlC P N.fBeh [gv,dv,wv] (decide (g=d++wn)) W
theorem recOk_of {x:Rec} {W:World} {cs:List Value} (hx:RecAt W cs x) (hf:fitR x=true):RecOk x:=by
 obtain ⟨_,_,_,_,_,_,_,h1,h2,h3,h4⟩:=hx
 obtain ⟨f1,f2⟩:=Bool.and_eq_true_iff.1 hf
 obtain ⟨f2,f3⟩:=Bool.and_eq_true_iff.1 f2
 obtain ⟨f3,f4⟩:=Bool.and_eq_true_iff.1 f3
 have f1:x.key.2.length<=M31:=of_decide_eq_true f1
 have f2:x.val.2.length<=M31:=of_decide_eq_true f2
 have f3:x.hs.length<=M31:=of_decide_eq_true f3
 simp only [M31] at f1 f2 f3
 refine ⟨h1,h2,h3,h4,by omega,by omega,by omega,fun y hy=>?_⟩
 obtain ⟨a,b⟩:=Bool.and_eq_true_iff.1 (List.all_eq_true.1 f4 y hy)
 have a:y.1.length<=M31:=of_decide_eq_true a
 have b:y.2.2.length<=M31:=of_decide_eq_true b
 simp only [M31] at a b
 exact ⟨by omega,by omega⟩
theorem recC_of (R:Ref0 P S N) (wt:WT0 P K) (_hSl:K.tSl=S.tSl) (hU8:K.tU8=S.tU8) (hU32:P.underlying K.tU32=some (.int .u32)) (hU64:P.underlying K.tU64=some (.int .u64)) {f32 fl32 n0 n1 n2 m0 m1 m2 ntSm:Nat}
  (g2:FnIs P f32 n2 [2] (cLen32 K K.tU32)) (hn2:19<=n2) (g1:FnIs P fl32 n1 [2] (cUvLen K f32)) (hn1:8<=n1) (g0:FnIs P N.fAUv n0 [4] (cAUv K fl32)) (hn0:(q6_ K K.tU32 .u32 (gvEs 5) 7).2<=n0) (hn07:7<=n0)
  (k2:FnIs P N.fL64 m2 [2] (cLen64 K K.tU64)) (hm2:25<=m2) (k1:FnIs P N.fUlL m1 [2] (cUvLen K N.fL64)) (hm1:8<=m1) (k0:FnIs P N.fAUl m0 [4] (cAGv K K.tU64 .u64 10 N.fUlL)) (hm0:(q6_ K K.tU64 .u64 (gvEs 10) 7).2<=m0) (hm07:7<=m0)
  (hTu:FnIs P N.fTu 10 [2] (cRTu S N)) (hUv:FnIs P S.fUv 20 [2] (csUvr S)) (hVi:FnIs P N.fVi 6 [2] (cRVi S N)) (hOB:FnIs P N.fOB 13 [2] (cROB S N)) (hHB:FnIs P N.fHB 16 [2] (cRHB S N)) (hRR:FnIs P N.fRR 49 [2] (cRRR S N)) (hRB:FnIs P N.fRB 10 [2] (cRRB S N))
  (hAVi:FnIs P N.fAVi 14 [4] (cRAVi S N)) (hAI8:FnIs P N.fAI8 10 [4] (cRAI8 S N)) (hAVl:FnIs P N.fAVl 14 [4] (cRAVl S N)) (hAVb:FnIs P N.fAVb 17 [4] (cRAVb S N)) (hAVs:FnIs P N.fAVs 13 [4] (cRAVs S N)) (hApp:FnIs P N.fApp 98 [4] (cRApp S N))
  (hNull:FnIs P N.fNull 9 [2] (cRNull S N)) (hOwn:FnIs P N.fOwn 5 [2] (cROwn S N)) (hMk:FnIs P N.fMk 51 [4] (cRMk S N)) (hZ8:FnIs P N.fZ8 7 [2] (cRZ8 S N)) (hZ7:FnIs P N.fZ7 11 [2] (cRZ7 S N)) (hZ10:FnIs P N.fZ10 18 [2] (cRZ10 S N)) (hZ9:FnIs P N.fZ9 15 [2] (cRZ9 S N))
  (hLit:FnIs P N.fLit 13 [2] (cRLit S N)) (hBeh:FnIs P N.fBeh 14 [6] (cRBeh S N)) (hv8:VarIs P S.tU8 false 1) (hSm:FnIs P S.fSame ntSm [4] (cSame S.tSl S.tU8 S.tInt)) (hnSm:26<=ntSm):RecC P S N:=by
 have V:=vi_calls R hTu hUv hVi
 have O:=ob_calls R V hOB
 have H:=hb_calls R V O hHB
 have RR:=rr_calls R V O H hRR
 have A:AviC P S N:=⟨hAVi.ent,fun x w h1 h2=>avi_calls R g0.ent (fun y w hy=>by rw [<- hU8];exact auv_calls wt hU32 g2 hn2 g1 hn1 g0 hn0 hn07 y w hy) hAVi h1 h2 w⟩
 have KA:KaC P S N:=⟨A,hAI8.ent,fun x w hx=>ai8_calls R hAI8 hx w,hAVl.ent,fun x w h1 h2=>avl_calls R k0.ent (fun y w hy=>by rw [<- hU8];exact aul_calls wt hU64 k2 hm2 k1 hm1 k0 hm0 hm07 y w hy) hAVl h1 h2 w,hAVs.ent,fun k w hk=>avs_calls R A hAVs hk w,hAVb.ent,fun o v w L ho hv=>avb_calls R A hAVb ho hv⟩
 exact ⟨R,mk_calls R (nulC_of R hNull) ⟨hOwn.ent,fun v bs w hv hl=>own_calls R hOwn hv hl⟩ ⟨hApp.ent,fun L B x kv vv hv w d0 bs hok hK hd hL hl=>ka_calls R KA hApp hok hK hd hL hl⟩ hMk,rb_calls R V RR hRB,hZ9.ent,fun x cs W hx=>z9r_calls R hZ8 hZ7 hZ10 hZ9 W hx,hLit.ent,fun x cs W hx hf=>lit_calls R RR hLit W hx hf,hBeh.ent,
  fun gv dv wv g d wn W hg hd hw hgl hl=>beh_calls R hSm.ent (fun w va vb la lb ha hb hla=>same_calls R.mixed R.oct hv8 hSm hnSm ha hb hla) hBeh hg hd hw hgl hl⟩
end
end Go.Proofs.Ytlnmiphokmhajaa.Kx

namespace Go.Proofs.Ytlnmiphokmhajaa.Kx
open Go
set_option maxRecDepth 4000
section
variable {P:Program} {S:SN} {N:RN}
section
variable {ops:List Oper} {cv:Nat->Bool} {I:World->Prop} {Q:Exit->Act->World->Prop} {K:Act->Prop} {n:Nat} {a:Act} {w:World} {l:List (Nat × Value)}
theorem eg_op (h:St n a l) {o:Oper} {r:List Oper} {d:Nat} {v:Value} (hd:o.dst=some d) (hw:want cv o=true) (hrun:∀ w,I w->(execOp a.eval o).run P w=.ok (.value v) w) (hdn:d < n) (c:∀ a',St n a' ((d,v) :: l)->evG P cv I r a' K):evG P cv I (o :: r) a K:=by
 simp only [evG,if_pos hw]
 refine ⟨v,hrun,?_⟩
 rw [hd]
 exact c _ (h.put v hdn)
theorem eg_out (h:St n a l) {o:Oper} {r:List Oper} {d:Nat} (hd:o.dst=some d) (hw:want cv o=false) (hdn:d < n) (c:∀ a',St n a' ((d,undef) :: l)->evG P cv I r a' K):evG P cv I (o :: r) a K:=by
 have hn:¬ want cv o=true:=by rw [hw];simp
 simp only [evG,if_neg hn]
 rw [hd]
 exact c _ (h.put undef hdn)
theorem lg_op (h:St n a l) {i:Nat} {o:Oper} {r:List (Nat × Oper)} {d:Nat} {v:Value} {w':World} (hI:I w) (hG:GdAt ops cv i a) (hd:o.dst=some d) (hw:want cv o=true) (hrun:(execOp a.eval o).run P w=.ok (.value v) w') (hdn:d < n) (c:∀ a',St n a' ((d,v) :: l)->wpLg P ops cv I Q r a' w') :
  wpLg P ops cv I Q ((i,o) :: r) a w:=by
 refine ⟨hI,hG,?_⟩
 rw [if_pos hw]
 unfold Oper.wp
 rw [hrun]
 show wpLg P ops cv I Q r (a.put o.dst v) w'
 rw [hd]
 exact c _ (h.put v hdn)
theorem lg_out (h:St n a l) {i:Nat} {o:Oper} {r:List (Nat × Oper)} {d:Nat} (hI:I w) (hG:GdAt ops cv i a) (hd:o.dst=some d) (hw:want cv o=false) (hdn:d < n) (c:∀ a',St n a' ((d,undef) :: l)->wpLg P ops cv I Q r a' w) :
  wpLg P ops cv I Q ((i,o) :: r) a w:=by
 refine ⟨hI,hG,?_⟩
 rw [if_neg (by rw [hw];simp),hd]
 exact c _ (h.put undef hdn)
theorem lg_call (h:St n a l) {i:Nat} {o:Oper} {r:List (Nat × Oper)} {d f:Nat} {vs:List Value} {R:Ending->World->Prop} (hI:I w) (hG:GdAt ops cv i a) (hd:o.dst=some d) (hw:want cv o=true) (hf:Ent P f) (hrun:(execOp a.eval o).run P w=(callFunc f vs.toArray).run P w) (hc:Calls P f vs.toArray w R) (hdn:d < n)
  (c:∀ e w',R e w'->∃ v,e=.returned v/\∀ a',St n a' ((d,v) :: l)->wpLg P ops cv I Q r a' w'):wpLg P ops cv I Q ((i,o) :: r) a w:=by
 refine ⟨hI,hG,?_⟩
 rw [if_pos hw]
 unfold Oper.wp
 rw [hrun,hf]
 exact hc.mono fun e w' hR=>by
  obtain ⟨v,rfl,hk⟩:=c e w' hR
  show wpLg P ops cv I Q r (a.put o.dst v) w'
  rw [hd]
  exact hk _ (h.put v hdn)
theorem lg_nil (hI:I w) (hG:GdAt ops cv ops.length a) (h:Q .normal a w):wpLg P ops cv I Q [] a w:=⟨hI,hG,h⟩
theorem gd_of (h:St n a l) {i:Nat} (hg:∀ j ∈ gsOf ops,j < i->∃ o d,ops[j]?=some o/\o.dst=some d/\d < n/\l.lookup d=some (.bool (cv j))):GdAt ops cv i a:=fun j hj hji=>by
 obtain ⟨o,d,ho,hd,hdn,hl⟩:=hg j hj hji
 exact yielded_of (by simpa using ho) hd (by rw [h.size];exact hdn) (h.get _ _ hl)
theorem ndrg {l':List Oper} {R:Exit->Act->World->Prop} (cv:Nat->Bool) (loud:List Bool) (I:World->Prop) (hl:q2_ l'=loud) (h:evG P cv I (qt_ l' loud) a (fun af=>wpLg P l' cv I R (q9_ 0 l' loud) af w.drew)):NWP P (.region 4 l'.toArray true) R a w:=.drg cv I (by rw [hl];exact h)
end
end
end Go.Proofs.Ytlnmiphokmhajaa.Kx

namespace Go.Proofs.Ytlnmiphokmhajaa.Kx
open Go
set_option maxRecDepth 100000
structure LN where
 fM:Nat
 fB:Nat
 fV:Nat
 fA:Nat
end Go.Proofs.Ytlnmiphokmhajaa.Kx

namespace Go.Proofs.Ytlnmiphokmhajaa.Kx
open Go
set_option maxRecDepth 4000
section
variable {P:Program} {S:SN}
section
variable {I:World->Prop} {K:Act->Prop} {r:List Oper} {n:Nat} {a:Act} {w:World} {l:List (Nat × Value)} {Q:Exit->Act->World->Prop}
theorem rn_assign (h:St n a l) {d:Nat} {x:Operand} {v:Value} (hx:Hd l x v):(execOp a.eval (mk (some d) (.assign x))).run P w=.ok (.value v) w:=by simp [execOp,mk,hx n a h]
end
end
end Go.Proofs.Ytlnmiphokmhajaa.Kx

namespace Go.Proofs.Ytlnmiphokmhajaa.Kx
open Go
set_option maxRecDepth 4000
section
variable {P:Program} {S:SN} {N:LN} {gErr most:Nat} {flex:Int} {sf:SFs} {out:Int->Bs->Option Bs} {okIn:Int->Bs->Prop}
def TrueC (W:World) (e:Ending) (w':World):Prop:=e=.returned (.bool true)/\qd_ (fun _=>False) W w'
theorem true_ret {n t:Nat} {a:Act} {W w':World} {l:List (Nat × Value)} {v:Value} (h:St n a l) (hv:l.lookup t=some v) (hb:v=.bool true) (hk:qd_ (fun _=>False) W w'):a.defers=[]/\TrueC W (.returned (retOf [t] a)) w':=
 ret1 (RR:=TrueC W) h hv ⟨by rw [hb],hk⟩
end
end Go.Proofs.Ytlnmiphokmhajaa.Kx

namespace Go.Proofs.Ytlnmiphokmhajaa.Kx
open Go
set_option maxRecDepth 4000
section
variable {P:Program} {S:SN} {N:RN}
theorem gs_law (S:SN) (N:RN):gsOf (rLaw_3 S N)=[3,3,3,8,8,8,8,8,8,8]:=rfl
theorem qp_ {cv:Nat->Bool} {a:Act} {l:List (Nat × Value)} (h:St 30 a l) {i:Nat} (h3:3 < i->l.lookup 16=some (.bool (cv 3))) (h8:8 < i->l.lookup 21=some (.bool (cv 8))):GdAt (rLaw_3 S N) cv i a:=gd_of h fun j hj hji=>by
 rw [gs_law] at hj
 have hj:j=3 \/ j=8:=by simpa using hj
 rcases hj with rfl | rfl
 ·exact ⟨_,16,rfl,rfl,(by decide:(16:Nat) < 30),h3 hji⟩
 ·exact ⟨_,21,rfl,rfl,(by decide:(21:Nat) < 30),h8 hji⟩
def cvOf (b c:Bool) (j:Nat):Bool:=if j=3 then b else c
theorem rn_call {a:Act} {w:World} {o:Oper} {f:Nat} {args:List Operand} {vs:List Value} (ho:o.op=.call ⟨.value (.func f),args.toArray,#[]⟩) (hargs:args.map a.eval=vs):(execOp a.eval o).run P w=(callFunc f vs.toArray).run P w:=by
 have he:a.eval (.func f)=.func (.func f) #[] #[]:=rfl
 have ha2:(args.map a.eval).toArray=vs.toArray:=by rw [hargs]
 simp only [execOp,ho,resolve,he,Deferred.ofValue,invoke,Sem.run_bind,Sem.run_pure,Result.andThen_ok,Array.empty_append,Array.append_empty,List.map_toArray,ha2]
theorem law_calls (C:RecC P S N) {f:Nat} (hfn:FnIs P f 30 [4] (cRLaw S N)) {x:Rec} {cs:List Value} {dv:Value} {dst:Bs} {W:World} (hx:RecAt W cs x) (hd:OcRp W dv dst):Calls P f [dv,.agg cs.toArray].toArray W (TrueC W):=by
 have R:=C.tab
 have hl9:=hx.len
 have hdl:=OcX.len hd
 obtain ⟨bd,cd,hdf,_⟩:=OcX.form hd
 refine q3_ R.mixed hfn (by simp) _ (by simp) fun a h=>?_
 unfold cRLaw
 have hk:qd_ (fun _=>False) W (W.alloc (.cells cs.toArray N.tR (0,0))):=qd_.alloc _ _ _
 have hB:=q4_ W cs N.tR
 refine qi_ (nrg (st_box h (.t rfl) (by omega) fun a h=>qa_ h .c (by omega) fun a h=>wpList_nil ?_))
 generalize W.alloc (.cells cs.toArray N.tR (0,0))=w at hk hB ⊢
 refine qi_ (qi_ (nrg (qc_ h (.t rfl) (by omega) fun a h=>?_)))
 have h':=h
 rw [hdf] at h'
 refine st_len h' (.t rfl) R.oct.und (by omega) fun a h=>st_cmp h rfl (.t rfl) .i (by omega) fun a h=>qc_ h (.t rfl) (by omega) fun a h=>?_
 rw [<- hdf] at h
 cases hb:cmpB .gtr (dst.length:Int) 2147483647 with
 | true=>
  rw [hb] at h
  refine sg_out h rfl rfl rfl rfl rfl (by omega) (by simp) (by omega) fun a h=>sg_out h rfl rfl rfl rfl rfl (by omega) (by simp) (by omega) fun a h=>sg_out h rfl rfl rfl rfl rfl (by omega) (by simp) (by omega) fun a h=>?_
  refine st_pick h (.t rfl) .c (.t rfl) (by omega) fun a h=>wpList_nil ?_
  exact st_if h rfl (fun _=>qi_ (nrg (qa_ h .c (by omega) fun a h=>wpList_nil (.ret (true_ret h rfl rfl hk))))) (fun hh=>by simp at hh)
 | false=>
  rw [hb] at h
  refine sg_any h rfl rfl rfl rfl rfl (by omega) (v:=.agg cs.toArray) (rn_loadN h (d:=9) (.t rfl) (by rw [hl9];exact R.vR) hB) (by omega) fun a h=>?_
  refine sg_call (args:=[tm 9]) (vs:=[.agg cs.toArray]) h rfl rfl rfl (by omega) C.z9E (fun n a h=>by simp only [List.map_cons,List.map_nil];rw [Hd.t (l:=_) (i:=9) rfl n a h]) (C.z9 x cs w (hx.far (Fa0.of hk))) (by omega) fun e w2 hR=>?_
  obtain ⟨rfl,hk2⟩:=hR
  refine ⟨_,rfl,fun a h=>?_⟩
  refine st_gd h rfl rfl rfl (by omega) (v:=.bool (!fitR x)) (by
   have e:=Hd.t (l:=_) (i:=10) rfl _ a h
   simp [execOp,mk,e,Op.unary]) (by omega) fun a h=>?_
  refine st_pick h (.t rfl) .c (.t rfl) (by omega) fun a h=>wpList_nil ?_
  have hk02:=hk.trans hk2
  refine st_if h rfl (fun _=>qi_ (nrg (qa_ h .c (by omega) fun a h=>wpList_nil (.ret (true_ret h rfl rfl hk02))))) (fun hh=>.skip ?_)
  have hfit:fitR x=true:=by simpa using hh
  have hB2:qf_ w2 W.heap.size 0 cs:=qf_.kn hk2 hB
  have hbox:∀ w',Fa0 w2 w'->qf_ w' W.heap.size 0 cs:=fun w' hI=>Fa0.cells hI hB2
  have h:St 30 a [(0,dv),(3,pt W.heap.size 0)]:=h.pick ⟨rfl,rfl,trivial⟩
  have hI0:Fa0 w2 w2.drew:=Fa0.of (qd_.drew _ _)
  have hx0:RecAt w2.drew cs x:=(hx.far (Fa0.of hk02)).far hI0
  have hlit:=C.lit x cs w2.drew hx0 hfit
  cases hlb:littleB x with
  | false=>
   rw [hlb] at hlit
   refine qi_ (ndrg (cvOf true true) [false,true,true,true,false,false,false,true,true,false,false,true,false,false,true,true,true,true] (fun w'=>Fa0 w2 w') (by kernel_rfl) ?_)
   refine eg_op h (d:=13) (v:=.agg cs.toArray) rfl rfl (fun w' hI=>rn_loadN h (.t rfl) (by rw [hl9];exact R.vR) (hbox w' hI)) (by omega) fun a h=>?_
   refine eg_out h (d:=17) rfl rfl (by omega) fun a h=>eg_out h (d:=18) rfl rfl (by omega) fun a h=>eg_out h (d:=19) rfl rfl (by omega) fun a h=>eg_out h (d:=22) rfl rfl (by omega) fun a h=>eg_out h (d:=23) rfl rfl (by omega) fun a h=>eg_out h (d:=25) rfl rfl (by omega) fun a h=>eg_out h (d:=26) rfl rfl (by omega) fun a h=>?_
   have h13:=Hd.t (l:=_) (i:=13) (v:=.agg cs.toArray) rfl _ _ h
   refine lg_call h (d:=14) (f:=N.fLit) (vs:=[.agg cs.toArray]) hI0 (qp_ h (fun hh=>by omega) (fun hh=>by omega)) rfl rfl C.litE (rn_call (args:=[tm 13]) rfl (by simp only [List.map_cons,List.map_nil];rw [h13])) hlit (by omega) fun e w3 hR=>?_
   obtain ⟨rfl,hk3⟩:=hR
   have hI3:=hI0.kn hk3
   refine ⟨_,rfl,fun a h=>?_⟩
   refine lg_op h (d:=15) (v:=.bool true) (w':=w3) hI3 (qp_ h (fun hh=>by omega) (fun hh=>by omega)) rfl rfl (by
    have e:=Hd.t (l:=_) (i:=14) rfl _ a h
    simp [execOp,mk,e,Op.unary]) (by omega) fun a h=>?_
   refine lg_op h (d:=16) (v:=.bool true) hI3 (qp_ h (fun hh=>by omega) (fun hh=>by omega)) rfl rfl (rn_move h (.t rfl)) (by omega) fun a h=>?_
   refine lg_op h (d:=20) (v:=.bool true) hI3 (qp_ h (fun _=>rfl) (fun hh=>by omega)) rfl rfl (by simpa using rn_pick (d:=20) h (b':=true) (u:=.bool true) (v:=undef) (.t rfl) .c (.t rfl)) (by omega) fun a h=>?_
   refine lg_op h (d:=21) (v:=.bool true) hI3 (qp_ h (fun _=>rfl) (fun hh=>by omega)) rfl rfl (rn_move h (.t rfl)) (by omega) fun a h=>?_
   refine lg_out h (d:=24) hI3 (qp_ h (fun _=>rfl) (fun _=>rfl)) rfl rfl (by omega) fun a h=>lg_out h (d:=27) hI3 (qp_ h (fun _=>rfl) (fun _=>rfl)) rfl rfl (by omega) fun a h=>lg_out h (d:=28) hI3 (qp_ h (fun _=>rfl) (fun _=>rfl)) rfl rfl (by omega) fun a h=>?_
   refine lg_op h (d:=29) (v:=.bool true) hI3 (qp_ h (fun _=>rfl) (fun _=>rfl)) rfl rfl (by simpa using rn_pick (d:=29) h (b':=true) (u:=.bool true) (v:=undef) (.t rfl) .c (.t rfl)) (by omega) fun a h=>?_
   refine lg_op h (d:=4) (v:=.bool true) hI3 (qp_ h (fun _=>rfl) (fun _=>rfl)) rfl rfl (rn_assign h (.t rfl)) (by omega) fun a h=>lg_nil hI3 (qp_ h (fun _=>rfl) (fun _=>rfl)) (.ret (true_ret h rfl rfl (hk02.trans hI3.keeps)))
  | true=>
   rw [hlb] at hlit
   have hlb2:=Bool.and_eq_true_iff.1 hlb
   have hcnt:x.hs.length<=1000:=of_decide_eq_true hlb2.1
   have hrest:(restB x).length<=131072:=of_decide_eq_true hlb2.2
   cases hb2:cmpB .gtr (dst.length:Int) 131072 with
   | true=>
    refine qi_ (ndrg (cvOf false true) [false,true,true,true,false,false,false,true,true,false,false,true,false,false,true,true,true,true] (fun w'=>Fa0 w2 w') (by kernel_rfl) ?_)
    refine eg_op h (d:=13) (v:=.agg cs.toArray) rfl rfl (fun w' hI=>rn_loadN h (.t rfl) (by rw [hl9];exact R.vR) (hbox w' hI)) (by omega) fun a h=>?_
    refine eg_op h (d:=17) (v:=dv) rfl rfl (fun w' hI=>rn_move (d:=17) h (.t rfl)) (by omega) fun a h=>?_
    rw [hdf] at h
    refine eg_op h (d:=18) (v:=.int .i64 (dst.length:Int)) rfl rfl (fun w' hI=>rn_len h (.t rfl) R.oct.und) (by omega) fun a h=>?_
    refine eg_op h (d:=19) (v:=.bool true) rfl rfl (fun w' hI=>by rw [<- hb2];exact rn_cmp (d:=19) h rfl (.t rfl) .i) (by omega) fun a h=>?_
    refine eg_out h (d:=22) rfl rfl (by omega) fun a h=>eg_out h (d:=23) rfl rfl (by omega) fun a h=>eg_out h (d:=25) rfl rfl (by omega) fun a h=>eg_out h (d:=26) rfl rfl (by omega) fun a h=>?_
    have h13:=Hd.t (l:=_) (i:=13) (v:=.agg cs.toArray) rfl _ _ h
    refine lg_call h (d:=14) (f:=N.fLit) (vs:=[.agg cs.toArray]) hI0 (qp_ h (fun hh=>by omega) (fun hh=>by omega)) rfl rfl C.litE (rn_call (args:=[tm 13]) rfl (by simp only [List.map_cons,List.map_nil];rw [h13])) hlit (by omega) fun e w3 hR=>?_
    obtain ⟨rfl,hk3⟩:=hR
    have hI3:=hI0.kn hk3
    refine ⟨_,rfl,fun a h=>?_⟩
    refine lg_op h (d:=15) (v:=.bool false) (w':=w3) hI3 (qp_ h (fun hh=>by omega) (fun hh=>by omega)) rfl rfl (by
     have e:=Hd.t (l:=_) (i:=14) rfl _ a h
     simp [execOp,mk,e,Op.unary]) (by omega) fun a h=>?_
    refine lg_op h (d:=16) (v:=.bool false) hI3 (qp_ h (fun hh=>by omega) (fun hh=>by omega)) rfl rfl (rn_move h (.t rfl)) (by omega) fun a h=>?_
    refine lg_op h (d:=20) (v:=.bool true) hI3 (qp_ h (fun _=>rfl) (fun hh=>by omega)) rfl rfl (by simpa using rn_pick (d:=20) h (b':=false) (u:=.bool true) (v:=.bool true) (.t rfl) .c (.t rfl)) (by omega) fun a h=>?_
    refine lg_op h (d:=21) (v:=.bool true) hI3 (qp_ h (fun _=>rfl) (fun hh=>by omega)) rfl rfl (rn_move h (.t rfl)) (by omega) fun a h=>?_
    refine lg_out h (d:=24) hI3 (qp_ h (fun _=>rfl) (fun _=>rfl)) rfl rfl (by omega) fun a h=>lg_out h (d:=27) hI3 (qp_ h (fun _=>rfl) (fun _=>rfl)) rfl rfl (by omega) fun a h=>lg_out h (d:=28) hI3 (qp_ h (fun _=>rfl) (fun _=>rfl)) rfl rfl (by omega) fun a h=>?_
    refine lg_op h (d:=29) (v:=.bool true) hI3 (qp_ h (fun _=>rfl) (fun _=>rfl)) rfl rfl (by simpa using rn_pick (d:=29) h (b':=true) (u:=.bool true) (v:=undef) (.t rfl) .c (.t rfl)) (by omega) fun a h=>?_
    refine lg_op h (d:=4) (v:=.bool true) hI3 (qp_ h (fun _=>rfl) (fun _=>rfl)) rfl rfl (rn_assign h (.t rfl)) (by omega) fun a h=>lg_nil hI3 (qp_ h (fun _=>rfl) (fun _=>rfl)) (.ret (true_ret h rfl rfl (hk02.trans hI3.keeps)))
   | false=>
    have hdst:dst.length<=131072:=by simp [cmpB] at hb2;omega
    have hrb:(recB x).length<=131082:=by
     have e:recB x=vint x.len++restB x:=rfl
     have:=vint_len x.len
     rw [e,List.length_append]
     omega
    have hok:=recOk_of hx hfit
    refine qi_ (ndrg (cvOf false false) [false,true,true,true,false,false,false,true,true,false,false,true,false,false,true,true,true,true] (fun w'=>Fa0 w2 w') (by kernel_rfl) ?_)
    refine eg_op h (d:=13) (v:=.agg cs.toArray) rfl rfl (fun w' hI=>rn_loadN h (.t rfl) (by rw [hl9];exact R.vR) (hbox w' hI)) (by omega) fun a h=>?_
    refine eg_op h (d:=17) (v:=dv) rfl rfl (fun w' hI=>rn_move (d:=17) h (.t rfl)) (by omega) fun a h=>?_
    have h':=h
    rw [hdf] at h'
    refine eg_op h (d:=18) (v:=.int .i64 (dst.length:Int)) rfl rfl (fun w' hI=>rn_len h' (.t rfl) R.oct.und) (by omega) fun a h=>?_
    refine eg_op h (d:=19) (v:=.bool false) rfl rfl (fun w' hI=>by rw [<- hb2];exact rn_cmp (d:=19) h rfl (.t rfl) .i) (by omega) fun a h=>?_
    refine eg_op h (d:=22) (v:=dv) rfl rfl (fun w' hI=>rn_move (d:=22) h (.t rfl)) (by omega) fun a h=>?_
    refine eg_op h (d:=23) (v:=.agg cs.toArray) rfl rfl (fun w' hI=>rn_loadN (d:=23) h (.t rfl) (by rw [hl9];exact R.vR) (hbox w' hI)) (by omega) fun a h=>?_
    refine eg_op h (d:=25) (v:=dv) rfl rfl (fun w' hI=>rn_move (d:=25) h (.t rfl)) (by omega) fun a h=>?_
    refine eg_op h (d:=26) (v:=.agg cs.toArray) rfl rfl (fun w' hI=>rn_loadN (d:=26) h (.t rfl) (by rw [hl9];exact R.vR) (hbox w' hI)) (by omega) fun a h=>?_
    have h13:=Hd.t (l:=_) (i:=13) (v:=.agg cs.toArray) rfl _ _ h
    refine lg_call h (d:=14) (f:=N.fLit) (vs:=[.agg cs.toArray]) hI0 (qp_ h (fun hh=>by omega) (fun hh=>by omega)) rfl rfl C.litE (rn_call (args:=[tm 13]) rfl (by simp only [List.map_cons,List.map_nil];rw [h13])) hlit (by omega) fun e w3 hR=>?_
    obtain ⟨rfl,hk3⟩:=hR
    have hI3:=hI0.kn hk3
    refine ⟨_,rfl,fun a h=>?_⟩
    refine lg_op h (d:=15) (v:=.bool false) (w':=w3) hI3 (qp_ h (fun hh=>by omega) (fun hh=>by omega)) rfl rfl (by
     have e:=Hd.t (l:=_) (i:=14) rfl _ a h
     simp [execOp,mk,e,Op.unary]) (by omega) fun a h=>?_
    refine lg_op h (d:=16) (v:=.bool false) hI3 (qp_ h (fun hh=>by omega) (fun hh=>by omega)) rfl rfl (rn_move h (.t rfl)) (by omega) fun a h=>?_
    refine lg_op h (d:=20) (v:=.bool false) hI3 (qp_ h (fun _=>rfl) (fun hh=>by omega)) rfl rfl (by simpa using rn_pick (d:=20) h (b':=false) (u:=.bool true) (v:=.bool false) (.t rfl) .c (.t rfl)) (by omega) fun a h=>?_
    refine lg_op h (d:=21) (v:=.bool false) hI3 (qp_ h (fun _=>rfl) (fun hh=>by omega)) rfl rfl (rn_move h (.t rfl)) (by omega) fun a h=>?_
    have hf3:Fa0 W w3:=Fa0.of (hk02.trans hI3.keeps)
    have h22:=Hd.t (l:=_) (i:=22) (v:=dv) rfl _ _ h
    have h23:=Hd.t (l:=_) (i:=23) (v:=.agg cs.toArray) rfl _ _ h
    refine lg_call h (d:=24) (f:=N.fMk) (vs:=[dv,.agg cs.toArray]) hI3 (qp_ h (fun _=>rfl) (fun _=>rfl)) rfl rfl C.mkr.1 (rn_call (args:=[tm 22,tm 23]) rfl (by simp only [List.map_cons,List.map_nil];rw [h22,h23])) (C.mkr.2 x cs dv dst w3 (hx.far hf3) hok hcnt (OcX.far hd hf3) (by simp only [LIM];omega)) (by omega) fun e w4 hR=>?_
    obtain ⟨v1,rfl,hd1,hk4⟩:=hR
    have hI4:=hI3.kn hk4
    have hf4:Fa0 W w4:=Fa0.of (hk02.trans hI4.keeps)
    refine ⟨v1,rfl,fun a h=>?_⟩
    have h26:=Hd.t (l:=_) (i:=26) (v:=.agg cs.toArray) rfl _ _ h
    refine lg_call h (d:=27) (f:=N.fRB) (vs:=[.agg cs.toArray]) hI4 (qp_ h (fun _=>rfl) (fun _=>rfl)) rfl rfl C.rb.1 (rn_call (args:=[tm 26]) rfl (by simp only [List.map_cons,List.map_nil];rw [h26])) (C.rb.2 x cs w4 (hx.far hf4) (by simp only [LIM];omega)) (by omega) fun e w5 hR=>?_
    obtain ⟨v2,rfl,hd2,hk5⟩:=hR
    have hI5:=hI4.kn hk5
    have hf5:Fa0 W w5:=Fa0.of (hk02.trans hI5.keeps)
    refine ⟨v2,rfl,fun a h=>?_⟩
    have h24:=Hd.t (l:=_) (i:=24) (v:=v1) rfl _ _ h
    have h25:=Hd.t (l:=_) (i:=25) (v:=dv) rfl _ _ h
    have h27:=Hd.t (l:=_) (i:=27) (v:=v2) rfl _ _ h
    refine lg_call h (d:=28) (f:=N.fBeh) (vs:=[v1,dv,v2]) hI5 (qp_ h (fun _=>rfl) (fun _=>rfl)) rfl rfl C.behE (rn_call (args:=[tm 24,tm 25,tm 27]) rfl (by simp only [List.map_cons,List.map_nil];rw [h24,h25,h27])) (C.beh v1 dv v2 (dst++recB x) dst (recB x) w5 (hd1.sl.keep hk5) (OcX.far hd hf5) hd2.sl (by simp only [List.length_append,maxLen];omega) (by simp only [LIM];omega)) (by omega) fun e w6 hR=>?_
    obtain ⟨rfl,hk6⟩:=hR
    have hI6:=hI5.kn hk6
    refine ⟨_,rfl,fun a h=>?_⟩
    rw [decide_eq_true (rfl:dst++recB x=dst++recB x)] at h
    refine lg_op h (d:=29) (v:=.bool true) hI6 (qp_ h (fun _=>rfl) (fun _=>rfl)) rfl rfl (by simpa using rn_pick (d:=29) h (b':=false) (u:=.bool true) (v:=.bool true) (.t rfl) .c (.t rfl)) (by omega) fun a h=>?_
    refine lg_op h (d:=4) (v:=.bool true) hI6 (qp_ h (fun _=>rfl) (fun _=>rfl)) rfl rfl (rn_assign h (.t rfl)) (by omega) fun a h=>lg_nil hI6 (qp_ h (fun _=>rfl) (fun _=>rfl)) (.ret (true_ret h rfl rfl (hk02.trans hI6.keeps)))
end
end Go.Proofs.Ytlnmiphokmhajaa.Kx
