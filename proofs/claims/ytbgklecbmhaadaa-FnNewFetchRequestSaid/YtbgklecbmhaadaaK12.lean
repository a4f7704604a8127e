/-
  PLAIN LAWS AND CONTRACTS of messages, part 12 of 18: how readers and writers are printed, what they do, what the reference writes, and that what is written is read as the same. Nothing of a statement stands here.
-/
import Derived.Test.YtbgklecbmhaadaaK1
import Derived.Test.YtbgklecbmhaadaaK2
import Derived.Test.YtbgklecbmhaadaaK3
import Derived.Test.YtbgklecbmhaadaaK6
import Derived.Test.YtbgklecbmhaadaaK8
import Derived.Test.YtbgklecbmhaadaaK10
import Derived.Test.YtbgklecbmhaadaaK11
import Derived.KernelRfl
import Derived.Laws.IdiomStrings
import Derived.Shelf.GgSortFunc.Whole
import Derived.Shelf.GgSortFunc.Tiny
import Derived.Sort.LotA
import Derived.OpenShut
import Derived.ChangeSlices

namespace Go.Proofs.Ytbgklecbmhaadaa.Kx
open Go
theorem qv_.sl {w:World} {L te:Nat} {d:Value} {bs:Bs} (h:qv_ w L te d bs):SlRp w (fun _=>False) d bs:=by
 rcases h with ⟨rfl,rfl⟩ | ⟨g,c,cur,rfl,_,hg,hn,hc,hs,hat⟩
 ·exact .inl ⟨rfl,rfl⟩
 ·refine .inr ⟨g,0,c,rfl,id,(Array.getElem?_eq_some_iff.1 hg).1,hn,hc,fun i x hi=>?_⟩
  rw [Nat.zero_add]
  simp [World.cell?,hg,hat i x hi,jx_]
section
variable {P:Program} {gErr te:Nat} {kept hf:Bool} {flex:Nat} {fs:Fds} {toff:Option Nat} {T:Nat} {z:Array Value} {fN fS fR fA:Nat}
end
end Go.Proofs.Ytbgklecbmhaadaa.Kx

namespace Go.Proofs.Ytbgklecbmhaadaa.Kx
open Go Go.ChangeMaps
section
variable {P:Program}
theorem wl_buildOne {tS te:Nat} (hS:P.underlying tS=some (.slice te)) (hi:∃ i z,P.info? te=some i/\i.zero=some z/\i.size=1/\i.bytes=4) {ops:Array Oper} {Q:Exit->Act->World->Prop} {r:List Oper} {a:Act} {w:World} {d:Option Nat} {y:Operand} {k:Nat} (hy:a.eval y=zt_ k)
  (h:wpList P ops Q r (a.put d (.slice (some ⟨w.heap.size,0,none⟩) 1 1)) (w.alloc (.cells #[zt_ k] te (0,0)))):wpList P ops Q (mk d (.buildSlice tS 1 #[(0,y)]) :: r) a w:=by
 obtain ⟨i,z,hi,hz,hsz,_⟩:=hi
 refine qp_ (w':=w.alloc (.cells #[zt_ k] te (0,0))) ?_ h
 have hfill:=fill_one [zt_ k] 0 ((Array.range 1).map fun k=>z.cells[k % z.cells.size]!) (fun v hv=>by
  simp only [List.mem_singleton] at hv
  subst hv
  rfl) (by simp)
 rw [splice_whole (by simp)] at hfill
 simp [prs] at hfill
 simp [execOp,mk,Instr.buildSlice,run_underlying hS,sizeOf,typeInfo,zeroValue,hi,hz,hsz,hy,hfill,newRow,newObj,Sem.run]
theorem wl_bi {ops:Array Oper} {Q:Exit->Act->World->Prop} {r:List Oper} {a:Act} {w w':World} {d:Option Nat} {b:Builtin} {args:List Operand} {tys:List Nat} {ty:Nat} {v:Value} (h:(execOp a.eval (bi d b args tys ty)).run P w=.ok (.value v) w') (hk:wpList P ops Q r (a.put d v) w'):wpList P ops Q (bi d b args tys ty :: r) a w:=by
 refine wpList_plain rfl fun _ hK=>?_
 unfold Oper.wp
 rw [h]
 exact hK _ _ hk
def boxLen (w:World) (V:Nat):Nat:=match w.heap[V]? with | some (.cells cs _ _)=>(match (cs[0]?:Option Value) with | some (.slice _ n _)=>n | _=>0) | _=>0
theorem s_gather {T:TN} (tf:TF P T) {w0 w:World} {q it V G clock:Nat} {es:List jy_} {a:Act} {K E:Act->World->Prop} (h24:a.get 24=pt it 0) (h4:a.get 4=pt V 0) (hs:53<=a.tmps.size) (hg:Gath T w0 q it V G clock es [] w) (hb:∀ e ∈ es,e.born < clock) (hn:(es.map jy_.born).Nodup)
  (h:∀ a' w' L,(∀ i,i < 4->a'.get i=a.get i)->a'.get 4=pt V 0->a'.tmps.size=a.tmps.size->a'.defers=a.defers->Gath T w0 q it V G clock es L w'->(∀ e ∈ es,e.born ∈ L.map jy_.born)->K a' w'):NWP P (.block 0 (eachLoop T)) (Rt K E) a w:=by
 have hgle:∀ L w1,Gath T w0 q it V G clock es L w1->boxLen w1 V=L.length:=fun L w1 hg1=>by simp [boxLen,hg1.box]
 refine .block (.loop (fun a1 w1=>∃ L,Gath T w0 q it V G clock es L w1/\(∀ i,i < 4->a1.get i=a.get i)/\a1.get 4=pt V 0/\a1.get 24=pt it 0/\a1.tmps.size=a.tmps.size/\a1.defers=a.defers) (fun _ w1=>es.length - boxLen w1 V) ⟨[],hg,fun _ _=>rfl,h4,h24,rfl,rfl⟩ ?_)
 rintro a1 w1 ⟨L,hg1,hlow,e4,e24,hs1,hd1⟩
 have lt:∀ d,d < 53->d < a1.tmps.size:=fun d hd=>by omega
 have hle:=hg1.le
 rcases hg1.next (P:=P) hb 0 with ⟨hall,hr⟩ | ⟨e,he,hnew,w2,hw2,hr⟩
 ·-- all have come
  refine .seq (R:=Rt (fun a2 w3=>a2=(a1.put (some 25) (.tuple #[.bool false])).put (some 26) (.bool false)/\w3=w1) fun _ _=>False) (.reg ?_) (fun a2 w3 hh=>?_) (fun e a w he hq=>by cases e <;> first | exact absurd rfl he | exact hq.elim)
  ·refine qp_ (v:=.tuple #[.bool false]) (w':=w1) (by simp [execOp,mk,qb_,e24,hr]) ?_
   refine wl_extract (vs:=#[.bool false]) (v:=.bool false) (by rw [qb_,gpe (lt _ (by omega))]) rfl (wpList_nil ⟨rfl,rfl⟩)
  obtain ⟨rfl,rfl⟩:=hh
  refine .seq (R:=Exit.then (fun _ _=>False) (Exit.inBlock 0 (Rt K E))) (.condF (by rw [qb_,gpe (by simp only [qa_];exact lt _ (by omega))]) (.exit ?_)) (fun _ _ hh=>hh.elim) (fun e a w he hq=>by rw [zu_ he] at hq ⊢;exact hq)
  show K _ _
  refine h _ _ L (fun i hi=>?_) ?_ ?_ ?_ hg1 hall
  ·rw [gpo (by omega),gpo (by omega)];exact hlow i hi
  ·rw [gpo (by omega),gpo (by omega)];exact e4
  ·simp only [qa_];exact hs1
  ·simp only [qh_];exact hd1
 ·-- one more
  have hseen:((L++[e]).map jy_.born).toArray=(L.map jy_.born).toArray.push e.born:=by simp
  have hw2h:w2.heap=w1.heap:=by rcases hw2 with rfl | rfl <;> rfl
  have hk12:qc_ (fun _=>False) w1 w2:=by
   rcases hw2 with rfl | rfl
   ·exact qc_.refl _ _
   ·exact qc_.drew _ _
  obtain ⟨n1,n2,n3,n4,n5,n6,n7⟩:=hg1.new
  have hlt:∀ k,w1.heap[k]? ≠ none->k < w1.heap.size:=fun k hk=>by
   rcases Nat.lt_or_ge k w1.heap.size with h | h
   ·exact h
   ·exact absurd (Array.getElem?_eq_none h) hk
  have hitl:it < w2.heap.size:=by rw [hw2h];exact hlt it (by rw [hg1.iter];simp)
  generalize hW:setBlock w2 it (.mapIter (some q) clock ((L++[e]).map jy_.born).toArray clock)=W at hr
  have hWit:W.heap[it]?=some (.mapIter (some q) clock ((L++[e]).map jy_.born).toArray clock):=by rw [<- hW];exact heap_set_self hitl
  have hWne:∀ k,k ≠ it->W.heap[k]?=w1.heap[k]?:=fun k hk=>by rw [<- hW,heap_set_ne hk,hw2h]
  have hWs:W.heap.size=w1.heap.size:=by rw [<- hW,<- hw2h];show (w2.heap.setIfInBounds it _).size=_;simp
  have hKW:qc_ (fun k=>k=it) w1 W:=by
   rw [<- hW]
   exact (hk12.mono fun _ _ h=>h.elim).trans (keeps_set (X:=fun k=>k=it) rfl)
  have hq:W.heap[q]?=some (.map (es.map jy_.entry).toArray clock):=by rw [hWne q (by omega)];exact hg1.mp
  obtain ⟨cur,hrow,hcs,hat⟩:=hg1.row
  have hGW:W.heap[G]?=some (.cells cur T.tU32 (0,0)):=by rw [hWne G n6];exact hrow
  have hVW:W.heap[V]?=some (.cells #[.slice (some ⟨G,0,none⟩) L.length es.length] T.tKs (0,0)):=by rw [hWne V n5];exact hg1.box
  have hGl:G < W.heap.size:=by rw [hWs];exact hlt G (by rw [hrow];simp)
  have hVl:V < W.heap.size:=by rw [hWs];exact hlt V (by rw [hg1.box];simp)
  have hnod:((L++[e]).map jy_.born).Nodup:=by
   rw [List.map_append,List.nodup_append]
   refine ⟨hg1.nod,by simp,fun x hx y hy=>?_⟩
   simp only [List.map_cons,List.map_nil,List.mem_singleton] at hy
   subst hy
   exact fun hxy=>hnew (hxy ▸ hx)
  have hsub:∀ x ∈ L++[e],x ∈ es:=fun x hx=>by
   rcases List.mem_append.1 hx with hx | hx
   ·exact hg1.sub x hx
   ·simp only [List.mem_singleton] at hx;subst hx;exact he
  have hlen:L.length + 1<=es.length:=by
   have hg':Gath T w0 q it V G clock es [] w:=hg
   have:=Gath.le (T:=T) (w0:=w) (q:=q) (it:=it) (V:=V) (G:=G) (clock:=clock) (es:=es) (L:=L++[e])
    (w:=setBlock (setBlock w2 it (.mapIter (some q) clock ((L++[e]).map jy_.born).toArray clock)) V (.cells #[.slice (some ⟨G,0,none⟩) (L++[e]).length es.length] T.tKs (0,0)))
   clear this hg'
   have key:∀ (l m:List Nat),l.Nodup->(∀ x ∈ l,x ∈ m)->l.length<=m.length:=by
    intro l
    induction l with
    | nil=>intro m _ _;simp
    | cons a l ih=>
     intro m hl hs
     obtain ⟨h1,h2⟩:=List.nodup_cons.1 hl
     have hm:a ∈ m:=hs a (by simp)
     have:=ih (m.erase a) h2 fun x hx=>(List.mem_erase_of_ne (fun e=>h1 (by rw [<- e];exact hx))).2 (hs x (by simp [hx]))
     rw [List.length_erase_of_mem hm] at this
     have:=List.length_pos_of_mem hm
     simp only [List.length_cons]
     omega
   have:=key ((L++[e]).map jy_.born) (es.map jy_.born) hnod fun x hx=>by
    obtain ⟨y,hy,rfl⟩:=List.mem_map.1 hx
    exact List.mem_map.2 ⟨y,hsub y hy,rfl⟩
   simpa using this
  refine .seq (R:=Rt (fun a2 w3=>a2=(a1.put (some 25) (.tuple #[.bool true,zt_ e.key,e.val])).put (some 26) (.bool true)/\w3=W) fun _ _=>False) (.reg ?_) (fun a2 w3 hh=>?_) (fun e a w he hq=>by cases e <;> first | exact absurd rfl he | exact hq.elim)
  ·refine qp_ (v:=.tuple #[.bool true,zt_ e.key,e.val]) (w':=W) (by simp [execOp,mk,qb_,e24,hr]) ?_
   refine wl_extract (vs:=#[.bool true,zt_ e.key,e.val]) (v:=.bool true) (by rw [qb_,gpe (lt _ (by omega))]) rfl (wpList_nil ⟨rfl,rfl⟩)
  obtain ⟨rfl,rfl⟩:=hh
  refine .seq (R:=Rt (fun a' w'=>a'=(a1.put (some 25) (.tuple #[.bool true,zt_ e.key,e.val])).put (some 26) (.bool true)/\w'=w3) fun _ _=>False) (.condT (by rw [qb_,gpe (by simp only [qa_];exact lt _ (by omega))]) (.skip ⟨rfl,rfl⟩)) (fun a2 w4 hh=>?_) (fun e a w he hq=>by cases e <;> first | exact absurd rfl he | exact hq.elim)
  obtain ⟨rfl,rfl⟩:=hh
  refine .block ?_
  unfold eachBody
  have hent:(Instr.entry (pt it 0)).run P w4=.ok (.tuple #[zt_ e.key,e.val]) w4:=by
   have:=run_entry_at (P:=P) w4 it q clock (L.map jy_.born).toArray (es.map jy_.entry).toArray clock e.entry (by rw [hWit,hseen];rfl) hq (by simpa using ⟨e,he,rfl⟩) (by
    have e1:((es.map jy_.entry).toArray.toList.map (·.born))=es.map jy_.born:=by simp [jy_.entry,Function.comp_def]
    rw [e1];exact hn)
   simpa [pt,jy_.entry,zt_] using this
  refine .seq (R:=Rt (fun a3 w5=>(∀ i,i < 4->a3.get i=a.get i)/\a3.get 4=pt V 0/\a3.get 24=pt it 0/\a3.get 5=zt_ e.key/\a3.tmps.size=a.tmps.size/\a3.defers=a.defers/\w5=w4) fun _ _=>False) (.reg ?_) (fun a3 w5 hh=>?_) (fun e a w he hq=>by cases e <;> first | exact absurd rfl he | exact hq.elim)
  ·refine qp_ (v:=.tuple #[zt_ e.key,e.val]) (w':=w4) (by simp [execOp,mk,qb_,gp,lt,qa_,e24,hent]) ?_
   refine wl_extract (vs:=#[zt_ e.key,e.val]) (v:=zt_ e.key) (by simp [qb_,gp,lt,qa_]) rfl (ql_ (wpList_nil ⟨fun i hi=>?_,?_,?_,?_,?_,?_,rfl⟩))
   ·iterate 5 rw [gpo (by omega)]
    exact hlow i hi
   ·iterate 5 rw [gpo (by omega)]
    exact e4
   ·iterate 5 rw [gpo (by omega)]
    exact e24
   ·simp [qb_,gp,lt,qa_]
   ·simp only [qa_];exact hs1
   ·simp only [qh_];exact hd1
  obtain ⟨f0,f4,f24,f5,fs,fd,rfl⟩:=hh
  have lt3:∀ d,d < 53->d < a3.tmps.size:=fun d hd=>by omega
  refine .reg ?_
  refine jg_ (p:=⟨V,0,none⟩) (v:=.slice (some ⟨G,0,none⟩) L.length es.length) (by rw [qb_,f4];rfl) (tf.vK.agg _) (by simp [World.cell?,hVW]) (qg_ ?_)
  rw [qb_,gpo (by omega),f5]
  refine wl_buildOne tf.sl tf.info (k:=e.key) (by simp [qb_,gp,lt3,qa_]) ?_
  have hWal:∀ k,k < w5.heap.size->(w5.alloc (.cells #[zt_ e.key] T.tU32 (0,0))).heap[k]?=w5.heap[k]?:=fun k hk=>jc_ hk
  have happ:=run_append_room (P:=P) (w:=w5.alloc (.cells #[zt_ e.key] T.tU32 (0,0))) (tS:=T.tKs) (te:=T.tU32) (G:=G) (n:=es.length) (cur:=cur) (v:=zt_ e.key) (X:=w5.heap.size) (c:=1) (x:=L.length) (ty:=T.tKs) tf.sl
   (by obtain ⟨i,_,h1,_,h2,_⟩:=tf.info;exact ⟨i,h1,h2⟩) (by rw [hWal G hGl];exact hGW) hcs (by omega) (by
    have hn:=qk_ w5 (.cells #[zt_ e.key] T.tU32 (0,0))
    simp only [World.cell?,hn]
    rfl) rfl
  refine wl_bi (v:=.slice (some ⟨G,0,none⟩) (L.length + 1) es.length) (w':=(w5.alloc (.cells #[zt_ e.key] T.tU32 (0,0))).setRow G (cur.setIfInBounds L.length (zt_ e.key))) ?_ ?_
  ·have e29:Act.eval ((((a3.put (some 29) (.slice (some ⟨G,0,none⟩) L.length es.length)).put (some 30) (zt_ e.key)).put (some 31) (.slice (some ⟨w5.heap.size,0,none⟩) 1 1))) (tm 29)=.slice (some ⟨G,0,none⟩) L.length es.length:=by simp [qb_,gp,lt3,qa_]
   have e31:Act.eval ((((a3.put (some 29) (.slice (some ⟨G,0,none⟩) L.length es.length)).put (some 30) (zt_ e.key)).put (some 31) (.slice (some ⟨w5.heap.size,0,none⟩) 1 1))) (tm 31)=.slice (some ⟨w5.heap.size,0,none⟩) 1 1:=by simp [qb_,gp,lt3,qa_]
   simp [execOp,bi,resolve,invoke,e29,e31,builtin,happ]
  generalize hW5:(w5.alloc (.cells #[zt_ e.key] T.tU32 (0,0))).setRow G (cur.setIfInBounds L.length (zt_ e.key))=W5
  have hK5:qc_ (fun k=>k=G) w5 W5:=by
   rw [<- hW5]
   exact (qc_.alloc _ _ _).trans (qc_.setRow _ _ _ _ rfl)
  have hV5:W5.heap[V]?=some (.cells #[.slice (some ⟨G,0,none⟩) L.length es.length] T.tKs (0,0)):=by rw [hK5.block V hVl n4];exact hVW
  have hG5:W5.heap[G]?=some (.cells (cur.setIfInBounds L.length (zt_ e.key)) T.tU32 (0,0)):=by
   rw [<- hW5]
   exact setRow_heap _ _ _ _ _ _ (by rw [hWal G hGl];exact hGW)
  refine j5_ (g:=V) (o:=0) (cur:=#[.slice (some ⟨G,0,none⟩) L.length es.length]) (t:=T.tKs) (v:=.slice (some ⟨G,0,none⟩) (L.length + 1) es.length) (vs:=[.slice (some ⟨G,0,none⟩) (L.length + 1) es.length]) (by simp [qb_,gp,lt3,qa_,f4,pt]) (by simp [qb_,gp,lt3,qa_]) rfl (tf.vK.size _) hV5 (by simp) (by simp [Value.oneCell']) (wpList_nil ?_)
  have e1:q4_ #[.slice (some ⟨G,0,none⟩) L.length es.length] 0 [.slice (some ⟨G,0,none⟩) (L.length + 1) es.length]=#[.slice (some ⟨G,0,none⟩) (L.length + 1) es.length]:=by simp [q4_]
  rw [e1]
  have hK6:qc_ (fun k=>k=V) W5 (W5.setRow V #[.slice (some ⟨G,0,none⟩) (L.length + 1) es.length]):=qc_.setRow _ _ _ _ rfl
  have hs5:=hK5.size
  have hgn:Gath T w0 q it V G clock es (L++[e]) (W5.setRow V #[.slice (some ⟨G,0,none⟩) (L.length + 1) es.length]):=by
   refine ⟨?_,?_,?_,?_,⟨cur.setIfInBounds L.length (zt_ e.key),?_,by simp [hcs],fun i x hx=>?_⟩,hsub,hnod,hg1.new⟩
   ·have h3:qc_ (fun k=>w0.heap.size<=k) w0 w1:=hg1.keeps.mono fun _ _ h=>h.elim
    have h4:qc_ (fun k=>w0.heap.size<=k) w1 (W5.setRow V #[.slice (some ⟨G,0,none⟩) (L.length + 1) es.length]):=((hKW.mono fun k _ hk=>by omega).trans (hK5.mono fun k _ hk=>by omega)).trans (hK6.mono fun k _ hk=>by omega)
    exact (h3.trans h4).mono fun k hk hX=>by omega
   ·rw [hK6.block q (by omega) (by omega),hK5.block q (by omega) (by omega)];exact hq
   ·have:it < w5.heap.size:=by rw [hWs,<- hw2h];exact hitl
    rw [hK6.block it (by omega) (fun h=>n5 h.symm),hK5.block it this (fun h=>n6 h.symm)];exact hWit
   ·rw [List.length_append];exact setRow_heap _ _ _ _ _ _ hV5
   ·rw [hK6.block G (by omega) (fun h=>n4 h.symm)];exact hG5
   ·by_cases hi:i < L.length
    ·rw [Array.getElem?_setIfInBounds,if_neg (by omega)]
     rw [List.getElem?_append_left hi] at hx
     exact hat i x hx
    ·rw [List.getElem?_append_right (by omega)] at hx
     have hi0:i - L.length=0:=by
      have:=(List.getElem?_eq_some_iff.1 hx).1
      simp at this
      omega
     rw [hi0] at hx
     obtain rfl:e=x:=by simpa using hx
     rw [show i=L.length by omega,Array.getElem?_setIfInBounds,if_pos rfl,if_pos (by omega)]
  show (∃ L,_)/\_
  refine ⟨⟨L++[e],hgn,fun i hi=>?_,?_,?_,?_,?_⟩,?_⟩
  ·iterate 4 rw [gpo (by omega)]
   exact f0 i hi
  ·iterate 4 rw [gpo (by omega)]
   exact f4
  ·iterate 4 rw [gpo (by omega)]
   exact f24
  ·simp only [qa_];exact fs
  ·simp only [qh_];exact fd
  ·show es.length - boxLen _ V < es.length - boxLen w1 V
   rw [hgle _ _ hgn,hgle _ _ hg1,List.length_append]
   simp only [List.length_cons,List.length_nil]
   omega
end
end Go.Proofs.Ytbgklecbmhaadaa.Kx

namespace Go.Proofs.Ytbgklecbmhaadaa.Kx
open Go Go.ChangeMaps
section
variable {P:Program}
theorem s_visit {T:TN} (tf:TF P T) {a:Act} {w:World} {b o n G L sz0 s1 fC:Nat} {cap:Array Value} {m:Value} {t:List (Nat × Bs)} {I:Nat->World->Prop} {K E:Act->World->Prop} (h0:a.get 0=pt b o) (h1:a.get 1=.func (.func fC) #[] cap) (h37:a.get 37=.slice (some ⟨G,0,none⟩) n n)
  (h38:a.get 38=.int .i64 (n:Int)) (h39:a.get 39=.int .i64 ((0:Nat):Int)) (hs:53<=a.tmps.size) (hn:n=t.length) (hn63:n < 4611686018427387904) (hG:∃ cur,w.heap[G]?=some (.cells cur T.tU32 (0,0))/\∀ (i:Nat) (p:Nat × Bs),t[i]?=some p->cur[i]?=some (zt_ p.1)) (hGs:sz0<=G/\G < s1)
  (hbs:b < sz0) (_hLs:L<=sz0) (_hs1:sz0<=s1) (hcell:w.cell? ⟨b,o,none⟩=some m) (ht:TgRp w (fun k=>L<=k) m t) (hI:I 0 w) (hCE:Ent P fC)
  (hC:∀ (j:Nat) (w1:World) (k:Nat) (l:Bs) (v:Value),t[j]?=some (k,l)->I j w1->SlRp w1 (fun x=>L<=x) v l->Calls P fC (#[.int .u32 (k:Int),v]++cap) w1 fun e w2=>e=.returned (.tuple #[])/\I (j + 1) w2/\qc_ (fun x=>(L<=x/\x < sz0/\x ≠ b) \/ s1<=x) w1 w2)
  (h:∀ a' w',a'.tmps.size=a.tmps.size->a'.defers=a.defers->I n w'->K a' w'):NWP P (.block 2 (eachLoop2 T)) (Rt K E) a w:=by
 obtain ⟨cur,hG,hat⟩:=hG
 refine .block (.loop (fun a1 w1=>∃ j:Nat,j<=n/\a1.get 0=pt b o/\a1.get 1=.func (.func fC) #[] cap/\a1.get 37=.slice (some ⟨G,0,none⟩) n n/\a1.get 38=.int .i64 (n:Int)/\a1.get 39=.int .i64 (j:Int)/\a1.tmps.size=a.tmps.size/\a1.defers=a.defers /\
   w1.heap[G]?=some (.cells cur T.tU32 (0,0))/\w1.cell? ⟨b,o,none⟩=some m/\TgRp w1 (fun k=>L<=k) m t/\I j w1) (fun a1 _=>((n:Int) - (match a1.get 39 with | .int _ q=>q | _=>0)).toNat) ⟨0,by omega,h0,h1,h37,h38,h39,rfl,rfl,hG,hcell,ht,hI⟩ ?_)
 rintro a1 w1 ⟨j,hj,e0,e1,e37,e38,e39,es,ed,eG,ec,et,eI⟩
 have lt:∀ d,d < 53->d < a1.tmps.size:=fun d hd=>by omega
 have htest:∀ (bb:Bool) (Q:Act->World->Prop),bb=decide ((j:Int) < (n:Int))->NWP P (rg [mk (some 40) (.binOp .lss T.tInt (tm 39) (tm 38) 0)]) (Rt (fun a' w'=>a'=a1.put (some 40) (.bool bb)/\w'=w1) Q) a1 w1:=by
  intro bb Q hbb
  exact .reg (zl_ (b:=bb) (p:=j) (q:=n) (k:=.i64) e39 e38 (.inr (.inr (.inl ⟨rfl,hbb⟩))) (wpList_nil ⟨rfl,rfl⟩))
 by_cases hlt:j < n
 ·refine .seq (htest true (fun _ _=>False) (by simp [hlt])) (fun a2 w2 hh=>?_) (fun e a w he hq=>by cases e <;> first | exact absurd rfl he | exact hq.elim)
  obtain ⟨rfl,rfl⟩:=hh
  refine .seq (R:=Rt (fun a' w'=>a'=a1.put (some 40) (.bool true)/\w'=w2) fun _ _=>False) (.condT (by rw [qb_,gpe (lt _ (by omega))]) (.skip ⟨rfl,rfl⟩)) (fun a3 w3 hh=>?_) (fun e a w he hq=>by cases e <;> first | exact absurd rfl he | exact hq.elim)
  obtain ⟨rfl,rfl⟩:=hh
  obtain ⟨p,hp⟩:∃ p,t[j]?=some p:=⟨t[j]'(by omega),List.getElem?_eq_getElem (by omega)⟩
  obtain ⟨k,l⟩:=p
  refine .seq (R:=Rt (fun a' w'=>a'.get 0=pt b o/\a'.get 1=.func (.func fC) #[] cap/\a'.get 37=.slice (some ⟨G,0,none⟩) n n/\a'.get 38=.int .i64 (n:Int)/\a'.get 39=.int .i64 (j:Int)/\a'.tmps.size=a.tmps.size/\a'.defers=a.defers /\
    w'.heap[G]?=some (.cells cur T.tU32 (0,0))/\w'.cell? ⟨b,o,none⟩=some m/\TgRp w' (fun k=>L<=k) m t/\I (j + 1) w') fun _ _=>False) (.block ?_) (fun a4 w4 hh=>?_) (fun e a w he hq=>by cases e <;> first | exact absurd rfl he | exact hq.elim)
  ·unfold eachCall
   refine .seq (R:=Rt (fun a' w'=>a'.get 0=pt b o/\a'.get 1=.func (.func fC) #[] cap/\a'.get 37=.slice (some ⟨G,0,none⟩) n n/\a'.get 38=.int .i64 (n:Int)/\a'.get 39=.int .i64 (j:Int)/\a'.get 7=zt_ k/\a'.tmps.size=a.tmps.size/\a'.defers=a.defers/\w'=w3) fun _ _=>False) (.reg ?_) (fun a5 w5 hh=>?_) (fun e a w he hq=>by cases e <;> first | exact absurd rfl he | exact hq.elim)
   ·refine zx_ (b:=G) (o:=0) (n:=n) (c:=n) (i:=j) (k:=.i64) (sz:=1) (by simp [qb_,gp,lt,e37]) (by simp [qb_,gp,lt,e39]) hlt tf.sl (tf.vU.size _) ?_
    refine jg_ (p:=⟨G,0 + j * 1,none⟩) (v:=zt_ k) (by simp [qb_,gp,lt,qa_]) (tf.vU.agg _) (by
     have:=hat j _ hp
     simp [World.cell?,eG,this]) (ql_ (wpList_nil ⟨?_,?_,?_,?_,?_,?_,?_,?_,rfl⟩))
    ·simp [gp,lt,qa_,e0]
    ·simp [gp,lt,qa_,e1]
    ·simp [gp,lt,qa_,e37]
    ·simp [gp,lt,qa_,e38]
    ·simp [gp,lt,qa_,e39]
    ·simp [qb_,gp,lt,qa_]
    ·simp only [qa_];exact es
    ·simp only [qh_];exact ed
   obtain ⟨f0,f1,f37,f38,f39,f7,fs,fd,rfl⟩:=hh
   have lt5:∀ d,d < 53->d < a5.tmps.size:=fun d hd=>by omega
   have hmem:∃ (q clock jj:Nat) (es:List jy_) (e:jy_),m=.map (some q)/\w5.heap[q]?=some (.map (es.map jy_.entry).toArray clock)/\(es.map jy_.key).Nodup/\es[jj]?=some e/\e.key=k/\SlRp w5 (fun x=>L<=x) e.val l:=by
    rcases et with ⟨_,rfl⟩ | ⟨q,rfl,_,_,⟨es,clock,f,hb1,hs1,_,hk1,hp1,_⟩,_⟩
    ·simp at hp
    ·have hm:(k,l) ∈ es.map fun e=>(e.key,f e):=hp1.mem_iff.2 (List.mem_of_getElem? hp)
     obtain ⟨e,he,hee⟩:=List.mem_map.1 hm
     simp only [Prod.mk.injEq] at hee
     obtain ⟨jj,hjj⟩:=List.getElem?_of_mem he
     exact ⟨q,clock,jj,es,e,rfl,hb1,hk1,hjj,hee.1,by rw [<- hee.2];exact (hs1 e he).2.2.mono fun _ _ h=>.inl h⟩
   obtain ⟨q,clock,jj,es',ev,rfl,hb1,hk1,hjj,rfl,hsl⟩:=hmem
   obtain ⟨kt,et',hM,hKt⟩:=tf.map
   refine .reg (qg_ (qg_ (qg_ ?_)))
   rw [qb_,f1,qb_,gpo (by omega),f7,qb_,gpo (by omega),gpo (by omega),f0]
   refine q0_ (p:=⟨b,o,none⟩) (by simp [qb_,gp,lt5,qa_,pt]) ?_
   refine z1_ (B:=b) (O:=o) (by simp [qb_,gp,lt5,qa_]) tf.fld ?_
   refine jg_ (p:=⟨b,o + 0,none⟩) (v:=.map (some q)) (by simp [qb_,gp,lt5,qa_]) (tf.fld.var.agg _) ec (qg_ ?_)
   refine qp_ (v:=ev.val) (w':=w5) ?_ ?_
   ·have hget:=run_mapGet (w:=w5) hM hKt hb1 hk1 hjj rfl
    have e48:∀ (A:Act),A=A->A.eval (tm 48)=.map (some q)->A.eval (tm 49)=zt_ ev.key->(execOp A.eval (mk (some 50) (.lookup T.tM (tm 48) (tm 49) false))).run P w5=.ok (.value ev.val) w5:=fun A _ h1 h2=>by
     simp [execOp,mk,h1,h2,hget]
    refine e48 _ rfl ?_ ?_
    ·simp [qb_,gp,lt5,qa_]
    ·simp [qb_,gp,lt5,qa_,f7]
   refine wl_callFn (f:=fC) (cap:=cap) (vs:=#[.int .u32 (ev.key:Int),ev.val]) (args:=[tm 44,tm 50]) hCE (by simp [qb_,gp,lt5,qa_]) (by simp [qb_,gp,lt5,qa_,zt_]) (hC j w5 ev.key l ev.val hp eI hsl) fun e w6 hR=>?_
   obtain ⟨he,hI6,hk6⟩:=hR
   refine ⟨_,he,wpList_nil ⟨?_,?_,?_,?_,?_,?_,?_,?_,?_,?_,hI6⟩⟩
   ·simp [gp,lt5,qa_,f0]
   ·simp [gp,lt5,qa_,f1]
   ·simp [gp,lt5,qa_,f37]
   ·simp [gp,lt5,qa_,f38]
   ·simp [gp,lt5,qa_,f39]
   ·simp only [qa_];exact fs
   ·simp only [qh_];exact fd
   ·have hGl:G < w5.heap.size:=(Array.getElem?_eq_some_iff.1 eG).1
    rw [hk6.block G hGl (by omega)];exact eG
   ·exact hk6.cell (fun hh=>by rcases hh with hh | hh;exact hh.2.2 rfl;omega) ec
   ·exact et.keep (hk6.mono fun k _ hk=>by omega)
  obtain ⟨g0,g1,g37,g38,g39,gs,gd,gG,gc,gt,gI⟩:=hh
  have lt4:∀ d,d < 53->d < a4.tmps.size:=fun d hd=>by omega
  refine .reg ?_
  refine wl_bin (k:=.i64) (m:=(j:Int)) (n:=1) (v:=.int .i64 ((j + 1:Nat):Int)) (by rw [qb_];exact g39) rfl (by simp) (by
   have:IntKind.i64.wrap ((j:Int) + 1)=((j + 1:Nat):Int):=by simp [IntKind.wrap,IntKind.bits,IntKind.signed];omega
   simp [binOp,Op.intArith,this]) (qg_ (wpList_nil ?_))
  show (∃ j',_)/\_
  refine ⟨⟨j + 1,by omega,?_,?_,?_,?_,?_,?_,?_,gG,gc,gt,gI⟩,?_⟩
  ·simp [gp,lt4,qa_,g0]
  ·simp [gp,lt4,qa_,g1]
  ·simp [gp,lt4,qa_,g37]
  ·simp [gp,lt4,qa_,g38]
  ·simp [qb_,gp,lt4,qa_]
  ·simp only [qa_];exact gs
  ·simp only [qh_];exact gd
  ·show ((n:Int) - (match Act.get _ 39 with | .int _ q=>q | _=>0)).toNat < ((n:Int) - (match a1.get 39 with | .int _ q=>q | _=>0)).toNat
   rw [e39,gpe (by simp only [qa_];exact lt4 _ (by omega)),qb_,gpe (lt4 _ (by omega))]
   simp only
   omega
 ·have hjn:j=n:=by omega
  refine .seq (htest false (fun _ _=>False) (by simp;omega)) (fun a2 w2 hh=>?_) (fun e a w he hq=>by cases e <;> first | exact absurd rfl he | exact hq.elim)
  obtain ⟨rfl,rfl⟩:=hh
  refine .seq (R:=Exit.then (fun _ _=>False) (Exit.inBlock 2 (Rt K E))) (.condF (by rw [qb_,gpe (lt _ (by omega))]) (.exit ?_)) (fun _ _ hh=>hh.elim) (fun e a w he hq=>by rw [zu_ he] at hq ⊢;exact hq)
  show K _ _
  exact h _ _ (by simp only [qa_];exact es) (by simp only [qh_];exact ed) (hjn ▸ eI)
end
end Go.Proofs.Ytbgklecbmhaadaa.Kx

namespace Go.Proofs.Ytbgklecbmhaadaa.Kx
open Go Go.ChangeMaps
section
variable {P:Program}
theorem each_calls (hm:P.follows .mixedOrders=true) {T:TN} (tf:TF P T) (hso:SortOk P T) {f nt:Nat} (hfn:FnIs P f nt [] (cEach T)) (hnt:53<=nt) {w:World} {b o L fC:Nat} {m:Value} {t:List (Nat × Bs)} {cap:Array Value} {I:Nat->Nat->World->Prop} (hc:w.cell? ⟨b,o,none⟩=some m) (hb:b < w.heap.size) (hL:L<=w.heap.size)
  (ht:TgRp w (fun k=>L<=k) m t) (hn:t.length<=35200000000000) (hCE:Ent P fC) (hI0:∀ w1,qc_ (fun _=>False) w w1->I w1.heap.size 0 w1)
  (hC:∀ (s1 j:Nat) (w1:World) (k:Nat) (l:Bs) (v:Value),w.heap.size<=s1->t[j]?=some (k,l)->I s1 j w1->SlRp w1 (fun x=>L<=x) v l->Calls P fC (#[.int .u32 (k:Int),v]++cap) w1 fun e w2=>e=.returned (.tuple #[])/\I s1 (j + 1) w2/\qc_ (fun x=>(L<=x/\x < w.heap.size/\x ≠ b) \/ s1<=x) w1 w2) :
  Calls P f #[pt b o,.func (.func fC) #[] cap] w fun e w'=>e=.returned (.tuple #[])/\∃ s1,w.heap.size<=s1/\I s1 t.length w':=by
 refine callsA hm hfn (by simp) [pt b o,.func (.func fC) #[] cap] (by simp;omega) fun a harg hs hd=>?_
 have g0:=harg 0 _ rfl
 have g1:=harg 1 _ rfl
 obtain ⟨kt,et,hM,hKt⟩:=tf.map
 have hbl:b < w.heap.size:=hb
 unfold cEach
 have head:∀ (bb:Bool) (Y:Act->World->Prop),bb=decide (t.length=0)->(∀ a2,a2.get 13=.bool bb->a2.get 0=pt b o->a2.get 1=.func (.func fC) #[] cap->a2.tmps.size=nt->a2.defers=[]->Y a2 w) ->
   NWP P (rg (ldMap T 8++[bi (some 12) .len [tm 11] [T.tM] T.tInt,mk (some 13) (.binOp .eql T.tInt (tm 12) (ki .i64 0) 0)])) (Rt Y fun _ _=>False) a w:=by
  intro bb Y hbb hY
  refine .reg (wl_ldMap tf g0 hc (by omega) (by omega) fun a1 hlow h11 hs1 hd1=>?_)
  refine wl_lenMap hM (by rw [qb_];exact h11) ht ?_
  refine zl_ (b:=bb) (p:=(t.length:Int)) (q:=0) (k:=.i64) (by rw [qb_,gpe (by omega)]) rfl (.inr (.inr (.inr (.inr (.inl ⟨rfl,by rw [hbb];exact decide_eq_decide.2 (by omega)⟩))))) (wpList_nil (hY _ ?_ ?_ ?_ ?_ ?_))
  ·rw [gpe (by simp only [qa_];omega)]
  ·rw [gpo (by omega),gpo (by omega),hlow 0 (by omega)];exact g0
  ·rw [gpo (by omega),gpo (by omega),hlow 1 (by omega)];exact g1
  ·simp only [qa_];omega
  ·simp only [qh_];exact hd1.trans hd
 by_cases h0:t.length=0
 ·refine .seq (R:=Rt (fun _ _=>False) (fun a' w'=>a'.defers=[]/\(Ending.returned (js_ [] a')=.returned (.tuple #[])/\∃ s1,w.heap.size<=s1/\I s1 t.length w'))) (.seq (head true _ (by simp [h0]) fun a2 h13 _ _ _ hd2=>?_) (fun a1 w1 hh=>hh) (fun e a w he hq=>by cases e <;> first | exact absurd rfl he | exact hq.elim)) (fun _ _ hh=>hh.elim) (fun e a w he hq=>by cases e <;> first | exact absurd rfl he | exact hq)
  exact .condT h13 (.ret ⟨hd2,rfl,w.heap.size,Nat.le_refl _,h0 ▸ hI0 w (qc_.refl _ _)⟩)
 refine .seq (R:=Rt (fun a2 w2=>a2.get 0=pt b o/\a2.get 1=.func (.func fC) #[] cap/\a2.tmps.size=nt/\a2.defers=[]/\w2=w) fun _ _=>False) (.seq (head false _ (by simp [h0]) fun a2 h13 e0 e1 hs2 hd2=>?_) (fun a1 w1 hh=>hh) (fun e a w he hq=>by cases e <;> first | exact absurd rfl he | exact hq.elim)) (fun a2 w2 hh=>?_) (fun e a w he hq=>by cases e <;> first | exact absurd rfl he | exact hq.elim)
 ·exact .condF h13 (.skip ⟨e0,e1,hs2,hd2,rfl⟩)
 obtain ⟨e0,e1,hs2,hd2,rfl⟩:=hh
 obtain ⟨q,rfl,hqL,hql,es,clock,ff,hq,hes,hborn,hkeys,hperm,hris⟩:∃ r,m=.map (some r)/\¬ L<=r/\r < w2.heap.size/\MapIs w2 (fun k=>L<=k) r t:=by
  rcases ht with ⟨_,rfl⟩ | h
  ·exact absurd rfl h0
  ·obtain ⟨r,e1,e2,e3,e4,_⟩:=h
   exact ⟨r,e1,e2,e3,e4⟩
 have hlen:es.length=t.length:=by simpa using hperm.length_eq
 have lt2:∀ d,d < 53->d < a2.tmps.size:=fun d hd=>by omega
 obtain ⟨i,z,hi,hz,hsz,hby⟩:=tf.info
 refine .seq (R:=Rt (fun a3 w3=>a3.get 0=pt b o/\a3.get 1=.func (.func fC) #[] cap/\a3.get 4=pt (w2.heap.size + 1) 0/\a3.tmps.size=nt/\a3.defers=[]/\qc_ (fun _=>False) w2 w3/\w3.heap.size=w2.heap.size + 2 /\
   w3.heap[w2.heap.size + 1]?=some (.cells #[.slice (some ⟨w2.heap.size,0,none⟩) 0 es.length] T.tKs (0,0))/\∃ cur,w3.heap[w2.heap.size]?=some (.cells cur T.tU32 (0,0))/\cur.size=es.length) fun _ _=>False) (.reg ?_) (fun a3 w3 hh=>?_) (fun e a w he hq=>by cases e <;> first | exact absurd rfl he | exact hq.elim)
 ·refine wl_ldMap tf e0 hc (by omega) (by omega) fun a3 hlow h17 hs3 hd3=>?_
  refine wl_lenMap hM (by rw [qb_];exact h17) ht ?_
  have hmk:=run_makeSlice (P:=P) (w:=w2) T.tKs T.tU32 i z tf.sl hi hz .i64 .i64 0 (t.length:Int) (by omega) (by omega)
  have hmk2:(Instr.makeSlice T.tKs (.int .i64 0) (.int .i64 (t.length:Int))).run P w2=.ok (.slice (some ⟨w2.heap.size,0,none⟩) 0 t.length) (w2.alloc (.cells (madeCells z.cells (t.length * i.size)) T.tU32)):=by
   have:=run_make (P:=P) w2 T.tKs T.tU32 i z tf.sl hi hz .i64 .i64 0 (t.length:Int) (by omega) (by omega) (by rw [hby];omega) (by omega)
   simpa using this
  clear hmk
  refine qp_ (v:=.slice (some ⟨w2.heap.size,0,none⟩) 0 t.length) (w':=w2.alloc (.cells (madeCells z.cells (t.length * i.size)) T.tU32)) (by
   have e18:(a3.put (some 18) (.int .i64 (t.length:Int))).eval (tm 18)=.int .i64 (t.length:Int):=by rw [qb_,gpe (by omega)]
   have e0':(a3.put (some 18) (.int .i64 (t.length:Int))).eval (ki .i64 0)=.int .i64 0:=rfl
   simp [execOp,mk,e18,e0',hmk2]) ?_
  refine wl_alloc (z:=.slice none 0 0) (tf.zK _) ?_
  have hsz1:(w2.alloc (.cells (madeCells z.cells (t.length * i.size)) T.tU32)).heap.size=w2.heap.size + 1:=by simp
  generalize hw3:w2.alloc (.cells (madeCells z.cells (t.length * i.size)) T.tU32)=w3 at hsz1 ⊢
  have hG3:w3.heap[w2.heap.size]?=some (.cells (madeCells z.cells (t.length * i.size)) T.tU32 (0,0)):=by rw [<- hw3];exact qk_ _ _
  have hk3:qc_ (fun _=>False) w2 w3:=by rw [<- hw3];exact qc_.alloc _ _ _
  have hV4:=qk_ w3 (.cells (Value.cells (.slice none 0 0)) T.tKs (0,0))
  rw [hsz1] at hV4 ⊢
  refine j5_ (g:=w2.heap.size + 1) (o:=0) (cur:=Value.cells (.slice none 0 0)) (t:=T.tKs) (v:=.slice (some ⟨w2.heap.size,0,none⟩) 0 t.length) (vs:=[.slice (some ⟨w2.heap.size,0,none⟩) 0 t.length]) (by rw [qb_,gpe (by simp only [qa_];omega)]) (by rw [qb_,gpo (by omega),gpe (by simp only [qa_];omega)]) rfl (tf.vK.size _) hV4 (by simp [Value.cells]) (by simp [Value.oneCell']) (wpList_nil ⟨?_,?_,?_,?_,?_,?_,?_,?_,madeCells z.cells (t.length * i.size),?_,?_⟩)
  ·iterate 3 rw [gpo (by omega)]
   rw [hlow 0 (by omega)];exact e0
  ·iterate 3 rw [gpo (by omega)]
   rw [hlow 1 (by omega)];exact e1
  ·rw [gpe (by simp only [qa_];omega)];rfl
  ·simp only [qa_];omega
  ·simp only [qh_];exact hd3.trans hd2
  ·have h4:qc_ (fun k=>w2.heap.size<=k) w2 ((w3.alloc (.cells (Value.cells (.slice none 0 0)) T.tKs (0,0))).setRow (w2.heap.size + 1) (q4_ (Value.cells (.slice none 0 0)) 0 [.slice (some ⟨w2.heap.size,0,none⟩) 0 t.length])):=
    ((hk3.mono fun _ _ h=>h.elim).trans (qc_.alloc _ _ _)).trans (qc_.setRow _ _ _ _ (by omega))
   exact h4.mono fun k hk hX=>by omega
  ·simp [hsz1]
  ·rw [setRow_heap _ _ _ _ _ _ hV4,hlen]
   simp [q4_,Value.cells]
  ·rw [setRow_other _ _ _ _ (by omega),jc_ (by omega)];exact hG3
  ·rw [size_madeCells,hsz,hlen];omega
 obtain ⟨k0,k1,k4,hs3,hd3,hk3,hz3,hV3,cur,hG3,hcs⟩:=hh
 refine .seq (R:=Rt (fun a4 w4=>∃ Ls,a4.get 0=pt b o/\a4.get 1=.func (.func fC) #[] cap/\a4.get 4=pt (w2.heap.size + 1) 0/\a4.tmps.size=nt/\a4.defers=[]/\Gath T w2 q (w2.heap.size + 2) (w2.heap.size + 1) w2.heap.size clock es Ls w4/\(∀ e ∈ es,e.born ∈ Ls.map jy_.born)) fun _ _=>False) (.seq (R:=Rt (fun a4 w4=>a4.get 0=pt b o/\a4.get 1=.func (.func fC) #[] cap/\a4.get 4=pt (w2.heap.size + 1) 0/\a4.get 24=pt (w2.heap.size + 2) 0/\a4.tmps.size=nt/\a4.defers=[]/\Gath T w2 q (w2.heap.size + 2) (w2.heap.size + 1) w2.heap.size clock es [] w4) fun _ _=>False) (.reg ?_) (fun a4 w4 hh=>?_) (fun e a w he hq=>by cases e <;> first | exact absurd rfl he | exact hq.elim)) (fun a4 w4 hh=>?_) (fun e a w he hq=>by cases e <;> first | exact absurd rfl he | exact hq.elim)
 ·refine wl_ldMap tf k0 (hk3.cell id hc) (by omega) (by omega) fun a4 hlow h23 hs4 hd4=>?_
  have hq3:w3.heap[q]?=some (.map (es.map jy_.entry).toArray clock):=by rw [hk3.block q hql id];exact hq
  have hr:=run_range_map w3 T.tM kt et q (es.map jy_.entry).toArray clock hM hq3
  refine qp_ (v:=pt w3.heap.size 0) (w':=w3.alloc (.mapIter (some q) clock #[] clock)) (by
   have e23:a4.eval (tm 23)=.map (some q):=h23
   simp [execOp,mk,e23,hr,pt]) (wpList_nil ⟨?_,?_,?_,?_,?_,?_,?_⟩)
  ·rw [gpo (by omega),hlow 0 (by omega)];exact k0
  ·rw [gpo (by omega),hlow 1 (by omega)];exact k1
  ·rw [gpo (by omega),hlow 4 (by omega)];exact k4
  ·rw [gpe (by omega),hz3]
  ·simp only [qa_];omega
  ·simp only [qh_];exact hd4.trans hd3
  ·refine ⟨hk3.trans (qc_.alloc _ _ _),?_,?_,?_,⟨cur,?_,hcs,fun i e h=>by simp at h⟩,fun _ h=>by simp at h,by simp,by omega⟩
   ·rw [jc_ (by omega)];exact hq3
   ·have:=qk_ w3 (.mapIter (some q) clock #[] clock)
    rw [hz3] at this
    simpa using this
   ·rw [jc_ (by omega)];exact hV3
   ·rw [jc_ (by omega)];exact hG3
 ·obtain ⟨f0,f1,f4,f24,fs,fd,hg⟩:=hh
  refine s_gather tf f24 f4 (by omega) hg (fun e he=>(hes e he).2.1) hborn fun a' w' Ls hlow h4 hs' hd' hg' hall=>⟨Ls,?_,?_,h4,by omega,hd'.trans fd,hg',hall⟩
  ·rw [hlow 0 (by omega)];exact f0
  ·rw [hlow 1 (by omega)];exact f1
 obtain ⟨Ls,f0,f1,f4,fs,fd,hg,hall⟩:=hh
 have hpk:=perm_of_sub Ls es hg.nod hborn hg.sub hall
 have hLl:Ls.length=es.length:=by simpa using hpk.length_eq
 have lt4:∀ d,d < 53->d < a4.tmps.size:=fun d hd=>by omega
 obtain ⟨cur4,hG4,hcs4,hat4⟩:=hg.row
 have hbox:=hg.box
 rw [hLl] at hbox
 refine .seq (R:=Rt (fun a5 w5=>a5.get 0=pt b o/\a5.get 1=.func (.func fC) #[] cap/\a5.get 4=pt (w2.heap.size + 1) 0/\a5.tmps.size=nt/\a5.defers=[]/\qc_ (fun k=>k=w2.heap.size) w4 w5 /\
   ∃ (cur':Array Value) (ks':List Nat),w5.heap[w2.heap.size]?=some (.cells cur' T.tU32 (0,0))/\ks'.Perm (Ls.map jy_.key)/\ks'.Pairwise (·<=·)/\∀ (i:Nat) (x:Nat),ks'[i]?=some x->cur'[i]?=some (zt_ x)) fun _ _=>False) (.reg ?_) (fun a5 w5 hh=>?_) (fun e a w he hq=>by cases e <;> first | exact absurd rfl he | exact hq.elim)
 ·refine jg_ (p:=⟨w2.heap.size + 1,0,none⟩) (v:=.slice (some ⟨w2.heap.size,0,none⟩) es.length es.length) (by rw [qb_];exact f4) (tf.vK.agg _) (by simp [World.cell?,hbox]) ?_
  refine qp_ (v:=.iface T.tKs (.slice (some ⟨w2.heap.size,0,none⟩) es.length es.length)) (w':=w4) (by
   have e33:(a4.put (some 33) (.slice (some ⟨w2.heap.size,0,none⟩) es.length es.length)).eval (tm 33)=.slice (some ⟨w2.heap.size,0,none⟩) es.length es.length:=by rw [qb_,gpe (lt4 _ (by omega))]
   simp [execOp,mk,e33,Instr.makeInterface,run_underlying tf.sl]) ?_
  refine qp_ (v:=.func (.func T.fLess) #[] #[pt (w2.heap.size + 1) 0]) (w':=w4) (by
   have e4':∀ A:Act,A.eval (tm 4)=pt (w2.heap.size + 1) 0->(execOp A.eval (mk (some 35) (.makeFunc (.func T.fLess) #[] #[tm 4]))).run P w4=.ok (.value (.func (.func T.fLess) #[] #[pt (w2.heap.size + 1) 0])) w4:=fun A h=>by
    simp [execOp,mk,Instr.makeFunc,h]
   exact e4' _ (by simp [qb_,gp,lt4,qa_,f4])) ?_
  refine jz_ (vs:=#[.iface T.tKs (.slice (some ⟨w2.heap.size,0,none⟩) es.length es.length),.func (.func T.fLess) #[] #[pt (w2.heap.size + 1) 0]]) hso.1 (by simp [qb_,gp,lt4,qa_])
   (hso.2 w4 (w2.heap.size + 1) w2.heap.size es.length (Ls.map jy_.key) cur4 (by simpa using hLl) (by omega) (fun x hx=>by
    obtain ⟨e,he,rfl⟩:=List.mem_map.1 hx
    exact (hes e (hg.sub e he)).1) hbox hG4 hcs4 (by omega) fun i x hx=>by
     rw [List.getElem?_map,Option.map_eq_some_iff] at hx
     obtain ⟨e,he,rfl⟩:=hx
     exact hat4 i e he) fun e w5 hR=>⟨_,hR.1,wpList_nil ⟨?_,?_,?_,?_,?_,hR.2.1,hR.2.2⟩⟩
  ·simp [gp,lt4,qa_,f0]
  ·simp [gp,lt4,qa_,f1]
  ·simp [gp,lt4,qa_,f4]
  ·simp only [qa_];exact fs
  ·simp only [qh_];exact fd
 obtain ⟨p0,p1,p4,ps,pd,hk5,cur5,ks,hG5,hp5,hso5,hat5⟩:=hh
 have hks:ks=t.map (·.1):=by
  refine sorted_same ?_ hso5 (rising_le hris)
  have h1:(es.map jy_.key).Perm (t.map (·.1)):=by
   have:=hperm.map (·.1)
   simpa [Function.comp_def] using this
  exact hp5.trans (hpk.trans h1)
 have lt5:∀ d,d < 53->d < a5.tmps.size:=fun d hd=>by omega
 have hk25:qc_ (fun _=>False) w2 w5:=by
  have:qc_ (fun k=>w2.heap.size<=k) w2 w5:=(hg.keeps.mono fun _ _ h=>h.elim).trans (hk5.mono fun k _ hk=>by omega)
  exact this.mono fun k hk hX=>by omega
 have hV4l:w2.heap.size + 1 < w4.heap.size:=(Array.getElem?_eq_some_iff.1 hbox).1
 have hs45:=hk5.size
 refine .seq (R:=Rt (fun a6 w6=>a6=((a5.put (some 37) (.slice (some ⟨w2.heap.size,0,none⟩) es.length es.length)).put (some 38) (.int .i64 (es.length:Int))).put (some 39) (.int .i64 ((0:Nat):Int))/\w6=w5) fun _ _=>False) (.reg ?_) (fun a6 w6 hh=>?_) (fun e a w he hq=>by cases e <;> first | exact absurd rfl he | exact hq.elim)
 ·refine jg_ (p:=⟨w2.heap.size + 1,0,none⟩) (v:=.slice (some ⟨w2.heap.size,0,none⟩) es.length es.length) (by rw [qb_];exact p4) (tf.vK.agg _) (by
   have:w5.heap[w2.heap.size + 1]?=some (.cells #[.slice (some ⟨w2.heap.size,0,none⟩) es.length es.length] T.tKs (0,0)):=by rw [hk5.block _ hV4l (by omega)];exact hbox
   simp [World.cell?,this]) ?_
  exact wl_len (base:=some ⟨w2.heap.size,0,none⟩) (n:=es.length) (c:=es.length) (by rw [qb_,gpe (lt5 _ (by omega))]) tf.sl (qg_ (wpList_nil ⟨rfl,rfl⟩))
 obtain ⟨rfl,rfl⟩:=hh
 refine s_visit (b:=b) (o:=o) (n:=es.length) (G:=w2.heap.size) (L:=L) (sz0:=w2.heap.size) (s1:=w6.heap.size) (fC:=fC) (cap:=cap) (m:=.map (some q)) (t:=t) (I:=I w6.heap.size) tf ?_ ?_ ?_ ?_ ?_ ?_ hlen (by omega) ⟨cur5,hG5,fun i p hp=>?_⟩ (by omega) hb hL (by omega) (hk25.cell id hc) (ht.keep (hk25.mono fun _ _ h=>h.elim)) (hI0 w6 hk25) hCE (fun j w1 k l v h1 h2 h3=>hC w6.heap.size j w1 k l v (by omega) h1 h2 h3) fun a' w' h1 h2 h3=>⟨?_,rfl,w6.heap.size,by omega,hlen ▸ h3⟩
 ·simp [gp,lt5,qa_,p0]
 ·simp [gp,lt5,qa_,p1]
 ·simp [gp,lt5,qa_]
 ·simp [gp,lt5,qa_]
 ·simp [gp,lt5,qa_]
 ·simp only [qa_];omega
 ·refine hat5 i p.1 ?_
  rw [hks,List.getElem?_map,hp]
  rfl
 ·rw [h2]
  simp only [qh_]
  exact pd
end
end Go.Proofs.Ytbgklecbmhaadaa.Kx

namespace Go.Proofs.Ytbgklecbmhaadaa.Kx
open Go Go.ChangeMaps
section
variable {P:Program}
structure Bx (b tSl te L D:Nat) (d0:Value) (w0:World) (s1:Nat) (bs:Bs) (w:World) (d':Value):Prop where
 box:w.heap[D]?=some (.cells #[d'] tSl (0,0))
 gr:Gr L te d0 w0 d' bs w
 own:∀ k,d'.ownBlock=some k->k < D \/ s1<=k
 s1:D < s1/\s1<=w.heap.size
 D0:w0.heap.size<=D/\L<=D
 nb:b < w0.heap.size/\d0.ownBlock ≠ some b
theorem Bx.dst {b tSl te L D s1:Nat} {d0 d':Value} {w0 w:World} {bs:Bs} (h:Bx b tSl te L D d0 w0 s1 bs w d'):qv_ w L te d' bs:=h.gr.dst
theorem Bx.step {b tSl te L D s1:Nat} {d0 d' d'':Value} {w0 w w1:World} {bs bs':Bs} (h:Bx b tSl te L D d0 w0 s1 bs w d') (hg:Gr L te d' w d'' bs' w1) :
  w1.heap[D]?=some (.cells #[d'] tSl (0,0))/\Bx b tSl te L D d0 w0 s1 bs' (w1.setRow D #[d'']) d''/\qc_ (fun x=>(L<=x/\x < D + 1/\x ≠ b) \/ s1<=x) w (w1.setRow D #[d'']):=by
 have hDl:D < w.heap.size:=by have:=h.s1;omega
 have hno:d'.ownBlock ≠ some D:=fun hh=>by have:=h.own D hh;have:=h.s1;omega
 have hsz:=hg.keeps.size
 have hb1:w1.heap[D]?=some (.cells #[d'] tSl (0,0)):=by rw [hg.keeps.block D hDl hno];exact h.box
 have hown:∀ k,d''.ownBlock=some k->k < D \/ s1<=k:=fun k hk=>by
  rcases hg.own k hk with h1 | h1
  ·exact h.own k h1
  ·have:=h.s1;exact .inr (by omega)
 have hno2:d''.ownBlock ≠ some D:=fun hh=>by have:=hown D hh;have:=h.s1;omega
 have hks:qc_ (fun k=>k=D) w1 (w1.setRow D #[d'']):=qc_.setRow _ _ _ _ rfl
 refine ⟨hb1,⟨setRow_heap _ _ _ _ _ _ hb1,(h.gr.trans hg).post hks fun k hk=>?_,hown,⟨h.s1.1,by have:=hks.size;have:=h.s1;omega⟩,h.D0,h.nb⟩,?_⟩
 ·subst hk;exact ⟨h.D0.1,hno2⟩
 ·refine (hg.keeps.mono fun k _ hk=>?_).trans (hks.mono fun k _ hk=>?_)
  ·have h1:=h.dst.own hk
   rcases h.own k hk with h2 | h2
   ·refine .inl ⟨h1.1,by omega,fun hkb=>?_⟩
    subst hkb
    rcases h.gr.own k hk with h3 | h3
    ·exact h.nb.2 h3
    ·have:=h.nb.1;omega
   ·exact .inr h2
  ·subst hk;exact .inl ⟨h.D0.2,by omega,by have:=h.nb;have:=h.D0;omega⟩
theorem Bx.lim {b tSl te L D s1:Nat} {d0 d':Value} {w0 w:World} {bs:Bs} (h:Bx b tSl te L D d0 w0 s1 bs w d'):L<=w.heap.size:=by have:=h.s1;have:=h.D0;omega
theorem tone_calls (hm:P.follows .mixedOrders=true) {T:TN} {b te L D s1:Nat} (ot:OctT P T.tSl te) (hV:jo_ P T.tSl false 1) (hInt:P.underlying T.tInt=some (.int .i64)) (hU32:P.underlying T.tU32=some (.int .u32)) (hUE:Ent P T.fUv) (hUc:∀ (x:Nat) (w:World),x < 4294967296->ApC P te T.fUv (.int .u32 x) (uvar x) w)
  {f nt:Nat} (hfn:FnIs P f nt [] (cTOne T)) (hnt:16<=nt) {w0 w:World} {d0 d' v:Value} {bs l:Bs} {k:Nat} (hb:Bx b T.tSl te L D d0 w0 s1 bs w d') (hk:k < 4294967296) (hv:SlRp w (fun x=>L<=x) v l) (hlim:bs.length + (wTag (k,l)).length<=LIM) :
  Calls P f #[.int .u32 (k:Int),v,pt D 0] w fun e w'=>e=.returned (.tuple #[])/\(∃ d'',Bx b T.tSl te L D d0 w0 s1 (bs++wTag (k,l)) w' d'')/\qc_ (fun x=>(L<=x/\x < D + 1/\x ≠ b) \/ s1<=x) w w':=by
 refine callsA hm hfn (by simp) [.int .u32 (k:Int),v,pt D 0] (by simp;omega) fun a harg hs hd=>?_
 have g0:=harg 0 _ rfl
 have g1:=harg 1 _ rfl
 have g2:=harg 2 _ rfl
 have hYL:∀ {wa wb:World},qc_ (fun x=>(L<=x/\x < D + 1/\x ≠ b) \/ s1<=x) wa wb->qc_ (fun x=>L<=x) wa wb:=fun hh=>hh.mono fun x _ hx=>by have:=hb.D0;have:=hb.s1;omega
 simp only [wTag,List.length_append] at hlim
 have e1:∀ (x y:Value),q4_ #[x] 0 [y]=#[y]:=fun x y=>by simp [q4_]
 have cell:∀ {ww:World} {dd:Value},ww.heap[D]?=some (.cells #[dd] T.tSl (0,0))->ww.cell? ⟨D,0,none⟩=some dd:=fun hh=>by simp [World.cell?,hh]
 have one:∀ {dd:Value} {bb:Bs} {ww:World},qv_ ww L te dd bb->dd.oneCell'=true/\dd.cells=#[dd]:=fun hh=>by
  rcases hh with ⟨rfl,_⟩ | ⟨_,_,_,rfl,_⟩ <;> exact ⟨rfl,rfl⟩
 unfold cTOne
 refine .seq (R:=Rt (fun a1 w1=>a1.get 0=.int .u32 (k:Int)/\a1.get 1=v/\a1.get 2=pt D 0/\a1.tmps.size=nt/\a1.defers=[]/\(∃ d1,Bx b T.tSl te L D d0 w0 s1 (bs++uvar k) w1 d1)/\qc_ (fun x=>(L<=x/\x < D + 1/\x ≠ b) \/ s1<=x) w w1) fun _ _=>False) (.reg ?_) (fun a1 w1 hh=>?_) (fun e a w he hq=>by cases e <;> first | exact absurd rfl he | exact hq.elim)
 ·refine jg_ (p:=⟨D,0,none⟩) (v:=d') (by rw [qb_];exact g2) (hV.agg _) (cell hb.box) (qg_ ?_)
  rw [qb_,gpo (by omega),g0]
  refine jz_ (vs:=#[d',.int .u32 (k:Int)]) hUE ?_ (hUc k w hk L d' bs hb.dst hb.lim (by omega)) fun e w1 hR=>?_
  ·simp only [List.map_cons,List.map_nil,qb_]
   rw [gpo (by omega),gpe (by omega),gpe (by simp only [qa_];omega)]
  obtain ⟨d1,he,hg⟩:=hR
  obtain ⟨hb1,hbx,hkk⟩:=hb.step hg
  refine ⟨d1,he,j5_ (g:=D) (o:=0) (cur:=#[d']) (t:=T.tSl) (v:=d1) (vs:=[d1]) ?_ ?_ (by rw [(one hg.dst).2]) (hV.size _) hb1 (by simp) (by simpa using (one hg.dst).1) (wpList_nil ⟨?_,?_,?_,?_,?_,⟨d1,by rw [e1];exact hbx⟩,by rw [e1];exact hkk⟩)⟩
  ·rw [qb_,gpo (by omega),gpo (by omega),gpo (by omega)];exact g2
  ·rw [qb_,gpe (by simp only [qa_];omega)]
  ·rw [gpo (by omega),gpo (by omega),gpo (by omega)];exact g0
  ·rw [gpo (by omega),gpo (by omega),gpo (by omega)];exact g1
  ·rw [gpo (by omega),gpo (by omega),gpo (by omega)];exact g2
  ·simp only [qa_];exact hs
  ·simp only [qh_];exact hd
 obtain ⟨f0,f1,f2,fs,fd,⟨d1,hb1⟩,hk1⟩:=hh
 have hv1:=hv.keep (hYL hk1)
 obtain ⟨vb,vc,hvf,_⟩:=hv1.form
 refine .seq (R:=Rt (fun a2 w2=>a2.get 1=v/\a2.get 2=pt D 0/\a2.tmps.size=nt/\a2.defers=[]/\(∃ d2,Bx b T.tSl te L D d0 w0 s1 (bs++uvar k++uvar (w32 l.length)) w2 d2)/\qc_ (fun x=>(L<=x/\x < D + 1/\x ≠ b) \/ s1<=x) w w2) fun _ _=>False) (.reg ?_) (fun a2 w2 hh=>?_) (fun e a w he hq=>by cases e <;> first | exact absurd rfl he | exact hq.elim)
 ·refine jg_ (p:=⟨D,0,none⟩) (v:=d1) (by rw [qb_];exact f2) (hV.agg _) (cell hb1.box) (qg_ ?_)
  rw [qb_,gpo (by omega),f1]
  refine wl_len (base:=vb) (n:=l.length) (c:=vc) (by rw [qb_,gpe (by simp only [qa_];omega)];exact hvf) ot.und ?_
  refine q7_ (k:=.i64) (k':=.u32) (m:=(l.length:Int)) (by rw [qb_,gpe (by simp only [qa_];omega)]) hInt hU32 ?_
  have ew:IntKind.u32.wrap (l.length:Int)=((w32 l.length:Nat):Int):=by simp [IntKind.wrap,IntKind.bits,IntKind.signed,w32]
  rw [ew]
  have hw32:w32 l.length < 4294967296:=by simp only [w32];omega
  refine jz_ (vs:=#[d1,.int .u32 ((w32 l.length:Nat):Int)]) hUE ?_ (hUc (w32 l.length) w1 hw32 L d1 _ hb1.dst hb1.lim (by rw [List.length_append];omega)) fun e w2 hR=>?_
  ·simp only [List.map_cons,List.map_nil,qb_]
   rw [gpo (by omega),gpo (by omega),gpo (by omega),gpe (by omega),gpe (by simp only [qa_];omega)]
  obtain ⟨d2,he,hg⟩:=hR
  obtain ⟨hb2,hbx,hkk⟩:=hb1.step hg
  refine ⟨d2,he,j5_ (g:=D) (o:=0) (cur:=#[d1]) (t:=T.tSl) (v:=d2) (vs:=[d2]) ?_ ?_ (by rw [(one hg.dst).2]) (hV.size _) hb2 (by simp) (by simpa using (one hg.dst).1) (wpList_nil ⟨?_,?_,?_,?_,⟨d2,by rw [e1];exact hbx⟩,by rw [e1];exact hk1.trans hkk⟩)⟩
  ·rw [qb_];iterate 5 rw [gpo (by omega)]
   exact f2
  ·rw [qb_,gpe (by simp only [qa_];omega)]
  ·iterate 5 rw [gpo (by omega)]
   exact f1
  ·iterate 5 rw [gpo (by omega)]
   exact f2
  ·simp only [qa_];exact fs
  ·simp only [qh_];exact fd
 obtain ⟨p1,p2,ps,pd,⟨d2,hb2⟩,hk2⟩:=hh
 have hv2:=hv.keep (hYL hk2)
 have hsrc:Src P 1 T.tSl v l.length (l.map jx_) w2:=by
  rcases hv2 with ⟨rfl,rfl⟩ | ⟨vb,o,c,rfl,_,_,_,_,ho⟩
  ·exact src_nil ot w2 0
  ·exact src_oct ot ho
 refine .reg ?_
 refine jg_ (p:=⟨D,0,none⟩) (v:=d2) (by rw [qb_];exact p2) (hV.agg _) (cell hb2.box) (qg_ ?_)
 rw [qb_,gpo (by omega),p1]
 refine wl_appendDst ot (L:=L) (d:=d2) (x:=v) (l:=l) (by rw [qb_,gpo (by omega),gpe (by omega)]) (by rw [qb_,gpe (by simp only [qa_];omega)]) hb2.dst hsrc hb2.lim (by simp only [List.length_append];omega) fun d3 w3 hg=>?_
 obtain ⟨hb3,hbx,hkk⟩:=hb2.step hg
 refine j5_ (g:=D) (o:=0) (cur:=#[d2]) (t:=T.tSl) (v:=d3) (vs:=[d3]) ?_ ?_ (by rw [(one hg.dst).2]) (hV.size _) hb3 (by simp) (by simpa using (one hg.dst).1) (wpList_nil ⟨?_,rfl,⟨d3,?_⟩,by rw [e1];exact hk2.trans hkk⟩)
 ·rw [qb_];iterate 3 rw [gpo (by omega)]
  exact p2
 ·rw [qb_,gpe (by simp only [qa_];omega)]
 ·simp only [qh_];exact pd
 ·rw [e1]
  simpa [wTag,List.append_assoc] using hbx
end
end Go.Proofs.Ytbgklecbmhaadaa.Kx

namespace Go.Proofs.Ytbgklecbmhaadaa.Kx
open Go Go.ChangeMaps
section
variable {P:Program}
theorem wTags_two (t:List (Nat × Bs)):2 * t.length<=(j3_ t).length:=by
 induction t with
 | nil=>simp [j3_]
 | cons p t ih=>
  rw [wTags_cons,List.length_append,wTag_len,List.length_cons]
  have h1:=uvar_pos p.1
  have h2:=uvar_pos (w32 p.2.length)
  omega
theorem wTags_take {t:List (Nat × Bs)} {j:Nat} {p:Nat × Bs} (h:t[j]?=some p):j3_ (t.take (j + 1))=j3_ (t.take j)++wTag p:=by
 rw [List.take_add_one,h]
 simp [j3_]
theorem wTags_take_le (t:List (Nat × Bs)) (j:Nat):(j3_ (t.take j)).length<=(j3_ t).length:=by
 have:j3_ t=j3_ (t.take j)++j3_ (t.drop j):=by
  simp only [j3_,<- List.flatten_append,<- List.map_append,List.take_append_drop]
 rw [this,List.length_append]
 omega
theorem tg_keys {w:World} {X:Nat->Prop} {m:Value} {t:List (Nat × Bs)} (h:TgRp w X m t):∀ p ∈ t,p.1 < 4294967296:=fun p hp=>by
 rcases h with ⟨_,rfl⟩ | ⟨r,_,_,_,⟨es,c,f,_,hes,_,_,hpm,_⟩,_⟩
 ·simp at hp
 ·obtain ⟨e,he,rfl⟩:=List.mem_map.1 (hpm.mem_iff.2 hp)
  exact (hes e he).1
theorem teach_calls (hm:P.follows .mixedOrders=true) {T:TN} {te:Nat} (tf:TF P T) (hso:SortOk P T) (ot:OctT P T.tSl te) (hV:jo_ P T.tSl false 1) (hUE:Ent P T.fUv) (hUc:∀ (x:Nat) (w:World),x < 4294967296->ApC P te T.fUv (.int .u32 x) (uvar x) w)
  {f nt ntE nt1:Nat} (hfE:FnIs P T.fEach ntE [] (cEach T)) (hntE:53<=ntE) (hf1:FnIs P T.fOne nt1 [] (cTOne T)) (hnt1:16<=nt1) (hfn:FnIs P f nt [4] (cTEach T)) (hnt:9<=nt)
  {w:World} {b o L:Nat} {m d:Value} {t:List (Nat × Bs)} {bs:Bs} (hc:w.cell? ⟨b,o,none⟩=some m) (hb:b < w.heap.size/\d.ownBlock ≠ some b) (ht:TgRp w (fun k=>L<=k) m t) (hd:qv_ w L te d bs) (hL:L<=w.heap.size) (hlim:bs.length + (j3_ t).length<=LIM) :
  Calls P f #[pt b o,d] w fun e w'=>∃ d',e=.returned d'/\Gr L te d w d' (bs++j3_ t) w':=by
 refine callsA hm hfn (by simp) [pt b o,d] (by simp;omega) fun a harg hs hdf=>?_
 have g0:=harg 0 _ rfl
 have g1:=harg 1 _ rfl
 have lt:∀ i,i < 9->i < a.tmps.size:=fun i hi=>by omega
 have h2:=wTags_two t
 have hl46:LIM=70400000000000:=rfl
 have hcells:d.cells=#[d]:=by rcases hd with ⟨rfl,_⟩ | ⟨_,_,_,rfl,_⟩ <;> rfl
 have hown:∀ k,d.ownBlock=some k->k < w.heap.size:=fun k hk=>(hd.own hk).2
 have hkeys:=tg_keys ht
 unfold cTEach
 refine qm_ (qw_ ?_)
 refine qp_ (v:=pt w.heap.size 0) (w':=w.alloc (.cells #[d] T.tSl (0,0))) (by
  have e1:a.eval (tm 1)=d:=g1
  simp [execOp,mk,e1,Instr.box,newVar,newRow,newObj,Sem.run,hcells,pt]) (ql_ (wpList_nil ?_))
 rw [eval_const]
 have hsz1:(w.alloc (.cells #[d] T.tSl (0,0))).heap.size=w.heap.size + 1:=by simp
 have hbx1:=qk_ w (.cells #[d] T.tSl (0,0))
 have hk1:qc_ (fun _=>False) w (w.alloc (.cells #[d] T.tSl (0,0))):=qc_.alloc _ _ _
 generalize w.alloc (.cells #[d] T.tSl (0,0))=w1 at hsz1 hbx1 hk1 ⊢
 refine qm_ (qw_ (qg_ ?_))
 rw [qb_,gpo (by omega),gpo (by omega),g0]
 refine qp_ (v:=.func (.func T.fOne) #[] #[pt w.heap.size 0]) (w':=w1) (by
  have key:∀ A:Act,A.eval (tm 3)=pt w.heap.size 0->(execOp A.eval (mk (some 6) (.makeFunc (.func T.fOne) #[] #[tm 3]))).run P w1=.ok (.value (.func (.func T.fOne) #[] #[pt w.heap.size 0])) w1:=fun A h=>by
   simp [execOp,mk,Instr.makeFunc,h]
  exact key _ (by simp [qb_,gp,lt,qa_])) ?_
 have heach:=each_calls hm tf hso hfE hntE (w:=w1) (b:=b) (o:=o) (L:=L) (fC:=T.fOne) (m:=m) (t:=t) (cap:=#[pt w.heap.size 0]) (I:=fun s1 j w'=>∃ d',Bx b T.tSl te L w.heap.size d w s1 (bs++j3_ (t.take j)) w' d')
  (hk1.cell id hc) (by have:=hb.1;omega) (by omega) (ht.keep (hk1.mono fun _ _ h=>h.elim)) (by omega) hf1.ent (fun w2 hk2=>?_) (fun s1 j w2 k l v hs1 hj hI hv=>?_)
 ·refine jz_ (vs:=#[pt b o,.func (.func T.fOne) #[] #[pt w.heap.size 0]]) hfE.ent (by simp [qb_,gp,lt,qa_]) heach fun e w2 hR=>?_
  obtain ⟨he,s1,hs1,d',hbx⟩:=hR
  refine ⟨_,he,wpList_nil (qm_ (qw_ ?_))⟩
  refine jg_ (p:=⟨w.heap.size,0,none⟩) (v:=d') (by simp [qb_,gp,lt,qa_,pt]) (hV.agg _) (by simp [World.cell?,hbx.box]) (ql_ (wpList_nil (qm_ (.ret ⟨?_,d',?_,?_⟩))))
  ·simp only [qh_];exact hdf
  ·rw [zf_]
   simp [qb_,gp,lt,qa_]
  ·have:=hbx.gr
   rwa [List.take_of_length_le (Nat.le_refl _)] at this
 ·have hkw:qc_ (fun _=>False) w w2:=hk1.trans hk2
  have hs2:=hk2.size
  refine ⟨d,⟨by rw [hk2.block _ (by omega) id];exact hbx1,?_,fun k hk=>.inl (hown k hk),⟨by omega,Nat.le_refl _⟩,⟨Nat.le_refl _,hL⟩,hb⟩⟩
  have e0:bs++j3_ (t.take 0)=bs:=by simp [j3_]
  rw [e0]
  exact ⟨hd.keep hkw fun _ _ h=>h,hkw.mono fun _ _ h=>h.elim,fun k hk=>.inl hk⟩
 ·obtain ⟨d',hbx⟩:=hI
  have hle:=wTags_take_le t (j + 1)
  rw [wTags_take hj,List.length_append] at hle
  have:=tone_calls hm ot hV tf.dInt tf.dU32 hUE hUc hf1 hnt1 hbx (hkeys _ (List.mem_of_getElem? hj)) hv (by
   rw [List.length_append]
   show bs.length + (j3_ (t.take j)).length + (wTag (k,l)).length<=LIM
   omega)
  refine this.mono fun e w3 h=>⟨h.1,?_,?_⟩
  ·obtain ⟨d'',h3⟩:=h.2.1
   refine ⟨d'',?_⟩
   rw [wTags_take hj,<- List.append_assoc]
   exact h3
  ·rw [hsz1];exact h.2.2
end
end Go.Proofs.Ytbgklecbmhaadaa.Kx

namespace Go.Proofs.Ytbgklecbmhaadaa.Kx
open Go Go.ChangeMaps Go.Shelf Go.Lib Go.Sort
section
variable {P:Program}
def lessOps (T:TN):List Oper:=[mk (some 6) (.load T.tKs (tm 2)),mk (some 7) (.move (tm 0)),mk (some 8) (.indexAddr T.tKs (tm 6) (tm 7)),mk (some 9) (.load T.tU32 (tm 8)),mk (some 10) (.load T.tKs (tm 2)),mk (some 11) (.move (tm 1)),mk (some 12) (.indexAddr T.tKs (tm 10) (tm 11)),mk (some 13) (.load T.tU32 (tm 12)),mk (some 14) (.binOp .lss T.tU32 (tm 9) (tm 13) 0)]
def cTLess (T:TN):Code:=sq [rg [mk (some 5) (.assign (.const (.bool false)))],.region 1 (lessOps T++[mk (some 5) (.assign (tm 14))]).toArray true,.ret]
theorem less_calls (hm:P.follows .mixedOrders=true) {T:TN} (tf:TF P T) {f nt:Nat} (hfn:FnIs P f nt [5] (cTLess T)) (hnt:15<=nt) {w:World} {V G n i j x y:Nat} (hV:w.cell? ⟨V,0,none⟩=some (.slice (some ⟨G,0,none⟩) n n)) (hi:i < n) (hj:j < n) (hx:w.cell? ⟨G,i,none⟩=some (zt_ x)) (hy:w.cell? ⟨G,j,none⟩=some (zt_ y)) :
  Calls P f #[.int .i64 (i:Int),.int .i64 (j:Int),pt V 0] w fun e w'=>e=.returned (.bool (decide (x < y)))/\w'=w.drew:=by
 refine callsA hm hfn (by simp) [.int .i64 (i:Int),.int .i64 (j:Int),pt V 0] (by simp;omega) fun a harg hs hd=>?_
 have g0:=harg 0 _ rfl
 have g1:=harg 1 _ rfl
 have g2:=harg 2 _ rfl
 unfold cTLess
 refine qm_ (qw_ (ql_ (wpList_nil ?_)))
 have hlo:loudOf (lessOps T++[mk (some 5) (.assign (tm 14))])=[false,false,false,false,false,false,false,false,false,true]:=by kernel_rfl
 refine qm_ (.drw (fun w'=>w'.heap=w.heap) ?_)
 rw [hlo]
 have hc:∀ {p:Addr} {v:Value},w.cell? p=some v->∀ w':World,w'.heap=w.heap->w'.cell? p=some v:=fun h w' hw=>by simpa [World.cell?,hw] using h
 have lt:∀ d,d < 15->d < (a.put (some 5) (Act.eval a (.const (.bool false)))).tmps.size:=fun d hd=>by simp only [qa_];omega
 have e0:(a.put (some 5) (Act.eval a (.const (.bool false)))).get 0=.int .i64 (i:Int):=by rw [gpo (by omega)];exact g0
 have e1:(a.put (some 5) (Act.eval a (.const (.bool false)))).get 1=.int .i64 (j:Int):=by rw [gpo (by omega)];exact g1
 have e2:(a.put (some 5) (Act.eval a (.const (.bool false)))).get 2=pt V 0:=by rw [gpo (by omega)];exact g2
 have ed:(a.put (some 5) (Act.eval a (.const (.bool false)))).defers=[]:=by rw [qh_];exact hd
 generalize a.put (some 5) (Act.eval a (.const (.bool false)))=a at lt e0 e1 e2 ed ⊢
 show evF P _ (lessOps T) a fun af=>wpLd P _ _ [mk (some 5) (.assign (tm 14))] af w.drew
 refine ev_load1 (p:=⟨V,0,none⟩) (v:=.slice (some ⟨G,0,none⟩) n n) (by rw [qb_];exact e2) tf.vK.agg (hc hV) (ev_move ?_)
 rw [qb_,gpo (by omega),e0]
 refine ev_index (b:=G) (o:=0) (m:=n) (c:=n) (i:=i) (k:=.i64) (sz:=1) (by simp [qb_,gp,lt,qa_]) (by simp [qb_,gp,lt,qa_]) hi tf.sl tf.vU.size ?_
 refine ev_load1 (p:=⟨G,0 + i * 1,none⟩) (v:=zt_ x) (by simp [qb_,gp,lt,qa_]) tf.vU.agg (by rw [Nat.zero_add,Nat.mul_one];exact hc hx) ?_
 refine ev_load1 (p:=⟨V,0,none⟩) (v:=.slice (some ⟨G,0,none⟩) n n) (by simp [qb_,gp,lt,qa_,e2,pt]) tf.vK.agg (hc hV) (ev_move ?_)
 rw [qb_,show Act.get _ 1=.int .i64 (j:Int) from by simp [gp,lt,qa_,e1]]
 refine ev_index (b:=G) (o:=0) (m:=n) (c:=n) (i:=j) (k:=.i64) (sz:=1) (by simp [qb_,gp,lt,qa_]) (by simp [qb_,gp,lt,qa_]) hj tf.sl tf.vU.size ?_
 refine ev_load1 (p:=⟨G,0 + j * 1,none⟩) (v:=zt_ y) (by simp [qb_,gp,lt,qa_]) tf.vU.agg (by rw [Nat.zero_add,Nat.mul_one];exact hc hy) ?_
 refine ev_bin (k:=.u32) (k2:=.u32) (m:=(x:Int)) (m2:=(y:Int)) (v:=.bool (decide (x < y))) (by simp [qb_,gp,lt,qa_,zt_]) (by simp [qb_,gp,lt,qa_,zt_]) (fun w'=>run_cmp (.inr (.inr (.inl ⟨rfl,by simp⟩)))) ?_
 refine ⟨rfl,?_⟩
 have key:∀ (A:Act) (Q:Exit->Act->World->Prop),(Q .normal (A.put (some 5) (A.eval (tm 14))) w.drew)->(mk (some 5) (.assign (tm 14))).wp P A w.drew (wpLd P (fun w'=>w'.heap=w.heap) Q []) (fun _ _ _=>False):=fun A Q hQ=>by
  unfold Oper.wp
  exact ⟨rfl,hQ⟩
 refine key _ _ (qm_ (cs:=[]) (.ret ⟨?_,?_,rfl⟩))
 ·simp only [qh_];exact ed
 ·rw [zf_]
  simp [qb_,gp,lt,qa_]
end
end Go.Proofs.Ytbgklecbmhaadaa.Kx

namespace Go.Proofs.Ytbgklecbmhaadaa.Kx
open Go Go.ChangeMaps Go.Shelf Go.Lib Go.Sort
section
variable {P:Program} {ρ:Ren}
def ltN (x y:Nat):Bool:=decide (x < y)
theorem swo_ltN:SWO ltN where
 irrefl x:=by simp [ltN]
 trans x y z h1 h2:=by simp only [ltN,decide_eq_true_eq] at h1 h2 ⊢;omega
 ntrans x y z h1 h2:=by simp only [ltN,decide_eq_false_iff_not] at h1 h2 ⊢;omega
theorem keeps_grow (X:Nat->Prop) (w:World) (os:Array Obj):qc_ X w (grow w os):=⟨rfl,rfl,rfl,by rw [size_grow];omega,fun k hk _=>heap_grow_old w os hk⟩
theorem sortOk_of (hm:P.follows .mixedOrders=true) {T:TN} (tf:TF P T) (L:LaysGg.n6 P ρ) (hρ:ρ.f 6=T.fSort) (hSE:Ent P T.fSort) {nt:Nat} (hfn:FnIs P T.fLess nt [5] (cTLess T)) (hnt:15<=nt) {it ie:TypeInfo} (hi:P.info? T.tKs=some it) (hd:it.desc=.slice T.tU32) (hpk:P.packed T.tKs=false)
  (hie:P.info? T.tU32=some ie) {ke:Nat} (hke:∀ w,(Extern.Rtype.kind T.tU32).run P w=.ok ke w) (hs1:ie.size=1) (hby:ie.bytes=4) (hptr:ie.hasPointers=false) (heg:∀ args w,(callFunc T.fLess args).run P w=.ok (.enter T.fLess args) w)
  {f1 f2 f6 : Nat} (h1 : P.funcs.findIdx? (·.name == "internal/reflectlite" ++ ".Swapper$" ++ toString 1) = some f1) (h2 : P.funcs.findIdx? (·.name == "internal/reflectlite" ++ ".Swapper$" ++ toString 2) = some f2) (h6 : P.funcs.findIdx? (·.name == "internal/reflectlite" ++ ".Swapper$" ++ toString 6) = some f6)
  (hx:∀ args W,(callFunc f6 args).run P W=((Extern.ReflectliteSwapper.swap true args).run P W).andThen fun v w'=>.ok (.value v) w'):SortOk P T:=by
 refine ⟨hSE,fun w V G n ks cur hks hn hk32 hV hG hcs hVG hat=>?_⟩
 rw [<- hρ]
 have hGl:G < w.heap.size:=(Array.getElem?_eq_some_iff.1 hG).1
 have hVl:V < w.heap.size:=(Array.getElem?_eq_some_iff.1 hV).1
 by_cases hn2:2<=n
 ·have hK:swapperK n ie ke=6:=by
   have c:(n == 0)=false:=by simp;omega
   have d:(n == 1)=false:=by simp;omega
   simp [swapperK,hptr,hby,c,d]
  have hdsz:ks.toArray.size=n:=by simpa using hks
  have hH:Holds zt_ w G 0 ks.toArray:=fun j hj=>by
   have hj':j < ks.length:=by simpa using hj
   have e1:ks[j]?=some ks.toArray[j]!:=by rw [getElem!_pos ks.toArray j hj];simp [hj']
   have:=hat j _ e1
   refine ⟨by simp [World.cell?,hG,this],by simp [World.frozen?,hG]⟩
  have hless:LessReads P T.fLess #[pt V 0] zt_ ltN G 0 ks.toArray.size w:=by
   intro m os dk hs i j hi hj
   have hHa:Holds zt_ (Sort.ahead w m) G 0 ks.toArray:=holds_ahead _ _ _ _ _ _ hH
   have hcell:∀ t,t < ks.toArray.size->(sortWorld zt_ w G 0 m dk os).cell? ⟨G,t,none⟩=some (zt_ dk[t]!):=fun t ht=>by
    unfold sortWorld
    rw [cell?_grow _ _ _ (by show G < (putRow zt_ (Sort.ahead w m) G 0 dk).heap.size;simp only [putRow,mapBlock];simpa using hGl)]
    have:=cell?_putRow zt_ (Sort.ahead w m) G 0 ks.toArray dk hHa hs t (by omega)
    rwa [Nat.zero_add] at this
   have hcV:(sortWorld zt_ w G 0 m dk os).cell? ⟨V,0,none⟩=some (.slice (some ⟨G,0,none⟩) n n):=by
    unfold sortWorld
    rw [cell?_grow _ _ _ (by show V < (putRow zt_ (Sort.ahead w m) G 0 dk).heap.size;simp only [putRow,mapBlock];simpa using hVl),cell?_putRow_other _ _ _ _ _ _ (.inl hVG)]
    show w.cell? ⟨V,0,none⟩=_
    simp [World.cell?,hV]
   have:=less_calls hm tf hfn hnt (w:=sortWorld zt_ w G 0 m dk os) (V:=V) (G:=G) (n:=n) (i:=i) (j:=j) hcV (by omega) (by omega) (hcell i hi) (hcell j hj)
   exact this.mono fun e w' h=>⟨h.1,1,h.2⟩
  have hS:=Any.sort_Slice_sorted L T.tKs T.tU32 it ie hi hd hpk hie ke hke hs1 tf.vU.agg zt_ (fun _=>rfl) ltN swo_ltN T.fLess #[pt V 0] heg G 0 n ks.toArray (by omega) (by omega) f6 (by rw [hdsz,hK];exact h6) true hx w hless hH hGl
  rw [hdsz] at hS
  refine hS.mono fun e w' h=>?_
  obtain ⟨he,d',m,os,hp,hso,rfl⟩:=h
  have hsz':d'.size=n:=hp.1.trans hdsz
  have hHa:Holds zt_ (Sort.ahead w m) G 0 ks.toArray:=holds_ahead _ _ _ _ _ _ hH
  have hPG:(putRow zt_ (Sort.ahead w m) G 0 d').heap[G]?=some (.cells (putCells zt_ 0 d' cur) T.tU32 (0,0)):=by
   simp only [putRow,mapBlock,Array.getElem?_modify,if_true]
   show (w.heap[G]?).map _=_
   rw [hG];rfl
  have hPk:qc_ (fun k=>k=G) w (putRow zt_ (Sort.ahead w m) G 0 d'):=⟨rfl,rfl,rfl,by show w.heap.size<=(w.heap.modify G _).size;simp,fun k _ hk=>by
   show (w.heap.modify G _)[k]?=_
   rw [Array.getElem?_modify,if_neg (fun e=>hk e.symm)]⟩
  have hPs:(putRow zt_ (Sort.ahead w m) G 0 d').heap.size=w.heap.size:=by show (w.heap.modify G _).size=_;simp
  refine ⟨he,hPk.trans (keeps_grow _ _ _),putCells zt_ 0 d' cur,d'.toList,by rw [heap_grow_old _ _ (by omega)];exact hPG,?_,?_,fun i x hx=>?_⟩
  ·have:=hp.2.2
   have e1:d'.extract 0 n=d':=by rw [<- hsz'];simp
   have e2:ks.toArray.extract 0 n=ks.toArray:=by rw [<- hdsz];simp
   rw [e1,e2] at this
   simpa using this
  ·rw [List.pairwise_iff_getElem]
   intro i j hi hj hij
   have hj':j < n:=by simp at hj;omega
   have:=hso i j (Nat.zero_le _) hij (by omega)
   simp only [ltN,decide_eq_false_iff_not] at this
   rw [getElem!_pos d' j (by omega),getElem!_pos d' i (by omega)] at this
   simp only [Array.getElem_toList]
   omega
  ·have hi':i < d'.size:=by
    have:=(List.getElem?_eq_some_iff.1 hx).1
    simpa using this
   have hc:=cell?_putRow zt_ (Sort.ahead w m) G 0 ks.toArray d' hHa (by omega) i hi'
   have e1:d'[i]! = x:=by
    rw [getElem!_pos d' i hi']
    have:=(List.getElem?_eq_some_iff.1 hx).2
    simpa using this
   simp only [World.cell?,hPG,Nat.zero_add,e1] at hc
   exact hc
 ·have hK:swapperK n ie ke=n + 1:=by
   rcases Nat.eq_zero_or_pos n with h | h
   ·subst h;simp [swapperK]
   ·obtain rfl:n=1:=by omega
    simp [swapperK]
  have hf : ∃ f, P.funcs.findIdx? (·.name == "internal/reflectlite" ++ ".Swapper$" ++ toString (swapperK n ie ke)) = some f := by
   rw [hK]
   rcases Nat.eq_zero_or_pos n with h | h
   ·subst h;exact ⟨f1,h1⟩
   ·obtain rfl:n=1:=by omega
    exact ⟨f2,h2⟩
  obtain ⟨f,hf⟩:=hf
  have hS:=Any.sort_Slice_tiny L T.tKs T.tU32 it ie hi hd hpk hie ke hke (some ⟨G,0,none⟩) n n (by omega) f hf (.func T.fLess) #[] #[pt V 0] w
  refine hS.mono fun e w' h=>?_
  obtain ⟨he,os,rfl⟩:=h
  refine ⟨he,keeps_grow _ _ _,cur,ks,by rw [heap_grow_old _ _ hGl];exact hG,.refl _,?_,hat⟩
  match ks,hks with
  | [],_=>simp
  | [x],_=>simp
  | x :: y :: r,h=>simp at h;omega
end
end Go.Proofs.Ytbgklecbmhaadaa.Kx

namespace Go.Proofs.Ytbgklecbmhaadaa.Kx
open Go
theorem fnIsC_of {P : Program} {f : Nat} {fn : Func} {ntmps s t : Nat} {d : Code} (hf : P.funcs[f]? = some fn) (hb : fn.body.map nCode = some d) (hn : fn.ntmps = ntmps) (hr : fn.results = #[ResultVar.cell s t]) (hg : (fn.name == "runtime.NumGoroutine") = false) : FnIsC P f ntmps s t d := by
 cases h:fn.body with
 | none=>rw [h] at hb;cases hb
 | some c=>
  rw [h] at hb
  exact ⟨fn,c,hf,h,Option.some.inj hb,hn,hr,hg⟩
def infoB (P:Program) (U:Nat):Bool:=match P.info? U with | some i=>(match i.zero with | some _=>i.size == 1 && i.bytes == 4 | none=>false) | none=>false
theorem infoB_ok {P:Program} {U:Nat} (h:infoB P U=true):∃ i z,P.info? U=some i/\i.zero=some z/\i.size=1/\i.bytes=4:=by
 unfold infoB at h
 split at h
 ·rename_i i hi
  split at h
  ·rename_i z hz
   simp only [Bool.and_eq_true,beq_iff_eq] at h
   exact ⟨i,z,hi,hz,h.1,h.2⟩
  ·cases h
 ·cases h
end Go.Proofs.Ytbgklecbmhaadaa.Kx
