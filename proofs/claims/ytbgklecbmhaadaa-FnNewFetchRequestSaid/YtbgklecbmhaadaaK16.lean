/-
  PLAIN LAWS AND CONTRACTS of messages, part 16 of 18: how readers and writers are printed, what they do, what the reference writes, and that what is written is read as the same. Nothing of a statement stands here.
-/
import Derived.Test.YtbgklecbmhaadaaK1
import Derived.Test.YtbgklecbmhaadaaK2
import Derived.Test.YtbgklecbmhaadaaK3
import Derived.Test.YtbgklecbmhaadaaK4
import Derived.Test.YtbgklecbmhaadaaK6
import Derived.Test.YtbgklecbmhaadaaK8
import Derived.Test.YtbgklecbmhaadaaK9
import Derived.Test.YtbgklecbmhaadaaK10
import Derived.Test.YtbgklecbmhaadaaK11
import Derived.Test.YtbgklecbmhaadaaK12
import Derived.Test.YtbgklecbmhaadaaK13
import Derived.Test.YtbgklecbmhaadaaK15
import Derived.KernelRfl
import Derived.Laws.IdiomStrings
import Derived.OpenShut
import Derived.ChangeSlices

namespace Go.Proofs.Ytbgklecbmhaadaa.Kx
open Go
set_option maxRecDepth 4000
def tgOf (p:UInt32 × Bs):Nat × Bs:=(p.1.toNat,p.2)
theorem tags_raw (t:Tr):t.tags=t.raw.map tgOf:=by cases t;rfl
section
variable {P:Program} {S:SN}
end
end Go.Proofs.Ytbgklecbmhaadaa.Kx

namespace Go.Proofs.Ytbgklecbmhaadaa.Kx
def wtU:List (UInt32 × Bs)->Nat
 | []=>0
 | p :: r=>1 + p.2.length + wtU r
mutual
def Tr.wt:Tr->Nat
 | .mk _ s _ l u=>1 + s.length + wtL l + wtU u
def wtL:List Tr->Nat
 | []=>0
 | t :: r=>t.wt + wtL r
end
set_option maxRecDepth 100000
structure NN where
 fM:Nat
 fB:Nat
 fV:Nat
 fN:Nat
 fD:Nat
def def_0 (S:SN) (_N:NN):List Oper:=[mk (some 2) (.alloc S.tT)]
def def_1 (S:SN) (_N:NN):List Oper:=[mk (some 3) (.alloc S.tT)]
def def_2 (S:SN) (_N:NN):List Oper:=[mk (some 7) (.move (tm 0)),bi (some 8) .len [(tm 7)] [S.tFs] S.tInt,mk (some 9) (.move (ki .i64 0))]
def def_3 (S:SN) (_N:NN):List Oper:=[mk (some 10) (.binOp .lss S.tInt (tm 9) (tm 8) 0)]
def def_4 (S:SN) (_N:NN):List Oper:=[mk (some 11) (.indexAddr S.tFs (tm 7) (tm 9)),mk (some 12) (.load S.tF (tm 11)),mk (some 5) (.alloc S.tF),mk none (.store S.tF (tm 5) (tm 12))]
def def_5 (S:SN) (_N:NN):List Oper:=[mk (some 13) (.fieldAddr S.tF (tm 5) 5),mk (some 14) (.load S.tI64 (tm 13)),mk (some 15) (.fieldAddr S.tF (tm 5) 3),mk (some 16) (.load S.tInt (tm 15)),mk (some 17) (.binOp .geq S.tInt (tm 16) (ki .i64 0) 0),mk (some 18) (.build S.tT #[(0,(tm 14)),(2,(tm 17))]),mk (some 6) (.alloc S.tT),mk none (.store S.tT (tm 6) (tm 18))]
def def_6 (S:SN) (_N:NN):List Oper:=[mk (some 19) (.fieldAddr S.tF (tm 5) 0),mk (some 20) (.load S.tInt (tm 19)),mk (some 21) (.binOp .eql S.tInt (tm 20) (ki .i64 10) 0)]
def def_7 (S:SN) (N:NN):List Oper:=[mk (some 22) (.fieldAddr S.tF (tm 5) 7),mk (some 23) (.load S.tFs (tm 22)),cl (some 24) N.fD [(tm 23)],mk (some 25) (.field S.tT (tm 24) 3),mk (some 26) (.fieldAddr S.tT (tm 6) 3),mk none (.store S.tTs (tm 26) (tm 25))]
def def_8 (S:SN) (_N:NN):List Oper:=[mk (some 27) (.fieldAddr S.tT (tm 3) 3),mk (some 28) (.load S.tTs (tm 27)),mk (some 29) (.load S.tT (tm 6)),mk (some 30) (.buildSlice S.tTs 1 #[(0,(tm 29))]),bi (some 31) .append [(tm 28),(tm 30)] [S.tTs,S.tTs] S.tTs,mk (some 32) (.fieldAddr S.tT (tm 3) 3),mk none (.store S.tTs (tm 32) (tm 31))]
def def_9 (S:SN) (_N:NN):List Oper:=[mk (some 33) (.binOp .add S.tInt (tm 9) (ki .i64 1) 0),mk (some 9) (.move (tm 33))]
def def_10 (S:SN) (_N:NN):List Oper:=[mk (some 34) (.load S.tT (tm 3)),mk none (.store S.tT (tm 2) (tm 34))]
def cDef (S:SN) (N:NN):Code:=
 (.seq (rg (def_0 S N))
 (.seq (rg (def_1 S N))
 (.seq (.seq (rg (def_2 S N))
  (.block 0 (.loop (.seq (rg (def_3 S N))
  (.seq (.cond (tm 10) .skip
   (.exit 0))
  (.seq (.block 1 (.seq (rg (def_4 S N))
   (.seq (rg (def_5 S N))
   (.seq (.seq (rg (def_6 S N))
    (.cond (tm 21) (rg (def_7 S N))
    .skip))
   (rg (def_8 S N))))))
  (rg (def_9 S N))))))))
 (.seq (rg (def_10 S N))
 .ret))))
def lnw_0 (_S:SN) (_N:NN):List Oper:=[mk (some 2) (.assign (.const (.bool false)))]
def lnw_1 (_S:SN) (N:NN):List Oper:=[cl (some 5) N.fM [],mk (some 3) (.assign (tm 5))]
def lnw_2 (S:SN) (_N:NN):List Oper:=[mk (some 6) (.move (tm 3)),mk (some 7) (.binOp .lss S.tInt (tm 6) (ki .i64 0) 0)]
def lnw_3 (_S:SN) (_N:NN):List Oper:=[mk (some 2) (.assign (.const (.bool false)))]
def lnw_4 (S:SN) (N:NN):List Oper:=[cl (some 8) N.fB [],mk (some 4) (.alloc S.tMs),mk none (.store S.tMs (tm 4) (tm 8))]
def lnw_5 (S:SN) (N:NN):List Oper:=[mk (some 9) (.move (tm 0)),mk (some 10) (.move (tm 3)),cl (some 11) N.fV [(tm 9),(tm 10)],cl (some 12) N.fN [(tm 11)],mk (some 13) (.load S.tMs (tm 4)),mk (some 14) (.move (tm 0)),mk (some 15) (.move (tm 3)),cl (some 16) N.fV [(tm 14),(tm 15)],mk (some 17) (.fieldAddr S.tMs (tm 4) 0),mk (some 18) (.load S.tFs (tm 17)),cl (some 19) N.fD [(tm 18)],cl (some 20) S.fWrite [(tm 13),(tm 16),(tm 19)],cl (some 21) S.fSame [(tm 12),(tm 20)],mk (some 2) (.assign (tm 21))]
def cLnw (S:SN) (N:NN):Code:=
 (.seq (rg (lnw_0 S N))
 (.seq (rg (lnw_1 S N))
 (.seq (.seq (rg (lnw_2 S N))
  (.cond (tm 7) (.seq (rg (lnw_3 S N))
   .ret)
  .skip))
 (.seq (rg (lnw_4 S N))
 (.seq (.region 1 (lnw_5 S N).toArray true)
 .ret)))))
end Go.Proofs.Ytbgklecbmhaadaa.Kx

namespace Go.Proofs.Ytbgklecbmhaadaa.Kx
open Go
set_option maxRecDepth 4000
def sDefL:SFs->List Tr
 | .nil=>[]
 | .cons kind _ _ nul _ df _ sub r=>.mk df [] (decide (0<=nul)) (if kind=10 then sDefL sub else []) [] :: sDefL r
def sDef (sf:SFs):Tr:=.mk 0 [] false (sDefL sf) []
def depS:SFs->Nat
 | .nil=>1
 | .cons _ _ _ _ _ _ _ sub r=>depS sub + depS r + 1
theorem depS_pos:∀ sf:SFs,1<=depS sf
 | .nil=>Nat.le_refl _
 | .cons ..=>by simp [depS]
theorem sDefL_len:∀ sf:SFs,(sDefL sf).length=sf.len
 | .nil=>rfl
 | .cons _ _ _ _ _ _ _ _ r=>by simp [sDefL,SFs.len,sDefL_len r]
def TrX (w:World) (X:Nat->Prop):Nat->List Value->Tr->Prop
 | 0,_,_=>False
 | k + 1,cs,t=>∃ lv,cs=[.int .i64 t.num,qs_,.bool t.null,lv,qs_]/\t.octets=[]/\t.raw=[] /\
   ((lv=qs_/\t.list=[]) \/ ∃ g c,lv=.slice (some ⟨g,0,none⟩) t.list.length c/\¬ X g/\g < w.heap.size/\t.list.length<=c/\c<=maxLen/\∀ i x,t.list[i]?=some x->∃ cs',cs'.length=5/\qf_ w g (i * 5) cs'/\TrX w X k cs' x)
theorem TrX.keep {w w':World} {X:Nat->Prop} (hk:qc_ X w w'):∀ {k:Nat} {cs:List Value} {t:Tr},TrX w X k cs t->TrX w' X k cs t
 | 0,_,_,h=>h.elim
 | _ + 1,_,_,h=>by
  obtain ⟨lv,h1,h2,h3,h4⟩:=h
  refine ⟨lv,h1,h2,h3,?_⟩
  rcases h4 with h4 | ⟨g,c,a1,a2,a3,a4,a5,a6⟩
  ·exact .inl h4
  ·exact .inr ⟨g,c,a1,a2,Nat.lt_of_lt_of_le a3 hk.size,a4,a5,fun i x hx=>by
    obtain ⟨cs',b1,b2,b3⟩:=a6 i x hx
    exact ⟨cs',b1,fun j v hj=>hk.cell a2 (b2 j v hj),TrX.keep hk b3⟩⟩
theorem TrX.mono {w:World} {X Y:Nat->Prop} (hy:∀ j,j < w.heap.size->Y j->X j):∀ {k:Nat} {cs:List Value} {t:Tr},TrX w X k cs t->TrX w Y k cs t
 | 0,_,_,h=>h.elim
 | _ + 1,_,_,h=>by
  obtain ⟨lv,h1,h2,h3,h4⟩:=h
  refine ⟨lv,h1,h2,h3,?_⟩
  rcases h4 with h4 | ⟨g,c,a1,a2,a3,a4,a5,a6⟩
  ·exact .inl h4
  ·exact .inr ⟨g,c,a1,fun hh=>a2 (hy g a3 hh),a3,a4,a5,fun i x hx=>by
    obtain ⟨cs',b1,b2,b3⟩:=a6 i x hx
    exact ⟨cs',b1,b2,TrX.mono hy b3⟩⟩
theorem TrX.up {w:World} {X:Nat->Prop}:∀ {k m:Nat} {cs:List Value} {t:Tr},k<=m->TrX w X k cs t->TrX w X m cs t
 | 0,_,_,_,_,h=>h.elim
 | _ + 1,0,_,_,hm,_=>by omega
 | k + 1,m + 1,_,_,hm,h=>by
  obtain ⟨lv,h1,h2,h3,h4⟩:=h
  refine ⟨lv,h1,h2,h3,?_⟩
  rcases h4 with h4 | ⟨g,c,a1,a2,a3,a4,a5,a6⟩
  ·exact .inl h4
  ·exact .inr ⟨g,c,a1,a2,a3,a4,a5,fun i x hx=>by
    obtain ⟨cs',b1,b2,b3⟩:=a6 i x hx
    exact ⟨cs',b1,b2,TrX.up (by omega) b3⟩⟩
theorem TrX.rp {w:World} {X:Nat->Prop}:∀ {k:Nat} {cs:List Value} {t:Tr},TrX w X k cs t->TrRp w k cs t
 | 0,_,_,h=>h.elim
 | _ + 1,_,_,h=>by
  obtain ⟨lv,h1,h2,h3,h4⟩:=h
  refine ⟨qs_,lv,qs_,h1,.inl ⟨none,rfl,h2⟩,?_,.inl ⟨none,rfl,h3⟩⟩
  rcases h4 with ⟨h4,h5⟩ | ⟨g,c,a1,a2,a3,a4,a5,a6⟩
  ·exact .inl ⟨none,h4,h5⟩
  ·exact .inr ⟨g,0,c,a1,a4,a5,fun i x hx=>by
    obtain ⟨cs',b1,b2,b3⟩:=a6 i x hx
    exact ⟨cs',b1,by rw [Nat.zero_add];exact b2,TrX.rp b3⟩⟩
theorem TrX.form {w:World} {X:Nat->Prop} {k:Nat} {cs:List Value} {t:Tr} (h:TrX w X k cs t):∃ base n c,cs=[.int .i64 t.num,qs_,.bool t.null,.slice base n c,qs_]:=by
 cases k with
 | zero=>exact h.elim
 | succ k=>
  obtain ⟨lv,h1,_,_,h4⟩:=h
  rcases h4 with ⟨rfl,_⟩ | ⟨g,c,rfl,_⟩
  ·exact ⟨none,0,0,h1⟩
  ·exact ⟨_,_,c,h1⟩
def OutX (w:World) (L K tT:Nat) (v:Value) (ts:List Tr):Prop:=
 (v=qs_/\ts=[]) \/ ∃ (g c:Nat) (cur:Array Value),v=.slice (some ⟨g,0,none⟩) ts.length c/\L<=g/\w.heap[g]?=some (.cells cur tT (0,0))/\ts.length<=c/\c<=maxLen/\cur.size=c * 5 /\
  ∀ i t,ts[i]?=some t->∃ cs,cs.length=5/\(∀ j x,cs[j]?=some x->cur[i * 5 + j]?=some x)/\TrX w (fun k=>k=g \/ k < L) K cs t
theorem OutX.own {w:World} {L K tT:Nat} {v:Value} {ts:List Tr} (h:OutX w L K tT v ts) {k:Nat} (hk:v.ownBlock=some k):L<=k/\k < w.heap.size:=by
 rcases h with ⟨rfl,_⟩ | ⟨g,c,cur,rfl,hL,hg,_⟩
 ·cases hk
 ·obtain rfl:g=k:=Option.some.inj hk
  exact ⟨hL,(Array.getElem?_eq_some_iff.1 hg).1⟩
theorem OutX.keep {w w':World} {X:Nat->Prop} {L K tT:Nat} {v:Value} {ts:List Tr} (h:OutX w L K tT v ts) (hk:qc_ X w w') (hx:∀ k,X k->k < L):OutX w' L K tT v ts:=by
 rcases h with h | ⟨g,c,cur,rfl,hL,hg,h1,h2,h3,h4⟩
 ·exact .inl h
 ·refine .inr ⟨g,c,cur,rfl,hL,by rw [hk.block g (Array.getElem?_eq_some_iff.1 hg).1 (fun hX=>by have:=hx g hX;omega)];exact hg,h1,h2,h3,fun i t ht=>?_⟩
  obtain ⟨cs,a1,a2,a3⟩:=h4 i t ht
  exact ⟨cs,a1,a2,a3.keep (hk.mono fun k _ hX=>.inr (hx k hX))⟩
theorem OutX.form {w:World} {L K tT:Nat} {v:Value} {ts:List Tr} (h:OutX w L K tT v ts):∃ base n c,v=.slice base n c:=by
 rcases h with ⟨rfl,rfl⟩ | ⟨g,c,cur,rfl,_⟩
 ·exact ⟨none,0,0,rfl⟩
 ·exact ⟨_,_,c,rfl⟩
structure MkT (P:Program) (S:SN):Prop where
 tab:RefT P S
 iT:∃ i,P.info? S.tT=some i/\i.zero=some (.agg #[.int .i64 0,qs_,.bool false,qs_,qs_])/\i.size=5/\i.bytes=88
 bT:∀ (x:Int) (b:Bool) (w:World),(Instr.build S.tT #[(0,.int .i64 x),(2,.bool b)]).run P w=.ok (.agg #[.int .i64 x,qs_,.bool b,qs_,qs_]) w
 bS:∀ (x:Int) (b:Bool) (base:Option Addr) (n c:Nat) (w:World),(Instr.buildSlice S.tTs 1 #[(0,.agg #[.int .i64 x,qs_,.bool b,.slice base n c,qs_])]).run P w=.ok (.slice (some ⟨w.heap.size,0,none⟩) 1 1) (w.alloc (.cells #[.int .i64 x,qs_,.bool b,.slice base n c,qs_] S.tT (0,0)))
 fT:∀ (x:Int) (b:Bool) (base:Option Addr) (n c:Nat) (w:World),(Instr.field S.tT (.agg #[.int .i64 x,qs_,.bool b,.slice base n c,qs_]) 3).run P w=.ok (.slice base n c) w
theorem run_append_tree {P:Program} {S:SN} (T:MkT P S) {w:World} {L K:Nat} {v x:Value} {ts:List Tr} {t:Tr} {cs:List Value} (h:OutX w L K S.tT v ts) (hx:Src P 5 S.tTs x 1 cs w) (hcs:cs.length=5) (ht:TrX w (fun k=>v.ownBlock=some k \/ k < L) K cs t) (hL:L<=w.heap.size) (hlim:ts.length<=40000) :
  ∃ v' w',(Builtin.append_ #[S.tTs,S.tTs] S.tTs #[v,x]).run P w=.ok v' w'/\OutX w' L K S.tT v' (ts++[t])/\qc_ (fun k=>v.ownBlock=some k) w w':=by
 obtain ⟨i,hi,hz,hsz,hby⟩:=T.iT
 have hd:=T.tab.dTs
 have hs':Src P i.size S.tTs x 1 cs w:=by rw [hsz];exact hx
 have grown:∀ (base:Option Addr) (old:Nat) (olds:List Value),olds.length=ts.length * 5->old < ts.length + 1->(Builtin.firstCells i.size ts.length (.slice base ts.length old)).run P w.drew=.ok olds.toArray w.drew ->
   (∀ j t,ts[j]?=some t->∃ cs,cs.length=5/\(∀ q x,cs[q]?=some x->olds[j * 5 + q]?=some x)/\TrX w (fun k=>k < L) K cs t)->TrX w (fun k=>k < L) K cs t ->
   ∃ v' w',(Builtin.append_ #[S.tTs,S.tTs] S.tTs #[.slice base ts.length old,x]).run P w=.ok v' w'/\OutX w' L K S.tT v' (ts++[t])/\qc_ (fun _=>False) w w':=by
  intro base old olds hol ho hold hat ht
  have hr:=run_append_grow_src (P:=P) w S.tTs S.tTs S.tTs S.tT i (.agg #[.int .i64 0,qs_,.bool false,qs_,qs_]) hd hi hz base ts.length old olds hold x 1 cs hs' ho (by omega) (growslice_fits ho (by rw [hby];omega))
  have hge:=grownCap_ge w (ts.length + 1) old S.tT
  have hcm:grownCap w (ts.length + 1) old S.tT<=maxLen:=grownCap_le_maxLen w _ old S.tT (by simp only [maxLen];omega)
  have hkk:qc_ (fun _=>False) w (w.drew.alloc (.cells ((olds++cs).toArray++Builtin.zeroCells (Value.agg #[.int .i64 0,qs_,.bool false,qs_,qs_]).cells (grownCap w (ts.length + 1) old S.tT - (ts.length + 1))) S.tT (0,0))):=⟨rfl,rfl,rfl,by simp,fun k hk _=>jc_ (w:=w.drew) hk⟩
  refine ⟨_,_,hr,.inr ⟨w.heap.size,_,_,by rw [List.length_append];rfl,hL,Go.heap_alloc_new w.drew _,by rw [List.length_append];exact hge,hcm,?_,?_⟩,hkk⟩
  ·simp only [Array.size_append,List.size_toArray,size_zeroCells,List.length_append,hol,hcs,Value.cells]
   simp only [List.length_cons,List.length_nil]
   omega
  ·intro j e hj
   have hjl:j < ts.length + 1:=by have:=(List.getElem?_eq_some_iff.1 hj).1;simpa using this
   have pre:∀ q,q < ts.length * 5 + 5->((olds++cs).toArray++Builtin.zeroCells (Value.agg #[.int .i64 0,qs_,.bool false,qs_,qs_]).cells (grownCap w (ts.length + 1) old S.tT - (ts.length + 1)))[q]?=(olds++cs)[q]?:=fun q hq=>by
    rw [Array.getElem?_append_left (by simp only [List.size_toArray,List.length_append,hol,hcs];omega)]
    simp
   have lift:∀ {cs:List Value} {t:Tr},TrX w (fun k=>k < L) K cs t->TrX w (fun k=>k=w.heap.size \/ k < L) K cs t:=fun hh=>hh.mono fun j hj hY=>hY.resolve_left (by omega)
   by_cases hjb:j < ts.length
   ·rw [List.getElem?_append_left hjb] at hj
    obtain ⟨cs1,h1,h2,h3⟩:=hat j e hj
    refine ⟨cs1,h1,fun q u hq=>?_,(lift h3).keep (hkk.mono fun _ _ hh=>hh.elim)⟩
    have hql:=(List.getElem?_eq_some_iff.1 hq).1
    rw [pre _ (by omega),List.getElem?_append_left (by omega)]
    exact h2 q u hq
   ·rw [List.getElem?_append_right (by omega)] at hj
    have hje:j=ts.length:=by omega
    subst hje
    simp only [Nat.sub_self,List.getElem?_cons_zero,Option.some.injEq] at hj
    subst hj
    refine ⟨cs,hcs,fun q u hq=>?_,(lift ht).keep (hkk.mono fun _ _ hh=>hh.elim)⟩
    have hql:=(List.getElem?_eq_some_iff.1 hq).1
    rw [pre _ (by omega),List.getElem?_append_right (by omega),hol,show ts.length * 5 + q - ts.length * 5=q by omega]
    exact hq
 rcases h with ⟨rfl,rfl⟩ | ⟨g,c,cur,rfl,hgL,hg,hnc,hcm,hcsz,hat⟩
 ·obtain ⟨v',w',a1,a2,a3⟩:=grown none 0 [] rfl (by simp) (by simp [Builtin.firstCells]) (fun j e h=>by simp at h) (ht.mono fun _ _ h=>.inr h)
  exact ⟨v',w',a1,a2,a3.mono fun _ _ h=>h.elim⟩
 ·have hcl:cur.toList.length=c * 5:=by simpa using hcsz
  have ht':TrX w (fun k=>k=g \/ k < L) K cs t:=ht.mono fun j _ h=>h.imp (fun e=>by rw [e];rfl) id
  by_cases hroom:ts.length + 1<=c
  ·have hst:=run_storeCells_at P g (ts.length * 5) S.tT cs 0 cur w hg (by rw [hcs];omega) hx.one
   simp only [Nat.add_zero] at hst
   have hr:(Builtin.append_ #[S.tTs,S.tTs] S.tTs #[.slice (some ⟨g,0,none⟩) ts.length c,x]).run P w=.ok (.slice (some ⟨g,0,none⟩) (ts.length + 1) c) (w.setRow g (q4_ cur (ts.length * 5) cs)):=by
    have hxc:(Builtin.firstCells 5 1 x).run P w=.ok cs.toArray w:=hx.cells
    rcases hx.kind with ⟨e',hk⟩ | hk <;> simp [Builtin.append_,run_underlying hd,sizeOf,typeInfo,hi,hsz,hx.len,hroom,hxc,Addr.add_lit,hst,q4_]
   have hfit:ts.length * 5 + cs.length<=cur.size:=by rw [hcs];omega
   have hkg:qc_ (fun k=>k=g \/ k < L) w (w.setRow g (q4_ cur (ts.length * 5) cs)):=qc_.setRow _ _ _ _ (.inl rfl)
   refine ⟨_,_,hr,.inr ⟨g,c,_,by rw [List.length_append];rfl,hgL,setRow_heap _ _ _ _ _ _ hg,by rw [List.length_append];exact hroom,hcm,by rw [zv_ hfit];exact hcsz,fun j e hj=>?_⟩,qc_.setRow _ _ _ _ rfl⟩
   by_cases hjb:j < ts.length
   ·rw [List.getElem?_append_left hjb] at hj
    obtain ⟨cs1,h1,h2,h3⟩:=hat j e hj
    refine ⟨cs1,h1,fun q u hq=>?_,h3.keep hkg⟩
    have hql:=(List.getElem?_eq_some_iff.1 hq).1
    rw [jl_ hfit _ (.inl (by omega))]
    exact h2 q u hq
   ·rw [List.getElem?_append_right (by omega)] at hj
    have hjl:j < (ts++[t]).length:=by
     rcases Nat.lt_or_ge j (ts++[t]).length with h | h
     ·exact h
     ·rw [List.getElem?_eq_none (by simp only [List.length_append,List.length_cons,List.length_nil] at h ⊢;omega)] at hj;cases hj
    have hje:j=ts.length:=by simp only [List.length_append,List.length_cons,List.length_nil] at hjl;omega
    subst hje
    simp only [Nat.sub_self,List.getElem?_cons_zero,Option.some.injEq] at hj
    subst hj
    refine ⟨cs,hcs,fun q u hq=>?_,ht'.keep hkg⟩
    have hql:=(List.getElem?_eq_some_iff.1 hq).1
    rw [ze_ hfit q hql]
    exact hq
  ·have key:∃ v' w',(Builtin.append_ #[S.tTs,S.tTs] S.tTs #[.slice (some ⟨g,0,none⟩) ts.length c,x]).run P w=.ok v' w'/\OutX w' L K S.tT v' (ts++[t])/\qc_ (fun _=>False) w w':=by
    refine grown (some ⟨g,0,none⟩) c (cur.toList.take (ts.length * 5)) (by rw [List.length_take,hcl];omega) (by omega) ?_ (fun j e hj=>?_) (ht'.mono fun _ _ h=>.inr h)
    ·have hl:=run_loadCells_list (P:=P) w.drew ⟨g,0,none⟩ (cur.toList.take (ts.length * 5)) (fun j u hj=>by
      rw [List.getElem?_take] at hj
      split at hj
      ·rw [Addr.add_lit]
       have hg':w.drew.heap[g]?=some (.cells cur S.tT (0,0)):=hg
       simp [World.cell?,hg',<- hj]
      ·cases hj)
     have hll:(cur.toList.take (ts.length * 5)).length=ts.length * 5:=by rw [List.length_take,hcl];omega
     rw [hll] at hl
     simp [Builtin.firstCells,hsz,hl]
    ·have hjl:=(List.getElem?_eq_some_iff.1 hj).1
     obtain ⟨cs1,h1,h2,h3⟩:=hat j e hj
     refine ⟨cs1,h1,fun q u hq=>?_,h3.mono fun _ _ h=>.inr h⟩
     have hql:=(List.getElem?_eq_some_iff.1 hq).1
     rw [List.getElem?_take,if_pos (by omega)]
     have:=h2 q u hq
     simpa using this
   obtain ⟨v',w',a1,a2,a3⟩:=key
   exact ⟨v',w',a1,a2,a3.mono fun _ _ h=>h.elim⟩
end Go.Proofs.Ytbgklecbmhaadaa.Kx

namespace Go.Proofs.Ytbgklecbmhaadaa.Kx
open Go
set_option maxRecDepth 4000
section
variable {P:Program} {S:SN} {N:NN}
def DefC (P:Program) (_S:SN) (fD:Nat) (sf:SFs):Prop:=∀ (w:World) (fv:Value),FsRp w sf fv->Calls P fD [fv].toArray w fun e w'=>∃ cs,e=.returned (.agg cs.toArray)/\TrX w' (fun k=>k < w.heap.size) (depS sf) cs (sDef sf)/\qc_ (fun _=>False) w w'
def SubD (P:Program) (S:SN) (fD:Nat):SFs->Prop
 | .nil=>True
 | .cons _ _ _ _ _ _ _ sub r=>DefC P S fD sub/\SubD P S fD r
def sDefB:SFs->Bool
 | .nil=>true
 | .cons _ _ _ _ _ _ _ sub r=>decide (r.len + 1<=40000) && sDefB sub && sDefB r
theorem row_at {w:World} {g t:Nat} {cs:List Value} (h:w.heap[g]?=some (.cells cs.toArray t (0,0))):qf_ w g 0 cs:=fun j c hj=>by
 simp only [World.cell?,h,Option.isSome_none,Bool.false_eq_true,if_false,Nat.zero_add,List.getElem?_toArray,hj]
def trC (x:Int) (b:Bool) (lv:Value):List Value:=[.int .i64 x,qs_,.bool b,lv,qs_]
theorem splice3 (x:Int) (b:Bool) (lv u:Value):q4_ (trC x b lv).toArray 3 [u]=(trC x b u).toArray:=by simp [q4_,trC]
theorem trC_one {x:Int} {b:Bool} {base:Option Addr} {n c:Nat}:∀ u ∈ trC x b (.slice base n c),u.oneCell'=true:=by
 intro u hu
 simp only [trC,List.mem_cons,List.not_mem_nil,or_false] at hu
 rcases hu with rfl | rfl | rfl | rfl | rfl <;> rfl
theorem def_one (T:MkT P S) (hfn:FnIsC P N.fD 35 2 S.tT (cDef S N)) {sf:SFs} (hmax:sf.len<=40000) (hsub:SubD P S N.fD sf):DefC P S N.fD sf:=by
 intro W fv hfs
 have R:=T.tab
 obtain ⟨base,c,hfv,hlen,hfa0⟩:=hfs.form
 subst hfv
 refine callsTC R.mixed hfn _ (by simp) fun a h=>?_
 unfold cDef
 have zc:(Value.agg #[.int .i64 0,qs_,.bool false,qs_,qs_]).cells=(trC 0 false qs_).toArray:=rfl
 refine qt_ (nrg (j6_ h (R.zT W) (by omega) fun a h=>wpList_nil ?_))
 have hn2:=qk_ W (.cells (Value.agg #[.int .i64 0,qs_,.bool false,qs_,qs_]).cells S.tT (0,0))
 have hk2:qc_ (fun _=>False) W (W.alloc (.cells (Value.agg #[.int .i64 0,qs_,.bool false,qs_,qs_]).cells S.tT (0,0))):=qc_.alloc _ _ _
 have hz2:(W.alloc (.cells (Value.agg #[.int .i64 0,qs_,.bool false,qs_,qs_]).cells S.tT (0,0))).heap.size=W.heap.size + 1:=by simp
 generalize W.alloc (.cells (Value.agg #[.int .i64 0,qs_,.bool false,qs_,qs_]).cells S.tT (0,0))=w1 at hn2 hk2 hz2 ⊢
 refine qt_ (nrg (j6_ h (R.zT w1) (by omega) fun a h=>wpList_nil ?_))
 have hn3:=qk_ w1 (.cells (Value.agg #[.int .i64 0,qs_,.bool false,qs_,qs_]).cells S.tT (0,0))
 have hk3:qc_ (fun _=>False) w1 (w1.alloc (.cells (Value.agg #[.int .i64 0,qs_,.bool false,qs_,qs_]).cells S.tT (0,0))):=qc_.alloc _ _ _
 have hz3:(w1.alloc (.cells (Value.agg #[.int .i64 0,qs_,.bool false,qs_,qs_]).cells S.tT (0,0))).heap.size=W.heap.size + 2:=by simp [hz2]
 generalize w1.alloc (.cells (Value.agg #[.int .i64 0,qs_,.bool false,qs_,qs_]).cells S.tT (0,0))=w2 at hn3 hk3 hz3 ⊢
 rw [zc] at hn2 hn3
 rw [hz2] at hn3 h
 have hk02:qc_ (fun _=>False) W w2:=hk2.trans hk3
 have hn2':w2.heap[W.heap.size]?=some (.cells (trC 0 false qs_).toArray S.tT (0,0)):=by rw [hk3.block _ (by omega) id];exact hn2
 refine qt_ (qt_ (nrg (qe_ h (.t rfl) (by omega) fun a h=>zd_ h (.t rfl) R.dFs (by omega) fun a h=>qe_ h .i (by omega) fun a h=>wpList_nil ?_)))
 refine z2_ (fun m a' w'=>∃ (i:Nat) (rest:SFs) (v:Value) (ts:List Tr),i + m=sf.len/\rest.len=m/\depS rest<=depS sf/\SubD P S N.fD rest/\ts++sDefL rest=sDefL sf/\OutX w' (W.heap.size + 2) (depS sf - 1) S.tT v ts/\qc_ (fun _=>False) W w'/\W.heap.size + 2<=w'.heap.size /\
   w'.heap[W.heap.size]?=some (.cells (trC 0 false qs_).toArray S.tT (0,0))/\w'.heap[W.heap.size + 1]?=some (.cells (trC 0 false v).toArray S.tT (0,0))/\(∀ b o,base=some ⟨b,o,none⟩->FsAt W sf b o->FsAt W rest b (o + i * 8)) /\
   St 35 a' [(2,pt W.heap.size 0),(3,pt (W.heap.size + 1) 0),(7,.slice base sf.len c),(8,.int .i64 (sf.len:Int)),(9,.int .i64 (i:Int))]) sf.len
  ⟨sf.len,Nat.le_refl _,0,sf,qs_,[],by omega,rfl,Nat.le_refl _,hsub,rfl,.inl ⟨rfl,rfl⟩,hk02,by omega,hn2',hn3,fun b o _ hh=>by simpa using hh,h.pick ⟨rfl,rfl,rfl,rfl,rfl,trivial⟩⟩ ?_
 rintro m a w hm ⟨i,rest,v,ts,him,hrl,hdep,hrs,htot,ho,hk,hwz,h2,h3,hat,h⟩
 refine qt_ (nrg (q2_ h rfl (.t rfl) (.t rfl) (by omega) fun a h=>wpList_nil ?_))
 refine st_test h rfl (fun hb=>?_) (fun hb=>?_)
 ·have hlt:i < sf.len:=by simp [qz_] at hb;omega
  refine .skip ?_
  cases hr:rest with
  | nil=>rw [hr] at hrl;simp [SFs.len] at hrl;omega
  | cons kind lo hi nul tag df of sub r=>
   subst hr
   obtain ⟨b,o,hbase,hfa⟩:=hfa0.resolve_left (fun hh=>by rw [hh] at hlt;simp [SFs.len] at hlt)
   obtain ⟨⟨sv,hc,hsubv⟩,hnext⟩:=hat b o hbase hfa
   have hc:qf_ W b (o + i * 8) (qr_ kind lo hi nul tag df of sv):=hc
   have hfsub:FsRp W sub sv:=hsubv
   have hi63:(i:Int) + 1<=9223372036854775807:=by simp only [maxLen] at hlen;omega
   obtain ⟨vb,vn,vc,hvf⟩:=ho.form
   subst hbase
   refine qt_ (.block (qt_ (nrg ?_)))
   refine zj_ h (sz:=8) (.t rfl) (.t rfl) hlt R.dFs R.vF.size (by omega) fun a h=>jh_ h (cs:=qr_ kind lo hi nul tag df of sv) (.t rfl) R.vF (fun j x hj=>hk.cell id (hc j x hj)) (by omega) fun a h=>?_
   refine j6_ h (R.zF w) (by omega) fun a h=>?_
   have hnv:=newvar2 (w:=w) (T:=S.tF) (z:=.agg #[.int .i64 0,.int .i64 0,.int .i64 0,.int .i64 0,.int .i64 0,.int .i64 0,.int .i64 0,qs_]) (cs:=qr_ kind lo hi nul tag df of sv) rfl
   refine zq_ h (cs:=qr_ kind lo hi nul tag df of sv) (.t rfl) (.t rfl) (by simp [Value.cells]) R.vF.size (qk_ w _) rfl (fCells_one kind lo hi nul tag df of (sub_one hsubv)) (wpList_nil ?_)
   obtain ⟨hk5,hc5⟩:=hnv
   generalize (w.alloc (.cells (Value.agg #[.int .i64 0,.int .i64 0,.int .i64 0,.int .i64 0,.int .i64 0,.int .i64 0,.int .i64 0,qs_]).cells S.tF (0,0))).setRow w.heap.size (qr_ kind lo hi nul tag df of sv).toArray=w5 at hk5 hc5 ⊢
   refine qt_ (nrg (q1_ h (.t rfl) R.f5 (by omega) fun a h=>qu_ h (.t rfl) R.f5.var (hc5.at (j:=5) rfl) (by omega) fun a h=>q1_ h (.t rfl) R.f3 (by omega) fun a h=>qu_ h (.t rfl) R.f3.var (hc5.at (j:=3) rfl) (by omega) fun a h=>q2_ h rfl (.t rfl) .i (by omega) fun a h=>?_))
   refine st_build h (qs:=#[(0,.int .i64 df),(2,.bool (qz_ .geq nul 0))]) (fun n a hs=>by
    have e1:=Hd.t (l:=_) (i:=14) (v:=.int .i64 df) rfl n a hs
    have e2:=Hd.t (l:=_) (i:=17) (v:=.bool (qz_ .geq nul 0)) rfl n a hs
    simp [e1,e2]) (T.bT df _ w5) (by omega) fun a h=>?_
   refine j6_ h (R.zT w5) (by omega) fun a h=>?_
   have hnb:=qk_ w5 (.cells (Value.agg #[.int .i64 0,qs_,.bool false,qs_,qs_]).cells S.tT (0,0))
   have hkb:qc_ (fun _=>False) w5 (w5.alloc (.cells (Value.agg #[.int .i64 0,qs_,.bool false,qs_,qs_]).cells S.tT (0,0))):=qc_.alloc _ _ _
   have hzb:(w5.alloc (.cells (Value.agg #[.int .i64 0,qs_,.bool false,qs_,qs_]).cells S.tT (0,0))).heap.size=w5.heap.size + 1:=by simp
   refine zq_ h (cs:=trC df (qz_ .geq nul 0) qs_) (v:=.agg (trC df (qz_ .geq nul 0) qs_).toArray) (.t rfl) (.t rfl) (by simp [Value.cells]) (by intro w;exact R.vT.size w) hnb rfl trC_one (wpList_nil ?_)
   have hn6:=setRow_heap _ _ _ (trC df (qz_ .geq nul 0) qs_).toArray _ _ hnb
   have hk6:qc_ (fun k=>k=w5.heap.size) w5 ((w5.alloc (.cells (Value.agg #[.int .i64 0,qs_,.bool false,qs_,qs_]).cells S.tT (0,0))).setRow w5.heap.size (trC df (qz_ .geq nul 0) qs_).toArray):=(hkb.mono fun _ _ h=>h.elim).trans (qc_.setRow _ _ _ _ rfl)
   have hz6:((w5.alloc (.cells (Value.agg #[.int .i64 0,qs_,.bool false,qs_,qs_]).cells S.tT (0,0))).setRow w5.heap.size (trC df (qz_ .geq nul 0) qs_).toArray).heap.size=w5.heap.size + 1:=by rw [<- hzb];simp
   generalize (w5.alloc (.cells (Value.agg #[.int .i64 0,qs_,.bool false,qs_,qs_]).cells S.tT (0,0))).setRow w5.heap.size (trC df (qz_ .geq nul 0) qs_).toArray=w6 at hn6 hk6 hz6 ⊢
   have hk56:qc_ (fun _=>False) w5 w6:=hk6.mono fun k hk hX=>by omega
   have hc6:=qf_.kn hk56 hc5
   have hs5:=hk5.size
   refine qt_ (qt_ (nrg (q1_ h (.t rfl) R.f0 (by omega) fun a h=>qu_ h (.t rfl) R.f0.var (hc6.at (j:=0) rfl) (by omega) fun a h=>q2_ h rfl (.t rfl) .i (by omega) fun a h=>wpList_nil ?_)))
   have h:St 35 a [(2,pt W.heap.size 0),(3,pt (W.heap.size + 1) 0),(5,pt w.heap.size 0),(6,pt w5.heap.size 0),(7,.slice (some ⟨b,o,none⟩) sf.len c),(8,.int .i64 (sf.len:Int)),(9,.int .i64 (i:Int)),(21,.bool (qz_ .eql (kind:Int) 10))]:=h.pick ⟨rfl,rfl,rfl,rfl,rfl,rfl,rfl,rfl,trivial⟩
   have put:∀ (a:Act) (w7:World) (lb:Option Addr) (ln lc:Nat) (KK:Exit->Act->World->Prop),St 35 a [(2,pt W.heap.size 0),(3,pt (W.heap.size + 1) 0),(5,pt w.heap.size 0),(6,pt w5.heap.size 0),(7,.slice (some ⟨b,o,none⟩) sf.len c),(8,.int .i64 (sf.len:Int)),(9,.int .i64 (i:Int))]->qc_ (fun k=>k=w5.heap.size) w6 w7->w7.heap[w5.heap.size]?=some (.cells (trC df (qz_ .geq nul 0) (.slice lb ln lc)).toArray S.tT (0,0)) ->
     TrX w7 (fun k=>k < w6.heap.size) (depS sf - 1) (trC df (qz_ .geq nul 0) (.slice lb ln lc)) (.mk df [] (decide (0<=nul)) (if kind=10 then sDefL sub else []) []) ->
     (∀ a' w',(∃ v' ts',ts'++sDefL r=sDefL sf/\OutX w' (W.heap.size + 2) (depS sf - 1) S.tT v' ts'/\qc_ (fun _=>False) W w'/\W.heap.size + 2<=w'.heap.size/\w'.heap[W.heap.size]?=some (.cells (trC 0 false qs_).toArray S.tT (0,0))/\w'.heap[W.heap.size + 1]?=some (.cells (trC 0 false v').toArray S.tT (0,0)) /\
      St 35 a' [(2,pt W.heap.size 0),(3,pt (W.heap.size + 1) 0),(7,.slice (some ⟨b,o,none⟩) sf.len c),(8,.int .i64 (sf.len:Int)),(9,.int .i64 (i:Int))])->KK .normal a' w')->NWP P (rg (def_8 S N)) KK a w7:=by
    intro a w7 lb ln lc KK h hk7 hn7 ht7 hKK
    have hkw7:qc_ (fun _=>False) w w7:=(((hk5.trans hk56).mono (Y:=fun k=>k=w5.heap.size) fun _ _ h=>h.elim).trans hk7).mono fun k hk hX=>by omega
    have hs7:=hkw7.size
    have hs67:=hk7.size
    have ho7:OutX w7 (W.heap.size + 2) (depS sf - 1) S.tT v ts:=ho.keep hkw7 fun _ h=>h.elim
    have h37:w7.heap[W.heap.size + 1]?=some (.cells (trC 0 false v).toArray S.tT (0,0)):=by rw [hkw7.block _ (by omega) id];exact h3
    refine nrg (q1_ h (.t rfl) R.t3 (by omega) fun a h=>qu_ h (.t rfl) R.t3.var ((row_at h37).at (j:=3) rfl) (by omega) fun a h=>jh_ h (cs:=trC df (qz_ .geq nul 0) (.slice lb ln lc)) (.t rfl) R.vT (row_at hn7) (by omega) fun a h=>?_)
    refine qp_ (v:=.slice (some ⟨w7.heap.size,0,none⟩) 1 1) (w':=w7.alloc (.cells (trC df (qz_ .geq nul 0) (.slice lb ln lc)).toArray S.tT (0,0))) (by
     have e:=Hd.t (l:=_) (i:=29) (v:=.agg (trC df (qz_ .geq nul 0) (.slice lb ln lc)).toArray) rfl _ a h
     simp only [trC] at e ⊢
     simp [execOp,mk,e,T.bS]) ?_
    have h:=h.put (d:=30) (.slice (some ⟨w7.heap.size,0,none⟩) 1 1) (by omega)
    have hk8:qc_ (fun _=>False) w7 (w7.alloc (.cells (trC df (qz_ .geq nul 0) (.slice lb ln lc)).toArray S.tT (0,0))):=qc_.alloc _ _ _
    have hb8:=jn_ w7 (trC df (qz_ .geq nul 0) (.slice lb ln lc)) S.tT
    generalize w7.alloc (.cells (trC df (qz_ .geq nul 0) (.slice lb ln lc)).toArray S.tT (0,0))=w8 at hk8 hb8 ⊢
    have hsrc:Src P 5 S.tTs (.slice (some ⟨w7.heap.size,0,none⟩) 1 1) 1 (trC df (qz_ .geq nul 0) (.slice lb ln lc)) w8:=Src.ofSlice w8 R.dTs ⟨w7.heap.size,0,none⟩ 1 1 _ rfl (fun q u hq=>by
     rw [Addr.add_lit]
     exact hb8 q u hq) trC_one
    have hs8:=hk8.size
    have htl:ts.length<=40000:=by
     have:=congrArg List.length htot
     rw [List.length_append,sDefL_len sf] at this
     omega
    obtain ⟨v',w9,hr,ho9,hk9⟩:=run_append_tree T (x:=.slice (some ⟨w7.heap.size,0,none⟩) 1 1) (t:=.mk df [] (decide (0<=nul)) (if kind=10 then sDefL sub else []) []) (cs:=trC df (qz_ .geq nul 0) (.slice lb ln lc)) (ho7.keep hk8 fun _ h=>h.elim) hsrc rfl ((ht7.keep (hk8.mono fun _ _ h=>h.elim)).mono fun j hj hY=>by
     rcases hY with hY | hY
     ·have:=(ho.own hY).2
      omega
     ·omega) (by omega) htl
    refine wl_bltn (v:=v') (w':=w9) (by
     have e2:=Hd.t (l:=_) (i:=30) (v:=.slice (some ⟨w7.heap.size,0,none⟩) 1 1) rfl _ _ h
     have e1':=Hd.t (l:=_) (i:=28) (v:=v) rfl _ _ h
     simp [execOp,bi,resolve,invoke,builtin,e1',e2,hr]) ?_
    have h:=h.put (d:=31) v' (by omega)
    obtain ⟨vb',vn',vc',hvf'⟩:=ho9.form
    have hk79:qc_ (fun k=>v.ownBlock=some k) w7 w9:=(hk8.mono fun _ _ h=>h.elim).trans hk9
    have h39:w9.heap[W.heap.size + 1]?=some (.cells (trC 0 false v).toArray S.tT (0,0)):=by rw [hk79.block _ (by omega) (fun hX=>by have:=(ho.own hX).1;omega)];exact h37
    have h29:w9.heap[W.heap.size]?=some (.cells (trC 0 false qs_).toArray S.tT (0,0)):=by rw [hk79.block _ (by omega) (fun hX=>by have:=(ho.own hX).1;omega),hkw7.block _ (by omega) id];exact h2
    have hs9:=hk79.size
    refine q1_ h (.t rfl) R.t3 (by omega) fun a h=>?_
    refine j5_ (vs:=[v']) (v:=v') (Hd.t (l:=_) (i:=32) (v:=pt (W.heap.size + 1) 3) rfl _ a h) (Hd.t (l:=_) (i:=31) (v:=v') rfl _ a h) (by rw [hvf'];rfl) (by exact R.t3.var.size w9) h39 (by simp [trC]) (by rw [hvf'];intro u hu;simp only [List.mem_cons,List.not_mem_nil,or_false] at hu;subst hu;rfl) ?_
    rw [splice3]
    refine wpList_nil (hKK _ _ ⟨v',ts++[.mk df [] (decide (0<=nul)) (if kind=10 then sDefL sub else []) []],by rw [<- htot];simp [sDefL],ho9.keep (X:=fun k=>k=W.heap.size + 1) (qc_.setRow _ _ _ _ rfl) (fun k hk=>by omega),?_,?_,?_,setRow_heap _ _ _ _ _ _ h39,h.pick ⟨rfl,rfl,rfl,rfl,rfl,trivial⟩⟩)
    ·have:qc_ (fun k=>W.heap.size<=k) W (w9.setRow (W.heap.size + 1) (trC 0 false v').toArray):=(((hk.trans hkw7).mono fun _ _ h=>h.elim).trans (hk79.mono fun k _ hX=>by have:=(ho.own hX).1;omega)).trans (qc_.setRow _ _ _ _ (by omega))
     exact this.mono fun k hk hX=>by omega
    ·simp;omega
    ·have:=(qc_.setRow (fun k=>k=W.heap.size + 1) w9 (W.heap.size + 1) (trC 0 false v').toArray rfl).block W.heap.size (by omega) (by omega)
     rw [this];exact h29
   have step:∀ (a:Act) (w':World) (KK:Exit->Act->World->Prop),(∃ v' ts',ts'++sDefL r=sDefL sf/\OutX w' (W.heap.size + 2) (depS sf - 1) S.tT v' ts'/\qc_ (fun _=>False) W w'/\W.heap.size + 2<=w'.heap.size/\w'.heap[W.heap.size]?=some (.cells (trC 0 false qs_).toArray S.tT (0,0))/\w'.heap[W.heap.size + 1]?=some (.cells (trC 0 false v').toArray S.tT (0,0)) /\
      St 35 a [(2,pt W.heap.size 0),(3,pt (W.heap.size + 1) 0),(7,.slice (some ⟨b,o,none⟩) sf.len c),(8,.int .i64 (sf.len:Int)),(9,.int .i64 (i:Int))]) ->
     NWP P (rg (def_9 S N)) (Exit.then (fun a' w'=>∃ m',m'<=sf.len/\m' < m/\∃ (i:Nat) (rest:SFs) (v:Value) (ts:List Tr),i + m'=sf.len/\rest.len=m'/\depS rest<=depS sf/\SubD P S N.fD rest/\ts++sDefL rest=sDefL sf/\OutX w' (W.heap.size + 2) (depS sf - 1) S.tT v ts/\qc_ (fun _=>False) W w'/\W.heap.size + 2<=w'.heap.size /\
      w'.heap[W.heap.size]?=some (.cells (trC 0 false qs_).toArray S.tT (0,0))/\w'.heap[W.heap.size + 1]?=some (.cells (trC 0 false v).toArray S.tT (0,0))/\(∀ b' o',(some ⟨b,o,none⟩:Option Addr)=some ⟨b',o',none⟩->FsAt W sf b' o'->FsAt W rest b' (o' + i * 8)) /\
      St 35 a' [(2,pt W.heap.size 0),(3,pt (W.heap.size + 1) 0),(7,.slice (some ⟨b,o,none⟩) sf.len c),(8,.int .i64 (sf.len:Int)),(9,.int .i64 (i:Int))]) KK) a w':=by
    rintro a w' KK ⟨v',ts',g1,g2,g3,g4,g5,g6,h⟩
    refine nrg (j2_ h (.t rfl) .i (by simp) (j0_ w') (by omega) fun a h=>?_)
    have hw:IntKind.i64.wrap ((i:Int) + 1)=((i + 1:Nat):Int):=by simp [IntKind.wrap,IntKind.bits,IntKind.signed];omega
    rw [hw] at h
    refine qe_ h (.t rfl) (by omega) fun a h=>wpList_nil ?_
    refine ⟨m - 1,by omega,by omega,i + 1,r,v',ts',by omega,by simp only [SFs.len] at hrl;omega,by simp only [depS] at hdep;omega,hrs.2,g1,g2,g3,g4,g5,g6,fun b' o' hbo hh=>?_,h.pick ⟨rfl,rfl,rfl,rfl,rfl,trivial⟩⟩
    have:=(hat b' o' hbo hh).2
    rw [show o' + (i + 1) * 8=o' + i * 8 + 8 by omega]
    exact this
   have hbn:qz_ .geq nul 0=decide (0<=nul):=rfl
   refine ja_ (c:=21) (b:=qz_ .eql (kind:Int) 10) h rfl (fun hb=>?_) (fun hb=>?_)
   ·have hk10:kind=10:=by simp [qz_] at hb;omega
    refine nrg (q1_ h (.t rfl) R.f7 (by omega) fun a h=>qu_ h (.t rfl) R.f7.var (hc6.at (j:=7) rfl) (by omega) fun a h=>?_)
    have hkw6:qc_ (fun _=>False) W w6:=(hk.trans hk5).trans hk56
    refine q3_ h hfn.ent (vs:=[sv]) (fun n a h=>by
     simp only [List.map_cons,List.map_nil]
     rw [Hd.t (l:=_) (i:=23) rfl n a h]) (hrs.1 w6 sv (hfsub.kn hkw6)) (by omega) fun e w7 hR=>?_
    obtain ⟨cs7,rfl,ht7,hk7⟩:=hR
    obtain ⟨lb,ln,lc,hcs7⟩:=ht7.form
    have hcs7:cs7=trC 0 false (.slice lb ln lc):=hcs7
    subst hcs7
    refine ⟨_,rfl,fun a h=>?_⟩
    refine qp_ (v:=.slice lb ln lc) (w':=w7) (by
     have e:=Hd.t (l:=_) (i:=24) (v:=.agg (trC 0 false (.slice lb ln lc)).toArray) rfl _ a h
     simp only [trC] at e
     simp [execOp,mk,e,T.fT]) ?_
    have h:=h.put (d:=25) (.slice lb ln lc) (by omega)
    have hn7:w7.heap[w5.heap.size]?=some (.cells (trC df (qz_ .geq nul 0) qs_).toArray S.tT (0,0)):=by rw [hk7.block _ (by omega) id];exact hn6
    refine q1_ h (.t rfl) R.t3 (by omega) fun a h=>?_
    refine j5_ (vs:=[.slice lb ln lc]) (v:=.slice lb ln lc) (Hd.t (l:=_) (i:=26) (v:=pt w5.heap.size 3) rfl _ a h) (Hd.t (l:=_) (i:=25) (v:=.slice lb ln lc) rfl _ a h) rfl (by exact R.t3.var.size w7) hn7 (by simp [trC]) (by intro u hu;simp only [List.mem_cons,List.not_mem_nil,or_false] at hu;subst hu;rfl) ?_
    rw [splice3]
    have hs67:=hk7.size
    refine wpList_nil ?_
    have hkset:qc_ (fun k=>k=w5.heap.size) w7 (w7.setRow w5.heap.size (trC df (qz_ .geq nul 0) (.slice lb ln lc)).toArray):=qc_.setRow _ _ _ _ rfl
    refine put _ _ lb ln lc _ (h.pick ⟨rfl,rfl,rfl,rfl,rfl,rfl,rfl,trivial⟩) ((hk7.mono fun _ _ h=>h.elim).trans hkset) (setRow_heap _ _ _ _ _ _ hn7) ?_ fun a' w' hh=>step a' w' _ hh
    have ht8:=ht7.keep (hkset.mono fun k _ hX=>by omega)
    have ht8:=ht8.up (show depS sub<=depS sf - 1 by simp only [depS] at hdep;omega)
    cases hd:depS sf - 1 with
    | zero=>simp only [depS] at hdep;have:=depS_pos sub;have:=depS_pos r;omega
    | succ K=>
     rw [hd] at ht8
     obtain ⟨lv,e1,e2,e3,e4⟩:=ht8
     have elv:lv=.slice lb ln lc:=by simp only [trC,List.cons.injEq] at e1;exact e1.2.2.2.1.symm
     subst elv
     rw [hbn]
     refine ⟨.slice lb ln lc,rfl,rfl,rfl,?_⟩
     rw [if_pos hk10]
     exact e4
   ·have hk10:kind ≠ 10:=by
     intro hh
     rw [hh] at hb
     simp [qz_] at hb
    refine .skip ?_
    refine put _ w6 none 0 0 _ (h.pick ⟨rfl,rfl,rfl,rfl,rfl,rfl,rfl,trivial⟩) (qc_.refl _ _) hn6 ?_ fun a' w' hh=>step a' w' _ hh
    cases hd:depS sf - 1 with
    | zero=>simp only [depS] at hdep;have:=depS_pos sub;have:=depS_pos r;omega
    | succ K=>
     rw [hbn,if_neg hk10]
     exact ⟨qs_,rfl,rfl,rfl,.inl ⟨rfl,rfl⟩⟩
 ·-- the end
  have hge:¬ i < sf.len:=by simp [qz_] at hb;omega
  obtain rfl:rest=.nil:=by
   cases rest with
   | nil=>rfl
   | cons _ _ _ _ _ _ _ _ _=>simp only [SFs.len] at hrl;omega
  simp only [sDefL,List.append_nil] at htot
  subst htot
  obtain ⟨vb,vn,vc,hvf⟩:=ho.form
  refine .exit ?_
  refine qt_ (nrg (jh_ h (cs:=trC 0 false v) (.t rfl) R.vT (row_at h3) (by omega) fun a h=>?_))
  refine zq_ h (cs:=trC 0 false v) (v:=.agg (trC 0 false v).toArray) (.t rfl) (.t rfl) (by simp [Value.cells]) (by intro w;exact R.vT.size w) h2 rfl (by rw [hvf];exact trC_one) (wpList_nil ?_)
  have hfin:=setRow_heap _ _ _ (trC 0 false v).toArray _ _ h2
  refine .ret ⟨h.defers,⟨W.heap.size,0,none⟩,.agg (trC 0 false v).toArray,h.get 2 _ rfl,?_,trC 0 false v,rfl,?_,?_⟩
  ·have hll:=run_loadCells_list (P:=P) (w.setRow W.heap.size (trC 0 false v).toArray) ⟨W.heap.size,0,none⟩ (trC 0 false v) (fun j x hj=>by rw [Addr.add_lit];exact row_at hfin j x hj)
   have h5:(trC 0 false v).length=5:=rfl
   rw [h5] at hll
   simp [loadVar,R.vT.agg,R.vT.size,hll]
  ·have hkk:qc_ (fun k=>k=W.heap.size) w (w.setRow W.heap.size (trC 0 false v).toArray):=qc_.setRow _ _ _ _ rfl
   have ho':=ho.keep hkk fun k hk=>by omega
   cases hd:depS sf with
   | zero=>have:=depS_pos sf;omega
   | succ K=>
    refine ⟨v,rfl,rfl,rfl,?_⟩
    rcases ho' with ⟨e1,e2⟩ | ⟨g,cc,cur,e1,hgL,hg,hnc,hcm,hcsz,hat'⟩
    ·exact .inl ⟨e1,e2⟩
    ·refine .inr ⟨g,cc,e1,by omega,(Array.getElem?_eq_some_iff.1 hg).1,hnc,hcm,fun q t hq=>?_⟩
     obtain ⟨cs,a1,a2,a3⟩:=hat' q t hq
     refine ⟨cs,a1,fun j x hj=>?_,?_⟩
     ·simp only [World.cell?,hg,Option.isSome_none,Bool.false_eq_true,if_false]
      exact a2 j x hj
     ·rw [hd,Nat.add_sub_cancel] at a3
      exact a3.mono fun k _ hk=>.inr (by omega)
  ·exact ((hk.mono (Y:=fun k=>k=W.heap.size) fun _ _ h=>h.elim).trans (qc_.setRow _ _ _ _ rfl)).mono fun k hk hX=>by omega
theorem def_calls (T:MkT P S) (hfn:FnIsC P N.fD 35 2 S.tT (cDef S N)):∀ sf:SFs,sDefB sf=true->DefC P S N.fD sf/\SubD P S N.fD sf
 | .nil,_=>⟨def_one T hfn (by simp [SFs.len]) trivial,trivial⟩
 | .cons kind lo hi nul tag df of sub r,h=>by
  simp only [sDefB,Bool.and_eq_true,decide_eq_true_eq] at h
  have hs:=def_calls T hfn sub h.1.2
  have hr:=def_calls T hfn r h.2
  exact ⟨def_one T hfn h.1.1 ⟨hs.1,hr.2⟩,hs.1,hr.2⟩
end
end Go.Proofs.Ytbgklecbmhaadaa.Kx

namespace Go.Proofs.Ytbgklecbmhaadaa.Kx
open Go
set_option maxRecDepth 4000
section
variable {P:Program} {S:SN} {N:NN}
theorem newM_calls (hm:P.follows .mixedOrders=true) {f tI16 tInt f1 f2 f4 T te:Nat} {z:Array Value} {ver:Int} {bs:Bs} (hI:P.underlying tI16=some (.int .i16)) (hInt:P.underlying tInt=some (.int .i64)) (hfn:FnIs P f 11 [2] (cNewM tI16 tInt f1 f2 f4)) (hz0:0 < z.size)
  (h1E:Ent P f1) (h1:∀ w,Calls P f1 #[] w fun e w'=>e=.returned (pt w.heap.size 0)/\qc_ (fun _=>False) w w'/\w'.heap[w.heap.size]?=some (.cells z T (0,0)))
  (h2E:Ent P f2) (h2:∀ (w:World) (B:Nat) (cur:Array Value) (x:Int),w.heap[B]?=some (.cells cur T (0,0))->0 < cur.size->Calls P f2 #[pt B 0,.int .i16 x] w fun e w'=>e=.returned (.tuple #[])/\qc_ (·=B) w w'/\w'.heap[B]?=some (.cells (cur.setIfInBounds 0 (.int .i16 x)) T (0,0)))
  (h4E:Ent P f4) (h4:∀ (w:World) (B:Nat),w.heap[B]?=some (.cells (z.setIfInBounds 0 (.int .i16 ver)) T (0,0))->Calls P f4 #[pt B 0,qs_] w fun e w'=>∃ d',e=.returned d'/\qv_ w' w.heap.size te d' bs/\qc_ (fun _=>False) w w')
  (hv:-32768<=ver/\ver < 32768) (w:World):Calls P f [.int .i64 ver].toArray w (q6_ te bs w):=by
 refine z0_ hm hfn (by simp) _ (by simp) fun a h=>?_
 unfold cNewM
 have hw:IntKind.i16.wrap ver=ver:=by simp [IntKind.wrap,IntKind.bits,IntKind.signed];omega
 refine qm_ (nrg (qd_ h .c (by omega) fun a h=>wpList_nil ?_))
 refine qm_ (nrg (q3_ h h1E (vs:=[]) (fun _ _ _=>rfl) (h1 w) (by omega) fun e w1 hR=>⟨_,hR.1,fun a h=>qd_ h (.t rfl) (by omega) fun a h=>wpList_nil ?_⟩))
 obtain ⟨_,hk1,hb1⟩:=hR
 have hz1:w.heap.size < w1.heap.size:=(Array.getElem?_eq_some_iff.1 hb1).1
 refine qm_ (nrg (qe_ h (.t rfl) (by omega) fun a h=>qe_ h (.t rfl) (by omega) fun a h=>st_conv h (.t rfl) hInt hI (by omega) fun a h=>?_))
 rw [hw] at h
 refine q3_ h h2E (vs:=[pt w.heap.size 0,.int .i16 ver]) (fun n a h=>by
  simp only [List.map_cons,List.map_nil]
  rw [Hd.t (l:=_) (i:=5) rfl n a h,Hd.t (l:=_) (i:=7) rfl n a h]) (h2 w1 w.heap.size z ver hb1 hz0) (by omega) fun e w2 hR=>⟨_,hR.1,fun a h=>wpList_nil ?_⟩
 obtain ⟨_,hk2,hb2⟩:=hR
 have hk02:qc_ (fun _=>False) w w2:=((hk1.mono (Y:=fun k=>k=w.heap.size) fun _ _ h=>h.elim).trans hk2).mono fun k hk hX=>by omega
 refine qm_ (nrg (qe_ h (.t rfl) (by omega) fun a h=>q3_ h h4E (vs:=[pt w.heap.size 0,qs_]) (fun n a h=>by
  simp only [List.map_cons,List.map_nil]
  rw [Hd.t (l:=_) (i:=9) rfl n a h]
  rfl) (h4 w2 w.heap.size hb2) (by omega) fun e w3 hR=>?_))
 obtain ⟨d,rfl,hd,hk3⟩:=hR
 refine ⟨_,rfl,fun a h=>qd_ h (.t rfl) (by omega) fun a h=>wpList_nil (qm_ (.ret ?_))⟩
 exact ret1 (RR:=q6_ te bs w) h rfl ⟨d,rfl,(Gr.lower hk02.size (Gr.refl hd)).dst,hk02.trans hk3⟩
structure NewC (P:Program) (S:SN) (N:NN) (most:Nat) (flex:Int) (sf:SFs) (bs:Int->Bs):Prop where
 tab:RefT P S
 mE:Ent P N.fM
 mC:∀ w,Calls P N.fM ([]:List Value).toArray w fun e w'=>e=.returned (.int .i64 (most:Int))/\qc_ (fun _=>False) w w'
 bE:Ent P N.fB
 bC:MsgBC P N.fB flex sf
 vE:Ent P N.fV
 vC:∀ (x:Nat) (w:World),x < 256->Calls P N.fV [.int .u8 (x:Int),.int .i64 (most:Int)].toArray w fun e w'=>e=.returned (.int .i64 ((x % (most + 1):Nat):Int))/\qc_ (fun _=>False) w w'
 nE:Ent P N.fN
 nC:∀ (v:Nat) (w:World),v<=most->Calls P N.fN [.int .i64 (v:Int)].toArray w (q6_ S.tU8 (bs (v:Int)) w)
 dE:Ent P N.fD
 dC:DefC P S N.fD sf
 wE:Ent P S.fWrite
 wC:∀ (W:World) (ver:Int) (k:Nat) (cs:List Value) (t:Tr) (fv:Value),FsRp W sf fv->TrRp W k cs t->(jd_ ver (sFx flex ver) sf t).length<=LIM->Calls P S.fWrite [.agg [fv,.int .i64 flex].toArray,.int .i64 ver,.agg cs.toArray].toArray W (q6_ S.tU8 (jd_ ver (sFx flex ver) sf t) W)
 sE:Ent P S.fSame
 sC:∀ (w:World) (va vb:Value) (la lb:Bs),SlRp w (fun _=>False) va la->SlRp w (fun _=>False) vb lb->la.length<=maxLen->Calls P S.fSame [va,vb].toArray w fun e w'=>e=.returned (.bool (decide (la=lb)))/\qc_ (fun _=>False) w w'
def TrueN (W:World) (e:Ending) (w':World):Prop:=e=.returned (.bool true)/\qc_ (fun _=>False) W w'
variable {most:Nat} {flex:Int} {sf:SFs} {bs:Int->Bs}
theorem lnw_calls (L:NewC P S N most flex sf bs) {f:Nat} (hfn:FnIs P f 22 [2] (cLnw S N)) {x0:Nat} (hx:x0 < 256) (W:World) (hbs:∀ v:Nat,v<=most->bs (v:Int)=jd_ (v:Int) (sFx flex (v:Int)) sf (sDef sf)/\(bs (v:Int)).length<=LIM):Calls P f [.int .u8 (x0:Int)].toArray W (TrueN W):=by
 have T:=L.tab
 have hvm:x0 % (most + 1)<=most:=by have:=Nat.mod_lt x0 (show 0 < most + 1 by omega);omega
 obtain ⟨hb,hlen⟩:=hbs _ hvm
 refine z0_ T.mixed hfn (by simp) _ (by simp) fun a h=>?_
 unfold cLnw
 refine qt_ (nrg (qd_ h .c (by omega) fun a h=>wpList_nil ?_))
 refine qt_ (nrg (q3_ h L.mE (vs:=[]) (fun _ _ _=>rfl) (L.mC W) (by omega) fun e w1 hR=>?_))
 obtain ⟨rfl,hk1⟩:=hR
 refine ⟨_,rfl,fun a h=>qd_ h (.t rfl) (by omega) fun a h=>wpList_nil ?_⟩
 refine qt_ (qt_ (nrg (qe_ h (.t rfl) (by omega) fun a h=>q2_ h rfl (.t rfl) .i (by omega) fun a h=>wpList_nil ?_)))
 refine ja_ h rfl (fun hb=>by simp [qz_] at hb;omega) (fun _=>.skip ?_)
 refine qt_ (nrg (q3_ h L.bE (vs:=[]) (fun _ _ _=>rfl) (L.bC w1) (by omega) fun e w2 hR=>?_))
 obtain ⟨fv,rfl,hfs,hk2⟩:=hR
 obtain ⟨fb,fc,hff,_⟩:=hfs.form
 refine ⟨_,rfl,fun a h=>j6_ h (T.zM w2) (by omega) fun a h=>?_⟩
 have hnv:=newvar2 (w:=w2) (T:=S.tMs) (z:=.agg #[qs_,.int .i64 0]) (cs:=[fv,.int .i64 flex]) rfl
 have hone:∀ u ∈ [fv,.int .i64 flex],u.oneCell'=true:=by
  intro u hu
  simp only [List.mem_cons,List.not_mem_nil,or_false] at hu
  rcases hu with rfl | rfl
  ·rw [hff];rfl
  ·rfl
 refine zq_ h (cs:=[fv,.int .i64 flex]) (.t rfl) (.t rfl) (by simp [Value.cells]) T.vM.size (qk_ w2 _) rfl hone (wpList_nil ?_)
 obtain ⟨hk3,hc3⟩:=hnv
 generalize (w2.alloc (.cells (Value.agg #[qs_,.int .i64 0]).cells S.tMs (0,0))).setRow w2.heap.size ([fv,.int .i64 flex]:List Value).toArray=w3 at hk3 hc3 ⊢
 have hk03:=(hk1.trans hk2).trans hk3
 have hfs3:FsRp w3 sf fv:=hfs.kn hk3
 have h:St 22 a [(0,.int .u8 (x0:Int)),(3,.int .i64 (most:Int)),(4,pt w2.heap.size 0)]:=h.pick ⟨rfl,rfl,rfl,trivial⟩
 refine qt_ (ndrw [false,false,true,true,false,false,false,true,false,false,true,true,true,true] (fun w'=>qc_ (fun _=>False) w3 w') (by kernel_rfl) ?_)
 show evF P _ [mk (some 9) (.move (tm 0)),mk (some 10) (.move (tm 3)),mk (some 13) (.load S.tMs (tm 4)),mk (some 14) (.move (tm 0)),mk (some 15) (.move (tm 3)),mk (some 17) (.fieldAddr S.tMs (tm 4) 0),mk (some 18) (.load S.tFs (tm 17))] a
  fun af=>wpLd P _ _ [cl (some 11) N.fV [(tm 9),(tm 10)],cl (some 12) N.fN [(tm 11)],cl (some 16) N.fV [(tm 14),(tm 15)],cl (some 19) N.fD [(tm 18)],cl (some 20) S.fWrite [(tm 13),(tm 16),(tm 19)],cl (some 21) S.fSame [(tm 12),(tm 20)],mk (some 2) (.assign (tm 21))] af w3.drew
 refine ju_ h (.t rfl) (by omega) fun a h=>ju_ h (.t rfl) (by omega) fun a h=>se_loadN h (cs:=[fv,.int .i64 flex]) (.t rfl) T.vM (fun w' hI=>qf_.kn hI hc3) (by omega) fun a h=>ju_ h (.t rfl) (by omega) fun a h=>ju_ h (.t rfl) (by omega) fun a h=>se_fld h (.t rfl) T.m0 (by omega) fun a h=>se_load1 h (.t rfl) T.m0.var (fun w' hI=>(qf_.kn hI hc3).at (j:=0) rfl) (by omega) fun a h=>se_nil ?_
 have hI0:qc_ (fun _=>False) w3 w3.drew:=qc_.drew _ _
 refine jp_ h hI0 L.vE (vs:=[.int .u8 (x0:Int),.int .i64 (most:Int)]) (fun n a h=>by
  simp only [List.map_cons,List.map_nil]
  rw [Hd.t (l:=_) (i:=9) rfl n a h,Hd.t (l:=_) (i:=10) rfl n a h]) (L.vC x0 _ hx) (by omega) fun e w4 hR=>?_
 obtain ⟨rfl,hk4⟩:=hR
 have hI4:=hI0.trans hk4
 refine ⟨_,rfl,fun a h=>jp_ h hI4 L.nE (vs:=[.int .i64 ((x0 % (most + 1):Nat):Int)]) (fun n a h=>by
  simp only [List.map_cons,List.map_nil]
  rw [Hd.t (l:=_) (i:=11) rfl n a h]) (L.nC _ w4 hvm) (by omega) fun e w5 hR=>?_⟩
 obtain ⟨v12,rfl,hd12,hk5⟩:=hR
 have hs12:SlRp w5 (fun _=>False) v12 (bs ((x0 % (most + 1):Nat):Int)):=hd12.sl
 have hI5:=hI4.trans hk5
 refine ⟨_,rfl,fun a h=>jp_ h hI5 L.vE (vs:=[.int .u8 (x0:Int),.int .i64 (most:Int)]) (fun n a h=>by
  simp only [List.map_cons,List.map_nil]
  rw [Hd.t (l:=_) (i:=14) rfl n a h,Hd.t (l:=_) (i:=15) rfl n a h]) (L.vC x0 _ hx) (by omega) fun e w6 hR=>?_⟩
 obtain ⟨rfl,hk6⟩:=hR
 have hI6:=hI5.trans hk6
 refine ⟨_,rfl,fun a h=>jp_ h hI6 L.dE (vs:=[fv]) (fun n a h=>by
  simp only [List.map_cons,List.map_nil]
  rw [Hd.t (l:=_) (i:=18) rfl n a h]) (L.dC w6 fv (hfs3.kn hI6)) (by omega) fun e w7 hR=>?_⟩
 obtain ⟨cs,rfl,htr,hk7⟩:=hR
 have hI7:=hI6.trans hk7
 refine ⟨_,rfl,fun a h=>jp_ h hI7 L.wE (vs:=[.agg [fv,.int .i64 flex].toArray,.int .i64 ((x0 % (most + 1):Nat):Int),.agg cs.toArray]) (fun n a h=>by
  simp only [List.map_cons,List.map_nil]
  rw [Hd.t (l:=_) (i:=13) rfl n a h,Hd.t (l:=_) (i:=16) rfl n a h,Hd.t (l:=_) (i:=19) rfl n a h]) (L.wC w7 _ _ cs _ fv (hfs3.kn hI7) htr.rp (by rw [<- hb];exact hlen)) (by omega) fun e w8 hR=>?_⟩
 obtain ⟨v20,rfl,hd20,hk8⟩:=hR
 rw [<- hb] at hd20
 have hs20:SlRp w8 (fun _=>False) v20 (bs ((x0 % (most + 1):Nat):Int)):=hd20.sl
 have hI8:=hI7.trans hk8
 refine ⟨_,rfl,fun a h=>jp_ h hI8 L.sE (vs:=[v12,v20]) (fun n a h=>by
  simp only [List.map_cons,List.map_nil]
  rw [Hd.t (l:=_) (i:=12) rfl n a h,Hd.t (l:=_) (i:=20) rfl n a h]) (L.sC w8 v12 v20 _ _ (((hs12.keep hk6).keep hk7).keep hk8) hs20 (by simp only [LIM,maxLen] at hlen ⊢;omega)) (by omega) fun e w9 hR=>?_⟩
 obtain ⟨rfl,hk9⟩:=hR
 have hI9:=hI8.trans hk9
 refine ⟨_,rfl,fun a h=>sl_assign h hI9 (.t rfl) (by omega) fun a h=>sl_nil hI9 (.ret ?_)⟩
 exact ret1 (RR:=TrueN W) h rfl ⟨by simp,hk03.trans hI9⟩
def newB (hf:Bool) (flexN:Nat) (fs:Fds) (v:Int):Bs:=wrMsg false hf flexN fs v (.st (dfFds fs) [])
def newAll (hf:Bool) (flexN most:Nat) (flex:Int) (fs:Fds) (sf:SFs) (z:Array Value) (toff:Option Nat):Bool:=
 (List.range (most + 1)).all fun v=>zFds (z.setIfInBounds 0 (.int .i16 (v:Int))) fs 0 && zTg (z.setIfInBounds 0 (.int .i16 (v:Int))) toff && decide (newB hf flexN fs (v:Int)=jd_ (v:Int) (sFx flex (v:Int)) sf (sDef sf)) && decide ((newB hf flexN fs (v:Int)).length<=1000000)
theorem new_at {hf:Bool} {flexN:Nat} {fs:Fds} {z:Array Value} {toff:Option Nat} (h:newAll hf flexN most flex fs sf z toff=true) {v:Nat} (hv:v<=most) :
  zFds (z.setIfInBounds 0 (.int .i16 (v:Int))) fs 0=true/\zTg (z.setIfInBounds 0 (.int .i16 (v:Int))) toff=true/\newB hf flexN fs (v:Int)=jd_ (v:Int) (sFx flex (v:Int)) sf (sDef sf)/\(newB hf flexN fs (v:Int)).length<=1000000:=by
 have:=List.all_eq_true.1 h v (by simp;omega)
 simp only [Bool.and_eq_true,decide_eq_true_eq] at this
 exact ⟨this.1.1.1,this.1.1.2,this.1.2,this.2⟩
theorem newC_of (RT:RefT P S) {gw:GW} {avw:PF->Bool} {flw nl:Bool} (K0:KW P gw avw flw nl S.tU8) {cw:Cx} {hf:Bool} {flexN fD ntN ntS ntA v6 n0w tI16 T ktw f1 f2 f4 fMV ntV ntSm ntM ntMV:Nat} {fs:Fds} {toff:Option Nat} {ms:Nm} {z:Array Value} {zv:Value} {wr:List (Nat × Value)}
  (hflw:cw.hf=true->flw=true) (hcw:cw.hf=hf) (hN:FnIs P f1 ntN [0] (cNewPtr T fD)) (hnN:3<=ntN) (hS:FnIs P f2 ntS [] (cSetV T tI16)) (hnS:8<=ntS) (hDE:Ent P fD) (hDf:DfC P fD wr)
  (hA:FnIs P f4 ntA [4] (gWrite gw false cw fs T ktw flexN v6 n0w ms)) (hzv:zeroOf P T=some zv) (hz:z=applyWr zv.cells 0 wr) (hz0:0 < z.size) (hwr:(wr.all fun p=>decide (p.1 < zv.cells.size))=true) (hF:fldB P T 0 tI16 0 false 1=true)
  (hchkW:topOkW ⟨P,gw,avw,nl⟩ false cw fs T ktw toff v6 n0w ntA ms (topUsedW gw false cw fs T ktw flexN v6 n0w ms)=true)
  (hI:P.underlying tI16=some (.int .i16)) (hNM:FnIs P N.fN 11 [2] (cNewM tI16 S.tInt f1 f2 f4)) (hV:FnIs P N.fV ntV [4] (cVer S.tU8 S.tInt)) (hnV:10<=ntV) (hSm:FnIs P S.fSame ntSm [4] (cSame S.tSl S.tU8 S.tInt)) (hnSm:26<=ntSm)
  (hM:FnIs P N.fM ntM [0] (cMax tI16 S.tInt f1 fMV)) (hnM:4<=ntM) (hMV:FnIs P fMV ntMV [2] (cMaxV (most:Int))) (hnMV:3<=ntMV) (hmost:most < 32768) (hB:Ent P N.fB/\MsgBC P N.fB flex sf) (hD:FnIsC P N.fD 35 2 S.tT (cDef S N)) (hdc:DefC P S N.fD sf)
  (hWr:FnIs P S.fWrite 21 [6] (csWr S)) (hPE:Ent P S.fPart) (hPart:PartC P S sf) (hall:newAll hf flexN most flex fs sf z toff=true):NewC P S N most flex sf (newB hf flexN fs):=by
 have h1:∀ w,Calls P f1 #[] w fun e w'=>e=.returned (pt w.heap.size 0)/\qc_ (fun _=>False) w w'/\w'.heap[w.heap.size]?=some (.cells z T (0,0)):=fun w=>by
  rw [hz]
  exact newPtr_calls RT.mixed hN hnN hzv hDE hDf (fun p hp=>by simpa using List.all_eq_true.1 hwr p hp) w
 exact {
  tab:=RT
  mE:=hM.ent
  mC:=fun w=>max_calls RT.mixed hI RT.dInt hmost hM hnM hN.ent ((h1 w).mono fun e w' h=>⟨h.1,h.2.1⟩) hMV.ent fun w=>maxV_calls RT.mixed hMV hnMV
  bE:=hB.1
  bC:=hB.2
  vE:=hV.ent
  vC:=fun x w hx=>ver_calls RT.mixed RT.dU8 RT.dInt hx hmost hV hnV
  nE:=hNM.ent
  nC:=fun v w hv=>by
   obtain ⟨c1,c2,_,c4⟩:=new_at hall hv
   have hvr:-32768<=(v:Int)/\(v:Int) < 32768:=by omega
   refine newM_calls RT.mixed hI RT.dInt hNM hz0 hN.ent h1 hS.ent (fun w B cur x hB h0=>setV_calls RT.mixed hS hnS (fldB_ok hF) hB h0) hA.ent (fun w B hB=>?_) hvr w
   have hlt:B < w.heap.size:=(Array.getElem?_eq_some_iff.1 hB).1
   have hw:HasZ w B 0 (z.setIfInBounds 0 (.int .i16 (v:Int))):=fun j u hj=>by simp [World.cell?,hB,hj]
   have hr:=zFds_ok hw (fun k=>w.heap.size<=k) fs 0 c1
   have ht:=zTg_ok hw (fun k=>w.heap.size<=k) c2
   have hcell:w.cell? ⟨B,0,none⟩=some (.int .i16 (v:Int)):=hw 0 _ (by simp [hz0])
   subst hcw
   exact write_fn K0 hflw hA hchkW hvr hlt hcell hr ht (by simp only [newB] at c4;simp only [LIM];omega)
  dE:=hD.ent
  dC:=hdc
  wE:=hWr.ent
  wC:=fun W ver k cs t fv hfs ht hlim=>wr_calls RT hWr hPE hPart W hfs ht hlim
  sE:=hSm.ent
  sC:=fun w va vb la lb ha hb hla=>same_calls RT.mixed RT.oct RT.vU8 hSm hnSm ha hb hla }
theorem new_law {hf:Bool} {flexN:Nat} {fs:Fds} {z:Array Value} {toff:Option Nat} (L:NewC P S N most flex sf (newB hf flexN fs)) (hall:newAll hf flexN most flex fs sf z toff=true) {f:Nat} (hfn:FnIs P f 22 [2] (cLnw S N)) {x0:Nat} (hx:x0 < 256) (W:World):Calls P f [.int .u8 (x0:Int)].toArray W (TrueN W):=
 lnw_calls L hfn hx W fun v hv=>by
  obtain ⟨_,_,c3,c4⟩:=new_at hall hv
  exact ⟨c3,by simp only [LIM];omega⟩
end
end Go.Proofs.Ytbgklecbmhaadaa.Kx

namespace Go.Proofs.Ytbgklecbmhaadaa.Kx
open Go Go.ChangeShapes Go.WideShapes Go.RowKit
def iTB (P:Program) (t:Nat):Bool:=match P.info? t with
 | some i=>(match i.zero with | some (.agg ⟨[.int .i64 0,.slice none 0 0,.bool false,.slice none 0 0,.slice none 0 0]⟩)=>true | _=>false) && i.size == 5 && i.bytes == 88
 | none=>false
theorem iT_ok {P:Program} {t:Nat} (h:iTB P t=true):∃ i,P.info? t=some i/\i.zero=some (.agg #[.int .i64 0,qs_,.bool false,qs_,qs_])/\i.size=5/\i.bytes=88:=by
 unfold iTB at h
 split at h
 ·rename_i i hi
  simp only [Bool.and_eq_true,beq_iff_eq] at h
  refine ⟨i,hi,?_,h.1.2,h.2⟩
  have h1:=h.1.1
  split at h1
  ·assumption
  ·cases h1
 ·cases h
section
variable {H:Type} {enc:TypeId × Value->H} {P:Program}
theorem qc_.butNone' {w w':World} (h:qc_ (fun _=>False) w w') (may:MemPlace->Prop):w.keptBut w' may:=
 World.keptBut_mono (fun _ h=>h.elim) (World.keptBut_none_iff.2 ⟨h.os,h.output,fun i hi=>h.block i hi id⟩)
theorem rowN {f:FuncId} {fn:Func} {s:ChangeSpec} {tX tB:TypeId} (hpar:fn.params.toList=[tX]) (hres:fn.resultTypes=#[tB]) (hX:P.underlying tX=some (.int .u8)) (hB:P.underlying tB=some .bool)
  (hv:s.vars=[]) (hs:∀ d1:DataW H,s.fn H [d1]={ results:=[.lit (.bool true)],args:=[d1] }) {W:World} {base:Nat} {args:Array Value} {ds gs:List (DataW H)} {before:List MemPlace}
  (hval:∀ (j:Nat) t v,fn.params[j]?=some t->args[j]?=some v->Value.okWide P W .any base t v) (hW:DataW.Whole enc P fn.params.toList s.vars false W args.toList ds gs before)
  (hcall:∀ x0:Nat,x0 < 256->Calls P f [.int .u8 (x0:Int)].toArray W (TrueN W)) :
  Calls P f args W fun e W'=>∃ v,e=.returned v/\s.post enc P fn false true false false W args v W':=by
 have hW':=hW
 obtain ⟨p,q,hA0,hV,rfl,hfz,hnd⟩:=hW
 have hA:DataW.TrodAll enc P W 0 (fun _=>true) true fn.params.toList args.toList ds p:=hA0
 have hpj:∀ j,fn.params[j]?=([tX]:List TypeId)[j]?:=fun j=>by rw [<- hpar,Array.getElem?_toList]
 rw [hpar] at hA
 obtain ⟨v0,d0,rfl,rfl,h0⟩:=trodAll_one hA
 rw [hv] at hV
 obtain ⟨rfl,rfl⟩:=trodVars_none hV
 obtain ⟨n,rfl,rfl,rfl,hn⟩:=open_int hX (hval 0 tX v0 (by rw [hpj];rfl) rfl) h0
 have hn':0<=n/\n < 256:=by
  simp [Lit.wf,IntKind.min,IntKind.max,IntKind.bits,IntKind.signed] at hn
  omega
 have e:n=((n.toNat:Nat):Int):=by omega
 have hcl:=hcall n.toNat (by omega)
 rw [<- e] at hcl
 refine hcl.mono fun e W' ⟨he,hk⟩=>?_
 subst he
 refine ⟨_,rfl,_,_,_,[],[],[],hW',?_,?_,?_,hk.butNone' _,fun h=>by cases h⟩
 ·rw [hres]
  simp only [List.append_nil,hs]
  exact trodAll_mk1 (shut_bool hB true)
 ·rw [hpar]
  simp only [List.append_nil,hs]
  exact trodAll_mk1 (shut_int (enc:=enc) (w:=W') (base:=0) (spare:=fun b=>decide (b < W.heap.size)) (held:=true) hX hn)
 ·rw [hv]
  simp only [List.append_nil,hs]
  rfl
end
end Go.Proofs.Ytbgklecbmhaadaa.Kx
