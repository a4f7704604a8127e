/-
  PLAIN LAWS AND CONTRACTS of messages, part 9 of 12: how readers and writers are printed, what they do, what the reference writes, and that what is written is read as the same. Nothing of a statement stands here.
-/
import Derived.Test.YtlnmiphokmhajaaK1
import Derived.Test.YtlnmiphokmhajaaK2
import Derived.Test.YtlnmiphokmhajaaK3
import Derived.Test.YtlnmiphokmhajaaK4
import Derived.Test.YtlnmiphokmhajaaK5
import Derived.Test.YtlnmiphokmhajaaK7
import Derived.Test.YtlnmiphokmhajaaK8
import Derived.KernelRfl
import Derived.MapFrom
import Derived.Laws.MakeOwn
import Derived.Maps.RangeRun
import Derived.ChangeKeysEq

namespace Go.Proofs.Ytlnmiphokmhajaa.Kx
open Go
def Fa0 (w0 w:World):Prop:=qd_ (fun k=>w0.heap.size<=k) w0 w
theorem Fa0.refl (w:World):Fa0 w w:=qd_.refl _ _
theorem Fa0.kn {w0 w w':World} (h:Fa0 w0 w) (k:qd_ (fun _=>False) w w'):Fa0 w0 w':=qd_.trans h (k.mono fun _ _ h=>h.elim)
theorem Fa0.up {w0 w w':World} {X:Nat->Prop} (h:Fa0 w0 w) (k:qd_ X w w') (hX:∀ i,X i->w0.heap.size<=i):Fa0 w0 w':=qd_.trans h (k.mono fun i _ hx=>hX i hx)
theorem Fa0.cell {w0 w:World} (h:Fa0 w0 w) {b o:Nat} {v:Value} (hv:w0.cell? ⟨b,o,none⟩=some v):w.cell? ⟨b,o,none⟩=some v:=
 qd_.cell h (by have:=lt_of_cell hv;omega) hv
theorem Fa0.cells {w0 w:World} (h:Fa0 w0 w) {b o:Nat} {cs:List Value} (hv:qf_ w0 b o cs):qf_ w b o cs:=fun j c hj=>h.cell (hv j c hj)
theorem Fa0.keeps {w0 w:World} (h:Fa0 w0 w):qd_ (fun _=>False) w0 w:=qd_.mono h fun k hk hX=>by omega
theorem Fa0.of {w0 w:World} (h:qd_ (fun _=>False) w0 w):Fa0 w0 w:=h.mono fun _ _ h=>h.elim
theorem qf_.kn {w w':World} (k:qd_ (fun _=>False) w w') {b o:Nat} {cs:List Value} (hv:qf_ w b o cs):qf_ w' b o cs:=fun j c hj=>k.cell id (hv j c hj)
def RowRp {α:Type} (w:World) (sz:Nat) (El:List Value->α->Prop) (v:Value) (xs:List α):Prop:=
 (∃ base,v=.slice base 0 0/\xs=[]) \/ ∃ b o c,v=.slice (some ⟨b,o,none⟩) xs.length c/\xs.length<=c/\c<=maxLen/\∀ i x,xs[i]?=some x->∃ cs,cs.length=sz/\qf_ w b (o + i * sz) cs/\El cs x
def OcX (w:World) (X:Nat->Prop) (v:Value) (l:Bs):Prop:=(∃ base,v=.slice base 0 0/\l=[]) \/ SlRp w X v l
abbrev OcRp (w:World) (v:Value) (l:Bs):Prop:=OcX w (fun _=>False) v l
theorem RowRp.form {α:Type} {w:World} {sz:Nat} {El:List Value->α->Prop} {v:Value} {xs:List α} (h:RowRp w sz El v xs):∃ base c,v=.slice base xs.length c/\xs.length<=c/\xs.length<=maxLen/\(xs=[] \/ ∃ b o,base=some ⟨b,o,none⟩/\∀ i x,xs[i]?=some x->∃ cs,cs.length=sz/\qf_ w b (o + i * sz) cs/\El cs x):=by
 rcases h with ⟨base,rfl,rfl⟩ | ⟨b,o,c,rfl,h1,h2,h3⟩
 ·exact ⟨base,0,rfl,Nat.le_refl _,by simp [maxLen],.inl rfl⟩
 ·exact ⟨_,c,rfl,h1,by omega,.inr ⟨b,o,rfl,h3⟩⟩
theorem RowRp.imp {α:Type} {w w':World} {sz:Nat} {El El':List Value->α->Prop} {v:Value} {xs:List α} (h:RowRp w sz El v xs) (hc:∀ b o cs,qf_ w b o cs->qf_ w' b o cs) (he:∀ cs x,El cs x->El' cs x):RowRp w' sz El' v xs:=by
 rcases h with h | ⟨b,o,c,h1,h2,h3,h4⟩
 ·exact .inl h
 ·exact .inr ⟨b,o,c,h1,h2,h3,fun i x hx=>by obtain ⟨cs,a1,a2,a3⟩:=h4 i x hx;exact ⟨cs,a1,hc _ _ _ a2,he _ _ a3⟩⟩
theorem SlRp.far {w0 w:World} (h:Fa0 w0 w) {v:Value} {l:Bs} (hs:SlRp w0 (fun _=>False) v l):SlRp w (fun _=>False) v l:=
 SlRp.mono ((hs.mono (Y:=fun k=>w0.heap.size<=k) fun k hk hX=>by omega).keep h) fun _ _ h=>h.elim
theorem OcX.form {w:World} {X:Nat->Prop} {v:Value} {l:Bs} (h:OcX w X v l):∃ base c,v=.slice base l.length c/\(l=[] \/ ∃ b o,base=some ⟨b,o,none⟩/\OctAt w b o l):=by
 rcases h with ⟨base,rfl,rfl⟩ | h
 ·exact ⟨base,0,rfl,.inl rfl⟩
 ·exact h.form
theorem OcX.far {w0 w:World} {v:Value} {l:Bs} (hs:OcRp w0 v l) (h:Fa0 w0 w):OcRp w v l:=hs.imp id fun hs=>hs.far h
def SFs.len:SFs->Nat
 | .nil=>0
 | .cons _ _ _ _ _ _ _ _ r=>r.len + 1
def FsAt (w:World):SFs->Nat->Nat->Prop
 | .nil,_,_=>True
 | .cons kind lo hi nul tag df of sub r,b,o=>
  (∃ sv,qf_ w b o [.int .i64 (kind:Int),.int .i64 lo,.int .i64 hi,.int .i64 nul,.int .i64 tag,.int .i64 df,.int .i64 (of:Int),sv] /\
   ((sub=.nil/\sv=nilS) \/ ∃ b' o' c',sv=.slice (some ⟨b',o',none⟩) sub.len c'/\sub.len<=maxLen/\FsAt w sub b' o'))/\FsAt w r b (o + 8)
def FsRp (w:World) (sf:SFs) (v:Value):Prop:=(sf=.nil/\v=nilS) \/ ∃ b o c,v=.slice (some ⟨b,o,none⟩) sf.len c/\sf.len<=maxLen/\FsAt w sf b o
theorem FsAt.imp {w w':World} (hc:∀ b o cs,cs.length=8->qf_ w b o cs->qf_ w' b o cs):∀ (sf:SFs) (b o:Nat),FsAt w sf b o->FsAt w' sf b o
 | .nil,_,_,_=>trivial
 | .cons kind lo hi nul tag df of sub r,b,o,h=>by
  obtain ⟨⟨sv,h1,h2⟩,h3⟩:=h
  refine ⟨⟨sv,hc _ _ _ rfl h1,?_⟩,FsAt.imp hc r b _ h3⟩
  rcases h2 with h2 | ⟨b',o',c',a1,a2,a3⟩
  ·exact .inl h2
  ·exact .inr ⟨b',o',c',a1,a2,FsAt.imp hc sub b' o' a3⟩
theorem FsRp.far {w0 w:World} (h:Fa0 w0 w) {sf:SFs} {v:Value} (hs:FsRp w0 sf v):FsRp w sf v:=by
 rcases hs with hs | ⟨b,o,c,a1,a2,a3⟩
 ·exact .inl hs
 ·exact .inr ⟨b,o,c,a1,a2,a3.imp (fun _ _ _ _=>h.cells) sf b o⟩
def fCells (kind:Nat) (lo hi nul tag df:Int) (of:Nat) (sv:Value):List Value:=[.int .i64 (kind:Int),.int .i64 lo,.int .i64 hi,.int .i64 nul,.int .i64 tag,.int .i64 df,.int .i64 (of:Int),sv]
section
variable {P:Program} {S:SN}
theorem src_dst (ot:OctT P S.tSl S.tU8) {w:World} {L:Nat} {v:Value} {bs:Bs} (h:qu_ w L S.tU8 v bs):Src P 1 S.tSl v bs.length (bs.map octv) w:=by
 rcases h with ⟨rfl,rfl⟩ | ⟨g,c,cur,rfl,_,hg,_,_,_,hat⟩
 ·exact Src.ofNil w ot.und 0
 ·refine Src.ofSlice w ot.und ⟨g,0,none⟩ _ c _ (by simp) (fun j u hj=>?_) (fun u hu=>?_)
  ·simp only [List.getElem?_map,Option.map_eq_some_iff] at hj
   obtain ⟨x,hx,rfl⟩:=hj
   rw [Addr.add_lit]
   simp [World.cell?,hg,hat j x hx]
  ·simp only [List.mem_map] at hu
   obtain ⟨x,_,rfl⟩:=hu
   rfl
theorem src_sl (ot:OctT P S.tSl S.tU8) {w:World} {X:Nat->Prop} {v:Value} {bs:Bs} (h:SlRp w X v bs):Src P 1 S.tSl v bs.length (bs.map octv) w:=by
 rcases h with ⟨rfl,rfl⟩ | ⟨b,o,c,rfl,_,_,_,_,hat⟩
 ·exact Src.ofNil w ot.und 0
 ·refine Src.ofSlice w ot.und ⟨b,o,none⟩ _ c _ (by simp) (fun j u hj=>?_) (fun u hu=>?_)
  ·simp only [List.getElem?_map,Option.map_eq_some_iff] at hj
   obtain ⟨x,hx,rfl⟩:=hj
   rw [Addr.add_lit]
   exact hat j x hx
  ·simp only [List.mem_map] at hu
   obtain ⟨x,_,rfl⟩:=hu
   rfl
theorem src_oc (ot:OctT P S.tSl S.tU8) {w:World} {X:Nat->Prop} {v:Value} {bs:Bs} (h:OcX w X v bs):Src P 1 S.tSl v bs.length (bs.map octv) w:=by
 rcases h with ⟨base,rfl,rfl⟩ | h
 ·cases base with
  | none=>exact Src.ofNil w ot.und 0
  | some a=>exact Src.ofSlice w ot.und a _ 0 _ (by simp) (fun j u hj=>by simp at hj) (fun u hu=>by simp at hu)
 ·exact src_sl ot h
variable {ops:Array Oper} {Q:Exit->Act->World->Prop} {r:List Oper} {n:Nat} {a:Act} {w:World} {l:List (Nat × Value)}
theorem st_app (h:St n a l) (ot:OctT P S.tSl S.tU8) {d L:Nat} {x y:Operand} {dv sv:Value} {bs ss:Bs} (hx:Hd l x dv) (hy:Hd l y sv) (hd:qu_ w L S.tU8 dv bs) (hs:Src P 1 S.tSl sv ss.length (ss.map octv) w) (hL:L<=w.heap.size) (hlim:bs.length + ss.length<=LIM) (hdn:d < n)
  (c:∀ v w' a',Gr L S.tU8 dv w v (bs++ss) w'->St n a' ((d,v) :: l)->wpList P ops Q r a' w'):wpList P ops Q (bi (some d) .append [x,y] [S.tSl,S.tSl] S.tSl :: r) a w:=by
 obtain ⟨v,w',hrun,hg⟩:=q7_ (tx:=S.tSl) (ty:=S.tSl) ot hd hs hL hlim
 have hw:Region.wanted (bi (some d) .append [x,y] [S.tSl,S.tSl] S.tSl) (yielded ops a.tmps)=true:=by simp [Region.wanted,bi]
 unfold wpList
 rw [if_pos hw]
 refine .inl ?_
 unfold Oper.wp
 have:(execOp a.eval (bi (some d) .append [x,y] [S.tSl,S.tSl] S.tSl)).run P w=.ok (.value v) w':=by
  simp [execOp,bi,resolve,invoke,builtin,hx n a h,hy n a h,hrun]
 rw [this]
 exact c v w' _ hg (h.put v hdn)
theorem st_row1 (h:St n a l) (ot:OctT P S.tSl S.tU8) {d:Nat} {x:Operand} {b:UInt8} (hx:Hd l x (octv b)) (hdn:d < n)
  (c:∀ v a',qu_ (w.alloc (.cells #[octv b] S.tU8 (0,0))) w.heap.size S.tU8 v [b]->St n a' ((d,v) :: l)->wpList P ops Q r a' (w.alloc (.cells #[octv b] S.tU8 (0,0)))):wpList P ops Q (mk (some d) (.buildSlice S.tSl 1 #[(0,x)]) :: r) a w:=by
 refine wl_buildSlice (l:=[b]) (ps:=[(0,x)]) ot (by simp [hx n a h,prs]) (by simp) (by simp) ?_
 refine c _ _ ?_ (h.put _ hdn)
 exact .inr ⟨w.heap.size,1,#[octv b],rfl,Nat.le_refl _,Go.heap_alloc_new w _,by simp,by simp [maxLen],by simp,fun i x hx=>by
  cases i with
  | zero=>simp at hx;subst hx;rfl
  | succ i=>simp at hx⟩
variable {I:World->Prop} {K:Act->Prop}
theorem se_move (h:St n a l) {d:Nat} {x:Operand} {v:Value} (hx:Hd l x v) (hd:d < n) (c:∀ a',St n a' ((d,v) :: l)->evF P I r a' K):evF P I (mk (some d) (.move x) :: r) a K:=
 ev_move (c _ (by rw [hx n a h];exact h.put v hd))
theorem se_fld (h:St n a l) {d:Nat} {x:Operand} {T k F B O off sz:Nat} {agg:Bool} (hx:Hd l x (pt B O)) (hF:FldIs P T k F off agg sz) (hd:d < n) (c:∀ a',St n a' ((d,pt B (O + off)) :: l)->evF P I r a' K) :
  evF P I (mk (some d) (.fieldAddr T x k) :: r) a K:=ev_fld (hx n a h) hF (c _ (h.put _ hd))
theorem q5_ (h:St n a l) {d:Nat} {x:Operand} {F B O sz:Nat} {v:Value} (hx:Hd l x (pt B O)) (hF:VarIs P F false sz) (hv:∀ w,I w->w.cell? ⟨B,O,none⟩=some v) (hd:d < n) (c:∀ a',St n a' ((d,v) :: l)->evF P I r a' K) :
  evF P I (mk (some d) (.load F x) :: r) a K:=ev_load1 (hx n a h) (fun w=>hF.agg w) hv (c _ (h.put _ hd))
theorem se_loadN (h:St n a l) {d:Nat} {x:Operand} {F B O:Nat} {cs:List Value} (hx:Hd l x (pt B O)) (hF:VarIs P F true cs.length) (hv:∀ w,I w->qf_ w B O cs) (hd:d < n) (c:∀ a',St n a' ((d,.agg cs.toArray) :: l)->evF P I r a' K) :
  evF P I (mk (some d) (.load F x) :: r) a K:=by
 refine ⟨.agg cs.toArray,fun w hI=>?_,c _ (h.put _ hd)⟩
 have hl:=run_loadCells_list (P:=P) w ⟨B,O,none⟩ cs (fun j v hj=>by rw [Addr.add_lit];exact hv w hI j v hj)
 have e:=hx n a h
 simp only [pt] at e
 simp [execOp,mk,e,Instr.loadAt,Instr.sureAddr,loadVar,hF.agg w,hF.size w,hl]
theorem se_nil (h:K a):evF P I [] a K:=h
theorem sl_nil (hI:I w) (h:Q .normal a w):wpLd P I Q [] a w:=⟨hI,h⟩
theorem sl_assign (h:St n a l) (hI:I w) {d:Nat} {x:Operand} {v:Value} (hx:Hd l x v) (hd:d < n) (c:∀ a',St n a' ((d,v) :: l)->wpLd P I Q r a' w):wpLd P I Q (mk (some d) (.assign x) :: r) a w:=by
 refine ⟨hI,?_⟩
 show (mk (some d) (.assign x)).wp P a w (wpLd P I Q r) _
 unfold Oper.wp
 have:(execOp a.eval (mk (some d) (.assign x))).run P w=.ok (.value v) w:=by
  simp [execOp,mk,hx n a h]
 rw [this]
 exact c _ (h.put v hd)
theorem sl_call (h:St n a l) (hI:I w) {d f:Nat} {args:List Operand} {vs:List Value} {R:Ending->World->Prop} (hf:Ent P f) (hargs:∀ (n:Nat) (a:Act),St n a l->args.map a.eval=vs) (hc:Calls P f vs.toArray w R) (hd:d < n)
  (c:∀ e w',R e w'->∃ v,e=.returned v/\∀ a',St n a' ((d,v) :: l)->wpLd P I Q r a' w'):wpLd P I Q (cl (some d) f args :: r) a w:=by
 refine ⟨hI,?_⟩
 unfold Oper.wp
 have:(execOp a.eval (cl (some d) f args)).run P w=.ok (.enter f vs.toArray) w:=by
  have he:a.eval (.func f)=.func (.func f) #[] #[]:=rfl
  have ha:=hargs n a h
  have ha2:(args.map a.eval).toArray=vs.toArray:=by rw [ha]
  simp only [cl,execOp,mk,resolve,he,Deferred.ofValue,invoke,Sem.run_bind,Sem.run_pure,Result.andThen_ok,Array.empty_append,Array.append_empty,List.map_toArray,ha2]
  exact hf _ _
 rw [this]
 exact hc.mono fun e w' hR=>by
  obtain ⟨v,rfl,hk⟩:=c e w' hR
  exact hk _ (h.put _ hd)
theorem sl_app (h:St n a l) (hI:I w) (ot:OctT P S.tSl S.tU8) {d L:Nat} {x y:Operand} {dv sv:Value} {bs ss:Bs} (hx:Hd l x dv) (hy:Hd l y sv) (hd:qu_ w L S.tU8 dv bs) (hs:Src P 1 S.tSl sv ss.length (ss.map octv) w) (hL:L<=w.heap.size) (hlim:bs.length + ss.length<=LIM) (hdn:d < n)
  (c:∀ v w' a',Gr L S.tU8 dv w v (bs++ss) w'->St n a' ((d,v) :: l)->wpLd P I Q r a' w'):wpLd P I Q (bi (some d) .append [x,y] [S.tSl,S.tSl] S.tSl :: r) a w:=by
 obtain ⟨v,w',hrun,hg⟩:=q7_ (tx:=S.tSl) (ty:=S.tSl) ot hd hs hL hlim
 refine ⟨hI,?_⟩
 unfold Oper.wp
 have:(execOp a.eval (bi (some d) .append [x,y] [S.tSl,S.tSl] S.tSl)).run P w=.ok (.value v) w':=by
  simp [execOp,bi,resolve,invoke,builtin,hx n a h,hy n a h,hrun]
 rw [this]
 exact c v w' _ hg (h.put v hdn)
theorem ndrw {l':List Oper} {R:Exit->Act->World->Prop} (loud:List Bool) (I:World->Prop) (hl:q2_ l'=loud) (h:evF P I (qt_ l' loud) a (fun af=>wpLd P I R (qh_ l' loud) af w.drew)):NWP P (.region 1 l'.toArray true) R a w:=.drw I (by rw [hl];exact h)
end
set_option maxRecDepth 4000
def ixs0:Nat->List Value->List (Nat × Value)
 | _,[]=>[]
 | i,v :: r=>(i,v) :: ixs0 (i + 1) r
theorem ixs0_lookup:∀ (l:List Value) (i j:Nat) (v:Value),(ixs0 i l).lookup j=some v->i<=j/\l[j - i]?=some v
 | [],_,_,_,h=>by cases h
 | x :: r,i,j,v,h=>by
  simp only [ixs0,List.lookup_cons] at h
  by_cases hj:j=i
  ·subst hj
   simp only [beq_self_eq_true] at h
   exact ⟨Nat.le_refl _,by simpa using h⟩
  ·have:(j == i)=false:=by simp [hj]
   rw [this] at h
   obtain ⟨h1,h2⟩:=ixs0_lookup r (i + 1) j v h
   refine ⟨by omega,?_⟩
   rw [show j - i=(j - (i + 1)) + 1 by omega]
   simpa using h2
section
variable {P:Program} {S:SN}
theorem q3_ (hm:P.follows .mixedOrders=true) {f ntmps:Nat} {res:List Nat} {c:Code} {w:World} {RR:Ending->World->Prop} (hfn:FnIs P f ntmps res c) (hl:res.length<=2) (args:List Value) (hnt:args.length<=ntmps)
  (h:∀ a,St ntmps a (ixs0 0 args)->NWP P c (Rt (fun a' w'=>a'.defers=[]/\RR (.returned (retOf res a')) w') (fun a' w'=>a'.defers=[]/\RR (.returned (retOf res a')) w')) a w):Calls P f args.toArray w RR:=
 callsA hm hfn hl args hnt fun a harg hs hd=>h a ⟨hs,hd,fun i v hi=>by
  obtain ⟨_,h2⟩:=ixs0_lookup args 0 i v hi
  exact harg i v (by simpa using h2)⟩
theorem ret1 {n t:Nat} {a:Act} {w:World} {l:List (Nat × Value)} {v:Value} {RR:Ending->World->Prop} (h:St n a l) (hv:l.lookup t=some v) (hR:RR (.returned v) w):a.defers=[]/\RR (.returned (retOf [t] a)) w:=
 ⟨h.defers,by rw [retOf_one,h.get t v hv];exact hR⟩
end
end Go.Proofs.Ytlnmiphokmhajaa.Kx

namespace Go.Proofs.Ytlnmiphokmhajaa.Kx
open Go
set_option maxRecDepth 4000
section
variable {P:Program} {S:SN}
section
variable {ops:Array Oper} {Q:Exit->Act->World->Prop} {r:List Oper} {n:Nat} {a:Act} {w:World} {l:List (Nat × Value)}
theorem st_bi (h:St n a l) {d ty:Nat} {b:Builtin} {args:List Operand} {tys:List Nat} {v:Value} {w':World} (hrun:(execOp a.eval (bi (some d) b args tys ty)).run P w=.ok (.value v) w') (hd:d < n) (c:∀ a',St n a' ((d,v) :: l)->wpList P ops Q r a' w') :
  wpList P ops Q (bi (some d) b args tys ty :: r) a w:=by
 have hw:Region.wanted (bi (some d) b args tys ty) (yielded ops a.tmps)=true:=by simp [Region.wanted,bi]
 unfold wpList
 rw [if_pos hw]
 refine .inl ?_
 unfold Oper.wp
 rw [hrun]
 exact c _ (h.put _ hd)
end
section
variable {ops:Array Oper} {Q:Exit->Act->World->Prop} {r:List Oper} {n:Nat} {a:Act} {w:World} {l:List (Nat × Value)}
theorem sg_cmp (h:St n a l) {d j jd:Nat} {x y:Operand} {b:Bool} {o:Oper} {op:BinOp} {T:Nat} {k:IntKind} {p q:Int} (ho:ops[j]?=some o) (hod:o.dst=some jd) (hj:l.lookup jd=some (.bool b)) (hjn:jd < n) (hc:isCmp op=true) (hx:Hd l x (.int k p)) (hy:Hd l y (.int k q)) (hd:d < n) (c:∀ a',St n a' ((d,.bool (cmpB op p q)) :: l)->wpList P ops Q r a' w) :
  wpList P ops Q (gd d (.binOp op T x y 0) j b :: r) a w:=by
 refine st_gd h ho hod hj hjn ?_ hd c
 have he:(eqGuard op T x y (.int k p) (.int k q)).run P w=.ok () w:=by
  unfold eqGuard
  cases op <;> simp
 simp only [execOp,mk,hx n a h,hy n a h,Sem.run_bind,he,Result.andThen_ok,run_cmp (cmpB_ok hc p q),Sem.run_pure]
end
theorem box_cell (w:World) (cs:List Value) (T:Nat) {o:Nat} {v:Value} (h:cs[o]?=some v):(w.alloc (.cells cs.toArray T (0,0))).cell? ⟨w.heap.size,0 + o,none⟩=some v:=by
 have:=qo_ w (.cells cs.toArray T (0,0))
 simp only [World.cell?,this,Option.isSome_none,Bool.false_eq_true,if_false,Nat.zero_add,List.getElem?_toArray,h]
theorem q4_ (w:World) (cs:List Value) (T:Nat):qf_ (w.alloc (.cells cs.toArray T (0,0))) w.heap.size 0 cs:=fun _j _c hj=>box_cell w cs T hj
theorem qf_.at {w:World} {b o j:Nat} {cs:List Value} {v:Value} (h:qf_ w b o cs) (hj:cs[j]?=some v):w.cell? ⟨b,o + j,none⟩=some v:=h j v hj
end
end Go.Proofs.Ytlnmiphokmhajaa.Kx

namespace Go.Proofs.Ytlnmiphokmhajaa.Kx
open Go
set_option maxRecDepth 4000
theorem uvarAux_step {f x:Nat} (h:127 < x):uvarAux (f + 1) x=UInt8.ofNat (x % 128 + 128) :: uvarAux f (x / 128):=by
 simp only [uvarAux]
 rw [if_neg (by omega)]
theorem uvarAux_last {f x:Nat} (h:x<=127):uvarAux f x=[UInt8.ofNat x]:=by
 cases f with
 | zero=>rfl
 | succ f=>simp only [uvarAux];rw [if_pos (by omega)]
theorem uvarAux_len:∀ (f x:Nat),(uvarAux f x).length<=f + 1
 | 0,_=>by simp [uvarAux]
 | f + 1,x=>by
  have:=uvarAux_len f (x / 128)
  simp only [uvarAux]
  split <;> simp <;> omega
section
variable {P:Program} {S:SN}
section
variable {ops:Array Oper} {Q:Exit->Act->World->Prop} {r:List Oper} {n:Nat} {a:Act} {w:World} {l:List (Nat × Value)}
theorem run_shr2 {k k2:IntKind} {A:Nat} {x:Int} {s:Nat} (hs:s<=k.bits) (w:World):(binOp .shr A (.int k x) (.int k2 (s:Int))).run P w=.ok (.int k (x / 2 ^ s)) w:=by
 have h1:¬ ((s:Int) < 0):=by omega
 have h2:min s k.bits=s:=by omega
 have h3:(0:Int)<=2 ^ s:=by
  have:=Int.pow_pos (n:=2) (m:=s) (by omega)
  omega
 simp only [binOp,Op.shift,h1,if_false,Int.toNat_natCast,h2,Sem.run_pure,Int.fdiv_eq_ediv_of_nonneg _ h3]
theorem st_shr (h:St n a l) {d:Nat} {x y:Operand} {T:Nat} {k k2:IntKind} {p:Int} {s:Nat} (hx:Hd l x (.int k p)) (hy:Hd l y (.int k2 (s:Int))) (hs:s<=k.bits) (hd:d < n) (c:∀ a',St n a' ((d,.int k (p / 2 ^ s)) :: l)->wpList P ops Q r a' w) :
  wpList P ops Q (mk (some d) (.binOp .shr T x y 0) :: r) a w:=by
 refine ql_ ?_ (c _ (h.put _ hd))
 have he:(eqGuard .shr T x y (.int k p) (.int k2 (s:Int))).run P w=.ok () w:=by
  unfold eqGuard
  simp
 simp only [execOp,mk,hx n a h,hy n a h,Sem.run_bind,he,Result.andThen_ok,run_shr2 hs,Sem.run_pure]
theorem run_or8 {A m:Nat} (hm:m < 128) (w:World):(binOp .or A (.int .u8 (m:Int)) (.int .u8 128)).run P w=.ok (.int .u8 ((m + 128:Nat):Int)) w:=by
 have e1:BitVec.ofInt IntKind.u8.bits (m:Int)=BitVec.ofNat IntKind.u8.bits m:=by simp
 have e2:BitVec.ofInt IntKind.u8.bits 128=BitVec.ofNat IntKind.u8.bits 128:=BitVec.ofInt_natCast (n:=128) ..
 have e3:m ||| 128=m + 128:=by
  have:=Nat.two_pow_add_eq_or_of_lt (i:=7) (b:=m) (by omega) 1
  rw [Nat.or_comm]
  simp at this
  omega
 have e4:(BitVec.ofNat IntKind.u8.bits m ||| BitVec.ofNat IntKind.u8.bits 128).toNat=m + 128:=by
  rw [BitVec.toNat_or,BitVec.toNat_ofNat,BitVec.toNat_ofNat,Nat.mod_eq_of_lt (by simp [IntKind.bits];omega),Nat.mod_eq_of_lt (by simp [IntKind.bits]),e3]
 have hw:IntKind.u8.wrap ((m + 128:Nat):Int)=((m + 128:Nat):Int):=by simp [IntKind.wrap,IntKind.bits,IntKind.signed];omega
 have hkk:(IntKind.u8 ≠ IntKind.u8)=False:=by simp
 simp only [binOp,hkk,if_false,Op.intBits,e1,e2,e4,hw,Sem.run_pure]
theorem st_push (h:St n a l) (ot:OctT P S.tSl S.tU8) {d1 d2 L:Nat} {x o:Operand} {dv:Value} {bs:Bs} {b:UInt8} (hx:Hd l x (octv b)) (ho:∀ v,Hd ((d1,v) :: l) o dv) (hd:qu_ w L S.tU8 dv bs) (hL:L<=w.heap.size) (hlim:bs.length + 1<=LIM) (h1:d1 < n) (h2:d2 < n)
  (c:∀ v u w' a',qu_ w' L S.tU8 v (bs++[b])->qd_ (fun k=>L<=k) w w'->St n a' ((d2,v) :: (d1,u) :: l)->wpList P ops Q r a' w'):wpList P ops Q (mk (some d1) (.buildSlice S.tSl 1 #[(0,x)]) :: bi (some d2) .append [o,tm d1] [S.tSl,S.tSl] S.tSl :: r) a w:=by
 refine st_row1 h ot hx h1 fun u a1 hu h=>?_
 have hk:qd_ (fun _=>False) w (w.alloc (.cells #[octv b] S.tU8 (0,0))):=qd_.alloc _ _ _
 refine st_app h ot (ho u) (.t (by simp)) (hd.keep hk fun _ _ h=>h) (src_dst ot hu) (Nat.le_trans hL hk.size) hlim h2 fun v w' a' hg h=>?_
 exact c v u w' a' hg.dst ((hk.mono fun _ _ h=>h.elim).trans (hg.far (hd.keep hk fun _ _ h=>h))) h
end
def jd_ (te:Nat) (bs:Bs) (w:World) (e:Ending) (w':World):Prop:=∃ v,e=.returned v/\qu_ w' w.heap.size te v bs/\qd_ (fun _=>False) w w'
theorem mk_of {te:Nat} {bs:Bs} {w w':World} {v:Value} (hd:qu_ w' w.heap.size te v bs) (hk:Fa0 w w'):jd_ te bs w (.returned v) w':=⟨v,rfl,hd,hk.keeps⟩
theorem octv_wrap {m:Nat} (h:m < 256):(Value.int .u8 (m:Int))=octv (UInt8.ofNat m):=by
 simp only [octv]
 rw [u8n h]
end
end Go.Proofs.Ytlnmiphokmhajaa.Kx

namespace Go.Proofs.Ytlnmiphokmhajaa.Kx
open Go
set_option maxRecDepth 4000
theorem newvar {w:World} {T:Nat} {z:Value} {cs:List Value} (_hz:z.cells.size=cs.length):qd_ (fun _=>False) w ((w.alloc (.cells z.cells T (0,0))).setRow w.heap.size cs.toArray)/\qf_ ((w.alloc (.cells z.cells T (0,0))).setRow w.heap.size cs.toArray) w.heap.size 0 cs:=by
 have hn:=qo_ w (.cells z.cells T (0,0))
 refine ⟨?_,fun j c hj=>?_⟩
 ·exact ((qd_.alloc (fun k=>k=w.heap.size) w _).trans (qd_.setRow _ _ _ _ rfl)).mono fun k hk hX=>by omega
 ·have:=setRow_heap _ _ _ cs.toArray _ _ hn
  simp only [World.cell?,this,Option.isSome_none,Bool.false_eq_true,if_false,Nat.zero_add,List.getElem?_toArray,hj]
section
variable {P:Program} {S:SN}
section
variable {ops:Array Oper} {Q:Exit->Act->World->Prop} {r:List Oper} {n:Nat} {a:Act} {w:World} {l:List (Nat × Value)}
theorem st_newvar (h:St n a l) {d T:Nat} {z:Value} {x:Operand} {cs:List Value} (hz:∀ w,(zeroValue T).run P w=.ok z w) (hzs:z.cells.size=cs.length) (hx:∀ v,Hd ((d,v) :: l) x (.agg cs.toArray)) (hs:∀ w,(sizeOf T).run P w=.ok cs.length w) (h1:∀ u ∈ cs,u.oneCell'=true) (hd:d < n)
  (c:∀ w' a',qd_ (fun _=>False) w w'->qf_ w' w.heap.size 0 cs->St n a' ((d,pt w.heap.size 0) :: l)->wpList P ops Q r a' w'):wpList P ops Q (mk (some d) (.alloc T) :: mk none (.store T (tm d) x) :: r) a w:=by
 refine st_alloc h (hz w) hd fun a h=>?_
 have hn:=newvar (w:=w) (T:=T) hzs
 exact st_store h (.t (by simp)) (hx _) (by simp [Value.cells]) hs (qo_ w _) hzs h1 (c _ _ hn.1 hn.2 h)
end
theorem RowRp.get {α:Type} {w:World} {sz:Nat} {El:List Value->α->Prop} {v:Value} {xs:List α} (h:RowRp w sz El v xs) {i:Nat} {x:α} (hi:xs[i]?=some x):∃ b o c cs,v=.slice (some ⟨b,o,none⟩) xs.length c/\cs.length=sz/\qf_ w b (o + i * sz) cs/\El cs x:=by
 rcases h with ⟨_,_,rfl⟩ | ⟨b,o,c,rfl,_,_,h3⟩
 ·simp at hi
 ·obtain ⟨cs,a1,a2,a3⟩:=h3 i x hi
  exact ⟨b,o,c,cs,rfl,a1,a2,a3⟩
end
end Go.Proofs.Ytlnmiphokmhajaa.Kx

namespace Go.Proofs.Ytlnmiphokmhajaa.Kx
open Go
set_option maxRecDepth 4000
section
variable {P:Program} {S:SN}
section
variable {ops:Array Oper} {Q:Exit->Act->World->Prop} {r:List Oper} {n:Nat} {a:Act} {w:World} {l:List (Nat × Value)}
theorem sg_call (h:St n a l) {d j jd f:Nat} {b:Bool} {o:Oper} {args:List Operand} {vs:List Value} {R:Ending->World->Prop} (ho:ops[j]?=some o) (hod:o.dst=some jd) (hj:l.lookup jd=some (.bool b)) (hjn:jd < n) (hf:Ent P f) (hargs:∀ (n:Nat) (a:Act),St n a l->args.map a.eval=vs) (hc:Calls P f vs.toArray w R) (hd:d < n)
  (c:∀ e w',R e w'->∃ v,e=.returned v/\∀ a',St n a' ((d,v) :: l)->wpList P ops Q r a' w'):wpList P ops Q (gd d (.call ⟨.value (.func f),args.toArray,#[]⟩) j b :: r) a w:=by
 refine wg_run (yielded_of ho hod (by rw [h.size];exact hjn) (h.get _ _ hj)) ?_
 unfold Oper.wp
 have : (execOp a.eval (⟨some d, .call ⟨.value (.func f), args.toArray, #[]⟩, 0, "", #[], some (j, b)⟩ : Oper)).run P w = .ok (.enter f vs.toArray) w := by
  have he:a.eval (.func f)=.func (.func f) #[] #[]:=rfl
  have ha2:(args.map a.eval).toArray=vs.toArray:=by rw [hargs n a h]
  simp only [execOp,resolve,he,Deferred.ofValue,invoke,Sem.run_bind,Sem.run_pure,Result.andThen_ok,Array.empty_append,Array.append_empty,List.map_toArray,ha2]
  exact hf _ _
 rw [this]
 exact hc.mono fun e w' hR=>by
  obtain ⟨v,rfl,hk⟩:=c e w' hR
  exact hk _ (h.put _ hd)
end
end
end Go.Proofs.Ytlnmiphokmhajaa.Kx

namespace Go.Proofs.Ytlnmiphokmhajaa.Kx
open Go
set_option maxRecDepth 4000
theorem drop_flat' {α:Type} (g:α->Bs) {xs:List α} {i:Nat} {x:α} (h:xs[i]?=some x):((xs.drop i).map g).flatten=g x++((xs.drop (i + 1)).map g).flatten:=by
 have hlt:=(List.getElem?_eq_some_iff.1 h).1
 rw [List.drop_eq_getElem_cons hlt,(List.getElem?_eq_some_iff.1 h).2]
 simp
section
variable {P:Program} {S:SN}
end
end Go.Proofs.Ytlnmiphokmhajaa.Kx

namespace Go.Proofs.Ytlnmiphokmhajaa.Kx
open Go
set_option maxRecDepth 4000
structure TgE where
 k:UInt32
 v:Value
 b:Bs
def OutAt (w:World) (L tG:Nat) (v:Value) (es:List TgE):Prop:=
 (v=nilS/\es=[]) \/
 ∃ (g c:Nat) (cur:Array Value),v=.slice (some ⟨g,0,none⟩) es.length c/\L<=g/\w.heap[g]?=some (.cells cur tG (0,0))/\es.length<=c/\c<=maxLen/\cur.size=c * 2/\∀ i e,es[i]?=some e->cur[i * 2]?=some (.int .u32 (e.k.toNat:Int))/\cur[i * 2 + 1]?=some e.v
theorem OutAt.own {w:World} {L tG:Nat} {v:Value} {es:List TgE} (h:OutAt w L tG v es) {k:Nat} (hk:v.ownBlock=some k):L<=k/\k < w.heap.size:=by
 rcases h with ⟨rfl,_⟩ | ⟨g,c,cur,rfl,hL,hg,_⟩
 ·cases hk
 ·obtain rfl:g=k:=Option.some.inj hk
  exact ⟨hL,(Array.getElem?_eq_some_iff.1 hg).1⟩
theorem OutAt.get {w:World} {L tG:Nat} {v:Value} {es:List TgE} (h:OutAt w L tG v es) {i:Nat} {e:TgE} (hi:es[i]?=some e):∃ g c,v=.slice (some ⟨g,0,none⟩) es.length c/\i < es.length/\qf_ w g (0 + i * 2) [.int .u32 (e.k.toNat:Int),e.v]:=by
 rcases h with ⟨_,rfl⟩ | ⟨g,c,cur,rfl,_,hg,_,_,_,hat⟩
 ·simp at hi
 ·obtain ⟨h1,h2⟩:=hat i e hi
  refine ⟨g,c,rfl,(List.getElem?_eq_some_iff.1 hi).1,fun j x hj=>?_⟩
  have hcell:∀ o,w.cell? ⟨g,o,none⟩=cur[o]?:=fun o=>by simp [World.cell?,hg]
  rw [hcell]
  match j,hj with
  | 0,hj=>simp only [List.getElem?_cons_zero,Option.some.injEq] at hj;subst hj;simpa using h1
  | 1,hj=>simp only [List.getElem?_cons_succ,List.getElem?_cons_zero,Option.some.injEq] at hj;subst hj;simpa using h2
  | j + 2,hj=>simp at hj
section
variable {P:Program} {ops:Array Oper} {C:World->Prop} {Q:Act->Prop} {r:List Oper} {n:Nat} {a:Act} {l:List (Nat × Value)}
variable {w:World}
theorem rn_move (h:St n a l) {d:Nat} {x:Operand} {v:Value} (hx:Hd l x v):(execOp a.eval (mk (some d) (.move x))).run P w=.ok (.value v) w:=by simp [execOp,mk,hx n a h]
theorem rn_cmp (h:St n a l) {d T:Nat} {x y:Operand} {op:BinOp} {k:IntKind} {p q:Int} (hc:isCmp op=true) (hx:Hd l x (.int k p)) (hy:Hd l y (.int k q)):(execOp a.eval (mk (some d) (.binOp op T x y 0))).run P w=.ok (.value (.bool (cmpB op p q))) w:=by
 have he:(eqGuard op T x y (.int k p) (.int k q)).run P w=.ok () w:=by
  unfold eqGuard
  cases op <;> simp
 simp only [execOp,mk,hx n a h,hy n a h,Sem.run_bind,he,Result.andThen_ok,run_cmp (cmpB_ok hc p q),Sem.run_pure]
theorem rn_pick (h:St n a l) {d:Nat} {x y z:Operand} {b':Bool} {u v:Value} (hx:Hd l x (.bool b')) (hy:Hd l y u) (hz:Hd l z v):(execOp a.eval (mk (some d) (.pick x y z))).run P w=.ok (.value (if b' then u else v)) w:=by
 cases b' <;> simp [execOp,mk,hx n a h,hy n a h,hz n a h,asBool]
theorem rn_len (h : St n a l) {d F E ty m c : Nat} {x : Operand} {g : Option (Nat × Bool)} {base : Option Addr} (hx : Hd l x (.slice base m c)) (hF : P.underlying F = some (.slice E)) : (execOp a.eval ⟨some d, .call ⟨.builtin .len, #[x], #[F]⟩, ty, "", #[], g⟩).run P w = .ok (.value (.int .i64 (m : Int))) w := by
 simp [execOp,resolve,invoke,builtin,hx n a h,Builtin.len_,run_underlying hF,goInt]
end
end Go.Proofs.Ytlnmiphokmhajaa.Kx
