/-
  PLAIN LAWS AND CONTRACTS of messages, part 7 of 8: how readers and writers are printed, what they do, what the reference writes, and that what is written is read as the same. Nothing of a statement stands here.
-/
import Derived.Test.YtbacpeilgfmblaaDoorK1
import Derived.Test.YtbacpeilgfmblaaDoorK2
import Derived.Test.YtbacpeilgfmblaaDoorK3
import Derived.Test.YtbacpeilgfmblaaDoorK4
import Derived.Test.YtbacpeilgfmblaaDoorK6
import Derived.KernelRfl
import Derived.Laws.IdiomStrings
import Derived.MapFrom
import Derived.ChangeKeysEq
import Derived.Laws.MakeOwn
import Derived.Maps.RangeRun

namespace Go.Proofs.YtbacpeilgfmblaaDoor.Kx
open Go
theorem DstAt.sl {w:World} {L te:Nat} {d:Value} {bs:Bs} (h:DstAt w L te d bs):SlRp w (fun _=>False) d bs:=by
 rcases h with ⟨rfl,rfl⟩ | ⟨g,c,cur,rfl,_,hg,hn,hc,hs,hat⟩
 ·exact .inl ⟨rfl,rfl⟩
 ·refine .inr ⟨g,0,c,rfl,id,(Array.getElem?_eq_some_iff.1 hg).1,hn,hc,fun i x hi=>?_⟩
  rw [Nat.zero_add]
  simp [World.cell?,hg,hat i x hi,octv]
section
variable {P:Program} {gErr te:Nat} {kept hf:Bool} {flex:Nat} {fs:Fds} {toff:Option Nat} {T:Nat} {z:Array Value} {fN fS fR fA:Nat}
end
def Fa0 (w0 w:World):Prop:=Keeps (fun k=>w0.heap.size<=k) w0 w
theorem Fa0.cell {w0 w:World} (h:Fa0 w0 w) {b o:Nat} {v:Value} (hv:w0.cell? ⟨b,o,none⟩=some v):w.cell? ⟨b,o,none⟩=some v:=
 Keeps.cell h (by have:=lt_of_cell hv;omega) hv
theorem Fa0.cells {w0 w:World} (h:Fa0 w0 w) {b o:Nat} {cs:List Value} (hv:qe_ w0 b o cs):qe_ w b o cs:=fun j c hj=>h.cell (hv j c hj)
theorem qe_.kn {w w':World} (k:Keeps (fun _=>False) w w') {b o:Nat} {cs:List Value} (hv:qe_ w b o cs):qe_ w' b o cs:=fun j c hj=>k.cell id (hv j c hj)
def RowRp {α:Type} (w:World) (sz:Nat) (El:List Value->α->Prop) (v:Value) (xs:List α):Prop:=
 (∃ base,v=.slice base 0 0/\xs=[]) \/ ∃ b o c,v=.slice (some ⟨b,o,none⟩) xs.length c/\xs.length<=c/\c<=maxLen/\∀ i x,xs[i]?=some x->∃ cs,cs.length=sz/\qe_ w b (o + i * sz) cs/\El cs x
def OcX (w:World) (X:Nat->Prop) (v:Value) (l:Bs):Prop:=(∃ base,v=.slice base 0 0/\l=[]) \/ SlRp w X v l
theorem OcX.mono {w:World} {X Y:Nat->Prop} {v:Value} {l:Bs} (h:OcX w X v l) (hy:∀ k,k < w.heap.size->Y k->X k):OcX w Y v l:=h.imp id fun h=>h.mono hy
section
variable {P:Program} {S:SN}
variable {ops:Array Oper} {Q:Exit->Act->World->Prop} {r:List Oper} {n:Nat} {a:Act} {w:World} {l:List (Nat × Value)}
variable {I:World->Prop} {K:Act->Prop}
theorem se_move (h:St n a l) {d:Nat} {x:Operand} {v:Value} (hx:Hd l x v) (hd:d < n) (c:∀ a',St n a' ((d,v) :: l)->evF P I r a' K):evF P I (mk (some d) (.move x) :: r) a K:=
 ev_move (c _ (by rw [hx n a h];exact h.put v hd))
theorem sl_nil (hI:I w) (h:Q .normal a w):wpLd P I Q [] a w:=⟨hI,h⟩
theorem sl_assign (h:St n a l) (hI:I w) {d:Nat} {x:Operand} {v:Value} (hx:Hd l x v) (hd:d < n) (c:∀ a',St n a' ((d,v) :: l)->wpLd P I Q r a' w):wpLd P I Q (mk (some d) (.assign x) :: r) a w:=by
 refine ⟨hI,?_⟩
 show (mk (some d) (.assign x)).wp P a w (wpLd P I Q r) _
 unfold Oper.wp
 have:(execOp a.eval (mk (some d) (.assign x))).run P w=.ok (.value v) w:=by
  simp [execOp,mk,hx n a h]
 rw [this]
 exact c _ (h.put v hd)
theorem ndrw {l':List Oper} {R:Exit->Act->World->Prop} (loud:List Bool) (I:World->Prop) (hl:qp_ l'=loud) (h:evF P I (qm_ l' loud) a (fun af=>wpLd P I R (qc_ l' loud) af w.drew)):NWP P (.region 1 l'.toArray true) R a w:=.drw I (by rw [hl];exact h)
end
set_option maxRecDepth 4000
def ixs0:Nat->List Value->List (Nat × Value)
 | _,[]=>[]
 | i,v :: r=>(i,v) :: ixs0 (i + 1) r
theorem ixs0_lookup:∀ (l:List Value) (i j:Nat) (v:Value),(ixs0 i l).lookup j=some v->i<=j/\l[j - i]?=some v
 | [],_,_,_,h=>by cases h
 | x :: r,i,j,v,h=>by
  simp only [ixs0,List.lookup_cons] at h
  by_cases hj:j=i
  ·subst hj
   simp only [beq_self_eq_true] at h
   exact ⟨Nat.le_refl _,by simpa using h⟩
  ·have:(j == i)=false:=by simp [hj]
   rw [this] at h
   obtain ⟨h1,h2⟩:=ixs0_lookup r (i + 1) j v h
   refine ⟨by omega,?_⟩
   rw [show j - i=(j - (i + 1)) + 1 by omega]
   simpa using h2
section
variable {P:Program} {S:SN}
theorem callsT (hm:P.follows .mixedOrders=true) {f ntmps:Nat} {res:List Nat} {c:Code} {w:World} {RR:Ending->World->Prop} (hfn:FnIs P f ntmps res c) (hl:res.length<=2) (args:List Value) (hnt:args.length<=ntmps)
  (h:∀ a,St ntmps a (ixs0 0 args)->NWP P c (Rt (fun a' w'=>a'.defers=[]/\RR (.returned (retOf res a')) w') (fun a' w'=>a'.defers=[]/\RR (.returned (retOf res a')) w')) a w):Calls P f args.toArray w RR:=
 callsA hm hfn hl args hnt fun a harg hs hd=>h a ⟨hs,hd,fun i v hi=>by
  obtain ⟨_,h2⟩:=ixs0_lookup args 0 i v hi
  exact harg i v (by simpa using h2)⟩
theorem ret1 {n t:Nat} {a:Act} {w:World} {l:List (Nat × Value)} {v:Value} {RR:Ending->World->Prop} (h:St n a l) (hv:l.lookup t=some v) (hR:RR (.returned v) w):a.defers=[]/\RR (.returned (retOf [t] a)) w:=
 ⟨h.defers,by rw [retOf_one,h.get t v hv];exact hR⟩
end
end Go.Proofs.YtbacpeilgfmblaaDoor.Kx

namespace Go.Proofs.YtbacpeilgfmblaaDoor.Kx
open Go
set_option maxRecDepth 4000
section
variable {P:Program} {S:SN}
section
variable {ops:Array Oper} {Q:Exit->Act->World->Prop} {r:List Oper} {n:Nat} {a:Act} {w:World} {l:List (Nat × Value)}
theorem st_bi (h:St n a l) {d ty:Nat} {b:Builtin} {args:List Operand} {tys:List Nat} {v:Value} {w':World} (hrun:(execOp a.eval (bi (some d) b args tys ty)).run P w=.ok (.value v) w') (hd:d < n) (c:∀ a',St n a' ((d,v) :: l)->wpList P ops Q r a' w') :
  wpList P ops Q (bi (some d) b args tys ty :: r) a w:=by
 have hw:Region.wanted (bi (some d) b args tys ty) (yielded ops a.tmps)=true:=by simp [Region.wanted,bi]
 unfold wpList
 rw [if_pos hw]
 refine .inl ?_
 unfold Oper.wp
 rw [hrun]
 exact c _ (h.put _ hd)
end
section
variable {ops:Array Oper} {Q:Exit->Act->World->Prop} {r:List Oper} {n:Nat} {a:Act} {w:World} {l:List (Nat × Value)}
theorem sg_move (h:St n a l) {d j jd:Nat} {x:Operand} {b:Bool} {v:Value} {o:Oper} (ho:ops[j]?=some o) (hod:o.dst=some jd) (hj:l.lookup jd=some (.bool b)) (hjn:jd < n) (hx:Hd l x v) (hd:d < n) (c:∀ a',St n a' ((d,v) :: l)->wpList P ops Q r a' w) :
  wpList P ops Q (gd d (.move x) j b :: r) a w:=st_gd h ho hod hj hjn (by simp [execOp,mk,hx n a h]) hd c
theorem sg_cmp (h:St n a l) {d j jd:Nat} {x y:Operand} {b:Bool} {o:Oper} {op:BinOp} {T:Nat} {k:IntKind} {p q:Int} (ho:ops[j]?=some o) (hod:o.dst=some jd) (hj:l.lookup jd=some (.bool b)) (hjn:jd < n) (hc:isCmp op=true) (hx:Hd l x (.int k p)) (hy:Hd l y (.int k q)) (hd:d < n) (c:∀ a',St n a' ((d,.bool (cmpB op p q)) :: l)->wpList P ops Q r a' w) :
  wpList P ops Q (gd d (.binOp op T x y 0) j b :: r) a w:=by
 refine st_gd h ho hod hj hjn ?_ hd c
 have he:(eqGuard op T x y (.int k p) (.int k q)).run P w=.ok () w:=by
  unfold eqGuard
  cases op <;> simp
 simp only [execOp,mk,hx n a h,hy n a h,Sem.run_bind,he,Result.andThen_ok,run_cmp (cmpB_ok hc p q),Sem.run_pure]
end
theorem box_cell (w:World) (cs:List Value) (T:Nat) {o:Nat} {v:Value} (h:cs[o]?=some v):(w.alloc (.cells cs.toArray T (0,0))).cell? ⟨w.heap.size,0 + o,none⟩=some v:=by
 have:=qr_ w (.cells cs.toArray T (0,0))
 simp only [World.cell?,this,Option.isSome_none,Bool.false_eq_true,if_false,Nat.zero_add,List.getElem?_toArray,h]
theorem box_cells (w:World) (cs:List Value) (T:Nat):qe_ (w.alloc (.cells cs.toArray T (0,0))) w.heap.size 0 cs:=fun _j _c hj=>box_cell w cs T hj
theorem qe_.at {w:World} {b o j:Nat} {cs:List Value} {v:Value} (h:qe_ w b o cs) (hj:cs[j]?=some v):w.cell? ⟨b,o + j,none⟩=some v:=h j v hj
end
end Go.Proofs.YtbacpeilgfmblaaDoor.Kx

namespace Go.Proofs.YtbacpeilgfmblaaDoor.Kx
open Go
set_option maxRecDepth 4000
theorem newvar {w:World} {T:Nat} {z:Value} {cs:List Value} (_hz:z.cells.size=cs.length):Keeps (fun _=>False) w ((w.alloc (.cells z.cells T (0,0))).setRow w.heap.size cs.toArray)/\qe_ ((w.alloc (.cells z.cells T (0,0))).setRow w.heap.size cs.toArray) w.heap.size 0 cs:=by
 have hn:=qr_ w (.cells z.cells T (0,0))
 refine ⟨?_,fun j c hj=>?_⟩
 ·exact ((Keeps.alloc (fun k=>k=w.heap.size) w _).trans (Keeps.setRow _ _ _ _ rfl)).mono fun k hk hX=>by omega
 ·have:=setRow_heap _ _ _ cs.toArray _ _ hn
  simp only [World.cell?,this,Option.isSome_none,Bool.false_eq_true,if_false,Nat.zero_add,List.getElem?_toArray,hj]
section
variable {P:Program} {S:SN}
section
variable {ops:Array Oper} {Q:Exit->Act->World->Prop} {r:List Oper} {n:Nat} {a:Act} {w:World} {l:List (Nat × Value)}
theorem st_newvar (h:St n a l) {d T:Nat} {z:Value} {x:Operand} {cs:List Value} (hz:∀ w,(zeroValue T).run P w=.ok z w) (hzs:z.cells.size=cs.length) (hx:∀ v,Hd ((d,v) :: l) x (.agg cs.toArray)) (hs:∀ w,(sizeOf T).run P w=.ok cs.length w) (h1:∀ u ∈ cs,u.oneCell'=true) (hd:d < n)
  (c:∀ w' a',Keeps (fun _=>False) w w'->qe_ w' w.heap.size 0 cs->St n a' ((d,pt w.heap.size 0) :: l)->wpList P ops Q r a' w'):wpList P ops Q (mk (some d) (.alloc T) :: mk none (.store T (tm d) x) :: r) a w:=by
 refine st_alloc h (hz w) hd fun a h=>?_
 have hn:=newvar (w:=w) (T:=T) hzs
 exact st_store h (.t (by simp)) (hx _) (by simp [Value.cells]) hs (qr_ w _) hzs h1 (c _ _ hn.1 hn.2 h)
theorem st_build (h:St n a l) {d t:Nat} {ps:Array (Nat × Operand)} {qs:Array (Nat × Value)} {v:Value} (hp:∀ (n:Nat) (a:Act),St n a l->ps.map (fun p=>(p.1,a.eval p.2))=qs) (hb:(Instr.build t qs).run P w=.ok v w) (hd:d < n) (c:∀ a',St n a' ((d,v) :: l)->wpList P ops Q r a' w) :
  wpList P ops Q (mk (some d) (.build t ps) :: r) a w:=by
 refine qn_ ?_ (c _ (h.put _ hd))
 have e:=hp n a h
 simp [execOp,mk,e,hb]
end
theorem RowRp.get {α:Type} {w:World} {sz:Nat} {El:List Value->α->Prop} {v:Value} {xs:List α} (h:RowRp w sz El v xs) {i:Nat} {x:α} (hi:xs[i]?=some x):∃ b o c cs,v=.slice (some ⟨b,o,none⟩) xs.length c/\cs.length=sz/\qe_ w b (o + i * sz) cs/\El cs x:=by
 rcases h with ⟨_,_,rfl⟩ | ⟨b,o,c,rfl,_,_,h3⟩
 ·simp at hi
 ·obtain ⟨cs,a1,a2,a3⟩:=h3 i x hi
  exact ⟨b,o,c,cs,rfl,a1,a2,a3⟩
end
end Go.Proofs.YtbacpeilgfmblaaDoor.Kx
