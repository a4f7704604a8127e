/-
  PLAIN LAWS AND CONTRACTS of messages, part 2 of 12: how readers and writers are printed, what they do, what the reference writes, and that what is written is read as the same. Nothing of a statement stands here.
-/
import Derived.Test.YtlnmiphokmhajaaK1

namespace Go.Proofs.Ytlnmiphokmhajaa.Kx
open Go
structure G where
 rd:PF->Nat
 un:PF->Nat
 len:Nat
 clen:Nat
 ok:Nat
 complete:Nat
 uv:Nat
 span:Nat
 tags:Nat
 set:Nat
 tR:Nat
 tUuid:Nat
 tVer:Nat
 tI8:Nat
 tI32:Nat
 tU32:Nat
 tInt:Nat
 tBool:Nat
 tErr:Nat
 tTags:Nat
 tSl:Nat
 tStr:Nat
 gErr:Nat
inductive Nm where
 | mk (l:List Nat) (s:List Nm)
def Nm.l:Nm->List Nat | .mk l _=>l
def Nm.s:Nm->List Nm | .mk _ s=>s
def Nm.n (m:Nm) (i:Nat):Nat:=m.l.getD i 0
structure Cx where
 hf:Bool
 b:Nat
 s:Nat
 ver:Nat
 fx:Nat
abbrev GC:=Nat->Code × Nat
def gOps (k:Nat) (f:Nat->List Oper):GC:=fun n=>(rg (f n),n + k)
def gCode (c:Code):GC:=fun n=>(c,n)
def gL:List GC->Nat->List Code × Nat
 | [],n=>([],n)
 | x :: r,n=>((x n).1 :: (gL r (x n).2).1,(gL r (x n).2).2)
def gS (l:List GC):GC:=fun n=>(sq (gL l n).1,(gL l n).2)
def gIf (t k:Nat) (ops:Nat->List Oper) (A B:GC):GC:=fun n=>
 (.seq (rg (ops n)) (.cond (tm (n + t)) (A (n + k)).1 (B (A (n + k)).2).1),(B (A (n + k)).2).2)
def gSkip:GC:=gCode .skip
def gd (d : Nat) (op : Op) (j : Nat) (b : Bool) : Oper := ⟨some d, op, 0, "", #[], some (j, b)⟩
def bi (d : Option Nat) (b : Builtin) (args : List Operand) (tys : List Nat) (ty : Nat) : Oper := ⟨d, .call ⟨.builtin b, args.toArray, tys.toArray⟩, ty, "", #[], none⟩
def cl (d:Option Nat) (f:Nat) (args:List Operand):Oper:=mk d (.call ⟨.value (.func f),args.toArray,#[]⟩)
def ki (k:IntKind) (x:Int):Operand:=.const (.int k x)
def gSet (v:Nat) (x:Value):GC:=gOps 0 fun _=>[mk (some v) (.assign (.const x))]
def gMove (x y:Nat):GC:=gOps 1 fun n=>[mk (some n) (.move (tm x)),mk (some y) (.assign (tm n))]
section
variable {P:Program}
theorem nwp_skip_inv {c:Code} {Q:Exit->Act->World->Prop} {a:Act} {w:World} (h:NWP P c Q a w):c=.skip->Q .normal a w:=by
 induction h with
 | skip hq=>intro _;exact hq
 | mono _ hq ih=>intro hc;exact hq _ _ _ (ih hc)
 | reg=>intro hc;cases hc
 | drw=>intro hc;cases hc
 | _=>intro hc;cases hc
def LW (P:Program) (l:List GC) (n:Nat) (Q:Exit->Act->World->Prop) (a:Act) (w:World):Prop:=NWP P (sq (gL l n).1) Q a w
theorem LW_nil {n:Nat} {Q:Exit->Act->World->Prop} {a:Act} {w:World} (h:Q .normal a w):LW P [] n Q a w:=.skip h
theorem then_ne {K:Act->World->Prop} {Q:Exit->Act->World->Prop} {e:Exit} {a:Act} {w:World} (he:e ≠ .normal):Exit.then K Q e a w=Q e a w:=by
 cases e <;> first | rfl | exact absurd rfl he
theorem nwp_sq_cons {c:Code} {cs:List Code} {Q:Exit->Act->World->Prop} {a:Act} {w:World} (h:NWP P c (Exit.then (NWP P (sq cs) Q) Q) a w):NWP P (sq (c :: cs)) Q a w:=by
 cases cs with
 | nil=>
  refine .mono h fun e a w hq=>?_
  cases e with
  | normal=>exact nwp_skip_inv hq rfl
  | _=>exact hq
 | cons d ds=>exact .seq h (fun a w hq=>hq) (fun e a w he hq=>by rw [then_ne he] at hq;exact hq)
theorem qx_ {x:GC} {r:List GC} {n:Nat} {Q:Exit->Act->World->Prop} {a:Act} {w:World} (h:NWP P (x n).1 (Exit.then (LW P r (x n).2 Q) Q) a w):LW P (x :: r) n Q a w:=
 nwp_sq_cons h
theorem nwp_gS {l:List GC} {n:Nat} {Q:Exit->Act->World->Prop} {a:Act} {w:World} (h:LW P l n Q a w):NWP P (gS l n).1 Q a w:=h
theorem nwp_rg {l:List Oper} {K:Act->World->Prop} {Q:Exit->Act->World->Prop} {a:Act} {w:World} (h:wpList P l.toArray (Exit.then K Q) l a w):NWP P (rg l) (Exit.then K Q) a w:=.reg h
structure VarIs (P:Program) (F:Nat) (agg:Bool) (sz:Nat):Prop where
 agg:∀ w,(isAgg F).run P w=.ok agg w
 size:∀ w,(sizeOf F).run P w=.ok sz w
structure FldIs (P:Program) (T k F off:Nat) (agg:Bool) (sz:Nat):Prop where
 fld:∃ fs f,P.underlying T=some (.struct fs)/\fs[k]?=some f/\f.offset=off/\f.type=F
 var:VarIs P F agg sz
 pos:0 < sz
variable {x m k0 n:Nat} {K:Act->World->Prop} {Q:Exit->Act->World->Prop} {a:Act} {w:World}
theorem wl_fld {ops:Array Oper} {Q:Exit->Act->World->Prop} {r:List Oper} {d:Option Nat} {y:Operand} {T k F B O off sz:Nat} {agg:Bool} (hy:a.eval y=.pointer (some ⟨B,O,none⟩)) (hF:FldIs P T k F off agg sz)
  (h:wpList P ops Q r (a.put d (.pointer (some ⟨B,O + off,none⟩))) w):wpList P ops Q (mk d (.fieldAddr T y k) :: r) a w:=by
 obtain ⟨fs,f,h1,h2,h3,h4⟩:=hF.fld
 obtain ⟨q,rfl⟩:∃ q,sz=q + 1:=⟨sz - 1,by have:=hF.pos;omega⟩
 exact wl_fieldAddr (n:=q) hy h1 h2 h3 (fun w=>by rw [h4];exact hF.var.size w) h
end
def pt (b o:Nat):Value:=.pointer (some ⟨b,o,none⟩)
section
variable {P:Program} {x m k0 n:Nat} {K:Act->World->Prop} {Q:Exit->Act->World->Prop} {a:Act} {w:World}
theorem s_ifT {t k:Nat} {ops:Nat->List Oper} {A B:GC} (hops:wpList P (ops n).toArray (Exit.then (fun a' w'=>a'.eval (tm (n + t))=.bool true/\NWP P (A (n + k)).1 Q a' w') Q) (ops n) a w):NWP P (gIf t k ops A B n).1 Q a w:=
 .seq (.reg hops) (fun a' w' h=>.condT h.1 h.2) (fun e a w he hq=>by rw [then_ne he] at hq;exact hq)
theorem s_ifF {t k:Nat} {ops:Nat->List Oper} {A B:GC} (hops:wpList P (ops n).toArray (Exit.then (fun a' w'=>a'.eval (tm (n + t))=.bool false/\NWP P (B (A (n + k)).2).1 Q a' w') Q) (ops n) a w):NWP P (gIf t k ops A B n).1 Q a w:=
 .seq (.reg hops) (fun a' w' h=>.condF h.1 h.2) (fun e a w he hq=>by rw [then_ne he] at hq;exact hq)
theorem run_cmp {op:BinOp} {T:TypeId} {k:IntKind} {p q:Int} {b:Bool} (h:(op=.geq/\b=decide (q<=p)) \/ (op=.leq/\b=decide (p<=q)) \/ (op=.lss/\b=decide (p < q)) \/ (op=.gtr/\b=decide (q < p)) \/ (op=.eql/\b=decide (p=q)) \/ (op=.neq/\b=decide (p ≠ q))) :
  (binOp op T (.int k p) (.int k q)).run P w=.ok (.bool b) w:=by
 rcases h with ⟨rfl,rfl⟩ | ⟨rfl,rfl⟩ | ⟨rfl,rfl⟩ | ⟨rfl,rfl⟩ | ⟨rfl,rfl⟩ | ⟨rfl,rfl⟩ <;> simp [binOp,Op.intCmp]
 ·exact Bool.beq_eq_decide_eq p q
 ·simp [bne,Bool.beq_eq_decide_eq]
theorem wl_cmp {ops:Array Oper} {Q:Exit->Act->World->Prop} {r:List Oper} {d:Option Nat} {op:BinOp} {T:TypeId} {y z:Operand} {k:IntKind} {p q:Int} {b:Bool} (hy:a.eval y=.int k p) (hz:a.eval z=.int k q)
  (hb:(op=.geq/\b=decide (q<=p)) \/ (op=.leq/\b=decide (p<=q)) \/ (op=.lss/\b=decide (p < q)) \/ (op=.gtr/\b=decide (q < p)) \/ (op=.eql/\b=decide (p=q)) \/ (op=.neq/\b=decide (p ≠ q)))
  (h:wpList P ops Q r (a.put d (.bool b)) w):wpList P ops Q (mk d (.binOp op T y z 0) :: r) a w:=
 wl_bin hy hz (by rcases hb with ⟨rfl,_⟩ | ⟨rfl,_⟩ | ⟨rfl,_⟩ | ⟨rfl,_⟩ | ⟨rfl,_⟩ | ⟨rfl,_⟩ <;> simp) (run_cmp hb) h
theorem yielded_of {ops:Array Oper} {j d:Nat} {o:Oper} {b:Bool} (ho:ops[j]?=some o) (hd:o.dst=some d) (hs:d < a.tmps.size) (hg:a.get d=.bool b):yielded ops a.tmps j=some b:=by
 have:a.tmps[d]?=some (.bool b):=by
  rw [<- hg]
  simp [Act.get,hs]
 simp [yielded,ho,hd,this]
theorem wg_run {ops : Array Oper} {Q : Exit -> Act -> World -> Prop} {r : List Oper} {d j : Nat} {op : Op} {b : Bool} (hy : yielded ops a.tmps j = some b) (h : (⟨some d, op, 0, "", #[], some (j, b)⟩ : Oper).wp P a w (wpList P ops Q r) Q) :
  wpList P ops Q (gd d op j b :: r) a w:=by
 unfold wpList gd
 rw [if_pos (by simp [Region.wanted,hy])]
 exact .inl h
theorem wg_value {ops:Array Oper} {Q:Exit->Act->World->Prop} {r:List Oper} {d j:Nat} {op:Op} {b:Bool} {v:Value} (hy:yielded ops a.tmps j=some b) (hrun:(execOp a.eval (mk (some d) op)).run P w=.ok (.value v) w)
  (h:wpList P ops Q r (a.put (some d) v) w):wpList P ops Q (gd d op j b :: r) a w:=by
 refine wg_run hy ?_
 unfold Oper.wp
 have : execOp a.eval (⟨some d, op, 0, "", #[], some (j, b)⟩ : Oper) = execOp a.eval (mk (some d) op) := by
  simp only [execOp,mk]
 rw [this,hrun]
 exact h
theorem wl_pick {ops:Array Oper} {Q:Exit->Act->World->Prop} {r:List Oper} {d:Option Nat} {c y z:Operand} {b:Bool} (hc:a.eval c=.bool b) (h:wpList P ops Q r (a.put d (if b then a.eval y else a.eval z)) w):wpList P ops Q (mk d (.pick c y z) :: r) a w:=by
 refine ql_ ?_ h
 simp [execOp,mk,hc,asBool]
end
structure Evo (R B:Nat) (Z:Nat->Prop) (w w':World):Prop where
 keeps:qd_ (fun k=>k=R \/ k=B) w w'
 blk:∀ cs te,w.heap[B]?=some (.cells cs te (0,0))->∃ cs',w'.heap[B]?=some (.cells cs' te (0,0))/\cs'.size=cs.size/\∀ j,¬ Z j->cs'[j]?=cs[j]?
theorem Evo.cell {R B:Nat} {Z:Nat->Prop} {w w':World} (h:Evo R B Z w w') {cs:Array Value} {te:TypeId} (hB:w.heap[B]?=some (.cells cs te (0,0))) {j:Nat} (hj:¬ Z j):w'.cell? ⟨B,j,none⟩=w.cell? ⟨B,j,none⟩:=by
 obtain ⟨c1,k1,_,k3⟩:=h.blk cs te hB
 simp [World.cell?,hB,k1,k3 j hj]
def Far (w0:World) (S:Nat) (T:(Nat->Prop)->Prop):Prop:=∀ X:Nat->Prop,(∀ k,X k->k < w0.heap.size)->¬ X S->T X
theorem Rp.evo {w0:World} {S R B:Nat} {Z:Nat->Prop} {w w':World} (h:Evo R B Z w w') (hR:R < w0.heap.size) (hB0:B < w0.heap.size) (hRS:R ≠ S) (hBS:B ≠ S) {ty:Ty} {o:Nat} {v:V} (hv:Far w0 S fun X=>Rp w X ty B o v)
  (hd:∀ j,o<=j->j < o + ty.sz->¬ Z j) {cs:Array Value} {te:TypeId} (hB:w.heap[B]?=some (.cells cs te (0,0))):Far w0 S fun X=>Rp w' X ty B o v:=by
 intro X hX hS
 have h1:=hv (fun k=>X k \/ k=R \/ k=B) (fun k hk=>by rcases hk with hk | rfl | rfl <;> first | exact hX k hk | assumption) (fun hk=>by rcases hk with hk | hk | hk <;> first | exact hS hk | exact hRS hk.symm | exact hBS hk.symm)
 have h2:=Rp.frame (h.keeps.mono fun k _ hk=>.inr hk) ty B o v h1 fun j h3 h4=>h.cell hB (hd j h3 h4)
 exact Rp.mono (fun k _ hk=>.inl hk) ty B o v h2
section
variable {P:Program} {g:G} {av:PF->Bool} {fl:Bool} {cx:Cx} {fx:Bool} {ver:Int} {S R B O:Nat} {r:RS} {m k0 n:Nat} {Q:Exit->Act->World->Prop} {a:Act} {w:World}
theorem splice_whole {cur:Array Value} {cs:List Value} (h:cs.length=cur.size):q1_ cur 0 cs=cs.toArray:=by
 simp [q1_,h]
end
def Rt (N E:Act->World->Prop):Exit->Act->World->Prop
 | .normal,a,w=>N a w
 | .ret,a,w=>E a w
 | _,_,_=>False
theorem then_rt {N K E:Act->World->Prop}:Exit.then K (Rt N E)=Rt K E:=by
 funext e a w
 cases e <;> rfl
section
variable {P:Program} {g:G} {m k0 n:Nat} {K N E:Act->World->Prop} {a:Act} {w:World}
theorem rt_mono {K K' E E':Act->World->Prop} {c:Code} (h:NWP P c (Rt K E) a w) (hk:∀ a w,K a w->K' a w) (he:∀ a w,E a w->E' a w):NWP P c (Rt K' E') a w:=
 .mono h fun e a w hq=>by cases e <;> first | exact hk _ _ hq | exact he _ _ hq | exact hq
variable {av:PF->Bool} {fl:Bool} {cx:Cx} {fx:Bool} {ver:Int} {S R B O:Nat} {r:RS}
end
section inv
variable {P:Program}
end inv
section
variable {P:Program} {g:G} {av:PF->Bool} {fl:Bool} {cx:Cx} {fx:Bool} {ver:Int} {S R B O:Nat} {r:RS} {x m k0 n:Nat} {K N E:Act->World->Prop} {Q:Exit->Act->World->Prop} {a:Act} {w:World}
theorem wl_buildSlice0 {ops:Array Oper} {r:List Oper} {d:Option Nat} {F E' sz:Nat} (hF:P.underlying F=some (.slice E')) (hs:∀ w,(sizeOf E').run P w=.ok sz w)
  (h:wpList P ops Q r (a.put d (.slice (some ⟨w.heap.size,0,none⟩) 0 0)) (w.alloc (.cells #[] E' (0,0)))):wpList P ops Q (mk d (.buildSlice F 0 #[]) :: r) a w:=by
 refine ql_ (w':=w.alloc (.cells #[] E' (0,0))) ?_ h
 have e0:(Array.range 0)=#[]:=rfl
 simp [execOp,mk,Instr.buildSlice,run_underlying hF,hs,Instr.fill,newRow,newObj,Sem.run,e0]
end
section
variable {P:Program} {g:G} {av:PF->Bool} {fl:Bool} {cx:Cx} {fx:Bool} {ver:Int} {S R B O:Nat} {r:RS} {x m k0 n:Nat} {K N E:Act->World->Prop} {Q:Exit->Act->World->Prop} {a:Act} {w:World}
theorem qo_ (w:World) (o:Obj):(w.alloc o).heap[w.heap.size]?=some o:=heap_alloc_new w o
theorem heap_alloc_old {w:World} {o:Obj} {b:Nat} (h:b < w.heap.size):(w.alloc o).heap[b]?=w.heap[b]?:=by
 show (w.heap.push o)[b]?=_
 rw [Array.getElem?_push,if_neg (by omega)]
end
def aggD:TypeDesc->Bool
 | .struct _ | .array _ _=>true
 | _=>false
def varB (P:Program) (F:Nat) (agg:Bool) (sz:Nat):Bool:=
 match P.underlying F,P.info? F with
 | some d,some i=>(aggD d == agg) && (i.size == sz)
 | _,_=>false
theorem varB_ok {P:Program} {F:Nat} {agg:Bool} {sz:Nat} (h:varB P F agg sz=true):VarIs P F agg sz:=by
 unfold varB at h
 split at h
 ·rename_i d i hd hi
  simp only [Bool.and_eq_true,beq_iff_eq] at h
  have ht:TyIs P F d sz:=⟨hd,i,hi,h.2⟩
  refine ⟨fun w=>?_,fun w=>ht.sizeOf w⟩
  rw [ht.isAgg w,<- h.1]
  cases d <;> rfl
 ·cases h
def fldB (P:Program) (T k F off:Nat) (agg:Bool) (sz:Nat):Bool:=
 (match P.underlying T with
  | some (.struct fs)=>(match fs[k]? with | some f=>(f.offset == off) && (f.type == F) | none=>false)
  | _=>false) && varB P F agg sz && decide (0 < sz)
theorem fldB_ok {P:Program} {T k F off:Nat} {agg:Bool} {sz:Nat} (h:fldB P T k F off agg sz=true):FldIs P T k F off agg sz:=by
 simp only [fldB,Bool.and_eq_true,decide_eq_true_eq] at h
 obtain ⟨⟨h1,h2⟩,h3⟩:=h
 split at h1
 ·rename_i fs hfs
  split at h1
  ·rename_i f hf
   simp only [Bool.and_eq_true,beq_iff_eq] at h1
   exact ⟨⟨fs,f,hfs,hf,h1.1,h1.2⟩,varB_ok h2,h3⟩
  ·cases h1
 ·cases h1
def Ty.agg:Ty->Bool
 | .prim .uuid=>true
 | _=>false
end Go.Proofs.Ytlnmiphokmhajaa.Kx
