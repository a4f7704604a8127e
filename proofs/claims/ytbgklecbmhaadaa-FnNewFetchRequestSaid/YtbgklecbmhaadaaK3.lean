/-
  PLAIN LAWS AND CONTRACTS of messages, part 3 of 18: how readers and writers are printed, what they do, what the reference writes, and that what is written is read as the same. Nothing of a statement stands here.
-/
import Derived.Test.YtbgklecbmhaadaaK1

namespace Go.Proofs.Ytbgklecbmhaadaa.Kx
open Go
def pfTy:PF->Ty
 | .bool=>.prim .bool | .i8=>.prim .i8 | .i16=>.prim .i16 | .u16=>.prim .u16 | .i32=>.prim .i32 | .i64=>.prim .i64 | .uuid=>.prim .uuid
 | .str | .cstr=>.str none
 | .nstr | .cnstr=>.str (some 0)
 | .bytes | .cbytes=>.bytes none
 | .nbytes | .cnbytes=>.bytes (some 0)
def pt (b o:Nat):Value:=.pointer (some ⟨b,o,none⟩)
section
variable {P:Program} {x m k0 n:Nat} {K:Act->World->Prop} {Q:Exit->Act->World->Prop} {a:Act} {w:World}
theorem s_ifT {t k:Nat} {ops:Nat->List Oper} {A B:GC} (hops:wpList P (ops n).toArray (Exit.then (fun a' w'=>a'.eval (tm (n + t))=.bool true/\NWP P (A (n + k)).1 Q a' w') Q) (ops n) a w):NWP P (gIf t k ops A B n).1 Q a w:=
 .seq (.reg hops) (fun a' w' h=>.condT h.1 h.2) (fun e a w he hq=>by rw [zu_ he] at hq;exact hq)
theorem s_ifF {t k:Nat} {ops:Nat->List Oper} {A B:GC} (hops:wpList P (ops n).toArray (Exit.then (fun a' w'=>a'.eval (tm (n + t))=.bool false/\NWP P (B (A (n + k)).2).1 Q a' w') Q) (ops n) a w):NWP P (gIf t k ops A B n).1 Q a w:=
 .seq (.reg hops) (fun a' w' h=>.condF h.1 h.2) (fun e a w he hq=>by rw [zu_ he] at hq;exact hq)
theorem s_fx {cx:Cx} {A B:GC} {fx:Bool} (hf:a.get cx.fx=.bool fx) (hm:m<=k0) (hk:k0<=n) (hn:n < a.tmps.size)
  (h:∀ a',Pv x m k0 n a a'->if fx then NWP P (A (n + 1)).1 Q a' w else NWP P (B (A (n + 1)).2).1 Q a' w):NWP P (gFx cx A B n).1 Q a w:=by
 have hp:Pv x m k0 n a (a.put (some n) (.bool fx)):=(Pv.refl _ _ _ _ _).put _ (by omega)
 have:=h _ hp
 cases fx with
 | true=>
  refine s_ifT (qg_ (wpList_nil ?_))
  rw [qb_,hf]
  exact ⟨by rw [qb_];exact get_put _ _ _ hn,by simpa using this⟩
 | false=>
  refine s_ifF (qg_ (wpList_nil ?_))
  rw [qb_,hf]
  exact ⟨by rw [qb_];exact get_put _ _ _ hn,by simpa using this⟩
theorem run_cmp {op:BinOp} {T:TypeId} {k:IntKind} {p q:Int} {b:Bool} (h:(op=.geq/\b=decide (q<=p)) \/ (op=.leq/\b=decide (p<=q)) \/ (op=.lss/\b=decide (p < q)) \/ (op=.gtr/\b=decide (q < p)) \/ (op=.eql/\b=decide (p=q)) \/ (op=.neq/\b=decide (p ≠ q))) :
  (binOp op T (.int k p) (.int k q)).run P w=.ok (.bool b) w:=by
 rcases h with ⟨rfl,rfl⟩ | ⟨rfl,rfl⟩ | ⟨rfl,rfl⟩ | ⟨rfl,rfl⟩ | ⟨rfl,rfl⟩ | ⟨rfl,rfl⟩ <;> simp [binOp,Op.intCmp]
 ·exact Bool.beq_eq_decide_eq p q
 ·simp [bne,Bool.beq_eq_decide_eq]
theorem zl_ {ops:Array Oper} {Q:Exit->Act->World->Prop} {r:List Oper} {d:Option Nat} {op:BinOp} {T:TypeId} {y z:Operand} {k:IntKind} {p q:Int} {b:Bool} (hy:a.eval y=.int k p) (hz:a.eval z=.int k q)
  (hb:(op=.geq/\b=decide (q<=p)) \/ (op=.leq/\b=decide (p<=q)) \/ (op=.lss/\b=decide (p < q)) \/ (op=.gtr/\b=decide (q < p)) \/ (op=.eql/\b=decide (p=q)) \/ (op=.neq/\b=decide (p ≠ q)))
  (h:wpList P ops Q r (a.put d (.bool b)) w):wpList P ops Q (mk d (.binOp op T y z 0) :: r) a w:=
 wl_bin hy hz (by rcases hb with ⟨rfl,_⟩ | ⟨rfl,_⟩ | ⟨rfl,_⟩ | ⟨rfl,_⟩ | ⟨rfl,_⟩ | ⟨rfl,_⟩ <;> simp) (run_cmp hb) h
theorem jk_ {ops:Array Oper} {j d:Nat} {o:Oper} {b:Bool} (ho:ops[j]?=some o) (hd:o.dst=some d) (hs:d < a.tmps.size) (hg:a.get d=.bool b):yielded ops a.tmps j=some b:=by
 have:a.tmps[d]?=some (.bool b):=by
  rw [<- hg]
  simp [Act.get,hs]
 simp [yielded,ho,hd,this]
theorem wg_run {ops : Array Oper} {Q : Exit -> Act -> World -> Prop} {r : List Oper} {d j : Nat} {op : Op} {b : Bool} (hy : yielded ops a.tmps j = some b) (h : (⟨some d, op, 0, "", #[], some (j, b)⟩ : Oper).wp P a w (wpList P ops Q r) Q) :
  wpList P ops Q (gd d op j b :: r) a w:=by
 unfold wpList gd
 rw [if_pos (by simp [Region.wanted,hy])]
 exact .inl h
theorem wg_value {ops:Array Oper} {Q:Exit->Act->World->Prop} {r:List Oper} {d j:Nat} {op:Op} {b:Bool} {v:Value} (hy:yielded ops a.tmps j=some b) (hrun:(execOp a.eval (mk (some d) op)).run P w=.ok (.value v) w)
  (h:wpList P ops Q r (a.put (some d) v) w):wpList P ops Q (gd d op j b :: r) a w:=by
 refine wg_run hy ?_
 unfold Oper.wp
 have : execOp a.eval (⟨some d, op, 0, "", #[], some (j, b)⟩ : Oper) = execOp a.eval (mk (some d) op) := by
  simp only [execOp,mk]
 rw [this,hrun]
 exact h
theorem wg_skip {ops:Array Oper} {Q:Exit->Act->World->Prop} {r:List Oper} {d j:Nat} {op:Op} {b c:Bool} (hy:yielded ops a.tmps j=some c) (hc:c ≠ b) (h:wpList P ops Q r (a.put (some d) undef) w):wpList P ops Q (gd d op j b :: r) a w:=by
 unfold wpList gd
 rw [if_neg (by simp [Region.wanted,hy,hc])]
 exact h
theorem wl_pick {ops:Array Oper} {Q:Exit->Act->World->Prop} {r:List Oper} {d:Option Nat} {c y z:Operand} {b:Bool} (hc:a.eval c=.bool b) (h:wpList P ops Q r (a.put d (if b then a.eval y else a.eval z)) w):wpList P ops Q (mk d (.pick c y z) :: r) a w:=by
 refine qp_ ?_ h
 simp [execOp,mk,hc,asBool]
theorem wl_and {Q:Exit->Act->World->Prop} {n:Nat} {y1 y2:Nat} {op1 op2:BinOp} {T1 T2:TypeId} {k1 k2:IntKind} {p1 q1 p2 q2:Int} {b1 b2:Bool} (hm:m<=k0) (hk:k0<=n) (hn:n + 6<=a.tmps.size) (hy2:y2 < n)
  (h1:a.get y1=.int k1 p1) (h2:a.get y2=.int k2 p2)
  (hb1:(op1=.geq/\b1=decide (q1<=p1)) \/ (op1=.leq/\b1=decide (p1<=q1)) \/ (op1=.lss/\b1=decide (p1 < q1)) \/ (op1=.gtr/\b1=decide (q1 < p1)) \/ (op1=.eql/\b1=decide (p1=q1)) \/ (op1=.neq/\b1=decide (p1 ≠ q1)))
  (hb2:(op2=.geq/\b2=decide (q2<=p2)) \/ (op2=.leq/\b2=decide (p2<=q2)) \/ (op2=.lss/\b2=decide (p2 < q2)) \/ (op2=.gtr/\b2=decide (q2 < p2)) \/ (op2=.eql/\b2=decide (p2=q2)) \/ (op2=.neq/\b2=decide (p2 ≠ q2)))
  (and:Bool) (y z:Operand) (hyz:y=if and then tm (n + 4) else .const (.bool true)) (hzz:z=if and then .const (.bool false) else tm (n + 4))
  (h:∀ a',Pv x m k0 n a a'->a'.eval (tm (n + 5))=.bool (if and then b1 && b2 else b1 || b2)->Q .normal a' w) :
  wpList P [mk (some n) (.move (tm y1)),mk (some (n + 1)) (.binOp op1 T1 (tm n) (ki k1 q1) 0),mk (some (n + 2)) (.move (tm (n + 1))),gd (n + 3) (.move (tm y2)) 2 and,
   gd (n + 4) (.binOp op2 T2 (tm (n + 3)) (ki k2 q2) 0) 2 and,mk (some (n + 5)) (.pick (tm (n + 2)) y z)].toArray Q
   [mk (some n) (.move (tm y1)),mk (some (n + 1)) (.binOp op1 T1 (tm n) (ki k1 q1) 0),mk (some (n + 2)) (.move (tm (n + 1))),gd (n + 3) (.move (tm y2)) 2 and,
   gd (n + 4) (.binOp op2 T2 (tm (n + 3)) (ki k2 q2) 0) 2 and,mk (some (n + 5)) (.pick (tm (n + 2)) y z)] a w:=by
 refine qg_ ?_
 rw [qb_,h1]
 refine zl_ (b:=b1) (q:=q1) (p:=p1) (k:=k1) (by rw [qb_,gpe (by omega)]) rfl hb1 ?_
 refine qg_ ?_
 rw [qb_,gpe (by simp only [qa_];omega)]
 have hp3:Pv x m k0 n a (((a.put (some n) (.int k1 p1)).put (some (n + 1)) (.bool b1)).put (some (n + 2)) (.bool b1)):=(((Pv.refl _ _ _ _ _).put _ (by omega)).put _ (by omega)).put _ (by omega)
 generalize hA:((a.put (some n) (.int k1 p1)).put (some (n + 1)) (.bool b1)).put (some (n + 2)) (.bool b1)=A at hp3 ⊢
 have hsz:A.tmps.size=a.tmps.size:=hp3.size
 have hg2:A.get (n + 2)=.bool b1:=by rw [<- hA];exact gpe (by simp only [qa_];omega)
 have hgy:A.get y2=.int k2 p2:=by rw [<- hA,gpo (by omega),gpo (by omega),gpo (by omega)];exact h2
 have hyield:∀ (A':Act),A'.tmps.size=A.tmps.size->A'.get (n + 2)=.bool b1->yielded [mk (some n) (.move (tm y1)),mk (some (n + 1)) (.binOp op1 T1 (tm n) (ki k1 q1) 0),mk (some (n + 2)) (.move (tm (n + 1))),gd (n + 3) (.move (tm y2)) 2 and,
   gd (n + 4) (.binOp op2 T2 (tm (n + 3)) (ki k2 q2) 0) 2 and,mk (some (n + 5)) (.pick (tm (n + 2)) y z)].toArray A'.tmps 2=some b1:=fun A' hs hg=>
  jk_ (d:=n + 2) (o:=mk (some (n + 2)) (.move (tm (n + 1)))) rfl rfl (by rw [hs,hsz];omega) hg
 by_cases hb:b1=and
 ·subst hb
  refine wg_value (v:=.int k2 p2) (hyield A rfl hg2) (by simp only [execOp,mk,qb_,hgy];rfl) ?_
  have hp4:=hp3.put (.int k2 p2) (d:=n + 3) (by omega)
  refine wg_value (v:=.bool b2) (hyield _ (qa_ _ _ _) (by rw [gpo (by omega)];exact hg2)) ?_ ?_
  ·have he:(A.put (some (n + 3)) (.int k2 p2)).eval (tm (n + 3))=.int k2 p2:=by rw [qb_];exact gpe (by rw [hsz];omega)
   have he2:(A.put (some (n + 3)) (.int k2 p2)).eval (ki k2 q2)=.int k2 q2:=rfl
   have hg:(eqGuard op2 T2 (tm (n + 3)) (ki k2 q2) (.int k2 p2) (.int k2 q2)).run P w=.ok () w:=by unfold eqGuard;cases op2 <;> simp
   simp only [execOp,mk,he,he2,Sem.run_bind,hg,Result.andThen_ok,run_cmp hb2,Sem.run_pure]
  ·have hp5:=hp4.put (.bool b2) (d:=n + 4) (by omega)
   refine wl_pick (b:=b1) (by rw [qb_,gpo (by omega),gpo (by omega)];exact hg2) (wpList_nil ?_)
   refine h _ (hp5.put _ (by omega)) ?_
   rw [qb_,gpe (by simp only [qa_];rw [hsz];omega)]
   subst hyz hzz
   have hg4:((A.put (some (n + 3)) (.int k2 p2)).put (some (n + 4)) (.bool b2)).eval (tm (n + 4))=.bool b2:=by rw [qb_];exact gpe (by simp only [qa_];rw [hsz];omega)
   cases b1 <;> simp [hg4]
 ·refine wg_skip (hyield A rfl hg2) hb ?_
  refine wg_skip (hyield _ (qa_ _ _ _) (by rw [gpo (by omega)];exact hg2)) hb ?_
  have hp5:=(hp3.put undef (d:=n + 3) (by omega)).put undef (d:=n + 4) (by omega)
  refine wl_pick (b:=b1) (by rw [qb_,gpo (by omega),gpo (by omega)];exact hg2) (wpList_nil ?_)
  refine h _ (hp5.put _ (by omega)) ?_
  rw [qb_,gpe (by simp only [qa_];rw [hsz];omega)]
  subst hyz hzz
  cases b1 <;> cases and <;> simp_all <;> rfl
theorem s_guard {g:G} {cx:Cx} {lo:Nat} {hi:Option Nat} {A:GC} {ver:Int} (hv:a.get cx.ver=.int .i16 ver) (hm:m<=k0) (hk:k0<=n) (hcx:cx.ver < n) (hA:Up A) (hn:(gGuard g cx lo hi A n).2<=a.tmps.size)
  (h:∀ a' n',Pv x m k0 n a a'->n<=n'->n'<=n + 6->(gGuard g cx lo hi A n).2=(A n').2->has lo hi ver=true->NWP P (A n').1 Q a' w) (hno:∀ a',Pv x m k0 n a a'->has lo hi ver=false->Q .normal a' w):NWP P (gGuard g cx lo hi A n).1 Q a w:=by
 have hck:∀ (v:Int),a.eval (ki .i16 v)=.int .i16 v:=fun v=>rfl
 cases hi with
 | none=>
  by_cases h0:lo=0
  ·subst h0
   simp only [gGuard,if_true]
   exact h a n (Pv.refl _ _ _ _ _) (Nat.le_refl _) (by omega) (by simp [gGuard]) (by simp [has])
  ·simp only [gGuard,if_neg h0,gIf,gSkip,zn_] at hn
   have:=hA (n + 2)
   simp only [gGuard,if_neg h0]
   by_cases hlo:(lo:Int)<=ver
   ·refine s_ifT (qg_ ?_)
    rw [qb_,hv]
    refine zl_ (b:=true) (q:=lo) (p:=ver) (k:=.i16) (by rw [qb_,gpe (by omega)]) rfl (.inl ⟨rfl,by simp;omega⟩) (wpList_nil ?_)
    exact ⟨by rw [qb_,gpe (by simp only [qa_];omega)],h _ (n + 2) (((Pv.refl _ _ _ _ _).put _ (by omega)).put _ (by omega)) (by omega) (by omega) (by simp [gGuard,h0,gIf,gSkip,zn_]) (by simp [has,hlo])⟩
   ·refine s_ifF (qg_ ?_)
    rw [qb_,hv]
    refine zl_ (b:=false) (q:=lo) (p:=ver) (k:=.i16) (by rw [qb_,gpe (by omega)]) rfl (.inl ⟨rfl,by simp;omega⟩) (wpList_nil ?_)
    exact ⟨by rw [qb_,gpe (by simp only [qa_];omega)],.skip (hno _ (((Pv.refl _ _ _ _ _).put _ (by omega)).put _ (by omega)) (by simp [has,hlo,h0]))⟩
 | some hh=>
  simp only [gGuard,gIf,gSkip,zn_] at hn
  have:=hA (n + 6)
  replace hn:n + 6<=a.tmps.size:=by omega
  have key:∀ (b:Bool),b=(decide ((lo:Int)<=(ver:Int)) && decide ((ver:Int)<=(hh:Int)))->has lo (some hh) ver=b:=by
   intro b hb
   rw [hb]
   simp [has]
  by_cases hin:(lo:Int)<=ver/\ver<=(hh:Int)
  ·refine s_ifT (wl_and (b1:=true) (b2:=true) (x:=x) (m:=m) (k0:=k0) hm hk hn hcx hv hv (.inl ⟨rfl,by simp;omega⟩) (.inr (.inl ⟨rfl,by simp;omega⟩)) true _ _ rfl rfl fun a' hp he=>?_)
   exact ⟨by simpa using he,h a' (n + 6) hp (by omega) (by omega) (by simp [gGuard,gIf,gSkip,zn_]) (by simp [has];omega)⟩
  ·refine s_ifF (wl_and (b1:=decide ((lo:Int)<=(ver:Int))) (b2:=decide ((ver:Int)<=(hh:Int))) (x:=x) (m:=m) (k0:=k0) hm hk hn hcx hv hv (.inl ⟨rfl,rfl⟩) (.inr (.inl ⟨rfl,rfl⟩)) true _ _ rfl rfl fun a' hp he=>?_)
   refine ⟨?_,.skip (hno a' hp (by simp [has];omega))⟩
   rw [he]
   simp
   omega
end
structure Evo (R B:Nat) (Z:Nat->Prop) (w w':World):Prop where
 keeps:qc_ (fun k=>k=R \/ k=B) w w'
 blk:∀ cs te,w.heap[B]?=some (.cells cs te (0,0))->∃ cs',w'.heap[B]?=some (.cells cs' te (0,0))/\cs'.size=cs.size/\∀ j,¬ Z j->cs'[j]?=cs[j]?
theorem Evo.cell {R B:Nat} {Z:Nat->Prop} {w w':World} (h:Evo R B Z w w') {cs:Array Value} {te:TypeId} (hB:w.heap[B]?=some (.cells cs te (0,0))) {j:Nat} (hj:¬ Z j):w'.cell? ⟨B,j,none⟩=w.cell? ⟨B,j,none⟩:=by
 obtain ⟨c1,k1,_,k3⟩:=h.blk cs te hB
 simp [World.cell?,hB,k1,k3 j hj]
def Far (w0:World) (S:Nat) (T:(Nat->Prop)->Prop):Prop:=∀ X:Nat->Prop,(∀ k,X k->k < w0.heap.size)->¬ X S->T X
theorem Rp.evo {w0:World} {S R B:Nat} {Z:Nat->Prop} {w w':World} (h:Evo R B Z w w') (hR:R < w0.heap.size) (hB0:B < w0.heap.size) (hRS:R ≠ S) (hBS:B ≠ S) {ty:Ty} {o:Nat} {v:V} (hv:Far w0 S fun X=>Rp w X ty B o v)
  (hd:∀ j,o<=j->j < o + ty.sz->¬ Z j) {cs:Array Value} {te:TypeId} (hB:w.heap[B]?=some (.cells cs te (0,0))):Far w0 S fun X=>Rp w' X ty B o v:=by
 intro X hX hS
 have h1:=hv (fun k=>X k \/ k=R \/ k=B) (fun k hk=>by rcases hk with hk | rfl | rfl <;> first | exact hX k hk | assumption) (fun hk=>by rcases hk with hk | hk | hk <;> first | exact hS hk | exact hRS hk.symm | exact hBS hk.symm)
 have h2:=Rp.frame (h.keeps.mono fun k _ hk=>.inr hk) ty B o v h1 fun j h3 h4=>h.cell hB (hd j h3 h4)
 exact Rp.mono (fun k _ hk=>.inl hk) ty B o v h2
section
variable {P:Program} {g:G} {av:PF->Bool} {fl:Bool} {cx:Cx} {fx:Bool} {ver:Int} {S R B O:Nat} {r:RS} {m k0 n:Nat} {Q:Exit->Act->World->Prop} {a:Act} {w:World}
theorem splice_whole {cur:Array Value} {cs:List Value} (h:cs.length=cur.size):q4_ cur 0 cs=cs.toArray:=by
 simp [q4_,h]
end
def Rt (N E:Act->World->Prop):Exit->Act->World->Prop
 | .normal,a,w=>N a w
 | .ret,a,w=>E a w
 | _,_,_=>False
theorem zc_ {N K E:Act->World->Prop}:Exit.then K (Rt N E)=Rt K E:=by
 funext e a w
 cases e <;> rfl
section
variable {P:Program} {g:G} {m k0 n:Nat} {K N E:Act->World->Prop} {a:Act} {w:World}
theorem rt_mono {K K' E E':Act->World->Prop} {c:Code} (h:NWP P c (Rt K E) a w) (hk:∀ a w,K a w->K' a w) (he:∀ a w,E a w->E' a w):NWP P c (Rt K' E') a w:=
 .mono h fun e a w hq=>by cases e <;> first | exact hk _ _ hq | exact he _ _ hq | exact hq
variable {av:PF->Bool} {fl:Bool} {cx:Cx} {fx:Bool} {ver:Int} {S R B O:Nat} {r:RS}
structure RowIs (P:Program) (F E' sz:Nat) (z:Array Value):Prop where
 und:P.underlying F=some (.slice E')
 info:∃ i z',P.info? E'=some i/\i.zero=some z'/\z'.cells=z/\i.size=sz/\z.size=sz/\0 < sz/\0 < i.bytes/\i.bytes<=24 * sz + 8
theorem RowIs.size {F E' sz:Nat} {z:Array Value} (h:RowIs P F E' sz z) (w:World):(sizeOf E').run P w=.ok sz w:=by
 obtain ⟨i,z',h1,_,_,h4,_⟩:=h.info
 simp [Go.sizeOf,typeInfo,h1,h4]
end
section inv
variable {P:Program}
theorem nwp_seq_inv {c:Code} {Q:Exit->Act->World->Prop} {a:Act} {w:World} (h:NWP P c Q a w):∀ x y,c=.seq x y->∃ R:Exit->Act->World->Prop,NWP P x R a w/\(∀ a w,R .normal a w->NWP P y Q a w)/\∀ e a w,e ≠ .normal->R e a w->Q e a w:=by
 induction h with
 | seq hx hy he=>intro x y hc;cases hc;exact ⟨_,hx,hy,he⟩
 | mono _ hq ih=>
  intro x y hc
  obtain ⟨R,h1,h2,h3⟩:=ih x y hc
  exact ⟨R,h1,fun a w hr=>.mono (h2 a w hr) hq,fun e a w he hr=>hq e a w (h3 e a w he hr)⟩
 | _=>intro x y hc;cases hc
theorem nwp_sq_append {cs ds:List Code} {Q:Exit->Act->World->Prop}:∀ {a:Act} {w:World},NWP P (sq cs) (Exit.then (NWP P (sq ds) Q) Q) a w->NWP P (sq (cs++ds)) Q a w:=by
 induction cs with
 | nil=>intro a w h;exact nwp_skip_inv h rfl
 | cons c cs ih=>
  intro a w h
  cases cs with
  | nil=>exact qm_ h
  | cons d r=>
   obtain ⟨R,h1,h2,h3⟩:=nwp_seq_inv h _ _ rfl
   refine .seq h1 (fun a w hr=>ih (h2 a w hr)) (fun e a w he hr=>?_)
   have:=h3 e a w he hr
   rwa [zu_ he] at this
theorem jf_ (l r:List GC):∀ n,gL (l++r) n=((gL l n).1++(gL r (gL l n).2).1,(gL r (gL l n).2).2):=by
 induction l with
 | nil=>intro n;rfl
 | cons x l ih=>intro n;simp [gL,ih]
theorem LW_append {l r:List GC} {n:Nat} {Q:Exit->Act->World->Prop} {a:Act} {w:World} (h:LW P l n (Exit.then (LW P r (gL l n).2 Q) Q) a w):LW P (l++r) n Q a w:=by
 unfold LW at h ⊢
 rw [jf_]
 exact nwp_sq_append h
end inv
section
variable {P:Program} {g:G} {av:PF->Bool} {fl:Bool} {cx:Cx} {fx:Bool} {ver:Int} {S R B O:Nat} {r:RS} {x m k0 n:Nat} {K N E:Act->World->Prop} {Q:Exit->Act->World->Prop} {a:Act} {w:World}
def applyWr (cur:Array Value) (O:Nat) (wr:List (Nat × Value)):Array Value:=wr.foldl (fun c p=>c.setIfInBounds (O + p.1) p.2) cur
def DfC (P:Program) (f:Nat) (wr:List (Nat × Value)):Prop:=
 ∀ (w:World) (B O:Nat) (cur:Array Value) (te:TypeId),w.heap[B]?=some (.cells cur te (0,0))->(∀ p ∈ wr,O + p.1 < cur.size) ->
  Calls P f #[pt B O] w fun e w'=>e=.returned (.tuple #[])/\qc_ (·=B) w w'/\w'.heap[B]?=some (.cells (applyWr cur O wr) te (0,0))
theorem s_fieldAddr {s v T k F off sz:Nat} {agg:Bool} (hs:a.get s=pt B O) (hF:jr_ P T k F off agg sz) (hv:v=x \/ (m<=v/\v < k0)) (hm:m<=k0) (hk:k0<=n) (hn:n + 3<=a.tmps.size) (hvs:v < a.tmps.size)
  (h:∀ a',Pv x m k0 n a a'->a'.get v=pt B (O + off)->K a' w):NWP P (gFieldAddr s v T k n).1 (Exit.then K Q) a w:=by
 refine qw_ (qg_ ?_)
 rw [qb_,hs]
 refine q0_ (by rw [qb_,gpe (by omega)];rfl) ?_
 refine z1_ (by rw [qb_,gpe (by rw [qa_];omega)]) hF ?_
 refine ql_ (wpList_nil ?_)
 rw [qb_,gpe (by simp only [qa_];omega)]
 exact h _ (((((Pv.refl _ _ _ _ _).put _ (by omega)).put _ (by omega)).put _ (by omega)).put _ (by omega)) (gpe (by simp only [qa_];exact hvs))
end
def UpL (l:List GC):Prop:=∀ n,n<=(gL l n).2
theorem qx_:UpL []:=fun n=>Nat.le_refl n
theorem qi_ {x:GC} {l:List GC} (hx:Up x) (hl:UpL l):UpL (x :: l):=fun n=>Nat.le_trans (hx n) (hl _)
theorem qo_ {l r:List GC} (hl:UpL l) (hr:UpL r):UpL (l++r):=fun n=>by
 rw [jf_]
 exact Nat.le_trans (hl n) (hr _)
theorem up_S {l:List GC} (h:UpL l):Up (gS l):=h
theorem up_ite {c:Prop} [Decidable c] {x y:GC} (hx:Up x) (hy:Up y):Up (if c then x else y):=by split <;> assumption
theorem upL_ite {c:Prop} [Decidable c] {x y:List GC} (hx:UpL x) (hy:UpL y):UpL (if c then x else y):=by split <;> assumption
section
variable {P:Program} {g:G} {av:PF->Bool} {fl:Bool} {cx:Cx} {fx:Bool} {ver:Int} {S R B O:Nat} {r:RS} {x m k0 n:Nat} {K N E:Act->World->Prop} {Q:Exit->Act->World->Prop} {a:Act} {w:World}
theorem qk_ (w:World) (o:Obj):(w.alloc o).heap[w.heap.size]?=some o:=heap_alloc_new w o
theorem jc_ {w:World} {o:Obj} {b:Nat} (h:b < w.heap.size):(w.alloc o).heap[b]?=w.heap[b]?:=by
 show (w.heap.push o)[b]?=_
 rw [Array.getElem?_push,if_neg (by omega)]
end
def FnIs (P:Program) (f ntmps:Nat) (res:List Nat) (d:Code):Prop:=
 ∃ fn c, P.funcs[f]? = some fn /\ fn.body = some c /\ nCode c = d /\ fn.ntmps = ntmps /\ fn.results = (res.map ResultVar.tmp).toArray /\ (fn.name == "runtime.NumGoroutine") = false
theorem fnIs_of {P : Program} {f : Nat} {fn : Func} {ntmps : Nat} {res : List Nat} {d : Code} (hf : P.funcs[f]? = some fn) (hb : fn.body.map nCode = some d) (hn : fn.ntmps = ntmps) (hr : fn.results = (res.map ResultVar.tmp).toArray) (hg : (fn.name == "runtime.NumGoroutine") = false) : FnIs P f ntmps res d := by
 cases h:fn.body with
 | none=>rw [h] at hb;cases hb
 | some c=>
  rw [h] at hb
  exact ⟨fn,c,hf,h,Option.some.inj hb,hn,hr,hg⟩
def js_ (res:List Nat) (a:Act):Value:=match res with | [t]=>a.get t | _=>.tuple (res.map a.get).toArray
theorem FnIs.ent {P:Program} {f n:Nat} {res:List Nat} {d:Code} (h:FnIs P f n res d):Ent P f:=by
 obtain ⟨fn,c,hf,hb,_,_,_,hg⟩:=h
 have hg' : ¬ fn.name = "runtime.NumGoroutine" := by simpa using hg
 intro args w
 simp [callFunc,hf,hg',hb]
theorem run_results {P:Program} {fn:Func} {res:List Nat} (hl:res.length<=2) (hr:fn.results=(res.map ResultVar.tmp).toArray) (a:Act) (w:World):(results fn a.tmps).run P w=.ok (js_ res a) w:=by
 unfold results
 rw [hr]
 match res,hl with
 | [],_=>simp [js_]
 | [t],_=>simp [js_,Act.get]
 | [t,u],_=>simp [js_,Act.get]
theorem FnIs.calls {P:Program} (hm:P.follows .mixedOrders=true) {f n:Nat} {res:List Nat} {d:Code} (h:FnIs P f n res d) (hl:res.length<=2) {args:Array Value} {w:World} {R:Ending->World->Prop}
  (hw:NWP P d (Rt (fun a w=>a.defers=[]/\R (.returned (js_ res a)) w) (fun a w=>a.defers=[]/\R (.returned (js_ res a)) w)) { tmps:=args++Array.replicate (n - args.size) undef,defers:=[] } w):Calls P f args w R:=by
 obtain ⟨fn,c,hf,hb,rfl,rfl,hr,_⟩:=h
 refine calls_of_nwp hm hf hb rfl (.mono hw fun e a w hq=>?_)
 cases e <;> first | exact hq.elim | exact ⟨hq.1,_,run_results hl hr a w,hq.2⟩
end Go.Proofs.Ytbgklecbmhaadaa.Kx
