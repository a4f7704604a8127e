/-
  PLAIN LAWS AND CONTRACTS of messages, part 3 of 15: how readers and writers are printed, what they do, what the reference writes, and that what is written is read as the same. Nothing of a statement stands here.
-/
import Derived.Test.YtlmanancakaapaaGreatDoorK1

namespace Go.Proofs.YtlmanancakaapaaGreatDoor.Kx
open Go
def pfTy:PF->Ty
 | .bool=>.prim .bool | .i8=>.prim .i8 | .i16=>.prim .i16 | .u16=>.prim .u16 | .i32=>.prim .i32 | .i64=>.prim .i64 | .uuid=>.prim .uuid
 | .str | .cstr=>.str none
 | .nstr | .cnstr=>.str (some 0)
 | .bytes | .cbytes=>.bytes none
 | .nbytes | .cnbytes=>.bytes (some 0)
def ErrAt (g:Nat) (w:World):Prop:=∃ t x,w.cell? ⟨g,0,none⟩=some (.iface t x)
theorem ErrAt.keep {g:Nat} {X:Nat->Prop} {w w':World} (h:ErrAt g w) (hk:Keeps X w w') (hg:¬ X g):ErrAt g w':=by
 obtain ⟨t,x,h⟩:=h
 exact ⟨t,x,hk.cell hg h⟩
def pt (b o:Nat):Value:=.pointer (some ⟨b,o,none⟩)
structure KB (P:Program) (g:G) (av:PF->Bool) (fl:Bool):Prop where
 mixed:P.follows .mixedOrders=true
 rdE:∀ p,av p=true->Ent P (g.rd p)
 rdC:∀ p,av p=true->∀ (w:World) (S R:Nat) (r:RS),RdS w g.tR S R r->S ≠ R->Calls P (g.rd p) #[pt R 0] w fun e w'=>
  ∃ v,e=.returned v/\RdS w' g.tR S R (p.run r).2/\Keeps (·=R) w w'/\∀ X:Nat->Prop,(∀ k,X k->k < w.heap.size)->¬ X S->LRp w' X (pfTy p) v.cells.toList (p.run r).1
 i8C:av .i8=true->∀ (w:World) (S R:Nat) (r:RS),RdS w g.tR S R r->S ≠ R->Calls P (g.rd .i8) #[pt R 0] w fun e w'=>e=.returned (.int .i8 (rI 1 r).1)/\RdS w' g.tR S R (rI 1 r).2/\Keeps (·=R) w w'
 okE:za_ g.ok=true->Ent P g.ok
 okC:za_ g.ok=true->∀ (w:World) (S R:Nat) (r:RS),RdS w g.tR S R r->Calls P g.ok #[pt R 0] w fun e w'=>e=.returned (.bool (!r.bad))/\Keeps (fun _=>False) w w'
 cmE:Ent P g.complete
 cmC:∀ (w:World) (S R:Nat) (r:RS),RdS w g.tR S R r->ErrAt g.gErr w->Calls P g.complete #[pt R 0] w fun e w'=>
  Keeps (fun _=>False) w w'/\∃ v,e=.returned v/\(r.bad=false->v=.nilIface)/\(r.bad=true->∃ t x,v=.iface t x)
 lenE:za_ g.len=true->Ent P g.len
 lenC:za_ g.len=true->∀ (w:World) (S R:Nat) (r:RS),RdS w g.tR S R r->S ≠ R->Calls P g.len #[pt R 0] w fun e w'=>e=.returned (.int .i32 (j0_ false r).1)/\RdS w' g.tR S R (j0_ false r).2/\Keeps (·=R) w w'
 clenE:fl=true->za_ g.clen=true->Ent P g.clen
 clenC:fl=true->za_ g.clen=true->∀ (w:World) (S R:Nat) (r:RS),RdS w g.tR S R r->S ≠ R->Calls P g.clen #[pt R 0] w fun e w'=>e=.returned (.int .i32 (j0_ true r).1)/\RdS w' g.tR S R (j0_ true r).2/\Keeps (·=R) w w'
 uvE:fl=true->Ent P g.uv
 uvC:fl=true->∀ (w:World) (S R:Nat) (r:RS),RdS w g.tR S R r->S ≠ R->Calls P g.uv #[pt R 0] w fun e w'=>e=.returned (.int .u32 (rUv r).1)/\RdS w' g.tR S R (rUv r).2/\Keeps (·=R) w w'
 spanE:fl=true->Ent P g.span
 spanC:fl=true->∀ (w:World) (S R:Nat) (r:RS) (k:Int),0<=k->k < 4294967296->RdS w g.tR S R r->S ≠ R->Calls P g.span #[pt R 0,.int .i64 k] w fun e w'=>
  ∃ v,e=.returned v/\RdS w' g.tR S R (qo_ k r).2/\Keeps (·=R) w w'/\jz_ w' S v ⟨(qo_ k r).1.octets,false,(qo_ k r).1.isNul⟩
 tagsE:fl=true->Ent P g.tags
 tagsC:fl=true->∀ (w:World) (S R:Nat) (r:RS),RdS w g.tR S R r->S ≠ R->S < w.heap.size->Calls P g.tags #[pt R 0] w fun e w'=>
  ∃ m,e=.returned (.agg #[m])/\RdS w' g.tR S R (jq_ (rUv r).1 [] (rUv r).2).2/\Keeps (·=R) w w'/\∀ X:Nat->Prop,(∀ k,X k->k < w.heap.size)->¬ X S->TgRp w' X m (jq_ (rUv r).1 [] (rUv r).2).1
 setE:fl=true->Ent P g.set
 setC:fl=true->∀ (w:World) (B o:Nat) (m:Value) (t:List (Nat × Bs)) (k:Nat) (v:Value) (l:Bs) (cur:Array Value) (te:TypeId),k < 4294967296->w.heap[B]?=some (.cells cur te (0,0))->cur[o]?=some m->TgRp w (·=B) m t->SlRp w (·=B) v l ->
  Calls P g.set #[pt B o,.int .u32 k,v] w fun e w'=>e=.returned (.tuple #[])/\∃ (q:Nat) (w1:World),w'=w1/\Keeps (fun b=>b=B \/ b=q) w w'/\(m=.map none->q=w.heap.size)/\(∀ r,m=.map (some r)->q=r) /\
   w'.heap[B]?=some (.cells (cur.setIfInBounds o (.map (some q))) te (0,0))/\∀ X:Nat->Prop,¬ X q->(∀ k,X k->k < w.heap.size)->SlRp w (fun k=>X k \/ k=q) v l->TgRp w X m t->TgRp w' X (.map (some q)) (jg_ k l t)
 fR:∃ fs f0 f1,P.underlying g.tR=some (.struct fs)/\fs.toList=[f0,f1]/\f0.offset=0/\f1.offset=1/\jp_ P f0.type false 1/\jp_ P f1.type false 1
 zR:∀ w,(zeroValue g.tR).run P w=.ok (.agg #[.slice none 0 0,.bool false]) w
 vR:jp_ P g.tR true 2
 uuid:av .uuid=true->jp_ P g.tUuid true 16/\∀ w,(zeroValue g.tUuid).run P w=.ok (.agg (Array.replicate 16 (.int .u8 0))) w
 tI32:P.underlying g.tI32=some (.int .i32)
 tU32:fl=true->P.underlying g.tU32=some (.int .u32)
 tInt:P.underlying g.tInt=some (.int .i64)
 vStr:jp_ P g.tStr false 1/\∀ w,(zeroValue g.tStr).run P w=.ok (.string ⟨#[]⟩) w
 vTags:fl=true->jp_ P g.tTags true 1
 tErr:fl=true->∃ ms,P.underlying g.tErr=some (.interface ms)
section
variable {P:Program} {x m k0 n:Nat} {K:Act->World->Prop} {Q:Exit->Act->World->Prop} {a:Act} {w:World}
theorem s_call {f b v:Nat} {y:Value} {R:Ending->World->Prop} (hf:Ent P f) (hb:a.get b=y) (hc:Calls P f #[y] w R)
  (hv:v=x \/ (m<=v/\v < k0)) (hm:m<=k0) (hk:k0<=n) (hn:n < a.tmps.size) (hvs:v < a.tmps.size)
  (h:∀ e w',R e w'->∃ z,e=.returned z/\∀ a',Pv x m k0 n a a'->a'.get v=z->K a' w'):NWP P (qm_ f b v n).1 (Exit.then K Q) a w:=by
 refine qj_ (qv_ (vs:=#[y]) hf (by simp [qb_,hb]) hc fun e w' hR=>?_)
 obtain ⟨z,he,hh⟩:=h e w' hR
 refine ⟨z,he,qg_ (wpList_nil ?_)⟩
 rw [qb_,zw_ _ _ _ hn]
 exact hh _ (((Pv.refl _ _ _ _ _).put _ (by omega)).put _ (by omega)) (gpe (by rw [qa_];exact hvs))
theorem z3_ {t k:Nat} {ops:Nat->List Oper} {A B:GC} (hops:wpList P (ops n).toArray (Exit.then (fun a' w'=>a'.eval (tm (n + t))=.bool true/\NWP P (A (n + k)).1 Q a' w') Q) (ops n) a w):NWP P (gIf t k ops A B n).1 Q a w:=
 .seq (.reg hops) (fun a' w' h=>.condT h.1 h.2) (fun e a w he hq=>by rw [zc_ he] at hq;exact hq)
theorem z2_ {t k:Nat} {ops:Nat->List Oper} {A B:GC} (hops:wpList P (ops n).toArray (Exit.then (fun a' w'=>a'.eval (tm (n + t))=.bool false/\NWP P (B (A (n + k)).2).1 Q a' w') Q) (ops n) a w):NWP P (gIf t k ops A B n).1 Q a w:=
 .seq (.reg hops) (fun a' w' h=>.condF h.1 h.2) (fun e a w he hq=>by rw [zc_ he] at hq;exact hq)
theorem s_fx {cx:Cx} {A B:GC} {fx:Bool} (hf:a.get cx.fx=.bool fx) (hm:m<=k0) (hk:k0<=n) (hn:n < a.tmps.size)
  (h:∀ a',Pv x m k0 n a a'->if fx then NWP P (A (n + 1)).1 Q a' w else NWP P (B (A (n + 1)).2).1 Q a' w):NWP P (gFx cx A B n).1 Q a w:=by
 have hp:Pv x m k0 n a (a.put (some n) (.bool fx)):=(Pv.refl _ _ _ _ _).put _ (by omega)
 have:=h _ hp
 cases fx with
 | true=>
  refine z3_ (qd_ (wpList_nil ?_))
  rw [qb_,hf]
  exact ⟨by rw [qb_];exact zw_ _ _ _ hn,by simpa using this⟩
 | false=>
  refine z2_ (qd_ (wpList_nil ?_))
  rw [qb_,hf]
  exact ⟨by rw [qb_];exact zw_ _ _ _ hn,by simpa using this⟩
theorem s_un {A B:GC} (hf:a.get 2=.bool false) (hm:m<=k0) (hk:k0<=n) (hn:n < a.tmps.size)
  (h:∀ a',Pv x m k0 n a a'->NWP P (B (A (n + 1)).2).1 Q a' w):NWP P (gUn A B n).1 Q a w:=by
 have hp:Pv x m k0 n a (a.put (some n) (.bool false)):=(Pv.refl _ _ _ _ _).put _ (by omega)
 refine z2_ (qd_ (wpList_nil ?_))
 rw [qb_,hf]
 exact ⟨by rw [qb_];exact zw_ _ _ _ hn,h _ hp⟩
theorem run_cmp {op:BinOp} {T:TypeId} {k:IntKind} {p q:Int} {b:Bool} (h:(op=.geq/\b=decide (q<=p)) \/ (op=.leq/\b=decide (p<=q)) \/ (op=.lss/\b=decide (p < q)) \/ (op=.gtr/\b=decide (q < p)) \/ (op=.eql/\b=decide (p=q)) \/ (op=.neq/\b=decide (p ≠ q))) :
  (binOp op T (.int k p) (.int k q)).run P w=.ok (.bool b) w:=by
 rcases h with ⟨rfl,rfl⟩ | ⟨rfl,rfl⟩ | ⟨rfl,rfl⟩ | ⟨rfl,rfl⟩ | ⟨rfl,rfl⟩ | ⟨rfl,rfl⟩ <;> simp [binOp,Op.intCmp]
 ·exact Bool.beq_eq_decide_eq p q
 ·simp [bne,Bool.beq_eq_decide_eq]
theorem q9_ {ops:Array Oper} {Q:Exit->Act->World->Prop} {r:List Oper} {d:Option Nat} {op:BinOp} {T:TypeId} {y z:Operand} {k:IntKind} {p q:Int} {b:Bool} (hy:a.eval y=.int k p) (hz:a.eval z=.int k q)
  (hb:(op=.geq/\b=decide (q<=p)) \/ (op=.leq/\b=decide (p<=q)) \/ (op=.lss/\b=decide (p < q)) \/ (op=.gtr/\b=decide (q < p)) \/ (op=.eql/\b=decide (p=q)) \/ (op=.neq/\b=decide (p ≠ q)))
  (h:wpList P ops Q r (a.put d (.bool b)) w):wpList P ops Q (mk d (.binOp op T y z 0) :: r) a w:=
 zk_ hy hz (by rcases hb with ⟨rfl,_⟩ | ⟨rfl,_⟩ | ⟨rfl,_⟩ | ⟨rfl,_⟩ | ⟨rfl,_⟩ | ⟨rfl,_⟩ <;> simp) (run_cmp hb) h
theorem zb_ {ops:Array Oper} {j d:Nat} {o:Oper} {b:Bool} (ho:ops[j]?=some o) (hd:o.dst=some d) (hs:d < a.tmps.size) (hg:a.get d=.bool b):yielded ops a.tmps j=some b:=by
 have:a.tmps[d]?=some (.bool b):=by
  rw [<- hg]
  simp [Act.get,hs]
 simp [yielded,ho,hd,this]
theorem wg_run {ops : Array Oper} {Q : Exit -> Act -> World -> Prop} {r : List Oper} {d j : Nat} {op : Op} {b : Bool} (hy : yielded ops a.tmps j = some b) (h : (⟨some d, op, 0, "", #[], some (j, b)⟩ : Oper).wp P a w (wpList P ops Q r) Q) :
  wpList P ops Q (gd d op j b :: r) a w:=by
 unfold wpList gd
 rw [if_pos (by simp [Region.wanted,hy])]
 exact .inl h
theorem xf_ {ops:Array Oper} {Q:Exit->Act->World->Prop} {r:List Oper} {d j:Nat} {op:Op} {b:Bool} {v:Value} (hy:yielded ops a.tmps j=some b) (hrun:(execOp a.eval (mk (some d) op)).run P w=.ok (.value v) w)
  (h:wpList P ops Q r (a.put (some d) v) w):wpList P ops Q (gd d op j b :: r) a w:=by
 refine wg_run hy ?_
 unfold Oper.wp
 have : execOp a.eval (⟨some d, op, 0, "", #[], some (j, b)⟩ : Oper) = execOp a.eval (mk (some d) op) := by
  simp only [execOp,mk]
 rw [this,hrun]
 exact h
theorem z1_ {ops:Array Oper} {Q:Exit->Act->World->Prop} {r:List Oper} {d j:Nat} {op:Op} {b c:Bool} (hy:yielded ops a.tmps j=some c) (hc:c ≠ b) (h:wpList P ops Q r (a.put (some d) undef) w):wpList P ops Q (gd d op j b :: r) a w:=by
 unfold wpList gd
 rw [if_neg (by simp [Region.wanted,hy,hc])]
 exact h
theorem wl_pick {ops:Array Oper} {Q:Exit->Act->World->Prop} {r:List Oper} {d:Option Nat} {c y z:Operand} {b:Bool} (hc:a.eval c=.bool b) (h:wpList P ops Q r (a.put d (if b then a.eval y else a.eval z)) w):wpList P ops Q (mk d (.pick c y z) :: r) a w:=by
 refine qn_ ?_ h
 simp [execOp,mk,hc,asBool]
theorem wl_and {Q:Exit->Act->World->Prop} {n:Nat} {y1 y2:Nat} {op1 op2:BinOp} {T1 T2:TypeId} {k1 k2:IntKind} {p1 q1 p2 q2:Int} {b1 b2:Bool} (hm:m<=k0) (hk:k0<=n) (hn:n + 6<=a.tmps.size) (hy2:y2 < n)
  (h1:a.get y1=.int k1 p1) (h2:a.get y2=.int k2 p2)
  (hb1:(op1=.geq/\b1=decide (q1<=p1)) \/ (op1=.leq/\b1=decide (p1<=q1)) \/ (op1=.lss/\b1=decide (p1 < q1)) \/ (op1=.gtr/\b1=decide (q1 < p1)) \/ (op1=.eql/\b1=decide (p1=q1)) \/ (op1=.neq/\b1=decide (p1 ≠ q1)))
  (hb2:(op2=.geq/\b2=decide (q2<=p2)) \/ (op2=.leq/\b2=decide (p2<=q2)) \/ (op2=.lss/\b2=decide (p2 < q2)) \/ (op2=.gtr/\b2=decide (q2 < p2)) \/ (op2=.eql/\b2=decide (p2=q2)) \/ (op2=.neq/\b2=decide (p2 ≠ q2)))
  (and:Bool) (y z:Operand) (hyz:y=if and then tm (n + 4) else .const (.bool true)) (hzz:z=if and then .const (.bool false) else tm (n + 4))
  (h:∀ a',Pv x m k0 n a a'->a'.eval (tm (n + 5))=.bool (if and then b1 && b2 else b1 || b2)->Q .normal a' w) :
  wpList P [mk (some n) (.move (tm y1)),mk (some (n + 1)) (.binOp op1 T1 (tm n) (ki k1 q1) 0),mk (some (n + 2)) (.move (tm (n + 1))),gd (n + 3) (.move (tm y2)) 2 and,
   gd (n + 4) (.binOp op2 T2 (tm (n + 3)) (ki k2 q2) 0) 2 and,mk (some (n + 5)) (.pick (tm (n + 2)) y z)].toArray Q
   [mk (some n) (.move (tm y1)),mk (some (n + 1)) (.binOp op1 T1 (tm n) (ki k1 q1) 0),mk (some (n + 2)) (.move (tm (n + 1))),gd (n + 3) (.move (tm y2)) 2 and,
   gd (n + 4) (.binOp op2 T2 (tm (n + 3)) (ki k2 q2) 0) 2 and,mk (some (n + 5)) (.pick (tm (n + 2)) y z)] a w:=by
 refine qd_ ?_
 rw [qb_,h1]
 refine q9_ (b:=b1) (q:=q1) (p:=p1) (k:=k1) (by rw [qb_,gpe (by omega)]) rfl hb1 ?_
 refine qd_ ?_
 rw [qb_,gpe (by simp only [qa_];omega)]
 have hp3:Pv x m k0 n a (((a.put (some n) (.int k1 p1)).put (some (n + 1)) (.bool b1)).put (some (n + 2)) (.bool b1)):=(((Pv.refl _ _ _ _ _).put _ (by omega)).put _ (by omega)).put _ (by omega)
 generalize hA:((a.put (some n) (.int k1 p1)).put (some (n + 1)) (.bool b1)).put (some (n + 2)) (.bool b1)=A at hp3 ⊢
 have hsz:A.tmps.size=a.tmps.size:=hp3.size
 have hg2:A.get (n + 2)=.bool b1:=by rw [<- hA];exact gpe (by simp only [qa_];omega)
 have hgy:A.get y2=.int k2 p2:=by rw [<- hA,gpo (by omega),gpo (by omega),gpo (by omega)];exact h2
 have hyield:∀ (A':Act),A'.tmps.size=A.tmps.size->A'.get (n + 2)=.bool b1->yielded [mk (some n) (.move (tm y1)),mk (some (n + 1)) (.binOp op1 T1 (tm n) (ki k1 q1) 0),mk (some (n + 2)) (.move (tm (n + 1))),gd (n + 3) (.move (tm y2)) 2 and,
   gd (n + 4) (.binOp op2 T2 (tm (n + 3)) (ki k2 q2) 0) 2 and,mk (some (n + 5)) (.pick (tm (n + 2)) y z)].toArray A'.tmps 2=some b1:=fun A' hs hg=>
  zb_ (d:=n + 2) (o:=mk (some (n + 2)) (.move (tm (n + 1)))) rfl rfl (by rw [hs,hsz];omega) hg
 by_cases hb:b1=and
 ·subst hb
  refine xf_ (v:=.int k2 p2) (hyield A rfl hg2) (by simp only [execOp,mk,qb_,hgy];rfl) ?_
  have hp4:=hp3.put (.int k2 p2) (d:=n + 3) (by omega)
  refine xf_ (v:=.bool b2) (hyield _ (qa_ _ _ _) (by rw [gpo (by omega)];exact hg2)) ?_ ?_
  ·have he:(A.put (some (n + 3)) (.int k2 p2)).eval (tm (n + 3))=.int k2 p2:=by rw [qb_];exact gpe (by rw [hsz];omega)
   have he2:(A.put (some (n + 3)) (.int k2 p2)).eval (ki k2 q2)=.int k2 q2:=rfl
   have hg:(eqGuard op2 T2 (tm (n + 3)) (ki k2 q2) (.int k2 p2) (.int k2 q2)).run P w=.ok () w:=by unfold eqGuard;cases op2 <;> simp
   simp only [execOp,mk,he,he2,Sem.run_bind,hg,Result.andThen_ok,run_cmp hb2,Sem.run_pure]
  ·have hp5:=hp4.put (.bool b2) (d:=n + 4) (by omega)
   refine wl_pick (b:=b1) (by rw [qb_,gpo (by omega),gpo (by omega)];exact hg2) (wpList_nil ?_)
   refine h _ (hp5.put _ (by omega)) ?_
   rw [qb_,gpe (by simp only [qa_];rw [hsz];omega)]
   subst hyz hzz
   have hg4:((A.put (some (n + 3)) (.int k2 p2)).put (some (n + 4)) (.bool b2)).eval (tm (n + 4))=.bool b2:=by rw [qb_];exact gpe (by simp only [qa_];rw [hsz];omega)
   cases b1 <;> simp [hg4]
 ·refine z1_ (hyield A rfl hg2) hb ?_
  refine z1_ (hyield _ (qa_ _ _ _) (by rw [gpo (by omega)];exact hg2)) hb ?_
  have hp5:=(hp3.put undef (d:=n + 3) (by omega)).put undef (d:=n + 4) (by omega)
  refine wl_pick (b:=b1) (by rw [qb_,gpo (by omega),gpo (by omega)];exact hg2) (wpList_nil ?_)
  refine h _ (hp5.put _ (by omega)) ?_
  rw [qb_,gpe (by simp only [qa_];rw [hsz];omega)]
  subst hyz hzz
  cases b1 <;> cases and <;> simp_all <;> rfl
theorem s_guard {g:G} {cx:Cx} {lo:Nat} {hi:Option Nat} {A:GC} {ver:Int} (hv:a.get cx.ver=.int .i16 ver) (hm:m<=k0) (hk:k0<=n) (hcx:cx.ver < n) (hA:Up A) (hn:(xl_ g cx lo hi A n).2<=a.tmps.size)
  (h:∀ a' n',Pv x m k0 n a a'->n<=n'->n'<=n + 6->(xl_ g cx lo hi A n).2=(A n').2->has lo hi ver=true->NWP P (A n').1 Q a' w) (hno:∀ a',Pv x m k0 n a a'->has lo hi ver=false->Q .normal a' w):NWP P (xl_ g cx lo hi A n).1 Q a w:=by
 have hck:∀ (v:Int),a.eval (ki .i16 v)=.int .i16 v:=fun v=>rfl
 cases hi with
 | none=>
  by_cases h0:lo=0
  ·subst h0
   simp only [xl_,if_true]
   exact h a n (Pv.refl _ _ _ _ _) (Nat.le_refl _) (by omega) (by simp [xl_]) (by simp [has])
  ·simp only [xl_,if_neg h0,gIf,jk_,q3_] at hn
   have:=hA (n + 2)
   simp only [xl_,if_neg h0]
   by_cases hlo:(lo:Int)<=ver
   ·refine z3_ (qd_ ?_)
    rw [qb_,hv]
    refine q9_ (b:=true) (q:=lo) (p:=ver) (k:=.i16) (by rw [qb_,gpe (by omega)]) rfl (.inl ⟨rfl,by simp;omega⟩) (wpList_nil ?_)
    exact ⟨by rw [qb_,gpe (by simp only [qa_];omega)],h _ (n + 2) (((Pv.refl _ _ _ _ _).put _ (by omega)).put _ (by omega)) (by omega) (by omega) (by simp [xl_,h0,gIf,jk_,q3_]) (by simp [has,hlo])⟩
   ·refine z2_ (qd_ ?_)
    rw [qb_,hv]
    refine q9_ (b:=false) (q:=lo) (p:=ver) (k:=.i16) (by rw [qb_,gpe (by omega)]) rfl (.inl ⟨rfl,by simp;omega⟩) (wpList_nil ?_)
    exact ⟨by rw [qb_,gpe (by simp only [qa_];omega)],.skip (hno _ (((Pv.refl _ _ _ _ _).put _ (by omega)).put _ (by omega)) (by simp [has,hlo,h0]))⟩
 | some hh=>
  simp only [xl_,gIf,jk_,q3_] at hn
  have:=hA (n + 6)
  replace hn:n + 6<=a.tmps.size:=by omega
  have key:∀ (b:Bool),b=(decide ((lo:Int)<=(ver:Int)) && decide ((ver:Int)<=(hh:Int)))->has lo (some hh) ver=b:=by
   intro b hb
   rw [hb]
   simp [has]
  by_cases hin:(lo:Int)<=ver/\ver<=(hh:Int)
  ·refine z3_ (wl_and (b1:=true) (b2:=true) (x:=x) (m:=m) (k0:=k0) hm hk hn hcx hv hv (.inl ⟨rfl,by simp;omega⟩) (.inr (.inl ⟨rfl,by simp;omega⟩)) true _ _ rfl rfl fun a' hp he=>?_)
   exact ⟨by simpa using he,h a' (n + 6) hp (by omega) (by omega) (by simp [xl_,gIf,jk_,q3_]) (by simp [has];omega)⟩
  ·refine z2_ (wl_and (b1:=decide ((lo:Int)<=(ver:Int))) (b2:=decide ((ver:Int)<=(hh:Int))) (x:=x) (m:=m) (k0:=k0) hm hk hn hcx hv hv (.inl ⟨rfl,rfl⟩) (.inr (.inl ⟨rfl,rfl⟩)) true _ _ rfl rfl fun a' hp he=>?_)
   refine ⟨?_,.skip (hno a' hp (by simp [has];omega))⟩
   rw [he]
   simp
   omega
end
structure Evo (R B:Nat) (Z:Nat->Prop) (w w':World):Prop where
 keeps:Keeps (fun k=>k=R \/ k=B) w w'
 blk:∀ cs te,w.heap[B]?=some (.cells cs te (0,0))->∃ cs',w'.heap[B]?=some (.cells cs' te (0,0))/\cs'.size=cs.size/\∀ j,¬ Z j->cs'[j]?=cs[j]?
theorem Evo.refl (R B:Nat) (Z:Nat->Prop) (w:World):Evo R B Z w w:=⟨Keeps.refl _ _,fun cs _ h=>⟨cs,h,rfl,fun _ _=>rfl⟩⟩
theorem Evo.trans {R B:Nat} {Z:Nat->Prop} {a b c:World} (h:Evo R B Z a b) (k:Evo R B Z b c):Evo R B Z a c:=
 ⟨h.keeps.trans k.keeps,fun cs te hc=>by
  obtain ⟨c1,h1,h2,h3⟩:=h.blk cs te hc
  obtain ⟨c2,k1,k2,k3⟩:=k.blk c1 te h1
  exact ⟨c2,k1,k2.trans h2,fun j hj=>(k3 j hj).trans (h3 j hj)⟩⟩
theorem Evo.mono {R B:Nat} {Z Z':Nat->Prop} {a b:World} (h:Evo R B Z a b) (hz:∀ j,Z j->Z' j):Evo R B Z' a b:=
 ⟨h.keeps,fun cs te hc=>by
  obtain ⟨c1,k1,k2,k3⟩:=h.blk cs te hc
  exact ⟨c1,k1,k2,fun j hj=>k3 j fun hh=>hj (hz j hh)⟩⟩
theorem Evo.of_keeps {X:Nat->Prop} {R B:Nat} {Z:Nat->Prop} {w w':World} (h:Keeps X w w') (hx:∀ k,k < w.heap.size->X k->k=R) (hB:B ≠ R):Evo R B Z w w':=
 ⟨h.mono fun k hk hX=>.inl (hx k hk hX),fun cs te hc=>⟨cs,by
  have hlt:B < w.heap.size:=(Array.getElem?_eq_some_iff.1 hc).1
  rw [h.block B hlt fun hX=>hB (hx B hlt hX)];exact hc,rfl,fun _ _=>rfl⟩⟩
theorem Evo.store {R B lo:Nat} {Z:Nat->Prop} {w:World} {cur:Array Value} {te:TypeId} {cs:List Value} (hB:w.heap[B]?=some (.cells cur te (0,0))) (hs:lo + cs.length<=cur.size) (hz:∀ j,lo<=j->j < lo + cs.length->Z j) :
  Evo R B Z w (w.setRow B (qt_ cur lo cs)):=by
 refine ⟨Keeps.setRow _ w B _ (.inr rfl),fun c te' hc=>?_⟩
 rw [hB] at hc
 obtain ⟨rfl,rfl,_⟩:=Obj.cells.inj (Option.some.inj hc)
 refine ⟨_,setRow_heap w B cur _ te (0,0) hB,z9_ hs,fun j hj=>zn_ hs j ?_⟩
 rcases Nat.lt_or_ge j lo with h | h
 ·exact .inl h
 ·rcases Nat.lt_or_ge j (lo + cs.length) with h2 | h2
  ·exact absurd (hz j h h2) hj
  ·exact .inr h2
theorem Evo.cell {R B:Nat} {Z:Nat->Prop} {w w':World} (h:Evo R B Z w w') {cs:Array Value} {te:TypeId} (hB:w.heap[B]?=some (.cells cs te (0,0))) {j:Nat} (hj:¬ Z j):w'.cell? ⟨B,j,none⟩=w.cell? ⟨B,j,none⟩:=by
 obtain ⟨c1,k1,_,k3⟩:=h.blk cs te hB
 simp [World.cell?,hB,k1,k3 j hj]
def Far (w0:World) (S:Nat) (T:(Nat->Prop)->Prop):Prop:=∀ X:Nat->Prop,(∀ k,X k->k < w0.heap.size)->¬ X S->T X
theorem Rp.evo {w0:World} {S R B:Nat} {Z:Nat->Prop} {w w':World} (h:Evo R B Z w w') (hR:R < w0.heap.size) (hB0:B < w0.heap.size) (hRS:R ≠ S) (hBS:B ≠ S) {ty:Ty} {o:Nat} {v:V} (hv:Far w0 S fun X=>Rp w X ty B o v)
  (hd:∀ j,o<=j->j < o + ty.sz->¬ Z j) {cs:Array Value} {te:TypeId} (hB:w.heap[B]?=some (.cells cs te (0,0))):Far w0 S fun X=>Rp w' X ty B o v:=by
 intro X hX hS
 have h1:=hv (fun k=>X k \/ k=R \/ k=B) (fun k hk=>by rcases hk with hk | rfl | rfl <;> first | exact hX k hk | assumption) (fun hk=>by rcases hk with hk | hk | hk <;> first | exact hS hk | exact hRS hk.symm | exact hBS hk.symm)
 have h2:=Rp.frame (h.keeps.mono fun k _ hk=>.inr hk) ty B o v h1 fun j h3 h4=>h.cell hB (hd j h3 h4)
 exact Rp.mono (fun k _ hk=>.inl hk) ty B o v h2
structure CxOk (cx:Cx) (m k0:Nat):Prop where
 b:cx.b < m/\cx.b ≠ 6
 s:cx.s < m/\cx.s ≠ 6
 ver:cx.ver < m/\cx.ver ≠ 6
 fx:cx.fx < m/\cx.fx ≠ 6
 six:6 < m
 le:m<=k0
structure RC (g:G) (cx:Cx) (fx:Bool) (ver:Int) (S R B O:Nat) (r:RS) (a:Act) (w:World):Prop where
 rd:RdS w g.tR S R r
 sb:a.get cx.b=pt R 0
 ss:a.get cx.s=pt B O
 sv:a.get cx.ver=.int .i16 ver
 sf:cx.hf=true->a.get cx.fx=.bool fx
 nf:cx.hf=false->fx=false
 su:a.get 2=.bool false
 err:ErrAt g.gErr w
 SR:S ≠ R
 BR:B ≠ R
 BS:B ≠ S
 gR:g.gErr ≠ R
 gB:g.gErr ≠ B
 Slt:S < w.heap.size
theorem RC.step {g:G} {cx:Cx} {fx:Bool} {ver:Int} {S R B O:Nat} {r r':RS} {a a':Act} {w w':World} {m k0 n:Nat} {X:Nat->Prop} (h:RC g cx fx ver S R B O r a w) (hc:CxOk cx m k0) (hp:Pv 6 m k0 n a a') (hr:RdS w' g.tR S R r')
  (hk:Keeps X w w') (hX:∀ k,k < w.heap.size->X k->k=R \/ k=B):RC g cx fx ver S R B O r' a' w':=by
 obtain ⟨t,x,he⟩:=h.err
 exact ⟨hr,(hp.get _ hc.b.2 (.inl hc.b.1)).trans h.sb,(hp.get _ hc.s.2 (.inl hc.s.1)).trans h.ss,(hp.get _ hc.ver.2 (.inl hc.ver.1)).trans h.sv,fun hf=>(hp.get _ hc.fx.2 (.inl hc.fx.1)).trans (h.sf hf),h.nf,
  (hp.get 2 (by omega) (.inl (by have:=hc.six;omega))).trans h.su,ErrAt.keep ⟨t,x,he⟩ hk (fun hx=>by
   rcases hX _ (j2_ he) hx with e | e
   ·exact h.gR e
   ·exact h.gB e),h.SR,h.BR,h.BS,h.gR,h.gB,Nat.lt_of_lt_of_le h.Slt hk.size⟩
def ValAt (w:World) (a:Act) (uu:Option Nat) (v:Nat) (cs:List Value):Prop:=
 match uu with
 | none=>∃ y,a.get v=y/\y.cells.toList=cs
 | some _=>∃ b o,a.get v=.pointer (some ⟨b,o,none⟩)/\qy_ w b o cs
def okVal (av:PF->Bool) (hf:Bool):Ty->Bool
 | .prim p=>av (js_ p)
 | .str none=>av .str && (!hf || av .cstr)
 | .str (some 0)=>av .nstr && (!hf || av .cnstr)
 | .str (some (_ + 1))=>av .str && av .nstr && (!hf || (av .cstr && av .cnstr))
 | .bytes none=>av .bytes && (!hf || av .cbytes)
 | .bytes (some 0)=>av .nbytes && (!hf || av .cnbytes)
 | _=>false
section
variable {P:Program} {g:G} {av:PF->Bool} {fl:Bool} {cx:Cx} {fx:Bool} {ver:Int} {S R B O:Nat} {r:RS} {m k0 n:Nat} {Q:Exit->Act->World->Prop} {a:Act} {w:World}
def Got (g:G) (S R:Nat) (p:PF) (ty:Ty) (r:RS) (w:World) (val:Value) (w':World):Prop:=
 RdS w' g.tR S R (p.run r).2/\Keeps (·=R) w w'/\∀ X:Nat->Prop,(∀ k,X k->k < w.heap.size)->¬ X S->LRp w' X ty val.cells.toList (p.run r).1
theorem s_rd (K:KB P g av fl) {K':Act->World->Prop} {p:PF} (hp:av p=true) (hrc:RC g cx fx ver S R B O r a w) {v:Nat} (hv:m<=v/\v < k0) (hm:m<=k0) (hk:k0<=n) (hn:n < a.tmps.size) (hvs:v < a.tmps.size)
  (h:∀ a' w' val,Pv 6 m k0 n a a'->a'.get v=val->Got g S R p (pfTy p) r w val w'->K' a' w'):NWP P (qm_ (g.rd p) cx.b v n).1 (Exit.then K' Q) a w:=by
 refine s_call (x:=6) (m:=m) (k0:=k0) (K.rdE p hp) hrc.sb (K.rdC p hp w S R r hrc.rd hrc.SR) (.inr hv) hm hk hn hvs fun e w' hR=>?_
 obtain ⟨val,he,h1,h2,h3⟩:=hR
 exact ⟨val,he,fun a' hp hg=>h a' w' val hp hg ⟨h1,h2,h3⟩⟩
theorem s_rdFx (K:KB P g av fl) {K':Act->World->Prop} {p q:PF} (hp:av p=true) (hq:av q=true) (hhf:cx.hf=true) (hrc:RC g cx fx ver S R B O r a w) (hc:CxOk cx m k0) {v:Nat} (hv:m<=v/\v < k0) (hk:k0<=n) (hn:n + 3<=a.tmps.size) (hvs:v < a.tmps.size)
  (h:∀ a' w' val,Pv 6 m k0 n a a'->a'.get v=val->Got g S R (if fx then p else q) (pfTy (if fx then p else q)) r w val w'->K' a' w') :
  NWP P (gFx cx (qm_ (g.rd p) cx.b v) (qm_ (g.rd q) cx.b v) n).1 (Exit.then K' Q) a w:=by
 refine s_fx (x:=6) (m:=m) (k0:=k0) (fx:=fx) (hrc.sf hhf) hc.le hk (by omega) fun a' hp'=>?_
 have hrc':RC g cx fx ver S R B O r a' w:=hrc.step hc hp' hrc.rd (Keeps.refl (fun _=>False) w) (fun _ _ h=>h.elim)
 have hsz:=hp'.size
 cases fx with
 | true=>
  simp only [if_true] at h ⊢
  exact s_rd K hp hrc' hv hc.le (by omega:k0<=n + 1) (by omega) (by omega) fun a2 w2 val h1 h2 h3=>h a2 w2 val (hp'.trans (h1.mono (Nat.le_refl _) (by omega))) h2 h3
 | false=>
  simp only [Bool.false_eq_true,if_false] at h ⊢
  exact s_rd K hq hrc' hv hc.le (by simp [qm_,qu_];omega) (by simp [qm_,qu_];omega) (by omega) fun a2 w2 val h1 h2 h3=>h a2 w2 val (hp'.trans (h1.mono (Nat.le_refl _) (by simp [qm_,qu_];omega))) h2 h3
theorem s_nstr (K:KB P g av fl) {K':Act->World->Prop} (hp:av .nstr=true) (hq:cx.hf=true->av .cnstr=true) (hrc:RC g cx fx ver S R B O r a w) (hc:CxOk cx m k0) {v:Nat} (hv:m<=v/\v < k0) (hk:k0<=n)
  (hn:((if cx.hf then gFx cx (gUn (qm_ (g.un .cnstr) cx.b v) (qm_ (g.rd .cnstr) cx.b v)) (gUn (qm_ (g.un .nstr) cx.b v) (qm_ (g.rd .nstr) cx.b v)) else gUn (qm_ (g.un .nstr) cx.b v) (qm_ (g.rd .nstr) cx.b v):GC) n).2<=a.tmps.size) (hvs:v < a.tmps.size)
  (h:∀ a' w' val,Pv 6 m k0 n a a'->a'.get v=val->Got g S R (strPF true fx) (.str (some 0)) r w val w'->K' a' w') :
  NWP P ((if cx.hf then gFx cx (gUn (qm_ (g.un .cnstr) cx.b v) (qm_ (g.rd .cnstr) cx.b v)) (gUn (qm_ (g.un .nstr) cx.b v) (qm_ (g.rd .nstr) cx.b v)) else gUn (qm_ (g.un .nstr) cx.b v) (qm_ (g.rd .nstr) cx.b v):GC) n).1 (Exit.then K' Q) a w:=by
 cases hhf:cx.hf with
 | true=>
  simp only [hhf,if_true,gFx,gUn,gIf,qm_,qu_] at hn
  simp only [if_true]
  refine s_fx (x:=6) (m:=m) (k0:=k0) (fx:=fx) (hrc.sf hhf) hc.le hk (by omega) fun a1 hp1=>?_
  have hs1:=hp1.size
  have hrc1:RC g cx fx ver S R B O r a1 w:=hrc.step hc hp1 hrc.rd (Keeps.refl (fun _=>False) w) (fun _ _ h=>h.elim)
  cases fx with
  | true=>
   simp only [if_true]
   refine s_un (x:=6) (m:=m) (k0:=k0) hrc1.su hc.le (by omega) (by omega) fun a2 hp2=>?_
   have hs2:=hp2.size
   have hrc2:RC g cx true ver S R B O r a2 w:=hrc1.step hc hp2 hrc1.rd (Keeps.refl (fun _=>False) w) (fun _ _ h=>h.elim)
   simp only [qm_,qu_] at hp2 ⊢
   exact s_rd K (hq hhf) hrc2 hv hc.le (by omega) (by omega) (by omega) fun a3 w3 val h1 h2 h3=>h a3 w3 val ((hp1.trans (hp2.mono (Nat.le_refl _) (by omega))).trans (h1.mono (Nat.le_refl _) (by omega))) h2 h3
  | false=>
   simp only [Bool.false_eq_true,if_false]
   refine s_un (x:=6) (m:=m) (k0:=k0) hrc1.su hc.le (by simp [gUn,gIf,qm_,qu_];omega) (by simp [gUn,gIf,qm_,qu_];omega) fun a2 hp2=>?_
   have hs2:=hp2.size
   have hrc2:RC g cx false ver S R B O r a2 w:=hrc1.step hc hp2 hrc1.rd (Keeps.refl (fun _=>False) w) (fun _ _ h=>h.elim)
   simp only [gUn,gIf,qm_,qu_] at hp2 ⊢
   exact s_rd K hp hrc2 hv hc.le (by omega) (by omega) (by omega) fun a3 w3 val h1 h2 h3=>h a3 w3 val ((hp1.trans (hp2.mono (Nat.le_refl _) (by omega))).trans (h1.mono (Nat.le_refl _) (by omega))) h2 h3
 | false=>
  have hfx:=hrc.nf hhf
  subst hfx
  simp only [hhf,Bool.false_eq_true,if_false,gUn,gIf,qm_,qu_] at hn
  simp only [Bool.false_eq_true,if_false]
  refine s_un (x:=6) (m:=m) (k0:=k0) hrc.su hc.le hk (by omega) fun a2 hp2=>?_
  have hs2:=hp2.size
  have hrc2:RC g cx false ver S R B O r a2 w:=hrc.step hc hp2 hrc.rd (Keeps.refl (fun _=>False) w) (fun _ _ h=>h.elim)
  simp only [qm_,qu_] at hp2 ⊢
  exact s_rd K hp hrc2 hv hc.le (by omega) (by omega) (by omega) fun a3 w3 val h1 h2 h3=>h a3 w3 val (hp2.trans (h1.mono (Nat.le_refl _) (by omega))) h2 h3
theorem s_rdBox (K:KB P g av fl) {K':Act->World->Prop} {p:PF} (hp:av p=true) (hpt:pfTy p=.str none) (hrc:RC g cx fx ver S R B O r a w) {vv q:Nat} {cur:Array Value} (hvv:a.get vv=pt q 0) (hq:w.heap[q]?=some (.cells cur g.tStr (0,0))) (hqs:cur.size=1) (hqR:q ≠ R) (hqS:q ≠ S)
  (hm:m<=k0) (hk:k0<=n) (hvn:vv < n) (hn:n < a.tmps.size)
  (h:∀ a' w',Pv 6 m k0 n a a'->(∃ l:Bs,(p.run r).1=.s l/\l.length<=maxLen/\w'.cell? ⟨q,0,none⟩=some (.string ⟨l.toArray⟩))->RdS w' g.tR S R (p.run r).2->Keeps (fun k=>k=R \/ k=q) w w'->K' a' w') :
  NWP P (qu_ 1 (fun n=>[cl (some n) (g.rd p) [tm cx.b],mk none (.store g.tStr (tm vv) (tm n))]) n).1 (Exit.then K' Q) a w:=by
 refine qj_ (qv_ (vs:=#[pt R 0]) (K.rdE p hp) (by simp [qb_,hrc.sb]) (K.rdC p hp w S R r hrc.rd hrc.SR) fun e w' hR=>?_)
 obtain ⟨val,he,h1,h2,h3⟩:=hR
 refine ⟨val,he,?_⟩
 have hl:=h3 (fun _=>False) (fun _ h=>h.elim) (fun h=>h.elim)
 rw [hpt] at hl
 obtain ⟨l,hl1,hl2,hl3⟩:=hl
 have hqlt:q < w.heap.size:=(Array.getElem?_eq_some_iff.1 hq).1
 have hq':w'.heap[q]?=some (.cells cur g.tStr (0,0)):=by rw [h2.block q hqlt hqR];exact hq
 refine q8_ (g:=q) (o:=0) (cur:=cur) (t:=g.tStr) (v:=val) (vs:=val.cells.toList) ?_ ?_ rfl (by rw [hl1];exact K.vStr.1.size _) hq' (by rw [hl1];simp;omega) (by rw [hl1];simp [Value.oneCell']) (wpList_nil ?_)
 ·rw [qb_,gpo (by omega)];exact hvv
 ·rw [qb_,zw_ _ _ _ hn]
 ·refine h _ _ ((Pv.refl _ _ _ _ _).put _ (by omega)) ⟨l,hl2,hl3,?_⟩ ?_ ?_
  ·rw [cell_setRow_same _ _ _ _ _ _ _ hq',hl1]
   have:=jw_ (cur:=cur) (o:=0) (vs:=[Value.string ⟨l.toArray⟩]) (by simp;omega) 0 (by simp)
   simpa using this
  ·have hkS:Keeps (fun k=>k=q) w' (w'.setRow q (qt_ cur 0 val.cells.toList)):=Keeps.setRow _ _ _ _ rfl
   exact h1.keep hkS (Ne.symm hqS) (Ne.symm hqR)
  ·have hkS:Keeps (fun k=>k=R \/ k=q) w' (w'.setRow q (qt_ cur 0 val.cells.toList)):=Keeps.setRow _ _ _ _ (.inr rfl)
   exact (h2.mono fun _ _ h=>.inl h).trans hkS
def gBx (g:G) (cx:Cx) (t f:Nat):GC:=qu_ 1 fun n=>[cl (some n) f [tm cx.b],mk none (.store g.tStr (tm t) (tm n))]
def gBoxStr (g:G) (cx:Cx) (t:Nat):GC:=if cx.hf then gFx cx (gUn (gBx g cx t (g.un .cstr)) (gBx g cx t (g.rd .cstr))) (gUn (gBx g cx t (g.un .str)) (gBx g cx t (g.rd .str))) else gUn (gBx g cx t (g.un .str)) (gBx g cx t (g.rd .str))
def gNn (g:G) (cx:Cx) (v:Nat):GC:=if cx.hf then gFx cx (gUn (qm_ (g.un .cnstr) cx.b v) (qm_ (g.rd .cnstr) cx.b v)) (gUn (qm_ (g.un .nstr) cx.b v) (qm_ (g.rd .nstr) cx.b v)) else gUn (qm_ (g.un .nstr) cx.b v) (qm_ (g.rd .nstr) cx.b v)
theorem up_boxStr (g:G) (cx:Cx) (t:Nat):Up (gBoxStr g cx t):=by
 unfold gBoxStr
 split
 ·exact j4_ (j4_ (qi_ _ _) (qi_ _ _)) (j4_ (qi_ _ _) (qi_ _ _))
 ·exact j4_ (qi_ _ _) (qi_ _ _)
theorem up_nn (g:G) (cx:Cx) (t:Nat):Up (gNn g cx t):=by
 unfold gNn
 split
 ·exact j4_ (j4_ (qi_ _ _) (qi_ _ _)) (j4_ (qi_ _ _) (qi_ _ _))
 ·exact j4_ (qi_ _ _) (qi_ _ _)
theorem CxOk.high (h:CxOk cx m k0):CxOk cx k0 k0:=
 have:=h.le
 ⟨⟨by have:=h.b;omega,h.b.2⟩,⟨by have:=h.s;omega,h.s.2⟩,⟨by have:=h.ver;omega,h.ver.2⟩,⟨by have:=h.fx;omega,h.fx.2⟩,by have:=h.six;omega,Nat.le_refl _⟩
theorem s_boxStr (K:KB P g av fl) {K':Act->World->Prop} (hp:av .str=true) (hp2:cx.hf=true->av .cstr=true) (hrc:RC g cx fx ver S R B O r a w) (hc:CxOk cx k0 k0) {vv q:Nat} {cur:Array Value} (hvv:a.get vv=pt q 0) (hvk:vv < k0) (hv6:vv ≠ 6) (hq:w.heap[q]?=some (.cells cur g.tStr (0,0))) (hqs:cur.size=1) (hqR:q ≠ R) (hqS:q ≠ S)
  (hk:k0<=n) (hn:(gBoxStr g cx vv n).2<=a.tmps.size)
  (h:∀ a' w',Pv 6 k0 k0 n a a'->(∃ l:Bs,((strPF false fx).run r).1=.s l/\l.length<=maxLen/\w'.cell? ⟨q,0,none⟩=some (.string ⟨l.toArray⟩))->RdS w' g.tR S R ((strPF false fx).run r).2->Keeps (fun k=>k=R \/ k=q) w w'->K' a' w') :
  NWP P (gBoxStr g cx vv n).1 (Exit.then K' Q) a w:=by
 unfold gBoxStr at hn ⊢
 cases hhf:cx.hf with
 | true=>
  simp only [hhf,if_true,gFx,gUn,gBx,gIf,qu_] at hn
  simp only [if_true]
  refine s_fx (x:=6) (m:=k0) (k0:=k0) (fx:=fx) (hrc.sf hhf) (Nat.le_refl _) hk (by omega) fun a1 hp1=>?_
  have hs1:=hp1.size
  have hrc1:RC g cx fx ver S R B O r a1 w:=hrc.step hc hp1 hrc.rd (Keeps.refl (fun _=>False) w) (fun _ _ h=>h.elim)
  have hv1:a1.get vv=pt q 0:=(hp1.get vv hv6 (.inl hvk)).trans hvv
  cases fx with
  | true=>
   simp only [if_true]
   refine s_un (x:=6) (m:=k0) (k0:=k0) hrc1.su (Nat.le_refl _) (by omega) (by omega) fun a2 hp2'=>?_
   have hs2:=hp2'.size
   have hrc2:RC g cx true ver S R B O r a2 w:=hrc1.step hc hp2' hrc1.rd (Keeps.refl (fun _=>False) w) (fun _ _ h=>h.elim)
   have hv2:a2.get vv=pt q 0:=(hp2'.get vv hv6 (.inl hvk)).trans hv1
   simp only [gBx,qu_] at hp2' ⊢
   exact s_rdBox K (p:=.cstr) (hp2 hhf) rfl hrc2 hv2 hq hqs hqR hqS (Nat.le_refl _) (by omega) (by omega) (by omega) fun a3 w3 h1 h2 h3 h4=>h a3 w3 ((hp1.trans (hp2'.mono (Nat.le_refl _) (by omega))).trans (h1.mono (Nat.le_refl _) (by omega))) h2 h3 h4
  | false=>
   simp only [Bool.false_eq_true,if_false]
   refine s_un (x:=6) (m:=k0) (k0:=k0) hrc1.su (Nat.le_refl _) (by simp [gUn,gIf,gBx,qu_];omega) (by simp [gUn,gIf,gBx,qu_];omega) fun a2 hp2'=>?_
   have hs2:=hp2'.size
   have hrc2:RC g cx false ver S R B O r a2 w:=hrc1.step hc hp2' hrc1.rd (Keeps.refl (fun _=>False) w) (fun _ _ h=>h.elim)
   have hv2:a2.get vv=pt q 0:=(hp2'.get vv hv6 (.inl hvk)).trans hv1
   simp only [gUn,gIf,gBx,qu_] at hp2' ⊢
   exact s_rdBox K (p:=.str) hp rfl hrc2 hv2 hq hqs hqR hqS (Nat.le_refl _) (by omega) (by omega) (by omega) fun a3 w3 h1 h2 h3 h4=>h a3 w3 ((hp1.trans (hp2'.mono (Nat.le_refl _) (by omega))).trans (h1.mono (Nat.le_refl _) (by omega))) h2 h3 h4
 | false=>
  have hfx:=hrc.nf hhf
  subst hfx
  simp only [hhf,Bool.false_eq_true,if_false,gUn,gBx,gIf,qu_] at hn
  simp only [Bool.false_eq_true,if_false]
  refine s_un (x:=6) (m:=k0) (k0:=k0) hrc.su (Nat.le_refl _) hk (by omega) fun a2 hp2'=>?_
  have hs2:=hp2'.size
  have hrc2:RC g cx false ver S R B O r a2 w:=hrc.step hc hp2' hrc.rd (Keeps.refl (fun _=>False) w) (fun _ _ h=>h.elim)
  have hv2:a2.get vv=pt q 0:=(hp2'.get vv hv6 (.inl hvk)).trans hvv
  simp only [gBx,qu_] at hp2' ⊢
  exact s_rdBox K (p:=.str) hp rfl hrc2 hv2 hq hqs hqR hqS (Nat.le_refl _) (by omega) (by omega) (by omega) fun a3 w3 h1 h2 h3 h4=>h a3 w3 (hp2'.trans (h1.mono (Nat.le_refl _) (by omega))) h2 h3 h4
def xi_ (fx:Bool) (ver:Int) (ty:Ty) (r:RS):V × RS:=
 match ty with
 | .prim p=>(js_ p).run r
 | .str nul=>(strPF (zm_ nul ver) fx).run r
 | .bytes nul=>(zh_ (zm_ nul ver) fx).run r
 | _=>(.nul,r)
theorem rdTy_leaf (fx:Bool) (ver:Int) (ty:Ty) (old:V) (r:RS) (h:ty.leaf=true):zq_ fx ver ty old r=.ok (xi_ fx ver ty r).1 (xi_ fx ver ty r).2:=by
 cases ty <;> first | rfl | cases h
def slotsOk (m k0 v:Nat) (x:List Nat):Bool:=decide (m<=v/\v < k0) && x.all fun t=>decide (m<=t/\t < k0) && t != v
def ValPost (g:G) (S R:Nat) (ty:Ty) (m k0 n v:Nat) (a:Act) (w:World) (res:V × RS) (a':Act) (w':World):Prop:=
 ∃ cs,Pv 6 m k0 n a a'/\ValAt w' a' (uuOf g ty) v cs/\RdS w' g.tR S R res.2/\Keeps (·=R) w w'/\∀ X:Nat->Prop,(∀ k,X k->k < w.heap.size)->¬ X S->LRp w' X ty cs res.1
theorem jy_ {p:PF} {ty:Ty} {v:Nat} {a':Act} {w':World} {val:Value} {res:V × RS} (hu:uuOf g ty=none) (h1:Pv 6 m k0 n a a') (h2:a'.get v=val) (h3:Got g S R p (pfTy p) r w val w') (hres:res=p.run r)
  (hl:∀ X cs y,LRp w' X (pfTy p) cs y->LRp w' X ty cs y):ValPost g S R ty m k0 n v a w res a' w':=by
 subst hres
 refine ⟨val.cells.toList,h1,?_,h3.1,h3.2.1,fun X hX hS=>hl X _ _ (h3.2.2 X hX hS)⟩
 rw [hu]
 exact ⟨val,h2,rfl⟩
theorem zu_ {cur:Array Value} {cs:List Value} (h:cs.length=cur.size):qt_ cur 0 cs=cs.toArray:=by
 simp [qt_,h]
theorem s_val (K:KB P g av fl) {ty:Ty} {v:Nat} {x:List Nat} {rest:List GC} (hty:okVal av cx.hf ty=true) (hrc:RC g cx fx ver S R B O r a w) (hc:CxOk cx m k0) (hk:k0<=n) (hsl:slotsOk m k0 v x=true) (hk0:k0<=a.tmps.size)
  (hx:(∃ t,x=[t]/\∃ q,ty=.str (some (q + 1))) \/ (x=[]/\∀ q,ty ≠ .str (some (q + 1))) \/ (∃ t u,x=[t,u]/\∃ p,ty=.prim p/\p ≠ .uuid))
  (hN:(gL (gVal g cx ty v x) n).2<=a.tmps.size)
  (h:∀ a' w',ValPost g S R ty m k0 n v a w (xi_ fx ver ty r) a' w'->LW P rest (gL (gVal g cx ty v x) n).2 Q a' w') :
  LW P (gVal g cx ty v x++rest) n Q a w:=by
 have hvm:m<=v/\v < k0:=by simp only [slotsOk,Bool.and_eq_true,decide_eq_true_eq] at hsl;exact hsl.1
 have hsx:∀ t ∈ x,(m<=t/\t < k0)/\t ≠ v:=fun t ht=>by
  simp only [slotsOk,Bool.and_eq_true,decide_eq_true_eq,List.all_eq_true] at hsl
  have:=hsl.2 t ht
  simpa using this
 cases ty with
 | list=>cases hty
 | struct=>cases hty
 | prim p=>
  by_cases hu:p=.uuid
  ·subst hu
   rcases hx with ⟨t,rfl,q,hq⟩ | ⟨rfl,_⟩ | ⟨t,u,rfl,p,hp,hne⟩
   ·cases hq
   ·simp only [okVal,js_] at hty
    simp only [gVal,gL,qu_] at hN
    refine qc_ (qj_ (qv_ (vs:=#[pt R 0]) (K.rdE .uuid hty) (by simp [qb_,hrc.sb]) (K.rdC .uuid hty w S R r hrc.rd hrc.SR) fun e w' hR=>?_))
    obtain ⟨val,he,h1,h2,h3⟩:=hR
    refine ⟨val,he,?_⟩
    obtain ⟨hvU,hzU⟩:=K.uuid hty
    refine zp_ (hzU w') ?_
    have hl:=(h3 (fun _=>False) (fun _ h=>h.elim) (fun h=>h.elim)).len
    have hcl:val.cells.toList.length=16:=by simpa [pfTy,Ty.sz] using hl
    have hone:∀ y ∈ val.cells.toList,y.oneCell'=true:=by
     obtain ⟨l,_,hl2,_⟩:=h3 (fun _=>False) (fun _ h=>h.elim) (fun h=>h.elim)
     intro y hy
     rw [hl2] at hy
     obtain ⟨b,_,rfl⟩:=List.mem_map.1 hy
     rfl
    have hnew:(w'.alloc (.cells (Value.agg (Array.replicate 16 (.int .u8 0))).cells g.tUuid (0,0))).heap[w'.heap.size]?=some (.cells (Array.replicate 16 (.int .u8 0)) g.tUuid (0,0)):=heap_alloc_new w' _
    refine q8_ (g:=w'.heap.size) (o:=0) (cur:=Array.replicate 16 (.int .u8 0)) (t:=g.tUuid) (v:=val) (vs:=val.cells.toList) ?_ ?_ rfl (by rw [hcl];exact hvU.size _) hnew (by rw [hcl];simp) hone (wpList_nil ?_)
    ·rw [qb_,gpe (by simp only [qa_];omega)]
    ·rw [qb_,gpo (by omega),gpe (by omega)]
    ·have hkA:Keeps (·=R) w' (w'.alloc (.cells (Value.agg (Array.replicate 16 (.int .u8 0))).cells g.tUuid (0,0))):=Keeps.alloc _ _ _
     have hkS:Keeps (fun k=>k=w'.heap.size) (w'.alloc (.cells (Value.agg (Array.replicate 16 (.int .u8 0))).cells g.tUuid (0,0))) ((w'.alloc (.cells (Value.agg (Array.replicate 16 (.int .u8 0))).cells g.tUuid (0,0))).setRow w'.heap.size (qt_ (Array.replicate 16 (.int .u8 0)) 0 val.cells.toList)):=
      Keeps.setRow _ _ _ _ rfl
     have hk0':Keeps (fun _=>False) w' ((w'.alloc (.cells (Value.agg (Array.replicate 16 (.int .u8 0))).cells g.tUuid (0,0))).setRow w'.heap.size (qt_ (Array.replicate 16 (.int .u8 0)) 0 val.cells.toList)):=
      ⟨rfl,rfl,rfl,by simp,fun k hkk _=>by rw [setRow_other _ _ _ _ (by omega)];exact (Keeps.alloc (fun _=>False) w' _).block k hkk id⟩
     refine h _ _ ⟨val.cells.toList,((Pv.refl _ _ _ _ _).put _ (by omega)).put _ (by omega),⟨w'.heap.size,0,gpe (by simp only [qa_];omega),?_⟩,?_,h2.trans (hk0'.mono fun _ _ h=>h.elim),fun X hX hS=>?_⟩
     ·intro j c hj
      have hjl:j < val.cells.toList.length:=(List.getElem?_eq_some_iff.1 hj).1
      rw [cell_setRow_same _ _ _ _ _ _ _ hnew,jw_ (by rw [hcl];simp) j hjl]
      exact hj
     ·exact h1.keep hk0' (fun h=>h.elim) (fun h=>h.elim)
     ·exact (h3 X hX hS).keep (hk0'.mono fun _ _ h=>h.elim)
   ·cases hp
    exact absurd rfl hne
  ·have hgv:∀ y,LRp y=LRp y:=fun _=>rfl
   have huu:uuOf g (.prim p)=none:=by cases p <;> first | rfl | exact absurd rfl hu
   have hpt:pfTy (js_ p)=.prim p:=by cases p <;> rfl
   have hleaf:xi_ fx ver (.prim p) r=(js_ p).run r:=rfl
   rcases hx with ⟨t,rfl,q,hq⟩ | ⟨rfl,_⟩ | ⟨t,u,rfl,p',hp',_⟩
   ·cases hq
   ·have hval:gVal g cx (.prim p) v []=[qm_ (g.rd (js_ p)) cx.b v]:=by cases p <;> first | rfl | exact absurd rfl hu
    rw [hval] at hN h ⊢
    simp only [gL,qm_,qu_] at hN
    refine qc_ (s_rd K hty hrc hvm hc.le hk (by omega) (by omega) fun a' w' val h1 h2 h3=>h a' w' ?_)
    exact jy_ huu h1 h2 h3 rfl (fun X cs y hh=>by rw [<- hpt];exact hh)
   ·have hval:gVal g cx (.prim p) v [t,u]=[ji_ t (.int .i8 0),gS [qm_ (g.rd (js_ p)) cx.b u,jf_ u t],jf_ t v]:=by cases p <;> first | rfl | exact absurd rfl hu
    rw [hval] at hN h ⊢
    obtain ⟨ht,htv⟩:=hsx t (by simp)
    obtain ⟨hu',huv⟩:=hsx u (by simp)
    simp only [gL,gS,qm_,jf_,ji_,qu_] at hN
    refine qc_ (xa_ (x:=6) (m:=m) (k0:=k0) (n:=n) (.inr ht) (by omega) fun a1 hp1 _=>?_)
    have hrc1:RC g cx fx ver S R B O r a1 w:=hrc.step hc hp1 hrc.rd (Keeps.refl (fun _=>False) w) (fun _ _ h=>h.elim)
    have hs1:=hp1.size
    refine qc_ (q2_ (qc_ (s_rd K hty hrc1 hu' hc.le (by simpa [ji_,qu_] using hk) (by simp [ji_,qu_];omega) (by omega) fun a2 w2 val h1 h2 h3=>?_)))
    have hs2:=h1.size
    refine qc_ (s_move (x:=6) (m:=m) (k0:=k0) (.inr ht) hc.le (by simp [ji_,qu_,qm_];omega) (by simp [ji_,qu_,qm_];omega) (by omega) fun a3 hp3 hg3=>q0_ ?_)
    have hs3:=hp3.size
    refine qc_ (s_move (x:=6) (m:=m) (k0:=k0) (.inr hvm) hc.le (by simp [gS,gL,ji_,qu_,qm_,jf_];omega) (by simp [gS,gL,ji_,qu_,qm_,jf_];omega) (by omega) fun a4 hp4 hg4=>h a4 w2 ?_)
    simp only [ji_,qu_,qm_,gS,gL,jf_] at hp1 h1 hp3 hp4
    have hpv:Pv 6 m k0 n a a4:=((hp1.trans (h1.mono (Nat.le_refl _) (by omega))).trans (hp3.mono (Nat.le_refl _) (by omega))).trans (hp4.mono (Nat.le_refl _) (by omega))
    exact jy_ huu hpv (by rw [hg4,hg3,h2]) h3 rfl (fun X cs y hh=>by rw [<- hpt];exact hh)
 | bytes nul=>
  have huu:uuOf g (.bytes nul)=none:=rfl
  obtain rfl:x=[]:=by
   rcases hx with ⟨t,rfl,q,hq⟩ | ⟨rfl,_⟩ | ⟨t,u,rfl,p',hp',_⟩
   ·cases hq
   ·rfl
   ·cases hp'
  have hnul:nul=none \/ nul=some 0:=by
   cases nul with
   | none=>exact .inl rfl
   | some q=>cases q with
    | zero=>exact .inr rfl
    | succ q=>simp [okVal] at hty
  have hnn:zm_ nul ver=nul.isSome:=by rcases hnul with rfl | rfl <;> simp [zm_]
  have hav:av (zh_ nul.isSome false)=true/\(cx.hf=true->av (zh_ nul.isSome true)=true):=by
   rcases hnul with rfl | rfl <;> simp only [okVal,Bool.and_eq_true,Bool.or_eq_true,Bool.not_eq_true'] at hty <;> refine ⟨hty.1,fun hh=>?_⟩ <;> rcases hty.2 with h | h <;> first | (rw [hh] at h;cases h) | exact h
  have hleaf:xi_ fx ver (.bytes nul) r=(zh_ nul.isSome fx).run r:=by simp only [xi_,hnn]
  have hpt:∀ (b:Bool) (w:World) X cs y,LRp w X (pfTy (zh_ nul.isSome b)) cs y->LRp w X (.bytes nul) cs y:=by
   intro b w X cs y hh
   rcases hnul with rfl | rfl <;> cases b <;> exact hh
  cases hhf:cx.hf with
  | true=>
   have hval:gVal g cx (.bytes nul) v []=[ji_ v (.slice none 0 0),gFx cx (qm_ (g.rd (zh_ nul.isSome true)) cx.b v) (qm_ (g.rd (zh_ nul.isSome false)) cx.b v)]:=by simp [gVal,hhf]
   rw [hval] at hN h ⊢
   simp only [gL,gFx,gIf,qm_,ji_,qu_] at hN
   refine qc_ (xa_ (x:=6) (m:=m) (k0:=k0) (n:=n) (.inr hvm) (by omega) fun a1 hp1 _=>?_)
   have hrc1:RC g cx fx ver S R B O r a1 w:=hrc.step hc hp1 hrc.rd (Keeps.refl (fun _=>False) w) (fun _ _ h=>h.elim)
   have hs1:=hp1.size
   refine qc_ (s_rdFx K (hav.2 hhf) hav.1 hhf hrc1 hc hvm (by simpa [ji_,qu_] using hk) (by simp [ji_,qu_];omega) (by omega) fun a2 w2 val h1 h2 h3=>h a2 w2 ?_)
   simp only [ji_,qu_] at h1
   have e:(if fx=true then zh_ nul.isSome true else zh_ nul.isSome false)=zh_ nul.isSome fx:=by cases fx <;> rfl
   rw [e] at h3
   exact jy_ huu (hp1.trans h1) h2 h3 hleaf (hpt fx w2)
  | false=>
   have hfx:=hrc.nf hhf
   subst hfx
   have hval:gVal g cx (.bytes nul) v []=[qm_ (g.rd (zh_ nul.isSome false)) cx.b v]:=by simp [gVal,hhf]
   rw [hval] at hN h ⊢
   simp only [gL,qm_,qu_] at hN
   exact qc_ (s_rd K hav.1 hrc hvm hc.le hk (by omega) (by omega) fun a' w' val h1 h2 h3=>h a' w' (jy_ huu h1 h2 h3 hleaf (hpt false w')))
 | str nul=>
  have huu:uuOf g (.str nul)=none:=rfl
  cases nul with
  | none=>
   obtain rfl:x=[]:=by
    rcases hx with ⟨t,rfl,q,hq⟩ | ⟨rfl,_⟩ | ⟨t,u,rfl,p',hp',_⟩
    ·cases hq
    ·rfl
    ·cases hp'
   have hleaf:xi_ fx ver (.str none) r=(strPF false fx).run r:=rfl
   simp only [okVal,Bool.and_eq_true,Bool.or_eq_true,Bool.not_eq_true'] at hty
   have hpt:∀ (b:Bool) (w:World) X cs y,LRp w X (pfTy (strPF false b)) cs y->LRp w X (.str none) cs y:=by
    intro b w X cs y hh
    cases b <;> exact hh
   cases hhf:cx.hf with
   | true=>
    have hval:gVal g cx (.str none) v []=[ji_ v (.string ⟨#[]⟩),gUn (gFx cx (qm_ (g.un .cstr) cx.b v) (qm_ (g.un .str) cx.b v)) (gFx cx (qm_ (g.rd .cstr) cx.b v) (qm_ (g.rd .str) cx.b v))]:=by simp [gVal,hhf]
    rw [hval] at hN h ⊢
    simp only [gL,gUn,gFx,gIf,qm_,ji_,qu_] at hN
    have hav:av .cstr=true:=by rcases hty.2 with h | h;rw [hhf] at h;cases h;exact h
    refine qc_ (xa_ (x:=6) (m:=m) (k0:=k0) (n:=n) (.inr hvm) (by omega) fun a1 hp1 _=>?_)
    have hrc1:RC g cx fx ver S R B O r a1 w:=hrc.step hc hp1 hrc.rd (Keeps.refl (fun _=>False) w) (fun _ _ h=>h.elim)
    have hs1:=hp1.size
    refine qc_ (s_un (x:=6) (m:=m) (k0:=k0) hrc1.su hc.le (by simpa [ji_,qu_] using hk) (by simp [ji_,qu_];omega) fun a2 hp2=>?_)
    have hs2:=hp2.size
    have hrc2:RC g cx fx ver S R B O r a2 w:=hrc1.step hc hp2 hrc1.rd (Keeps.refl (fun _=>False) w) (fun _ _ h=>h.elim)
    refine s_rdFx K hav hty.1 hhf hrc2 hc hvm (by simp [ji_,gFx,gIf,qm_,qu_];omega) (by simp [ji_,gFx,gIf,qm_,qu_];omega) (by omega) fun a3 w3 val h1 h2 h3=>h a3 w3 ?_
    simp only [ji_,gFx,gIf,qm_,qu_] at h1 hp2
    have e:(if fx=true then PF.cstr else PF.str)=strPF false fx:=by cases fx <;> rfl
    rw [e] at h3
    exact jy_ huu ((hp1.trans (hp2.mono (Nat.le_refl _) (by omega))).trans (h1.mono (Nat.le_refl _) (by omega))) h2 h3 hleaf (hpt fx w3)
   | false=>
    have hfx:=hrc.nf hhf
    subst hfx
    have hval:gVal g cx (.str none) v []=[ji_ v (.string ⟨#[]⟩),gUn (qm_ (g.un .str) cx.b v) (qm_ (g.rd .str) cx.b v)]:=by simp [gVal,hhf]
    rw [hval] at hN h ⊢
    simp only [gL,gUn,gIf,qm_,ji_,qu_] at hN
    refine qc_ (xa_ (x:=6) (m:=m) (k0:=k0) (n:=n) (.inr hvm) (by omega) fun a1 hp1 _=>?_)
    have hrc1:RC g cx false ver S R B O r a1 w:=hrc.step hc hp1 hrc.rd (Keeps.refl (fun _=>False) w) (fun _ _ h=>h.elim)
    have hs1:=hp1.size
    refine qc_ (s_un (x:=6) (m:=m) (k0:=k0) hrc1.su hc.le (by simpa [ji_,qu_] using hk) (by simp [ji_,qu_];omega) fun a2 hp2=>?_)
    have hs2:=hp2.size
    have hrc2:RC g cx false ver S R B O r a2 w:=hrc1.step hc hp2 hrc1.rd (Keeps.refl (fun _=>False) w) (fun _ _ h=>h.elim)
    refine s_rd K hty.1 hrc2 hvm hc.le (by simp [ji_,qm_,qu_];omega) (by simp [ji_,qm_,qu_];omega) (by omega) fun a3 w3 val h1 h2 h3=>h a3 w3 ?_
    simp only [ji_,qm_,qu_] at h1 hp2
    exact jy_ huu ((hp1.trans (hp2.mono (Nat.le_refl _) (by omega))).trans (h1.mono (Nat.le_refl _) (by omega))) h2 h3 hleaf (hpt false w3)
  | some q=>
   cases q with
   | zero=>
    obtain rfl:x=[]:=by
     rcases hx with ⟨t,rfl,q,hq⟩ | ⟨rfl,_⟩ | ⟨t,u,rfl,p',hp',_⟩
     ·cases hq
     ·rfl
     ·cases hp'
    have hleaf:xi_ fx ver (.str (some 0)) r=(strPF true fx).run r:=by simp [xi_,zm_]
    simp only [okVal,Bool.and_eq_true,Bool.or_eq_true,Bool.not_eq_true'] at hty
    have hval:gVal g cx (.str (some 0)) v []=[ji_ v (.pointer none),if cx.hf then gFx cx (gUn (qm_ (g.un .cnstr) cx.b v) (qm_ (g.rd .cnstr) cx.b v)) (gUn (qm_ (g.un .nstr) cx.b v) (qm_ (g.rd .nstr) cx.b v)) else gUn (qm_ (g.un .nstr) cx.b v) (qm_ (g.rd .nstr) cx.b v)]:=rfl
    rw [hval] at hN h ⊢
    refine qc_ (xa_ (x:=6) (m:=m) (k0:=k0) (n:=n) (.inr hvm) (by omega) fun a1 hp1 _=>?_)
    have hrc1:RC g cx fx ver S R B O r a1 w:=hrc.step hc hp1 hrc.rd (Keeps.refl (fun _=>False) w) (fun _ _ h=>h.elim)
    have hs1:=hp1.size
    refine qc_ (s_nstr K hty.1 (fun hhf=>by rcases hty.2 with h | h;rw [hhf] at h;cases h;exact h) hrc1 hc hvm (by simpa [ji_,qu_] using hk) (by rw [hs1];exact hN) (by omega) fun a2 w2 val h1 h2 h3=>h a2 w2 ?_)
    simp only [ji_,qu_] at h1
    have h3':Got g S R (strPF true fx) (pfTy (strPF true fx)) r w val w2:=by cases fx <;> exact h3
    exact jy_ huu (hp1.trans (h1.mono (Nat.le_refl _) (by omega))) h2 h3' hleaf (fun X cs y hh=>by cases fx <;> exact hh)
   | succ q=>
    obtain ⟨t,rfl⟩:∃ t,x=[t]:=by
     rcases hx with ⟨t,rfl,_⟩ | ⟨rfl,hh⟩ | ⟨t,u,rfl,p',hp',_⟩
     ·exact ⟨t,rfl⟩
     ·exact absurd rfl (hh q)
     ·cases hp'
    obtain ⟨ht,htv⟩:=hsx t (by simp)
    simp only [okVal,Bool.and_eq_true,Bool.or_eq_true,Bool.not_eq_true'] at hty
    obtain ⟨⟨hs,hns⟩,hcs⟩:=hty
    have hc1:cx.hf=true->av .cstr=true:=fun hh=>by rcases hcs with e | e;rw [hh] at e;cases e;exact e.1
    have hc2:cx.hf=true->av .cnstr=true:=fun hh=>by rcases hcs with e | e;rw [hh] at e;cases e;exact e.2
    have h6m:=hc.six
    have hle:=hc.le
    have hval:gVal g cx (.str (some (q + 1))) v [t]=[ji_ v (.pointer none),gIf 1 2 (fun n=>[mk (some n) (.move (tm cx.ver)),mk (some (n + 1)) (.binOp .lss g.tVer (tm n) (ki .i16 ((q:Int) + 1)) 0)])
      (gS [qu_ 0 fun _=>[mk (some t) (.alloc g.tStr)],gBoxStr g cx t,qu_ 0 fun _=>[mk (some v) (.assign (tm t))]]) (gNn g cx v)]:=rfl
    rw [hval] at hN h ⊢
    have hN2:(gNn g cx v (gBoxStr g cx t (n + 2)).2).2<=a.tmps.size:=hN
    have hu1:n + 2<=(gBoxStr g cx t (n + 2)).2:=up_boxStr g cx t (n + 2)
    have hu2:(gBoxStr g cx t (n + 2)).2<=(gNn g cx v (gBoxStr g cx t (n + 2)).2).2:=up_nn g cx v _
    refine qc_ (xa_ (x:=6) (m:=m) (k0:=k0) (n:=n) (.inr hvm) (by omega) fun a1 hp1 _=>?_)
    have hs1:=hp1.size
    have hrc1:RC g cx fx ver S R B O r a1 w:=hrc.step hc hp1 hrc.rd (Keeps.refl (fun _=>False) w) (fun _ _ h=>h.elim)
    refine qc_ ?_
    show NWP P (gIf 1 2 _ _ _ n).1 _ a1 w
    by_cases hlt:ver < (q:Int) + 1
    ·have e:xi_ fx ver (.str (some (q + 1))) r=(strPF false fx).run r:=by
      have:zm_ (some (q + 1)) ver=false:=by simp [zm_];omega
      simp only [xi_,this]
     refine z3_ (qd_ ?_)
     rw [qb_,hrc1.sv]
     refine q9_ (b:=true) (q:=(q:Int) + 1) (p:=ver) (k:=.i16) (by rw [qb_,gpe (by omega)]) rfl (.inr (.inr (.inl ⟨rfl,by simp;omega⟩))) (wpList_nil ⟨by rw [qb_,gpe (by simp only [qa_];omega)],q2_ (qc_ (qj_ (zp_ (K.vStr.2 w) (wpList_nil ?_))))⟩)
     have hp2:Pv 6 m k0 n a (((a1.put (some n) (.int .i16 ver)).put (some (n + 1)) (.bool true)).put (some t) (.pointer (some ⟨w.heap.size,0,none⟩))):=((hp1.put _ (by omega)).put _ (by omega)).put _ (by omega)
     have hgt:(((a1.put (some n) (.int .i16 ver)).put (some (n + 1)) (.bool true)).put (some t) (.pointer (some ⟨w.heap.size,0,none⟩))).get t=pt w.heap.size 0:=gpe (by simp only [qa_];omega)
     show LW P _ (n + 2) _ (((a1.put (some n) (.int .i16 ver)).put (some (n + 1)) (.bool true)).put (some t) (.pointer (some ⟨w.heap.size,0,none⟩))) _
     generalize (((a1.put (some n) (.int .i16 ver)).put (some (n + 1)) (.bool true)).put (some t) (.pointer (some ⟨w.heap.size,0,none⟩)))=a2 at hp2 hgt
     have hs2:=hp2.size
     have hkA:Keeps (fun _=>False) w (w.alloc (.cells (Value.string ⟨#[]⟩).cells g.tStr (0,0))):=Keeps.alloc _ _ _
     have hnew:(w.alloc (.cells (Value.string ⟨#[]⟩).cells g.tStr (0,0))).heap[w.heap.size]?=some (.cells #[.string ⟨#[]⟩] g.tStr (0,0)):=heap_alloc_new w _
     have hRlt:=hrc.rd.lt
     have hSlt:=hrc.Slt
     have hrc2:RC g cx fx ver S R B O r a2 (w.alloc (.cells (Value.string ⟨#[]⟩).cells g.tStr (0,0))):=hrc.step hc hp2 (hrc.rd.keep hkA (fun h=>h) (fun h=>h)) hkA (fun _ _ h=>h.elim)
     refine qc_ (s_boxStr K hs hc1 hrc2 (CxOk.high hc) hgt ht.2 (by omega) hnew rfl (by omega) (by omega) (by omega) (by omega) fun a3 w3 hp3 hl3 hrd3 hk3=>?_)
     have hs3:=hp3.size
     have hg3:a3.get t=pt w.heap.size 0:=(hp3.get t (by omega) (.inl ht.2)).trans hgt
     refine qc_ (qj_ (qg_ (wpList_nil (q0_ ?_))))
     rw [qb_,hg3]
     refine h _ _ ?_
     rw [e]
     obtain ⟨l,hl1,hl2,hl3⟩:=hl3
     refine ⟨[.pointer (some ⟨w.heap.size,0,none⟩)],(hp2.trans (hp3.mono hle (by omega))).put _ (by omega),?_,hrd3,?_,fun X hX hS=>?_⟩
     ·rw [huu]
      exact ⟨_,gpe (by omega),rfl⟩
     ·exact ((hkA.mono fun _ _ h=>h.elim).trans hk3).mono fun k hk h=>h.elim id (fun e=>absurd hk (by omega))
     ·exact .inr ⟨l,_,0,rfl,fun hx=>Nat.lt_irrefl _ (hX _ hx),hl3,hl1,hl2⟩
    ·have e:xi_ fx ver (.str (some (q + 1))) r=(strPF true fx).run r:=by
      have:zm_ (some (q + 1)) ver=true:=by simp [zm_];omega
      simp only [xi_,this]
     refine z2_ (qd_ ?_)
     rw [qb_,hrc1.sv]
     refine q9_ (b:=false) (q:=(q:Int) + 1) (p:=ver) (k:=.i16) (by rw [qb_,gpe (by omega)]) rfl (.inr (.inr (.inl ⟨rfl,by simp;omega⟩))) (wpList_nil ⟨by rw [qb_,gpe (by simp only [qa_];omega)],?_⟩)
     have hp2:Pv 6 m k0 n a ((a1.put (some n) (.int .i16 ver)).put (some (n + 1)) (.bool false)):=(hp1.put _ (by omega)).put _ (by omega)
     show NWP P (gNn g cx v (gBoxStr g cx t (n + 2)).2).1 _ ((a1.put (some n) (.int .i16 ver)).put (some (n + 1)) (.bool false)) w
     generalize ((a1.put (some n) (.int .i16 ver)).put (some (n + 1)) (.bool false))=a2 at hp2
     have hs2:=hp2.size
     have hrc2:RC g cx fx ver S R B O r a2 w:=hrc.step hc hp2 hrc.rd (Keeps.refl (fun _=>False) w) (fun _ _ h=>h.elim)
     refine s_nstr K hns hc2 hrc2 hc hvm (by omega) (by rw [hs2];exact hN2) (by omega) fun a3 w3 val h1 h2 h3=>h a3 w3 ?_
     have h3':Got g S R (strPF true fx) (pfTy (strPF true fx)) r w val w3:=by cases fx <;> exact h3
     exact jy_ huu (hp2.trans (h1.mono (Nat.le_refl _) (by omega))) h2 h3' e (fun X cs y hh=>by cases fx <;> exact hh)
end
def Rt (N E:Act->World->Prop):Exit->Act->World->Prop
 | .normal,a,w=>N a w
 | .ret,a,w=>E a w
 | _,_,_=>False
theorem qr_ {N K E:Act->World->Prop}:Exit.then K (Rt N E)=Rt K E:=by
 funext e a w
 cases e <;> rfl
section
variable {P:Program} {g:G} {m k0 n:Nat} {K N E:Act->World->Prop} {a:Act} {w:World}
theorem rt_mono {K K' E E':Act->World->Prop} {c:Code} (h:NWP P c (Rt K E) a w) (hk:∀ a w,K a w->K' a w) (he:∀ a w,E a w->E' a w):NWP P c (Rt K' E') a w:=
 .mono h fun e a w hq=>by cases e <;> first | exact hk _ _ hq | exact he _ _ hq | exact hq
theorem s_for {i l b1 b2:Nat} {body:GC} {L:Int} (hi:m<=i/\i < k0) (hli:l < i) (h6:6 < i) (hl6:l ≠ 6) (_hm:m<=k0) (hk:k0<=n) (hn:n + 5<=a.tmps.size) (hl:a.get l=.int .i32 L) (hL:L < 2147483648) (W:Nat->World->Prop) (h0:W 0 w)
  (hbody:∀ (j:Nat) (a1:Act) (w1:World),j < L.toNat->Pv 6 i k0 n a a1->a1.get i=.int .i32 j->W j w1->NWP P (body (n + 5)).1 (Rt (fun a2 w2=>Pv 6 (i + 1) k0 (n + 5) a1 a2/\W (j + 1) w2) E) a1 w1)
  (hend:∀ a1 w1,Pv 6 i k0 n a a1->W L.toNat w1->K a1 w1):NWP P (gFor g i l b1 b2 body n).1 (Rt K E) a w:=by
 have his:i < a.tmps.size:=by omega
 refine .seq (R:=Rt (fun a' w'=>Pv 6 i k0 n a a'/\a'.get i=.int .i32 ((0:Nat):Int)/\w'=w) E) (.reg (qg_ (wpList_nil ?_))) (fun a' w' hh=>?_) (fun e a w he hq=>by cases e <;> first | exact absurd rfl he | exact hq)
 ·exact ⟨(Pv.refl _ _ _ _ _).put _ (by omega),zw_ _ _ _ his,rfl⟩
 ·obtain ⟨hp,hgi,rfl⟩:=hh
  refine .block (.loop (fun a1 w1=>∃ j:Nat,j<=L.toNat/\Pv 6 i k0 n a a1/\a1.get i=.int .i32 (j:Int)/\W j w1) (fun a1 _=>(L - (match a1.get i with | .int _ q=>q | _=>0)).toNat) ⟨0,by omega,hp,hgi,h0⟩ ?_)
  rintro a1 w1 ⟨j,hj,hp1,hg1,hW⟩
  have hs1:=hp1.size
  have hl1:a1.get l=.int .i32 L:=by rw [hp1.get l hl6 (.inl hli)];exact hl
  have htest:∀ (b:Bool),b=decide ((j:Int) < L)->wpList P [mk (some n) (.move (tm i)),mk (some (n + 1)) (.move (tm l)),mk (some (n + 2)) (.binOp .lss g.tI32 (tm n) (tm (n + 1)) 0)].toArray
    (Rt (fun a' w'=>a'.eval (tm (n + 2))=.bool b/\Pv 6 (i + 1) k0 n a1 a'/\w'=w1) E) [mk (some n) (.move (tm i)),mk (some (n + 1)) (.move (tm l)),mk (some (n + 2)) (.binOp .lss g.tI32 (tm n) (tm (n + 1)) 0)] a1 w1:=by
   intro b hb
   refine qd_ ?_
   rw [qb_,hg1]
   refine qd_ ?_
   rw [qb_,gpo (by omega),hl1]
   refine q9_ (b:=b) (p:=j) (q:=L) (k:=.i32) (by rw [qb_,gpo (by omega),gpe (by omega)]) (by rw [qb_,gpe (by rw [qa_];omega)]) (.inr (.inr (.inl ⟨rfl,hb⟩))) (wpList_nil ?_)
   exact ⟨by rw [qb_,gpe (by simp only [qa_];omega)],(((Pv.refl _ _ _ _ _).put _ (by omega)).put _ (by omega)).put _ (by omega),rfl⟩
  by_cases hlt:(j:Int) < L
  ·refine .seq (R:=Rt (fun a2 w2=>Pv 6 (i + 1) k0 n a1 a2/\w2=w1) E) ?_ (fun a2 w2 hh=>?_) (fun e a w he hq=>by cases e <;> first | exact absurd rfl he | exact hq | exact hq.elim)
   ·refine .seq (.reg (htest true (by simp [hlt]))) (fun a2 w2 hh=>.condT hh.1 (.skip hh.2)) (fun e a w he hq=>by cases e <;> first | exact absurd rfl he | exact hq)
   ·obtain ⟨hp2,rfl⟩:=hh
    have hp02:Pv 6 i k0 n a a2:=hp1.trans (hp2.mono (by omega) (Nat.le_refl _))
    have hg2:a2.get i=.int .i32 (j:Int):=by rw [hp2.get i (by omega) (.inl (by omega))];exact hg1
    have hb:=hbody j a2 w2 (by omega) hp02 hg2 hW
    have hs2:=hp2.size
    refine .seq (R:=Rt (fun a3 w3=>Pv 6 (i + 1) k0 (n + 5) a2 a3/\W (j + 1) w3) E) (.block (.mono hb fun e a w hq=>by cases e <;> first | exact hq | exact hq.elim)) (fun a3 w3 hh=>?_) (fun e a w he hq=>by cases e <;> first | exact absurd rfl he | exact hq | exact hq.elim)
    obtain ⟨hp3,hW3⟩:=hh
    have hs3:=hp3.size
    have hg3:a3.get i=.int .i32 (j:Int):=by rw [hp3.get i (by omega) (.inl (by omega))];exact hg2
    refine .reg (qd_ ?_)
    rw [qb_,hg3]
    have hwr:IntKind.i32.wrap ((j:Int) + 1)=((j + 1:Nat):Int):=by simp [IntKind.wrap,IntKind.bits,IntKind.signed];omega
    refine zk_ (v:=.int .i32 ((j + 1:Nat):Int)) (k:=.i32) (m:=j) (n:=1) (by rw [qb_,gpe (by omega)]) rfl (by simp) (by simp [binOp,Op.intArith,hwr]) ?_
    refine qg_ (wpList_nil ?_)
    rw [qb_,gpe (by simp only [qa_];omega)]
    have hgi':(((a3.put (some (n + 3)) (.int .i32 (j:Int))).put (some (n + 4)) (.int .i32 ((j + 1:Nat):Int))).put (some i) (.int .i32 ((j + 1:Nat):Int))).get i=.int .i32 ((j + 1:Nat):Int):=gpe (by simp only [qa_];omega)
    refine ⟨⟨j + 1,by omega,?_,hgi',hW3⟩,?_⟩
    ·exact ((hp02.trans (hp3.mono (by omega) (by omega))).put _ (by omega)).put _ (by omega) |>.put _ (by omega)
    ·rw [hgi',hg1]
     simp only
     omega
  ·have hjL:j=L.toNat:=by omega
   refine .seq (R:=fun e a w=>e ≠ .normal/\Exit.inBlock b1 (Rt K E) e a w) ?_ (fun a2 w2 hh=>absurd rfl hh.1) (fun e a w he hq=>?_)
   ·refine .seq (R:=Rt (fun a' w'=>a'.eval (tm (n + 2))=.bool false/\Pv 6 (i + 1) k0 n a1 a'/\w'=w1) E) (.reg (htest false (by simp [hlt]))) (fun a2 w2 hh=>.condF hh.1 (.exit ?_)) (fun e a w he hq=>by cases e <;> first | exact absurd rfl he | exact ⟨by simp,hq⟩ | exact hq.elim)
    simp only [Exit.inBlock,if_true]
    refine ⟨by simp,?_⟩
    obtain ⟨_,hp2,rfl⟩:=hh
    exact hend a2 w2 (hp1.trans (hp2.mono (by omega) (Nat.le_refl _))) (hjL ▸ hW)
   ·rw [zc_ he];exact hq.2
variable {av:PF->Bool} {fl:Bool} {cx:Cx} {fx:Bool} {ver:Int} {S R B O:Nat} {r:RS}
theorem s_ret (K0:KB P g av fl) (hrc:RC g cx fx ver S R B O r a w) (hb:r.bad=true) (h6:6 < a.tmps.size) (hm:m<=k0) (hk:k0<=n) (hn:n < a.tmps.size)
  (h:∀ a' w',Pv 6 m k0 n a a'->(∃ t y,a'.get 6=.iface t y)->Keeps (fun _=>False) w w'->E a' w'):NWP P (gRet g cx.b n).1 (Rt N E) a w:=by
 refine q2_ (qc_ (qj_ (qv_ (vs:=#[pt R 0]) K0.cmE (by simp [qb_,hrc.sb]) (K0.cmC w S R r hrc.rd hrc.err) fun e w' hR=>?_)))
 obtain ⟨hk',v,he,_,hv⟩:=hR
 obtain ⟨t,y,rfl⟩:=hv hb
 refine ⟨_,he,qg_ (wpList_nil ?_)⟩
 rw [qb_,zw_ _ _ _ hn]
 exact qc_ (.ret (h _ w' (((Pv.refl _ _ _ _ _).put _ (by omega)).put _ (by omega)) ⟨t,y,gpe (by rw [qa_];exact h6)⟩ hk'))
theorem s_okChk (K0:KB P g av fl) (hho:za_ g.ok=true) (hrc:RC g cx fx ver S R B O r a w) (hc:CxOk cx m k0) (hk:k0<=n) (hn:n + 3<=a.tmps.size)
  (hbad:r.bad=true->∀ a' w',Pv 6 m k0 n a a'->(∃ t y,a'.get 6=.iface t y)->Keeps (fun _=>False) w w'->E a' w')
  (hok:r.bad=false->∀ a' w',Pv 6 m k0 n a a'->Keeps (fun _=>False) w w'->K a' w'):NWP P (gOkChk g cx n).1 (Rt K E) a w:=by
 have hops:∀ (b:Bool),b=r.bad->wpList P [cl (some n) g.ok [tm cx.b],mk (some (n + 1)) (.unOp .not g.tBool (tm n))].toArray
   (Rt (fun a' w'=>a'.eval (tm (n + 1))=.bool b/\Pv 6 m k0 n a a'/\Keeps (fun _=>False) w w') E) [cl (some n) g.ok [tm cx.b],mk (some (n + 1)) (.unOp .not g.tBool (tm n))] a w:=by
  intro b hb
  refine qv_ (vs:=#[pt R 0]) (K0.okE hho) (by simp [qb_,hrc.sb]) (K0.okC hho w S R r hrc.rd) fun e w' hR=>⟨_,hR.1,?_⟩
  refine wl_not (b:=!r.bad) (by rw [qb_,gpe (by omega)]) (wpList_nil ⟨?_,((Pv.refl _ _ _ _ _).put _ (by have:=hc.le;omega)).put _ (by have:=hc.le;omega),hR.2⟩)
  rw [qb_,gpe (by rw [qa_];omega),hb]
  simp
 have h6:=hc.six
 have hle:=hc.le
 cases hb:r.bad with
 | true=>
  refine .seq (.reg (hops true hb.symm)) (fun a' w' hh=>.condT hh.1 ?_) (fun e a w he hq=>by cases e <;> first | exact absurd rfl he | exact hq)
  obtain ⟨_,hp,hkk⟩:=hh
  have hs:=hp.size
  have hrc':=hrc.step hc hp (hrc.rd.keep hkk id id) hkk (fun _ _ h=>h.elim)
  exact s_ret (m:=m) (k0:=k0) K0 hrc' hb (by omega) hc.le (by omega) (by omega) fun a2 w2 h1 h2 h3=>hbad hb a2 w2 (hp.trans (h1.mono (Nat.le_refl _) (by omega))) h2 (hkk.trans h3)
 | false=>
  refine .seq (.reg (hops false hb.symm)) (fun a' w' hh=>.condF hh.1 (.skip ?_)) (fun e a w he hq=>by cases e <;> first | exact absurd rfl he | exact hq)
  exact hok hb a' w' hh.2.1 hh.2.2
theorem s_sl0 {Q:Exit->Act->World->Prop} {x y F E' sz c:Nat} {base:Option Addr} (hy:a.get y=.slice base 0 c) (hF:P.underlying F=some (.slice E')) (hs:∀ w,(sizeOf E').run P w=.ok sz w) (hy1:y=x \/ (m<=y/\y < k0)) (hm:m<=k0) (hk:k0<=n) (hn:n + 2<=a.tmps.size) (hys:y < a.tmps.size)
  (h:∀ a',Pv x m k0 n a a'->a'.get y=.slice base 0 c->K a' w):NWP P (gSl0 y F n).1 (Exit.then K Q) a w:=by
 refine qj_ (qd_ ?_)
 rw [qb_,hy]
 refine wl_slice0 (by rw [qb_,gpe (by omega)]) hF (hs w) (qg_ (wpList_nil ?_))
 rw [qb_,gpe (by rw [qa_];omega)]
 exact h _ ((((Pv.refl _ _ _ _ _).put _ (by omega)).put _ (by omega)).put _ (by omega)) (gpe (by simp only [qa_];omega))
structure RowIs (P:Program) (F E' sz:Nat) (z:Array Value):Prop where
 und:P.underlying F=some (.slice E')
 info:∃ i z',P.info? E'=some i/\i.zero=some z'/\z'.cells=z/\i.size=sz/\z.size=sz/\0 < sz/\0 < i.bytes/\i.bytes<=24 * sz + 8
theorem RowIs.size {F E' sz:Nat} {z:Array Value} (h:RowIs P F E' sz z) (w:World):(sizeOf E').run P w=.ok sz w:=by
 obtain ⟨i,z',h1,_,_,h4,_⟩:=h.info
 simp [Go.sizeOf,typeInfo,h1,h4]
theorem s_grow {Q:Exit->Act->World->Prop} (K0:KB P g av fl) {x y l F E' sz:Nat} {z:Array Value} {base:Option Addr} {L:Int} (hy:a.get y=.slice base 0 0) (hl:a.get l=.int .i32 L) (hF:RowIs P F E' sz z) (hL:L < 2147483648) (hroom:roomy L sz=true)
  (hy1:y=x \/ (m<=y/\y < k0)) (hyn:y < n) (hm:m<=k0) (hln:l < n) (hk:k0<=n) (hn:n + 5<=a.tmps.size)
  (hno:L<=0->∀ a',Pv x m k0 n a a'->a'.get y=.slice base 0 0->K a' w)
  (hyes:0 < L->∀ (a':Act) (c:Nat) (cs:Array Value),Pv x m k0 n a a'->L.toNat<=c->c<=maxLen->cs.size=c * sz->(∀ q j,q < L.toNat->j < sz->cs[q * sz + j]?=z[j]?) ->
   a'.get y=.slice (some ⟨w.heap.size,0,none⟩) L.toNat c->K a' (w.drew.alloc (.cells cs E' (0,0)))):NWP P (gGrow g y l F n).1 (Exit.then K Q) a w:=by
 obtain ⟨i,z',h1,h2,h3,h4,h5,h6,h7,h8⟩:=hF.info
 have htest:∀ (b:Bool) (K':Act->World->Prop),b=decide ((0:Int) < L)->(∀ a',a'.eval (tm (n + 1))=.bool b->Pv x m k0 n a a'->a'.get y=.slice base 0 0->a'.get l=.int .i32 L->K' a' w) ->
   wpList P [mk (some n) (.move (tm l)),mk (some (n + 1)) (.binOp .gtr g.tI32 (tm n) (ki .i32 0) 0)].toArray
   (Exit.then K' (Exit.then K Q)) [mk (some n) (.move (tm l)),mk (some (n + 1)) (.binOp .gtr g.tI32 (tm n) (ki .i32 0) 0)] a w:=by
  intro b K' hb hk'
  refine qd_ ?_
  rw [qb_,hl]
  refine q9_ (b:=b) (p:=L) (q:=0) (k:=.i32) (by rw [qb_,gpe (by omega)]) rfl (.inr (.inr (.inr (.inl ⟨rfl,hb⟩)))) (wpList_nil (hk' _ ?_ (((Pv.refl _ _ _ _ _).put _ (by omega)).put _ (by omega)) ?_ ?_))
  ·rw [qb_,gpe (by simp only [qa_];omega)]
  ·rw [gpo (by omega),gpo (by omega)];exact hy
  ·rw [gpo (by omega),gpo (by omega)];exact hl
 by_cases hpos:0 < L
 ·refine z3_ (htest true _ (by simp [hpos]) fun a1 he hp hy' hl'=>⟨he,?_⟩)
  have hs:=hp.size
  refine qj_ (qd_ ?_)
  rw [qb_,hy']
  refine qd_ ?_
  rw [qb_,gpo (by omega),hl']
  have hLn:((L.toNat:Nat):Int)=L:=by omega
  refine wl_growNil (base:=base) (l:=L.toNat) (F:=F) (E:=E') (I:=g.tI32) (bytes:=i.bytes) ?_ ?_ (by omega) hF.und K0.tI32 h1 h2 (by rw [h3,h5,h4]) (by omega) h7 rfl ?_ (by omega) fun c cs hc1 hc2 hc3 hc4=>?_
  ·rw [qb_,gpo (by omega),gpe (by omega)]
  ·rw [qb_,gpe (by rw [qa_];omega),hLn]
  ·simp only [roomy,decide_eq_true_eq] at hroom
   have e:L.toNat * i.bytes<=L.toNat * (24 * sz + 8):=Nat.mul_le_mul_left _ h8
   have e2:((L.toNat * (24 * sz + 8):Nat):Int)=L * (24 * (sz:Int) + 8):=by
    rw [Int.natCast_mul,hLn];rfl
   omega
  ·refine qg_ (wpList_nil ?_)
   rw [qb_,gpe (by simp only [qa_];omega)]
   rw [h4] at hc3 hc4
   rw [h3] at hc4
   refine hyes hpos _ c cs ((((hp.trans (Pv.refl _ _ _ _ _)).put _ (by omega)).put _ (by omega)).put _ (by omega) |>.put _ (by omega)) hc1 hc2 hc3 hc4 (gpe (by simp only [qa_];omega))
 ·refine z2_ (htest false _ (by simp;omega) fun a1 he hp hy' _=>⟨he,.skip (hno (by omega) a1 hp hy')⟩)
end
section inv
variable {P:Program}
theorem nwp_seq_inv {c:Code} {Q:Exit->Act->World->Prop} {a:Act} {w:World} (h:NWP P c Q a w):∀ x y,c=.seq x y->∃ R:Exit->Act->World->Prop,NWP P x R a w/\(∀ a w,R .normal a w->NWP P y Q a w)/\∀ e a w,e ≠ .normal->R e a w->Q e a w:=by
 induction h with
 | seq hx hy he=>intro x y hc;cases hc;exact ⟨_,hx,hy,he⟩
 | mono _ hq ih=>
  intro x y hc
  obtain ⟨R,h1,h2,h3⟩:=ih x y hc
  exact ⟨R,h1,fun a w hr=>.mono (h2 a w hr) hq,fun e a w he hr=>hq e a w (h3 e a w he hr)⟩
 | _=>intro x y hc;cases hc
theorem nwp_sq_append {cs ds:List Code} {Q:Exit->Act->World->Prop}:∀ {a:Act} {w:World},NWP P (sq cs) (Exit.then (NWP P (sq ds) Q) Q) a w->NWP P (sq (cs++ds)) Q a w:=by
 induction cs with
 | nil=>intro a w h;exact nwp_skip_inv h rfl
 | cons c cs ih=>
  intro a w h
  cases cs with
  | nil=>exact qh_ h
  | cons d r=>
   obtain ⟨R,h1,h2,h3⟩:=nwp_seq_inv h _ _ rfl
   refine .seq h1 (fun a w hr=>ih (h2 a w hr)) (fun e a w he hr=>?_)
   have:=h3 e a w he hr
   rwa [zc_ he] at this
theorem qx_ (l r:List GC):∀ n,gL (l++r) n=((gL l n).1++(gL r (gL l n).2).1,(gL r (gL l n).2).2):=by
 induction l with
 | nil=>intro n;rfl
 | cons x l ih=>intro n;simp [gL,ih]
theorem z5_ {l r:List GC} {n:Nat} {Q:Exit->Act->World->Prop} {a:Act} {w:World} (h:LW P l n (Exit.then (LW P r (gL l n).2 Q) Q) a w):LW P (l++r) n Q a w:=by
 unfold LW at h ⊢
 rw [qx_]
 exact nwp_sq_append h
end inv
section
variable {P:Program} {g:G} {av:PF->Bool} {fl:Bool} {cx:Cx} {fx:Bool} {ver:Int} {S R B O:Nat} {r:RS} {x m k0 n:Nat} {K N E:Act->World->Prop} {Q:Exit->Act->World->Prop} {a:Act} {w:World}
theorem rLen_lt (fx:Bool) (r:RS):(j0_ fx r).1 < 2147483648:=by
 have h4:(rI 4 r).1 < 2147483648:=by
  simp only [rI,sgn]
  split
  ·rename_i h;simp at h;omega
  ·rename_i h
   have:(rU 4 r).1 < 4294967296:=by
    simp only [rU]
    split
    ·simp
    ·rename_i hl
     have hb:∀ (l:Bs) (a:Nat),l.foldl (fun a b=>a * 256 + b.toNat) a < (a + 1) * 256 ^ l.length:=by
      intro l
      induction l with
      | nil=>intro a;simp
      | cons b l ih=>
       intro a
       simp only [List.foldl_cons,List.length_cons,Nat.pow_succ]
       refine Nat.lt_of_lt_of_le (ih _) ?_
       have:=UInt8.toNat_lt b
       have e:(a + 1) * (256 ^ l.length * 256)=((a + 1) * 256) * 256 ^ l.length:=by rw [Nat.mul_comm (256 ^ l.length),Nat.mul_assoc]
       rw [e]
       exact Nat.mul_le_mul_right _ (by omega)
     have:=hb (r.src.take 4) 0
     have hlen:(r.src.take 4).length<=4:=by simp;omega
     have hp:256 ^ (r.src.take 4).length<=256 ^ 4:=Nat.pow_le_pow_right (by omega) hlen
     simp only [unbe]
     omega
   have e:(2:Int) ^ (8 * 4)=4294967296:=by decide
   omega
 have key:∀ p:Int × RS,p.1 < 2147483648->(if (p.2.src.length:Int) < p.1 then ((0:Int),RS.fail) else p).1 < 2147483648:=by
  intro p hp
  split
  ·simp
  ·exact hp
 cases fx
 ·simp only [j0_,Bool.false_eq_true,if_false]
  exact key (rI 4 r) h4
 ·simp only [j0_,if_true]
  refine key (j1_ (j1_ (rUv r).1 - 1),(rUv r).2) ?_
  simp only [j1_];omega
theorem s_len (K0:KB P g av fl) (hhl:hasLst g cx.hf=true) (hfl:cx.hf=true->fl=true) (hrc:RC g cx fx ver S R B O r a w) (hc:CxOk cx m k0) {l:Nat} (hl:m<=l/\l < k0) (hk:k0<=n)
  (hn:((if cx.hf then gFx cx (qm_ g.clen cx.b l) (qm_ g.len cx.b l) else qm_ g.len cx.b l:GC) n).2<=a.tmps.size)
  (h:∀ a' w',Pv 6 m k0 n a a'->a'.get l=.int .i32 (j0_ fx r).1->RdS w' g.tR S R (j0_ fx r).2->Keeps (·=R) w w'->K a' w') :
  NWP P ((if cx.hf then gFx cx (qm_ g.clen cx.b l) (qm_ g.len cx.b l) else qm_ g.len cx.b l:GC) n).1 (Exit.then K Q) a w:=by
 have hle:=hc.le
 simp only [hasLst,Bool.and_eq_true,Bool.or_eq_true,Bool.not_eq_true'] at hhl
 obtain ⟨⟨hhl1,hhl2⟩,hhl3⟩:=hhl
 cases hhf:cx.hf with
 | true=>
  have hhl4:za_ g.clen=true:=hhl3.resolve_left (by rw [hhf];simp)
  simp only [hhf,if_true,gFx,gIf,qm_,qu_] at hn
  simp only [if_true]
  refine s_fx (x:=6) (m:=m) (k0:=k0) (fx:=fx) (hrc.sf hhf) hc.le hk (by omega) fun a1 hp1=>?_
  have hs1:=hp1.size
  have hrc1:RC g cx fx ver S R B O r a1 w:=hrc.step hc hp1 hrc.rd (Keeps.refl (fun _=>False) w) (fun _ _ h=>h.elim)
  cases fx with
  | true=>
   simp only [if_true]
   refine s_call (x:=6) (m:=m) (k0:=k0) (K0.clenE (hfl hhf) hhl4) hrc1.sb (K0.clenC (hfl hhf) hhl4 w S R r hrc1.rd hrc1.SR) (.inr hl) hc.le (by omega) (by omega) (by omega) fun e w' hR=>?_
   obtain ⟨he,h1,h2⟩:=hR
   exact ⟨_,he,fun a' hp hg=>h a' w' (hp1.trans (hp.mono (Nat.le_refl _) (by omega))) hg h1 h2⟩
  | false=>
   simp only [Bool.false_eq_true,if_false]
   refine s_call (x:=6) (m:=m) (k0:=k0) (K0.lenE hhl1) hrc1.sb (K0.lenC hhl1 w S R r hrc1.rd hrc1.SR) (.inr hl) hc.le (by simp [qm_,qu_];omega) (by simp [qm_,qu_];omega) (by omega) fun e w' hR=>?_
   obtain ⟨he,h1,h2⟩:=hR
   exact ⟨_,he,fun a' hp hg=>h a' w' (hp1.trans (hp.mono (Nat.le_refl _) (by simp [qm_,qu_];omega))) hg h1 h2⟩
 | false=>
  have hfx:=hrc.nf hhf
  subst hfx
  simp only [hhf,Bool.false_eq_true,if_false,qm_,qu_] at hn
  simp only [Bool.false_eq_true,if_false]
  refine s_call (x:=6) (m:=m) (k0:=k0) (K0.lenE hhl1) hrc.sb (K0.lenC hhl1 w S R r hrc.rd hrc.SR) (.inr hl) hc.le hk (by omega) (by omega) fun e w' hR=>?_
  obtain ⟨he,h1,h2⟩:=hR
  exact ⟨_,he,fun a' hp hg=>h a' w' hp hg h1 h2⟩
theorem wl_buildSlice0 {ops:Array Oper} {r:List Oper} {d:Option Nat} {F E' sz:Nat} (hF:P.underlying F=some (.slice E')) (hs:∀ w,(sizeOf E').run P w=.ok sz w)
  (h:wpList P ops Q r (a.put d (.slice (some ⟨w.heap.size,0,none⟩) 0 0)) (w.alloc (.cells #[] E' (0,0)))):wpList P ops Q (mk d (.buildSlice F 0 #[]) :: r) a w:=by
 refine qn_ (w':=w.alloc (.cells #[] E' (0,0))) ?_ h
 have e0:(Array.range 0)=#[]:=rfl
 simp [execOp,mk,Instr.buildSlice,run_underlying hF,hs,Instr.fill,newRow,newObj,Sem.run,e0]
theorem Pv.low {x m k0 n:Nat} {a b:Act} (h:Pv x k0 k0 n a b) (hm:m<=k0):Pv x m k0 n a b:=h.mono hm (Nat.le_refl _)
theorem s_null {nul:Option Nat} {y l F E' sz:Nat} {z:Array Value} {L:Int} {rest:List GC} (hv:a.get cx.ver=.int .i16 ver) (hy:a.get y=.slice none 0 0) (hl:a.get l=.int .i32 L) (hF:RowIs P F E' sz z) (hy1:m<=y/\y < k0) (hl1:l < k0) (hly:l ≠ y) (hl6:l ≠ x) (hy6:y ≠ x)
  (_hvn:cx.ver < n) (hm:m<=k0) (hk:k0<=n) (hn:(gL (gNull g cx nul y l F) n).2<=a.tmps.size)
  (h:∀ a' w' base,Pv x m k0 n a a'->Keeps (fun _=>False) w w'->a'.get y=.slice base 0 0->a'.get l=.int .i32 L->(base=none \/ ∃ p,base=some ⟨p,0,none⟩/\w.heap.size<=p/\p < w'.heap.size) ->
   base.isSome=(nul.isSome && (decide (L=0) || !xh_ nul ver))->LW P rest (gL (gNull g cx nul y l F) n).2 Q a' w'):LW P (gNull g cx nul y l F++rest) n Q a w:=by
 cases nul with
 | none=>exact h a w none (Pv.refl _ _ _ _ _) (Keeps.refl _ _) hy hl (.inl rfl) rfl
 | some q=>
  simp only [gNull,gL,gIf,qu_,jk_,q3_] at hn
  have hb:∀ (b:Bool) (K':Act->World->Prop),b=(decide ((ver:Int) < (q:Int)) || decide (L=0))->(∀ a',Pv x k0 k0 n a a'->a'.eval (tm (n + 5))=.bool b->K' a' w)->wpList P _ (Exit.then K' (Exit.then (LW P rest (gL (gNull g cx (some q) y l F) n).2 Q) Q)) _ a w:=fun b K' hb hk'=>
   wl_and (x:=x) (m:=k0) (k0:=k0) (T1:=g.tVer) (T2:=g.tI32) (Nat.le_refl _) hk (by omega) (by omega) hv hl (b1:=decide ((ver:Int) < (q:Int))) (.inr (.inr (.inl ⟨rfl,rfl⟩))) (b2:=decide (L=0)) (.inr (.inr (.inr (.inr (.inl ⟨rfl,rfl⟩))))) false _ _ rfl rfl fun a' hp he=>hk' a' hp (by rw [hb];exact he)
  refine qc_ ?_
  by_cases hc:ver < q \/ L=0
  ·refine z3_ (hb true _ (by simp;omega) fun a1 hp he=>⟨he,?_⟩)
   have hs:=hp.size
   have hy':a1.get y=.slice none 0 0:=(hp.get y hy6 (.inl hy1.2)).trans hy
   have hl':a1.get l=.int .i32 L:=(hp.get l hl6 (.inl hl1)).trans hl
   refine qj_ (wl_buildSlice0 hF.und hF.size (qg_ (wpList_nil ?_)))
   rw [qb_,gpe (by omega)]
   refine h _ _ (some ⟨w.heap.size,0,none⟩) (((hp.low hm).put _ (by omega)).put _ (by omega)) (Keeps.alloc _ _ _) (gpe (by simp only [qa_];omega)) ?_ (.inr ⟨_,rfl,Nat.le_refl _,by simp⟩) ?_
   ·rw [zz_ _ _ _ _ hly,gpo (by omega)];exact hl'
   ·simp [xh_];omega
  ·refine z2_ (hb false _ (by simp;omega) fun a1 hp he=>⟨he,.skip ?_⟩)
   refine h a1 w none (hp.low hm) (Keeps.refl _ _) ((hp.get y hy6 (.inl hy1.2)).trans hy) ((hp.get l hl6 (.inl hl1)).trans hl) (.inl rfl) ?_
   simp [xh_]
   omega
theorem s_idxStore {y i v F F' E' sz p q cnt c j:Nat} {uu:Option Nat} {cs:List Value} {cur:Array Value} {te:TypeId} (hy:a.get y=.slice (some ⟨p,q,none⟩) cnt c) (hi:a.get i=.int .i32 j) (hj:j < cnt) (hF:P.underlying F=some (.slice E')) (hE:∀ w,(sizeOf E').run P w=.ok sz w)
  (hF':∀ w,(sizeOf F').run P w=.ok sz w)
  (hval:match uu with
   | none=>∃ y,a.get v=y/\y.cells.toList=cs
   | some u=>jp_ P u true cs.length/\∃ b o,a.get v=.pointer (some ⟨b,o,none⟩)/\qy_ w b o cs)
  (hsz:cs.length=sz) (h1:∀ u ∈ cs,u.oneCell'=true) (hB:w.heap[p]?=some (.cells cur te (0,0))) (hO:q + j * sz + sz<=cur.size)
  (hm:m<=k0) (hk:k0<=n) (hn:n + 4<=a.tmps.size) (_hyn:y < n) (hin:i < n) (hvn:v < n)
  (h:∀ a',Pv x m k0 n a a'->K a' (w.setRow p (qt_ cur (q + j * sz) cs))):NWP P (gIdxStore uu y i v F F' n).1 (Exit.then K Q) a w:=by
 refine qj_ (qd_ ?_)
 rw [qb_,hy]
 refine qd_ ?_
 rw [qb_,gpo (by omega),hi]
 have hpv:Pv x m k0 n a ((a.put (some n) (.slice (some ⟨p,q,none⟩) cnt c)).put (some (n + 1)) (.int .i32 j)):=((Pv.refl _ _ _ _ _).put _ (by omega)).put _ (by omega)
 have key:∀ u:Value,u.cells.toList=cs->wpList P (#[mk (some n) (.move (tm y)),mk (some (n + 1)) (.move (tm i)),mk (some (n + 2)) (match uu with | some u=>.load u (tm v) | none=>.move (tm v)),
   mk (some (n + 3)) (.indexAddr F (tm n) (tm (n + 1))),mk none (.store F' (tm (n + 3)) (tm (n + 2)))]) (Exit.then K Q) [mk (some (n + 3)) (.indexAddr F (tm n) (tm (n + 1))),mk none (.store F' (tm (n + 3)) (tm (n + 2)))]
   (((a.put (some n) (.slice (some ⟨p,q,none⟩) cnt c)).put (some (n + 1)) (.int .i32 j)).put (some (n + 2)) u) w:=by
  intro u hu
  refine j3_ (i:=j) (k:=.i32) (n:=cnt) (c:=c) (b:=p) (o:=q) (sz:=sz) ?_ ?_ hj hF (hE w) ?_
  ·rw [qb_,gpo (by omega),gpo (by omega),gpe (by omega)]
  ·rw [qb_,gpo (by omega),gpe (by simp only [qa_];omega)]
  refine q8_ (cur:=cur) (t:=te) (by rw [qb_,gpe (by simp only [qa_];omega)]) (by rw [qb_,gpo (by omega),gpe (by simp only [qa_];omega)]) hu
   (by rw [hsz];exact hF' w) hB (by rw [hsz];exact hO) h1 ?_
  exact wpList_nil (h _ ((hpv.put _ (by omega)).put _ (by omega)))
 cases uu with
 | none=>
  obtain ⟨u,hu,huc⟩:=hval
  refine qd_ ?_
  rw [qb_,gpo (by omega),gpo (by omega),hu]
  exact key u huc
 | some u=>
  obtain ⟨hu,b,o,hb,hc⟩:=hval
  refine wl_loadN (cs:=cs) (by rw [qb_,gpo (by omega),gpo (by omega),hb]) (hu.agg w) (hu.size w) hc ?_
  exact key (.agg cs.toArray) (by simp [Value.cells])
theorem s_idxAddr {y i v F E' sz p q cnt c j:Nat} (hy:a.get y=.slice (some ⟨p,q,none⟩) cnt c) (hi:a.get i=.int .i32 j) (hj:j < cnt) (hF:P.underlying F=some (.slice E')) (hE:∀ w,(sizeOf E').run P w=.ok sz w)
  (hv:v=x \/ (m<=v/\v < k0)) (hm:m<=k0) (hk:k0<=n) (hn:n + 3<=a.tmps.size) (hvs:v < a.tmps.size) (_hyn:y < n) (hin:i < n)
  (h:∀ a',Pv x m k0 n a a'->a'.get v=pt p (q + j * sz)->K a' w):NWP P (z6_ y i v F n).1 (Exit.then K Q) a w:=by
 refine qj_ (qd_ ?_)
 rw [qb_,hy]
 refine qd_ ?_
 rw [qb_,gpo (by omega),hi]
 refine j3_ (i:=j) (k:=.i32) (n:=cnt) (c:=c) (b:=p) (o:=q) (sz:=sz) ?_ ?_ hj hF (hE w) ?_
 ·rw [qb_,gpo (by omega),gpe (by omega)]
 ·rw [qb_,gpe (by simp only [qa_];omega)]
 refine qg_ (wpList_nil ?_)
 rw [qb_,gpe (by simp only [qa_];omega)]
 exact h _ (((((Pv.refl _ _ _ _ _).put _ (by omega)).put _ (by omega)).put _ (by omega)).put _ (by omega)) (gpe (by simp only [qa_];omega))
def applyWr (cur:Array Value) (O:Nat) (wr:List (Nat × Value)):Array Value:=wr.foldl (fun c p=>c.setIfInBounds (O + p.1) p.2) cur
def DfC (P:Program) (f:Nat) (wr:List (Nat × Value)):Prop:=
 ∀ (w:World) (B O:Nat) (cur:Array Value) (te:TypeId),w.heap[B]?=some (.cells cur te (0,0))->(∀ p ∈ wr,O + p.1 < cur.size) ->
  Calls P f #[pt B O] w fun e w'=>e=.returned (.tuple #[])/\Keeps (·=B) w w'/\w'.heap[B]?=some (.cells (applyWr cur O wr) te (0,0))
theorem s_default {f v:Nat} {wr:List (Nat × Value)} {cur:Array Value} {te:TypeId} (hE:Ent P f) (hD:DfC P f wr) (hv:a.get v=pt B O) (hB:w.heap[B]?=some (.cells cur te (0,0))) (hO:∀ p ∈ wr,O + p.1 < cur.size)
  (hm:m<=k0) (hk:k0<=n) (hn:n + 2<=a.tmps.size)
  (h:∀ a' w',Pv x m k0 n a a'->(∀ s,s < n->a'.get s=a.get s)->Keeps (·=B) w w'->w'.heap[B]?=some (.cells (applyWr cur O wr) te (0,0))->K a' w'):NWP P (zi_ v f n).1 (Exit.then K Q) a w:=by
 refine qj_ (qd_ ?_)
 rw [qb_,hv]
 refine qv_ (vs:=#[pt B O]) hE ?_ (hD w B O cur te hB hO) fun e w' hR=>⟨_,hR.1,wpList_nil ?_⟩
 ·simp [qb_,gpe (show n < a.tmps.size by omega)]
 ·exact h _ w' (((Pv.refl _ _ _ _ _).put _ (by omega)).put _ (by omega)) (fun s hs=>by rw [gpo (by omega),gpo (by omega)]) hR.2.1 hR.2.2
theorem s_fieldAddr {s v T k F off sz:Nat} {agg:Bool} (hs:a.get s=pt B O) (hF:zj_ P T k F off agg sz) (hv:v=x \/ (m<=v/\v < k0)) (hm:m<=k0) (hk:k0<=n) (hn:n + 3<=a.tmps.size) (hvs:v < a.tmps.size)
  (h:∀ a',Pv x m k0 n a a'->a'.get v=pt B (O + off)->K a' w):NWP P (gFieldAddr s v T k n).1 (Exit.then K Q) a w:=by
 refine qj_ (qd_ ?_)
 rw [qb_,hs]
 refine qp_ (by rw [qb_,gpe (by omega)];rfl) ?_
 refine ju_ (by rw [qb_,gpe (by rw [qa_];omega)]) hF ?_
 refine qg_ (wpList_nil ?_)
 rw [qb_,gpe (by simp only [qa_];omega)]
 exact h _ (((((Pv.refl _ _ _ _ _).put _ (by omega)).put _ (by omega)).put _ (by omega)).put _ (by omega)) (gpe (by simp only [qa_];exact hvs))
theorem s_new {s T k F E' off:Nat} {z:Value} {cur:Array Value} {te:TypeId} (hs:a.get s=pt B O) (hF:zj_ P T k F off false 1) (hz:∀ w,(zeroValue E').run P w=.ok z w) (hB:w.heap[B]?=some (.cells cur te (0,0))) (hO:O + off + 1<=cur.size)
  (hm:m<=k0) (hk:k0<=n) (hn:n + 4<=a.tmps.size)
  (h:∀ a',Pv x m k0 n a a'->(∀ s,s < n->a'.get s=a.get s)->K a' ((w.alloc (.cells z.cells E' (0,0))).setRow B (qt_ cur (O + off) [pt w.heap.size 0]))):NWP P (gNew s T k F E' n).1 (Exit.then K Q) a w:=by
 refine qj_ (qd_ ?_)
 rw [qb_,hs]
 refine zp_ (hz w) ?_
 refine qp_ (by rw [qb_,gpo (by omega),gpe (by omega)];rfl) ?_
 refine ju_ (by rw [qb_,gpe (by simp only [qa_];omega)]) hF ?_
 have hlt:B < w.heap.size:=(Array.getElem?_eq_some_iff.1 hB).1
 refine q8_ (cur:=cur) (t:=te) (v:=pt w.heap.size 0) (vs:=[pt w.heap.size 0]) (by rw [qb_,gpe (by simp only [qa_];omega)]) ?_ rfl (hF.var.size _) ?_ (by simpa using hO) (by simp [pt,Value.oneCell']) (wpList_nil ?_)
 ·rw [qb_,gpo (by omega),gpo (by omega),gpe (by simp only [qa_];omega)];rfl
 ·show (w.heap.push _)[B]?=_
  rw [Array.getElem?_push,if_neg (by omega)];exact hB
 ·exact h _ (((((Pv.refl _ _ _ _ _).put _ (by omega)).put _ (by omega)).put _ (by omega)).put _ (by omega)) (fun s hs=>by rw [gpo (by omega),gpo (by omega),gpo (by omega),gpo (by omega)])
end
def UpL (l:List GC):Prop:=∀ n,n<=(gL l n).2
theorem qk_:UpL []:=fun n=>Nat.le_refl n
theorem qe_ {x:GC} {l:List GC} (hx:Up x) (hl:UpL l):UpL (x :: l):=fun n=>Nat.le_trans (hx n) (hl _)
theorem ql_ {l r:List GC} (hl:UpL l) (hr:UpL r):UpL (l++r):=fun n=>by
 rw [qx_]
 exact Nat.le_trans (hl n) (hr _)
theorem up_S {l:List GC} (h:UpL l):Up (gS l):=h
theorem up_ite {c:Prop} [Decidable c] {x y:GC} (hx:Up x) (hy:Up y):Up (if c then x else y):=by split <;> assumption
theorem zt_ {c:Prop} [Decidable c] {x y:List GC} (hx:UpL x) (hy:UpL y):UpL (if c then x else y):=by split <;> assumption
theorem up_for {g:G} {i l b1 b2:Nat} {body:GC} (h:Up body):Up (gFor g i l b1 b2 body):=fun n=>Nat.le_trans (Nat.le_add_right n 5) (h _)
theorem up_tagFor {g:G} {cx:Cx} {i b1 b2:Nat} {body:GC} (h:Up body):Up (gTagFor g cx i b1 b2 body):=fun n=>Nat.le_trans (Nat.le_add_right n 5) (h _)
theorem up_cases {g:G} {key:Nat} {dflt:Code}:∀ {l:List (Nat × GC)},(∀ p ∈ l,Up p.2)->∀ n,n<=(gCases g key dflt l n).2
 | [],_,n=>Nat.le_refl n
 | (t,x) :: r,h,n=>Nat.le_trans (Nat.le_trans (Nat.le_add_right n 2) (h (t,x) (List.mem_cons_self ..) (n + 2))) (up_cases (l:=r) (fun p hp=>h p (List.mem_cons_of_mem _ hp)) _)
theorem up_switch {g:G} {cx:Cx} {key b3 T k:Nat} {l:List (Nat × GC)} (h:∀ p ∈ l,Up p.2):Up (gSwitch g cx key b3 T k l):=fun n=>Nat.le_trans (Nat.le_add_right n 9) (up_cases h _)
theorem up_gVal (g:G) (cx:Cx) (ty:Ty) (v:Nat) (x:List Nat):UpL (gVal g cx ty v x):=by
 have hc:∀ f b v,Up (qm_ f b v):=fun _ _ _=>qi_ _ _
 have hm:∀ x y,Up (jf_ x y):=fun _ _=>qi_ _ _
 have hs:∀ v x,Up (ji_ v x):=fun _ _=>qi_ _ _
 have hf:∀ A B,Up A->Up B->Up (gFx cx A B):=fun _ _=>j4_
 have hu:∀ A B,Up A->Up B->Up (gUn A B):=fun _ _=>j4_
 unfold gVal
 split
 ·exact qe_ (qi_ _ _) qk_
 ·split
  ·exact qe_ (hs _ _) (qe_ (up_S (qe_ (hc _ _ _) (qe_ (hm _ _) qk_))) (qe_ (hm _ _) qk_))
  ·exact qe_ (hc _ _ _) qk_
 ·simp only
  split
  ·exact qe_ (hs _ _) (qe_ (up_ite (hf _ _ (hu _ _ (hc _ _ _) (hc _ _ _)) (hu _ _ (hc _ _ _) (hc _ _ _))) (hu _ _ (hc _ _ _) (hc _ _ _))) qk_)
  ·refine qe_ (hs _ _) (qe_ (j4_ (up_S (qe_ (qi_ _ _) (qe_ (up_ite (hf _ _ (hu _ _ (qi_ _ _) (qi_ _ _)) (hu _ _ (qi_ _ _) (qi_ _ _))) (hu _ _ (qi_ _ _) (qi_ _ _))) (qe_ (qi_ _ _) qk_))))
    (up_ite (hf _ _ (hu _ _ (hc _ _ _) (hc _ _ _)) (hu _ _ (hc _ _ _) (hc _ _ _))) (hu _ _ (hc _ _ _) (hc _ _ _)))) qk_)
  ·exact qe_ (hs _ _) (qe_ (up_ite (hu _ _ (hf _ _ (hc _ _ _) (hc _ _ _)) (hf _ _ (hc _ _ _) (hc _ _ _))) (hu _ _ (hc _ _ _) (hc _ _ _))) qk_)
 ·simp only
  split
  ·exact qe_ (hs _ _) (qe_ (hf _ _ (hc _ _ _) (hc _ _ _)) qk_)
  ·exact qe_ (hc _ _ _) qk_
 ·exact qk_
theorem up_gStOf {g:G} {cx:Cx} {tagged:Bool} {T kt:Nat} {m:Nm} {items:List GC} {cases:List (Nat × GC)} (hi:UpL items) (hc:∀ p ∈ cases,Up p.2):UpL (gStOf g cx tagged T kt m items cases):=by
 unfold gStOf
 refine ql_ hi (zt_ qk_ (zt_ (qe_ (j4_ (up_tagFor (up_S (qe_ (qi_ _ _) (qe_ (up_switch hc) qk_)))) (q7_ _)) qk_) (qe_ (j4_ (qi_ _ _) (q7_ _)) qk_)))
theorem up_gNull (g:G) (cx:Cx) (nul:Option Nat) (a l F:Nat):UpL (gNull g cx nul a l F):=by
 cases nul with
 | none=>exact qk_
 | some m=>exact qe_ (j4_ (qi_ _ _) (q7_ _)) qk_
theorem up_ret (g:G) (b:Nat):Up (gRet g b):=up_S (qe_ (qi_ _ _) (qe_ (q7_ _) qk_))
mutual
theorem up_gTy (g:G):∀ (ty:Ty) (nm:Nm) (cx:Cx),UpL (gTy g cx ty nm)
 | .prim p,nm,cx=>ql_ (up_gVal _ _ _ _ _) (qe_ (qi_ _ _) qk_)
 | .str _,nm,cx=>ql_ (up_gVal _ _ _ _ _) (qe_ (qi_ _ _) qk_)
 | .bytes _,nm,cx=>ql_ (up_gVal _ _ _ _ _) (qe_ (qi_ _ _) qk_)
 | .list nul esz e,nm,cx=>by
  have he:∀ a i F,UpL (gEl g cx e a i F (nm.sub 0)):=fun a i F=>up_gEl g e (nm.sub 0) cx a i F
  refine ql_ (ql_ (qe_ (qi_ _ _) (qe_ (qi_ _ _) (qe_ (qi_ _ _) (qe_ (up_ite (j4_ (qi_ _ _) (qi_ _ _)) (qi_ _ _)) qk_)))) (up_gNull _ _ _ _ _ _)) ?_
  exact qe_ (j4_ (up_ret _ _) (q7_ _)) (qe_ (qi_ _ _) (qe_ (j4_ (qi_ _ _) (q7_ _)) (qe_ (up_for (up_S (he _ _ _))) (qe_ (qi_ _ _) (qe_ (qi_ _ _) qk_)))))
 | .struct none _ fs,nm,cx=>
  ql_ (qe_ (qi_ _ _) (qe_ (qi_ _ _) (qe_ (qi_ _ _) qk_))) (up_gStOf (up_gFds g fs _ _) (up_gTagd g fs _ _))
 | .struct (some _) _ fs,nm,cx=>by
  refine qe_ (up_S (qe_ (qi_ _ _) (qe_ (j4_ (up_S (ql_ (qe_ (qi_ _ _) (qe_ (qi_ _ _) (qe_ (qi_ _ _) (qe_ (qi_ _ _) qk_)))) (up_gStOf (up_gFds g fs _ _) (up_gTagd g fs _ _)))) (q7_ _)) qk_))) qk_
theorem up_gEl (g:G):∀ (ty:Ty) (nm:Nm) (cx:Cx) (a i F:Nat),UpL (gEl g cx ty a i F nm)
 | .struct _ _ fs,_nm,_cx,_a,_i,_F=>ql_ (qe_ (qi_ _ _) (qe_ (qi_ _ _) (qe_ (qi_ _ _) qk_))) (up_gStOf (up_gFds g fs _ _) (up_gTagd g fs _ _))
 | .prim _p,_nm,_cx,_a,_i,_F=>ql_ (up_gVal _ _ _ _ _) (qe_ (qi_ _ _) qk_)
 | .str _,_nm,_cx,_a,_i,_F=>ql_ (up_gVal _ _ _ _ _) (qe_ (qi_ _ _) qk_)
 | .bytes _,_nm,_cx,_a,_i,_F=>ql_ (up_gVal _ _ _ _ _) (qe_ (qi_ _ _) qk_)
 | .list _ _ _,_nm,_cx,_a,_i,_F=>ql_ (up_gVal _ _ _ _ _) (qe_ (qi_ _ _) qk_)
theorem up_gFds (g:G):∀ (fs:Fds) (ms:List Nm) (cx:Cx),UpL (gFds g cx fs ms)
 | .nil,ms,cx=>qk_
 | .cons lo hi tag df off ty r,ms,cx=>by
  have h1:=up_gTy g ty (ms.headD (.mk [] [])) cx
  have h2:=up_gFds g r ms.tail cx
  unfold gFds
  refine zt_ (qe_ ?_ h2) h2
  unfold xl_
  split
  ·exact j4_ (up_S h1) (q7_ _)
  ·exact up_ite (up_S h1) (j4_ (up_S h1) (q7_ _))
theorem up_gTagd (g:G):∀ (fs:Fds) (ms:List Nm) (cx:Cx),∀ p ∈ gTagd g cx fs ms,Up p.2
 | .nil,ms,cx=>fun p hp=>by cases hp
 | .cons lo hi tag df off ty r,ms,cx=>by
  have h1:=up_gTy g ty ((ms.headD (.mk [] [])).sub 0) { cx with b:=(ms.headD (.mk [] [])).n 0 }
  have h2:=up_gTagd g r ms.tail cx
  cases tag with
  | none=>exact h2
  | some t=>
   intro p hp
   simp only [gTagd,List.mem_cons] at hp
   rcases hp with rfl | hp
   ·exact up_S (ql_ (ql_ (qe_ (qi_ _ _) qk_) h1) (qe_ (up_S (qe_ (qi_ _ _) (qe_ (j4_ (up_S (qe_ (qi_ _ _) (qe_ (q7_ _) qk_))) (q7_ _)) qk_))) qk_))
   ·exact h2 p hp
end
theorem uvRead_lt (l:Bs):(q6_ l).1 < 4294967296:=by
 unfold q6_
 split
 ·simp
 ·rename_i a l
  have ha:=UInt8.toNat_lt a
  split
  ·simp only;omega
  ·split
   ·simp
   ·rename_i b l
    have hb:=UInt8.toNat_lt b
    split
    ·simp only;omega
    ·split
     ·simp
     ·rename_i c l
      have hc:=UInt8.toNat_lt c
      split
      ·simp only;omega
      ·split
       ·simp
       ·rename_i d l
        have hd:=UInt8.toNat_lt d
        split
        ·simp only;omega
        ·split
         ·simp
         ·rename_i e l
          split
          ·simp only;omega
          ·simp
theorem rUv_lt (r:RS):(rUv r).1 < 4294967296:=by
 unfold rUv
 split
 ·simp
 ·exact uvRead_lt _
theorem TgRp.one {w:World} {X:Nat->Prop} {v:Value} {t:List (Nat × Bs)} (h:TgRp w X v t):v.oneCell'=true:=by
 rcases h with ⟨rfl,_⟩ | ⟨r,rfl,_⟩ <;> rfl
section
variable {P:Program} {g:G} {av:PF->Bool} {fl:Bool} {cx:Cx} {fx:Bool} {ver:Int} {S R B O:Nat} {r:RS} {x m k0 n:Nat} {K N E:Act->World->Prop} {Q:Exit->Act->World->Prop} {a:Act} {w:World}
theorem s_readTags (K0:KB P g av fl) (hfl:fl=true) (hrc:RC g cx fx ver S R B O r a w) (hc:CxOk cx m k0) {T k off:Nat} {cur:Array Value} {te:TypeId} (hF:zj_ P T k g.tTags off true 1) (hB:w.heap[B]?=some (.cells cur te (0,0))) (hO:O + off + 1<=cur.size)
  (hk:k0<=n) (hn:n + 4<=a.tmps.size)
  (h:∀ a' w',Pv 6 m k0 n a a'->RdS w' g.tR S R (jq_ (rUv r).1 [] (rUv r).2).2->Evo R B (fun j=>j=O + off) w w' ->
   (∀ X:Nat->Prop,(∀ k,X k->k < w.heap.size)->¬ X S->∃ mm,w'.cell? ⟨B,O + off,none⟩=some mm/\TgRp w' X mm (jq_ (rUv r).1 [] (rUv r).2).1)->K a' w') :
  NWP P (gReadTags g cx T k n).1 (Exit.then K Q) a w:=by
 have hbm:=hc.b
 have hle:=hc.le
 refine qj_ (qd_ ?_)
 rw [qb_,hrc.ss]
 refine qv_ (vs:=#[pt R 0]) (K0.tagsE hfl) (by simp [qb_,gpo (show cx.b ≠ n by omega),hrc.sb]) (K0.tagsC hfl w S R r hrc.rd hrc.SR hrc.Slt) fun e w1 hR=>?_
 obtain ⟨mm,he,h1,h2,h3⟩:=hR
 refine ⟨_,he,?_⟩
 refine qp_ (by rw [qb_,gpo (by omega),gpe (by omega)];rfl) ?_
 refine ju_ (by rw [qb_,gpe (by simp only [qa_];omega)]) hF ?_
 have hlt:B < w.heap.size:=(Array.getElem?_eq_some_iff.1 hB).1
 have hB1:w1.heap[B]?=some (.cells cur te (0,0)):=by rw [h2.block B hlt hrc.BR];exact hB
 have hone:=(h3 (fun _=>False) (fun _ h=>h.elim) id).one
 refine q8_ (cur:=cur) (t:=te) (v:=.agg #[mm]) (vs:=[mm]) (by rw [qb_,gpe (by simp only [qa_];omega)]) ?_ rfl (hF.var.size _) hB1 (by simpa using hO) (by simpa using hone) (wpList_nil ?_)
 ·rw [qb_,gpo (by omega),gpo (by omega),gpe (by simp only [qa_];omega)]
 ·have hE:Evo R B (fun j=>j=O + off) w1 (w1.setRow B (qt_ cur (O + off) [mm])):=Evo.store hB1 (by simpa using hO) (fun j h1 h2=>by simp at h2;omega)
  refine h _ _ ((((((Pv.refl _ _ _ _ _).put _ (by omega)).put _ (by omega)).put _ (by omega)).put _ (by omega))) (h1.keep (Keeps.setRow (fun k=>k=B) _ _ _ rfl) (fun h=>hrc.BS h.symm) (fun h=>hrc.BR h.symm))
   ((Evo.of_keeps h2 (fun _ _ h=>h) hrc.BR).trans hE) fun X hX hS=>⟨mm,?_,?_⟩
  ·rw [cell_setRow_same _ _ _ _ _ _ _ hB1]
   have:=jw_ (cur:=cur) (o:=O + off) (vs:=[mm]) (by simpa using hO) 0 (by simp)
   simpa using this
  ·have h4:=h3 (fun k=>X k \/ k=B) (fun k hk=>by rcases hk with hk | rfl <;> first | exact hX k hk | exact hlt) (fun hk=>by rcases hk with hk | hk <;> first | exact hS hk | exact hrc.BS hk.symm)
   exact (h4.keep (Keeps.setRow (fun k=>X k \/ k=B) _ _ _ (.inr rfl))).mono fun k _ hk=>.inl hk
theorem oneCell_src {w:World} {S:Nat} {v:Value} {r:RS} (h:jz_ w S v r):v.oneCell'=true/\v.cells=#[v]:=by
 rcases h with ⟨rfl,_⟩ | ⟨o,c,rfl,_⟩ <;> exact ⟨rfl,rfl⟩
theorem wl_buildR (K0:KB P g av fl) {ops:Array Oper} {l:List Oper} {d:Option Nat} {y:Operand} {v:Value} (hy:a.eval y=v) (hv:v.cells=#[v]) (h:wpList P ops Q l (a.put d (.agg #[v,.bool false])) w):wpList P ops Q (mk d (.build g.tR #[(0,y)]) :: l) a w:=by
 refine qn_ ?_ h
 obtain ⟨fs,f0,f1,h1,h2,h3,h4,h5,h6⟩:=K0.fR
 have hz:=K0.zR w
 have hfs:fs=#[f0,f1]:=by rw [<- Array.toArray_toList (xs:=fs),h2]
 subst hfs
 have hcells:(Value.agg #[.slice none 0 0,.bool false]).cells=#[.slice none 0 0,.bool false]:=rfl
 simp [execOp,mk,hy,Instr.build,hz,run_underlying h1,h5.size,h6.size,h3,h4,Instr.fill,hv,hcells]
theorem qs_ (w:World) (o:Obj):(w.alloc o).heap[w.heap.size]?=some o:=heap_alloc_new w o
theorem q4_ {w:World} {o:Obj} {b:Nat} (h:b < w.heap.size):(w.alloc o).heap[b]?=w.heap[b]?:=by
 show (w.heap.push o)[b]?=_
 rw [Array.getElem?_push,if_neg (by omega)]
theorem wl_newReader (K0:KB P g av fl) {l:List Oper} {y b' t:Nat} {v:Value} {r':RS} {ops:Array Oper} (hy:a.get y=v) (hv:jz_ w S v r') (_hbad:r'.bad=false) (ht:t < a.tmps.size) (hb:b' < a.tmps.size) (hbt:b' ≠ t)
  (h:wpList P ops Q l ((a.put (some t) (.agg #[v,.bool false])).put (some b') (pt w.heap.size 0)) ((w.alloc (.cells #[.slice none 0 0,.bool false] g.tR (0,0))).setRow w.heap.size #[v,.bool false])) :
  wpList P ops Q (mk (some t) (.build g.tR #[(0,tm y)]) :: mk (some b') (.alloc g.tR) :: mk none (.store g.tR (tm b') (tm t)) :: l) a w:=by
 obtain ⟨hone,hcv⟩:=oneCell_src hv
 refine wl_buildR K0 (v:=v) (by rw [qb_];exact hy) hcv ?_
 refine zp_ (K0.zR w) ?_
 refine q8_ (g:=w.heap.size) (o:=0) (cur:=#[.slice none 0 0,.bool false]) (t:=g.tR) (v:=.agg #[v,.bool false]) (vs:=[v,.bool false]) ?_ ?_ rfl (K0.vR.size _) (heap_alloc_new _ _) (by simp) ?_ ?_
 ·rw [qb_,gpe (by simp only [qa_];omega)]
 ·rw [qb_,gpo (by omega),gpe (by omega)]
 ·intro u hu
  simp only [List.mem_cons,List.not_mem_nil,or_false] at hu
  rcases hu with rfl | rfl
  ·exact hone
  ·rfl
 ·have:qt_ #[Value.slice none 0 0,.bool false] 0 [v,.bool false]=#[v,.bool false]:=by simp [qt_]
  rw [this]
  exact h
theorem zv_ (X:Nat->Prop) (w:World) (o:Obj) (cs:Array Value):Keeps X w ((w.alloc o).setRow w.heap.size cs):=
 ⟨rfl,rfl,rfl,by simp,fun k hkk _=>by rw [setRow_other _ _ _ _ (by omega)];exact q4_ hkk⟩
theorem rds_newReader {v:Value} {r':RS} {T:Nat} (hv:jz_ w S v r') (hbad:r'.bad=false):RdS ((w.alloc (.cells #[.slice none 0 0,.bool false] T (0,0))).setRow w.heap.size #[v,.bool false]) T S w.heap.size r':=by
 refine ⟨v,?_,hv.keep (zv_ (fun _=>False) w _ _) id⟩
 rw [hbad]
 exact setRow_heap _ _ _ _ _ _ (heap_alloc_new _ _)
theorem s_inner (K0:KB P g av fl) (hfl:fl=true) (hrc:RC g cx fx ver S R B O r a w) (hc:CxOk cx m k0) {b':Nat} (hb':m<=b'/\b' < k0) (hk:k0<=n) (hn:n + 4<=a.tmps.size)
  (h:∀ a' w' R',Pv 6 m k0 n a a'->a'.get b'=pt R' 0->w.heap.size<=R'->RdS w' g.tR S R' ⟨(qo_ (rUv r).1 (rUv r).2).1.octets,false,(qo_ (rUv r).1 (rUv r).2).1.isNul⟩->RdS w' g.tR S R (qo_ (rUv r).1 (rUv r).2).2 ->
   Keeps (·=R) w w'->K a' w'):NWP P (gInner g cx.b b' n).1 (Exit.then K Q) a w:=by
 have hbm:=hc.b
 have hle:=hc.le
 refine qj_ (qv_ (vs:=#[pt R 0]) (K0.uvE hfl) (by simp [qb_,hrc.sb]) (K0.uvC hfl w S R r hrc.rd hrc.SR) fun e w1 hR=>?_)
 obtain ⟨he,h1,h2⟩:=hR
 refine ⟨_,he,?_⟩
 have hlt:=rUv_lt r
 have hwr:IntKind.i64.wrap ((rUv r).1:Int)=((rUv r).1:Int):=by simp [IntKind.wrap,IntKind.bits,IntKind.signed];omega
 refine qw_ (k:=.u32) (k':=.i64) (m:=((rUv r).1:Int)) (by rw [qb_,gpe (by omega)]) (K0.tU32 hfl) K0.tInt ?_
 rw [hwr]
 refine qv_ (vs:=#[pt R 0,.int .i64 ((rUv r).1:Int)]) (K0.spanE hfl) ?_ (K0.spanC hfl w1 S R (rUv r).2 ((rUv r).1:Int) (by omega) (by omega) h1 hrc.SR) fun e2 w2 hR2=>?_
 ·simp only [List.map_cons,List.map_nil,qb_]
  rw [gpe (by simp only [qa_];omega),gpo (show cx.b ≠ n + 1 by omega),gpo (show cx.b ≠ n by omega),hrc.sb]
 obtain ⟨v,he2,h3,h4,h5⟩:=hR2
 refine ⟨_,he2,?_⟩
 refine wl_newReader K0 (y:=n + 2) (v:=v) (gpe (by simp only [qa_];omega)) h5 rfl (by simp only [qa_];omega) (by simp only [qa_];omega) (by omega) (wpList_nil ?_)
 have hk2:Keeps (·=R) w w2:=h2.trans h4
 refine h _ _ w2.heap.size (((((Pv.refl _ _ _ _ _).put _ (by omega)).put _ (by omega)).put _ (by omega)).put _ (by omega) |>.put _ (by omega)) (gpe (by simp only [qa_];omega)) hk2.size (rds_newReader h5 rfl)
  (h3.keep (zv_ (fun _=>False) w2 _ _) id id) (hk2.trans (zv_ _ w2 _ _))
theorem run_eqNil0 (d:Nat) {T:TypeId} {ms:Array (String × TypeId)} (hT:P.underlying T=some (.interface ms)) (w:World):(Op.equalIn (d + 1) T .nilIface .nilIface).run P w=.ok true w:=by
 simp [Op.equalIn,run_underlying hT]
theorem run_eqNil1 (d:Nat) {T:TypeId} {ms:Array (String × TypeId)} (hT:P.underlying T=some (.interface ms)) (t:TypeId) (y:Value) (w:World):(Op.equalIn (d + 1) T (.iface t y) .nilIface).run P w=.ok false w:=by
 simp [Op.equalIn,run_underlying hT]
theorem run_neNil {T:TypeId} {ms:Array (String × TypeId)} (hT:P.underlying T=some (.interface ms)) {v:Value} {b:Bool} (hv:(v=.nilIface/\b=false) \/ ((∃ t y,v=.iface t y)/\b=true)) (w:World):(binOp .neq T v .nilIface).run P w=.ok (.bool b) w:=by
 rcases hv with ⟨rfl,rfl⟩ | ⟨⟨t,y,rfl⟩,rfl⟩
 ·have:(Op.equal T .nilIface .nilIface).run P w=.ok true w:=run_eqNil0 9999 hT w
  simp [binOp,this]
 ·have:(Op.equal T (.iface t y) .nilIface).run P w=.ok false w:=run_eqNil1 9999 hT t y w
  simp [binOp,this]
theorem s_errChk (K0:KB P g av fl) (hfl:fl=true) {b' err R':Nat} {r':RS} (hb:a.get b'=pt R' 0) (hrd:RdS w g.tR S R' r') (herr:ErrAt g.gErr w) (hm6:6 < m) (he':m<=err/\err < k0) (hm:m<=k0) (hk:k0<=n) (hn:n + 4<=a.tmps.size)
  (hbad:r'.bad=true->∀ a' w',Pv 6 m k0 n a a'->(∃ t y,a'.get 6=.iface t y)->Keeps (fun _=>False) w w'->E a' w')
  (hok:r'.bad=false->∀ a' w',Pv 6 m k0 n a a'->Keeps (fun _=>False) w w'->K a' w'):NWP P (gErrChk g b' err n).1 (Rt K E) a w:=by
 obtain ⟨ms,hT⟩:=K0.tErr hfl
 refine q2_ (qc_ (s_call (x:=6) (m:=m) (k0:=k0) K0.cmE hb (K0.cmC w S R' r' hrd herr) (.inr he') hm hk (by omega) (by omega) fun e w1 hR=>?_))
 obtain ⟨hk1,v,he,h0,h1⟩:=hR
 refine ⟨v,he,fun a1 hp1 hg1=>?_⟩
 have hs1:=hp1.size
 have htest:∀ (b:Bool) (K':Act->World->Prop),(v=.nilIface/\b=false) \/ ((∃ t y,v=.iface t y)/\b=true)->(∀ a',a'.eval (tm (n + 1 + 1))=.bool b->Pv 6 k0 k0 (n + 1) a1 a'->K' a' w1) ->
   wpList P [mk (some (n + 1)) (.move (tm err)),mk (some (n + 1 + 1)) (.binOp .neq g.tErr (tm (n + 1)) (.const .nilIface) 0)].toArray (Exit.then K' (Exit.then (LW P [] (n + 4) (Rt K E)) (Rt K E)))
    [mk (some (n + 1)) (.move (tm err)),mk (some (n + 1 + 1)) (.binOp .neq g.tErr (tm (n + 1)) (.const .nilIface) 0)] a1 w1:=by
  intro b K' hb hK'
  refine qd_ ?_
  rw [qb_,hg1]
  refine qn_ (v:=.bool b) (w':=w1) ?_ (wpList_nil (hK' _ ?_ (((Pv.refl _ _ _ _ _).put _ (by omega)).put _ (by omega))))
  ·have e1:(a1.put (some (n + 1)) v).eval (tm (n + 1))=v:=by rw [qb_,gpe (by omega)]
   have e2:(a1.put (some (n + 1)) v).eval (.const .nilIface)=.nilIface:=rfl
   have hg:(eqGuard .neq g.tErr (tm (n + 1)) (.const .nilIface) v .nilIface).run P w1=.ok () w1:=by
    rcases hb with ⟨rfl,_⟩ | ⟨⟨t,y,rfl⟩,_⟩ <;> simp [eqGuard,tm]
   have hr:=run_neNil hT hb w1
   simp only [execOp,mk,e1,e2,Sem.run_bind,hg,Result.andThen_ok,hr,Sem.run_pure]
  ·rw [qb_,gpe (by simp only [qa_];omega)]
 refine qc_ ?_
 cases hb':r'.bad with
 | true=>
  obtain ⟨t,y,rfl⟩:=h1 hb'
  refine z3_ (htest true _ (.inr ⟨⟨t,y,rfl⟩,rfl⟩) fun a2 he2 hp2=>⟨he2,?_⟩)
  have hs2:=hp2.size
  have herr2:a2.get err=.iface t y:=(hp2.get err (by omega) (.inl he'.2)).trans hg1
  refine q2_ (qc_ (qj_ (qd_ (qg_ (wpList_nil (qc_ (.ret ?_)))))))
  rw [qb_,qb_,herr2,gpe (by simp only [qm_,qu_];omega)]
  refine hbad hb' _ w1 ((hp1.trans ((hp2.low hm).mono (Nat.le_refl _) (by omega))).trans (((Pv.refl _ _ _ _ _).put _ ?_).put _ ?_)) ⟨t,y,gpe (by simp only [qa_];omega)⟩ hk1
  ·simp only [qm_,qu_];omega
  ·omega
 | false=>
  have hv0:=h0 hb'
  subst hv0
  refine z2_ (htest false _ (.inl ⟨rfl,rfl⟩) fun a2 he2 hp2=>⟨he2,.skip (q0_ ?_)⟩)
  exact hok hb' a2 w1 (hp1.trans ((hp2.low hm).mono (Nat.le_refl _) (by omega))) hk1
end
def FnIs (P:Program) (f ntmps:Nat) (res:List Nat) (d:Code):Prop:=
 ∃ fn c, P.funcs[f]? = some fn /\ fn.body = some c /\ nCode c = d /\ fn.ntmps = ntmps /\ fn.results = (res.map ResultVar.tmp).toArray /\ (fn.name == "runtime.NumGoroutine") = false
theorem fnIs_of {P : Program} {f : Nat} {fn : Func} {ntmps : Nat} {res : List Nat} {d : Code} (hf : P.funcs[f]? = some fn) (hb : fn.body.map nCode = some d) (hn : fn.ntmps = ntmps) (hr : fn.results = (res.map ResultVar.tmp).toArray) (hg : (fn.name == "runtime.NumGoroutine") = false) : FnIs P f ntmps res d := by
 cases h:fn.body with
 | none=>rw [h] at hb;cases hb
 | some c=>
  rw [h] at hb
  exact ⟨fn,c,hf,h,Option.some.inj hb,hn,hr,hg⟩
def zl_ (res:List Nat) (a:Act):Value:=match res with | [t]=>a.get t | _=>.tuple (res.map a.get).toArray
theorem FnIs.ent {P:Program} {f n:Nat} {res:List Nat} {d:Code} (h:FnIs P f n res d):Ent P f:=by
 obtain ⟨fn,c,hf,hb,_,_,_,hg⟩:=h
 have hg' : ¬ fn.name = "runtime.NumGoroutine" := by simpa using hg
 intro args w
 simp [callFunc,hf,hg',hb]
theorem run_results {P:Program} {fn:Func} {res:List Nat} (hl:res.length<=2) (hr:fn.results=(res.map ResultVar.tmp).toArray) (a:Act) (w:World):(results fn a.tmps).run P w=.ok (zl_ res a) w:=by
 unfold results
 rw [hr]
 match res,hl with
 | [],_=>simp [zl_]
 | [t],_=>simp [zl_,Act.get]
 | [t,u],_=>simp [zl_,Act.get]
theorem FnIs.calls {P:Program} (hm:P.follows .mixedOrders=true) {f n:Nat} {res:List Nat} {d:Code} (h:FnIs P f n res d) (hl:res.length<=2) {args:Array Value} {w:World} {R:Ending->World->Prop}
  (hw:NWP P d (Rt (fun a w=>a.defers=[]/\R (.returned (zl_ res a)) w) (fun a w=>a.defers=[]/\R (.returned (zl_ res a)) w)) { tmps:=args++Array.replicate (n - args.size) undef,defers:=[] } w):Calls P f args w R:=by
 obtain ⟨fn,c,hf,hb,rfl,rfl,hr,_⟩:=h
 refine calls_of_nwp hm hf hb rfl (.mono hw fun e a w hq=>?_)
 cases e <;> first | exact hq.elim | exact ⟨hq.1,_,run_results hl hr a w,hq.2⟩
end Go.Proofs.YtlmanancakaapaaGreatDoor.Kx
