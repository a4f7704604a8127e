/-
  PLAIN LAWS AND CONTRACTS of messages, part 3.
-/
import Derived.Test.YtbgklecbmhaadaaGreatDoorK1

namespace Go.Proofs.YtbgklecbmhaadaaGreatDoor.Kx
open Go
def iE:PF->Ty
 | .bool=>.prim .bool|.i8=>.prim .i8|.i16=>.prim .i16|.u16=>.prim .u16|.i32=>.prim .i32|.i64=>.prim .i64|.uuid=>.prim .uuid
 | .str|.cstr=>.str none
 | .nstr|.cnstr=>.str (some 0)
 | .bytes|.cbytes=>.bytes none
 | .nbytes|.cnbytes=>.bytes (some 0)
def ErrAt (g:Nat)(w:World):Prop:=∃ t x,w.cell? ⟨g,0,none⟩=some (.iface t x)
theorem ErrAt.keep {g:Nat}{X:Nat->Prop}{w w':World}(h:ErrAt g w)(hk:ac X w w')(hg:¬ X g):ErrAt g w':=by
 obtain⟨t,x,h⟩:=h
 exact⟨t,x,hk.cell hg h⟩
def pt (b o:Nat):Value:=.pointer (some ⟨b,o,none⟩)
structure KB (P:Program)(g:G)(av:PF->Bool)(fl:Bool):Prop where
 mixed:P.follows .mixedOrders=true
 rdE:∀ p,av p=true->Ent P (g.rd p)
 rdC:∀ p,av p=true->∀ (w:World) (S R:Nat) (r:RS),cQ w g.tR S R r->S≠R->Calls P (g.rd p) #[pt R 0] w fun e w'=>
  ∃ v,e=.returned v/\cQ w' g.tR S R (p.run r).2/\ac (·=R) w w'/\∀ X:Nat->Prop,(∀ k,X k->k<w.heap.size)->¬ X S->iv w' X (iE p) v.cells.toList (p.run r).1
 i8C:av .i8=true->∀ (w:World) (S R:Nat) (r:RS),cQ w g.tR S R r->S≠R->Calls P (g.rd .i8) #[pt R 0] w fun e w'=>e=.returned (.int .i8 (rI 1 r).1)/\cQ w' g.tR S R (rI 1 r).2/\ac (·=R) w w'
 okE:bL g.ok=true->Ent P g.ok
 okC:bL g.ok=true->∀ (w:World) (S R:Nat) (r:RS),cQ w g.tR S R r->Calls P g.ok #[pt R 0] w fun e w'=>e=.returned (.bool (!r.bad))/\ac (fun _=>False) w w'
 cmE:Ent P g.complete
 cmC:∀ (w:World) (S R:Nat) (r:RS),cQ w g.tR S R r->ErrAt g.gErr w->Calls P g.complete #[pt R 0] w fun e w'=>
  ac (fun _=>False) w w'/\∃ v,e=.returned v/\(r.bad=false->v=.nilIface)/\(r.bad=true->∃ t x,v=.iface t x)
 lenE:bL g.len=true->Ent P g.len
 lenC:bL g.len=true->∀ (w:World) (S R:Nat) (r:RS),cQ w g.tR S R r->S≠R->Calls P g.len #[pt R 0] w fun e w'=>e=.returned (.int .i32 (cL false r).1)/\cQ w' g.tR S R (cL false r).2/\ac (·=R) w w'
 clenE:fl=true->bL g.clen=true->Ent P g.clen
 clenC:fl=true->bL g.clen=true->∀ (w:World) (S R:Nat) (r:RS),cQ w g.tR S R r->S≠R->Calls P g.clen #[pt R 0] w fun e w'=>e=.returned (.int .i32 (cL true r).1)/\cQ w' g.tR S R (cL true r).2/\ac (·=R) w w'
 uvE:fl=true->Ent P g.uv
 uvC:fl=true->∀ (w:World) (S R:Nat) (r:RS),cQ w g.tR S R r->S≠R->Calls P g.uv #[pt R 0] w fun e w'=>e=.returned (.int .u32 (bD r).1)/\cQ w' g.tR S R (bD r).2/\ac (·=R) w w'
 spanE:fl=true->Ent P g.span
 spanC:fl=true->∀ (w:World) (S R:Nat) (r:RS) (k:Int),0<=k->k<4294967296->cQ w g.tR S R r->S≠R->Calls P g.span #[pt R 0,.int .i64 k] w fun e w'=>
  ∃ v,e=.returned v/\cQ w' g.tR S R (b9 k r).2/\ac (·=R) w w'/\bQ w' S v ⟨(b9 k r).1.octets,false,(b9 k r).1.isNul⟩
 tagsE:fl=true->Ent P g.tags
 tagsC:fl=true->∀ (w:World) (S R:Nat) (r:RS),cQ w g.tR S R r->S≠R->S<w.heap.size->Calls P g.tags #[pt R 0] w fun e w'=>
  ∃ m,e=.returned (.agg #[m])/\cQ w' g.tR S R (fW (bD r).1 [] (bD r).2).2/\ac (·=R) w w'/\∀ X:Nat->Prop,(∀ k,X k->k<w.heap.size)->¬ X S->cN w' X m (fW (bD r).1 [] (bD r).2).1
 setE:fl=true->Ent P g.set
 setC:fl=true->∀ (w:World) (B o:Nat) (m:Value) (t:List (Nat × Bs)) (k:Nat) (v:Value) (l:Bs) (cur:Array Value) (te:TypeId),k<4294967296->w.heap[B]?=some (.cells cur te (0,0))->cur[o]?=some m->cN w (·=B) m t->cO w (·=B) v l ->
  Calls P g.set #[pt B o,.int .u32 k,v] w fun e w'=>e=.returned (.tuple #[])/\∃ (q:Nat) (w1:World),w'=w1/\ac (fun b=>b=B \/ b=q) w w'/\(m=.map none->q=w.heap.size)/\(∀ r,m=.map (some r)->q=r) /\
   w'.heap[B]?=some (.cells (cur.setIfInBounds o (.map (some q))) te (0,0))/\∀ X:Nat->Prop,¬ X q->(∀ k,X k->k<w.heap.size)->cO w (fun k=>X k \/ k=q) v l->cN w X m t->cN w' X (.map (some q)) (cp k l t)
 fR:∃ fs f0 f1,P.underlying g.tR=some (.struct fs)/\fs.toList=[f0,f1]/\f0.offset=0/\f1.offset=1/\bd P f0.type false 1/\bd P f1.type false 1
 zR:∀ w,(zeroValue g.tR).run P w=.ok (.agg #[.slice none 0 0,.bool false]) w
 vR:bd P g.tR true 2
 uuid:av .uuid=true->bd P g.tUuid true 16/\∀ w,(zeroValue g.tUuid).run P w=.ok (.agg (Array.replicate 16 (.int .u8 0))) w
 tI32:P.underlying g.tI32=some (.int .i32)
 tU32:fl=true->P.underlying g.tU32=some (.int .u32)
 tInt:P.underlying g.tInt=some (.int .i64)
 vStr:bd P g.tStr false 1/\∀ w,(zeroValue g.tStr).run P w=.ok (.string ⟨#[]⟩) w
 vTags:fl=true->bd P g.tTags true 1
 tErr:fl=true->∃ ms,P.underlying g.tErr=some (.interface ms)
section
variable {P:Program} {x m k0 n:Nat} {K:Act->World->Prop} {Q:Exit->Act->World->Prop} {a:Act} {w:World}
theorem kE {f b v:Nat}{y:Value}{R:Ending->World->Prop}(hf:Ent P f)(hb:a.get b=y)(hc:Calls P f #[y] w R)
  (hv:v=x \/ (m<=v/\v<k0)) (hm:m<=k0) (hk:k0<=n) (hn:n<a.tmps.size) (Hz:v<a.tmps.size)
  (h:∀ e w',R e w'->∃ z,e=.returned z/\∀ a',Pv x m k0 n a a'->a'.get v=z->K a' w'):aQ P (aF f b v n).1 (Exit.then K Q) a w:=by
 refine au (aR (vs:=#[y]) hf (by simp[aa,hb]) hc fun e w' hR=>?_)
 obtain⟨z,he,hh⟩:=h e w' hR
 refine⟨z,he,aj (wpList_nil ?_)⟩
 rw[aa,dA _ _ _ hn]
 exact hh _ (((Pv.refl _ _ _ _ _).put _ (by omega)).put _ (by omega)) (am (by rw[ab];exact Hz))
theorem dt {t k:Nat}{ops:Nat->List Oper}{A B:GC}(JU:wpList P (ops n).toArray (Exit.then (fun a' w'=>a'.eval (tm (n+t))=.bool true/\aQ P (A (n+k)).1 Q a' w') Q) (ops n) a w):aQ P (ej t k ops A B n).1 Q a w:=
 .seq (.reg JU) (fun a' w' h=>.condT h.1 h.2) (fun e a w he hq=>by rw[cA he]at hq;exact hq)
theorem dg {t k:Nat}{ops:Nat->List Oper}{A B:GC}(JU:wpList P (ops n).toArray (Exit.then (fun a' w'=>a'.eval (tm (n+t))=.bool false/\aQ P (B (A (n+k)).2).1 Q a' w') Q) (ops n) a w):aQ P (ej t k ops A B n).1 Q a w:=
 .seq (.reg JU) (fun a' w' h=>.condF h.1 h.2) (fun e a w he hq=>by rw[cA he]at hq;exact hq)
theorem o8 {cx:Cx}{A B:GC}{fx:Bool}(hf:a.get cx.fx=.bool fx)(hm:m<=k0)(hk:k0<=n)(hn:n<a.tmps.size)
  (h:∀ a',Pv x m k0 n a a'->if fx then aQ P (A (n+1)).1 Q a' w else aQ P (B (A (n+1)).2).1 Q a' w):aQ P (ix cx A B n).1 Q a w:=by
 have hp:Pv x m k0 n a (a.put (some n) (.bool fx)):=(Pv.refl _ _ _ _ _).put _ (by omega)
 have:=h _ hp
 cases fx with
 | true=>
  refine dt (ag (wpList_nil ?_))
  rw[aa,hf]
  exact⟨by rw[aa];exact dA _ _ _ hn,by simpa using this⟩
 | false=>
  refine dg (ag (wpList_nil ?_))
  rw[aa,hf]
  exact⟨by rw[aa];exact dA _ _ _ hn,by simpa using this⟩
theorem ry {A B:GC}(hf:a.get 2=.bool false)(hm:m<=k0)(hk:k0<=n)(hn:n<a.tmps.size)
  (h:∀ a',Pv x m k0 n a a'->aQ P (B (A (n+1)).2).1 Q a' w):aQ P (jo A B n).1 Q a w:=by
 have hp:Pv x m k0 n a (a.put (some n) (.bool false)):=(Pv.refl _ _ _ _ _).put _ (by omega)
 refine dg (ag (wpList_nil ?_))
 rw[aa,hf]
 exact⟨by rw[aa];exact dA _ _ _ hn,h _ hp⟩
theorem i5 {op:BinOp}{T:TypeId}{k:IntKind}{p q:Int}{b:Bool}(h:(op=.geq/\b=decide (q<=p)) \/ (op=.leq/\b=decide (p<=q)) \/ (op=.lss/\b=decide (p<q)) \/ (op=.gtr/\b=decide (q<p)) \/ (op=.eql/\b=decide (p=q)) \/ (op=.neq/\b=decide (p≠q))) :
  (binOp op T (.int k p) (.int k q)).run P w=.ok (.bool b) w:=by
 rcases h with⟨rfl,rfl⟩|⟨rfl,rfl⟩|⟨rfl,rfl⟩|⟨rfl,rfl⟩|⟨rfl,rfl⟩|⟨rfl,rfl⟩<;>simp[binOp,Op.intCmp]
 ·exact Bool.beq_eq_decide_eq p q
 ·simp[bne,Bool.beq_eq_decide_eq]
theorem bt {ops:Array Oper}{Q:Exit->Act->World->Prop}{r:List Oper}{d:Option Nat}{op:BinOp}{T:TypeId}{y z:Operand}{k:IntKind}{p q:Int}{b:Bool}(hy:a.eval y=.int k p)(hz:a.eval z=.int k q)
  (hb:(op=.geq/\b=decide (q<=p)) \/ (op=.leq/\b=decide (p<=q)) \/ (op=.lss/\b=decide (p<q)) \/ (op=.gtr/\b=decide (q<p)) \/ (op=.eql/\b=decide (p=q)) \/ (op=.neq/\b=decide (p≠q)))
  (h:wpList P ops Q r (a.put d (.bool b)) w):wpList P ops Q (mk d (.binOp op T y z 0)::r) a w:=
 cE hy hz (by rcases hb with⟨rfl,_⟩|⟨rfl,_⟩|⟨rfl,_⟩|⟨rfl,_⟩|⟨rfl,_⟩|⟨rfl,_⟩<;>simp) (i5 hb) h
theorem bY {ops:Array Oper}{j d:Nat}{o:Oper}{b:Bool}(ho:ops[j]?=some o)(hd:o.dst=some d)(hs:d<a.tmps.size)(hg:a.get d=.bool b):yielded ops a.tmps j=some b:=by
 have:a.tmps[d]?=some (.bool b):=by
  rw[<- hg]
  simp[Act.get,hs]
 simp[yielded,ho,hd,this]
theorem pC {ops : Array Oper} {Q : Exit -> Act -> World -> Prop} {r : List Oper} {d j : Nat} {op : Op} {b : Bool} (hy : yielded ops a.tmps j = some b) (h : (⟨some d, op, 0, "", #[], some (j, b)⟩ : Oper).wp P a w (wpList P ops Q r) Q) :
  wpList P ops Q (gd d op j b::r) a w:=by
 unfold wpList gd
 rw[if_pos (by simp[Region.wanted,hy])]
 exact .inl h
theorem fp {ops:Array Oper}{Q:Exit->Act->World->Prop}{r:List Oper}{d j:Nat}{op:Op}{b:Bool}{v:Value}(hy:yielded ops a.tmps j=some b)(GF:(execOp a.eval (mk (some d) op)).run P w=.ok (.value v) w)
  (h:wpList P ops Q r (a.put (some d) v) w):wpList P ops Q (gd d op j b::r) a w:=by
 refine pC hy ?_
 unfold Oper.wp
 have : execOp a.eval (⟨some d, op, 0, "", #[], some (j, b)⟩ : Oper) = execOp a.eval (mk (some d) op) := by
  simp only[execOp,mk]
 rw[this,GF]
 exact h
theorem d8 {ops:Array Oper}{Q:Exit->Act->World->Prop}{r:List Oper}{d j:Nat}{op:Op}{b c:Bool}(hy:yielded ops a.tmps j=some c)(hc:c≠b)(h:wpList P ops Q r (a.put (some d) undef) w):wpList P ops Q (gd d op j b::r) a w:=by
 unfold wpList gd
 rw[if_neg (by simp[Region.wanted,hy,hc])]
 exact h
theorem fm {ops:Array Oper}{Q:Exit->Act->World->Prop}{r:List Oper}{d:Option Nat}{c y z:Operand}{b:Bool}(hc:a.eval c=.bool b)(h:wpList P ops Q r (a.put d (if b then a.eval y else a.eval z)) w):wpList P ops Q (mk d (.pick c y z)::r) a w:=by
 refine aD ?_ h
 simp[execOp,mk,hc,asBool]
theorem s9 {Q:Exit->Act->World->Prop}{n:Nat}{y1 y2:Nat}{op1 op2:BinOp}{T1 T2:TypeId}{k1 k2:IntKind}{p1 q1 p2 q2:Int}{b1 b2:Bool}(hm:m<=k0)(hk:k0<=n)(hn:n+6<=a.tmps.size)(Vs:y2<n)
  (h1:a.get y1=.int k1 p1) (h2:a.get y2=.int k2 p2)
  (Hc:(op1=.geq/\b1=decide (q1<=p1)) \/ (op1=.leq/\b1=decide (p1<=q1)) \/ (op1=.lss/\b1=decide (p1<q1)) \/ (op1=.gtr/\b1=decide (q1<p1)) \/ (op1=.eql/\b1=decide (p1=q1)) \/ (op1=.neq/\b1=decide (p1≠q1)))
  (Hj:(op2=.geq/\b2=decide (q2<=p2)) \/ (op2=.leq/\b2=decide (p2<=q2)) \/ (op2=.lss/\b2=decide (p2<q2)) \/ (op2=.gtr/\b2=decide (q2<p2)) \/ (op2=.eql/\b2=decide (p2=q2)) \/ (op2=.neq/\b2=decide (p2≠q2)))
  (and:Bool) (y z:Operand) (Vr:y=if and then tm (n+4)else .const (.bool true)) (MQ:z=if and then .const (.bool false)else tm (n+4))
  (h:∀ a',Pv x m k0 n a a'->a'.eval (tm (n+5))=.bool (if and then b1&&b2 else b1 || b2)->Q .normal a' w) :
  wpList P [mk (some n) (.move (tm y1)),mk (some (n+1)) (.binOp op1 T1 (tm n) (ki k1 q1) 0),mk (some (n+2)) (.move (tm (n+1))),gd (n+3) (.move (tm y2)) 2 and,
   gd (n+4) (.binOp op2 T2 (tm (n+3)) (ki k2 q2) 0) 2 and,mk (some (n+5)) (.pick (tm (n+2)) y z)].toArray Q
   [mk (some n) (.move (tm y1)),mk (some (n+1)) (.binOp op1 T1 (tm n) (ki k1 q1) 0),mk (some (n+2)) (.move (tm (n+1))),gd (n+3) (.move (tm y2)) 2 and,
   gd (n+4) (.binOp op2 T2 (tm (n+3)) (ki k2 q2) 0) 2 and,mk (some (n+5)) (.pick (tm (n+2)) y z)] a w:=by
 refine ag ?_
 rw[aa,h1]
 refine bt (b:=b1) (q:=q1) (p:=p1) (k:=k1) (by rw[aa,am (by omega)]) rfl Hc ?_
 refine ag ?_
 rw[aa,am (by simp only[ab];omega)]
 have Gt:Pv x m k0 n a (((a.put (some n) (.int k1 p1)).put (some (n+1)) (.bool b1)).put (some (n+2)) (.bool b1)):=(((Pv.refl _ _ _ _ _).put _ (by omega)).put _ (by omega)).put _ (by omega)
 generalize hA:((a.put (some n) (.int k1 p1)).put (some (n+1)) (.bool b1)).put (some (n+2)) (.bool b1)=A at Gt ⊢
 have G0:A.tmps.size=a.tmps.size:=Gt.size
 have G2:A.get (n+2)=.bool b1:=by rw[<- hA];exact am (by simp only[ab];omega)
 have hgy:A.get y2=.int k2 p2:=by rw[<- hA,ak (by omega),ak (by omega),ak (by omega)];exact h2
 have It:∀ (A':Act),A'.tmps.size=A.tmps.size->A'.get (n+2)=.bool b1->yielded [mk (some n) (.move (tm y1)),mk (some (n+1)) (.binOp op1 T1 (tm n) (ki k1 q1) 0),mk (some (n+2)) (.move (tm (n+1))),gd (n+3) (.move (tm y2)) 2 and,
   gd (n+4) (.binOp op2 T2 (tm (n+3)) (ki k2 q2) 0) 2 and,mk (some (n+5)) (.pick (tm (n+2)) y z)].toArray A'.tmps 2=some b1:=fun A' hs hg=>
  bY (d:=n+2) (o:=mk (some (n+2)) (.move (tm (n+1)))) rfl rfl (by rw[hs,G0];omega) hg
 by_cases hb:b1=and
 ·subst hb
  refine fp (v:=.int k2 p2) (It A rfl G2) (by simp only[execOp,mk,aa,hgy];rfl) ?_
  have GD:=Gt.put (.int k2 p2) (d:=n+3) (by omega)
  refine fp (v:=.bool b2) (It _ (ab _ _ _) (by rw[ak (by omega)];exact G2)) ?_ ?_
  ·have he:(A.put (some (n+3)) (.int k2 p2)).eval (tm (n+3))=.int k2 p2:=by rw[aa];exact am (by rw[G0];omega)
   have IB:(A.put (some (n+3)) (.int k2 p2)).eval (ki k2 q2)=.int k2 q2:=rfl
   have hg:(eqGuard op2 T2 (tm (n+3)) (ki k2 q2) (.int k2 p2) (.int k2 q2)).run P w=.ok () w:=by unfold eqGuard;cases op2<;>simp
   simp only[execOp,mk,he,IB,Sem.run_bind,hg,Result.andThen_ok,i5 Hj,Sem.run_pure]
  ·have HB:=GD.put (.bool b2) (d:=n+4) (by omega)
   refine fm (b:=b1) (by rw[aa,ak (by omega),ak (by omega)];exact G2) (wpList_nil ?_)
   refine h _ (HB.put _ (by omega)) ?_
   rw[aa,am (by simp only[ab];rw[G0];omega)]
   subst Vr MQ
   have Ht:((A.put (some (n+3)) (.int k2 p2)).put (some (n+4)) (.bool b2)).eval (tm (n+4))=.bool b2:=by rw[aa];exact am (by simp only[ab];rw[G0];omega)
   cases b1<;>simp[Ht]
 ·refine d8 (It A rfl G2) hb ?_
  refine d8 (It _ (ab _ _ _) (by rw[ak (by omega)];exact G2)) hb ?_
  have HB:=(Gt.put undef (d:=n+3) (by omega)).put undef (d:=n+4) (by omega)
  refine fm (b:=b1) (by rw[aa,ak (by omega),ak (by omega)];exact G2) (wpList_nil ?_)
  refine h _ (HB.put _ (by omega)) ?_
  rw[aa,am (by simp only[ab];rw[G0];omega)]
  subst Vr MQ
  cases b1<;>cases and<;>simp_all<;>rfl
theorem qa {g:G}{cx:Cx}{lo:Nat}{hi:Option Nat}{A:GC}{ver:Int}(hv:a.get cx.ver=.int .i16 ver)(hm:m<=k0)(hk:k0<=n)(Sh:cx.ver<n)(hA:Up A)(hn:(dX g cx lo hi A n).2<=a.tmps.size)
  (h:∀ a' n',Pv x m k0 n a a'->n<=n'->n'<=n+6->(dX g cx lo hi A n).2=(A n').2->l6 lo hi ver=true->aQ P (A n').1 Q a' w) (H1:∀ a',Pv x m k0 n a a'->l6 lo hi ver=false->Q .normal a' w):aQ P (dX g cx lo hi A n).1 Q a w:=by
 have U0:∀ (v:Int),a.eval (ki .i16 v)=.int .i16 v:=fun v=>rfl
 cases hi with
 | none=>
  by_cases h0:lo=0
  ·subst h0
   simp only[dX,if_true]
   exact h a n (Pv.refl _ _ _ _ _) (Nat.le_refl _) (by omega) (by simp[dX]) (by simp[l6])
  ·simp only[dX,if_neg h0,ej,b6,aY]at hn
   have:=hA (n+2)
   simp only[dX,if_neg h0]
   by_cases HG:(lo:Int)<=ver
   ·refine dt (ag ?_)
    rw[aa,hv]
    refine bt (b:=true) (q:=lo) (p:=ver) (k:=.i16) (by rw[aa,am (by omega)]) rfl (.inl ⟨rfl,by simp;omega⟩) (wpList_nil ?_)
    exact⟨by rw[aa,am (by simp only[ab];omega)],h _ (n+2) (((Pv.refl _ _ _ _ _).put _ (by omega)).put _ (by omega)) (by omega) (by omega) (by simp[dX,h0,ej,b6,aY]) (by simp[l6,HG])⟩
   ·refine dg (ag ?_)
    rw[aa,hv]
    refine bt (b:=false) (q:=lo) (p:=ver) (k:=.i16) (by rw[aa,am (by omega)]) rfl (.inl ⟨rfl,by simp;omega⟩) (wpList_nil ?_)
    exact⟨by rw[aa,am (by simp only[ab];omega)],.skip (H1 _ (((Pv.refl _ _ _ _ _).put _ (by omega)).put _ (by omega)) (by simp[l6,HG,h0]))⟩
 | some hh=>
  simp only[dX,ej,b6,aY]at hn
  have:=hA (n+6)
  replace hn:n+6<=a.tmps.size:=by omega
  have key:∀ (b:Bool),b=(decide ((lo:Int)<=(ver:Int))&&decide ((ver:Int)<=(hh:Int)))->l6 lo (some hh) ver=b:=by
   intro b hb
   rw[hb]
   simp[l6]
  by_cases P4:(lo:Int)<=ver/\ver<=(hh:Int)
  ·refine dt (s9 (b1:=true) (b2:=true) (x:=x) (m:=m) (k0:=k0) hm hk hn Sh hv hv (.inl ⟨rfl,by simp;omega⟩) (.inr (.inl ⟨rfl,by simp;omega⟩)) true _ _ rfl rfl fun a' hp he=>?_)
   exact⟨by simpa using he,h a' (n+6) hp (by omega) (by omega) (by simp[dX,ej,b6,aY]) (by simp[l6];omega)⟩
  ·refine dg (s9 (b1:=decide ((lo:Int)<=(ver:Int))) (b2:=decide ((ver:Int)<=(hh:Int))) (x:=x) (m:=m) (k0:=k0) hm hk hn Sh hv hv (.inl ⟨rfl,rfl⟩) (.inr (.inl ⟨rfl,rfl⟩)) true _ _ rfl rfl fun a' hp he=>?_)
   refine⟨?_,.skip (H1 a' hp (by simp[l6];omega))⟩
   rw[he]
   simp
   omega
end
structure em (R B:Nat)(Z:Nat->Prop)(w w':World):Prop where
 keeps:ac (fun k=>k=R \/ k=B) w w'
 blk:∀ cs te,w.heap[B]?=some (.cells cs te (0,0))->∃ cs',w'.heap[B]?=some (.cells cs' te (0,0))/\cs'.size=cs.size/\∀ j,¬ Z j->cs'[j]?=cs[j]?
theorem em.refl (R B:Nat)(Z:Nat->Prop)(w:World):em R B Z w w:=⟨ac.refl _ _,fun cs _ h=>⟨cs,h,rfl,fun _ _=>rfl⟩⟩
theorem em.trans {R B:Nat}{Z:Nat->Prop}{a b c:World}(h:em R B Z a b)(k:em R B Z b c):em R B Z a c:=
 ⟨h.keeps.trans k.keeps,fun cs te hc=>by
  obtain⟨c1,h1,h2,h3⟩:=h.blk cs te hc
  obtain⟨c2,k1,k2,k3⟩:=k.blk c1 te h1
  exact⟨c2,k1,k2.trans h2,fun j hj=>(k3 j hj).trans (h3 j hj)⟩⟩
theorem em.mono {R B:Nat}{Z Z':Nat->Prop}{a b:World}(h:em R B Z a b)(hz:∀ j,Z j->Z' j):em R B Z' a b:=
 ⟨h.keeps,fun cs te hc=>by
  obtain⟨c1,k1,k2,k3⟩:=h.blk cs te hc
  exact⟨c1,k1,k2,fun j hj=>k3 j fun hh=>hj (hz j hh)⟩⟩
theorem em.of_keeps {X:Nat->Prop}{R B:Nat}{Z:Nat->Prop}{w w':World}(h:ac X w w')(hx:∀ k,k<w.heap.size->X k->k=R)(hB:B≠R):em R B Z w w':=
 ⟨h.mono fun k hk hX=>.inl (hx k hk hX),fun cs te hc=>⟨cs,by
  have Gq:B<w.heap.size:=(Array.getElem?_eq_some_iff.1 hc).1
  rw[h.block B Gq fun hX=>hB (hx B Gq hX)];exact hc,rfl,fun _ _=>rfl⟩⟩
theorem em.store {R B lo:Nat}{Z:Nat->Prop}{w:World}{cur:Array Value}{te:TypeId}{cs:List Value}(hB:w.heap[B]?=some (.cells cur te (0,0)))(hs:lo+cs.length<=cur.size)(hz:∀ j,lo<=j->j<lo+cs.length->Z j) :
  em R B Z w (w.setRow B (aI cur lo cs)):=by
 refine⟨ac.setRow _ w B _ (.inr rfl),fun c te' hc=>?_⟩
 rw[hB]at hc
 obtain⟨rfl,rfl,_⟩:=Obj.cells.inj (Option.some.inj hc)
 refine⟨_,setRow_heap w B cur _ te (0,0) hB,dO hs,fun j hj=>cm hs j ?_⟩
 rcases Nat.lt_or_ge j lo with h|h
 ·exact .inl h
 ·rcases Nat.lt_or_ge j (lo+cs.length)with h2|h2
  ·exact absurd (hz j h h2) hj
  ·exact .inr h2
theorem em.cell {R B:Nat}{Z:Nat->Prop}{w w':World}(h:em R B Z w w'){cs:Array Value}{te:TypeId}(hB:w.heap[B]?=some (.cells cs te (0,0))){j:Nat}(hj:¬ Z j):w'.cell? ⟨B,j,none⟩=w.cell? ⟨B,j,none⟩:=by
 obtain⟨c1,k1,_,k3⟩:=h.blk cs te hB
 simp[World.cell?,hB,k1,k3 j hj]
def sx (w0:World)(S:Nat)(T:(Nat->Prop)->Prop):Prop:=∀ X:Nat->Prop,(∀ k,X k->k<w0.heap.size)->¬ X S->T X
theorem Rp.evo {w0:World}{S R B:Nat}{Z:Nat->Prop}{w w':World}(h:em R B Z w w')(hR:R<w0.heap.size)(hB0:B<w0.heap.size)(hRS:R≠S)(JK:B≠S){ty:Ty}{o:Nat}{v:V}(hv:sx w0 S fun X=>Rp w X ty B o v)
  (hd:∀ j,o<=j->j<o+ty.sz->¬ Z j) {cs:Array Value} {te:TypeId} (hB:w.heap[B]?=some (.cells cs te (0,0))):sx w0 S fun X=>Rp w' X ty B o v:=by
 intro X hX hS
 have h1:=hv (fun k=>X k \/ k=R \/ k=B) (fun k hk=>by rcases hk with hk|rfl|rfl<;>first|exact hX k hk|assumption) (fun hk=>by rcases hk with hk|hk|hk<;>first|exact hS hk|exact hRS hk.symm|exact JK hk.symm)
 have h2:=Rp.frame (h.keeps.mono fun k _ hk=>.inr hk) ty B o v h1 fun j h3 h4=>h.cell hB (hd j h3 h4)
 exact Rp.mono (fun k _ hk=>.inl hk) ty B o v h2
structure eb (cx:Cx)(m k0:Nat):Prop where
 b:cx.b<m/\cx.b≠6
 s:cx.s<m/\cx.s≠6
 ver:cx.ver<m/\cx.ver≠6
 fx:cx.fx<m/\cx.fx≠6
 six:6<m
 le:m<=k0
structure RC (g:G)(cx:Cx)(fx:Bool)(ver:Int)(S R B O:Nat)(r:RS)(a:Act)(w:World):Prop where
 rd:cQ w g.tR S R r
 sb:a.get cx.b=pt R 0
 ss:a.get cx.s=pt B O
 sv:a.get cx.ver=.int .i16 ver
 sf:cx.hf=true->a.get cx.fx=.bool fx
 nf:cx.hf=false->fx=false
 su:a.get 2=.bool false
 err:ErrAt g.gErr w
 SR:S≠R
 BR:B≠R
 BS:B≠S
 gR:g.gErr≠R
 gB:g.gErr≠B
 Slt:S<w.heap.size
theorem RC.step {g:G}{cx:Cx}{fx:Bool}{ver:Int}{S R B O:Nat}{r r':RS}{a a':Act}{w w':World}{m k0 n:Nat}{X:Nat->Prop}(h:RC g cx fx ver S R B O r a w)(hc:eb cx m k0)(hp:Pv 6 m k0 n a a')(hr:cQ w' g.tR S R r')
  (hk:ac X w w') (hX:∀ k,k<w.heap.size->X k->k=R \/ k=B):RC g cx fx ver S R B O r' a' w':=by
 obtain⟨t,x,he⟩:=h.err
 exact⟨hr,(hp.get _ hc.b.2 (.inl hc.b.1)).trans h.sb,(hp.get _ hc.s.2 (.inl hc.s.1)).trans h.ss,(hp.get _ hc.ver.2 (.inl hc.ver.1)).trans h.sv,fun hf=>(hp.get _ hc.fx.2 (.inl hc.fx.1)).trans (h.sf hf),h.nf,
  (hp.get 2 (by omega) (.inl (by have:=hc.six;omega))).trans h.su,ErrAt.keep ⟨t,x,he⟩ hk (fun hx=>by
   rcases hX _ (cM he) hx with e|e
   ·exact h.gR e
   ·exact h.gB e),h.SR,h.BR,h.BS,h.gR,h.gB,Nat.lt_of_lt_of_le h.Slt hk.size⟩
def FI (w:World)(a:Act)(uu:Option Nat)(v:Nat)(cs:List Value):Prop:=
 match uu with
 | none=>∃ y,a.get v=y/\y.cells.toList=cs
 | some _=>∃ b o,a.get v=.pointer (some ⟨b,o,none⟩)/\ao w b o cs
def mn (av:PF->Bool)(hf:Bool):Ty->Bool
 | .prim p=>av (bN p)
 | .str none=>av .str&&(!hf || av .cstr)
 | .str (some 0)=>av .nstr&&(!hf || av .cnstr)
 | .str (some (_+1))=>av .str&&av .nstr&&(!hf || (av .cstr&&av .cnstr))
 | .bytes none=>av .bytes&&(!hf || av .cbytes)
 | .bytes (some 0)=>av .nbytes&&(!hf || av .cnbytes)
 | _=>false
section
variable {P:Program} {g:G} {av:PF->Bool} {fl:Bool} {cx:Cx} {fx:Bool} {ver:Int} {S R B O:Nat} {r:RS} {m k0 n:Nat} {Q:Exit->Act->World->Prop} {a:Act} {w:World}
def Dy (g:G)(S R:Nat)(p:PF)(ty:Ty)(r:RS)(w:World)(val:Value)(w':World):Prop:=
 cQ w' g.tR S R (p.run r).2/\ac (·=R) w w'/\∀ X:Nat->Prop,(∀ k,X k->k<w.heap.size)->¬ X S->iv w' X ty val.cells.toList (p.run r).1
theorem pZ (K:KB P g av fl){K':Act->World->Prop}{p:PF}(hp:av p=true)(Gl:RC g cx fx ver S R B O r a w){v:Nat}(hv:m<=v/\v<k0)(hm:m<=k0)(hk:k0<=n)(hn:n<a.tmps.size)(Hz:v<a.tmps.size)
  (h:∀ a' w' val,Pv 6 m k0 n a a'->a'.get v=val->Dy g S R p (iE p) r w val w'->K' a' w'):aQ P (aF (g.rd p) cx.b v n).1 (Exit.then K' Q) a w:=by
 refine kE (x:=6) (m:=m) (k0:=k0) (K.rdE p hp) Gl.sb (K.rdC p hp w S R r Gl.rd Gl.SR) (.inr hv) hm hk hn Hz fun e w' hR=>?_
 obtain⟨val,he,h1,h2,h3⟩:=hR
 exact⟨val,he,fun a' hp hg=>h a' w' val hp hg ⟨h1,h2,h3⟩⟩
theorem xY (K:KB P g av fl){K':Act->World->Prop}{p q:PF}(hp:av p=true)(hq:av q=true)(GR:cx.hf=true)(Gl:RC g cx fx ver S R B O r a w)(hc:eb cx m k0){v:Nat}(hv:m<=v/\v<k0)(hk:k0<=n)(hn:n+3<=a.tmps.size)(Hz:v<a.tmps.size)
  (h:∀ a' w' val,Pv 6 m k0 n a a'->a'.get v=val->Dy g S R (if fx then p else q) (iE (if fx then p else q)) r w val w'->K' a' w') :
  aQ P (ix cx (aF (g.rd p) cx.b v) (aF (g.rd q) cx.b v) n).1 (Exit.then K' Q) a w:=by
 refine o8 (x:=6) (m:=m) (k0:=k0) (fx:=fx) (Gl.sf GR) hc.le hk (by omega) fun a' GK=>?_
 have hrc':RC g cx fx ver S R B O r a' w:=Gl.step hc GK Gl.rd (ac.refl (fun _=>False) w) (fun _ _ h=>h.elim)
 have G0:=GK.size
 cases fx with
 | true=>
  simp only[if_true]at h ⊢
  exact pZ K hp hrc' hv hc.le (by omega:k0<=n+1) (by omega) (by omega) fun a2 w2 val h1 h2 h3=>h a2 w2 val (GK.trans (h1.mono (Nat.le_refl _) (by omega))) h2 h3
 | false=>
  simp only[Bool.false_eq_true,if_false]at h ⊢
  exact pZ K hq hrc' hv hc.le (by simp[aF,aA];omega) (by simp[aF,aA];omega) (by omega) fun a2 w2 val h1 h2 h3=>h a2 w2 val (GK.trans (h1.mono (Nat.le_refl _) (by simp[aF,aA];omega))) h2 h3
theorem xZ (K:KB P g av fl){K':Act->World->Prop}(hp:av .nstr=true)(hq:cx.hf=true->av .cnstr=true)(Gl:RC g cx fx ver S R B O r a w)(hc:eb cx m k0){v:Nat}(hv:m<=v/\v<k0)(hk:k0<=n)
  (hn:((if cx.hf then ix cx (jo (aF (g.un .cnstr) cx.b v) (aF (g.rd .cnstr) cx.b v)) (jo (aF (g.un .nstr) cx.b v) (aF (g.rd .nstr) cx.b v))else jo (aF (g.un .nstr) cx.b v) (aF (g.rd .nstr) cx.b v):GC) n).2<=a.tmps.size) (Hz:v<a.tmps.size)
  (h:∀ a' w' val,Pv 6 m k0 n a a'->a'.get v=val->Dy g S R (dM true fx) (.str (some 0)) r w val w'->K' a' w') :
  aQ P ((if cx.hf then ix cx (jo (aF (g.un .cnstr) cx.b v) (aF (g.rd .cnstr) cx.b v)) (jo (aF (g.un .nstr) cx.b v) (aF (g.rd .nstr) cx.b v))else jo (aF (g.un .nstr) cx.b v) (aF (g.rd .nstr) cx.b v):GC) n).1 (Exit.then K' Q) a w:=by
 cases GR:cx.hf with
 | true=>
  simp only[GR,if_true,ix,jo,ej,aF,aA]at hn
  simp only[if_true]
  refine o8 (x:=6) (m:=m) (k0:=k0) (fx:=fx) (Gl.sf GR) hc.le hk (by omega) fun a1 Gk=>?_
  have Gu:=Gk.size
  have G6:RC g cx fx ver S R B O r a1 w:=Gl.step hc Gk Gl.rd (ac.refl (fun _=>False) w) (fun _ _ h=>h.elim)
  cases fx with
  | true=>
   simp only[if_true]
   refine ry (x:=6) (m:=m) (k0:=k0) G6.su hc.le (by omega) (by omega) fun a2 Gm=>?_
   have G9:=Gm.size
   have Hf:RC g cx true ver S R B O r a2 w:=G6.step hc Gm G6.rd (ac.refl (fun _=>False) w) (fun _ _ h=>h.elim)
   simp only[aF,aA]at Gm ⊢
   exact pZ K (hq GR) Hf hv hc.le (by omega) (by omega) (by omega) fun a3 w3 val h1 h2 h3=>h a3 w3 val ((Gk.trans (Gm.mono (Nat.le_refl _) (by omega))).trans (h1.mono (Nat.le_refl _) (by omega))) h2 h3
  | false=>
   simp only[Bool.false_eq_true,if_false]
   refine ry (x:=6) (m:=m) (k0:=k0) G6.su hc.le (by simp[jo,ej,aF,aA];omega) (by simp[jo,ej,aF,aA];omega) fun a2 Gm=>?_
   have G9:=Gm.size
   have Hf:RC g cx false ver S R B O r a2 w:=G6.step hc Gm G6.rd (ac.refl (fun _=>False) w) (fun _ _ h=>h.elim)
   simp only[jo,ej,aF,aA]at Gm ⊢
   exact pZ K hp Hf hv hc.le (by omega) (by omega) (by omega) fun a3 w3 val h1 h2 h3=>h a3 w3 val ((Gk.trans (Gm.mono (Nat.le_refl _) (by omega))).trans (h1.mono (Nat.le_refl _) (by omega))) h2 h3
 | false=>
  have HN:=Gl.nf GR
  subst HN
  simp only[GR,Bool.false_eq_true,if_false,jo,ej,aF,aA]at hn
  simp only[Bool.false_eq_true,if_false]
  refine ry (x:=6) (m:=m) (k0:=k0) Gl.su hc.le hk (by omega) fun a2 Gm=>?_
  have G9:=Gm.size
  have Hf:RC g cx false ver S R B O r a2 w:=Gl.step hc Gm Gl.rd (ac.refl (fun _=>False) w) (fun _ _ h=>h.elim)
  simp only[aF,aA]at Gm ⊢
  exact pZ K hp Hf hv hc.le (by omega) (by omega) (by omega) fun a3 w3 val h1 h2 h3=>h a3 w3 val (Gm.trans (h1.mono (Nat.le_refl _) (by omega))) h2 h3
theorem pY (K:KB P g av fl){K':Act->World->Prop}{p:PF}(hp:av p=true)(M8:iE p=.str none)(Gl:RC g cx fx ver S R B O r a w){vv q:Nat}{cur:Array Value}(J5:a.get vv=pt q 0)(hq:w.heap[q]?=some (.cells cur g.tStr (0,0)))(PZ:cur.size=1)(Pw:q≠R)(Oy:q≠S)
  (hm:m<=k0) (hk:k0<=n) (NZ:vv<n) (hn:n<a.tmps.size)
  (h:∀ a' w',Pv 6 m k0 n a a'->(∃ l:Bs,(p.run r).1=.s l/\l.length<=maxLen/\w'.cell? ⟨q,0,none⟩=some (.string ⟨l.toArray⟩))->cQ w' g.tR S R (p.run r).2->ac (fun k=>k=R \/ k=q) w w'->K' a' w') :
  aQ P (aA 1 (fun n=>[cl (some n) (g.rd p) [tm cx.b],mk none (.store g.tStr (tm vv) (tm n))]) n).1 (Exit.then K' Q) a w:=by
 refine au (aR (vs:=#[pt R 0]) (K.rdE p hp) (by simp[aa,Gl.sb]) (K.rdC p hp w S R r Gl.rd Gl.SR) fun e w' hR=>?_)
 obtain⟨val,he,h1,h2,h3⟩:=hR
 refine⟨val,he,?_⟩
 have hl:=h3 (fun _=>False) (fun _ h=>h.elim) (fun h=>h.elim)
 rw[M8]at hl
 obtain⟨l,Jq,Mm,Lx⟩:=hl
 have Ox:q<w.heap.size:=(Array.getElem?_eq_some_iff.1 hq).1
 have RX:w'.heap[q]?=some (.cells cur g.tStr (0,0)):=by rw[h2.block q Ox Pw];exact hq
 refine bw (g:=q) (o:=0) (cur:=cur) (t:=g.tStr) (v:=val) (vs:=val.cells.toList) ?_ ?_ rfl (by rw[Jq];exact K.vStr.1.size _) RX (by rw[Jq];simp;omega) (by rw[Jq];simp[Value.oneCell']) (wpList_nil ?_)
 ·rw[aa,ak (by omega)];exact J5
 ·rw[aa,dA _ _ _ hn]
 ·refine h _ _ ((Pv.refl _ _ _ _ _).put _ (by omega)) ⟨l,Mm,Lx,?_⟩ ?_ ?_
  ·rw[cell_setRow_same _ _ _ _ _ _ _ RX,Jq]
   have:=bU (cur:=cur) (o:=0) (vs:=[Value.string ⟨l.toArray⟩]) (by simp;omega) 0 (by simp)
   simpa using this
  ·have Sd:ac (fun k=>k=q) w' (w'.setRow q (aI cur 0 val.cells.toList)):=ac.setRow _ _ _ _ rfl
   exact h1.keep Sd (Ne.symm Oy) (Ne.symm Pw)
  ·have Sd:ac (fun k=>k=R \/ k=q) w' (w'.setRow q (aI cur 0 val.cells.toList)):=ac.setRow _ _ _ _ (.inr rfl)
   exact(h2.mono fun _ _ h=>.inl h).trans Sd
def wL (g:G)(cx:Cx)(t f:Nat):GC:=aA 1 fun n=>[cl (some n) f [tm cx.b],mk none (.store g.tStr (tm t) (tm n))]
def fJ (g:G)(cx:Cx)(t:Nat):GC:=if cx.hf then ix cx (jo (wL g cx t (g.un .cstr)) (wL g cx t (g.rd .cstr))) (jo (wL g cx t (g.un .str)) (wL g cx t (g.rd .str)))else jo (wL g cx t (g.un .str)) (wL g cx t (g.rd .str))
def Dw (g:G)(cx:Cx)(v:Nat):GC:=if cx.hf then ix cx (jo (aF (g.un .cnstr) cx.b v) (aF (g.rd .cnstr) cx.b v)) (jo (aF (g.un .nstr) cx.b v) (aF (g.rd .nstr) cx.b v))else jo (aF (g.un .nstr) cx.b v) (aF (g.rd .nstr) cx.b v)
theorem vP (g:G)(cx:Cx)(t:Nat):Up (fJ g cx t):=by
 unfold fJ
 split
 ·exact cg (cg (aq _ _) (aq _ _)) (cg (aq _ _) (aq _ _))
 ·exact cg (aq _ _) (aq _ _)
theorem D6 (g:G)(cx:Cx)(t:Nat):Up (Dw g cx t):=by
 unfold Dw
 split
 ·exact cg (cg (aq _ _) (aq _ _)) (cg (aq _ _) (aq _ _))
 ·exact cg (aq _ _) (aq _ _)
theorem eb.high (h:eb cx m k0):eb cx k0 k0:=
 have:=h.le
 ⟨⟨by have:=h.b;omega,h.b.2⟩,⟨by have:=h.s;omega,h.s.2⟩,⟨by have:=h.ver;omega,h.ver.2⟩,⟨by have:=h.fx;omega,h.fx.2⟩,by have:=h.six;omega,Nat.le_refl _⟩
theorem yc (K:KB P g av fl){K':Act->World->Prop}(hp:av .str=true)(Gm:cx.hf=true->av .cstr=true)(Gl:RC g cx fx ver S R B O r a w)(hc:eb cx k0 k0){vv q:Nat}{cur:Array Value}(J5:a.get vv=pt q 0)(MX:vv<k0)(N6:vv≠6)(hq:w.heap[q]?=some (.cells cur g.tStr (0,0)))(PZ:cur.size=1)(Pw:q≠R)(Oy:q≠S)
  (hk:k0<=n) (hn:(fJ g cx vv n).2<=a.tmps.size)
  (h:∀ a' w',Pv 6 k0 k0 n a a'->(∃ l:Bs,((dM false fx).run r).1=.s l/\l.length<=maxLen/\w'.cell? ⟨q,0,none⟩=some (.string ⟨l.toArray⟩))->cQ w' g.tR S R ((dM false fx).run r).2->ac (fun k=>k=R \/ k=q) w w'->K' a' w') :
  aQ P (fJ g cx vv n).1 (Exit.then K' Q) a w:=by
 unfold fJ at hn ⊢
 cases GR:cx.hf with
 | true=>
  simp only[GR,if_true,ix,jo,wL,ej,aA]at hn
  simp only[if_true]
  refine o8 (x:=6) (m:=k0) (k0:=k0) (fx:=fx) (Gl.sf GR) (Nat.le_refl _) hk (by omega) fun a1 Gk=>?_
  have Gu:=Gk.size
  have G6:RC g cx fx ver S R B O r a1 w:=Gl.step hc Gk Gl.rd (ac.refl (fun _=>False) w) (fun _ _ h=>h.elim)
  have Iu:a1.get vv=pt q 0:=(Gk.get vv N6 (.inl MX)).trans J5
  cases fx with
  | true=>
   simp only[if_true]
   refine ry (x:=6) (m:=k0) (k0:=k0) G6.su (Nat.le_refl _) (by omega) (by omega) fun a2 hp2'=>?_
   have G9:=hp2'.size
   have Hf:RC g cx true ver S R B O r a2 w:=G6.step hc hp2' G6.rd (ac.refl (fun _=>False) w) (fun _ _ h=>h.elim)
   have Jl:a2.get vv=pt q 0:=(hp2'.get vv N6 (.inl MX)).trans Iu
   simp only[wL,aA]at hp2' ⊢
   exact pY K (p:=.cstr) (Gm GR) rfl Hf Jl hq PZ Pw Oy (Nat.le_refl _) (by omega) (by omega) (by omega) fun a3 w3 h1 h2 h3 h4=>h a3 w3 ((Gk.trans (hp2'.mono (Nat.le_refl _) (by omega))).trans (h1.mono (Nat.le_refl _) (by omega))) h2 h3 h4
  | false=>
   simp only[Bool.false_eq_true,if_false]
   refine ry (x:=6) (m:=k0) (k0:=k0) G6.su (Nat.le_refl _) (by simp[jo,ej,wL,aA];omega) (by simp[jo,ej,wL,aA];omega) fun a2 hp2'=>?_
   have G9:=hp2'.size
   have Hf:RC g cx false ver S R B O r a2 w:=G6.step hc hp2' G6.rd (ac.refl (fun _=>False) w) (fun _ _ h=>h.elim)
   have Jl:a2.get vv=pt q 0:=(hp2'.get vv N6 (.inl MX)).trans Iu
   simp only[jo,ej,wL,aA]at hp2' ⊢
   exact pY K (p:=.str) hp rfl Hf Jl hq PZ Pw Oy (Nat.le_refl _) (by omega) (by omega) (by omega) fun a3 w3 h1 h2 h3 h4=>h a3 w3 ((Gk.trans (hp2'.mono (Nat.le_refl _) (by omega))).trans (h1.mono (Nat.le_refl _) (by omega))) h2 h3 h4
 | false=>
  have HN:=Gl.nf GR
  subst HN
  simp only[GR,Bool.false_eq_true,if_false,jo,wL,ej,aA]at hn
  simp only[Bool.false_eq_true,if_false]
  refine ry (x:=6) (m:=k0) (k0:=k0) Gl.su (Nat.le_refl _) hk (by omega) fun a2 hp2'=>?_
  have G9:=hp2'.size
  have Hf:RC g cx false ver S R B O r a2 w:=Gl.step hc hp2' Gl.rd (ac.refl (fun _=>False) w) (fun _ _ h=>h.elim)
  have Jl:a2.get vv=pt q 0:=(hp2'.get vv N6 (.inl MX)).trans J5
  simp only[wL,aA]at hp2' ⊢
  exact pY K (p:=.str) hp rfl Hf Jl hq PZ Pw Oy (Nat.le_refl _) (by omega) (by omega) (by omega) fun a3 w3 h1 h2 h3 h4=>h a3 w3 (hp2'.trans (h1.mono (Nat.le_refl _) (by omega))) h2 h3 h4
def ef (fx:Bool)(ver:Int)(ty:Ty)(r:RS):V × RS:=
 match ty with
 | .prim p=>(bN p).run r
 | .str nul=>(dM (dK nul ver) fx).run r
 | .bytes nul=>(bS (dK nul ver) fx).run r
 | _=>(.nul,r)
theorem oY (fx:Bool)(ver:Int)(ty:Ty)(old:V)(r:RS)(h:ty.leaf=true):e7 fx ver ty old r=.ok (ef fx ver ty r).1 (ef fx ver ty r).2:=by
 cases ty<;>first|rfl|cases h
def jX (m k0 v:Nat)(x:List Nat):Bool:=decide (m<=v/\v<k0)&&x.all fun t=>decide (m<=t/\t<k0)&&t != v
def vo (g:G)(S R:Nat)(ty:Ty)(m k0 n v:Nat)(a:Act)(w:World)(res:V × RS)(a':Act)(w':World):Prop:=
 ∃ cs,Pv 6 m k0 n a a'/\FI w' a' (k6 g ty) v cs/\cQ w' g.tR S R res.2/\ac (·=R) w w'/\∀ X:Nat->Prop,(∀ k,X k->k<w.heap.size)->¬ X S->iv w' X ty cs res.1
theorem cF {p:PF}{ty:Ty}{v:Nat}{a':Act}{w':World}{val:Value}{res:V × RS}(hu:k6 g ty=none)(h1:Pv 6 m k0 n a a')(h2:a'.get v=val)(h3:Dy g S R p (iE p) r w val w')(Oq:res=p.run r)
  (hl:∀ X cs y,iv w' X (iE p) cs y->iv w' X ty cs y):vo g S R ty m k0 n v a w res a' w':=by
 subst Oq
 refine⟨val.cells.toList,h1,?_,h3.1,h3.2.1,fun X hX hS=>hl X _ _ (h3.2.2 X hX hS)⟩
 rw[hu]
 exact⟨val,h2,rfl⟩
theorem fu {cur:Array Value}{cs:List Value}(h:cs.length=cur.size):aI cur 0 cs=cs.toArray:=by
 simp[aI,h]
theorem Bz (K:KB P g av fl){ty:Ty}{v:Nat}{x:List Nat}{rest:List GC}(IF:mn av cx.hf ty=true)(Gl:RC g cx fx ver S R B O r a w)(hc:eb cx m k0)(hk:k0<=n)(G7:jX m k0 v x=true)(Hk:k0<=a.tmps.size)
  (hx:(∃ t,x=[t]/\∃ q,ty=.str (some (q+1))) \/ (x=[]/\∀ q,ty≠.str (some (q+1))) \/ (∃ t u,x=[t,u]/\∃ p,ty=.prim p/\p≠.uuid))
  (hN:(gL (ib g cx ty v x) n).2<=a.tmps.size)
  (h:∀ a' w',vo g S R ty m k0 n v a w (ef fx ver ty r) a' w'->LW P rest (gL (ib g cx ty v x) n).2 Q a' w') :
  LW P (ib g cx ty v x++rest) n Q a w:=by
 have JM:m<=v/\v<k0:=by simp only[jX,Bool.and_eq_true,decide_eq_true_eq]at G7;exact G7.1
 have ST:∀ t∈x,(m<=t/\t<k0)/\t≠v:=fun t ht=>by
  simp only[jX,Bool.and_eq_true,decide_eq_true_eq,List.all_eq_true]at G7
  have:=G7.2 t ht
  simpa using this
 cases ty with
 | list=>cases IF
 | struct=>cases IF
 | prim p=>
  by_cases hu:p=.uuid
  ·subst hu
   rcases hx with⟨t,rfl,q,hq⟩|⟨rfl,_⟩|⟨t,u,rfl,p,hp,Ie⟩
   ·cases hq
   ·simp only[mn,bN]at IF
    simp only[ib,gL,aA]at hN
    refine ad (au (aR (vs:=#[pt R 0]) (K.rdE .uuid IF) (by simp[aa,Gl.sb]) (K.rdC .uuid IF w S R r Gl.rd Gl.SR) fun e w' hR=>?_))
    obtain⟨val,he,h1,h2,h3⟩:=hR
    refine⟨val,he,?_⟩
    obtain⟨hvU,hzU⟩:=K.uuid IF
    refine ep (hzU w') ?_
    have hl:=(h3 (fun _=>False) (fun _ h=>h.elim) (fun h=>h.elim)).len
    have KG:val.cells.toList.length=16:=by simpa[iE,Ty.sz]using hl
    have GG:∀ y∈val.cells.toList,y.oneCell'=true:=by
     obtain⟨l,_,Mm,_⟩:=h3 (fun _=>False) (fun _ h=>h.elim) (fun h=>h.elim)
     intro y hy
     rw[Mm]at hy
     obtain⟨b,_,rfl⟩:=List.mem_map.1 hy
     rfl
    have Jp:(w'.alloc (.cells (Value.agg (Array.replicate 16 (.int .u8 0))).cells g.tUuid (0,0))).heap[w'.heap.size]?=some (.cells (Array.replicate 16 (.int .u8 0)) g.tUuid (0,0)):=heap_alloc_new w' _
    refine bw (g:=w'.heap.size) (o:=0) (cur:=Array.replicate 16 (.int .u8 0)) (t:=g.tUuid) (v:=val) (vs:=val.cells.toList) ?_ ?_ rfl (by rw[KG];exact hvU.size _) Jp (by rw[KG];simp) GG (wpList_nil ?_)
    ·rw[aa,am (by simp only[ab];omega)]
    ·rw[aa,ak (by omega),am (by omega)]
    ·have JG:ac (·=R) w' (w'.alloc (.cells (Value.agg (Array.replicate 16 (.int .u8 0))).cells g.tUuid (0,0))):=ac.alloc _ _ _
     have Sd:ac (fun k=>k=w'.heap.size) (w'.alloc (.cells (Value.agg (Array.replicate 16 (.int .u8 0))).cells g.tUuid (0,0))) ((w'.alloc (.cells (Value.agg (Array.replicate 16 (.int .u8 0))).cells g.tUuid (0,0))).setRow w'.heap.size (aI (Array.replicate 16 (.int .u8 0)) 0 val.cells.toList)):=
      ac.setRow _ _ _ _ rfl
     have hk0':ac (fun _=>False) w' ((w'.alloc (.cells (Value.agg (Array.replicate 16 (.int .u8 0))).cells g.tUuid (0,0))).setRow w'.heap.size (aI (Array.replicate 16 (.int .u8 0)) 0 val.cells.toList)):=
      ⟨rfl,rfl,rfl,by simp,fun k HM _=>by rw[setRow_other _ _ _ _ (by omega)];exact(ac.alloc (fun _=>False) w' _).block k HM id⟩
     refine h _ _ ⟨val.cells.toList,((Pv.refl _ _ _ _ _).put _ (by omega)).put _ (by omega),⟨w'.heap.size,0,am (by simp only[ab];omega),?_⟩,?_,h2.trans (hk0'.mono fun _ _ h=>h.elim),fun X hX hS=>?_⟩
     ·intro j c hj
      have HY:j<val.cells.toList.length:=(List.getElem?_eq_some_iff.1 hj).1
      rw[cell_setRow_same _ _ _ _ _ _ _ Jp,bU (by rw[KG];simp) j HY]
      exact hj
     ·exact h1.keep hk0' (fun h=>h.elim) (fun h=>h.elim)
     ·exact(h3 X hX hS).keep (hk0'.mono fun _ _ h=>h.elim)
   ·cases hp
    exact absurd rfl Ie
  ·have LH:∀ y,iv y=iv y:=fun _=>rfl
   have KL:k6 g (.prim p)=none:=by cases p<;>first|rfl|exact absurd rfl hu
   have M8:iE (bN p)=.prim p:=by cases p<;>rfl
   have GL:ef fx ver (.prim p) r=(bN p).run r:=rfl
   rcases hx with⟨t,rfl,q,hq⟩|⟨rfl,_⟩|⟨t,u,rfl,p',GK,_⟩
   ·cases hq
   ·have hval:ib g cx (.prim p) v []=[aF (g.rd (bN p)) cx.b v]:=by cases p<;>first|rfl|exact absurd rfl hu
    rw[hval]at hN h ⊢
    simp only[gL,aF,aA]at hN
    refine ad (pZ K IF Gl JM hc.le hk (by omega) (by omega) fun a' w' val h1 h2 h3=>h a' w' ?_)
    exact cF KL h1 h2 h3 rfl (fun X cs y hh=>by rw[<- M8];exact hh)
   ·have hval:ib g cx (.prim p) v [t,u]=[aU t (.int .i8 0),gS [aF (g.rd (bN p)) cx.b u,bB u t],bB t v]:=by cases p<;>first|rfl|exact absurd rfl hu
    rw[hval]at hN h ⊢
    obtain⟨ht,V1⟩:=ST t (by simp)
    obtain⟨Lp,LP⟩:=ST u (by simp)
    simp only[gL,gS,aF,bB,aU,aA]at hN
    refine ad (dH (x:=6) (m:=m) (k0:=k0) (n:=n) (.inr ht) (by omega) fun a1 Gk _=>?_)
    have G6:RC g cx fx ver S R B O r a1 w:=Gl.step hc Gk Gl.rd (ac.refl (fun _=>False) w) (fun _ _ h=>h.elim)
    have Gu:=Gk.size
    refine ad (bm (ad (pZ K IF G6 Lp hc.le (by simpa[aU,aA]using hk) (by simp[aU,aA];omega) (by omega) fun a2 w2 val h1 h2 h3=>?_)))
    have G9:=h1.size
    refine ad (eH (x:=6) (m:=m) (k0:=k0) (.inr ht) hc.le (by simp[aU,aA,aF];omega) (by simp[aU,aA,aF];omega) (by omega) fun a3 Gt GI=>bg ?_)
    have Hh:=Gt.size
    refine ad (eH (x:=6) (m:=m) (k0:=k0) (.inr JM) hc.le (by simp[gS,gL,aU,aA,aF,bB];omega) (by simp[gS,gL,aU,aA,aF,bB];omega) (by omega) fun a4 GD Ht=>h a4 w2 ?_)
    simp only[aU,aA,aF,gS,gL,bB]at Gk h1 Gt GD
    have LD:Pv 6 m k0 n a a4:=((Gk.trans (h1.mono (Nat.le_refl _) (by omega))).trans (Gt.mono (Nat.le_refl _) (by omega))).trans (GD.mono (Nat.le_refl _) (by omega))
    exact cF KL LD (by rw[Ht,GI,h2]) h3 rfl (fun X cs y hh=>by rw[<- M8];exact hh)
 | bytes nul=>
  have KL:k6 g (.bytes nul)=none:=rfl
  obtain rfl:x=[]:=by
   rcases hx with⟨t,rfl,q,hq⟩|⟨rfl,_⟩|⟨t,u,rfl,p',GK,_⟩
   ·cases hq
   ·rfl
   ·cases GK
  have HI:nul=none \/ nul=some 0:=by
   cases nul with
   | none=>exact .inl rfl
   | some q=>cases q with
    | zero=>exact .inr rfl
    | succ q=>simp[mn]at IF
  have MA:dK nul ver=nul.isSome:=by rcases HI with rfl|rfl<;>simp[dK]
  have Ji:av (bS nul.isSome false)=true/\(cx.hf=true->av (bS nul.isSome true)=true):=by
   rcases HI with rfl|rfl<;>simp only[mn,Bool.and_eq_true,Bool.or_eq_true,Bool.not_eq_true']at IF<;>refine⟨IF.1,fun hh=>?_⟩<;>rcases IF.2 with h|h<;>first|(rw[hh]at h;cases h)|exact h
  have GL:ef fx ver (.bytes nul) r=(bS nul.isSome fx).run r:=by simp only[ef,MA]
  have M8:∀ (b:Bool) (w:World) X cs y,iv w X (iE (bS nul.isSome b)) cs y->iv w X (.bytes nul) cs y:=by
   intro b w X cs y hh
   rcases HI with rfl|rfl<;>cases b<;>exact hh
  cases GR:cx.hf with
  | true=>
   have hval:ib g cx (.bytes nul) v []=[aU v (.slice none 0 0),ix cx (aF (g.rd (bS nul.isSome true)) cx.b v) (aF (g.rd (bS nul.isSome false)) cx.b v)]:=by simp[ib,GR]
   rw[hval]at hN h ⊢
   simp only[gL,ix,ej,aF,aU,aA]at hN
   refine ad (dH (x:=6) (m:=m) (k0:=k0) (n:=n) (.inr JM) (by omega) fun a1 Gk _=>?_)
   have G6:RC g cx fx ver S R B O r a1 w:=Gl.step hc Gk Gl.rd (ac.refl (fun _=>False) w) (fun _ _ h=>h.elim)
   have Gu:=Gk.size
   refine ad (xY K (Ji.2 GR) Ji.1 GR G6 hc JM (by simpa[aU,aA]using hk) (by simp[aU,aA];omega) (by omega) fun a2 w2 val h1 h2 h3=>h a2 w2 ?_)
   simp only[aU,aA]at h1
   have e:(if fx=true then bS nul.isSome true else bS nul.isSome false)=bS nul.isSome fx:=by cases fx<;>rfl
   rw[e]at h3
   exact cF KL (Gk.trans h1) h2 h3 GL (M8 fx w2)
  | false=>
   have HN:=Gl.nf GR
   subst HN
   have hval:ib g cx (.bytes nul) v []=[aF (g.rd (bS nul.isSome false)) cx.b v]:=by simp[ib,GR]
   rw[hval]at hN h ⊢
   simp only[gL,aF,aA]at hN
   exact ad (pZ K Ji.1 Gl JM hc.le hk (by omega) (by omega) fun a' w' val h1 h2 h3=>h a' w' (cF KL h1 h2 h3 GL (M8 false w')))
 | str nul=>
  have KL:k6 g (.str nul)=none:=rfl
  cases nul with
  | none=>
   obtain rfl:x=[]:=by
    rcases hx with⟨t,rfl,q,hq⟩|⟨rfl,_⟩|⟨t,u,rfl,p',GK,_⟩
    ·cases hq
    ·rfl
    ·cases GK
   have GL:ef fx ver (.str none) r=(dM false fx).run r:=rfl
   simp only[mn,Bool.and_eq_true,Bool.or_eq_true,Bool.not_eq_true']at IF
   have M8:∀ (b:Bool) (w:World) X cs y,iv w X (iE (dM false b)) cs y->iv w X (.str none) cs y:=by
    intro b w X cs y hh
    cases b<;>exact hh
   cases GR:cx.hf with
   | true=>
    have hval:ib g cx (.str none) v []=[aU v (.string ⟨#[]⟩),jo (ix cx (aF (g.un .cstr) cx.b v) (aF (g.un .str) cx.b v)) (ix cx (aF (g.rd .cstr) cx.b v) (aF (g.rd .str) cx.b v))]:=by simp[ib,GR]
    rw[hval]at hN h ⊢
    simp only[gL,jo,ix,ej,aF,aU,aA]at hN
    have Ji:av .cstr=true:=by rcases IF.2 with h|h;rw[GR]at h;cases h;exact h
    refine ad (dH (x:=6) (m:=m) (k0:=k0) (n:=n) (.inr JM) (by omega) fun a1 Gk _=>?_)
    have G6:RC g cx fx ver S R B O r a1 w:=Gl.step hc Gk Gl.rd (ac.refl (fun _=>False) w) (fun _ _ h=>h.elim)
    have Gu:=Gk.size
    refine ad (ry (x:=6) (m:=m) (k0:=k0) G6.su hc.le (by simpa[aU,aA]using hk) (by simp[aU,aA];omega) fun a2 Gm=>?_)
    have G9:=Gm.size
    have Hf:RC g cx fx ver S R B O r a2 w:=G6.step hc Gm G6.rd (ac.refl (fun _=>False) w) (fun _ _ h=>h.elim)
    refine xY K Ji IF.1 GR Hf hc JM (by simp[aU,ix,ej,aF,aA];omega) (by simp[aU,ix,ej,aF,aA];omega) (by omega) fun a3 w3 val h1 h2 h3=>h a3 w3 ?_
    simp only[aU,ix,ej,aF,aA]at h1 Gm
    have e:(if fx=true then PF.cstr else PF.str)=dM false fx:=by cases fx<;>rfl
    rw[e]at h3
    exact cF KL ((Gk.trans (Gm.mono (Nat.le_refl _) (by omega))).trans (h1.mono (Nat.le_refl _) (by omega))) h2 h3 GL (M8 fx w3)
   | false=>
    have HN:=Gl.nf GR
    subst HN
    have hval:ib g cx (.str none) v []=[aU v (.string ⟨#[]⟩),jo (aF (g.un .str) cx.b v) (aF (g.rd .str) cx.b v)]:=by simp[ib,GR]
    rw[hval]at hN h ⊢
    simp only[gL,jo,ej,aF,aU,aA]at hN
    refine ad (dH (x:=6) (m:=m) (k0:=k0) (n:=n) (.inr JM) (by omega) fun a1 Gk _=>?_)
    have G6:RC g cx false ver S R B O r a1 w:=Gl.step hc Gk Gl.rd (ac.refl (fun _=>False) w) (fun _ _ h=>h.elim)
    have Gu:=Gk.size
    refine ad (ry (x:=6) (m:=m) (k0:=k0) G6.su hc.le (by simpa[aU,aA]using hk) (by simp[aU,aA];omega) fun a2 Gm=>?_)
    have G9:=Gm.size
    have Hf:RC g cx false ver S R B O r a2 w:=G6.step hc Gm G6.rd (ac.refl (fun _=>False) w) (fun _ _ h=>h.elim)
    refine pZ K IF.1 Hf JM hc.le (by simp[aU,aF,aA];omega) (by simp[aU,aF,aA];omega) (by omega) fun a3 w3 val h1 h2 h3=>h a3 w3 ?_
    simp only[aU,aF,aA]at h1 Gm
    exact cF KL ((Gk.trans (Gm.mono (Nat.le_refl _) (by omega))).trans (h1.mono (Nat.le_refl _) (by omega))) h2 h3 GL (M8 false w3)
  | some q=>
   cases q with
   | zero=>
    obtain rfl:x=[]:=by
     rcases hx with⟨t,rfl,q,hq⟩|⟨rfl,_⟩|⟨t,u,rfl,p',GK,_⟩
     ·cases hq
     ·rfl
     ·cases GK
    have GL:ef fx ver (.str (some 0)) r=(dM true fx).run r:=by simp[ef,dK]
    simp only[mn,Bool.and_eq_true,Bool.or_eq_true,Bool.not_eq_true']at IF
    have hval:ib g cx (.str (some 0)) v []=[aU v (.pointer none),if cx.hf then ix cx (jo (aF (g.un .cnstr) cx.b v) (aF (g.rd .cnstr) cx.b v)) (jo (aF (g.un .nstr) cx.b v) (aF (g.rd .nstr) cx.b v))else jo (aF (g.un .nstr) cx.b v) (aF (g.rd .nstr) cx.b v)]:=rfl
    rw[hval]at hN h ⊢
    refine ad (dH (x:=6) (m:=m) (k0:=k0) (n:=n) (.inr JM) (by omega) fun a1 Gk _=>?_)
    have G6:RC g cx fx ver S R B O r a1 w:=Gl.step hc Gk Gl.rd (ac.refl (fun _=>False) w) (fun _ _ h=>h.elim)
    have Gu:=Gk.size
    refine ad (xZ K IF.1 (fun GR=>by rcases IF.2 with h|h;rw[GR]at h;cases h;exact h) G6 hc JM (by simpa[aU,aA]using hk) (by rw[Gu];exact hN) (by omega) fun a2 w2 val h1 h2 h3=>h a2 w2 ?_)
    simp only[aU,aA]at h1
    have h3':Dy g S R (dM true fx) (iE (dM true fx)) r w val w2:=by cases fx<;>exact h3
    exact cF KL (Gk.trans (h1.mono (Nat.le_refl _) (by omega))) h2 h3' GL (fun X cs y hh=>by cases fx<;>exact hh)
   | succ q=>
    obtain⟨t,rfl⟩:∃ t,x=[t]:=by
     rcases hx with⟨t,rfl,_⟩|⟨rfl,hh⟩|⟨t,u,rfl,p',GK,_⟩
     ·exact⟨t,rfl⟩
     ·exact absurd rfl (hh q)
     ·cases GK
    obtain⟨ht,V1⟩:=ST t (by simp)
    simp only[mn,Bool.and_eq_true,Bool.or_eq_true,Bool.not_eq_true']at IF
    obtain⟨⟨hs,hns⟩,GE⟩:=IF
    have GZ:cx.hf=true->av .cstr=true:=fun hh=>by rcases GE with e|e;rw[hh]at e;cases e;exact e.1
    have GX:cx.hf=true->av .cnstr=true:=fun hh=>by rcases GE with e|e;rw[hh]at e;cases e;exact e.2
    have h6m:=hc.six
    have G5:=hc.le
    have hval:ib g cx (.str (some (q+1))) v [t]=[aU v (.pointer none),ej 1 2 (fun n=>[mk (some n) (.move (tm cx.ver)),mk (some (n+1)) (.binOp .lss g.tVer (tm n) (ki .i16 ((q:Int)+1)) 0)])
      (gS [aA 0 fun _=>[mk (some t) (.alloc g.tStr)],fJ g cx t,aA 0 fun _=>[mk (some v) (.assign (tm t))]]) (Dw g cx v)]:=rfl
    rw[hval]at hN h ⊢
    have hN2:(Dw g cx v (fJ g cx t (n+2)).2).2<=a.tmps.size:=hN
    have Kr:n+2<=(fJ g cx t (n+2)).2:=vP g cx t (n+2)
    have Na:(fJ g cx t (n+2)).2<=(Dw g cx v (fJ g cx t (n+2)).2).2:=D6 g cx v _
    refine ad (dH (x:=6) (m:=m) (k0:=k0) (n:=n) (.inr JM) (by omega) fun a1 Gk _=>?_)
    have Gu:=Gk.size
    have G6:RC g cx fx ver S R B O r a1 w:=Gl.step hc Gk Gl.rd (ac.refl (fun _=>False) w) (fun _ _ h=>h.elim)
    refine ad ?_
    show aQ P (ej 1 2 _ _ _ n).1 _ a1 w
    by_cases Gq:ver<(q:Int)+1
    ·have e:ef fx ver (.str (some (q+1))) r=(dM false fx).run r:=by
      have:dK (some (q+1)) ver=false:=by simp[dK];omega
      simp only[ef,this]
     refine dt (ag ?_)
     rw[aa,G6.sv]
     refine bt (b:=true) (q:=(q:Int)+1) (p:=ver) (k:=.i16) (by rw[aa,am (by omega)]) rfl (.inr (.inr (.inl ⟨rfl,by simp;omega⟩))) (wpList_nil ⟨by rw[aa,am (by simp only[ab];omega)],bm (ad (au (ep (K.vStr.2 w) (wpList_nil ?_))))⟩)
     have Gm:Pv 6 m k0 n a (((a1.put (some n) (.int .i16 ver)).put (some (n+1)) (.bool true)).put (some t) (.pointer (some ⟨w.heap.size,0,none⟩))):=((Gk.put _ (by omega)).put _ (by omega)).put _ (by omega)
     have LI:(((a1.put (some n) (.int .i16 ver)).put (some (n+1)) (.bool true)).put (some t) (.pointer (some ⟨w.heap.size,0,none⟩))).get t=pt w.heap.size 0:=am (by simp only[ab];omega)
     show LW P _ (n+2) _ (((a1.put (some n) (.int .i16 ver)).put (some (n+1)) (.bool true)).put (some t) (.pointer (some ⟨w.heap.size,0,none⟩))) _
     generalize(((a1.put (some n) (.int .i16 ver)).put (some (n+1)) (.bool true)).put (some t) (.pointer (some ⟨w.heap.size,0,none⟩)))=a2 at Gm LI
     have G9:=Gm.size
     have JG:ac (fun _=>False) w (w.alloc (.cells (Value.string ⟨#[]⟩).cells g.tStr (0,0))):=ac.alloc _ _ _
     have Jp:(w.alloc (.cells (Value.string ⟨#[]⟩).cells g.tStr (0,0))).heap[w.heap.size]?=some (.cells #[.string ⟨#[]⟩] g.tStr (0,0)):=heap_alloc_new w _
     have hRlt:=Gl.rd.lt
     have Pj:=Gl.Slt
     have Hf:RC g cx fx ver S R B O r a2 (w.alloc (.cells (Value.string ⟨#[]⟩).cells g.tStr (0,0))):=Gl.step hc Gm (Gl.rd.keep JG (fun h=>h) (fun h=>h)) JG (fun _ _ h=>h.elim)
     refine ad (yc K hs GZ Hf (eb.high hc) LI ht.2 (by omega) Jp rfl (by omega) (by omega) (by omega) (by omega) fun a3 w3 Gt Lx HA Gx=>?_)
     have Hh:=Gt.size
     have GI:a3.get t=pt w.heap.size 0:=(Gt.get t (by omega) (.inl ht.2)).trans LI
     refine ad (au (aj (wpList_nil (bg ?_))))
     rw[aa,GI]
     refine h _ _ ?_
     rw[e]
     obtain⟨l,Jq,Mm,Lx⟩:=Lx
     refine⟨[.pointer (some ⟨w.heap.size,0,none⟩)],(Gm.trans (Gt.mono G5 (by omega))).put _ (by omega),?_,HA,?_,fun X hX hS=>?_⟩
     ·rw[KL]
      exact⟨_,am (by omega),rfl⟩
     ·exact((JG.mono fun _ _ h=>h.elim).trans Gx).mono fun k hk h=>h.elim id (fun e=>absurd hk (by omega))
     ·exact .inr ⟨l,_,0,rfl,fun hx=>Nat.lt_irrefl _ (hX _ hx),Lx,Jq,Mm⟩
    ·have e:ef fx ver (.str (some (q+1))) r=(dM true fx).run r:=by
      have:dK (some (q+1)) ver=true:=by simp[dK];omega
      simp only[ef,this]
     refine dg (ag ?_)
     rw[aa,G6.sv]
     refine bt (b:=false) (q:=(q:Int)+1) (p:=ver) (k:=.i16) (by rw[aa,am (by omega)]) rfl (.inr (.inr (.inl ⟨rfl,by simp;omega⟩))) (wpList_nil ⟨by rw[aa,am (by simp only[ab];omega)],?_⟩)
     have Gm:Pv 6 m k0 n a ((a1.put (some n) (.int .i16 ver)).put (some (n+1)) (.bool false)):=(Gk.put _ (by omega)).put _ (by omega)
     show aQ P (Dw g cx v (fJ g cx t (n+2)).2).1 _ ((a1.put (some n) (.int .i16 ver)).put (some (n+1)) (.bool false)) w
     generalize((a1.put (some n) (.int .i16 ver)).put (some (n+1)) (.bool false))=a2 at Gm
     have G9:=Gm.size
     have Hf:RC g cx fx ver S R B O r a2 w:=Gl.step hc Gm Gl.rd (ac.refl (fun _=>False) w) (fun _ _ h=>h.elim)
     refine xZ K hns GX Hf hc JM (by omega) (by rw[G9];exact hN2) (by omega) fun a3 w3 val h1 h2 h3=>h a3 w3 ?_
     have h3':Dy g S R (dM true fx) (iE (dM true fx)) r w val w3:=by cases fx<;>exact h3
     exact cF KL (Gm.trans (h1.mono (Nat.le_refl _) (by omega))) h2 h3' e (fun X cs y hh=>by cases fx<;>exact hh)
end
def Rt (N E:Act->World->Prop):Exit->Act->World->Prop
 | .normal,a,w=>N a w
 | .ret,a,w=>E a w
 | _,_,_=>False
theorem aV {N K E:Act->World->Prop}:Exit.then K (Rt N E)=Rt K E:=by
 funext e a w
 cases e<;>rfl
section
variable {P:Program} {g:G} {m k0 n:Nat} {K N E:Act->World->Prop} {a:Act} {w:World}
theorem mM {K K' E E':Act->World->Prop}{c:Code}(h:aQ P c (Rt K E) a w)(hk:∀ a w,K a w->K' a w)(he:∀ a w,E a w->E' a w):aQ P c (Rt K' E') a w:=
 .mono h fun e a w hq=>by cases e<;>first|exact hk _ _ hq|exact he _ _ hq|exact hq
theorem B0 {i l b1 b2:Nat}{body:GC}{L:Int}(hi:m<=i/\i<k0)(Np:l<i)(h6:6<i)(Sc:l≠6)(_hm:m<=k0)(hk:k0<=n)(hn:n+5<=a.tmps.size)(hl:a.get l=.int .i32 L)(hL:L<2147483648)(W:Nat->World->Prop)(h0:W 0 w)
  (H8:∀ (j:Nat) (a1:Act) (w1:World),j<L.toNat->Pv 6 i k0 n a a1->a1.get i=.int .i32 j->W j w1->aQ P (body (n+5)).1 (Rt (fun a2 w2=>Pv 6 (i+1) k0 (n+5) a1 a2/\W (j+1) w2) E) a1 w1)
  (Mw:∀ a1 w1,Pv 6 i k0 n a a1->W L.toNat w1->K a1 w1):aQ P (ud g i l b1 b2 body n).1 (Rt K E) a w:=by
 have his:i<a.tmps.size:=by omega
 refine .seq (R:=Rt (fun a' w'=>Pv 6 i k0 n a a'/\a'.get i=.int .i32 ((0:Nat):Int)/\w'=w) E) (.reg (aj (wpList_nil ?_))) (fun a' w' hh=>?_) (fun e a w he hq=>by cases e<;>first|exact absurd rfl he|exact hq)
 ·exact⟨(Pv.refl _ _ _ _ _).put _ (by omega),dA _ _ _ his,rfl⟩
 ·obtain⟨hp,OI,rfl⟩:=hh
  refine .block (.loop (fun a1 w1=>∃ j:Nat,j<=L.toNat/\Pv 6 i k0 n a a1/\a1.get i=.int .i32 (j:Int)/\W j w1) (fun a1 _=>(L-(match a1.get i with|.int _ q=>q|_=>0)).toNat) ⟨0,by omega,hp,OI,h0⟩ ?_)
  rintro a1 w1 ⟨j,hj,Gk,Gv,hW⟩
  have Gu:=Gk.size
  have Jq:a1.get l=.int .i32 L:=by rw[Gk.get l Sc (.inl Np)];exact hl
  have G3:∀ (b:Bool),b=decide ((j:Int)<L)->wpList P [mk (some n) (.move (tm i)),mk (some (n+1)) (.move (tm l)),mk (some (n+2)) (.binOp .lss g.tI32 (tm n) (tm (n+1)) 0)].toArray
    (Rt (fun a' w'=>a'.eval (tm (n+2))=.bool b/\Pv 6 (i+1) k0 n a1 a'/\w'=w1) E) [mk (some n) (.move (tm i)),mk (some (n+1)) (.move (tm l)),mk (some (n+2)) (.binOp .lss g.tI32 (tm n) (tm (n+1)) 0)] a1 w1:=by
   intro b hb
   refine ag ?_
   rw[aa,Gv]
   refine ag ?_
   rw[aa,ak (by omega),Jq]
   refine bt (b:=b) (p:=j) (q:=L) (k:=.i32) (by rw[aa,ak (by omega),am (by omega)]) (by rw[aa,am (by rw[ab];omega)]) (.inr (.inr (.inl ⟨rfl,hb⟩))) (wpList_nil ?_)
   exact⟨by rw[aa,am (by simp only[ab];omega)],(((Pv.refl _ _ _ _ _).put _ (by omega)).put _ (by omega)).put _ (by omega),rfl⟩
  by_cases Gq:(j:Int)<L
  ·refine .seq (R:=Rt (fun a2 w2=>Pv 6 (i+1) k0 n a1 a2/\w2=w1) E) ?_ (fun a2 w2 hh=>?_) (fun e a w he hq=>by cases e<;>first|exact absurd rfl he|exact hq|exact hq.elim)
   ·refine .seq (.reg (G3 true (by simp[Gq]))) (fun a2 w2 hh=>.condT hh.1 (.skip hh.2)) (fun e a w he hq=>by cases e<;>first|exact absurd rfl he|exact hq)
   ·obtain⟨Gm,rfl⟩:=hh
    have GQ:Pv 6 i k0 n a a2:=Gk.trans (Gm.mono (by omega) (Nat.le_refl _))
    have G2:a2.get i=.int .i32 (j:Int):=by rw[Gm.get i (by omega) (.inl (by omega))];exact Gv
    have hb:=H8 j a2 w2 (by omega) GQ G2 hW
    have G9:=Gm.size
    refine .seq (R:=Rt (fun a3 w3=>Pv 6 (i+1) k0 (n+5) a2 a3/\W (j+1) w3) E) (.block (.mono hb fun e a w hq=>by cases e<;>first|exact hq|exact hq.elim)) (fun a3 w3 hh=>?_) (fun e a w he hq=>by cases e<;>first|exact absurd rfl he|exact hq|exact hq.elim)
    obtain⟨Gt,Ld⟩:=hh
    have Hh:=Gt.size
    have GI:a3.get i=.int .i32 (j:Int):=by rw[Gt.get i (by omega) (.inl (by omega))];exact G2
    refine .reg (ag ?_)
    rw[aa,GI]
    have Hn:IntKind.i32.wrap ((j:Int)+1)=((j+1:Nat):Int):=by simp[IntKind.wrap,IntKind.bits,IntKind.signed];omega
    refine cE (v:=.int .i32 ((j+1:Nat):Int)) (k:=.i32) (m:=j) (n:=1) (by rw[aa,am (by omega)]) rfl (by simp) (by simp[binOp,Op.intArith,Hn]) ?_
    refine aj (wpList_nil ?_)
    rw[aa,am (by simp only[ab];omega)]
    have I7:(((a3.put (some (n+3)) (.int .i32 (j:Int))).put (some (n+4)) (.int .i32 ((j+1:Nat):Int))).put (some i) (.int .i32 ((j+1:Nat):Int))).get i=.int .i32 ((j+1:Nat):Int):=am (by simp only[ab];omega)
    refine⟨⟨j+1,by omega,?_,I7,Ld⟩,?_⟩
    ·exact((GQ.trans (Gt.mono (by omega) (by omega))).put _ (by omega)).put _ (by omega) |>.put _ (by omega)
    ·rw[I7,Gv]
     simp only
     omega
  ·have QA:j=L.toNat:=by omega
   refine .seq (R:=fun e a w=>e≠.normal/\Exit.inBlock b1 (Rt K E) e a w) ?_ (fun a2 w2 hh=>absurd rfl hh.1) (fun e a w he hq=>?_)
   ·refine .seq (R:=Rt (fun a' w'=>a'.eval (tm (n+2))=.bool false/\Pv 6 (i+1) k0 n a1 a'/\w'=w1) E) (.reg (G3 false (by simp[Gq]))) (fun a2 w2 hh=>.condF hh.1 (.exit ?_)) (fun e a w he hq=>by cases e<;>first|exact absurd rfl he|exact⟨by simp,hq⟩|exact hq.elim)
    simp only[Exit.inBlock,if_true]
    refine⟨by simp,?_⟩
    obtain⟨_,Gm,rfl⟩:=hh
    exact Mw a2 w2 (Gk.trans (Gm.mono (by omega) (Nat.le_refl _))) (QA ▸ hW)
   ·rw[cA he];exact hq.2
variable {av:PF->Bool} {fl:Bool} {cx:Cx} {fx:Bool} {ver:Int} {S R B O:Nat} {r:RS}
theorem DE (K0:KB P g av fl)(Gl:RC g cx fx ver S R B O r a w)(hb:r.bad=true)(h6:6<a.tmps.size)(hm:m<=k0)(hk:k0<=n)(hn:n<a.tmps.size)
  (h:∀ a' w',Pv 6 m k0 n a a'->(∃ t y,a'.get 6=.iface t y)->ac (fun _=>False) w w'->E a' w'):aQ P (Dg g cx.b n).1 (Rt N E) a w:=by
 refine bm (ad (au (aR (vs:=#[pt R 0]) K0.cmE (by simp[aa,Gl.sb]) (K0.cmC w S R r Gl.rd Gl.err) fun e w' hR=>?_)))
 obtain⟨H5,v,he,_,hv⟩:=hR
 obtain⟨t,y,rfl⟩:=hv hb
 refine⟨_,he,aj (wpList_nil ?_)⟩
 rw[aa,dA _ _ _ hn]
 exact ad (.ret (h _ w' (((Pv.refl _ _ _ _ _).put _ (by omega)).put _ (by omega)) ⟨t,y,am (by rw[ab];exact h6)⟩ H5))
theorem AH (K0:KB P g av fl)(OG:bL g.ok=true)(Gl:RC g cx fx ver S R B O r a w)(hc:eb cx m k0)(hk:k0<=n)(hn:n+3<=a.tmps.size)
  (GT:r.bad=true->∀ a' w',Pv 6 m k0 n a a'->(∃ t y,a'.get 6=.iface t y)->ac (fun _=>False) w w'->E a' w')
  (G1:r.bad=false->∀ a' w',Pv 6 m k0 n a a'->ac (fun _=>False) w w'->K a' w'):aQ P (oh g cx n).1 (Rt K E) a w:=by
 have JU:∀ (b:Bool),b=r.bad->wpList P [cl (some n) g.ok [tm cx.b],mk (some (n+1)) (.unOp .not g.tBool (tm n))].toArray
   (Rt (fun a' w'=>a'.eval (tm (n+1))=.bool b/\Pv 6 m k0 n a a'/\ac (fun _=>False) w w') E) [cl (some n) g.ok [tm cx.b],mk (some (n+1)) (.unOp .not g.tBool (tm n))] a w:=by
  intro b hb
  refine aR (vs:=#[pt R 0]) (K0.okE OG) (by simp[aa,Gl.sb]) (K0.okC OG w S R r Gl.rd) fun e w' hR=>⟨_,hR.1,?_⟩
  refine nk (b:=!r.bad) (by rw[aa,am (by omega)]) (wpList_nil ⟨?_,((Pv.refl _ _ _ _ _).put _ (by have:=hc.le;omega)).put _ (by have:=hc.le;omega),hR.2⟩)
  rw[aa,am (by rw[ab];omega),hb]
  simp
 have h6:=hc.six
 have G5:=hc.le
 cases hb:r.bad with
 | true=>
  refine .seq (.reg (JU true hb.symm)) (fun a' w' hh=>.condT hh.1 ?_) (fun e a w he hq=>by cases e<;>first|exact absurd rfl he|exact hq)
  obtain⟨_,hp,HM⟩:=hh
  have hs:=hp.size
  have hrc':=Gl.step hc hp (Gl.rd.keep HM id id) HM (fun _ _ h=>h.elim)
  exact DE (m:=m) (k0:=k0) K0 hrc' hb (by omega) hc.le (by omega) (by omega) fun a2 w2 h1 h2 h3=>GT hb a2 w2 (hp.trans (h1.mono (Nat.le_refl _) (by omega))) h2 (HM.trans h3)
 | false=>
  refine .seq (.reg (JU false hb.symm)) (fun a' w' hh=>.condF hh.1 (.skip ?_)) (fun e a w he hq=>by cases e<;>first|exact absurd rfl he|exact hq)
  exact G1 hb a' w' hh.2.1 hh.2.2
theorem DD {Q:Exit->Act->World->Prop}{x y F E' sz c:Nat}{base:Option Addr}(hy:a.get y=.slice base 0 c)(hF:P.underlying F=some (.slice E'))(hs:∀ w,(sizeOf E').run P w=.ok sz w)(RJ:y=x \/ (m<=y/\y<k0))(hm:m<=k0)(hk:k0<=n)(hn:n+2<=a.tmps.size)(hys:y<a.tmps.size)
  (h:∀ a',Pv x m k0 n a a'->a'.get y=.slice base 0 c->K a' w):aQ P (zH y F n).1 (Exit.then K Q) a w:=by
 refine au (ag ?_)
 rw[aa,hy]
 refine vt (by rw[aa,am (by omega)]) hF (hs w) (aj (wpList_nil ?_))
 rw[aa,am (by rw[ab];omega)]
 exact h _ ((((Pv.refl _ _ _ _ _).put _ (by omega)).put _ (by omega)).put _ (by omega)) (am (by simp only[ab];omega))
structure m3 (P:Program)(F E' sz:Nat)(z:Array Value):Prop where
 und:P.underlying F=some (.slice E')
 info:∃ i z',P.info? E'=some i/\i.zero=some z'/\z'.cells=z/\i.size=sz/\z.size=sz/\0<sz/\0<i.bytes/\i.bytes<=24*sz+8
theorem m3.size {F E' sz:Nat}{z:Array Value}(h:m3 P F E' sz z)(w:World):(sizeOf E').run P w=.ok sz w:=by
 obtain⟨i,z',h1,_,_,h4,_⟩:=h.info
 simp[Go.sizeOf,typeInfo,h1,h4]
theorem C5 {Q:Exit->Act->World->Prop}(K0:KB P g av fl){x y l F E' sz:Nat}{z:Array Value}{base:Option Addr}{L:Int}(hy:a.get y=.slice base 0 0)(hl:a.get l=.int .i32 L)(hF:m3 P F E' sz z)(hL:L<2147483648)(Hq:ls L sz=true)
  (RJ:y=x \/ (m<=y/\y<k0)) (hyn:y<n) (hm:m<=k0) (hln:l<n) (hk:k0<=n) (hn:n+5<=a.tmps.size)
  (H1:L<=0->∀ a',Pv x m k0 n a a'->a'.get y=.slice base 0 0->K a' w)
  (GP:0<L->∀ (a':Act) (c:Nat) (cs:Array Value),Pv x m k0 n a a'->L.toNat<=c->c<=maxLen->cs.size=c*sz->(∀ q j,q<L.toNat->j<sz->cs[q*sz+j]?=z[j]?) ->
   a'.get y=.slice (some ⟨w.heap.size,0,none⟩) L.toNat c->K a' (w.drew.alloc (.cells cs E' (0,0)))):aQ P (pn g y l F n).1 (Exit.then K Q) a w:=by
 obtain⟨i,z',h1,h2,h3,h4,h5,h6,h7,h8⟩:=hF.info
 have G3:∀ (b:Bool) (K':Act->World->Prop),b=decide ((0:Int)<L)->(∀ a',a'.eval (tm (n+1))=.bool b->Pv x m k0 n a a'->a'.get y=.slice base 0 0->a'.get l=.int .i32 L->K' a' w) ->
   wpList P [mk (some n) (.move (tm l)),mk (some (n+1)) (.binOp .gtr g.tI32 (tm n) (ki .i32 0) 0)].toArray
   (Exit.then K' (Exit.then K Q)) [mk (some n) (.move (tm l)),mk (some (n+1)) (.binOp .gtr g.tI32 (tm n) (ki .i32 0) 0)] a w:=by
  intro b K' hb H5
  refine ag ?_
  rw[aa,hl]
  refine bt (b:=b) (p:=L) (q:=0) (k:=.i32) (by rw[aa,am (by omega)]) rfl (.inr (.inr (.inr (.inl ⟨rfl,hb⟩)))) (wpList_nil (H5 _ ?_ (((Pv.refl _ _ _ _ _).put _ (by omega)).put _ (by omega)) ?_ ?_))
  ·rw[aa,am (by simp only[ab];omega)]
  ·rw[ak (by omega),ak (by omega)];exact hy
  ·rw[ak (by omega),ak (by omega)];exact hl
 by_cases Hg:0<L
 ·refine dt (G3 true _ (by simp[Hg]) fun a1 he hp hy' JE=>⟨he,?_⟩)
  have hs:=hp.size
  refine au (ag ?_)
  rw[aa,hy']
  refine ag ?_
  rw[aa,ak (by omega),JE]
  have Wl:((L.toNat:Nat):Int)=L:=by omega
  refine s8 (base:=base) (l:=L.toNat) (F:=F) (E:=E') (I:=g.tI32) (bytes:=i.bytes) ?_ ?_ (by omega) hF.und K0.tI32 h1 h2 (by rw[h3,h5,h4]) (by omega) h7 rfl ?_ (by omega) fun c cs GZ GX Kd Rr=>?_
  ·rw[aa,ak (by omega),am (by omega)]
  ·rw[aa,am (by rw[ab];omega),Wl]
  ·simp only[ls,decide_eq_true_eq]at Hq
   have e:L.toNat*i.bytes<=L.toNat*(24*sz+8):=Nat.mul_le_mul_left _ h8
   have e2:((L.toNat*(24*sz+8):Nat):Int)=L*(24*(sz:Int)+8):=by
    rw[Int.natCast_mul,Wl];rfl
   omega
  ·refine aj (wpList_nil ?_)
   rw[aa,am (by simp only[ab];omega)]
   rw[h4]at Kd Rr
   rw[h3]at Rr
   refine GP Hg _ c cs ((((hp.trans (Pv.refl _ _ _ _ _)).put _ (by omega)).put _ (by omega)).put _ (by omega) |>.put _ (by omega)) GZ GX Kd Rr (am (by simp only[ab];omega))
 ·refine dg (G3 false _ (by simp;omega) fun a1 he hp hy' _=>⟨he,.skip (H1 (by omega) a1 hp hy')⟩)
end
section inv
variable {P:Program}
theorem rK {c:Code}{Q:Exit->Act->World->Prop}{a:Act}{w:World}(h:aQ P c Q a w):∀ x y,c=.seq x y->∃ R:Exit->Act->World->Prop,aQ P x R a w/\(∀ a w,R .normal a w->aQ P y Q a w)/\∀ e a w,e≠.normal->R e a w->Q e a w:=by
 induction h with
 | seq hx hy he=>intro x y hc;cases hc;exact⟨_,hx,hy,he⟩
 | mono _ hq ih=>
  intro x y hc
  obtain⟨R,h1,h2,h3⟩:=ih x y hc
  exact⟨R,h1,fun a w hr=>.mono (h2 a w hr) hq,fun e a w he hr=>hq e a w (h3 e a w he hr)⟩
 | _=>intro x y hc;cases hc
theorem oB {cs ds:List Code}{Q:Exit->Act->World->Prop}:∀ {a:Act} {w:World},aQ P (sq cs) (Exit.then (aQ P (sq ds) Q) Q) a w->aQ P (sq (cs++ds)) Q a w:=by
 induction cs with
 | nil=>intro a w h;exact lx h rfl
 | cons c cs ih=>
  intro a w h
  cases cs with
  | nil=>exact az h
  | cons d r=>
   obtain⟨R,h1,h2,h3⟩:=rK h _ _ rfl
   refine .seq h1 (fun a w hr=>ih (h2 a w hr)) (fun e a w he hr=>?_)
   have:=h3 e a w he hr
   rwa [cA he]at this
theorem bc (l r:List GC):∀ n,gL (l++r) n=((gL l n).1++(gL r (gL l n).2).1,(gL r (gL l n).2).2):=by
 induction l with
 | nil=>intro n;rfl
 | cons x l ih=>intro n;simp[gL,ih]
theorem fj {l r:List GC}{n:Nat}{Q:Exit->Act->World->Prop}{a:Act}{w:World}(h:LW P l n (Exit.then (LW P r (gL l n).2 Q) Q) a w):LW P (l++r) n Q a w:=by
 unfold LW at h ⊢
 rw[bc]
 exact oB h
end inv
section
variable {P:Program} {g:G} {av:PF->Bool} {fl:Bool} {cx:Cx} {fx:Bool} {ver:Int} {S R B O:Nat} {r:RS} {x m k0 n:Nat} {K N E:Act->World->Prop} {Q:Exit->Act->World->Prop} {a:Act} {w:World}
theorem AT (fx:Bool)(r:RS):(cL fx r).1<2147483648:=by
 have h4:(rI 4 r).1<2147483648:=by
  simp only[rI,j8]
  split
  ·rename_i h;simp at h;omega
  ·rename_i h
   have:(rU 4 r).1<4294967296:=by
    simp only[rU]
    split
    ·simp
    ·rename_i hl
     have hb:∀ (l:Bs) (a:Nat),l.foldl (fun a b=>a*256+b.toNat) a<(a+1)*256^l.length:=by
      intro l
      induction l with
      | nil=>intro a;simp
      | cons b l ih=>
       intro a
       simp only[List.foldl_cons,List.length_cons,Nat.pow_succ]
       refine Nat.lt_of_lt_of_le (ih _) ?_
       have:=UInt8.toNat_lt b
       have e:(a+1)*(256^l.length*256)=((a+1)*256)*256^l.length:=by rw[Nat.mul_comm (256^l.length),Nat.mul_assoc]
       rw[e]
       exact Nat.mul_le_mul_right _ (by omega)
     have:=hb (r.src.take 4) 0
     have Gp:(r.src.take 4).length<=4:=by simp;omega
     have hp:256^(r.src.take 4).length<=256^4:=Nat.pow_le_pow_right (by omega) Gp
     simp only[cX]
     omega
   have e:(2:Int)^(8*4)=4294967296:=by decide
   omega
 have key:∀ p:Int × RS,p.1<2147483648->(if(p.2.src.length:Int)<p.1 then((0:Int),RS.fail)else p).1<2147483648:=by
  intro p hp
  split
  ·simp
  ·exact hp
 cases fx
 ·simp only[cL,Bool.false_eq_true,if_false]
  exact key (rI 4 r) h4
 ·simp only[cL,if_true]
  refine key (di (di (bD r).1-1),(bD r).2) ?_
  simp only[di];omega
theorem DH (K0:KB P g av fl)(JH:q5 g cx.hf=true)(Gw:cx.hf=true->fl=true)(Gl:RC g cx fx ver S R B O r a w)(hc:eb cx m k0){l:Nat}(hl:m<=l/\l<k0)(hk:k0<=n)
  (hn:((if cx.hf then ix cx (aF g.clen cx.b l) (aF g.len cx.b l)else aF g.len cx.b l:GC) n).2<=a.tmps.size)
  (h:∀ a' w',Pv 6 m k0 n a a'->a'.get l=.int .i32 (cL fx r).1->cQ w' g.tR S R (cL fx r).2->ac (·=R) w w'->K a' w') :
  aQ P ((if cx.hf then ix cx (aF g.clen cx.b l) (aF g.len cx.b l)else aF g.len cx.b l:GC) n).1 (Exit.then K Q) a w:=by
 have G5:=hc.le
 simp only[q5,Bool.and_eq_true,Bool.or_eq_true,Bool.not_eq_true']at JH
 obtain⟨⟨Nv,hhl2⟩,TX⟩:=JH
 cases GR:cx.hf with
 | true=>
  have QD:bL g.clen=true:=TX.resolve_left (by rw[GR];simp)
  simp only[GR,if_true,ix,ej,aF,aA]at hn
  simp only[if_true]
  refine o8 (x:=6) (m:=m) (k0:=k0) (fx:=fx) (Gl.sf GR) hc.le hk (by omega) fun a1 Gk=>?_
  have Gu:=Gk.size
  have G6:RC g cx fx ver S R B O r a1 w:=Gl.step hc Gk Gl.rd (ac.refl (fun _=>False) w) (fun _ _ h=>h.elim)
  cases fx with
  | true=>
   simp only[if_true]
   refine kE (x:=6) (m:=m) (k0:=k0) (K0.clenE (Gw GR) QD) G6.sb (K0.clenC (Gw GR) QD w S R r G6.rd G6.SR) (.inr hl) hc.le (by omega) (by omega) (by omega) fun e w' hR=>?_
   obtain⟨he,h1,h2⟩:=hR
   exact⟨_,he,fun a' hp hg=>h a' w' (Gk.trans (hp.mono (Nat.le_refl _) (by omega))) hg h1 h2⟩
  | false=>
   simp only[Bool.false_eq_true,if_false]
   refine kE (x:=6) (m:=m) (k0:=k0) (K0.lenE Nv) G6.sb (K0.lenC Nv w S R r G6.rd G6.SR) (.inr hl) hc.le (by simp[aF,aA];omega) (by simp[aF,aA];omega) (by omega) fun e w' hR=>?_
   obtain⟨he,h1,h2⟩:=hR
   exact⟨_,he,fun a' hp hg=>h a' w' (Gk.trans (hp.mono (Nat.le_refl _) (by simp[aF,aA];omega))) hg h1 h2⟩
 | false=>
  have HN:=Gl.nf GR
  subst HN
  simp only[GR,Bool.false_eq_true,if_false,aF,aA]at hn
  simp only[Bool.false_eq_true,if_false]
  refine kE (x:=6) (m:=m) (k0:=k0) (K0.lenE Nv) Gl.sb (K0.lenC Nv w S R r Gl.rd Gl.SR) (.inr hl) hc.le hk (by omega) (by omega) fun e w' hR=>?_
  obtain⟨he,h1,h2⟩:=hR
  exact⟨_,he,fun a' hp hg=>h a' w' hp hg h1 h2⟩
theorem j0 {ops:Array Oper}{r:List Oper}{d:Option Nat}{F E' sz:Nat}(hF:P.underlying F=some (.slice E'))(hs:∀ w,(sizeOf E').run P w=.ok sz w)
  (h:wpList P ops Q r (a.put d (.slice (some ⟨w.heap.size,0,none⟩) 0 0)) (w.alloc (.cells #[] E' (0,0)))):wpList P ops Q (mk d (.buildSlice F 0 #[])::r) a w:=by
 refine aD (w':=w.alloc (.cells #[] E' (0,0))) ?_ h
 have e0:(Array.range 0)=#[]:=rfl
 simp[execOp,mk,Instr.buildSlice,run_underlying hF,hs,Instr.fill,newRow,newObj,Sem.run,e0]
theorem Pv.low {x m k0 n:Nat}{a b:Act}(h:Pv x k0 k0 n a b)(hm:m<=k0):Pv x m k0 n a b:=h.mono hm (Nat.le_refl _)
theorem C4 {nul:Option Nat}{y l F E' sz:Nat}{z:Array Value}{L:Int}{rest:List GC}(hv:a.get cx.ver=.int .i16 ver)(hy:a.get y=.slice none 0 0)(hl:a.get l=.int .i32 L)(hF:m3 P F E' sz z)(RJ:m<=y/\y<k0)(Jq:l<k0)(hly:l≠y)(Sc:l≠x)(N5:y≠x)
  (_hvn:cx.ver<n) (hm:m<=k0) (hk:k0<=n) (hn:(gL (jx g cx nul y l F) n).2<=a.tmps.size)
  (h:∀ a' w' base,Pv x m k0 n a a'->ac (fun _=>False) w w'->a'.get y=.slice base 0 0->a'.get l=.int .i32 L->(base=none \/ ∃ p,base=some ⟨p,0,none⟩/\w.heap.size<=p/\p<w'.heap.size) ->
   base.isSome=(nul.isSome&&(decide (L=0) || !g6 nul ver))->LW P rest (gL (jx g cx nul y l F) n).2 Q a' w'):LW P (jx g cx nul y l F++rest) n Q a w:=by
 cases nul with
 | none=>exact h a w none (Pv.refl _ _ _ _ _) (ac.refl _ _) hy hl (.inl rfl) rfl
 | some q=>
  simp only[jx,gL,ej,aA,b6,aY]at hn
  have hb:∀ (b:Bool) (K':Act->World->Prop),b=(decide ((ver:Int)<(q:Int)) || decide (L=0))->(∀ a',Pv x k0 k0 n a a'->a'.eval (tm (n+5))=.bool b->K' a' w)->wpList P _ (Exit.then K' (Exit.then (LW P rest (gL (jx g cx (some q) y l F) n).2 Q) Q)) _ a w:=fun b K' hb H5=>
   s9 (x:=x) (m:=k0) (k0:=k0) (T1:=g.tVer) (T2:=g.tI32) (Nat.le_refl _) hk (by omega) (by omega) hv hl (b1:=decide ((ver:Int)<(q:Int))) (.inr (.inr (.inl ⟨rfl,rfl⟩))) (b2:=decide (L=0)) (.inr (.inr (.inr (.inr (.inl ⟨rfl,rfl⟩))))) false _ _ rfl rfl fun a' hp he=>H5 a' hp (by rw[hb];exact he)
  refine ad ?_
  by_cases hc:ver<q \/ L=0
  ·refine dt (hb true _ (by simp;omega) fun a1 hp he=>⟨he,?_⟩)
   have hs:=hp.size
   have hy':a1.get y=.slice none 0 0:=(hp.get y N5 (.inl RJ.2)).trans hy
   have JE:a1.get l=.int .i32 L:=(hp.get l Sc (.inl Jq)).trans hl
   refine au (j0 hF.und hF.size (aj (wpList_nil ?_)))
   rw[aa,am (by omega)]
   refine h _ _ (some ⟨w.heap.size,0,none⟩) (((hp.low hm).put _ (by omega)).put _ (by omega)) (ac.alloc _ _ _) (am (by simp only[ab];omega)) ?_ (.inr ⟨_,rfl,Nat.le_refl _,by simp⟩) ?_
   ·rw[ge _ _ _ _ hly,ak (by omega)];exact JE
   ·simp[g6];omega
  ·refine dg (hb false _ (by simp;omega) fun a1 hp he=>⟨he,.skip ?_⟩)
   refine h a1 w none (hp.low hm) (ac.refl _ _) ((hp.get y N5 (.inl RJ.2)).trans hy) ((hp.get l Sc (.inl Jq)).trans hl) (.inl rfl) ?_
   simp[g6]
   omega
theorem sU {y i v F F' E' sz p q cnt c j:Nat}{uu:Option Nat}{cs:List Value}{cur:Array Value}{te:TypeId}(hy:a.get y=.slice (some ⟨p,q,none⟩) cnt c)(hi:a.get i=.int .i32 j)(hj:j<cnt)(hF:P.underlying F=some (.slice E'))(hE:∀ w,(sizeOf E').run P w=.ok sz w)
  (NV:∀ w,(sizeOf F').run P w=.ok sz w)
  (hval:match uu with
   | none=>∃ y,a.get v=y/\y.cells.toList=cs
   | some u=>bd P u true cs.length/\∃ b o,a.get v=.pointer (some ⟨b,o,none⟩)/\ao w b o cs)
  (G0:cs.length=sz) (h1:∀ u∈cs,u.oneCell'=true) (hB:w.heap[p]?=some (.cells cur te (0,0))) (hO:q+j*sz+sz<=cur.size)
  (hm:m<=k0) (hk:k0<=n) (hn:n+4<=a.tmps.size) (_hyn:y<n) (P4:i<n) (NZ:v<n)
  (h:∀ a',Pv x m k0 n a a'->K a' (w.setRow p (aI cur (q+j*sz) cs))):aQ P (kf uu y i v F F' n).1 (Exit.then K Q) a w:=by
 refine au (ag ?_)
 rw[aa,hy]
 refine ag ?_
 rw[aa,ak (by omega),hi]
 have LD:Pv x m k0 n a ((a.put (some n) (.slice (some ⟨p,q,none⟩) cnt c)).put (some (n+1)) (.int .i32 j)):=((Pv.refl _ _ _ _ _).put _ (by omega)).put _ (by omega)
 have key:∀ u:Value,u.cells.toList=cs->wpList P (#[mk (some n) (.move (tm y)),mk (some (n+1)) (.move (tm i)),mk (some (n+2)) (match uu with|some u=>.load u (tm v)|none=>.move (tm v)),
   mk (some (n+3)) (.indexAddr F (tm n) (tm (n+1))),mk none (.store F' (tm (n+3)) (tm (n+2)))]) (Exit.then K Q) [mk (some (n+3)) (.indexAddr F (tm n) (tm (n+1))),mk none (.store F' (tm (n+3)) (tm (n+2)))]
   (((a.put (some n) (.slice (some ⟨p,q,none⟩) cnt c)).put (some (n+1)) (.int .i32 j)).put (some (n+2)) u) w:=by
  intro u hu
  refine cz (i:=j) (k:=.i32) (n:=cnt) (c:=c) (b:=p) (o:=q) (sz:=sz) ?_ ?_ hj hF (hE w) ?_
  ·rw[aa,ak (by omega),ak (by omega),am (by omega)]
  ·rw[aa,ak (by omega),am (by simp only[ab];omega)]
  refine bw (cur:=cur) (t:=te) (by rw[aa,am (by simp only[ab];omega)]) (by rw[aa,ak (by omega),am (by simp only[ab];omega)]) hu
   (by rw[G0];exact NV w) hB (by rw[G0];exact hO) h1 ?_
  exact wpList_nil (h _ ((LD.put _ (by omega)).put _ (by omega)))
 cases uu with
 | none=>
  obtain⟨u,hu,huc⟩:=hval
  refine ag ?_
  rw[aa,ak (by omega),ak (by omega),hu]
  exact key u huc
 | some u=>
  obtain⟨hu,b,o,hb,hc⟩:=hval
  refine fo (cs:=cs) (by rw[aa,ak (by omega),ak (by omega),hb]) (hu.agg w) (hu.size w) hc ?_
  exact key (.agg cs.toArray) (by simp[Value.cells])
theorem wd {y i v F E' sz p q cnt c j:Nat}(hy:a.get y=.slice (some ⟨p,q,none⟩) cnt c)(hi:a.get i=.int .i32 j)(hj:j<cnt)(hF:P.underlying F=some (.slice E'))(hE:∀ w,(sizeOf E').run P w=.ok sz w)
  (hv:v=x \/ (m<=v/\v<k0)) (hm:m<=k0) (hk:k0<=n) (hn:n+3<=a.tmps.size) (Hz:v<a.tmps.size) (_hyn:y<n) (P4:i<n)
  (h:∀ a',Pv x m k0 n a a'->a'.get v=pt p (q+j*sz)->K a' w):aQ P (ea y i v F n).1 (Exit.then K Q) a w:=by
 refine au (ag ?_)
 rw[aa,hy]
 refine ag ?_
 rw[aa,ak (by omega),hi]
 refine cz (i:=j) (k:=.i32) (n:=cnt) (c:=c) (b:=p) (o:=q) (sz:=sz) ?_ ?_ hj hF (hE w) ?_
 ·rw[aa,ak (by omega),am (by omega)]
 ·rw[aa,am (by simp only[ab];omega)]
 refine aj (wpList_nil ?_)
 rw[aa,am (by simp only[ab];omega)]
 exact h _ (((((Pv.refl _ _ _ _ _).put _ (by omega)).put _ (by omega)).put _ (by omega)).put _ (by omega)) (am (by simp only[ab];omega))
def applyWr (cur:Array Value)(O:Nat)(wr:List (Nat × Value)):Array Value:=wr.foldl (fun c p=>c.setIfInBounds (O+p.1) p.2) cur
def DfC (P:Program)(f:Nat)(wr:List (Nat × Value)):Prop:=
 ∀ (w:World) (B O:Nat) (cur:Array Value) (te:TypeId),w.heap[B]?=some (.cells cur te (0,0))->(∀ p∈wr,O+p.1<cur.size) ->
  Calls P f #[pt B O] w fun e w'=>e=.returned (.tuple #[])/\ac (·=B) w w'/\w'.heap[B]?=some (.cells (applyWr cur O wr) te (0,0))
theorem jY {f v:Nat}{wr:List (Nat × Value)}{cur:Array Value}{te:TypeId}(hE:Ent P f)(hD:DfC P f wr)(hv:a.get v=pt B O)(hB:w.heap[B]?=some (.cells cur te (0,0)))(hO:∀ p∈wr,O+p.1<cur.size)
  (hm:m<=k0) (hk:k0<=n) (hn:n+2<=a.tmps.size)
  (h:∀ a' w',Pv x m k0 n a a'->(∀ s,s<n->a'.get s=a.get s)->ac (·=B) w w'->w'.heap[B]?=some (.cells (applyWr cur O wr) te (0,0))->K a' w'):aQ P (da v f n).1 (Exit.then K Q) a w:=by
 refine au (ag ?_)
 rw[aa,hv]
 refine aR (vs:=#[pt B O]) hE ?_ (hD w B O cur te hB hO) fun e w' hR=>⟨_,hR.1,wpList_nil ?_⟩
 ·simp[aa,am (show n<a.tmps.size by omega)]
 ·exact h _ w' (((Pv.refl _ _ _ _ _).put _ (by omega)).put _ (by omega)) (fun s hs=>by rw[ak (by omega),ak (by omega)]) hR.2.1 hR.2.2
theorem jD {s v T k F off sz:Nat}{agg:Bool}(hs:a.get s=pt B O)(hF:bp P T k F off agg sz)(hv:v=x \/ (m<=v/\v<k0))(hm:m<=k0)(hk:k0<=n)(hn:n+3<=a.tmps.size)(Hz:v<a.tmps.size)
  (h:∀ a',Pv x m k0 n a a'->a'.get v=pt B (O+off)->K a' w):aQ P (eY s v T k n).1 (Exit.then K Q) a w:=by
 refine au (ag ?_)
 rw[aa,hs]
 refine aL (by rw[aa,am (by omega)];rfl) ?_
 refine bR (by rw[aa,am (by rw[ab];omega)]) hF ?_
 refine aj (wpList_nil ?_)
 rw[aa,am (by simp only[ab];omega)]
 exact h _ (((((Pv.refl _ _ _ _ _).put _ (by omega)).put _ (by omega)).put _ (by omega)).put _ (by omega)) (am (by simp only[ab];exact Hz))
theorem DG {s T k F E' off:Nat}{z:Value}{cur:Array Value}{te:TypeId}(hs:a.get s=pt B O)(hF:bp P T k F off false 1)(hz:∀ w,(zeroValue E').run P w=.ok z w)(hB:w.heap[B]?=some (.cells cur te (0,0)))(hO:O+off+1<=cur.size)
  (hm:m<=k0) (hk:k0<=n) (hn:n+4<=a.tmps.size)
  (h:∀ a',Pv x m k0 n a a'->(∀ s,s<n->a'.get s=a.get s)->K a' ((w.alloc (.cells z.cells E' (0,0))).setRow B (aI cur (O+off) [pt w.heap.size 0]))):aQ P (Bc s T k F E' n).1 (Exit.then K Q) a w:=by
 refine au (ag ?_)
 rw[aa,hs]
 refine ep (hz w) ?_
 refine aL (by rw[aa,ak (by omega),am (by omega)];rfl) ?_
 refine bR (by rw[aa,am (by simp only[ab];omega)]) hF ?_
 have Gq:B<w.heap.size:=(Array.getElem?_eq_some_iff.1 hB).1
 refine bw (cur:=cur) (t:=te) (v:=pt w.heap.size 0) (vs:=[pt w.heap.size 0]) (by rw[aa,am (by simp only[ab];omega)]) ?_ rfl (hF.var.size _) ?_ (by simpa using hO) (by simp[pt,Value.oneCell']) (wpList_nil ?_)
 ·rw[aa,ak (by omega),ak (by omega),am (by simp only[ab];omega)];rfl
 ·show(w.heap.push _)[B]?=_
  rw[Array.getElem?_push,if_neg (by omega)];exact hB
 ·exact h _ (((((Pv.refl _ _ _ _ _).put _ (by omega)).put _ (by omega)).put _ (by omega)).put _ (by omega)) (fun s hs=>by rw[ak (by omega),ak (by omega),ak (by omega),ak (by omega)])
end
def iM (l:List GC):Prop:=∀ n,n<=(gL l n).2
theorem ax:iM []:=fun n=>Nat.le_refl n
theorem ae {x:GC}{l:List GC}(hx:Up x)(hl:iM l):iM (x::l):=fun n=>Nat.le_trans (hx n) (hl _)
theorem ay {l r:List GC}(hl:iM l)(hr:iM r):iM (l++r):=fun n=>by
 rw[bc]
 exact Nat.le_trans (hl n) (hr _)
theorem eE {l:List GC}(h:iM l):Up (gS l):=h
theorem fq {c:Prop}[Decidable c]{x y:GC}(hx:Up x)(hy:Up y):Up (if c then x else y):=by split<;>assumption
theorem dS {c:Prop}[Decidable c]{x y:List GC}(hx:iM x)(hy:iM y):iM (if c then x else y):=by split<;>assumption
theorem Cn {g:G}{i l b1 b2:Nat}{body:GC}(h:Up body):Up (ud g i l b1 b2 body):=fun n=>Nat.le_trans (Nat.le_add_right n 5) (h _)
theorem oN {g:G}{cx:Cx}{i b1 b2:Nat}{body:GC}(h:Up body):Up (mQ g cx i b1 b2 body):=fun n=>Nat.le_trans (Nat.le_add_right n 5) (h _)
theorem li {g:G}{key:Nat}{dflt:Code}:∀ {l:List (Nat × GC)},(∀ p∈l,Up p.2)->∀ n,n<=(eZ g key dflt l n).2
 | [],_,n=>Nat.le_refl n
 | (t,x)::r,h,n=>Nat.le_trans (Nat.le_trans (Nat.le_add_right n 2) (h (t,x) (List.mem_cons_self ..) (n+2))) (li (l:=r) (fun p hp=>h p (List.mem_cons_of_mem _ hp)) _)
theorem lO {g:G}{cx:Cx}{key b3 T k:Nat}{l:List (Nat × GC)}(h:∀ p∈l,Up p.2):Up (kd g cx key b3 T k l):=fun n=>Nat.le_trans (Nat.le_add_right n 9) (li h _)
theorem gT (g:G)(cx:Cx)(ty:Ty)(v:Nat)(x:List Nat):iM (ib g cx ty v x):=by
 have hc:∀ f b v,Up (aF f b v):=fun _ _ _=>aq _ _
 have hm:∀ x y,Up (bB x y):=fun _ _=>aq _ _
 have hs:∀ v x,Up (aU v x):=fun _ _=>aq _ _
 have hf:∀ A B,Up A->Up B->Up (ix cx A B):=fun _ _=>cg
 have hu:∀ A B,Up A->Up B->Up (jo A B):=fun _ _=>cg
 unfold ib
 split
 ·exact ae (aq _ _) ax
 ·split
  ·exact ae (hs _ _) (ae (eE (ae (hc _ _ _) (ae (hm _ _) ax))) (ae (hm _ _) ax))
  ·exact ae (hc _ _ _) ax
 ·simp only
  split
  ·exact ae (hs _ _) (ae (fq (hf _ _ (hu _ _ (hc _ _ _) (hc _ _ _)) (hu _ _ (hc _ _ _) (hc _ _ _))) (hu _ _ (hc _ _ _) (hc _ _ _))) ax)
  ·refine ae (hs _ _) (ae (cg (eE (ae (aq _ _) (ae (fq (hf _ _ (hu _ _ (aq _ _) (aq _ _)) (hu _ _ (aq _ _) (aq _ _))) (hu _ _ (aq _ _) (aq _ _))) (ae (aq _ _) ax))))
    (fq (hf _ _ (hu _ _ (hc _ _ _) (hc _ _ _)) (hu _ _ (hc _ _ _) (hc _ _ _))) (hu _ _ (hc _ _ _) (hc _ _ _)))) ax)
  ·exact ae (hs _ _) (ae (fq (hu _ _ (hf _ _ (hc _ _ _) (hc _ _ _)) (hf _ _ (hc _ _ _) (hc _ _ _))) (hu _ _ (hc _ _ _) (hc _ _ _))) ax)
 ·simp only
  split
  ·exact ae (hs _ _) (ae (hf _ _ (hc _ _ _) (hc _ _ _)) ax)
  ·exact ae (hc _ _ _) ax
 ·exact ax
theorem ij {g:G}{cx:Cx}{tagged:Bool}{T kt:Nat}{m:Nm}{items:List GC}{cases:List (Nat × GC)}(hi:iM items)(hc:∀ p∈cases,Up p.2):iM (fI g cx tagged T kt m items cases):=by
 unfold fI
 refine ay hi (dS ax (dS (ae (cg (oN (eE (ae (aq _ _) (ae (lO hc) ax)))) (b7 _)) ax) (ae (cg (aq _ _) (b7 _)) ax)))
theorem ri (g:G)(cx:Cx)(nul:Option Nat)(a l F:Nat):iM (jx g cx nul a l F):=by
 cases nul with
 | none=>exact ax
 | some m=>exact ae (cg (aq _ _) (b7 _)) ax
theorem Cm (g:G)(b:Nat):Up (Dg g b):=eE (ae (aq _ _) (ae (b7 _) ax))
mutual
theorem nx (g:G):∀ (ty:Ty) (nm:Nm) (cx:Cx),iM (lJ g cx ty nm)
 | .prim p,nm,cx=>ay (gT _ _ _ _ _) (ae (aq _ _) ax)
 | .str _,nm,cx=>ay (gT _ _ _ _ _) (ae (aq _ _) ax)
 | .bytes _,nm,cx=>ay (gT _ _ _ _ _) (ae (aq _ _) ax)
 | .list nul esz e,nm,cx=>by
  have he:∀ a i F,iM (gEl g cx e a i F (nm.sub 0)):=fun a i F=>up_gEl g e (nm.sub 0) cx a i F
  refine ay (ay (ae (aq _ _) (ae (aq _ _) (ae (aq _ _) (ae (fq (cg (aq _ _) (aq _ _)) (aq _ _)) ax)))) (ri _ _ _ _ _ _)) ?_
  exact ae (cg (Cm _ _) (b7 _)) (ae (aq _ _) (ae (cg (aq _ _) (b7 _)) (ae (Cn (eE (he _ _ _))) (ae (aq _ _) (ae (aq _ _) ax)))))
 | .struct none _ fs,nm,cx=>
  ay (ae (aq _ _) (ae (aq _ _) (ae (aq _ _) ax))) (ij (up_gFds g fs _ _) (up_gTagd g fs _ _))
 | .struct (some _) _ fs,nm,cx=>by
  refine ae (eE (ae (aq _ _) (ae (cg (eE (ay (ae (aq _ _) (ae (aq _ _) (ae (aq _ _) (ae (aq _ _) ax)))) (ij (up_gFds g fs _ _) (up_gTagd g fs _ _)))) (b7 _)) ax))) ax
theorem up_gEl (g:G):∀ (ty:Ty) (nm:Nm) (cx:Cx) (a i F:Nat),iM (gEl g cx ty a i F nm)
 | .struct _ _ fs,_nm,_cx,_a,_i,_F=>ay (ae (aq _ _) (ae (aq _ _) (ae (aq _ _) ax))) (ij (up_gFds g fs _ _) (up_gTagd g fs _ _))
 | .prim _p,_nm,_cx,_a,_i,_F=>ay (gT _ _ _ _ _) (ae (aq _ _) ax)
 | .str _,_nm,_cx,_a,_i,_F=>ay (gT _ _ _ _ _) (ae (aq _ _) ax)
 | .bytes _,_nm,_cx,_a,_i,_F=>ay (gT _ _ _ _ _) (ae (aq _ _) ax)
 | .list _ _ _,_nm,_cx,_a,_i,_F=>ay (gT _ _ _ _ _) (ae (aq _ _) ax)
theorem up_gFds (g:G):∀ (fs:Fds) (ms:List Nm) (cx:Cx),iM (gFds g cx fs ms)
 | .nil,ms,cx=>ax
 | .cons lo hi tag df off ty r,ms,cx=>by
  have h1:=nx g ty (ms.headD (.mk [] [])) cx
  have h2:=up_gFds g r ms.tail cx
  unfold gFds
  refine dS (ae ?_ h2) h2
  unfold dX
  split
  ·exact cg (eE h1) (b7 _)
  ·exact fq (eE h1) (cg (eE h1) (b7 _))
theorem up_gTagd (g:G):∀ (fs:Fds) (ms:List Nm) (cx:Cx),∀ p∈gTagd g cx fs ms,Up p.2
 | .nil,ms,cx=>fun p hp=>by cases hp
 | .cons lo hi tag df off ty r,ms,cx=>by
  have h1:=nx g ty ((ms.headD (.mk [] [])).sub 0) { cx with b:=(ms.headD (.mk [] [])).n 0 }
  have h2:=up_gTagd g r ms.tail cx
  cases tag with
  | none=>exact h2
  | some t=>
   intro p hp
   simp only[gTagd,List.mem_cons]at hp
   rcases hp with rfl|hp
   ·exact eE (ay (ay (ae (aq _ _) ax) h1) (ae (eE (ae (aq _ _) (ae (cg (eE (ae (aq _ _) (ae (b7 _) ax))) (b7 _)) ax))) ax))
   ·exact h2 p hp
end
theorem vN (l:Bs):(bI l).1<4294967296:=by
 unfold bI
 split
 ·simp
 ·rename_i a l
  have ha:=UInt8.toNat_lt a
  split
  ·simp only;omega
  ·split
   ·simp
   ·rename_i b l
    have hb:=UInt8.toNat_lt b
    split
    ·simp only;omega
    ·split
     ·simp
     ·rename_i c l
      have hc:=UInt8.toNat_lt c
      split
      ·simp only;omega
      ·split
       ·simp
       ·rename_i d l
        have hd:=UInt8.toNat_lt d
        split
        ·simp only;omega
        ·split
         ·simp
         ·rename_i e l
          split
          ·simp only;omega
          ·simp
theorem jI (r:RS):(bD r).1<4294967296:=by
 unfold bD
 split
 ·simp
 ·exact vN _
theorem cN.one {w:World}{X:Nat->Prop}{v:Value}{t:List (Nat × Bs)}(h:cN w X v t):v.oneCell'=true:=by
 rcases h with⟨rfl,_⟩|⟨r,rfl,_⟩<;>rfl
section
variable {P:Program} {g:G} {av:PF->Bool} {fl:Bool} {cx:Cx} {fx:Bool} {ver:Int} {S R B O:Nat} {r:RS} {x m k0 n:Nat} {K N E:Act->World->Prop} {Q:Exit->Act->World->Prop} {a:Act} {w:World}
theorem sS (K0:KB P g av fl)(Gw:fl=true)(Gl:RC g cx fx ver S R B O r a w)(hc:eb cx m k0){T k off:Nat}{cur:Array Value}{te:TypeId}(hF:bp P T k g.tTags off true 1)(hB:w.heap[B]?=some (.cells cur te (0,0)))(hO:O+off+1<=cur.size)
  (hk:k0<=n) (hn:n+4<=a.tmps.size)
  (h:∀ a' w',Pv 6 m k0 n a a'->cQ w' g.tR S R (fW (bD r).1 [] (bD r).2).2->em R B (fun j=>j=O+off) w w' ->
   (∀ X:Nat->Prop,(∀ k,X k->k<w.heap.size)->¬ X S->∃ mm,w'.cell? ⟨B,O+off,none⟩=some mm/\cN w' X mm (fW (bD r).1 [] (bD r).2).1)->K a' w') :
  aQ P (lZ g cx T k n).1 (Exit.then K Q) a w:=by
 have Nz:=hc.b
 have G5:=hc.le
 refine au (ag ?_)
 rw[aa,Gl.ss]
 refine aR (vs:=#[pt R 0]) (K0.tagsE Gw) (by simp[aa,ak (show cx.b≠n by omega),Gl.sb]) (K0.tagsC Gw w S R r Gl.rd Gl.SR Gl.Slt) fun e w1 hR=>?_
 obtain⟨mm,he,h1,h2,h3⟩:=hR
 refine⟨_,he,?_⟩
 refine aL (by rw[aa,ak (by omega),am (by omega)];rfl) ?_
 refine bR (by rw[aa,am (by simp only[ab];omega)]) hF ?_
 have Gq:B<w.heap.size:=(Array.getElem?_eq_some_iff.1 hB).1
 have JL:w1.heap[B]?=some (.cells cur te (0,0)):=by rw[h2.block B Gq Gl.BR];exact hB
 have GG:=(h3 (fun _=>False) (fun _ h=>h.elim) id).one
 refine bw (cur:=cur) (t:=te) (v:=.agg #[mm]) (vs:=[mm]) (by rw[aa,am (by simp only[ab];omega)]) ?_ rfl (hF.var.size _) JL (by simpa using hO) (by simpa using GG) (wpList_nil ?_)
 ·rw[aa,ak (by omega),ak (by omega),am (by simp only[ab];omega)]
 ·have hE:em R B (fun j=>j=O+off) w1 (w1.setRow B (aI cur (O+off) [mm])):=em.store JL (by simpa using hO) (fun j h1 h2=>by simp at h2;omega)
  refine h _ _ ((((((Pv.refl _ _ _ _ _).put _ (by omega)).put _ (by omega)).put _ (by omega)).put _ (by omega))) (h1.keep (ac.setRow (fun k=>k=B) _ _ _ rfl) (fun h=>Gl.BS h.symm) (fun h=>Gl.BR h.symm))
   ((em.of_keeps h2 (fun _ _ h=>h) Gl.BR).trans hE) fun X hX hS=>⟨mm,?_,?_⟩
  ·rw[cell_setRow_same _ _ _ _ _ _ _ JL]
   have:=bU (cur:=cur) (o:=O+off) (vs:=[mm]) (by simpa using hO) 0 (by simp)
   simpa using this
  ·have h4:=h3 (fun k=>X k \/ k=B) (fun k hk=>by rcases hk with hk|rfl<;>first|exact hX k hk|exact Gq) (fun hk=>by rcases hk with hk|hk<;>first|exact hS hk|exact Gl.BS hk.symm)
   exact(h4.keep (ac.setRow (fun k=>X k \/ k=B) _ _ _ (.inr rfl))).mono fun k _ hk=>.inl hk
theorem jK {w:World}{S:Nat}{v:Value}{r:RS}(h:bQ w S v r):v.oneCell'=true/\v.cells=#[v]:=by
 rcases h with⟨rfl,_⟩|⟨o,c,rfl,_⟩<;>exact⟨rfl,rfl⟩
theorem vx (K0:KB P g av fl){ops:Array Oper}{l:List Oper}{d:Option Nat}{y:Operand}{v:Value}(hy:a.eval y=v)(hv:v.cells=#[v])(h:wpList P ops Q l (a.put d (.agg #[v,.bool false])) w):wpList P ops Q (mk d (.build g.tR #[(0,y)])::l) a w:=by
 refine aD ?_ h
 obtain⟨fs,f0,f1,h1,h2,h3,h4,h5,h6⟩:=K0.fR
 have hz:=K0.zR w
 have GV:fs=#[f0,f1]:=by rw[<- Array.toArray_toList (xs:=fs),h2]
 subst GV
 have HD:(Value.agg #[.slice none 0 0,.bool false]).cells=#[.slice none 0 0,.bool false]:=rfl
 simp[execOp,mk,hy,Instr.build,hz,run_underlying h1,h5.size,h6.size,h3,h4,Instr.fill,hv,HD]
theorem aB (w:World)(o:Obj):(w.alloc o).heap[w.heap.size]?=some o:=heap_alloc_new w o
theorem bA {w:World}{o:Obj}{b:Nat}(h:b<w.heap.size):(w.alloc o).heap[b]?=w.heap[b]?:=by
 show(w.heap.push o)[b]?=_
 rw[Array.getElem?_push,if_neg (by omega)]
theorem kT (K0:KB P g av fl){l:List Oper}{y b' t:Nat}{v:Value}{r':RS}{ops:Array Oper}(hy:a.get y=v)(hv:bQ w S v r')(_hbad:r'.bad=false)(ht:t<a.tmps.size)(hb:b'<a.tmps.size)(ML:b'≠t)
  (h:wpList P ops Q l ((a.put (some t) (.agg #[v,.bool false])).put (some b') (pt w.heap.size 0)) ((w.alloc (.cells #[.slice none 0 0,.bool false] g.tR (0,0))).setRow w.heap.size #[v,.bool false])) :
  wpList P ops Q (mk (some t) (.build g.tR #[(0,tm y)])::mk (some b') (.alloc g.tR)::mk none (.store g.tR (tm b') (tm t))::l) a w:=by
 obtain⟨GG,Uy⟩:=jK hv
 refine vx K0 (v:=v) (by rw[aa];exact hy) Uy ?_
 refine ep (K0.zR w) ?_
 refine bw (g:=w.heap.size) (o:=0) (cur:=#[.slice none 0 0,.bool false]) (t:=g.tR) (v:=.agg #[v,.bool false]) (vs:=[v,.bool false]) ?_ ?_ rfl (K0.vR.size _) (heap_alloc_new _ _) (by simp) ?_ ?_
 ·rw[aa,am (by simp only[ab];omega)]
 ·rw[aa,ak (by omega),am (by omega)]
 ·intro u hu
  simp only[List.mem_cons,List.not_mem_nil,or_false]at hu
  rcases hu with rfl|rfl
  ·exact GG
  ·rfl
 ·have:aI #[Value.slice none 0 0,.bool false] 0 [v,.bool false]=#[v,.bool false]:=by simp[aI]
  rw[this]
  exact h
theorem eV (X:Nat->Prop)(w:World)(o:Obj)(cs:Array Value):ac X w ((w.alloc o).setRow w.heap.size cs):=
 ⟨rfl,rfl,rfl,by simp,fun k HM _=>by rw[setRow_other _ _ _ _ (by omega)];exact bA HM⟩
theorem kp {v:Value}{r':RS}{T:Nat}(hv:bQ w S v r')(GT:r'.bad=false):cQ ((w.alloc (.cells #[.slice none 0 0,.bool false] T (0,0))).setRow w.heap.size #[v,.bool false]) T S w.heap.size r':=by
 refine⟨v,?_,hv.keep (eV (fun _=>False) w _ _) id⟩
 rw[GT]
 exact setRow_heap _ _ _ _ _ _ (heap_alloc_new _ _)
theorem AI (K0:KB P g av fl)(Gw:fl=true)(Gl:RC g cx fx ver S R B O r a w)(hc:eb cx m k0){b':Nat}(M2:m<=b'/\b'<k0)(hk:k0<=n)(hn:n+4<=a.tmps.size)
  (h:∀ a' w' R',Pv 6 m k0 n a a'->a'.get b'=pt R' 0->w.heap.size<=R'->cQ w' g.tR S R' ⟨(b9 (bD r).1 (bD r).2).1.octets,false,(b9 (bD r).1 (bD r).2).1.isNul⟩->cQ w' g.tR S R (b9 (bD r).1 (bD r).2).2 ->
   ac (·=R) w w'->K a' w'):aQ P (oi g cx.b b' n).1 (Exit.then K Q) a w:=by
 have Nz:=hc.b
 have G5:=hc.le
 refine au (aR (vs:=#[pt R 0]) (K0.uvE Gw) (by simp[aa,Gl.sb]) (K0.uvC Gw w S R r Gl.rd Gl.SR) fun e w1 hR=>?_)
 obtain⟨he,h1,h2⟩:=hR
 refine⟨_,he,?_⟩
 have Gq:=jI r
 have Hn:IntKind.i64.wrap ((bD r).1:Int)=((bD r).1:Int):=by simp[IntKind.wrap,IntKind.bits,IntKind.signed];omega
 refine aT (k:=.u32) (k':=.i64) (m:=((bD r).1:Int)) (by rw[aa,am (by omega)]) (K0.tU32 Gw) K0.tInt ?_
 rw[Hn]
 refine aR (vs:=#[pt R 0,.int .i64 ((bD r).1:Int)]) (K0.spanE Gw) ?_ (K0.spanC Gw w1 S R (bD r).2 ((bD r).1:Int) (by omega) (by omega) h1 Gl.SR) fun e2 w2 HP=>?_
 ·simp only[List.map_cons,List.map_nil,aa]
  rw[am (by simp only[ab];omega),ak (show cx.b≠n+1 by omega),ak (show cx.b≠n by omega),Gl.sb]
 obtain⟨v,IB,h3,h4,h5⟩:=HP
 refine⟨_,IB,?_⟩
 refine kT K0 (y:=n+2) (v:=v) (am (by simp only[ab];omega)) h5 rfl (by simp only[ab];omega) (by simp only[ab];omega) (by omega) (wpList_nil ?_)
 have Gs:ac (·=R) w w2:=h2.trans h4
 refine h _ _ w2.heap.size (((((Pv.refl _ _ _ _ _).put _ (by omega)).put _ (by omega)).put _ (by omega)).put _ (by omega) |>.put _ (by omega)) (am (by simp only[ab];omega)) Gs.size (kp h5 rfl)
  (h3.keep (eV (fun _=>False) w2 _ _) id id) (Gs.trans (eV _ w2 _ _))
theorem ta (d:Nat){T:TypeId}{ms:Array (String × TypeId)}(hT:P.underlying T=some (.interface ms))(w:World):(Op.equalIn (d+1) T .nilIface .nilIface).run P w=.ok true w:=by
 simp[Op.equalIn,run_underlying hT]
theorem sZ (d:Nat){T:TypeId}{ms:Array (String × TypeId)}(hT:P.underlying T=some (.interface ms))(t:TypeId)(y:Value)(w:World):(Op.equalIn (d+1) T (.iface t y) .nilIface).run P w=.ok false w:=by
 simp[Op.equalIn,run_underlying hT]
theorem oX {T:TypeId}{ms:Array (String × TypeId)}(hT:P.underlying T=some (.interface ms)){v:Value}{b:Bool}(hv:(v=.nilIface/\b=false) \/ ((∃ t y,v=.iface t y)/\b=true))(w:World):(binOp .neq T v .nilIface).run P w=.ok (.bool b) w:=by
 rcases hv with⟨rfl,rfl⟩|⟨⟨t,y,rfl⟩,rfl⟩
 ·have:(Op.equal T .nilIface .nilIface).run P w=.ok true w:=ta 9999 hT w
  simp[binOp,this]
 ·have:(Op.equal T (.iface t y) .nilIface).run P w=.ok false w:=sZ 9999 hT t y w
  simp[binOp,this]
theorem yb (K0:KB P g av fl)(Gw:fl=true){b' err R':Nat}{r':RS}(hb:a.get b'=pt R' 0)(J0:cQ w g.tR S R' r')(herr:ErrAt g.gErr w)(hm6:6<m)(Ij:m<=err/\err<k0)(hm:m<=k0)(hk:k0<=n)(hn:n+4<=a.tmps.size)
  (GT:r'.bad=true->∀ a' w',Pv 6 m k0 n a a'->(∃ t y,a'.get 6=.iface t y)->ac (fun _=>False) w w'->E a' w')
  (G1:r'.bad=false->∀ a' w',Pv 6 m k0 n a a'->ac (fun _=>False) w w'->K a' w'):aQ P (mR g b' err n).1 (Rt K E) a w:=by
 obtain⟨ms,hT⟩:=K0.tErr Gw
 refine bm (ad (kE (x:=6) (m:=m) (k0:=k0) K0.cmE hb (K0.cmC w S R' r' J0 herr) (.inr Ij) hm hk (by omega) (by omega) fun e w1 hR=>?_))
 obtain⟨Gy,v,he,h0,h1⟩:=hR
 refine⟨v,he,fun a1 Gk Gv=>?_⟩
 have Gu:=Gk.size
 have G3:∀ (b:Bool) (K':Act->World->Prop),(v=.nilIface/\b=false) \/ ((∃ t y,v=.iface t y)/\b=true)->(∀ a',a'.eval (tm (n+1+1))=.bool b->Pv 6 k0 k0 (n+1) a1 a'->K' a' w1) ->
   wpList P [mk (some (n+1)) (.move (tm err)),mk (some (n+1+1)) (.binOp .neq g.tErr (tm (n+1)) (.const .nilIface) 0)].toArray (Exit.then K' (Exit.then (LW P [] (n+4) (Rt K E)) (Rt K E)))
    [mk (some (n+1)) (.move (tm err)),mk (some (n+1+1)) (.binOp .neq g.tErr (tm (n+1)) (.const .nilIface) 0)] a1 w1:=by
  intro b K' hb hK'
  refine ag ?_
  rw[aa,Gv]
  refine aD (v:=.bool b) (w':=w1) ?_ (wpList_nil (hK' _ ?_ (((Pv.refl _ _ _ _ _).put _ (by omega)).put _ (by omega))))
  ·have e1:(a1.put (some (n+1)) v).eval (tm (n+1))=v:=by rw[aa,am (by omega)]
   have e2:(a1.put (some (n+1)) v).eval (.const .nilIface)=.nilIface:=rfl
   have hg:(eqGuard .neq g.tErr (tm (n+1)) (.const .nilIface) v .nilIface).run P w1=.ok () w1:=by
    rcases hb with⟨rfl,_⟩|⟨⟨t,y,rfl⟩,_⟩<;>simp[eqGuard,tm]
   have hr:=oX hT hb w1
   simp only[execOp,mk,e1,e2,Sem.run_bind,hg,Result.andThen_ok,hr,Sem.run_pure]
  ·rw[aa,am (by simp only[ab];omega)]
 refine ad ?_
 cases M2:r'.bad with
 | true=>
  obtain⟨t,y,rfl⟩:=h1 M2
  refine dt (G3 true _ (.inr ⟨⟨t,y,rfl⟩,rfl⟩) fun a2 IB Gm=>⟨IB,?_⟩)
  have G9:=Gm.size
  have IA:a2.get err=.iface t y:=(Gm.get err (by omega) (.inl Ij.2)).trans Gv
  refine bm (ad (au (ag (aj (wpList_nil (ad (.ret ?_)))))))
  rw[aa,aa,IA,am (by simp only[aF,aA];omega)]
  refine GT M2 _ w1 ((Gk.trans ((Gm.low hm).mono (Nat.le_refl _) (by omega))).trans (((Pv.refl _ _ _ _ _).put _ ?_).put _ ?_)) ⟨t,y,am (by simp only[ab];omega)⟩ Gy
  ·simp only[aF,aA];omega
  ·omega
 | false=>
  have Lh:=h0 M2
  subst Lh
  refine dg (G3 false _ (.inl ⟨rfl,rfl⟩) fun a2 IB Gm=>⟨IB,.skip (bg ?_)⟩)
  exact G1 M2 a2 w1 (Gk.trans ((Gm.low hm).mono (Nat.le_refl _) (by omega))) Gy
end
def FnIs (P:Program)(f ntmps:Nat)(res:List Nat)(d:Code):Prop:=
 ∃ fn c, P.funcs[f]? = some fn /\ fn.body = some c /\ nCode c = d /\ fn.ntmps = ntmps /\ fn.results = (res.map ResultVar.tmp).toArray /\ (fn.name == "runtime.NumGoroutine") = false
theorem fnIs_of {P : Program} {f : Nat} {fn : Func} {ntmps : Nat} {res : List Nat} {d : Code} (hf : P.funcs[f]? = some fn) (hb : fn.body.map nCode = some d) (hn : fn.ntmps = ntmps) (hr : fn.results = (res.map ResultVar.tmp).toArray) (hg : (fn.name == "runtime.NumGoroutine") = false) : FnIs P f ntmps res d := by
 cases h:fn.body with
 | none=>rw[h]at hb;cases hb
 | some c=>
  rw[h]at hb
  exact⟨fn,c,hf,h,Option.some.inj hb,hn,hr,hg⟩
def bj (res:List Nat)(a:Act):Value:=match res with|[t]=>a.get t|_=>.tuple (res.map a.get).toArray
theorem FnIs.ent {P:Program}{f n:Nat}{res:List Nat}{d:Code}(h:FnIs P f n res d):Ent P f:=by
 obtain⟨fn,c,hf,hb,_,_,_,hg⟩:=h
 have GA : ¬ fn.name = "runtime.NumGoroutine" := by simpa using hg
 intro args w
 simp[callFunc,hf,GA,hb]
theorem r5 {P:Program}{fn:Func}{res:List Nat}(hl:res.length<=2)(hr:fn.results=(res.map ResultVar.tmp).toArray)(a:Act)(w:World):(results fn a.tmps).run P w=.ok (bj res a) w:=by
 unfold results
 rw[hr]
 match res,hl with
 | [],_=>simp[bj]
 | [t],_=>simp[bj,Act.get]
 | [t,u],_=>simp[bj,Act.get]
theorem FnIs.calls {P:Program}(hm:P.follows .mixedOrders=true){f n:Nat}{res:List Nat}{d:Code}(h:FnIs P f n res d)(hl:res.length<=2){args:Array Value}{w:World}{R:Ending->World->Prop}
  (hw:aQ P d (Rt (fun a w=>a.defers=[]/\R (.returned (bj res a)) w) (fun a w=>a.defers=[]/\R (.returned (bj res a)) w)) { tmps:=args++Array.replicate (n-args.size) undef,defers:=[] } w):Calls P f args w R:=by
 obtain⟨fn,c,hf,hb,rfl,rfl,hr,_⟩:=h
 refine lE hm hf hb rfl (.mono hw fun e a w hq=>?_)
 cases e<;>first|exact hq.elim|exact⟨hq.1,_,r5 hl hr a w,hq.2⟩
end Go.Proofs.YtbgklecbmhaadaaGreatDoor.Kx