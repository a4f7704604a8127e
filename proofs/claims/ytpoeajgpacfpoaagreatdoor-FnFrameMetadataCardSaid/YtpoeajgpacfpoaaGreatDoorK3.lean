/-
  PLAIN LAWS AND CONTRACTS of messages, part 3.
-/
import Derived.Test.YtpoeajgpacfpoaaGreatDoorK1

namespace Go.Proofs.YtpoeajgpacfpoaaGreatDoor.Kx
open Go
def gK:PF->Ty
 | .bool=>.prim .bool|.i8=>.prim .i8|.i16=>.prim .i16|.u16=>.prim .u16|.i32=>.prim .i32|.i64=>.prim .i64|.uuid=>.prim .uuid
 | .str|.cstr=>.str none
 | .nstr|.cnstr=>.str (some 0)
 | .bytes|.cbytes=>.bytes none
 | .nbytes|.cnbytes=>.bytes (some 0)
def ErrAt (g:Nat)(w:World):Prop:=∃ t x,w.cell? ⟨g,0,none⟩=some (.iface t x)
theorem ErrAt.keep {g:Nat}{X:Nat->Prop}{w w':World}(h:ErrAt g w)(hk:ac X w w')(hg:¬ X g):ErrAt g w':=by
 obtain⟨t,x,h⟩:=h
 exact⟨t,x,hk.cell hg h⟩
def pt (b o:Nat):Value:=.pointer (some ⟨b,o,none⟩)
structure KB (P:Program)(g:G)(av:PF->Bool)(fl:Bool):Prop where
 mixed:P.follows .mixedOrders=true
 rdE:∀ p,av p=true->Ent P (g.rd p)
 rdC:∀ p,av p=true->∀ (w:World) (S R:Nat) (r:RS),cy w g.tR S R r->S≠R->Calls P (g.rd p) #[pt R 0] w fun e w'=>
  ∃ v,e=.returned v/\cy w' g.tR S R (p.run r).2/\ac (·=R) w w'/\∀ X:Nat->Prop,(∀ k,X k->k<w.heap.size)->¬ X S->gT w' X (gK p) v.cells.toList (p.run r).1
 i8C:av .i8=true->∀ (w:World) (S R:Nat) (r:RS),cy w g.tR S R r->S≠R->Calls P (g.rd .i8) #[pt R 0] w fun e w'=>e=.returned (.int .i8 (rI 1 r).1)/\cy w' g.tR S R (rI 1 r).2/\ac (·=R) w w'
 okE:b7 g.ok=true->Ent P g.ok
 okC:b7 g.ok=true->∀ (w:World) (S R:Nat) (r:RS),cy w g.tR S R r->Calls P g.ok #[pt R 0] w fun e w'=>e=.returned (.bool (!r.bad))/\ac (fun _=>False) w w'
 cmE:Ent P g.complete
 cmC:∀ (w:World) (S R:Nat) (r:RS),cy w g.tR S R r->ErrAt g.gErr w->Calls P g.complete #[pt R 0] w fun e w'=>
  ac (fun _=>False) w w'/\∃ v,e=.returned v/\(r.bad=false->v=.nilIface)/\(r.bad=true->∃ t x,v=.iface t x)
 lenE:b7 g.len=true->Ent P g.len
 lenC:b7 g.len=true->∀ (w:World) (S R:Nat) (r:RS),cy w g.tR S R r->S≠R->Calls P g.len #[pt R 0] w fun e w'=>e=.returned (.int .i32 (cA false r).1)/\cy w' g.tR S R (cA false r).2/\ac (·=R) w w'
 clenE:fl=true->b7 g.clen=true->Ent P g.clen
 clenC:fl=true->b7 g.clen=true->∀ (w:World) (S R:Nat) (r:RS),cy w g.tR S R r->S≠R->Calls P g.clen #[pt R 0] w fun e w'=>e=.returned (.int .i32 (cA true r).1)/\cy w' g.tR S R (cA true r).2/\ac (·=R) w w'
 uvE:fl=true->Ent P g.uv
 uvC:fl=true->∀ (w:World) (S R:Nat) (r:RS),cy w g.tR S R r->S≠R->Calls P g.uv #[pt R 0] w fun e w'=>e=.returned (.int .u32 (b5 r).1)/\cy w' g.tR S R (b5 r).2/\ac (·=R) w w'
 spanE:fl=true->Ent P g.span
 spanC:fl=true->∀ (w:World) (S R:Nat) (r:RS) (k:Int),0<=k->k<4294967296->cy w g.tR S R r->S≠R->Calls P g.span #[pt R 0,.int .i64 k] w fun e w'=>
  ∃ v,e=.returned v/\cy w' g.tR S R (bt k r).2/\ac (·=R) w w'/\bD w' S v ⟨(bt k r).1.octets,false,(bt k r).1.isNul⟩
 tagsE:fl=true->Ent P g.tags
 tagsC:fl=true->∀ (w:World) (S R:Nat) (r:RS),cy w g.tR S R r->S≠R->S<w.heap.size->Calls P g.tags #[pt R 0] w fun e w'=>
  ∃ m,e=.returned (.agg #[m])/\cy w' g.tR S R (fz (b5 r).1 [] (b5 r).2).2/\ac (·=R) w w'/\∀ X:Nat->Prop,(∀ k,X k->k<w.heap.size)->¬ X S->cF w' X m (fz (b5 r).1 [] (b5 r).2).1
 setE:fl=true->Ent P g.set
 setC:fl=true->∀ (w:World) (B o:Nat) (m:Value) (t:List (Nat × Bs)) (k:Nat) (v:Value) (l:Bs) (cur:Array Value) (te:TypeId),k<4294967296->w.heap[B]?=some (.cells cur te (0,0))->cur[o]?=some m->cF w (·=B) m t->ci w (·=B) v l ->
  Calls P g.set #[pt B o,.int .u32 k,v] w fun e w'=>e=.returned (.tuple #[])/\∃ (q:Nat) (w1:World),w'=w1/\ac (fun b=>b=B \/ b=q) w w'/\(m=.map none->q=w.heap.size)/\(∀ r,m=.map (some r)->q=r) /\
   w'.heap[B]?=some (.cells (cur.setIfInBounds o (.map (some q))) te (0,0))/\∀ X:Nat->Prop,¬ X q->(∀ k,X k->k<w.heap.size)->ci w (fun k=>X k \/ k=q) v l->cF w X m t->cF w' X (.map (some q)) (cp k l t)
 fR:∃ fs f0 f1,P.underlying g.tR=some (.struct fs)/\fs.toList=[f0,f1]/\f0.offset=0/\f1.offset=1/\bc P f0.type false 1/\bc P f1.type false 1
 zR:∀ w,(zeroValue g.tR).run P w=.ok (.agg #[.slice none 0 0,.bool false]) w
 vR:bc P g.tR true 2
 uuid:av .uuid=true->bc P g.tUuid true 16/\∀ w,(zeroValue g.tUuid).run P w=.ok (.agg (Array.replicate 16 (.int .u8 0))) w
 tI32:P.underlying g.tI32=some (.int .i32)
 tU32:fl=true->P.underlying g.tU32=some (.int .u32)
 tInt:P.underlying g.tInt=some (.int .i64)
 vStr:bc P g.tStr false 1/\∀ w,(zeroValue g.tStr).run P w=.ok (.string ⟨#[]⟩) w
 vTags:fl=true->bc P g.tTags true 1
 tErr:fl=true->∃ ms,P.underlying g.tErr=some (.interface ms)
section
variable {P:Program} {x m k0 n:Nat} {K:Act->World->Prop} {Q:Exit->Act->World->Prop} {a:Act} {w:World}
theorem kx {f b v:Nat}{y:Value}{R:Ending->World->Prop}(hf:Ent P f)(hb:a.get b=y)(hc:Calls P f #[y] w R)
  (hv:v=x \/ (m<=v/\v<k0)) (hm:m<=k0) (hk:k0<=n) (hn:n<a.tmps.size) (Ji:v<a.tmps.size)
  (h:∀ e w',R e w'->∃ z,e=.returned z/\∀ a',Pv x m k0 n a a'->a'.get v=z->K a' w'):aK P (aC f b v n).1 (Exit.then K Q) a w:=by
 refine aq (aN (vs:=#[y]) hf (by simp[aa,hb]) hc fun e w' hR=>?_)
 obtain⟨z,he,hh⟩:=h e w' hR
 refine⟨z,he,ak (wpList_nil ?_)⟩
 rw[aa,db _ _ _ hn]
 exact hh _ (((Pv.refl _ _ _ _ _).put _ (by omega)).put _ (by omega)) (ao (by rw[ab];exact Ji))
theorem cL {t k:Nat}{ops:Nat->List Oper}{A B:GC}(MP:wpList P (ops n).toArray (Exit.then (fun a' w'=>a'.eval (tm (n+t))=.bool true/\aK P (A (n+k)).1 Q a' w') Q) (ops n) a w):aK P (dM t k ops A B n).1 Q a w:=
 .seq (.reg MP) (fun a' w' h=>.condT h.1 h.2) (fun e a w he hq=>by rw[cq he]at hq;exact hq)
theorem cD {t k:Nat}{ops:Nat->List Oper}{A B:GC}(MP:wpList P (ops n).toArray (Exit.then (fun a' w'=>a'.eval (tm (n+t))=.bool false/\aK P (B (A (n+k)).2).1 Q a' w') Q) (ops n) a w):aK P (dM t k ops A B n).1 Q a w:=
 .seq (.reg MP) (fun a' w' h=>.condF h.1 h.2) (fun e a w he hq=>by rw[cq he]at hq;exact hq)
theorem o5 {cx:Cx}{A B:GC}{fx:Bool}(hf:a.get cx.fx=.bool fx)(hm:m<=k0)(hk:k0<=n)(hn:n<a.tmps.size)
  (h:∀ a',Pv x m k0 n a a'->if fx then aK P (A (n+1)).1 Q a' w else aK P (B (A (n+1)).2).1 Q a' w):aK P (gX cx A B n).1 Q a w:=by
 have hp:Pv x m k0 n a (a.put (some n) (.bool fx)):=(Pv.refl _ _ _ _ _).put _ (by omega)
 have:=h _ hp
 cases fx with
 | true=>
  refine cL (ah (wpList_nil ?_))
  rw[aa,hf]
  exact⟨by rw[aa];exact db _ _ _ hn,by simpa using this⟩
 | false=>
  refine cD (ah (wpList_nil ?_))
  rw[aa,hf]
  exact⟨by rw[aa];exact db _ _ _ hn,by simpa using this⟩
theorem qJ {A B:GC}(hf:a.get 2=.bool false)(hm:m<=k0)(hk:k0<=n)(hn:n<a.tmps.size)
  (h:∀ a',Pv x m k0 n a a'->aK P (B (A (n+1)).2).1 Q a' w):aK P (je A B n).1 Q a w:=by
 have hp:Pv x m k0 n a (a.put (some n) (.bool false)):=(Pv.refl _ _ _ _ _).put _ (by omega)
 refine cD (ah (wpList_nil ?_))
 rw[aa,hf]
 exact⟨by rw[aa];exact db _ _ _ hn,h _ hp⟩
theorem ik {op:BinOp}{T:TypeId}{k:IntKind}{p q:Int}{b:Bool}(h:(op=.geq/\b=decide (q<=p)) \/ (op=.leq/\b=decide (p<=q)) \/ (op=.lss/\b=decide (p<q)) \/ (op=.gtr/\b=decide (q<p)) \/ (op=.eql/\b=decide (p=q)) \/ (op=.neq/\b=decide (p≠q))) :
  (binOp op T (.int k p) (.int k q)).run P w=.ok (.bool b) w:=by
 rcases h with⟨rfl,rfl⟩|⟨rfl,rfl⟩|⟨rfl,rfl⟩|⟨rfl,rfl⟩|⟨rfl,rfl⟩|⟨rfl,rfl⟩<;>simp[binOp,Op.intCmp]
 ·exact Bool.beq_eq_decide_eq p q
 ·simp[bne,Bool.beq_eq_decide_eq]
theorem bk {ops:Array Oper}{Q:Exit->Act->World->Prop}{r:List Oper}{d:Option Nat}{op:BinOp}{T:TypeId}{y z:Operand}{k:IntKind}{p q:Int}{b:Bool}(hy:a.eval y=.int k p)(hz:a.eval z=.int k q)
  (hb:(op=.geq/\b=decide (q<=p)) \/ (op=.leq/\b=decide (p<=q)) \/ (op=.lss/\b=decide (p<q)) \/ (op=.gtr/\b=decide (q<p)) \/ (op=.eql/\b=decide (p=q)) \/ (op=.neq/\b=decide (p≠q)))
  (h:wpList P ops Q r (a.put d (.bool b)) w):wpList P ops Q (mk d (.binOp op T y z 0)::r) a w:=
 co hy hz (by rcases hb with⟨rfl,_⟩|⟨rfl,_⟩|⟨rfl,_⟩|⟨rfl,_⟩|⟨rfl,_⟩|⟨rfl,_⟩<;>simp) (ik hb) h
theorem dt {ops:Array Oper}{j d:Nat}{o:Oper}{b:Bool}(ho:ops[j]?=some o)(hd:o.dst=some d)(hs:d<a.tmps.size)(hg:a.get d=.bool b):yielded ops a.tmps j=some b:=by
 have:a.tmps[d]?=some (.bool b):=by
  rw[<- hg]
  simp[Act.get,hs]
 simp[yielded,ho,hd,this]
theorem rR {ops : Array Oper} {Q : Exit -> Act -> World -> Prop} {r : List Oper} {d j : Nat} {op : Op} {b : Bool} (hy : yielded ops a.tmps j = some b) (h : (⟨some d, op, 0, "", #[], some (j, b)⟩ : Oper).wp P a w (wpList P ops Q r) Q) :
  wpList P ops Q (gd d op j b::r) a w:=by
 unfold wpList gd
 rw[if_pos (by simp[Region.wanted,hy])]
 exact .inl h
theorem ju {ops:Array Oper}{Q:Exit->Act->World->Prop}{r:List Oper}{d j:Nat}{op:Op}{b:Bool}{v:Value}(hy:yielded ops a.tmps j=some b)(Im:(execOp a.eval (mk (some d) op)).run P w=.ok (.value v) w)
  (h:wpList P ops Q r (a.put (some d) v) w):wpList P ops Q (gd d op j b::r) a w:=by
 refine rR hy ?_
 unfold Oper.wp
 have : execOp a.eval (⟨some d, op, 0, "", #[], some (j, b)⟩ : Oper) = execOp a.eval (mk (some d) op) := by
  simp only[execOp,mk]
 rw[this,Im]
 exact h
theorem jQ {ops:Array Oper}{Q:Exit->Act->World->Prop}{r:List Oper}{d j:Nat}{op:Op}{b c:Bool}(hy:yielded ops a.tmps j=some c)(hc:c≠b)(h:wpList P ops Q r (a.put (some d) undef) w):wpList P ops Q (gd d op j b::r) a w:=by
 unfold wpList gd
 rw[if_neg (by simp[Region.wanted,hy,hc])]
 exact h
theorem iQ {ops:Array Oper}{Q:Exit->Act->World->Prop}{r:List Oper}{d:Option Nat}{c y z:Operand}{b:Bool}(hc:a.eval c=.bool b)(h:wpList P ops Q r (a.put d (if b then a.eval y else a.eval z)) w):wpList P ops Q (mk d (.pick c y z)::r) a w:=by
 refine aB ?_ h
 simp[execOp,mk,hc,asBool]
theorem rQ {Q:Exit->Act->World->Prop}{n:Nat}{y1 y2:Nat}{op1 op2:BinOp}{T1 T2:TypeId}{k1 k2:IntKind}{p1 q1 p2 q2:Int}{b1 b2:Bool}(hm:m<=k0)(hk:k0<=n)(hn:n+6<=a.tmps.size)(WM:y2<n)
  (h1:a.get y1=.int k1 p1) (h2:a.get y2=.int k2 p2)
  (IX:(op1=.geq/\b1=decide (q1<=p1)) \/ (op1=.leq/\b1=decide (p1<=q1)) \/ (op1=.lss/\b1=decide (p1<q1)) \/ (op1=.gtr/\b1=decide (q1<p1)) \/ (op1=.eql/\b1=decide (p1=q1)) \/ (op1=.neq/\b1=decide (p1≠q1)))
  (IK:(op2=.geq/\b2=decide (q2<=p2)) \/ (op2=.leq/\b2=decide (p2<=q2)) \/ (op2=.lss/\b2=decide (p2<q2)) \/ (op2=.gtr/\b2=decide (q2<p2)) \/ (op2=.eql/\b2=decide (p2=q2)) \/ (op2=.neq/\b2=decide (p2≠q2)))
  (and:Bool) (y z:Operand) (WL:y=if and then tm (n+4)else .const (.bool true)) (P0:z=if and then .const (.bool false)else tm (n+4))
  (h:∀ a',Pv x m k0 n a a'->a'.eval (tm (n+5))=.bool (if and then b1&&b2 else b1 || b2)->Q .normal a' w) :
  wpList P [mk (some n) (.move (tm y1)),mk (some (n+1)) (.binOp op1 T1 (tm n) (ki k1 q1) 0),mk (some (n+2)) (.move (tm (n+1))),gd (n+3) (.move (tm y2)) 2 and,
   gd (n+4) (.binOp op2 T2 (tm (n+3)) (ki k2 q2) 0) 2 and,mk (some (n+5)) (.pick (tm (n+2)) y z)].toArray Q
   [mk (some n) (.move (tm y1)),mk (some (n+1)) (.binOp op1 T1 (tm n) (ki k1 q1) 0),mk (some (n+2)) (.move (tm (n+1))),gd (n+3) (.move (tm y2)) 2 and,
   gd (n+4) (.binOp op2 T2 (tm (n+3)) (ki k2 q2) 0) 2 and,mk (some (n+5)) (.pick (tm (n+2)) y z)] a w:=by
 refine ah ?_
 rw[aa,h1]
 refine bk (b:=b1) (q:=q1) (p:=p1) (k:=k1) (by rw[aa,ao (by omega)]) rfl IX ?_
 refine ah ?_
 rw[aa,ao (by simp only[ab];omega)]
 have Ie:Pv x m k0 n a (((a.put (some n) (.int k1 p1)).put (some (n+1)) (.bool b1)).put (some (n+2)) (.bool b1)):=(((Pv.refl _ _ _ _ _).put _ (by omega)).put _ (by omega)).put _ (by omega)
 generalize hA:((a.put (some n) (.int k1 p1)).put (some (n+1)) (.bool b1)).put (some (n+2)) (.bool b1)=A at Ie ⊢
 have Ii:A.tmps.size=a.tmps.size:=Ie.size
 have Ij:A.get (n+2)=.bool b1:=by rw[<- hA];exact ao (by simp only[ab];omega)
 have hgy:A.get y2=.int k2 p2:=by rw[<- hA,al (by omega),al (by omega),al (by omega)];exact h2
 have JZ:∀ (A':Act),A'.tmps.size=A.tmps.size->A'.get (n+2)=.bool b1->yielded [mk (some n) (.move (tm y1)),mk (some (n+1)) (.binOp op1 T1 (tm n) (ki k1 q1) 0),mk (some (n+2)) (.move (tm (n+1))),gd (n+3) (.move (tm y2)) 2 and,
   gd (n+4) (.binOp op2 T2 (tm (n+3)) (ki k2 q2) 0) 2 and,mk (some (n+5)) (.pick (tm (n+2)) y z)].toArray A'.tmps 2=some b1:=fun A' hs hg=>
  dt (d:=n+2) (o:=mk (some (n+2)) (.move (tm (n+1)))) rfl rfl (by rw[hs,Ii];omega) hg
 by_cases hb:b1=and
 ·subst hb
  refine ju (v:=.int k2 p2) (JZ A rfl Ij) (by simp only[execOp,mk,aa,hgy];rfl) ?_
  have Ix:=Ie.put (.int k2 p2) (d:=n+3) (by omega)
  refine ju (v:=.bool b2) (JZ _ (ab _ _ _) (by rw[al (by omega)];exact Ij)) ?_ ?_
  ·have he:(A.put (some (n+3)) (.int k2 p2)).eval (tm (n+3))=.int k2 p2:=by rw[aa];exact ao (by rw[Ii];omega)
   have Kr:(A.put (some (n+3)) (.int k2 p2)).eval (ki k2 q2)=.int k2 q2:=rfl
   have hg:(eqGuard op2 T2 (tm (n+3)) (ki k2 q2) (.int k2 p2) (.int k2 q2)).run P w=.ok () w:=by unfold eqGuard;cases op2<;>simp
   simp only[execOp,mk,he,Kr,Sem.run_bind,hg,Result.andThen_ok,ik IK,Sem.run_pure]
  ·have Js:=Ix.put (.bool b2) (d:=n+4) (by omega)
   refine iQ (b:=b1) (by rw[aa,al (by omega),al (by omega)];exact Ij) (wpList_nil ?_)
   refine h _ (Js.put _ (by omega)) ?_
   rw[aa,ao (by simp only[ab];rw[Ii];omega)]
   subst WL P0
   have IU:((A.put (some (n+3)) (.int k2 p2)).put (some (n+4)) (.bool b2)).eval (tm (n+4))=.bool b2:=by rw[aa];exact ao (by simp only[ab];rw[Ii];omega)
   cases b1<;>simp[IU]
 ·refine jQ (JZ A rfl Ij) hb ?_
  refine jQ (JZ _ (ab _ _ _) (by rw[al (by omega)];exact Ij)) hb ?_
  have Js:=(Ie.put undef (d:=n+3) (by omega)).put undef (d:=n+4) (by omega)
  refine iQ (b:=b1) (by rw[aa,al (by omega),al (by omega)];exact Ij) (wpList_nil ?_)
  refine h _ (Js.put _ (by omega)) ?_
  rw[aa,ao (by simp only[ab];rw[Ii];omega)]
  subst WL P0
  cases b1<;>cases and<;>simp_all<;>rfl
theorem pJ {g:G}{cx:Cx}{lo:Nat}{hi:Option Nat}{A:GC}{ver:Int}(hv:a.get cx.ver=.int .i16 ver)(hm:m<=k0)(hk:k0<=n)(TP:cx.ver<n)(hA:Up A)(hn:(dA g cx lo hi A n).2<=a.tmps.size)
  (h:∀ a' n',Pv x m k0 n a a'->n<=n'->n'<=n+6->(dA g cx lo hi A n).2=(A n').2->has lo hi ver=true->aK P (A n').1 Q a' w) (Jt:∀ a',Pv x m k0 n a a'->has lo hi ver=false->Q .normal a' w):aK P (dA g cx lo hi A n).1 Q a w:=by
 have VV:∀ (v:Int),a.eval (ki .i16 v)=.int .i16 v:=fun v=>rfl
 cases hi with
 | none=>
  by_cases h0:lo=0
  ·subst h0
   simp only[dA,if_true]
   exact h a n (Pv.refl _ _ _ _ _) (Nat.le_refl _) (by omega) (by simp[dA]) (by simp[has])
  ·simp only[dA,if_neg h0,dM,bp,aS]at hn
   have:=hA (n+2)
   simp only[dA,if_neg h0]
   by_cases Jk:(lo:Int)<=ver
   ·refine cL (ah ?_)
    rw[aa,hv]
    refine bk (b:=true) (q:=lo) (p:=ver) (k:=.i16) (by rw[aa,ao (by omega)]) rfl (.inl ⟨rfl,by simp;omega⟩) (wpList_nil ?_)
    exact⟨by rw[aa,ao (by simp only[ab];omega)],h _ (n+2) (((Pv.refl _ _ _ _ _).put _ (by omega)).put _ (by omega)) (by omega) (by omega) (by simp[dA,h0,dM,bp,aS]) (by simp[has,Jk])⟩
   ·refine cD (ah ?_)
    rw[aa,hv]
    refine bk (b:=false) (q:=lo) (p:=ver) (k:=.i16) (by rw[aa,ao (by omega)]) rfl (.inl ⟨rfl,by simp;omega⟩) (wpList_nil ?_)
    exact⟨by rw[aa,ao (by simp only[ab];omega)],.skip (Jt _ (((Pv.refl _ _ _ _ _).put _ (by omega)).put _ (by omega)) (by simp[has,Jk,h0]))⟩
 | some hh=>
  simp only[dA,dM,bp,aS]at hn
  have:=hA (n+6)
  replace hn:n+6<=a.tmps.size:=by omega
  have key:∀ (b:Bool),b=(decide ((lo:Int)<=(ver:Int))&&decide ((ver:Int)<=(hh:Int)))->has lo (some hh) ver=b:=by
   intro b hb
   rw[hb]
   simp[has]
  by_cases OF:(lo:Int)<=ver/\ver<=(hh:Int)
  ·refine cL (rQ (b1:=true) (b2:=true) (x:=x) (m:=m) (k0:=k0) hm hk hn TP hv hv (.inl ⟨rfl,by simp;omega⟩) (.inr (.inl ⟨rfl,by simp;omega⟩)) true _ _ rfl rfl fun a' hp he=>?_)
   exact⟨by simpa using he,h a' (n+6) hp (by omega) (by omega) (by simp[dA,dM,bp,aS]) (by simp[has];omega)⟩
  ·refine cD (rQ (b1:=decide ((lo:Int)<=(ver:Int))) (b2:=decide ((ver:Int)<=(hh:Int))) (x:=x) (m:=m) (k0:=k0) hm hk hn TP hv hv (.inl ⟨rfl,rfl⟩) (.inr (.inl ⟨rfl,rfl⟩)) true _ _ rfl rfl fun a' hp he=>?_)
   refine⟨?_,.skip (Jt a' hp (by simp[has];omega))⟩
   rw[he]
   simp
   omega
end
structure dS (R B:Nat)(Z:Nat->Prop)(w w':World):Prop where
 keeps:ac (fun k=>k=R \/ k=B) w w'
 blk:∀ cs te,w.heap[B]?=some (.cells cs te (0,0))->∃ cs',w'.heap[B]?=some (.cells cs' te (0,0))/\cs'.size=cs.size/\∀ j,¬ Z j->cs'[j]?=cs[j]?
theorem dS.refl (R B:Nat)(Z:Nat->Prop)(w:World):dS R B Z w w:=⟨ac.refl _ _,fun cs _ h=>⟨cs,h,rfl,fun _ _=>rfl⟩⟩
theorem dS.trans {R B:Nat}{Z:Nat->Prop}{a b c:World}(h:dS R B Z a b)(k:dS R B Z b c):dS R B Z a c:=
 ⟨h.keeps.trans k.keeps,fun cs te hc=>by
  obtain⟨c1,h1,h2,h3⟩:=h.blk cs te hc
  obtain⟨c2,k1,k2,k3⟩:=k.blk c1 te h1
  exact⟨c2,k1,k2.trans h2,fun j hj=>(k3 j hj).trans (h3 j hj)⟩⟩
theorem dS.mono {R B:Nat}{Z Z':Nat->Prop}{a b:World}(h:dS R B Z a b)(hz:∀ j,Z j->Z' j):dS R B Z' a b:=
 ⟨h.keeps,fun cs te hc=>by
  obtain⟨c1,k1,k2,k3⟩:=h.blk cs te hc
  exact⟨c1,k1,k2,fun j hj=>k3 j fun hh=>hj (hz j hh)⟩⟩
theorem dS.of_keeps {X:Nat->Prop}{R B:Nat}{Z:Nat->Prop}{w w':World}(h:ac X w w')(hx:∀ k,k<w.heap.size->X k->k=R)(hB:B≠R):dS R B Z w w':=
 ⟨h.mono fun k hk hX=>.inl (hx k hk hX),fun cs te hc=>⟨cs,by
  have Id:B<w.heap.size:=(Array.getElem?_eq_some_iff.1 hc).1
  rw[h.block B Id fun hX=>hB (hx B Id hX)];exact hc,rfl,fun _ _=>rfl⟩⟩
theorem dS.store {R B lo:Nat}{Z:Nat->Prop}{w:World}{cur:Array Value}{te:TypeId}{cs:List Value}(hB:w.heap[B]?=some (.cells cur te (0,0)))(hs:lo+cs.length<=cur.size)(hz:∀ j,lo<=j->j<lo+cs.length->Z j) :
  dS R B Z w (w.setRow B (aD cur lo cs)):=by
 refine⟨ac.setRow _ w B _ (.inr rfl),fun c te' hc=>?_⟩
 rw[hB]at hc
 obtain⟨rfl,rfl,_⟩:=Obj.cells.inj (Option.some.inj hc)
 refine⟨_,setRow_heap w B cur _ te (0,0) hB,da hs,fun j hj=>bV hs j ?_⟩
 rcases Nat.lt_or_ge j lo with h|h
 ·exact .inl h
 ·rcases Nat.lt_or_ge j (lo+cs.length)with h2|h2
  ·exact absurd (hz j h h2) hj
  ·exact .inr h2
theorem dS.cell {R B:Nat}{Z:Nat->Prop}{w w':World}(h:dS R B Z w w'){cs:Array Value}{te:TypeId}(hB:w.heap[B]?=some (.cells cs te (0,0))){j:Nat}(hj:¬ Z j):w'.cell? ⟨B,j,none⟩=w.cell? ⟨B,j,none⟩:=by
 obtain⟨c1,k1,_,k3⟩:=h.blk cs te hB
 simp[World.cell?,hB,k1,k3 j hj]
def rG (w0:World)(S:Nat)(T:(Nat->Prop)->Prop):Prop:=∀ X:Nat->Prop,(∀ k,X k->k<w0.heap.size)->¬ X S->T X
theorem Rp.evo {w0:World}{S R B:Nat}{Z:Nat->Prop}{w w':World}(h:dS R B Z w w')(hR:R<w0.heap.size)(hB0:B<w0.heap.size)(hRS:R≠S)(Lx:B≠S){ty:Ty}{o:Nat}{v:V}(hv:rG w0 S fun X=>Rp w X ty B o v)
  (hd:∀ j,o<=j->j<o+ty.sz->¬ Z j) {cs:Array Value} {te:TypeId} (hB:w.heap[B]?=some (.cells cs te (0,0))):rG w0 S fun X=>Rp w' X ty B o v:=by
 intro X hX hS
 have h1:=hv (fun k=>X k \/ k=R \/ k=B) (fun k hk=>by rcases hk with hk|rfl|rfl<;>first|exact hX k hk|assumption) (fun hk=>by rcases hk with hk|hk|hk<;>first|exact hS hk|exact hRS hk.symm|exact Lx hk.symm)
 have h2:=Rp.frame (h.keeps.mono fun k _ hk=>.inr hk) ty B o v h1 fun j h3 h4=>h.cell hB (hd j h3 h4)
 exact Rp.mono (fun k _ hk=>.inl hk) ty B o v h2
structure dO (cx:Cx)(m k0:Nat):Prop where
 b:cx.b<m/\cx.b≠6
 s:cx.s<m/\cx.s≠6
 ver:cx.ver<m/\cx.ver≠6
 fx:cx.fx<m/\cx.fx≠6
 six:6<m
 le:m<=k0
structure RC (g:G)(cx:Cx)(fx:Bool)(ver:Int)(S R B O:Nat)(r:RS)(a:Act)(w:World):Prop where
 rd:cy w g.tR S R r
 sb:a.get cx.b=pt R 0
 ss:a.get cx.s=pt B O
 sv:a.get cx.ver=.int .i16 ver
 sf:cx.hf=true->a.get cx.fx=.bool fx
 nf:cx.hf=false->fx=false
 su:a.get 2=.bool false
 err:ErrAt g.gErr w
 SR:S≠R
 BR:B≠R
 BS:B≠S
 gR:g.gErr≠R
 gB:g.gErr≠B
 Slt:S<w.heap.size
theorem RC.step {g:G}{cx:Cx}{fx:Bool}{ver:Int}{S R B O:Nat}{r r':RS}{a a':Act}{w w':World}{m k0 n:Nat}{X:Nat->Prop}(h:RC g cx fx ver S R B O r a w)(hc:dO cx m k0)(hp:Pv 6 m k0 n a a')(hr:cy w' g.tR S R r')
  (hk:ac X w w') (hX:∀ k,k<w.heap.size->X k->k=R \/ k=B):RC g cx fx ver S R B O r' a' w':=by
 obtain⟨t,x,he⟩:=h.err
 exact⟨hr,(hp.get _ hc.b.2 (.inl hc.b.1)).trans h.sb,(hp.get _ hc.s.2 (.inl hc.s.1)).trans h.ss,(hp.get _ hc.ver.2 (.inl hc.ver.1)).trans h.sv,fun hf=>(hp.get _ hc.fx.2 (.inl hc.fx.1)).trans (h.sf hf),h.nf,
  (hp.get 2 (by omega) (.inl (by have:=hc.six;omega))).trans h.su,ErrAt.keep ⟨t,x,he⟩ hk (fun hx=>by
   rcases hX _ (bP he) hx with e|e
   ·exact h.gR e
   ·exact h.gB e),h.SR,h.BR,h.BS,h.gR,h.gB,Nat.lt_of_lt_of_le h.Slt hk.size⟩
def H5 (w:World)(a:Act)(uu:Option Nat)(v:Nat)(cs:List Value):Prop:=
 match uu with
 | none=>∃ y,a.get v=y/\y.cells.toList=cs
 | some _=>∃ b o,a.get v=.pointer (some ⟨b,o,none⟩)/\au w b o cs
def mr (av:PF->Bool)(hf:Bool):Ty->Bool
 | .prim p=>av (bI p)
 | .str none=>av .str&&(!hf || av .cstr)
 | .str (some 0)=>av .nstr&&(!hf || av .cnstr)
 | .str (some (_+1))=>av .str&&av .nstr&&(!hf || (av .cstr&&av .cnstr))
 | .bytes none=>av .bytes&&(!hf || av .cbytes)
 | .bytes (some 0)=>av .nbytes&&(!hf || av .cnbytes)
 | _=>false
section
variable {P:Program} {g:G} {av:PF->Bool} {fl:Bool} {cx:Cx} {fx:Bool} {ver:Int} {S R B O:Nat} {r:RS} {m k0 n:Nat} {Q:Exit->Act->World->Prop} {a:Act} {w:World}
def EE (g:G)(S R:Nat)(p:PF)(ty:Ty)(r:RS)(w:World)(val:Value)(w':World):Prop:=
 cy w' g.tR S R (p.run r).2/\ac (·=R) w w'/\∀ X:Nat->Prop,(∀ k,X k->k<w.heap.size)->¬ X S->gT w' X ty val.cells.toList (p.run r).1
theorem pI (K:KB P g av fl){K':Act->World->Prop}{p:PF}(hp:av p=true)(HY:RC g cx fx ver S R B O r a w){v:Nat}(hv:m<=v/\v<k0)(hm:m<=k0)(hk:k0<=n)(hn:n<a.tmps.size)(Ji:v<a.tmps.size)
  (h:∀ a' w' val,Pv 6 m k0 n a a'->a'.get v=val->EE g S R p (gK p) r w val w'->K' a' w'):aK P (aC (g.rd p) cx.b v n).1 (Exit.then K' Q) a w:=by
 refine kx (x:=6) (m:=m) (k0:=k0) (K.rdE p hp) HY.sb (K.rdC p hp w S R r HY.rd HY.SR) (.inr hv) hm hk hn Ji fun e w' hR=>?_
 obtain⟨val,he,h1,h2,h3⟩:=hR
 exact⟨val,he,fun a' hp hg=>h a' w' val hp hg ⟨h1,h2,h3⟩⟩
theorem x2 (K:KB P g av fl){K':Act->World->Prop}{p q:PF}(hp:av p=true)(hq:av q=true)(IC:cx.hf=true)(HY:RC g cx fx ver S R B O r a w)(hc:dO cx m k0){v:Nat}(hv:m<=v/\v<k0)(hk:k0<=n)(hn:n+3<=a.tmps.size)(Ji:v<a.tmps.size)
  (h:∀ a' w' val,Pv 6 m k0 n a a'->a'.get v=val->EE g S R (if fx then p else q) (gK (if fx then p else q)) r w val w'->K' a' w') :
  aK P (gX cx (aC (g.rd p) cx.b v) (aC (g.rd q) cx.b v) n).1 (Exit.then K' Q) a w:=by
 refine o5 (x:=6) (m:=m) (k0:=k0) (fx:=fx) (HY.sf IC) hc.le hk (by omega) fun a' I3=>?_
 have hrc':RC g cx fx ver S R B O r a' w:=HY.step hc I3 HY.rd (ac.refl (fun _=>False) w) (fun _ _ h=>h.elim)
 have Ii:=I3.size
 cases fx with
 | true=>
  simp only[if_true]at h ⊢
  exact pI K hp hrc' hv hc.le (by omega:k0<=n+1) (by omega) (by omega) fun a2 w2 val h1 h2 h3=>h a2 w2 val (I3.trans (h1.mono (Nat.le_refl _) (by omega))) h2 h3
 | false=>
  simp only[Bool.false_eq_true,if_false]at h ⊢
  exact pI K hq hrc' hv hc.le (by simp[aC,ay];omega) (by simp[aC,ay];omega) (by omega) fun a2 w2 val h1 h2 h3=>h a2 w2 val (I3.trans (h1.mono (Nat.le_refl _) (by simp[aC,ay];omega))) h2 h3
theorem x7 (K:KB P g av fl){K':Act->World->Prop}(hp:av .nstr=true)(hq:cx.hf=true->av .cnstr=true)(HY:RC g cx fx ver S R B O r a w)(hc:dO cx m k0){v:Nat}(hv:m<=v/\v<k0)(hk:k0<=n)
  (hn:((if cx.hf then gX cx (je (aC (g.un .cnstr) cx.b v) (aC (g.rd .cnstr) cx.b v)) (je (aC (g.un .nstr) cx.b v) (aC (g.rd .nstr) cx.b v))else je (aC (g.un .nstr) cx.b v) (aC (g.rd .nstr) cx.b v):GC) n).2<=a.tmps.size) (Ji:v<a.tmps.size)
  (h:∀ a' w' val,Pv 6 m k0 n a a'->a'.get v=val->EE g S R (cC true fx) (.str (some 0)) r w val w'->K' a' w') :
  aK P ((if cx.hf then gX cx (je (aC (g.un .cnstr) cx.b v) (aC (g.rd .cnstr) cx.b v)) (je (aC (g.un .nstr) cx.b v) (aC (g.rd .nstr) cx.b v))else je (aC (g.un .nstr) cx.b v) (aC (g.rd .nstr) cx.b v):GC) n).1 (Exit.then K' Q) a w:=by
 cases IC:cx.hf with
 | true=>
  simp only[IC,if_true,gX,je,dM,aC,ay]at hn
  simp only[if_true]
  refine o5 (x:=6) (m:=m) (k0:=k0) (fx:=fx) (HY.sf IC) hc.le hk (by omega) fun a1 HX=>?_
  have If:=HX.size
  have Is:RC g cx fx ver S R B O r a1 w:=HY.step hc HX HY.rd (ac.refl (fun _=>False) w) (fun _ _ h=>h.elim)
  cases fx with
  | true=>
   simp only[if_true]
   refine qJ (x:=6) (m:=m) (k0:=k0) Is.su hc.le (by omega) (by omega) fun a2 HZ=>?_
   have Iw:=HZ.size
   have IM:RC g cx true ver S R B O r a2 w:=Is.step hc HZ Is.rd (ac.refl (fun _=>False) w) (fun _ _ h=>h.elim)
   simp only[aC,ay]at HZ ⊢
   exact pI K (hq IC) IM hv hc.le (by omega) (by omega) (by omega) fun a3 w3 val h1 h2 h3=>h a3 w3 val ((HX.trans (HZ.mono (Nat.le_refl _) (by omega))).trans (h1.mono (Nat.le_refl _) (by omega))) h2 h3
  | false=>
   simp only[Bool.false_eq_true,if_false]
   refine qJ (x:=6) (m:=m) (k0:=k0) Is.su hc.le (by simp[je,dM,aC,ay];omega) (by simp[je,dM,aC,ay];omega) fun a2 HZ=>?_
   have Iw:=HZ.size
   have IM:RC g cx false ver S R B O r a2 w:=Is.step hc HZ Is.rd (ac.refl (fun _=>False) w) (fun _ _ h=>h.elim)
   simp only[je,dM,aC,ay]at HZ ⊢
   exact pI K hp IM hv hc.le (by omega) (by omega) (by omega) fun a3 w3 val h1 h2 h3=>h a3 w3 val ((HX.trans (HZ.mono (Nat.le_refl _) (by omega))).trans (h1.mono (Nat.le_refl _) (by omega))) h2 h3
 | false=>
  have J8:=HY.nf IC
  subst J8
  simp only[IC,Bool.false_eq_true,if_false,je,dM,aC,ay]at hn
  simp only[Bool.false_eq_true,if_false]
  refine qJ (x:=6) (m:=m) (k0:=k0) HY.su hc.le hk (by omega) fun a2 HZ=>?_
  have Iw:=HZ.size
  have IM:RC g cx false ver S R B O r a2 w:=HY.step hc HZ HY.rd (ac.refl (fun _=>False) w) (fun _ _ h=>h.elim)
  simp only[aC,ay]at HZ ⊢
  exact pI K hp IM hv hc.le (by omega) (by omega) (by omega) fun a3 w3 val h1 h2 h3=>h a3 w3 val (HZ.trans (h1.mono (Nat.le_refl _) (by omega))) h2 h3
theorem pH (K:KB P g av fl){K':Act->World->Prop}{p:PF}(hp:av p=true)(Oa:gK p=.str none)(HY:RC g cx fx ver S R B O r a w){vv q:Nat}{cur:Array Value}(LH:a.get vv=pt q 0)(hq:w.heap[q]?=some (.cells cur g.tStr (0,0)))(Ry:cur.size=1)(QK:q≠R)(PM:q≠S)
  (hm:m<=k0) (hk:k0<=n) (MI:vv<n) (hn:n<a.tmps.size)
  (h:∀ a' w',Pv 6 m k0 n a a'->(∃ l:Bs,(p.run r).1=.s l/\l.length<=maxLen/\w'.cell? ⟨q,0,none⟩=some (.string ⟨l.toArray⟩))->cy w' g.tR S R (p.run r).2->ac (fun k=>k=R \/ k=q) w w'->K' a' w') :
  aK P (ay 1 (fun n=>[cl (some n) (g.rd p) [tm cx.b],mk none (.store g.tStr (tm vv) (tm n))]) n).1 (Exit.then K' Q) a w:=by
 refine aq (aN (vs:=#[pt R 0]) (K.rdE p hp) (by simp[aa,HY.sb]) (K.rdC p hp w S R r HY.rd HY.SR) fun e w' hR=>?_)
 obtain⟨val,he,h1,h2,h3⟩:=hR
 refine⟨val,he,?_⟩
 have hl:=h3 (fun _=>False) (fun _ h=>h.elim) (fun h=>h.elim)
 rw[Oa]at hl
 obtain⟨l,Lb,OB,MR⟩:=hl
 have PL:q<w.heap.size:=(Array.getElem?_eq_some_iff.1 hq).1
 have T8:w'.heap[q]?=some (.cells cur g.tStr (0,0)):=by rw[h2.block q PL QK];exact hq
 refine bm (g:=q) (o:=0) (cur:=cur) (t:=g.tStr) (v:=val) (vs:=val.cells.toList) ?_ ?_ rfl (by rw[Lb];exact K.vStr.1.size _) T8 (by rw[Lb];simp;omega) (by rw[Lb];simp[Value.oneCell']) (wpList_nil ?_)
 ·rw[aa,al (by omega)];exact LH
 ·rw[aa,db _ _ _ hn]
 ·refine h _ _ ((Pv.refl _ _ _ _ _).put _ (by omega)) ⟨l,OB,MR,?_⟩ ?_ ?_
  ·rw[cell_setRow_same _ _ _ _ _ _ _ T8,Lb]
   have:=bA (cur:=cur) (o:=0) (vs:=[Value.string ⟨l.toArray⟩]) (by simp;omega) 0 (by simp)
   simpa using this
  ·have TE:ac (fun k=>k=q) w' (w'.setRow q (aD cur 0 val.cells.toList)):=ac.setRow _ _ _ _ rfl
   exact h1.keep TE (Ne.symm PM) (Ne.symm QK)
  ·have TE:ac (fun k=>k=R \/ k=q) w' (w'.setRow q (aD cur 0 val.cells.toList)):=ac.setRow _ _ _ _ (.inr rfl)
   exact(h2.mono fun _ _ h=>.inl h).trans TE
def vX (g:G)(cx:Cx)(t f:Nat):GC:=ay 1 fun n=>[cl (some n) f [tm cx.b],mk none (.store g.tStr (tm t) (tm n))]
def fp (g:G)(cx:Cx)(t:Nat):GC:=if cx.hf then gX cx (je (vX g cx t (g.un .cstr)) (vX g cx t (g.rd .cstr))) (je (vX g cx t (g.un .str)) (vX g cx t (g.rd .str)))else je (vX g cx t (g.un .str)) (vX g cx t (g.rd .str))
def EC (g:G)(cx:Cx)(v:Nat):GC:=if cx.hf then gX cx (je (aC (g.un .cnstr) cx.b v) (aC (g.rd .cnstr) cx.b v)) (je (aC (g.un .nstr) cx.b v) (aC (g.rd .nstr) cx.b v))else je (aC (g.un .nstr) cx.b v) (aC (g.rd .nstr) cx.b v)
theorem uX (g:G)(cx:Cx)(t:Nat):Up (fp g cx t):=by
 unfold fp
 split
 ·exact bX (bX (am _ _) (am _ _)) (bX (am _ _) (am _ _))
 ·exact bX (am _ _) (am _ _)
theorem EJ (g:G)(cx:Cx)(t:Nat):Up (EC g cx t):=by
 unfold EC
 split
 ·exact bX (bX (am _ _) (am _ _)) (bX (am _ _) (am _ _))
 ·exact bX (am _ _) (am _ _)
theorem dO.high (h:dO cx m k0):dO cx k0 k0:=
 have:=h.le
 ⟨⟨by have:=h.b;omega,h.b.2⟩,⟨by have:=h.s;omega,h.s.2⟩,⟨by have:=h.ver;omega,h.ver.2⟩,⟨by have:=h.fx;omega,h.fx.2⟩,by have:=h.six;omega,Nat.le_refl _⟩
theorem xA (K:KB P g av fl){K':Act->World->Prop}(hp:av .str=true)(HZ:cx.hf=true->av .cstr=true)(HY:RC g cx fx ver S R B O r a w)(hc:dO cx k0 k0){vv q:Nat}{cur:Array Value}(LH:a.get vv=pt q 0)(Ov:vv<k0)(Tw:vv≠6)(hq:w.heap[q]?=some (.cells cur g.tStr (0,0)))(Ry:cur.size=1)(QK:q≠R)(PM:q≠S)
  (hk:k0<=n) (hn:(fp g cx vv n).2<=a.tmps.size)
  (h:∀ a' w',Pv 6 k0 k0 n a a'->(∃ l:Bs,((cC false fx).run r).1=.s l/\l.length<=maxLen/\w'.cell? ⟨q,0,none⟩=some (.string ⟨l.toArray⟩))->cy w' g.tR S R ((cC false fx).run r).2->ac (fun k=>k=R \/ k=q) w w'->K' a' w') :
  aK P (fp g cx vv n).1 (Exit.then K' Q) a w:=by
 unfold fp at hn ⊢
 cases IC:cx.hf with
 | true=>
  simp only[IC,if_true,gX,je,vX,dM,ay]at hn
  simp only[if_true]
  refine o5 (x:=6) (m:=k0) (k0:=k0) (fx:=fx) (HY.sf IC) (Nat.le_refl _) hk (by omega) fun a1 HX=>?_
  have If:=HX.size
  have Is:RC g cx fx ver S R B O r a1 w:=HY.step hc HX HY.rd (ac.refl (fun _=>False) w) (fun _ _ h=>h.elim)
  have JI:a1.get vv=pt q 0:=(HX.get vv Tw (.inl Ov)).trans LH
  cases fx with
  | true=>
   simp only[if_true]
   refine qJ (x:=6) (m:=k0) (k0:=k0) Is.su (Nat.le_refl _) (by omega) (by omega) fun a2 hp2'=>?_
   have Iw:=hp2'.size
   have IM:RC g cx true ver S R B O r a2 w:=Is.step hc hp2' Is.rd (ac.refl (fun _=>False) w) (fun _ _ h=>h.elim)
   have KU:a2.get vv=pt q 0:=(hp2'.get vv Tw (.inl Ov)).trans JI
   simp only[vX,ay]at hp2' ⊢
   exact pH K (p:=.cstr) (HZ IC) rfl IM KU hq Ry QK PM (Nat.le_refl _) (by omega) (by omega) (by omega) fun a3 w3 h1 h2 h3 h4=>h a3 w3 ((HX.trans (hp2'.mono (Nat.le_refl _) (by omega))).trans (h1.mono (Nat.le_refl _) (by omega))) h2 h3 h4
  | false=>
   simp only[Bool.false_eq_true,if_false]
   refine qJ (x:=6) (m:=k0) (k0:=k0) Is.su (Nat.le_refl _) (by simp[je,dM,vX,ay];omega) (by simp[je,dM,vX,ay];omega) fun a2 hp2'=>?_
   have Iw:=hp2'.size
   have IM:RC g cx false ver S R B O r a2 w:=Is.step hc hp2' Is.rd (ac.refl (fun _=>False) w) (fun _ _ h=>h.elim)
   have KU:a2.get vv=pt q 0:=(hp2'.get vv Tw (.inl Ov)).trans JI
   simp only[je,dM,vX,ay]at hp2' ⊢
   exact pH K (p:=.str) hp rfl IM KU hq Ry QK PM (Nat.le_refl _) (by omega) (by omega) (by omega) fun a3 w3 h1 h2 h3 h4=>h a3 w3 ((HX.trans (hp2'.mono (Nat.le_refl _) (by omega))).trans (h1.mono (Nat.le_refl _) (by omega))) h2 h3 h4
 | false=>
  have J8:=HY.nf IC
  subst J8
  simp only[IC,Bool.false_eq_true,if_false,je,vX,dM,ay]at hn
  simp only[Bool.false_eq_true,if_false]
  refine qJ (x:=6) (m:=k0) (k0:=k0) HY.su (Nat.le_refl _) hk (by omega) fun a2 hp2'=>?_
  have Iw:=hp2'.size
  have IM:RC g cx false ver S R B O r a2 w:=HY.step hc hp2' HY.rd (ac.refl (fun _=>False) w) (fun _ _ h=>h.elim)
  have KU:a2.get vv=pt q 0:=(hp2'.get vv Tw (.inl Ov)).trans LH
  simp only[vX,ay]at hp2' ⊢
  exact pH K (p:=.str) hp rfl IM KU hq Ry QK PM (Nat.le_refl _) (by omega) (by omega) (by omega) fun a3 w3 h1 h2 h3 h4=>h a3 w3 (hp2'.trans (h1.mono (Nat.le_refl _) (by omega))) h2 h3 h4
def dR (fx:Bool)(ver:Int)(ty:Ty)(r:RS):V × RS:=
 match ty with
 | .prim p=>(bI p).run r
 | .str nul=>(cC (ce nul ver) fx).run r
 | .bytes nul=>(bR (ce nul ver) fx).run r
 | _=>(.nul,r)
theorem oS (fx:Bool)(ver:Int)(ty:Ty)(old:V)(r:RS)(h:ty.leaf=true):e9 fx ver ty old r=.ok (dR fx ver ty r).1 (dR fx ver ty r).2:=by
 cases ty<;>first|rfl|cases h
def jS (m k0 v:Nat)(x:List Nat):Bool:=decide (m<=v/\v<k0)&&x.all fun t=>decide (m<=t/\t<k0)&&t != v
def uH (g:G)(S R:Nat)(ty:Ty)(m k0 n v:Nat)(a:Act)(w:World)(res:V × RS)(a':Act)(w':World):Prop:=
 ∃ cs,Pv 6 m k0 n a a'/\H5 w' a' (ko g ty) v cs/\cy w' g.tR S R res.2/\ac (·=R) w w'/\∀ X:Nat->Prop,(∀ k,X k->k<w.heap.size)->¬ X S->gT w' X ty cs res.1
theorem ct {p:PF}{ty:Ty}{v:Nat}{a':Act}{w':World}{val:Value}{res:V × RS}(hu:ko g ty=none)(h1:Pv 6 m k0 n a a')(h2:a'.get v=val)(h3:EE g S R p (gK p) r w val w')(MM:res=p.run r)
  (hl:∀ X cs y,gT w' X (gK p) cs y->gT w' X ty cs y):uH g S R ty m k0 n v a w res a' w':=by
 subst MM
 refine⟨val.cells.toList,h1,?_,h3.1,h3.2.1,fun X hX hS=>hl X _ _ (h3.2.2 X hX hS)⟩
 rw[hu]
 exact⟨val,h2,rfl⟩
theorem dy {cur:Array Value}{cs:List Value}(h:cs.length=cur.size):aD cur 0 cs=cs.toArray:=by
 simp[aD,h]
theorem AN (K:KB P g av fl){ty:Ty}{v:Nat}{x:List Nat}{rest:List GC}(Kw:mr av cx.hf ty=true)(HY:RC g cx fx ver S R B O r a w)(hc:dO cx m k0)(hk:k0<=n)(Iu:jS m k0 v x=true)(Jo:k0<=a.tmps.size)
  (hx:(∃ t,x=[t]/\∃ q,ty=.str (some (q+1))) \/ (x=[]/\∀ q,ty≠.str (some (q+1))) \/ (∃ t u,x=[t,u]/\∃ p,ty=.prim p/\p≠.uuid))
  (hN:(gL (g7 g cx ty v x) n).2<=a.tmps.size)
  (h:∀ a' w',uH g S R ty m k0 n v a w (dR fx ver ty r) a' w'->LW P rest (gL (g7 g cx ty v x) n).2 Q a' w') :
  LW P (g7 g cx ty v x++rest) n Q a w:=by
 have Lp:m<=v/\v<k0:=by simp only[jS,Bool.and_eq_true,decide_eq_true_eq]at Iu;exact Iu.1
 have UB:∀ t∈x,(m<=t/\t<k0)/\t≠v:=fun t ht=>by
  simp only[jS,Bool.and_eq_true,decide_eq_true_eq,List.all_eq_true]at Iu
  have:=Iu.2 t ht
  simpa using this
 cases ty with
 | list=>cases Kw
 | struct=>cases Kw
 | prim p=>
  by_cases hu:p=.uuid
  ·subst hu
   rcases hx with⟨t,rfl,q,hq⟩|⟨rfl,_⟩|⟨t,u,rfl,p,hp,Kl⟩
   ·cases hq
   ·simp only[mr,bI]at Kw
    simp only[g7,gL,ay]at hN
    refine ad (aq (aN (vs:=#[pt R 0]) (K.rdE .uuid Kw) (by simp[aa,HY.sb]) (K.rdC .uuid Kw w S R r HY.rd HY.SR) fun e w' hR=>?_))
    obtain⟨val,he,h1,h2,h3⟩:=hR
    refine⟨val,he,?_⟩
    obtain⟨hvU,hzU⟩:=K.uuid Kw
    refine cZ (hzU w') ?_
    have hl:=(h3 (fun _=>False) (fun _ h=>h.elim) (fun h=>h.elim)).len
    have KQ:val.cells.toList.length=16:=by simpa[gK,Ty.sz]using hl
    have I5:∀ y∈val.cells.toList,y.oneCell'=true:=by
     obtain⟨l,_,OB,_⟩:=h3 (fun _=>False) (fun _ h=>h.elim) (fun h=>h.elim)
     intro y hy
     rw[OB]at hy
     obtain⟨b,_,rfl⟩:=List.mem_map.1 hy
     rfl
    have Kk:(w'.alloc (.cells (Value.agg (Array.replicate 16 (.int .u8 0))).cells g.tUuid (0,0))).heap[w'.heap.size]?=some (.cells (Array.replicate 16 (.int .u8 0)) g.tUuid (0,0)):=heap_alloc_new w' _
    refine bm (g:=w'.heap.size) (o:=0) (cur:=Array.replicate 16 (.int .u8 0)) (t:=g.tUuid) (v:=val) (vs:=val.cells.toList) ?_ ?_ rfl (by rw[KQ];exact hvU.size _) Kk (by rw[KQ];simp) I5 (wpList_nil ?_)
    ·rw[aa,ao (by simp only[ab];omega)]
    ·rw[aa,al (by omega),ao (by omega)]
    ·have KN:ac (·=R) w' (w'.alloc (.cells (Value.agg (Array.replicate 16 (.int .u8 0))).cells g.tUuid (0,0))):=ac.alloc _ _ _
     have TE:ac (fun k=>k=w'.heap.size) (w'.alloc (.cells (Value.agg (Array.replicate 16 (.int .u8 0))).cells g.tUuid (0,0))) ((w'.alloc (.cells (Value.agg (Array.replicate 16 (.int .u8 0))).cells g.tUuid (0,0))).setRow w'.heap.size (aD (Array.replicate 16 (.int .u8 0)) 0 val.cells.toList)):=
      ac.setRow _ _ _ _ rfl
     have hk0':ac (fun _=>False) w' ((w'.alloc (.cells (Value.agg (Array.replicate 16 (.int .u8 0))).cells g.tUuid (0,0))).setRow w'.heap.size (aD (Array.replicate 16 (.int .u8 0)) 0 val.cells.toList)):=
      ⟨rfl,rfl,rfl,by simp,fun k J0 _=>by rw[setRow_other _ _ _ _ (by omega)];exact(ac.alloc (fun _=>False) w' _).block k J0 id⟩
     refine h _ _ ⟨val.cells.toList,((Pv.refl _ _ _ _ _).put _ (by omega)).put _ (by omega),⟨w'.heap.size,0,ao (by simp only[ab];omega),?_⟩,?_,h2.trans (hk0'.mono fun _ _ h=>h.elim),fun X hX hS=>?_⟩
     ·intro j c hj
      have JF:j<val.cells.toList.length:=(List.getElem?_eq_some_iff.1 hj).1
      rw[cell_setRow_same _ _ _ _ _ _ _ Kk,bA (by rw[KQ];simp) j JF]
      exact hj
     ·exact h1.keep hk0' (fun h=>h.elim) (fun h=>h.elim)
     ·exact(h3 X hX hS).keep (hk0'.mono fun _ _ h=>h.elim)
   ·cases hp
    exact absurd rfl Kl
  ·have Mb:∀ y,gT y=gT y:=fun _=>rfl
   have Mn:ko g (.prim p)=none:=by cases p<;>first|rfl|exact absurd rfl hu
   have Oa:gK (bI p)=.prim p:=by cases p<;>rfl
   have I6:dR fx ver (.prim p) r=(bI p).run r:=rfl
   rcases hx with⟨t,rfl,q,hq⟩|⟨rfl,_⟩|⟨t,u,rfl,p',I3,_⟩
   ·cases hq
   ·have hval:g7 g cx (.prim p) v []=[aC (g.rd (bI p)) cx.b v]:=by cases p<;>first|rfl|exact absurd rfl hu
    rw[hval]at hN h ⊢
    simp only[gL,aC,ay]at hN
    refine ad (pI K Kw HY Lp hc.le hk (by omega) (by omega) fun a' w' val h1 h2 h3=>h a' w' ?_)
    exact ct Mn h1 h2 h3 rfl (fun X cs y hh=>by rw[<- Oa];exact hh)
   ·have hval:g7 g cx (.prim p) v [t,u]=[aR t (.int .i8 0),gS [aC (g.rd (bI p)) cx.b u,b6 u t],b6 t v]:=by cases p<;>first|rfl|exact absurd rfl hu
    rw[hval]at hN h ⊢
    obtain⟨ht,WW⟩:=UB t (by simp)
    obtain⟨Mj,QH⟩:=UB u (by simp)
    simp only[gL,gS,aC,b6,aR,ay]at hN
    refine ad (cV (x:=6) (m:=m) (k0:=k0) (n:=n) (.inr ht) (by omega) fun a1 HX _=>?_)
    have Is:RC g cx fx ver S R B O r a1 w:=HY.step hc HX HY.rd (ac.refl (fun _=>False) w) (fun _ _ h=>h.elim)
    have If:=HX.size
    refine ad (aY (ad (pI K Kw Is Mj hc.le (by simpa[aR,ay]using hk) (by simp[aR,ay];omega) (by omega) fun a2 w2 val h1 h2 h3=>?_)))
    have Iw:=h1.size
    refine ad (e7 (x:=6) (m:=m) (k0:=k0) (.inr ht) hc.le (by simp[aR,ay,aC];omega) (by simp[aR,ay,aC];omega) (by omega) fun a3 Ie I2=>bf ?_)
    have IJ:=Ie.size
    refine ad (e7 (x:=6) (m:=m) (k0:=k0) (.inr Lp) hc.le (by simp[gS,gL,aR,ay,aC,b6];omega) (by simp[gS,gL,aR,ay,aC,b6];omega) (by omega) fun a4 Ix IU=>h a4 w2 ?_)
    simp only[aR,ay,aC,gS,gL,b6]at HX h1 Ie Ix
    have Nh:Pv 6 m k0 n a a4:=((HX.trans (h1.mono (Nat.le_refl _) (by omega))).trans (Ie.mono (Nat.le_refl _) (by omega))).trans (Ix.mono (Nat.le_refl _) (by omega))
    exact ct Mn Nh (by rw[IU,I2,h2]) h3 rfl (fun X cs y hh=>by rw[<- Oa];exact hh)
 | bytes nul=>
  have Mn:ko g (.bytes nul)=none:=rfl
  obtain rfl:x=[]:=by
   rcases hx with⟨t,rfl,q,hq⟩|⟨rfl,_⟩|⟨t,u,rfl,p',I3,_⟩
   ·cases hq
   ·rfl
   ·cases I3
  have K2:nul=none \/ nul=some 0:=by
   cases nul with
   | none=>exact .inl rfl
   | some q=>cases q with
    | zero=>exact .inr rfl
    | succ q=>simp[mr]at Kw
  have Oc:ce nul ver=nul.isSome:=by rcases K2 with rfl|rfl<;>simp[ce]
  have KS:av (bR nul.isSome false)=true/\(cx.hf=true->av (bR nul.isSome true)=true):=by
   rcases K2 with rfl|rfl<;>simp only[mr,Bool.and_eq_true,Bool.or_eq_true,Bool.not_eq_true']at Kw<;>refine⟨Kw.1,fun hh=>?_⟩<;>rcases Kw.2 with h|h<;>first|(rw[hh]at h;cases h)|exact h
  have I6:dR fx ver (.bytes nul) r=(bR nul.isSome fx).run r:=by simp only[dR,Oc]
  have Oa:∀ (b:Bool) (w:World) X cs y,gT w X (gK (bR nul.isSome b)) cs y->gT w X (.bytes nul) cs y:=by
   intro b w X cs y hh
   rcases K2 with rfl|rfl<;>cases b<;>exact hh
  cases IC:cx.hf with
  | true=>
   have hval:g7 g cx (.bytes nul) v []=[aR v (.slice none 0 0),gX cx (aC (g.rd (bR nul.isSome true)) cx.b v) (aC (g.rd (bR nul.isSome false)) cx.b v)]:=by simp[g7,IC]
   rw[hval]at hN h ⊢
   simp only[gL,gX,dM,aC,aR,ay]at hN
   refine ad (cV (x:=6) (m:=m) (k0:=k0) (n:=n) (.inr Lp) (by omega) fun a1 HX _=>?_)
   have Is:RC g cx fx ver S R B O r a1 w:=HY.step hc HX HY.rd (ac.refl (fun _=>False) w) (fun _ _ h=>h.elim)
   have If:=HX.size
   refine ad (x2 K (KS.2 IC) KS.1 IC Is hc Lp (by simpa[aR,ay]using hk) (by simp[aR,ay];omega) (by omega) fun a2 w2 val h1 h2 h3=>h a2 w2 ?_)
   simp only[aR,ay]at h1
   have e:(if fx=true then bR nul.isSome true else bR nul.isSome false)=bR nul.isSome fx:=by cases fx<;>rfl
   rw[e]at h3
   exact ct Mn (HX.trans h1) h2 h3 I6 (Oa fx w2)
  | false=>
   have J8:=HY.nf IC
   subst J8
   have hval:g7 g cx (.bytes nul) v []=[aC (g.rd (bR nul.isSome false)) cx.b v]:=by simp[g7,IC]
   rw[hval]at hN h ⊢
   simp only[gL,aC,ay]at hN
   exact ad (pI K KS.1 HY Lp hc.le hk (by omega) (by omega) fun a' w' val h1 h2 h3=>h a' w' (ct Mn h1 h2 h3 I6 (Oa false w')))
 | str nul=>
  have Mn:ko g (.str nul)=none:=rfl
  cases nul with
  | none=>
   obtain rfl:x=[]:=by
    rcases hx with⟨t,rfl,q,hq⟩|⟨rfl,_⟩|⟨t,u,rfl,p',I3,_⟩
    ·cases hq
    ·rfl
    ·cases I3
   have I6:dR fx ver (.str none) r=(cC false fx).run r:=rfl
   simp only[mr,Bool.and_eq_true,Bool.or_eq_true,Bool.not_eq_true']at Kw
   have Oa:∀ (b:Bool) (w:World) X cs y,gT w X (gK (cC false b)) cs y->gT w X (.str none) cs y:=by
    intro b w X cs y hh
    cases b<;>exact hh
   cases IC:cx.hf with
   | true=>
    have hval:g7 g cx (.str none) v []=[aR v (.string ⟨#[]⟩),je (gX cx (aC (g.un .cstr) cx.b v) (aC (g.un .str) cx.b v)) (gX cx (aC (g.rd .cstr) cx.b v) (aC (g.rd .str) cx.b v))]:=by simp[g7,IC]
    rw[hval]at hN h ⊢
    simp only[gL,je,gX,dM,aC,aR,ay]at hN
    have KS:av .cstr=true:=by rcases Kw.2 with h|h;rw[IC]at h;cases h;exact h
    refine ad (cV (x:=6) (m:=m) (k0:=k0) (n:=n) (.inr Lp) (by omega) fun a1 HX _=>?_)
    have Is:RC g cx fx ver S R B O r a1 w:=HY.step hc HX HY.rd (ac.refl (fun _=>False) w) (fun _ _ h=>h.elim)
    have If:=HX.size
    refine ad (qJ (x:=6) (m:=m) (k0:=k0) Is.su hc.le (by simpa[aR,ay]using hk) (by simp[aR,ay];omega) fun a2 HZ=>?_)
    have Iw:=HZ.size
    have IM:RC g cx fx ver S R B O r a2 w:=Is.step hc HZ Is.rd (ac.refl (fun _=>False) w) (fun _ _ h=>h.elim)
    refine x2 K KS Kw.1 IC IM hc Lp (by simp[aR,gX,dM,aC,ay];omega) (by simp[aR,gX,dM,aC,ay];omega) (by omega) fun a3 w3 val h1 h2 h3=>h a3 w3 ?_
    simp only[aR,gX,dM,aC,ay]at h1 HZ
    have e:(if fx=true then PF.cstr else PF.str)=cC false fx:=by cases fx<;>rfl
    rw[e]at h3
    exact ct Mn ((HX.trans (HZ.mono (Nat.le_refl _) (by omega))).trans (h1.mono (Nat.le_refl _) (by omega))) h2 h3 I6 (Oa fx w3)
   | false=>
    have J8:=HY.nf IC
    subst J8
    have hval:g7 g cx (.str none) v []=[aR v (.string ⟨#[]⟩),je (aC (g.un .str) cx.b v) (aC (g.rd .str) cx.b v)]:=by simp[g7,IC]
    rw[hval]at hN h ⊢
    simp only[gL,je,dM,aC,aR,ay]at hN
    refine ad (cV (x:=6) (m:=m) (k0:=k0) (n:=n) (.inr Lp) (by omega) fun a1 HX _=>?_)
    have Is:RC g cx false ver S R B O r a1 w:=HY.step hc HX HY.rd (ac.refl (fun _=>False) w) (fun _ _ h=>h.elim)
    have If:=HX.size
    refine ad (qJ (x:=6) (m:=m) (k0:=k0) Is.su hc.le (by simpa[aR,ay]using hk) (by simp[aR,ay];omega) fun a2 HZ=>?_)
    have Iw:=HZ.size
    have IM:RC g cx false ver S R B O r a2 w:=Is.step hc HZ Is.rd (ac.refl (fun _=>False) w) (fun _ _ h=>h.elim)
    refine pI K Kw.1 IM Lp hc.le (by simp[aR,aC,ay];omega) (by simp[aR,aC,ay];omega) (by omega) fun a3 w3 val h1 h2 h3=>h a3 w3 ?_
    simp only[aR,aC,ay]at h1 HZ
    exact ct Mn ((HX.trans (HZ.mono (Nat.le_refl _) (by omega))).trans (h1.mono (Nat.le_refl _) (by omega))) h2 h3 I6 (Oa false w3)
  | some q=>
   cases q with
   | zero=>
    obtain rfl:x=[]:=by
     rcases hx with⟨t,rfl,q,hq⟩|⟨rfl,_⟩|⟨t,u,rfl,p',I3,_⟩
     ·cases hq
     ·rfl
     ·cases I3
    have I6:dR fx ver (.str (some 0)) r=(cC true fx).run r:=by simp[dR,ce]
    simp only[mr,Bool.and_eq_true,Bool.or_eq_true,Bool.not_eq_true']at Kw
    have hval:g7 g cx (.str (some 0)) v []=[aR v (.pointer none),if cx.hf then gX cx (je (aC (g.un .cnstr) cx.b v) (aC (g.rd .cnstr) cx.b v)) (je (aC (g.un .nstr) cx.b v) (aC (g.rd .nstr) cx.b v))else je (aC (g.un .nstr) cx.b v) (aC (g.rd .nstr) cx.b v)]:=rfl
    rw[hval]at hN h ⊢
    refine ad (cV (x:=6) (m:=m) (k0:=k0) (n:=n) (.inr Lp) (by omega) fun a1 HX _=>?_)
    have Is:RC g cx fx ver S R B O r a1 w:=HY.step hc HX HY.rd (ac.refl (fun _=>False) w) (fun _ _ h=>h.elim)
    have If:=HX.size
    refine ad (x7 K Kw.1 (fun IC=>by rcases Kw.2 with h|h;rw[IC]at h;cases h;exact h) Is hc Lp (by simpa[aR,ay]using hk) (by rw[If];exact hN) (by omega) fun a2 w2 val h1 h2 h3=>h a2 w2 ?_)
    simp only[aR,ay]at h1
    have h3':EE g S R (cC true fx) (gK (cC true fx)) r w val w2:=by cases fx<;>exact h3
    exact ct Mn (HX.trans (h1.mono (Nat.le_refl _) (by omega))) h2 h3' I6 (fun X cs y hh=>by cases fx<;>exact hh)
   | succ q=>
    obtain⟨t,rfl⟩:∃ t,x=[t]:=by
     rcases hx with⟨t,rfl,_⟩|⟨rfl,hh⟩|⟨t,u,rfl,p',I3,_⟩
     ·exact⟨t,rfl⟩
     ·exact absurd rfl (hh q)
     ·cases I3
    obtain⟨ht,WW⟩:=UB t (by simp)
    simp only[mr,Bool.and_eq_true,Bool.or_eq_true,Bool.not_eq_true']at Kw
    obtain⟨⟨hs,UZ⟩,Iz⟩:=Kw
    have JG:cx.hf=true->av .cstr=true:=fun hh=>by rcases Iz with e|e;rw[hh]at e;cases e;exact e.1
    have Jq:cx.hf=true->av .cnstr=true:=fun hh=>by rcases Iz with e|e;rw[hh]at e;cases e;exact e.2
    have h6m:=hc.six
    have Iq:=hc.le
    have hval:g7 g cx (.str (some (q+1))) v [t]=[aR v (.pointer none),dM 1 2 (fun n=>[mk (some n) (.move (tm cx.ver)),mk (some (n+1)) (.binOp .lss g.tVer (tm n) (ki .i16 ((q:Int)+1)) 0)])
      (gS [ay 0 fun _=>[mk (some t) (.alloc g.tStr)],fp g cx t,ay 0 fun _=>[mk (some v) (.assign (tm t))]]) (EC g cx v)]:=rfl
    rw[hval]at hN h ⊢
    have hN2:(EC g cx v (fp g cx t (n+2)).2).2<=a.tmps.size:=hN
    have L0:n+2<=(fp g cx t (n+2)).2:=uX g cx t (n+2)
    have P8:(fp g cx t (n+2)).2<=(EC g cx v (fp g cx t (n+2)).2).2:=EJ g cx v _
    refine ad (cV (x:=6) (m:=m) (k0:=k0) (n:=n) (.inr Lp) (by omega) fun a1 HX _=>?_)
    have If:=HX.size
    have Is:RC g cx fx ver S R B O r a1 w:=HY.step hc HX HY.rd (ac.refl (fun _=>False) w) (fun _ _ h=>h.elim)
    refine ad ?_
    show aK P (dM 1 2 _ _ _ n).1 _ a1 w
    by_cases Id:ver<(q:Int)+1
    ·have e:dR fx ver (.str (some (q+1))) r=(cC false fx).run r:=by
      have:ce (some (q+1)) ver=false:=by simp[ce];omega
      simp only[dR,this]
     refine cL (ah ?_)
     rw[aa,Is.sv]
     refine bk (b:=true) (q:=(q:Int)+1) (p:=ver) (k:=.i16) (by rw[aa,ao (by omega)]) rfl (.inr (.inr (.inl ⟨rfl,by simp;omega⟩))) (wpList_nil ⟨by rw[aa,ao (by simp only[ab];omega)],aY (ad (aq (cZ (K.vStr.2 w) (wpList_nil ?_))))⟩)
     have HZ:Pv 6 m k0 n a (((a1.put (some n) (.int .i16 ver)).put (some (n+1)) (.bool true)).put (some t) (.pointer (some ⟨w.heap.size,0,none⟩))):=((HX.put _ (by omega)).put _ (by omega)).put _ (by omega)
     have Nn:(((a1.put (some n) (.int .i16 ver)).put (some (n+1)) (.bool true)).put (some t) (.pointer (some ⟨w.heap.size,0,none⟩))).get t=pt w.heap.size 0:=ao (by simp only[ab];omega)
     show LW P _ (n+2) _ (((a1.put (some n) (.int .i16 ver)).put (some (n+1)) (.bool true)).put (some t) (.pointer (some ⟨w.heap.size,0,none⟩))) _
     generalize(((a1.put (some n) (.int .i16 ver)).put (some (n+1)) (.bool true)).put (some t) (.pointer (some ⟨w.heap.size,0,none⟩)))=a2 at HZ Nn
     have Iw:=HZ.size
     have KN:ac (fun _=>False) w (w.alloc (.cells (Value.string ⟨#[]⟩).cells g.tStr (0,0))):=ac.alloc _ _ _
     have Kk:(w.alloc (.cells (Value.string ⟨#[]⟩).cells g.tStr (0,0))).heap[w.heap.size]?=some (.cells #[.string ⟨#[]⟩] g.tStr (0,0)):=heap_alloc_new w _
     have hRlt:=HY.rd.lt
     have Q6:=HY.Slt
     have IM:RC g cx fx ver S R B O r a2 (w.alloc (.cells (Value.string ⟨#[]⟩).cells g.tStr (0,0))):=HY.step hc HZ (HY.rd.keep KN (fun h=>h) (fun h=>h)) KN (fun _ _ h=>h.elim)
     refine ad (xA K hs JG IM (dO.high hc) Nn ht.2 (by omega) Kk rfl (by omega) (by omega) (by omega) (by omega) fun a3 w3 Ie MR IT Il=>?_)
     have IJ:=Ie.size
     have I2:a3.get t=pt w.heap.size 0:=(Ie.get t (by omega) (.inl ht.2)).trans Nn
     refine ad (aq (ak (wpList_nil (bf ?_))))
     rw[aa,I2]
     refine h _ _ ?_
     rw[e]
     obtain⟨l,Lb,OB,MR⟩:=MR
     refine⟨[.pointer (some ⟨w.heap.size,0,none⟩)],(HZ.trans (Ie.mono Iq (by omega))).put _ (by omega),?_,IT,?_,fun X hX hS=>?_⟩
     ·rw[Mn]
      exact⟨_,ao (by omega),rfl⟩
     ·exact((KN.mono fun _ _ h=>h.elim).trans Il).mono fun k hk h=>h.elim id (fun e=>absurd hk (by omega))
     ·exact .inr ⟨l,_,0,rfl,fun hx=>Nat.lt_irrefl _ (hX _ hx),MR,Lb,OB⟩
    ·have e:dR fx ver (.str (some (q+1))) r=(cC true fx).run r:=by
      have:ce (some (q+1)) ver=true:=by simp[ce];omega
      simp only[dR,this]
     refine cD (ah ?_)
     rw[aa,Is.sv]
     refine bk (b:=false) (q:=(q:Int)+1) (p:=ver) (k:=.i16) (by rw[aa,ao (by omega)]) rfl (.inr (.inr (.inl ⟨rfl,by simp;omega⟩))) (wpList_nil ⟨by rw[aa,ao (by simp only[ab];omega)],?_⟩)
     have HZ:Pv 6 m k0 n a ((a1.put (some n) (.int .i16 ver)).put (some (n+1)) (.bool false)):=(HX.put _ (by omega)).put _ (by omega)
     show aK P (EC g cx v (fp g cx t (n+2)).2).1 _ ((a1.put (some n) (.int .i16 ver)).put (some (n+1)) (.bool false)) w
     generalize((a1.put (some n) (.int .i16 ver)).put (some (n+1)) (.bool false))=a2 at HZ
     have Iw:=HZ.size
     have IM:RC g cx fx ver S R B O r a2 w:=HY.step hc HZ HY.rd (ac.refl (fun _=>False) w) (fun _ _ h=>h.elim)
     refine x7 K UZ Jq IM hc Lp (by omega) (by rw[Iw];exact hN2) (by omega) fun a3 w3 val h1 h2 h3=>h a3 w3 ?_
     have h3':EE g S R (cC true fx) (gK (cC true fx)) r w val w3:=by cases fx<;>exact h3
     exact ct Mn (HZ.trans (h1.mono (Nat.le_refl _) (by omega))) h2 h3' e (fun X cs y hh=>by cases fx<;>exact hh)
end
def Rt (N E:Act->World->Prop):Exit->Act->World->Prop
 | .normal,a,w=>N a w
 | .ret,a,w=>E a w
 | _,_,_=>False
theorem aO {N K E:Act->World->Prop}:Exit.then K (Rt N E)=Rt K E:=by
 funext e a w
 cases e<;>rfl
section
variable {P:Program} {g:G} {m k0 n:Nat} {K N E:Act->World->Prop} {a:Act} {w:World}
theorem lk {K K' E E':Act->World->Prop}{c:Code}(h:aK P c (Rt K E) a w)(hk:∀ a w,K a w->K' a w)(he:∀ a w,E a w->E' a w):aK P c (Rt K' E') a w:=
 .mono h fun e a w hq=>by cases e<;>first|exact hk _ _ hq|exact he _ _ hq|exact hq
theorem AO {i l b1 b2:Nat}{body:GC}{L:Int}(hi:m<=i/\i<k0)(NB:l<i)(h6:6<i)(TC:l≠6)(_hm:m<=k0)(hk:k0<=n)(hn:n+5<=a.tmps.size)(hl:a.get l=.int .i32 L)(hL:L<2147483648)(W:Nat->World->Prop)(h0:W 0 w)
  (ID:∀ (j:Nat) (a1:Act) (w1:World),j<L.toNat->Pv 6 i k0 n a a1->a1.get i=.int .i32 j->W j w1->aK P (body (n+5)).1 (Rt (fun a2 w2=>Pv 6 (i+1) k0 (n+5) a1 a2/\W (j+1) w2) E) a1 w1)
  (NN:∀ a1 w1,Pv 6 i k0 n a a1->W L.toNat w1->K a1 w1):aK P (td g i l b1 b2 body n).1 (Rt K E) a w:=by
 have his:i<a.tmps.size:=by omega
 refine .seq (R:=Rt (fun a' w'=>Pv 6 i k0 n a a'/\a'.get i=.int .i32 ((0:Nat):Int)/\w'=w) E) (.reg (ak (wpList_nil ?_))) (fun a' w' hh=>?_) (fun e a w he hq=>by cases e<;>first|exact absurd rfl he|exact hq)
 ·exact⟨(Pv.refl _ _ _ _ _).put _ (by omega),db _ _ _ his,rfl⟩
 ·obtain⟨hp,Qh,rfl⟩:=hh
  refine .block (.loop (fun a1 w1=>∃ j:Nat,j<=L.toNat/\Pv 6 i k0 n a a1/\a1.get i=.int .i32 (j:Int)/\W j w1) (fun a1 _=>(L-(match a1.get i with|.int _ q=>q|_=>0)).toNat) ⟨0,by omega,hp,Qh,h0⟩ ?_)
  rintro a1 w1 ⟨j,hj,HX,Ig,hW⟩
  have If:=HX.size
  have Lb:a1.get l=.int .i32 L:=by rw[HX.get l TC (.inl NB)];exact hl
  have Ip:∀ (b:Bool),b=decide ((j:Int)<L)->wpList P [mk (some n) (.move (tm i)),mk (some (n+1)) (.move (tm l)),mk (some (n+2)) (.binOp .lss g.tI32 (tm n) (tm (n+1)) 0)].toArray
    (Rt (fun a' w'=>a'.eval (tm (n+2))=.bool b/\Pv 6 (i+1) k0 n a1 a'/\w'=w1) E) [mk (some n) (.move (tm i)),mk (some (n+1)) (.move (tm l)),mk (some (n+2)) (.binOp .lss g.tI32 (tm n) (tm (n+1)) 0)] a1 w1:=by
   intro b hb
   refine ah ?_
   rw[aa,Ig]
   refine ah ?_
   rw[aa,al (by omega),Lb]
   refine bk (b:=b) (p:=j) (q:=L) (k:=.i32) (by rw[aa,al (by omega),ao (by omega)]) (by rw[aa,ao (by rw[ab];omega)]) (.inr (.inr (.inl ⟨rfl,hb⟩))) (wpList_nil ?_)
   exact⟨by rw[aa,ao (by simp only[ab];omega)],(((Pv.refl _ _ _ _ _).put _ (by omega)).put _ (by omega)).put _ (by omega),rfl⟩
  by_cases Id:(j:Int)<L
  ·refine .seq (R:=Rt (fun a2 w2=>Pv 6 (i+1) k0 n a1 a2/\w2=w1) E) ?_ (fun a2 w2 hh=>?_) (fun e a w he hq=>by cases e<;>first|exact absurd rfl he|exact hq|exact hq.elim)
   ·refine .seq (.reg (Ip true (by simp[Id]))) (fun a2 w2 hh=>.condT hh.1 (.skip hh.2)) (fun e a w he hq=>by cases e<;>first|exact absurd rfl he|exact hq)
   ·obtain⟨HZ,rfl⟩:=hh
    have IB:Pv 6 i k0 n a a2:=HX.trans (HZ.mono (by omega) (Nat.le_refl _))
    have Ij:a2.get i=.int .i32 (j:Int):=by rw[HZ.get i (by omega) (.inl (by omega))];exact Ig
    have hb:=ID j a2 w2 (by omega) IB Ij hW
    have Iw:=HZ.size
    refine .seq (R:=Rt (fun a3 w3=>Pv 6 (i+1) k0 (n+5) a2 a3/\W (j+1) w3) E) (.block (.mono hb fun e a w hq=>by cases e<;>first|exact hq|exact hq.elim)) (fun a3 w3 hh=>?_) (fun e a w he hq=>by cases e<;>first|exact absurd rfl he|exact hq|exact hq.elim)
    obtain⟨Ie,M2⟩:=hh
    have IJ:=Ie.size
    have I2:a3.get i=.int .i32 (j:Int):=by rw[Ie.get i (by omega) (.inl (by omega))];exact Ij
    refine .reg (ah ?_)
    rw[aa,I2]
    have IR:IntKind.i32.wrap ((j:Int)+1)=((j+1:Nat):Int):=by simp[IntKind.wrap,IntKind.bits,IntKind.signed];omega
    refine co (v:=.int .i32 ((j+1:Nat):Int)) (k:=.i32) (m:=j) (n:=1) (by rw[aa,ao (by omega)]) rfl (by simp) (by simp[binOp,Op.intArith,IR]) ?_
    refine ak (wpList_nil ?_)
    rw[aa,ao (by simp only[ab];omega)]
    have Ko:(((a3.put (some (n+3)) (.int .i32 (j:Int))).put (some (n+4)) (.int .i32 ((j+1:Nat):Int))).put (some i) (.int .i32 ((j+1:Nat):Int))).get i=.int .i32 ((j+1:Nat):Int):=ao (by simp only[ab];omega)
    refine⟨⟨j+1,by omega,?_,Ko,M2⟩,?_⟩
    ·exact((IB.trans (Ie.mono (by omega) (by omega))).put _ (by omega)).put _ (by omega) |>.put _ (by omega)
    ·rw[Ko,Ig]
     simp only
     omega
  ·have Sf:j=L.toNat:=by omega
   refine .seq (R:=fun e a w=>e≠.normal/\Exit.inBlock b1 (Rt K E) e a w) ?_ (fun a2 w2 hh=>absurd rfl hh.1) (fun e a w he hq=>?_)
   ·refine .seq (R:=Rt (fun a' w'=>a'.eval (tm (n+2))=.bool false/\Pv 6 (i+1) k0 n a1 a'/\w'=w1) E) (.reg (Ip false (by simp[Id]))) (fun a2 w2 hh=>.condF hh.1 (.exit ?_)) (fun e a w he hq=>by cases e<;>first|exact absurd rfl he|exact⟨by simp,hq⟩|exact hq.elim)
    simp only[Exit.inBlock,if_true]
    refine⟨by simp,?_⟩
    obtain⟨_,HZ,rfl⟩:=hh
    exact NN a2 w2 (HX.trans (HZ.mono (by omega) (Nat.le_refl _))) (Sf ▸ hW)
   ·rw[cq he];exact hq.2
variable {av:PF->Bool} {fl:Bool} {cx:Cx} {fx:Bool} {ver:Int} {S R B O:Nat} {r:RS}
theorem EP (K0:KB P g av fl)(HY:RC g cx fx ver S R B O r a w)(hb:r.bad=true)(h6:6<a.tmps.size)(hm:m<=k0)(hk:k0<=n)(hn:n<a.tmps.size)
  (h:∀ a' w',Pv 6 m k0 n a a'->(∃ t y,a'.get 6=.iface t y)->ac (fun _=>False) w w'->E a' w'):aK P (CP g cx.b n).1 (Rt N E) a w:=by
 refine aY (ad (aq (aN (vs:=#[pt R 0]) K0.cmE (by simp[aa,HY.sb]) (K0.cmC w S R r HY.rd HY.err) fun e w' hR=>?_)))
 obtain⟨J1,v,he,_,hv⟩:=hR
 obtain⟨t,y,rfl⟩:=hv hb
 refine⟨_,he,ak (wpList_nil ?_)⟩
 rw[aa,db _ _ _ hn]
 exact ad (.ret (h _ w' (((Pv.refl _ _ _ _ _).put _ (by omega)).put _ (by omega)) ⟨t,y,ao (by rw[ab];exact h6)⟩ J1))
theorem Ab (K0:KB P g av fl)(Qf:b7 g.ok=true)(HY:RC g cx fx ver S R B O r a w)(hc:dO cx m k0)(hk:k0<=n)(hn:n+3<=a.tmps.size)
  (IA:r.bad=true->∀ a' w',Pv 6 m k0 n a a'->(∃ t y,a'.get 6=.iface t y)->ac (fun _=>False) w w'->E a' w')
  (Io:r.bad=false->∀ a' w',Pv 6 m k0 n a a'->ac (fun _=>False) w w'->K a' w'):aK P (nX g cx n).1 (Rt K E) a w:=by
 have MP:∀ (b:Bool),b=r.bad->wpList P [cl (some n) g.ok [tm cx.b],mk (some (n+1)) (.unOp .not g.tBool (tm n))].toArray
   (Rt (fun a' w'=>a'.eval (tm (n+1))=.bool b/\Pv 6 m k0 n a a'/\ac (fun _=>False) w w') E) [cl (some n) g.ok [tm cx.b],mk (some (n+1)) (.unOp .not g.tBool (tm n))] a w:=by
  intro b hb
  refine aN (vs:=#[pt R 0]) (K0.okE Qf) (by simp[aa,HY.sb]) (K0.okC Qf w S R r HY.rd) fun e w' hR=>⟨_,hR.1,?_⟩
  refine mY (b:=!r.bad) (by rw[aa,ao (by omega)]) (wpList_nil ⟨?_,((Pv.refl _ _ _ _ _).put _ (by have:=hc.le;omega)).put _ (by have:=hc.le;omega),hR.2⟩)
  rw[aa,ao (by rw[ab];omega),hb]
  simp
 have h6:=hc.six
 have Iq:=hc.le
 cases hb:r.bad with
 | true=>
  refine .seq (.reg (MP true hb.symm)) (fun a' w' hh=>.condT hh.1 ?_) (fun e a w he hq=>by cases e<;>first|exact absurd rfl he|exact hq)
  obtain⟨_,hp,J0⟩:=hh
  have hs:=hp.size
  have hrc':=HY.step hc hp (HY.rd.keep J0 id id) J0 (fun _ _ h=>h.elim)
  exact EP (m:=m) (k0:=k0) K0 hrc' hb (by omega) hc.le (by omega) (by omega) fun a2 w2 h1 h2 h3=>IA hb a2 w2 (hp.trans (h1.mono (Nat.le_refl _) (by omega))) h2 (J0.trans h3)
 | false=>
  refine .seq (.reg (MP false hb.symm)) (fun a' w' hh=>.condF hh.1 (.skip ?_)) (fun e a w he hq=>by cases e<;>first|exact absurd rfl he|exact hq)
  exact Io hb a' w' hh.2.1 hh.2.2
theorem EO {Q:Exit->Act->World->Prop}{x y F E' sz c:Nat}{base:Option Addr}(hy:a.get y=.slice base 0 c)(hF:P.underlying F=some (.slice E'))(hs:∀ w,(sizeOf E').run P w=.ok sz w)(Ts:y=x \/ (m<=y/\y<k0))(hm:m<=k0)(hk:k0<=n)(hn:n+2<=a.tmps.size)(hys:y<a.tmps.size)
  (h:∀ a',Pv x m k0 n a a'->a'.get y=.slice base 0 c->K a' w):aK P (yM y F n).1 (Exit.then K Q) a w:=by
 refine aq (ah ?_)
 rw[aa,hy]
 refine uJ (by rw[aa,ao (by omega)]) hF (hs w) (ak (wpList_nil ?_))
 rw[aa,ao (by rw[ab];omega)]
 exact h _ ((((Pv.refl _ _ _ _ _).put _ (by omega)).put _ (by omega)).put _ (by omega)) (ao (by simp only[ab];omega))
structure m7 (P:Program)(F E' sz:Nat)(z:Array Value):Prop where
 und:P.underlying F=some (.slice E')
 info:∃ i z',P.info? E'=some i/\i.zero=some z'/\z'.cells=z/\i.size=sz/\z.size=sz/\0<sz/\0<i.bytes/\i.bytes<=24*sz+8
theorem m7.size {F E' sz:Nat}{z:Array Value}(h:m7 P F E' sz z)(w:World):(sizeOf E').run P w=.ok sz w:=by
 obtain⟨i,z',h1,_,_,h4,_⟩:=h.info
 simp[Go.sizeOf,typeInfo,h1,h4]
theorem BN {Q:Exit->Act->World->Prop}(K0:KB P g av fl){x y l F E' sz:Nat}{z:Array Value}{base:Option Addr}{L:Int}(hy:a.get y=.slice base 0 0)(hl:a.get l=.int .i32 L)(hF:m7 P F E' sz z)(hL:L<2147483648)(IZ:ll L sz=true)
  (Ts:y=x \/ (m<=y/\y<k0)) (hyn:y<n) (hm:m<=k0) (hln:l<n) (hk:k0<=n) (hn:n+5<=a.tmps.size)
  (Jt:L<=0->∀ a',Pv x m k0 n a a'->a'.get y=.slice base 0 0->K a' w)
  (IF:0<L->∀ (a':Act) (c:Nat) (cs:Array Value),Pv x m k0 n a a'->L.toNat<=c->c<=maxLen->cs.size=c*sz->(∀ q j,q<L.toNat->j<sz->cs[q*sz+j]?=z[j]?) ->
   a'.get y=.slice (some ⟨w.heap.size,0,none⟩) L.toNat c->K a' (w.drew.alloc (.cells cs E' (0,0)))):aK P (pf g y l F n).1 (Exit.then K Q) a w:=by
 obtain⟨i,z',h1,h2,h3,h4,h5,h6,h7,h8⟩:=hF.info
 have Ip:∀ (b:Bool) (K':Act->World->Prop),b=decide ((0:Int)<L)->(∀ a',a'.eval (tm (n+1))=.bool b->Pv x m k0 n a a'->a'.get y=.slice base 0 0->a'.get l=.int .i32 L->K' a' w) ->
   wpList P [mk (some n) (.move (tm l)),mk (some (n+1)) (.binOp .gtr g.tI32 (tm n) (ki .i32 0) 0)].toArray
   (Exit.then K' (Exit.then K Q)) [mk (some n) (.move (tm l)),mk (some (n+1)) (.binOp .gtr g.tI32 (tm n) (ki .i32 0) 0)] a w:=by
  intro b K' hb J1
  refine ah ?_
  rw[aa,hl]
  refine bk (b:=b) (p:=L) (q:=0) (k:=.i32) (by rw[aa,ao (by omega)]) rfl (.inr (.inr (.inr (.inl ⟨rfl,hb⟩)))) (wpList_nil (J1 _ ?_ (((Pv.refl _ _ _ _ _).put _ (by omega)).put _ (by omega)) ?_ ?_))
  ·rw[aa,ao (by simp only[ab];omega)]
  ·rw[al (by omega),al (by omega)];exact hy
  ·rw[al (by omega),al (by omega)];exact hl
 by_cases Jd:0<L
 ·refine cL (Ip true _ (by simp[Jd]) fun a1 he hp hy' Ml=>⟨he,?_⟩)
  have hs:=hp.size
  refine aq (ah ?_)
  rw[aa,hy']
  refine ah ?_
  rw[aa,al (by omega),Ml]
  have XE:((L.toNat:Nat):Int)=L:=by omega
  refine rP (base:=base) (l:=L.toNat) (F:=F) (E:=E') (I:=g.tI32) (bytes:=i.bytes) ?_ ?_ (by omega) hF.und K0.tI32 h1 h2 (by rw[h3,h5,h4]) (by omega) h7 rfl ?_ (by omega) fun c cs JG Jq MZ Pq=>?_
  ·rw[aa,al (by omega),ao (by omega)]
  ·rw[aa,ao (by rw[ab];omega),XE]
  ·simp only[ll,decide_eq_true_eq]at IZ
   have e:L.toNat*i.bytes<=L.toNat*(24*sz+8):=Nat.mul_le_mul_left _ h8
   have e2:((L.toNat*(24*sz+8):Nat):Int)=L*(24*(sz:Int)+8):=by
    rw[Int.natCast_mul,XE];rfl
   omega
  ·refine ak (wpList_nil ?_)
   rw[aa,ao (by simp only[ab];omega)]
   rw[h4]at MZ Pq
   rw[h3]at Pq
   refine IF Jd _ c cs ((((hp.trans (Pv.refl _ _ _ _ _)).put _ (by omega)).put _ (by omega)).put _ (by omega) |>.put _ (by omega)) JG Jq MZ Pq (ao (by simp only[ab];omega))
 ·refine cD (Ip false _ (by simp;omega) fun a1 he hp hy' _=>⟨he,.skip (Jt (by omega) a1 hp hy')⟩)
end
section inv
variable {P:Program}
theorem rb {c:Code}{Q:Exit->Act->World->Prop}{a:Act}{w:World}(h:aK P c Q a w):∀ x y,c=.seq x y->∃ R:Exit->Act->World->Prop,aK P x R a w/\(∀ a w,R .normal a w->aK P y Q a w)/\∀ e a w,e≠.normal->R e a w->Q e a w:=by
 induction h with
 | seq hx hy he=>intro x y hc;cases hc;exact⟨_,hx,hy,he⟩
 | mono _ hq ih=>
  intro x y hc
  obtain⟨R,h1,h2,h3⟩:=ih x y hc
  exact⟨R,h1,fun a w hr=>.mono (h2 a w hr) hq,fun e a w he hr=>hq e a w (h3 e a w he hr)⟩
 | _=>intro x y hc;cases hc
theorem o9 {cs ds:List Code}{Q:Exit->Act->World->Prop}:∀ {a:Act} {w:World},aK P (sq cs) (Exit.then (aK P (sq ds) Q) Q) a w->aK P (sq (cs++ds)) Q a w:=by
 induction cs with
 | nil=>intro a w h;exact lq h rfl
 | cons c cs ih=>
  intro a w h
  cases cs with
  | nil=>exact az h
  | cons d r=>
   obtain⟨R,h1,h2,h3⟩:=rb h _ _ rfl
   refine .seq h1 (fun a w hr=>ih (h2 a w hr)) (fun e a w he hr=>?_)
   have:=h3 e a w he hr
   rwa [cq he]at this
theorem aX (l r:List GC):∀ n,gL (l++r) n=((gL l n).1++(gL r (gL l n).2).1,(gL r (gL l n).2).2):=by
 induction l with
 | nil=>intro n;rfl
 | cons x l ih=>intro n;simp[gL,ih]
theorem ep {l r:List GC}{n:Nat}{Q:Exit->Act->World->Prop}{a:Act}{w:World}(h:LW P l n (Exit.then (LW P r (gL l n).2 Q) Q) a w):LW P (l++r) n Q a w:=by
 unfold LW at h ⊢
 rw[aX]
 exact o9 h
end inv
section
variable {P:Program} {g:G} {av:PF->Bool} {fl:Bool} {cx:Cx} {fx:Bool} {ver:Int} {S R B O:Nat} {r:RS} {x m k0 n:Nat} {K N E:Act->World->Prop} {Q:Exit->Act->World->Prop} {a:Act} {w:World}
theorem Ak (fx:Bool)(r:RS):(cA fx r).1<2147483648:=by
 have h4:(rI 4 r).1<2147483648:=by
  simp only[rI,kF]
  split
  ·rename_i h;simp at h;omega
  ·rename_i h
   have:(rU 4 r).1<4294967296:=by
    simp only[rU]
    split
    ·simp
    ·rename_i hl
     have hb:∀ (l:Bs) (a:Nat),l.foldl (fun a b=>a*256+b.toNat) a<(a+1)*256^l.length:=by
      intro l
      induction l with
      | nil=>intro a;simp
      | cons b l ih=>
       intro a
       simp only[List.foldl_cons,List.length_cons,Nat.pow_succ]
       refine Nat.lt_of_lt_of_le (ih _) ?_
       have:=UInt8.toNat_lt b
       have e:(a+1)*(256^l.length*256)=((a+1)*256)*256^l.length:=by rw[Nat.mul_comm (256^l.length),Nat.mul_assoc]
       rw[e]
       exact Nat.mul_le_mul_right _ (by omega)
     have:=hb (r.src.take 4) 0
     have Ib:(r.src.take 4).length<=4:=by simp;omega
     have hp:256^(r.src.take 4).length<=256^4:=Nat.pow_le_pow_right (by omega) Ib
     simp only[cv]
     omega
   have e:(2:Int)^(8*4)=4294967296:=by decide
   omega
 have key:∀ p:Int × RS,p.1<2147483648->(if(p.2.src.length:Int)<p.1 then((0:Int),RS.fail)else p).1<2147483648:=by
  intro p hp
  split
  ·simp
  ·exact hp
 cases fx
 ·simp only[cA,Bool.false_eq_true,if_false]
  exact key (rI 4 r) h4
 ·simp only[cA,if_true]
  refine key (cW (cW (b5 r).1-1),(b5 r).2) ?_
  simp only[cW];omega
theorem ES (K0:KB P g av fl)(Lm:qk g cx.hf=true)(Ih:cx.hf=true->fl=true)(HY:RC g cx fx ver S R B O r a w)(hc:dO cx m k0){l:Nat}(hl:m<=l/\l<k0)(hk:k0<=n)
  (hn:((if cx.hf then gX cx (aC g.clen cx.b l) (aC g.len cx.b l)else aC g.len cx.b l:GC) n).2<=a.tmps.size)
  (h:∀ a' w',Pv 6 m k0 n a a'->a'.get l=.int .i32 (cA fx r).1->cy w' g.tR S R (cA fx r).2->ac (·=R) w w'->K a' w') :
  aK P ((if cx.hf then gX cx (aC g.clen cx.b l) (aC g.len cx.b l)else aC g.len cx.b l:GC) n).1 (Exit.then K Q) a w:=by
 have Iq:=hc.le
 simp only[qk,Bool.and_eq_true,Bool.or_eq_true,Bool.not_eq_true']at Lm
 obtain⟨⟨OG,hhl2⟩,V2⟩:=Lm
 cases IC:cx.hf with
 | true=>
  have Sl:b7 g.clen=true:=V2.resolve_left (by rw[IC];simp)
  simp only[IC,if_true,gX,dM,aC,ay]at hn
  simp only[if_true]
  refine o5 (x:=6) (m:=m) (k0:=k0) (fx:=fx) (HY.sf IC) hc.le hk (by omega) fun a1 HX=>?_
  have If:=HX.size
  have Is:RC g cx fx ver S R B O r a1 w:=HY.step hc HX HY.rd (ac.refl (fun _=>False) w) (fun _ _ h=>h.elim)
  cases fx with
  | true=>
   simp only[if_true]
   refine kx (x:=6) (m:=m) (k0:=k0) (K0.clenE (Ih IC) Sl) Is.sb (K0.clenC (Ih IC) Sl w S R r Is.rd Is.SR) (.inr hl) hc.le (by omega) (by omega) (by omega) fun e w' hR=>?_
   obtain⟨he,h1,h2⟩:=hR
   exact⟨_,he,fun a' hp hg=>h a' w' (HX.trans (hp.mono (Nat.le_refl _) (by omega))) hg h1 h2⟩
  | false=>
   simp only[Bool.false_eq_true,if_false]
   refine kx (x:=6) (m:=m) (k0:=k0) (K0.lenE OG) Is.sb (K0.lenC OG w S R r Is.rd Is.SR) (.inr hl) hc.le (by simp[aC,ay];omega) (by simp[aC,ay];omega) (by omega) fun e w' hR=>?_
   obtain⟨he,h1,h2⟩:=hR
   exact⟨_,he,fun a' hp hg=>h a' w' (HX.trans (hp.mono (Nat.le_refl _) (by simp[aC,ay];omega))) hg h1 h2⟩
 | false=>
  have J8:=HY.nf IC
  subst J8
  simp only[IC,Bool.false_eq_true,if_false,aC,ay]at hn
  simp only[Bool.false_eq_true,if_false]
  refine kx (x:=6) (m:=m) (k0:=k0) (K0.lenE OG) HY.sb (K0.lenC OG w S R r HY.rd HY.SR) (.inr hl) hc.le hk (by omega) (by omega) fun e w' hR=>?_
  obtain⟨he,h1,h2⟩:=hR
  exact⟨_,he,fun a' hp hg=>h a' w' hp hg h1 h2⟩
theorem jt {ops:Array Oper}{r:List Oper}{d:Option Nat}{F E' sz:Nat}(hF:P.underlying F=some (.slice E'))(hs:∀ w,(sizeOf E').run P w=.ok sz w)
  (h:wpList P ops Q r (a.put d (.slice (some ⟨w.heap.size,0,none⟩) 0 0)) (w.alloc (.cells #[] E' (0,0)))):wpList P ops Q (mk d (.buildSlice F 0 #[])::r) a w:=by
 refine aB (w':=w.alloc (.cells #[] E' (0,0))) ?_ h
 have e0:(Array.range 0)=#[]:=rfl
 simp[execOp,mk,Instr.buildSlice,run_underlying hF,hs,Instr.fill,newRow,newObj,Sem.run,e0]
theorem Pv.low {x m k0 n:Nat}{a b:Act}(h:Pv x k0 k0 n a b)(hm:m<=k0):Pv x m k0 n a b:=h.mono hm (Nat.le_refl _)
theorem BM {nul:Option Nat}{y l F E' sz:Nat}{z:Array Value}{L:Int}{rest:List GC}(hv:a.get cx.ver=.int .i16 ver)(hy:a.get y=.slice none 0 0)(hl:a.get l=.int .i32 L)(hF:m7 P F E' sz z)(Ts:m<=y/\y<k0)(Lb:l<k0)(hly:l≠y)(TC:l≠x)(OU:y≠x)
  (_hvn:cx.ver<n) (hm:m<=k0) (hk:k0<=n) (hn:(gL (jn g cx nul y l F) n).2<=a.tmps.size)
  (h:∀ a' w' base,Pv x m k0 n a a'->ac (fun _=>False) w w'->a'.get y=.slice base 0 0->a'.get l=.int .i32 L->(base=none \/ ∃ p,base=some ⟨p,0,none⟩/\w.heap.size<=p/\p<w'.heap.size) ->
   base.isSome=(nul.isSome&&(decide (L=0) || !eJ nul ver))->LW P rest (gL (jn g cx nul y l F) n).2 Q a' w'):LW P (jn g cx nul y l F++rest) n Q a w:=by
 cases nul with
 | none=>exact h a w none (Pv.refl _ _ _ _ _) (ac.refl _ _) hy hl (.inl rfl) rfl
 | some q=>
  simp only[jn,gL,dM,ay,bp,aS]at hn
  have hb:∀ (b:Bool) (K':Act->World->Prop),b=(decide ((ver:Int)<(q:Int)) || decide (L=0))->(∀ a',Pv x k0 k0 n a a'->a'.eval (tm (n+5))=.bool b->K' a' w)->wpList P _ (Exit.then K' (Exit.then (LW P rest (gL (jn g cx (some q) y l F) n).2 Q) Q)) _ a w:=fun b K' hb J1=>
   rQ (x:=x) (m:=k0) (k0:=k0) (T1:=g.tVer) (T2:=g.tI32) (Nat.le_refl _) hk (by omega) (by omega) hv hl (b1:=decide ((ver:Int)<(q:Int))) (.inr (.inr (.inl ⟨rfl,rfl⟩))) (b2:=decide (L=0)) (.inr (.inr (.inr (.inr (.inl ⟨rfl,rfl⟩))))) false _ _ rfl rfl fun a' hp he=>J1 a' hp (by rw[hb];exact he)
  refine ad ?_
  by_cases hc:ver<q \/ L=0
  ·refine cL (hb true _ (by simp;omega) fun a1 hp he=>⟨he,?_⟩)
   have hs:=hp.size
   have hy':a1.get y=.slice none 0 0:=(hp.get y OU (.inl Ts.2)).trans hy
   have Ml:a1.get l=.int .i32 L:=(hp.get l TC (.inl Lb)).trans hl
   refine aq (jt hF.und hF.size (ak (wpList_nil ?_)))
   rw[aa,ao (by omega)]
   refine h _ _ (some ⟨w.heap.size,0,none⟩) (((hp.low hm).put _ (by omega)).put _ (by omega)) (ac.alloc _ _ _) (ao (by simp only[ab];omega)) ?_ (.inr ⟨_,rfl,Nat.le_refl _,by simp⟩) ?_
   ·rw[fH _ _ _ _ hly,al (by omega)];exact Ml
   ·simp[eJ];omega
  ·refine cD (hb false _ (by simp;omega) fun a1 hp he=>⟨he,.skip ?_⟩)
   refine h a1 w none (hp.low hm) (ac.refl _ _) ((hp.get y OU (.inl Ts.2)).trans hy) ((hp.get l TC (.inl Lb)).trans hl) (.inl rfl) ?_
   simp[eJ]
   omega
theorem s3 {y i v F F' E' sz p q cnt c j:Nat}{uu:Option Nat}{cs:List Value}{cur:Array Value}{te:TypeId}(hy:a.get y=.slice (some ⟨p,q,none⟩) cnt c)(hi:a.get i=.int .i32 j)(hj:j<cnt)(hF:P.underlying F=some (.slice E'))(hE:∀ w,(sizeOf E').run P w=.ok sz w)
  (Ki:∀ w,(sizeOf F').run P w=.ok sz w)
  (hval:match uu with
   | none=>∃ y,a.get v=y/\y.cells.toList=cs
   | some u=>bc P u true cs.length/\∃ b o,a.get v=.pointer (some ⟨b,o,none⟩)/\au w b o cs)
  (Ii:cs.length=sz) (h1:∀ u∈cs,u.oneCell'=true) (hB:w.heap[p]?=some (.cells cur te (0,0))) (hO:q+j*sz+sz<=cur.size)
  (hm:m<=k0) (hk:k0<=n) (hn:n+4<=a.tmps.size) (_hyn:y<n) (OF:i<n) (MI:v<n)
  (h:∀ a',Pv x m k0 n a a'->K a' (w.setRow p (aD cur (q+j*sz) cs))):aK P (jY uu y i v F F' n).1 (Exit.then K Q) a w:=by
 refine aq (ah ?_)
 rw[aa,hy]
 refine ah ?_
 rw[aa,al (by omega),hi]
 have Nh:Pv x m k0 n a ((a.put (some n) (.slice (some ⟨p,q,none⟩) cnt c)).put (some (n+1)) (.int .i32 j)):=((Pv.refl _ _ _ _ _).put _ (by omega)).put _ (by omega)
 have key:∀ u:Value,u.cells.toList=cs->wpList P (#[mk (some n) (.move (tm y)),mk (some (n+1)) (.move (tm i)),mk (some (n+2)) (match uu with|some u=>.load u (tm v)|none=>.move (tm v)),
   mk (some (n+3)) (.indexAddr F (tm n) (tm (n+1))),mk none (.store F' (tm (n+3)) (tm (n+2)))]) (Exit.then K Q) [mk (some (n+3)) (.indexAddr F (tm n) (tm (n+1))),mk none (.store F' (tm (n+3)) (tm (n+2)))]
   (((a.put (some n) (.slice (some ⟨p,q,none⟩) cnt c)).put (some (n+1)) (.int .i32 j)).put (some (n+2)) u) w:=by
  intro u hu
  refine bS (i:=j) (k:=.i32) (n:=cnt) (c:=c) (b:=p) (o:=q) (sz:=sz) ?_ ?_ hj hF (hE w) ?_
  ·rw[aa,al (by omega),al (by omega),ao (by omega)]
  ·rw[aa,al (by omega),ao (by simp only[ab];omega)]
  refine bm (cur:=cur) (t:=te) (by rw[aa,ao (by simp only[ab];omega)]) (by rw[aa,al (by omega),ao (by simp only[ab];omega)]) hu
   (by rw[Ii];exact Ki w) hB (by rw[Ii];exact hO) h1 ?_
  exact wpList_nil (h _ ((Nh.put _ (by omega)).put _ (by omega)))
 cases uu with
 | none=>
  obtain⟨u,hu,huc⟩:=hval
  refine ah ?_
  rw[aa,al (by omega),al (by omega),hu]
  exact key u huc
 | some u=>
  obtain⟨hu,b,o,hb,hc⟩:=hval
  refine eC (cs:=cs) (by rw[aa,al (by omega),al (by omega),hb]) (hu.agg w) (hu.size w) hc ?_
  exact key (.agg cs.toArray) (by simp[Value.cells])
theorem vk {y i v F E' sz p q cnt c j:Nat}(hy:a.get y=.slice (some ⟨p,q,none⟩) cnt c)(hi:a.get i=.int .i32 j)(hj:j<cnt)(hF:P.underlying F=some (.slice E'))(hE:∀ w,(sizeOf E').run P w=.ok sz w)
  (hv:v=x \/ (m<=v/\v<k0)) (hm:m<=k0) (hk:k0<=n) (hn:n+3<=a.tmps.size) (Ji:v<a.tmps.size) (_hyn:y<n) (OF:i<n)
  (h:∀ a',Pv x m k0 n a a'->a'.get v=pt p (q+j*sz)->K a' w):aK P (dI y i v F n).1 (Exit.then K Q) a w:=by
 refine aq (ah ?_)
 rw[aa,hy]
 refine ah ?_
 rw[aa,al (by omega),hi]
 refine bS (i:=j) (k:=.i32) (n:=cnt) (c:=c) (b:=p) (o:=q) (sz:=sz) ?_ ?_ hj hF (hE w) ?_
 ·rw[aa,al (by omega),ao (by omega)]
 ·rw[aa,ao (by simp only[ab];omega)]
 refine ak (wpList_nil ?_)
 rw[aa,ao (by simp only[ab];omega)]
 exact h _ (((((Pv.refl _ _ _ _ _).put _ (by omega)).put _ (by omega)).put _ (by omega)).put _ (by omega)) (ao (by simp only[ab];omega))
def applyWr (cur:Array Value)(O:Nat)(wr:List (Nat × Value)):Array Value:=wr.foldl (fun c p=>c.setIfInBounds (O+p.1) p.2) cur
def DfC (P:Program)(f:Nat)(wr:List (Nat × Value)):Prop:=
 ∀ (w:World) (B O:Nat) (cur:Array Value) (te:TypeId),w.heap[B]?=some (.cells cur te (0,0))->(∀ p∈wr,O+p.1<cur.size) ->
  Calls P f #[pt B O] w fun e w'=>e=.returned (.tuple #[])/\ac (·=B) w w'/\w'.heap[B]?=some (.cells (applyWr cur O wr) te (0,0))
theorem jT {f v:Nat}{wr:List (Nat × Value)}{cur:Array Value}{te:TypeId}(hE:Ent P f)(hD:DfC P f wr)(hv:a.get v=pt B O)(hB:w.heap[B]?=some (.cells cur te (0,0)))(hO:∀ p∈wr,O+p.1<cur.size)
  (hm:m<=k0) (hk:k0<=n) (hn:n+2<=a.tmps.size)
  (h:∀ a' w',Pv x m k0 n a a'->(∀ s,s<n->a'.get s=a.get s)->ac (·=B) w w'->w'.heap[B]?=some (.cells (applyWr cur O wr) te (0,0))->K a' w'):aK P (cO v f n).1 (Exit.then K Q) a w:=by
 refine aq (ah ?_)
 rw[aa,hv]
 refine aN (vs:=#[pt B O]) hE ?_ (hD w B O cur te hB hO) fun e w' hR=>⟨_,hR.1,wpList_nil ?_⟩
 ·simp[aa,ao (show n<a.tmps.size by omega)]
 ·exact h _ w' (((Pv.refl _ _ _ _ _).put _ (by omega)).put _ (by omega)) (fun s hs=>by rw[al (by omega),al (by omega)]) hR.2.1 hR.2.2
theorem j0 {s v T k F off sz:Nat}{agg:Bool}(hs:a.get s=pt B O)(hF:bw P T k F off agg sz)(hv:v=x \/ (m<=v/\v<k0))(hm:m<=k0)(hk:k0<=n)(hn:n+3<=a.tmps.size)(Ji:v<a.tmps.size)
  (h:∀ a',Pv x m k0 n a a'->a'.get v=pt B (O+off)->K a' w):aK P (eQ s v T k n).1 (Exit.then K Q) a w:=by
 refine aq (ah ?_)
 rw[aa,hs]
 refine aG (by rw[aa,ao (by omega)];rfl) ?_
 refine bN (by rw[aa,ao (by rw[ab];omega)]) hF ?_
 refine ak (wpList_nil ?_)
 rw[aa,ao (by simp only[ab];omega)]
 exact h _ (((((Pv.refl _ _ _ _ _).put _ (by omega)).put _ (by omega)).put _ (by omega)).put _ (by omega)) (ao (by simp only[ab];exact Ji))
theorem ER {s T k F E' off:Nat}{z:Value}{cur:Array Value}{te:TypeId}(hs:a.get s=pt B O)(hF:bw P T k F off false 1)(hz:∀ w,(zeroValue E').run P w=.ok z w)(hB:w.heap[B]?=some (.cells cur te (0,0)))(hO:O+off+1<=cur.size)
  (hm:m<=k0) (hk:k0<=n) (hn:n+4<=a.tmps.size)
  (h:∀ a',Pv x m k0 n a a'->(∀ s,s<n->a'.get s=a.get s)->K a' ((w.alloc (.cells z.cells E' (0,0))).setRow B (aD cur (O+off) [pt w.heap.size 0]))):aK P (Au s T k F E' n).1 (Exit.then K Q) a w:=by
 refine aq (ah ?_)
 rw[aa,hs]
 refine cZ (hz w) ?_
 refine aG (by rw[aa,al (by omega),ao (by omega)];rfl) ?_
 refine bN (by rw[aa,ao (by simp only[ab];omega)]) hF ?_
 have Id:B<w.heap.size:=(Array.getElem?_eq_some_iff.1 hB).1
 refine bm (cur:=cur) (t:=te) (v:=pt w.heap.size 0) (vs:=[pt w.heap.size 0]) (by rw[aa,ao (by simp only[ab];omega)]) ?_ rfl (hF.var.size _) ?_ (by simpa using hO) (by simp[pt,Value.oneCell']) (wpList_nil ?_)
 ·rw[aa,al (by omega),al (by omega),ao (by simp only[ab];omega)];rfl
 ·show(w.heap.push _)[B]?=_
  rw[Array.getElem?_push,if_neg (by omega)];exact hB
 ·exact h _ (((((Pv.refl _ _ _ _ _).put _ (by omega)).put _ (by omega)).put _ (by omega)).put _ (by omega)) (fun s hs=>by rw[al (by omega),al (by omega),al (by omega),al (by omega)])
end
def i6 (l:List GC):Prop:=∀ n,n<=(gL l n).2
theorem ar:i6 []:=fun n=>Nat.le_refl n
theorem ag {x:GC}{l:List GC}(hx:Up x)(hl:i6 l):i6 (x::l):=fun n=>Nat.le_trans (hx n) (hl _)
theorem ax {l r:List GC}(hl:i6 l)(hr:i6 r):i6 (l++r):=fun n=>by
 rw[aX]
 exact Nat.le_trans (hl n) (hr _)
theorem ei {l:List GC}(h:i6 l):Up (gS l):=h
theorem fg {c:Prop}[Decidable c]{x y:GC}(hx:Up x)(hy:Up y):Up (if c then x else y):=by split<;>assumption
theorem cQ {c:Prop}[Decidable c]{x y:List GC}(hx:i6 x)(hy:i6 y):i6 (if c then x else y):=by split<;>assumption
theorem B4 {g:G}{i l b1 b2:Nat}{body:GC}(h:Up body):Up (td g i l b1 b2 body):=fun n=>Nat.le_trans (Nat.le_add_right n 5) (h _)
theorem oJ {g:G}{cx:Cx}{i b1 b2:Nat}{body:GC}(h:Up body):Up (mO g cx i b1 b2 body):=fun n=>Nat.le_trans (Nat.le_add_right n 5) (h _)
theorem kU {g:G}{key:Nat}{dflt:Code}:∀ {l:List (Nat × GC)},(∀ p∈l,Up p.2)->∀ n,n<=(eR g key dflt l n).2
 | [],_,n=>Nat.le_refl n
 | (t,x)::r,h,n=>Nat.le_trans (Nat.le_trans (Nat.le_add_right n 2) (h (t,x) (List.mem_cons_self ..) (n+2))) (kU (l:=r) (fun p hp=>h p (List.mem_cons_of_mem _ hp)) _)
theorem lL {g:G}{cx:Cx}{key b3 T k:Nat}{l:List (Nat × GC)}(h:∀ p∈l,Up p.2):Up (jX g cx key b3 T k l):=fun n=>Nat.le_trans (Nat.le_add_right n 9) (kU h _)
theorem gm (g:G)(cx:Cx)(ty:Ty)(v:Nat)(x:List Nat):i6 (g7 g cx ty v x):=by
 have hc:∀ f b v,Up (aC f b v):=fun _ _ _=>am _ _
 have hm:∀ x y,Up (b6 x y):=fun _ _=>am _ _
 have hs:∀ v x,Up (aR v x):=fun _ _=>am _ _
 have hf:∀ A B,Up A->Up B->Up (gX cx A B):=fun _ _=>bX
 have hu:∀ A B,Up A->Up B->Up (je A B):=fun _ _=>bX
 unfold g7
 split
 ·exact ag (am _ _) ar
 ·split
  ·exact ag (hs _ _) (ag (ei (ag (hc _ _ _) (ag (hm _ _) ar))) (ag (hm _ _) ar))
  ·exact ag (hc _ _ _) ar
 ·simp only
  split
  ·exact ag (hs _ _) (ag (fg (hf _ _ (hu _ _ (hc _ _ _) (hc _ _ _)) (hu _ _ (hc _ _ _) (hc _ _ _))) (hu _ _ (hc _ _ _) (hc _ _ _))) ar)
  ·refine ag (hs _ _) (ag (bX (ei (ag (am _ _) (ag (fg (hf _ _ (hu _ _ (am _ _) (am _ _)) (hu _ _ (am _ _) (am _ _))) (hu _ _ (am _ _) (am _ _))) (ag (am _ _) ar))))
    (fg (hf _ _ (hu _ _ (hc _ _ _) (hc _ _ _)) (hu _ _ (hc _ _ _) (hc _ _ _))) (hu _ _ (hc _ _ _) (hc _ _ _)))) ar)
  ·exact ag (hs _ _) (ag (fg (hu _ _ (hf _ _ (hc _ _ _) (hc _ _ _)) (hf _ _ (hc _ _ _) (hc _ _ _))) (hu _ _ (hc _ _ _) (hc _ _ _))) ar)
 ·simp only
  split
  ·exact ag (hs _ _) (ag (hf _ _ (hc _ _ _) (hc _ _ _)) ar)
  ·exact ag (hc _ _ _) ar
 ·exact ar
theorem gC {g:G}{cx:Cx}{tagged:Bool}{T kt:Nat}{m:Nm}{items:List GC}{cases:List (Nat × GC)}(hi:i6 items)(hc:∀ p∈cases,Up p.2):i6 (fo g cx tagged T kt m items cases):=by
 unfold fo
 refine ax hi (cQ ar (cQ (ag (bX (oJ (ei (ag (am _ _) (ag (lL hc) ar)))) (bq _)) ar) (ag (bX (am _ _) (bq _)) ar)))
theorem qC (g:G)(cx:Cx)(nul:Option Nat)(a l F:Nat):i6 (jn g cx nul a l F):=by
 cases nul with
 | none=>exact ar
 | some m=>exact ag (bX (am _ _) (bq _)) ar
theorem B3 (g:G)(b:Nat):Up (CP g b):=ei (ag (am _ _) (ag (bq _) ar))
mutual
theorem nh (g:G):∀ (ty:Ty) (nm:Nm) (cx:Cx),i6 (lH g cx ty nm)
 | .prim p,nm,cx=>ax (gm _ _ _ _ _) (ag (am _ _) ar)
 | .str _,nm,cx=>ax (gm _ _ _ _ _) (ag (am _ _) ar)
 | .bytes _,nm,cx=>ax (gm _ _ _ _ _) (ag (am _ _) ar)
 | .list nul esz e,nm,cx=>by
  have he:∀ a i F,i6 (gEl g cx e a i F (nm.sub 0)):=fun a i F=>up_gEl g e (nm.sub 0) cx a i F
  refine ax (ax (ag (am _ _) (ag (am _ _) (ag (am _ _) (ag (fg (bX (am _ _) (am _ _)) (am _ _)) ar)))) (qC _ _ _ _ _ _)) ?_
  exact ag (bX (B3 _ _) (bq _)) (ag (am _ _) (ag (bX (am _ _) (bq _)) (ag (B4 (ei (he _ _ _))) (ag (am _ _) (ag (am _ _) ar)))))
 | .struct none _ fs,nm,cx=>
  ax (ag (am _ _) (ag (am _ _) (ag (am _ _) ar))) (gC (up_gFds g fs _ _) (up_gTagd g fs _ _))
 | .struct (some _) _ fs,nm,cx=>by
  refine ag (ei (ag (am _ _) (ag (bX (ei (ax (ag (am _ _) (ag (am _ _) (ag (am _ _) (ag (am _ _) ar)))) (gC (up_gFds g fs _ _) (up_gTagd g fs _ _)))) (bq _)) ar))) ar
theorem up_gEl (g:G):∀ (ty:Ty) (nm:Nm) (cx:Cx) (a i F:Nat),i6 (gEl g cx ty a i F nm)
 | .struct _ _ fs,_nm,_cx,_a,_i,_F=>ax (ag (am _ _) (ag (am _ _) (ag (am _ _) ar))) (gC (up_gFds g fs _ _) (up_gTagd g fs _ _))
 | .prim _p,_nm,_cx,_a,_i,_F=>ax (gm _ _ _ _ _) (ag (am _ _) ar)
 | .str _,_nm,_cx,_a,_i,_F=>ax (gm _ _ _ _ _) (ag (am _ _) ar)
 | .bytes _,_nm,_cx,_a,_i,_F=>ax (gm _ _ _ _ _) (ag (am _ _) ar)
 | .list _ _ _,_nm,_cx,_a,_i,_F=>ax (gm _ _ _ _ _) (ag (am _ _) ar)
theorem up_gFds (g:G):∀ (fs:Fds) (ms:List Nm) (cx:Cx),i6 (gFds g cx fs ms)
 | .nil,ms,cx=>ar
 | .cons lo hi tag df off ty r,ms,cx=>by
  have h1:=nh g ty (ms.headD (.mk [] [])) cx
  have h2:=up_gFds g r ms.tail cx
  unfold gFds
  refine cQ (ag ?_ h2) h2
  unfold dA
  split
  ·exact bX (ei h1) (bq _)
  ·exact fg (ei h1) (bX (ei h1) (bq _))
theorem up_gTagd (g:G):∀ (fs:Fds) (ms:List Nm) (cx:Cx),∀ p∈gTagd g cx fs ms,Up p.2
 | .nil,ms,cx=>fun p hp=>by cases hp
 | .cons lo hi tag df off ty r,ms,cx=>by
  have h1:=nh g ty ((ms.headD (.mk [] [])).sub 0) { cx with b:=(ms.headD (.mk [] [])).n 0 }
  have h2:=up_gTagd g r ms.tail cx
  cases tag with
  | none=>exact h2
  | some t=>
   intro p hp
   simp only[gTagd,List.mem_cons]at hp
   rcases hp with rfl|hp
   ·exact ei (ax (ax (ag (am _ _) ar) h1) (ag (ei (ag (am _ _) (ag (bX (ei (ag (am _ _) (ag (bq _) ar))) (bq _)) ar))) ar))
   ·exact h2 p hp
end
theorem uV (l:Bs):(b8 l).1<4294967296:=by
 unfold b8
 split
 ·simp
 ·rename_i a l
  have ha:=UInt8.toNat_lt a
  split
  ·simp only;omega
  ·split
   ·simp
   ·rename_i b l
    have hb:=UInt8.toNat_lt b
    split
    ·simp only;omega
    ·split
     ·simp
     ·rename_i c l
      have hc:=UInt8.toNat_lt c
      split
      ·simp only;omega
      ·split
       ·simp
       ·rename_i d l
        have hd:=UInt8.toNat_lt d
        split
        ·simp only;omega
        ·split
         ·simp
         ·rename_i e l
          split
          ·simp only;omega
          ·simp
theorem jA (r:RS):(b5 r).1<4294967296:=by
 unfold b5
 split
 ·simp
 ·exact uV _
theorem cF.one {w:World}{X:Nat->Prop}{v:Value}{t:List (Nat × Bs)}(h:cF w X v t):v.oneCell'=true:=by
 rcases h with⟨rfl,_⟩|⟨r,rfl,_⟩<;>rfl
section
variable {P:Program} {g:G} {av:PF->Bool} {fl:Bool} {cx:Cx} {fx:Bool} {ver:Int} {S R B O:Nat} {r:RS} {x m k0 n:Nat} {K N E:Act->World->Prop} {Q:Exit->Act->World->Prop} {a:Act} {w:World}
theorem sy (K0:KB P g av fl)(Ih:fl=true)(HY:RC g cx fx ver S R B O r a w)(hc:dO cx m k0){T k off:Nat}{cur:Array Value}{te:TypeId}(hF:bw P T k g.tTags off true 1)(hB:w.heap[B]?=some (.cells cur te (0,0)))(hO:O+off+1<=cur.size)
  (hk:k0<=n) (hn:n+4<=a.tmps.size)
  (h:∀ a' w',Pv 6 m k0 n a a'->cy w' g.tR S R (fz (b5 r).1 [] (b5 r).2).2->dS R B (fun j=>j=O+off) w w' ->
   (∀ X:Nat->Prop,(∀ k,X k->k<w.heap.size)->¬ X S->∃ mm,w'.cell? ⟨B,O+off,none⟩=some mm/\cF w' X mm (fz (b5 r).1 [] (b5 r).2).1)->K a' w') :
  aK P (lV g cx T k n).1 (Exit.then K Q) a w:=by
 have OJ:=hc.b
 have Iq:=hc.le
 refine aq (ah ?_)
 rw[aa,HY.ss]
 refine aN (vs:=#[pt R 0]) (K0.tagsE Ih) (by simp[aa,al (show cx.b≠n by omega),HY.sb]) (K0.tagsC Ih w S R r HY.rd HY.SR HY.Slt) fun e w1 hR=>?_
 obtain⟨mm,he,h1,h2,h3⟩:=hR
 refine⟨_,he,?_⟩
 refine aG (by rw[aa,al (by omega),ao (by omega)];rfl) ?_
 refine bN (by rw[aa,ao (by simp only[ab];omega)]) hF ?_
 have Id:B<w.heap.size:=(Array.getElem?_eq_some_iff.1 hB).1
 have Ly:w1.heap[B]?=some (.cells cur te (0,0)):=by rw[h2.block B Id HY.BR];exact hB
 have I5:=(h3 (fun _=>False) (fun _ h=>h.elim) id).one
 refine bm (cur:=cur) (t:=te) (v:=.agg #[mm]) (vs:=[mm]) (by rw[aa,ao (by simp only[ab];omega)]) ?_ rfl (hF.var.size _) Ly (by simpa using hO) (by simpa using I5) (wpList_nil ?_)
 ·rw[aa,al (by omega),al (by omega),ao (by simp only[ab];omega)]
 ·have hE:dS R B (fun j=>j=O+off) w1 (w1.setRow B (aD cur (O+off) [mm])):=dS.store Ly (by simpa using hO) (fun j h1 h2=>by simp at h2;omega)
  refine h _ _ ((((((Pv.refl _ _ _ _ _).put _ (by omega)).put _ (by omega)).put _ (by omega)).put _ (by omega))) (h1.keep (ac.setRow (fun k=>k=B) _ _ _ rfl) (fun h=>HY.BS h.symm) (fun h=>HY.BR h.symm))
   ((dS.of_keeps h2 (fun _ _ h=>h) HY.BR).trans hE) fun X hX hS=>⟨mm,?_,?_⟩
  ·rw[cell_setRow_same _ _ _ _ _ _ _ Ly]
   have:=bA (cur:=cur) (o:=O+off) (vs:=[mm]) (by simpa using hO) 0 (by simp)
   simpa using this
  ·have h4:=h3 (fun k=>X k \/ k=B) (fun k hk=>by rcases hk with hk|rfl<;>first|exact hX k hk|exact Id) (fun hk=>by rcases hk with hk|hk<;>first|exact hS hk|exact HY.BS hk.symm)
   exact(h4.keep (ac.setRow (fun k=>X k \/ k=B) _ _ _ (.inr rfl))).mono fun k _ hk=>.inl hk
theorem jE {w:World}{S:Nat}{v:Value}{r:RS}(h:bD w S v r):v.oneCell'=true/\v.cells=#[v]:=by
 rcases h with⟨rfl,_⟩|⟨o,c,rfl,_⟩<;>exact⟨rfl,rfl⟩
theorem uM (K0:KB P g av fl){ops:Array Oper}{l:List Oper}{d:Option Nat}{y:Operand}{v:Value}(hy:a.eval y=v)(hv:v.cells=#[v])(h:wpList P ops Q l (a.put d (.agg #[v,.bool false])) w):wpList P ops Q (mk d (.build g.tR #[(0,y)])::l) a w:=by
 refine aB ?_ h
 obtain⟨fs,f0,f1,h1,h2,h3,h4,h5,h6⟩:=K0.fR
 have hz:=K0.zR w
 have IQ:fs=#[f0,f1]:=by rw[<- Array.toArray_toList (xs:=fs),h2]
 subst IQ
 have Ju:(Value.agg #[.slice none 0 0,.bool false]).cells=#[.slice none 0 0,.bool false]:=rfl
 simp[execOp,mk,hy,Instr.build,hz,run_underlying h1,h5.size,h6.size,h3,h4,Instr.fill,hv,Ju]
theorem aE (w:World)(o:Obj):(w.alloc o).heap[w.heap.size]?=some o:=heap_alloc_new w o
theorem bu {w:World}{o:Obj}{b:Nat}(h:b<w.heap.size):(w.alloc o).heap[b]?=w.heap[b]?:=by
 show(w.heap.push o)[b]?=_
 rw[Array.getElem?_push,if_neg (by omega)]
theorem kK (K0:KB P g av fl){l:List Oper}{y b' t:Nat}{v:Value}{r':RS}{ops:Array Oper}(hy:a.get y=v)(hv:bD w S v r')(_hbad:r'.bad=false)(ht:t<a.tmps.size)(hb:b'<a.tmps.size)(SP:b'≠t)
  (h:wpList P ops Q l ((a.put (some t) (.agg #[v,.bool false])).put (some b') (pt w.heap.size 0)) ((w.alloc (.cells #[.slice none 0 0,.bool false] g.tR (0,0))).setRow w.heap.size #[v,.bool false])) :
  wpList P ops Q (mk (some t) (.build g.tR #[(0,tm y)])::mk (some b') (.alloc g.tR)::mk none (.store g.tR (tm b') (tm t))::l) a w:=by
 obtain⟨I5,TQ⟩:=jE hv
 refine uM K0 (v:=v) (by rw[aa];exact hy) TQ ?_
 refine cZ (K0.zR w) ?_
 refine bm (g:=w.heap.size) (o:=0) (cur:=#[.slice none 0 0,.bool false]) (t:=g.tR) (v:=.agg #[v,.bool false]) (vs:=[v,.bool false]) ?_ ?_ rfl (K0.vR.size _) (heap_alloc_new _ _) (by simp) ?_ ?_
 ·rw[aa,ao (by simp only[ab];omega)]
 ·rw[aa,al (by omega),ao (by omega)]
 ·intro u hu
  simp only[List.mem_cons,List.not_mem_nil,or_false]at hu
  rcases hu with rfl|rfl
  ·exact I5
  ·rfl
 ·have:aD #[Value.slice none 0 0,.bool false] 0 [v,.bool false]=#[v,.bool false]:=by simp[aD]
  rw[this]
  exact h
theorem dH (X:Nat->Prop)(w:World)(o:Obj)(cs:Array Value):ac X w ((w.alloc o).setRow w.heap.size cs):=
 ⟨rfl,rfl,rfl,by simp,fun k J0 _=>by rw[setRow_other _ _ _ _ (by omega)];exact bu J0⟩
theorem kg {v:Value}{r':RS}{T:Nat}(hv:bD w S v r')(IA:r'.bad=false):cy ((w.alloc (.cells #[.slice none 0 0,.bool false] T (0,0))).setRow w.heap.size #[v,.bool false]) T S w.heap.size r':=by
 refine⟨v,?_,hv.keep (dH (fun _=>False) w _ _) id⟩
 rw[IA]
 exact setRow_heap _ _ _ _ _ _ (heap_alloc_new _ _)
theorem Ac (K0:KB P g av fl)(Ih:fl=true)(HY:RC g cx fx ver S R B O r a w)(hc:dO cx m k0){b':Nat}(NT:m<=b'/\b'<k0)(hk:k0<=n)(hn:n+4<=a.tmps.size)
  (h:∀ a' w' R',Pv 6 m k0 n a a'->a'.get b'=pt R' 0->w.heap.size<=R'->cy w' g.tR S R' ⟨(bt (b5 r).1 (b5 r).2).1.octets,false,(bt (b5 r).1 (b5 r).2).1.isNul⟩->cy w' g.tR S R (bt (b5 r).1 (b5 r).2).2 ->
   ac (·=R) w w'->K a' w'):aK P (nY g cx.b b' n).1 (Exit.then K Q) a w:=by
 have OJ:=hc.b
 have Iq:=hc.le
 refine aq (aN (vs:=#[pt R 0]) (K0.uvE Ih) (by simp[aa,HY.sb]) (K0.uvC Ih w S R r HY.rd HY.SR) fun e w1 hR=>?_)
 obtain⟨he,h1,h2⟩:=hR
 refine⟨_,he,?_⟩
 have Id:=jA r
 have IR:IntKind.i64.wrap ((b5 r).1:Int)=((b5 r).1:Int):=by simp[IntKind.wrap,IntKind.bits,IntKind.signed];omega
 refine aL (k:=.u32) (k':=.i64) (m:=((b5 r).1:Int)) (by rw[aa,ao (by omega)]) (K0.tU32 Ih) K0.tInt ?_
 rw[IR]
 refine aN (vs:=#[pt R 0,.int .i64 ((b5 r).1:Int)]) (K0.spanE Ih) ?_ (K0.spanC Ih w1 S R (b5 r).2 ((b5 r).1:Int) (by omega) (by omega) h1 HY.SR) fun e2 w2 JD=>?_
 ·simp only[List.map_cons,List.map_nil,aa]
  rw[ao (by simp only[ab];omega),al (show cx.b≠n+1 by omega),al (show cx.b≠n by omega),HY.sb]
 obtain⟨v,Kr,h3,h4,h5⟩:=JD
 refine⟨_,Kr,?_⟩
 refine kK K0 (y:=n+2) (v:=v) (ao (by simp only[ab];omega)) h5 rfl (by simp only[ab];omega) (by simp only[ab];omega) (by omega) (wpList_nil ?_)
 have Ic:ac (·=R) w w2:=h2.trans h4
 refine h _ _ w2.heap.size (((((Pv.refl _ _ _ _ _).put _ (by omega)).put _ (by omega)).put _ (by omega)).put _ (by omega) |>.put _ (by omega)) (ao (by simp only[ab];omega)) Ic.size (kg h5 rfl)
  (h3.keep (dH (fun _=>False) w2 _ _) id id) (Ic.trans (dH _ w2 _ _))
theorem s9 (d:Nat){T:TypeId}{ms:Array (String × TypeId)}(hT:P.underlying T=some (.interface ms))(w:World):(Op.equalIn (d+1) T .nilIface .nilIface).run P w=.ok true w:=by
 simp[Op.equalIn,run_underlying hT]
theorem s8 (d:Nat){T:TypeId}{ms:Array (String × TypeId)}(hT:P.underlying T=some (.interface ms))(t:TypeId)(y:Value)(w:World):(Op.equalIn (d+1) T (.iface t y) .nilIface).run P w=.ok false w:=by
 simp[Op.equalIn,run_underlying hT]
theorem oR {T:TypeId}{ms:Array (String × TypeId)}(hT:P.underlying T=some (.interface ms)){v:Value}{b:Bool}(hv:(v=.nilIface/\b=false) \/ ((∃ t y,v=.iface t y)/\b=true))(w:World):(binOp .neq T v .nilIface).run P w=.ok (.bool b) w:=by
 rcases hv with⟨rfl,rfl⟩|⟨⟨t,y,rfl⟩,rfl⟩
 ·have:(Op.equal T .nilIface .nilIface).run P w=.ok true w:=s9 9999 hT w
  simp[binOp,this]
 ·have:(Op.equal T (.iface t y) .nilIface).run P w=.ok false w:=s8 9999 hT t y w
  simp[binOp,this]
theorem x9 (K0:KB P g av fl)(Ih:fl=true){b' err R':Nat}{r':RS}(hb:a.get b'=pt R' 0)(Lt:cy w g.tR S R' r')(herr:ErrAt g.gErr w)(hm6:6<m)(JO:m<=err/\err<k0)(hm:m<=k0)(hk:k0<=n)(hn:n+4<=a.tmps.size)
  (IA:r'.bad=true->∀ a' w',Pv 6 m k0 n a a'->(∃ t y,a'.get 6=.iface t y)->ac (fun _=>False) w w'->E a' w')
  (Io:r'.bad=false->∀ a' w',Pv 6 m k0 n a a'->ac (fun _=>False) w w'->K a' w'):aK P (mP g b' err n).1 (Rt K E) a w:=by
 obtain⟨ms,hT⟩:=K0.tErr Ih
 refine aY (ad (kx (x:=6) (m:=m) (k0:=k0) K0.cmE hb (K0.cmC w S R' r' Lt herr) (.inr JO) hm hk (by omega) (by omega) fun e w1 hR=>?_))
 obtain⟨Ir,v,he,h0,h1⟩:=hR
 refine⟨v,he,fun a1 HX Ig=>?_⟩
 have If:=HX.size
 have Ip:∀ (b:Bool) (K':Act->World->Prop),(v=.nilIface/\b=false) \/ ((∃ t y,v=.iface t y)/\b=true)->(∀ a',a'.eval (tm (n+1+1))=.bool b->Pv 6 k0 k0 (n+1) a1 a'->K' a' w1) ->
   wpList P [mk (some (n+1)) (.move (tm err)),mk (some (n+1+1)) (.binOp .neq g.tErr (tm (n+1)) (.const .nilIface) 0)].toArray (Exit.then K' (Exit.then (LW P [] (n+4) (Rt K E)) (Rt K E)))
    [mk (some (n+1)) (.move (tm err)),mk (some (n+1+1)) (.binOp .neq g.tErr (tm (n+1)) (.const .nilIface) 0)] a1 w1:=by
  intro b K' hb hK'
  refine ah ?_
  rw[aa,Ig]
  refine aB (v:=.bool b) (w':=w1) ?_ (wpList_nil (hK' _ ?_ (((Pv.refl _ _ _ _ _).put _ (by omega)).put _ (by omega))))
  ·have e1:(a1.put (some (n+1)) v).eval (tm (n+1))=v:=by rw[aa,ao (by omega)]
   have e2:(a1.put (some (n+1)) v).eval (.const .nilIface)=.nilIface:=rfl
   have hg:(eqGuard .neq g.tErr (tm (n+1)) (.const .nilIface) v .nilIface).run P w1=.ok () w1:=by
    rcases hb with⟨rfl,_⟩|⟨⟨t,y,rfl⟩,_⟩<;>simp[eqGuard,tm]
   have hr:=oR hT hb w1
   simp only[execOp,mk,e1,e2,Sem.run_bind,hg,Result.andThen_ok,hr,Sem.run_pure]
  ·rw[aa,ao (by simp only[ab];omega)]
 refine ad ?_
 cases NT:r'.bad with
 | true=>
  obtain⟨t,y,rfl⟩:=h1 NT
  refine cL (Ip true _ (.inr ⟨⟨t,y,rfl⟩,rfl⟩) fun a2 Kr HZ=>⟨Kr,?_⟩)
  have Iw:=HZ.size
  have Lf:a2.get err=.iface t y:=(HZ.get err (by omega) (.inl JO.2)).trans Ig
  refine aY (ad (aq (ah (ak (wpList_nil (ad (.ret ?_)))))))
  rw[aa,aa,Lf,ao (by simp only[aC,ay];omega)]
  refine IA NT _ w1 ((HX.trans ((HZ.low hm).mono (Nat.le_refl _) (by omega))).trans (((Pv.refl _ _ _ _ _).put _ ?_).put _ ?_)) ⟨t,y,ao (by simp only[ab];omega)⟩ Ir
  ·simp only[aC,ay];omega
  ·omega
 | false=>
  have Mi:=h0 NT
  subst Mi
  refine cD (Ip false _ (.inl ⟨rfl,rfl⟩) fun a2 Kr HZ=>⟨Kr,.skip (bf ?_)⟩)
  exact Io NT a2 w1 (HX.trans ((HZ.low hm).mono (Nat.le_refl _) (by omega))) Ir
end
def FnIs (P:Program)(f ntmps:Nat)(res:List Nat)(d:Code):Prop:=
 ∃ fn c, P.funcs[f]? = some fn /\ fn.body = some c /\ bK c = d /\ fn.ntmps = ntmps /\ fn.results = (res.map ResultVar.tmp).toArray /\ (fn.name == "runtime.NumGoroutine") = false
theorem fnIs_of {P : Program} {f : Nat} {fn : Func} {ntmps : Nat} {res : List Nat} {d : Code} (hf : P.funcs[f]? = some fn) (hb : fn.body.map bK = some d) (hn : fn.ntmps = ntmps) (hr : fn.results = (res.map ResultVar.tmp).toArray) (hg : (fn.name == "runtime.NumGoroutine") = false) : FnIs P f ntmps res d := by
 cases h:fn.body with
 | none=>rw[h]at hb;cases hb
 | some c=>
  rw[h]at hb
  exact⟨fn,c,hf,h,Option.some.inj hb,hn,hr,hg⟩
def bj (res:List Nat)(a:Act):Value:=match res with|[t]=>a.get t|_=>.tuple (res.map a.get).toArray
theorem FnIs.ent {P:Program}{f n:Nat}{res:List Nat}{d:Code}(h:FnIs P f n res d):Ent P f:=by
 obtain⟨fn,c,hf,hb,_,_,_,hg⟩:=h
 have I0 : ¬ fn.name = "runtime.NumGoroutine" := by simpa using hg
 intro args w
 simp[callFunc,hf,I0,hb]
theorem qO {P:Program}{fn:Func}{res:List Nat}(hl:res.length<=2)(hr:fn.results=(res.map ResultVar.tmp).toArray)(a:Act)(w:World):(results fn a.tmps).run P w=.ok (bj res a) w:=by
 unfold results
 rw[hr]
 match res,hl with
 | [],_=>simp[bj]
 | [t],_=>simp[bj,Act.get]
 | [t,u],_=>simp[bj,Act.get]
theorem FnIs.calls {P:Program}(hm:P.follows .mixedOrders=true){f n:Nat}{res:List Nat}{d:Code}(h:FnIs P f n res d)(hl:res.length<=2){args:Array Value}{w:World}{R:Ending->World->Prop}
  (hw:aK P d (Rt (fun a w=>a.defers=[]/\R (.returned (bj res a)) w) (fun a w=>a.defers=[]/\R (.returned (bj res a)) w)) { tmps:=args++Array.replicate (n-args.size) undef,defers:=[] } w):Calls P f args w R:=by
 obtain⟨fn,c,hf,hb,rfl,rfl,hr,_⟩:=h
 refine lB hm hf hb rfl (.mono hw fun e a w hq=>?_)
 cases e<;>first|exact hq.elim|exact⟨hq.1,_,qO hl hr a w,hq.2⟩
end Go.Proofs.YtpoeajgpacfpoaaGreatDoor.Kx