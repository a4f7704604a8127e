/- messages, part 3 -/
import Derived.Test.YtnpdpnmomihkkaaGreatDoorK1

namespace Go.Proofs.YtnpdpnmomihkkaaGreatDoor.Kx
open Go
def j8:PF->Ty
 | .bool=>.prim .bool|.i8=>.prim .i8|.i16=>.prim .i16|.u16=>.prim .u16|.i32=>.prim .i32|.i64=>.prim .i64|.uuid=>.prim .uuid
 | .str|.cstr=>.str none
 | .nstr|.cnstr=>.str (some 0)
 | .bytes|.cbytes=>.bytes none
 | .nbytes|.cnbytes=>.bytes (some 0)
def ErrAt (g:Nat)(w:World):Prop:=∃ t x,w.cell? ⟨g,0,none⟩=some (.iface t x)
theorem ErrAt.keep {g:Nat}{X:Nat->Prop}{w w':World}(h:ErrAt g w)(hk:br X w w')(hg:¬ X g):ErrAt g w':=by
 obtain⟨t,x,h⟩:=h
 exact⟨t,x,hk.cell hg h⟩
def pt (b o:Nat):Value:=.pointer (some ⟨b,o,none⟩)
structure KB (P:Program)(g:G)(av:PF->Bool)(fl:Bool):Prop where
 mixed:P.follows .mixedOrders=true
 rdE:∀ p,av p=true->Ent P (g.rd p)
 rdC:∀ p,av p=true->∀ (w:World) (S R:Nat) (r:RS),ep w g.tR S R r->S≠R->Calls P (g.rd p) #[pt R 0] w λe w'=>
  ∃ v,e=.returned v/\ep w' g.tR S R (p.run r).2/\br (·=R) w w'/\∀ X:Nat->Prop,(∀ k,X k->k<w.heap.size)->¬ X S->jD w' X (j8 p) v.cells.toList (p.run r).1
 i8C:av .i8=true->∀ (w:World) (S R:Nat) (r:RS),ep w g.tR S R r->S≠R->Calls P (g.rd .i8) #[pt R 0] w λe w'=>e=.returned (.int .i8 (rI 1 r).1)/\ep w' g.tR S R (rI 1 r).2/\br (·=R) w w'
 okE:cJ g.ok=true->Ent P g.ok
 okC:cJ g.ok=true->∀ (w:World) (S R:Nat) (r:RS),ep w g.tR S R r->Calls P g.ok #[pt R 0] w λe w'=>e=.returned (.bool (!r.bad))/\br (λ_=>False) w w'
 cmE:Ent P g.complete
 cmC:∀ (w:World) (S R:Nat) (r:RS),ep w g.tR S R r->ErrAt g.gErr w->Calls P g.complete #[pt R 0] w λe w'=>
  br (λ_=>False) w w'/\∃ v,e=.returned v/\(r.bad=false->v=.nilIface)/\(r.bad=true->∃ t x,v=.iface t x)
 lenE:cJ g.len=true->Ent P g.len
 lenC:cJ g.len=true->∀ (w:World) (S R:Nat) (r:RS),ep w g.tR S R r->S≠R->Calls P g.len #[pt R 0] w λe w'=>e=.returned (.int .i32 (cW false r).1)/\ep w' g.tR S R (cW false r).2/\br (·=R) w w'
 clenE:fl=true->cJ g.clen=true->Ent P g.clen
 clenC:fl=true->cJ g.clen=true->∀ (w:World) (S R:Nat) (r:RS),ep w g.tR S R r->S≠R->Calls P g.clen #[pt R 0] w λe w'=>e=.returned (.int .i32 (cW true r).1)/\ep w' g.tR S R (cW true r).2/\br (·=R) w w'
 uvE:fl=true->Ent P g.uv
 uvC:fl=true->∀ (w:World) (S R:Nat) (r:RS),ep w g.tR S R r->S≠R->Calls P g.uv #[pt R 0] w λe w'=>e=.returned (.int .u32 (bZ r).1)/\ep w' g.tR S R (bZ r).2/\br (·=R) w w'
 spanE:fl=true->Ent P g.span
 spanC:fl=true->∀ (w:World) (S R:Nat) (r:RS) (k:Int),0<=k->k<4294967296->ep w g.tR S R r->S≠R->Calls P g.span #[pt R 0,.int .i64 k] w λe w'=>
  ∃ v,e=.returned v/\ep w' g.tR S R (cd k r).2/\br (·=R) w w'/\dj w' S v ⟨(cd k r).1.octets,false,(cd k r).1.isNul⟩
 tagsE:fl=true->Ent P g.tags
 tagsC:fl=true->∀ (w:World) (S R:Nat) (r:RS),ep w g.tR S R r->S≠R->S<w.heap.size->Calls P g.tags #[pt R 0] w λe w'=>
  ∃ m,e=.returned (.agg #[m])/\ep w' g.tR S R (e9 (bZ r).1 [] (bZ r).2).2/\br (·=R) w w'/\∀ X:Nat->Prop,(∀ k,X k->k<w.heap.size)->¬ X S->eA w' X m (e9 (bZ r).1 [] (bZ r).2).1
 setE:fl=true->Ent P g.set
 setC:fl=true->∀ (w:World) (B o:Nat) (m:Value) (t:List (Nat × Bs)) (k:Nat) (v:Value) (l:Bs) (cur:Array Value) (te:TypeId),k<4294967296->w.heap[B]?=some (.cells cur te (0,0))->cur[o]?=some m->eA w (·=B) m t->en w (·=B) v l ->
  Calls P g.set #[pt B o,.int .u32 k,v] w λe w'=>e=.returned (.tuple #[])/\∃ (q:Nat) (w1:World),w'=w1/\br (λb=>b=B \/ b=q) w w'/\(m=.map none->q=w.heap.size)/\(∀ r,m=.map (some r)->q=r) /\
   w'.heap[B]?=some (.cells (cur.setIfInBounds o (.map (some q))) te (0,0))/\∀ X:Nat->Prop,¬ X q->(∀ k,X k->k<w.heap.size)->en w (λk=>X k \/ k=q) v l->eA w X m t->eA w' X (.map (some q)) (dM k l t)
 fR:∃ fs f0 f1,P.underlying g.tR=some (.struct fs)/\fs.toList=[f0,f1]/\f0.offset=0/\f1.offset=1/\cv P f0.type false 1/\cv P f1.type false 1
 zR:∀ w,(zeroValue g.tR).run P w=.ok (.agg #[.slice none 0 0,.bool false]) w
 vR:cv P g.tR true 2
 uuid:av .uuid=true->cv P g.tUuid true 16/\∀ w,(zeroValue g.tUuid).run P w=.ok (.agg (Array.replicate 16 (.int .u8 0))) w
 tI32:P.underlying g.tI32=some (.int .i32)
 tU32:fl=true->P.underlying g.tU32=some (.int .u32)
 tInt:P.underlying g.tInt=some (.int .i64)
 vStr:cv P g.tStr false 1/\∀ w,(zeroValue g.tStr).run P w=.ok (.string ⟨#[]⟩) w
 vTags:fl=true->cv P g.tTags true 1
 tErr:fl=true->∃ ms,P.underlying g.tErr=some (.interface ms)
section
variable {P:Program} {x m k0 n:Nat} {K:Act->World->Prop} {Q:Exit->Act->World->Prop} {a:Act} {w:World}
theorem mz {f b v:Nat}{y:Value}{R:Ending->World->Prop}(hf:Ent P f)(hb:a.get b=y)(hc:Calls P f #[y] w R)
  (hv:v=x \/ (m<=v/\v<k0)) (hm:m<=k0) (hk:k0<=n) (hn:n<a.tmps.size) (Kg:v<a.tmps.size)
  (h:∀ e w',R e w'->∃ z,e=.returned z/\∀ a',Pv x m k0 n a a'->a'.get v=z->K a' w'):cf P (bQ f b v n).1 (Exit.then K Q) a w:=by
 refine bF (cj (vs:=#[y]) hf (by simp[bp,hb]) hc λe w' hR=>?_)
 obtain⟨z,he,hh⟩:=h e w' hR
 refine⟨z,he,b7 (wpList_nil ?_)⟩
 rw[bp,fh _ _ _ hn]
 exact hh _ (((Pv.refl _ _ _ _ _).put _ aa).put _ aa) (bA (by rw[bq];exact Kg))
theorem eX {t k:Nat}{ops:Nat->List Oper}{A B:GC}(MK:wpList P (ops n).toArray (Exit.then (λa' w'=>a'.eval (tm (n+t))=.bool true/\cf P (A (n+k)).1 Q a' w') Q) (ops n) a w):cf P (gb t k ops A B n).1 Q a w:=
 .seq (.reg MK) (λa' w' h=>.condT h.1 h.2) (λe a w he hq=>by rw[dY he]at hq;exact hq)
theorem eK {t k:Nat}{ops:Nat->List Oper}{A B:GC}(MK:wpList P (ops n).toArray (Exit.then (λa' w'=>a'.eval (tm (n+t))=.bool false/\cf P (B (A (n+k)).2).1 Q a' w') Q) (ops n) a w):cf P (gb t k ops A B n).1 Q a w:=
 .seq (.reg MK) (λa' w' h=>.condF h.1 h.2) (λe a w he hq=>by rw[dY he]at hq;exact hq)
theorem q4 {cx:Cx}{A B:GC}{fx:Bool}(hf:a.get cx.fx=.bool fx)(hm:m<=k0)(hk:k0<=n)(hn:n<a.tmps.size)
  (h:∀ a',Pv x m k0 n a a'->if fx then cf P (A (n+1)).1 Q a' w else cf P (B (A (n+1)).2).1 Q a' w):cf P (jF cx A B n).1 Q a w:=by
 have hp:Pv x m k0 n a (a.put (some n) (.bool fx)):=(Pv.refl _ _ _ _ _).put _ aa
 have:=h _ hp
 cases fx with
 | true=>
  refine eX (bv (wpList_nil ?_))
  rw[bp,hf]
  exact⟨by rw[bp];exact fh _ _ _ hn,by simpa using this⟩
 | false=>
  refine eK (bv (wpList_nil ?_))
  rw[bp,hf]
  exact⟨by rw[bp];exact fh _ _ _ hn,by simpa using this⟩
theorem uh {A B:GC}(hf:a.get 2=.bool false)(hm:m<=k0)(hk:k0<=n)(hn:n<a.tmps.size)
  (h:∀ a',Pv x m k0 n a a'->cf P (B (A (n+1)).2).1 Q a' w):cf P (kM A B n).1 Q a w:=by
 have hp:Pv x m k0 n a (a.put (some n) (.bool false)):=(Pv.refl _ _ _ _ _).put _ aa
 refine eK (bv (wpList_nil ?_))
 rw[bp,hf]
 exact⟨by rw[bp];exact fh _ _ _ hn,h _ hp⟩
theorem jK {op:BinOp}{T:TypeId}{k:IntKind}{p q:Int}{b:Bool}(h:(op=.geq/\b=decide (q<=p)) \/ (op=.leq/\b=decide (p<=q)) \/ (op=.lss/\b=decide (p<q)) \/ (op=.gtr/\b=decide (q<p)) \/ (op=.eql/\b=decide (p=q)) \/ (op=.neq/\b=decide (p≠q))) :
  (binOp op T (.int k p) (.int k q)).run P w=.ok (.bool b) w:=by
 rcases h with⟨rfl,rfl⟩|⟨rfl,rfl⟩|⟨rfl,rfl⟩|⟨rfl,rfl⟩|⟨rfl,rfl⟩|⟨rfl,rfl⟩<;>simp[binOp,Op.intCmp]
 ·exact Bool.beq_eq_decide_eq p q
 ·simp[bne,Bool.beq_eq_decide_eq]
theorem cZ {ops:Array Oper}{Q:Exit->Act->World->Prop}{r:List Oper}{d:Option Nat}{op:BinOp}{T:TypeId}{y z:Operand}{k:IntKind}{p q:Int}{b:Bool}(hy:a.eval y=.int k p)(hz:a.eval z=.int k q)
  (hb:(op=.geq/\b=decide (q<=p)) \/ (op=.leq/\b=decide (p<=q)) \/ (op=.lss/\b=decide (p<q)) \/ (op=.gtr/\b=decide (q<p)) \/ (op=.eql/\b=decide (p=q)) \/ (op=.neq/\b=decide (p≠q)))
  (h:wpList P ops Q r (a.put d (.bool b)) w):wpList P ops Q (mk d (.binOp op T y z 0)::r) a w:=
 ee hy hz (by rcases hb with⟨rfl,_⟩|⟨rfl,_⟩|⟨rfl,_⟩|⟨rfl,_⟩|⟨rfl,_⟩|⟨rfl,_⟩<;>simp) (jK hb) h
theorem dz {ops:Array Oper}{j d:Nat}{o:Oper}{b:Bool}(ho:ops[j]?=some o)(hd:o.dst=some d)(hs:d<a.tmps.size)(hg:a.get d=.bool b):yielded ops a.tmps j=some b:=by
 have:a.tmps[d]?=some (.bool b):=by
  rw[<- hg]
  simp[Act.get,hs]
 simp[yielded,ho,hd,this]
theorem rA {ops : Array Oper} {Q : Exit -> Act -> World -> Prop} {r : List Oper} {d j : Nat} {op : Op} {b : Bool} (hy : yielded ops a.tmps j = some b) (h : (⟨some d, op, 0, "", #[], some (j, b)⟩ : Oper).wp P a w (wpList P ops Q r) Q) :
  wpList P ops Q (gd d op j b::r) a w:=by
 unfold wpList gd
 rw[ax (by simp[Region.wanted,hy])]
 exact .inl h
theorem iv {ops:Array Oper}{Q:Exit->Act->World->Prop}{r:List Oper}{d j:Nat}{op:Op}{b:Bool}{v:Value}(hy:yielded ops a.tmps j=some b)(Jl:(execOp a.eval (mk (some d) op)).run P w=.ok (.value v) w)
  (h:wpList P ops Q r (a.put (some d) v) w):wpList P ops Q (gd d op j b::r) a w:=by
 refine rA hy ?_
 unfold Oper.wp
 have : execOp a.eval (⟨some d, op, 0, "", #[], some (j, b)⟩ : Oper) = execOp a.eval (mk (some d) op) := by
  simp only[execOp,mk]
 rw[this,Jl]
 exact h
theorem fr {ops:Array Oper}{Q:Exit->Act->World->Prop}{r:List Oper}{d j:Nat}{op:Op}{b c:Bool}(hy:yielded ops a.tmps j=some c)(hc:c≠b)(h:wpList P ops Q r (a.put (some d) undef) w):wpList P ops Q (gd d op j b::r) a w:=by
 unfold wpList gd
 rw[al (by simp[Region.wanted,hy,hc])]
 exact h
theorem ir {ops:Array Oper}{Q:Exit->Act->World->Prop}{r:List Oper}{d:Option Nat}{c y z:Operand}{b:Bool}(hc:a.eval c=.bool b)(h:wpList P ops Q r (a.put d (if b then a.eval y else a.eval z)) w):wpList P ops Q (mk d (.pick c y z)::r) a w:=by
 refine bP ?_ h
 simp[execOp,mk,hc,asBool]
theorem vq {Q:Exit->Act->World->Prop}{n:Nat}{y1 y2:Nat}{op1 op2:BinOp}{T1 T2:TypeId}{k1 k2:IntKind}{p1 q1 p2 q2:Int}{b1 b2:Bool}(hm:m<=k0)(hk:k0<=n)(hn:n+6<=a.tmps.size)(Yu:y2<n)
  (h1:a.get y1=.int k1 p1) (h2:a.get y2=.int k2 p2)
  (J2:(op1=.geq/\b1=decide (q1<=p1)) \/ (op1=.leq/\b1=decide (p1<=q1)) \/ (op1=.lss/\b1=decide (p1<q1)) \/ (op1=.gtr/\b1=decide (q1<p1)) \/ (op1=.eql/\b1=decide (p1=q1)) \/ (op1=.neq/\b1=decide (p1≠q1)))
  (JH:(op2=.geq/\b2=decide (q2<=p2)) \/ (op2=.leq/\b2=decide (p2<=q2)) \/ (op2=.lss/\b2=decide (p2<q2)) \/ (op2=.gtr/\b2=decide (q2<p2)) \/ (op2=.eql/\b2=decide (p2=q2)) \/ (op2=.neq/\b2=decide (p2≠q2)))
  (and:Bool) (y z:Operand) (Yt:y=if and then tm (n+4)else .const (.bool true)) (P2:z=if and then .const (.bool false)else tm (n+4))
  (h:∀ a',Pv x m k0 n a a'->a'.eval (tm (n+5))=.bool (if and then b1&&b2 else b1 || b2)->Q .normal a' w) :
  wpList P [mk (some n) (.move (tm y1)),mk (some (n+1)) (.binOp op1 T1 (tm n) (ki k1 q1) 0),mk (some (n+2)) (.move (tm (n+1))),gd (n+3) (.move (tm y2)) 2 and,
   gd (n+4) (.binOp op2 T2 (tm (n+3)) (ki k2 q2) 0) 2 and,mk (some (n+5)) (.pick (tm (n+2)) y z)].toArray Q
   [mk (some n) (.move (tm y1)),mk (some (n+1)) (.binOp op1 T1 (tm n) (ki k1 q1) 0),mk (some (n+2)) (.move (tm (n+1))),gd (n+3) (.move (tm y2)) 2 and,
   gd (n+4) (.binOp op2 T2 (tm (n+3)) (ki k2 q2) 0) 2 and,mk (some (n+5)) (.pick (tm (n+2)) y z)] a w:=by
 refine bv ?_
 rw[bp,h1]
 refine cZ (b:=b1) (q:=q1) (p:=p1) (k:=k1) (by rw[bp,bA aa]) rfl J2 ?_
 refine bv ?_
 rw[bp,bA (by simp only[bq];omega)]
 have IW:Pv x m k0 n a (((a.put (some n) (.int k1 p1)).put (some (n+1)) (.bool b1)).put (some (n+2)) (.bool b1)):=(((Pv.refl _ _ _ _ _).put _ aa).put _ aa).put _ aa
 generalize hA:((a.put (some n) (.int k1 p1)).put (some (n+1)) (.bool b1)).put (some (n+2)) (.bool b1)=A at IW ⊢
 have Jc:A.tmps.size=a.tmps.size:=IW.size
 have Ja:A.get (n+2)=.bool b1:=by rw[<- hA];exact bA (by simp only[bq];omega)
 have hgy:A.get y2=.int k2 p2:=by rw[<- hA,b8 aa,b8 aa,b8 aa];exact h2
 have Le:∀ (A':Act),A'.tmps.size=A.tmps.size->A'.get (n+2)=.bool b1->yielded [mk (some n) (.move (tm y1)),mk (some (n+1)) (.binOp op1 T1 (tm n) (ki k1 q1) 0),mk (some (n+2)) (.move (tm (n+1))),gd (n+3) (.move (tm y2)) 2 and,
   gd (n+4) (.binOp op2 T2 (tm (n+3)) (ki k2 q2) 0) 2 and,mk (some (n+5)) (.pick (tm (n+2)) y z)].toArray A'.tmps 2=some b1:=λA' hs hg=>
  dz (d:=n+2) (o:=mk (some (n+2)) (.move (tm (n+1)))) rfl rfl (by rw[hs,Jc];omega) hg
 by_cases hb:b1=and
 ·subst hb
  refine iv (v:=.int k2 p2) (Le A rfl Ja) (by simp only[execOp,mk,bp,hgy];rfl) ?_
  have Jp:=IW.put (.int k2 p2) (d:=n+3) aa
  refine iv (v:=.bool b2) (Le _ (bq _ _ _) (by rw[b8 aa];exact Ja)) ?_ ?_
  ·have he:(A.put (some (n+3)) (.int k2 p2)).eval (tm (n+3))=.int k2 p2:=by rw[bp];exact bA (by rw[Jc];omega)
   have L0:(A.put (some (n+3)) (.int k2 p2)).eval (ki k2 q2)=.int k2 q2:=rfl
   have hg:(eqGuard op2 T2 (tm (n+3)) (ki k2 q2) (.int k2 p2) (.int k2 q2)).run P w=.ok () w:=by unfold eqGuard;cases op2<;>simp
   simp only[execOp,mk,he,L0,Sem.run_bind,hg,Result.andThen_ok,jK JH,Sem.run_pure]
  ·have Kt:=Jp.put (.bool b2) (d:=n+4) aa
   refine ir (b:=b1) (by rw[bp,b8 aa,b8 aa];exact Ja) (wpList_nil ?_)
   refine h _ (Kt.put _ aa) ?_
   rw[bp,bA (by simp only[bq];rw[Jc];omega)]
   subst Yt P2
   have JS:((A.put (some (n+3)) (.int k2 p2)).put (some (n+4)) (.bool b2)).eval (tm (n+4))=.bool b2:=by rw[bp];exact bA (by simp only[bq];rw[Jc];omega)
   cases b1<;>simp[JS]
 ·refine fr (Le A rfl Ja) hb ?_
  refine fr (Le _ (bq _ _ _) (by rw[b8 aa];exact Ja)) hb ?_
  have Kt:=(IW.put undef (d:=n+3) aa).put undef (d:=n+4) aa
  refine ir (b:=b1) (by rw[bp,b8 aa,b8 aa];exact Ja) (wpList_nil ?_)
  refine h _ (Kt.put _ aa) ?_
  rw[bp,bA (by simp only[bq];rw[Jc];omega)]
  subst Yt P2
  cases b1<;>cases and<;>simp_all<;>rfl
theorem rZ {g:G}{cx:Cx}{lo:Nat}{hi:Option Nat}{A:GC}{ver:Int}(hv:a.get cx.ver=.int .i16 ver)(hm:m<=k0)(hk:k0<=n)(Vp:cx.ver<n)(hA:Up A)(hn:(fO g cx lo hi A n).2<=a.tmps.size)
  (h:∀ a' n',Pv x m k0 n a a'->n<=n'->n'<=n+6->(fO g cx lo hi A n).2=(A n').2->ml lo hi ver=true->cf P (A n').1 Q a' w) (Ki:∀ a',Pv x m k0 n a a'->ml lo hi ver=false->Q .normal a' w):cf P (fO g cx lo hi A n).1 Q a w:=by
 have X3:∀ (v:Int),a.eval (ki .i16 v)=.int .i16 v:=λv=>rfl
 cases hi with
 | none=>
  by_cases h0:lo=0
  ·subst h0
   simp only[fO,aw]
   exact h a n (Pv.refl _ _ _ _ _) (ae _) aa (by simp[fO]) (by simp[ml])
  ·simp only[fO,al h0,gb,cY,cp]at hn
   have:=hA (n+2)
   simp only[fO,al h0]
   by_cases Kh:(lo:Int)<=ver
   ·refine eX (bv ?_)
    rw[bp,hv]
    refine cZ (b:=true) (q:=lo) (p:=ver) (k:=.i16) (by rw[bp,bA aa]) rfl (.inl ⟨rfl,by simp;omega⟩) (wpList_nil ?_)
    exact⟨by rw[bp,bA (by simp only[bq];omega)],h _ (n+2) (((Pv.refl _ _ _ _ _).put _ aa).put _ aa) aa aa (by simp[fO,h0,gb,cY,cp]) (by simp[ml,Kh])⟩
   ·refine eK (bv ?_)
    rw[bp,hv]
    refine cZ (b:=false) (q:=lo) (p:=ver) (k:=.i16) (by rw[bp,bA aa]) rfl (.inl ⟨rfl,by simp;omega⟩) (wpList_nil ?_)
    exact⟨by rw[bp,bA (by simp only[bq];omega)],.skip (Ki _ (((Pv.refl _ _ _ _ _).put _ aa).put _ aa) (by simp[ml,Kh,h0]))⟩
 | some hh=>
  simp only[fO,gb,cY,cp]at hn
  have:=hA (n+6)
  replace hn:n+6<=a.tmps.size:=by omega
  have key:∀ (b:Bool),b=(decide ((lo:Int)<=(ver:Int))&&decide ((ver:Int)<=(hh:Int)))->ml lo (some hh) ver=b:=by
   intro b hb
   rw[hb]
   simp[ml]
  by_cases S9:(lo:Int)<=ver/\ver<=(hh:Int)
  ·refine eX (vq (b1:=true) (b2:=true) (x:=x) (m:=m) (k0:=k0) hm hk hn Vp hv hv (.inl ⟨rfl,by simp;omega⟩) (.inr (.inl ⟨rfl,by simp;omega⟩)) true _ _ rfl rfl λa' hp he=>?_)
   exact⟨by simpa using he,h a' (n+6) hp aa aa (by simp[fO,gb,cY,cp]) (by simp[ml];omega)⟩
  ·refine eK (vq (b1:=decide ((lo:Int)<=(ver:Int))) (b2:=decide ((ver:Int)<=(hh:Int))) (x:=x) (m:=m) (k0:=k0) hm hk hn Vp hv hv (.inl ⟨rfl,rfl⟩) (.inr (.inl ⟨rfl,rfl⟩)) true _ _ rfl rfl λa' hp he=>?_)
   refine⟨?_,.skip (Ki a' hp (by simp[ml];omega))⟩
   rw[he]
   simp
   omega
end
structure gh (R B:Nat)(Z:Nat->Prop)(w w':World):Prop where
 keeps:br (λk=>k=R \/ k=B) w w'
 blk:∀ cs te,w.heap[B]?=some (.cells cs te (0,0))->∃ cs',w'.heap[B]?=some (.cells cs' te (0,0))/\cs'.size=cs.size/\∀ j,¬ Z j->cs'[j]?=cs[j]?
theorem gh.refl (R B:Nat)(Z:Nat->Prop)(w:World):gh R B Z w w:=⟨br.refl _ _,λcs _ h=>⟨cs,h,rfl,λ_ _=>rfl⟩⟩
theorem gh.trans {R B:Nat}{Z:Nat->Prop}{a b c:World}(h:gh R B Z a b)(k:gh R B Z b c):gh R B Z a c:=
 ⟨h.keeps.trans k.keeps,λcs te hc=>by
  obtain⟨c1,h1,h2,h3⟩:=h.blk cs te hc
  obtain⟨c2,k1,k2,k3⟩:=k.blk c1 te h1
  exact⟨c2,k1,k2.trans h2,λj hj=>(k3 j hj).trans (h3 j hj)⟩⟩
theorem gh.mono {R B:Nat}{Z Z':Nat->Prop}{a b:World}(h:gh R B Z a b)(hz:∀ j,Z j->Z' j):gh R B Z' a b:=
 ⟨h.keeps,λcs te hc=>by
  obtain⟨c1,k1,k2,k3⟩:=h.blk cs te hc
  exact⟨c1,k1,k2,λj hj=>k3 j λhh=>hj (hz j hh)⟩⟩
theorem gh.of_keeps {X:Nat->Prop}{R B:Nat}{Z:Nat->Prop}{w w':World}(h:br X w w')(hx:∀ k,k<w.heap.size->X k->k=R)(hB:B≠R):gh R B Z w w':=
 ⟨h.mono λk hk hX=>.inl (hx k hk hX),λcs te hc=>⟨cs,by
  have IU:B<w.heap.size:=(aj.1 hc).1
  rw[h.block B IU λhX=>hB (hx B IU hX)];exact hc,rfl,λ_ _=>rfl⟩⟩
theorem gh.store {R B lo:Nat}{Z:Nat->Prop}{w:World}{cur:Array Value}{te:TypeId}{cs:List Value}(hB:w.heap[B]?=some (.cells cur te (0,0)))(hs:lo+cs.length<=cur.size)(hz:∀ j,lo<=j->j<lo+cs.length->Z j) :
  gh R B Z w (w.setRow B (bV cur lo cs)):=by
 refine⟨br.setRow _ w B _ (.inr rfl),λc te' hc=>?_⟩
 rw[hB]at hc
 obtain⟨rfl,rfl,_⟩:=Obj.cells.inj (au hc)
 refine⟨_,setRow_heap w B cur _ te (0,0) hB,fF hs,λj hj=>dL hs j ?_⟩
 rcases bm j lo with h|h
 ·exact .inl h
 ·rcases bm j (lo+cs.length)with h2|h2
  ·exact absurd (hz j h h2) hj
  ·exact .inr h2
theorem gh.cell {R B:Nat}{Z:Nat->Prop}{w w':World}(h:gh R B Z w w'){cs:Array Value}{te:TypeId}(hB:w.heap[B]?=some (.cells cs te (0,0))){j:Nat}(hj:¬ Z j):w'.cell? ⟨B,j,none⟩=w.cell? ⟨B,j,none⟩:=by
 obtain⟨c1,k1,_,k3⟩:=h.blk cs te hB
 simp[World.cell?,hB,k1,k3 j hj]
def vi (w0:World)(S:Nat)(T:(Nat->Prop)->Prop):Prop:=∀ X:Nat->Prop,(∀ k,X k->k<w0.heap.size)->¬ X S->T X
theorem Rp.evo {w0:World}{S R B:Nat}{Z:Nat->Prop}{w w':World}(h:gh R B Z w w')(hR:R<w0.heap.size)(hB0:B<w0.heap.size)(hRS:R≠S)(MB:B≠S){ty:Ty}{o:Nat}{v:V}(hv:vi w0 S λX=>Rp w X ty B o v)
  (hd:∀ j,o<=j->j<o+ty.sz->¬ Z j) {cs:Array Value} {te:TypeId} (hB:w.heap[B]?=some (.cells cs te (0,0))):vi w0 S λX=>Rp w' X ty B o v:=by
 intro X hX hS
 have h1:=hv (λk=>X k \/ k=R \/ k=B) (λk hk=>by rcases hk with hk|rfl|rfl<;>first|exact hX k hk|assumption) (λhk=>by rcases hk with hk|hk|hk<;>first|exact hS hk|exact hRS hk.symm|exact MB hk.symm)
 have h2:=Rp.frame (h.keeps.mono λk _ hk=>.inr hk) ty B o v h1 λj h3 h4=>h.cell hB (hd j h3 h4)
 exact Rp.mono (λk _ hk=>.inl hk) ty B o v h2
structure fX (cx:Cx)(m k0:Nat):Prop where
 b:cx.b<m/\cx.b≠6
 s:cx.s<m/\cx.s≠6
 ver:cx.ver<m/\cx.ver≠6
 fx:cx.fx<m/\cx.fx≠6
 six:6<m
 le:m<=k0
structure RC (g:G)(cx:Cx)(fx:Bool)(ver:Int)(S R B O:Nat)(r:RS)(a:Act)(w:World):Prop where
 rd:ep w g.tR S R r
 sb:a.get cx.b=pt R 0
 ss:a.get cx.s=pt B O
 sv:a.get cx.ver=.int .i16 ver
 sf:cx.hf=true->a.get cx.fx=.bool fx
 nf:cx.hf=false->fx=false
 su:a.get 2=.bool false
 err:ErrAt g.gErr w
 SR:S≠R
 BR:B≠R
 BS:B≠S
 gR:g.gErr≠R
 gB:g.gErr≠B
 Slt:S<w.heap.size
theorem RC.step {g:G}{cx:Cx}{fx:Bool}{ver:Int}{S R B O:Nat}{r r':RS}{a a':Act}{w w':World}{m k0 n:Nat}{X:Nat->Prop}(h:RC g cx fx ver S R B O r a w)(hc:fX cx m k0)(hp:Pv 6 m k0 n a a')(hr:ep w' g.tR S R r')
  (hk:br X w w') (hX:∀ k,k<w.heap.size->X k->k=R \/ k=B):RC g cx fx ver S R B O r' a' w':=by
 obtain⟨t,x,he⟩:=h.err
 exact⟨hr,(hp.get _ hc.b.2 (.inl hc.b.1)).trans h.sb,(hp.get _ hc.s.2 (.inl hc.s.1)).trans h.ss,(hp.get _ hc.ver.2 (.inl hc.ver.1)).trans h.sv,λhf=>(hp.get _ hc.fx.2 (.inl hc.fx.1)).trans (h.sf hf),h.nf,
  (hp.get 2 aa (.inl (by have:=hc.six;omega))).trans h.su,ErrAt.keep ⟨t,x,he⟩ hk (λhx=>by
   rcases hX _ (e8 he) hx with e|e
   ·exact h.gR e
   ·exact h.gB e),h.SR,h.BR,h.BS,h.gR,h.gB,az h.Slt hk.size⟩
def Iq (w:World)(a:Act)(uu:Option Nat)(v:Nat)(cs:List Value):Prop:=
 match uu with
 | none=>∃ y,a.get v=y/\y.cells.toList=cs
 | some _=>∃ b o,a.get v=.pointer (some ⟨b,o,none⟩)/\bB w b o cs
def o5 (av:PF->Bool)(hf:Bool):Ty->Bool
 | .prim p=>av (cQ p)
 | .str none=>av .str&&(!hf || av .cstr)
 | .str (some 0)=>av .nstr&&(!hf || av .cnstr)
 | .str (some (_+1))=>av .str&&av .nstr&&(!hf || (av .cstr&&av .cnstr))
 | .bytes none=>av .bytes&&(!hf || av .cbytes)
 | .bytes (some 0)=>av .nbytes&&(!hf || av .cnbytes)
 | _=>false
section
variable {P:Program} {g:G} {av:PF->Bool} {fl:Bool} {cx:Cx} {fx:Bool} {ver:Int} {S R B O:Nat} {r:RS} {m k0 n:Nat} {Q:Exit->Act->World->Prop} {a:Act} {w:World}
def FU (g:G)(S R:Nat)(p:PF)(ty:Ty)(r:RS)(w:World)(val:Value)(w':World):Prop:=
 ep w' g.tR S R (p.run r).2/\br (·=R) w w'/\∀ X:Nat->Prop,(∀ k,X k->k<w.heap.size)->¬ X S->jD w' X ty val.cells.toList (p.run r).1
theorem rY (K:KB P g av fl){K':Act->World->Prop}{p:PF}(hp:av p=true)(IQ:RC g cx fx ver S R B O r a w){v:Nat}(hv:m<=v/\v<k0)(hm:m<=k0)(hk:k0<=n)(hn:n<a.tmps.size)(Kg:v<a.tmps.size)
  (h:∀ a' w' val,Pv 6 m k0 n a a'->a'.get v=val->FU g S R p (j8 p) r w val w'->K' a' w'):cf P (bQ (g.rd p) cx.b v n).1 (Exit.then K' Q) a w:=by
 refine mz (x:=6) (m:=m) (k0:=k0) (K.rdE p hp) IQ.sb (K.rdC p hp w S R r IQ.rd IQ.SR) (.inr hv) hm hk hn Kg λe w' hR=>?_
 obtain⟨val,he,h1,h2,h3⟩:=hR
 exact⟨val,he,λa' hp hg=>h a' w' val hp hg ⟨h1,h2,h3⟩⟩
theorem A4 (K:KB P g av fl){K':Act->World->Prop}{p q:PF}(hp:av p=true)(hq:av q=true)(J7:cx.hf=true)(IQ:RC g cx fx ver S R B O r a w)(hc:fX cx m k0){v:Nat}(hv:m<=v/\v<k0)(hk:k0<=n)(hn:n+3<=a.tmps.size)(Kg:v<a.tmps.size)
  (h:∀ a' w' val,Pv 6 m k0 n a a'->a'.get v=val->FU g S R (if fx then p else q) (j8 (if fx then p else q)) r w val w'->K' a' w') :
  cf P (jF cx (bQ (g.rd p) cx.b v) (bQ (g.rd q) cx.b v) n).1 (Exit.then K' Q) a w:=by
 refine q4 (x:=6) (m:=m) (k0:=k0) (fx:=fx) (IQ.sf J7) hc.le hk aa λa' Jx=>?_
 have hrc':RC g cx fx ver S R B O r a' w:=IQ.step hc Jx IQ.rd (br.refl (λ_=>False) w) (λ_ _ h=>h.elim)
 have Jc:=Jx.size
 cases fx with
 | true=>
  simp only[aw]at h ⊢
  exact rY K hp hrc' hv hc.le (by omega:k0<=n+1) aa aa λa2 w2 val h1 h2 h3=>h a2 w2 val (Jx.trans (h1.mono (ae _) aa)) h2 h3
 | false=>
  simp only[ag,ak]at h ⊢
  exact rY K hq hrc' hv hc.le (by simp[bQ,bL];omega) (by simp[bQ,bL];omega) aa λa2 w2 val h1 h2 h3=>h a2 w2 val (Jx.trans (h1.mono (ae _) (by simp[bQ,bL];omega))) h2 h3
theorem A5 (K:KB P g av fl){K':Act->World->Prop}(hp:av .nstr=true)(hq:cx.hf=true->av .cnstr=true)(IQ:RC g cx fx ver S R B O r a w)(hc:fX cx m k0){v:Nat}(hv:m<=v/\v<k0)(hk:k0<=n)
  (hn:((if cx.hf then jF cx (kM (bQ (g.un .cnstr) cx.b v) (bQ (g.rd .cnstr) cx.b v)) (kM (bQ (g.un .nstr) cx.b v) (bQ (g.rd .nstr) cx.b v))else kM (bQ (g.un .nstr) cx.b v) (bQ (g.rd .nstr) cx.b v):GC) n).2<=a.tmps.size) (Kg:v<a.tmps.size)
  (h:∀ a' w' val,Pv 6 m k0 n a a'->a'.get v=val->FU g S R (ej true fx) (.str (some 0)) r w val w'->K' a' w') :
  cf P ((if cx.hf then jF cx (kM (bQ (g.un .cnstr) cx.b v) (bQ (g.rd .cnstr) cx.b v)) (kM (bQ (g.un .nstr) cx.b v) (bQ (g.rd .nstr) cx.b v))else kM (bQ (g.un .nstr) cx.b v) (bQ (g.rd .nstr) cx.b v):GC) n).1 (Exit.then K' Q) a w:=by
 cases J7:cx.hf with
 | true=>
  simp only[J7,aw,jF,kM,gb,bQ,bL]at hn
  simp only[aw]
  refine q4 (x:=6) (m:=m) (k0:=k0) (fx:=fx) (IQ.sf J7) hc.le hk aa λa1 IP=>?_
  have IX:=IP.size
  have Jk:RC g cx fx ver S R B O r a1 w:=IQ.step hc IP IQ.rd (br.refl (λ_=>False) w) (λ_ _ h=>h.elim)
  cases fx with
  | true=>
   simp only[aw]
   refine uh (x:=6) (m:=m) (k0:=k0) Jk.su hc.le aa aa λa2 IR=>?_
   have Jr:=IR.size
   have JJ:RC g cx true ver S R B O r a2 w:=Jk.step hc IR Jk.rd (br.refl (λ_=>False) w) (λ_ _ h=>h.elim)
   simp only[bQ,bL]at IR ⊢
   exact rY K (hq J7) JJ hv hc.le aa aa aa λa3 w3 val h1 h2 h3=>h a3 w3 val ((IP.trans (IR.mono (ae _) aa)).trans (h1.mono (ae _) aa)) h2 h3
  | false=>
   simp only[ag,ak]
   refine uh (x:=6) (m:=m) (k0:=k0) Jk.su hc.le (by simp[kM,gb,bQ,bL];omega) (by simp[kM,gb,bQ,bL];omega) λa2 IR=>?_
   have Jr:=IR.size
   have JJ:RC g cx false ver S R B O r a2 w:=Jk.step hc IR Jk.rd (br.refl (λ_=>False) w) (λ_ _ h=>h.elim)
   simp only[kM,gb,bQ,bL]at IR ⊢
   exact rY K hp JJ hv hc.le aa aa aa λa3 w3 val h1 h2 h3=>h a3 w3 val ((IP.trans (IR.mono (ae _) aa)).trans (h1.mono (ae _) aa)) h2 h3
 | false=>
  have Ku:=IQ.nf J7
  subst Ku
  simp only[J7,ag,ak,kM,gb,bQ,bL]at hn
  simp only[ag,ak]
  refine uh (x:=6) (m:=m) (k0:=k0) IQ.su hc.le hk aa λa2 IR=>?_
  have Jr:=IR.size
  have JJ:RC g cx false ver S R B O r a2 w:=IQ.step hc IR IQ.rd (br.refl (λ_=>False) w) (λ_ _ h=>h.elim)
  simp only[bQ,bL]at IR ⊢
  exact rY K hp JJ hv hc.le aa aa aa λa3 w3 val h1 h2 h3=>h a3 w3 val (IR.trans (h1.mono (ae _) aa)) h2 h3
theorem rX (K:KB P g av fl){K':Act->World->Prop}{p:PF}(hp:av p=true)(P5:j8 p=.str none)(IQ:RC g cx fx ver S R B O r a w){vv q:Nat}{cur:Array Value}(Mw:a.get vv=pt q 0)(hq:w.heap[q]?=some (.cells cur g.tStr (0,0)))(Tg:cur.size=1)(S0:q≠R)(R1:q≠S)
  (hm:m<=k0) (hk:k0<=n) (Rb:vv<n) (hn:n<a.tmps.size)
  (h:∀ a' w',Pv 6 m k0 n a a'->(∃ l:Bs,(p.run r).1=.s l/\l.length<=maxLen/\w'.cell? ⟨q,0,none⟩=some (.string ⟨l.toArray⟩))->ep w' g.tR S R (p.run r).2->br (λk=>k=R \/ k=q) w w'->K' a' w') :
  cf P (bL 1 (λn=>[cl (some n) (g.rd p) [tm cx.b],mk none (.store g.tStr (tm vv) (tm n))]) n).1 (Exit.then K' Q) a w:=by
 refine bF (cj (vs:=#[pt R 0]) (K.rdE p hp) (by simp[bp,IQ.sb]) (K.rdC p hp w S R r IQ.rd IQ.SR) λe w' hR=>?_)
 obtain⟨val,he,h1,h2,h3⟩:=hR
 refine⟨val,he,?_⟩
 have hl:=h3 (λ_=>False) (λ_ h=>h.elim) (λh=>h.elim)
 rw[P5]at hl
 obtain⟨l,Mi,Ph,Oq⟩:=hl
 have R0:q<w.heap.size:=(aj.1 hq).1
 have Vg:w'.heap[q]?=some (.cells cur g.tStr (0,0)):=by rw[h2.block q R0 S0];exact hq
 refine cK (g:=q) (o:=0) (cur:=cur) (t:=g.tStr) (v:=val) (vs:=val.cells.toList) ?_ ?_ rfl (by rw[Mi];exact K.vStr.1.size _) Vg (by rw[Mi];simp;omega) (by rw[Mi];simp[Value.oneCell']) (wpList_nil ?_)
 ·rw[bp,b8 aa];exact Mw
 ·rw[bp,fh _ _ _ hn]
 ·refine h _ _ ((Pv.refl _ _ _ _ _).put _ aa) ⟨l,Ph,Oq,?_⟩ ?_ ?_
  ·rw[cell_setRow_same _ _ _ _ _ _ _ Vg,Mi]
   have:=dn (cur:=cur) (o:=0) (vs:=[Value.string ⟨l.toArray⟩]) (by simp;omega) 0 ab
   simpa using this
  ·have Vl:br (λk=>k=q) w' (w'.setRow q (bV cur 0 val.cells.toList)):=br.setRow _ _ _ _ rfl
   exact h1.keep Vl (Ne.symm R1) (Ne.symm S0)
  ·have Vl:br (λk=>k=R \/ k=q) w' (w'.setRow q (bV cur 0 val.cells.toList)):=br.setRow _ _ _ _ (.inr rfl)
   exact(h2.mono λ_ _ h=>.inl h).trans Vl
def zh (g:G)(cx:Cx)(t f:Nat):GC:=bL 1 λn=>[cl (some n) f [tm cx.b],mk none (.store g.tStr (tm t) (tm n))]
def iD (g:G)(cx:Cx)(t:Nat):GC:=if cx.hf then jF cx (kM (zh g cx t (g.un .cstr)) (zh g cx t (g.rd .cstr))) (kM (zh g cx t (g.un .str)) (zh g cx t (g.rd .str)))else kM (zh g cx t (g.un .str)) (zh g cx t (g.rd .str))
def FS (g:G)(cx:Cx)(v:Nat):GC:=if cx.hf then jF cx (kM (bQ (g.un .cnstr) cx.b v) (bQ (g.rd .cnstr) cx.b v)) (kM (bQ (g.un .nstr) cx.b v) (bQ (g.rd .nstr) cx.b v))else kM (bQ (g.un .nstr) cx.b v) (bQ (g.rd .nstr) cx.b v)
theorem y6 (g:G)(cx:Cx)(t:Nat):Up (iD g cx t):=by
 unfold iD
 split
 ·exact dG (dG (bD _ _) (bD _ _)) (dG (bD _ _) (bD _ _))
 ·exact dG (bD _ _) (bD _ _)
theorem Gb (g:G)(cx:Cx)(t:Nat):Up (FS g cx t):=by
 unfold FS
 split
 ·exact dG (dG (bD _ _) (bD _ _)) (dG (bD _ _) (bD _ _))
 ·exact dG (bD _ _) (bD _ _)
theorem fX.high (h:fX cx m k0):fX cx k0 k0:=
 have:=h.le
 ⟨⟨by have:=h.b;omega,h.b.2⟩,⟨by have:=h.s;omega,h.s.2⟩,⟨by have:=h.ver;omega,h.ver.2⟩,⟨by have:=h.fx;omega,h.fx.2⟩,by have:=h.six;omega,ae _⟩
theorem A8 (K:KB P g av fl){K':Act->World->Prop}(hp:av .str=true)(IR:cx.hf=true->av .cstr=true)(IQ:RC g cx fx ver S R B O r a w)(hc:fX cx k0 k0){vv q:Nat}{cur:Array Value}(Mw:a.get vv=pt q 0)(PU:vv<k0)(Q4:vv≠6)(hq:w.heap[q]?=some (.cells cur g.tStr (0,0)))(Tg:cur.size=1)(S0:q≠R)(R1:q≠S)
  (hk:k0<=n) (hn:(iD g cx vv n).2<=a.tmps.size)
  (h:∀ a' w',Pv 6 k0 k0 n a a'->(∃ l:Bs,((ej false fx).run r).1=.s l/\l.length<=maxLen/\w'.cell? ⟨q,0,none⟩=some (.string ⟨l.toArray⟩))->ep w' g.tR S R ((ej false fx).run r).2->br (λk=>k=R \/ k=q) w w'->K' a' w') :
  cf P (iD g cx vv n).1 (Exit.then K' Q) a w:=by
 unfold iD at hn ⊢
 cases J7:cx.hf with
 | true=>
  simp only[J7,aw,jF,kM,zh,gb,bL]at hn
  simp only[aw]
  refine q4 (x:=6) (m:=k0) (k0:=k0) (fx:=fx) (IQ.sf J7) (ae _) hk aa λa1 IP=>?_
  have IX:=IP.size
  have Jk:RC g cx fx ver S R B O r a1 w:=IQ.step hc IP IQ.rd (br.refl (λ_=>False) w) (λ_ _ h=>h.elim)
  have Lf:a1.get vv=pt q 0:=(IP.get vv Q4 (.inl PU)).trans Mw
  cases fx with
  | true=>
   simp only[aw]
   refine uh (x:=6) (m:=k0) (k0:=k0) Jk.su (ae _) aa aa λa2 hp2'=>?_
   have Jr:=hp2'.size
   have JJ:RC g cx true ver S R B O r a2 w:=Jk.step hc hp2' Jk.rd (br.refl (λ_=>False) w) (λ_ _ h=>h.elim)
   have Mf:a2.get vv=pt q 0:=(hp2'.get vv Q4 (.inl PU)).trans Lf
   simp only[zh,bL]at hp2' ⊢
   exact rX K (p:=.cstr) (IR J7) rfl JJ Mf hq Tg S0 R1 (ae _) aa aa aa λa3 w3 h1 h2 h3 h4=>h a3 w3 ((IP.trans (hp2'.mono (ae _) aa)).trans (h1.mono (ae _) aa)) h2 h3 h4
  | false=>
   simp only[ag,ak]
   refine uh (x:=6) (m:=k0) (k0:=k0) Jk.su (ae _) (by simp[kM,gb,zh,bL];omega) (by simp[kM,gb,zh,bL];omega) λa2 hp2'=>?_
   have Jr:=hp2'.size
   have JJ:RC g cx false ver S R B O r a2 w:=Jk.step hc hp2' Jk.rd (br.refl (λ_=>False) w) (λ_ _ h=>h.elim)
   have Mf:a2.get vv=pt q 0:=(hp2'.get vv Q4 (.inl PU)).trans Lf
   simp only[kM,gb,zh,bL]at hp2' ⊢
   exact rX K (p:=.str) hp rfl JJ Mf hq Tg S0 R1 (ae _) aa aa aa λa3 w3 h1 h2 h3 h4=>h a3 w3 ((IP.trans (hp2'.mono (ae _) aa)).trans (h1.mono (ae _) aa)) h2 h3 h4
 | false=>
  have Ku:=IQ.nf J7
  subst Ku
  simp only[J7,ag,ak,kM,zh,gb,bL]at hn
  simp only[ag,ak]
  refine uh (x:=6) (m:=k0) (k0:=k0) IQ.su (ae _) hk aa λa2 hp2'=>?_
  have Jr:=hp2'.size
  have JJ:RC g cx false ver S R B O r a2 w:=IQ.step hc hp2' IQ.rd (br.refl (λ_=>False) w) (λ_ _ h=>h.elim)
  have Mf:a2.get vv=pt q 0:=(hp2'.get vv Q4 (.inl PU)).trans Mw
  simp only[zh,bL]at hp2' ⊢
  exact rX K (p:=.str) hp rfl JJ Mf hq Tg S0 R1 (ae _) aa aa aa λa3 w3 h1 h2 h3 h4=>h a3 w3 (hp2'.trans (h1.mono (ae _) aa)) h2 h3 h4
def ga (fx:Bool)(ver:Int)(ty:Ty)(r:RS):V × RS:=
 match ty with
 | .prim p=>(cQ p).run r
 | .str nul=>(ej (eM nul ver) fx).run r
 | .bytes nul=>(dm (eM nul ver) fx).run r
 | _=>(.nul,r)
theorem qW (fx:Bool)(ver:Int)(ty:Ty)(old:V)(r:RS)(h:ty.leaf=true):dy fx ver ty old r=.ok (ga fx ver ty r).1 (ga fx ver ty r).2:=by
 cases ty<;>first|rfl|cases h
def lR (m k0 v:Nat)(x:List Nat):Bool:=decide (m<=v/\v<k0)&&x.all λt=>decide (m<=t/\t<k0)&&t != v
def yj (g:G)(S R:Nat)(ty:Ty)(m k0 n v:Nat)(a:Act)(w:World)(res:V × RS)(a':Act)(w':World):Prop:=
 ∃ cs,Pv 6 m k0 n a a'/\Iq w' a' (mr g ty) v cs/\ep w' g.tR S R res.2/\br (·=R) w w'/\∀ X:Nat->Prop,(∀ k,X k->k<w.heap.size)->¬ X S->jD w' X ty cs res.1
theorem ef {p:PF}{ty:Ty}{v:Nat}{a':Act}{w':World}{val:Value}{res:V × RS}(hu:mr g ty=none)(h1:Pv 6 m k0 n a a')(h2:a'.get v=val)(h3:FU g S R p (j8 p) r w val w')(Nn:res=p.run r)
  (hl:∀ X cs y,jD w' X (j8 p) cs y->jD w' X ty cs y):yj g S R ty m k0 n v a w res a' w':=by
 subst Nn
 refine⟨val.cells.toList,h1,?_,h3.1,h3.2.1,λX hX hS=>hl X _ _ (h3.2.2 X hX hS)⟩
 rw[hu]
 exact⟨val,h2,rfl⟩
theorem fL {cur:Array Value}{cs:List Value}(h:cs.length=cur.size):bV cur 0 cs=cs.toArray:=by
 simp[bV,h]
theorem DF (K:KB P g av fl){ty:Ty}{v:Nat}{x:List Nat}{rest:List GC}(L5:o5 av cx.hf ty=true)(IQ:RC g cx fx ver S R B O r a w)(hc:fX cx m k0)(hk:k0<=n)(Jo:lR m k0 v x=true)(JM:k0<=a.tmps.size)
  (hx:(∃ t,x=[t]/\∃ q,ty=.str (some (q+1))) \/ (x=[]/\∀ q,ty≠.str (some (q+1))) \/ (∃ t u,x=[t,u]/\∃ p,ty=.prim p/\p≠.uuid))
  (hN:(gL (jx g cx ty v x) n).2<=a.tmps.size)
  (h:∀ a' w',yj g S R ty m k0 n v a w (ga fx ver ty r) a' w'->LW P rest (gL (jx g cx ty v x) n).2 Q a' w') :
  LW P (jx g cx ty v x++rest) n Q a w:=by
 have MD:m<=v/\v<k0:=by simp only[lR,ac,ai]at Jo;exact Jo.1
 have VZ:∀ t∈x,(m<=t/\t<k0)/\t≠v:=λt ht=>by
  simp only[lR,ac,ai,aT]at Jo
  have:=Jo.2 t ht
  simpa using this
 cases ty with
 | list=>cases L5
 | struct=>cases L5
 | prim p=>
  by_cases hu:p=.uuid
  ·subst hu
   rcases hx with⟨t,rfl,q,hq⟩|⟨rfl,_⟩|⟨t,u,rfl,p,hp,KH⟩
   ·cases hq
   ·simp only[o5,cQ]at L5
    simp only[jx,gL,bL]at hN
    refine bt (bF (cj (vs:=#[pt R 0]) (K.rdE .uuid L5) (by simp[bp,IQ.sb]) (K.rdC .uuid L5 w S R r IQ.rd IQ.SR) λe w' hR=>?_))
    obtain⟨val,he,h1,h2,h3⟩:=hR
    refine⟨val,he,?_⟩
    obtain⟨hvU,hzU⟩:=K.uuid L5
    refine fe (hzU w') ?_
    have hl:=(h3 (λ_=>False) (λ_ h=>h.elim) (λh=>h.elim)).len
    have MT:val.cells.toList.length=16:=by simpa[j8,Ty.sz]using hl
    have Jv:∀ y∈val.cells.toList,y.oneCell'=true:=by
     obtain⟨l,_,Ph,_⟩:=h3 (λ_=>False) (λ_ h=>h.elim) (λh=>h.elim)
     intro y hy
     rw[Ph]at hy
     obtain⟨b,_,rfl⟩:=aP.1 hy
     rfl
    have Lp:(w'.alloc (.cells (Value.agg (Array.replicate 16 (.int .u8 0))).cells g.tUuid (0,0))).heap[w'.heap.size]?=some (.cells (Array.replicate 16 (.int .u8 0)) g.tUuid (0,0)):=heap_alloc_new w' _
    refine cK (g:=w'.heap.size) (o:=0) (cur:=Array.replicate 16 (.int .u8 0)) (t:=g.tUuid) (v:=val) (vs:=val.cells.toList) ?_ ?_ rfl (by rw[MT];exact hvU.size _) Lp (by rw[MT];simp) Jv (wpList_nil ?_)
    ·rw[bp,bA (by simp only[bq];omega)]
    ·rw[bp,b8 aa,bA aa]
    ·have LX:br (·=R) w' (w'.alloc (.cells (Value.agg (Array.replicate 16 (.int .u8 0))).cells g.tUuid (0,0))):=br.alloc _ _ _
     have Vl:br (λk=>k=w'.heap.size) (w'.alloc (.cells (Value.agg (Array.replicate 16 (.int .u8 0))).cells g.tUuid (0,0))) ((w'.alloc (.cells (Value.agg (Array.replicate 16 (.int .u8 0))).cells g.tUuid (0,0))).setRow w'.heap.size (bV (Array.replicate 16 (.int .u8 0)) 0 val.cells.toList)):=
      br.setRow _ _ _ _ rfl
     have hk0':br (λ_=>False) w' ((w'.alloc (.cells (Value.agg (Array.replicate 16 (.int .u8 0))).cells g.tUuid (0,0))).setRow w'.heap.size (bV (Array.replicate 16 (.int .u8 0)) 0 val.cells.toList)):=
      ⟨rfl,rfl,rfl,by simp,λk K5 _=>by rw[setRow_other _ _ _ _ aa];exact(br.alloc (λ_=>False) w' _).block k K5 id⟩
     refine h _ _ ⟨val.cells.toList,((Pv.refl _ _ _ _ _).put _ aa).put _ aa,⟨w'.heap.size,0,bA (by simp only[bq];omega),?_⟩,?_,h2.trans (hk0'.mono λ_ _ h=>h.elim),λX hX hS=>?_⟩
     ·intro j c hj
      have K6:j<val.cells.toList.length:=(ah.1 hj).1
      rw[cell_setRow_same _ _ _ _ _ _ _ Lp,dn (by rw[MT];simp) j K6]
      exact hj
     ·exact h1.keep hk0' (λh=>h.elim) (λh=>h.elim)
     ·exact(h3 X hX hS).keep (hk0'.mono λ_ _ h=>h.elim)
   ·cases hp
    exact absurd rfl KH
  ·have OB:∀ y,jD y=jD y:=λ_=>rfl
   have NB:mr g (.prim p)=none:=by cases p<;>first|rfl|exact absurd rfl hu
   have P5:j8 (cQ p)=.prim p:=by cases p<;>rfl
   have Jy:ga fx ver (.prim p) r=(cQ p).run r:=rfl
   rcases hx with⟨t,rfl,q,hq⟩|⟨rfl,_⟩|⟨t,u,rfl,p',Jx,_⟩
   ·cases hq
   ·have hval:jx g cx (.prim p) v []=[bQ (g.rd (cQ p)) cx.b v]:=by cases p<;>first|rfl|exact absurd rfl hu
    rw[hval]at hN h ⊢
    simp only[gL,bQ,bL]at hN
    refine bt (rY K L5 IQ MD hc.le hk aa aa λa' w' val h1 h2 h3=>h a' w' ?_)
    exact ef NB h1 h2 h3 rfl (λX cs y hh=>by rw[<- P5];exact hh)
   ·have hval:jx g cx (.prim p) v [t,u]=[co t (.int .i8 0),gS [bQ (g.rd (cQ p)) cx.b u,dg u t],dg t v]:=by cases p<;>first|rfl|exact absurd rfl hu
    rw[hval]at hN h ⊢
    obtain⟨ht,Y4⟩:=VZ t ab
    obtain⟨Oh,OJ⟩:=VZ u ab
    simp only[gL,gS,bQ,dg,co,bL]at hN
    refine bt (eW (x:=6) (m:=m) (k0:=k0) (n:=n) (.inr ht) aa λa1 IP _=>?_)
    have Jk:RC g cx fx ver S R B O r a1 w:=IQ.step hc IP IQ.rd (br.refl (λ_=>False) w) (λ_ _ h=>h.elim)
    have IX:=IP.size
    refine bt (cC (bt (rY K L5 Jk Oh hc.le (by simpa[co,bL]using hk) (by simp[co,bL];omega) aa λa2 w2 val h1 h2 h3=>?_)))
    have Jr:=h1.size
    refine bt (gJ (x:=6) (m:=m) (k0:=k0) (.inr ht) hc.le (by simp[co,bL,bQ];omega) (by simp[co,bL,bQ];omega) aa λa3 IW Jw=>cD ?_)
    have JI:=IW.size
    refine bt (gJ (x:=6) (m:=m) (k0:=k0) (.inr MD) hc.le (by simp[gS,gL,co,bL,bQ,dg];omega) (by simp[gS,gL,co,bL,bQ,dg];omega) aa λa4 Jp JS=>h a4 w2 ?_)
    simp only[co,bL,bQ,gS,gL,dg]at IP h1 IW Jp
    have O7:Pv 6 m k0 n a a4:=((IP.trans (h1.mono (ae _) aa)).trans (IW.mono (ae _) aa)).trans (Jp.mono (ae _) aa)
    exact ef NB O7 (by rw[JS,Jw,h2]) h3 rfl (λX cs y hh=>by rw[<- P5];exact hh)
 | bytes nul=>
  have NB:mr g (.bytes nul)=none:=rfl
  obtain rfl:x=[]:=by
   rcases hx with⟨t,rfl,q,hq⟩|⟨rfl,_⟩|⟨t,u,rfl,p',Jx,_⟩
   ·cases hq
   ·rfl
   ·cases Jx
  have K1:nul=none \/ nul=some 0:=by
   cases nul with
   | none=>exact .inl rfl
   | some q=>cases q with
    | zero=>exact .inr rfl
    | succ q=>simp[o5]at L5
  have On:eM nul ver=nul.isSome:=by rcases K1 with rfl|rfl<;>simp[eM]
  have Mc:av (dm nul.isSome false)=true/\(cx.hf=true->av (dm nul.isSome true)=true):=by
   rcases K1 with rfl|rfl<;>simp only[o5,ac,aH,Bool.not_eq_true']at L5<;>refine⟨L5.1,λhh=>?_⟩<;>rcases L5.2 with h|h<;>first|(rw[hh]at h;cases h)|exact h
  have Jy:ga fx ver (.bytes nul) r=(dm nul.isSome fx).run r:=by simp only[ga,On]
  have P5:∀ (b:Bool) (w:World) X cs y,jD w X (j8 (dm nul.isSome b)) cs y->jD w X (.bytes nul) cs y:=by
   intro b w X cs y hh
   rcases K1 with rfl|rfl<;>cases b<;>exact hh
  cases J7:cx.hf with
  | true=>
   have hval:jx g cx (.bytes nul) v []=[co v (.slice none 0 0),jF cx (bQ (g.rd (dm nul.isSome true)) cx.b v) (bQ (g.rd (dm nul.isSome false)) cx.b v)]:=by simp[jx,J7]
   rw[hval]at hN h ⊢
   simp only[gL,jF,gb,bQ,co,bL]at hN
   refine bt (eW (x:=6) (m:=m) (k0:=k0) (n:=n) (.inr MD) aa λa1 IP _=>?_)
   have Jk:RC g cx fx ver S R B O r a1 w:=IQ.step hc IP IQ.rd (br.refl (λ_=>False) w) (λ_ _ h=>h.elim)
   have IX:=IP.size
   refine bt (A4 K (Mc.2 J7) Mc.1 J7 Jk hc MD (by simpa[co,bL]using hk) (by simp[co,bL];omega) aa λa2 w2 val h1 h2 h3=>h a2 w2 ?_)
   simp only[co,bL]at h1
   have e:(if fx=true then dm nul.isSome true else dm nul.isSome false)=dm nul.isSome fx:=by cases fx<;>rfl
   rw[e]at h3
   exact ef NB (IP.trans h1) h2 h3 Jy (P5 fx w2)
  | false=>
   have Ku:=IQ.nf J7
   subst Ku
   have hval:jx g cx (.bytes nul) v []=[bQ (g.rd (dm nul.isSome false)) cx.b v]:=by simp[jx,J7]
   rw[hval]at hN h ⊢
   simp only[gL,bQ,bL]at hN
   exact bt (rY K Mc.1 IQ MD hc.le hk aa aa λa' w' val h1 h2 h3=>h a' w' (ef NB h1 h2 h3 Jy (P5 false w')))
 | str nul=>
  have NB:mr g (.str nul)=none:=rfl
  cases nul with
  | none=>
   obtain rfl:x=[]:=by
    rcases hx with⟨t,rfl,q,hq⟩|⟨rfl,_⟩|⟨t,u,rfl,p',Jx,_⟩
    ·cases hq
    ·rfl
    ·cases Jx
   have Jy:ga fx ver (.str none) r=(ej false fx).run r:=rfl
   simp only[o5,ac,aH,Bool.not_eq_true']at L5
   have P5:∀ (b:Bool) (w:World) X cs y,jD w X (j8 (ej false b)) cs y->jD w X (.str none) cs y:=by
    intro b w X cs y hh
    cases b<;>exact hh
   cases J7:cx.hf with
   | true=>
    have hval:jx g cx (.str none) v []=[co v (.string ⟨#[]⟩),kM (jF cx (bQ (g.un .cstr) cx.b v) (bQ (g.un .str) cx.b v)) (jF cx (bQ (g.rd .cstr) cx.b v) (bQ (g.rd .str) cx.b v))]:=by simp[jx,J7]
    rw[hval]at hN h ⊢
    simp only[gL,kM,jF,gb,bQ,co,bL]at hN
    have Mc:av .cstr=true:=by rcases L5.2 with h|h;rw[J7]at h;cases h;exact h
    refine bt (eW (x:=6) (m:=m) (k0:=k0) (n:=n) (.inr MD) aa λa1 IP _=>?_)
    have Jk:RC g cx fx ver S R B O r a1 w:=IQ.step hc IP IQ.rd (br.refl (λ_=>False) w) (λ_ _ h=>h.elim)
    have IX:=IP.size
    refine bt (uh (x:=6) (m:=m) (k0:=k0) Jk.su hc.le (by simpa[co,bL]using hk) (by simp[co,bL];omega) λa2 IR=>?_)
    have Jr:=IR.size
    have JJ:RC g cx fx ver S R B O r a2 w:=Jk.step hc IR Jk.rd (br.refl (λ_=>False) w) (λ_ _ h=>h.elim)
    refine A4 K Mc L5.1 J7 JJ hc MD (by simp[co,jF,gb,bQ,bL];omega) (by simp[co,jF,gb,bQ,bL];omega) aa λa3 w3 val h1 h2 h3=>h a3 w3 ?_
    simp only[co,jF,gb,bQ,bL]at h1 IR
    have e:(if fx=true then PF.cstr else PF.str)=ej false fx:=by cases fx<;>rfl
    rw[e]at h3
    exact ef NB ((IP.trans (IR.mono (ae _) aa)).trans (h1.mono (ae _) aa)) h2 h3 Jy (P5 fx w3)
   | false=>
    have Ku:=IQ.nf J7
    subst Ku
    have hval:jx g cx (.str none) v []=[co v (.string ⟨#[]⟩),kM (bQ (g.un .str) cx.b v) (bQ (g.rd .str) cx.b v)]:=by simp[jx,J7]
    rw[hval]at hN h ⊢
    simp only[gL,kM,gb,bQ,co,bL]at hN
    refine bt (eW (x:=6) (m:=m) (k0:=k0) (n:=n) (.inr MD) aa λa1 IP _=>?_)
    have Jk:RC g cx false ver S R B O r a1 w:=IQ.step hc IP IQ.rd (br.refl (λ_=>False) w) (λ_ _ h=>h.elim)
    have IX:=IP.size
    refine bt (uh (x:=6) (m:=m) (k0:=k0) Jk.su hc.le (by simpa[co,bL]using hk) (by simp[co,bL];omega) λa2 IR=>?_)
    have Jr:=IR.size
    have JJ:RC g cx false ver S R B O r a2 w:=Jk.step hc IR Jk.rd (br.refl (λ_=>False) w) (λ_ _ h=>h.elim)
    refine rY K L5.1 JJ MD hc.le (by simp[co,bQ,bL];omega) (by simp[co,bQ,bL];omega) aa λa3 w3 val h1 h2 h3=>h a3 w3 ?_
    simp only[co,bQ,bL]at h1 IR
    exact ef NB ((IP.trans (IR.mono (ae _) aa)).trans (h1.mono (ae _) aa)) h2 h3 Jy (P5 false w3)
  | some q=>
   cases q with
   | zero=>
    obtain rfl:x=[]:=by
     rcases hx with⟨t,rfl,q,hq⟩|⟨rfl,_⟩|⟨t,u,rfl,p',Jx,_⟩
     ·cases hq
     ·rfl
     ·cases Jx
    have Jy:ga fx ver (.str (some 0)) r=(ej true fx).run r:=by simp[ga,eM]
    simp only[o5,ac,aH,Bool.not_eq_true']at L5
    have hval:jx g cx (.str (some 0)) v []=[co v (.pointer none),if cx.hf then jF cx (kM (bQ (g.un .cnstr) cx.b v) (bQ (g.rd .cnstr) cx.b v)) (kM (bQ (g.un .nstr) cx.b v) (bQ (g.rd .nstr) cx.b v))else kM (bQ (g.un .nstr) cx.b v) (bQ (g.rd .nstr) cx.b v)]:=rfl
    rw[hval]at hN h ⊢
    refine bt (eW (x:=6) (m:=m) (k0:=k0) (n:=n) (.inr MD) aa λa1 IP _=>?_)
    have Jk:RC g cx fx ver S R B O r a1 w:=IQ.step hc IP IQ.rd (br.refl (λ_=>False) w) (λ_ _ h=>h.elim)
    have IX:=IP.size
    refine bt (A5 K L5.1 (λJ7=>by rcases L5.2 with h|h;rw[J7]at h;cases h;exact h) Jk hc MD (by simpa[co,bL]using hk) (by rw[IX];exact hN) aa λa2 w2 val h1 h2 h3=>h a2 w2 ?_)
    simp only[co,bL]at h1
    have h3':FU g S R (ej true fx) (j8 (ej true fx)) r w val w2:=by cases fx<;>exact h3
    exact ef NB (IP.trans (h1.mono (ae _) aa)) h2 h3' Jy (λX cs y hh=>by cases fx<;>exact hh)
   | succ q=>
    obtain⟨t,rfl⟩:∃ t,x=[t]:=by
     rcases hx with⟨t,rfl,_⟩|⟨rfl,hh⟩|⟨t,u,rfl,p',Jx,_⟩
     ·exact⟨t,rfl⟩
     ·exact absurd rfl (hh q)
     ·cases Jx
    obtain⟨ht,Y4⟩:=VZ t ab
    simp only[o5,ac,aH,Bool.not_eq_true']at L5
    obtain⟨⟨hs,Tv⟩,Js⟩:=L5
    have JC:cx.hf=true->av .cstr=true:=λhh=>by rcases Js with e|e;rw[hh]at e;cases e;exact e.1
    have JA:cx.hf=true->av .cnstr=true:=λhh=>by rcases Js with e|e;rw[hh]at e;cases e;exact e.2
    have h6m:=hc.six
    have Jj:=hc.le
    have hval:jx g cx (.str (some (q+1))) v [t]=[co v (.pointer none),gb 1 2 (λn=>[mk (some n) (.move (tm cx.ver)),mk (some (n+1)) (.binOp .lss g.tVer (tm n) (ki .i16 ((q:Int)+1)) 0)])
      (gS [bL 0 λ_=>[mk (some t) (.alloc g.tStr)],iD g cx t,bL 0 λ_=>[mk (some v) (.assign (tm t))]]) (FS g cx v)]:=rfl
    rw[hval]at hN h ⊢
    have hN2:(FS g cx v (iD g cx t (n+2)).2).2<=a.tmps.size:=hN
    have Nj:n+2<=(iD g cx t (n+2)).2:=y6 g cx t (n+2)
    have PX:(iD g cx t (n+2)).2<=(FS g cx v (iD g cx t (n+2)).2).2:=Gb g cx v _
    refine bt (eW (x:=6) (m:=m) (k0:=k0) (n:=n) (.inr MD) aa λa1 IP _=>?_)
    have IX:=IP.size
    have Jk:RC g cx fx ver S R B O r a1 w:=IQ.step hc IP IQ.rd (br.refl (λ_=>False) w) (λ_ _ h=>h.elim)
    refine bt ?_
    show cf P (gb 1 2 _ _ _ n).1 _ a1 w
    by_cases IU:ver<(q:Int)+1
    ·have e:ga fx ver (.str (some (q+1))) r=(ej false fx).run r:=by
      have:eM (some (q+1)) ver=false:=by simp[eM];omega
      simp only[ga,this]
     refine eX (bv ?_)
     rw[bp,Jk.sv]
     refine cZ (b:=true) (q:=(q:Int)+1) (p:=ver) (k:=.i16) (by rw[bp,bA aa]) rfl (.inr (.inr (.inl ⟨rfl,by simp;omega⟩))) (wpList_nil ⟨by rw[bp,bA (by simp only[bq];omega)],cC (bt (bF (fe (K.vStr.2 w) (wpList_nil ?_))))⟩)
     have IR:Pv 6 m k0 n a (((a1.put (some n) (.int .i16 ver)).put (some (n+1)) (.bool true)).put (some t) (.pointer (some ⟨w.heap.size,0,none⟩))):=((IP.put _ aa).put _ aa).put _ aa
     have OC:(((a1.put (some n) (.int .i16 ver)).put (some (n+1)) (.bool true)).put (some t) (.pointer (some ⟨w.heap.size,0,none⟩))).get t=pt w.heap.size 0:=bA (by simp only[bq];omega)
     show LW P _ (n+2) _ (((a1.put (some n) (.int .i16 ver)).put (some (n+1)) (.bool true)).put (some t) (.pointer (some ⟨w.heap.size,0,none⟩))) _
     generalize(((a1.put (some n) (.int .i16 ver)).put (some (n+1)) (.bool true)).put (some t) (.pointer (some ⟨w.heap.size,0,none⟩)))=a2 at IR OC
     have Jr:=IR.size
     have LX:br (λ_=>False) w (w.alloc (.cells (Value.string ⟨#[]⟩).cells g.tStr (0,0))):=br.alloc _ _ _
     have Lp:(w.alloc (.cells (Value.string ⟨#[]⟩).cells g.tStr (0,0))).heap[w.heap.size]?=some (.cells #[.string ⟨#[]⟩] g.tStr (0,0)):=heap_alloc_new w _
     have hRlt:=IQ.rd.lt
     have Sr:=IQ.Slt
     have JJ:RC g cx fx ver S R B O r a2 (w.alloc (.cells (Value.string ⟨#[]⟩).cells g.tStr (0,0))):=IQ.step hc IR (IQ.rd.keep LX (λh=>h) (λh=>h)) LX (λ_ _ h=>h.elim)
     refine bt (A8 K hs JC JJ (fX.high hc) OC ht.2 aa Lp rfl aa aa aa aa λa3 w3 IW Oq JQ IZ=>?_)
     have JI:=IW.size
     have Jw:a3.get t=pt w.heap.size 0:=(IW.get t aa (.inl ht.2)).trans OC
     refine bt (bF (b7 (wpList_nil (cD ?_))))
     rw[bp,Jw]
     refine h _ _ ?_
     rw[e]
     obtain⟨l,Mi,Ph,Oq⟩:=Oq
     refine⟨[.pointer (some ⟨w.heap.size,0,none⟩)],(IR.trans (IW.mono Jj aa)).put _ aa,?_,JQ,?_,λX hX hS=>?_⟩
     ·rw[NB]
      exact⟨_,bA aa,rfl⟩
     ·exact((LX.mono λ_ _ h=>h.elim).trans IZ).mono λk hk h=>h.elim id (λe=>absurd hk aa)
     ·exact .inr ⟨l,_,0,rfl,λhx=>Nat.lt_irrefl _ (hX _ hx),Oq,Mi,Ph⟩
    ·have e:ga fx ver (.str (some (q+1))) r=(ej true fx).run r:=by
      have:eM (some (q+1)) ver=true:=by simp[eM];omega
      simp only[ga,this]
     refine eK (bv ?_)
     rw[bp,Jk.sv]
     refine cZ (b:=false) (q:=(q:Int)+1) (p:=ver) (k:=.i16) (by rw[bp,bA aa]) rfl (.inr (.inr (.inl ⟨rfl,by simp;omega⟩))) (wpList_nil ⟨by rw[bp,bA (by simp only[bq];omega)],?_⟩)
     have IR:Pv 6 m k0 n a ((a1.put (some n) (.int .i16 ver)).put (some (n+1)) (.bool false)):=(IP.put _ aa).put _ aa
     show cf P (FS g cx v (iD g cx t (n+2)).2).1 _ ((a1.put (some n) (.int .i16 ver)).put (some (n+1)) (.bool false)) w
     generalize((a1.put (some n) (.int .i16 ver)).put (some (n+1)) (.bool false))=a2 at IR
     have Jr:=IR.size
     have JJ:RC g cx fx ver S R B O r a2 w:=IQ.step hc IR IQ.rd (br.refl (λ_=>False) w) (λ_ _ h=>h.elim)
     refine A5 K Tv JA JJ hc MD aa (by rw[Jr];exact hN2) aa λa3 w3 val h1 h2 h3=>h a3 w3 ?_
     have h3':FU g S R (ej true fx) (j8 (ej true fx)) r w val w3:=by cases fx<;>exact h3
     exact ef NB (IR.trans (h1.mono (ae _) aa)) h2 h3' e (λX cs y hh=>by cases fx<;>exact hh)
end
def Rt (N E:Act->World->Prop):Exit->Act->World->Prop
 | .normal,a,w=>N a w
 | .ret,a,w=>E a w
 | _,_,_=>False
theorem cn {N K E:Act->World->Prop}:Exit.then K (Rt N E)=Rt K E:=by
 funext e a w
 cases e<;>rfl
section
variable {P:Program} {g:G} {m k0 n:Nat} {K N E:Act->World->Prop} {a:Act} {w:World}
theorem lV {K K' E E':Act->World->Prop}{c:Code}(h:cf P c (Rt K E) a w)(hk:∀ a w,K a w->K' a w)(he:∀ a w,E a w->E' a w):cf P c (Rt K' E') a w:=
 .mono h λe a w hq=>by cases e<;>first|exact hk _ _ hq|exact he _ _ hq|exact hq
theorem DG {i l b1 b2:Nat}{body:GC}{L:Int}(hi:m<=i/\i<k0)(Qj:l<i)(h6:6<i)(Vk:l≠6)(_hm:m<=k0)(hk:k0<=n)(hn:n+5<=a.tmps.size)(hl:a.get l=.int .i32 L)(hL:L<2147483648)(W:Nat->World->Prop)(h0:W 0 w)
  (Kq:∀ (j:Nat) (a1:Act) (w1:World),j<L.toNat->Pv 6 i k0 n a a1->a1.get i=.int .i32 j->W j w1->cf P (body (n+5)).1 (Rt (λa2 w2=>Pv 6 (i+1) k0 (n+5) a1 a2/\W (j+1) w2) E) a1 w1)
  (Pr:∀ a1 w1,Pv 6 i k0 n a a1->W L.toNat w1->K a1 w1):cf P (wU g i l b1 b2 body n).1 (Rt K E) a w:=by
 have his:i<a.tmps.size:=by omega
 refine .seq (R:=Rt (λa' w'=>Pv 6 i k0 n a a'/\a'.get i=.int .i32 ((0:Nat):Int)/\w'=w) E) (.reg (b7 (wpList_nil ?_))) (λa' w' hh=>?_) (λe a w he hq=>by cases e<;>first|exact absurd rfl he|exact hq)
 ·exact⟨(Pv.refl _ _ _ _ _).put _ aa,fh _ _ _ his,rfl⟩
 ·obtain⟨hp,RL,rfl⟩:=hh
  refine .block (.loop (λa1 w1=>∃ j:Nat,j<=L.toNat/\Pv 6 i k0 n a a1/\a1.get i=.int .i32 (j:Int)/\W j w1) (λa1 _=>(L-(match a1.get i with|.int _ q=>q|_=>0)).toNat) ⟨0,by omega,hp,RL,h0⟩ ?_)
  rintro a1 w1 ⟨j,hj,IP,IY,hW⟩
  have IX:=IP.size
  have Mi:a1.get l=.int .i32 L:=by rw[IP.get l Vk (.inl Qj)];exact hl
  have Jh:∀ (b:Bool),b=decide ((j:Int)<L)->wpList P [mk (some n) (.move (tm i)),mk (some (n+1)) (.move (tm l)),mk (some (n+2)) (.binOp .lss g.tI32 (tm n) (tm (n+1)) 0)].toArray
    (Rt (λa' w'=>a'.eval (tm (n+2))=.bool b/\Pv 6 (i+1) k0 n a1 a'/\w'=w1) E) [mk (some n) (.move (tm i)),mk (some (n+1)) (.move (tm l)),mk (some (n+2)) (.binOp .lss g.tI32 (tm n) (tm (n+1)) 0)] a1 w1:=by
   intro b hb
   refine bv ?_
   rw[bp,IY]
   refine bv ?_
   rw[bp,b8 aa,Mi]
   refine cZ (b:=b) (p:=j) (q:=L) (k:=.i32) (by rw[bp,b8 aa,bA aa]) (by rw[bp,bA (by rw[bq];omega)]) (.inr (.inr (.inl ⟨rfl,hb⟩))) (wpList_nil ?_)
   exact⟨by rw[bp,bA (by simp only[bq];omega)],(((Pv.refl _ _ _ _ _).put _ aa).put _ aa).put _ aa,rfl⟩
  by_cases IU:(j:Int)<L
  ·refine .seq (R:=Rt (λa2 w2=>Pv 6 (i+1) k0 n a1 a2/\w2=w1) E) ?_ (λa2 w2 hh=>?_) (λe a w he hq=>by cases e<;>first|exact absurd rfl he|exact hq|exact hq.elim)
   ·refine .seq (.reg (Jh true (by simp[IU]))) (λa2 w2 hh=>.condT hh.1 (.skip hh.2)) (λe a w he hq=>by cases e<;>first|exact absurd rfl he|exact hq)
   ·obtain⟨IR,rfl⟩:=hh
    have J6:Pv 6 i k0 n a a2:=IP.trans (IR.mono aa (ae _))
    have Ja:a2.get i=.int .i32 (j:Int):=by rw[IR.get i aa (.inl aa)];exact IY
    have hb:=Kq j a2 w2 aa J6 Ja hW
    have Jr:=IR.size
    refine .seq (R:=Rt (λa3 w3=>Pv 6 (i+1) k0 (n+5) a2 a3/\W (j+1) w3) E) (.block (.mono hb λe a w hq=>by cases e<;>first|exact hq|exact hq.elim)) (λa3 w3 hh=>?_) (λe a w he hq=>by cases e<;>first|exact absurd rfl he|exact hq|exact hq.elim)
    obtain⟨IW,NT⟩:=hh
    have JI:=IW.size
    have Jw:a3.get i=.int .i32 (j:Int):=by rw[IW.get i aa (.inl aa)];exact Ja
    refine .reg (bv ?_)
    rw[bp,Jw]
    have JO:IntKind.i32.wrap ((j:Int)+1)=((j+1:Nat):Int):=by simp[IntKind.wrap,IntKind.bits,IntKind.signed];omega
    refine ee (v:=.int .i32 ((j+1:Nat):Int)) (k:=.i32) (m:=j) (n:=1) (by rw[bp,bA aa]) rfl ab (by simp[binOp,Op.intArith,JO]) ?_
    refine b7 (wpList_nil ?_)
    rw[bp,bA (by simp only[bq];omega)]
    have Lx:(((a3.put (some (n+3)) (.int .i32 (j:Int))).put (some (n+4)) (.int .i32 ((j+1:Nat):Int))).put (some i) (.int .i32 ((j+1:Nat):Int))).get i=.int .i32 ((j+1:Nat):Int):=bA (by simp only[bq];omega)
    refine⟨⟨j+1,by omega,?_,Lx,NT⟩,?_⟩
    ·exact((J6.trans (IW.mono aa aa)).put _ aa).put _ aa |>.put _ aa
    ·rw[Lx,IY]
     simp only
     omega
  ·have TP:j=L.toNat:=by omega
   refine .seq (R:=λe a w=>e≠.normal/\Exit.inBlock b1 (Rt K E) e a w) ?_ (λa2 w2 hh=>absurd rfl hh.1) (λe a w he hq=>?_)
   ·refine .seq (R:=Rt (λa' w'=>a'.eval (tm (n+2))=.bool false/\Pv 6 (i+1) k0 n a1 a'/\w'=w1) E) (.reg (Jh false (by simp[IU]))) (λa2 w2 hh=>.condF hh.1 (.exit ?_)) (λe a w he hq=>by cases e<;>first|exact absurd rfl he|exact⟨by simp,hq⟩|exact hq.elim)
    simp only[Exit.inBlock,aw]
    refine⟨by simp,?_⟩
    obtain⟨_,IR,rfl⟩:=hh
    exact Pr a2 w2 (IP.trans (IR.mono aa (ae _))) (TP ▸ hW)
   ·rw[dY he];exact hq.2
variable {av:PF->Bool} {fl:Bool} {cx:Cx} {fx:Bool} {ver:Int} {S R B O:Nat} {r:RS}
theorem Gj (K0:KB P g av fl)(IQ:RC g cx fx ver S R B O r a w)(hb:r.bad=true)(h6:6<a.tmps.size)(hm:m<=k0)(hk:k0<=n)(hn:n<a.tmps.size)
  (h:∀ a' w',Pv 6 m k0 n a a'->(∃ t y,a'.get 6=.iface t y)->br (λ_=>False) w w'->E a' w'):cf P (F7 g cx.b n).1 (Rt N E) a w:=by
 refine cC (bt (bF (cj (vs:=#[pt R 0]) K0.cmE (by simp[bp,IQ.sb]) (K0.cmC w S R r IQ.rd IQ.err) λe w' hR=>?_)))
 obtain⟨Ko,v,he,_,hv⟩:=hR
 obtain⟨t,y,rfl⟩:=hv hb
 refine⟨_,he,b7 (wpList_nil ?_)⟩
 rw[bp,fh _ _ _ hn]
 exact bt (.ret (h _ w' (((Pv.refl _ _ _ _ _).put _ aa).put _ aa) ⟨t,y,bA (by rw[bq];exact h6)⟩ Ko))
theorem CY (K0:KB P g av fl)(RJ:cJ g.ok=true)(IQ:RC g cx fx ver S R B O r a w)(hc:fX cx m k0)(hk:k0<=n)(hn:n+3<=a.tmps.size)
  (Ju:r.bad=true->∀ a' w',Pv 6 m k0 n a a'->(∃ t y,a'.get 6=.iface t y)->br (λ_=>False) w w'->E a' w')
  (Jf:r.bad=false->∀ a' w',Pv 6 m k0 n a a'->br (λ_=>False) w w'->K a' w'):cf P (qi g cx n).1 (Rt K E) a w:=by
 have MK:∀ (b:Bool),b=r.bad->wpList P [cl (some n) g.ok [tm cx.b],mk (some (n+1)) (.unOp .not g.tBool (tm n))].toArray
   (Rt (λa' w'=>a'.eval (tm (n+1))=.bool b/\Pv 6 m k0 n a a'/\br (λ_=>False) w w') E) [cl (some n) g.ok [tm cx.b],mk (some (n+1)) (.unOp .not g.tBool (tm n))] a w:=by
  intro b hb
  refine cj (vs:=#[pt R 0]) (K0.okE RJ) (by simp[bp,IQ.sb]) (K0.okC RJ w S R r IQ.rd) λe w' hR=>⟨_,hR.1,?_⟩
  refine pp (b:=!r.bad) (by rw[bp,bA aa]) (wpList_nil ⟨?_,((Pv.refl _ _ _ _ _).put _ (by have:=hc.le;omega)).put _ (by have:=hc.le;omega),hR.2⟩)
  rw[bp,bA (by rw[bq];omega),hb]
  simp
 have h6:=hc.six
 have Jj:=hc.le
 cases hb:r.bad with
 | true=>
  refine .seq (.reg (MK true hb.symm)) (λa' w' hh=>.condT hh.1 ?_) (λe a w he hq=>by cases e<;>first|exact absurd rfl he|exact hq)
  obtain⟨_,hp,K5⟩:=hh
  have hs:=hp.size
  have hrc':=IQ.step hc hp (IQ.rd.keep K5 id id) K5 (λ_ _ h=>h.elim)
  exact Gj (m:=m) (k0:=k0) K0 hrc' hb aa hc.le aa aa λa2 w2 h1 h2 h3=>Ju hb a2 w2 (hp.trans (h1.mono (ae _) aa)) h2 (K5.trans h3)
 | false=>
  refine .seq (.reg (MK false hb.symm)) (λa' w' hh=>.condF hh.1 (.skip ?_)) (λe a w he hq=>by cases e<;>first|exact absurd rfl he|exact hq)
  exact Jf hb a' w' hh.2.1 hh.2.2
theorem Gi {Q:Exit->Act->World->Prop}{x y F E' sz c:Nat}{base:Option Addr}(hy:a.get y=.slice base 0 c)(hF:P.underlying F=some (.slice E'))(hs:∀ w,(sizeOf E').run P w=.ok sz w)(UV:y=x \/ (m<=y/\y<k0))(hm:m<=k0)(hk:k0<=n)(hn:n+2<=a.tmps.size)(hys:y<a.tmps.size)
  (h:∀ a',Pv x m k0 n a a'->a'.get y=.slice base 0 c->K a' w):cf P (BY y F n).1 (Exit.then K Q) a w:=by
 refine bF (bv ?_)
 rw[bp,hy]
 refine yn (by rw[bp,bA aa]) hF (hs w) (b7 (wpList_nil ?_))
 rw[bp,bA (by rw[bq];omega)]
 exact h _ ((((Pv.refl _ _ _ _ _).put _ aa).put _ aa).put _ aa) (bA (by simp only[bq];omega))
structure oF (P:Program)(F E' sz:Nat)(z:Array Value):Prop where
 und:P.underlying F=some (.slice E')
 info:∃ i z',P.info? E'=some i/\i.zero=some z'/\z'.cells=z/\i.size=sz/\z.size=sz/\0<sz/\0<i.bytes/\i.bytes<=24*sz+8
theorem oF.size {F E' sz:Nat}{z:Array Value}(h:oF P F E' sz z)(w:World):(sizeOf E').run P w=.ok sz w:=by
 obtain⟨i,z',h1,_,_,h4,_⟩:=h.info
 simp[Go.sizeOf,typeInfo,h1,h4]
theorem EO {Q:Exit->Act->World->Prop}(K0:KB P g av fl){x y l F E' sz:Nat}{z:Array Value}{base:Option Addr}{L:Int}(hy:a.get y=.slice base 0 0)(hl:a.get l=.int .i32 L)(hF:oF P F E' sz z)(hL:L<2147483648)(JV:l5 L sz=true)
  (UV:y=x \/ (m<=y/\y<k0)) (hyn:y<n) (hm:m<=k0) (hln:l<n) (hk:k0<=n) (hn:n+5<=a.tmps.size)
  (Ki:L<=0->∀ a',Pv x m k0 n a a'->a'.get y=.slice base 0 0->K a' w)
  (J5:0<L->∀ (a':Act) (c:Nat) (cs:Array Value),Pv x m k0 n a a'->L.toNat<=c->c<=maxLen->cs.size=c*sz->(∀ q j,q<L.toNat->j<sz->cs[q*sz+j]?=z[j]?) ->
   a'.get y=.slice (some ⟨w.heap.size,0,none⟩) L.toNat c->K a' (w.drew.alloc (.cells cs E' (0,0)))):cf P (rn g y l F n).1 (Exit.then K Q) a w:=by
 obtain⟨i,z',h1,h2,h3,h4,h5,h6,h7,h8⟩:=hF.info
 have Jh:∀ (b:Bool) (K':Act->World->Prop),b=decide ((0:Int)<L)->(∀ a',a'.eval (tm (n+1))=.bool b->Pv x m k0 n a a'->a'.get y=.slice base 0 0->a'.get l=.int .i32 L->K' a' w) ->
   wpList P [mk (some n) (.move (tm l)),mk (some (n+1)) (.binOp .gtr g.tI32 (tm n) (ki .i32 0) 0)].toArray
   (Exit.then K' (Exit.then K Q)) [mk (some n) (.move (tm l)),mk (some (n+1)) (.binOp .gtr g.tI32 (tm n) (ki .i32 0) 0)] a w:=by
  intro b K' hb Ko
  refine bv ?_
  rw[bp,hl]
  refine cZ (b:=b) (p:=L) (q:=0) (k:=.i32) (by rw[bp,bA aa]) rfl (.inr (.inr (.inr (.inl ⟨rfl,hb⟩)))) (wpList_nil (Ko _ ?_ (((Pv.refl _ _ _ _ _).put _ aa).put _ aa) ?_ ?_))
  ·rw[bp,bA (by simp only[bq];omega)]
  ·rw[b8 aa,b8 aa];exact hy
  ·rw[b8 aa,b8 aa];exact hl
 by_cases JK:0<L
 ·refine eX (Jh true _ (by simp[JK]) λa1 he hp hy' M7=>⟨he,?_⟩)
  have hs:=hp.size
  refine bF (bv ?_)
  rw[bp,hy']
  refine bv ?_
  rw[bp,b8 aa,M7]
  have Zo:((L.toNat:Nat):Int)=L:=by omega
  refine vp (base:=base) (l:=L.toNat) (F:=F) (E:=E') (I:=g.tI32) (bytes:=i.bytes) ?_ ?_ aa hF.und K0.tI32 h1 h2 (by rw[h3,h5,h4]) aa h7 rfl ?_ aa λc cs JC JA MV U3=>?_
  ·rw[bp,b8 aa,bA aa]
  ·rw[bp,bA (by rw[bq];omega),Zo]
  ·simp only[l5,ai]at JV
   have e:L.toNat*i.bytes<=L.toNat*(24*sz+8):=Nat.mul_le_mul_left _ h8
   have e2:((L.toNat*(24*sz+8):Nat):Int)=L*(24*(sz:Int)+8):=by
    rw[Int.natCast_mul,Zo];rfl
   omega
  ·refine b7 (wpList_nil ?_)
   rw[bp,bA (by simp only[bq];omega)]
   rw[h4]at MV U3
   rw[h3]at U3
   refine J5 JK _ c cs ((((hp.trans (Pv.refl _ _ _ _ _)).put _ aa).put _ aa).put _ aa |>.put _ aa) JC JA MV U3 (bA (by simp only[bq];omega))
 ·refine eK (Jh false _ (by simp;omega) λa1 he hp hy' _=>⟨he,.skip (Ki aa a1 hp hy')⟩)
end
section inv
variable {P:Program}
theorem o6 {c:Code}{Q:Exit->Act->World->Prop}{a:Act}{w:World}(h:cf P c Q a w):∀ x y,c=.seq x y->∃ R:Exit->Act->World->Prop,cf P x R a w/\(∀ a w,R .normal a w->cf P y Q a w)/\∀ e a w,e≠.normal->R e a w->Q e a w:=by
 induction h with
 | seq hx hy he=>intro x y hc;cases hc;exact⟨_,hx,hy,he⟩
 | mono _ hq ih=>
  intro x y hc
  obtain⟨R,h1,h2,h3⟩:=ih x y hc
  exact⟨R,h1,λa w hr=>.mono (h2 a w hr) hq,λe a w he hr=>hq e a w (h3 e a w he hr)⟩
 | _=>intro x y hc;cases hc
theorem q7 {cs ds:List Code}{Q:Exit->Act->World->Prop}:∀ {a:Act} {w:World},cf P (sq cs) (Exit.then (cf P (sq ds) Q) Q) a w->cf P (sq (cs++ds)) Q a w:=by
 induction cs with
 | nil=>intro a w h;exact nr h rfl
 | cons c cs ih=>
  intro a w h
  cases cs with
  | nil=>exact bJ h
  | cons d r=>
   obtain⟨R,h1,h2,h3⟩:=o6 h _ _ rfl
   refine .seq h1 (λa w hr=>ih (h2 a w hr)) (λe a w he hr=>?_)
   have:=h3 e a w he hr
   rwa [dY he]at this
theorem cz (l r:List GC):∀ n,gL (l++r) n=((gL l n).1++(gL r (gL l n).2).1,(gL r (gL l n).2).2):=by
 induction l with
 | nil=>intro n;rfl
 | cons x l ih=>intro n;simp[gL,ih]
theorem ip {l r:List GC}{n:Nat}{Q:Exit->Act->World->Prop}{a:Act}{w:World}(h:LW P l n (Exit.then (LW P r (gL l n).2 Q) Q) a w):LW P (l++r) n Q a w:=by
 unfold LW at h ⊢
 rw[cz]
 exact q7 h
end inv
section
variable {P:Program} {g:G} {av:PF->Bool} {fl:Bool} {cx:Cx} {fx:Bool} {ver:Int} {S R B O:Nat} {r:RS} {x m k0 n:Nat} {K N E:Act->World->Prop} {Q:Exit->Act->World->Prop} {a:Act} {w:World}
theorem Dj (fx:Bool)(r:RS):(cW fx r).1<2147483648:=by
 have h4:(rI 4 r).1<2147483648:=by
  simp only[rI,lr]
  split
  ·rename_i h;simp at h;omega
  ·rename_i h
   have:(rU 4 r).1<4294967296:=by
    simp only[rU]
    split
    ·simp
    ·rename_i hl
     have hb:∀ (l:Bs) (a:Nat),l.foldl (λa b=>a*256+b.toNat) a<(a+1)*256^l.length:=by
      intro l
      induction l with
      | nil=>intro a;simp
      | cons b l ih=>
       intro a
       simp only[List.foldl_cons,List.length_cons,Nat.pow_succ]
       refine az (ih _) ?_
       have:=UInt8.toNat_lt b
       have e:(a+1)*(256^l.length*256)=((a+1)*256)*256^l.length:=by rw[Nat.mul_comm (256^l.length),Nat.mul_assoc]
       rw[e]
       exact bn _ aa
     have:=hb (r.src.take 4) 0
     have IT:(r.src.take 4).length<=4:=by simp;omega
     have hp:256^(r.src.take 4).length<=256^4:=Nat.pow_le_pow_right aa IT
     simp only[ei]
     omega
   have e:(2:Int)^(8*4)=4294967296:=by decide
   omega
 have key:∀ p:Int × RS,p.1<2147483648->(if(p.2.src.length:Int)<p.1 then((0:Int),RS.fail)else p).1<2147483648:=by
  intro p hp
  split
  ·simp
  ·exact hp
 cases fx
 ·simp only[cW,ag,ak]
  exact key (rI 4 r) h4
 ·simp only[cW,aw]
  refine key (eB (eB (bZ r).1-1),(bZ r).2) ?_
  simp only[eB];omega
theorem Gm (K0:KB P g av fl)(M9:sL g cx.hf=true)(Jb:cx.hf=true->fl=true)(IQ:RC g cx fx ver S R B O r a w)(hc:fX cx m k0){l:Nat}(hl:m<=l/\l<k0)(hk:k0<=n)
  (hn:((if cx.hf then jF cx (bQ g.clen cx.b l) (bQ g.len cx.b l)else bQ g.len cx.b l:GC) n).2<=a.tmps.size)
  (h:∀ a' w',Pv 6 m k0 n a a'->a'.get l=.int .i32 (cW fx r).1->ep w' g.tR S R (cW fx r).2->br (·=R) w w'->K a' w') :
  cf P ((if cx.hf then jF cx (bQ g.clen cx.b l) (bQ g.len cx.b l)else bQ g.len cx.b l:GC) n).1 (Exit.then K Q) a w:=by
 have Jj:=hc.le
 simp only[sL,ac,aH,Bool.not_eq_true']at M9
 obtain⟨⟨Qp,hhl2⟩,Xa⟩:=M9
 cases J7:cx.hf with
 | true=>
  have TS:cJ g.clen=true:=Xa.resolve_left (by rw[J7];simp)
  simp only[J7,aw,jF,gb,bQ,bL]at hn
  simp only[aw]
  refine q4 (x:=6) (m:=m) (k0:=k0) (fx:=fx) (IQ.sf J7) hc.le hk aa λa1 IP=>?_
  have IX:=IP.size
  have Jk:RC g cx fx ver S R B O r a1 w:=IQ.step hc IP IQ.rd (br.refl (λ_=>False) w) (λ_ _ h=>h.elim)
  cases fx with
  | true=>
   simp only[aw]
   refine mz (x:=6) (m:=m) (k0:=k0) (K0.clenE (Jb J7) TS) Jk.sb (K0.clenC (Jb J7) TS w S R r Jk.rd Jk.SR) (.inr hl) hc.le aa aa aa λe w' hR=>?_
   obtain⟨he,h1,h2⟩:=hR
   exact⟨_,he,λa' hp hg=>h a' w' (IP.trans (hp.mono (ae _) aa)) hg h1 h2⟩
  | false=>
   simp only[ag,ak]
   refine mz (x:=6) (m:=m) (k0:=k0) (K0.lenE Qp) Jk.sb (K0.lenC Qp w S R r Jk.rd Jk.SR) (.inr hl) hc.le (by simp[bQ,bL];omega) (by simp[bQ,bL];omega) aa λe w' hR=>?_
   obtain⟨he,h1,h2⟩:=hR
   exact⟨_,he,λa' hp hg=>h a' w' (IP.trans (hp.mono (ae _) (by simp[bQ,bL];omega))) hg h1 h2⟩
 | false=>
  have Ku:=IQ.nf J7
  subst Ku
  simp only[J7,ag,ak,bQ,bL]at hn
  simp only[ag,ak]
  refine mz (x:=6) (m:=m) (k0:=k0) (K0.lenE Qp) IQ.sb (K0.lenC Qp w S R r IQ.rd IQ.SR) (.inr hl) hc.le hk aa aa λe w' hR=>?_
  obtain⟨he,h1,h2⟩:=hR
  exact⟨_,he,λa' hp hg=>h a' w' hp hg h1 h2⟩
theorem lh {ops:Array Oper}{r:List Oper}{d:Option Nat}{F E' sz:Nat}(hF:P.underlying F=some (.slice E'))(hs:∀ w,(sizeOf E').run P w=.ok sz w)
  (h:wpList P ops Q r (a.put d (.slice (some ⟨w.heap.size,0,none⟩) 0 0)) (w.alloc (.cells #[] E' (0,0)))):wpList P ops Q (mk d (.buildSlice F 0 #[])::r) a w:=by
 refine bP (w':=w.alloc (.cells #[] E' (0,0))) ?_ h
 have e0:(Array.range 0)=#[]:=rfl
 simp[execOp,mk,Instr.buildSlice,run_underlying hF,hs,Instr.fill,newRow,newObj,Sem.run,e0]
theorem Pv.low {x m k0 n:Nat}{a b:Act}(h:Pv x k0 k0 n a b)(hm:m<=k0):Pv x m k0 n a b:=h.mono hm (ae _)
theorem EN {nul:Option Nat}{y l F E' sz:Nat}{z:Array Value}{L:Int}{rest:List GC}(hv:a.get cx.ver=.int .i16 ver)(hy:a.get y=.slice none 0 0)(hl:a.get l=.int .i32 L)(hF:oF P F E' sz z)(UV:m<=y/\y<k0)(Mi:l<k0)(hly:l≠y)(Vk:l≠x)(Q3:y≠x)
  (_hvn:cx.ver<n) (hm:m<=k0) (hk:k0<=n) (hn:(gL (kW g cx nul y l F) n).2<=a.tmps.size)
  (h:∀ a' w' base,Pv x m k0 n a a'->br (λ_=>False) w w'->a'.get y=.slice base 0 0->a'.get l=.int .i32 L->(base=none \/ ∃ p,base=some ⟨p,0,none⟩/\w.heap.size<=p/\p<w'.heap.size) ->
   base.isSome=(nul.isSome&&(decide (L=0) || !gQ nul ver))->LW P rest (gL (kW g cx nul y l F) n).2 Q a' w'):LW P (kW g cx nul y l F++rest) n Q a w:=by
 cases nul with
 | none=>exact h a w none (Pv.refl _ _ _ _ _) (br.refl _ _) hy hl (.inl rfl) rfl
 | some q=>
  simp only[kW,gL,gb,bL,cY,cp]at hn
  have hb:∀ (b:Bool) (K':Act->World->Prop),b=(decide ((ver:Int)<(q:Int)) || decide (L=0))->(∀ a',Pv x k0 k0 n a a'->a'.eval (tm (n+5))=.bool b->K' a' w)->wpList P _ (Exit.then K' (Exit.then (LW P rest (gL (kW g cx (some q) y l F) n).2 Q) Q)) _ a w:=λb K' hb Ko=>
   vq (x:=x) (m:=k0) (k0:=k0) (T1:=g.tVer) (T2:=g.tI32) (ae _) hk aa aa hv hl (b1:=decide ((ver:Int)<(q:Int))) (.inr (.inr (.inl ⟨rfl,rfl⟩))) (b2:=decide (L=0)) (.inr (.inr (.inr (.inr (.inl ⟨rfl,rfl⟩))))) false _ _ rfl rfl λa' hp he=>Ko a' hp (by rw[hb];exact he)
  refine bt ?_
  by_cases hc:ver<q \/ L=0
  ·refine eX (hb true _ (by simp;omega) λa1 hp he=>⟨he,?_⟩)
   have hs:=hp.size
   have hy':a1.get y=.slice none 0 0:=(hp.get y Q3 (.inl UV.2)).trans hy
   have M7:a1.get l=.int .i32 L:=(hp.get l Vk (.inl Mi)).trans hl
   refine bF (lh hF.und hF.size (b7 (wpList_nil ?_)))
   rw[bp,bA aa]
   refine h _ _ (some ⟨w.heap.size,0,none⟩) (((hp.low hm).put _ aa).put _ aa) (br.alloc _ _ _) (bA (by simp only[bq];omega)) ?_ (.inr ⟨_,rfl,ae _,by simp⟩) ?_
   ·rw[iP _ _ _ _ hly,b8 aa];exact M7
   ·simp[gQ];omega
  ·refine eK (hb false _ (by simp;omega) λa1 hp he=>⟨he,.skip ?_⟩)
   refine h a1 w none (hp.low hm) (br.refl _ _) ((hp.get y Q3 (.inl UV.2)).trans hy) ((hp.get l Vk (.inl Mi)).trans hl) (.inl rfl) ?_
   simp[gQ]
   omega
theorem vX {y i v F F' E' sz p q cnt c j:Nat}{uu:Option Nat}{cs:List Value}{cur:Array Value}{te:TypeId}(hy:a.get y=.slice (some ⟨p,q,none⟩) cnt c)(hi:a.get i=.int .i32 j)(hj:j<cnt)(hF:P.underlying F=some (.slice E'))(hE:∀ w,(sizeOf E').run P w=.ok sz w)
  (QV:∀ w,(sizeOf F').run P w=.ok sz w)
  (hval:match uu with
   | none=>∃ y,a.get v=y/\y.cells.toList=cs
   | some u=>cv P u true cs.length/\∃ b o,a.get v=.pointer (some ⟨b,o,none⟩)/\bB w b o cs)
  (Jc:cs.length=sz) (h1:∀ u∈cs,u.oneCell'=true) (hB:w.heap[p]?=some (.cells cur te (0,0))) (hO:q+j*sz+sz<=cur.size)
  (hm:m<=k0) (hk:k0<=n) (hn:n+4<=a.tmps.size) (_hyn:y<n) (S9:i<n) (Rb:v<n)
  (h:∀ a',Pv x m k0 n a a'->K a' (w.setRow p (bV cur (q+j*sz) cs))):cf P (lZ uu y i v F F' n).1 (Exit.then K Q) a w:=by
 refine bF (bv ?_)
 rw[bp,hy]
 refine bv ?_
 rw[bp,b8 aa,hi]
 have O7:Pv x m k0 n a ((a.put (some n) (.slice (some ⟨p,q,none⟩) cnt c)).put (some (n+1)) (.int .i32 j)):=((Pv.refl _ _ _ _ _).put _ aa).put _ aa
 have key:∀ u:Value,u.cells.toList=cs->wpList P (#[mk (some n) (.move (tm y)),mk (some (n+1)) (.move (tm i)),mk (some (n+2)) (match uu with|some u=>.load u (tm v)|none=>.move (tm v)),
   mk (some (n+3)) (.indexAddr F (tm n) (tm (n+1))),mk none (.store F' (tm (n+3)) (tm (n+2)))]) (Exit.then K Q) [mk (some (n+3)) (.indexAddr F (tm n) (tm (n+1))),mk none (.store F' (tm (n+3)) (tm (n+2)))]
   (((a.put (some n) (.slice (some ⟨p,q,none⟩) cnt c)).put (some (n+1)) (.int .i32 j)).put (some (n+2)) u) w:=by
  intro u hu
  refine dJ (i:=j) (k:=.i32) (n:=cnt) (c:=c) (b:=p) (o:=q) (sz:=sz) ?_ ?_ hj hF (hE w) ?_
  ·rw[bp,b8 aa,b8 aa,bA aa]
  ·rw[bp,b8 aa,bA (by simp only[bq];omega)]
  refine cK (cur:=cur) (t:=te) (by rw[bp,bA (by simp only[bq];omega)]) (by rw[bp,b8 aa,bA (by simp only[bq];omega)]) hu
   (by rw[Jc];exact QV w) hB (by rw[Jc];exact hO) h1 ?_
  exact wpList_nil (h _ ((O7.put _ aa).put _ aa))
 cases uu with
 | none=>
  obtain⟨u,hu,huc⟩:=hval
  refine bv ?_
  rw[bp,b8 aa,b8 aa,hu]
  exact key u huc
 | some u=>
  obtain⟨hu,b,o,hb,hc⟩:=hval
  refine gN (cs:=cs) (by rw[bp,b8 aa,b8 aa,hb]) (hu.agg w) (hu.size w) hc ?_
  exact key (.agg cs.toArray) (by simp[Value.cells])
theorem yG {y i v F E' sz p q cnt c j:Nat}(hy:a.get y=.slice (some ⟨p,q,none⟩) cnt c)(hi:a.get i=.int .i32 j)(hj:j<cnt)(hF:P.underlying F=some (.slice E'))(hE:∀ w,(sizeOf E').run P w=.ok sz w)
  (hv:v=x \/ (m<=v/\v<k0)) (hm:m<=k0) (hk:k0<=n) (hn:n+3<=a.tmps.size) (Kg:v<a.tmps.size) (_hyn:y<n) (S9:i<n)
  (h:∀ a',Pv x m k0 n a a'->a'.get v=pt p (q+j*sz)->K a' w):cf P (fU y i v F n).1 (Exit.then K Q) a w:=by
 refine bF (bv ?_)
 rw[bp,hy]
 refine bv ?_
 rw[bp,b8 aa,hi]
 refine dJ (i:=j) (k:=.i32) (n:=cnt) (c:=c) (b:=p) (o:=q) (sz:=sz) ?_ ?_ hj hF (hE w) ?_
 ·rw[bp,b8 aa,bA aa]
 ·rw[bp,bA (by simp only[bq];omega)]
 refine b7 (wpList_nil ?_)
 rw[bp,bA (by simp only[bq];omega)]
 exact h _ (((((Pv.refl _ _ _ _ _).put _ aa).put _ aa).put _ aa).put _ aa) (bA (by simp only[bq];omega))
def applyWr (cur:Array Value)(O:Nat)(wr:List (Nat × Value)):Array Value:=wr.foldl (λc p=>c.setIfInBounds (O+p.1) p.2) cur
def DfC (P:Program)(f:Nat)(wr:List (Nat × Value)):Prop:=
 ∀ (w:World) (B O:Nat) (cur:Array Value) (te:TypeId),w.heap[B]?=some (.cells cur te (0,0))->(∀ p∈wr,O+p.1<cur.size) ->
  Calls P f #[pt B O] w λe w'=>e=.returned (.tuple #[])/\br (·=B) w w'/\w'.heap[B]?=some (.cells (applyWr cur O wr) te (0,0))
theorem lS {f v:Nat}{wr:List (Nat × Value)}{cur:Array Value}{te:TypeId}(hE:Ent P f)(hD:DfC P f wr)(hv:a.get v=pt B O)(hB:w.heap[B]?=some (.cells cur te (0,0)))(hO:∀ p∈wr,O+p.1<cur.size)
  (hm:m<=k0) (hk:k0<=n) (hn:n+2<=a.tmps.size)
  (h:∀ a' w',Pv x m k0 n a a'->(∀ s,s<n->a'.get s=a.get s)->br (·=B) w w'->w'.heap[B]?=some (.cells (applyWr cur O wr) te (0,0))->K a' w'):cf P (eO v f n).1 (Exit.then K Q) a w:=by
 refine bF (bv ?_)
 rw[bp,hv]
 refine cj (vs:=#[pt B O]) hE ?_ (hD w B O cur te hB hO) λe w' hR=>⟨_,hR.1,wpList_nil ?_⟩
 ·simp[bp,bA (show n<a.tmps.size by omega)]
 ·exact h _ w' (((Pv.refl _ _ _ _ _).put _ aa).put _ aa) (λs hs=>by rw[b8 aa,b8 aa]) hR.2.1 hR.2.2
theorem ly {s v T k F off sz:Nat}{agg:Bool}(hs:a.get s=pt B O)(hF:cO P T k F off agg sz)(hv:v=x \/ (m<=v/\v<k0))(hm:m<=k0)(hk:k0<=n)(hn:n+3<=a.tmps.size)(Kg:v<a.tmps.size)
  (h:∀ a',Pv x m k0 n a a'->a'.get v=pt B (O+off)->K a' w):cf P (ia s v T k n).1 (Exit.then K Q) a w:=by
 refine bF (bv ?_)
 rw[bp,hs]
 refine bY (by rw[bp,bA aa];rfl) ?_
 refine dt (by rw[bp,bA (by rw[bq];omega)]) hF ?_
 refine b7 (wpList_nil ?_)
 rw[bp,bA (by simp only[bq];omega)]
 exact h _ (((((Pv.refl _ _ _ _ _).put _ aa).put _ aa).put _ aa).put _ aa) (bA (by simp only[bq];exact Kg))
theorem Gl {s T k F E' off:Nat}{z:Value}{cur:Array Value}{te:TypeId}(hs:a.get s=pt B O)(hF:cO P T k F off false 1)(hz:∀ w,(zeroValue E').run P w=.ok z w)(hB:w.heap[B]?=some (.cells cur te (0,0)))(hO:O+off+1<=cur.size)
  (hm:m<=k0) (hk:k0<=n) (hn:n+4<=a.tmps.size)
  (h:∀ a',Pv x m k0 n a a'->(∀ s,s<n->a'.get s=a.get s)->K a' ((w.alloc (.cells z.cells E' (0,0))).setRow B (bV cur (O+off) [pt w.heap.size 0]))):cf P (Dt s T k F E' n).1 (Exit.then K Q) a w:=by
 refine bF (bv ?_)
 rw[bp,hs]
 refine fe (hz w) ?_
 refine bY (by rw[bp,b8 aa,bA aa];rfl) ?_
 refine dt (by rw[bp,bA (by simp only[bq];omega)]) hF ?_
 have IU:B<w.heap.size:=(aj.1 hB).1
 refine cK (cur:=cur) (t:=te) (v:=pt w.heap.size 0) (vs:=[pt w.heap.size 0]) (by rw[bp,bA (by simp only[bq];omega)]) ?_ rfl (hF.var.size _) ?_ (by simpa using hO) (by simp[pt,Value.oneCell']) (wpList_nil ?_)
 ·rw[bp,b8 aa,b8 aa,bA (by simp only[bq];omega)];rfl
 ·show(w.heap.push _)[B]?=_
  rw[Array.getElem?_push,al aa];exact hB
 ·exact h _ (((((Pv.refl _ _ _ _ _).put _ aa).put _ aa).put _ aa).put _ aa) (λs hs=>by rw[b8 aa,b8 aa,b8 aa,b8 aa])
end
def ka (l:List GC):Prop:=∀ n,n<=(gL l n).2
theorem bK:ka []:=λn=>ae n
theorem bw {x:GC}{l:List GC}(hx:Up x)(hl:ka l):ka (x::l):=λn=>am (hx n) (hl _)
theorem bN {l r:List GC}(hl:ka l)(hr:ka r):ka (l++r):=λn=>by
 rw[cz]
 exact am (hl n) (hr _)
theorem gH {l:List GC}(h:ka l):Up (gS l):=h
theorem iw {c:Prop}[Decidable c]{x y:GC}(hx:Up x)(hy:Up y):Up (if c then x else y):=by split<;>assumption
theorem fJ {c:Prop}[Decidable c]{x y:List GC}(hx:ka x)(hy:ka y):ka (if c then x else y):=by split<;>assumption
theorem E7 {g:G}{i l b1 b2:Nat}{body:GC}(h:Up body):Up (wU g i l b1 b2 body):=λn=>am (Nat.le_add_right n 5) (h _)
theorem qJ {g:G}{cx:Cx}{i b1 b2:Nat}{body:GC}(h:Up body):Up (oY g cx i b1 b2 body):=λn=>am (Nat.le_add_right n 5) (h _)
theorem mV {g:G}{key:Nat}{dflt:Code}:∀ {l:List (Nat × GC)},(∀ p∈l,Up p.2)->∀ n,n<=(ib g key dflt l n).2
 | [],_,n=>ae n
 | (t,x)::r,h,n=>am (am (Nat.le_add_right n 2) (h (t,x) (aB ..) (n+2))) (mV (l:=r) (λp hp=>h p (aA _ hp)) _)
theorem nV {g:G}{cx:Cx}{key b3 T k:Nat}{l:List (Nat × GC)}(h:∀ p∈l,Up p.2):Up (lY g cx key b3 T k l):=λn=>am (Nat.le_add_right n 9) (mV h _)
theorem jq (g:G)(cx:Cx)(ty:Ty)(v:Nat)(x:List Nat):ka (jx g cx ty v x):=by
 have hc:∀ f b v,Up (bQ f b v):=λ_ _ _=>bD _ _
 have hm:∀ x y,Up (dg x y):=λ_ _=>bD _ _
 have hs:∀ v x,Up (co v x):=λ_ _=>bD _ _
 have hf:∀ A B,Up A->Up B->Up (jF cx A B):=λ_ _=>dG
 have hu:∀ A B,Up A->Up B->Up (kM A B):=λ_ _=>dG
 unfold jx
 split
 ·exact bw (bD _ _) bK
 ·split
  ·exact bw (hs _ _) (bw (gH (bw (hc _ _ _) (bw (hm _ _) bK))) (bw (hm _ _) bK))
  ·exact bw (hc _ _ _) bK
 ·simp only
  split
  ·exact bw (hs _ _) (bw (iw (hf _ _ (hu _ _ (hc _ _ _) (hc _ _ _)) (hu _ _ (hc _ _ _) (hc _ _ _))) (hu _ _ (hc _ _ _) (hc _ _ _))) bK)
  ·refine bw (hs _ _) (bw (dG (gH (bw (bD _ _) (bw (iw (hf _ _ (hu _ _ (bD _ _) (bD _ _)) (hu _ _ (bD _ _) (bD _ _))) (hu _ _ (bD _ _) (bD _ _))) (bw (bD _ _) bK))))
    (iw (hf _ _ (hu _ _ (hc _ _ _) (hc _ _ _)) (hu _ _ (hc _ _ _) (hc _ _ _))) (hu _ _ (hc _ _ _) (hc _ _ _)))) bK)
  ·exact bw (hs _ _) (bw (iw (hu _ _ (hf _ _ (hc _ _ _) (hc _ _ _)) (hf _ _ (hc _ _ _) (hc _ _ _))) (hu _ _ (hc _ _ _) (hc _ _ _))) bK)
 ·simp only
  split
  ·exact bw (hs _ _) (bw (hf _ _ (hc _ _ _) (hc _ _ _)) bK)
  ·exact bw (hc _ _ _) bK
 ·exact bK
theorem j4 {g:G}{cx:Cx}{tagged:Bool}{T kt:Nat}{m:Nm}{items:List GC}{cases:List (Nat × GC)}(hi:ka items)(hc:∀ p∈cases,Up p.2):ka (iC g cx tagged T kt m items cases):=by
 unfold iC
 refine bN hi (fJ bK (fJ (bw (dG (qJ (gH (bw (bD _ _) (bw (nV hc) bK)))) (dc _)) bK) (bw (dG (bD _ _) (dc _)) bK)))
theorem tQ (g:G)(cx:Cx)(nul:Option Nat)(a l F:Nat):ka (kW g cx nul a l F):=by
 cases nul with
 | none=>exact bK
 | some m=>exact bw (dG (bD _ _) (dc _)) bK
theorem E6 (g:G)(b:Nat):Up (F7 g b):=gH (bw (bD _ _) (bw (dc _) bK))
mutual
theorem py (g:G):∀ (ty:Ty) (nm:Nm) (cx:Cx),ka (nM g cx ty nm)
 | .prim p,nm,cx=>bN (jq _ _ _ _ _) (bw (bD _ _) bK)
 | .str _,nm,cx=>bN (jq _ _ _ _ _) (bw (bD _ _) bK)
 | .bytes _,nm,cx=>bN (jq _ _ _ _ _) (bw (bD _ _) bK)
 | .list nul esz e,nm,cx=>by
  have he:∀ a i F,ka (gEl g cx e a i F (nm.sub 0)):=λa i F=>up_gEl g e (nm.sub 0) cx a i F
  refine bN (bN (bw (bD _ _) (bw (bD _ _) (bw (bD _ _) (bw (iw (dG (bD _ _) (bD _ _)) (bD _ _)) bK)))) (tQ _ _ _ _ _ _)) ?_
  exact bw (dG (E6 _ _) (dc _)) (bw (bD _ _) (bw (dG (bD _ _) (dc _)) (bw (E7 (gH (he _ _ _))) (bw (bD _ _) (bw (bD _ _) bK)))))
 | .struct none _ fs,nm,cx=>
  bN (bw (bD _ _) (bw (bD _ _) (bw (bD _ _) bK))) (j4 (up_gFds g fs _ _) (up_gTagd g fs _ _))
 | .struct (some _) _ fs,nm,cx=>by
  refine bw (gH (bw (bD _ _) (bw (dG (gH (bN (bw (bD _ _) (bw (bD _ _) (bw (bD _ _) (bw (bD _ _) bK)))) (j4 (up_gFds g fs _ _) (up_gTagd g fs _ _)))) (dc _)) bK))) bK
theorem up_gEl (g:G):∀ (ty:Ty) (nm:Nm) (cx:Cx) (a i F:Nat),ka (gEl g cx ty a i F nm)
 | .struct _ _ fs,_nm,_cx,_a,_i,_F=>bN (bw (bD _ _) (bw (bD _ _) (bw (bD _ _) bK))) (j4 (up_gFds g fs _ _) (up_gTagd g fs _ _))
 | .prim _p,_nm,_cx,_a,_i,_F=>bN (jq _ _ _ _ _) (bw (bD _ _) bK)
 | .str _,_nm,_cx,_a,_i,_F=>bN (jq _ _ _ _ _) (bw (bD _ _) bK)
 | .bytes _,_nm,_cx,_a,_i,_F=>bN (jq _ _ _ _ _) (bw (bD _ _) bK)
 | .list _ _ _,_nm,_cx,_a,_i,_F=>bN (jq _ _ _ _ _) (bw (bD _ _) bK)
theorem up_gFds (g:G):∀ (fs:Fds) (ms:List Nm) (cx:Cx),ka (gFds g cx fs ms)
 | .nil,ms,cx=>bK
 | .cons lo hi tag df off ty r,ms,cx=>by
  have h1:=py g ty (ms.headD (.mk [] [])) cx
  have h2:=up_gFds g r ms.tail cx
  unfold gFds
  refine fJ (bw ?_ h2) h2
  unfold fO
  split
  ·exact dG (gH h1) (dc _)
  ·exact iw (gH h1) (dG (gH h1) (dc _))
theorem up_gTagd (g:G):∀ (fs:Fds) (ms:List Nm) (cx:Cx),∀ p∈gTagd g cx fs ms,Up p.2
 | .nil,ms,cx=>λp hp=>by cases hp
 | .cons lo hi tag df off ty r,ms,cx=>by
  have h1:=py g ty ((ms.headD (.mk [] [])).sub 0) { cx with b:=(ms.headD (.mk [] [])).n 0 }
  have h2:=up_gTagd g r ms.tail cx
  cases tag with
  | none=>exact h2
  | some t=>
   intro p hp
   simp only[gTagd,aI]at hp
   rcases hp with rfl|hp
   ·exact gH (bN (bN (bw (bD _ _) bK) h1) (bw (gH (bw (bD _ _) (bw (dG (gH (bw (bD _ _) (bw (dc _) bK))) (dc _)) bK))) bK))
   ·exact h2 p hp
end
theorem yz (l:Bs):(cu l).1<4294967296:=by
 unfold cu
 split
 ·simp
 ·rename_i a l
  have ha:=UInt8.toNat_lt a
  split
  ·simp only;omega
  ·split
   ·simp
   ·rename_i b l
    have hb:=UInt8.toNat_lt b
    split
    ·simp only;omega
    ·split
     ·simp
     ·rename_i c l
      have hc:=UInt8.toNat_lt c
      split
      ·simp only;omega
      ·split
       ·simp
       ·rename_i d l
        have hd:=UInt8.toNat_lt d
        split
        ·simp only;omega
        ·split
         ·simp
         ·rename_i e l
          split
          ·simp only;omega
          ·simp
theorem l9 (r:RS):(bZ r).1<4294967296:=by
 unfold bZ
 split
 ·simp
 ·exact yz _
theorem eA.one {w:World}{X:Nat->Prop}{v:Value}{t:List (Nat × Bs)}(h:eA w X v t):v.oneCell'=true:=by
 rcases h with⟨rfl,_⟩|⟨r,rfl,_⟩<;>rfl
section
variable {P:Program} {g:G} {av:PF->Bool} {fl:Bool} {cx:Cx} {fx:Bool} {ver:Int} {S R B O:Nat} {r:RS} {x m k0 n:Nat} {K N E:Act->World->Prop} {Q:Exit->Act->World->Prop} {a:Act} {w:World}
theorem vW (K0:KB P g av fl)(Jb:fl=true)(IQ:RC g cx fx ver S R B O r a w)(hc:fX cx m k0){T k off:Nat}{cur:Array Value}{te:TypeId}(hF:cO P T k g.tTags off true 1)(hB:w.heap[B]?=some (.cells cur te (0,0)))(hO:O+off+1<=cur.size)
  (hk:k0<=n) (hn:n+4<=a.tmps.size)
  (h:∀ a' w',Pv 6 m k0 n a a'->ep w' g.tR S R (e9 (bZ r).1 [] (bZ r).2).2->gh R B (λj=>j=O+off) w w' ->
   (∀ X:Nat->Prop,(∀ k,X k->k<w.heap.size)->¬ X S->∃ mm,w'.cell? ⟨B,O+off,none⟩=some mm/\eA w' X mm (e9 (bZ r).1 [] (bZ r).2).1)->K a' w') :
  cf P (oi g cx T k n).1 (Exit.then K Q) a w:=by
 have Qu:=hc.b
 have Jj:=hc.le
 refine bF (bv ?_)
 rw[bp,IQ.ss]
 refine cj (vs:=#[pt R 0]) (K0.tagsE Jb) (by simp[bp,b8 (show cx.b≠n by omega),IQ.sb]) (K0.tagsC Jb w S R r IQ.rd IQ.SR IQ.Slt) λe w1 hR=>?_
 obtain⟨mm,he,h1,h2,h3⟩:=hR
 refine⟨_,he,?_⟩
 refine bY (by rw[bp,b8 aa,bA aa];rfl) ?_
 refine dt (by rw[bp,bA (by simp only[bq];omega)]) hF ?_
 have IU:B<w.heap.size:=(aj.1 hB).1
 have MC:w1.heap[B]?=some (.cells cur te (0,0)):=by rw[h2.block B IU IQ.BR];exact hB
 have Jv:=(h3 (λ_=>False) (λ_ h=>h.elim) id).one
 refine cK (cur:=cur) (t:=te) (v:=.agg #[mm]) (vs:=[mm]) (by rw[bp,bA (by simp only[bq];omega)]) ?_ rfl (hF.var.size _) MC (by simpa using hO) (by simpa using Jv) (wpList_nil ?_)
 ·rw[bp,b8 aa,b8 aa,bA (by simp only[bq];omega)]
 ·have hE:gh R B (λj=>j=O+off) w1 (w1.setRow B (bV cur (O+off) [mm])):=gh.store MC (by simpa using hO) (λj h1 h2=>by simp at h2;omega)
  refine h _ _ ((((((Pv.refl _ _ _ _ _).put _ aa).put _ aa).put _ aa).put _ aa)) (h1.keep (br.setRow (λk=>k=B) _ _ _ rfl) (λh=>IQ.BS h.symm) (λh=>IQ.BR h.symm))
   ((gh.of_keeps h2 (λ_ _ h=>h) IQ.BR).trans hE) λX hX hS=>⟨mm,?_,?_⟩
  ·rw[cell_setRow_same _ _ _ _ _ _ _ MC]
   have:=dn (cur:=cur) (o:=O+off) (vs:=[mm]) (by simpa using hO) 0 ab
   simpa using this
  ·have h4:=h3 (λk=>X k \/ k=B) (λk hk=>by rcases hk with hk|rfl<;>first|exact hX k hk|exact IU) (λhk=>by rcases hk with hk|hk<;>first|exact hS hk|exact IQ.BS hk.symm)
   exact(h4.keep (br.setRow (λk=>X k \/ k=B) _ _ _ (.inr rfl))).mono λk _ hk=>.inl hk
theorem lC {w:World}{S:Nat}{v:Value}{r:RS}(h:dj w S v r):v.oneCell'=true/\v.cells=#[v]:=by
 rcases h with⟨rfl,_⟩|⟨o,c,rfl,_⟩<;>exact⟨rfl,rfl⟩
theorem yp (K0:KB P g av fl){ops:Array Oper}{l:List Oper}{d:Option Nat}{y:Operand}{v:Value}(hy:a.eval y=v)(hv:v.cells=#[v])(h:wpList P ops Q l (a.put d (.agg #[v,.bool false])) w):wpList P ops Q (mk d (.build g.tR #[(0,y)])::l) a w:=by
 refine bP ?_ h
 obtain⟨fs,f0,f1,h1,h2,h3,h4,h5,h6⟩:=K0.fR
 have hz:=K0.zR w
 have J9:fs=#[f0,f1]:=by rw[<- Array.toArray_toList (xs:=fs),h2]
 subst J9
 have Kv:(Value.agg #[.slice none 0 0,.bool false]).cells=#[.slice none 0 0,.bool false]:=rfl
 simp[execOp,mk,hy,Instr.build,hz,run_underlying h1,h5.size,h6.size,h3,h4,Instr.fill,hv,Kv]
theorem bO (w:World)(o:Obj):(w.alloc o).heap[w.heap.size]?=some o:=heap_alloc_new w o
theorem cR {w:World}{o:Obj}{b:Nat}(h:b<w.heap.size):(w.alloc o).heap[b]?=w.heap[b]?:=by
 show(w.heap.push o)[b]?=_
 rw[Array.getElem?_push,al aa]
theorem mK (K0:KB P g av fl){l:List Oper}{y b' t:Nat}{v:Value}{r':RS}{ops:Array Oper}(hy:a.get y=v)(hv:dj w S v r')(_hbad:r'.bad=false)(ht:t<a.tmps.size)(hb:b'<a.tmps.size)(PJ:b'≠t)
  (h:wpList P ops Q l ((a.put (some t) (.agg #[v,.bool false])).put (some b') (pt w.heap.size 0)) ((w.alloc (.cells #[.slice none 0 0,.bool false] g.tR (0,0))).setRow w.heap.size #[v,.bool false])) :
  wpList P ops Q (mk (some t) (.build g.tR #[(0,tm y)])::mk (some b') (.alloc g.tR)::mk none (.store g.tR (tm b') (tm t))::l) a w:=by
 obtain⟨Jv,X1⟩:=lC hv
 refine yp K0 (v:=v) (by rw[bp];exact hy) X1 ?_
 refine fe (K0.zR w) ?_
 refine cK (g:=w.heap.size) (o:=0) (cur:=#[.slice none 0 0,.bool false]) (t:=g.tR) (v:=.agg #[v,.bool false]) (vs:=[v,.bool false]) ?_ ?_ rfl (K0.vR.size _) (heap_alloc_new _ _) ab ?_ ?_
 ·rw[bp,bA (by simp only[bq];omega)]
 ·rw[bp,b8 aa,bA aa]
 ·intro u hu
  simp only[aI,bd,or_false]at hu
  rcases hu with rfl|rfl
  ·exact Jv
  ·rfl
 ·have:bV #[Value.slice none 0 0,.bool false] 0 [v,.bool false]=#[v,.bool false]:=by simp[bV]
  rw[this]
  exact h
theorem fT (X:Nat->Prop)(w:World)(o:Obj)(cs:Array Value):br X w ((w.alloc o).setRow w.heap.size cs):=
 ⟨rfl,rfl,rfl,by simp,λk K5 _=>by rw[setRow_other _ _ _ _ aa];exact cR K5⟩
theorem mf {v:Value}{r':RS}{T:Nat}(hv:dj w S v r')(Ju:r'.bad=false):ep ((w.alloc (.cells #[.slice none 0 0,.bool false] T (0,0))).setRow w.heap.size #[v,.bool false]) T S w.heap.size r':=by
 refine⟨v,?_,hv.keep (fT (λ_=>False) w _ _) id⟩
 rw[Ju]
 exact setRow_heap _ _ _ _ _ _ (heap_alloc_new _ _)
theorem CZ (K0:KB P g av fl)(Jb:fl=true)(IQ:RC g cx fx ver S R B O r a w)(hc:fX cx m k0){b':Nat}(OF:m<=b'/\b'<k0)(hk:k0<=n)(hn:n+4<=a.tmps.size)
  (h:∀ a' w' R',Pv 6 m k0 n a a'->a'.get b'=pt R' 0->w.heap.size<=R'->ep w' g.tR S R' ⟨(cd (bZ r).1 (bZ r).2).1.octets,false,(cd (bZ r).1 (bZ r).2).1.isNul⟩->ep w' g.tR S R (cd (bZ r).1 (bZ r).2).2 ->
   br (·=R) w w'->K a' w'):cf P (qj g cx.b b' n).1 (Exit.then K Q) a w:=by
 have Qu:=hc.b
 have Jj:=hc.le
 refine bF (cj (vs:=#[pt R 0]) (K0.uvE Jb) (by simp[bp,IQ.sb]) (K0.uvC Jb w S R r IQ.rd IQ.SR) λe w1 hR=>?_)
 obtain⟨he,h1,h2⟩:=hR
 refine⟨_,he,?_⟩
 have IU:=l9 r
 have JO:IntKind.i64.wrap ((bZ r).1:Int)=((bZ r).1:Int):=by simp[IntKind.wrap,IntKind.bits,IntKind.signed];omega
 refine ci (k:=.u32) (k':=.i64) (m:=((bZ r).1:Int)) (by rw[bp,bA aa]) (K0.tU32 Jb) K0.tInt ?_
 rw[JO]
 refine cj (vs:=#[pt R 0,.int .i64 ((bZ r).1:Int)]) (K0.spanE Jb) ?_ (K0.spanC Jb w1 S R (bZ r).2 ((bZ r).1:Int) aa aa h1 IQ.SR) λe2 w2 Kr=>?_
 ·simp only[List.map_cons,List.map_nil,bp]
  rw[bA (by simp only[bq];omega),b8 (show cx.b≠n+1 by omega),b8 (show cx.b≠n by omega),IQ.sb]
 obtain⟨v,L0,h3,h4,h5⟩:=Kr
 refine⟨_,L0,?_⟩
 refine mK K0 (y:=n+2) (v:=v) (bA (by simp only[bq];omega)) h5 rfl (by simp only[bq];omega) (by simp only[bq];omega) aa (wpList_nil ?_)
 have IV:br (·=R) w w2:=h2.trans h4
 refine h _ _ w2.heap.size (((((Pv.refl _ _ _ _ _).put _ aa).put _ aa).put _ aa).put _ aa |>.put _ aa) (bA (by simp only[bq];omega)) IV.size (mf h5 rfl)
  (h3.keep (fT (λ_=>False) w2 _ _) id id) (IV.trans (fT _ w2 _ _))
theorem wg (d:Nat){T:TypeId}{ms:Array (String × TypeId)}(hT:P.underlying T=some (.interface ms))(w:World):(Op.equalIn (d+1) T .nilIface .nilIface).run P w=.ok true w:=by
 simp[Op.equalIn,run_underlying hT]
theorem we (d:Nat){T:TypeId}{ms:Array (String × TypeId)}(hT:P.underlying T=some (.interface ms))(t:TypeId)(y:Value)(w:World):(Op.equalIn (d+1) T (.iface t y) .nilIface).run P w=.ok false w:=by
 simp[Op.equalIn,run_underlying hT]
theorem qU {T:TypeId}{ms:Array (String × TypeId)}(hT:P.underlying T=some (.interface ms)){v:Value}{b:Bool}(hv:(v=.nilIface/\b=false) \/ ((∃ t y,v=.iface t y)/\b=true))(w:World):(binOp .neq T v .nilIface).run P w=.ok (.bool b) w:=by
 rcases hv with⟨rfl,rfl⟩|⟨⟨t,y,rfl⟩,rfl⟩
 ·have:(Op.equal T .nilIface .nilIface).run P w=.ok true w:=wg 9999 hT w
  simp[binOp,this]
 ·have:(Op.equal T (.iface t y) .nilIface).run P w=.ok false w:=we 9999 hT t y w
  simp[binOp,this]
theorem A7 (K0:KB P g av fl)(Jb:fl=true){b' err R':Nat}{r':RS}(hb:a.get b'=pt R' 0)(LV:ep w g.tR S R' r')(herr:ErrAt g.gErr w)(hm6:6<m)(KU:m<=err/\err<k0)(hm:m<=k0)(hk:k0<=n)(hn:n+4<=a.tmps.size)
  (Ju:r'.bad=true->∀ a' w',Pv 6 m k0 n a a'->(∃ t y,a'.get 6=.iface t y)->br (λ_=>False) w w'->E a' w')
  (Jf:r'.bad=false->∀ a' w',Pv 6 m k0 n a a'->br (λ_=>False) w w'->K a' w'):cf P (oZ g b' err n).1 (Rt K E) a w:=by
 obtain⟨ms,hT⟩:=K0.tErr Jb
 refine cC (bt (mz (x:=6) (m:=m) (k0:=k0) K0.cmE hb (K0.cmC w S R' r' LV herr) (.inr KU) hm hk aa aa λe w1 hR=>?_))
 obtain⟨Jd,v,he,h0,h1⟩:=hR
 refine⟨v,he,λa1 IP IY=>?_⟩
 have IX:=IP.size
 have Jh:∀ (b:Bool) (K':Act->World->Prop),(v=.nilIface/\b=false) \/ ((∃ t y,v=.iface t y)/\b=true)->(∀ a',a'.eval (tm (n+1+1))=.bool b->Pv 6 k0 k0 (n+1) a1 a'->K' a' w1) ->
   wpList P [mk (some (n+1)) (.move (tm err)),mk (some (n+1+1)) (.binOp .neq g.tErr (tm (n+1)) (.const .nilIface) 0)].toArray (Exit.then K' (Exit.then (LW P [] (n+4) (Rt K E)) (Rt K E)))
    [mk (some (n+1)) (.move (tm err)),mk (some (n+1+1)) (.binOp .neq g.tErr (tm (n+1)) (.const .nilIface) 0)] a1 w1:=by
  intro b K' hb hK'
  refine bv ?_
  rw[bp,IY]
  refine bP (v:=.bool b) (w':=w1) ?_ (wpList_nil (hK' _ ?_ (((Pv.refl _ _ _ _ _).put _ aa).put _ aa)))
  ·have e1:(a1.put (some (n+1)) v).eval (tm (n+1))=v:=by rw[bp,bA aa]
   have e2:(a1.put (some (n+1)) v).eval (.const .nilIface)=.nilIface:=rfl
   have hg:(eqGuard .neq g.tErr (tm (n+1)) (.const .nilIface) v .nilIface).run P w1=.ok () w1:=by
    rcases hb with⟨rfl,_⟩|⟨⟨t,y,rfl⟩,_⟩<;>simp[eqGuard,tm]
   have hr:=qU hT hb w1
   simp only[execOp,mk,e1,e2,Sem.run_bind,hg,Result.andThen_ok,hr,Sem.run_pure]
  ·rw[bp,bA (by simp only[bq];omega)]
 refine bt ?_
 cases OF:r'.bad with
 | true=>
  obtain⟨t,y,rfl⟩:=h1 OF
  refine eX (Jh true _ (.inr ⟨⟨t,y,rfl⟩,rfl⟩) λa2 L0 IR=>⟨L0,?_⟩)
  have Jr:=IR.size
  have Lz:a2.get err=.iface t y:=(IR.get err aa (.inl KU.2)).trans IY
  refine cC (bt (bF (bv (b7 (wpList_nil (bt (.ret ?_)))))))
  rw[bp,bp,Lz,bA (by simp only[bQ,bL];omega)]
  refine Ju OF _ w1 ((IP.trans ((IR.low hm).mono (ae _) aa)).trans (((Pv.refl _ _ _ _ _).put _ ?_).put _ ?_)) ⟨t,y,bA (by simp only[bq];omega)⟩ Jd
  ·simp only[bQ,bL];omega
  ·omega
 | false=>
  have N3:=h0 OF
  subst N3
  refine eK (Jh false _ (.inl ⟨rfl,rfl⟩) λa2 L0 IR=>⟨L0,.skip (cD ?_)⟩)
  exact Jf OF a2 w1 (IP.trans ((IR.low hm).mono (ae _) aa)) Jd
end
def FnIs (P:Program)(f ntmps:Nat)(res:List Nat)(d:Code):Prop:=
 ∃ fn c, P.funcs[f]? = some fn /\ fn.body = some c /\ nCode c = d /\ fn.ntmps = ntmps /\ fn.results = (res.map ResultVar.tmp).toArray /\ (fn.name == "runtime.NumGoroutine") = false
theorem fnIs_of {P : Program} {f : Nat} {fn : Func} {ntmps : Nat} {res : List Nat} {d : Code} (hf : P.funcs[f]? = some fn) (hb : fn.body.map nCode = some d) (hn : fn.ntmps = ntmps) (hr : fn.results = (res.map ResultVar.tmp).toArray) (hg : (fn.name == "runtime.NumGoroutine") = false) : FnIs P f ntmps res d := by
 cases h:fn.body with
 | none=>rw[h]at hb;cases hb
 | some c=>
  rw[h]at hb
  exact⟨fn,c,hf,h,au hb,hn,hr,hg⟩
def cE (res:List Nat)(a:Act):Value:=match res with|[t]=>a.get t|_=>.tuple (res.map a.get).toArray
theorem FnIs.ent {P:Program}{f n:Nat}{res:List Nat}{d:Code}(h:FnIs P f n res d):Ent P f:=by
 obtain⟨fn,c,hf,hb,_,_,_,hg⟩:=h
 have Jn : ¬ fn.name = "runtime.NumGoroutine" := by simpa using hg
 intro args w
 simp[callFunc,hf,Jn,hb]
theorem um {P:Program}{fn:Func}{res:List Nat}(hl:res.length<=2)(hr:fn.results=(res.map ResultVar.tmp).toArray)(a:Act)(w:World):(results fn a.tmps).run P w=.ok (cE res a) w:=by
 unfold results
 rw[hr]
 match res,hl with
 | [],_=>simp[cE]
 | [t],_=>simp[cE,Act.get]
 | [t,u],_=>simp[cE,Act.get]
theorem FnIs.calls {P:Program}(hm:P.follows .mixedOrders=true){f n:Nat}{res:List Nat}{d:Code}(h:FnIs P f n res d)(hl:res.length<=2){args:Array Value}{w:World}{R:Ending->World->Prop}
  (hw:cf P d (Rt (λa w=>a.defers=[]/\R (.returned (cE res a)) w) (λa w=>a.defers=[]/\R (.returned (cE res a)) w)) { tmps:=args++Array.replicate (n-args.size) undef,defers:=[] } w):Calls P f args w R:=by
 obtain⟨fn,c,hf,hb,rfl,rfl,hr,_⟩:=h
 refine nD hm hf hb rfl (.mono hw λe a w hq=>?_)
 cases e<;>first|exact hq.elim|exact⟨hq.1,_,um hl hr a w,hq.2⟩
