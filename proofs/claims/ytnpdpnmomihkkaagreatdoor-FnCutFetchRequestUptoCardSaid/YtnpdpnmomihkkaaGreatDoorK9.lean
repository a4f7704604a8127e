/- messages, part 9 -/
import Derived.Test.YtnpdpnmomihkkaaGreatDoorK7
import Derived.Test.YtnpdpnmomihkkaaGreatDoorK8
import Derived.ChangeKeysEq

namespace Go.Proofs.YtnpdpnmomihkkaaGreatDoor.Kx
open Go
section
variable {P:Program} {K:Kn}
theorem zX {ops:Array Oper}{Q:Exit->Act->World->Prop}{r:List Oper}{a:Act}{w:World}{d:Option Nat}{T:Nat}{y:Operand}{k:IntKind}{x:Int}{s:Nat}(hy:a.eval y=.int k x)(hs:s<=k.bits)
  (h:wpList P ops Q r (a.put d (.int k (x/2^s))) w):wpList P ops Q (mk d (.binOp .shr T y (ki .u64 s) 0)::r) a w:=by
 refine bP (w':=w) ?_ h
 have e2:a.eval (ki .u64 s)=.int .u64 s:=rfl
 have Jl:=xJ (P:=P) (k:=k) (A:=T) (x:=x) hs w
 simp[execOp,mk,hy,e2,eqGuard,Jl]
theorem tw {ops:Array Oper}{Q:Exit->Act->World->Prop}{r:List Oper}{a:Act}{w:World}{d:Option Nat}{T:Nat}{y:Operand}{l:List UInt8}{k:IntKind}{i:Nat}{b:UInt8}(hT:P.underlying T=some .string)(hy:a.eval y=.int k i)(hi:l[i]?=some b)
  (h:wpList P ops Q r (a.put d (.int .u8 (b.toNat:Int))) w):wpList P ops Q (mk d (.index T (.const (CR l)) y)::r) a w:=by
 refine bP (w':=w) ?_ h
 have e2:a.eval (.const (CR l))=.string ⟨l.toArray⟩:=rfl
 have e3:(⟨l.toArray⟩:ByteArray)[i]?=some b:=by
  have IU:i<l.length:=(ah.1 hi).1
  have hb:=(ah.1 hi).2
  rw[getElem?_pos _ i (by simpa[ByteArray.size]using IU)]
  congr 1
 simp[execOp,mk,hy,e2,Instr.index,asIntOf,run_underlying hT,e3]
theorem BG {y:Nat}(h:y<256):mc[y]?=some (mc.getD y 0):=by
 have hl:mc.length=256:=by simp[mc]
 rw[List.getD_eq_getElem?_getD,aq aa]
 rfl
theorem yx {y:Nat}(h:y<256):ow[y]?=some (ow.getD y 0):=by
 have hl:ow.length=256:=by simp[ow]
 rw[List.getD_eq_getElem?_getD,aq aa]
 rfl
theorem pi {k:IntKind}{m:Nat}(h:m<128):k.wrap (m:Int)=m:=by
 cases k<;>simp[IntKind.wrap,IntKind.bits,IntKind.signed]<;>omega
theorem xl {m:Nat}(h:m<256):IntKind.u8.wrap (m:Int)=m:=by
 simp[IntKind.wrap,IntKind.bits,IntKind.signed];omega
theorem Ap (b:UInt8):IntKind.i64.wrap (b.toNat:Int)=(b.toNat:Int):=by
 have:=b.toNat_lt
 simp[IntKind.wrap,IntKind.bits,IntKind.signed];omega
theorem lU {k:IntKind}{A:Nat}{x y:Int}(w:World):(binOp .add A (.int k x) (.int k y)).run P w=.ok (.int k (k.wrap (x+y))) w:=by simp[binOp,Op.intArith]
theorem uJ (wt:WT P K){tU f ntmps:Nat}(hU:P.underlying tU=some (.int .u32))(hfn:FnIs P f ntmps [2] (cLen32 K tU))(Jg:19<=ntmps){x:Nat}(hx:x<4294967296)(w:World) :
  Calls P f #[.int .u32 x] w λe w'=>e=.returned (.int .i64 (BJ x:Nat))/\br (λ_=>False) w w':=by
 refine jl wt.mixed hfn aa λa h0 hs hd=>?_
 refine bt (bF (b7 (wpList_nil ?_)))
 have g0:(a.put (some 2) (.int .i64 0)).get 0=.int .u32 x:=by rw[b8 aa];exact h0
 have g2:(a.put (some 2) (.int .i64 0)).get 2=.int .i64 0:=bA aa
 have gs:(a.put (some 2) (.int .i64 0)).tmps.size=ntmps:=by rw[bq];exact hs
 have gd:(a.put (some 2) (.int .i64 0)).defers=[]:=by rw[b6];exact hd
 show LW P _ 3 _ (a.put (some 2) (.int .i64 0)) w
 generalize a.put (some 2) (.int .i64 0)=a at g0 g2 gs gd ⊢
 have first:∀ (l:List GC) (Q:Exit->Act->World->Prop),(∀ a',a'.get 0=.int .u32 ((kZ x).1:Nat)->a'.get 2=.int .i64 ((kZ x).2:Nat)->a'.tmps.size=ntmps->a'.defers=[]->LW P l 7 Q a' w) ->
   LW P (gb 1 2 (λn=>[mk (some n) (.move (tm 0)),mk (some (n+1)) (.binOp .geq tU (tm n) (ki .u32 65536) 0)])
    (gS [bL 2 λn=>[mk (some n) (.move (tm 0)),mk (some (n+1)) (.binOp .shr tU (tm n) (ki .u64 16) 0),mk (some 0) (.assign (tm (n+1)))],co 2 (.int .i64 16)]) cY::l) 3 Q a w:=by
  intro l Q h
  by_cases c:65536<=x
  ·refine bt (eX (bv ?_))
   rw[bp,g0]
   refine cZ (b:=true) (p:=x) (q:=65536) (k:=.u32) (by rw[bp,bA aa]) rfl (.inl ⟨rfl,by simp;omega⟩) (wpList_nil ⟨by rw[bp,bA (by simp only[bq];omega)],?_⟩)
   refine cC (bt (bF (bv ?_)))
   rw[bp,b8 aa,b8 aa,g0]
   refine zX (k:=.u32) (x:=x) (s:=16) (by rw[bp,bA (by simp only[bq];omega)]) (by decide) (b7 (wpList_nil ?_))
   rw[bp,bA (by simp only[bq];omega)]
   refine bt (bF (b7 (wpList_nil (cD (h _ ?_ ?_ ?_ ?_)))))
   ·rw[b8 aa,bA (by simp only[bq];omega)]
    simp only[kZ,ax c]
    simp
   ·rw[bA (by simp only[bq];omega)]
    simp only[kZ,ax c]
    rfl
   ·simp only[bq];exact gs
   ·simp only[b6];exact gd
  ·refine bt (eK (bv ?_))
   rw[bp,g0]
   refine cZ (b:=false) (p:=x) (q:=65536) (k:=.u32) (by rw[bp,bA aa]) rfl (.inl ⟨rfl,by simp;omega⟩) (wpList_nil ⟨by rw[bp,bA (by simp only[bq];omega)],.skip (h _ ?_ ?_ ?_ ?_)⟩)
   ·rw[b8 aa,b8 aa,g0]
    simp only[kZ,al c]
   ·rw[b8 aa,b8 aa,g2]
    simp only[kZ,al c]
    rfl
   ·simp only[bq];exact gs
   ·simp only[b6];exact gd
 refine first _ _ λa g0 g2 gs gd=>?_
 generalize hp:kZ x=p at g0 g2
 have IP:p.1<65536:=by rw[<- hp];simp only[kZ];split<;>simp<;>omega
 have IR:p.2<=16:=by rw[<- hp];simp only[kZ];split<;>simp
 have second:∀ (l:List GC) (Q:Exit->Act->World->Prop),(∀ a',a'.get 0=.int .u32 ((jE p).1:Nat)->a'.get 2=.int .i64 ((jE p).2:Nat)->a'.tmps.size=ntmps->a'.defers=[]->LW P l 13 Q a' w) ->
   LW P (gb 1 2 (λn=>[mk (some n) (.move (tm 0)),mk (some (n+1)) (.binOp .geq tU (tm n) (ki .u32 256) 0)])
    (gS [bL 2 λn=>[mk (some n) (.move (tm 0)),mk (some (n+1)) (.binOp .shr tU (tm n) (ki .u64 8) 0),mk (some 0) (.assign (tm (n+1)))],
     bL 2 λn=>[mk (some n) (.move (tm 2)),mk (some (n+1)) (.binOp .add K.tInt (tm n) (ki .i64 8) 0),mk (some 2) (.assign (tm (n+1)))]]) cY::l) 7 Q a w:=by
  intro l Q h
  by_cases c:256<=p.1
  ·refine bt (eX (bv ?_))
   rw[bp,g0]
   refine cZ (b:=true) (p:=p.1) (q:=256) (k:=.u32) (by rw[bp,bA aa]) rfl (.inl ⟨rfl,by simp;omega⟩) (wpList_nil ⟨by rw[bp,bA (by simp only[bq];omega)],?_⟩)
   refine cC (bt (bF (bv ?_)))
   rw[bp,b8 aa,b8 aa,g0]
   refine zX (k:=.u32) (x:=p.1) (s:=8) (by rw[bp,bA (by simp only[bq];omega)]) (by decide) (b7 (wpList_nil ?_))
   rw[bp,bA (by simp only[bq];omega)]
   refine bt (bF (bv ?_))
   rw[bp,b8 aa,b8 (by first|omega|simp[bL]),b8 (by first|omega|simp[bL]),b8 aa,b8 aa,g2]
   refine ee (k:=.i64) (m:=p.2) (n:=8) (by rw[bp,bA (by simp only[bq];first|omega|(simp[bL];omega))]) rfl ab (lU w) (b7 (wpList_nil (cD (h _ ?_ ?_ ?_ ?_))))
   ·rw[b8 aa,b8 (by first|omega|simp[bL]),b8 (by first|omega|simp[bL]),bA (by simp only[bq];omega)]
    simp only[jE,ax c]
    simp
   ·rw[bA (by simp only[bq];omega),bp,bA (by simp only[bq];first|omega|(simp[bL];omega))]
    simp only[jE,ax c]
    have:((p.2:Int)+8)=((p.2+8:Nat):Int):=by omega
    rw[this,pi aa]
   ·simp only[bq];exact gs
   ·simp only[b6];exact gd
  ·refine bt (eK (bv ?_))
   rw[bp,g0]
   refine cZ (b:=false) (p:=p.1) (q:=256) (k:=.u32) (by rw[bp,bA aa]) rfl (.inl ⟨rfl,by simp;omega⟩) (wpList_nil ⟨by rw[bp,bA (by simp only[bq];omega)],.skip (h _ ?_ ?_ ?_ ?_)⟩)
   ·rw[b8 aa,b8 aa,g0]
    simp only[jE,al c]
   ·rw[b8 aa,b8 aa,g2]
    simp only[jE,al c]
   ·simp only[bq];exact gs
   ·simp only[b6];exact gd
 refine second _ _ λa g0 g2 gs gd=>?_
 have La:(jE p).1<256:=by simp only[jE];split<;>omega
 have MI:(jE p).2<=24:=by simp only[jE];split<;>(try dsimp only)<;>omega
 have hlx:BJ x=(jE p).2+(mc.getD (jE p).1 0).toNat:=by simp only[BJ,hp]
 have h8:=(xR _ La).1
 rw[hlx]
 generalize jE p=q at g0 g2 La MI h8 ⊢
 refine bt (bF (bv (bv ?_)))
 rw[bp,g2,bp,b8 aa,g0]
 refine ci (k:=.u32) (k':=.u8) (m:=q.1) (by rw[bp,bA (by simp only[bq];omega)]) hU wt.dU8 ?_
 rw[xl La]
 refine tw wt.dStr (by rw[bp,bA (by simp only[bq];omega)]) (BG La) ?_
 refine ci (k:=.u8) (k':=.i64) (m:=((mc.getD q.1 0).toNat:Int)) (by rw[bp,bA (by simp only[bq];omega)]) wt.dU8 wt.dInt ?_
 rw[Ap]
 refine ee (k:=.i64) (m:=q.2) (n:=((mc.getD q.1 0).toNat:Int)) ?_ ?_ ab (lU w) ?_
 ·rw[bp,b8 aa,b8 aa,b8 aa,b8 aa,bA aa]
 ·rw[bp,bA (by simp only[bq];omega)]
 rw[show((q.2:Int)+((mc.getD q.1 0).toNat:Int))=((q.2+(mc.getD q.1 0).toNat:Nat):Int) by omega,pi aa]
 refine b7 (wpList_nil (bt (.ret ?_)))
 rw[bp,bA (by simp only[bq];omega)]
 exact⟨by simp only[b6];exact gd,by rw[bA (by simp only[bq];omega)],br.refl _ _⟩
theorem tL (wt:WT P K){tU f f2 ntmps nt2:Nat}(hU:P.underlying tU=some (.int .u32))(KA:FnIs P f2 nt2 [2] (cLen32 K tU))(Lh:19<=nt2)(hfn:FnIs P f ntmps [2] (cUvLen K f2))(Jg:8<=ntmps){x:Nat}(hx:x<4294967296)(w:World) :
  Calls P f #[.int .u32 x] w λe w'=>e=.returned (.int .i64 (qH x:Nat))/\br (λ_=>False) w w':=by
 obtain⟨hl,hu⟩:=E4 hx
 refine jl wt.mixed hfn aa λa h0 hs hd=>?_
 refine bt (bF (b7 (wpList_nil ?_)))
 show LW P _ 3 _ (a.put (some 2) (.int .i64 0)) w
 refine bt (bF (bv ?_))
 rw[bp,b8 aa,h0]
 refine cj (vs:=#[.int .u32 x]) KA.ent (by simp[bp,bA (show 3<(a.put (some 2) (Value.int .i64 0)).tmps.size by rw[bq];omega)]) (uJ wt hU KA Lh hx w) λe w' hR=>⟨_,hR.1,?_⟩
 refine ci (k:=.i64) (k':=.u8) (m:=(BJ x:Nat)) (by rw[bp,bA (by simp only[bq];omega)]) wt.dInt wt.dU8 ?_
 rw[xl aa]
 refine tw wt.dStr (by rw[bp,bA (by simp only[bq];omega)]) (yx aa) ?_
 refine ci (k:=.u8) (k':=.i64) (m:=((ow.getD (BJ x) 0).toNat:Int)) (by rw[bp,bA (by simp only[bq];omega)]) wt.dU8 wt.dInt ?_
 rw[Ap,hu]
 refine b7 (wpList_nil (bt (.ret ?_)))
 rw[bp,bA (by simp only[bq];omega)]
 exact⟨by simp only[b6];exact hd,by rw[bA (by simp only[bq];omega)],hR.2⟩
theorem tH (wt:WT P K){j L:Nat}{x:Int}{d:Value}{bs:Bs}{w:World}{E N:Act->World->Prop}(Ra:0<=x)(hx:x<2^IntKind.u32.bits)(hd:bS w L K.tU8 d bs)(hL:L<=w.heap.size) :
  ∀ (cs:List (Nat × List OE)) (es:List OE) (n:Nat) (a:Act),(∀ p∈cs,p.2≠[]/\p.2.length<=10/\∀ e∈p.2,∀ s,e.1=some s->s<=32)->cs.lookup j=some es->bs.length+es.length<=fq->6<n->(gU K cs n).2<=a.tmps.size->a.get 0=d->a.get 1=.int .u32 x->a.get 6=.int .i64 j ->
   (∀ a' w' d',a'.defers=a.defers->a'.get 4=d'->Gr L K.tU8 d w d' (bs++d9 es x) w'->E a' w')->cf P (gU K cs n).1 (Rt N E) a w
 | [],es,n,a,_,h,_,_,_,_,_,_,_=>by cases h
 | (i,es')::cs,es,n,a,Jf,h,hlim,hn,hs,h0,h1,h6,hE=>by
  have KM:∀ (cs:List (Nat × List OE)) (n:Nat),n<=(gU K cs n).2:=by
   intro cs
   induction cs with
   | nil=>intro n;exact ae _
   | cons p cs ih=>
    intro n
    obtain⟨i,es⟩:=p
    have:=ih (je K K.tU32 .u32 es (n+2)).2
    have h2:(je K K.tU32 .u32 es (n+2)).2=n+2+(3+gK es):=rfl
    simp only[gU]
    omega
  have Y8:=KM cs (je K K.tU32 .u32 es' (n+2)).2
  have h2:(je K K.tU32 .u32 es' (n+2)).2=n+2+(3+gK es'):=rfl
  simp only[gU]at hs ⊢
  have O0:∀ (b:Bool) (X:Act->World->Prop),b=decide ((j:Int)=(i:Int))->(∀ a',Pv n 0 0 n a a'->a'.get n=.bool b->X a' w)->cf P (rg [mk (some (n+1)) (.binOp .eql K.tInt (tm 6) (ki .i64 i) 0),mk (some n) (.assign (tm (n+1)))]) (Rt X E) a w:=by
   intro b X hb hX
   refine .reg (cZ (b:=b) (p:=j) (q:=i) (k:=.i64) (by rw[bp];exact h6) rfl (.inr (.inr (.inr (.inr (.inl ⟨rfl,hb⟩))))) (b7 (wpList_nil ?_)))
   rw[bp,bA aa]
   exact hX _ (((Pv.refl _ _ _ _ _).put _ (.inr aa)).put _ (.inl rfl)) (bA (by rw[bq];omega))
  by_cases K4:j=i
  ·subst K4
   rw[List.lookup_cons_self]at h
   obtain rfl:=au h
   refine .seq (O0 true (λa' w'=>cf P (.cond (tm n) (je K K.tU32 .u32 es' (n+2)).1 (gU K cs (je K K.tU32 .u32 es' (n+2)).2).1) (Rt N E) a' w') ab λa' hp hg=>?_) (λa' w' hh=>hh) (λe a w he hq=>by cases e<;>first|exact absurd rfl he|exact hq)
   have Jc:=hp.size
   obtain⟨o1,o2,o3⟩:=Jf _ (aB ..)
   refine .condT hg (A9 wt.oct wt.dU32 wt.dU8 aa (by rw[hp.get 0 aa aa];exact h0) (by rw[hp.get 1 aa aa];exact h1) (λe he=>.inr ⟨.inr (.inl rfl),Ra,hx,o3 e he⟩) o1 o2 aa hd hL hlim λa'' w' d' hd' h4 Jn=>hE a'' w' d' (hd'.trans hp.defers) h4 Jn)
  ·rw[bh,show(j==i)=false by simpa using K4]at h
   refine .seq (O0 false (λa' w'=>cf P (.cond (tm n) (je K K.tU32 .u32 es' (n+2)).1 (gU K cs (je K K.tU32 .u32 es' (n+2)).2).1) (Rt N E) a' w') (by simp;omega) λa' hp hg=>?_) (λa' w' hh=>hh) (λe a w he hq=>by cases e<;>first|exact absurd rfl he|exact hq)
   have Jc:=hp.size
   exact .condF hg (tH wt Ra hx hd hL cs es _ a' (λp hp=>Jf p (aA _ hp)) h hlim aa aa (by rw[hp.get 0 aa aa];exact h0) (by rw[hp.get 1 aa aa];exact h1) (by rw[hp.get 6 aa aa];exact h6)
    λa'' w' d' hd' h4 Jn=>hE a'' w' d' (hd'.trans hp.defers) h4 Jn)
theorem ap_uv (wt:WT P K){tU f f1 f2 ntmps nt1 nt2:Nat}(hU:P.underlying tU=some (.int .u32))(KA:FnIs P f2 nt2 [2] (cLen32 K tU))(Lh:19<=nt2)(Ug:FnIs P f1 nt1 [2] (cUvLen K f2))(R5:8<=nt1)(hfn:FnIs P f ntmps [4] (cAUv K f1))(Jg:93<=ntmps)
  {x:Nat} (hx:x<4294967296) (w:World):ApC P K.tU8 f (.int .u32 x) (uvar x) w:=by
 intro L d bs hd hL hlim
 obtain⟨es,LZ,hval⟩:=CF hx
 refine jN wt.mixed hfn aa λa h0 h1 hs J3=>?_
 refine bt (cC (bt (bF (bv ?_))))
 rw[bp,h1]
 refine cj (vs:=#[.int .u32 x]) Ug.ent (by simp[bp,bA (show 5<a.tmps.size by omega)]) (tL wt hU KA Lh Ug R5 hx w) λe w1 hR=>⟨_,hR.1,wpList_nil ?_⟩
 refine bt (.block ?_)
 have IT:(d9 es x).length=es.length:=by simp[d9]
 refine .mono (tH (E:=λa' w'=>a'.defers=[]/\∃ d',.returned (a'.get 4)=Ending.returned d'/\Gr L K.tU8 d w d' (bs++uvar x) w') (N:=λ_ _=>False) wt (j:=qH x) (x:=x) aa (by simp[IntKind.bits];omega) (hd.keep hR.2 λ_ _ h=>h) (by have:=hR.2.size;omega) Aj es 7 _ (by decide) LZ (by rw[<- IT,hval];exact hlim) aa (by simp only[bq];rw[hs,show(gU K Aj 7).2=92 from rfl];omega)
  (by rw[b8 aa,b8 aa];exact h0) (by rw[b8 aa,b8 aa];exact h1) (bA (by simp only[bq];omega)) λa' w' d' hd' h4 hg=>⟨?_,d',by rw[h4],?_⟩) λe a w hq=>?_
 ·rw[hd'];simp only[b6];exact J3
 ·rw[<- hval];exact Gr.pre hR.2 (λ_ _ h=>h) hg
 ·cases e<;>first|exact hq|exact hq.elim
end
section
variable {P:Program} {K:Kn}
theorem nO {ops:Array Oper}{Q:Exit->Act->World->Prop}{l:List Oper}{a:Act}{w:World}{d:Option Nat}{tP el:Nat}{x:Operand}{m:Option Addr}(hM:P.underlying tP=some (.pointer el))(hx:a.eval x=.pointer m)(h:wpList P ops Q l (a.put d (.bool m.isNone)) w) :
  wpList P ops Q (mk d (.binOp .eql tP x (.const (.pointer none)) 0)::l) a w:=by
 refine bP ?_ h
 have hc:a.eval (.const (.pointer none))=.pointer none:=rfl
 have he:(eqGuard .eql tP x (.const (.pointer none)) (.pointer m) (.pointer none)).run P w=.ok () w:=by simp[eqGuard]
 have hr:(binOp .eql tP (.pointer m) (.pointer none)).run P w=.ok (.bool m.isNone) w:=by
  have h1:(Op.equal tP (.pointer m) (.pointer none)).run P w=.ok m.isNone w:=by
   cases m with
   | none=>exact(show(Op.equalIn (9999+1) tP (.pointer none) (.pointer none)).run P w=_ from by
     have:∀ d:Nat,(Op.equalIn (d+1) tP (.pointer none) (.pointer none)).run P w=.ok true w:=λd=>by simp[Op.equalIn,run_underlying hM]
     exact this 9999)
   | some r=>exact(show(Op.equalIn (9999+1) tP (.pointer (some r)) (.pointer none)).run P w=_ from by
     have:∀ d:Nat,(Op.equalIn (d+1) tP (.pointer (some r)) (.pointer none)).run P w=.ok false w:=λd=>by simp[Op.equalIn,run_underlying hM]
     exact this 9999)
  simp[binOp,h1]
 simp[execOp,mk,hx,hc,he,hr]
theorem zW {ops:Array Oper}{Q:Exit->Act->World->Prop}{l:List Oper}{a:Act}{w:World}{d:Option Nat}{tS el:Nat}{x:Operand}{m:Option Addr}{n c:Nat}(hM:P.underlying tS=some (.slice el))(hx:a.eval x=.slice m n c)(h:wpList P ops Q l (a.put d (.bool m.isNone)) w) :
  wpList P ops Q (mk d (.binOp .eql tS x (.const (.slice none 0 0)) 0)::l) a w:=by
 refine bP ?_ h
 have hc:a.eval (.const (.slice none 0 0))=.slice none 0 0:=rfl
 have he:(eqGuard .eql tS x (.const (.slice none 0 0)) (.slice m n c) (.slice none 0 0)).run P w=.ok () w:=by simp[eqGuard]
 have hr:(binOp .eql tS (.slice m n c) (.slice none 0 0)).run P w=.ok (.bool m.isNone) w:=by
  have h1:(Op.equal tS (.slice m n c) (.slice none 0 0)).run P w=.ok m.isNone w:=by
   cases m with
   | none=>exact(show(Op.equalIn (9999+1) tS (.slice none n c) (.slice none 0 0)).run P w=_ from by
     have:∀ d:Nat,(Op.equalIn (d+1) tS (.slice none n c) (.slice none 0 0)).run P w=.ok true w:=λd=>by simp[Op.equalIn,run_underlying hM]
     exact this 9999)
   | some r=>exact(show(Op.equalIn (9999+1) tS (.slice (some r) n c) (.slice none 0 0)).run P w=_ from by
     have:∀ d:Nat,(Op.equalIn (d+1) tS (.slice (some r) n c) (.slice none 0 0)).run P w=.ok false w:=λd=>by simp[Op.equalIn,run_underlying hM]
     exact this 9999)
  simp[binOp,h1]
 simp[execOp,mk,hx,hc,he,hr]
theorem mJ {ops:Array Oper}{Q:Exit->Act->World->Prop}{l:List Oper}{a:Act}{w:World}{d:Option Nat}{tP el:Nat}{x:Operand}{m:Option Addr}(hM:P.underlying tP=some (.pointer el))(hx:a.eval x=.pointer m)(h:wpList P ops Q l (a.put d (.bool m.isSome)) w) :
  wpList P ops Q (mk d (.binOp .neq tP x (.const (.pointer none)) 0)::l) a w:=by
 refine bP ?_ h
 have hc:a.eval (.const (.pointer none))=.pointer none:=rfl
 have he:(eqGuard .neq tP x (.const (.pointer none)) (.pointer m) (.pointer none)).run P w=.ok () w:=by simp[eqGuard]
 have hr:(binOp .neq tP (.pointer m) (.pointer none)).run P w=.ok (.bool m.isSome) w:=by
  have h1:(Op.equal tP (.pointer m) (.pointer none)).run P w=.ok m.isNone w:=by
   cases m with
   | none=>exact(show(Op.equalIn (9999+1) tP (.pointer none) (.pointer none)).run P w=_ from by
     have:∀ d:Nat,(Op.equalIn (d+1) tP (.pointer none) (.pointer none)).run P w=.ok true w:=λd=>by simp[Op.equalIn,run_underlying hM]
     exact this 9999)
   | some r=>exact(show(Op.equalIn (9999+1) tP (.pointer (some r)) (.pointer none)).run P w=_ from by
     have:∀ d:Nat,(Op.equalIn (d+1) tP (.pointer (some r)) (.pointer none)).run P w=.ok false w:=λd=>by simp[Op.equalIn,run_underlying hM]
     exact this 9999)
  cases m<;>simp[binOp,h1]
 simp[execOp,mk,hx,hc,he,hr]
theorem nE {k:IntKind}{m:Nat}(h:(k=.i8/\m=1) \/ ((k=.i16 \/ k=.u16)/\m=2) \/ ((k=.i32 \/ k=.u32)/\m=4) \/ ((k=.i64 \/ k=.u64)/\m=8))(x:Int):be m (k.wrap x)=be m x:=by
 rw[<- Cn m (k.wrap x) m (ae _),<- Cn m x m (ae _)]
 congr 1
 rcases h with⟨rfl,rfl⟩|⟨rfl|rfl,rfl⟩|⟨rfl|rfl,rfl⟩|⟨rfl|rfl,rfl⟩<;>simp[IntKind.wrap,IntKind.bits,IntKind.signed]<;>omega
theorem qg {te L:Nat}{d d':Value}{bs enc:Bs}{w w':World}{x:Value}(hx:x=d')(hg:Gr L te d w d' (bs++enc) w'):∃ d',Ending.returned x=Ending.returned d'/\Gr L te d w d' (bs++enc) w':=⟨d',by rw[hx],hg⟩
theorem Ip (wt:WT P K)(hF:cJ K.tI8=true){f ntmps:Nat}(hfn:FnIs P f ntmps [4] (cAI8 K))(Jg:10<=ntmps)(x:Int)(w:World):ApC P K.tU8 f (.int .i8 x) (be 1 x) w:=by
 have h:=tc wt (wt.dI8 hF) hfn (by simp[gK,gy];omega) ab ab (x:=x) (λe he=>by simp at he;exact .inl he) w
 have e:d9 [(none,false)] x=be 1 x:=by simp[d9,kp,be]
 rwa [e]at h
theorem Cq (wt:WT P K)(hF:cJ K.tU16=true){f ntmps:Nat}(hfn:FnIs P f ntmps [4] (cAU16 K))(Jg:13<=ntmps){x:Int}(hx:0<=x/\x<65536)(w:World):ApC P K.tU8 f (.int .u16 x) (be 2 x) w:=by
 have h:=tc wt (wt.dU16 hF) hfn (by simp[gK,gy];omega) ab ab (x:=x) (λe he=>.inr ⟨.inl rfl,hx.1,by simp[IntKind.bits];omega,λs hs=>by simp at he;rcases he with rfl|rfl<;>simp at hs;subst hs;decide⟩) w
 rwa [I3]at h
theorem FE (wt:WT P K){f ntmps:Nat}(hfn:FnIs P f ntmps [4] (cAU32 K))(Jg:19<=ntmps){x:Int}(hx:0<=x/\x<4294967296)(w:World):ApC P K.tU8 f (.int .u32 x) (be 4 x) w:=by
 have h:=tc wt wt.dU32 hfn (by simp[gK,gy];omega) ab ab (x:=x) (λe he=>.inr ⟨.inr (.inl rfl),hx.1,by simp[IntKind.bits];omega,λs hs=>by simp at he;rcases he with rfl|rfl|rfl|rfl<;>simp at hs<;>subst hs<;>decide⟩) w
 rwa [I2]at h
theorem FD (wt:WT P K)(hF:cJ K.tU64=true){f ntmps:Nat}(hfn:FnIs P f ntmps [4] (cAU64 K))(Jg:31<=ntmps){x:Int}(hx:0<=x/\x<18446744073709551616)(w:World):ApC P K.tU8 f (.int .u64 x) (be 8 x) w:=by
 have h:=tc wt (wt.dU64 hF) hfn (by simp[gK,gy];omega) ab ab (x:=x) (λe he=>.inr ⟨.inr (.inr rfl),hx.1,by simp[IntKind.bits];omega,λs hs=>by simp at he;rcases he with rfl|rfl|rfl|rfl|rfl|rfl|rfl|rfl<;>simp at hs<;>subst hs<;>decide⟩) w
 rwa [I1]at h
theorem mq {k:IntKind}(x:Int):(k=.u16->0<=k.wrap x/\k.wrap x<65536)/\(k=.u32->0<=k.wrap x/\k.wrap x<4294967296)/\(k=.u64->0<=k.wrap x/\k.wrap x<18446744073709551616):=by
 refine⟨?_,?_,?_⟩<;>(intro h;subst h;simp[IntKind.wrap,IntKind.bits,IntKind.signed];omega)
theorem ap_i16 (wt:WT P K)(hF:cJ K.tU16=true){f f2 ntmps nt2:Nat}(KA:FnIs P f2 nt2 [4] (cAU16 K))(Lh:13<=nt2)(hfn:FnIs P f ntmps [4] (cACv K.tI16 K.tU16 f2))(Jg:9<=ntmps)(x:Int)(w:World):ApC P K.tU8 f (.int .i16 x) (be 2 x) w:=
 yi wt wt.dI16 (wt.dU16 hF) hfn Jg KA.ent (nE (k:=.u16) (.inr (.inl ⟨.inr rfl,rfl⟩)) x ▸ Cq wt hF KA Lh ((mq x).1 rfl) w)
theorem ap_i32 (wt:WT P K){f f2 ntmps nt2:Nat}(KA:FnIs P f2 nt2 [4] (cAU32 K))(Lh:19<=nt2)(hfn:FnIs P f ntmps [4] (cACv K.tI32 K.tU32 f2))(Jg:9<=ntmps)(x:Int)(w:World):ApC P K.tU8 f (.int .i32 x) (be 4 x) w:=
 yi wt wt.dI32 wt.dU32 hfn Jg KA.ent (nE (k:=.u32) (.inr (.inr (.inl ⟨.inr rfl,rfl⟩))) x ▸ FE wt KA Lh ((mq x).2.1 rfl) w)
theorem FH (wt:WT P K)(hF:cJ K.tU64=true)(UQ:cJ K.tI64=true){f f2 ntmps nt2:Nat}(KA:FnIs P f2 nt2 [4] (cAU64 K))(Lh:31<=nt2)(hfn:FnIs P f ntmps [4] (cACv K.tI64 K.tU64 f2))(Jg:9<=ntmps)(x:Int)(w:World):ApC P K.tU8 f (.int .i64 x) (be 8 x) w:=
 yi wt (wt.dI64 UQ) (wt.dU64 hF) hfn Jg KA.ent (nE (k:=.u64) (.inr (.inr (.inr ⟨.inr rfl,rfl⟩))) x ▸ FD wt hF KA Lh ((mq x).2.2 rfl) w)
theorem ap_len (wt:WT P K){f f2 ntmps:Nat}(hE:Ent P f2)(hc:∀ x w,ApC P K.tU8 f2 (.int .i32 x) (be 4 x) w)(hfn:FnIs P f ntmps [4] (cACv K.tInt K.tI32 f2))(Jg:9<=ntmps)(x:Int)(w:World):ApC P K.tU8 f (.int .i64 x) (be 4 x) w:=
 yi wt wt.dInt wt.dI32 hfn Jg hE (nE (k:=.i32) (.inr (.inr (.inl ⟨.inl rfl,rfl⟩))) x ▸ hc _ w)
theorem tV (n:Nat):IntKind.u32.wrap (1+IntKind.u32.wrap (n:Int))=(f9 (n+1):Nat):=by simp[IntKind.wrap,IntKind.bits,IntKind.signed,f9];omega
theorem nR (n:Nat):f9 n<4294967296:=by simp only[f9];omega
theorem ap_clen (wt:WT P K){f f2 ntmps:Nat}(hE:Ent P f2)(hc:∀ x w,x<4294967296->ApC P K.tU8 f2 (.int .u32 (x:Nat)) (uvar x) w)(hfn:FnIs P f ntmps [4] (cACv1 K f2))(Jg:10<=ntmps)(n:Nat)(w:World):ApC P K.tU8 f (.int .i64 n) (uvar (f9 (n+1))) w:=
 FI wt hfn Jg hE (by rw[tV];exact hc _ w (nR _))
end
structure z9 where
 P:Program
 g:GW
 av:PF->Bool
 nl:Bool
def oc (av:PF->Bool)(hf:Bool):Ty->Bool
 | .prim p=>av (cQ p)
 | .str none=>av .str&&(!hf || av .cstr)
 | .str (some 0)=>av .nstr&&(!hf || av .cnstr)
 | .str (some (_+1))=>(av .nstr&&(!hf || av .cnstr))&&(av .str&&(!hf || av .cstr))
 | .bytes none=>av .bytes&&(!hf || av .cbytes)
 | .bytes (some 0)=>av .nbytes&&(!hf || av .cnbytes)
 | _=>false
def yT (P:Program)(F:Nat):Bool:=match P.underlying F with|some (.pointer _)=>true|_=>false
def ym (P:Program)(v:Nat):Ty->List Nat->Bool
 | .prim p,x=>x.length==0 || (x.length==1&&p != .uuid)
 | .str (some (_+1)),x=>x.length==4&&x.getD 0 0 != v&&yT P (x.getD 2 0)&&kE P (x.getD 3 0) false 1
 | _,x=>x.length==0
def t7 (e:z9)(hf:Bool)(m k0:Nat)(ty:Ty)(v:Nat)(x:List Nat):Bool:=oc e.av hf ty&&decide (v<k0)&&((x.take 2).all λt=>decide (m<=t/\t<k0))&&ym e.P v ty x
def fH (e:z9)(hf:Bool)(m k0:Nat)(ty:Ty)(v:Nat)(x:List Nat):Bool:=t7 e hf m k0 ty v x&&decide (m<=v)
def lN (w:World)(a:Act)(ty:Ty)(v:Nat)(cs:List Value):Prop:=
 if i9 ty then ∃ p,a.get v=pt p 0/\bB w p 0 cs else ∃ y,a.get v=y/\cs=[y]
theorem xr (f v:Nat):Up (cV f v):=bD _ _
theorem Pv.x1 {v m k0 n:Nat}{a a':Act}(h:Pv v m k0 n a a')(hv:m<=v/\v<k0):Pv 1 m k0 n a a':=⟨h.size,h.defers,λs hs Jr=>h.get s aa Jr⟩
theorem Pv.g1 {v m k0 n:Nat}{a a':Act}(h:Pv v m k0 n a a')(hv:m<=v/\v<k0)(h1:1<m):a'.get 1=a.get 1:=h.get 1 aa (.inl h1)
section
variable {P:Program} {g:GW} {av:PF->Bool} {fl nl:Bool} {te:Nat} {cx:Cx} {fx:Bool} {ver:Int} {L B O m k0 n:Nat} {d:Value} {bs:Bs} {K N E:Act->World->Prop} {Q:Exit->Act->World->Prop} {a:Act} {w:World}
theorem nd (K0:KW P g av fl nl te){ty:Ty}{v:Nat}{x:List Nat}{cs:List Value}{vv:V}{rest:List GC}(Jf:t7 ⟨P,g,av,nl⟩ cx.hf m k0 ty v x=true)(hw:WC cx fx ver te L B O d bs a w)(hc:pe cx m k0)(hk:k0<=n)(_hk0:k0<=a.tmps.size)
  (hn:(gL (cN g cx ty v x) n).2<=a.tmps.size) (hv:lN w a ty v cs) (hl:jD w (λk=>L<=k) ty cs vv) (hlim:bs.length+((eN fx ver ty).wr vv).length<=fq)
  (h:∀ a' w' d',Pv 1 m k0 n a a'->a'.get 1=d'->Gr L te d w d' (bs++(eN fx ver ty).wr vv) w'->LW P rest (gL (cN g cx ty v x) n).2 Q a' w') :
  LW P (cN g cx ty v x++rest) n Q a w:=by
 simp only[t7,ac,ai,aT]at Jf
 obtain⟨⟨⟨hval,Kg⟩,Sw⟩,hx⟩:=Jf
 have Jj:=hc.le
 have Ky:=hc.one
 have Ku:fx=true->cx.hf=true:=λh=>by
  cases hh:cx.hf with
  | true=>rfl
  | false=>rw[hw.nf hh]at h;cases h
 have app:∀ (p:PF) (t:Nat) (y:Value) (r:List GC) (n':Nat) (a:Act),av p=true->WC cx fx ver te L B O d bs a w->a.get t=y->t<k0->lL p cs y->jD w (λk=>L<=k) (j8 p) cs vv->k0<=n'->n'+3<=a.tmps.size->bs.length+(p.wr vv).length<=fq ->
   (∀ a' w' d',Pv 1 m k0 n' a a'->a'.get 1=d'->Gr L te d w d' (bs++p.wr vv) w'->LW P r (n'+3) Q a' w')->LW P (cV (g.ap p) t::r) n' Q a w:=by
  intro p t y r n' a Mc hw hy ht UY M7 Nd hn' hlim' h'
  exact bt (rT (K0.apE p Mc) (K0.apC p Mc w L cs y vv M7 UY) hw.s1 hy aa hw.dst hw.Lw hlim' Jj Nd aa hn' h')
 have app2:∀ (t:Nat) (p q:PF) (y:Value) (cs:List Value) (vv:V) (n:Nat) (a:Act) (K':Act->World->Prop) (Q:Exit->Act->World->Prop),WC cx fx ver te L B O d bs a w->t<k0->k0<=n->(cx.hf=true->av p=true)->av q=true->a.get t=y->(p≠.uuid/\q≠.uuid)->cs=[y]->jD w (λk=>L<=k) (j8 p) cs vv->jD w (λk=>L<=k) (j8 q) cs vv ->
   (iq cx (cV (g.ap p) t) (cV (g.ap q) t) n).2<=a.tmps.size->bs.length+((if fx then p else q).wr vv).length<=fq ->
   (∀ a' w' d',Pv 1 m k0 n a a'->a'.get 1=d'->Gr L te d w d' (bs++(if fx then p else q).wr vv) w'->K' a' w') ->
   cf P (iq cx (cV (g.ap p) t) (cV (g.ap q) t) n).1 (Exit.then K' Q) a w:=by
  intro t p q y cs vv n a K' Q hw ht hk hp hq hy hpq Js Pe hlq J8 hlim2 h2
  have Kj:n<a.tmps.size:=by
   unfold iq at J8
   split at J8
   ·have:n+1+3+3<=a.tmps.size:=J8
    omega
   ·have:n+3<=a.tmps.size:=J8
    omega
  refine A1 (xr _ _) (xr _ _) hw hc hk J8 Kj λa1 n1 IP IY Je Kj Jc=>?_
  have IX:=IP.size
  have Lf:a1.get t=y:=by rw[<- hy];exact Je t aa
  cases fx with
  | true=>
   simp only[aw]at Jc hlim2 h2 ⊢
   have hsz':n1+3<=a.tmps.size:=Jc
   exact rT (K0.apE p (hp (Ku rfl))) (K0.apC p (hp (Ku rfl)) w L cs y vv Pe (by simp only[lL,al hpq.1];exact Js)) IY Lf aa hw.dst hw.Lw hlim2 Jj aa aa aa λa' w' d' Jx h1' Jn=>h2 a' w' d' (IP.trans (Jx.mono (ae _) Kj)) h1' Jn
  | false=>
   simp only[ag,ak]at Jc hlim2 h2 ⊢
   have hsz':n1+3<=a.tmps.size:=Jc
   exact rT (K0.apE q hq) (K0.apC q hq w L cs y vv hlq (by simp only[lL,al hpq.2];exact Js)) IY Lf aa hw.dst hw.Lw hlim2 Jj aa aa aa λa' w' d' Jx h1' Jn=>h2 a' w' d' (IP.trans (Jx.mono (ae _) Kj)) h1' Jn
 cases ty with
 | prim p=>
  have hpp:j8 (cQ p)=.prim p:=by cases p<;>rfl
  have Pe:jD w (λk=>L<=k) (j8 (cQ p)) cs vv:=by rw[hpp];exact hl
  by_cases hu:p=.uuid
  ·subst hu
   obtain⟨q,hq,Js⟩:=hv
   have Mc:av .uuid=true:=hval
   have IT:cs.length=16:=hl.len
   exact bt (xG (K0.uuid Mc).1 (K0.apE _ Mc) (K0.apC _ Mc w L cs _ vv Pe rfl) hw.s1 hq Js IT aa hw.dst hw.Lw hlim Jj hk aa hn h)
  ·have hiu:i9 (.prim p)=false:=by cases p<;>first|rfl|exact absurd rfl hu
   simp only[lN,hiu,ag,ak]at hv
   obtain⟨y,hy,Js⟩:=hv
   have UY:lL (cQ p) cs y:=by
    have:cQ p≠.uuid:=by cases p<;>first|decide|exact absurd rfl hu
    simp only[lL,al this];exact Js
   have Sd:cN g cx (.prim p) v []=[cV (g.ap (cQ p)) v]:=by cases p<;>first|rfl|exact absurd rfl hu
   have Sc:∀ t,cN g cx (.prim p) v [t]=[dg v t,cV (g.ap (cQ p)) t]:=λt=>by cases p<;>first|rfl|exact absurd rfl hu
   simp only[ym,aH,ac,ar]at hx
   rcases hx with hx|⟨hx,_⟩
   ·obtain rfl:=bf hx
    rw[Sd]at hn h ⊢
    exact app _ v y rest n a hval hw hy Kg UY Pe hk hn hlim h
   ·obtain⟨t,rfl⟩:=List.length_eq_one_iff.1 hx
    have ht:=Sw t ab
    rw[Sc]at hn h ⊢
    have hn':n+1+3<=a.tmps.size:=hn
    show LW P (dg v t::(cV (g.ap (cQ p)) t::rest)) n Q a w
    refine bt (gJ (x:=t) (m:=m) (k0:=k0) (.inl rfl) Jj hk aa aa λa1 IP IY=>?_)
    have hp1':=IP.x1 ht
    have IX:=IP.size
    show LW P (cV (g.ap (cQ p)) t::rest) (n+1) Q a1 w
    refine app _ t y rest (n+1) a1 hval (hw.step hc hp1' (by rw[IP.g1 ht Ky];exact hw.s1) (Gr.refl hw.dst)) (IY.trans hy) ht.2 UY Pe aa aa hlim λa' w' d' Jx h1' Jn=>h a' w' d' (hp1'.trans (Jx.mono (ae _) aa)) h1' Jn
 | str nul=>
  obtain⟨y,hy,Js⟩:=hv
  cases nul with
  | none=>
   obtain rfl:x=[]:=bf (by simpa[ym]using hx)
   simp only[oc,ac,aH,Bool.not_eq_true']at hval
   have e:eN fx ver (.str none)=if fx then .cstr else .str:=by cases fx<;>rfl
   rw[e]at hlim h
   exact bt (app2 v .cstr .str y cs vv n a _ _ hw Kg hk (λhf=>by rcases hval.2 with h|h;rw[h]at hf;cases hf;exact h) hval.1 hy ⟨by decide,by decide⟩ Js hl hl hn hlim h)
  | some q=>
   cases q with
   | zero=>
    obtain rfl:x=[]:=bf (by simpa[ym]using hx)
    simp only[oc,ac,aH,Bool.not_eq_true']at hval
    have e:eN fx ver (.str (some 0))=if fx then .cnstr else .nstr:=by cases fx<;>rfl
    rw[e]at hlim h
    exact bt (app2 v .cnstr .nstr y cs vv n a _ _ hw Kg hk (λhf=>by rcases hval.2 with h|h;rw[h]at hf;cases hf;exact h) hval.1 hy ⟨by decide,by decide⟩ Js hl hl hn hlim h)
   | succ q=>
    simp only[ym,ac,ar,bne_iff_ne,ne_eq]at hx
    obtain⟨⟨⟨PS,hxv⟩,Ln⟩,SS⟩:=hx
    match x,PS with
    | [b,u,F,tS],_=>
    simp only[List.getD_cons_zero,List.getD_cons_succ]at hxv Ln SS
    have hb:=Sw b ab
    have hu:=Sw u ab
    obtain⟨el,LP⟩:∃ el,P.underlying F=some (.pointer el):=by
     unfold yT at Ln
     split at Ln
     ·rename_i el h;exact⟨el,h⟩
     ·cases Ln
    have SQ:=varB_ok SS
    simp only[oc,ac,aH,Bool.not_eq_true']at hval
    obtain⟨⟨v1,v2⟩,v3,v4⟩:=hval
    have JX:cN g cx (.str (some (q+1))) v [b,u,F,tS]=[gb 1 2 (λn=>[mk (some n) (.move (tm cx.ver)),mk (some (n+1)) (.binOp .lss g.tVer (tm n) (ki .i16 ((q:Int)+1)) 0)])
      (gS [co b (.string ⟨#[]⟩),gb 1 2 (λn=>[mk (some n) (.move (tm v)),mk (some (n+1)) (.binOp .neq F (tm n) (.const (.pointer none)) 0)])
       (bL 3 λn=>[mk (some n) (.move (tm v)),mk (some (n+1)) (.nilCheck (tm n)),mk (some (n+2)) (.load tS (tm (n+1))),mk (some b) (.assign (tm (n+2)))]) cY,
       dg b u,iq cx (cV (g.ap .cstr) u) (cV (g.ap .str) u)])
      (iq cx (cV (g.ap .cnstr) v) (cV (g.ap .nstr) v))]:=rfl
    rw[JX]at hn h ⊢
    have J8:(iq cx (cV (g.ap .cnstr) v) (cV (g.ap .nstr) v) (iq cx (cV (g.ap .cstr) u) (cV (g.ap .str) u) (n+2+2+3+1)).2).2<=a.tmps.size:=hn
    have Nj:n+2+2+3+1<=(iq cx (cV (g.ap .cstr) u) (cV (g.ap .str) u) (n+2+2+3+1)).2:=iw (dG (bD _ _) (bD _ _)) (bD _ _) _
    have PX:(iq cx (cV (g.ap .cstr) u) (cV (g.ap .str) u) (n+2+2+3+1)).2<=(iq cx (cV (g.ap .cnstr) v) (cV (g.ap .nstr) v) (iq cx (cV (g.ap .cstr) u) (cV (g.ap .str) u) (n+2+2+3+1)).2).2:=iw (dG (bD _ _) (bD _ _)) (bD _ _) _
    refine bt ?_
    by_cases IU:ver<(q:Int)+1
    ·-- a text,or none as an empty one
     have e:eN fx ver (.str (some (q+1)))=if fx then .cstr else .str:=by
      have:eM (some (q+1)) ver=false:=by simp[eM];omega
      simp only[eN,this]
      cases fx<;>rfl
     rw[e]at hlim h
     refine eX (bv ?_)
     rw[bp,hw.sv]
     refine cZ (b:=true) (q:=(q:Int)+1) (p:=ver) (k:=.i16) (by rw[bp,bA aa]) rfl (.inr (.inr (.inl ⟨rfl,by simp;omega⟩))) (wpList_nil ⟨by rw[bp,bA (by simp only[bq];omega)],cC (bt (bF (b7 (wpList_nil ?_))))⟩)
     have IP:Pv 1 m k0 n a ((((a.put (some n) (.int .i16 ver)).put (some (n+1)) (.bool true)).put (some b) (.string ⟨#[]⟩))):=(((Pv.refl _ _ _ _ _).put _ aa).put _ aa).put _ aa
     have OB:((((a.put (some n) (.int .i16 ver)).put (some (n+1)) (.bool true)).put (some b) (.string ⟨#[]⟩))).get v=y:=by
      rw[b8 aa,b8 aa,b8 aa];exact hy
     have PE:((((a.put (some n) (.int .i16 ver)).put (some (n+1)) (.bool true)).put (some b) (.string ⟨#[]⟩))).get b=.string ⟨#[]⟩:=bA (by simp only[bq];omega)
     show LW P _ (n+2) _ (((a.put (some n) (.int .i16 ver)).put (some (n+1)) (.bool true)).put (some b) (.string ⟨#[]⟩)) w
     have IY:((((a.put (some n) (.int .i16 ver)).put (some (n+1)) (.bool true)).put (some b) (.string ⟨#[]⟩))).get 1=d:=by
      rw[b8 aa,b8 aa,b8 aa];exact hw.s1
     generalize(((a.put (some n) (.int .i16 ver)).put (some (n+1)) (.bool true)).put (some b) (.string ⟨#[]⟩))=a1 at IP OB PE IY
     have IX:=IP.size
     have fin:∀ (a3:Act) (l:Bs),Pv 1 m k0 n a a3->a3.get 1=d->a3.get b=.string ⟨l.toArray⟩->l=vv.octets->l.length<=maxLen->∀ Q',(∀ a' w' d',Pv 1 m k0 n a a'->a'.get 1=d'->Gr L te d w d' (bs++(if fx then PF.cstr else PF.str).wr vv) w'->Q' .normal a' w')->LW P [dg b u,iq cx (cV (g.ap .cstr) u) (cV (g.ap .str) u)] (n+2+2+3) Q' a3 w:=by
      intro a3 l IW Kp Jw NZ P8 Q' hQ
      have JI:=IW.size
      refine bt (gJ (x:=u) (m:=m) (k0:=k0) (.inl rfl) Jj aa aa aa λa4 Jp JS=>?_)
      have hp4':=Jp.x1 hu
      have L3:=Jp.size
      have Np:Pv 1 m k0 n a a4:=IW.trans (hp4'.mono (ae _) aa)
      have SL:WC cx fx ver te L B O d bs a4 w:=hw.step hc Np (by rw[Jp.g1 hu Ky];exact Kp) (Gr.refl hw.dst)
      have JO:∀ p:PF,(p=.cstr \/ p=.str)->p.wr (.s l)=p.wr vv:=by
       rintro p (rfl|rfl)<;>simp only[PF.wr,V.octets,NZ]
      have SI:(if fx then PF.cstr else PF.str).wr (.s l)=(if fx then PF.cstr else PF.str).wr vv:=JO _ (by cases fx<;>simp)
      refine bt (app2 u .cstr .str (.string ⟨l.toArray⟩) [.string ⟨l.toArray⟩] (.s l) (n+2+2+3+1) a4 _ _ SL hu.2 aa (λhf=>by rcases v4 with h|h;rw[h]at hf;cases hf;exact h) v3 (by rw[JS,Jw]) ⟨by decide,by decide⟩ rfl ⟨l,rfl,rfl,P8⟩ ⟨l,rfl,rfl,P8⟩ (by rw[L3,JI];omega) (by rw[SI];exact hlim) λa' w' d' Jx h1' Jn=>cD (hQ a' w' d' (Np.trans (Jx.mono (ae _) aa)) h1' (by rw[<- SI];exact Jn)))
     rcases hl with⟨Mi,rfl⟩|⟨l,p,o,Mi,_,Oq,rfl,WN⟩
     ·rw[Mi]at Js
      obtain rfl:Value.pointer none=y:=by simpa using Js
      refine bt (eK (bv (mJ (m:=none) LP (by rw[bp,bA aa,bp];exact OB) (wpList_nil ⟨by rw[bp,bA (by simp only[bq];omega)];rfl,.skip ?_⟩))))
      exact fin _ [] ((IP.put _ aa).put _ aa) (by rw[b8 aa,b8 aa];exact IY) (by rw[b8 aa,b8 aa];exact PE) rfl ab _ λa' w' d' Jx h1' Jn=>h a' w' d' Jx h1' Jn
     ·rw[Mi]at Js
      obtain rfl:Value.pointer (some ⟨p,o,none⟩)=y:=by simpa using Js
      refine bt (eX (bv (mJ (m:=some ⟨p,o,none⟩) LP (by rw[bp,bA aa,bp];exact OB) (wpList_nil ⟨by rw[bp,bA (by simp only[bq];omega)];rfl,bF (bv ?_)⟩))))
      simp only[bp]
      rw[b8 aa,b8 aa,OB]
      refine bY (p:=⟨p,o,none⟩) (by rw[bp,bA (by simp only[bq];omega)]) (cL (p:=⟨p,o,none⟩) (v:=.string ⟨l.toArray⟩) (by rw[bp,bA (by simp only[bq];omega)]) (SQ.agg w) Oq (b7 (wpList_nil ?_)))
      rw[bp,bA (by simp only[bq];omega)]
      exact fin _ l ((((((IP.put _ aa).put _ aa).put _ aa).put _ aa).put _ aa).put _ aa) (by rw[b8 aa,b8 aa,b8 aa,b8 aa,b8 aa,b8 aa];exact IY) (bA (by simp only[bq];omega)) rfl WN _ λa' w' d' Jx h1' Jn=>h a' w' d' Jx h1' Jn
    ·-- a text that may be null
     have e:eN fx ver (.str (some (q+1)))=if fx then .cnstr else .nstr:=by
      have:eM (some (q+1)) ver=true:=by simp[eM];omega
      simp only[eN,this]
      cases fx<;>rfl
     rw[e]at hlim h
     refine eK (bv ?_)
     rw[bp,hw.sv]
     refine cZ (b:=false) (q:=(q:Int)+1) (p:=ver) (k:=.i16) (by rw[bp,bA aa]) rfl (.inr (.inr (.inl ⟨rfl,by simp;omega⟩))) (wpList_nil ⟨by rw[bp,bA (by simp only[bq];omega)],?_⟩)
     have IP:Pv 1 m k0 n a ((a.put (some n) (.int .i16 ver)).put (some (n+1)) (.bool false)):=((Pv.refl _ _ _ _ _).put _ aa).put _ aa
     have LS:WC cx fx ver te L B O d bs ((a.put (some n) (.int .i16 ver)).put (some (n+1)) (.bool false)) w:=hw.step hc IP (by rw[b8 aa,b8 aa];exact hw.s1) (Gr.refl hw.dst)
     refine app2 v .cnstr .nstr y cs vv _ _ _ _ LS Kg ?_ (λhf=>by rcases v2 with h|h;rw[h]at hf;cases hf;exact h) v1 (by rw[b8 aa,b8 aa];exact hy) ⟨by decide,by decide⟩ Js hl hl (by simp only[bq];exact J8) hlim λa' w' d' Jx h1' Jn=>h a' w' d' (IP.trans (Jx.mono (ae _) ?_)) h1' Jn
     ·show k0<=(iq cx (cV (g.ap .cstr) u) (cV (g.ap .str) u) (n+2+2+3+1)).2
      omega
     ·show n<=(iq cx (cV (g.ap .cstr) u) (cV (g.ap .str) u) (n+2+2+3+1)).2
      omega
 | bytes nul=>
  obtain⟨y,hy,Js⟩:=hv
  obtain rfl:x=[]:=bf (by simpa[ym]using hx)
  cases nul with
  | none=>
   simp only[oc,ac,aH,Bool.not_eq_true']at hval
   have e:eN fx ver (.bytes none)=if fx then .cbytes else .bytes:=by cases fx<;>rfl
   rw[e]at hlim h
   exact bt (app2 v .cbytes .bytes y cs vv n a _ _ hw Kg hk (λhf=>by rcases hval.2 with h|h;rw[h]at hf;cases hf;exact h) hval.1 hy ⟨by decide,by decide⟩ Js hl hl hn hlim h)
  | some q=>
   cases q with
   | zero=>
    simp only[oc,ac,aH,Bool.not_eq_true']at hval
    have e:eN fx ver (.bytes (some 0))=if fx then .cnbytes else .nbytes:=by cases fx<;>rfl
    rw[e]at hlim h
    exact bt (app2 v .cnbytes .nbytes y cs vv n a _ _ hw Kg hk (λhf=>by rcases hval.2 with h|h;rw[h]at hf;cases hf;exact h) hval.1 hy ⟨by decide,by decide⟩ Js hl hl hn hlim h)
   | succ q=>cases hval
 | list _ _ _=>cases hval
 | struct _ _ _=>cases hval
end
section
variable {P:Program} {g:GW} {av:PF->Bool} {fl nl:Bool} {te:Nat} {cx:Cx} {fx:Bool} {ver:Int} {L B O m k0 n:Nat} {d:Value} {bs:Bs} {K N E:Act->World->Prop} {Q:Exit->Act->World->Prop} {a:Act} {w:World}
theorem jM {w:World}{b F:Nat}{cs:List Value}(hb:w.heap[b]?=some (.cells cs.toArray F (0,0))):bB w b 0 cs:=by
 intro j c hj
 rw[aN]
 simp[World.cell?,hb,hj]
theorem xo {F n v:Nat}{cs:List Value}{ops:Array Oper}{QQ:Exit->Act->World->Prop}(hV:cv P F true 16)(hz:∀ w,(zeroValue F).run P w=.ok (.agg (Array.replicate 16 (.int .u8 0))) w)(hl:cs.length=16)(h1:∀ u∈cs,u.oneCell'=true)(hn:a.get n=.agg cs.toArray)(Pd:n≠v)(Kg:v<a.tmps.size)
  (h:∀ w',br (λ_=>False) w w'->bB w' w.heap.size 0 cs->wpList P ops QQ [] (a.put (some v) (pt w.heap.size 0)) w') :
  wpList P ops QQ [mk (some v) (.alloc F),mk none (.store F (tm v) (tm n))] a w:=by
 refine fe (hz w) ?_
 let Z:Obj:=.cells (Value.agg (Array.replicate 16 (.int .u8 0))).cells F (0,0)
 have hb:(w.alloc Z).heap[w.heap.size]?=some Z:=bO w Z
 have L4:(Value.agg (Array.replicate 16 (.int .u8 0))).cells.size=16:=by simp[Value.cells]
 refine cK (g:=w.heap.size) (o:=0) (cur:=(Value.agg (Array.replicate 16 (.int .u8 0))).cells) (t:=F) (v:=.agg cs.toArray) (vs:=cs) (by rw[bp,fh _ _ _ Kg]) (by rw[bp,iP _ _ _ _ Pd];exact hn) rfl (by rw[hl];exact hV.size _) hb (by rw[hl];omega) h1 ?_
 rw[fL (by rw[hl];exact L4.symm)]
 have hk:br (λk=>w.heap.size<=k) w ((w.alloc Z).setRow w.heap.size cs.toArray):=(br.alloc _ _ _).trans (br.setRow (λk=>w.heap.size<=k) _ _ _ (ae _))
 refine h _ (hk.mono λk hk hX=>by omega) ?_
 have JH:=setRow_heap _ _ _ cs.toArray _ _ hb
 exact jM JH
theorem oj {X:Nat->Prop}{cs:List Value}{v:V}(h:jD w X (.prim .uuid) cs v):cs.length=16/\∀ u∈cs,u.oneCell'=true:=by
 obtain⟨l,hl,rfl,_⟩:=h
 exact⟨by rw[aJ];exact hl,no⟩
theorem EL {ty:Ty}{s v T k F off:Nat}{vv:V}(Jy:ty.leaf=true)(hs:a.get s=pt B O)(hF:cO P T k F off ty.agg ty.sz)(hU:i9 ty=true->cv P F true 16/\∀ w,(zeroValue F).run P w=.ok (.agg (Array.replicate 16 (.int .u8 0))) w){X:Nat->Prop}(_hX:∀ k,¬ X k->k<w.heap.size->True)
  (hr:Rp w X ty B (O+off) vv) (hv:m<=v/\v<k0) (hm:m<=k0) (hk:k0<=n) (hn:n+4<=a.tmps.size) (h1:1<m)
  (h:∀ a' w' cs,Pv 1 m k0 n a a'->a'.get 1=a.get 1->br (λ_=>False) w w'->lN w' a' ty v cs->jD w' X ty cs vv->K a' w'):cf P (jB ty s v T k F n).1 (Exit.then K Q) a w:=by
 have Js:∃ cs,bB w B (O+off) cs/\jD w X ty cs vv:=by
  cases ty with
  | prim p=>exact hr
  | str q=>exact hr
  | bytes q=>exact hr
  | list _ _ _=>cases Jy
  | struct _ _ _=>cases Jy
 obtain⟨cs,hc,hl⟩:=Js
 by_cases hu:i9 ty=true
 ·obtain rfl:ty=.prim .uuid:=by
   cases ty with
   | prim p=>cases p<;>first|rfl|cases hu
   | _=>cases hu
  obtain⟨hV,hz⟩:=hU rfl
  obtain⟨IT,Jv⟩:=oj hl
  show cf P (jw s v T k F n).1 (Exit.then K Q) a w
  refine bF (bv ?_)
  rw[bp,hs]
  refine bY (by rw[bp,bA aa];rfl) ?_
  refine dt (by rw[bp,bA (by simp only[bq];omega)]) hF ?_
  refine gN (b:=B) (o:=O+off) (cs:=cs) (by rw[bp,bA (by simp only[bq];omega)]) (hF.var.agg w) (by rw[IT];exact hF.var.size w) hc ?_
  refine xo hV hz IT Jv (bA (by simp only[bq];omega)) aa (by simp only[bq];omega) λw' Ko Si=>wpList_nil (h _ w' cs ?_ ?_ Ko ?_ (hl.keep (Ko.mono λ_ _ h=>h.elim)))
  ·exact(((((Pv.refl _ _ _ _ _).put _ aa).put _ aa).put _ aa).put _ aa).put _ aa
  ·rw[b8 aa,b8 aa,b8 aa,b8 aa,b8 aa]
  ·exact⟨w.heap.size,bA (by simp only[bq];omega),Si⟩
 ·have Oh:i9 ty=false:=by simpa using hu
  have Jv:∃ y,cs=[y]:=by
   have IT:=hl.len
   have:ty.sz=1:=by
    cases ty with
    | prim p=>cases p<;>first|rfl|exact absurd rfl hu
    | str _=>rfl
    | bytes _=>rfl
    | list _ _ _=>rfl
    | struct _ _ _=>cases Jy
   rw[this]at IT
   exact List.length_eq_one_iff.1 IT
  obtain⟨y,rfl⟩:=Jv
  have Mr:ty.agg=false/\ty.sz=1:=by
   cases ty with
   | prim p=>cases p<;>first|exact⟨rfl,rfl⟩|exact absurd rfl hu
   | str _=>exact⟨rfl,rfl⟩
   | bytes _=>exact⟨rfl,rfl⟩
   | list _ _ _=>cases Jy
   | struct _ _ _=>cases Jy
  rw[Mr.1,Mr.2]at hF
  unfold jB
  rw[Oh]
  simp only[ag,ak]
  refine j7 (x:=v) (m:=m) (k0:=k0) hs hF (hc 0 y rfl) (.inl rfl) hm hk hn aa λa' hp hg=>h a' w [y] (hp.x1 hv) (hp.g1 hv h1) (br.refl _ _) ?_ hl
  simp only[lN,Oh,ag,ak]
  exact⟨y,hg,rfl⟩
theorem EK {ty:Ty}{v i e F E' p q cnt c j:Nat}{vv:V}(Jy:ty.leaf=true)(hy:a.get v=.slice (some ⟨p,q,none⟩) cnt c)(hi:a.get i=.int .i64 j)(hj:j<cnt)(hF:P.underlying F=some (.slice E'))(hE:cv P E' ty.agg ty.sz)(hU:i9 ty=true->cv P E' true 16/\∀ w,(zeroValue E').run P w=.ok (.agg (Array.replicate 16 (.int .u8 0))) w){X:Nat->Prop}
  (hr:Rp w X ty p (q+j*ty.sz) vv) (hv:m<=e/\e<k0) (_hvn:v<n) (S9:i<n) (_hm:m<=k0) (hk:k0<=n) (hn:n+4<=a.tmps.size) (h1:1<m)
  (h:∀ a' w' cs,Pv 1 m k0 n a a'->a'.get 1=a.get 1->br (λ_=>False) w w'->lN w' a' ty e cs->jD w' X ty cs vv->K a' w'):cf P (lE ty v i e F E' n).1 (Exit.then K Q) a w:=by
 have Js:∃ cs,bB w p (q+j*ty.sz) cs/\jD w X ty cs vv:=by
  cases ty with
  | prim p=>exact hr
  | str q=>exact hr
  | bytes q=>exact hr
  | list _ _ _=>cases Jy
  | struct _ _ _=>cases Jy
 obtain⟨cs,hc,hl⟩:=Js
 by_cases hu:i9 ty=true
 ·obtain rfl:ty=.prim .uuid:=by
   cases ty with
   | prim p=>cases p<;>first|rfl|cases hu
   | _=>cases hu
  obtain⟨hV,hz⟩:=hU rfl
  obtain⟨IT,Jv⟩:=oj hl
  show cf P (BX v i e F E' n).1 (Exit.then K Q) a w
  refine bF (bv (bv ?_))
  rw[bp,hy,bp,b8 aa,hi]
  refine dJ (b:=p) (o:=q) (n:=cnt) (c:=c) (i:=j) (k:=.i64) (by rw[bp,b8 aa,bA aa]) (by rw[bp,bA (by simp only[bq];omega)]) hj hF (hE.size w) ?_
  refine gN (b:=p) (o:=q+j*Ty.sz (.prim .uuid)) (cs:=cs) (by rw[bp,bA (by simp only[bq];omega)]) (hE.agg w) (by rw[IT];exact hE.size w) hc ?_
  refine xo hV hz IT Jv (bA (by simp only[bq];omega)) aa (by simp only[bq];omega) λw' Ko Si=>wpList_nil (h _ w' cs ?_ ?_ Ko ?_ (hl.keep (Ko.mono λ_ _ h=>h.elim)))
  ·exact(((((Pv.refl _ _ _ _ _).put _ aa).put _ aa).put _ aa).put _ aa).put _ aa
  ·rw[b8 aa,b8 aa,b8 aa,b8 aa,b8 aa]
  ·exact⟨w.heap.size,bA (by simp only[bq];omega),Si⟩
 ·have Oh:i9 ty=false:=by simpa using hu
  have Mr:ty.agg=false/\ty.sz=1:=by
   cases ty with
   | prim p=>cases p<;>first|exact⟨rfl,rfl⟩|exact absurd rfl hu
   | str _=>exact⟨rfl,rfl⟩
   | bytes _=>exact⟨rfl,rfl⟩
   | list _ _ _=>cases Jy
   | struct _ _ _=>cases Jy
  have Jv:∃ y,cs=[y]:=by
   have IT:=hl.len
   rw[Mr.2]at IT
   exact List.length_eq_one_iff.1 IT
  obtain⟨y,rfl⟩:=Jv
  rw[Mr.1,Mr.2]at hE
  unfold lE
  rw[Oh]
  simp only[ag,ak]
  refine bF (bv (bv ?_))
  rw[bp,hy,bp,b8 aa,hi]
  refine dJ (b:=p) (o:=q) (n:=cnt) (c:=c) (i:=j) (k:=.i64) (by rw[bp,b8 aa,bA aa]) (by rw[bp,bA (by simp only[bq];omega)]) hj hF (hE.size w) ?_
  refine cL (v:=y) (by rw[bp,bA (by simp only[bq];omega)]) (hE.agg w) (by have:=hc 0 y rfl;rw[Mr.2]at this;exact this) ?_
  refine b7 (wpList_nil (h _ w [y] ?_ ?_ (br.refl _ _) ?_ hl))
  ·exact(((((Pv.refl _ _ _ _ _).put _ aa).put _ aa).put _ aa).put _ aa).put _ aa
  ·rw[b8 aa,b8 aa,b8 aa,b8 aa,b8 aa]
  ·simp only[lN,Oh,ag,ak]
   exact⟨y,by rw[bA (by simp only[bq];omega),bp,bA (by simp only[bq];omega)],rfl⟩
theorem vS {v i e F E' p q cnt c j sz:Nat}(hy:a.get v=.slice (some ⟨p,q,none⟩) cnt c)(hi:a.get i=.int .i64 j)(hj:j<cnt)(hF:P.underlying F=some (.slice E'))(hE:∀ w,(sizeOf E').run P w=.ok sz w)
  (hv:m<=e/\e<k0) (_hvn:v<n) (S9:i<n) (_hm:m<=k0) (hk:k0<=n) (hn:n+3<=a.tmps.size) (h1:1<m)
  (h:∀ a',Pv 1 m k0 n a a'->a'.get 1=a.get 1->a'.get e=pt p (q+j*sz)->K a' w):cf P (fU v i e F n).1 (Exit.then K Q) a w:=by
 refine bF (bv (bv ?_))
 rw[bp,hy,bp,b8 aa,hi]
 refine dJ (b:=p) (o:=q) (n:=cnt) (c:=c) (i:=j) (k:=.i64) (by rw[bp,b8 aa,bA aa]) (by rw[bp,bA (by simp only[bq];omega)]) hj hF (hE w) ?_
 refine b7 (wpList_nil (h _ ?_ ?_ ?_))
 ·exact((((Pv.refl _ _ _ _ _).put _ aa).put _ aa).put _ aa).put _ aa
 ·rw[b8 aa,b8 aa,b8 aa,b8 aa]
 ·rw[bA (by simp only[bq];omega),bp,bA (by simp only[bq];omega)];rfl
theorem xF (K0:KW P g av fl nl te){c:Nat}(hc:c<256)(h1:a.get 1=d)(hd:bS w L te d bs)(hL:L<=w.heap.size)(hlim:bs.length+1<=fq)(hm:m<=k0)(hk:k0<=n)(Ky:1<n)(hn:n+3<=a.tmps.size)
  (h:∀ a' w' d',Pv 1 m k0 n a a'->a'.get 1=d'->Gr L te d w d' (bs++[UInt8.ofNat c]) w'->K a' w'):cf P (iO g c n).1 (Exit.then K Q) a w:=by
 refine bF (bv ?_)
 rw[bp,h1]
 have ho:cP (UInt8.ofNat c)=.int .u8 (c:Int):=by simp[cP];omega
 refine jR (l:=[UInt8.ofNat c]) K0.oct ?_ ab ab ?_
 ·simp only[List.map_cons,List.map_nil,ho,xO]
  rfl
 have Ko:br (λ_=>False) w (w.alloc (.cells ([UInt8.ofNat c].map cP).toArray te (0,0))):=br.alloc _ _ _
 have Lo:io (w.alloc (.cells ([UInt8.ofNat c].map cP).toArray te (0,0))) w.heap.size 0 [UInt8.ofNat c]:=by
  intro j b hj
  have:=bO w (.cells ([UInt8.ofNat c].map cP).toArray te (0,0))
  simp only[World.cell?,this,aN,aQ,aD,hj]
  rfl
 refine iu K0.oct (d:=d) (L:=L) (bs:=bs) (l:=[UInt8.ofNat c]) ?_ (x:=.slice (some ⟨w.heap.size,0,none⟩) 1 1) ?_ (hd.keep Ko λ_ _ h=>h) (lQ K0.oct Lo) (by have:=Ko.size;omega) hlim λd' w' hg=>?_
 ·rw[bp,b8 aa,bA aa]
 ·rw[bp,bA (by rw[bq];omega)]
  rfl
 refine b7 (wpList_nil (h _ w' d' ?_ ?_ (Gr.pre Ko (λ_ _ h=>h) hg)))
 ·exact((((Pv.refl _ _ _ _ _).put _ aa).put _ aa).put _ aa).put _ (.inl rfl)
 ·rw[bA (by simp only[bq];omega),bp,bA (by simp only[bq];omega)]
end
section
variable {P:Program} {K:Kn}
theorem qD {ops:Array Oper}{Q:Exit->Act->World->Prop}{r:List Oper}{a:Act}{w:World}{d:Option Nat}{y:Operand}{T ty n:Nat}(h1:(execOp a.eval (bi d .len [y] [T] ty)).run P w=.ok (.value (.int .i64 n)) w)
  (h:wpList P ops Q r (a.put d (.int .i64 n)) w):wpList P ops Q (bi d .len [y] [T] ty::r) a w:=by
 refine wpList_plain rfl λ_ hK=>?_
 unfold Oper.wp
 rw[h1]
 exact hK _ _ h
structure FL (P:Program)(tX:Nat)(x:Value)(l:Bs)(L:Nat)(w:World):Prop where
 len:∀ (a:Act) (w:World) (d:Option Nat) (y:Operand) (ty:Nat),a.eval y=x->(execOp a.eval (bi d .len [y] [tX] ty)).run P w=.ok (.value (.int .i64 l.length)) w
 src:∀ w',br (λk=>L<=k) w w'->Src P 1 tX x l.length (l.map cP) w'
theorem xx {tX:Nat}(hT:P.underlying tX=some .string)(l:Bs)(L:Nat)(w:World):FL P tX (.string ⟨l.toArray⟩) l L w:=
 ⟨λa w d y ty hy=>by
  have Jc:ByteArray.size ⟨l.toArray⟩=l.length:=List.size_toArray
  simp[execOp,bi,resolve,invoke,hy,builtin,Builtin.len_,run_underlying hT,goInt,Jc],λw' _=>CT hT w' l⟩
theorem yh (wt:WT P K){tX:Nat}{x:Value}{l bs:Bs}{L n:Nat}{d:Value}{N E:Act->World->Prop}{a:Act}{w:World}(hx:Src P 1 tX x l.length (l.map cP) w)(h0:a.get 0=d)(h1:a.get 1=x)(hn:4<n)(hs:n+3<=a.tmps.size)(hd:bS w L K.tU8 d bs)(hL:L<=w.heap.size)
  (hlim:bs.length+l.length<=fq) (h:∀ a' w' d',a'.defers=a.defers->a'.get 4=d'->Gr L K.tU8 d w d' (bs++l) w'->E a' w'):LW P (sO K tX) n (Rt N E) a w:=by
 refine bt (bF (bv (bv ?_)))
 refine iu wt.oct (d:=d) (x:=x) ?_ ?_ hd hx hL hlim λd' w' hg=>?_
 ·rw[bp,b8 aa,bA aa];exact h0
 ·rw[bp,bA (by simp only[bq];omega),bp,b8 aa];exact h1
 refine b7 (wpList_nil (bt (.ret ?_)))
 exact h _ w' d' (by simp only[b6]) (by rw[bA (by simp only[bq];omega),bp,bA (by simp only[bq];omega)]) hg
theorem FG (wt:WT P K){f f2 ntmps tX tI L:Nat}{kI:IntKind}{x:Value}{l enc:Bs}{w:World}(hI:P.underlying tI=some (.int kI))(hx:FL P tX x l L w)(hE:Ent P f2)(hc:ApC P K.tU8 f2 (.int kI (kI.wrap l.length)) enc w)(hfn:FnIs P f ntmps [4] (cAStr K tX tI f2))(Jg:13<=ntmps) :
  C3 P K.tU8 f x (enc++l) w L:=by
 intro d bs hd hL hlim
 rw[ad]at hlim
 refine jN wt.mixed hfn aa λa h0 h1 hs J3=>?_
 refine bt (bF (bv (bv ?_)))
 refine qD (hx.len _ _ _ _ _ (by rw[bp,bA (by simp only[bq];omega),bp,b8 aa];exact h1)) ?_
 refine ci (k:=.i64) (k':=kI) (m:=l.length) (by rw[bp,bA (by simp only[bq];omega)]) wt.dInt hI ?_
 refine fI hE ?_ (hc L) hd hL aa (by simp only[bq];omega) λw1 d1 hg=>wpList_nil ?_
 ·simp only[List.map_cons,List.map_nil,bp]
  rw[b8 aa,b8 aa,b8 aa,bA aa,bA (by simp only[bq];omega),h0]
 refine yh wt (x:=x) (l:=l) (d:=d1) (hx.src w1 (Gr.far hd hg)) ?_ ?_ (by show 4<5+5;omega) (by simp only[bq];show 5+5+3<=_;omega) hg.dst (am hL hg.keeps.size) (by rw[ad];omega) λa' w' d' hd' h4 Jn=>⟨?_,qg h4 ?_⟩
 ·rw[bA (by simp only[bq];omega)]
 ·rw[b8 aa,b8 aa,b8 aa,b8 aa,b8 aa,b8 aa];exact h1
 ·rw[hd'];simp only[b6];exact J3
 ·rw[<- ao];exact hg.trans Jn
theorem D8 (wt:WT P K){f f2 ntmps tX L:Nat}{x:Value}{l:Bs}{w:World}(hx:FL P tX x l L w)(hE:Ent P f2)(hc:∀ x w,x<4294967296->ApC P K.tU8 f2 (.int .u32 (x:Nat)) (uvar x) w)(hfn:FnIs P f ntmps [4] (cACStr K tX f2))(Jg:14<=ntmps) :
  C3 P K.tU8 f x (uvar (f9 (l.length+1))++l) w L:=by
 intro d bs hd hL hlim
 rw[ad]at hlim
 refine jN wt.mixed hfn aa λa h0 h1 hs J3=>?_
 refine bt (bF (bv (bv ?_)))
 refine qD (hx.len _ _ _ _ _ (by rw[bp,bA (by simp only[bq];omega),bp,b8 aa];exact h1)) ?_
 refine ci (k:=.i64) (k':=.u32) (m:=l.length) (by rw[bp,bA (by simp only[bq];omega)]) wt.dInt wt.dU32 ?_
 refine ee (k:=.u32) (m:=1) (n:=IntKind.u32.wrap l.length) rfl (by rw[bp,bA (by simp only[bq];omega)]) ab (lU w) ?_
 rw[tV]
 refine fI hE ?_ (hc (f9 (l.length+1)) w (nR _) L) hd hL aa (by simp only[bq];omega) λw1 d1 hg=>wpList_nil ?_
 ·simp only[List.map_cons,List.map_nil,bp]
  rw[b8 aa,b8 aa,b8 aa,b8 aa,bA aa,bA (by simp only[bq];omega),h0]
 refine yh wt (x:=x) (l:=l) (d:=d1) (hx.src w1 (Gr.far hd hg)) ?_ ?_ (by show 4<5+6;omega) (by simp only[bq];show 5+6+3<=_;omega) hg.dst (am hL hg.keeps.size) (by rw[ad];omega) λa' w' d' hd' h4 Jn=>⟨?_,qg h4 ?_⟩
 ·rw[bA (by simp only[bq];omega)]
 ·rw[b8 aa,b8 aa,b8 aa,b8 aa,b8 aa,b8 aa,b8 aa];exact h1
 ·rw[hd'];simp only[b6];exact J3
 ·rw[<- ao];exact hg.trans Jn
theorem Dp {T n f L:Nat}{z c d y:Value}{enc bs:Bs}{r:List GC}{N E:Act->World->Prop}{a:Act}{w:World}(O0:∀ (ops:Array Oper) (Q:Exit->Act->World->Prop) (a:Act) (x:Operand) (d:Option Nat),a.eval x=y->wpList P ops Q [] (a.put d (.bool true)) w->wpList P ops Q [mk d (.binOp .eql T x (.const z) 0)] a w)
  (h0:a.get 0=d) (h1:a.get 1=y) (hE:Ent P f) (hc:C3 P K.tU8 f c enc w L) (hn:4<n) (hs:n+4<=a.tmps.size) (hd:bS w L K.tU8 d bs) (hL:L<=w.heap.size) (hlim:bs.length+enc.length<=fq)
  (h:∀ a' w' d',a'.defers=a.defers->a'.get 4=d'->Gr L K.tU8 d w d' (bs++enc) w'->E a' w'):LW P (wT T z c f::r) n (Rt N E) a w:=by
 refine bt (eX (bv ?_))
 refine O0 _ _ _ _ _ (by rw[bp,bA aa,bp];exact h1) (wpList_nil ⟨by rw[bp,bA (by simp only[bq];omega)],?_⟩)
 rw[cn]
 refine cC (bt (bF (bv ?_)))
 refine k9 hE ?_ hc hd hL hlim (by simp only[bq];omega) (by simp only[bq];omega) λa' w' d' hd' h4 hg=>h a' w' d' (by rw[hd'];simp only[b6]) h4 hg
 simp only[List.map_cons,List.map_nil,bp]
 rw[bA (by simp only[bq];omega),b8 aa,b8 aa,h0]
 rfl
theorem Fv {T n f:Nat}{z c y:Value}{r:List GC}{N E:Act->World->Prop}{a:Act}{w:World}(O0:∀ (ops:Array Oper) (Q:Exit->Act->World->Prop) (a:Act) (x:Operand) (d:Option Nat),a.eval x=y->wpList P ops Q [] (a.put d (.bool false)) w->wpList P ops Q [mk d (.binOp .eql T x (.const z) 0)] a w)
  (h1:a.get 1=y) (hn:4<n) (hs:n+4<=a.tmps.size)
  (h:∀ a',Pv n 0 0 n a a'->LW P r (n+4) (Rt N E) a' w):LW P (wT T z c f::r) n (Rt N E) a w:=by
 refine bt (eK (bv ?_))
 refine O0 _ _ _ _ _ (by rw[bp,bA aa,bp];exact h1) (wpList_nil ⟨by rw[bp,bA (by simp only[bq];omega)],.skip ?_⟩)
 exact h _ (((Pv.refl _ _ _ _ _).put _ (.inl rfl)).put _ (.inr aa))
theorem Cs (wt:WT P K){f f1 f2 ntmps tP:Nat}{c:Value}{enc:Bs}{w:World}(hP:P.underlying tP=some (.pointer K.tStr))(hE:Ent P f1)(hc:ApC P K.tU8 f1 c enc w)(hfn:FnIs P f ntmps [4] (cANStr K tP c f1 f2))(Jg:14<=ntmps):ApC P K.tU8 f (.pointer none) enc w:=by
 intro L d bs hd hL hlim
 refine jN wt.mixed hfn aa λa h0 h1 hs J3=>?_
 exact Dp (λops Q a x d hx h=>nO (m:=none) hP hx h) h0 h1 hE (hc L) aa aa hd hL hlim λa' w' d' hd' h4 hg=>⟨hd'.trans J3,qg h4 hg⟩
theorem Cr (wt:WT P K){f f1 f2 ntmps tP:Nat}{c:Value}{enc:Bs}{w:World}{p:Addr}{s:Value}(hP:P.underlying tP=some (.pointer K.tStr))(hp:w.cell? p=some s)(hE:Ent P f2)(hc:ApC P K.tU8 f2 s enc w)(hfn:FnIs P f ntmps [4] (cANStr K tP c f1 f2))(Jg:14<=ntmps):ApC P K.tU8 f (.pointer (some p)) enc w:=by
 intro L d bs hd hL hlim
 refine jN wt.mixed hfn aa λa h0 h1 hs J3=>?_
 refine Fv (λops Q a x d hx h=>nO (m:=some p) hP hx h) h1 aa aa λa1 IP=>?_
 have IX:=IP.size
 refine bt (bF (bv (bv ?_)))
 rw[bp,bp,IP.get 0 aa aa,h0,b8 aa,IP.get 1 aa aa,h1]
 refine bY (p:=p) (by rw[bp,bA (by simp only[bq];omega)]) ?_
 refine cL (p:=p) (v:=s) (by rw[bp,bA (by simp only[bq];omega)]) (wt.vStr.agg w) hp ?_
 refine k9 hE ?_ (hc L) hd hL hlim (by simp only[bq];omega) (by simp only[bq];omega) λa' w' d' hd' h4 hg=>⟨?_,qg h4 hg⟩
 ·simp only[List.map_cons,List.map_nil,bp]
  rw[b8 aa,b8 aa,b8 aa,bA aa,bA (by simp only[bq];omega)]
 ·rw[hd'];simp only[b6];rw[IP.defers];exact J3
theorem D2 (hm:P.follows .mixedOrders=true){f ntmps:Nat}{c:Code}{y z:Value}{w:World}{RR:Ending->World->Prop}(hfn:FnIs P f ntmps [4] c)(Jg:2<=ntmps)
  (h:∀ a,a.get 0=y->a.get 1=z->a.tmps.size=ntmps->a.defers=[]->cf P c (Rt (λ_ _=>False) (λa' w'=>a'.defers=[]/\RR (.returned (a'.get 4)) w')) a w):Calls P f #[y,z] w RR:=by
 refine hfn.calls hm ab ?_
 have:=h { tmps:=#[y,z]++Array.replicate (ntmps-(#[y,z]:Array Value).size) undef,defers:=[] } (by rw[db _ _ _ ab];rfl) (by rw[db _ _ _ ab];rfl) (dw #[y,z] ntmps Jg) rfl
 exact lV this (λ_ _ h=>h.elim) (λa w h=>⟨h.1,h.2⟩)
theorem D7 (wt:WT P K){f ntmps:Nat}(_hV:cv P K.tUuid true 16)(hA:P.underlying K.tUuid=some (.array 16 K.tU8))(hfn:FnIs P f ntmps [4] (cAUuid K))(Jg:8<=ntmps){l:Bs}(hl:l.length=16)(w:World):ApC P K.tU8 f (.agg (l.map cP).toArray) l w:=by
 intro L d bs hd hL hlim
 refine D2 wt.mixed hfn aa λa Ke IY hsz' KF=>?_
 unfold cAUuid
 have hk:br (λ_=>False) w (w.alloc (.cells (l.map cP).toArray K.tUuid (0,0))):=br.alloc _ _ _
 refine bJ (bF (bP (v:=.pointer (some ⟨w.heap.size,0,none⟩)) (w':=w.alloc (.cells (l.map cP).toArray K.tUuid (0,0))) ?_ (b7 (wpList_nil ?_))))
 ·have e1:a.eval (tm 1)=.agg (l.map cP).toArray:=IY
  simp[execOp,mk,e1,Instr.box,newVar,newRow,newObj,Sem.run,Value.cells]
 refine bJ (bF (bv ?_))
 rw[bp,b8 aa,b8 aa,Ke]
 refine bP (v:=.slice (some ⟨w.heap.size,0,none⟩) 16 16) (w':=w.alloc (.cells (l.map cP).toArray K.tUuid (0,0))) ?_ ?_
 ·have e3:(((a.put (some 3) (.pointer (some ⟨w.heap.size,0,none⟩))).put (some 4) (Act.eval (a.put (some 3) (.pointer (some ⟨w.heap.size,0,none⟩))) (.const bR))).put (some 5) d).eval (tm 3)=.pointer (some ⟨w.heap.size,0,none⟩):=by
   rw[bp,b8 aa,b8 aa,bA aa]
  obtain⟨i,z,hi,_,Jc,_⟩:=wt.oct.info
  simp[execOp,mk,e3,Instr.sliceAt,run_underlying hA,Instr.sureAddr,Instr.sliceBounds,sizeOf,typeInfo,hi,Addr.add_lit]
 have Lo:io (w.alloc (.cells (l.map cP).toArray K.tUuid (0,0))) w.heap.size 0 l:=by
  intro j b hj
  have:=bO w (.cells (l.map cP).toArray K.tUuid (0,0))
  simp only[World.cell?,this,aN,aQ,aD,hj]
  rfl
 refine iu wt.oct (d:=d) (L:=L) (bs:=bs) (l:=l) ?_ (x:=.slice (some ⟨w.heap.size,0,none⟩) l.length 16) ?_ (hd.keep hk λ_ _ h=>h) (lQ wt.oct Lo) (by have:=hk.size;omega) hlim λd' w' hg=>?_
 ·rw[bp,b8 aa,bA (by simp only[bq];omega)]
 ·rw[bp,bA (by simp only[bq];omega),hl]
 refine b7 (wpList_nil (bJ (.ret ?_)))
 rw[bp,bA (by simp only[bq];omega)]
 exact⟨by simp only[b6];exact KF,qg (bA (by simp only[bq];omega)) (Gr.pre hk (λ_ _ h=>h) hg)⟩
end
section
variable {P:Program} {g:GW} {av:PF->Bool} {fl nl:Bool} {te:Nat} {cx:Cx} {fx:Bool} {ver:Int} {L B O m k0 n:Nat} {d:Value} {bs:Bs} {K N E:Act->World->Prop} {Q:Exit->Act->World->Prop} {a:Act} {w:World}
theorem xD {f v F E' len c:Nat}{base:Option Addr}{enc:Bs}(hE:Ent P f)(hc:ApC P te f (.int .i64 len) enc w)(h1:a.get 1=d)(hv:a.get v=.slice base len c)(hF:P.underlying F=some (.slice E'))(Rb:v<n)(hd:bS w L te d bs)(hL:L<=w.heap.size)(hlim:bs.length+enc.length<=fq)(hm:m<=k0)(hk:k0<=n)(_h1m:1<n)(hn:n+4<=a.tmps.size)
  (h:∀ a' w' d',Pv 1 m k0 n a a'->a'.get 1=d'->Gr L te d w d' (bs++enc) w'->K a' w'):cf P (qe g f v F n).1 (Exit.then K Q) a w:=by
 refine bF (bv (bv (gi (base:=base) (n:=len) (c:=c) (by rw[bp,bA (by simp only[bq];omega),bp,b8 aa];exact hv) hF ?_)))
 refine fI hE ?_ (hc L) hd hL hlim (by simp only[bq];omega) λw' d' hg=>wpList_nil (h _ w' d' ?_ (bA (by simp only[bq];omega)) hg)
 ·simp only[List.map_cons,List.map_nil,bp]
  rw[b8 aa,b8 aa,bA aa,bA (by simp only[bq];omega),h1]
 ·exact(((((Pv.refl _ _ _ _ _).put _ aa).put _ aa).put _ aa).put _ aa).put _ (.inl rfl)
theorem xC {f v F E' len c:Nat}{base:Option Addr}{enc:Bs}(hE:Ent P f)(hc:Calls P f #[d,.int .i64 len,.bool base.isNone] w λe w'=>∃ d',e=.returned d'/\Gr L te d w d' (bs++enc) w')(h1:a.get 1=d)(hv:a.get v=.slice base len c)(hF:P.underlying F=some (.slice E'))(Rb:v<n)(hm:m<=k0)(hk:k0<=n)(_h1m:1<n)(hn:n+6<=a.tmps.size)
  (h:∀ a' w' d',Pv 1 m k0 n a a'->a'.get 1=d'->Gr L te d w d' (bs++enc) w'->K a' w'):cf P (qc g f v F n).1 (Exit.then K Q) a w:=by
 refine bF (bv (bv (gi (base:=base) (n:=len) (c:=c) (by rw[bp,bA (by simp only[bq];omega),bp,b8 aa];exact hv) hF (bv ?_))))
 refine zW (m:=base) (n:=len) (c:=c) hF (by rw[bp,bA (by simp only[bq];omega),bp,b8 aa,b8 aa,b8 aa];exact hv) ?_
 refine cj (vs:=#[d,.int .i64 len,.bool base.isNone]) hE ?_ hc λe w' hR=>?_
 ·simp only[List.map_cons,List.map_nil,bp]
  rw[b8 aa,b8 aa,b8 aa,b8 aa,bA aa,b8 aa,b8 aa,bA (by simp only[bq];omega),bA (by simp only[bq];omega),h1]
 obtain⟨d',he,hg⟩:=hR
 refine⟨d',he,b7 (wpList_nil (h _ w' d' ?_ ?_ hg))⟩
 ·exact(((((((Pv.refl _ _ _ _ _).put _ aa).put _ aa).put _ aa).put _ aa).put _ aa).put _ aa).put _ (.inl rfl)
 ·rw[bA (by simp only[bq];omega),bp,bA (by simp only[bq];omega)]
theorem EJ (K0:KW P g av fl nl te){nul:Option Nat}{v F E' len c:Nat}{base:Option Addr}(JB:nul.isSome=true->nl=true)(M9:nul.isSome=false->ny g cx.hf=true)(Jb:cx.hf=true->fl=true)(hw:WC cx fx ver te L B O d bs a w)(hc:pe cx m k0)(hv:a.get v=.slice base len c)(hF:P.underlying F=some (.slice E'))(Rb:v<k0)(hk:k0<=n)(hn:(iA g cx nul v F n).2<=a.tmps.size)
  (hlim:bs.length+(if nul.isSome&&base.isNone then eJ fx 4 else kf fx len).length<=fq)
  (h:∀ a' w' d',Pv 1 m k0 n a a'->a'.get 1=d'->Gr L te d w d' (bs++(if nul.isSome&&base.isNone then eJ fx 4 else kf fx len)) w'->K a' w'):cf P (iA g cx nul v F n).1 (Exit.then K Q) a w:=by
 have Jj:=hc.le
 have Ky:=hc.one
 have Ku:fx=true->cx.hf=true:=λh=>by
  cases hh:cx.hf with
  | true=>rfl
  | false=>rw[hw.nf hh]at h;cases h
 cases nul with
 | none=>
  have M9:=M9 rfl
  simp only[ny,ac,aH,Bool.not_eq_true']at M9
  simp only[Option.isSome_none,Bool.false_and,ag,ak]at hlim h
  have J8:(iq cx (qe g g.calen v F) (qe g g.alen v F) n).2<=a.tmps.size:=hn
  have Kj:n<a.tmps.size:=by
   unfold iq at J8
   split at J8
   ·have:n+1+4+4<=a.tmps.size:=J8
    omega
   ·have:n+4<=a.tmps.size:=J8
    omega
  refine A1 (bD _ _) (bD _ _) hw hc hk J8 Kj λa1 n1 IP IY Je On Jc=>?_
  have IX:=IP.size
  have Lf:a1.get v=.slice base len c:=by rw[Je v aa];exact hv
  cases fx with
  | true=>
   simp only[aw]at Jc ⊢
   have hsz':n1+4<=a.tmps.size:=Jc
   exact xD (K0.clE (Jb (Ku rfl)) (M9.2.resolve_left (by rw[Ku rfl];simp))) (K0.clC (Jb (Ku rfl)) (M9.2.resolve_left (by rw[Ku rfl];simp)) len w) IY Lf hF aa hw.dst hw.Lw hlim Jj aa aa aa λa' w' d' Jx h1' Jn=>h a' w' d' (IP.trans (Jx.mono (ae _) On)) h1' Jn
  | false=>
   simp only[ag,ak]at Jc ⊢
   have hsz':n1+4<=a.tmps.size:=Jc
   exact xD (K0.alE M9.1) (K0.alC M9.1 len w) IY Lf hF aa hw.dst hw.Lw hlim Jj aa aa aa λa' w' d' Jx h1' Jn=>h a' w' d' (IP.trans (Jx.mono (ae _) On)) h1' Jn
 | some q=>
  simp only[Option.isSome_some,Bool.true_and]at hlim h
  have hnl':=JB rfl
  have J8:(iq cx (qc g g.cnalen v F) (qc g g.nalen v F) n).2<=a.tmps.size:=hn
  have Kj:n<a.tmps.size:=by
   unfold iq at J8
   split at J8
   ·have:n+1+6+6<=a.tmps.size:=J8
    omega
   ·have:n+6<=a.tmps.size:=J8
    omega
  refine A1 (bD _ _) (bD _ _) hw hc hk J8 Kj λa1 n1 IP IY Je On Jc=>?_
  have IX:=IP.size
  have Lf:a1.get v=.slice base len c:=by rw[Je v aa];exact hv
  cases fx with
  | true=>
   simp only[aw]at Jc ⊢
   have hsz':n1+6<=a.tmps.size:=Jc
   exact xC (K0.cnE hnl' (Jb (Ku rfl))) (K0.cnC hnl' (Jb (Ku rfl)) len base.isNone w L d bs hw.dst hw.Lw hlim) IY Lf hF aa Jj aa aa aa λa' w' d' Jx h1' Jn=>h a' w' d' (IP.trans (Jx.mono (ae _) On)) h1' Jn
  | false=>
   simp only[ag,ak]at Jc ⊢
   have hsz':n1+6<=a.tmps.size:=Jc
   exact xC (K0.nlE hnl') (K0.nlC hnl' len base.isNone w L d bs hw.dst hw.Lw hlim) IY Lf hF aa Jj aa aa aa λa' w' d' Jx h1' Jn=>h a' w' d' (IP.trans (Jx.mono (ae _) On)) h1' Jn
theorem CV (K0:KW P g av fl nl te){T kt _off F sz:Nat}{agg:Bool}{t:List (Nat × Bs)}{toff:Option Nat}{rest:List GC}(Jb:cx.hf=true->fl=true)(hw:WC cx fx ver te L B O d bs a w)(hc:pe cx m k0)(hk:k0<=n)(hn:(gL (jk g cx T kt) n).2<=a.tmps.size)
  (KY:match toff with|some o=>cx.hf=true/\cO P T kt F o agg sz|none=>cx.hf=false) (ht:gM w (λk=>L<=k) B O toff t) (hlim:bs.length+(d7 fx t).length<=fq)
  (h:∀ a' w' d',Pv 1 m k0 n a a'->a'.get 1=d'->Gr L te d w d' (bs++d7 fx t) w'->LW P rest (gL (jk g cx T kt) n).2 Q a' w'):LW P (jk g cx T kt++rest) n Q a w:=by
 have Jj:=hc.le
 have Ky:=hc.one
 have Oj:=hc.s
 cases toff with
 | none=>
  have hf:cx.hf=false:=KY
  have Ku:=hw.nf hf
  subst Ku
  obtain rfl:t=[]:=ht
  have e:jk g cx T kt=[]:=by simp[jk,hf]
  rw[e]at hn h ⊢
  exact h a w d (Pv.refl _ _ _ _ _) hw.s1 (by simpa[d7]using Gr.refl hw.dst)
 | some o=>
  obtain⟨hf,hF⟩:=KY
  obtain⟨mm,LF,Kb⟩:=ht
  have hfl':=Jb hf
  have e:jk g cx T kt=[jF cx (gS [qb g cx.s T kt,gD g cx.s T kt]) cY]:=by simp[jk,hf]
  rw[e]at hn h ⊢
  have hn':n+1+8+5<=a.tmps.size:=hn
  refine bt (q4 (x:=n) (m:=m) (k0:=k0) (hw.sf hf) Jj hk aa λa1 IP=>?_)
  have hp1':Pv 1 m k0 n a a1:=⟨IP.size,IP.defers,λs hs Jr=>IP.get s aa Jr⟩
  have IX:=IP.size
  have IY:a1.get 1=d:=by rw[IP.get 1 aa (.inl Ky)];exact hw.s1
  have O6:a1.get cx.s=pt B O:=by rw[IP.get _ aa (.inl Oj.1)];exact hw.ss
  cases fx with
  | false=>
   simp only[ag,ak]
   exact .skip (h a1 w d hp1' IY (by simpa[d7]using Gr.refl hw.dst))
  | true=>
   simp only[aw]
   have IT:(d7 true t).length=(uvar (f9 t.length)).length+(cM t).length:=by simp[d7]
   rw[IT]at hlim
   refine cC (bt (bF (bv (bv ?_))))
   rw[bp,IY,bp,b8 aa,O6]
   refine bY (by rw[bp,bA (by simp only[bq];omega)];rfl) ?_
   refine dt (by rw[bp,bA (by simp only[bq];omega)]) hF ?_
   refine cj (vs:=#[pt B (O+o)]) (K0.tlE hfl') ?_ (K0.tlC hfl' w B (O+o) mm _ t LF Kb) λe2 w2 hR=>⟨_,hR.1,?_⟩
   ·simp only[List.map_cons,List.map_nil,bp]
    rw[bA (by simp only[bq];omega)]
    rfl
   have IV:=hR.2
   refine ci (k:=.i64) (k':=.u32) (m:=t.length) (by rw[bp,bA (by simp only[bq];omega)]) K0.dInt (K0.dU32 hfl') ?_
   refine ee (k:=.u32) (m:=0) (n:=IntKind.u32.wrap t.length) rfl (by rw[bp,bA (by simp only[bq];omega)]) ab (lU w2) ?_
   have JO:IntKind.u32.wrap (0+IntKind.u32.wrap (t.length:Int))=(f9 t.length:Nat):=by simp[IntKind.wrap,IntKind.bits,IntKind.signed,f9]
   rw[JO]
   refine fI (K0.uvE hfl') ?_ (K0.uvC hfl' (f9 t.length) w2 (nR _) L) (hw.dst.keep IV λ_ _ h=>h) (am hw.Lw IV.size) aa (by simp only[bq];omega) λw3 d3 Jw=>wpList_nil ?_
   ·simp only[List.map_cons,List.map_nil,bp]
    rw[b8 aa,b8 aa,b8 aa,b8 aa,b8 aa,b8 aa,bA aa,bA (by simp only[bq];omega)]
   have KI:Gr L te d w d3 (bs++uvar (f9 t.length)) w3:=Gr.pre IV (λ_ _ h=>h) Jw
   have JT:=Gr.far hw.dst KI
   have NE:w3.cell? ⟨B,O+o,none⟩=some mm:=JT.cell (by have:=hw.BL;omega) LF
   have My:=Kb.keep JT
   have key:∀ (a2:Act),Pv 1 m k0 n a a2->a2.get 1=d3->a2.get cx.s=pt B O->LW P [gD g cx.s T kt] (n+1+8) (Exit.then (LW P rest (gL [jF cx (gS [qb g cx.s T kt,gD g cx.s T kt]) cY] n).2 Q) Q) a2 w3:=by
    intro a2 IR Ja OR
    have Jr:=IR.size
    refine bt (bF (bv ?_))
    rw[bp,OR]
    refine bY (by rw[bp,bA aa];rfl) ?_
    refine dt (by rw[bp,bA (by simp only[bq];omega)]) hF (bv ?_)
    rw[bp,b8 aa,b8 aa,b8 aa,Ja]
    refine cj (vs:=#[pt B (O+o),d3]) (K0.teE hfl') ?_ (K0.teC hfl' w3 B (O+o) mm L t d3 _ NE (KI.dst.away hw.BL (am hw.Lw KI.keeps.size)) My KI.dst (am hw.Lw KI.keeps.size) (by rw[ad];omega)) λe4 w4 hR4=>?_
    ·simp only[List.map_cons,List.map_nil,bp]
     rw[b8 aa,bA (by simp only[bq];omega),bA (by simp only[bq];omega)]
     rfl
    obtain⟨d4,Uo,JS⟩:=hR4
    refine⟨d4,Uo,b7 (wpList_nil (cD (h _ w4 d4 ?_ ?_ ?_)))⟩
    ·exact IR.trans ((((((Pv.refl _ _ _ _ _).put _ aa).put _ aa).put _ aa).put _ aa).put _ aa |>.put _ (.inl rfl))
    ·rw[bA (by simp only[bq];omega),bp,bA (by simp only[bq];omega)]
    ·have:=KI.trans JS
     simpa[d7,ao]using this
   refine key _ ?_ (bA (by simp only[bq];omega)) ?_
   ·exact hp1'.trans (((((((((Pv.refl _ _ _ _ _).put _ aa).put _ aa).put _ aa).put _ aa).put _ aa).put _ aa).put _ aa).put _ aa |>.put _ (.inl rfl))
   ·have hs1':=Oj.1
    have hs2':=Oj.2
    rw[b8 aa,b8 aa,b8 aa,b8 aa,b8 aa,b8 aa,b8 aa,b8 aa,b8 aa];exact O6
end
def oe (k:Nat):Value:=.int .u32 (k:Int)
structure FM (P:Program)(tKs tU:Nat):Prop where
 sl:P.underlying tKs=some (.slice tU)
 info:∃ i z,P.info? tU=some i/\i.zero=some z/\i.size=1/\i.bytes=4/\z.cells.size=1
 vU:cv P tU false 1
 dU:P.underlying tU=some (.int .u32)
def kQ (w:World)(L tU:Nat)(v:Value)(ks:List Nat):Prop:=
 (v=.slice none 0 0/\ks=[]) \/ ∃ (g c:Nat) (cur:Array Value),v=.slice (some ⟨g,0,none⟩) ks.length c/\L<=g/\w.heap[g]?=some (.cells cur tU (0,0))/\ks.length<=c/\c<=maxLen/\c<=cur.size/\∀ (j k:Nat),ks[j]?=some k->cur[j]?=some (oe k)
section
variable {P:Program} {tKs tU L:Nat} {v:Value} {ks:List Nat} {w w':World}
theorem kQ.own (h:kQ w L tU v ks){j:Nat}(hj:v.ownBlock=some j):L<=j/\j<w.heap.size:=by
 rcases h with⟨rfl,_⟩|⟨g,c,cur,rfl,h1,h2,_⟩
 ·simp[Value.ownBlock]at hj
 ·simp only[Value.ownBlock,aM]at hj
  subst hj
  exact⟨h1,(aj.1 h2).1⟩
theorem kQ.keep {X:Nat->Prop}(h:kQ w L tU v ks)(hk:br X w w')(hx:∀ j,v.ownBlock=some j->¬ X j):kQ w' L tU v ks:=by
 rcases h with h|⟨g,c,cur,rfl,h1,h2,h3⟩
 ·exact .inl h
 ·exact .inr ⟨g,c,cur,rfl,h1,by rw[hk.block g (aj.1 h2).1 (hx g rfl)];exact h2,h3⟩
theorem kQ.form (h:kQ w L tU v ks):∃ base c,v=.slice base ks.length c:=by
 rcases h with⟨rfl,rfl⟩|⟨g,c,cur,rfl,_⟩
 ·exact⟨none,0,rfl⟩
 ·exact⟨_,_,rfl⟩
theorem q5 (T:FM P tKs tU){ty:TypeId}{x:Value}{k:Nat}(hd:kQ w L tU v ks)(hs:Src P 1 tKs x 1 [oe k] w)(hL:L<=w.heap.size)(hlim:ks.length<=1000) :
  ∃ v' w',(Builtin.append_ #[tKs,tKs] ty #[v,x]).run P w=.ok v' w'/\kQ w' L tU v' (ks++[k])/\br (λj=>v.ownBlock=some j) w w'/\∀ j,v'.ownBlock=some j->v.ownBlock=some j \/ w.heap.size<=j:=by
 obtain⟨i,z,hi,hz,Jc,O1,L4⟩:=T.info
 have ht:=T.sl
 have Mh:Src P i.size tKs x 1 [oe k] w:=by rw[Jc];exact hs
 have grown:∀ (base:Option Addr) (old:Nat),old<ks.length+1->(Builtin.firstCells i.size ks.length (.slice base ks.length old)).run P w.drew=.ok (ks.map oe).toArray w.drew ->
   ∃ v' w',(Builtin.append_ #[tKs,tKs] ty #[.slice base ks.length old,x]).run P w=.ok v' w'/\kQ w' L tU v' (ks++[k])/\br (λ_=>False) w w'/\∀ j,v'.ownBlock=some j->w.heap.size<=j:=by
  intro base old ho Kz
  have hr:=run_append_grow_src (P:=P) w tKs tKs ty tU i z ht hi hz base ks.length old (ks.map oe) Kz x 1 [oe k] Mh ho aa (growslice_fits ho (by rw[O1];omega))
  refine⟨_,_,hr,?_⟩
  have JN:=grownCap_ge w (ks.length+1) old tU
  have LB:grownCap w (ks.length+1) old tU<=maxLen:=grownCap_le_maxLen w _ old tU (by simp only[maxLen];omega)
  refine⟨.inr ⟨w.heap.size,_,_,by rw[ad];rfl,hL,Go.heap_alloc_new w.drew _,by rw[ad];exact JN,LB,?_,?_⟩,⟨rfl,rfl,rfl,by simp,λk hk _=>cR (w:=w.drew) hk⟩,λj hj=>?_⟩
  ·simp only[Array.size_append,List.size_toArray,size_zeroCells,L4,ad,aJ,List.length_cons,List.length_nil]
   omega
  ·intro j u hj
   have K6:j<(ks++[k]).length:=(ah.1 hj).1
   rw[Array.getElem?_append_left (by simp only[List.size_toArray,ad,aJ];rw[ad]at K6;exact K6)]
   rw[aQ,show ks.map oe++[oe k]=(ks++[k]).map oe by simp,aD,hj]
   rfl
  ·simp only[Value.ownBlock,aM]at hj
   subst hj
   exact ae _
 rcases hd with⟨rfl,rfl⟩|⟨g,c,cur,rfl,Ub,hg,T0,LB,Js,JD⟩
 ·obtain⟨v',w',h1,h2,h3,h4⟩:=grown none 0 ab (by simp[Builtin.firstCells])
  exact⟨v',w',h1,h2,h3.mono λ_ _ h=>h.elim,λj hj=>.inr (h4 j hj)⟩
 ·by_cases JV:ks.length+1<=c
  ·have JL:=run_storeCells_at P g ks.length tU [oe k] 0 cur w hg (by simp only[List.length_cons,List.length_nil];omega) hs.one
   simp only[Nat.add_zero]at JL
   have hr:(Builtin.append_ #[tKs,tKs] ty #[.slice (some ⟨g,0,none⟩) ks.length c,x]).run P w=.ok (.slice (some ⟨g,0,none⟩) (ks.length+1) c) (w.setRow g (bV cur ks.length [oe k])):=by
    rcases hs.kind with⟨e',hk⟩|hk<;>simp[Builtin.append_,run_underlying ht,sizeOf,typeInfo,hi,Jc,hs.len,JV,hs.cells,Addr.add_lit,JL,bV]
   refine⟨_,_,hr,.inr ⟨g,c,_,by rw[ad];rfl,Ub,setRow_heap _ _ _ _ _ _ hg,by rw[ad];exact JV,LB,?_,?_⟩,br.setRow _ _ _ _ rfl,λj hj=>.inl hj⟩
   ·rw[fF (by simp only[List.length_cons,List.length_nil];omega)];exact Js
   ·intro j u hj
    by_cases PB:j<ks.length
    ·rw[dL (by simp only[List.length_cons,List.length_nil];omega) j (.inl PB)]
     rw[aR PB]at hj
     exact JD j u hj
    ·rw[aO aa]at hj
     have:=dn (cur:=cur) (o:=ks.length) (vs:=[oe k]) (by simp only[List.length_cons,List.length_nil];omega) (j-ks.length) (by have:=(ah.1 hj).1;exact this)
     rw[show ks.length+(j-ks.length)=j by omega]at this
     rw[this]
     have h0:j-ks.length=0:=by have:=(ah.1 hj).1;simp at this;omega
     rw[h0]at hj ⊢
     simp at hj ⊢
     rw[hj]
  ·obtain⟨v',w',h1,h2,h3,h4⟩:=grown (some ⟨g,0,none⟩) c aa (by
    have:=run_loadCells_list (P:=P) w.drew ⟨g,0,none⟩ (ks.map oe) (λj u hj=>by
     rw[aD,aK]at hj
     obtain⟨b,hb,rfl⟩:=hj
     rw[Addr.add_lit]
     have Jn:w.drew.heap[g]?=some (.cells cur tU (0,0)):=hg
     simp[World.cell?,Jn,JD j b hb])
    simp only[aJ]at this
    simp[Builtin.firstCells,Jc,this])
   exact⟨v',w',h1,h2,h3.mono λ_ _ h=>h.elim,λj hj=>.inr (h4 j hj)⟩
theorem yq (T:FM P tKs tU){ops:Array Oper}{Q:Exit->Act->World->Prop}{r:List Oper}{a:Act}{d:Option Nat}{k:Nat}(h:wpList P ops Q r (a.put d (.slice (some ⟨w.heap.size,0,none⟩) 1 1)) (w.alloc (.cells #[oe k] tU (0,0)))) :
  wpList P ops Q (mk d (.buildSlice tKs 1 #[(0,ki .u32 k)])::r) a w:=by
 obtain⟨i,z,hi,hz,Jc,_⟩:=T.info
 refine bP (w':=w.alloc (.cells #[oe k] tU (0,0))) ?_ h
 have Lc:=n9 [oe k] 0 ((Array.range 1).map λk=>z.cells[k%z.cells.size]!) (λv hv=>by
  simp only[aY]at hv
  subst hv
  rfl) ab
 rw[fL ab]at Lc
 simp[xO]at Lc
 have hy:a.eval (ki .u32 (k:Int))=oe k:=rfl
 simp[execOp,mk,Instr.buildSlice,run_underlying T.sl,sizeOf,typeInfo,zeroValue,hi,hz,Jc,hy,Lc,newRow,newObj,Sem.run]
variable {m k0 n:Nat} {K E:Act->World->Prop} {Q:Exit->Act->World->Prop} {a:Act}
theorem Gk (T:FM P tKs tU){te k:Nat}(Rm:a.get te=v)(hv:kQ w L tU v ks)(hL:L<=w.heap.size)(hlim:ks.length<=1000)(Jo:m<=te/\te<k0)(hk:k0<=n)(hn:n+3<=a.tmps.size)
  (h:∀ a' w' v',Pv te m k0 n a a'->a'.get te=v'->kQ w' L tU v' (ks++[k])->br (λj=>v.ownBlock=some j) w w'->(∀ j,v'.ownBlock=some j->v.ownBlock=some j \/ w.heap.size<=j)->K a' w') :
  cf P (nz tKs te k n).1 (Exit.then K Q) a w:=by
 refine bF (bv (yq T ?_))
 rw[bp,Rm]
 have Jd:br (λ_=>False) w (w.alloc (.cells #[oe k] tU (0,0))):=br.alloc _ _ _
 have J2:(w.alloc (.cells #[oe k] tU (0,0))).heap[w.heap.size]?=some (.cells #[oe k] tU (0,0)):=heap_alloc_new w _
 have IX:w.heap.size<=(w.alloc (.cells #[oe k] tU (0,0))).heap.size:=Jd.size
 have Lf:kQ (w.alloc (.cells #[oe k] tU (0,0))) L tU v ks:=hv.keep Jd λ_ _ h=>h
 have KP:Src P 1 tKs (.slice (some ⟨w.heap.size,0,none⟩) 1 1) 1 [oe k] (w.alloc (.cells #[oe k] tU (0,0))):=Src.ofSlice _ T.sl ⟨w.heap.size,0,none⟩ 1 1 _ rfl (λq u hq=>by
  rw[Addr.add_lit]
  cases q with
  | zero=>
   simp only[aV,aM]at hq
   subst hq
   simp only[World.cell?,Nat.add_zero]
   rw[J2]
   rfl
  | succ q=>simp at hq) (λu hu=>by simp only[aY]at hu;subst hu;rfl)
 obtain⟨v',w',hr,h2,h3,h4⟩:=q5 (ty:=tKs) T Lf KP (am hL IX) hlim
 refine CB (v:=v') (w':=w') (by
  have e1:((a.put (some n) v).put (some (n+1)) (.slice (some ⟨w.heap.size,0,none⟩) 1 1)).eval (tm n)=v:=by rw[bp,b8 aa,bA aa]
  have e2:((a.put (some n) v).put (some (n+1)) (.slice (some ⟨w.heap.size,0,none⟩) 1 1)).eval (tm (n+1))=.slice (some ⟨w.heap.size,0,none⟩) 1 1:=by rw[bp,bA (by simp only[bq];omega)]
  simp[execOp,bi,resolve,invoke,builtin,e1,e2,hr]) (b7 (wpList_nil (h _ w' v' ?_ ?_ h2 ((Jd.mono λ_ _ h=>h.elim).trans h3) λj hj=>?_)))
 ·exact((((Pv.refl _ _ _ _ _).put _ aa).put _ aa).put _ aa).put _ (.inl rfl)
 ·rw[bA (by simp only[bq];omega),bp,bA (by simp only[bq];omega)]
 ·rcases h4 j hj with h|h
  ·exact .inl h
  ·exact .inr (am IX h)
end
section
variable {P:Program} {g:GW} {av:PF->Bool} {fl nl:Bool} {te:Nat} {L m k0 n:Nat} {d:Value} {bs:Bs} {K E:Act->World->Prop} {Q:Exit->Act->World->Prop} {a:Act} {w:World}
structure Sx (x y mB k0 n:Nat)(a a':Act):Prop where
 size:a'.tmps.size=a.tmps.size
 defers:a'.defers=a.defers
 get:∀ i,i≠x->i≠y->(i<mB \/ (k0<=i/\i<n))->a'.get i=a.get i
theorem Sx.refl (x y mB k0 n:Nat)(a:Act):Sx x y mB k0 n a a:=⟨rfl,rfl,λ_ _ _ _=>rfl⟩
theorem Sx.trans {x y mB k0 n:Nat}{a b c:Act}(h:Sx x y mB k0 n a b)(k:Sx x y mB k0 n b c):Sx x y mB k0 n a c:=
 ⟨k.size.trans h.size,k.defers.trans h.defers,λi hx hy hi=>(k.get i hx hy hi).trans (h.get i hx hy hi)⟩
theorem Sx.put {x y mB k0 n d:Nat}{a b:Act}(h:Sx x y mB k0 n a b)(v:Value)(hd:d=x \/ d=y \/ (mB<=d/\d<k0) \/ (mB<=d/\n<=d)):Sx x y mB k0 n a (b.put (some d) v):=
 ⟨by rw[bq];exact h.size,by rw[b6];exact h.defers,λi hx hy hi=>by rw[b8 aa];exact h.get i hx hy hi⟩
theorem Sx.of_pv {x y mB k0 n:Nat}{a b:Act}(h:Pv x mB k0 n a b):Sx x y mB k0 n a b:=⟨h.size,h.defers,λi hx _ hi=>h.get i hx hi⟩
theorem Sx.mono {x y mB k0 n mB' n':Nat}{a b:Act}(h:Sx x y mB k0 n a b)(hm:mB'<=mB)(hn:n'<=n):Sx x y mB' k0 n' a b:=⟨h.size,h.defers,λi hx hy hi=>h.get i hx hy aa⟩
theorem Gn {Q:Exit->Act->World->Prop}(hK:∀ a w,K a w->Q .normal a w)(hE:∀ a w,E a w->Q .ret a w):∀ e a w,Rt K E e a w->Q e a w:=by
 intro e a w h
 cases e<;>first|exact hK _ _ h|exact hE _ _ h|exact h.elim
theorem vV (K0:KW P g av fl nl te)(Jb:fl=true){x:Nat}(hx:x<4294967296)(h1:a.get 1=d)(hd:bS w L te d bs)(hL:L<=w.heap.size)(hlim:bs.length+(uvar x).length<=fq)(hm:m<=k0)(hk:k0<=n)(Ky:1<m)(hn:n+2<=a.tmps.size)
  (h:∀ a' w' d',Pv 1 k0 k0 n a a'->a'.get 1=d'->Gr L te d w d' (bs++uvar x) w'->K a' w'):cf P (jW g x n).1 (Exit.then K Q) a w:=by
 refine bF (bv (fI (K0.uvE Jb) ?_ (K0.uvC Jb x w hx L) hd hL hlim (by simp only[bq];omega) λw' d' hg=>wpList_nil (h _ w' d' ?_ (bA (by simp only[bq];omega)) hg)))
 ·simp only[List.map_cons,List.map_nil,bp]
  rw[bA aa,h1]
  rfl
 ·exact(((Pv.refl _ _ _ _ _).put _ aa).put _ aa).put _ (.inl rfl)
theorem zd {d:Option Nat}{x:Operand}{v:Value}{K:Act->World->Prop}{Q':Exit->Act->World->Prop}(hx:a.eval x=v)(h:K (a.put d v) w):(mk d (.assign x)).wp P a w K Q':=by
 have:(execOp a.eval (mk d (.assign x))).run P w=.ok (.value v) w:=by simp[execOp,mk,hx]
 unfold Oper.wp
 rw[this]
 exact h
theorem F1 {d:Option Nat}{T:Nat}{x:Operand}{b:Bool}{K:Act->World->Prop}{Q':Exit->Act->World->Prop}(hx:a.eval x=.bool b)(h:K (a.put d (.bool !b)) w):(mk d (.unOp .not T x)).wp P a w K Q':=by
 have:(execOp a.eval (mk d (.unOp .not T x))).run P w=.ok (.value (.bool !b)) w:=by simp[execOp,mk,hx,Op.unary]
 unfold Oper.wp
 rw[this]
 exact h
theorem bS.form (h:bS w L te d bs):∃ base c,d=.slice base bs.length c/\bs.length<=c/\∀ p,base=some p->p.spot=none:=by
 rcases h with⟨rfl,rfl⟩|⟨g,c,cur,rfl,_,_,h,_⟩
 ·exact⟨none,0,rfl,ae _,λp hp=>by cases hp⟩
 ·exact⟨_,c,rfl,h,λp hp=>by cases hp;rfl⟩
theorem bS.cut {base:Option Addr}{c k:Nat}{b1 b2:Bs}(h:bS w L te (.slice base (b1++b2).length c) (b1++b2))(hk:k=b1.length):bS w L te (.slice base k c) b1:=by
 subst hk
 rcases h with⟨h1,h2⟩|⟨g,c',cur,h1,h2,h3,h4,h5,h6,h7⟩
 ·obtain⟨rfl,rfl⟩:=List.append_eq_nil_iff.1 h2
  simp only[Value.slice.injEq]at h1
  obtain⟨rfl,_,rfl⟩:=h1
  exact .inl ⟨rfl,rfl⟩
 ·simp only[Value.slice.injEq]at h1
  obtain⟨rfl,_,rfl⟩:=h1
  refine .inr ⟨g,c,cur,rfl,h2,h3,by rw[ad]at h4;omega,h5,h6,λi x hi=>h7 i x ?_⟩
  rw[aR (ah.1 hi).1]
  exact hi
theorem vZ {F E' m c i d:Nat}{x y:Operand}{base:Option Addr}(hx:a.eval x=.slice base m c)(hy:a.eval y=.int .i64 (i:Nat))(hF:P.underlying F=some (.slice E'))(hs:∀ w,(sizeOf E').run P w=.ok 1 w)(hi:i<=m)(hm:m<=c)(hb:∀ p,base=some p->p.spot=none):(execOp a.eval (mk (some d) (.slice F x none (some y) none))).run P w=.ok (.value (.slice base i c)) w:=by
 have h3:i<=c:=am hi hm
 cases base with
 | none=>simp[execOp,mk,hx,hy,Instr.sliceAt,Instr.slice,run_underlying hF,Instr.sliceBounds,Instr.sliceBound,asIntOf,hs,h3]
 | some p=>
  have:=hb p rfl
  obtain⟨b,o,s⟩:=p
  simp only at this
  subst this
  simp[execOp,mk,hx,hy,Instr.sliceAt,Instr.slice,run_underlying hF,Instr.sliceBounds,Instr.sliceBound,asIntOf,hs,h3,Addr.add]
theorem sp {F E' m c i d:Nat}{x y:Operand}{base:Option Addr}(hx:a.eval x=.slice base m c)(hy:a.eval y=.int .i64 (i:Nat))(hF:P.underlying F=some (.slice E'))(hs:∀ w,(sizeOf E').run P w=.ok 1 w)(hi:i<=m):(execOp a.eval (mk (some d) (.slice F x (some y) none none))).run P w=.ok (.value (.slice (if c=i then base else base.map λq=>q.add (i*1)) (m-i) (c-i))) w:=by
 simp[execOp,mk,hx,hy,Instr.sliceAt,Instr.slice,run_underlying hF,Instr.sliceBounds,Instr.sliceBound,asIntOf,hs,hi]
theorem Dc (K0:KW P g av fl nl te)(Jb:fl=true){z lenAt l tB mB:Nat}{b1 enc:Bs}(hz:a.get z=.bool false)(Pg:a.get lenAt=.int .i64 (b1.length:Nat))(h1:a.get 1=d)(hd:bS w L te d (b1++enc))(hL:L<=w.heap.size)(hlim:b1.length+(uvar (f9 enc.length)).length<=fq)(Ky:1<k0)
  (PO:z<k0/\lenAt<k0/\z≠lenAt/\z≠1/\lenAt≠1) (YN:mB<=k0) (hk:k0<=n) (hn:n+11<=a.tmps.size)
  (h:∀ a' w' d',Sx 1 z mB k0 n a a'->a'.get z=.bool true->a'.get 1=d'->Gr L te d w d' (b1++uvar (f9 enc.length)) w'->Q (.goto l) a' w'):cf P (eD g z lenAt l tB n).1 Q a w:=by
 obtain⟨base,c,KD,Oa,OS⟩:=hd.form
 obtain⟨i8,z8,Vn,hz8,VX,_⟩:=K0.oct.info
 have Vc:∀ w,(sizeOf te).run P w=.ok 1 w:=λw=>by simp[sizeOf,typeInfo,Vn,VX]
 have Jj:b1.length<=(b1++enc).length:=by rw[ad];omega
 have hdc:bS w L te (.slice base b1.length c) b1:=by rw[KD]at hd;exact hd.cut rfl
 have LP:(b1++enc).length-b1.length=enc.length:=by rw[ad];omega
 refine eX (bv ?_)
 rw[bp,hz]
 refine pp (b:=false) (by rw[bp,bA aa]) (wpList_nil ⟨by rw[bp,bA (by simp only[bq];omega)];rfl,cC (bt ?_)⟩)
 have XT:Sx 1 z mB k0 n a ((a.put (some n) (.bool false)).put (some (n+1)) (.bool !false)):=((Sx.refl _ _ _ _ _ _).put _ aa).put _ aa
 have Ye:((a.put (some n) (.bool false)).put (some (n+1)) (.bool !false)).get 1=d:=by rw[b8 aa,b8 aa];exact h1
 have Yd:((a.put (some n) (.bool false)).put (some (n+1)) (.bool !false)).get lenAt=.int .i64 (b1.length:Nat):=by rw[b8 aa,b8 aa];exact Pg
 generalize(a.put (some n) (.bool false)).put (some (n+1)) (.bool !false)=A at XT Ye Yd ⊢
 have hAs:=XT.size
 have XW:fo [mk (some (n+2)) (.move (tm 1)),mk (some (n+2+1)) (.move (tm lenAt)),mk (some (n+2+2)) (.slice g.tSl (tm (n+2)) none (some (tm (n+2+1))) none),mk (some (n+2+3)) (.move (tm 1)),mk (some (n+2+4)) (.move (tm lenAt)),mk (some (n+2+5)) (.slice g.tSl (tm (n+2+3)) (some (tm (n+2+4))) none none),
   bi (some (n+2+6)) .len [tm (n+2+5)] [g.tSl] g.tInt,mk (some (n+2+7)) (.convert g.tInt g.tU32 (tm (n+2+6))),cl (some (n+2+8)) g.uv [tm (n+2+2),tm (n+2+7)],mk (some 1) (.assign (tm (n+2+8)))]=[false,false,false,false,false,false,false,false,true,true]:=by
  simp[fo,zw,mk,cl,bi,jp,Op.operands,tm]
 refine .drw (λ_=>True) ?_
 rw[XW]
 simp only[fu,dQ]
 have LJ:IntKind.u32.wrap ((enc.length:Nat):Int)=((f9 enc.length:Nat):Int):=by simp[IntKind.wrap,IntKind.bits,IntKind.signed,f9]
 have mv:∀ (a:Act) (q x:Nat) (v:Value) (w:World),a.get x=v->(execOp a.eval (mk (some q) (.move (tm x)))).run P w=.ok (.value v) w:=λa q x v w hx=>by
  have:a.eval (tm x)=v:=hx
  simp[execOp,mk,this]
 refine⟨d,λw _=>mv _ _ _ _ _ Ye,.int .i64 (b1.length:Nat),λw _=>mv _ _ _ _ _ (by simp only[mk];rw[b8 aa];exact Yd),.slice base b1.length c,λw _=>?_,d,λw _=>mv _ _ _ _ _ ?_,.int .i64 (b1.length:Nat),λw _=>mv _ _ _ _ _ ?_,
  .slice (if c=b1.length then base else base.map λq=>q.add (b1.length*1)) ((b1++enc).length-b1.length) (c-b1.length),λw _=>?_,.int .i64 (enc.length:Nat),λw _=>?_,.int .u32 ((f9 enc.length:Nat):Int),λw _=>?_,?_⟩
 ·refine vZ (m:=(b1++enc).length) ?_ ?_ K0.oct.und Vc Jj Oa OS
  ·simp only[mk];rw[bp,b8 aa,bA aa,KD]
  ·simp only[mk];rw[bp,bA (by simp only[bq];omega)]
 ·simp only[mk];rw[b8 aa,b8 aa,b8 aa];exact Ye
 ·simp only[mk];rw[b8 aa,b8 aa,b8 aa,b8 aa];exact Yd
 ·refine sp (m:=(b1++enc).length) ?_ ?_ K0.oct.und Vc Jj
  ·simp only[mk];rw[bp,b8 aa,bA (by simp only[bq];omega),KD]
  ·simp only[mk];rw[bp,bA (by simp only[bq];omega)]
 ·have e:∀ B:Act,B.get (n+2+5)=.slice (if c=b1.length then base else base.map λq=>q.add (b1.length*1)) ((b1++enc).length-b1.length) (c-b1.length)->(execOp B.eval (bi (some (n+2+6)) .len [tm (n+2+5)] [g.tSl] g.tInt)).run P w=.ok (.value (.int .i64 (enc.length:Nat))) w:=λB hB=>by
   have:B.eval (tm (n+2+5))=_:=hB
   simp[execOp,bi,resolve,invoke,builtin,Builtin.len_,this,run_underlying K0.oct.und,goInt]
  exact e _ (by simp only[mk];rw[bA (by simp only[bq];omega)])
 ·have e:∀ B:Act,B.get (n+2+6)=.int .i64 (enc.length:Nat)->(execOp B.eval (mk (some (n+2+7)) (.convert g.tInt g.tU32 (tm (n+2+6))))).run P w=.ok (.value (.int .u32 ((f9 enc.length:Nat):Int))) w:=λB hB=>by
   have:B.eval (tm (n+2+6))=_:=hB
   simp[execOp,mk,this,convert,run_underlying K0.dInt,run_underlying (K0.dU32 Jb),Conv.intToInt,LJ]
  exact e _ (by simp only[bi];rw[bA (by simp only[bq];omega)])
 ·simp only[mk,bi]
  have Km:br (λ_=>False) w w.drew:=br.drew _ _
  refine⟨trivial,iV (vs:=#[.slice base b1.length c,.int .u32 ((f9 enc.length:Nat):Int)]) rfl (K0.uvE Jb) ?_ (K0.uvC Jb (f9 enc.length) w.drew (nR _) L _ b1 (hdc.keep Km λ_ _ h=>h) (am hL Km.size) hlim) λe w1 hR=>?_⟩
  ·simp only[List.map_cons,List.map_nil,bp]
   rw[b8 aa,b8 aa,b8 aa,b8 aa,b8 aa,bA (by simp only[bq];omega),bA (by simp only[bq];omega)]
  ·obtain⟨d',rfl,hg⟩:=hR
   refine⟨d',rfl,trivial,zd (v:=d') (by rw[bp,bA (by simp only[bq];omega)]) ⟨trivial,?_⟩⟩
   show LW P [co z (.bool true),cp (.goto l)] _ Q _ w1
   have Jn:Gr L te d w d' (b1++uvar (f9 enc.length)) w1:=by
    have:=Gr.pre Km (λ_ _ h=>h) hg
    have eo:d.ownBlock=(Value.slice base b1.length c).ownBlock:=by rw[KD];cases base<;>rfl
    exact⟨this.dst,this.keeps.mono (λk _ hk=>by rw[eo];exact hk),λk hk=>by rw[eo];exact this.own k hk⟩
   refine bt (bF (b7 (wpList_nil (bt (.goto (h _ w1 d' ?_ (bA (by simp only[bq];omega)) ?_ Jn))))))
   ·exact((((((((((XT.put _ aa).put _ aa).put _ aa).put _ aa).put _ aa).put _ aa).put _ aa).put _ aa).put _ aa).put _ aa).put _ aa
   ·rw[b8 aa,bA (by simp only[bq];omega)]
theorem Db {z lenAt l tB:Nat}(hz:a.get z=.bool true)(_hzl:z<n)(hk:k0<=n)(hn:n+2<=a.tmps.size)(h:∀ a',Pv 1 k0 k0 n a a'->(∀ i,i<n->a'.get i=a.get i)->Q .normal a' w):cf P (eD g z lenAt l tB n).1 Q a w:=by
 refine eK (bv ?_)
 rw[bp,hz]
 refine pp (b:=true) (by rw[bp,bA aa]) (wpList_nil ⟨by rw[bp,bA (by simp only[bq];omega)];rfl,.skip (h _ ?_ λi hi=>?_)⟩)
 ·exact((Pv.refl _ _ _ _ _).put _ aa).put _ aa
 ·rw[b8 aa,b8 aa]
theorem n8 {l:Nat}{r:List Code}(hr:r≠[]):∀ cs:List Code,(∀ c∈cs,findLabel c l=none)->findLabel (sq (cs++.label l::r)) l=some (.seq .skip (sq r))
 | [],_=>by
  cases r with
  | nil=>exact absurd rfl hr
  | cons x r=>simp[sq,findLabel]
 | c::cs,h=>by
  have ih:=n8 hr cs λx hx=>h x (by simp[hx])
  have hc:=h c ab
  cases Js:cs++.label l::r with
  | nil=>simp at Js
  | cons y ys=>
   rw[Js]at ih
   simp only[aS,Js,sq,findLabel,hc]
   exact ih
theorem rW {l:Nat}{pre body:List GC}(MJ:∀ c∈(gL pre n).1,findLabel c l=none)(KH:(gL body (gL pre n).2).1≠[])(h:LW P (pre++(cp (.label l)::body)) n (Exit.jump l (λa w=>LW P body (gL pre n).2 (Rt K E) a w) (Rt K E)) a w) :
  cf P (lF (pre++(cp (.label l)::body)) n).1 (Rt K E) a w:=by
 have e:(gS (pre++(cp (.label l)::body)) n).1=sq ((gL pre n).1++.label l::(gL body (gL pre n).2).1):=by
  simp only[gS,cz]
  rfl
 show cf P (.scope (gS (pre++(cp (.label l)::body)) n).1) (Rt K E) a w
 refine .scope l (λa w=>LW P body (gL pre n).2 (Rt K E) a w) (λ_ _=>0) (rest:=.seq .skip (sq (gL body (gL pre n).2).1)) (by rw[e];exact n8 KH _ MJ) h λa w hJ=>?_
 refine .seq (R:=Rt (λa' w'=>a'=a/\w'=w) λ_ _=>False) (.skip ⟨rfl,rfl⟩) (λa' w' hh=>?_) (λe a w he hq=>by cases e<;>first|exact absurd rfl he|exact hq.elim)
 obtain⟨rfl,rfl⟩:=hh
 refine cf.mono hJ λe a w hq=>?_
 cases e<;>first|exact hq|exact hq.elim
theorem rV (K0:KW P g av fl nl te)(Jb:fl=true){z lenAt l tB m0 mB:Nat}{body:List GC}{enc:Bs}(h1:a.get 1=d)(hd:bS w L te d bs)(hL:L<=w.heap.size)(hlim:bs.length+((uvar (f9 enc.length)).length+enc.length)<=fq)(M1:1<m0/\m0<=z/\m0<=lenAt)(PO:z<mB/\lenAt<mB/\z≠lenAt)(YN:mB<=k0)(hk:k0<=n)
  (KM:ka body) (hn:(gL (body++[eD g z lenAt l tB]) (n+2)).2<=a.tmps.size)
  (Kq:∀ (a':Act) (w':World) (d':Value) (bs':Bs) (K':Act->World->Prop),Sx 1 z m0 k0 n a a'->a'.get 1=d'->Gr L te d w d' bs' w'->bs'.length+enc.length<=fq->(∀ a'' w'' d'',Pv 1 mB k0 (n+2) a' a''->a''.get 1=d''->Gr L te d' w' d'' (bs'++enc) w''->K' a'' w'')->LW P body (n+2) (Rt K' E) a' w')
  (h:∀ a' w' d',Sx 1 z m0 k0 n a a'->a'.get 1=d'->Gr L te d w d' (bs++(uvar (f9 enc.length)++enc)) w'->K a' w') :
  LW P ([co z (.bool false),bL 2 λn=>[mk (some n) (.move (tm 1)),bi (some (n+1)) .len [tm n] [g.tSl] g.tInt,mk (some lenAt) (.assign (tm (n+1)))],cp (.label l)]++(body++[eD g z lenAt l tB])) n (Exit.jump l (λa w=>LW P (body++[eD g z lenAt l tB]) (n+2) (Rt K E) a w) (Rt K E)) a w:=by
 have hn':(gL body (n+2)).2+11<=a.tmps.size:=by rw[cz]at hn;exact hn
 have hu:=KM (n+2)
 obtain⟨base,c,KD,_,_⟩:=hd.form
 refine bt (bF (b7 (wpList_nil ?_)))
 show LW P _ n _ (a.put (some z) (.bool false)) w
 refine bt (bF (bv ?_))
 rw[bp,b8 aa,h1,KD]
 refine gi (base:=base) (n:=bs.length) (c:=c) (by rw[bp,bA (by simp only[bq];omega)]) K0.oct.und (b7 (wpList_nil ?_))
 rw[bp,bA (by simp only[bq];omega)]
 have hS:Sx 1 z m0 k0 n a ((((a.put (some z) (.bool false)).put (some n) (.slice base bs.length c)).put (some (n+1)) (.int .i64 bs.length)).put (some lenAt) (.int .i64 bs.length)):=((((Sx.refl _ _ _ _ _ _).put _ aa).put _ aa).put _ aa).put _ aa
 have g1:((((a.put (some z) (.bool false)).put (some n) (.slice base bs.length c)).put (some (n+1)) (.int .i64 bs.length)).put (some lenAt) (.int .i64 bs.length)).get 1=d:=by
  rw[b8 aa,b8 aa,b8 aa,b8 aa];exact h1
 have gz:((((a.put (some z) (.bool false)).put (some n) (.slice base bs.length c)).put (some (n+1)) (.int .i64 bs.length)).put (some lenAt) (.int .i64 bs.length)).get z=.bool false:=by
  rw[b8 aa,b8 aa,b8 aa,bA aa]
 have gl:((((a.put (some z) (.bool false)).put (some n) (.slice base bs.length c)).put (some (n+1)) (.int .i64 bs.length)).put (some lenAt) (.int .i64 bs.length)).get lenAt=.int .i64 (bs.length:Nat):=bA (by simp only[bq];omega)
 show LW P _ (n+2) _ ((((a.put (some z) (.bool false)).put (some n) (.slice base bs.length c)).put (some (n+1)) (.int .i64 bs.length)).put (some lenAt) (.int .i64 bs.length)) w
 generalize(((a.put (some z) (.bool false)).put (some n) (.slice base bs.length c)).put (some (n+1)) (.int .i64 bs.length)).put (some lenAt) (.int .i64 bs.length)=a2 at hS g1 gz gl ⊢
 have Jr:=hS.size
 refine bt (.label ?_)
 show LW P (body++[eD g z lenAt l tB]) (n+2) _ a2 w
 refine ip (cf.mono (Kq a2 w d bs (λa3 w3=>LW P [eD g z lenAt l tB] (gL body (n+2)).2 (Exit.jump l (λa w=>LW P (body++[eD g z lenAt l tB]) (n+2) (Rt K E) a w) (Rt K E)) a3 w3) hS g1 (Gr.refl hd) aa λa3 w3 d3 IW KO Jw=>?_) (Gn (λ_ _ h=>h) (λ_ _ h=>h)))
 have JI:=IW.size
 have z3:a3.get z=.bool false:=(IW.get z aa (.inl aa)).trans gz
 have l3:a3.get lenAt=.int .i64 (bs.length:Nat):=(IW.get lenAt aa (.inl aa)).trans gl
 have UM:L<=w3.heap.size:=am hL Jw.keeps.size
 refine bt (Dc K0 Jb (b1:=bs) (enc:=enc) (mB:=mB) z3 l3 KO Jw.dst UM aa aa aa YN aa aa λa4 w4 d4 hS4 Yr Nb JS=>?_)
 have L3:=hS4.size
 have NI:Gr L te d w d4 (bs++uvar (f9 enc.length)) w4:=Jw.trans JS
 have UI:Sx 1 z m0 k0 n a a4:=(hS.trans ((Sx.of_pv IW).mono aa aa)).trans (hS4.mono aa aa)
 refine⟨rfl,?_⟩
 show LW P (body++[eD g z lenAt l tB]) (n+2) (Rt K E) a4 w4
 refine ip ?_
 rw[cn]
 refine Kq a4 w4 d4 _ _ UI Nb NI (by rw[ad];omega) λa5 w5 d5 Kt Q2 Lj=>?_
 have OV:=Kt.size
 have z5:a5.get z=.bool true:=(Kt.get z aa (.inl aa)).trans Yr
 refine bt (Db (k0:=k0) z5 aa aa aa λa6 hp6 hlow6=>cD (h a6 w5 d5 ?_ ((hlow6 1 aa).trans Q2) ?_))
 ·exact(UI.trans ((Sx.of_pv Kt).mono aa aa)).trans ⟨hp6.size,hp6.defers,λi _ _ hi=>hlow6 i aa⟩
 ·rw[<- ao]
  exact NI.trans Lj
end
def Az (P:Program)(F:Nat):Bool:=match P.underlying F with|some (.slice _)=>true|_=>false
def Dk:eH->Bool
 | .bool=>false
 | .uuid=>false
 | _=>true
def m6:Ty->Option (Option eH)
 | .prim p=>if Dk p then some (some p)else none
 | .str none=>some none
 | _=>none
def oL:Fds->Option (List (Nat × Option eH × Int))
 | .nil=>some []
 | .cons lo hi tag df off ty r=>if decide (lo=0)&&hi.isNone&&tag.isNone then(match m6 ty,oL r with|some p,some l=>some ((off,p,df)::l)|_,_=>none)else none
def D1 (sz o:Nat)(ds:List (Nat × Option eH × Int)):Bool:=decide (o<sz)&&ds.all (λq=>decide (q.1<sz))&&(List.range sz).all λj=>j==o || ds.any λq=>q.1==j
def Gg (s:Sm)(nm:Nm)(o:Nat)(fs:Fds):Bool:=s.fDef==nm.n 7&&s.fSame==nm.n 8&&s.F==nm.n 3&&s.toff==o&&(match oL fs with|some l=>l==s.ds|none=>false)&&D1 s.sz o s.ds
def Ix (g:GW)(nm:Nm)(o:Nat)(fs:Fds):Bool:=g.sm.any λs=>Gg s nm o fs
def D6 (P:Program)(F:Nat):Bool:=match P.underlying F with
 | some (.array n E)=>n==16&&kE P E false 1&&(P.cellsOf E==1&&(P.info? E).isSome)&&(match P.underlying E with|some (.int .u8)=>true|_=>false)&&!P.eqGuardType P.depth F
 | _=>false
def s7 (P:Program)(av:PF->Bool)(g:GW)(T off:Nat)(ty:Ty)(nm:Nm):Bool:=nm.n 1==T&&(match ty with
 | .prim p=>if p=.uuid then av .uuid&&nm.n 3==g.tUuid&&gC P T (nm.n 2) (nm.n 3) off true 16&&D6 P (nm.n 3)else Dk p&&gC P T (nm.n 2) (nm.n 3) off false 1
 | .str (some _)=>gC P T (nm.n 2) (nm.n 3) off false 1&&yT P (nm.n 3)
 | .list _ _ _=>gC P T (nm.n 2) (nm.n 3) off false 1&&Az P (nm.n 3)
 | .struct none (some o) fs=>gC P T (nm.n 2) (nm.n 3) off true (pC P (nm.n 3))&&Ix g nm o fs
 | _=>false)
def IG (ty:Ty)(y:Value)(v:V):Prop:=∀ (w:World) (X:Nat->Prop),jD w X ty [y] v
def xh (f:Nat->Option Value):Fds->List V->Prop
 | .nil,vs=>vs=[]
 | .cons _ _ _ _ off ty r,vs=>∃ y v vs',vs=v::vs'/\f off=some y/\IG ty y v/\xh f r vs'
theorem kx {lo:Nat}{hi tag:Option Nat}{df:Int}{off:Nat}{ty:Ty}{r:Fds}{l:List (Nat × Option eH × Int)}(h:oL (.cons lo hi tag df off ty r)=some l):lo=0/\hi=none/\tag=none/\∃ p l',m6 ty=some p/\oL r=some l'/\l=(off,p,df)::l':=by
 simp only[oL]at h
 split at h
 ·rename_i hc
  simp only[ac,ai,Option.isNone_iff_eq_none]at hc
  split at h
  ·rename_i p l' hp hl
   exact⟨hc.1.1,hc.1.2,hc.2,p,l',hp,hl,(au h).symm⟩
  ·cases h
 ·cases h
theorem re {w:World}{X:Nat->Prop}{ty:Ty}{p:Option eH}{cs:List Value}{v:V}(h:m6 ty=some p)(hl:jD w X ty cs v):∃ y,cs=[y]/\IG ty y v/\kH p y/\∀ df,i7 ty df v=gY p df y:=by
 cases ty with
 | prim q=>
  simp only[m6]at h
  split at h
  ·rename_i hq
   obtain rfl:=au h
   cases q
   case bool=>cases hq
   case uuid=>cases hq
   all_goals
    obtain⟨x,rfl,rfl,hf⟩:=hl
    exact⟨_,rfl,λw X=>⟨x,rfl,rfl,hf⟩,⟨x,rfl⟩,λdf=>rfl⟩
  ·cases h
 | str nul=>
  cases nul with
  | none=>
   obtain rfl:=au h
   obtain⟨l,rfl,rfl,hf⟩:=hl
   exact⟨_,rfl,λw X=>⟨l,rfl,rfl,hf⟩,⟨l,rfl⟩,λdf=>by simp[i7,V.octets,gY]⟩
  | some _=>cases h
 | bytes _=>cases h
 | list _ _ _=>cases h
 | struct _ _ _=>cases h
theorem Gp {w:World}{X:Nat->Prop}{ty:Ty}{p:Option eH}{b o:Nat}{v:V}(h:m6 ty=some p)(hr:Rp w X ty b o v):∃ cs,bB w b o cs/\jD w X ty cs v:=by
 cases ty with
 | prim q=>exact hr
 | str nul=>exact hr
 | bytes _=>cases h
 | list _ _ _=>cases h
 | struct _ _ _=>cases h
theorem yb {w:World}{X:Nat->Prop}{b o:Nat}:∀ (fs:Fds) (vs:List V) (l:List (Nat × Option eH × Int)),oL fs=some l->RpF w X fs b o vs->xh (λj=>w.cell? ⟨b,o+j,none⟩) fs vs
 | .nil,vs,l,_,h=>h
 | .cons lo hi tag df off ty r,vs,l,hl,h=>by
  obtain⟨_,_,_,p,l',hp,hr,rfl⟩:=kx hl
  obtain⟨v,vs',rfl,hv,KG⟩:=h
  obtain⟨cs,hc,O9⟩:=Gp hp hv
  obtain⟨y,rfl,h1,_,_⟩:=re hp O9
  exact⟨y,v,vs',rfl,by simpa using hc 0 y rfl,h1,yb r vs' l' hr KG⟩
theorem sZ {f:Nat->Option Value}(w:World):∀ (fs:Fds) (vs:List V) (l:List (Nat × Option eH × Int)),oL fs=some l->xh f fs vs->(∀ q∈l,∃ y,f q.1=some y/\kH q.2.1 y)/\jY fs vs=l.all λq=>gY q.2.1 q.2.2 ((f q.1).getD undef)
 | .nil,vs,l,hl,_=>by
  obtain rfl:=au hl
  exact⟨λq hq=>by simp at hq,by simp[jY]⟩
 | .cons lo hi tag df off ty r,vs,l,hl,h=>by
  obtain⟨_,_,_,p,l',hp,hr,rfl⟩:=kx hl
  obtain⟨y,v,vs',rfl,hy,Th,KG⟩:=h
  obtain⟨i1,i2⟩:=sZ w r vs' l' hr KG
  obtain⟨y',e,_,hs,hd⟩:=re hp (Th w λ_=>False)
  simp only[List.cons.injEq,and_true]at e
  subst e
  refine⟨λq hq=>?_,?_⟩
  ·rcases aI.1 hq with rfl|hq
   ·exact⟨y,hy,hs⟩
   ·exact i1 q hq
  ·simp only[jY,List.headD_cons,List.tail_cons,List.all_cons,hy,Option.getD_some,hd,i2]
theorem yc {f f':Nat->Option Value}{sz:Nat}(h:∀ j y,f j=some y->j<sz->f' j=some y):∀ (fs:Fds) (vs:List V) (l:List (Nat × Option eH × Int)),oL fs=some l->(∀ q∈l,q.1<sz)->xh f fs vs->xh f' fs vs
 | .nil,_,_,_,_,hb=>hb
 | .cons lo hi tag df off ty r,vs,l,hl,IU,hb=>by
  obtain⟨_,_,_,p,l',hp,hr,rfl⟩:=kx hl
  obtain⟨y,v,vs',rfl,hy,Th,KG⟩:=hb
  exact⟨y,v,vs',rfl,h off y hy (IU _ (aB ..)),Th,yc h r vs' l' hr (λq hq=>IU q (aA _ hq)) KG⟩
theorem u7 {p:Option eH}{y:Value}(h:kH p y):y.oneCell'=true:=by
 cases p with
 | none=>obtain⟨l,rfl⟩:=h;rfl
 | some q=>obtain⟨x,rfl⟩:=h;rfl
theorem uZ {w:World}{X:Nat->Prop}{B O sz o:Nat}{fs:Fds}{ds:List (Nat × Option eH × Int)}{v:V}(Oy:oL fs=some ds)(Oz:D1 sz o ds=true)(hr:Rp w X (.struct none (some o) fs) B O v) :
  ∃ (cs:List Value) (m:Option Nat) (vs:List V) (t:List (Nat × Bs)),v=.st vs t/\cs.length=sz/\bB w B O cs/\(∀ u∈cs,u.oneCell'=true)/\cs[o]?=some (.map m)/\(m.isNone=t.isEmpty)/\eA w X (.map m) t/\xh (λj=>cs[j]?) fs vs:=by
 obtain⟨vs,t,rfl,Tc,ht⟩:=hr
 obtain⟨mm,LF,Kb⟩:=ht
 have MX:=yb fs vs ds Oy Tc
 obtain⟨Rs,_⟩:=sZ w fs vs ds Oy MX
 simp only[D1,ac,ai,aT,List.mem_range,aH,ar,List.any_eq_true]at Oz
 obtain⟨⟨ho,IU⟩,Mq⟩:=Oz
 obtain⟨m,rfl,WF⟩:∃ m,mm=.map m/\m.isNone=t.isEmpty:=by
  rcases Kb with⟨rfl,rfl⟩|⟨r,rfl,_,_,_,KH⟩
  ·exact⟨none,rfl,rfl⟩
  ·exact⟨some r,rfl,by cases t with|nil=>exact absurd rfl KH|cons _ _=>rfl⟩
 have IS:∀ j,j<sz->∃ y,w.cell? ⟨B,O+j,none⟩=some y/\y.oneCell'=true:=λj hj=>by
  rcases Mq j hj with rfl|⟨q,hq,rfl⟩
  ·exact⟨_,LF,rfl⟩
  ·obtain⟨y,hy,hs⟩:=Rs q hq
   exact⟨y,hy,u7 hs⟩
 have KR:∀ j y,w.cell? ⟨B,O+j,none⟩=some y->j<sz->((List.range sz).map λj=>(w.cell? ⟨B,O+j,none⟩).getD undef)[j]?=some y:=λj y hy hj=>by
  rw[aD,List.getElem?_range hj,Option.map_some,hy];rfl
 refine⟨(List.range sz).map λj=>(w.cell? ⟨B,O+j,none⟩).getD undef,m,vs,t,rfl,by simp,λj c hj=>?_,λu hu=>?_,KR o _ LF ho,WF,Kb,?_⟩
 ·have K6:j<sz:=by have:=(ah.1 hj).1;simpa using this
  obtain⟨y,hy,_⟩:=IS j K6
  rw[KR j y hy K6]at hj
  rw[hy,au hj]
 ·obtain⟨j,hj,rfl⟩:=aP.1 hu
  obtain⟨y,hy,h1⟩:=IS j (List.mem_range.1 hj)
  rw[hy];exact h1
 ·-- each field's place is one of the part's
  exact yc (sz:=sz) (λj y hy hj=>KR j y hy hj) fs vs ds Oy (λq hq=>by simpa using IU q hq) MX
theorem Ay {g:GW}{nm:Nm}{o:Nat}{fs:Fds}(h:Ix g nm o fs=true):∃ s∈g.sm,s.fDef=nm.n 7/\s.fSame=nm.n 8/\s.F=nm.n 3/\s.toff=o/\oL fs=some s.ds/\D1 s.sz o s.ds=true:=by
 simp only[Ix,List.any_eq_true]at h
 obtain⟨s,hs,h⟩:=h
 simp only[Gg,ac,ar]at h
 obtain⟨⟨⟨⟨⟨h1,h2⟩,h3⟩,h4⟩,h5⟩,h6⟩:=h
 refine⟨s,hs,h1,h2,h3,h4,?_,h6⟩
 split at h5
 ·rename_i l hl
  rw[hl,eq_of_beq h5]
 ·cases h5
section
variable {P:Program}
theorem uA {e:Nat}(hV:cv P e false 1){l:List Value}{j:Nat}{v:Value}(h:l[j]?=some v)(w:World):(part e l.toArray j).run P w=.ok v w:=by
 simp[part,hV.agg w,h]
theorem kU {e d:Nat}(hV:cv P e false 1)(hk:P.underlying e=some (.int .u8))(a b:Bs)(w:World):∀ is:List Nat,(∀ j∈is,j<a.length/\j<b.length)->(Op.eqItems (d+1) e 1 (a.map cP).toArray (b.map cP).toArray is).run P w=.ok (is.all λj=>a[j]?==b[j]?) w
 | [],_=>by simp[Op.eqItems]
 | j::is,h=>by
  obtain⟨h1,h2⟩:=h j (aB ..)
  have ih:=kU (d:=d) hV hk a b w is λj hj=>h j (aA _ hj)
  have p1:=uA hV (l:=a.map cP) (j:=j) (v:=cP a[j]) (by rw[aD,aq h1];rfl) w
  have p2:=uA hV (l:=b.map cP) (j:=j) (v:=cP b[j]) (by rw[aD,aq h2];rfl) w
  have p3:=run_equalIn_int (P:=P) w d e .u8 .u8 (a[j].toNat:Int) (b[j].toNat:Int) hk
  simp only[Op.eqItems,Nat.mul_one,Sem.run_bind,p1,p2,Result.andThen_ok,cP,p3,List.all_cons]
  have e1:((a[j].toNat:Int)==(b[j].toNat:Int))=(a[j]?==b[j]?):=by
   rw[aq h1,aq h2,Bool.eq_iff_iff]
   simp only[ar,aM,Int.natCast_inj,UInt8.toNat_inj]
  rw[e1]
  cases hq:(a[j]?==b[j]?) with
  | false=>simp
  | true=>simpa using ih
theorem yg {F:Nat}(h:D6 P F=true):∃ E i,P.underlying F=some (.array 16 E)/\P.info? E=some i/\P.cellsOf E=1/\cv P E false 1/\P.underlying E=some (.int .u8)/\P.eqGuardType P.depth F=false:=by
 unfold D6 at h
 split at h
 ·rename_i n E hu
  simp only[ac,ar,Bool.not_eq_true']at h
  obtain⟨⟨⟨⟨rfl,h2⟩,h5,h6⟩,h3⟩,h4⟩:=h
  obtain⟨i,hi⟩:=Option.isSome_iff_exists.1 h6
  refine⟨E,i,hu,hi,h5,varB_ok h2,?_,h4⟩
  split at h3
  ·assumption
  ·cases h3
 ·cases h
theorem Ex {l:Bs}(h:l.length=16):((List.range 16).all λj=>l[j]?==(List.replicate 16 (0:UInt8))[j]?)=l.all λb=>b==0:=by
 rw[Bool.eq_iff_iff]
 simp only[aT,List.mem_range,ar]
 constructor
 ·intro hh b hb
  obtain⟨j,hj,rfl⟩:=List.getElem_of_mem hb
  have:=hh j aa
  rw[aq hj,List.getElem?_replicate,ax aa]at this
  simpa using this
 ·intro hh j hj
  have Qn:j<l.length:=by omega
  rw[aq Qn,List.getElem?_replicate,ax hj]
  simpa using hh _ (List.getElem_mem Qn)
theorem yN {F:Nat}(h:D6 P F=true){l:Bs}(hl:l.length=16)(x y:Operand)(w:World) :
  (eqGuard .neq F x y (.agg (l.map cP).toArray) (.agg (Array.replicate 16 (.int .u8 0)))).run P w=.ok () w/\(binOp .neq F (.agg (l.map cP).toArray) (.agg (Array.replicate 16 (.int .u8 0)))).run P w=.ok (.bool !(l.all λb=>b==0)) w:=by
 obtain⟨E,i,hu,hi,Jc,hV,hk,hg⟩:=yg h
 refine⟨run_eqGuard_agg w .neq F x y _ _ hg,?_⟩
 have er:(Array.replicate 16 (Value.int .u8 0))=((List.replicate 16 (0:UInt8)).map cP).toArray:=by simp only[List.map_replicate,cP];rfl
 rw[er,run_neq_struct,run_equalIn_array w 9999 _ _ hu hi,Jc,kU (d:=9998) hV hk l _ w _ (λj hj=>by simp at hj ⊢;omega),Ex hl]
 rfl
end
section
variable {P:Program} {g:GW} {av:PF->Bool} {fl nl:Bool} {te:Nat} {L m k0 n B O:Nat} {d:Value} {bs:Bs} {K E:Act->World->Prop} {Q:Exit->Act->World->Prop} {a:Act} {w:World}
theorem t5 {s T k F off:Nat}{y:Value}{ops:Array Oper}{QQ:Exit->Act->World->Prop}{r:List Oper}(hs:a.get s=pt B O)(hF:cO P T k F off false 1)(hy:w.cell? ⟨B,O+off,none⟩=some y)(hn:n+4<=a.tmps.size)
  (h:∀ a',Pv n k0 k0 n a a'->(∀ i,i<n->a'.get i=a.get i)->a'.get (n+3)=y->wpList P ops QQ r a' w) (hk:k0<=n):wpList P ops QQ (oh s T k F n++r) a w:=by
 show wpList P ops QQ (mk (some n) (.move (tm s))::mk (some (n+1)) (.nilCheck (tm n))::mk (some (n+2)) (.fieldAddr T (tm (n+1)) k)::mk (some (n+3)) (.load F (tm (n+2)))::r) a w
 refine bv ?_
 rw[bp,hs]
 refine bY (by rw[bp,bA aa];rfl) ?_
 refine dt (by rw[bp,bA (by simp only[bq];omega)]) hF ?_
 refine cL (p:=⟨B,O+off,none⟩) (v:=y) (by rw[bp,bA (by simp only[bq];omega)]) (hF.var.agg w) hy (h _ ?_ (λi hi=>?_) (bA (by simp only[bq];omega)))
 ·exact((((Pv.refl _ _ _ _ _).put _ aa).put _ aa).put _ aa).put _ aa
 ·rw[b8 aa,b8 aa,b8 aa,b8 aa]
theorem E2 {s T k F off:Nat}{cs:List Value}{ops:Array Oper}{QQ:Exit->Act->World->Prop}{r:List Oper}(hs:a.get s=pt B O)(hF:cO P T k F off true 16)(hl:cs.length=16)(hy:bB w B (O+off) cs)(hn:n+4<=a.tmps.size)
  (h:∀ a',Pv n k0 k0 n a a'->(∀ i,i<n->a'.get i=a.get i)->a'.get (n+3)=.agg cs.toArray->wpList P ops QQ r a' w) (hk:k0<=n):wpList P ops QQ (oh s T k F n++r) a w:=by
 show wpList P ops QQ (mk (some n) (.move (tm s))::mk (some (n+1)) (.nilCheck (tm n))::mk (some (n+2)) (.fieldAddr T (tm (n+1)) k)::mk (some (n+3)) (.load F (tm (n+2)))::r) a w
 refine bv ?_
 rw[bp,hs]
 refine bY (by rw[bp,bA aa];rfl) ?_
 refine dt (by rw[bp,bA (by simp only[bq];omega)]) hF ?_
 refine gN (b:=B) (o:=O+off) (cs:=cs) (by rw[bp,bA (by simp only[bq];omega)]) (hF.var.agg w) (by rw[hl];exact hF.var.size w) hy (h _ ?_ (λi hi=>?_) (bA (by simp only[bq];omega)))
 ·exact((((Pv.refl _ _ _ _ _).put _ aa).put _ aa).put _ aa).put _ aa
 ·rw[b8 aa,b8 aa,b8 aa,b8 aa]
theorem EP (K0:KW P g av fl nl te){s T off:Nat}{ty:Ty}{df:Int}{nm:Nm}{vv:V}{A:GC}{X:Nat->Prop}(Jf:s7 P av g T off ty nm=true)(_hInt:P.underlying g.tInt=some (.int .i64))(hs:a.get s=pt B O)(hr:Rp w X ty B (O+off) vv)(hA:Up A)(_hsn:s<n)(hk:k0<=n)(hn:(iN g s ty df nm A n).2<=a.tmps.size)
  (J5:ku ty df vv=false->∀ a' w' n',Pv n k0 k0 n a a'->(∀ i,i<n->a'.get i=a.get i)->br (λ_=>False) w w'->n<=n'->(iN g s ty df nm A n).2=(A n').2->cf P (A n').1 (Exit.then K Q) a' w')
  (Ki:ku ty df vv=true->∀ a' w',Pv n k0 k0 n a a'->(∀ i,i<n->a'.get i=a.get i)->br (λ_=>False) w w'->K a' w'):cf P (iN g s ty df nm A n).1 (Exit.then K Q) a w:=by
 simp only[s7,ac,ar]at Jf
 obtain⟨hT,Jf⟩:=Jf
 subst hT
 cases ty with
 | prim p=>
  by_cases hpu:p=.uuid
  ·subst hpu
   simp only[aw,ac,ar]at Jf
   obtain⟨⟨⟨Mc,UF⟩,hF⟩,U7⟩:=Jf
   have hF:=fldB_ok hF
   obtain⟨hV,hz⟩:=K0.uuid Mc
   have hA6:=hA (n+6)
   have YJ:(A (n+6)).2<=a.tmps.size:=hn
   obtain⟨cs,hc,l,hl,rfl,rfl⟩:=hr
   have J3:ku (.prim .uuid) df (.s l)=l.all λb=>b==0:=rfl
   rw[J3]at J5 Ki
   obtain⟨La,MI⟩:=yN (P:=P) U7 hl (tm (n+3)) (tm (n+4)) w
   have XB:(Instr.build (nm.n 3) #[]).run P w=.ok (.agg (Array.replicate 16 (.int .u8 0))) w:=by
    have:=hz w
    rw[<- UF]at this
    obtain⟨E,i,hu,hi,Jc,SC,_,_⟩:=yg U7
    simp[Instr.build,this,run_underlying hu,SC.size w,Instr.fill,Value.cells]
   have step:∀ (R:Exit->Act->World->Prop),(∀ a',Pv n k0 k0 n a a'->(∀ i,i<n->a'.get i=a.get i)->a'.eval (tm (n+5))=.bool (!(l.all λb=>b==0))->R .normal a' w) ->
     wpList P ((λn=>oh s (nm.n 1) (nm.n 2) (nm.n 3) n++[mk (some (n+4)) (.build (nm.n 3) #[]),mk (some (n+5)) (.binOp .neq (nm.n 3) (tm (n+3)) (tm (n+4)) 0)]) n).toArray R ((λn=>oh s (nm.n 1) (nm.n 2) (nm.n 3) n++[mk (some (n+4)) (.build (nm.n 3) #[]),mk (some (n+5)) (.binOp .neq (nm.n 3) (tm (n+3)) (tm (n+4)) 0)]) n) a w:=by
    intro R hR
    refine E2 (n:=n) (k0:=k0) (off:=off) (cs:=l.map cP) hs hF (by simpa using hl) hc aa (λa1 IP Je h3=>?_) hk
    have IX:=IP.size
    refine bP (v:=.agg (Array.replicate 16 (.int .u8 0))) (w':=w) (by simp[execOp,mk,XB]) ?_
    refine bP (v:=.bool (!(l.all λb=>b==0))) (w':=w) ?_ (wpList_nil (hR _ ((IP.put _ aa).put _ aa) (λi hi=>by rw[b8 aa,b8 aa];exact Je i hi) (by rw[bp,bA (by simp only[bq];omega)])))
    have e3:(a1.put (some (n+4)) (.agg (Array.replicate 16 (.int .u8 0)))).eval (tm (n+3))=.agg (l.map cP).toArray:=by rw[bp,b8 aa];exact h3
    have e4:(a1.put (some (n+4)) (.agg (Array.replicate 16 (.int .u8 0)))).eval (tm (n+4))=.agg (Array.replicate 16 (.int .u8 0)):=by rw[bp,bA aa]
    simp only[execOp,mk,e3,e4,Sem.run_bind,La,MI,Result.andThen_ok,Sem.run_pure]
   cases hb:(l.all λb=>b==0) with
   | true=>
    rw[hb]at Ki step
    exact eK (step _ λa1 IP Je he=>⟨he,.skip (Ki rfl a1 w IP Je (br.refl _ _))⟩)
   | false=>
    rw[hb]at J5 step
    exact eX (step _ λa1 IP Je he=>⟨he,J5 rfl a1 w (n+6) IP Je (br.refl _ _) aa rfl⟩)
  simp only[al hpu,ac]at Jf
  obtain⟨hp,hF⟩:=Jf
  have JX:iN g s (.prim p) df nm A=gb 4 5 (λn=>oh s (nm.n 1) (nm.n 2) (nm.n 3) n++[mk (some (n+4)) (.binOp .neq (nm.n 3) (tm (n+3)) (.const (EZ p df)) 0)]) A cY:=by cases p<;>first|rfl|cases hp
  rw[JX]at hn J5 ⊢
  have hA5:=hA (n+5)
  have YK:(A (n+5)).2<=a.tmps.size:=hn
  obtain⟨x,IS,rfl⟩:∃ x,w.cell? ⟨B,O+off,none⟩=some (.int p.kind x)/\vv=.n x:=by
   obtain⟨cs,hc,hl⟩:=hr
   cases p
   case bool=>cases hp
   case uuid=>cases hp
   all_goals
    obtain⟨x,rfl,rfl,_⟩:=hl
    exact⟨x,hc 0 _ rfl,rfl⟩
  have O7:EZ p df=.int p.kind df:=by cases p<;>first|rfl|cases hp
  have J3:ku (.prim p) df (.n x)=(x==df):=by cases p<;>first|rfl|cases hp
  rw[J3]at J5 Ki
  by_cases hx:x=df
  ·refine eK (t5 (n:=n) (k0:=k0) (off:=off) (y:=.int p.kind x) hs (fldB_ok hF) IS aa (λa1 IP Je h3=>?_) hk)
   have IX:=IP.size
   refine cZ (b:=false) (p:=x) (q:=df) (k:=p.kind) (by rw[bp];exact h3) (by rw[O7];rfl) (.inr (.inr (.inr (.inr (.inr ⟨rfl,by simp[hx]⟩))))) (wpList_nil ⟨by rw[bp,bA aa],.skip (Ki (by simp[hx]) _ w (IP.put _ aa) (λi hi=>by rw[b8 aa];exact Je i hi) (br.refl _ _))⟩)
  ·refine eX (t5 (n:=n) (k0:=k0) (off:=off) (y:=.int p.kind x) hs (fldB_ok hF) IS aa (λa1 IP Je h3=>?_) hk)
   have IX:=IP.size
   refine cZ (b:=true) (p:=x) (q:=df) (k:=p.kind) (by rw[bp];exact h3) (by rw[O7];rfl) (.inr (.inr (.inr (.inr (.inr ⟨rfl,by simp[hx]⟩))))) (wpList_nil ⟨by rw[bp,bA aa],J5 (by simp[hx]) _ w (n+5) (IP.put _ aa) (λi hi=>by rw[b8 aa];exact Je i hi) (br.refl _ _) aa rfl⟩)
 | str nul=>
  cases nul with
  | none=>cases Jf
  | some q=>
   simp only[ac]at Jf
   obtain⟨hF,Ln⟩:=Jf
   obtain⟨el,LP⟩:∃ el,P.underlying (nm.n 3)=some (.pointer el):=by
    unfold yT at Ln
    split at Ln
    ·rename_i el h;exact⟨el,h⟩
    ·cases Ln
   have hA5:=hA (n+5)
   have YK:(A (n+5)).2<=a.tmps.size:=hn
   obtain⟨mp,IS,K1⟩:∃ mp,w.cell? ⟨B,O+off,none⟩=some (.pointer mp)/\vv.isNul=mp.isNone:=by
    obtain⟨cs,hc,hl⟩:=hr
    rcases hl with⟨rfl,rfl⟩|⟨l,b,o,rfl,_,_,rfl,_⟩
    ·exact⟨none,hc 0 _ rfl,rfl⟩
    ·exact⟨_,hc 0 _ rfl,rfl⟩
   have J3:ku (.str (some q)) df vv=vv.isNul:=rfl
   rw[J3,K1]at J5 Ki
   cases mp with
   | none=>
    refine eK (t5 (n:=n) (k0:=k0) (off:=off) (y:=.pointer none) hs (fldB_ok hF) IS aa (λa1 IP Je h3=>?_) hk)
    have IX:=IP.size
    refine mJ (m:=none) LP (by rw[bp];exact h3) (wpList_nil ⟨by rw[bp,bA aa];rfl,.skip (Ki rfl _ w (IP.put _ aa) (λi hi=>by rw[b8 aa];exact Je i hi) (br.refl _ _))⟩)
   | some p=>
    refine eX (t5 (n:=n) (k0:=k0) (off:=off) (y:=.pointer (some p)) hs (fldB_ok hF) IS aa (λa1 IP Je h3=>?_) hk)
    have IX:=IP.size
    refine mJ (m:=some p) LP (by rw[bp];exact h3) (wpList_nil ⟨by rw[bp,bA aa];rfl,J5 rfl _ w (n+5) (IP.put _ aa) (λi hi=>by rw[b8 aa];exact Je i hi) (br.refl _ _) aa rfl⟩)
 | list nul esz e=>
  simp only[ac]at Jf
  obtain⟨hF,Jo⟩:=Jf
  obtain⟨el,LP⟩:∃ el,P.underlying (nm.n 3)=some (.slice el):=by
   unfold Az at Jo
   split at Jo
   ·rename_i el h;exact⟨el,h⟩
   ·cases Jo
  have hA6:=hA (n+6)
  have YJ:(A (n+6)).2<=a.tmps.size:=hn
  obtain⟨base,c,IS⟩:∃ base c,w.cell? ⟨B,O+off,none⟩=some (.slice base vv.list.length c):=by
   rcases hr with⟨h1,rfl⟩|⟨xs,p,q,c,h1,_,_,_,_,rfl,_⟩
   ·exact⟨none,0,h1⟩
   ·exact⟨_,c,h1⟩
  have J3:ku (.list nul esz e) df vv=vv.list.isEmpty:=rfl
  rw[J3]at J5 Ki
  have step:∀ (b:Bool) (R:Exit->Act->World->Prop),b=decide ((0:Int)<(vv.list.length:Int))->(∀ a',Pv n k0 k0 n a a'->(∀ i,i<n->a'.get i=a.get i)->a'.eval (tm (n+5))=.bool b->R .normal a' w) ->
    wpList P ((λn=>oh s (nm.n 1) (nm.n 2) (nm.n 3) n++[bi (some (n+4)) .len [tm (n+3)] [nm.n 3] g.tInt,mk (some (n+5)) (.binOp .gtr g.tInt (tm (n+4)) (ki .i64 0) 0)]) n).toArray R ((λn=>oh s (nm.n 1) (nm.n 2) (nm.n 3) n++[bi (some (n+4)) .len [tm (n+3)] [nm.n 3] g.tInt,mk (some (n+5)) (.binOp .gtr g.tInt (tm (n+4)) (ki .i64 0) 0)]) n) a w:=by
   intro b R hb hR
   refine t5 (n:=n) (k0:=k0) (off:=off) (y:=.slice base vv.list.length c) hs (fldB_ok hF) IS aa (λa1 IP Je h3=>?_) hk
   have IX:=IP.size
   refine gi (base:=base) (n:=vv.list.length) (c:=c) (by rw[bp];exact h3) LP ?_
   refine cZ (b:=b) (p:=(vv.list.length:Int)) (q:=0) (k:=.i64) (by rw[bp,bA aa]) rfl (.inr (.inr (.inr (.inl ⟨rfl,hb⟩)))) (wpList_nil (hR _ ((IP.put _ aa).put _ aa) (λi hi=>by rw[b8 aa,b8 aa];exact Je i hi) (by rw[bp,bA (by simp only[bq];omega)])))
  cases hl:vv.list with
  | nil=>
   rw[hl]at Ki
   exact eK (step false _ (by rw[hl];rfl) λa1 IP Je hb=>⟨hb,.skip (Ki rfl a1 w IP Je (br.refl _ _))⟩)
  | cons x xs=>
   rw[hl]at J5
   exact eX (step true _ (by rw[hl];simp) λa1 IP Je hb=>⟨hb,J5 rfl a1 w (n+6) IP Je (br.refl _ _) aa rfl⟩)
 | bytes _=>cases Jf
 | struct nul toff fs=>
  cases nul with
  | some _=>cases Jf
  | none=>
  cases toff with
  | none=>cases Jf
  | some o=>
  simp only[ac]at Jf
  obtain⟨hF,Oj⟩:=Jf
  have hF:=fldB_ok hF
  obtain⟨s0,LU,e1,e2,e3,e4,Oy,Oz⟩:=Ay Oj
  have C:=K0.smC s0 LU
  obtain⟨cs,mm,vs,t,rfl,IT,Kv,_,VS,WF,_,MZ⟩:=uZ Oy Oz hr
  obtain⟨Rs,hfd⟩:=sZ w fs vs s0.ds Oy MZ
  have PZ:pC P (nm.n 3)=s0.sz:=by
   have h1:=hF.var.size w
   have h2:=C.var.size w
   rw[e3]at h2
   rw[h1]at h2
   simpa using h2
  have hA7:=hA (n+7)
  have hn7:(A (n+7)).2<=a.tmps.size:=hn
  have J3:ku (.struct none (some o) fs) df (.st vs t)=((s0.ds.all λq=>gY q.2.1 q.2.2 ((cs[q.1]?).getD undef))&&mm.isNone):=by simp only[ku,V.fields,V.tags,hfd,WF]
  rw[J3]at J5 Ki
  have XW:fo [mk (some n) (.move (tm s)),mk (some (n+1)) (.nilCheck (tm n)),mk (some (n+2)) (.fieldAddr (nm.n 1) (tm (n+1)) (nm.n 2)),mk (some (n+3)) (.load (nm.n 3) (tm (n+2))),cl (some (n+4)) (nm.n 7) [],cl (some (n+5)) (nm.n 8) [tm (n+3),tm (n+4)],mk (some (n+6)) (.unOp .not (nm.n 9) (tm (n+5)))]=[false,false,false,false,true,true,true]:=by
   simp[fo,zw,mk,cl,jp,Op.operands,tm]
  have step:∀ (Q':Exit->Act->World->Prop),(∀ a' w',Pv n k0 k0 n a a'->(∀ i,i<n->a'.get i=a.get i)->br (λ_=>False) w w'->a'.eval (tm (n+6))=.bool (!((s0.ds.all λq=>gY q.2.1 q.2.2 ((cs[q.1]?).getD undef))&&mm.isNone))->Q' .normal a' w') ->
    cf P (Ca 7 (λn=>oh s (nm.n 1) (nm.n 2) (nm.n 3) n++[cl (some (n+4)) (nm.n 7) [],cl (some (n+5)) (nm.n 8) [tm (n+3),tm (n+4)],mk (some (n+6)) (.unOp .not (nm.n 9) (tm (n+5)))]) n).1 Q' a w:=by
   intro Q' hQ
   show cf P (.region 1 [mk (some n) (.move (tm s)),mk (some (n+1)) (.nilCheck (tm n)),mk (some (n+2)) (.fieldAddr (nm.n 1) (tm (n+1)) (nm.n 2)),mk (some (n+3)) (.load (nm.n 3) (tm (n+2))),cl (some (n+4)) (nm.n 7) [],cl (some (n+5)) (nm.n 8) [tm (n+3),tm (n+4)],mk (some (n+6)) (.unOp .not (nm.n 9) (tm (n+5)))].toArray true) Q' a w
   refine .drw (λw'=>br (λ_=>False) w w') ?_
   rw[XW]
   simp only[fu,dQ]
   refine iF ?_
   rw[bp,hs]
   refine oC (p:=⟨B,O,none⟩) (by rw[bp,bA aa];rfl) (wZ (B:=B) (O:=O) (by rw[bp,bA (by simp only[bq];omega)]) hF ?_)
   refine⟨.agg cs.toArray,λw' hI=>?_,?_⟩
   ·have hl:=run_loadCells_list (P:=P) w' ⟨B,O+off,none⟩ cs (λj v hj=>by rw[Addr.add_lit];exact hI.cell id (Kv j v hj))
    have key:∀ A:Act,A.eval (tm (n+2))=pt B (O+off)->(execOp A.eval (mk (some (n+3)) (.load (nm.n 3) (tm (n+2))))).run P w'=.ok (.value (.agg cs.toArray)) w':=λA e=>by
     simp only[pt]at e
     have Jc:(sizeOf (nm.n 3)).run P w'=.ok cs.length w':=by rw[hF.var.size w',PZ,IT]
     simp[execOp,mk,e,Instr.loadAt,Instr.sureAddr,loadVar,hF.var.agg w',Jc,hl]
    exact key _ (by rw[bp,bA (by simp only[bq];omega)];rfl)
   have Jp:Pv n k0 k0 n a ((((a.put (some n) (pt B O)).put (some (n+1)) (.pointer (some ⟨B,O,none⟩))).put (some (n+2)) (.pointer (some ⟨B,O+off,none⟩))).put (some (n+3)) (.agg cs.toArray)):=((((Pv.refl _ _ _ _ _).put _ aa).put _ aa).put _ aa).put _ aa
   have S6:∀ i,i<n->((((a.put (some n) (pt B O)).put (some (n+1)) (.pointer (some ⟨B,O,none⟩))).put (some (n+2)) (.pointer (some ⟨B,O+off,none⟩))).put (some (n+3)) (.agg cs.toArray)).get i=a.get i:=λi hi=>by rw[b8 aa,b8 aa,b8 aa,b8 aa]
   have Z0:((((a.put (some n) (pt B O)).put (some (n+1)) (.pointer (some ⟨B,O,none⟩))).put (some (n+2)) (.pointer (some ⟨B,O+off,none⟩))).put (some (n+3)) (.agg cs.toArray)).get (n+3)=.agg cs.toArray:=bA (by simp only[bq];omega)
   show gF P _ Q' _ ((((a.put (some n) (pt B O)).put (some (n+1)) (.pointer (some ⟨B,O,none⟩))).put (some (n+2)) (.pointer (some ⟨B,O+off,none⟩))).put (some (n+3)) (.agg cs.toArray)) w.drew
   generalize(((a.put (some n) (pt B O)).put (some (n+1)) (.pointer (some ⟨B,O,none⟩))).put (some (n+2)) (.pointer (some ⟨B,O+off,none⟩))).put (some (n+3)) (.agg cs.toArray)=a4 at Jp S6 Z0 ⊢
   have L3:=Jp.size
   have Km:br (λ_=>False) w w.drew:=br.drew _ _
   refine⟨Km,iV (vs:=([]:List Value).toArray) rfl (e1 ▸ C.dE) rfl (e1 ▸ C.dC w.drew) λe w1 hR=>?_⟩
   obtain⟨Jd,z,rfl,PP,Ys,QZ⟩:=hR
   refine⟨_,rfl,Km.trans Jd,iV (vs:=([.agg cs.toArray,.agg z.toArray]:List Value).toArray) rfl (e2 ▸ C.sE) ?_ (e2 ▸ C.sC w1 cs z mm IT PP (e4 ▸ VS) Ys QZ Rs) λe w2 hR=>?_⟩
   ·simp only[List.map_cons,List.map_nil,bp]
    rw[b8 aa,bA aa,Z0]
   obtain⟨IV,rfl⟩:=hR
   have J0:br (λ_=>False) w w2:=(Km.trans Jd).trans IV
   refine⟨_,rfl,J0,?_⟩
   refine F1 (b:=(s0.ds.all λq=>gY q.2.1 q.2.2 ((cs[q.1]?).getD undef))&&mm.isNone) (by rw[bp,bA (by simp only[bq];omega)]) ⟨J0,hQ _ w2 (((Jp.put _ aa).put _ aa).put _ aa) (λi hi=>by rw[b8 aa,b8 aa,b8 aa];exact S6 i hi) J0 (by rw[bp,bA (by simp only[bq];omega)])⟩
  cases hb:((s0.ds.all λq=>gY q.2.1 q.2.2 ((cs[q.1]?).getD undef))&&mm.isNone) with
  | true=>
   rw[hb]at Ki step
   exact .seq (R:=Exit.then (λa' w'=>cf P (.cond (tm (n+6)) (A (n+7)).1 .skip) (Exit.then K Q) a' w') (Exit.then K Q)) (step _ λa1 w1 IP Je Jd he=>.condF he (.skip (Ki rfl a1 w1 IP Je Jd))) (λa' w' h=>h) (λe a w he hq=>by rw[dY he]at hq;exact hq)
  | false=>
   rw[hb]at J5 step
   exact .seq (R:=Exit.then (λa' w'=>cf P (.cond (tm (n+6)) (A (n+7)).1 .skip) (Exit.then K Q) a' w') (Exit.then K Q)) (step _ λa1 w1 IP Je Jd he=>.condT he (J5 rfl a1 w1 (n+7) IP Je Jd aa rfl)) (λa' w' h=>h) (λe a w he hq=>by rw[dY he]at hq;exact hq)
end
