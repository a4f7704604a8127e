/-
  PLAIN LAWS AND CONTRACTS of messages, part 9.
-/
import Derived.Test.YtbgklecbmhaadaaGreatDoorK7
import Derived.Test.YtbgklecbmhaadaaGreatDoorK8
import Derived.ChangeKeysEq

namespace Go.Proofs.YtbgklecbmhaadaaGreatDoor.Kx
open Go
section
variable {P:Program} {K:Kn}
theorem xu {ops:Array Oper}{Q:Exit->Act->World->Prop}{r:List Oper}{a:Act}{w:World}{d:Option Nat}{T:Nat}{y:Operand}{k:IntKind}{x:Int}{s:Nat}(hy:a.eval y=.int k x)(hs:s<=k.bits)
  (h:wpList P ops Q r (a.put d (.int k (x/2^s))) w):wpList P ops Q (mk d (.binOp .shr T y (ki .u64 s) 0)::r) a w:=by
 refine aD (w':=w) ?_ h
 have e2:a.eval (ki .u64 s)=.int .u64 s:=rfl
 have GF:=uR (P:=P) (k:=k) (A:=T) (x:=x) hs w
 simp[execOp,mk,hy,e2,eqGuard,GF]
theorem qT {ops:Array Oper}{Q:Exit->Act->World->Prop}{r:List Oper}{a:Act}{w:World}{d:Option Nat}{T:Nat}{y:Operand}{l:List UInt8}{k:IntKind}{i:Nat}{b:UInt8}(hT:P.underlying T=some .string)(hy:a.eval y=.int k i)(hi:l[i]?=some b)
  (h:wpList P ops Q r (a.put d (.int .u8 (b.toNat:Int))) w):wpList P ops Q (mk d (.index T (.const (AB l)) y)::r) a w:=by
 refine aD (w':=w) ?_ h
 have e2:a.eval (.const (AB l))=.string ⟨l.toArray⟩:=rfl
 have e3:(⟨l.toArray⟩:ByteArray)[i]?=some b:=by
  have Gq:i<l.length:=(List.getElem?_eq_some_iff.1 hi).1
  have hb:=(List.getElem?_eq_some_iff.1 hi).2
  rw[getElem?_pos _ i (by simpa[ByteArray.size]using Gq)]
  congr 1
 simp[execOp,mk,hy,e2,Instr.index,asIntOf,run_underlying hT,e3]
theorem zq {y:Nat}(h:y<256):kl[y]?=some (kl.getD y 0):=by
 have hl:kl.length=256:=by simp[kl]
 rw[List.getD_eq_getElem?_getD,List.getElem?_eq_getElem (by omega)]
 rfl
theorem vJ {y:Nat}(h:y<256):mi[y]?=some (mi.getD y 0):=by
 have hl:mi.length=256:=by simp[mi]
 rw[List.getD_eq_getElem?_getD,List.getElem?_eq_getElem (by omega)]
 rfl
theorem mY {k:IntKind}{m:Nat}(h:m<128):k.wrap (m:Int)=m:=by
 cases k<;>simp[IntKind.wrap,IntKind.bits,IntKind.signed]<;>omega
theorem uy {m:Nat}(h:m<256):IntKind.u8.wrap (m:Int)=m:=by
 simp[IntKind.wrap,IntKind.bits,IntKind.signed];omega
theorem xJ (b:UInt8):IntKind.i64.wrap (b.toNat:Int)=(b.toNat:Int):=by
 have:=b.toNat_lt
 simp[IntKind.wrap,IntKind.bits,IntKind.signed];omega
theorem ka {k:IntKind}{A:Nat}{x y:Int}(w:World):(binOp .add A (.int k x) (.int k y)).run P w=.ok (.int k (k.wrap (x+y))) w:=by simp[binOp,Op.intArith]
theorem rP (wt:WT P K){tU f ntmps:Nat}(hU:P.underlying tU=some (.int .u32))(hfn:FnIs P f ntmps [2] (cLen32 K tU))(G8:19<=ntmps){x:Nat}(hx:x<4294967296)(w:World) :
  Calls P f #[.int .u32 x] w fun e w'=>e=.returned (.int .i64 (zu x:Nat))/\ac (fun _=>False) w w':=by
 refine iL wt.mixed hfn (by omega) fun a h0 hs hd=>?_
 refine ad (au (aj (wpList_nil ?_)))
 have g0:(a.put (some 2) (.int .i64 0)).get 0=.int .u32 x:=by rw[ak (by omega)];exact h0
 have g2:(a.put (some 2) (.int .i64 0)).get 2=.int .i64 0:=am (by omega)
 have gs:(a.put (some 2) (.int .i64 0)).tmps.size=ntmps:=by rw[ab];exact hs
 have gd:(a.put (some 2) (.int .i64 0)).defers=[]:=by rw[ai];exact hd
 show LW P _ 3 _ (a.put (some 2) (.int .i64 0)) w
 generalize a.put (some 2) (.int .i64 0)=a at g0 g2 gs gd ⊢
 have first:∀ (l:List GC) (Q:Exit->Act->World->Prop),(∀ a',a'.get 0=.int .u32 ((jz x).1:Nat)->a'.get 2=.int .i64 ((jz x).2:Nat)->a'.tmps.size=ntmps->a'.defers=[]->LW P l 7 Q a' w) ->
   LW P (ej 1 2 (fun n=>[mk (some n) (.move (tm 0)),mk (some (n+1)) (.binOp .geq tU (tm n) (ki .u32 65536) 0)])
    (gS [aA 2 fun n=>[mk (some n) (.move (tm 0)),mk (some (n+1)) (.binOp .shr tU (tm n) (ki .u64 16) 0),mk (some 0) (.assign (tm (n+1)))],aU 2 (.int .i64 16)]) b6::l) 3 Q a w:=by
  intro l Q h
  by_cases c:65536<=x
  ·refine ad (dt (ag ?_))
   rw[aa,g0]
   refine bt (b:=true) (p:=x) (q:=65536) (k:=.u32) (by rw[aa,am (by omega)]) rfl (.inl ⟨rfl,by simp;omega⟩) (wpList_nil ⟨by rw[aa,am (by simp only[ab];omega)],?_⟩)
   refine bm (ad (au (ag ?_)))
   rw[aa,ak (by omega),ak (by omega),g0]
   refine xu (k:=.u32) (x:=x) (s:=16) (by rw[aa,am (by simp only[ab];omega)]) (by decide) (aj (wpList_nil ?_))
   rw[aa,am (by simp only[ab];omega)]
   refine ad (au (aj (wpList_nil (bg (h _ ?_ ?_ ?_ ?_)))))
   ·rw[ak (by omega),am (by simp only[ab];omega)]
    simp only[jz,if_pos c]
    simp
   ·rw[am (by simp only[ab];omega)]
    simp only[jz,if_pos c]
    rfl
   ·simp only[ab];exact gs
   ·simp only[ai];exact gd
  ·refine ad (dg (ag ?_))
   rw[aa,g0]
   refine bt (b:=false) (p:=x) (q:=65536) (k:=.u32) (by rw[aa,am (by omega)]) rfl (.inl ⟨rfl,by simp;omega⟩) (wpList_nil ⟨by rw[aa,am (by simp only[ab];omega)],.skip (h _ ?_ ?_ ?_ ?_)⟩)
   ·rw[ak (by omega),ak (by omega),g0]
    simp only[jz,if_neg c]
   ·rw[ak (by omega),ak (by omega),g2]
    simp only[jz,if_neg c]
    rfl
   ·simp only[ab];exact gs
   ·simp only[ai];exact gd
 refine first _ _ fun a g0 g2 gs gd=>?_
 generalize hp:jz x=p at g0 g2
 have Gk:p.1<65536:=by rw[<- hp];simp only[jz];split<;>simp<;>omega
 have Gm:p.2<=16:=by rw[<- hp];simp only[jz];split<;>simp
 have second:∀ (l:List GC) (Q:Exit->Act->World->Prop),(∀ a',a'.get 0=.int .u32 ((iw p).1:Nat)->a'.get 2=.int .i64 ((iw p).2:Nat)->a'.tmps.size=ntmps->a'.defers=[]->LW P l 13 Q a' w) ->
   LW P (ej 1 2 (fun n=>[mk (some n) (.move (tm 0)),mk (some (n+1)) (.binOp .geq tU (tm n) (ki .u32 256) 0)])
    (gS [aA 2 fun n=>[mk (some n) (.move (tm 0)),mk (some (n+1)) (.binOp .shr tU (tm n) (ki .u64 8) 0),mk (some 0) (.assign (tm (n+1)))],
     aA 2 fun n=>[mk (some n) (.move (tm 2)),mk (some (n+1)) (.binOp .add K.tInt (tm n) (ki .i64 8) 0),mk (some 2) (.assign (tm (n+1)))]]) b6::l) 7 Q a w:=by
  intro l Q h
  by_cases c:256<=p.1
  ·refine ad (dt (ag ?_))
   rw[aa,g0]
   refine bt (b:=true) (p:=p.1) (q:=256) (k:=.u32) (by rw[aa,am (by omega)]) rfl (.inl ⟨rfl,by simp;omega⟩) (wpList_nil ⟨by rw[aa,am (by simp only[ab];omega)],?_⟩)
   refine bm (ad (au (ag ?_)))
   rw[aa,ak (by omega),ak (by omega),g0]
   refine xu (k:=.u32) (x:=p.1) (s:=8) (by rw[aa,am (by simp only[ab];omega)]) (by decide) (aj (wpList_nil ?_))
   rw[aa,am (by simp only[ab];omega)]
   refine ad (au (ag ?_))
   rw[aa,ak (by omega),ak (by first|omega|simp[aA]),ak (by first|omega|simp[aA]),ak (by omega),ak (by omega),g2]
   refine cE (k:=.i64) (m:=p.2) (n:=8) (by rw[aa,am (by simp only[ab];first|omega|(simp[aA];omega))]) rfl (by simp) (ka w) (aj (wpList_nil (bg (h _ ?_ ?_ ?_ ?_))))
   ·rw[ak (by omega),ak (by first|omega|simp[aA]),ak (by first|omega|simp[aA]),am (by simp only[ab];omega)]
    simp only[iw,if_pos c]
    simp
   ·rw[am (by simp only[ab];omega),aa,am (by simp only[ab];first|omega|(simp[aA];omega))]
    simp only[iw,if_pos c]
    have:((p.2:Int)+8)=((p.2+8:Nat):Int):=by omega
    rw[this,mY (by omega)]
   ·simp only[ab];exact gs
   ·simp only[ai];exact gd
  ·refine ad (dg (ag ?_))
   rw[aa,g0]
   refine bt (b:=false) (p:=p.1) (q:=256) (k:=.u32) (by rw[aa,am (by omega)]) rfl (.inl ⟨rfl,by simp;omega⟩) (wpList_nil ⟨by rw[aa,am (by simp only[ab];omega)],.skip (h _ ?_ ?_ ?_ ?_)⟩)
   ·rw[ak (by omega),ak (by omega),g0]
    simp only[iw,if_neg c]
   ·rw[ak (by omega),ak (by omega),g2]
    simp only[iw,if_neg c]
   ·simp only[ab];exact gs
   ·simp only[ai];exact gd
 refine second _ _ fun a g0 g2 gs gd=>?_
 have Ip:(iw p).1<256:=by simp only[iw];split<;>omega
 have JS:(iw p).2<=24:=by simp only[iw];split<;>(try dsimp only)<;>omega
 have hlx:zu x=(iw p).2+(kl.getD (iw p).1 0).toNat:=by simp only[zu,hp]
 have h8:=(uX _ Ip).1
 rw[hlx]
 generalize iw p=q at g0 g2 Ip JS h8 ⊢
 refine ad (au (ag (ag ?_)))
 rw[aa,g2,aa,ak (by omega),g0]
 refine aT (k:=.u32) (k':=.u8) (m:=q.1) (by rw[aa,am (by simp only[ab];omega)]) hU wt.dU8 ?_
 rw[uy Ip]
 refine qT wt.dStr (by rw[aa,am (by simp only[ab];omega)]) (zq Ip) ?_
 refine aT (k:=.u8) (k':=.i64) (m:=((kl.getD q.1 0).toNat:Int)) (by rw[aa,am (by simp only[ab];omega)]) wt.dU8 wt.dInt ?_
 rw[xJ]
 refine cE (k:=.i64) (m:=q.2) (n:=((kl.getD q.1 0).toNat:Int)) ?_ ?_ (by simp) (ka w) ?_
 ·rw[aa,ak (by omega),ak (by omega),ak (by omega),ak (by omega),am (by omega)]
 ·rw[aa,am (by simp only[ab];omega)]
 rw[show((q.2:Int)+((kl.getD q.1 0).toNat:Int))=((q.2+(kl.getD q.1 0).toNat:Nat):Int) by omega,mY (by omega)]
 refine aj (wpList_nil (ad (.ret ?_)))
 rw[aa,am (by simp only[ab];omega)]
 exact⟨by simp only[ai];exact gd,by rw[am (by simp only[ab];omega)],ac.refl _ _⟩
theorem rf (wt:WT P K){tU f f2 ntmps nt2:Nat}(hU:P.underlying tU=some (.int .u32))(I8:FnIs P f2 nt2 [2] (cLen32 K tU))(Jo:19<=nt2)(hfn:FnIs P f ntmps [2] (cUvLen K f2))(G8:8<=ntmps){x:Nat}(hx:x<4294967296)(w:World) :
  Calls P f #[.int .u32 x] w fun e w'=>e=.returned (.int .i64 (oL x:Nat))/\ac (fun _=>False) w w':=by
 obtain⟨hl,hu⟩:=Ck hx
 refine iL wt.mixed hfn (by omega) fun a h0 hs hd=>?_
 refine ad (au (aj (wpList_nil ?_)))
 show LW P _ 3 _ (a.put (some 2) (.int .i64 0)) w
 refine ad (au (ag ?_))
 rw[aa,ak (by omega),h0]
 refine aR (vs:=#[.int .u32 x]) I8.ent (by simp[aa,am (show 3<(a.put (some 2) (Value.int .i64 0)).tmps.size by rw[ab];omega)]) (rP wt hU I8 Jo hx w) fun e w' hR=>⟨_,hR.1,?_⟩
 refine aT (k:=.i64) (k':=.u8) (m:=(zu x:Nat)) (by rw[aa,am (by simp only[ab];omega)]) wt.dInt wt.dU8 ?_
 rw[uy (by omega)]
 refine qT wt.dStr (by rw[aa,am (by simp only[ab];omega)]) (vJ (by omega)) ?_
 refine aT (k:=.u8) (k':=.i64) (m:=((mi.getD (zu x) 0).toNat:Int)) (by rw[aa,am (by simp only[ab];omega)]) wt.dU8 wt.dInt ?_
 rw[xJ,hu]
 refine aj (wpList_nil (ad (.ret ?_)))
 rw[aa,am (by simp only[ab];omega)]
 exact⟨by simp only[ai];exact hd,by rw[am (by simp only[ab];omega)],hR.2⟩
theorem re (wt:WT P K){j L:Nat}{x:Int}{d:Value}{bs:Bs}{w:World}{E N:Act->World->Prop}(NY:0<=x)(hx:x<2^IntKind.u32.bits)(hd:aH w L K.tU8 d bs)(hL:L<=w.heap.size) :
  ∀ (cs:List (Nat × List OE)) (es:List OE) (n:Nat) (a:Act),(∀ p∈cs,p.2≠[]/\p.2.length<=10/\∀ e∈p.2,∀ s,e.1=some s->s<=32)->cs.lookup j=some es->bs.length+es.length<=d7->6<n->(eR K cs n).2<=a.tmps.size->a.get 0=d->a.get 1=.int .u32 x->a.get 6=.int .i64 j ->
   (∀ a' w' d',a'.defers=a.defers->a'.get 4=d'->Gr L K.tU8 d w d' (bs++cu es x) w'->E a' w')->aQ P (eR K cs n).1 (Rt N E) a w
 | [],es,n,a,_,h,_,_,_,_,_,_,_=>by cases h
 | (i,es')::cs,es,n,a,G1,h,hlim,hn,hs,h0,h1,h6,hE=>by
  have Ib:∀ (cs:List (Nat × List OE)) (n:Nat),n<=(eR K cs n).2:=by
   intro cs
   induction cs with
   | nil=>intro n;exact Nat.le_refl _
   | cons p cs ih=>
    intro n
    obtain⟨i,es⟩:=p
    have:=ih (ir K K.tU32 .u32 es (n+2)).2
    have h2:(ir K K.tU32 .u32 es (n+2)).2=n+2+(3+f9 es):=rfl
    simp only[eR]
    omega
  have V5:=Ib cs (ir K K.tU32 .u32 es' (n+2)).2
  have h2:(ir K K.tU32 .u32 es' (n+2)).2=n+2+(3+f9 es'):=rfl
  simp only[eR]at hs ⊢
  have Ri:∀ (b:Bool) (X:Act->World->Prop),b=decide ((j:Int)=(i:Int))->(∀ a',Pv n 0 0 n a a'->a'.get n=.bool b->X a' w)->aQ P (rg [mk (some (n+1)) (.binOp .eql K.tInt (tm 6) (ki .i64 i) 0),mk (some n) (.assign (tm (n+1)))]) (Rt X E) a w:=by
   intro b X hb hX
   refine .reg (bt (b:=b) (p:=j) (q:=i) (k:=.i64) (by rw[aa];exact h6) rfl (.inr (.inr (.inr (.inr (.inl ⟨rfl,hb⟩))))) (aj (wpList_nil ?_)))
   rw[aa,am (by omega)]
   exact hX _ (((Pv.refl _ _ _ _ _).put _ (.inr (by omega))).put _ (.inl rfl)) (am (by rw[ab];omega))
  by_cases HL:j=i
  ·subst HL
   rw[List.lookup_cons_self]at h
   obtain rfl:=Option.some.inj h
   refine .seq (Ri true (fun a' w'=>aQ P (.cond (tm n) (ir K K.tU32 .u32 es' (n+2)).1 (eR K cs (ir K K.tU32 .u32 es' (n+2)).2).1) (Rt N E) a' w') (by simp) fun a' hp hg=>?_) (fun a' w' hh=>hh) (fun e a w he hq=>by cases e<;>first|exact absurd rfl he|exact hq)
   have G0:=hp.size
   obtain⟨o1,o2,o3⟩:=G1 _ (List.mem_cons_self ..)
   refine .condT hg (yf wt.oct wt.dU32 wt.dU8 (by omega) (by rw[hp.get 0 (by omega) (by omega)];exact h0) (by rw[hp.get 1 (by omega) (by omega)];exact h1) (fun e he=>.inr ⟨.inr (.inl rfl),NY,hx,o3 e he⟩) o1 o2 (by omega) hd hL hlim fun a'' w' d' hd' h4 GA=>hE a'' w' d' (hd'.trans hp.defers) h4 GA)
  ·rw[List.lookup_cons,show(j==i)=false by simpa using HL]at h
   refine .seq (Ri false (fun a' w'=>aQ P (.cond (tm n) (ir K K.tU32 .u32 es' (n+2)).1 (eR K cs (ir K K.tU32 .u32 es' (n+2)).2).1) (Rt N E) a' w') (by simp;omega) fun a' hp hg=>?_) (fun a' w' hh=>hh) (fun e a w he hq=>by cases e<;>first|exact absurd rfl he|exact hq)
   have G0:=hp.size
   exact .condF hg (re wt NY hx hd hL cs es _ a' (fun p hp=>G1 p (List.mem_cons_of_mem _ hp)) h hlim (by omega) (by omega) (by rw[hp.get 0 (by omega) (by omega)];exact h0) (by rw[hp.get 1 (by omega) (by omega)];exact h1) (by rw[hp.get 6 (by omega) (by omega)];exact h6)
    fun a'' w' d' hd' h4 GA=>hE a'' w' d' (hd'.trans hp.defers) h4 GA)
theorem ap_uv (wt:WT P K){tU f f1 f2 ntmps nt1 nt2:Nat}(hU:P.underlying tU=some (.int .u32))(I8:FnIs P f2 nt2 [2] (cLen32 K tU))(Jo:19<=nt2)(QR:FnIs P f1 nt1 [2] (cUvLen K f2))(O3:8<=nt1)(hfn:FnIs P f ntmps [4] (cAUv K f1))(G8:93<=ntmps)
  {x:Nat} (hx:x<4294967296) (w:World):ApC P K.tU8 f (.int .u32 x) (uvar x) w:=by
 intro L d bs hd hL hlim
 obtain⟨es,Jf,hval⟩:=Az hx
 refine kh wt.mixed hfn (by omega) fun a h0 h1 hs GS=>?_
 refine ad (bm (ad (au (ag ?_))))
 rw[aa,h1]
 refine aR (vs:=#[.int .u32 x]) QR.ent (by simp[aa,am (show 5<a.tmps.size by omega)]) (rf wt hU I8 Jo QR O3 hx w) fun e w1 hR=>⟨_,hR.1,wpList_nil ?_⟩
 refine ad (.block ?_)
 have Gp:(cu es x).length=es.length:=by simp[cu]
 refine .mono (re (E:=fun a' w'=>a'.defers=[]/\∃ d',.returned (a'.get 4)=Ending.returned d'/\Gr L K.tU8 d w d' (bs++uvar x) w') (N:=fun _ _=>False) wt (j:=oL x) (x:=x) (by omega) (by simp[IntKind.bits];omega) (hd.keep hR.2 fun _ _ h=>h) (by have:=hR.2.size;omega) xD es 7 _ (by decide) Jf (by rw[<- Gp,hval];exact hlim) (by omega) (by simp only[ab];rw[hs,show(eR K xD 7).2=92 from rfl];omega)
  (by rw[ak (by omega),ak (by omega)];exact h0) (by rw[ak (by omega),ak (by omega)];exact h1) (am (by simp only[ab];omega)) fun a' w' d' hd' h4 hg=>⟨?_,d',by rw[h4],?_⟩) fun e a w hq=>?_
 ·rw[hd'];simp only[ai];exact GS
 ·rw[<- hval];exact Gr.pre hR.2 (fun _ _ h=>h) hg
 ·cases e<;>first|exact hq|exact hq.elim
end
section
variable {P:Program} {K:Kn}
theorem vu {ops:Array Oper}{Q:Exit->Act->World->Prop}{l:List Oper}{a:Act}{w:World}{d:Option Nat}{tP el:Nat}{x:Operand}{m:Option Addr}(hM:P.underlying tP=some (.pointer el))(hx:a.eval x=.pointer m)(h:wpList P ops Q l (a.put d (.bool m.isNone)) w) :
  wpList P ops Q (mk d (.binOp .eql tP x (.const (.pointer none)) 0)::l) a w:=by
 refine aD ?_ h
 have hc:a.eval (.const (.pointer none))=.pointer none:=rfl
 have he:(eqGuard .eql tP x (.const (.pointer none)) (.pointer m) (.pointer none)).run P w=.ok () w:=by simp[eqGuard]
 have hr:(binOp .eql tP (.pointer m) (.pointer none)).run P w=.ok (.bool m.isNone) w:=by
  have h1:(Op.equal tP (.pointer m) (.pointer none)).run P w=.ok m.isNone w:=by
   cases m with
   | none=>exact(show(Op.equalIn (9999+1) tP (.pointer none) (.pointer none)).run P w=_ from by
     have:∀ d:Nat,(Op.equalIn (d+1) tP (.pointer none) (.pointer none)).run P w=.ok true w:=fun d=>by simp[Op.equalIn,run_underlying hM]
     exact this 9999)
   | some r=>exact(show(Op.equalIn (9999+1) tP (.pointer (some r)) (.pointer none)).run P w=_ from by
     have:∀ d:Nat,(Op.equalIn (d+1) tP (.pointer (some r)) (.pointer none)).run P w=.ok false w:=fun d=>by simp[Op.equalIn,run_underlying hM]
     exact this 9999)
  simp[binOp,h1]
 simp[execOp,mk,hx,hc,he,hr]
theorem xt {ops:Array Oper}{Q:Exit->Act->World->Prop}{l:List Oper}{a:Act}{w:World}{d:Option Nat}{tS el:Nat}{x:Operand}{m:Option Addr}{n c:Nat}(hM:P.underlying tS=some (.slice el))(hx:a.eval x=.slice m n c)(h:wpList P ops Q l (a.put d (.bool m.isNone)) w) :
  wpList P ops Q (mk d (.binOp .eql tS x (.const (.slice none 0 0)) 0)::l) a w:=by
 refine aD ?_ h
 have hc:a.eval (.const (.slice none 0 0))=.slice none 0 0:=rfl
 have he:(eqGuard .eql tS x (.const (.slice none 0 0)) (.slice m n c) (.slice none 0 0)).run P w=.ok () w:=by simp[eqGuard]
 have hr:(binOp .eql tS (.slice m n c) (.slice none 0 0)).run P w=.ok (.bool m.isNone) w:=by
  have h1:(Op.equal tS (.slice m n c) (.slice none 0 0)).run P w=.ok m.isNone w:=by
   cases m with
   | none=>exact(show(Op.equalIn (9999+1) tS (.slice none n c) (.slice none 0 0)).run P w=_ from by
     have:∀ d:Nat,(Op.equalIn (d+1) tS (.slice none n c) (.slice none 0 0)).run P w=.ok true w:=fun d=>by simp[Op.equalIn,run_underlying hM]
     exact this 9999)
   | some r=>exact(show(Op.equalIn (9999+1) tS (.slice (some r) n c) (.slice none 0 0)).run P w=_ from by
     have:∀ d:Nat,(Op.equalIn (d+1) tS (.slice (some r) n c) (.slice none 0 0)).run P w=.ok false w:=fun d=>by simp[Op.equalIn,run_underlying hM]
     exact this 9999)
  simp[binOp,h1]
 simp[execOp,mk,hx,hc,he,hr]
theorem kS {ops:Array Oper}{Q:Exit->Act->World->Prop}{l:List Oper}{a:Act}{w:World}{d:Option Nat}{tP el:Nat}{x:Operand}{m:Option Addr}(hM:P.underlying tP=some (.pointer el))(hx:a.eval x=.pointer m)(h:wpList P ops Q l (a.put d (.bool m.isSome)) w) :
  wpList P ops Q (mk d (.binOp .neq tP x (.const (.pointer none)) 0)::l) a w:=by
 refine aD ?_ h
 have hc:a.eval (.const (.pointer none))=.pointer none:=rfl
 have he:(eqGuard .neq tP x (.const (.pointer none)) (.pointer m) (.pointer none)).run P w=.ok () w:=by simp[eqGuard]
 have hr:(binOp .neq tP (.pointer m) (.pointer none)).run P w=.ok (.bool m.isSome) w:=by
  have h1:(Op.equal tP (.pointer m) (.pointer none)).run P w=.ok m.isNone w:=by
   cases m with
   | none=>exact(show(Op.equalIn (9999+1) tP (.pointer none) (.pointer none)).run P w=_ from by
     have:∀ d:Nat,(Op.equalIn (d+1) tP (.pointer none) (.pointer none)).run P w=.ok true w:=fun d=>by simp[Op.equalIn,run_underlying hM]
     exact this 9999)
   | some r=>exact(show(Op.equalIn (9999+1) tP (.pointer (some r)) (.pointer none)).run P w=_ from by
     have:∀ d:Nat,(Op.equalIn (d+1) tP (.pointer (some r)) (.pointer none)).run P w=.ok false w:=fun d=>by simp[Op.equalIn,run_underlying hM]
     exact this 9999)
  cases m<;>simp[binOp,h1]
 simp[execOp,mk,hx,hc,he,hr]
theorem mT {k:IntKind}{m:Nat}(h:(k=.i8/\m=1) \/ ((k=.i16 \/ k=.u16)/\m=2) \/ ((k=.i32 \/ k=.u32)/\m=4) \/ ((k=.i64 \/ k=.u64)/\m=8))(x:Int):be m (k.wrap x)=be m x:=by
 rw[<- zZ m (k.wrap x) m (Nat.le_refl _),<- zZ m x m (Nat.le_refl _)]
 congr 1
 rcases h with⟨rfl,rfl⟩|⟨rfl|rfl,rfl⟩|⟨rfl|rfl,rfl⟩|⟨rfl|rfl,rfl⟩<;>simp[IntKind.wrap,IntKind.bits,IntKind.signed]<;>omega
theorem zD {te L:Nat}{d d':Value}{bs enc:Bs}{w w':World}{x:Value}(hx:x=d')(hg:Gr L te d w d' (bs++enc) w'):∃ d',Ending.returned x=Ending.returned d'/\Gr L te d w d' (bs++enc) w':=⟨d',by rw[hx],hg⟩
theorem Ad (wt:WT P K)(hF:bL K.tU16=true){f ntmps:Nat}(hfn:FnIs P f ntmps [4] (cAU16 K))(G8:13<=ntmps){x:Int}(hx:0<=x/\x<65536)(w:World):ApC P K.tU8 f (.int .u16 x) (be 2 x) w:=by
 have h:=Ae wt (wt.dU16 hF) hfn (by simp[f9,eO];omega) (by simp) (by simp) (x:=x) (fun e he=>.inr ⟨.inl rfl,hx.1,by simp[IntKind.bits];omega,fun s hs=>by simp at he;rcases he with rfl|rfl<;>simp at hs;subst hs;decide⟩) w
 rwa [FT]at h
theorem Dm (wt:WT P K){f ntmps:Nat}(hfn:FnIs P f ntmps [4] (cAU32 K))(G8:19<=ntmps){x:Int}(hx:0<=x/\x<4294967296)(w:World):ApC P K.tU8 f (.int .u32 x) (be 4 x) w:=by
 have h:=Ae wt wt.dU32 hfn (by simp[f9,eO];omega) (by simp) (by simp) (x:=x) (fun e he=>.inr ⟨.inr (.inl rfl),hx.1,by simp[IntKind.bits];omega,fun s hs=>by simp at he;rcases he with rfl|rfl|rfl|rfl<;>simp at hs<;>subst hs<;>decide⟩) w
 rwa [FS]at h
theorem mZ {k:IntKind}(x:Int):(k=.u16->0<=k.wrap x/\k.wrap x<65536)/\(k=.u32->0<=k.wrap x/\k.wrap x<4294967296)/\(k=.u64->0<=k.wrap x/\k.wrap x<18446744073709551616):=by
 refine⟨?_,?_,?_⟩<;>(intro h;subst h;simp[IntKind.wrap,IntKind.bits,IntKind.signed];omega)
theorem ap_i16 (wt:WT P K)(hF:bL K.tU16=true){f f2 ntmps nt2:Nat}(I8:FnIs P f2 nt2 [4] (cAU16 K))(Jo:13<=nt2)(hfn:FnIs P f ntmps [4] (cACv K.tI16 K.tU16 f2))(G8:9<=ntmps)(x:Int)(w:World):ApC P K.tU8 f (.int .i16 x) (be 2 x) w:=
 Af wt wt.dI16 (wt.dU16 hF) hfn G8 I8.ent (mT (k:=.u16) (.inr (.inl ⟨.inr rfl,rfl⟩)) x ▸ Ad wt hF I8 Jo ((mZ x).1 rfl) w)
theorem ap_i32 (wt:WT P K){f f2 ntmps nt2:Nat}(I8:FnIs P f2 nt2 [4] (cAU32 K))(Jo:19<=nt2)(hfn:FnIs P f ntmps [4] (cACv K.tI32 K.tU32 f2))(G8:9<=ntmps)(x:Int)(w:World):ApC P K.tU8 f (.int .i32 x) (be 4 x) w:=
 Af wt wt.dI32 wt.dU32 hfn G8 I8.ent (mT (k:=.u32) (.inr (.inr (.inl ⟨.inr rfl,rfl⟩))) x ▸ Dm wt I8 Jo ((mZ x).2.1 rfl) w)
theorem ap_len (wt:WT P K){f f2 ntmps:Nat}(hE:Ent P f2)(hc:∀ x w,ApC P K.tU8 f2 (.int .i32 x) (be 4 x) w)(hfn:FnIs P f ntmps [4] (cACv K.tInt K.tI32 f2))(G8:9<=ntmps)(x:Int)(w:World):ApC P K.tU8 f (.int .i64 x) (be 4 x) w:=
 Af wt wt.dInt wt.dI32 hfn G8 hE (mT (k:=.i32) (.inr (.inr (.inl ⟨.inl rfl,rfl⟩))) x ▸ hc _ w)
theorem rj (n:Nat):IntKind.u32.wrap (1+IntKind.u32.wrap (n:Int))=(dL (n+1):Nat):=by simp[IntKind.wrap,IntKind.bits,IntKind.signed,dL];omega
theorem lM (n:Nat):dL n<4294967296:=by simp only[dL];omega
theorem ap_clen (wt:WT P K){f f2 ntmps:Nat}(hE:Ent P f2)(hc:∀ x w,x<4294967296->ApC P K.tU8 f2 (.int .u32 (x:Nat)) (uvar x) w)(hfn:FnIs P f ntmps [4] (cACv1 K f2))(G8:10<=ntmps)(n:Nat)(w:World):ApC P K.tU8 f (.int .i64 n) (uvar (dL (n+1))) w:=
 Do wt hfn G8 hE (by rw[rj];exact hc _ w (lM _))
end
structure xc where
 P:Program
 g:GW
 av:PF->Bool
 nl:Bool
def lU (av:PF->Bool)(hf:Bool):Ty->Bool
 | .prim p=>av (bN p)
 | .str none=>av .str&&(!hf || av .cstr)
 | .str (some 0)=>av .nstr&&(!hf || av .cnstr)
 | .str (some (_+1))=>(av .nstr&&(!hf || av .cnstr))&&(av .str&&(!hf || av .cstr))
 | .bytes none=>av .bytes&&(!hf || av .cbytes)
 | .bytes (some 0)=>av .nbytes&&(!hf || av .cnbytes)
 | _=>false
def wu (P:Program)(F:Nat):Bool:=match P.underlying F with|some (.pointer _)=>true|_=>false
def vq (P:Program)(v:Nat):Ty->List Nat->Bool
 | .prim p,x=>x.length==0 || (x.length==1&&p != .uuid)
 | .str (some (_+1)),x=>x.length==4&&x.getD 0 0 != v&&wu P (x.getD 2 0)&&jg P (x.getD 3 0) false 1
 | _,x=>x.length==0
def qW (e:xc)(hf:Bool)(m k0:Nat)(ty:Ty)(v:Nat)(x:List Nat):Bool:=lU e.av hf ty&&decide (v<k0)&&((x.take 2).all fun t=>decide (m<=t/\t<k0))&&vq e.P v ty x
def dQ (e:xc)(hf:Bool)(m k0:Nat)(ty:Ty)(v:Nat)(x:List Nat):Bool:=qW e hf m k0 ty v x&&decide (m<=v)
def jV (w:World)(a:Act)(ty:Ty)(v:Nat)(cs:List Value):Prop:=
 if fF ty then ∃ p,a.get v=pt p 0/\ao w p 0 cs else ∃ y,a.get v=y/\cs=[y]
theorem u6 (f v:Nat):Up (bq f v):=aq _ _
theorem Pv.x1 {v m k0 n:Nat}{a a':Act}(h:Pv v m k0 n a a')(hv:m<=v/\v<k0):Pv 1 m k0 n a a':=⟨h.size,h.defers,fun s hs G9=>h.get s (by omega) G9⟩
theorem Pv.g1 {v m k0 n:Nat}{a a':Act}(h:Pv v m k0 n a a')(hv:m<=v/\v<k0)(h1:1<m):a'.get 1=a.get 1:=h.get 1 (by omega) (.inl h1)
section
variable {P:Program} {g:GW} {av:PF->Bool} {fl nl:Bool} {te:Nat} {cx:Cx} {fx:Bool} {ver:Int} {L B O m k0 n:Nat} {d:Value} {bs:Bs} {K N E:Act->World->Prop} {Q:Exit->Act->World->Prop} {a:Act} {w:World}
theorem lq (K0:KW P g av fl nl te){ty:Ty}{v:Nat}{x:List Nat}{cs:List Value}{vv:V}{rest:List GC}(G1:qW ⟨P,g,av,nl⟩ cx.hf m k0 ty v x=true)(hw:WC cx fx ver te L B O d bs a w)(hc:mU cx m k0)(hk:k0<=n)(_hk0:k0<=a.tmps.size)
  (hn:(gL (bo g cx ty v x) n).2<=a.tmps.size) (hv:jV w a ty v cs) (hl:iv w (fun k=>L<=k) ty cs vv) (hlim:bs.length+((cZ fx ver ty).wr vv).length<=d7)
  (h:∀ a' w' d',Pv 1 m k0 n a a'->a'.get 1=d'->Gr L te d w d' (bs++(cZ fx ver ty).wr vv) w'->LW P rest (gL (bo g cx ty v x) n).2 Q a' w') :
  LW P (bo g cx ty v x++rest) n Q a w:=by
 simp only[qW,Bool.and_eq_true,decide_eq_true_eq,List.all_eq_true]at G1
 obtain⟨⟨⟨hval,Hz⟩,Pr⟩,hx⟩:=G1
 have G5:=hc.le
 have HF:=hc.one
 have HN:fx=true->cx.hf=true:=fun h=>by
  cases hh:cx.hf with
  | true=>rfl
  | false=>rw[hw.nf hh]at h;cases h
 have app:∀ (p:PF) (t:Nat) (y:Value) (r:List GC) (n':Nat) (a:Act),av p=true->WC cx fx ver te L B O d bs a w->a.get t=y->t<k0->lH p cs y->iv w (fun k=>L<=k) (iE p) cs vv->k0<=n'->n'+3<=a.tmps.size->bs.length+(p.wr vv).length<=d7 ->
   (∀ a' w' d',Pv 1 m k0 n' a a'->a'.get 1=d'->Gr L te d w d' (bs++p.wr vv) w'->LW P r (n'+3) Q a' w')->LW P (bq (g.ap p) t::r) n' Q a w:=by
  intro p t y r n' a Ji hw hy ht RM JE Kl hn' hlim' h'
  exact ad (pV (K0.apE p Ji) (K0.apC p Ji w L cs y vv JE RM) hw.s1 hy (by omega) hw.dst hw.Lw hlim' G5 Kl (by omega) hn' h')
 have app2:∀ (t:Nat) (p q:PF) (y:Value) (cs:List Value) (vv:V) (n:Nat) (a:Act) (K':Act->World->Prop) (Q:Exit->Act->World->Prop),WC cx fx ver te L B O d bs a w->t<k0->k0<=n->(cx.hf=true->av p=true)->av q=true->a.get t=y->(p≠.uuid/\q≠.uuid)->cs=[y]->iv w (fun k=>L<=k) (iE p) cs vv->iv w (fun k=>L<=k) (iE q) cs vv ->
   (fk cx (bq (g.ap p) t) (bq (g.ap q) t) n).2<=a.tmps.size->bs.length+((if fx then p else q).wr vv).length<=d7 ->
   (∀ a' w' d',Pv 1 m k0 n a a'->a'.get 1=d'->Gr L te d w d' (bs++(if fx then p else q).wr vv) w'->K' a' w') ->
   aQ P (fk cx (bq (g.ap p) t) (bq (g.ap q) t) n).1 (Exit.then K' Q) a w:=by
  intro t p q y cs vv n a K' Q hw ht hk hp hq hy hpq GE Mj hlq GU hlim2 h2
  have If:n<a.tmps.size:=by
   unfold fk at GU
   split at GU
   ·have:n+1+3+3<=a.tmps.size:=GU
    omega
   ·have:n+3<=a.tmps.size:=GU
    omega
  refine xV (u6 _ _) (u6 _ _) hw hc hk GU If fun a1 n1 Gk Gv Gz If G0=>?_
  have Gu:=Gk.size
  have Iu:a1.get t=y:=by rw[<- hy];exact Gz t (by omega)
  cases fx with
  | true=>
   simp only[if_true]at G0 hlim2 h2 ⊢
   have hsz':n1+3<=a.tmps.size:=G0
   exact pV (K0.apE p (hp (HN rfl))) (K0.apC p (hp (HN rfl)) w L cs y vv Mj (by simp only[lH,if_neg hpq.1];exact GE)) Gv Iu (by omega) hw.dst hw.Lw hlim2 G5 (by omega) (by omega) (by omega) fun a' w' d' GK h1' GA=>h2 a' w' d' (Gk.trans (GK.mono (Nat.le_refl _) If)) h1' GA
  | false=>
   simp only[Bool.false_eq_true,if_false]at G0 hlim2 h2 ⊢
   have hsz':n1+3<=a.tmps.size:=G0
   exact pV (K0.apE q hq) (K0.apC q hq w L cs y vv hlq (by simp only[lH,if_neg hpq.2];exact GE)) Gv Iu (by omega) hw.dst hw.Lw hlim2 G5 (by omega) (by omega) (by omega) fun a' w' d' GK h1' GA=>h2 a' w' d' (Gk.trans (GK.mono (Nat.le_refl _) If)) h1' GA
 cases ty with
 | prim p=>
  have hpp:iE (bN p)=.prim p:=by cases p<;>rfl
  have Mj:iv w (fun k=>L<=k) (iE (bN p)) cs vv:=by rw[hpp];exact hl
  by_cases hu:p=.uuid
  ·subst hu
   obtain⟨q,hq,GE⟩:=hv
   have Ji:av .uuid=true:=hval
   have Gp:cs.length=16:=hl.len
   exact ad (uO (K0.uuid Ji).1 (K0.apE _ Ji) (K0.apC _ Ji w L cs _ vv Mj rfl) hw.s1 hq GE Gp (by omega) hw.dst hw.Lw hlim G5 hk (by omega) hn h)
  ·have hiu:fF (.prim p)=false:=by cases p<;>first|rfl|exact absurd rfl hu
   simp only[jV,hiu,Bool.false_eq_true,if_false]at hv
   obtain⟨y,hy,GE⟩:=hv
   have RM:lH (bN p) cs y:=by
    have:bN p≠.uuid:=by cases p<;>first|decide|exact absurd rfl hu
    simp only[lH,if_neg this];exact GE
   have OX:bo g cx (.prim p) v []=[bq (g.ap (bN p)) v]:=by cases p<;>first|rfl|exact absurd rfl hu
   have OW:∀ t,bo g cx (.prim p) v [t]=[bB v t,bq (g.ap (bN p)) t]:=fun t=>by cases p<;>first|rfl|exact absurd rfl hu
   simp only[vq,Bool.or_eq_true,Bool.and_eq_true,beq_iff_eq]at hx
   rcases hx with hx|⟨hx,_⟩
   ·obtain rfl:=List.eq_nil_of_length_eq_zero hx
    rw[OX]at hn h ⊢
    exact app _ v y rest n a hval hw hy Hz RM Mj hk hn hlim h
   ·obtain⟨t,rfl⟩:=List.length_eq_one_iff.1 hx
    have ht:=Pr t (by simp)
    rw[OW]at hn h ⊢
    have hn':n+1+3<=a.tmps.size:=hn
    show LW P (bB v t::(bq (g.ap (bN p)) t::rest)) n Q a w
    refine ad (eH (x:=t) (m:=m) (k0:=k0) (.inl rfl) G5 hk (by omega) (by omega) fun a1 Gk Gv=>?_)
    have hp1':=Gk.x1 ht
    have Gu:=Gk.size
    show LW P (bq (g.ap (bN p)) t::rest) (n+1) Q a1 w
    refine app _ t y rest (n+1) a1 hval (hw.step hc hp1' (by rw[Gk.g1 ht HF];exact hw.s1) (Gr.refl hw.dst)) (Gv.trans hy) ht.2 RM Mj (by omega) (by omega) hlim fun a' w' d' GK h1' GA=>h a' w' d' (hp1'.trans (GK.mono (Nat.le_refl _) (by omega))) h1' GA
 | str nul=>
  obtain⟨y,hy,GE⟩:=hv
  cases nul with
  | none=>
   obtain rfl:x=[]:=List.eq_nil_of_length_eq_zero (by simpa[vq]using hx)
   simp only[lU,Bool.and_eq_true,Bool.or_eq_true,Bool.not_eq_true']at hval
   have e:cZ fx ver (.str none)=if fx then .cstr else .str:=by cases fx<;>rfl
   rw[e]at hlim h
   exact ad (app2 v .cstr .str y cs vv n a _ _ hw Hz hk (fun hf=>by rcases hval.2 with h|h;rw[h]at hf;cases hf;exact h) hval.1 hy ⟨by decide,by decide⟩ GE hl hl hn hlim h)
  | some q=>
   cases q with
   | zero=>
    obtain rfl:x=[]:=List.eq_nil_of_length_eq_zero (by simpa[vq]using hx)
    simp only[lU,Bool.and_eq_true,Bool.or_eq_true,Bool.not_eq_true']at hval
    have e:cZ fx ver (.str (some 0))=if fx then .cnstr else .nstr:=by cases fx<;>rfl
    rw[e]at hlim h
    exact ad (app2 v .cnstr .nstr y cs vv n a _ _ hw Hz hk (fun hf=>by rcases hval.2 with h|h;rw[h]at hf;cases hf;exact h) hval.1 hy ⟨by decide,by decide⟩ GE hl hl hn hlim h)
   | succ q=>
    simp only[vq,Bool.and_eq_true,beq_iff_eq,bne_iff_ne,ne_eq]at hx
    obtain⟨⟨⟨MV,hxv⟩,I0⟩,PK⟩:=hx
    match x,MV with
    | [b,u,F,tS],_=>
    simp only[List.getD_cons_zero,List.getD_cons_succ]at hxv I0 PK
    have hb:=Pr b (by simp)
    have hu:=Pr u (by simp)
    obtain⟨el,IZ⟩:∃ el,P.underlying F=some (.pointer el):=by
     unfold wu at I0
     split at I0
     ·rename_i el h;exact⟨el,h⟩
     ·cases I0
    have PJ:=varB_ok PK
    simp only[lU,Bool.and_eq_true,Bool.or_eq_true,Bool.not_eq_true']at hval
    obtain⟨⟨v1,v2⟩,v3,v4⟩:=hval
    have Hr:bo g cx (.str (some (q+1))) v [b,u,F,tS]=[ej 1 2 (fun n=>[mk (some n) (.move (tm cx.ver)),mk (some (n+1)) (.binOp .lss g.tVer (tm n) (ki .i16 ((q:Int)+1)) 0)])
      (gS [aU b (.string ⟨#[]⟩),ej 1 2 (fun n=>[mk (some n) (.move (tm v)),mk (some (n+1)) (.binOp .neq F (tm n) (.const (.pointer none)) 0)])
       (aA 3 fun n=>[mk (some n) (.move (tm v)),mk (some (n+1)) (.nilCheck (tm n)),mk (some (n+2)) (.load tS (tm (n+1))),mk (some b) (.assign (tm (n+2)))]) b6,
       bB b u,fk cx (bq (g.ap .cstr) u) (bq (g.ap .str) u)])
      (fk cx (bq (g.ap .cnstr) v) (bq (g.ap .nstr) v))]:=rfl
    rw[Hr]at hn h ⊢
    have GU:(fk cx (bq (g.ap .cnstr) v) (bq (g.ap .nstr) v) (fk cx (bq (g.ap .cstr) u) (bq (g.ap .str) u) (n+2+2+3+1)).2).2<=a.tmps.size:=hn
    have Kr:n+2+2+3+1<=(fk cx (bq (g.ap .cstr) u) (bq (g.ap .str) u) (n+2+2+3+1)).2:=fq (cg (aq _ _) (aq _ _)) (aq _ _) _
    have Na:(fk cx (bq (g.ap .cstr) u) (bq (g.ap .str) u) (n+2+2+3+1)).2<=(fk cx (bq (g.ap .cnstr) v) (bq (g.ap .nstr) v) (fk cx (bq (g.ap .cstr) u) (bq (g.ap .str) u) (n+2+2+3+1)).2).2:=fq (cg (aq _ _) (aq _ _)) (aq _ _) _
    refine ad ?_
    by_cases Gq:ver<(q:Int)+1
    ·-- a text,or none as an empty one
     have e:cZ fx ver (.str (some (q+1)))=if fx then .cstr else .str:=by
      have:dK (some (q+1)) ver=false:=by simp[dK];omega
      simp only[cZ,this]
      cases fx<;>rfl
     rw[e]at hlim h
     refine dt (ag ?_)
     rw[aa,hw.sv]
     refine bt (b:=true) (q:=(q:Int)+1) (p:=ver) (k:=.i16) (by rw[aa,am (by omega)]) rfl (.inr (.inr (.inl ⟨rfl,by simp;omega⟩))) (wpList_nil ⟨by rw[aa,am (by simp only[ab];omega)],bm (ad (au (aj (wpList_nil ?_))))⟩)
     have Gk:Pv 1 m k0 n a ((((a.put (some n) (.int .i16 ver)).put (some (n+1)) (.bool true)).put (some b) (.string ⟨#[]⟩))):=(((Pv.refl _ _ _ _ _).put _ (by omega)).put _ (by omega)).put _ (by omega)
     have LH:((((a.put (some n) (.int .i16 ver)).put (some (n+1)) (.bool true)).put (some b) (.string ⟨#[]⟩))).get v=y:=by
      rw[ak (by omega),ak (by omega),ak (by omega)];exact hy
     have MH:((((a.put (some n) (.int .i16 ver)).put (some (n+1)) (.bool true)).put (some b) (.string ⟨#[]⟩))).get b=.string ⟨#[]⟩:=am (by simp only[ab];omega)
     show LW P _ (n+2) _ (((a.put (some n) (.int .i16 ver)).put (some (n+1)) (.bool true)).put (some b) (.string ⟨#[]⟩)) w
     have Gv:((((a.put (some n) (.int .i16 ver)).put (some (n+1)) (.bool true)).put (some b) (.string ⟨#[]⟩))).get 1=d:=by
      rw[ak (by omega),ak (by omega),ak (by omega)];exact hw.s1
     generalize(((a.put (some n) (.int .i16 ver)).put (some (n+1)) (.bool true)).put (some b) (.string ⟨#[]⟩))=a1 at Gk LH MH Gv
     have Gu:=Gk.size
     have fin:∀ (a3:Act) (l:Bs),Pv 1 m k0 n a a3->a3.get 1=d->a3.get b=.string ⟨l.toArray⟩->l=vv.octets->l.length<=maxLen->∀ Q',(∀ a' w' d',Pv 1 m k0 n a a'->a'.get 1=d'->Gr L te d w d' (bs++(if fx then PF.cstr else PF.str).wr vv) w'->Q' .normal a' w')->LW P [bB b u,fk cx (bq (g.ap .cstr) u) (bq (g.ap .str) u)] (n+2+2+3) Q' a3 w:=by
      intro a3 l Gt H6 GI Lj MC Q' hQ
      have Hh:=Gt.size
      refine ad (eH (x:=u) (m:=m) (k0:=k0) (.inl rfl) G5 (by omega) (by omega) (by omega) fun a4 GD Ht=>?_)
      have hp4':=GD.x1 hu
      have IP:=GD.size
      have Ku:Pv 1 m k0 n a a4:=Gt.trans (hp4'.mono (Nat.le_refl _) (by omega))
      have PG:WC cx fx ver te L B O d bs a4 w:=hw.step hc Ku (by rw[GD.g1 hu HF];exact H6) (Gr.refl hw.dst)
      have Hn:∀ p:PF,(p=.cstr \/ p=.str)->p.wr (.s l)=p.wr vv:=by
       rintro p (rfl|rfl)<;>simp only[PF.wr,V.octets,Lj]
      have PD:(if fx then PF.cstr else PF.str).wr (.s l)=(if fx then PF.cstr else PF.str).wr vv:=Hn _ (by cases fx<;>simp)
      refine ad (app2 u .cstr .str (.string ⟨l.toArray⟩) [.string ⟨l.toArray⟩] (.s l) (n+2+2+3+1) a4 _ _ PG hu.2 (by omega) (fun hf=>by rcases v4 with h|h;rw[h]at hf;cases hf;exact h) v3 (by rw[Ht,GI]) ⟨by decide,by decide⟩ rfl ⟨l,rfl,rfl,MC⟩ ⟨l,rfl,rfl,MC⟩ (by rw[IP,Hh];omega) (by rw[PD];exact hlim) fun a' w' d' GK h1' GA=>bg (hQ a' w' d' (Ku.trans (GK.mono (Nat.le_refl _) (by omega))) h1' (by rw[<- PD];exact GA)))
     rcases hl with⟨Jq,rfl⟩|⟨l,p,o,Jq,_,Lx,rfl,TH⟩
     ·rw[Jq]at GE
      obtain rfl:Value.pointer none=y:=by simpa using GE
      refine ad (dg (ag (kS (m:=none) IZ (by rw[aa,am (by omega),aa];exact LH) (wpList_nil ⟨by rw[aa,am (by simp only[ab];omega)];rfl,.skip ?_⟩))))
      exact fin _ [] ((Gk.put _ (by omega)).put _ (by omega)) (by rw[ak (by omega),ak (by omega)];exact Gv) (by rw[ak (by omega),ak (by omega)];exact MH) rfl (by simp) _ fun a' w' d' GK h1' GA=>h a' w' d' GK h1' GA
     ·rw[Jq]at GE
      obtain rfl:Value.pointer (some ⟨p,o,none⟩)=y:=by simpa using GE
      refine ad (dt (ag (kS (m:=some ⟨p,o,none⟩) IZ (by rw[aa,am (by omega),aa];exact LH) (wpList_nil ⟨by rw[aa,am (by simp only[ab];omega)];rfl,au (ag ?_)⟩))))
      simp only[aa]
      rw[ak (by omega),ak (by omega),LH]
      refine aL (p:=⟨p,o,none⟩) (by rw[aa,am (by simp only[ab];omega)]) (b5 (p:=⟨p,o,none⟩) (v:=.string ⟨l.toArray⟩) (by rw[aa,am (by simp only[ab];omega)]) (PJ.agg w) Lx (aj (wpList_nil ?_)))
      rw[aa,am (by simp only[ab];omega)]
      exact fin _ l ((((((Gk.put _ (by omega)).put _ (by omega)).put _ (by omega)).put _ (by omega)).put _ (by omega)).put _ (by omega)) (by rw[ak (by omega),ak (by omega),ak (by omega),ak (by omega),ak (by omega),ak (by omega)];exact Gv) (am (by simp only[ab];omega)) rfl TH _ fun a' w' d' GK h1' GA=>h a' w' d' GK h1' GA
    ·-- a text that may be null
     have e:cZ fx ver (.str (some (q+1)))=if fx then .cnstr else .nstr:=by
      have:dK (some (q+1)) ver=true:=by simp[dK];omega
      simp only[cZ,this]
      cases fx<;>rfl
     rw[e]at hlim h
     refine dg (ag ?_)
     rw[aa,hw.sv]
     refine bt (b:=false) (q:=(q:Int)+1) (p:=ver) (k:=.i16) (by rw[aa,am (by omega)]) rfl (.inr (.inr (.inl ⟨rfl,by simp;omega⟩))) (wpList_nil ⟨by rw[aa,am (by simp only[ab];omega)],?_⟩)
     have Gk:Pv 1 m k0 n a ((a.put (some n) (.int .i16 ver)).put (some (n+1)) (.bool false)):=((Pv.refl _ _ _ _ _).put _ (by omega)).put _ (by omega)
     have Jc:WC cx fx ver te L B O d bs ((a.put (some n) (.int .i16 ver)).put (some (n+1)) (.bool false)) w:=hw.step hc Gk (by rw[ak (by omega),ak (by omega)];exact hw.s1) (Gr.refl hw.dst)
     refine app2 v .cnstr .nstr y cs vv _ _ _ _ Jc Hz ?_ (fun hf=>by rcases v2 with h|h;rw[h]at hf;cases hf;exact h) v1 (by rw[ak (by omega),ak (by omega)];exact hy) ⟨by decide,by decide⟩ GE hl hl (by simp only[ab];exact GU) hlim fun a' w' d' GK h1' GA=>h a' w' d' (Gk.trans (GK.mono (Nat.le_refl _) ?_)) h1' GA
     ·show k0<=(fk cx (bq (g.ap .cstr) u) (bq (g.ap .str) u) (n+2+2+3+1)).2
      omega
     ·show n<=(fk cx (bq (g.ap .cstr) u) (bq (g.ap .str) u) (n+2+2+3+1)).2
      omega
 | bytes nul=>
  obtain⟨y,hy,GE⟩:=hv
  obtain rfl:x=[]:=List.eq_nil_of_length_eq_zero (by simpa[vq]using hx)
  cases nul with
  | none=>
   simp only[lU,Bool.and_eq_true,Bool.or_eq_true,Bool.not_eq_true']at hval
   have e:cZ fx ver (.bytes none)=if fx then .cbytes else .bytes:=by cases fx<;>rfl
   rw[e]at hlim h
   exact ad (app2 v .cbytes .bytes y cs vv n a _ _ hw Hz hk (fun hf=>by rcases hval.2 with h|h;rw[h]at hf;cases hf;exact h) hval.1 hy ⟨by decide,by decide⟩ GE hl hl hn hlim h)
  | some q=>
   cases q with
   | zero=>
    simp only[lU,Bool.and_eq_true,Bool.or_eq_true,Bool.not_eq_true']at hval
    have e:cZ fx ver (.bytes (some 0))=if fx then .cnbytes else .nbytes:=by cases fx<;>rfl
    rw[e]at hlim h
    exact ad (app2 v .cnbytes .nbytes y cs vv n a _ _ hw Hz hk (fun hf=>by rcases hval.2 with h|h;rw[h]at hf;cases hf;exact h) hval.1 hy ⟨by decide,by decide⟩ GE hl hl hn hlim h)
   | succ q=>cases hval
 | list _ _ _=>cases hval
 | struct _ _ _=>cases hval
end
section
variable {P:Program} {g:GW} {av:PF->Bool} {fl nl:Bool} {te:Nat} {cx:Cx} {fx:Bool} {ver:Int} {L B O m k0 n:Nat} {d:Value} {bs:Bs} {K N E:Act->World->Prop} {Q:Exit->Act->World->Prop} {a:Act} {w:World}
theorem i7 {w:World}{b F:Nat}{cs:List Value}(hb:w.heap[b]?=some (.cells cs.toArray F (0,0))):ao w b 0 cs:=by
 intro j c hj
 rw[Nat.zero_add]
 simp[World.cell?,hb,hj]
theorem u3 {F n v:Nat}{cs:List Value}{ops:Array Oper}{QQ:Exit->Act->World->Prop}(hV:bd P F true 16)(hz:∀ w,(zeroValue F).run P w=.ok (.agg (Array.replicate 16 (.int .u8 0))) w)(hl:cs.length=16)(h1:∀ u∈cs,u.oneCell'=true)(hn:a.get n=.agg cs.toArray)(Mi:n≠v)(Hz:v<a.tmps.size)
  (h:∀ w',ac (fun _=>False) w w'->ao w' w.heap.size 0 cs->wpList P ops QQ [] (a.put (some v) (pt w.heap.size 0)) w') :
  wpList P ops QQ [mk (some v) (.alloc F),mk none (.store F (tm v) (tm n))] a w:=by
 refine ep (hz w) ?_
 let Z:Obj:=.cells (Value.agg (Array.replicate 16 (.int .u8 0))).cells F (0,0)
 have hb:(w.alloc Z).heap[w.heap.size]?=some Z:=aB w Z
 have IE:(Value.agg (Array.replicate 16 (.int .u8 0))).cells.size=16:=by simp[Value.cells]
 refine bw (g:=w.heap.size) (o:=0) (cur:=(Value.agg (Array.replicate 16 (.int .u8 0))).cells) (t:=F) (v:=.agg cs.toArray) (vs:=cs) (by rw[aa,dA _ _ _ Hz]) (by rw[aa,ge _ _ _ _ Mi];exact hn) rfl (by rw[hl];exact hV.size _) hb (by rw[hl];omega) h1 ?_
 rw[fu (by rw[hl];exact IE.symm)]
 have hk:ac (fun k=>w.heap.size<=k) w ((w.alloc Z).setRow w.heap.size cs.toArray):=(ac.alloc _ _ _).trans (ac.setRow (fun k=>w.heap.size<=k) _ _ _ (Nat.le_refl _))
 refine h _ (hk.mono fun k hk hX=>by omega) ?_
 have Hj:=setRow_heap _ _ _ cs.toArray _ _ hb
 exact i7 Hj
theorem ma {X:Nat->Prop}{cs:List Value}{v:V}(h:iv w X (.prim .uuid) cs v):cs.length=16/\∀ u∈cs,u.oneCell'=true:=by
 obtain⟨l,hl,rfl,_⟩:=h
 exact⟨by rw[List.length_map];exact hl,qt⟩
theorem C2 {ty:Ty}{s v T k F off:Nat}{vv:V}(GL:ty.leaf=true)(hs:a.get s=pt B O)(hF:bp P T k F off ty.agg ty.sz)(hU:fF ty=true->bd P F true 16/\∀ w,(zeroValue F).run P w=.ok (.agg (Array.replicate 16 (.int .u8 0))) w){X:Nat->Prop}(_hX:∀ k,¬ X k->k<w.heap.size->True)
  (hr:Rp w X ty B (O+off) vv) (hv:m<=v/\v<k0) (hm:m<=k0) (hk:k0<=n) (hn:n+4<=a.tmps.size) (h1:1<m)
  (h:∀ a' w' cs,Pv 1 m k0 n a a'->a'.get 1=a.get 1->ac (fun _=>False) w w'->jV w' a' ty v cs->iv w' X ty cs vv->K a' w'):aQ P (iq ty s v T k F n).1 (Exit.then K Q) a w:=by
 have GE:∃ cs,ao w B (O+off) cs/\iv w X ty cs vv:=by
  cases ty with
  | prim p=>exact hr
  | str q=>exact hr
  | bytes q=>exact hr
  | list _ _ _=>cases GL
  | struct _ _ _=>cases GL
 obtain⟨cs,hc,hl⟩:=GE
 by_cases hu:fF ty=true
 ·obtain rfl:ty=.prim .uuid:=by
   cases ty with
   | prim p=>cases p<;>first|rfl|cases hu
   | _=>cases hu
  obtain⟨hV,hz⟩:=hU rfl
  obtain⟨Gp,GG⟩:=ma hl
  show aQ P (ia s v T k F n).1 (Exit.then K Q) a w
  refine au (ag ?_)
  rw[aa,hs]
  refine aL (by rw[aa,am (by omega)];rfl) ?_
  refine bR (by rw[aa,am (by simp only[ab];omega)]) hF ?_
  refine fo (b:=B) (o:=O+off) (cs:=cs) (by rw[aa,am (by simp only[ab];omega)]) (hF.var.agg w) (by rw[Gp];exact hF.var.size w) hc ?_
  refine u3 hV hz Gp GG (am (by simp only[ab];omega)) (by omega) (by simp only[ab];omega) fun w' H5 Pb=>wpList_nil (h _ w' cs ?_ ?_ H5 ?_ (hl.keep (H5.mono fun _ _ h=>h.elim)))
  ·exact(((((Pv.refl _ _ _ _ _).put _ (by omega)).put _ (by omega)).put _ (by omega)).put _ (by omega)).put _ (by omega)
  ·rw[ak (by omega),ak (by omega),ak (by omega),ak (by omega),ak (by omega)]
  ·exact⟨w.heap.size,am (by simp only[ab];omega),Pb⟩
 ·have Lp:fF ty=false:=by simpa using hu
  have GG:∃ y,cs=[y]:=by
   have Gp:=hl.len
   have:ty.sz=1:=by
    cases ty with
    | prim p=>cases p<;>first|rfl|exact absurd rfl hu
    | str _=>rfl
    | bytes _=>rfl
    | list _ _ _=>rfl
    | struct _ _ _=>cases GL
   rw[this]at Gp
   exact List.length_eq_one_iff.1 Gp
  obtain⟨y,rfl⟩:=GG
  have Jy:ty.agg=false/\ty.sz=1:=by
   cases ty with
   | prim p=>cases p<;>first|exact⟨rfl,rfl⟩|exact absurd rfl hu
   | str _=>exact⟨rfl,rfl⟩
   | bytes _=>exact⟨rfl,rfl⟩
   | list _ _ _=>cases GL
   | struct _ _ _=>cases GL
  rw[Jy.1,Jy.2]at hF
  unfold iq
  rw[Lp]
  simp only[Bool.false_eq_true,if_false]
  refine im (x:=v) (m:=m) (k0:=k0) hs hF (hc 0 y rfl) (.inl rfl) hm hk hn (by omega) fun a' hp hg=>h a' w [y] (hp.x1 hv) (hp.g1 hv h1) (ac.refl _ _) ?_ hl
  simp only[jV,Lp,Bool.false_eq_true,if_false]
  exact⟨y,hg,rfl⟩
theorem C1 {ty:Ty}{v i e F E' p q cnt c j:Nat}{vv:V}(GL:ty.leaf=true)(hy:a.get v=.slice (some ⟨p,q,none⟩) cnt c)(hi:a.get i=.int .i64 j)(hj:j<cnt)(hF:P.underlying F=some (.slice E'))(hE:bd P E' ty.agg ty.sz)(hU:fF ty=true->bd P E' true 16/\∀ w,(zeroValue E').run P w=.ok (.agg (Array.replicate 16 (.int .u8 0))) w){X:Nat->Prop}
  (hr:Rp w X ty p (q+j*ty.sz) vv) (hv:m<=e/\e<k0) (_hvn:v<n) (P4:i<n) (_hm:m<=k0) (hk:k0<=n) (hn:n+4<=a.tmps.size) (h1:1<m)
  (h:∀ a' w' cs,Pv 1 m k0 n a a'->a'.get 1=a.get 1->ac (fun _=>False) w w'->jV w' a' ty e cs->iv w' X ty cs vv->K a' w'):aQ P (jN ty v i e F E' n).1 (Exit.then K Q) a w:=by
 have GE:∃ cs,ao w p (q+j*ty.sz) cs/\iv w X ty cs vv:=by
  cases ty with
  | prim p=>exact hr
  | str q=>exact hr
  | bytes q=>exact hr
  | list _ _ _=>cases GL
  | struct _ _ _=>cases GL
 obtain⟨cs,hc,hl⟩:=GE
 by_cases hu:fF ty=true
 ·obtain rfl:ty=.prim .uuid:=by
   cases ty with
   | prim p=>cases p<;>first|rfl|cases hu
   | _=>cases hu
  obtain⟨hV,hz⟩:=hU rfl
  obtain⟨Gp,GG⟩:=ma hl
  show aQ P (zB v i e F E' n).1 (Exit.then K Q) a w
  refine au (ag (ag ?_))
  rw[aa,hy,aa,ak (by omega),hi]
  refine cz (b:=p) (o:=q) (n:=cnt) (c:=c) (i:=j) (k:=.i64) (by rw[aa,ak (by omega),am (by omega)]) (by rw[aa,am (by simp only[ab];omega)]) hj hF (hE.size w) ?_
  refine fo (b:=p) (o:=q+j*Ty.sz (.prim .uuid)) (cs:=cs) (by rw[aa,am (by simp only[ab];omega)]) (hE.agg w) (by rw[Gp];exact hE.size w) hc ?_
  refine u3 hV hz Gp GG (am (by simp only[ab];omega)) (by omega) (by simp only[ab];omega) fun w' H5 Pb=>wpList_nil (h _ w' cs ?_ ?_ H5 ?_ (hl.keep (H5.mono fun _ _ h=>h.elim)))
  ·exact(((((Pv.refl _ _ _ _ _).put _ (by omega)).put _ (by omega)).put _ (by omega)).put _ (by omega)).put _ (by omega)
  ·rw[ak (by omega),ak (by omega),ak (by omega),ak (by omega),ak (by omega)]
  ·exact⟨w.heap.size,am (by simp only[ab];omega),Pb⟩
 ·have Lp:fF ty=false:=by simpa using hu
  have Jy:ty.agg=false/\ty.sz=1:=by
   cases ty with
   | prim p=>cases p<;>first|exact⟨rfl,rfl⟩|exact absurd rfl hu
   | str _=>exact⟨rfl,rfl⟩
   | bytes _=>exact⟨rfl,rfl⟩
   | list _ _ _=>cases GL
   | struct _ _ _=>cases GL
  have GG:∃ y,cs=[y]:=by
   have Gp:=hl.len
   rw[Jy.2]at Gp
   exact List.length_eq_one_iff.1 Gp
  obtain⟨y,rfl⟩:=GG
  rw[Jy.1,Jy.2]at hE
  unfold jN
  rw[Lp]
  simp only[Bool.false_eq_true,if_false]
  refine au (ag (ag ?_))
  rw[aa,hy,aa,ak (by omega),hi]
  refine cz (b:=p) (o:=q) (n:=cnt) (c:=c) (i:=j) (k:=.i64) (by rw[aa,ak (by omega),am (by omega)]) (by rw[aa,am (by simp only[ab];omega)]) hj hF (hE.size w) ?_
  refine b5 (v:=y) (by rw[aa,am (by simp only[ab];omega)]) (hE.agg w) (by have:=hc 0 y rfl;rw[Jy.2]at this;exact this) ?_
  refine aj (wpList_nil (h _ w [y] ?_ ?_ (ac.refl _ _) ?_ hl))
  ·exact(((((Pv.refl _ _ _ _ _).put _ (by omega)).put _ (by omega)).put _ (by omega)).put _ (by omega)).put _ (by omega)
  ·rw[ak (by omega),ak (by omega),ak (by omega),ak (by omega),ak (by omega)]
  ·simp only[jV,Lp,Bool.false_eq_true,if_false]
   exact⟨y,by rw[am (by simp only[ab];omega),aa,am (by simp only[ab];omega)],rfl⟩
theorem sQ {v i e F E' p q cnt c j sz:Nat}(hy:a.get v=.slice (some ⟨p,q,none⟩) cnt c)(hi:a.get i=.int .i64 j)(hj:j<cnt)(hF:P.underlying F=some (.slice E'))(hE:∀ w,(sizeOf E').run P w=.ok sz w)
  (hv:m<=e/\e<k0) (_hvn:v<n) (P4:i<n) (_hm:m<=k0) (hk:k0<=n) (hn:n+3<=a.tmps.size) (h1:1<m)
  (h:∀ a',Pv 1 m k0 n a a'->a'.get 1=a.get 1->a'.get e=pt p (q+j*sz)->K a' w):aQ P (ea v i e F n).1 (Exit.then K Q) a w:=by
 refine au (ag (ag ?_))
 rw[aa,hy,aa,ak (by omega),hi]
 refine cz (b:=p) (o:=q) (n:=cnt) (c:=c) (i:=j) (k:=.i64) (by rw[aa,ak (by omega),am (by omega)]) (by rw[aa,am (by simp only[ab];omega)]) hj hF (hE w) ?_
 refine aj (wpList_nil (h _ ?_ ?_ ?_))
 ·exact((((Pv.refl _ _ _ _ _).put _ (by omega)).put _ (by omega)).put _ (by omega)).put _ (by omega)
 ·rw[ak (by omega),ak (by omega),ak (by omega),ak (by omega)]
 ·rw[am (by simp only[ab];omega),aa,am (by simp only[ab];omega)];rfl
theorem uN (K0:KW P g av fl nl te){c:Nat}(hc:c<256)(h1:a.get 1=d)(hd:aH w L te d bs)(hL:L<=w.heap.size)(hlim:bs.length+1<=d7)(hm:m<=k0)(hk:k0<=n)(HF:1<n)(hn:n+3<=a.tmps.size)
  (h:∀ a' w' d',Pv 1 m k0 n a a'->a'.get 1=d'->Gr L te d w d' (bs++[UInt8.ofNat c]) w'->K a' w'):aQ P (gb g c n).1 (Exit.then K Q) a w:=by
 refine au (ag ?_)
 rw[aa,h1]
 have ho:bF (UInt8.ofNat c)=.int .u8 (c:Int):=by simp[bF];omega
 refine iB (l:=[UInt8.ofNat c]) K0.oct ?_ (by simp) (by simp) ?_
 ·simp only[List.map_cons,List.map_nil,ho,uV]
  rfl
 have H5:ac (fun _=>False) w (w.alloc (.cells ([UInt8.ofNat c].map bF).toArray te (0,0))):=ac.alloc _ _ _
 have KN:fP (w.alloc (.cells ([UInt8.ofNat c].map bF).toArray te (0,0))) w.heap.size 0 [UInt8.ofNat c]:=by
  intro j b hj
  have:=aB w (.cells ([UInt8.ofNat c].map bF).toArray te (0,0))
  simp only[World.cell?,this,Nat.zero_add,List.getElem?_toArray,List.getElem?_map,hj]
  rfl
 refine gQ K0.oct (d:=d) (L:=L) (bs:=bs) (l:=[UInt8.ofNat c]) ?_ (x:=.slice (some ⟨w.heap.size,0,none⟩) 1 1) ?_ (hd.keep H5 fun _ _ h=>h) (lp K0.oct KN) (by have:=H5.size;omega) hlim fun d' w' hg=>?_
 ·rw[aa,ak (by omega),am (by omega)]
 ·rw[aa,am (by rw[ab];omega)]
  rfl
 refine aj (wpList_nil (h _ w' d' ?_ ?_ (Gr.pre H5 (fun _ _ h=>h) hg)))
 ·exact((((Pv.refl _ _ _ _ _).put _ (by omega)).put _ (by omega)).put _ (by omega)).put _ (.inl rfl)
 ·rw[am (by simp only[ab];omega),aa,am (by simp only[ab];omega)]
end
section
variable {P:Program} {K:Kn}
theorem oH {ops:Array Oper}{Q:Exit->Act->World->Prop}{r:List Oper}{a:Act}{w:World}{d:Option Nat}{y:Operand}{T ty n:Nat}(h1:(execOp a.eval (bi d .len [y] [T] ty)).run P w=.ok (.value (.int .i64 n)) w)
  (h:wpList P ops Q r (a.put d (.int .i64 n)) w):wpList P ops Q (bi d .len [y] [T] ty::r) a w:=by
 refine wpList_plain rfl fun _ hK=>?_
 unfold Oper.wp
 rw[h1]
 exact hK _ _ h
structure Dr (P:Program)(tX:Nat)(x:Value)(l:Bs)(L:Nat)(w:World):Prop where
 len:∀ (a:Act) (w:World) (d:Option Nat) (y:Operand) (ty:Nat),a.eval y=x->(execOp a.eval (bi d .len [y] [tX] ty)).run P w=.ok (.value (.int .i64 l.length)) w
 src:∀ w',ac (fun k=>L<=k) w w'->Src P 1 tX x l.length (l.map bF) w'
theorem uC {tX:Nat}(hT:P.underlying tX=some .string)(l:Bs)(L:Nat)(w:World):Dr P tX (.string ⟨l.toArray⟩) l L w:=
 ⟨fun a w d y ty hy=>by
  have G0:ByteArray.size ⟨l.toArray⟩=l.length:=List.size_toArray
  simp[execOp,bi,resolve,invoke,hy,builtin,Builtin.len_,run_underlying hT,goInt,G0],fun w' _=>AD hT w' l⟩
theorem vn (wt:WT P K){tX:Nat}{x:Value}{l bs:Bs}{L n:Nat}{d:Value}{N E:Act->World->Prop}{a:Act}{w:World}(hx:Src P 1 tX x l.length (l.map bF) w)(h0:a.get 0=d)(h1:a.get 1=x)(hn:4<n)(hs:n+3<=a.tmps.size)(hd:aH w L K.tU8 d bs)(hL:L<=w.heap.size)
  (hlim:bs.length+l.length<=d7) (h:∀ a' w' d',a'.defers=a.defers->a'.get 4=d'->Gr L K.tU8 d w d' (bs++l) w'->E a' w'):LW P (q9 K tX) n (Rt N E) a w:=by
 refine ad (au (ag (ag ?_)))
 refine gQ wt.oct (d:=d) (x:=x) ?_ ?_ hd hx hL hlim fun d' w' hg=>?_
 ·rw[aa,ak (by omega),am (by omega)];exact h0
 ·rw[aa,am (by simp only[ab];omega),aa,ak (by omega)];exact h1
 refine aj (wpList_nil (ad (.ret ?_)))
 exact h _ w' d' (by simp only[ai]) (by rw[am (by simp only[ab];omega),aa,am (by simp only[ab];omega)]) hg
theorem Dn (wt:WT P K){f f2 ntmps tX tI L:Nat}{kI:IntKind}{x:Value}{l enc:Bs}{w:World}(hI:P.underlying tI=some (.int kI))(hx:Dr P tX x l L w)(hE:Ent P f2)(hc:ApC P K.tU8 f2 (.int kI (kI.wrap l.length)) enc w)(hfn:FnIs P f ntmps [4] (cAStr K tX tI f2))(G8:13<=ntmps) :
  Bt P K.tU8 f x (enc++l) w L:=by
 intro d bs hd hL hlim
 rw[List.length_append]at hlim
 refine kh wt.mixed hfn (by omega) fun a h0 h1 hs GS=>?_
 refine ad (au (ag (ag ?_)))
 refine oH (hx.len _ _ _ _ _ (by rw[aa,am (by simp only[ab];omega),aa,ak (by omega)];exact h1)) ?_
 refine aT (k:=.i64) (k':=kI) (m:=l.length) (by rw[aa,am (by simp only[ab];omega)]) wt.dInt hI ?_
 refine dR hE ?_ (hc L) hd hL (by omega) (by simp only[ab];omega) fun w1 d1 hg=>wpList_nil ?_
 ·simp only[List.map_cons,List.map_nil,aa]
  rw[ak (by omega),ak (by omega),ak (by omega),am (by omega),am (by simp only[ab];omega),h0]
 refine vn wt (x:=x) (l:=l) (d:=d1) (hx.src w1 (Gr.far hd hg)) ?_ ?_ (by show 4<5+5;omega) (by simp only[ab];show 5+5+3<=_;omega) hg.dst (Nat.le_trans hL hg.keeps.size) (by rw[List.length_append];omega) fun a' w' d' hd' h4 GA=>⟨?_,zD h4 ?_⟩
 ·rw[am (by simp only[ab];omega)]
 ·rw[ak (by omega),ak (by omega),ak (by omega),ak (by omega),ak (by omega),ak (by omega)];exact h1
 ·rw[hd'];simp only[ai];exact GS
 ·rw[<- List.append_assoc];exact hg.trans GA
theorem Bo (wt:WT P K){f f2 ntmps tX L:Nat}{x:Value}{l:Bs}{w:World}(hx:Dr P tX x l L w)(hE:Ent P f2)(hc:∀ x w,x<4294967296->ApC P K.tU8 f2 (.int .u32 (x:Nat)) (uvar x) w)(hfn:FnIs P f ntmps [4] (cACStr K tX f2))(G8:14<=ntmps) :
  Bt P K.tU8 f x (uvar (dL (l.length+1))++l) w L:=by
 intro d bs hd hL hlim
 rw[List.length_append]at hlim
 refine kh wt.mixed hfn (by omega) fun a h0 h1 hs GS=>?_
 refine ad (au (ag (ag ?_)))
 refine oH (hx.len _ _ _ _ _ (by rw[aa,am (by simp only[ab];omega),aa,ak (by omega)];exact h1)) ?_
 refine aT (k:=.i64) (k':=.u32) (m:=l.length) (by rw[aa,am (by simp only[ab];omega)]) wt.dInt wt.dU32 ?_
 refine cE (k:=.u32) (m:=1) (n:=IntKind.u32.wrap l.length) rfl (by rw[aa,am (by simp only[ab];omega)]) (by simp) (ka w) ?_
 rw[rj]
 refine dR hE ?_ (hc (dL (l.length+1)) w (lM _) L) hd hL (by omega) (by simp only[ab];omega) fun w1 d1 hg=>wpList_nil ?_
 ·simp only[List.map_cons,List.map_nil,aa]
  rw[ak (by omega),ak (by omega),ak (by omega),ak (by omega),am (by omega),am (by simp only[ab];omega),h0]
 refine vn wt (x:=x) (l:=l) (d:=d1) (hx.src w1 (Gr.far hd hg)) ?_ ?_ (by show 4<5+6;omega) (by simp only[ab];show 5+6+3<=_;omega) hg.dst (Nat.le_trans hL hg.keeps.size) (by rw[List.length_append];omega) fun a' w' d' hd' h4 GA=>⟨?_,zD h4 ?_⟩
 ·rw[am (by simp only[ab];omega)]
 ·rw[ak (by omega),ak (by omega),ak (by omega),ak (by omega),ak (by omega),ak (by omega),ak (by omega)];exact h1
 ·rw[hd'];simp only[ai];exact GS
 ·rw[<- List.append_assoc];exact hg.trans GA
end
section
variable {P:Program} {g:GW} {av:PF->Bool} {fl nl:Bool} {te:Nat} {cx:Cx} {fx:Bool} {ver:Int} {L B O m k0 n:Nat} {d:Value} {bs:Bs} {K N E:Act->World->Prop} {Q:Exit->Act->World->Prop} {a:Act} {w:World}
theorem uM {f v F E' len c:Nat}{base:Option Addr}{enc:Bs}(hE:Ent P f)(hc:ApC P te f (.int .i64 len) enc w)(h1:a.get 1=d)(hv:a.get v=.slice base len c)(hF:P.underlying F=some (.slice E'))(NZ:v<n)(hd:aH w L te d bs)(hL:L<=w.heap.size)(hlim:bs.length+enc.length<=d7)(hm:m<=k0)(hk:k0<=n)(_h1m:1<n)(hn:n+4<=a.tmps.size)
  (h:∀ a' w' d',Pv 1 m k0 n a a'->a'.get 1=d'->Gr L te d w d' (bs++enc) w'->K a' w'):aQ P (od g f v F n).1 (Exit.then K Q) a w:=by
 refine au (ag (ag (en (base:=base) (n:=len) (c:=c) (by rw[aa,am (by simp only[ab];omega),aa,ak (by omega)];exact hv) hF ?_)))
 refine dR hE ?_ (hc L) hd hL hlim (by simp only[ab];omega) fun w' d' hg=>wpList_nil (h _ w' d' ?_ (am (by simp only[ab];omega)) hg)
 ·simp only[List.map_cons,List.map_nil,aa]
  rw[ak (by omega),ak (by omega),am (by omega),am (by simp only[ab];omega),h1]
 ·exact(((((Pv.refl _ _ _ _ _).put _ (by omega)).put _ (by omega)).put _ (by omega)).put _ (by omega)).put _ (.inl rfl)
theorem uL {f v F E' len c:Nat}{base:Option Addr}{enc:Bs}(hE:Ent P f)(hc:Calls P f #[d,.int .i64 len,.bool base.isNone] w fun e w'=>∃ d',e=.returned d'/\Gr L te d w d' (bs++enc) w')(h1:a.get 1=d)(hv:a.get v=.slice base len c)(hF:P.underlying F=some (.slice E'))(NZ:v<n)(hm:m<=k0)(hk:k0<=n)(_h1m:1<n)(hn:n+6<=a.tmps.size)
  (h:∀ a' w' d',Pv 1 m k0 n a a'->a'.get 1=d'->Gr L te d w d' (bs++enc) w'->K a' w'):aQ P (oc g f v F n).1 (Exit.then K Q) a w:=by
 refine au (ag (ag (en (base:=base) (n:=len) (c:=c) (by rw[aa,am (by simp only[ab];omega),aa,ak (by omega)];exact hv) hF (ag ?_))))
 refine xt (m:=base) (n:=len) (c:=c) hF (by rw[aa,am (by simp only[ab];omega),aa,ak (by omega),ak (by omega),ak (by omega)];exact hv) ?_
 refine aR (vs:=#[d,.int .i64 len,.bool base.isNone]) hE ?_ hc fun e w' hR=>?_
 ·simp only[List.map_cons,List.map_nil,aa]
  rw[ak (by omega),ak (by omega),ak (by omega),ak (by omega),am (by omega),ak (by omega),ak (by omega),am (by simp only[ab];omega),am (by simp only[ab];omega),h1]
 obtain⟨d',he,hg⟩:=hR
 refine⟨d',he,aj (wpList_nil (h _ w' d' ?_ ?_ hg))⟩
 ·exact(((((((Pv.refl _ _ _ _ _).put _ (by omega)).put _ (by omega)).put _ (by omega)).put _ (by omega)).put _ (by omega)).put _ (by omega)).put _ (.inl rfl)
 ·rw[am (by simp only[ab];omega),aa,am (by simp only[ab];omega)]
theorem C0 (K0:KW P g av fl nl te){nul:Option Nat}{v F E' len c:Nat}{base:Option Addr}(Hi:nul.isSome=true->nl=true)(JH:nul.isSome=false->l5 g cx.hf=true)(Gw:cx.hf=true->fl=true)(hw:WC cx fx ver te L B O d bs a w)(hc:mU cx m k0)(hv:a.get v=.slice base len c)(hF:P.underlying F=some (.slice E'))(NZ:v<k0)(hk:k0<=n)(hn:(fG g cx nul v F n).2<=a.tmps.size)
  (hlim:bs.length+(if nul.isSome&&base.isNone then dp fx 4 else iP fx len).length<=d7)
  (h:∀ a' w' d',Pv 1 m k0 n a a'->a'.get 1=d'->Gr L te d w d' (bs++(if nul.isSome&&base.isNone then dp fx 4 else iP fx len)) w'->K a' w'):aQ P (fG g cx nul v F n).1 (Exit.then K Q) a w:=by
 have G5:=hc.le
 have HF:=hc.one
 have HN:fx=true->cx.hf=true:=fun h=>by
  cases hh:cx.hf with
  | true=>rfl
  | false=>rw[hw.nf hh]at h;cases h
 cases nul with
 | none=>
  have JH:=JH rfl
  simp only[l5,Bool.and_eq_true,Bool.or_eq_true,Bool.not_eq_true']at JH
  simp only[Option.isSome_none,Bool.false_and,Bool.false_eq_true,if_false]at hlim h
  have GU:(fk cx (od g g.calen v F) (od g g.alen v F) n).2<=a.tmps.size:=hn
  have If:n<a.tmps.size:=by
   unfold fk at GU
   split at GU
   ·have:n+1+4+4<=a.tmps.size:=GU
    omega
   ·have:n+4<=a.tmps.size:=GU
    omega
  refine xV (aq _ _) (aq _ _) hw hc hk GU If fun a1 n1 Gk Gv Gz MA G0=>?_
  have Gu:=Gk.size
  have Iu:a1.get v=.slice base len c:=by rw[Gz v (by omega)];exact hv
  cases fx with
  | true=>
   simp only[if_true]at G0 ⊢
   have hsz':n1+4<=a.tmps.size:=G0
   exact uM (K0.clE (Gw (HN rfl)) (JH.2.resolve_left (by rw[HN rfl];simp))) (K0.clC (Gw (HN rfl)) (JH.2.resolve_left (by rw[HN rfl];simp)) len w) Gv Iu hF (by omega) hw.dst hw.Lw hlim G5 (by omega) (by omega) (by omega) fun a' w' d' GK h1' GA=>h a' w' d' (Gk.trans (GK.mono (Nat.le_refl _) MA)) h1' GA
  | false=>
   simp only[Bool.false_eq_true,if_false]at G0 ⊢
   have hsz':n1+4<=a.tmps.size:=G0
   exact uM (K0.alE JH.1) (K0.alC JH.1 len w) Gv Iu hF (by omega) hw.dst hw.Lw hlim G5 (by omega) (by omega) (by omega) fun a' w' d' GK h1' GA=>h a' w' d' (Gk.trans (GK.mono (Nat.le_refl _) MA)) h1' GA
 | some q=>
  simp only[Option.isSome_some,Bool.true_and]at hlim h
  have hnl':=Hi rfl
  have GU:(fk cx (oc g g.cnalen v F) (oc g g.nalen v F) n).2<=a.tmps.size:=hn
  have If:n<a.tmps.size:=by
   unfold fk at GU
   split at GU
   ·have:n+1+6+6<=a.tmps.size:=GU
    omega
   ·have:n+6<=a.tmps.size:=GU
    omega
  refine xV (aq _ _) (aq _ _) hw hc hk GU If fun a1 n1 Gk Gv Gz MA G0=>?_
  have Gu:=Gk.size
  have Iu:a1.get v=.slice base len c:=by rw[Gz v (by omega)];exact hv
  cases fx with
  | true=>
   simp only[if_true]at G0 ⊢
   have hsz':n1+6<=a.tmps.size:=G0
   exact uL (K0.cnE hnl' (Gw (HN rfl))) (K0.cnC hnl' (Gw (HN rfl)) len base.isNone w L d bs hw.dst hw.Lw hlim) Gv Iu hF (by omega) G5 (by omega) (by omega) (by omega) fun a' w' d' GK h1' GA=>h a' w' d' (Gk.trans (GK.mono (Nat.le_refl _) MA)) h1' GA
  | false=>
   simp only[Bool.false_eq_true,if_false]at G0 ⊢
   have hsz':n1+6<=a.tmps.size:=G0
   exact uL (K0.nlE hnl') (K0.nlC hnl' len base.isNone w L d bs hw.dst hw.Lw hlim) Gv Iu hF (by omega) G5 (by omega) (by omega) (by omega) fun a' w' d' GK h1' GA=>h a' w' d' (Gk.trans (GK.mono (Nat.le_refl _) MA)) h1' GA
theorem AE (K0:KW P g av fl nl te){T kt _off F sz:Nat}{agg:Bool}{t:List (Nat × Bs)}{toff:Option Nat}{rest:List GC}(Gw:cx.hf=true->fl=true)(hw:WC cx fx ver te L B O d bs a w)(hc:mU cx m k0)(hk:k0<=n)(hn:(gL (gJ g cx T kt) n).2<=a.tmps.size)
  (Im:match toff with|some o=>cx.hf=true/\bp P T kt F o agg sz|none=>cx.hf=false) (ht:eJ w (fun k=>L<=k) B O toff t) (hlim:bs.length+(bZ fx t).length<=d7)
  (h:∀ a' w' d',Pv 1 m k0 n a a'->a'.get 1=d'->Gr L te d w d' (bs++bZ fx t) w'->LW P rest (gL (gJ g cx T kt) n).2 Q a' w'):LW P (gJ g cx T kt++rest) n Q a w:=by
 have G5:=hc.le
 have HF:=hc.one
 have Lr:=hc.s
 cases toff with
 | none=>
  have hf:cx.hf=false:=Im
  have HN:=hw.nf hf
  subst HN
  obtain rfl:t=[]:=ht
  have e:gJ g cx T kt=[]:=by simp[gJ,hf]
  rw[e]at hn h ⊢
  exact h a w d (Pv.refl _ _ _ _ _) hw.s1 (by simpa[bZ]using Gr.refl hw.dst)
 | some o=>
  obtain⟨hf,hF⟩:=Im
  obtain⟨mm,IQ,Hv⟩:=ht
  have hfl':=Gw hf
  have e:gJ g cx T kt=[ix cx (gS [nZ g cx.s T kt,eC g cx.s T kt]) b6]:=by simp[gJ,hf]
  rw[e]at hn h ⊢
  have hn':n+1+8+5<=a.tmps.size:=hn
  refine ad (o8 (x:=n) (m:=m) (k0:=k0) (hw.sf hf) G5 hk (by omega) fun a1 Gk=>?_)
  have hp1':Pv 1 m k0 n a a1:=⟨Gk.size,Gk.defers,fun s hs G9=>Gk.get s (by omega) G9⟩
  have Gu:=Gk.size
  have Gv:a1.get 1=d:=by rw[Gk.get 1 (by omega) (.inl HF)];exact hw.s1
  have LC:a1.get cx.s=pt B O:=by rw[Gk.get _ (by omega) (.inl Lr.1)];exact hw.ss
  cases fx with
  | false=>
   simp only[Bool.false_eq_true,if_false]
   exact .skip (h a1 w d hp1' Gv (by simpa[bZ]using Gr.refl hw.dst))
  | true=>
   simp only[if_true]
   have Gp:(bZ true t).length=(uvar (dL t.length)).length+(bn t).length:=by simp[bZ]
   rw[Gp]at hlim
   refine bm (ad (au (ag (ag ?_))))
   rw[aa,Gv,aa,ak (by omega),LC]
   refine aL (by rw[aa,am (by simp only[ab];omega)];rfl) ?_
   refine bR (by rw[aa,am (by simp only[ab];omega)]) hF ?_
   refine aR (vs:=#[pt B (O+o)]) (K0.tlE hfl') ?_ (K0.tlC hfl' w B (O+o) mm _ t IQ Hv) fun e2 w2 hR=>⟨_,hR.1,?_⟩
   ·simp only[List.map_cons,List.map_nil,aa]
    rw[am (by simp only[ab];omega)]
    rfl
   have Gs:=hR.2
   refine aT (k:=.i64) (k':=.u32) (m:=t.length) (by rw[aa,am (by simp only[ab];omega)]) K0.dInt (K0.dU32 hfl') ?_
   refine cE (k:=.u32) (m:=0) (n:=IntKind.u32.wrap t.length) rfl (by rw[aa,am (by simp only[ab];omega)]) (by simp) (ka w2) ?_
   have Hn:IntKind.u32.wrap (0+IntKind.u32.wrap (t.length:Int))=(dL t.length:Nat):=by simp[IntKind.wrap,IntKind.bits,IntKind.signed,dL]
   rw[Hn]
   refine dR (K0.uvE hfl') ?_ (K0.uvC hfl' (dL t.length) w2 (lM _) L) (hw.dst.keep Gs fun _ _ h=>h) (Nat.le_trans hw.Lw Gs.size) (by omega) (by simp only[ab];omega) fun w3 d3 GI=>wpList_nil ?_
   ·simp only[List.map_cons,List.map_nil,aa]
    rw[ak (by omega),ak (by omega),ak (by omega),ak (by omega),ak (by omega),ak (by omega),am (by omega),am (by simp only[ab];omega)]
   have HV:Gr L te d w d3 (bs++uvar (dL t.length)) w3:=Gr.pre Gs (fun _ _ h=>h) GI
   have Ho:=Gr.far hw.dst HV
   have KO:w3.cell? ⟨B,O+o,none⟩=some mm:=Ho.cell (by have:=hw.BL;omega) IQ
   have J6:=Hv.keep Ho
   have key:∀ (a2:Act),Pv 1 m k0 n a a2->a2.get 1=d3->a2.get cx.s=pt B O->LW P [eC g cx.s T kt] (n+1+8) (Exit.then (LW P rest (gL [ix cx (gS [nZ g cx.s T kt,eC g cx.s T kt]) b6] n).2 Q) Q) a2 w3:=by
    intro a2 Gm G2 LY
    have G9:=Gm.size
    refine ad (au (ag ?_))
    rw[aa,LY]
    refine aL (by rw[aa,am (by omega)];rfl) ?_
    refine bR (by rw[aa,am (by simp only[ab];omega)]) hF (ag ?_)
    rw[aa,ak (by omega),ak (by omega),ak (by omega),G2]
    refine aR (vs:=#[pt B (O+o),d3]) (K0.teE hfl') ?_ (K0.teC hfl' w3 B (O+o) mm L t d3 _ KO (HV.dst.away hw.BL (Nat.le_trans hw.Lw HV.keeps.size)) J6 HV.dst (Nat.le_trans hw.Lw HV.keeps.size) (by rw[List.length_append];omega)) fun e4 w4 hR4=>?_
    ·simp only[List.map_cons,List.map_nil,aa]
     rw[ak (by omega),am (by simp only[ab];omega),am (by simp only[ab];omega)]
     rfl
    obtain⟨d4,QZ,Ht⟩:=hR4
    refine⟨d4,QZ,aj (wpList_nil (bg (h _ w4 d4 ?_ ?_ ?_)))⟩
    ·exact Gm.trans ((((((Pv.refl _ _ _ _ _).put _ (by omega)).put _ (by omega)).put _ (by omega)).put _ (by omega)).put _ (by omega) |>.put _ (.inl rfl))
    ·rw[am (by simp only[ab];omega),aa,am (by simp only[ab];omega)]
    ·have:=HV.trans Ht
     simpa[bZ,List.append_assoc]using this
   refine key _ ?_ (am (by simp only[ab];omega)) ?_
   ·exact hp1'.trans (((((((((Pv.refl _ _ _ _ _).put _ (by omega)).put _ (by omega)).put _ (by omega)).put _ (by omega)).put _ (by omega)).put _ (by omega)).put _ (by omega)).put _ (by omega) |>.put _ (.inl rfl))
   ·have hs1':=Lr.1
    have hs2':=Lr.2
    rw[ak (by omega),ak (by omega),ak (by omega),ak (by omega),ak (by omega),ak (by omega),ak (by omega),ak (by omega),ak (by omega)];exact LC
end
def lW (k:Nat):Value:=.int .u32 (k:Int)
structure Ds (P:Program)(tKs tU:Nat):Prop where
 sl:P.underlying tKs=some (.slice tU)
 info:∃ i z,P.info? tU=some i/\i.zero=some z/\i.size=1/\i.bytes=4/\z.cells.size=1
 vU:bd P tU false 1
 dU:P.underlying tU=some (.int .u32)
def jr (w:World)(L tU:Nat)(v:Value)(ks:List Nat):Prop:=
 (v=.slice none 0 0/\ks=[]) \/ ∃ (g c:Nat) (cur:Array Value),v=.slice (some ⟨g,0,none⟩) ks.length c/\L<=g/\w.heap[g]?=some (.cells cur tU (0,0))/\ks.length<=c/\c<=maxLen/\c<=cur.size/\∀ (j k:Nat),ks[j]?=some k->cur[j]?=some (lW k)
section
variable {P:Program} {tKs tU L:Nat} {v:Value} {ks:List Nat} {w w':World}
theorem jr.own (h:jr w L tU v ks){j:Nat}(hj:v.ownBlock=some j):L<=j/\j<w.heap.size:=by
 rcases h with⟨rfl,_⟩|⟨g,c,cur,rfl,h1,h2,_⟩
 ·simp[Value.ownBlock]at hj
 ·simp only[Value.ownBlock,Option.some.injEq]at hj
  subst hj
  exact⟨h1,(Array.getElem?_eq_some_iff.1 h2).1⟩
theorem jr.keep {X:Nat->Prop}(h:jr w L tU v ks)(hk:ac X w w')(hx:∀ j,v.ownBlock=some j->¬ X j):jr w' L tU v ks:=by
 rcases h with h|⟨g,c,cur,rfl,h1,h2,h3⟩
 ·exact .inl h
 ·exact .inr ⟨g,c,cur,rfl,h1,by rw[hk.block g (Array.getElem?_eq_some_iff.1 h2).1 (hx g rfl)];exact h2,h3⟩
theorem jr.form (h:jr w L tU v ks):∃ base c,v=.slice base ks.length c:=by
 rcases h with⟨rfl,rfl⟩|⟨g,c,cur,rfl,_⟩
 ·exact⟨none,0,rfl⟩
 ·exact⟨_,_,rfl⟩
theorem oA (T:Ds P tKs tU){ty:TypeId}{x:Value}{k:Nat}(hd:jr w L tU v ks)(hs:Src P 1 tKs x 1 [lW k] w)(hL:L<=w.heap.size)(hlim:ks.length<=1000) :
  ∃ v' w',(Builtin.append_ #[tKs,tKs] ty #[v,x]).run P w=.ok v' w'/\jr w' L tU v' (ks++[k])/\ac (fun j=>v.ownBlock=some j) w w'/\∀ j,v'.ownBlock=some j->v.ownBlock=some j \/ w.heap.size<=j:=by
 obtain⟨i,z,hi,hz,G0,L5,IE⟩:=T.info
 have ht:=T.sl
 have hs':Src P i.size tKs x 1 [lW k] w:=by rw[G0];exact hs
 have grown:∀ (base:Option Addr) (old:Nat),old<ks.length+1->(Builtin.firstCells i.size ks.length (.slice base ks.length old)).run P w.drew=.ok (ks.map lW).toArray w.drew ->
   ∃ v' w',(Builtin.append_ #[tKs,tKs] ty #[.slice base ks.length old,x]).run P w=.ok v' w'/\jr w' L tU v' (ks++[k])/\ac (fun _=>False) w w'/\∀ j,v'.ownBlock=some j->w.heap.size<=j:=by
  intro base old ho HH
  have hr:=run_append_grow_src (P:=P) w tKs tKs ty tU i z ht hi hz base ks.length old (ks.map lW) HH x 1 [lW k] hs' ho (by omega) (growslice_fits ho (by rw[L5];omega))
  refine⟨_,_,hr,?_⟩
  have Hm:=grownCap_ge w (ks.length+1) old tU
  have IK:grownCap w (ks.length+1) old tU<=maxLen:=grownCap_le_maxLen w _ old tU (by simp only[maxLen];omega)
  refine⟨.inr ⟨w.heap.size,_,_,by rw[List.length_append];rfl,hL,Go.heap_alloc_new w.drew _,by rw[List.length_append];exact Hm,IK,?_,?_⟩,⟨rfl,rfl,rfl,by simp,fun k hk _=>bA (w:=w.drew) hk⟩,fun j hj=>?_⟩
  ·simp only[Array.size_append,List.size_toArray,size_zeroCells,IE,List.length_append,List.length_map,List.length_cons,List.length_nil]
   omega
  ·intro j u hj
   have HY:j<(ks++[k]).length:=(List.getElem?_eq_some_iff.1 hj).1
   rw[Array.getElem?_append_left (by simp only[List.size_toArray,List.length_append,List.length_map];rw[List.length_append]at HY;exact HY)]
   rw[List.getElem?_toArray,show ks.map lW++[lW k]=(ks++[k]).map lW by simp,List.getElem?_map,hj]
   rfl
  ·simp only[Value.ownBlock,Option.some.injEq]at hj
   subst hj
   exact Nat.le_refl _
 rcases hd with⟨rfl,rfl⟩|⟨g,c,cur,rfl,QL,hg,Qq,IK,GE,Ha⟩
 ·obtain⟨v',w',h1,h2,h3,h4⟩:=grown none 0 (by simp) (by simp[Builtin.firstCells])
  exact⟨v',w',h1,h2,h3.mono fun _ _ h=>h.elim,fun j hj=>.inr (h4 j hj)⟩
 ·by_cases Hq:ks.length+1<=c
  ·have Hl:=run_storeCells_at P g ks.length tU [lW k] 0 cur w hg (by simp only[List.length_cons,List.length_nil];omega) hs.one
   simp only[Nat.add_zero]at Hl
   have hr:(Builtin.append_ #[tKs,tKs] ty #[.slice (some ⟨g,0,none⟩) ks.length c,x]).run P w=.ok (.slice (some ⟨g,0,none⟩) (ks.length+1) c) (w.setRow g (aI cur ks.length [lW k])):=by
    rcases hs.kind with⟨e',hk⟩|hk<;>simp[Builtin.append_,run_underlying ht,sizeOf,typeInfo,hi,G0,hs.len,Hq,hs.cells,Addr.add_lit,Hl,aI]
   refine⟨_,_,hr,.inr ⟨g,c,_,by rw[List.length_append];rfl,QL,setRow_heap _ _ _ _ _ _ hg,by rw[List.length_append];exact Hq,IK,?_,?_⟩,ac.setRow _ _ _ _ rfl,fun j hj=>.inl hj⟩
   ·rw[dO (by simp only[List.length_cons,List.length_nil];omega)];exact GE
   ·intro j u hj
    by_cases MF:j<ks.length
    ·rw[cm (by simp only[List.length_cons,List.length_nil];omega) j (.inl MF)]
     rw[List.getElem?_append_left MF]at hj
     exact Ha j u hj
    ·rw[List.getElem?_append_right (by omega)]at hj
     have:=bU (cur:=cur) (o:=ks.length) (vs:=[lW k]) (by simp only[List.length_cons,List.length_nil];omega) (j-ks.length) (by have:=(List.getElem?_eq_some_iff.1 hj).1;exact this)
     rw[show ks.length+(j-ks.length)=j by omega]at this
     rw[this]
     have h0:j-ks.length=0:=by have:=(List.getElem?_eq_some_iff.1 hj).1;simp at this;omega
     rw[h0]at hj ⊢
     simp at hj ⊢
     rw[hj]
  ·obtain⟨v',w',h1,h2,h3,h4⟩:=grown (some ⟨g,0,none⟩) c (by omega) (by
    have:=run_loadCells_list (P:=P) w.drew ⟨g,0,none⟩ (ks.map lW) (fun j u hj=>by
     rw[List.getElem?_map,Option.map_eq_some_iff]at hj
     obtain⟨b,hb,rfl⟩:=hj
     rw[Addr.add_lit]
     have GA:w.drew.heap[g]?=some (.cells cur tU (0,0)):=hg
     simp[World.cell?,GA,Ha j b hb])
    simp only[List.length_map]at this
    simp[Builtin.firstCells,G0,this])
   exact⟨v',w',h1,h2,h3.mono fun _ _ h=>h.elim,fun j hj=>.inr (h4 j hj)⟩
theorem vy (T:Ds P tKs tU){ops:Array Oper}{Q:Exit->Act->World->Prop}{r:List Oper}{a:Act}{d:Option Nat}{k:Nat}(h:wpList P ops Q r (a.put d (.slice (some ⟨w.heap.size,0,none⟩) 1 1)) (w.alloc (.cells #[lW k] tU (0,0)))) :
  wpList P ops Q (mk d (.buildSlice tKs 1 #[(0,ki .u32 k)])::r) a w:=by
 obtain⟨i,z,hi,hz,G0,_⟩:=T.info
 refine aD (w':=w.alloc (.cells #[lW k] tU (0,0))) ?_ h
 have Ir:=l9 [lW k] 0 ((Array.range 1).map fun k=>z.cells[k%z.cells.size]!) (fun v hv=>by
  simp only[List.mem_singleton]at hv
  subst hv
  rfl) (by simp)
 rw[fu (by simp)]at Ir
 simp[uV]at Ir
 have hy:a.eval (ki .u32 (k:Int))=lW k:=rfl
 simp[execOp,mk,Instr.buildSlice,run_underlying T.sl,sizeOf,typeInfo,zeroValue,hi,hz,G0,hy,Ir,newRow,newObj,Sem.run]
variable {m k0 n:Nat} {K E:Act->World->Prop} {Q:Exit->Act->World->Prop} {a:Act}
theorem DF (T:Ds P tKs tU){te k:Nat}(Oj:a.get te=v)(hv:jr w L tU v ks)(hL:L<=w.heap.size)(hlim:ks.length<=1000)(G7:m<=te/\te<k0)(hk:k0<=n)(hn:n+3<=a.tmps.size)
  (h:∀ a' w' v',Pv te m k0 n a a'->a'.get te=v'->jr w' L tU v' (ks++[k])->ac (fun j=>v.ownBlock=some j) w w'->(∀ j,v'.ownBlock=some j->v.ownBlock=some j \/ w.heap.size<=j)->K a' w') :
  aQ P (l7 tKs te k n).1 (Exit.then K Q) a w:=by
 refine au (ag (vy T ?_))
 rw[aa,Oj]
 have Gy:ac (fun _=>False) w (w.alloc (.cells #[lW k] tU (0,0))):=ac.alloc _ _ _
 have Hc:(w.alloc (.cells #[lW k] tU (0,0))).heap[w.heap.size]?=some (.cells #[lW k] tU (0,0)):=heap_alloc_new w _
 have Gu:w.heap.size<=(w.alloc (.cells #[lW k] tU (0,0))).heap.size:=Gy.size
 have Iu:jr (w.alloc (.cells #[lW k] tU (0,0))) L tU v ks:=hv.keep Gy fun _ _ h=>h
 have Ic:Src P 1 tKs (.slice (some ⟨w.heap.size,0,none⟩) 1 1) 1 [lW k] (w.alloc (.cells #[lW k] tU (0,0))):=Src.ofSlice _ T.sl ⟨w.heap.size,0,none⟩ 1 1 _ rfl (fun q u hq=>by
  rw[Addr.add_lit]
  cases q with
  | zero=>
   simp only[List.getElem?_cons_zero,Option.some.injEq]at hq
   subst hq
   simp only[World.cell?,Nat.add_zero]
   rw[Hc]
   rfl
  | succ q=>simp at hq) (fun u hu=>by simp only[List.mem_singleton]at hu;subst hu;rfl)
 obtain⟨v',w',hr,h2,h3,h4⟩:=oA (ty:=tKs) T Iu Ic (Nat.le_trans hL Gu) hlim
 refine Av (v:=v') (w':=w') (by
  have e1:((a.put (some n) v).put (some (n+1)) (.slice (some ⟨w.heap.size,0,none⟩) 1 1)).eval (tm n)=v:=by rw[aa,ak (by omega),am (by omega)]
  have e2:((a.put (some n) v).put (some (n+1)) (.slice (some ⟨w.heap.size,0,none⟩) 1 1)).eval (tm (n+1))=.slice (some ⟨w.heap.size,0,none⟩) 1 1:=by rw[aa,am (by simp only[ab];omega)]
  simp[execOp,bi,resolve,invoke,builtin,e1,e2,hr]) (aj (wpList_nil (h _ w' v' ?_ ?_ h2 ((Gy.mono fun _ _ h=>h.elim).trans h3) fun j hj=>?_)))
 ·exact((((Pv.refl _ _ _ _ _).put _ (by omega)).put _ (by omega)).put _ (by omega)).put _ (.inl rfl)
 ·rw[am (by simp only[ab];omega),aa,am (by simp only[ab];omega)]
 ·rcases h4 j hj with h|h
  ·exact .inl h
  ·exact .inr (Nat.le_trans Gu h)
end
section
variable {P:Program} {g:GW} {av:PF->Bool} {fl nl:Bool} {te:Nat} {L m k0 n:Nat} {d:Value} {bs:Bs} {K E:Act->World->Prop} {Q:Exit->Act->World->Prop} {a:Act} {w:World}
structure Sx (x y mB k0 n:Nat)(a a':Act):Prop where
 size:a'.tmps.size=a.tmps.size
 defers:a'.defers=a.defers
 get:∀ i,i≠x->i≠y->(i<mB \/ (k0<=i/\i<n))->a'.get i=a.get i
theorem Sx.refl (x y mB k0 n:Nat)(a:Act):Sx x y mB k0 n a a:=⟨rfl,rfl,fun _ _ _ _=>rfl⟩
theorem Sx.trans {x y mB k0 n:Nat}{a b c:Act}(h:Sx x y mB k0 n a b)(k:Sx x y mB k0 n b c):Sx x y mB k0 n a c:=
 ⟨k.size.trans h.size,k.defers.trans h.defers,fun i hx hy hi=>(k.get i hx hy hi).trans (h.get i hx hy hi)⟩
theorem Sx.put {x y mB k0 n d:Nat}{a b:Act}(h:Sx x y mB k0 n a b)(v:Value)(hd:d=x \/ d=y \/ (mB<=d/\d<k0) \/ (mB<=d/\n<=d)):Sx x y mB k0 n a (b.put (some d) v):=
 ⟨by rw[ab];exact h.size,by rw[ai];exact h.defers,fun i hx hy hi=>by rw[ak (by omega)];exact h.get i hx hy hi⟩
theorem Sx.of_pv {x y mB k0 n:Nat}{a b:Act}(h:Pv x mB k0 n a b):Sx x y mB k0 n a b:=⟨h.size,h.defers,fun i hx _ hi=>h.get i hx hi⟩
theorem Sx.mono {x y mB k0 n mB' n':Nat}{a b:Act}(h:Sx x y mB k0 n a b)(hm:mB'<=mB)(hn:n'<=n):Sx x y mB' k0 n' a b:=⟨h.size,h.defers,fun i hx hy hi=>h.get i hx hy (by omega)⟩
theorem DJ {Q:Exit->Act->World->Prop}(hK:∀ a w,K a w->Q .normal a w)(hE:∀ a w,E a w->Q .ret a w):∀ e a w,Rt K E e a w->Q e a w:=by
 intro e a w h
 cases e<;>first|exact hK _ _ h|exact hE _ _ h|exact h.elim
theorem sR (K0:KW P g av fl nl te)(Gw:fl=true){x:Nat}(hx:x<4294967296)(h1:a.get 1=d)(hd:aH w L te d bs)(hL:L<=w.heap.size)(hlim:bs.length+(uvar x).length<=d7)(hm:m<=k0)(hk:k0<=n)(HF:1<m)(hn:n+2<=a.tmps.size)
  (h:∀ a' w' d',Pv 1 k0 k0 n a a'->a'.get 1=d'->Gr L te d w d' (bs++uvar x) w'->K a' w'):aQ P (iH g x n).1 (Exit.then K Q) a w:=by
 refine au (ag (dR (K0.uvE Gw) ?_ (K0.uvC Gw x w hx L) hd hL hlim (by simp only[ab];omega) fun w' d' hg=>wpList_nil (h _ w' d' ?_ (am (by simp only[ab];omega)) hg)))
 ·simp only[List.map_cons,List.map_nil,aa]
  rw[am (by omega),h1]
  rfl
 ·exact(((Pv.refl _ _ _ _ _).put _ (by omega)).put _ (by omega)).put _ (.inl rfl)
theorem wH {d:Option Nat}{x:Operand}{v:Value}{K:Act->World->Prop}{Q':Exit->Act->World->Prop}(hx:a.eval x=v)(h:K (a.put d v) w):(mk d (.assign x)).wp P a w K Q':=by
 have:(execOp a.eval (mk d (.assign x))).run P w=.ok (.value v) w:=by simp[execOp,mk,hx]
 unfold Oper.wp
 rw[this]
 exact h
theorem Dd {d:Option Nat}{T:Nat}{x:Operand}{b:Bool}{K:Act->World->Prop}{Q':Exit->Act->World->Prop}(hx:a.eval x=.bool b)(h:K (a.put d (.bool !b)) w):(mk d (.unOp .not T x)).wp P a w K Q':=by
 have:(execOp a.eval (mk d (.unOp .not T x))).run P w=.ok (.value (.bool !b)) w:=by simp[execOp,mk,hx,Op.unary]
 unfold Oper.wp
 rw[this]
 exact h
theorem aH.form (h:aH w L te d bs):∃ base c,d=.slice base bs.length c/\bs.length<=c/\∀ p,base=some p->p.spot=none:=by
 rcases h with⟨rfl,rfl⟩|⟨g,c,cur,rfl,_,_,h,_⟩
 ·exact⟨none,0,rfl,Nat.le_refl _,fun p hp=>by cases hp⟩
 ·exact⟨_,c,rfl,h,fun p hp=>by cases hp;rfl⟩
theorem aH.cut {base:Option Addr}{c k:Nat}{b1 b2:Bs}(h:aH w L te (.slice base (b1++b2).length c) (b1++b2))(hk:k=b1.length):aH w L te (.slice base k c) b1:=by
 subst hk
 rcases h with⟨h1,h2⟩|⟨g,c',cur,h1,h2,h3,h4,h5,h6,h7⟩
 ·obtain⟨rfl,rfl⟩:=List.append_eq_nil_iff.1 h2
  simp only[Value.slice.injEq]at h1
  obtain⟨rfl,_,rfl⟩:=h1
  exact .inl ⟨rfl,rfl⟩
 ·simp only[Value.slice.injEq]at h1
  obtain⟨rfl,_,rfl⟩:=h1
  refine .inr ⟨g,c,cur,rfl,h2,h3,by rw[List.length_append]at h4;omega,h5,h6,fun i x hi=>h7 i x ?_⟩
  rw[List.getElem?_append_left (List.getElem?_eq_some_iff.1 hi).1]
  exact hi
theorem sW {F E' m c i d:Nat}{x y:Operand}{base:Option Addr}(hx:a.eval x=.slice base m c)(hy:a.eval y=.int .i64 (i:Nat))(hF:P.underlying F=some (.slice E'))(hs:∀ w,(sizeOf E').run P w=.ok 1 w)(hi:i<=m)(hm:m<=c)(hb:∀ p,base=some p->p.spot=none):(execOp a.eval (mk (some d) (.slice F x none (some y) none))).run P w=.ok (.value (.slice base i c)) w:=by
 have h3:i<=c:=Nat.le_trans hi hm
 cases base with
 | none=>simp[execOp,mk,hx,hy,Instr.sliceAt,Instr.slice,run_underlying hF,Instr.sliceBounds,Instr.sliceBound,asIntOf,hs,h3]
 | some p=>
  have:=hb p rfl
  obtain⟨b,o,s⟩:=p
  simp only at this
  subst this
  simp[execOp,mk,hx,hy,Instr.sliceAt,Instr.slice,run_underlying hF,Instr.sliceBounds,Instr.sliceBound,asIntOf,hs,h3,Addr.add]
theorem qh {F E' m c i d:Nat}{x y:Operand}{base:Option Addr}(hx:a.eval x=.slice base m c)(hy:a.eval y=.int .i64 (i:Nat))(hF:P.underlying F=some (.slice E'))(hs:∀ w,(sizeOf E').run P w=.ok 1 w)(hi:i<=m):(execOp a.eval (mk (some d) (.slice F x (some y) none none))).run P w=.ok (.value (.slice (if c=i then base else base.map fun q=>q.add (i*1)) (m-i) (c-i))) w:=by
 simp[execOp,mk,hx,hy,Instr.sliceAt,Instr.slice,run_underlying hF,Instr.sliceBounds,Instr.sliceBound,asIntOf,hs,hi]
theorem AL (K0:KW P g av fl nl te)(Gw:fl=true){z lenAt l tB mB:Nat}{b1 enc:Bs}(hz:a.get z=.bool false)(Ml:a.get lenAt=.int .i64 (b1.length:Nat))(h1:a.get 1=d)(hd:aH w L te d (b1++enc))(hL:L<=w.heap.size)(hlim:b1.length+(uvar (dL enc.length)).length<=d7)(HF:1<k0)
  (MR:z<k0/\lenAt<k0/\z≠lenAt/\z≠1/\lenAt≠1) (VK:mB<=k0) (hk:k0<=n) (hn:n+11<=a.tmps.size)
  (h:∀ a' w' d',Sx 1 z mB k0 n a a'->a'.get z=.bool true->a'.get 1=d'->Gr L te d w d' (b1++uvar (dL enc.length)) w'->Q (.goto l) a' w'):aQ P (cV g z lenAt l tB n).1 Q a w:=by
 obtain⟨base,c,HT,Lk,PP⟩:=hd.form
 obtain⟨i8,z8,Sf,hz8,SQ,_⟩:=K0.oct.info
 have RQ:∀ w,(sizeOf te).run P w=.ok 1 w:=fun w=>by simp[sizeOf,typeInfo,Sf,SQ]
 have G5:b1.length<=(b1++enc).length:=by rw[List.length_append];omega
 have hdc:aH w L te (.slice base b1.length c) b1:=by rw[HT]at hd;exact hd.cut rfl
 have IZ:(b1++enc).length-b1.length=enc.length:=by rw[List.length_append];omega
 refine dt (ag ?_)
 rw[aa,hz]
 refine nk (b:=false) (by rw[aa,am (by omega)]) (wpList_nil ⟨by rw[aa,am (by simp only[ab];omega)];rfl,bm (ad ?_)⟩)
 have UR:Sx 1 z mB k0 n a ((a.put (some n) (.bool false)).put (some (n+1)) (.bool !false)):=((Sx.refl _ _ _ _ _ _).put _ (by omega)).put _ (by omega)
 have Ve:((a.put (some n) (.bool false)).put (some (n+1)) (.bool !false)).get 1=d:=by rw[ak (by omega),ak (by omega)];exact h1
 have Vd:((a.put (some n) (.bool false)).put (some (n+1)) (.bool !false)).get lenAt=.int .i64 (b1.length:Nat):=by rw[ak (by omega),ak (by omega)];exact Ml
 generalize(a.put (some n) (.bool false)).put (some (n+1)) (.bool !false)=A at UR Ve Vd ⊢
 have hAs:=UR.size
 have UW:dW [mk (some (n+2)) (.move (tm 1)),mk (some (n+2+1)) (.move (tm lenAt)),mk (some (n+2+2)) (.slice g.tSl (tm (n+2)) none (some (tm (n+2+1))) none),mk (some (n+2+3)) (.move (tm 1)),mk (some (n+2+4)) (.move (tm lenAt)),mk (some (n+2+5)) (.slice g.tSl (tm (n+2+3)) (some (tm (n+2+4))) none none),
   bi (some (n+2+6)) .len [tm (n+2+5)] [g.tSl] g.tInt,mk (some (n+2+7)) (.convert g.tInt g.tU32 (tm (n+2+6))),cl (some (n+2+8)) g.uv [tm (n+2+2),tm (n+2+7)],mk (some 1) (.assign (tm (n+2+8)))]=[false,false,false,false,false,false,false,false,true,true]:=by
  simp[dW,wU,mk,cl,bi,gP,Op.operands,tm]
 refine .drw (fun _=>True) ?_
 rw[UW]
 simp only[dD,cq]
 have IU:IntKind.u32.wrap ((enc.length:Nat):Int)=((dL enc.length:Nat):Int):=by simp[IntKind.wrap,IntKind.bits,IntKind.signed,dL]
 have mv:∀ (a:Act) (q x:Nat) (v:Value) (w:World),a.get x=v->(execOp a.eval (mk (some q) (.move (tm x)))).run P w=.ok (.value v) w:=fun a q x v w hx=>by
  have:a.eval (tm x)=v:=hx
  simp[execOp,mk,this]
 refine⟨d,fun w _=>mv _ _ _ _ _ Ve,.int .i64 (b1.length:Nat),fun w _=>mv _ _ _ _ _ (by simp only[mk];rw[ak (by omega)];exact Vd),.slice base b1.length c,fun w _=>?_,d,fun w _=>mv _ _ _ _ _ ?_,.int .i64 (b1.length:Nat),fun w _=>mv _ _ _ _ _ ?_,
  .slice (if c=b1.length then base else base.map fun q=>q.add (b1.length*1)) ((b1++enc).length-b1.length) (c-b1.length),fun w _=>?_,.int .i64 (enc.length:Nat),fun w _=>?_,.int .u32 ((dL enc.length:Nat):Int),fun w _=>?_,?_⟩
 ·refine sW (m:=(b1++enc).length) ?_ ?_ K0.oct.und RQ G5 Lk PP
  ·simp only[mk];rw[aa,ak (by omega),am (by omega),HT]
  ·simp only[mk];rw[aa,am (by simp only[ab];omega)]
 ·simp only[mk];rw[ak (by omega),ak (by omega),ak (by omega)];exact Ve
 ·simp only[mk];rw[ak (by omega),ak (by omega),ak (by omega),ak (by omega)];exact Vd
 ·refine qh (m:=(b1++enc).length) ?_ ?_ K0.oct.und RQ G5
  ·simp only[mk];rw[aa,ak (by omega),am (by simp only[ab];omega),HT]
  ·simp only[mk];rw[aa,am (by simp only[ab];omega)]
 ·have e:∀ B:Act,B.get (n+2+5)=.slice (if c=b1.length then base else base.map fun q=>q.add (b1.length*1)) ((b1++enc).length-b1.length) (c-b1.length)->(execOp B.eval (bi (some (n+2+6)) .len [tm (n+2+5)] [g.tSl] g.tInt)).run P w=.ok (.value (.int .i64 (enc.length:Nat))) w:=fun B hB=>by
   have:B.eval (tm (n+2+5))=_:=hB
   simp[execOp,bi,resolve,invoke,builtin,Builtin.len_,this,run_underlying K0.oct.und,goInt]
  exact e _ (by simp only[mk];rw[am (by simp only[ab];omega)])
 ·have e:∀ B:Act,B.get (n+2+6)=.int .i64 (enc.length:Nat)->(execOp B.eval (mk (some (n+2+7)) (.convert g.tInt g.tU32 (tm (n+2+6))))).run P w=.ok (.value (.int .u32 ((dL enc.length:Nat):Int))) w:=fun B hB=>by
   have:B.eval (tm (n+2+6))=_:=hB
   simp[execOp,mk,this,convert,run_underlying K0.dInt,run_underlying (K0.dU32 Gw),Conv.intToInt,IU]
  exact e _ (by simp only[bi];rw[am (by simp only[ab];omega)])
 ·simp only[mk,bi]
  have HK:ac (fun _=>False) w w.drew:=ac.drew _ _
  refine⟨trivial,ig (vs:=#[.slice base b1.length c,.int .u32 ((dL enc.length:Nat):Int)]) rfl (K0.uvE Gw) ?_ (K0.uvC Gw (dL enc.length) w.drew (lM _) L _ b1 (hdc.keep HK fun _ _ h=>h) (Nat.le_trans hL HK.size) hlim) fun e w1 hR=>?_⟩
  ·simp only[List.map_cons,List.map_nil,aa]
   rw[ak (by omega),ak (by omega),ak (by omega),ak (by omega),ak (by omega),am (by simp only[ab];omega),am (by simp only[ab];omega)]
  ·obtain⟨d',rfl,hg⟩:=hR
   refine⟨d',rfl,trivial,wH (v:=d') (by rw[aa,am (by simp only[ab];omega)]) ⟨trivial,?_⟩⟩
   show LW P [aU z (.bool true),aY (.goto l)] _ Q _ w1
   have GA:Gr L te d w d' (b1++uvar (dL enc.length)) w1:=by
    have:=Gr.pre HK (fun _ _ h=>h) hg
    have eo:d.ownBlock=(Value.slice base b1.length c).ownBlock:=by rw[HT];cases base<;>rfl
    exact⟨this.dst,this.keeps.mono (fun k _ hk=>by rw[eo];exact hk),fun k hk=>by rw[eo];exact this.own k hk⟩
   refine ad (au (aj (wpList_nil (ad (.goto (h _ w1 d' ?_ (am (by simp only[ab];omega)) ?_ GA))))))
   ·exact((((((((((UR.put _ (by omega)).put _ (by omega)).put _ (by omega)).put _ (by omega)).put _ (by omega)).put _ (by omega)).put _ (by omega)).put _ (by omega)).put _ (by omega)).put _ (by omega)).put _ (by omega)
   ·rw[ak (by omega),am (by simp only[ab];omega)]
theorem AK {z lenAt l tB:Nat}(hz:a.get z=.bool true)(_hzl:z<n)(hk:k0<=n)(hn:n+2<=a.tmps.size)(h:∀ a',Pv 1 k0 k0 n a a'->(∀ i,i<n->a'.get i=a.get i)->Q .normal a' w):aQ P (cV g z lenAt l tB n).1 Q a w:=by
 refine dg (ag ?_)
 rw[aa,hz]
 refine nk (b:=true) (by rw[aa,am (by omega)]) (wpList_nil ⟨by rw[aa,am (by simp only[ab];omega)];rfl,.skip (h _ ?_ fun i hi=>?_)⟩)
 ·exact((Pv.refl _ _ _ _ _).put _ (by omega)).put _ (by omega)
 ·rw[ak (by omega),ak (by omega)]
theorem l8 {l:Nat}{r:List Code}(hr:r≠[]):∀ cs:List Code,(∀ c∈cs,findLabel c l=none)->findLabel (sq (cs++.label l::r)) l=some (.seq .skip (sq r))
 | [],_=>by
  cases r with
  | nil=>exact absurd rfl hr
  | cons x r=>simp[sq,findLabel]
 | c::cs,h=>by
  have ih:=l8 hr cs fun x hx=>h x (by simp[hx])
  have hc:=h c (by simp)
  cases GE:cs++.label l::r with
  | nil=>simp at GE
  | cons y ys=>
   rw[GE]at ih
   simp only[List.cons_append,GE,sq,findLabel,hc]
   exact ih
theorem pX {l:Nat}{pre body:List GC}(JT:∀ c∈(gL pre n).1,findLabel c l=none)(Ie:(gL body (gL pre n).2).1≠[])(h:LW P (pre++(aY (.label l)::body)) n (Exit.jump l (fun a w=>LW P body (gL pre n).2 (Rt K E) a w) (Rt K E)) a w) :
  aQ P (jO (pre++(aY (.label l)::body)) n).1 (Rt K E) a w:=by
 have e:(gS (pre++(aY (.label l)::body)) n).1=sq ((gL pre n).1++.label l::(gL body (gL pre n).2).1):=by
  simp only[gS,bc]
  rfl
 show aQ P (.scope (gS (pre++(aY (.label l)::body)) n).1) (Rt K E) a w
 refine .scope l (fun a w=>LW P body (gL pre n).2 (Rt K E) a w) (fun _ _=>0) (rest:=.seq .skip (sq (gL body (gL pre n).2).1)) (by rw[e];exact l8 Ie _ JT) h fun a w hJ=>?_
 refine .seq (R:=Rt (fun a' w'=>a'=a/\w'=w) fun _ _=>False) (.skip ⟨rfl,rfl⟩) (fun a' w' hh=>?_) (fun e a w he hq=>by cases e<;>first|exact absurd rfl he|exact hq.elim)
 obtain⟨rfl,rfl⟩:=hh
 refine aQ.mono hJ fun e a w hq=>?_
 cases e<;>first|exact hq|exact hq.elim
theorem pW (K0:KW P g av fl nl te)(Gw:fl=true){z lenAt l tB m0 mB:Nat}{body:List GC}{enc:Bs}(h1:a.get 1=d)(hd:aH w L te d bs)(hL:L<=w.heap.size)(hlim:bs.length+((uvar (dL enc.length)).length+enc.length)<=d7)(J9:1<m0/\m0<=z/\m0<=lenAt)(MR:z<mB/\lenAt<mB/\z≠lenAt)(VK:mB<=k0)(hk:k0<=n)
  (Ib:iM body) (hn:(gL (body++[cV g z lenAt l tB]) (n+2)).2<=a.tmps.size)
  (H8:∀ (a':Act) (w':World) (d':Value) (bs':Bs) (K':Act->World->Prop),Sx 1 z m0 k0 n a a'->a'.get 1=d'->Gr L te d w d' bs' w'->bs'.length+enc.length<=d7->(∀ a'' w'' d'',Pv 1 mB k0 (n+2) a' a''->a''.get 1=d''->Gr L te d' w' d'' (bs'++enc) w''->K' a'' w'')->LW P body (n+2) (Rt K' E) a' w')
  (h:∀ a' w' d',Sx 1 z m0 k0 n a a'->a'.get 1=d'->Gr L te d w d' (bs++(uvar (dL enc.length)++enc)) w'->K a' w') :
  LW P ([aU z (.bool false),aA 2 fun n=>[mk (some n) (.move (tm 1)),bi (some (n+1)) .len [tm n] [g.tSl] g.tInt,mk (some lenAt) (.assign (tm (n+1)))],aY (.label l)]++(body++[cV g z lenAt l tB])) n (Exit.jump l (fun a w=>LW P (body++[cV g z lenAt l tB]) (n+2) (Rt K E) a w) (Rt K E)) a w:=by
 have hn':(gL body (n+2)).2+11<=a.tmps.size:=by rw[bc]at hn;exact hn
 have hu:=Ib (n+2)
 obtain⟨base,c,HT,_,_⟩:=hd.form
 refine ad (au (aj (wpList_nil ?_)))
 show LW P _ n _ (a.put (some z) (.bool false)) w
 refine ad (au (ag ?_))
 rw[aa,ak (by omega),h1,HT]
 refine en (base:=base) (n:=bs.length) (c:=c) (by rw[aa,am (by simp only[ab];omega)]) K0.oct.und (aj (wpList_nil ?_))
 rw[aa,am (by simp only[ab];omega)]
 have hS:Sx 1 z m0 k0 n a ((((a.put (some z) (.bool false)).put (some n) (.slice base bs.length c)).put (some (n+1)) (.int .i64 bs.length)).put (some lenAt) (.int .i64 bs.length)):=((((Sx.refl _ _ _ _ _ _).put _ (by omega)).put _ (by omega)).put _ (by omega)).put _ (by omega)
 have g1:((((a.put (some z) (.bool false)).put (some n) (.slice base bs.length c)).put (some (n+1)) (.int .i64 bs.length)).put (some lenAt) (.int .i64 bs.length)).get 1=d:=by
  rw[ak (by omega),ak (by omega),ak (by omega),ak (by omega)];exact h1
 have gz:((((a.put (some z) (.bool false)).put (some n) (.slice base bs.length c)).put (some (n+1)) (.int .i64 bs.length)).put (some lenAt) (.int .i64 bs.length)).get z=.bool false:=by
  rw[ak (by omega),ak (by omega),ak (by omega),am (by omega)]
 have gl:((((a.put (some z) (.bool false)).put (some n) (.slice base bs.length c)).put (some (n+1)) (.int .i64 bs.length)).put (some lenAt) (.int .i64 bs.length)).get lenAt=.int .i64 (bs.length:Nat):=am (by simp only[ab];omega)
 show LW P _ (n+2) _ ((((a.put (some z) (.bool false)).put (some n) (.slice base bs.length c)).put (some (n+1)) (.int .i64 bs.length)).put (some lenAt) (.int .i64 bs.length)) w
 generalize(((a.put (some z) (.bool false)).put (some n) (.slice base bs.length c)).put (some (n+1)) (.int .i64 bs.length)).put (some lenAt) (.int .i64 bs.length)=a2 at hS g1 gz gl ⊢
 have G9:=hS.size
 refine ad (.label ?_)
 show LW P (body++[cV g z lenAt l tB]) (n+2) _ a2 w
 refine fj (aQ.mono (H8 a2 w d bs (fun a3 w3=>LW P [cV g z lenAt l tB] (gL body (n+2)).2 (Exit.jump l (fun a w=>LW P (body++[cV g z lenAt l tB]) (n+2) (Rt K E) a w) (Rt K E)) a3 w3) hS g1 (Gr.refl hd) (by omega) fun a3 w3 d3 Gt Ia GI=>?_) (DJ (fun _ _ h=>h) (fun _ _ h=>h)))
 have Hh:=Gt.size
 have z3:a3.get z=.bool false:=(Gt.get z (by omega) (.inl (by omega))).trans gz
 have l3:a3.get lenAt=.int .i64 (bs.length:Nat):=(Gt.get lenAt (by omega) (.inl (by omega))).trans gl
 have R9:L<=w3.heap.size:=Nat.le_trans hL GI.keeps.size
 refine ad (AL K0 Gw (b1:=bs) (enc:=enc) (mB:=mB) z3 l3 Ia GI.dst R9 (by omega) (by omega) (by omega) VK (by omega) (by omega) fun a4 w4 d4 hS4 Vp Kj Ht=>?_)
 have IP:=hS4.size
 have KS:Gr L te d w d4 (bs++uvar (dL enc.length)) w4:=GI.trans Ht
 have R5:Sx 1 z m0 k0 n a a4:=(hS.trans ((Sx.of_pv Gt).mono (by omega) (by omega))).trans (hS4.mono (by omega) (by omega))
 refine⟨rfl,?_⟩
 show LW P (body++[cV g z lenAt l tB]) (n+2) (Rt K E) a4 w4
 refine fj ?_
 rw[aV]
 refine H8 a4 w4 d4 _ _ R5 Kj KS (by rw[List.length_append];omega) fun a5 w5 d5 HB N4 II=>?_
 have Nd:=HB.size
 have z5:a5.get z=.bool true:=(HB.get z (by omega) (.inl (by omega))).trans Vp
 refine ad (AK (k0:=k0) z5 (by omega) (by omega) (by omega) fun a6 hp6 hlow6=>bg (h a6 w5 d5 ?_ ((hlow6 1 (by omega)).trans N4) ?_))
 ·exact(R5.trans ((Sx.of_pv HB).mono (by omega) (by omega))).trans ⟨hp6.size,hp6.defers,fun i _ _ hi=>hlow6 i (by omega)⟩
 ·rw[<- List.append_assoc]
  exact KS.trans II
end
def xT (P:Program)(F:Nat):Bool:=match P.underlying F with|some (.slice _)=>true|_=>false
def AU:cP->Bool
 | .bool=>false
 | .uuid=>false
 | _=>true
def kJ:Ty->Option (Option cP)
 | .prim p=>if AU p then some (some p)else none
 | .str none=>some none
 | _=>none
def m9:Fds->Option (List (Nat × Option cP × Int))
 | .nil=>some []
 | .cons lo hi tag df off ty r=>if decide (lo=0)&&hi.isNone&&tag.isNone then(match kJ ty,m9 r with|some p,some l=>some ((off,p,df)::l)|_,_=>none)else none
def Bj (sz o:Nat)(ds:List (Nat × Option cP × Int)):Bool:=decide (o<sz)&&ds.all (fun q=>decide (q.1<sz))&&(List.range sz).all fun j=>j==o || ds.any fun q=>q.1==j
def DB (s:Sm)(nm:Nm)(o:Nat)(fs:Fds):Bool:=s.fDef==nm.n 7&&s.fSame==nm.n 8&&s.F==nm.n 3&&s.toff==o&&(match m9 fs with|some l=>l==s.ds|none=>false)&&Bj s.sz o s.ds
def FP (g:GW)(nm:Nm)(o:Nat)(fs:Fds):Bool:=g.sm.any fun s=>DB s nm o fs
def Bn (P:Program)(F:Nat):Bool:=match P.underlying F with
 | some (.array n E)=>n==16&&jg P E false 1&&(P.cellsOf E==1&&(P.info? E).isSome)&&(match P.underlying E with|some (.int .u8)=>true|_=>false)&&!P.eqGuardType P.depth F
 | _=>false
def qp (P:Program)(av:PF->Bool)(g:GW)(T off:Nat)(ty:Ty)(nm:Nm):Bool:=nm.n 1==T&&(match ty with
 | .prim p=>if p=.uuid then av .uuid&&nm.n 3==g.tUuid&&eB P T (nm.n 2) (nm.n 3) off true 16&&Bn P (nm.n 3)else AU p&&eB P T (nm.n 2) (nm.n 3) off false 1
 | .str (some _)=>eB P T (nm.n 2) (nm.n 3) off false 1&&wu P (nm.n 3)
 | .list _ _ _=>eB P T (nm.n 2) (nm.n 3) off false 1&&xT P (nm.n 3)
 | .struct none (some o) fs=>eB P T (nm.n 2) (nm.n 3) off true (nB P (nm.n 3))&&FP g nm o fs
 | _=>false)
def Gd (ty:Ty)(y:Value)(v:V):Prop:=∀ (w:World) (X:Nat->Prop),iv w X ty [y] v
def uq (f:Nat->Option Value):Fds->List V->Prop
 | .nil,vs=>vs=[]
 | .cons _ _ _ _ off ty r,vs=>∃ y v vs',vs=v::vs'/\f off=some y/\Gd ty y v/\uq f r vs'
theorem iZ {lo:Nat}{hi tag:Option Nat}{df:Int}{off:Nat}{ty:Ty}{r:Fds}{l:List (Nat × Option cP × Int)}(h:m9 (.cons lo hi tag df off ty r)=some l):lo=0/\hi=none/\tag=none/\∃ p l',kJ ty=some p/\m9 r=some l'/\l=(off,p,df)::l':=by
 simp only[m9]at h
 split at h
 ·rename_i hc
  simp only[Bool.and_eq_true,decide_eq_true_eq,Option.isNone_iff_eq_none]at hc
  split at h
  ·rename_i p l' hp hl
   exact⟨hc.1.1,hc.1.2,hc.2,p,l',hp,hl,(Option.some.inj h).symm⟩
  ·cases h
 ·cases h
theorem pg {w:World}{X:Nat->Prop}{ty:Ty}{p:Option cP}{cs:List Value}{v:V}(h:kJ ty=some p)(hl:iv w X ty cs v):∃ y,cs=[y]/\Gd ty y v/\jk p y/\∀ df,fE ty df v=eW p df y:=by
 cases ty with
 | prim q=>
  simp only[kJ]at h
  split at h
  ·rename_i hq
   obtain rfl:=Option.some.inj h
   cases q
   case bool=>cases hq
   case uuid=>cases hq
   all_goals
    obtain⟨x,rfl,rfl,hf⟩:=hl
    exact⟨_,rfl,fun w X=>⟨x,rfl,rfl,hf⟩,⟨x,rfl⟩,fun df=>rfl⟩
  ·cases h
 | str nul=>
  cases nul with
  | none=>
   obtain rfl:=Option.some.inj h
   obtain⟨l,rfl,rfl,hf⟩:=hl
   exact⟨_,rfl,fun w X=>⟨l,rfl,rfl,hf⟩,⟨l,rfl⟩,fun df=>by simp[fE,V.octets,eW]⟩
  | some _=>cases h
 | bytes _=>cases h
 | list _ _ _=>cases h
 | struct _ _ _=>cases h
theorem DK {w:World}{X:Nat->Prop}{ty:Ty}{p:Option cP}{b o:Nat}{v:V}(h:kJ ty=some p)(hr:Rp w X ty b o v):∃ cs,ao w b o cs/\iv w X ty cs v:=by
 cases ty with
 | prim q=>exact hr
 | str nul=>exact hr
 | bytes _=>cases h
 | list _ _ _=>cases h
 | struct _ _ _=>cases h
theorem vj {w:World}{X:Nat->Prop}{b o:Nat}:∀ (fs:Fds) (vs:List V) (l:List (Nat × Option cP × Int)),m9 fs=some l->RpF w X fs b o vs->uq (fun j=>w.cell? ⟨b,o+j,none⟩) fs vs
 | .nil,vs,l,_,h=>h
 | .cons lo hi tag df off ty r,vs,l,hl,h=>by
  obtain⟨_,_,_,p,l',hp,hr,rfl⟩:=iZ hl
  obtain⟨v,vs',rfl,hv,HU⟩:=h
  obtain⟨cs,hc,LF⟩:=DK hp hv
  obtain⟨y,rfl,h1,_,_⟩:=pg hp LF
  exact⟨y,v,vs',rfl,by simpa using hc 0 y rfl,h1,vj r vs' l' hr HU⟩
theorem qH {f:Nat->Option Value}(w:World):∀ (fs:Fds) (vs:List V) (l:List (Nat × Option cP × Int)),m9 fs=some l->uq f fs vs->(∀ q∈l,∃ y,f q.1=some y/\jk q.2.1 y)/\iJ fs vs=l.all fun q=>eW q.2.1 q.2.2 ((f q.1).getD undef)
 | .nil,vs,l,hl,_=>by
  obtain rfl:=Option.some.inj hl
  exact⟨fun q hq=>by simp at hq,by simp[iJ]⟩
 | .cons lo hi tag df off ty r,vs,l,hl,h=>by
  obtain⟨_,_,_,p,l',hp,hr,rfl⟩:=iZ hl
  obtain⟨y,v,vs',rfl,hy,Qa,HU⟩:=h
  obtain⟨i1,i2⟩:=qH w r vs' l' hr HU
  obtain⟨y',e,_,hs,hd⟩:=pg hp (Qa w fun _=>False)
  simp only[List.cons.injEq,and_true]at e
  subst e
  refine⟨fun q hq=>?_,?_⟩
  ·rcases List.mem_cons.1 hq with rfl|hq
   ·exact⟨y,hy,hs⟩
   ·exact i1 q hq
  ·simp only[iJ,List.headD_cons,List.tail_cons,List.all_cons,hy,Option.getD_some,hd,i2]
theorem vk {f f':Nat->Option Value}{sz:Nat}(h:∀ j y,f j=some y->j<sz->f' j=some y):∀ (fs:Fds) (vs:List V) (l:List (Nat × Option cP × Int)),m9 fs=some l->(∀ q∈l,q.1<sz)->uq f fs vs->uq f' fs vs
 | .nil,_,_,_,_,hb=>hb
 | .cons lo hi tag df off ty r,vs,l,hl,Gq,hb=>by
  obtain⟨_,_,_,p,l',hp,hr,rfl⟩:=iZ hl
  obtain⟨y,v,vs',rfl,hy,Qa,HU⟩:=hb
  exact⟨y,v,vs',rfl,h off y hy (Gq _ (List.mem_cons_self ..)),Qa,vk h r vs' l' hr (fun q hq=>Gq q (List.mem_cons_of_mem _ hq)) HU⟩
theorem rE {p:Option cP}{y:Value}(h:jk p y):y.oneCell'=true:=by
 cases p with
 | none=>obtain⟨l,rfl⟩:=h;rfl
 | some q=>obtain⟨x,rfl⟩:=h;rfl
theorem si {w:World}{X:Nat->Prop}{B O sz o:Nat}{fs:Fds}{ds:List (Nat × Option cP × Int)}{v:V}(L3:m9 fs=some ds)(L4:Bj sz o ds=true)(hr:Rp w X (.struct none (some o) fs) B O v) :
  ∃ (cs:List Value) (m:Option Nat) (vs:List V) (t:List (Nat × Bs)),v=.st vs t/\cs.length=sz/\ao w B O cs/\(∀ u∈cs,u.oneCell'=true)/\cs[o]?=some (.map m)/\(m.isNone=t.isEmpty)/\cN w X (.map m) t/\uq (fun j=>cs[j]?) fs vs:=by
 obtain⟨vs,t,rfl,PV,ht⟩:=hr
 obtain⟨mm,IQ,Hv⟩:=ht
 have Kf:=vj fs vs ds L3 PV
 obtain⟨On,_⟩:=qH w fs vs ds L3 Kf
 simp only[Bj,Bool.and_eq_true,decide_eq_true_eq,List.all_eq_true,List.mem_range,Bool.or_eq_true,beq_iff_eq,List.any_eq_true]at L4
 obtain⟨⟨ho,Gq⟩,Jx⟩:=L4
 obtain⟨m,rfl,T7⟩:∃ m,mm=.map m/\m.isNone=t.isEmpty:=by
  rcases Hv with⟨rfl,rfl⟩|⟨r,rfl,_,_,_,Ie⟩
  ·exact⟨none,rfl,rfl⟩
  ·exact⟨some r,rfl,by cases t with|nil=>exact absurd rfl Ie|cons _ _=>rfl⟩
 have Gn:∀ j,j<sz->∃ y,w.cell? ⟨B,O+j,none⟩=some y/\y.oneCell'=true:=fun j hj=>by
  rcases Jx j hj with rfl|⟨q,hq,rfl⟩
  ·exact⟨_,IQ,rfl⟩
  ·obtain⟨y,hy,hs⟩:=On q hq
   exact⟨y,hy,rE hs⟩
 have Ih:∀ j y,w.cell? ⟨B,O+j,none⟩=some y->j<sz->((List.range sz).map fun j=>(w.cell? ⟨B,O+j,none⟩).getD undef)[j]?=some y:=fun j y hy hj=>by
  rw[List.getElem?_map,List.getElem?_range hj,Option.map_some,hy];rfl
 refine⟨(List.range sz).map fun j=>(w.cell? ⟨B,O+j,none⟩).getD undef,m,vs,t,rfl,by simp,fun j c hj=>?_,fun u hu=>?_,Ih o _ IQ ho,T7,Hv,?_⟩
 ·have HY:j<sz:=by have:=(List.getElem?_eq_some_iff.1 hj).1;simpa using this
  obtain⟨y,hy,_⟩:=Gn j HY
  rw[Ih j y hy HY]at hj
  rw[hy,Option.some.inj hj]
 ·obtain⟨j,hj,rfl⟩:=List.mem_map.1 hu
  obtain⟨y,hy,h1⟩:=Gn j (List.mem_range.1 hj)
  rw[hy];exact h1
 ·-- each field's place is one of the part's
  exact vk (sz:=sz) (fun j y hy hj=>Ih j y hy hj) fs vs ds L3 (fun q hq=>by simpa using Gq q hq) Kf
theorem xS {g:GW}{nm:Nm}{o:Nat}{fs:Fds}(h:FP g nm o fs=true):∃ s∈g.sm,s.fDef=nm.n 7/\s.fSame=nm.n 8/\s.F=nm.n 3/\s.toff=o/\m9 fs=some s.ds/\Bj s.sz o s.ds=true:=by
 simp only[FP,List.any_eq_true]at h
 obtain⟨s,hs,h⟩:=h
 simp only[DB,Bool.and_eq_true,beq_iff_eq]at h
 obtain⟨⟨⟨⟨⟨h1,h2⟩,h3⟩,h4⟩,h5⟩,h6⟩:=h
 refine⟨s,hs,h1,h2,h3,h4,?_,h6⟩
 split at h5
 ·rename_i l hl
  rw[hl,eq_of_beq h5]
 ·cases h5
section
variable {P:Program}
theorem rG {e:Nat}(hV:bd P e false 1){l:List Value}{j:Nat}{v:Value}(h:l[j]?=some v)(w:World):(part e l.toArray j).run P w=.ok v w:=by
 simp[part,hV.agg w,h]
theorem jv {e d:Nat}(hV:bd P e false 1)(hk:P.underlying e=some (.int .u8))(a b:Bs)(w:World):∀ is:List Nat,(∀ j∈is,j<a.length/\j<b.length)->(Op.eqItems (d+1) e 1 (a.map bF).toArray (b.map bF).toArray is).run P w=.ok (is.all fun j=>a[j]?==b[j]?) w
 | [],_=>by simp[Op.eqItems]
 | j::is,h=>by
  obtain⟨h1,h2⟩:=h j (List.mem_cons_self ..)
  have ih:=jv (d:=d) hV hk a b w is fun j hj=>h j (List.mem_cons_of_mem _ hj)
  have p1:=rG hV (l:=a.map bF) (j:=j) (v:=bF a[j]) (by rw[List.getElem?_map,List.getElem?_eq_getElem h1];rfl) w
  have p2:=rG hV (l:=b.map bF) (j:=j) (v:=bF b[j]) (by rw[List.getElem?_map,List.getElem?_eq_getElem h2];rfl) w
  have p3:=run_equalIn_int (P:=P) w d e .u8 .u8 (a[j].toNat:Int) (b[j].toNat:Int) hk
  simp only[Op.eqItems,Nat.mul_one,Sem.run_bind,p1,p2,Result.andThen_ok,bF,p3,List.all_cons]
  have e1:((a[j].toNat:Int)==(b[j].toNat:Int))=(a[j]?==b[j]?):=by
   rw[List.getElem?_eq_getElem h1,List.getElem?_eq_getElem h2,Bool.eq_iff_iff]
   simp only[beq_iff_eq,Option.some.injEq,Int.natCast_inj,UInt8.toNat_inj]
  rw[e1]
  cases hq:(a[j]?==b[j]?) with
  | false=>simp
  | true=>simpa using ih
theorem vm {F:Nat}(h:Bn P F=true):∃ E i,P.underlying F=some (.array 16 E)/\P.info? E=some i/\P.cellsOf E=1/\bd P E false 1/\P.underlying E=some (.int .u8)/\P.eqGuardType P.depth F=false:=by
 unfold Bn at h
 split at h
 ·rename_i n E hu
  simp only[Bool.and_eq_true,beq_iff_eq,Bool.not_eq_true']at h
  obtain⟨⟨⟨⟨rfl,h2⟩,h5,h6⟩,h3⟩,h4⟩:=h
  obtain⟨i,hi⟩:=Option.isSome_iff_exists.1 h6
  refine⟨E,i,hu,hi,h5,varB_ok h2,?_,h4⟩
  split at h3
  ·assumption
  ·cases h3
 ·cases h
theorem Cd {l:Bs}(h:l.length=16):((List.range 16).all fun j=>l[j]?==(List.replicate 16 (0:UInt8))[j]?)=l.all fun b=>b==0:=by
 rw[Bool.eq_iff_iff]
 simp only[List.all_eq_true,List.mem_range,beq_iff_eq]
 constructor
 ·intro hh b hb
  obtain⟨j,hj,rfl⟩:=List.getElem_of_mem hb
  have:=hh j (by omega)
  rw[List.getElem?_eq_getElem hj,List.getElem?_replicate,if_pos (by omega)]at this
  simpa using this
 ·intro hh j hj
  have Nt:j<l.length:=by omega
  rw[List.getElem?_eq_getElem Nt,List.getElem?_replicate,if_pos hj]
  simpa using hh _ (List.getElem_mem Nt)
theorem wm {F:Nat}(h:Bn P F=true){l:Bs}(hl:l.length=16)(x y:Operand)(w:World) :
  (eqGuard .neq F x y (.agg (l.map bF).toArray) (.agg (Array.replicate 16 (.int .u8 0)))).run P w=.ok () w/\(binOp .neq F (.agg (l.map bF).toArray) (.agg (Array.replicate 16 (.int .u8 0)))).run P w=.ok (.bool !(l.all fun b=>b==0)) w:=by
 obtain⟨E,i,hu,hi,G0,hV,hk,hg⟩:=vm h
 refine⟨run_eqGuard_agg w .neq F x y _ _ hg,?_⟩
 have er:(Array.replicate 16 (Value.int .u8 0))=((List.replicate 16 (0:UInt8)).map bF).toArray:=by simp only[List.map_replicate,bF];rfl
 rw[er,run_neq_struct,run_equalIn_array w 9999 _ _ hu hi,G0,jv (d:=9998) hV hk l _ w _ (fun j hj=>by simp at hj ⊢;omega),Cd hl]
 rfl
end
section
variable {P:Program} {g:GW} {av:PF->Bool} {fl nl:Bool} {te:Nat} {L m k0 n B O:Nat} {d:Value} {bs:Bs} {K E:Act->World->Prop} {Q:Exit->Act->World->Prop} {a:Act} {w:World}
theorem qV {s T k F off:Nat}{y:Value}{ops:Array Oper}{QQ:Exit->Act->World->Prop}{r:List Oper}(hs:a.get s=pt B O)(hF:bp P T k F off false 1)(hy:w.cell? ⟨B,O+off,none⟩=some y)(hn:n+4<=a.tmps.size)
  (h:∀ a',Pv n k0 k0 n a a'->(∀ i,i<n->a'.get i=a.get i)->a'.get (n+3)=y->wpList P ops QQ r a' w) (hk:k0<=n):wpList P ops QQ (lY s T k F n++r) a w:=by
 show wpList P ops QQ (mk (some n) (.move (tm s))::mk (some (n+1)) (.nilCheck (tm n))::mk (some (n+2)) (.fieldAddr T (tm (n+1)) k)::mk (some (n+3)) (.load F (tm (n+2)))::r) a w
 refine ag ?_
 rw[aa,hs]
 refine aL (by rw[aa,am (by omega)];rfl) ?_
 refine bR (by rw[aa,am (by simp only[ab];omega)]) hF ?_
 refine b5 (p:=⟨B,O+off,none⟩) (v:=y) (by rw[aa,am (by simp only[ab];omega)]) (hF.var.agg w) hy (h _ ?_ (fun i hi=>?_) (am (by simp only[ab];omega)))
 ·exact((((Pv.refl _ _ _ _ _).put _ (by omega)).put _ (by omega)).put _ (by omega)).put _ (by omega)
 ·rw[ak (by omega),ak (by omega),ak (by omega),ak (by omega)]
theorem Ci {s T k F off:Nat}{cs:List Value}{ops:Array Oper}{QQ:Exit->Act->World->Prop}{r:List Oper}(hs:a.get s=pt B O)(hF:bp P T k F off true 16)(hl:cs.length=16)(hy:ao w B (O+off) cs)(hn:n+4<=a.tmps.size)
  (h:∀ a',Pv n k0 k0 n a a'->(∀ i,i<n->a'.get i=a.get i)->a'.get (n+3)=.agg cs.toArray->wpList P ops QQ r a' w) (hk:k0<=n):wpList P ops QQ (lY s T k F n++r) a w:=by
 show wpList P ops QQ (mk (some n) (.move (tm s))::mk (some (n+1)) (.nilCheck (tm n))::mk (some (n+2)) (.fieldAddr T (tm (n+1)) k)::mk (some (n+3)) (.load F (tm (n+2)))::r) a w
 refine ag ?_
 rw[aa,hs]
 refine aL (by rw[aa,am (by omega)];rfl) ?_
 refine bR (by rw[aa,am (by simp only[ab];omega)]) hF ?_
 refine fo (b:=B) (o:=O+off) (cs:=cs) (by rw[aa,am (by simp only[ab];omega)]) (hF.var.agg w) (by rw[hl];exact hF.var.size w) hy (h _ ?_ (fun i hi=>?_) (am (by simp only[ab];omega)))
 ·exact((((Pv.refl _ _ _ _ _).put _ (by omega)).put _ (by omega)).put _ (by omega)).put _ (by omega)
 ·rw[ak (by omega),ak (by omega),ak (by omega),ak (by omega)]
theorem C6 (K0:KW P g av fl nl te){s T off:Nat}{ty:Ty}{df:Int}{nm:Nm}{vv:V}{A:GC}{X:Nat->Prop}(G1:qp P av g T off ty nm=true)(_hInt:P.underlying g.tInt=some (.int .i64))(hs:a.get s=pt B O)(hr:Rp w X ty B (O+off) vv)(hA:Up A)(_hsn:s<n)(hk:k0<=n)(hn:(ga g s ty df nm A n).2<=a.tmps.size)
  (GP:iX ty df vv=false->∀ a' w' n',Pv n k0 k0 n a a'->(∀ i,i<n->a'.get i=a.get i)->ac (fun _=>False) w w'->n<=n'->(ga g s ty df nm A n).2=(A n').2->aQ P (A n').1 (Exit.then K Q) a' w')
  (H1:iX ty df vv=true->∀ a' w',Pv n k0 k0 n a a'->(∀ i,i<n->a'.get i=a.get i)->ac (fun _=>False) w w'->K a' w'):aQ P (ga g s ty df nm A n).1 (Exit.then K Q) a w:=by
 simp only[qp,Bool.and_eq_true,beq_iff_eq]at G1
 obtain⟨hT,G1⟩:=G1
 subst hT
 cases ty with
 | prim p=>
  by_cases hpu:p=.uuid
  ·subst hpu
   simp only[if_true,Bool.and_eq_true,beq_iff_eq]at G1
   obtain⟨⟨⟨Ji,R2⟩,hF⟩,Rv⟩:=G1
   have hF:=fldB_ok hF
   obtain⟨hV,hz⟩:=K0.uuid Ji
   have hA6:=hA (n+6)
   have VG:(A (n+6)).2<=a.tmps.size:=hn
   obtain⟨cs,hc,l,hl,rfl,rfl⟩:=hr
   have GS:iX (.prim .uuid) df (.s l)=l.all fun b=>b==0:=rfl
   rw[GS]at GP H1
   obtain⟨Ip,JS⟩:=wm (P:=P) Rv hl (tm (n+3)) (tm (n+4)) w
   have U9:(Instr.build (nm.n 3) #[]).run P w=.ok (.agg (Array.replicate 16 (.int .u8 0))) w:=by
    have:=hz w
    rw[<- R2]at this
    obtain⟨E,i,hu,hi,G0,P8,_,_⟩:=vm Rv
    simp[Instr.build,this,run_underlying hu,P8.size w,Instr.fill,Value.cells]
   have step:∀ (R:Exit->Act->World->Prop),(∀ a',Pv n k0 k0 n a a'->(∀ i,i<n->a'.get i=a.get i)->a'.eval (tm (n+5))=.bool (!(l.all fun b=>b==0))->R .normal a' w) ->
     wpList P ((fun n=>lY s (nm.n 1) (nm.n 2) (nm.n 3) n++[mk (some (n+4)) (.build (nm.n 3) #[]),mk (some (n+5)) (.binOp .neq (nm.n 3) (tm (n+3)) (tm (n+4)) 0)]) n).toArray R ((fun n=>lY s (nm.n 1) (nm.n 2) (nm.n 3) n++[mk (some (n+4)) (.build (nm.n 3) #[]),mk (some (n+5)) (.binOp .neq (nm.n 3) (tm (n+3)) (tm (n+4)) 0)]) n) a w:=by
    intro R hR
    refine Ci (n:=n) (k0:=k0) (off:=off) (cs:=l.map bF) hs hF (by simpa using hl) hc (by omega) (fun a1 Gk Gz h3=>?_) hk
    have Gu:=Gk.size
    refine aD (v:=.agg (Array.replicate 16 (.int .u8 0))) (w':=w) (by simp[execOp,mk,U9]) ?_
    refine aD (v:=.bool (!(l.all fun b=>b==0))) (w':=w) ?_ (wpList_nil (hR _ ((Gk.put _ (by omega)).put _ (by omega)) (fun i hi=>by rw[ak (by omega),ak (by omega)];exact Gz i hi) (by rw[aa,am (by simp only[ab];omega)])))
    have e3:(a1.put (some (n+4)) (.agg (Array.replicate 16 (.int .u8 0)))).eval (tm (n+3))=.agg (l.map bF).toArray:=by rw[aa,ak (by omega)];exact h3
    have e4:(a1.put (some (n+4)) (.agg (Array.replicate 16 (.int .u8 0)))).eval (tm (n+4))=.agg (Array.replicate 16 (.int .u8 0)):=by rw[aa,am (by omega)]
    simp only[execOp,mk,e3,e4,Sem.run_bind,Ip,JS,Result.andThen_ok,Sem.run_pure]
   cases hb:(l.all fun b=>b==0) with
   | true=>
    rw[hb]at H1 step
    exact dg (step _ fun a1 Gk Gz he=>⟨he,.skip (H1 rfl a1 w Gk Gz (ac.refl _ _))⟩)
   | false=>
    rw[hb]at GP step
    exact dt (step _ fun a1 Gk Gz he=>⟨he,GP rfl a1 w (n+6) Gk Gz (ac.refl _ _) (by omega) rfl⟩)
  simp only[if_neg hpu,Bool.and_eq_true]at G1
  obtain⟨hp,hF⟩:=G1
  have Hr:ga g s (.prim p) df nm A=ej 4 5 (fun n=>lY s (nm.n 1) (nm.n 2) (nm.n 3) n++[mk (some (n+4)) (.binOp .neq (nm.n 3) (tm (n+3)) (.const (CD p df)) 0)]) A b6:=by cases p<;>first|rfl|cases hp
  rw[Hr]at hn GP ⊢
  have hA5:=hA (n+5)
  have VH:(A (n+5)).2<=a.tmps.size:=hn
  obtain⟨x,Gn,rfl⟩:∃ x,w.cell? ⟨B,O+off,none⟩=some (.int p.kind x)/\vv=.n x:=by
   obtain⟨cs,hc,hl⟩:=hr
   cases p
   case bool=>cases hp
   case uuid=>cases hp
   all_goals
    obtain⟨x,rfl,rfl,_⟩:=hl
    exact⟨x,hc 0 _ rfl,rfl⟩
  have LD:CD p df=.int p.kind df:=by cases p<;>first|rfl|cases hp
  have GS:iX (.prim p) df (.n x)=(x==df):=by cases p<;>first|rfl|cases hp
  rw[GS]at GP H1
  by_cases hx:x=df
  ·refine dg (qV (n:=n) (k0:=k0) (off:=off) (y:=.int p.kind x) hs (fldB_ok hF) Gn (by omega) (fun a1 Gk Gz h3=>?_) hk)
   have Gu:=Gk.size
   refine bt (b:=false) (p:=x) (q:=df) (k:=p.kind) (by rw[aa];exact h3) (by rw[LD];rfl) (.inr (.inr (.inr (.inr (.inr ⟨rfl,by simp[hx]⟩))))) (wpList_nil ⟨by rw[aa,am (by omega)],.skip (H1 (by simp[hx]) _ w (Gk.put _ (by omega)) (fun i hi=>by rw[ak (by omega)];exact Gz i hi) (ac.refl _ _))⟩)
  ·refine dt (qV (n:=n) (k0:=k0) (off:=off) (y:=.int p.kind x) hs (fldB_ok hF) Gn (by omega) (fun a1 Gk Gz h3=>?_) hk)
   have Gu:=Gk.size
   refine bt (b:=true) (p:=x) (q:=df) (k:=p.kind) (by rw[aa];exact h3) (by rw[LD];rfl) (.inr (.inr (.inr (.inr (.inr ⟨rfl,by simp[hx]⟩))))) (wpList_nil ⟨by rw[aa,am (by omega)],GP (by simp[hx]) _ w (n+5) (Gk.put _ (by omega)) (fun i hi=>by rw[ak (by omega)];exact Gz i hi) (ac.refl _ _) (by omega) rfl⟩)
 | str nul=>
  cases nul with
  | none=>cases G1
  | some q=>
   simp only[Bool.and_eq_true]at G1
   obtain⟨hF,I0⟩:=G1
   obtain⟨el,IZ⟩:∃ el,P.underlying (nm.n 3)=some (.pointer el):=by
    unfold wu at I0
    split at I0
    ·rename_i el h;exact⟨el,h⟩
    ·cases I0
   have hA5:=hA (n+5)
   have VH:(A (n+5)).2<=a.tmps.size:=hn
   obtain⟨mp,Gn,HI⟩:∃ mp,w.cell? ⟨B,O+off,none⟩=some (.pointer mp)/\vv.isNul=mp.isNone:=by
    obtain⟨cs,hc,hl⟩:=hr
    rcases hl with⟨rfl,rfl⟩|⟨l,b,o,rfl,_,_,rfl,_⟩
    ·exact⟨none,hc 0 _ rfl,rfl⟩
    ·exact⟨_,hc 0 _ rfl,rfl⟩
   have GS:iX (.str (some q)) df vv=vv.isNul:=rfl
   rw[GS,HI]at GP H1
   cases mp with
   | none=>
    refine dg (qV (n:=n) (k0:=k0) (off:=off) (y:=.pointer none) hs (fldB_ok hF) Gn (by omega) (fun a1 Gk Gz h3=>?_) hk)
    have Gu:=Gk.size
    refine kS (m:=none) IZ (by rw[aa];exact h3) (wpList_nil ⟨by rw[aa,am (by omega)];rfl,.skip (H1 rfl _ w (Gk.put _ (by omega)) (fun i hi=>by rw[ak (by omega)];exact Gz i hi) (ac.refl _ _))⟩)
   | some p=>
    refine dt (qV (n:=n) (k0:=k0) (off:=off) (y:=.pointer (some p)) hs (fldB_ok hF) Gn (by omega) (fun a1 Gk Gz h3=>?_) hk)
    have Gu:=Gk.size
    refine kS (m:=some p) IZ (by rw[aa];exact h3) (wpList_nil ⟨by rw[aa,am (by omega)];rfl,GP rfl _ w (n+5) (Gk.put _ (by omega)) (fun i hi=>by rw[ak (by omega)];exact Gz i hi) (ac.refl _ _) (by omega) rfl⟩)
 | list nul esz e=>
  simp only[Bool.and_eq_true]at G1
  obtain⟨hF,G7⟩:=G1
  obtain⟨el,IZ⟩:∃ el,P.underlying (nm.n 3)=some (.slice el):=by
   unfold xT at G7
   split at G7
   ·rename_i el h;exact⟨el,h⟩
   ·cases G7
  have hA6:=hA (n+6)
  have VG:(A (n+6)).2<=a.tmps.size:=hn
  obtain⟨base,c,Gn⟩:∃ base c,w.cell? ⟨B,O+off,none⟩=some (.slice base vv.list.length c):=by
   rcases hr with⟨h1,rfl⟩|⟨xs,p,q,c,h1,_,_,_,_,rfl,_⟩
   ·exact⟨none,0,h1⟩
   ·exact⟨_,c,h1⟩
  have GS:iX (.list nul esz e) df vv=vv.list.isEmpty:=rfl
  rw[GS]at GP H1
  have step:∀ (b:Bool) (R:Exit->Act->World->Prop),b=decide ((0:Int)<(vv.list.length:Int))->(∀ a',Pv n k0 k0 n a a'->(∀ i,i<n->a'.get i=a.get i)->a'.eval (tm (n+5))=.bool b->R .normal a' w) ->
    wpList P ((fun n=>lY s (nm.n 1) (nm.n 2) (nm.n 3) n++[bi (some (n+4)) .len [tm (n+3)] [nm.n 3] g.tInt,mk (some (n+5)) (.binOp .gtr g.tInt (tm (n+4)) (ki .i64 0) 0)]) n).toArray R ((fun n=>lY s (nm.n 1) (nm.n 2) (nm.n 3) n++[bi (some (n+4)) .len [tm (n+3)] [nm.n 3] g.tInt,mk (some (n+5)) (.binOp .gtr g.tInt (tm (n+4)) (ki .i64 0) 0)]) n) a w:=by
   intro b R hb hR
   refine qV (n:=n) (k0:=k0) (off:=off) (y:=.slice base vv.list.length c) hs (fldB_ok hF) Gn (by omega) (fun a1 Gk Gz h3=>?_) hk
   have Gu:=Gk.size
   refine en (base:=base) (n:=vv.list.length) (c:=c) (by rw[aa];exact h3) IZ ?_
   refine bt (b:=b) (p:=(vv.list.length:Int)) (q:=0) (k:=.i64) (by rw[aa,am (by omega)]) rfl (.inr (.inr (.inr (.inl ⟨rfl,hb⟩)))) (wpList_nil (hR _ ((Gk.put _ (by omega)).put _ (by omega)) (fun i hi=>by rw[ak (by omega),ak (by omega)];exact Gz i hi) (by rw[aa,am (by simp only[ab];omega)])))
  cases hl:vv.list with
  | nil=>
   rw[hl]at H1
   exact dg (step false _ (by rw[hl];rfl) fun a1 Gk Gz hb=>⟨hb,.skip (H1 rfl a1 w Gk Gz (ac.refl _ _))⟩)
  | cons x xs=>
   rw[hl]at GP
   exact dt (step true _ (by rw[hl];simp) fun a1 Gk Gz hb=>⟨hb,GP rfl a1 w (n+6) Gk Gz (ac.refl _ _) (by omega) rfl⟩)
 | bytes _=>cases G1
 | struct nul toff fs=>
  cases nul with
  | some _=>cases G1
  | none=>
  cases toff with
  | none=>cases G1
  | some o=>
  simp only[Bool.and_eq_true]at G1
  obtain⟨hF,Lr⟩:=G1
  have hF:=fldB_ok hF
  obtain⟨s0,Jn,e1,e2,e3,e4,L3,L4⟩:=xS Lr
  have C:=K0.smC s0 Jn
  obtain⟨cs,mm,vs,t,rfl,Gp,HD,_,SI,T7,_,Kg⟩:=si L3 L4 hr
  obtain⟨On,hfd⟩:=qH w fs vs s0.ds L3 Kg
  have Nc:nB P (nm.n 3)=s0.sz:=by
   have h1:=hF.var.size w
   have h2:=C.var.size w
   rw[e3]at h2
   rw[h1]at h2
   simpa using h2
  have hA7:=hA (n+7)
  have hn7:(A (n+7)).2<=a.tmps.size:=hn
  have GS:iX (.struct none (some o) fs) df (.st vs t)=((s0.ds.all fun q=>eW q.2.1 q.2.2 ((cs[q.1]?).getD undef))&&mm.isNone):=by simp only[iX,V.fields,V.tags,hfd,T7]
  rw[GS]at GP H1
  have UW:dW [mk (some n) (.move (tm s)),mk (some (n+1)) (.nilCheck (tm n)),mk (some (n+2)) (.fieldAddr (nm.n 1) (tm (n+1)) (nm.n 2)),mk (some (n+3)) (.load (nm.n 3) (tm (n+2))),cl (some (n+4)) (nm.n 7) [],cl (some (n+5)) (nm.n 8) [tm (n+3),tm (n+4)],mk (some (n+6)) (.unOp .not (nm.n 9) (tm (n+5)))]=[false,false,false,false,true,true,true]:=by
   simp[dW,wU,mk,cl,gP,Op.operands,tm]
  have step:∀ (Q':Exit->Act->World->Prop),(∀ a' w',Pv n k0 k0 n a a'->(∀ i,i<n->a'.get i=a.get i)->ac (fun _=>False) w w'->a'.eval (tm (n+6))=.bool (!((s0.ds.all fun q=>eW q.2.1 q.2.2 ((cs[q.1]?).getD undef))&&mm.isNone))->Q' .normal a' w') ->
    aQ P (zJ 7 (fun n=>lY s (nm.n 1) (nm.n 2) (nm.n 3) n++[cl (some (n+4)) (nm.n 7) [],cl (some (n+5)) (nm.n 8) [tm (n+3),tm (n+4)],mk (some (n+6)) (.unOp .not (nm.n 9) (tm (n+5)))]) n).1 Q' a w:=by
   intro Q' hQ
   show aQ P (.region 1 [mk (some n) (.move (tm s)),mk (some (n+1)) (.nilCheck (tm n)),mk (some (n+2)) (.fieldAddr (nm.n 1) (tm (n+1)) (nm.n 2)),mk (some (n+3)) (.load (nm.n 3) (tm (n+2))),cl (some (n+4)) (nm.n 7) [],cl (some (n+5)) (nm.n 8) [tm (n+3),tm (n+4)],mk (some (n+6)) (.unOp .not (nm.n 9) (tm (n+5)))].toArray true) Q' a w
   refine .drw (fun w'=>ac (fun _=>False) w w') ?_
   rw[UW]
   simp only[dD,cq]
   refine fO ?_
   rw[aa,hs]
   refine mw (p:=⟨B,O,none⟩) (by rw[aa,am (by omega)];rfl) (ui (B:=B) (O:=O) (by rw[aa,am (by simp only[ab];omega)]) hF ?_)
   refine⟨.agg cs.toArray,fun w' hI=>?_,?_⟩
   ·have hl:=run_loadCells_list (P:=P) w' ⟨B,O+off,none⟩ cs (fun j v hj=>by rw[Addr.add_lit];exact hI.cell id (HD j v hj))
    have key:∀ A:Act,A.eval (tm (n+2))=pt B (O+off)->(execOp A.eval (mk (some (n+3)) (.load (nm.n 3) (tm (n+2))))).run P w'=.ok (.value (.agg cs.toArray)) w':=fun A e=>by
     simp only[pt]at e
     have G0:(sizeOf (nm.n 3)).run P w'=.ok cs.length w':=by rw[hF.var.size w',Nc,Gp]
     simp[execOp,mk,e,Instr.loadAt,Instr.sureAddr,loadVar,hF.var.agg w',G0,hl]
    exact key _ (by rw[aa,am (by simp only[ab];omega)];rfl)
   have GD:Pv n k0 k0 n a ((((a.put (some n) (pt B O)).put (some (n+1)) (.pointer (some ⟨B,O,none⟩))).put (some (n+2)) (.pointer (some ⟨B,O+off,none⟩))).put (some (n+3)) (.agg cs.toArray)):=((((Pv.refl _ _ _ _ _).put _ (by omega)).put _ (by omega)).put _ (by omega)).put _ (by omega)
   have P1:∀ i,i<n->((((a.put (some n) (pt B O)).put (some (n+1)) (.pointer (some ⟨B,O,none⟩))).put (some (n+2)) (.pointer (some ⟨B,O+off,none⟩))).put (some (n+3)) (.agg cs.toArray)).get i=a.get i:=fun i hi=>by rw[ak (by omega),ak (by omega),ak (by omega),ak (by omega)]
   have Wx:((((a.put (some n) (pt B O)).put (some (n+1)) (.pointer (some ⟨B,O,none⟩))).put (some (n+2)) (.pointer (some ⟨B,O+off,none⟩))).put (some (n+3)) (.agg cs.toArray)).get (n+3)=.agg cs.toArray:=am (by simp only[ab];omega)
   show eK P _ Q' _ ((((a.put (some n) (pt B O)).put (some (n+1)) (.pointer (some ⟨B,O,none⟩))).put (some (n+2)) (.pointer (some ⟨B,O+off,none⟩))).put (some (n+3)) (.agg cs.toArray)) w.drew
   generalize(((a.put (some n) (pt B O)).put (some (n+1)) (.pointer (some ⟨B,O,none⟩))).put (some (n+2)) (.pointer (some ⟨B,O+off,none⟩))).put (some (n+3)) (.agg cs.toArray)=a4 at GD P1 Wx ⊢
   have IP:=GD.size
   have HK:ac (fun _=>False) w w.drew:=ac.drew _ _
   refine⟨HK,ig (vs:=([]:List Value).toArray) rfl (e1 ▸ C.dE) rfl (e1 ▸ C.dC w.drew) fun e w1 hR=>?_⟩
   obtain⟨Gy,z,rfl,MS,Vq,Pq⟩:=hR
   refine⟨_,rfl,HK.trans Gy,ig (vs:=([.agg cs.toArray,.agg z.toArray]:List Value).toArray) rfl (e2 ▸ C.sE) ?_ (e2 ▸ C.sC w1 cs z mm Gp MS (e4 ▸ SI) Vq Pq On) fun e w2 hR=>?_⟩
   ·simp only[List.map_cons,List.map_nil,aa]
    rw[ak (by omega),am (by omega),Wx]
   obtain⟨Gs,rfl⟩:=hR
   have GN:ac (fun _=>False) w w2:=(HK.trans Gy).trans Gs
   refine⟨_,rfl,GN,?_⟩
   refine Dd (b:=(s0.ds.all fun q=>eW q.2.1 q.2.2 ((cs[q.1]?).getD undef))&&mm.isNone) (by rw[aa,am (by simp only[ab];omega)]) ⟨GN,hQ _ w2 (((GD.put _ (by omega)).put _ (by omega)).put _ (by omega)) (fun i hi=>by rw[ak (by omega),ak (by omega),ak (by omega)];exact P1 i hi) GN (by rw[aa,am (by simp only[ab];omega)])⟩
  cases hb:((s0.ds.all fun q=>eW q.2.1 q.2.2 ((cs[q.1]?).getD undef))&&mm.isNone) with
  | true=>
   rw[hb]at H1 step
   exact .seq (R:=Exit.then (fun a' w'=>aQ P (.cond (tm (n+6)) (A (n+7)).1 .skip) (Exit.then K Q) a' w') (Exit.then K Q)) (step _ fun a1 w1 Gk Gz Gy he=>.condF he (.skip (H1 rfl a1 w1 Gk Gz Gy))) (fun a' w' h=>h) (fun e a w he hq=>by rw[cA he]at hq;exact hq)
  | false=>
   rw[hb]at GP step
   exact .seq (R:=Exit.then (fun a' w'=>aQ P (.cond (tm (n+6)) (A (n+7)).1 .skip) (Exit.then K Q) a' w') (Exit.then K Q)) (step _ fun a1 w1 Gk Gz Gy he=>.condT he (GP rfl a1 w1 (n+7) Gk Gz Gy (by omega) rfl)) (fun a' w' h=>h) (fun e a w he hq=>by rw[cA he]at hq;exact hq)
end
end Go.Proofs.YtbgklecbmhaadaaGreatDoor.Kx