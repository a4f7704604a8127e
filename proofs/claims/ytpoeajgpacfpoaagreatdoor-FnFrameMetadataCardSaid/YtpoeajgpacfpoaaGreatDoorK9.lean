/-
  PLAIN LAWS AND CONTRACTS of messages, part 9.
-/
import Derived.Test.YtpoeajgpacfpoaaGreatDoorK7
import Derived.Test.YtpoeajgpacfpoaaGreatDoorK8
import Derived.ChangeKeysEq

namespace Go.Proofs.YtpoeajgpacfpoaaGreatDoor.Kx
open Go
section
variable {P:Program} {K:Kn}
theorem wQ {ops:Array Oper}{Q:Exit->Act->World->Prop}{r:List Oper}{a:Act}{w:World}{d:Option Nat}{T:Nat}{y:Operand}{k:IntKind}{x:Int}{s:Nat}(hy:a.eval y=.int k x)(hs:s<=k.bits)
  (h:wpList P ops Q r (a.put d (.int k (x/2^s))) w):wpList P ops Q (mk d (.binOp .shr T y (ki .u64 s) 0)::r) a w:=by
 refine aB (w':=w) ?_ h
 have e2:a.eval (ki .u64 s)=.int .u64 s:=rfl
 have Im:=ur (P:=P) (k:=k) (A:=T) (x:=x) hs w
 simp[execOp,mk,hy,e2,eqGuard,Im]
theorem q4 {ops:Array Oper}{Q:Exit->Act->World->Prop}{r:List Oper}{a:Act}{w:World}{d:Option Nat}{T:Nat}{y:Operand}{l:List UInt8}{k:IntKind}{i:Nat}{b:UInt8}(hT:P.underlying T=some .string)(hy:a.eval y=.int k i)(hi:l[i]?=some b)
  (h:wpList P ops Q r (a.put d (.int .u8 (b.toNat:Int))) w):wpList P ops Q (mk d (.index T (.const (strV l)) y)::r) a w:=by
 refine aB (w':=w) ?_ h
 have e2:a.eval (.const (strV l))=.string ⟨l.toArray⟩:=rfl
 have e3:(⟨l.toArray⟩:ByteArray)[i]?=some b:=by
  have Id:i<l.length:=(List.getElem?_eq_some_iff.1 hi).1
  have hb:=(List.getElem?_eq_some_iff.1 hi).2
  rw[getElem?_pos _ i (by simpa[ByteArray.size]using Id)]
  congr 1
 simp[execOp,mk,hy,e2,Instr.index,asIntOf,run_underlying hT,e3]
theorem yz {y:Nat}(h:y<256):kc[y]?=some (kc.getD y 0):=by
 have hl:kc.length=256:=by simp[kc]
 rw[List.getD_eq_getElem?_getD,List.getElem?_eq_getElem (by omega)]
 rfl
theorem uT {y:Nat}(h:y<256):mg[y]?=some (mg.getD y 0):=by
 have hl:mg.length=256:=by simp[mg]
 rw[List.getD_eq_getElem?_getD,List.getElem?_eq_getElem (by omega)]
 rfl
theorem mS {k:IntKind}{m:Nat}(h:m<128):k.wrap (m:Int)=m:=by
 cases k<;>simp[IntKind.wrap,IntKind.bits,IntKind.signed]<;>omega
theorem tA {m:Nat}(h:m<256):IntKind.u8.wrap (m:Int)=m:=by
 simp[IntKind.wrap,IntKind.bits,IntKind.signed];omega
theorem xj (b:UInt8):IntKind.i64.wrap (b.toNat:Int)=(b.toNat:Int):=by
 have:=b.toNat_lt
 simp[IntKind.wrap,IntKind.bits,IntKind.signed];omega
theorem jU {k:IntKind}{A:Nat}{x y:Int}(w:World):(binOp .add A (.int k x) (.int k y)).run P w=.ok (.int k (k.wrap (x+y))) w:=by simp[binOp,Op.intArith]
theorem ri (wt:WT P K){tU f ntmps:Nat}(hU:P.underlying tU=some (.int .u32))(hfn:FnIs P f ntmps [2] (cLen32 K tU))(Iv:19<=ntmps){x:Nat}(hx:x<4294967296)(w:World) :
  Calls P f #[.int .u32 x] w fun e w'=>e=.returned (.int .i64 (y6 x:Nat))/\ac (fun _=>False) w w':=by
 refine gh wt.mixed hfn (by omega) fun a h0 hs hd=>?_
 refine ad (aq (ak (wpList_nil ?_)))
 have g0:(a.put (some 2) (.int .i64 0)).get 0=.int .u32 x:=by rw[al (by omega)];exact h0
 have g2:(a.put (some 2) (.int .i64 0)).get 2=.int .i64 0:=ao (by omega)
 have gs:(a.put (some 2) (.int .i64 0)).tmps.size=ntmps:=by rw[ab];exact hs
 have gd:(a.put (some 2) (.int .i64 0)).defers=[]:=by rw[aj];exact hd
 show LW P _ 3 _ (a.put (some 2) (.int .i64 0)) w
 generalize a.put (some 2) (.int .i64 0)=a at g0 g2 gs gd ⊢
 have first:∀ (l:List GC) (Q:Exit->Act->World->Prop),(∀ a',a'.get 0=.int .u32 ((jp x).1:Nat)->a'.get 2=.int .i64 ((jp x).2:Nat)->a'.tmps.size=ntmps->a'.defers=[]->LW P l 7 Q a' w) ->
   LW P (dM 1 2 (fun n=>[mk (some n) (.move (tm 0)),mk (some (n+1)) (.binOp .geq tU (tm n) (ki .u32 65536) 0)])
    (gS [ay 2 fun n=>[mk (some n) (.move (tm 0)),mk (some (n+1)) (.binOp .shr tU (tm n) (ki .u64 16) 0),mk (some 0) (.assign (tm (n+1)))],aR 2 (.int .i64 16)]) bp::l) 3 Q a w:=by
  intro l Q h
  by_cases c:65536<=x
  ·refine ad (cL (ah ?_))
   rw[aa,g0]
   refine bk (b:=true) (p:=x) (q:=65536) (k:=.u32) (by rw[aa,ao (by omega)]) rfl (.inl ⟨rfl,by simp;omega⟩) (wpList_nil ⟨by rw[aa,ao (by simp only[ab];omega)],?_⟩)
   refine aY (ad (aq (ah ?_)))
   rw[aa,al (by omega),al (by omega),g0]
   refine wQ (k:=.u32) (x:=x) (s:=16) (by rw[aa,ao (by simp only[ab];omega)]) (by decide) (ak (wpList_nil ?_))
   rw[aa,ao (by simp only[ab];omega)]
   refine ad (aq (ak (wpList_nil (bf (h _ ?_ ?_ ?_ ?_)))))
   ·rw[al (by omega),ao (by simp only[ab];omega)]
    simp only[jp,if_pos c]
    simp
   ·rw[ao (by simp only[ab];omega)]
    simp only[jp,if_pos c]
    rfl
   ·simp only[ab];exact gs
   ·simp only[aj];exact gd
  ·refine ad (cD (ah ?_))
   rw[aa,g0]
   refine bk (b:=false) (p:=x) (q:=65536) (k:=.u32) (by rw[aa,ao (by omega)]) rfl (.inl ⟨rfl,by simp;omega⟩) (wpList_nil ⟨by rw[aa,ao (by simp only[ab];omega)],.skip (h _ ?_ ?_ ?_ ?_)⟩)
   ·rw[al (by omega),al (by omega),g0]
    simp only[jp,if_neg c]
   ·rw[al (by omega),al (by omega),g2]
    simp only[jp,if_neg c]
    rfl
   ·simp only[ab];exact gs
   ·simp only[aj];exact gd
 refine first _ _ fun a g0 g2 gs gd=>?_
 generalize hp:jp x=p at g0 g2
 have HX:p.1<65536:=by rw[<- hp];simp only[jp];split<;>simp<;>omega
 have HZ:p.2<=16:=by rw[<- hp];simp only[jp];split<;>simp
 have second:∀ (l:List GC) (Q:Exit->Act->World->Prop),(∀ a',a'.get 0=.int .u32 ((gV p).1:Nat)->a'.get 2=.int .i64 ((gV p).2:Nat)->a'.tmps.size=ntmps->a'.defers=[]->LW P l 13 Q a' w) ->
   LW P (dM 1 2 (fun n=>[mk (some n) (.move (tm 0)),mk (some (n+1)) (.binOp .geq tU (tm n) (ki .u32 256) 0)])
    (gS [ay 2 fun n=>[mk (some n) (.move (tm 0)),mk (some (n+1)) (.binOp .shr tU (tm n) (ki .u64 8) 0),mk (some 0) (.assign (tm (n+1)))],
     ay 2 fun n=>[mk (some n) (.move (tm 2)),mk (some (n+1)) (.binOp .add K.tInt (tm n) (ki .i64 8) 0),mk (some 2) (.assign (tm (n+1)))]]) bp::l) 7 Q a w:=by
  intro l Q h
  by_cases c:256<=p.1
  ·refine ad (cL (ah ?_))
   rw[aa,g0]
   refine bk (b:=true) (p:=p.1) (q:=256) (k:=.u32) (by rw[aa,ao (by omega)]) rfl (.inl ⟨rfl,by simp;omega⟩) (wpList_nil ⟨by rw[aa,ao (by simp only[ab];omega)],?_⟩)
   refine aY (ad (aq (ah ?_)))
   rw[aa,al (by omega),al (by omega),g0]
   refine wQ (k:=.u32) (x:=p.1) (s:=8) (by rw[aa,ao (by simp only[ab];omega)]) (by decide) (ak (wpList_nil ?_))
   rw[aa,ao (by simp only[ab];omega)]
   refine ad (aq (ah ?_))
   rw[aa,al (by omega),al (by first|omega|simp[ay]),al (by first|omega|simp[ay]),al (by omega),al (by omega),g2]
   refine co (k:=.i64) (m:=p.2) (n:=8) (by rw[aa,ao (by simp only[ab];first|omega|(simp[ay];omega))]) rfl (by simp) (jU w) (ak (wpList_nil (bf (h _ ?_ ?_ ?_ ?_))))
   ·rw[al (by omega),al (by first|omega|simp[ay]),al (by first|omega|simp[ay]),ao (by simp only[ab];omega)]
    simp only[gV,if_pos c]
    simp
   ·rw[ao (by simp only[ab];omega),aa,ao (by simp only[ab];first|omega|(simp[ay];omega))]
    simp only[gV,if_pos c]
    have:((p.2:Int)+8)=((p.2+8:Nat):Int):=by omega
    rw[this,mS (by omega)]
   ·simp only[ab];exact gs
   ·simp only[aj];exact gd
  ·refine ad (cD (ah ?_))
   rw[aa,g0]
   refine bk (b:=false) (p:=p.1) (q:=256) (k:=.u32) (by rw[aa,ao (by omega)]) rfl (.inl ⟨rfl,by simp;omega⟩) (wpList_nil ⟨by rw[aa,ao (by simp only[ab];omega)],.skip (h _ ?_ ?_ ?_ ?_)⟩)
   ·rw[al (by omega),al (by omega),g0]
    simp only[gV,if_neg c]
   ·rw[al (by omega),al (by omega),g2]
    simp only[gV,if_neg c]
   ·simp only[ab];exact gs
   ·simp only[aj];exact gd
 refine second _ _ fun a g0 g2 gs gd=>?_
 have JV:(gV p).1<256:=by simp only[gV];split<;>omega
 have Lk:(gV p).2<=24:=by simp only[gV];split<;>(try dsimp only)<;>omega
 have hlx:y6 x=(gV p).2+(kc.getD (gV p).1 0).toNat:=by simp only[y6,hp]
 have h8:=(u0 _ JV).1
 rw[hlx]
 generalize gV p=q at g0 g2 JV Lk h8 ⊢
 refine ad (aq (ah (ah ?_)))
 rw[aa,g2,aa,al (by omega),g0]
 refine aL (k:=.u32) (k':=.u8) (m:=q.1) (by rw[aa,ao (by simp only[ab];omega)]) hU wt.dU8 ?_
 rw[tA JV]
 refine q4 wt.dStr (by rw[aa,ao (by simp only[ab];omega)]) (yz JV) ?_
 refine aL (k:=.u8) (k':=.i64) (m:=((kc.getD q.1 0).toNat:Int)) (by rw[aa,ao (by simp only[ab];omega)]) wt.dU8 wt.dInt ?_
 rw[xj]
 refine co (k:=.i64) (m:=q.2) (n:=((kc.getD q.1 0).toNat:Int)) ?_ ?_ (by simp) (jU w) ?_
 ·rw[aa,al (by omega),al (by omega),al (by omega),al (by omega),ao (by omega)]
 ·rw[aa,ao (by simp only[ab];omega)]
 rw[show((q.2:Int)+((kc.getD q.1 0).toNat:Int))=((q.2+(kc.getD q.1 0).toNat:Nat):Int) by omega,mS (by omega)]
 refine ak (wpList_nil (ad (.ret ?_)))
 rw[aa,ao (by simp only[ab];omega)]
 exact⟨by simp only[aj];exact gd,by rw[ao (by simp only[ab];omega)],ac.refl _ _⟩
theorem qA (wt:WT P K){tU f f2 ntmps nt2:Nat}(hU:P.underlying tU=some (.int .u32))(Kp:FnIs P f2 nt2 [2] (cLen32 K tU))(La:19<=nt2)(hfn:FnIs P f ntmps [2] (cUvLen K f2))(Iv:8<=ntmps){x:Nat}(hx:x<4294967296)(w:World) :
  Calls P f #[.int .u32 x] w fun e w'=>e=.returned (.int .i64 (oH x:Nat))/\ac (fun _=>False) w w':=by
 obtain⟨hl,hu⟩:=B0 hx
 refine gh wt.mixed hfn (by omega) fun a h0 hs hd=>?_
 refine ad (aq (ak (wpList_nil ?_)))
 show LW P _ 3 _ (a.put (some 2) (.int .i64 0)) w
 refine ad (aq (ah ?_))
 rw[aa,al (by omega),h0]
 refine aN (vs:=#[.int .u32 x]) Kp.ent (by simp[aa,ao (show 3<(a.put (some 2) (Value.int .i64 0)).tmps.size by rw[ab];omega)]) (ri wt hU Kp La hx w) fun e w' hR=>⟨_,hR.1,?_⟩
 refine aL (k:=.i64) (k':=.u8) (m:=(y6 x:Nat)) (by rw[aa,ao (by simp only[ab];omega)]) wt.dInt wt.dU8 ?_
 rw[tA (by omega)]
 refine q4 wt.dStr (by rw[aa,ao (by simp only[ab];omega)]) (uT (by omega)) ?_
 refine aL (k:=.u8) (k':=.i64) (m:=((mg.getD (y6 x) 0).toNat:Int)) (by rw[aa,ao (by simp only[ab];omega)]) wt.dU8 wt.dInt ?_
 rw[xj,hu]
 refine ak (wpList_nil (ad (.ret ?_)))
 rw[aa,ao (by simp only[ab];omega)]
 exact⟨by simp only[aj];exact hd,by rw[ao (by simp only[ab];omega)],hR.2⟩
theorem q9 (wt:WT P K){j L:Nat}{x:Int}{d:Value}{bs:Bs}{w:World}{E N:Act->World->Prop}(Ra:0<=x)(hx:x<2^IntKind.u32.bits)(hd:aA w L K.tU8 d bs)(hL:L<=w.heap.size) :
  ∀ (cs:List (Nat × List OE)) (es:List OE) (n:Nat) (a:Act),(∀ p∈cs,p.2≠[]/\p.2.length<=10/\∀ e∈p.2,∀ s,e.1=some s->s<=32)->cs.lookup j=some es->bs.length+es.length<=di->6<n->(eM K cs n).2<=a.tmps.size->a.get 0=d->a.get 1=.int .u32 x->a.get 6=.int .i64 j ->
   (∀ a' w' d',a'.defers=a.defers->a'.get 4=d'->Gr L K.tU8 d w d' (bs++bz es x) w'->E a' w')->aK P (eM K cs n).1 (Rt N E) a w
 | [],es,n,a,_,h,_,_,_,_,_,_,_=>by cases h
 | (i,es')::cs,es,n,a,Io,h,hlim,hn,hs,h0,h1,h6,hE=>by
  have JE:∀ (cs:List (Nat × List OE)) (n:Nat),n<=(eM K cs n).2:=by
   intro cs
   induction cs with
   | nil=>intro n;exact Nat.le_refl _
   | cons p cs ih=>
    intro n
    obtain⟨i,es⟩:=p
    have:=ih (gj K K.tU32 .u32 es (n+2)).2
    have h2:(gj K K.tU32 .u32 es (n+2)).2=n+2+(3+d8 es):=rfl
    simp only[eM]
    omega
  have Xa:=JE cs (gj K K.tU32 .u32 es' (n+2)).2
  have h2:(gj K K.tU32 .u32 es' (n+2)).2=n+2+(3+d8 es'):=rfl
  simp only[eM]at hs ⊢
  have MY:∀ (b:Bool) (X:Act->World->Prop),b=decide ((j:Int)=(i:Int))->(∀ a',Pv n 0 0 n a a'->a'.get n=.bool b->X a' w)->aK P (rg [mk (some (n+1)) (.binOp .eql K.tInt (tm 6) (ki .i64 i) 0),mk (some n) (.assign (tm (n+1)))]) (Rt X E) a w:=by
   intro b X hb hX
   refine .reg (bk (b:=b) (p:=j) (q:=i) (k:=.i64) (by rw[aa];exact h6) rfl (.inr (.inr (.inr (.inr (.inl ⟨rfl,hb⟩))))) (ak (wpList_nil ?_)))
   rw[aa,ao (by omega)]
   exact hX _ (((Pv.refl _ _ _ _ _).put _ (.inr (by omega))).put _ (.inl rfl)) (ao (by rw[ab];omega))
  by_cases Jy:j=i
  ·subst Jy
   rw[List.lookup_cons_self]at h
   obtain rfl:=Option.some.inj h
   refine .seq (MY true (fun a' w'=>aK P (.cond (tm n) (gj K K.tU32 .u32 es' (n+2)).1 (eM K cs (gj K K.tU32 .u32 es' (n+2)).2).1) (Rt N E) a' w') (by simp) fun a' hp hg=>?_) (fun a' w' hh=>hh) (fun e a w he hq=>by cases e<;>first|exact absurd rfl he|exact hq)
   have Ii:=hp.size
   obtain⟨o1,o2,o3⟩:=Io _ (List.mem_cons_self ..)
   refine .condT hg (xB wt.oct wt.dU32 wt.dU8 (by omega) (by rw[hp.get 0 (by omega) (by omega)];exact h0) (by rw[hp.get 1 (by omega) (by omega)];exact h1) (fun e he=>.inr ⟨.inr (.inl rfl),Ra,hx,o3 e he⟩) o1 o2 (by omega) hd hL hlim fun a'' w' d' hd' h4 I0=>hE a'' w' d' (hd'.trans hp.defers) h4 I0)
  ·rw[List.lookup_cons,show(j==i)=false by simpa using Jy]at h
   refine .seq (MY false (fun a' w'=>aK P (.cond (tm n) (gj K K.tU32 .u32 es' (n+2)).1 (eM K cs (gj K K.tU32 .u32 es' (n+2)).2).1) (Rt N E) a' w') (by simp;omega) fun a' hp hg=>?_) (fun a' w' hh=>hh) (fun e a w he hq=>by cases e<;>first|exact absurd rfl he|exact hq)
   have Ii:=hp.size
   exact .condF hg (q9 wt Ra hx hd hL cs es _ a' (fun p hp=>Io p (List.mem_cons_of_mem _ hp)) h hlim (by omega) (by omega) (by rw[hp.get 0 (by omega) (by omega)];exact h0) (by rw[hp.get 1 (by omega) (by omega)];exact h1) (by rw[hp.get 6 (by omega) (by omega)];exact h6)
    fun a'' w' d' hd' h4 I0=>hE a'' w' d' (hd'.trans hp.defers) h4 I0)
theorem ap_uv (wt:WT P K){tU f f1 f2 ntmps nt1 nt2:Nat}(hU:P.underlying tU=some (.int .u32))(Kp:FnIs P f2 nt2 [2] (cLen32 K tU))(La:19<=nt2)(S2:FnIs P f1 nt1 [2] (cUvLen K f2))(PT:8<=nt1)(hfn:FnIs P f ntmps [4] (cAUv K f1))(Iv:93<=ntmps)
  {x:Nat} (hx:x<4294967296) (w:World):ApC P K.tU8 f (.int .u32 x) (uvar x) w:=by
 intro L d bs hd hL hlim
 obtain⟨es,KP,hval⟩:=zB hx
 refine ft wt.mixed hfn (by omega) fun a h0 h1 hs I4=>?_
 refine ad (aY (ad (aq (ah ?_))))
 rw[aa,h1]
 refine aN (vs:=#[.int .u32 x]) S2.ent (by simp[aa,ao (show 5<a.tmps.size by omega)]) (qA wt hU Kp La S2 PT hx w) fun e w1 hR=>⟨_,hR.1,wpList_nil ?_⟩
 refine ad (.block ?_)
 have Ib:(bz es x).length=es.length:=by simp[bz]
 refine .mono (q9 (E:=fun a' w'=>a'.defers=[]/\∃ d',.returned (a'.get 4)=Ending.returned d'/\Gr L K.tU8 d w d' (bs++uvar x) w') (N:=fun _ _=>False) wt (j:=oH x) (x:=x) (by omega) (by simp[IntKind.bits];omega) (hd.keep hR.2 fun _ _ h=>h) (by have:=hR.2.size;omega) xd es 7 _ (by decide) KP (by rw[<- Ib,hval];exact hlim) (by omega) (by simp only[ab];rw[hs,show(eM K xd 7).2=92 from rfl];omega)
  (by rw[al (by omega),al (by omega)];exact h0) (by rw[al (by omega),al (by omega)];exact h1) (ao (by simp only[ab];omega)) fun a' w' d' hd' h4 hg=>⟨?_,d',by rw[h4],?_⟩) fun e a w hq=>?_
 ·rw[hd'];simp only[aj];exact I4
 ·rw[<- hval];exact Gr.pre hR.2 (fun _ _ h=>h) hg
 ·cases e<;>first|exact hq|exact hq.elim
end
section
variable {P:Program} {K:Kn}
theorem lI {ops:Array Oper}{Q:Exit->Act->World->Prop}{l:List Oper}{a:Act}{w:World}{d:Option Nat}{tP el:Nat}{x:Operand}{m:Option Addr}(hM:P.underlying tP=some (.pointer el))(hx:a.eval x=.pointer m)(h:wpList P ops Q l (a.put d (.bool m.isNone)) w) :
  wpList P ops Q (mk d (.binOp .eql tP x (.const (.pointer none)) 0)::l) a w:=by
 refine aB ?_ h
 have hc:a.eval (.const (.pointer none))=.pointer none:=rfl
 have he:(eqGuard .eql tP x (.const (.pointer none)) (.pointer m) (.pointer none)).run P w=.ok () w:=by simp[eqGuard]
 have hr:(binOp .eql tP (.pointer m) (.pointer none)).run P w=.ok (.bool m.isNone) w:=by
  have h1:(Op.equal tP (.pointer m) (.pointer none)).run P w=.ok m.isNone w:=by
   cases m with
   | none=>exact(show(Op.equalIn (9999+1) tP (.pointer none) (.pointer none)).run P w=_ from by
     have:∀ d:Nat,(Op.equalIn (d+1) tP (.pointer none) (.pointer none)).run P w=.ok true w:=fun d=>by simp[Op.equalIn,run_underlying hM]
     exact this 9999)
   | some r=>exact(show(Op.equalIn (9999+1) tP (.pointer (some r)) (.pointer none)).run P w=_ from by
     have:∀ d:Nat,(Op.equalIn (d+1) tP (.pointer (some r)) (.pointer none)).run P w=.ok false w:=fun d=>by simp[Op.equalIn,run_underlying hM]
     exact this 9999)
  simp[binOp,h1]
 simp[execOp,mk,hx,hc,he,hr]
theorem wP {ops:Array Oper}{Q:Exit->Act->World->Prop}{l:List Oper}{a:Act}{w:World}{d:Option Nat}{tS el:Nat}{x:Operand}{m:Option Addr}{n c:Nat}(hM:P.underlying tS=some (.slice el))(hx:a.eval x=.slice m n c)(h:wpList P ops Q l (a.put d (.bool m.isNone)) w) :
  wpList P ops Q (mk d (.binOp .eql tS x (.const (.slice none 0 0)) 0)::l) a w:=by
 refine aB ?_ h
 have hc:a.eval (.const (.slice none 0 0))=.slice none 0 0:=rfl
 have he:(eqGuard .eql tS x (.const (.slice none 0 0)) (.slice m n c) (.slice none 0 0)).run P w=.ok () w:=by simp[eqGuard]
 have hr:(binOp .eql tS (.slice m n c) (.slice none 0 0)).run P w=.ok (.bool m.isNone) w:=by
  have h1:(Op.equal tS (.slice m n c) (.slice none 0 0)).run P w=.ok m.isNone w:=by
   cases m with
   | none=>exact(show(Op.equalIn (9999+1) tS (.slice none n c) (.slice none 0 0)).run P w=_ from by
     have:∀ d:Nat,(Op.equalIn (d+1) tS (.slice none n c) (.slice none 0 0)).run P w=.ok true w:=fun d=>by simp[Op.equalIn,run_underlying hM]
     exact this 9999)
   | some r=>exact(show(Op.equalIn (9999+1) tS (.slice (some r) n c) (.slice none 0 0)).run P w=_ from by
     have:∀ d:Nat,(Op.equalIn (d+1) tS (.slice (some r) n c) (.slice none 0 0)).run P w=.ok false w:=fun d=>by simp[Op.equalIn,run_underlying hM]
     exact this 9999)
  simp[binOp,h1]
 simp[execOp,mk,hx,hc,he,hr]
theorem kJ {ops:Array Oper}{Q:Exit->Act->World->Prop}{l:List Oper}{a:Act}{w:World}{d:Option Nat}{tP el:Nat}{x:Operand}{m:Option Addr}(hM:P.underlying tP=some (.pointer el))(hx:a.eval x=.pointer m)(h:wpList P ops Q l (a.put d (.bool m.isSome)) w) :
  wpList P ops Q (mk d (.binOp .neq tP x (.const (.pointer none)) 0)::l) a w:=by
 refine aB ?_ h
 have hc:a.eval (.const (.pointer none))=.pointer none:=rfl
 have he:(eqGuard .neq tP x (.const (.pointer none)) (.pointer m) (.pointer none)).run P w=.ok () w:=by simp[eqGuard]
 have hr:(binOp .neq tP (.pointer m) (.pointer none)).run P w=.ok (.bool m.isSome) w:=by
  have h1:(Op.equal tP (.pointer m) (.pointer none)).run P w=.ok m.isNone w:=by
   cases m with
   | none=>exact(show(Op.equalIn (9999+1) tP (.pointer none) (.pointer none)).run P w=_ from by
     have:∀ d:Nat,(Op.equalIn (d+1) tP (.pointer none) (.pointer none)).run P w=.ok true w:=fun d=>by simp[Op.equalIn,run_underlying hM]
     exact this 9999)
   | some r=>exact(show(Op.equalIn (9999+1) tP (.pointer (some r)) (.pointer none)).run P w=_ from by
     have:∀ d:Nat,(Op.equalIn (d+1) tP (.pointer (some r)) (.pointer none)).run P w=.ok false w:=fun d=>by simp[Op.equalIn,run_underlying hM]
     exact this 9999)
  cases m<;>simp[binOp,h1]
 simp[execOp,mk,hx,hc,he,hr]
theorem io {k:IntKind}{m:Nat}(h:(k=.i8/\m=1) \/ ((k=.i16 \/ k=.u16)/\m=2) \/ ((k=.i32 \/ k=.u32)/\m=4) \/ ((k=.i64 \/ k=.u64)/\m=8))(x:Int):be m (k.wrap x)=be m x:=by
 rw[<- zf m (k.wrap x) m (Nat.le_refl _),<- zf m x m (Nat.le_refl _)]
 congr 1
 rcases h with⟨rfl,rfl⟩|⟨rfl|rfl,rfl⟩|⟨rfl|rfl,rfl⟩|⟨rfl|rfl,rfl⟩<;>simp[IntKind.wrap,IntKind.bits,IntKind.signed]<;>omega
theorem kz {te L:Nat}{d d':Value}{bs enc:Bs}{w w':World}{x:Value}(hx:x=d')(hg:Gr L te d w d' (bs++enc) w'):∃ d',Ending.returned x=Ending.returned d'/\Gr L te d w d' (bs++enc) w':=⟨d',by rw[hx],hg⟩
theorem zj (wt:WT P K)(hF:b7 K.tU16=true){f ntmps:Nat}(hfn:FnIs P f ntmps [4] (cAU16 K))(Iv:13<=ntmps){x:Int}(hx:0<=x/\x<65536)(w:World):ApC P K.tU8 f (.int .u16 x) (be 2 x) w:=by
 have h:=zl wt (wt.dU16 hF) hfn (by simp[d8,eu];omega) (by simp) (by simp) (x:=x) (fun e he=>.inr ⟨.inl rfl,hx.1,by simp[IntKind.bits];omega,fun s hs=>by simp at he;rcases he with rfl|rfl<;>simp at hs;subst hs;decide⟩) w
 rwa [HE]at h
theorem E4 (wt:WT P K){f ntmps:Nat}(hfn:FnIs P f ntmps [4] (cAU32 K))(Iv:19<=ntmps){x:Int}(hx:0<=x/\x<4294967296)(w:World):ApC P K.tU8 f (.int .u32 x) (be 4 x) w:=by
 have h:=zl wt wt.dU32 hfn (by simp[d8,eu];omega) (by simp) (by simp) (x:=x) (fun e he=>.inr ⟨.inr (.inl rfl),hx.1,by simp[IntKind.bits];omega,fun s hs=>by simp at he;rcases he with rfl|rfl|rfl|rfl<;>simp at hs<;>subst hs<;>decide⟩) w
 rwa [G0]at h
theorem iO {k:IntKind}(x:Int):(k=.u16->0<=k.wrap x/\k.wrap x<65536)/\(k=.u32->0<=k.wrap x/\k.wrap x<4294967296)/\(k=.u64->0<=k.wrap x/\k.wrap x<18446744073709551616):=by
 refine⟨?_,?_,?_⟩<;>(intro h;subst h;simp[IntKind.wrap,IntKind.bits,IntKind.signed];omega)
theorem ap_i16 (wt:WT P K)(hF:b7 K.tU16=true){f f2 ntmps nt2:Nat}(Kp:FnIs P f2 nt2 [4] (cAU16 K))(La:13<=nt2)(hfn:FnIs P f ntmps [4] (cACv K.tI16 K.tU16 f2))(Iv:9<=ntmps)(x:Int)(w:World):ApC P K.tU8 f (.int .i16 x) (be 2 x) w:=
 zm wt wt.dI16 (wt.dU16 hF) hfn Iv Kp.ent (io (k:=.u16) (.inr (.inl ⟨.inr rfl,rfl⟩)) x ▸ zj wt hF Kp La ((iO x).1 rfl) w)
theorem ap_i32 (wt:WT P K){f f2 ntmps nt2:Nat}(Kp:FnIs P f2 nt2 [4] (cAU32 K))(La:19<=nt2)(hfn:FnIs P f ntmps [4] (cACv K.tI32 K.tU32 f2))(Iv:9<=ntmps)(x:Int)(w:World):ApC P K.tU8 f (.int .i32 x) (be 4 x) w:=
 zm wt wt.dI32 wt.dU32 hfn Iv Kp.ent (io (k:=.u32) (.inr (.inr (.inl ⟨.inr rfl,rfl⟩))) x ▸ E4 wt Kp La ((iO x).2.1 rfl) w)
theorem ap_len (wt:WT P K){f f2 ntmps:Nat}(hE:Ent P f2)(hc:∀ x w,ApC P K.tU8 f2 (.int .i32 x) (be 4 x) w)(hfn:FnIs P f ntmps [4] (cACv K.tInt K.tI32 f2))(Iv:9<=ntmps)(x:Int)(w:World):ApC P K.tU8 f (.int .i64 x) (be 4 x) w:=
 zm wt wt.dInt wt.dI32 hfn Iv hE (io (k:=.i32) (.inr (.inr (.inl ⟨.inl rfl,rfl⟩))) x ▸ hc _ w)
theorem qD (n:Nat):IntKind.u32.wrap (1+IntKind.u32.wrap (n:Int))=(dj (n+1):Nat):=by simp[IntKind.wrap,IntKind.bits,IntKind.signed,dj];omega
theorem lK (n:Nat):dj n<4294967296:=by simp only[dj];omega
theorem ap_clen (wt:WT P K){f f2 ntmps:Nat}(hE:Ent P f2)(hc:∀ x w,x<4294967296->ApC P K.tU8 f2 (.int .u32 (x:Nat)) (uvar x) w)(hfn:FnIs P f ntmps [4] (cACv1 K f2))(Iv:10<=ntmps)(n:Nat)(w:World):ApC P K.tU8 f (.int .i64 n) (uvar (dj (n+1))) w:=
 E5 wt hfn Iv hE (by rw[qD];exact hc _ w (lK _))
theorem uG (wt:WT P K){c r n L:Nat}{d:Value}{bs:Bs}{N E:Act->World->Prop}{a:Act}{w:World}(hc:c<256)(h0:a.get 0=d)(hr:r<n)(hs:n+3<=a.tmps.size)(hd:aA w L K.tU8 d bs)(hL:L<=w.heap.size)(hlim:bs.length+1<=di)
  (h:∀ a' w' d',a'.defers=a.defers->a'.get r=d'->Gr L K.tU8 d w d' (bs++[UInt8.ofNat c]) w'->E a' w'):LW P (CQ K c r) n (Rt N E) a w:=by
 refine ad (aq (ah ?_))
 rw[aa,h0]
 have ho:aJ (UInt8.ofNat c)=.int .u8 (c:Int):=by simp[aJ];omega
 refine dK (l:=[UInt8.ofNat c]) wt.oct ?_ (by simp) (by simp) ?_
 ·simp only[List.map_cons,List.map_nil,ho,rK]
  rfl
 have hk:ac (fun _=>False) w (w.alloc (.cells ([UInt8.ofNat c].map aJ).toArray K.tU8 (0,0))):=ac.alloc _ _ _
 have Jw:ez (w.alloc (.cells ([UInt8.ofNat c].map aJ).toArray K.tU8 (0,0))) w.heap.size 0 [UInt8.ofNat c]:=by
  intro j b hj
  have:=aE w (.cells ([UInt8.ofNat c].map aJ).toArray K.tU8 (0,0))
  simp only[World.cell?,this,Nat.zero_add,List.getElem?_toArray,List.getElem?_map,hj]
  rfl
 refine eh wt.oct (d:=d) (L:=L) (bs:=bs) (l:=[UInt8.ofNat c]) ?_ (x:=.slice (some ⟨w.heap.size,0,none⟩) 1 1) ?_ (hd.keep hk fun _ _ h=>h) (ic wt.oct Jw) (by have:=hk.size;omega) hlim fun d' w' hg=>?_
 ·rw[aa,al (by omega),ao (by omega)]
 ·rw[aa,ao (by rw[ab];omega)]
  rfl
 refine ak (wpList_nil (ad (.ret ?_)))
 rw[aa,ao (by simp only[ab];omega)]
 exact h _ w' d' (by simp only[aj]) (ao (by simp only[ab];omega)) (Gr.pre hk (fun _ _ h=>h) hg)
theorem AG (wt:WT P K){f ntmps:Nat}(hfn:FnIs P f ntmps [4] (cABool K))(Iv:12<=ntmps)(b:Bool)(w:World):ApC P K.tU8 f (.bool b) [if b then 1 else 0] w:=by
 intro L d bs hd hL hlim
 refine ft wt.mixed hfn (by omega) fun a h0 h1 hs I4=>?_
 cases b with
 | true=>
  refine ad (cL (ah (wpList_nil ⟨by rw[aa,ao (by omega),aa,h1],?_⟩)))
  rw[aO]
  refine aY (uG wt (c:=1) (r:=4) (by omega) (by rw[al (by omega)];exact h0) (by omega) (by simp only[ab];omega) hd hL hlim fun a' w' d' hd' h4 hg=>⟨?_,kz h4 hg⟩)
  rw[hd',aj];exact I4
 | false=>
  refine ad (cD (ah (wpList_nil ⟨by rw[aa,ao (by omega),aa,h1],.skip ?_⟩)))
  refine uG wt (c:=0) (r:=4) (by omega) (by rw[al (by omega)];exact h0) (by show 4<5+1+3;omega) (by simp only[ab];show 5+1+3+3<=_;omega) hd hL hlim fun a' w' d' hd' h4 hg=>⟨?_,kz h4 hg⟩
  rw[hd',aj];exact I4
end
structure wy where
 P:Program
 g:GW
 av:PF->Bool
 nl:Bool
def lQ (av:PF->Bool)(hf:Bool):Ty->Bool
 | .prim p=>av (bI p)
 | .str none=>av .str&&(!hf || av .cstr)
 | .str (some 0)=>av .nstr&&(!hf || av .cnstr)
 | .str (some (_+1))=>(av .nstr&&(!hf || av .cnstr))&&(av .str&&(!hf || av .cstr))
 | .bytes none=>av .bytes&&(!hf || av .cbytes)
 | .bytes (some 0)=>av .nbytes&&(!hf || av .cnbytes)
 | _=>false
def vy (P:Program)(F:Nat):Bool:=match P.underlying F with|some (.pointer _)=>true|_=>false
def uI (P:Program)(v:Nat):Ty->List Nat->Bool
 | .prim p,x=>x.length==0 || (x.length==1&&p != .uuid)
 | .str (some (_+1)),x=>x.length==4&&x.getD 0 0 != v&&vy P (x.getD 2 0)&&jw P (x.getD 3 0) false 1
 | _,x=>x.length==0
def q7 (e:wy)(hf:Bool)(m k0:Nat)(ty:Ty)(v:Nat)(x:List Nat):Bool:=lQ e.av hf ty&&decide (v<k0)&&((x.take 2).all fun t=>decide (m<=t/\t<k0))&&uI e.P v ty x
def du (e:wy)(hf:Bool)(m k0:Nat)(ty:Ty)(v:Nat)(x:List Nat):Bool:=q7 e hf m k0 ty v x&&decide (m<=v)
def jP (w:World)(a:Act)(ty:Ty)(v:Nat)(cs:List Value):Prop:=
 if fj ty then ∃ p,a.get v=pt p 0/\au w p 0 cs else ∃ y,a.get v=y/\cs=[y]
theorem tO (f v:Nat):Up (bv f v):=am _ _
theorem Pv.x1 {v m k0 n:Nat}{a a':Act}(h:Pv v m k0 n a a')(hv:m<=v/\v<k0):Pv 1 m k0 n a a':=⟨h.size,h.defers,fun s hs Iw=>h.get s (by omega) Iw⟩
theorem Pv.g1 {v m k0 n:Nat}{a a':Act}(h:Pv v m k0 n a a')(hv:m<=v/\v<k0)(h1:1<m):a'.get 1=a.get 1:=h.get 1 (by omega) (.inl h1)
section
variable {P:Program} {g:GW} {av:PF->Bool} {fl nl:Bool} {te:Nat} {cx:Cx} {fx:Bool} {ver:Int} {L B O m k0 n:Nat} {d:Value} {bs:Bs} {K N E:Act->World->Prop} {Q:Exit->Act->World->Prop} {a:Act} {w:World}
theorem lg (K0:KW P g av fl nl te){ty:Ty}{v:Nat}{x:List Nat}{cs:List Value}{vv:V}{rest:List GC}(Io:q7 ⟨P,g,av,nl⟩ cx.hf m k0 ty v x=true)(hw:WC cx fx ver te L B O d bs a w)(hc:mc cx m k0)(hk:k0<=n)(_hk0:k0<=a.tmps.size)
  (hn:(gL (bo g cx ty v x) n).2<=a.tmps.size) (hv:jP w a ty v cs) (hl:gT w (fun k=>L<=k) ty cs vv) (hlim:bs.length+((cN fx ver ty).wr vv).length<=di)
  (h:∀ a' w' d',Pv 1 m k0 n a a'->a'.get 1=d'->Gr L te d w d' (bs++(cN fx ver ty).wr vv) w'->LW P rest (gL (bo g cx ty v x) n).2 Q a' w') :
  LW P (bo g cx ty v x++rest) n Q a w:=by
 simp only[q7,Bool.and_eq_true,decide_eq_true_eq,List.all_eq_true]at Io
 obtain⟨⟨⟨hval,Ji⟩,QF⟩,hx⟩:=Io
 have Iq:=hc.le
 have Jm:=hc.one
 have J8:fx=true->cx.hf=true:=fun h=>by
  cases hh:cx.hf with
  | true=>rfl
  | false=>rw[hw.nf hh]at h;cases h
 have app:∀ (p:PF) (t:Nat) (y:Value) (r:List GC) (n':Nat) (a:Act),av p=true->WC cx fx ver te L B O d bs a w->a.get t=y->t<k0->jO p cs y->gT w (fun k=>L<=k) (gK p) cs vv->k0<=n'->n'+3<=a.tmps.size->bs.length+(p.wr vv).length<=di ->
   (∀ a' w' d',Pv 1 m k0 n' a a'->a'.get 1=d'->Gr L te d w d' (bs++p.wr vv) w'->LW P r (n'+3) Q a' w')->LW P (bv (g.ap p) t::r) n' Q a w:=by
  intro p t y r n' a KS hw hy ht Tu Ml Ma hn' hlim' h'
  exact ad (pE (K0.apE p KS) (K0.apC p KS w L cs y vv Ml Tu) hw.s1 hy (by omega) hw.dst hw.Lw hlim' Iq Ma (by omega) hn' h')
 have app2:∀ (t:Nat) (p q:PF) (y:Value) (cs:List Value) (vv:V) (n:Nat) (a:Act) (K':Act->World->Prop) (Q:Exit->Act->World->Prop),WC cx fx ver te L B O d bs a w->t<k0->k0<=n->(cx.hf=true->av p=true)->av q=true->a.get t=y->(p≠.uuid/\q≠.uuid)->cs=[y]->gT w (fun k=>L<=k) (gK p) cs vv->gT w (fun k=>L<=k) (gK q) cs vv ->
   (de cx (bv (g.ap p) t) (bv (g.ap q) t) n).2<=a.tmps.size->bs.length+((if fx then p else q).wr vv).length<=di ->
   (∀ a' w' d',Pv 1 m k0 n a a'->a'.get 1=d'->Gr L te d w d' (bs++(if fx then p else q).wr vv) w'->K' a' w') ->
   aK P (de cx (bv (g.ap p) t) (bv (g.ap q) t) n).1 (Exit.then K' Q) a w:=by
  intro t p q y cs vv n a K' Q hw ht hk hp hq hy hpq Iz RK hlq IE hlim2 h2
  have Kf:n<a.tmps.size:=by
   unfold de at IE
   split at IE
   ·have:n+1+3+3<=a.tmps.size:=IE
    omega
   ·have:n+3<=a.tmps.size:=IE
    omega
  refine xx (tO _ _) (tO _ _) hw hc hk IE Kf fun a1 n1 HX Ig Ik Kf Ii=>?_
  have If:=HX.size
  have JI:a1.get t=y:=by rw[<- hy];exact Ik t (by omega)
  cases fx with
  | true=>
   simp only[if_true]at Ii hlim2 h2 ⊢
   have hsz':n1+3<=a.tmps.size:=Ii
   exact pE (K0.apE p (hp (J8 rfl))) (K0.apC p (hp (J8 rfl)) w L cs y vv RK (by simp only[jO,if_neg hpq.1];exact Iz)) Ig JI (by omega) hw.dst hw.Lw hlim2 Iq (by omega) (by omega) (by omega) fun a' w' d' I3 h1' I0=>h2 a' w' d' (HX.trans (I3.mono (Nat.le_refl _) Kf)) h1' I0
  | false=>
   simp only[Bool.false_eq_true,if_false]at Ii hlim2 h2 ⊢
   have hsz':n1+3<=a.tmps.size:=Ii
   exact pE (K0.apE q hq) (K0.apC q hq w L cs y vv hlq (by simp only[jO,if_neg hpq.2];exact Iz)) Ig JI (by omega) hw.dst hw.Lw hlim2 Iq (by omega) (by omega) (by omega) fun a' w' d' I3 h1' I0=>h2 a' w' d' (HX.trans (I3.mono (Nat.le_refl _) Kf)) h1' I0
 cases ty with
 | prim p=>
  have hpp:gK (bI p)=.prim p:=by cases p<;>rfl
  have RK:gT w (fun k=>L<=k) (gK (bI p)) cs vv:=by rw[hpp];exact hl
  by_cases hu:p=.uuid
  ·subst hu
   obtain⟨q,hq,Iz⟩:=hv
   have KS:av .uuid=true:=hval
   have Ib:cs.length=16:=hl.len
   exact ad (ui (K0.uuid KS).1 (K0.apE _ KS) (K0.apC _ KS w L cs _ vv RK rfl) hw.s1 hq Iz Ib (by omega) hw.dst hw.Lw hlim Iq hk (by omega) hn h)
  ·have hiu:fj (.prim p)=false:=by cases p<;>first|rfl|exact absurd rfl hu
   simp only[jP,hiu,Bool.false_eq_true,if_false]at hv
   obtain⟨y,hy,Iz⟩:=hv
   have Tu:jO (bI p) cs y:=by
    have:bI p≠.uuid:=by cases p<;>first|decide|exact absurd rfl hu
    simp only[jO,if_neg this];exact Iz
   have Qu:bo g cx (.prim p) v []=[bv (g.ap (bI p)) v]:=by cases p<;>first|rfl|exact absurd rfl hu
   have Qt:∀ t,bo g cx (.prim p) v [t]=[b6 v t,bv (g.ap (bI p)) t]:=fun t=>by cases p<;>first|rfl|exact absurd rfl hu
   simp only[uI,Bool.or_eq_true,Bool.and_eq_true,beq_iff_eq]at hx
   rcases hx with hx|⟨hx,_⟩
   ·obtain rfl:=List.eq_nil_of_length_eq_zero hx
    rw[Qu]at hn h ⊢
    exact app _ v y rest n a hval hw hy Ji Tu RK hk hn hlim h
   ·obtain⟨t,rfl⟩:=List.length_eq_one_iff.1 hx
    have ht:=QF t (by simp)
    rw[Qt]at hn h ⊢
    have hn':n+1+3<=a.tmps.size:=hn
    show LW P (b6 v t::(bv (g.ap (bI p)) t::rest)) n Q a w
    refine ad (e7 (x:=t) (m:=m) (k0:=k0) (.inl rfl) Iq hk (by omega) (by omega) fun a1 HX Ig=>?_)
    have hp1':=HX.x1 ht
    have If:=HX.size
    show LW P (bv (g.ap (bI p)) t::rest) (n+1) Q a1 w
    refine app _ t y rest (n+1) a1 hval (hw.step hc hp1' (by rw[HX.g1 ht Jm];exact hw.s1) (Gr.refl hw.dst)) (Ig.trans hy) ht.2 Tu RK (by omega) (by omega) hlim fun a' w' d' I3 h1' I0=>h a' w' d' (hp1'.trans (I3.mono (Nat.le_refl _) (by omega))) h1' I0
 | str nul=>
  obtain⟨y,hy,Iz⟩:=hv
  cases nul with
  | none=>
   obtain rfl:x=[]:=List.eq_nil_of_length_eq_zero (by simpa[uI]using hx)
   simp only[lQ,Bool.and_eq_true,Bool.or_eq_true,Bool.not_eq_true']at hval
   have e:cN fx ver (.str none)=if fx then .cstr else .str:=by cases fx<;>rfl
   rw[e]at hlim h
   exact ad (app2 v .cstr .str y cs vv n a _ _ hw Ji hk (fun hf=>by rcases hval.2 with h|h;rw[h]at hf;cases hf;exact h) hval.1 hy ⟨by decide,by decide⟩ Iz hl hl hn hlim h)
  | some q=>
   cases q with
   | zero=>
    obtain rfl:x=[]:=List.eq_nil_of_length_eq_zero (by simpa[uI]using hx)
    simp only[lQ,Bool.and_eq_true,Bool.or_eq_true,Bool.not_eq_true']at hval
    have e:cN fx ver (.str (some 0))=if fx then .cnstr else .nstr:=by cases fx<;>rfl
    rw[e]at hlim h
    exact ad (app2 v .cnstr .nstr y cs vv n a _ _ hw Ji hk (fun hf=>by rcases hval.2 with h|h;rw[h]at hf;cases hf;exact h) hval.1 hy ⟨by decide,by decide⟩ Iz hl hl hn hlim h)
   | succ q=>
    simp only[uI,Bool.and_eq_true,beq_iff_eq,bne_iff_ne,ne_eq]at hx
    obtain⟨⟨⟨Nc,hxv⟩,Kj⟩,Ri⟩:=hx
    match x,Nc with
    | [b,u,F,tS],_=>
    simp only[List.getD_cons_zero,List.getD_cons_succ]at hxv Kj Ri
    have hb:=QF b (by simp)
    have hu:=QF u (by simp)
    obtain⟨el,Md⟩:∃ el,P.underlying F=some (.pointer el):=by
     unfold vy at Kj
     split at Kj
     ·rename_i el h;exact⟨el,h⟩
     ·cases Kj
    have Rh:=varB_ok Ri
    simp only[lQ,Bool.and_eq_true,Bool.or_eq_true,Bool.not_eq_true']at hval
    obtain⟨⟨v1,v2⟩,v3,v4⟩:=hval
    have Ja:bo g cx (.str (some (q+1))) v [b,u,F,tS]=[dM 1 2 (fun n=>[mk (some n) (.move (tm cx.ver)),mk (some (n+1)) (.binOp .lss g.tVer (tm n) (ki .i16 ((q:Int)+1)) 0)])
      (gS [aR b (.string ⟨#[]⟩),dM 1 2 (fun n=>[mk (some n) (.move (tm v)),mk (some (n+1)) (.binOp .neq F (tm n) (.const (.pointer none)) 0)])
       (ay 3 fun n=>[mk (some n) (.move (tm v)),mk (some (n+1)) (.nilCheck (tm n)),mk (some (n+2)) (.load tS (tm (n+1))),mk (some b) (.assign (tm (n+2)))]) bp,
       b6 b u,de cx (bv (g.ap .cstr) u) (bv (g.ap .str) u)])
      (de cx (bv (g.ap .cnstr) v) (bv (g.ap .nstr) v))]:=rfl
    rw[Ja]at hn h ⊢
    have IE:(de cx (bv (g.ap .cnstr) v) (bv (g.ap .nstr) v) (de cx (bv (g.ap .cstr) u) (bv (g.ap .str) u) (n+2+2+3+1)).2).2<=a.tmps.size:=hn
    have L0:n+2+2+3+1<=(de cx (bv (g.ap .cstr) u) (bv (g.ap .str) u) (n+2+2+3+1)).2:=fg (bX (am _ _) (am _ _)) (am _ _) _
    have P8:(de cx (bv (g.ap .cstr) u) (bv (g.ap .str) u) (n+2+2+3+1)).2<=(de cx (bv (g.ap .cnstr) v) (bv (g.ap .nstr) v) (de cx (bv (g.ap .cstr) u) (bv (g.ap .str) u) (n+2+2+3+1)).2).2:=fg (bX (am _ _) (am _ _)) (am _ _) _
    refine ad ?_
    by_cases Id:ver<(q:Int)+1
    ·-- a text,or none as an empty one
     have e:cN fx ver (.str (some (q+1)))=if fx then .cstr else .str:=by
      have:ce (some (q+1)) ver=false:=by simp[ce];omega
      simp only[cN,this]
      cases fx<;>rfl
     rw[e]at hlim h
     refine cL (ah ?_)
     rw[aa,hw.sv]
     refine bk (b:=true) (q:=(q:Int)+1) (p:=ver) (k:=.i16) (by rw[aa,ao (by omega)]) rfl (.inr (.inr (.inl ⟨rfl,by simp;omega⟩))) (wpList_nil ⟨by rw[aa,ao (by simp only[ab];omega)],aY (ad (aq (ak (wpList_nil ?_))))⟩)
     have HX:Pv 1 m k0 n a ((((a.put (some n) (.int .i16 ver)).put (some (n+1)) (.bool true)).put (some b) (.string ⟨#[]⟩))):=(((Pv.refl _ _ _ _ _).put _ (by omega)).put _ (by omega)).put _ (by omega)
     have Mb:((((a.put (some n) (.int .i16 ver)).put (some (n+1)) (.bool true)).put (some b) (.string ⟨#[]⟩))).get v=y:=by
      rw[al (by omega),al (by omega),al (by omega)];exact hy
     have No:((((a.put (some n) (.int .i16 ver)).put (some (n+1)) (.bool true)).put (some b) (.string ⟨#[]⟩))).get b=.string ⟨#[]⟩:=ao (by simp only[ab];omega)
     show LW P _ (n+2) _ (((a.put (some n) (.int .i16 ver)).put (some (n+1)) (.bool true)).put (some b) (.string ⟨#[]⟩)) w
     have Ig:((((a.put (some n) (.int .i16 ver)).put (some (n+1)) (.bool true)).put (some b) (.string ⟨#[]⟩))).get 1=d:=by
      rw[al (by omega),al (by omega),al (by omega)];exact hw.s1
     generalize(((a.put (some n) (.int .i16 ver)).put (some (n+1)) (.bool true)).put (some b) (.string ⟨#[]⟩))=a1 at HX Mb No Ig
     have If:=HX.size
     have fin:∀ (a3:Act) (l:Bs),Pv 1 m k0 n a a3->a3.get 1=d->a3.get b=.string ⟨l.toArray⟩->l=vv.octets->l.length<=maxLen->∀ Q',(∀ a' w' d',Pv 1 m k0 n a a'->a'.get 1=d'->Gr L te d w d' (bs++(if fx then PF.cstr else PF.str).wr vv) w'->Q' .normal a' w')->LW P [b6 b u,de cx (bv (g.ap .cstr) u) (bv (g.ap .str) u)] (n+2+2+3) Q' a3 w:=by
      intro a3 l Ie J9 I2 Oe Of Q' hQ
      have IJ:=Ie.size
      refine ad (e7 (x:=u) (m:=m) (k0:=k0) (.inl rfl) Iq (by omega) (by omega) (by omega) fun a4 Ix IU=>?_)
      have hp4':=Ix.x1 hu
      have Kb:=Ix.size
      have LS:Pv 1 m k0 n a a4:=Ie.trans (hp4'.mono (Nat.le_refl _) (by omega))
      have Re:WC cx fx ver te L B O d bs a4 w:=hw.step hc LS (by rw[Ix.g1 hu Jm];exact J9) (Gr.refl hw.dst)
      have IR:∀ p:PF,(p=.cstr \/ p=.str)->p.wr (.s l)=p.wr vv:=by
       rintro p (rfl|rfl)<;>simp only[PF.wr,V.octets,Oe]
      have Rb:(if fx then PF.cstr else PF.str).wr (.s l)=(if fx then PF.cstr else PF.str).wr vv:=IR _ (by cases fx<;>simp)
      refine ad (app2 u .cstr .str (.string ⟨l.toArray⟩) [.string ⟨l.toArray⟩] (.s l) (n+2+2+3+1) a4 _ _ Re hu.2 (by omega) (fun hf=>by rcases v4 with h|h;rw[h]at hf;cases hf;exact h) v3 (by rw[IU,I2]) ⟨by decide,by decide⟩ rfl ⟨l,rfl,rfl,Of⟩ ⟨l,rfl,rfl,Of⟩ (by rw[Kb,IJ];omega) (by rw[Rb];exact hlim) fun a' w' d' I3 h1' I0=>bf (hQ a' w' d' (LS.trans (I3.mono (Nat.le_refl _) (by omega))) h1' (by rw[<- Rb];exact I0)))
     rcases hl with⟨Lb,rfl⟩|⟨l,p,o,Lb,_,MR,rfl,Vp⟩
     ·rw[Lb]at Iz
      obtain rfl:Value.pointer none=y:=by simpa using Iz
      refine ad (cD (ah (kJ (m:=none) Md (by rw[aa,ao (by omega),aa];exact Mb) (wpList_nil ⟨by rw[aa,ao (by simp only[ab];omega)];rfl,.skip ?_⟩))))
      exact fin _ [] ((HX.put _ (by omega)).put _ (by omega)) (by rw[al (by omega),al (by omega)];exact Ig) (by rw[al (by omega),al (by omega)];exact No) rfl (by simp) _ fun a' w' d' I3 h1' I0=>h a' w' d' I3 h1' I0
     ·rw[Lb]at Iz
      obtain rfl:Value.pointer (some ⟨p,o,none⟩)=y:=by simpa using Iz
      refine ad (cL (ah (kJ (m:=some ⟨p,o,none⟩) Md (by rw[aa,ao (by omega),aa];exact Mb) (wpList_nil ⟨by rw[aa,ao (by simp only[ab];omega)];rfl,aq (ah ?_)⟩))))
      simp only[aa]
      rw[al (by omega),al (by omega),Mb]
      refine aG (p:=⟨p,o,none⟩) (by rw[aa,ao (by simp only[ab];omega)]) (bg (p:=⟨p,o,none⟩) (v:=.string ⟨l.toArray⟩) (by rw[aa,ao (by simp only[ab];omega)]) (Rh.agg w) MR (ak (wpList_nil ?_)))
      rw[aa,ao (by simp only[ab];omega)]
      exact fin _ l ((((((HX.put _ (by omega)).put _ (by omega)).put _ (by omega)).put _ (by omega)).put _ (by omega)).put _ (by omega)) (by rw[al (by omega),al (by omega),al (by omega),al (by omega),al (by omega),al (by omega)];exact Ig) (ao (by simp only[ab];omega)) rfl Vp _ fun a' w' d' I3 h1' I0=>h a' w' d' I3 h1' I0
    ·-- a text that may be null
     have e:cN fx ver (.str (some (q+1)))=if fx then .cnstr else .nstr:=by
      have:ce (some (q+1)) ver=true:=by simp[ce];omega
      simp only[cN,this]
      cases fx<;>rfl
     rw[e]at hlim h
     refine cD (ah ?_)
     rw[aa,hw.sv]
     refine bk (b:=false) (q:=(q:Int)+1) (p:=ver) (k:=.i16) (by rw[aa,ao (by omega)]) rfl (.inr (.inr (.inl ⟨rfl,by simp;omega⟩))) (wpList_nil ⟨by rw[aa,ao (by simp only[ab];omega)],?_⟩)
     have HX:Pv 1 m k0 n a ((a.put (some n) (.int .i16 ver)).put (some (n+1)) (.bool false)):=((Pv.refl _ _ _ _ _).put _ (by omega)).put _ (by omega)
     have K8:WC cx fx ver te L B O d bs ((a.put (some n) (.int .i16 ver)).put (some (n+1)) (.bool false)) w:=hw.step hc HX (by rw[al (by omega),al (by omega)];exact hw.s1) (Gr.refl hw.dst)
     refine app2 v .cnstr .nstr y cs vv _ _ _ _ K8 Ji ?_ (fun hf=>by rcases v2 with h|h;rw[h]at hf;cases hf;exact h) v1 (by rw[al (by omega),al (by omega)];exact hy) ⟨by decide,by decide⟩ Iz hl hl (by simp only[ab];exact IE) hlim fun a' w' d' I3 h1' I0=>h a' w' d' (HX.trans (I3.mono (Nat.le_refl _) ?_)) h1' I0
     ·show k0<=(de cx (bv (g.ap .cstr) u) (bv (g.ap .str) u) (n+2+2+3+1)).2
      omega
     ·show n<=(de cx (bv (g.ap .cstr) u) (bv (g.ap .str) u) (n+2+2+3+1)).2
      omega
 | bytes nul=>
  obtain⟨y,hy,Iz⟩:=hv
  obtain rfl:x=[]:=List.eq_nil_of_length_eq_zero (by simpa[uI]using hx)
  cases nul with
  | none=>
   simp only[lQ,Bool.and_eq_true,Bool.or_eq_true,Bool.not_eq_true']at hval
   have e:cN fx ver (.bytes none)=if fx then .cbytes else .bytes:=by cases fx<;>rfl
   rw[e]at hlim h
   exact ad (app2 v .cbytes .bytes y cs vv n a _ _ hw Ji hk (fun hf=>by rcases hval.2 with h|h;rw[h]at hf;cases hf;exact h) hval.1 hy ⟨by decide,by decide⟩ Iz hl hl hn hlim h)
  | some q=>
   cases q with
   | zero=>
    simp only[lQ,Bool.and_eq_true,Bool.or_eq_true,Bool.not_eq_true']at hval
    have e:cN fx ver (.bytes (some 0))=if fx then .cnbytes else .nbytes:=by cases fx<;>rfl
    rw[e]at hlim h
    exact ad (app2 v .cnbytes .nbytes y cs vv n a _ _ hw Ji hk (fun hf=>by rcases hval.2 with h|h;rw[h]at hf;cases hf;exact h) hval.1 hy ⟨by decide,by decide⟩ Iz hl hl hn hlim h)
   | succ q=>cases hval
 | list _ _ _=>cases hval
 | struct _ _ _=>cases hval
end
section
variable {P:Program} {g:GW} {av:PF->Bool} {fl nl:Bool} {te:Nat} {cx:Cx} {fx:Bool} {ver:Int} {L B O m k0 n:Nat} {d:Value} {bs:Bs} {K N E:Act->World->Prop} {Q:Exit->Act->World->Prop} {a:Act} {w:World}
theorem m4 {w:World}{b F:Nat}{cs:List Value}(hb:w.heap[b]?=some (.cells cs.toArray F (0,0))):au w b 0 cs:=by
 intro j c hj
 rw[Nat.zero_add]
 simp[World.cell?,hb,hj]
theorem tL {F n v:Nat}{cs:List Value}{ops:Array Oper}{QQ:Exit->Act->World->Prop}(hV:bc P F true 16)(hz:∀ w,(zeroValue F).run P w=.ok (.agg (Array.replicate 16 (.int .u8 0))) w)(hl:cs.length=16)(h1:∀ u∈cs,u.oneCell'=true)(hn:a.get n=.agg cs.toArray)(PS:n≠v)(Ji:v<a.tmps.size)
  (h:∀ w',ac (fun _=>False) w w'->au w' w.heap.size 0 cs->wpList P ops QQ [] (a.put (some v) (pt w.heap.size 0)) w') :
  wpList P ops QQ [mk (some v) (.alloc F),mk none (.store F (tm v) (tm n))] a w:=by
 refine cZ (hz w) ?_
 let Z:Obj:=.cells (Value.agg (Array.replicate 16 (.int .u8 0))).cells F (0,0)
 have hb:(w.alloc Z).heap[w.heap.size]?=some Z:=aE w Z
 have K7:(Value.agg (Array.replicate 16 (.int .u8 0))).cells.size=16:=by simp[Value.cells]
 refine bm (g:=w.heap.size) (o:=0) (cur:=(Value.agg (Array.replicate 16 (.int .u8 0))).cells) (t:=F) (v:=.agg cs.toArray) (vs:=cs) (by rw[aa,db _ _ _ Ji]) (by rw[aa,fH _ _ _ _ PS];exact hn) rfl (by rw[hl];exact hV.size _) hb (by rw[hl];omega) h1 ?_
 rw[dy (by rw[hl];exact K7.symm)]
 have hk:ac (fun k=>w.heap.size<=k) w ((w.alloc Z).setRow w.heap.size cs.toArray):=(ac.alloc _ _ _).trans (ac.setRow (fun k=>w.heap.size<=k) _ _ _ (Nat.le_refl _))
 refine h _ (hk.mono fun k hk hX=>by omega) ?_
 have IK:=setRow_heap _ _ _ cs.toArray _ _ hb
 exact m4 IK
theorem lY {X:Nat->Prop}{cs:List Value}{v:V}(h:gT w X (.prim .uuid) cs v):cs.length=16/\∀ u∈cs,u.oneCell'=true:=by
 obtain⟨l,hl,rfl,_⟩:=h
 exact⟨by rw[List.length_map];exact hl,lp⟩
theorem BJ {ty:Ty}{s v T k F off:Nat}{vv:V}(I6:ty.leaf=true)(hs:a.get s=pt B O)(hF:bw P T k F off ty.agg ty.sz)(hU:fj ty=true->bc P F true 16/\∀ w,(zeroValue F).run P w=.ok (.agg (Array.replicate 16 (.int .u8 0))) w){X:Nat->Prop}(_hX:∀ k,¬ X k->k<w.heap.size->True)
  (hr:Rp w X ty B (O+off) vv) (hv:m<=v/\v<k0) (hm:m<=k0) (hk:k0<=n) (hn:n+4<=a.tmps.size) (h1:1<m)
  (h:∀ a' w' cs,Pv 1 m k0 n a a'->a'.get 1=a.get 1->ac (fun _=>False) w w'->jP w' a' ty v cs->gT w' X ty cs vv->K a' w'):aK P (gP ty s v T k F n).1 (Exit.then K Q) a w:=by
 have Iz:∃ cs,au w B (O+off) cs/\gT w X ty cs vv:=by
  cases ty with
  | prim p=>exact hr
  | str q=>exact hr
  | bytes q=>exact hr
  | list _ _ _=>cases I6
  | struct _ _ _=>cases I6
 obtain⟨cs,hc,hl⟩:=Iz
 by_cases hu:fj ty=true
 ·obtain rfl:ty=.prim .uuid:=by
   cases ty with
   | prim p=>cases p<;>first|rfl|cases hu
   | _=>cases hu
  obtain⟨hV,hz⟩:=hU rfl
  obtain⟨Ib,I5⟩:=lY hl
  show aK P (gy s v T k F n).1 (Exit.then K Q) a w
  refine aq (ah ?_)
  rw[aa,hs]
  refine aG (by rw[aa,ao (by omega)];rfl) ?_
  refine bN (by rw[aa,ao (by simp only[ab];omega)]) hF ?_
  refine eC (b:=B) (o:=O+off) (cs:=cs) (by rw[aa,ao (by simp only[ab];omega)]) (hF.var.agg w) (by rw[Ib];exact hF.var.size w) hc ?_
  refine tL hV hz Ib I5 (ao (by simp only[ab];omega)) (by omega) (by simp only[ab];omega) fun w' J1 Qz=>wpList_nil (h _ w' cs ?_ ?_ J1 ?_ (hl.keep (J1.mono fun _ _ h=>h.elim)))
  ·exact(((((Pv.refl _ _ _ _ _).put _ (by omega)).put _ (by omega)).put _ (by omega)).put _ (by omega)).put _ (by omega)
  ·rw[al (by omega),al (by omega),al (by omega),al (by omega),al (by omega)]
  ·exact⟨w.heap.size,ao (by simp only[ab];omega),Qz⟩
 ·have Mj:fj ty=false:=by simpa using hu
  have I5:∃ y,cs=[y]:=by
   have Ib:=hl.len
   have:ty.sz=1:=by
    cases ty with
    | prim p=>cases p<;>first|rfl|exact absurd rfl hu
    | str _=>rfl
    | bytes _=>rfl
    | list _ _ _=>rfl
    | struct _ _ _=>cases I6
   rw[this]at Ib
   exact List.length_eq_one_iff.1 Ib
  obtain⟨y,rfl⟩:=I5
  have LD:ty.agg=false/\ty.sz=1:=by
   cases ty with
   | prim p=>cases p<;>first|exact⟨rfl,rfl⟩|exact absurd rfl hu
   | str _=>exact⟨rfl,rfl⟩
   | bytes _=>exact⟨rfl,rfl⟩
   | list _ _ _=>cases I6
   | struct _ _ _=>cases I6
  rw[LD.1,LD.2]at hF
  unfold gP
  rw[Mj]
  simp only[Bool.false_eq_true,if_false]
  refine fZ (x:=v) (m:=m) (k0:=k0) hs hF (hc 0 y rfl) (.inl rfl) hm hk hn (by omega) fun a' hp hg=>h a' w [y] (hp.x1 hv) (hp.g1 hv h1) (ac.refl _ _) ?_ hl
  simp only[jP,Mj,Bool.false_eq_true,if_false]
  exact⟨y,hg,rfl⟩
theorem BH {ty:Ty}{v i e F E' p q cnt c j:Nat}{vv:V}(I6:ty.leaf=true)(hy:a.get v=.slice (some ⟨p,q,none⟩) cnt c)(hi:a.get i=.int .i64 j)(hj:j<cnt)(hF:P.underlying F=some (.slice E'))(hE:bc P E' ty.agg ty.sz)(hU:fj ty=true->bc P E' true 16/\∀ w,(zeroValue E').run P w=.ok (.agg (Array.replicate 16 (.int .u8 0))) w){X:Nat->Prop}
  (hr:Rp w X ty p (q+j*ty.sz) vv) (hv:m<=e/\e<k0) (_hvn:v<n) (OF:i<n) (_hm:m<=k0) (hk:k0<=n) (hn:n+4<=a.tmps.size) (h1:1<m)
  (h:∀ a' w' cs,Pv 1 m k0 n a a'->a'.get 1=a.get 1->ac (fun _=>False) w w'->jP w' a' ty e cs->gT w' X ty cs vv->K a' w'):aK P (jH ty v i e F E' n).1 (Exit.then K Q) a w:=by
 have Iz:∃ cs,au w p (q+j*ty.sz) cs/\gT w X ty cs vv:=by
  cases ty with
  | prim p=>exact hr
  | str q=>exact hr
  | bytes q=>exact hr
  | list _ _ _=>cases I6
  | struct _ _ _=>cases I6
 obtain⟨cs,hc,hl⟩:=Iz
 by_cases hu:fj ty=true
 ·obtain rfl:ty=.prim .uuid:=by
   cases ty with
   | prim p=>cases p<;>first|rfl|cases hu
   | _=>cases hu
  obtain⟨hV,hz⟩:=hU rfl
  obtain⟨Ib,I5⟩:=lY hl
  show aK P (yK v i e F E' n).1 (Exit.then K Q) a w
  refine aq (ah (ah ?_))
  rw[aa,hy,aa,al (by omega),hi]
  refine bS (b:=p) (o:=q) (n:=cnt) (c:=c) (i:=j) (k:=.i64) (by rw[aa,al (by omega),ao (by omega)]) (by rw[aa,ao (by simp only[ab];omega)]) hj hF (hE.size w) ?_
  refine eC (b:=p) (o:=q+j*Ty.sz (.prim .uuid)) (cs:=cs) (by rw[aa,ao (by simp only[ab];omega)]) (hE.agg w) (by rw[Ib];exact hE.size w) hc ?_
  refine tL hV hz Ib I5 (ao (by simp only[ab];omega)) (by omega) (by simp only[ab];omega) fun w' J1 Qz=>wpList_nil (h _ w' cs ?_ ?_ J1 ?_ (hl.keep (J1.mono fun _ _ h=>h.elim)))
  ·exact(((((Pv.refl _ _ _ _ _).put _ (by omega)).put _ (by omega)).put _ (by omega)).put _ (by omega)).put _ (by omega)
  ·rw[al (by omega),al (by omega),al (by omega),al (by omega),al (by omega)]
  ·exact⟨w.heap.size,ao (by simp only[ab];omega),Qz⟩
 ·have Mj:fj ty=false:=by simpa using hu
  have LD:ty.agg=false/\ty.sz=1:=by
   cases ty with
   | prim p=>cases p<;>first|exact⟨rfl,rfl⟩|exact absurd rfl hu
   | str _=>exact⟨rfl,rfl⟩
   | bytes _=>exact⟨rfl,rfl⟩
   | list _ _ _=>cases I6
   | struct _ _ _=>cases I6
  have I5:∃ y,cs=[y]:=by
   have Ib:=hl.len
   rw[LD.2]at Ib
   exact List.length_eq_one_iff.1 Ib
  obtain⟨y,rfl⟩:=I5
  rw[LD.1,LD.2]at hE
  unfold jH
  rw[Mj]
  simp only[Bool.false_eq_true,if_false]
  refine aq (ah (ah ?_))
  rw[aa,hy,aa,al (by omega),hi]
  refine bS (b:=p) (o:=q) (n:=cnt) (c:=c) (i:=j) (k:=.i64) (by rw[aa,al (by omega),ao (by omega)]) (by rw[aa,ao (by simp only[ab];omega)]) hj hF (hE.size w) ?_
  refine bg (v:=y) (by rw[aa,ao (by simp only[ab];omega)]) (hE.agg w) (by have:=hc 0 y rfl;rw[LD.2]at this;exact this) ?_
  refine ak (wpList_nil (h _ w [y] ?_ ?_ (ac.refl _ _) ?_ hl))
  ·exact(((((Pv.refl _ _ _ _ _).put _ (by omega)).put _ (by omega)).put _ (by omega)).put _ (by omega)).put _ (by omega)
  ·rw[al (by omega),al (by omega),al (by omega),al (by omega),al (by omega)]
  ·simp only[jP,Mj,Bool.false_eq_true,if_false]
   exact⟨y,by rw[ao (by simp only[ab];omega),aa,ao (by simp only[ab];omega)],rfl⟩
theorem sw {v i e F E' p q cnt c j sz:Nat}(hy:a.get v=.slice (some ⟨p,q,none⟩) cnt c)(hi:a.get i=.int .i64 j)(hj:j<cnt)(hF:P.underlying F=some (.slice E'))(hE:∀ w,(sizeOf E').run P w=.ok sz w)
  (hv:m<=e/\e<k0) (_hvn:v<n) (OF:i<n) (_hm:m<=k0) (hk:k0<=n) (hn:n+3<=a.tmps.size) (h1:1<m)
  (h:∀ a',Pv 1 m k0 n a a'->a'.get 1=a.get 1->a'.get e=pt p (q+j*sz)->K a' w):aK P (dI v i e F n).1 (Exit.then K Q) a w:=by
 refine aq (ah (ah ?_))
 rw[aa,hy,aa,al (by omega),hi]
 refine bS (b:=p) (o:=q) (n:=cnt) (c:=c) (i:=j) (k:=.i64) (by rw[aa,al (by omega),ao (by omega)]) (by rw[aa,ao (by simp only[ab];omega)]) hj hF (hE w) ?_
 refine ak (wpList_nil (h _ ?_ ?_ ?_))
 ·exact((((Pv.refl _ _ _ _ _).put _ (by omega)).put _ (by omega)).put _ (by omega)).put _ (by omega)
 ·rw[al (by omega),al (by omega),al (by omega),al (by omega)]
 ·rw[ao (by simp only[ab];omega),aa,ao (by simp only[ab];omega)];rfl
theorem uh (K0:KW P g av fl nl te){c:Nat}(hc:c<256)(h1:a.get 1=d)(hd:aA w L te d bs)(hL:L<=w.heap.size)(hlim:bs.length+1<=di)(hm:m<=k0)(hk:k0<=n)(Jm:1<n)(hn:n+3<=a.tmps.size)
  (h:∀ a' w' d',Pv 1 m k0 n a a'->a'.get 1=d'->Gr L te d w d' (bs++[UInt8.ofNat c]) w'->K a' w'):aK P (fG g c n).1 (Exit.then K Q) a w:=by
 refine aq (ah ?_)
 rw[aa,h1]
 have ho:aJ (UInt8.ofNat c)=.int .u8 (c:Int):=by simp[aJ];omega
 refine dK (l:=[UInt8.ofNat c]) K0.oct ?_ (by simp) (by simp) ?_
 ·simp only[List.map_cons,List.map_nil,ho,rK]
  rfl
 have J1:ac (fun _=>False) w (w.alloc (.cells ([UInt8.ofNat c].map aJ).toArray te (0,0))):=ac.alloc _ _ _
 have Jw:ez (w.alloc (.cells ([UInt8.ofNat c].map aJ).toArray te (0,0))) w.heap.size 0 [UInt8.ofNat c]:=by
  intro j b hj
  have:=aE w (.cells ([UInt8.ofNat c].map aJ).toArray te (0,0))
  simp only[World.cell?,this,Nat.zero_add,List.getElem?_toArray,List.getElem?_map,hj]
  rfl
 refine eh K0.oct (d:=d) (L:=L) (bs:=bs) (l:=[UInt8.ofNat c]) ?_ (x:=.slice (some ⟨w.heap.size,0,none⟩) 1 1) ?_ (hd.keep J1 fun _ _ h=>h) (ic K0.oct Jw) (by have:=J1.size;omega) hlim fun d' w' hg=>?_
 ·rw[aa,al (by omega),ao (by omega)]
 ·rw[aa,ao (by rw[ab];omega)]
  rfl
 refine ak (wpList_nil (h _ w' d' ?_ ?_ (Gr.pre J1 (fun _ _ h=>h) hg)))
 ·exact((((Pv.refl _ _ _ _ _).put _ (by omega)).put _ (by omega)).put _ (by omega)).put _ (.inl rfl)
 ·rw[ao (by simp only[ab];omega),aa,ao (by simp only[ab];omega)]
end
section
variable {P:Program} {K:Kn}
theorem oD {ops:Array Oper}{Q:Exit->Act->World->Prop}{r:List Oper}{a:Act}{w:World}{d:Option Nat}{y:Operand}{T ty n:Nat}(h1:(execOp a.eval (bi d .len [y] [T] ty)).run P w=.ok (.value (.int .i64 n)) w)
  (h:wpList P ops Q r (a.put d (.int .i64 n)) w):wpList P ops Q (bi d .len [y] [T] ty::r) a w:=by
 refine wpList_plain rfl fun _ hK=>?_
 unfold Oper.wp
 rw[h1]
 exact hK _ _ h
structure E8 (P:Program)(tX:Nat)(x:Value)(l:Bs)(L:Nat)(w:World):Prop where
 len:∀ (a:Act) (w:World) (d:Option Nat) (y:Operand) (ty:Nat),a.eval y=x->(execOp a.eval (bi d .len [y] [tX] ty)).run P w=.ok (.value (.int .i64 l.length)) w
 src:∀ w',ac (fun k=>L<=k) w w'->Src P 1 tX x l.length (l.map aJ) w'
theorem pz {tX:Nat}(hT:P.underlying tX=some .string)(l:Bs)(L:Nat)(w:World):E8 P tX (.string ⟨l.toArray⟩) l L w:=
 ⟨fun a w d y ty hy=>by
  have Ii:ByteArray.size ⟨l.toArray⟩=l.length:=List.size_toArray
  simp[execOp,bi,resolve,invoke,hy,builtin,Builtin.len_,run_underlying hT,goInt,Ii],fun w' _=>zV hT w' l⟩
theorem uF (wt:WT P K){tX:Nat}{x:Value}{l bs:Bs}{L n:Nat}{d:Value}{N E:Act->World->Prop}{a:Act}{w:World}(hx:Src P 1 tX x l.length (l.map aJ) w)(h0:a.get 0=d)(h1:a.get 1=x)(hn:4<n)(hs:n+3<=a.tmps.size)(hd:aA w L K.tU8 d bs)(hL:L<=w.heap.size)
  (hlim:bs.length+l.length<=di) (h:∀ a' w' d',a'.defers=a.defers->a'.get 4=d'->Gr L K.tU8 d w d' (bs++l) w'->E a' w'):LW P (ql K tX) n (Rt N E) a w:=by
 refine ad (aq (ah (ah ?_)))
 refine eh wt.oct (d:=d) (x:=x) ?_ ?_ hd hx hL hlim fun d' w' hg=>?_
 ·rw[aa,al (by omega),ao (by omega)];exact h0
 ·rw[aa,ao (by simp only[ab];omega),aa,al (by omega)];exact h1
 refine ak (wpList_nil (ad (.ret ?_)))
 exact h _ w' d' (by simp only[aj]) (by rw[ao (by simp only[ab];omega),aa,ao (by simp only[ab];omega)]) hg
theorem zk (wt:WT P K){f f2 ntmps tX tI L:Nat}{kI:IntKind}{x:Value}{l enc:Bs}{w:World}(hI:P.underlying tI=some (.int kI))(hx:E8 P tX x l L w)(hE:Ent P f2)(hc:ApC P K.tU8 f2 (.int kI (kI.wrap l.length)) enc w)(hfn:FnIs P f ntmps [4] (cAStr K tX tI f2))(Iv:13<=ntmps) :
  zy P K.tU8 f x (enc++l) w L:=by
 intro d bs hd hL hlim
 rw[List.length_append]at hlim
 refine ft wt.mixed hfn (by omega) fun a h0 h1 hs I4=>?_
 refine ad (aq (ah (ah ?_)))
 refine oD (hx.len _ _ _ _ _ (by rw[aa,ao (by simp only[ab];omega),aa,al (by omega)];exact h1)) ?_
 refine aL (k:=.i64) (k':=kI) (m:=l.length) (by rw[aa,ao (by simp only[ab];omega)]) wt.dInt hI ?_
 refine dw hE ?_ (hc L) hd hL (by omega) (by simp only[ab];omega) fun w1 d1 hg=>wpList_nil ?_
 ·simp only[List.map_cons,List.map_nil,aa]
  rw[al (by omega),al (by omega),al (by omega),ao (by omega),ao (by simp only[ab];omega),h0]
 refine uF wt (x:=x) (l:=l) (d:=d1) (hx.src w1 (Gr.far hd hg)) ?_ ?_ (by show 4<5+5;omega) (by simp only[ab];show 5+5+3<=_;omega) hg.dst (Nat.le_trans hL hg.keeps.size) (by rw[List.length_append];omega) fun a' w' d' hd' h4 I0=>⟨?_,kz h4 ?_⟩
 ·rw[ao (by simp only[ab];omega)]
 ·rw[al (by omega),al (by omega),al (by omega),al (by omega),al (by omega),al (by omega)];exact h1
 ·rw[hd'];simp only[aj];exact I4
 ·rw[<- List.append_assoc];exact hg.trans I0
theorem AF (wt:WT P K){f f2 ntmps tX L:Nat}{x:Value}{l:Bs}{w:World}(hx:E8 P tX x l L w)(hE:Ent P f2)(hc:∀ x w,x<4294967296->ApC P K.tU8 f2 (.int .u32 (x:Nat)) (uvar x) w)(hfn:FnIs P f ntmps [4] (cACStr K tX f2))(Iv:14<=ntmps) :
  zy P K.tU8 f x (uvar (dj (l.length+1))++l) w L:=by
 intro d bs hd hL hlim
 rw[List.length_append]at hlim
 refine ft wt.mixed hfn (by omega) fun a h0 h1 hs I4=>?_
 refine ad (aq (ah (ah ?_)))
 refine oD (hx.len _ _ _ _ _ (by rw[aa,ao (by simp only[ab];omega),aa,al (by omega)];exact h1)) ?_
 refine aL (k:=.i64) (k':=.u32) (m:=l.length) (by rw[aa,ao (by simp only[ab];omega)]) wt.dInt wt.dU32 ?_
 refine co (k:=.u32) (m:=1) (n:=IntKind.u32.wrap l.length) rfl (by rw[aa,ao (by simp only[ab];omega)]) (by simp) (jU w) ?_
 rw[qD]
 refine dw hE ?_ (hc (dj (l.length+1)) w (lK _) L) hd hL (by omega) (by simp only[ab];omega) fun w1 d1 hg=>wpList_nil ?_
 ·simp only[List.map_cons,List.map_nil,aa]
  rw[al (by omega),al (by omega),al (by omega),al (by omega),ao (by omega),ao (by simp only[ab];omega),h0]
 refine uF wt (x:=x) (l:=l) (d:=d1) (hx.src w1 (Gr.far hd hg)) ?_ ?_ (by show 4<5+6;omega) (by simp only[ab];show 5+6+3<=_;omega) hg.dst (Nat.le_trans hL hg.keeps.size) (by rw[List.length_append];omega) fun a' w' d' hd' h4 I0=>⟨?_,kz h4 ?_⟩
 ·rw[ao (by simp only[ab];omega)]
 ·rw[al (by omega),al (by omega),al (by omega),al (by omega),al (by omega),al (by omega),al (by omega)];exact h1
 ·rw[hd'];simp only[aj];exact I4
 ·rw[<- List.append_assoc];exact hg.trans I0
theorem Ap {T n f L:Nat}{z c d y:Value}{enc bs:Bs}{r:List GC}{N E:Act->World->Prop}{a:Act}{w:World}(MY:∀ (ops:Array Oper) (Q:Exit->Act->World->Prop) (a:Act) (x:Operand) (d:Option Nat),a.eval x=y->wpList P ops Q [] (a.put d (.bool true)) w->wpList P ops Q [mk d (.binOp .eql T x (.const z) 0)] a w)
  (h0:a.get 0=d) (h1:a.get 1=y) (hE:Ent P f) (hc:zy P K.tU8 f c enc w L) (hn:4<n) (hs:n+4<=a.tmps.size) (hd:aA w L K.tU8 d bs) (hL:L<=w.heap.size) (hlim:bs.length+enc.length<=di)
  (h:∀ a' w' d',a'.defers=a.defers->a'.get 4=d'->Gr L K.tU8 d w d' (bs++enc) w'->E a' w'):LW P (tc T z c f::r) n (Rt N E) a w:=by
 refine ad (cL (ah ?_))
 refine MY _ _ _ _ _ (by rw[aa,ao (by omega),aa];exact h1) (wpList_nil ⟨by rw[aa,ao (by simp only[ab];omega)],?_⟩)
 rw[aO]
 refine aY (ad (aq (ah ?_)))
 refine iS hE ?_ hc hd hL hlim (by simp only[ab];omega) (by simp only[ab];omega) fun a' w' d' hd' h4 hg=>h a' w' d' (by rw[hd'];simp only[aj]) h4 hg
 simp only[List.map_cons,List.map_nil,aa]
 rw[ao (by simp only[ab];omega),al (by omega),al (by omega),h0]
 rfl
theorem CF {T n f:Nat}{z c y:Value}{r:List GC}{N E:Act->World->Prop}{a:Act}{w:World}(MY:∀ (ops:Array Oper) (Q:Exit->Act->World->Prop) (a:Act) (x:Operand) (d:Option Nat),a.eval x=y->wpList P ops Q [] (a.put d (.bool false)) w->wpList P ops Q [mk d (.binOp .eql T x (.const z) 0)] a w)
  (h1:a.get 1=y) (hn:4<n) (hs:n+4<=a.tmps.size)
  (h:∀ a',Pv n 0 0 n a a'->LW P r (n+4) (Rt N E) a' w):LW P (tc T z c f::r) n (Rt N E) a w:=by
 refine ad (cD (ah ?_))
 refine MY _ _ _ _ _ (by rw[aa,ao (by omega),aa];exact h1) (wpList_nil ⟨by rw[aa,ao (by simp only[ab];omega)],.skip ?_⟩)
 exact h _ (((Pv.refl _ _ _ _ _).put _ (.inl rfl)).put _ (.inr (by omega)))
theorem rC (wt:WT P K){f f1 f2 ntmps tP:Nat}{c:Value}{enc:Bs}{w:World}(hP:P.underlying tP=some (.pointer K.tStr))(hE:Ent P f1)(hc:ApC P K.tU8 f1 c enc w)(hfn:FnIs P f ntmps [4] (cANStr K tP c f1 f2))(Iv:14<=ntmps):ApC P K.tU8 f (.pointer none) enc w:=by
 intro L d bs hd hL hlim
 refine ft wt.mixed hfn (by omega) fun a h0 h1 hs I4=>?_
 exact Ap (fun ops Q a x d hx h=>lI (m:=none) hP hx h) h0 h1 hE (hc L) (by omega) (by omega) hd hL hlim fun a' w' d' hd' h4 hg=>⟨hd'.trans I4,kz h4 hg⟩
theorem rB (wt:WT P K){f f1 f2 ntmps tP:Nat}{c:Value}{enc:Bs}{w:World}{p:Addr}{s:Value}(hP:P.underlying tP=some (.pointer K.tStr))(hp:w.cell? p=some s)(hE:Ent P f2)(hc:ApC P K.tU8 f2 s enc w)(hfn:FnIs P f ntmps [4] (cANStr K tP c f1 f2))(Iv:14<=ntmps):ApC P K.tU8 f (.pointer (some p)) enc w:=by
 intro L d bs hd hL hlim
 refine ft wt.mixed hfn (by omega) fun a h0 h1 hs I4=>?_
 refine CF (fun ops Q a x d hx h=>lI (m:=some p) hP hx h) h1 (by omega) (by omega) fun a1 HX=>?_
 have If:=HX.size
 refine ad (aq (ah (ah ?_)))
 rw[aa,aa,HX.get 0 (by omega) (by omega),h0,al (by omega),HX.get 1 (by omega) (by omega),h1]
 refine aG (p:=p) (by rw[aa,ao (by simp only[ab];omega)]) ?_
 refine bg (p:=p) (v:=s) (by rw[aa,ao (by simp only[ab];omega)]) (wt.vStr.agg w) hp ?_
 refine iS hE ?_ (hc L) hd hL hlim (by simp only[ab];omega) (by simp only[ab];omega) fun a' w' d' hd' h4 hg=>⟨?_,kz h4 hg⟩
 ·simp only[List.map_cons,List.map_nil,aa]
  rw[al (by omega),al (by omega),al (by omega),ao (by omega),ao (by simp only[ab];omega)]
 ·rw[hd'];simp only[aj];rw[HX.defers];exact I4
theorem A9 (hm:P.follows .mixedOrders=true){f ntmps:Nat}{c:Code}{y z:Value}{w:World}{RR:Ending->World->Prop}(hfn:FnIs P f ntmps [4] c)(Iv:2<=ntmps)
  (h:∀ a,a.get 0=y->a.get 1=z->a.tmps.size=ntmps->a.defers=[]->aK P c (Rt (fun _ _=>False) (fun a' w'=>a'.defers=[]/\RR (.returned (a'.get 4)) w')) a w):Calls P f #[y,z] w RR:=by
 refine hfn.calls hm (by simp) ?_
 have:=h { tmps:=#[y,z]++Array.replicate (ntmps-(#[y,z]:Array Value).size) undef,defers:=[] } (by rw[b9 _ _ _ (by simp)];rfl) (by rw[b9 _ _ _ (by simp)];rfl) (ck #[y,z] ntmps Iv) rfl
 exact lk this (fun _ _ h=>h.elim) (fun a w h=>⟨h.1,h.2⟩)
theorem AE (wt:WT P K){f ntmps:Nat}(_hV:bc P K.tUuid true 16)(hA:P.underlying K.tUuid=some (.array 16 K.tU8))(hfn:FnIs P f ntmps [4] (cAUuid K))(Iv:8<=ntmps){l:Bs}(hl:l.length=16)(w:World):ApC P K.tU8 f (.agg (l.map aJ).toArray) l w:=by
 intro L d bs hd hL hlim
 refine A9 wt.mixed hfn (by omega) fun a Jp Ig hsz' Kh=>?_
 unfold cAUuid
 have hk:ac (fun _=>False) w (w.alloc (.cells (l.map aJ).toArray K.tUuid (0,0))):=ac.alloc _ _ _
 refine az (aq (aB (v:=.pointer (some ⟨w.heap.size,0,none⟩)) (w':=w.alloc (.cells (l.map aJ).toArray K.tUuid (0,0))) ?_ (ak (wpList_nil ?_))))
 ·have e1:a.eval (tm 1)=.agg (l.map aJ).toArray:=Ig
  simp[execOp,mk,e1,Instr.box,newVar,newRow,newObj,Sem.run,Value.cells]
 refine az (aq (ah ?_))
 rw[aa,al (by omega),al (by omega),Jp]
 refine aB (v:=.slice (some ⟨w.heap.size,0,none⟩) 16 16) (w':=w.alloc (.cells (l.map aJ).toArray K.tUuid (0,0))) ?_ ?_
 ·have e3:(((a.put (some 3) (.pointer (some ⟨w.heap.size,0,none⟩))).put (some 4) (Act.eval (a.put (some 3) (.pointer (some ⟨w.heap.size,0,none⟩))) (.const aF))).put (some 5) d).eval (tm 3)=.pointer (some ⟨w.heap.size,0,none⟩):=by
   rw[aa,al (by omega),al (by omega),ao (by omega)]
  obtain⟨i,z,hi,_,Ii,_⟩:=wt.oct.info
  simp[execOp,mk,e3,Instr.sliceAt,run_underlying hA,Instr.sureAddr,Instr.sliceBounds,sizeOf,typeInfo,hi,Addr.add_lit]
 have Jw:ez (w.alloc (.cells (l.map aJ).toArray K.tUuid (0,0))) w.heap.size 0 l:=by
  intro j b hj
  have:=aE w (.cells (l.map aJ).toArray K.tUuid (0,0))
  simp only[World.cell?,this,Nat.zero_add,List.getElem?_toArray,List.getElem?_map,hj]
  rfl
 refine eh wt.oct (d:=d) (L:=L) (bs:=bs) (l:=l) ?_ (x:=.slice (some ⟨w.heap.size,0,none⟩) l.length 16) ?_ (hd.keep hk fun _ _ h=>h) (ic wt.oct Jw) (by have:=hk.size;omega) hlim fun d' w' hg=>?_
 ·rw[aa,al (by omega),ao (by simp only[ab];omega)]
 ·rw[aa,ao (by simp only[ab];omega),hl]
 refine ak (wpList_nil (az (.ret ?_)))
 rw[aa,ao (by simp only[ab];omega)]
 exact⟨by simp only[aj];exact Kh,kz (ao (by simp only[ab];omega)) (Gr.pre hk (fun _ _ h=>h) hg)⟩
end
section
variable {P:Program} {g:GW} {av:PF->Bool} {fl nl:Bool} {te:Nat} {cx:Cx} {fx:Bool} {ver:Int} {L B O m k0 n:Nat} {d:Value} {bs:Bs} {K N E:Act->World->Prop} {Q:Exit->Act->World->Prop} {a:Act} {w:World}
theorem ug {f v F E' len c:Nat}{base:Option Addr}{enc:Bs}(hE:Ent P f)(hc:ApC P te f (.int .i64 len) enc w)(h1:a.get 1=d)(hv:a.get v=.slice base len c)(hF:P.underlying F=some (.slice E'))(MI:v<n)(hd:aA w L te d bs)(hL:L<=w.heap.size)(hlim:bs.length+enc.length<=di)(hm:m<=k0)(hk:k0<=n)(_h1m:1<n)(hn:n+4<=a.tmps.size)
  (h:∀ a' w' d',Pv 1 m k0 n a a'->a'.get 1=d'->Gr L te d w d' (bs++enc) w'->K a' w'):aK P (eO g f v F n).1 (Exit.then K Q) a w:=by
 refine aq (ah (ah (dV (base:=base) (n:=len) (c:=c) (by rw[aa,ao (by simp only[ab];omega),aa,al (by omega)];exact hv) hF ?_)))
 refine dw hE ?_ (hc L) hd hL hlim (by simp only[ab];omega) fun w' d' hg=>wpList_nil (h _ w' d' ?_ (ao (by simp only[ab];omega)) hg)
 ·simp only[List.map_cons,List.map_nil,aa]
  rw[al (by omega),al (by omega),ao (by omega),ao (by simp only[ab];omega),h1]
 ·exact(((((Pv.refl _ _ _ _ _).put _ (by omega)).put _ (by omega)).put _ (by omega)).put _ (by omega)).put _ (.inl rfl)
theorem uf {f v F E' len c:Nat}{base:Option Addr}{enc:Bs}(hE:Ent P f)(hc:Calls P f #[d,.int .i64 len,.bool base.isNone] w fun e w'=>∃ d',e=.returned d'/\Gr L te d w d' (bs++enc) w')(h1:a.get 1=d)(hv:a.get v=.slice base len c)(hF:P.underlying F=some (.slice E'))(MI:v<n)(hm:m<=k0)(hk:k0<=n)(_h1m:1<n)(hn:n+6<=a.tmps.size)
  (h:∀ a' w' d',Pv 1 m k0 n a a'->a'.get 1=d'->Gr L te d w d' (bs++enc) w'->K a' w'):aK P (ea g f v F n).1 (Exit.then K Q) a w:=by
 refine aq (ah (ah (dV (base:=base) (n:=len) (c:=c) (by rw[aa,ao (by simp only[ab];omega),aa,al (by omega)];exact hv) hF (ah ?_))))
 refine wP (m:=base) (n:=len) (c:=c) hF (by rw[aa,ao (by simp only[ab];omega),aa,al (by omega),al (by omega),al (by omega)];exact hv) ?_
 refine aN (vs:=#[d,.int .i64 len,.bool base.isNone]) hE ?_ hc fun e w' hR=>?_
 ·simp only[List.map_cons,List.map_nil,aa]
  rw[al (by omega),al (by omega),al (by omega),al (by omega),ao (by omega),al (by omega),al (by omega),ao (by simp only[ab];omega),ao (by simp only[ab];omega),h1]
 obtain⟨d',he,hg⟩:=hR
 refine⟨d',he,ak (wpList_nil (h _ w' d' ?_ ?_ hg))⟩
 ·exact(((((((Pv.refl _ _ _ _ _).put _ (by omega)).put _ (by omega)).put _ (by omega)).put _ (by omega)).put _ (by omega)).put _ (by omega)).put _ (.inl rfl)
 ·rw[ao (by simp only[ab];omega),aa,ao (by simp only[ab];omega)]
theorem ue (K0:KW P g av fl nl te){v F E' len c:Nat}{base:Option Addr}(Lm:jW g cx.hf=true)(Ih:cx.hf=true->fl=true)(hw:WC cx fx ver te L B O d bs a w)(hc:mc cx m k0)(hv:a.get v=.slice base len c)(hF:P.underlying F=some (.slice E'))(MI:v<k0)(hk:k0<=n)(hn:(de cx (eO g g.calen v F) (eO g g.alen v F) n).2<=a.tmps.size)
  (hlim:bs.length+(fe fx len).length<=di)
  (h:∀ a' w' d',Pv 1 m k0 n a a'->a'.get 1=d'->Gr L te d w d' (bs++fe fx len) w'->K a' w'):aK P (de cx (eO g g.calen v F) (eO g g.alen v F) n).1 (Exit.then K Q) a w:=by
 have Iq:=hc.le
 have Jm:=hc.one
 have J8:fx=true->cx.hf=true:=fun h=>by
  cases hh:cx.hf with
  | true=>rfl
  | false=>rw[hw.nf hh]at h;cases h
 simp only[jW,Bool.and_eq_true,Bool.or_eq_true,Bool.not_eq_true']at Lm
 have IE:(de cx (eO g g.calen v F) (eO g g.alen v F) n).2<=a.tmps.size:=hn
 have Kf:n<a.tmps.size:=by
  unfold de at IE
  split at IE
  ·have:n+1+4+4<=a.tmps.size:=IE
   omega
  ·have:n+4<=a.tmps.size:=IE
   omega
 refine xx (am _ _) (am _ _) hw hc hk IE Kf fun a1 n1 HX Ig Ik Oc Ii=>?_
 have If:=HX.size
 have JI:a1.get v=.slice base len c:=by rw[Ik v (by omega)];exact hv
 cases fx with
 | true=>
  simp only[if_true]at Ii ⊢
  have hsz':n1+4<=a.tmps.size:=Ii
  exact ug (K0.clE (Ih (J8 rfl)) (Lm.2.resolve_left (by rw[J8 rfl];simp))) (K0.clC (Ih (J8 rfl)) (Lm.2.resolve_left (by rw[J8 rfl];simp)) len w) Ig JI hF (by omega) hw.dst hw.Lw hlim Iq (by omega) (by omega) (by omega) fun a' w' d' I3 h1' I0=>h a' w' d' (HX.trans (I3.mono (Nat.le_refl _) Oc)) h1' I0
 | false=>
  simp only[Bool.false_eq_true,if_false]at Ii ⊢
  have hsz':n1+4<=a.tmps.size:=Ii
  exact ug (K0.alE Lm.1) (K0.alC Lm.1 len w) Ig JI hF (by omega) hw.dst hw.Lw hlim Iq (by omega) (by omega) (by omega) fun a' w' d' I3 h1' I0=>h a' w' d' (HX.trans (I3.mono (Nat.le_refl _) Oc)) h1' I0
theorem ud (K0:KW P g av fl nl te){v F E' len c:Nat}{base:Option Addr}(O9:nl=true)(Ih:cx.hf=true->fl=true)(hw:WC cx fx ver te L B O d bs a w)(hc:mc cx m k0)(hv:a.get v=.slice base len c)(hF:P.underlying F=some (.slice E'))(MI:v<k0)(hk:k0<=n)(hn:(de cx (ea g g.cnalen v F) (ea g g.nalen v F) n).2<=a.tmps.size)
  (hlim:bs.length+(if base.isNone then cf fx 4 else fe fx len).length<=di)
  (h:∀ a' w' d',Pv 1 m k0 n a a'->a'.get 1=d'->Gr L te d w d' (bs++(if base.isNone then cf fx 4 else fe fx len)) w'->K a' w'):aK P (de cx (ea g g.cnalen v F) (ea g g.nalen v F) n).1 (Exit.then K Q) a w:=by
 have Iq:=hc.le
 have Jm:=hc.one
 have J8:fx=true->cx.hf=true:=fun h=>by
  cases hh:cx.hf with
  | true=>rfl
  | false=>rw[hw.nf hh]at h;cases h
 have IE:(de cx (ea g g.cnalen v F) (ea g g.nalen v F) n).2<=a.tmps.size:=hn
 have Kf:n<a.tmps.size:=by
  unfold de at IE
  split at IE
  ·have:n+1+6+6<=a.tmps.size:=IE
   omega
  ·have:n+6<=a.tmps.size:=IE
   omega
 refine xx (am _ _) (am _ _) hw hc hk IE Kf fun a1 n1 HX Ig Ik Oc Ii=>?_
 have If:=HX.size
 have JI:a1.get v=.slice base len c:=by rw[Ik v (by omega)];exact hv
 cases fx with
 | true=>
  simp only[if_true]at Ii ⊢
  have hsz':n1+6<=a.tmps.size:=Ii
  exact uf (K0.cnE O9 (Ih (J8 rfl))) (K0.cnC O9 (Ih (J8 rfl)) len base.isNone w L d bs hw.dst hw.Lw hlim) Ig JI hF (by omega) Iq (by omega) (by omega) (by omega) fun a' w' d' I3 h1' I0=>h a' w' d' (HX.trans (I3.mono (Nat.le_refl _) Oc)) h1' I0
 | false=>
  simp only[Bool.false_eq_true,if_false]at Ii ⊢
  have hsz':n1+6<=a.tmps.size:=Ii
  exact uf (K0.nlE O9) (K0.nlC O9 len base.isNone w L d bs hw.dst hw.Lw hlim) Ig JI hF (by omega) Iq (by omega) (by omega) (by omega) fun a' w' d' I3 h1' I0=>h a' w' d' (HX.trans (I3.mono (Nat.le_refl _) Oc)) h1' I0
theorem BG (K0:KW P g av fl nl te){nul:Option Nat}{v F E' len c:Nat}{base:Option Addr}(Jj:nul.isSome=true->nl=true)(Lm:nul≠some 0->jW g cx.hf=true)(Ih:cx.hf=true->fl=true)(hw:WC cx fx ver te L B O d bs a w)(hc:mc cx m k0)(hv:a.get v=.slice base len c)(hF:P.underlying F=some (.slice E'))(MI:v<k0)(hk:k0<=n)(hn:(fk g cx nul v F n).2<=a.tmps.size)
  (hlim:bs.length+(if ce nul ver&&base.isNone then cf fx 4 else fe fx len).length<=di)
  (h:∀ a' w' d',Pv 1 m k0 n a a'->a'.get 1=d'->Gr L te d w d' (bs++(if ce nul ver&&base.isNone then cf fx 4 else fe fx len)) w'->K a' w'):aK P (fk g cx nul v F n).1 (Exit.then K Q) a w:=by
 have Iq:=hc.le
 have Jm:=hc.one
 match nul with
 | none=>
  simp only[ce,Bool.false_and,Bool.false_eq_true,if_false]at hlim h
  exact ue K0 (Lm (by simp)) Ih hw hc hv hF MI hk hn hlim h
 | some 0=>
  simp only[ce,decide_true,Bool.true_or,Bool.true_and]at hlim h
  exact ud K0 (Jj rfl) Ih hw hc hv hF MI hk hn hlim h
 | some (q+1)=>
  have e0:ce (some (q+1)) ver=decide (((q+1:Nat):Int)<=ver):=by simp[ce]
  rw[e0]at hlim h
  have IE:(de cx (eO g g.calen v F) (eO g g.alen v F) (de cx (ea g g.cnalen v F) (ea g g.nalen v F) (n+2)).2).2<=a.tmps.size:=hn
  have Uy:n+2+6<=(de cx (ea g g.cnalen v F) (ea g g.nalen v F) (n+2)).2:=by
   unfold de
   split
   ·show n+2+6<=n+2+1+6+6
    omega
   ·show n+2+6<=n+2+6
    omega
  generalize hnq:(de cx (ea g g.cnalen v F) (ea g g.nalen v F) (n+2)).2=nq at IE Uy
  have MJ:nq+4<=(de cx (eO g g.calen v F) (eO g g.alen v F) nq).2:=by
   unfold de
   split
   ·show nq+4<=nq+1+4+4
    omega
   ·show nq+4<=nq+4
    omega
  have Lh:=hw.sv
  have TQ:=hc.ver
  have NP:∀ (b:Bool) (X:Act->World->Prop),b=decide (((q+1:Nat):Int)<=ver)->(∀ a1,Pv 1 m k0 n a a1->a1.get 1=d->a1.get v=.slice base len c->a1.tmps.size=a.tmps.size->WC cx fx ver te L B O d bs a1 w->X a1 w) ->
    wpList P ([mk (some n) (.move (tm cx.ver)),mk (some (n+1)) (.binOp .geq g.tVer (tm n) (ki .i16 ((q+1:Nat):Int)) 0)]:List Oper).toArray (Exit.then (fun a' w'=>a'.eval (tm (n+1))=.bool b/\X a' w') (Exit.then K Q)) [mk (some n) (.move (tm cx.ver)),mk (some (n+1)) (.binOp .geq g.tVer (tm n) (ki .i16 ((q+1:Nat):Int)) 0)] a w:=by
   intro b X hb hX
   refine ah ?_
   rw[aa,Lh]
   refine bk (b:=b) (p:=ver) (q:=((q+1:Nat):Int)) (k:=.i16) (by rw[aa,ao (by omega)]) rfl (.inl ⟨rfl,hb⟩) (wpList_nil ⟨?_,?_⟩)
   ·rw[aa,ao (by simp only[ab];omega)]
   have hp:Pv 1 m k0 n a ((a.put (some n) (.int .i16 ver)).put (some (n+1)) (.bool b)):=((Pv.refl _ _ _ _ _).put _ (by omega)).put _ (by omega)
   have Ig:((a.put (some n) (.int .i16 ver)).put (some (n+1)) (.bool b)).get 1=d:=by rw[al (by omega),al (by omega)];exact hw.s1
   exact hX _ hp Ig (by rw[al (by omega),al (by omega)];exact hv) (by simp only[ab]) (hw.step hc hp Ig (Gr.refl hw.dst))
  cases hb:decide (((q+1:Nat):Int)<=ver) with
  | true=>
   rw[hb]at hlim h
   simp only[Bool.true_and]at hlim h
   refine cL (NP true _ hb.symm fun a1 HX Ig JI If K8=>?_)
   exact ud K0 (Jj rfl) Ih K8 hc JI hF MI (by omega) (by rw[hnq,If];omega) hlim fun a' w' d' I3 h1' I0=>h a' w' d' (HX.trans (I3.mono (Nat.le_refl _) (by omega))) h1' I0
  | false=>
   rw[hb]at hlim h
   simp only[Bool.false_and,Bool.false_eq_true,if_false]at hlim h
   refine cD (NP false _ hb.symm fun a1 HX Ig JI If K8=>?_)
   rw[hnq]
   exact ue K0 (Lm (by simp)) Ih K8 hc JI hF MI (by omega) (by rw[If];exact IE) hlim fun a' w' d' I3 h1' I0=>h a' w' d' (HX.trans (I3.mono (Nat.le_refl _) (by omega))) h1' I0
theorem zY (K0:KW P g av fl nl te){T kt _off F sz:Nat}{agg:Bool}{t:List (Nat × Bs)}{toff:Option Nat}{rest:List GC}(Ih:cx.hf=true->fl=true)(hw:WC cx fx ver te L B O d bs a w)(hc:mc cx m k0)(hk:k0<=n)(hn:(gL (gb g cx T kt) n).2<=a.tmps.size)
  (JU:match toff with|some o=>cx.hf=true/\bw P T kt F o agg sz|none=>cx.hf=false) (ht:dJ w (fun k=>L<=k) B O toff t) (hlim:bs.length+(bH fx t).length<=di)
  (h:∀ a' w' d',Pv 1 m k0 n a a'->a'.get 1=d'->Gr L te d w d' (bs++bH fx t) w'->LW P rest (gL (gb g cx T kt) n).2 Q a' w'):LW P (gb g cx T kt++rest) n Q a w:=by
 have Iq:=hc.le
 have Jm:=hc.one
 have ML:=hc.s
 cases toff with
 | none=>
  have hf:cx.hf=false:=JU
  have J8:=hw.nf hf
  subst J8
  obtain rfl:t=[]:=ht
  have e:gb g cx T kt=[]:=by simp[gb,hf]
  rw[e]at hn h ⊢
  exact h a w d (Pv.refl _ _ _ _ _) hw.s1 (by simpa[bH]using Gr.refl hw.dst)
 | some o=>
  obtain⟨hf,hF⟩:=JU
  obtain⟨mm,K9,IW⟩:=ht
  have hfl':=Ih hf
  have e:gb g cx T kt=[gX cx (gS [nV g cx.s T kt,em g cx.s T kt]) bp]:=by simp[gb,hf]
  rw[e]at hn h ⊢
  have hn':n+1+8+5<=a.tmps.size:=hn
  refine ad (o5 (x:=n) (m:=m) (k0:=k0) (hw.sf hf) Iq hk (by omega) fun a1 HX=>?_)
  have hp1':Pv 1 m k0 n a a1:=⟨HX.size,HX.defers,fun s hs Iw=>HX.get s (by omega) Iw⟩
  have If:=HX.size
  have Ig:a1.get 1=d:=by rw[HX.get 1 (by omega) (.inl Jm)];exact hw.s1
  have Ng:a1.get cx.s=pt B O:=by rw[HX.get _ (by omega) (.inl ML.1)];exact hw.ss
  cases fx with
  | false=>
   simp only[Bool.false_eq_true,if_false]
   exact .skip (h a1 w d hp1' Ig (by simpa[bH]using Gr.refl hw.dst))
  | true=>
   simp only[if_true]
   have Ib:(bH true t).length=(uvar (dj t.length)).length+(bQ t).length:=by simp[bH]
   rw[Ib]at hlim
   refine aY (ad (aq (ah (ah ?_))))
   rw[aa,Ig,aa,al (by omega),Ng]
   refine aG (by rw[aa,ao (by simp only[ab];omega)];rfl) ?_
   refine bN (by rw[aa,ao (by simp only[ab];omega)]) hF ?_
   refine aN (vs:=#[pt B (O+o)]) (K0.tlE hfl') ?_ (K0.tlC hfl' w B (O+o) mm _ t K9 IW) fun e2 w2 hR=>⟨_,hR.1,?_⟩
   ·simp only[List.map_cons,List.map_nil,aa]
    rw[ao (by simp only[ab];omega)]
    rfl
   have Ic:=hR.2
   refine aL (k:=.i64) (k':=.u32) (m:=t.length) (by rw[aa,ao (by simp only[ab];omega)]) K0.dInt (K0.dU32 hfl') ?_
   refine co (k:=.u32) (m:=0) (n:=IntKind.u32.wrap t.length) rfl (by rw[aa,ao (by simp only[ab];omega)]) (by simp) (jU w2) ?_
   have IR:IntKind.u32.wrap (0+IntKind.u32.wrap (t.length:Int))=(dj t.length:Nat):=by simp[IntKind.wrap,IntKind.bits,IntKind.signed,dj]
   rw[IR]
   refine dw (K0.uvE hfl') ?_ (K0.uvC hfl' (dj t.length) w2 (lK _) L) (hw.dst.keep Ic fun _ _ h=>h) (Nat.le_trans hw.Lw Ic.size) (by omega) (by simp only[ab];omega) fun w3 d3 I2=>wpList_nil ?_
   ·simp only[List.map_cons,List.map_nil,aa]
    rw[al (by omega),al (by omega),al (by omega),al (by omega),al (by omega),al (by omega),ao (by omega),ao (by simp only[ab];omega)]
   have JC:Gr L te d w d3 (bs++uvar (dj t.length)) w3:=Gr.pre Ic (fun _ _ h=>h) I2
   have IV:=Gr.far hw.dst JC
   have Mq:w3.cell? ⟨B,O+o,none⟩=some mm:=IV.cell (by have:=hw.BL;omega) K9
   have Lj:=IW.keep IV
   have key:∀ (a2:Act),Pv 1 m k0 n a a2->a2.get 1=d3->a2.get cx.s=pt B O->LW P [em g cx.s T kt] (n+1+8) (Exit.then (LW P rest (gL [gX cx (gS [nV g cx.s T kt,em g cx.s T kt]) bp] n).2 Q) Q) a2 w3:=by
    intro a2 HZ Ij Ny
    have Iw:=HZ.size
    refine ad (aq (ah ?_))
    rw[aa,Ny]
    refine aG (by rw[aa,ao (by omega)];rfl) ?_
    refine bN (by rw[aa,ao (by simp only[ab];omega)]) hF (ah ?_)
    rw[aa,al (by omega),al (by omega),al (by omega),Ij]
    refine aN (vs:=#[pt B (O+o),d3]) (K0.teE hfl') ?_ (K0.teC hfl' w3 B (O+o) mm L t d3 _ Mq (JC.dst.away hw.BL (Nat.le_trans hw.Lw JC.keeps.size)) Lj JC.dst (Nat.le_trans hw.Lw JC.keeps.size) (by rw[List.length_append];omega)) fun e4 w4 hR4=>?_
    ·simp only[List.map_cons,List.map_nil,aa]
     rw[al (by omega),ao (by simp only[ab];omega),ao (by simp only[ab];omega)]
     rfl
    obtain⟨d4,SB,IU⟩:=hR4
    refine⟨d4,SB,ak (wpList_nil (bf (h _ w4 d4 ?_ ?_ ?_)))⟩
    ·exact HZ.trans ((((((Pv.refl _ _ _ _ _).put _ (by omega)).put _ (by omega)).put _ (by omega)).put _ (by omega)).put _ (by omega) |>.put _ (.inl rfl))
    ·rw[ao (by simp only[ab];omega),aa,ao (by simp only[ab];omega)]
    ·have:=JC.trans IU
     simpa[bH,List.append_assoc]using this
   refine key _ ?_ (ao (by simp only[ab];omega)) ?_
   ·exact hp1'.trans (((((((((Pv.refl _ _ _ _ _).put _ (by omega)).put _ (by omega)).put _ (by omega)).put _ (by omega)).put _ (by omega)).put _ (by omega)).put _ (by omega)).put _ (by omega) |>.put _ (.inl rfl))
   ·have hs1':=ML.1
    have hs2':=ML.2
    rw[al (by omega),al (by omega),al (by omega),al (by omega),al (by omega),al (by omega),al (by omega),al (by omega),al (by omega)];exact Ng
end
def lS (k:Nat):Value:=.int .u32 (k:Int)
structure E9 (P:Program)(tKs tU:Nat):Prop where
 sl:P.underlying tKs=some (.slice tU)
 info:∃ i z,P.info? tU=some i/\i.zero=some z/\i.size=1/\i.bytes=4/\z.cells.size=1
 vU:bc P tU false 1
 dU:P.underlying tU=some (.int .u32)
def jg (w:World)(L tU:Nat)(v:Value)(ks:List Nat):Prop:=
 (v=.slice none 0 0/\ks=[]) \/ ∃ (g c:Nat) (cur:Array Value),v=.slice (some ⟨g,0,none⟩) ks.length c/\L<=g/\w.heap[g]?=some (.cells cur tU (0,0))/\ks.length<=c/\c<=maxLen/\c<=cur.size/\∀ (j k:Nat),ks[j]?=some k->cur[j]?=some (lS k)
section
variable {P:Program} {tKs tU L:Nat} {v:Value} {ks:List Nat} {w w':World}
theorem jg.own (h:jg w L tU v ks){j:Nat}(hj:v.ownBlock=some j):L<=j/\j<w.heap.size:=by
 rcases h with⟨rfl,_⟩|⟨g,c,cur,rfl,h1,h2,_⟩
 ·simp[Value.ownBlock]at hj
 ·simp only[Value.ownBlock,Option.some.injEq]at hj
  subst hj
  exact⟨h1,(Array.getElem?_eq_some_iff.1 h2).1⟩
theorem jg.keep {X:Nat->Prop}(h:jg w L tU v ks)(hk:ac X w w')(hx:∀ j,v.ownBlock=some j->¬ X j):jg w' L tU v ks:=by
 rcases h with h|⟨g,c,cur,rfl,h1,h2,h3⟩
 ·exact .inl h
 ·exact .inr ⟨g,c,cur,rfl,h1,by rw[hk.block g (Array.getElem?_eq_some_iff.1 h2).1 (hx g rfl)];exact h2,h3⟩
theorem jg.form (h:jg w L tU v ks):∃ base c,v=.slice base ks.length c:=by
 rcases h with⟨rfl,rfl⟩|⟨g,c,cur,rfl,_⟩
 ·exact⟨none,0,rfl⟩
 ·exact⟨_,_,rfl⟩
theorem o7 (T:E9 P tKs tU){ty:TypeId}{x:Value}{k:Nat}(hd:jg w L tU v ks)(hs:Src P 1 tKs x 1 [lS k] w)(hL:L<=w.heap.size)(hlim:ks.length<=1000) :
  ∃ v' w',(Builtin.append_ #[tKs,tKs] ty #[v,x]).run P w=.ok v' w'/\jg w' L tU v' (ks++[k])/\ac (fun j=>v.ownBlock=some j) w w'/\∀ j,v'.ownBlock=some j->v.ownBlock=some j \/ w.heap.size<=j:=by
 obtain⟨i,z,hi,hz,Ii,MD,K7⟩:=T.info
 have ht:=T.sl
 have KY:Src P i.size tKs x 1 [lS k] w:=by rw[Ii];exact hs
 have grown:∀ (base:Option Addr) (old:Nat),old<ks.length+1->(Builtin.firstCells i.size ks.length (.slice base ks.length old)).run P w.drew=.ok (ks.map lS).toArray w.drew ->
   ∃ v' w',(Builtin.append_ #[tKs,tKs] ty #[.slice base ks.length old,x]).run P w=.ok v' w'/\jg w' L tU v' (ks++[k])/\ac (fun _=>False) w w'/\∀ j,v'.ownBlock=some j->w.heap.size<=j:=by
  intro base old ho Jv
  have hr:=run_append_grow_src (P:=P) w tKs tKs ty tU i z ht hi hz base ks.length old (ks.map lS) Jv x 1 [lS k] KY ho (by omega) (growslice_fits ho (by rw[MD];omega))
  refine⟨_,_,hr,?_⟩
  have Jh:=grownCap_ge w (ks.length+1) old tU
  have Kt:grownCap w (ks.length+1) old tU<=maxLen:=grownCap_le_maxLen w _ old tU (by simp only[maxLen];omega)
  refine⟨.inr ⟨w.heap.size,_,_,by rw[List.length_append];rfl,hL,Go.heap_alloc_new w.drew _,by rw[List.length_append];exact Jh,Kt,?_,?_⟩,⟨rfl,rfl,rfl,by simp,fun k hk _=>bu (w:=w.drew) hk⟩,fun j hj=>?_⟩
  ·simp only[Array.size_append,List.size_toArray,size_zeroCells,K7,List.length_append,List.length_map,List.length_cons,List.length_nil]
   omega
  ·intro j u hj
   have JF:j<(ks++[k]).length:=(List.getElem?_eq_some_iff.1 hj).1
   rw[Array.getElem?_append_left (by simp only[List.size_toArray,List.length_append,List.length_map];rw[List.length_append]at JF;exact JF)]
   rw[List.getElem?_toArray,show ks.map lS++[lS k]=(ks++[k]).map lS by simp,List.getElem?_map,hj]
   rfl
  ·simp only[Value.ownBlock,Option.some.injEq]at hj
   subst hj
   exact Nat.le_refl _
 rcases hd with⟨rfl,rfl⟩|⟨g,c,cur,rfl,Qj,hg,Pg,Kt,Iz,IP⟩
 ·obtain⟨v',w',h1,h2,h3,h4⟩:=grown none 0 (by simp) (by simp[Builtin.firstCells])
  exact⟨v',w',h1,h2,h3.mono fun _ _ h=>h.elim,fun j hj=>.inr (h4 j hj)⟩
 ·by_cases IZ:ks.length+1<=c
  ·have IN:=run_storeCells_at P g ks.length tU [lS k] 0 cur w hg (by simp only[List.length_cons,List.length_nil];omega) hs.one
   simp only[Nat.add_zero]at IN
   have hr:(Builtin.append_ #[tKs,tKs] ty #[.slice (some ⟨g,0,none⟩) ks.length c,x]).run P w=.ok (.slice (some ⟨g,0,none⟩) (ks.length+1) c) (w.setRow g (aD cur ks.length [lS k])):=by
    rcases hs.kind with⟨e',hk⟩|hk<;>simp[Builtin.append_,run_underlying ht,sizeOf,typeInfo,hi,Ii,hs.len,IZ,hs.cells,Addr.add_lit,IN,aD]
   refine⟨_,_,hr,.inr ⟨g,c,_,by rw[List.length_append];rfl,Qj,setRow_heap _ _ _ _ _ _ hg,by rw[List.length_append];exact IZ,Kt,?_,?_⟩,ac.setRow _ _ _ _ rfl,fun j hj=>.inl hj⟩
   ·rw[da (by simp only[List.length_cons,List.length_nil];omega)];exact Iz
   ·intro j u hj
    by_cases Og:j<ks.length
    ·rw[bV (by simp only[List.length_cons,List.length_nil];omega) j (.inl Og)]
     rw[List.getElem?_append_left Og]at hj
     exact IP j u hj
    ·rw[List.getElem?_append_right (by omega)]at hj
     have:=bA (cur:=cur) (o:=ks.length) (vs:=[lS k]) (by simp only[List.length_cons,List.length_nil];omega) (j-ks.length) (by have:=(List.getElem?_eq_some_iff.1 hj).1;exact this)
     rw[show ks.length+(j-ks.length)=j by omega]at this
     rw[this]
     have h0:j-ks.length=0:=by have:=(List.getElem?_eq_some_iff.1 hj).1;simp at this;omega
     rw[h0]at hj ⊢
     simp at hj ⊢
     rw[hj]
  ·obtain⟨v',w',h1,h2,h3,h4⟩:=grown (some ⟨g,0,none⟩) c (by omega) (by
    have:=run_loadCells_list (P:=P) w.drew ⟨g,0,none⟩ (ks.map lS) (fun j u hj=>by
     rw[List.getElem?_map,Option.map_eq_some_iff]at hj
     obtain⟨b,hb,rfl⟩:=hj
     rw[Addr.add_lit]
     have I0:w.drew.heap[g]?=some (.cells cur tU (0,0)):=hg
     simp[World.cell?,I0,IP j b hb])
    simp only[List.length_map]at this
    simp[Builtin.firstCells,Ii,this])
   exact⟨v',w',h1,h2,h3.mono fun _ _ h=>h.elim,fun j hj=>.inr (h4 j hj)⟩
theorem uN (T:E9 P tKs tU){ops:Array Oper}{Q:Exit->Act->World->Prop}{r:List Oper}{a:Act}{d:Option Nat}{k:Nat}(h:wpList P ops Q r (a.put d (.slice (some ⟨w.heap.size,0,none⟩) 1 1)) (w.alloc (.cells #[lS k] tU (0,0)))) :
  wpList P ops Q (mk d (.buildSlice tKs 1 #[(0,ki .u32 k)])::r) a w:=by
 obtain⟨i,z,hi,hz,Ii,_⟩:=T.info
 refine aB (w':=w.alloc (.cells #[lS k] tU (0,0))) ?_ h
 have JY:=l5 [lS k] 0 ((Array.range 1).map fun k=>z.cells[k%z.cells.size]!) (fun v hv=>by
  simp only[List.mem_singleton]at hv
  subst hv
  rfl) (by simp)
 rw[dy (by simp)]at JY
 simp[rK]at JY
 have hy:a.eval (ki .u32 (k:Int))=lS k:=rfl
 simp[execOp,mk,Instr.buildSlice,run_underlying T.sl,sizeOf,typeInfo,zeroValue,hi,hz,Ii,hy,JY,newRow,newObj,Sem.run]
variable {m k0 n:Nat} {K E:Act->World->Prop} {Q:Exit->Act->World->Prop} {a:Act}
theorem EQ (T:E9 P tKs tU){te k:Nat}(P9:a.get te=v)(hv:jg w L tU v ks)(hL:L<=w.heap.size)(hlim:ks.length<=1000)(Iu:m<=te/\te<k0)(hk:k0<=n)(hn:n+3<=a.tmps.size)
  (h:∀ a' w' v',Pv te m k0 n a a'->a'.get te=v'->jg w' L tU v' (ks++[k])->ac (fun j=>v.ownBlock=some j) w w'->(∀ j,v'.ownBlock=some j->v.ownBlock=some j \/ w.heap.size<=j)->K a' w') :
  aK P (lz tKs te k n).1 (Exit.then K Q) a w:=by
 refine aq (ah (uN T ?_))
 rw[aa,P9]
 have Ir:ac (fun _=>False) w (w.alloc (.cells #[lS k] tU (0,0))):=ac.alloc _ _ _
 have IX:(w.alloc (.cells #[lS k] tU (0,0))).heap[w.heap.size]?=some (.cells #[lS k] tU (0,0)):=heap_alloc_new w _
 have If:w.heap.size<=(w.alloc (.cells #[lS k] tU (0,0))).heap.size:=Ir.size
 have JI:jg (w.alloc (.cells #[lS k] tU (0,0))) L tU v ks:=hv.keep Ir fun _ _ h=>h
 have J3:Src P 1 tKs (.slice (some ⟨w.heap.size,0,none⟩) 1 1) 1 [lS k] (w.alloc (.cells #[lS k] tU (0,0))):=Src.ofSlice _ T.sl ⟨w.heap.size,0,none⟩ 1 1 _ rfl (fun q u hq=>by
  rw[Addr.add_lit]
  cases q with
  | zero=>
   simp only[List.getElem?_cons_zero,Option.some.injEq]at hq
   subst hq
   simp only[World.cell?,Nat.add_zero]
   rw[IX]
   rfl
  | succ q=>simp at hq) (fun u hu=>by simp only[List.mem_singleton]at hu;subst hu;rfl)
 obtain⟨v',w',hr,h2,h3,h4⟩:=o7 (ty:=tKs) T JI J3 (Nat.le_trans hL If) hlim
 refine z7 (v:=v') (w':=w') (by
  have e1:((a.put (some n) v).put (some (n+1)) (.slice (some ⟨w.heap.size,0,none⟩) 1 1)).eval (tm n)=v:=by rw[aa,al (by omega),ao (by omega)]
  have e2:((a.put (some n) v).put (some (n+1)) (.slice (some ⟨w.heap.size,0,none⟩) 1 1)).eval (tm (n+1))=.slice (some ⟨w.heap.size,0,none⟩) 1 1:=by rw[aa,ao (by simp only[ab];omega)]
  simp[execOp,bi,resolve,invoke,builtin,e1,e2,hr]) (ak (wpList_nil (h _ w' v' ?_ ?_ h2 ((Ir.mono fun _ _ h=>h.elim).trans h3) fun j hj=>?_)))
 ·exact((((Pv.refl _ _ _ _ _).put _ (by omega)).put _ (by omega)).put _ (by omega)).put _ (.inl rfl)
 ·rw[ao (by simp only[ab];omega),aa,ao (by simp only[ab];omega)]
 ·rcases h4 j hj with h|h
  ·exact .inl h
  ·exact .inr (Nat.le_trans If h)
end
section
variable {P:Program} {g:GW} {av:PF->Bool} {fl nl:Bool} {te:Nat} {L m k0 n:Nat} {d:Value} {bs:Bs} {K E:Act->World->Prop} {Q:Exit->Act->World->Prop} {a:Act} {w:World}
structure Sx (x y mB k0 n:Nat)(a a':Act):Prop where
 size:a'.tmps.size=a.tmps.size
 defers:a'.defers=a.defers
 get:∀ i,i≠x->i≠y->(i<mB \/ (k0<=i/\i<n))->a'.get i=a.get i
theorem Sx.refl (x y mB k0 n:Nat)(a:Act):Sx x y mB k0 n a a:=⟨rfl,rfl,fun _ _ _ _=>rfl⟩
theorem Sx.trans {x y mB k0 n:Nat}{a b c:Act}(h:Sx x y mB k0 n a b)(k:Sx x y mB k0 n b c):Sx x y mB k0 n a c:=
 ⟨k.size.trans h.size,k.defers.trans h.defers,fun i hx hy hi=>(k.get i hx hy hi).trans (h.get i hx hy hi)⟩
theorem Sx.put {x y mB k0 n d:Nat}{a b:Act}(h:Sx x y mB k0 n a b)(v:Value)(hd:d=x \/ d=y \/ (mB<=d/\d<k0) \/ (mB<=d/\n<=d)):Sx x y mB k0 n a (b.put (some d) v):=
 ⟨by rw[ab];exact h.size,by rw[aj];exact h.defers,fun i hx hy hi=>by rw[al (by omega)];exact h.get i hx hy hi⟩
theorem Sx.of_pv {x y mB k0 n:Nat}{a b:Act}(h:Pv x mB k0 n a b):Sx x y mB k0 n a b:=⟨h.size,h.defers,fun i hx _ hi=>h.get i hx hi⟩
theorem Sx.mono {x y mB k0 n mB' n':Nat}{a b:Act}(h:Sx x y mB k0 n a b)(hm:mB'<=mB)(hn:n'<=n):Sx x y mB' k0 n' a b:=⟨h.size,h.defers,fun i hx hy hi=>h.get i hx hy (by omega)⟩
theorem ET {Q:Exit->Act->World->Prop}(hK:∀ a w,K a w->Q .normal a w)(hE:∀ a w,E a w->Q .ret a w):∀ e a w,Rt K E e a w->Q e a w:=by
 intro e a w h
 cases e<;>first|exact hK _ _ h|exact hE _ _ h|exact h.elim
theorem sx (K0:KW P g av fl nl te)(Ih:fl=true){x:Nat}(hx:x<4294967296)(h1:a.get 1=d)(hd:aA w L te d bs)(hL:L<=w.heap.size)(hlim:bs.length+(uvar x).length<=di)(hm:m<=k0)(hk:k0<=n)(Jm:1<m)(hn:n+2<=a.tmps.size)
  (h:∀ a' w' d',Pv 1 k0 k0 n a a'->a'.get 1=d'->Gr L te d w d' (bs++uvar x) w'->K a' w'):aK P (iy g x n).1 (Exit.then K Q) a w:=by
 refine aq (ah (dw (K0.uvE Ih) ?_ (K0.uvC Ih x w hx L) hd hL hlim (by simp only[ab];omega) fun w' d' hg=>wpList_nil (h _ w' d' ?_ (ao (by simp only[ab];omega)) hg)))
 ·simp only[List.map_cons,List.map_nil,aa]
  rw[ao (by omega),h1]
  rfl
 ·exact(((Pv.refl _ _ _ _ _).put _ (by omega)).put _ (by omega)).put _ (.inl rfl)
theorem vO {d:Option Nat}{x:Operand}{v:Value}{K:Act->World->Prop}{Q':Exit->Act->World->Prop}(hx:a.eval x=v)(h:K (a.put d v) w):(mk d (.assign x)).wp P a w K Q':=by
 have:(execOp a.eval (mk d (.assign x))).run P w=.ok (.value v) w:=by simp[execOp,mk,hx]
 unfold Oper.wp
 rw[this]
 exact h
theorem CK {d:Option Nat}{T:Nat}{x:Operand}{b:Bool}{K:Act->World->Prop}{Q':Exit->Act->World->Prop}(hx:a.eval x=.bool b)(h:K (a.put d (.bool !b)) w):(mk d (.unOp .not T x)).wp P a w K Q':=by
 have:(execOp a.eval (mk d (.unOp .not T x))).run P w=.ok (.value (.bool !b)) w:=by simp[execOp,mk,hx,Op.unary]
 unfold Oper.wp
 rw[this]
 exact h
theorem aA.form (h:aA w L te d bs):∃ base c,d=.slice base bs.length c/\bs.length<=c/\∀ p,base=some p->p.spot=none:=by
 rcases h with⟨rfl,rfl⟩|⟨g,c,cur,rfl,_,_,h,_⟩
 ·exact⟨none,0,rfl,Nat.le_refl _,fun p hp=>by cases hp⟩
 ·exact⟨_,c,rfl,h,fun p hp=>by cases hp;rfl⟩
theorem aA.cut {base:Option Addr}{c k:Nat}{b1 b2:Bs}(h:aA w L te (.slice base (b1++b2).length c) (b1++b2))(hk:k=b1.length):aA w L te (.slice base k c) b1:=by
 subst hk
 rcases h with⟨h1,h2⟩|⟨g,c',cur,h1,h2,h3,h4,h5,h6,h7⟩
 ·obtain⟨rfl,rfl⟩:=List.append_eq_nil_iff.1 h2
  simp only[Value.slice.injEq]at h1
  obtain⟨rfl,_,rfl⟩:=h1
  exact .inl ⟨rfl,rfl⟩
 ·simp only[Value.slice.injEq]at h1
  obtain⟨rfl,_,rfl⟩:=h1
  refine .inr ⟨g,c,cur,rfl,h2,h3,by rw[List.length_append]at h4;omega,h5,h6,fun i x hi=>h7 i x ?_⟩
  rw[List.getElem?_append_left (List.getElem?_eq_some_iff.1 hi).1]
  exact hi
theorem s5 {F E' m c i d:Nat}{x y:Operand}{base:Option Addr}(hx:a.eval x=.slice base m c)(hy:a.eval y=.int .i64 (i:Nat))(hF:P.underlying F=some (.slice E'))(hs:∀ w,(sizeOf E').run P w=.ok 1 w)(hi:i<=m)(hm:m<=c)(hb:∀ p,base=some p->p.spot=none):(execOp a.eval (mk (some d) (.slice F x none (some y) none))).run P w=.ok (.value (.slice base i c)) w:=by
 have h3:i<=c:=Nat.le_trans hi hm
 cases base with
 | none=>simp[execOp,mk,hx,hy,Instr.sliceAt,Instr.slice,run_underlying hF,Instr.sliceBounds,Instr.sliceBound,asIntOf,hs,h3]
 | some p=>
  have:=hb p rfl
  obtain⟨b,o,s⟩:=p
  simp only at this
  subst this
  simp[execOp,mk,hx,hy,Instr.sliceAt,Instr.slice,run_underlying hF,Instr.sliceBounds,Instr.sliceBound,asIntOf,hs,h3,Addr.add]
theorem pQ {F E' m c i d:Nat}{x y:Operand}{base:Option Addr}(hx:a.eval x=.slice base m c)(hy:a.eval y=.int .i64 (i:Nat))(hF:P.underlying F=some (.slice E'))(hs:∀ w,(sizeOf E').run P w=.ok 1 w)(hi:i<=m):(execOp a.eval (mk (some d) (.slice F x (some y) none none))).run P w=.ok (.value (.slice (if c=i then base else base.map fun q=>q.add (i*1)) (m-i) (c-i))) w:=by
 simp[execOp,mk,hx,hy,Instr.sliceAt,Instr.slice,run_underlying hF,Instr.sliceBounds,Instr.sliceBound,asIntOf,hs,hi]
theorem Af (K0:KW P g av fl nl te)(Ih:fl=true){z lenAt l tB mB:Nat}{b1 enc:Bs}(hz:a.get z=.bool false)(OA:a.get lenAt=.int .i64 (b1.length:Nat))(h1:a.get 1=d)(hd:aA w L te d (b1++enc))(hL:L<=w.heap.size)(hlim:b1.length+(uvar (dj enc.length)).length<=di)(Jm:1<k0)
  (Tq:z<k0/\lenAt<k0/\z≠lenAt/\z≠1/\lenAt≠1) (Xm:mB<=k0) (hk:k0<=n) (hn:n+11<=a.tmps.size)
  (h:∀ a' w' d',Sx 1 z mB k0 n a a'->a'.get z=.bool true->a'.get 1=d'->Gr L te d w d' (b1++uvar (dj enc.length)) w'->Q (.goto l) a' w'):aK P (cJ g z lenAt l tB n).1 Q a w:=by
 obtain⟨base,c,JB,M8,Rm⟩:=hd.form
 obtain⟨i8,z8,TL,hz8,U9,_⟩:=K0.oct.info
 have T4:∀ w,(sizeOf te).run P w=.ok 1 w:=fun w=>by simp[sizeOf,typeInfo,TL,U9]
 have Iq:b1.length<=(b1++enc).length:=by rw[List.length_append];omega
 have hdc:aA w L te (.slice base b1.length c) b1:=by rw[JB]at hd;exact hd.cut rfl
 have Md:(b1++enc).length-b1.length=enc.length:=by rw[List.length_append];omega
 refine cL (ah ?_)
 rw[aa,hz]
 refine mY (b:=false) (by rw[aa,ao (by omega)]) (wpList_nil ⟨by rw[aa,ao (by simp only[ab];omega)];rfl,aY (ad ?_)⟩)
 have Wv:Sx 1 z mB k0 n a ((a.put (some n) (.bool false)).put (some (n+1)) (.bool !false)):=((Sx.refl _ _ _ _ _ _).put _ (by omega)).put _ (by omega)
 have WA:((a.put (some n) (.bool false)).put (some (n+1)) (.bool !false)).get 1=d:=by rw[al (by omega),al (by omega)];exact h1
 have W9:((a.put (some n) (.bool false)).put (some (n+1)) (.bool !false)).get lenAt=.int .i64 (b1.length:Nat):=by rw[al (by omega),al (by omega)];exact OA
 generalize(a.put (some n) (.bool false)).put (some (n+1)) (.bool !false)=A at Wv WA W9 ⊢
 have hAs:=Wv.size
 have Wy:dq [mk (some (n+2)) (.move (tm 1)),mk (some (n+2+1)) (.move (tm lenAt)),mk (some (n+2+2)) (.slice g.tSl (tm (n+2)) none (some (tm (n+2+1))) none),mk (some (n+2+3)) (.move (tm 1)),mk (some (n+2+4)) (.move (tm lenAt)),mk (some (n+2+5)) (.slice g.tSl (tm (n+2+3)) (some (tm (n+2+4))) none none),
   bi (some (n+2+6)) .len [tm (n+2+5)] [g.tSl] g.tInt,mk (some (n+2+7)) (.convert g.tInt g.tU32 (tm (n+2+6))),cl (some (n+2+8)) g.uv [tm (n+2+2),tm (n+2+7)],mk (some 1) (.assign (tm (n+2+8)))]=[false,false,false,false,false,false,false,false,true,true]:=by
  simp[dq,tz,mk,cl,bi,fQ,Op.operands,tm]
 refine .drw (fun _=>True) ?_
 rw[Wy]
 simp only[cR,bZ]
 have LO:IntKind.u32.wrap ((enc.length:Nat):Int)=((dj enc.length:Nat):Int):=by simp[IntKind.wrap,IntKind.bits,IntKind.signed,dj]
 have mv:∀ (a:Act) (q x:Nat) (v:Value) (w:World),a.get x=v->(execOp a.eval (mk (some q) (.move (tm x)))).run P w=.ok (.value v) w:=fun a q x v w hx=>by
  have:a.eval (tm x)=v:=hx
  simp[execOp,mk,this]
 refine⟨d,fun w _=>mv _ _ _ _ _ WA,.int .i64 (b1.length:Nat),fun w _=>mv _ _ _ _ _ (by simp only[mk];rw[al (by omega)];exact W9),.slice base b1.length c,fun w _=>?_,d,fun w _=>mv _ _ _ _ _ ?_,.int .i64 (b1.length:Nat),fun w _=>mv _ _ _ _ _ ?_,
  .slice (if c=b1.length then base else base.map fun q=>q.add (b1.length*1)) ((b1++enc).length-b1.length) (c-b1.length),fun w _=>?_,.int .i64 (enc.length:Nat),fun w _=>?_,.int .u32 ((dj enc.length:Nat):Int),fun w _=>?_,?_⟩
 ·refine s5 (m:=(b1++enc).length) ?_ ?_ K0.oct.und T4 Iq M8 Rm
  ·simp only[mk];rw[aa,al (by omega),ao (by omega),JB]
  ·simp only[mk];rw[aa,ao (by simp only[ab];omega)]
 ·simp only[mk];rw[al (by omega),al (by omega),al (by omega)];exact WA
 ·simp only[mk];rw[al (by omega),al (by omega),al (by omega),al (by omega)];exact W9
 ·refine pQ (m:=(b1++enc).length) ?_ ?_ K0.oct.und T4 Iq
  ·simp only[mk];rw[aa,al (by omega),ao (by simp only[ab];omega),JB]
  ·simp only[mk];rw[aa,ao (by simp only[ab];omega)]
 ·have e:∀ B:Act,B.get (n+2+5)=.slice (if c=b1.length then base else base.map fun q=>q.add (b1.length*1)) ((b1++enc).length-b1.length) (c-b1.length)->(execOp B.eval (bi (some (n+2+6)) .len [tm (n+2+5)] [g.tSl] g.tInt)).run P w=.ok (.value (.int .i64 (enc.length:Nat))) w:=fun B hB=>by
   have:B.eval (tm (n+2+5))=_:=hB
   simp[execOp,bi,resolve,invoke,builtin,Builtin.len_,this,run_underlying K0.oct.und,goInt]
  exact e _ (by simp only[mk];rw[ao (by simp only[ab];omega)])
 ·have e:∀ B:Act,B.get (n+2+6)=.int .i64 (enc.length:Nat)->(execOp B.eval (mk (some (n+2+7)) (.convert g.tInt g.tU32 (tm (n+2+6))))).run P w=.ok (.value (.int .u32 ((dj enc.length:Nat):Int))) w:=fun B hB=>by
   have:B.eval (tm (n+2+6))=_:=hB
   simp[execOp,mk,this,convert,run_underlying K0.dInt,run_underlying (K0.dU32 Ih),Conv.intToInt,LO]
  exact e _ (by simp only[bi];rw[ao (by simp only[ab];omega)])
 ·simp only[mk,bi]
  have JW:ac (fun _=>False) w w.drew:=ac.drew _ _
  refine⟨trivial,fP (vs:=#[.slice base b1.length c,.int .u32 ((dj enc.length:Nat):Int)]) rfl (K0.uvE Ih) ?_ (K0.uvC Ih (dj enc.length) w.drew (lK _) L _ b1 (hdc.keep JW fun _ _ h=>h) (Nat.le_trans hL JW.size) hlim) fun e w1 hR=>?_⟩
  ·simp only[List.map_cons,List.map_nil,aa]
   rw[al (by omega),al (by omega),al (by omega),al (by omega),al (by omega),ao (by simp only[ab];omega),ao (by simp only[ab];omega)]
  ·obtain⟨d',rfl,hg⟩:=hR
   refine⟨d',rfl,trivial,vO (v:=d') (by rw[aa,ao (by simp only[ab];omega)]) ⟨trivial,?_⟩⟩
   show LW P [aR z (.bool true),aS (.goto l)] _ Q _ w1
   have I0:Gr L te d w d' (b1++uvar (dj enc.length)) w1:=by
    have:=Gr.pre JW (fun _ _ h=>h) hg
    have eo:d.ownBlock=(Value.slice base b1.length c).ownBlock:=by rw[JB];cases base<;>rfl
    exact⟨this.dst,this.keeps.mono (fun k _ hk=>by rw[eo];exact hk),fun k hk=>by rw[eo];exact this.own k hk⟩
   refine ad (aq (ak (wpList_nil (ad (.goto (h _ w1 d' ?_ (ao (by simp only[ab];omega)) ?_ I0))))))
   ·exact((((((((((Wv.put _ (by omega)).put _ (by omega)).put _ (by omega)).put _ (by omega)).put _ (by omega)).put _ (by omega)).put _ (by omega)).put _ (by omega)).put _ (by omega)).put _ (by omega)).put _ (by omega)
   ·rw[al (by omega),ao (by simp only[ab];omega)]
theorem Ae {z lenAt l tB:Nat}(hz:a.get z=.bool true)(_hzl:z<n)(hk:k0<=n)(hn:n+2<=a.tmps.size)(h:∀ a',Pv 1 k0 k0 n a a'->(∀ i,i<n->a'.get i=a.get i)->Q .normal a' w):aK P (cJ g z lenAt l tB n).1 Q a w:=by
 refine cD (ah ?_)
 rw[aa,hz]
 refine mY (b:=true) (by rw[aa,ao (by omega)]) (wpList_nil ⟨by rw[aa,ao (by simp only[ab];omega)];rfl,.skip (h _ ?_ fun i hi=>?_)⟩)
 ·exact((Pv.refl _ _ _ _ _).put _ (by omega)).put _ (by omega)
 ·rw[al (by omega),al (by omega)]
theorem l4 {l:Nat}{r:List Code}(hr:r≠[]):∀ cs:List Code,(∀ c∈cs,findLabel c l=none)->findLabel (sq (cs++.label l::r)) l=some (.seq .skip (sq r))
 | [],_=>by
  cases r with
  | nil=>exact absurd rfl hr
  | cons x r=>simp[sq,findLabel]
 | c::cs,h=>by
  have ih:=l4 hr cs fun x hx=>h x (by simp[hx])
  have hc:=h c (by simp)
  cases Iz:cs++.label l::r with
  | nil=>simp at Iz
  | cons y ys=>
   rw[Iz]at ih
   simp only[List.cons_append,Iz,sq,findLabel,hc]
   exact ih
theorem pG {l:Nat}{pre body:List GC}(L4:∀ c∈(gL pre n).1,findLabel c l=none)(Kl:(gL body (gL pre n).2).1≠[])(h:LW P (pre++(aS (.label l)::body)) n (Exit.jump l (fun a w=>LW P body (gL pre n).2 (Rt K E) a w) (Rt K E)) a w) :
  aK P (jJ (pre++(aS (.label l)::body)) n).1 (Rt K E) a w:=by
 have e:(gS (pre++(aS (.label l)::body)) n).1=sq ((gL pre n).1++.label l::(gL body (gL pre n).2).1):=by
  simp only[gS,aX]
  rfl
 show aK P (.scope (gS (pre++(aS (.label l)::body)) n).1) (Rt K E) a w
 refine .scope l (fun a w=>LW P body (gL pre n).2 (Rt K E) a w) (fun _ _=>0) (rest:=.seq .skip (sq (gL body (gL pre n).2).1)) (by rw[e];exact l4 Kl _ L4) h fun a w hJ=>?_
 refine .seq (R:=Rt (fun a' w'=>a'=a/\w'=w) fun _ _=>False) (.skip ⟨rfl,rfl⟩) (fun a' w' hh=>?_) (fun e a w he hq=>by cases e<;>first|exact absurd rfl he|exact hq.elim)
 obtain⟨rfl,rfl⟩:=hh
 refine aK.mono hJ fun e a w hq=>?_
 cases e<;>first|exact hq|exact hq.elim
theorem pF (K0:KW P g av fl nl te)(Ih:fl=true){z lenAt l tB m0 mB:Nat}{body:List GC}{enc:Bs}(h1:a.get 1=d)(hd:aA w L te d bs)(hL:L<=w.heap.size)(hlim:bs.length+((uvar (dj enc.length)).length+enc.length)<=di)(LY:1<m0/\m0<=z/\m0<=lenAt)(Tq:z<mB/\lenAt<mB/\z≠lenAt)(Xm:mB<=k0)(hk:k0<=n)
  (JE:i6 body) (hn:(gL (body++[cJ g z lenAt l tB]) (n+2)).2<=a.tmps.size)
  (ID:∀ (a':Act) (w':World) (d':Value) (bs':Bs) (K':Act->World->Prop),Sx 1 z m0 k0 n a a'->a'.get 1=d'->Gr L te d w d' bs' w'->bs'.length+enc.length<=di->(∀ a'' w'' d'',Pv 1 mB k0 (n+2) a' a''->a''.get 1=d''->Gr L te d' w' d'' (bs'++enc) w''->K' a'' w'')->LW P body (n+2) (Rt K' E) a' w')
  (h:∀ a' w' d',Sx 1 z m0 k0 n a a'->a'.get 1=d'->Gr L te d w d' (bs++(uvar (dj enc.length)++enc)) w'->K a' w') :
  LW P ([aR z (.bool false),ay 2 fun n=>[mk (some n) (.move (tm 1)),bi (some (n+1)) .len [tm n] [g.tSl] g.tInt,mk (some lenAt) (.assign (tm (n+1)))],aS (.label l)]++(body++[cJ g z lenAt l tB])) n (Exit.jump l (fun a w=>LW P (body++[cJ g z lenAt l tB]) (n+2) (Rt K E) a w) (Rt K E)) a w:=by
 have hn':(gL body (n+2)).2+11<=a.tmps.size:=by rw[aX]at hn;exact hn
 have hu:=JE (n+2)
 obtain⟨base,c,JB,_,_⟩:=hd.form
 refine ad (aq (ak (wpList_nil ?_)))
 show LW P _ n _ (a.put (some z) (.bool false)) w
 refine ad (aq (ah ?_))
 rw[aa,al (by omega),h1,JB]
 refine dV (base:=base) (n:=bs.length) (c:=c) (by rw[aa,ao (by simp only[ab];omega)]) K0.oct.und (ak (wpList_nil ?_))
 rw[aa,ao (by simp only[ab];omega)]
 have hS:Sx 1 z m0 k0 n a ((((a.put (some z) (.bool false)).put (some n) (.slice base bs.length c)).put (some (n+1)) (.int .i64 bs.length)).put (some lenAt) (.int .i64 bs.length)):=((((Sx.refl _ _ _ _ _ _).put _ (by omega)).put _ (by omega)).put _ (by omega)).put _ (by omega)
 have g1:((((a.put (some z) (.bool false)).put (some n) (.slice base bs.length c)).put (some (n+1)) (.int .i64 bs.length)).put (some lenAt) (.int .i64 bs.length)).get 1=d:=by
  rw[al (by omega),al (by omega),al (by omega),al (by omega)];exact h1
 have gz:((((a.put (some z) (.bool false)).put (some n) (.slice base bs.length c)).put (some (n+1)) (.int .i64 bs.length)).put (some lenAt) (.int .i64 bs.length)).get z=.bool false:=by
  rw[al (by omega),al (by omega),al (by omega),ao (by omega)]
 have gl:((((a.put (some z) (.bool false)).put (some n) (.slice base bs.length c)).put (some (n+1)) (.int .i64 bs.length)).put (some lenAt) (.int .i64 bs.length)).get lenAt=.int .i64 (bs.length:Nat):=ao (by simp only[ab];omega)
 show LW P _ (n+2) _ ((((a.put (some z) (.bool false)).put (some n) (.slice base bs.length c)).put (some (n+1)) (.int .i64 bs.length)).put (some lenAt) (.int .i64 bs.length)) w
 generalize(((a.put (some z) (.bool false)).put (some n) (.slice base bs.length c)).put (some (n+1)) (.int .i64 bs.length)).put (some lenAt) (.int .i64 bs.length)=a2 at hS g1 gz gl ⊢
 have Iw:=hS.size
 refine ad (.label ?_)
 show LW P (body++[cJ g z lenAt l tB]) (n+2) _ a2 w
 refine ep (aK.mono (ID a2 w d bs (fun a3 w3=>LW P [cJ g z lenAt l tB] (gL body (n+2)).2 (Exit.jump l (fun a w=>LW P (body++[cJ g z lenAt l tB]) (n+2) (Rt K E) a w) (Rt K E)) a3 w3) hS g1 (Gr.refl hd) (by omega) fun a3 w3 d3 Ie JH I2=>?_) (ET (fun _ _ h=>h) (fun _ _ h=>h)))
 have IJ:=Ie.size
 have z3:a3.get z=.bool false:=(Ie.get z (by omega) (.inl (by omega))).trans gz
 have l3:a3.get lenAt=.int .i64 (bs.length:Nat):=(Ie.get lenAt (by omega) (.inl (by omega))).trans gl
 have Th:L<=w3.heap.size:=Nat.le_trans hL I2.keeps.size
 refine ad (Af K0 Ih (b1:=bs) (enc:=enc) (mB:=mB) z3 l3 JH I2.dst Th (by omega) (by omega) (by omega) Xm (by omega) (by omega) fun a4 w4 d4 TZ WK LF IU=>?_)
 have Kb:=TZ.size
 have Mv:Gr L te d w d4 (bs++uvar (dj enc.length)) w4:=I2.trans IU
 have Tc:Sx 1 z m0 k0 n a a4:=(hS.trans ((Sx.of_pv Ie).mono (by omega) (by omega))).trans (TZ.mono (by omega) (by omega))
 refine⟨rfl,?_⟩
 show LW P (body++[cJ g z lenAt l tB]) (n+2) (Rt K E) a4 w4
 refine ep ?_
 rw[aO]
 refine ID a4 w4 d4 _ _ Tc LF Mv (by rw[List.length_append];omega) fun a5 w5 d5 Js OT Kg=>?_
 have N2:=Js.size
 have z5:a5.get z=.bool true:=(Js.get z (by omega) (.inl (by omega))).trans WK
 refine ad (Ae (k0:=k0) z5 (by omega) (by omega) (by omega) fun a6 hp6 hlow6=>bf (h a6 w5 d5 ?_ ((hlow6 1 (by omega)).trans OT) ?_))
 ·exact(Tc.trans ((Sx.of_pv Js).mono (by omega) (by omega))).trans ⟨hp6.size,hp6.defers,fun i _ _ hi=>hlow6 i (by omega)⟩
 ·rw[<- List.append_assoc]
  exact Mv.trans Kg
end
def xt (P:Program)(F:Nat):Bool:=match P.underlying F with|some (.slice _)=>true|_=>false
def Al:cY->Bool
 | .bool=>false
 | .uuid=>false
 | _=>true
def ky:Ty->Option (Option cY)
 | .prim p=>if Al p then some (some p)else none
 | .str none=>some none
 | _=>none
def mF:Fds->Option (List (Nat × Option cY × Int))
 | .nil=>some []
 | .cons lo hi tag df off ty r=>if decide (lo=0)&&hi.isNone&&tag.isNone then(match ky ty,mF r with|some p,some l=>some ((off,p,df)::l)|_,_=>none)else none
def A8 (sz o:Nat)(ds:List (Nat × Option cY × Int)):Bool:=decide (o<sz)&&ds.all (fun q=>decide (q.1<sz))&&(List.range sz).all fun j=>j==o || ds.any fun q=>q.1==j
def EN (s:Sm)(nm:Nm)(o:Nat)(fs:Fds):Bool:=s.fDef==nm.n 7&&s.fSame==nm.n 8&&s.F==nm.n 3&&s.toff==o&&(match mF fs with|some l=>l==s.ds|none=>false)&&A8 s.sz o s.ds
def HA (g:GW)(nm:Nm)(o:Nat)(fs:Fds):Bool:=g.sm.any fun s=>EN s nm o fs
def AD (P:Program)(F:Nat):Bool:=match P.underlying F with
 | some (.array n E)=>n==16&&jw P E false 1&&(P.cellsOf E==1&&(P.info? E).isSome)&&(match P.underlying E with|some (.int .u8)=>true|_=>false)&&!P.eqGuardType P.depth F
 | _=>false
def pV (P:Program)(av:PF->Bool)(g:GW)(T off:Nat)(ty:Ty)(nm:Nm):Bool:=nm.n 1==T&&(match ty with
 | .prim p=>if p=.uuid then av .uuid&&nm.n 3==g.tUuid&&eA P T (nm.n 2) (nm.n 3) off true 16&&AD P (nm.n 3)else Al p&&eA P T (nm.n 2) (nm.n 3) off false 1
 | .str (some _)=>eA P T (nm.n 2) (nm.n 3) off false 1&&vy P (nm.n 3)
 | .list _ _ _=>eA P T (nm.n 2) (nm.n 3) off false 1&&xt P (nm.n 3)
 | .struct none (some o) fs=>eA P T (nm.n 2) (nm.n 3) off true (nw P (nm.n 3))&&HA g nm o fs
 | _=>false)
def HP (ty:Ty)(y:Value)(v:V):Prop:=∀ (w:World) (X:Nat->Prop),gT w X ty [y] v
def t9 (f:Nat->Option Value):Fds->List V->Prop
 | .nil,vs=>vs=[]
 | .cons _ _ _ _ off ty r,vs=>∃ y v vs',vs=v::vs'/\f off=some y/\HP ty y v/\t9 f r vs'
theorem iL {lo:Nat}{hi tag:Option Nat}{df:Int}{off:Nat}{ty:Ty}{r:Fds}{l:List (Nat × Option cY × Int)}(h:mF (.cons lo hi tag df off ty r)=some l):lo=0/\hi=none/\tag=none/\∃ p l',ky ty=some p/\mF r=some l'/\l=(off,p,df)::l':=by
 simp only[mF]at h
 split at h
 ·rename_i hc
  simp only[Bool.and_eq_true,decide_eq_true_eq,Option.isNone_iff_eq_none]at hc
  split at h
  ·rename_i p l' hp hl
   exact⟨hc.1.1,hc.1.2,hc.2,p,l',hp,hl,(Option.some.inj h).symm⟩
  ·cases h
 ·cases h
theorem oW {w:World}{X:Nat->Prop}{ty:Ty}{p:Option cY}{cs:List Value}{v:V}(h:ky ty=some p)(hl:gT w X ty cs v):∃ y,cs=[y]/\HP ty y v/\mL p y/\∀ df,qg ty df v=qV p df y:=by
 cases ty with
 | prim q=>
  simp only[ky]at h
  split at h
  ·rename_i hq
   obtain rfl:=Option.some.inj h
   cases q
   case bool=>cases hq
   case uuid=>cases hq
   all_goals
    obtain⟨x,rfl,rfl,hf⟩:=hl
    exact⟨_,rfl,fun w X=>⟨x,rfl,rfl,hf⟩,⟨x,rfl⟩,fun df=>rfl⟩
  ·cases h
 | str nul=>
  cases nul with
  | none=>
   obtain rfl:=Option.some.inj h
   obtain⟨l,rfl,rfl,hf⟩:=hl
   exact⟨_,rfl,fun w X=>⟨l,rfl,rfl,hf⟩,⟨l,rfl⟩,fun df=>by simp[qg,V.octets,qV]⟩
  | some _=>cases h
 | bytes _=>cases h
 | list _ _ _=>cases h
 | struct _ _ _=>cases h
theorem EU {w:World}{X:Nat->Prop}{ty:Ty}{p:Option cY}{b o:Nat}{v:V}(h:ky ty=some p)(hr:Rp w X ty b o v):∃ cs,au w b o cs/\gT w X ty cs v:=by
 cases ty with
 | prim q=>exact hr
 | str nul=>exact hr
 | bytes _=>cases h
 | list _ _ _=>cases h
 | struct _ _ _=>cases h
theorem uA {w:World}{X:Nat->Prop}{b o:Nat}:∀ (fs:Fds) (vs:List V) (l:List (Nat × Option cY × Int)),mF fs=some l->RpF w X fs b o vs->t9 (fun j=>w.cell? ⟨b,o+j,none⟩) fs vs
 | .nil,vs,l,_,h=>h
 | .cons lo hi tag df off ty r,vs,l,hl,h=>by
  obtain⟨_,_,_,p,l',hp,hr,rfl⟩:=iL hl
  obtain⟨v,vs',rfl,hv,J4⟩:=h
  obtain⟨cs,hc,Nj⟩:=EU hp hv
  obtain⟨y,rfl,h1,_,_⟩:=oW hp Nj
  exact⟨y,v,vs',rfl,by simpa using hc 0 y rfl,h1,uA r vs' l' hr J4⟩
theorem qr {f:Nat->Option Value}(w:World):∀ (fs:Fds) (vs:List V) (l:List (Nat × Option cY × Int)),mF fs=some l->t9 f fs vs->(∀ q∈l,∃ y,f q.1=some y/\mL q.2.1 y)/\nZ fs vs=l.all fun q=>qV q.2.1 q.2.2 ((f q.1).getD undef)
 | .nil,vs,l,hl,_=>by
  obtain rfl:=Option.some.inj hl
  exact⟨fun q hq=>by simp at hq,by simp[nZ]⟩
 | .cons lo hi tag df off ty r,vs,l,hl,h=>by
  obtain⟨_,_,_,p,l',hp,hr,rfl⟩:=iL hl
  obtain⟨y,v,vs',rfl,hy,R0,J4⟩:=h
  obtain⟨i1,i2⟩:=qr w r vs' l' hr J4
  obtain⟨y',e,_,hs,hd⟩:=oW hp (R0 w fun _=>False)
  simp only[List.cons.injEq,and_true]at e
  subst e
  refine⟨fun q hq=>?_,?_⟩
  ·rcases List.mem_cons.1 hq with rfl|hq
   ·exact⟨y,hy,hs⟩
   ·exact i1 q hq
  ·simp only[nZ,List.headD_cons,List.tail_cons,List.all_cons,hy,Option.getD_some,hd,i2]
theorem uB {f f':Nat->Option Value}{sz:Nat}(h:∀ j y,f j=some y->j<sz->f' j=some y):∀ (fs:Fds) (vs:List V) (l:List (Nat × Option cY × Int)),mF fs=some l->(∀ q∈l,q.1<sz)->t9 f fs vs->t9 f' fs vs
 | .nil,_,_,_,_,hb=>hb
 | .cons lo hi tag df off ty r,vs,l,hl,Id,hb=>by
  obtain⟨_,_,_,p,l',hp,hr,rfl⟩:=iL hl
  obtain⟨y,v,vs',rfl,hy,R0,J4⟩:=hb
  exact⟨y,v,vs',rfl,h off y hy (Id _ (List.mem_cons_self ..)),R0,uB h r vs' l' hr (fun q hq=>Id q (List.mem_cons_of_mem _ hq)) J4⟩
theorem qU {p:Option cY}{y:Value}(h:mL p y):y.oneCell'=true:=by
 cases p with
 | none=>obtain⟨l,rfl⟩:=h;rfl
 | some q=>obtain⟨x,rfl⟩:=h;rfl
theorem r9 {w:World}{X:Nat->Prop}{B O sz o:Nat}{fs:Fds}{ds:List (Nat × Option cY × Int)}{v:V}(Ol:mF fs=some ds)(MX:A8 sz o ds=true)(hr:Rp w X (.struct none (some o) fs) B O v) :
  ∃ (cs:List Value) (m:Option Nat) (vs:List V) (t:List (Nat × Bs)),v=.st vs t/\cs.length=sz/\au w B O cs/\(∀ u∈cs,u.oneCell'=true)/\cs[o]?=some (.map m)/\(m.isNone=t.isEmpty)/\cF w X (.map m) t/\t9 (fun j=>cs[j]?) fs vs:=by
 obtain⟨vs,t,rfl,Rs,ht⟩:=hr
 obtain⟨mm,K9,IW⟩:=ht
 have LA:=uA fs vs ds Ol Rs
 obtain⟨UE,_⟩:=qr w fs vs ds Ol LA
 simp only[A8,Bool.and_eq_true,decide_eq_true_eq,List.all_eq_true,List.mem_range,Bool.or_eq_true,beq_iff_eq,List.any_eq_true]at MX
 obtain⟨⟨ho,Id⟩,LC⟩:=MX
 obtain⟨m,rfl,Vj⟩:∃ m,mm=.map m/\m.isNone=t.isEmpty:=by
  rcases IW with⟨rfl,rfl⟩|⟨r,rfl,_,_,_,Kl⟩
  ·exact⟨none,rfl,rfl⟩
  ·exact⟨some r,rfl,by cases t with|nil=>exact absurd rfl Kl|cons _ _=>rfl⟩
 have Ia:∀ j,j<sz->∃ y,w.cell? ⟨B,O+j,none⟩=some y/\y.oneCell'=true:=fun j hj=>by
  rcases LC j hj with rfl|⟨q,hq,rfl⟩
  ·exact⟨_,K9,rfl⟩
  ·obtain⟨y,hy,hs⟩:=UE q hq
   exact⟨y,hy,qU hs⟩
 have JK:∀ j y,w.cell? ⟨B,O+j,none⟩=some y->j<sz->((List.range sz).map fun j=>(w.cell? ⟨B,O+j,none⟩).getD undef)[j]?=some y:=fun j y hy hj=>by
  rw[List.getElem?_map,List.getElem?_range hj,Option.map_some,hy];rfl
 refine⟨(List.range sz).map fun j=>(w.cell? ⟨B,O+j,none⟩).getD undef,m,vs,t,rfl,by simp,fun j c hj=>?_,fun u hu=>?_,JK o _ K9 ho,Vj,IW,?_⟩
 ·have JF:j<sz:=by have:=(List.getElem?_eq_some_iff.1 hj).1;simpa using this
  obtain⟨y,hy,_⟩:=Ia j JF
  rw[JK j y hy JF]at hj
  rw[hy,Option.some.inj hj]
 ·obtain⟨j,hj,rfl⟩:=List.mem_map.1 hu
  obtain⟨y,hy,h1⟩:=Ia j (List.mem_range.1 hj)
  rw[hy];exact h1
 ·-- each field's place is one of the part's
  exact uB (sz:=sz) (fun j y hy hj=>JK j y hy hj) fs vs ds Ol (fun q hq=>by simpa using Id q hq) LA
theorem xr {g:GW}{nm:Nm}{o:Nat}{fs:Fds}(h:HA g nm o fs=true):∃ s∈g.sm,s.fDef=nm.n 7/\s.fSame=nm.n 8/\s.F=nm.n 3/\s.toff=o/\mF fs=some s.ds/\A8 s.sz o s.ds=true:=by
 simp only[HA,List.any_eq_true]at h
 obtain⟨s,hs,h⟩:=h
 simp only[EN,Bool.and_eq_true,beq_iff_eq]at h
 obtain⟨⟨⟨⟨⟨h1,h2⟩,h3⟩,h4⟩,h5⟩,h6⟩:=h
 refine⟨s,hs,h1,h2,h3,h4,?_,h6⟩
 split at h5
 ·rename_i l hl
  rw[hl,eq_of_beq h5]
 ·cases h5
section
variable {P:Program}
theorem qY {e:Nat}(hV:bc P e false 1){l:List Value}{j:Nat}{v:Value}(h:l[j]?=some v)(w:World):(part e l.toArray j).run P w=.ok v w:=by
 simp[part,hV.agg w,h]
theorem jl {e d:Nat}(hV:bc P e false 1)(hk:P.underlying e=some (.int .u8))(a b:Bs)(w:World):∀ is:List Nat,(∀ j∈is,j<a.length/\j<b.length)->(Op.eqItems (d+1) e 1 (a.map aJ).toArray (b.map aJ).toArray is).run P w=.ok (is.all fun j=>a[j]?==b[j]?) w
 | [],_=>by simp[Op.eqItems]
 | j::is,h=>by
  obtain⟨h1,h2⟩:=h j (List.mem_cons_self ..)
  have ih:=jl (d:=d) hV hk a b w is fun j hj=>h j (List.mem_cons_of_mem _ hj)
  have p1:=qY hV (l:=a.map aJ) (j:=j) (v:=aJ a[j]) (by rw[List.getElem?_map,List.getElem?_eq_getElem h1];rfl) w
  have p2:=qY hV (l:=b.map aJ) (j:=j) (v:=aJ b[j]) (by rw[List.getElem?_map,List.getElem?_eq_getElem h2];rfl) w
  have p3:=run_equalIn_int (P:=P) w d e .u8 .u8 (a[j].toNat:Int) (b[j].toNat:Int) hk
  simp only[Op.eqItems,Nat.mul_one,Sem.run_bind,p1,p2,Result.andThen_ok,aJ,p3,List.all_cons]
  have e1:((a[j].toNat:Int)==(b[j].toNat:Int))=(a[j]?==b[j]?):=by
   rw[List.getElem?_eq_getElem h1,List.getElem?_eq_getElem h2,Bool.eq_iff_iff]
   simp only[beq_iff_eq,Option.some.injEq,Int.natCast_inj,UInt8.toNat_inj]
  rw[e1]
  cases hq:(a[j]?==b[j]?) with
  | false=>simp
  | true=>simpa using ih
theorem uD {F:Nat}(h:AD P F=true):∃ E i,P.underlying F=some (.array 16 E)/\P.info? E=some i/\P.cellsOf E=1/\bc P E false 1/\P.underlying E=some (.int .u8)/\P.eqGuardType P.depth F=false:=by
 unfold AD at h
 split at h
 ·rename_i n E hu
  simp only[Bool.and_eq_true,beq_iff_eq,Bool.not_eq_true']at h
  obtain⟨⟨⟨⟨rfl,h2⟩,h5,h6⟩,h3⟩,h4⟩:=h
  obtain⟨i,hi⟩:=Option.isSome_iff_exists.1 h6
  refine⟨E,i,hu,hi,h5,varB_ok h2,?_,h4⟩
  split at h3
  ·assumption
  ·cases h3
 ·cases h
theorem Br {l:Bs}(h:l.length=16):((List.range 16).all fun j=>l[j]?==(List.replicate 16 (0:UInt8))[j]?)=l.all fun b=>b==0:=by
 rw[Bool.eq_iff_iff]
 simp only[List.all_eq_true,List.mem_range,beq_iff_eq]
 constructor
 ·intro hh b hb
  obtain⟨j,hj,rfl⟩:=List.getElem_of_mem hb
  have:=hh j (by omega)
  rw[List.getElem?_eq_getElem hj,List.getElem?_replicate,if_pos (by omega)]at this
  simpa using this
 ·intro hh j hj
  have OD:j<l.length:=by omega
  rw[List.getElem?_eq_getElem OD,List.getElem?_replicate,if_pos hj]
  simpa using hh _ (List.getElem_mem OD)
theorem vq {F:Nat}(h:AD P F=true){l:Bs}(hl:l.length=16)(x y:Operand)(w:World) :
  (eqGuard .neq F x y (.agg (l.map aJ).toArray) (.agg (Array.replicate 16 (.int .u8 0)))).run P w=.ok () w/\(binOp .neq F (.agg (l.map aJ).toArray) (.agg (Array.replicate 16 (.int .u8 0)))).run P w=.ok (.bool !(l.all fun b=>b==0)) w:=by
 obtain⟨E,i,hu,hi,Ii,hV,hk,hg⟩:=uD h
 refine⟨run_eqGuard_agg w .neq F x y _ _ hg,?_⟩
 have er:(Array.replicate 16 (Value.int .u8 0))=((List.replicate 16 (0:UInt8)).map aJ).toArray:=by simp only[List.map_replicate,aJ];rfl
 rw[er,run_neq_struct,run_equalIn_array w 9999 _ _ hu hi,Ii,jl (d:=9998) hV hk l _ w _ (fun j hj=>by simp at hj ⊢;omega),Br hl]
 rfl
end
section
variable {P:Program} {g:GW} {av:PF->Bool} {fl nl:Bool} {te:Nat} {L m k0 n B O:Nat} {d:Value} {bs:Bs} {K E:Act->World->Prop} {Q:Exit->Act->World->Prop} {a:Act} {w:World}
theorem q6 {s T k F off:Nat}{y:Value}{ops:Array Oper}{QQ:Exit->Act->World->Prop}{r:List Oper}(hs:a.get s=pt B O)(hF:bw P T k F off false 1)(hy:w.cell? ⟨B,O+off,none⟩=some y)(hn:n+4<=a.tmps.size)
  (h:∀ a',Pv n k0 k0 n a a'->(∀ i,i<n->a'.get i=a.get i)->a'.get (n+3)=y->wpList P ops QQ r a' w) (hk:k0<=n):wpList P ops QQ (lU s T k F n++r) a w:=by
 show wpList P ops QQ (mk (some n) (.move (tm s))::mk (some (n+1)) (.nilCheck (tm n))::mk (some (n+2)) (.fieldAddr T (tm (n+1)) k)::mk (some (n+3)) (.load F (tm (n+2)))::r) a w
 refine ah ?_
 rw[aa,hs]
 refine aG (by rw[aa,ao (by omega)];rfl) ?_
 refine bN (by rw[aa,ao (by simp only[ab];omega)]) hF ?_
 refine bg (p:=⟨B,O+off,none⟩) (v:=y) (by rw[aa,ao (by simp only[ab];omega)]) (hF.var.agg w) hy (h _ ?_ (fun i hi=>?_) (ao (by simp only[ab];omega)))
 ·exact((((Pv.refl _ _ _ _ _).put _ (by omega)).put _ (by omega)).put _ (by omega)).put _ (by omega)
 ·rw[al (by omega),al (by omega),al (by omega),al (by omega)]
theorem By {s T k F off:Nat}{cs:List Value}{ops:Array Oper}{QQ:Exit->Act->World->Prop}{r:List Oper}(hs:a.get s=pt B O)(hF:bw P T k F off true 16)(hl:cs.length=16)(hy:au w B (O+off) cs)(hn:n+4<=a.tmps.size)
  (h:∀ a',Pv n k0 k0 n a a'->(∀ i,i<n->a'.get i=a.get i)->a'.get (n+3)=.agg cs.toArray->wpList P ops QQ r a' w) (hk:k0<=n):wpList P ops QQ (lU s T k F n++r) a w:=by
 show wpList P ops QQ (mk (some n) (.move (tm s))::mk (some (n+1)) (.nilCheck (tm n))::mk (some (n+2)) (.fieldAddr T (tm (n+1)) k)::mk (some (n+3)) (.load F (tm (n+2)))::r) a w
 refine ah ?_
 rw[aa,hs]
 refine aG (by rw[aa,ao (by omega)];rfl) ?_
 refine bN (by rw[aa,ao (by simp only[ab];omega)]) hF ?_
 refine eC (b:=B) (o:=O+off) (cs:=cs) (by rw[aa,ao (by simp only[ab];omega)]) (hF.var.agg w) (by rw[hl];exact hF.var.size w) hy (h _ ?_ (fun i hi=>?_) (ao (by simp only[ab];omega)))
 ·exact((((Pv.refl _ _ _ _ _).put _ (by omega)).put _ (by omega)).put _ (by omega)).put _ (by omega)
 ·rw[al (by omega),al (by omega),al (by omega),al (by omega)]
theorem BO (K0:KW P g av fl nl te){s T off:Nat}{ty:Ty}{df:Int}{nm:Nm}{vv:V}{A:GC}{X:Nat->Prop}(Io:pV P av g T off ty nm=true)(_hInt:P.underlying g.tInt=some (.int .i64))(hs:a.get s=pt B O)(hr:Rp w X ty B (O+off) vv)(hA:Up A)(_hsn:s<n)(hk:k0<=n)(hn:(fF g s ty df nm A n).2<=a.tmps.size)
  (IF:lw ty df vv=false->∀ a' w' n',Pv n k0 k0 n a a'->(∀ i,i<n->a'.get i=a.get i)->ac (fun _=>False) w w'->n<=n'->(fF g s ty df nm A n).2=(A n').2->aK P (A n').1 (Exit.then K Q) a' w')
  (Jt:lw ty df vv=true->∀ a' w',Pv n k0 k0 n a a'->(∀ i,i<n->a'.get i=a.get i)->ac (fun _=>False) w w'->K a' w'):aK P (fF g s ty df nm A n).1 (Exit.then K Q) a w:=by
 simp only[pV,Bool.and_eq_true,beq_iff_eq]at Io
 obtain⟨hT,Io⟩:=Io
 subst hT
 cases ty with
 | prim p=>
  by_cases hpu:p=.uuid
  ·subst hpu
   simp only[if_true,Bool.and_eq_true,beq_iff_eq]at Io
   obtain⟨⟨⟨KS,Ta⟩,hF⟩,ST⟩:=Io
   have hF:=fldB_ok hF
   obtain⟨hV,hz⟩:=K0.uuid KS
   have hA6:=hA (n+6)
   have Xk:(A (n+6)).2<=a.tmps.size:=hn
   obtain⟨cs,hc,l,hl,rfl,rfl⟩:=hr
   have I4:lw (.prim .uuid) df (.s l)=l.all fun b=>b==0:=rfl
   rw[I4]at IF Jt
   obtain⟨JV,Lk⟩:=vq (P:=P) ST hl (tm (n+3)) (tm (n+4)) w
   have Wc:(Instr.build (nm.n 3) #[]).run P w=.ok (.agg (Array.replicate 16 (.int .u8 0))) w:=by
    have:=hz w
    rw[<- Ta]at this
    obtain⟨E,i,hu,hi,Ii,QU,_,_⟩:=uD ST
    simp[Instr.build,this,run_underlying hu,QU.size w,Instr.fill,Value.cells]
   have step:∀ (R:Exit->Act->World->Prop),(∀ a',Pv n k0 k0 n a a'->(∀ i,i<n->a'.get i=a.get i)->a'.eval (tm (n+5))=.bool (!(l.all fun b=>b==0))->R .normal a' w) ->
     wpList P ((fun n=>lU s (nm.n 1) (nm.n 2) (nm.n 3) n++[mk (some (n+4)) (.build (nm.n 3) #[]),mk (some (n+5)) (.binOp .neq (nm.n 3) (tm (n+3)) (tm (n+4)) 0)]) n).toArray R ((fun n=>lU s (nm.n 1) (nm.n 2) (nm.n 3) n++[mk (some (n+4)) (.build (nm.n 3) #[]),mk (some (n+5)) (.binOp .neq (nm.n 3) (tm (n+3)) (tm (n+4)) 0)]) n) a w:=by
    intro R hR
    refine By (n:=n) (k0:=k0) (off:=off) (cs:=l.map aJ) hs hF (by simpa using hl) hc (by omega) (fun a1 HX Ik h3=>?_) hk
    have If:=HX.size
    refine aB (v:=.agg (Array.replicate 16 (.int .u8 0))) (w':=w) (by simp[execOp,mk,Wc]) ?_
    refine aB (v:=.bool (!(l.all fun b=>b==0))) (w':=w) ?_ (wpList_nil (hR _ ((HX.put _ (by omega)).put _ (by omega)) (fun i hi=>by rw[al (by omega),al (by omega)];exact Ik i hi) (by rw[aa,ao (by simp only[ab];omega)])))
    have e3:(a1.put (some (n+4)) (.agg (Array.replicate 16 (.int .u8 0)))).eval (tm (n+3))=.agg (l.map aJ).toArray:=by rw[aa,al (by omega)];exact h3
    have e4:(a1.put (some (n+4)) (.agg (Array.replicate 16 (.int .u8 0)))).eval (tm (n+4))=.agg (Array.replicate 16 (.int .u8 0)):=by rw[aa,ao (by omega)]
    simp only[execOp,mk,e3,e4,Sem.run_bind,JV,Lk,Result.andThen_ok,Sem.run_pure]
   cases hb:(l.all fun b=>b==0) with
   | true=>
    rw[hb]at Jt step
    exact cD (step _ fun a1 HX Ik he=>⟨he,.skip (Jt rfl a1 w HX Ik (ac.refl _ _))⟩)
   | false=>
    rw[hb]at IF step
    exact cL (step _ fun a1 HX Ik he=>⟨he,IF rfl a1 w (n+6) HX Ik (ac.refl _ _) (by omega) rfl⟩)
  simp only[if_neg hpu,Bool.and_eq_true]at Io
  obtain⟨hp,hF⟩:=Io
  have Ja:fF g s (.prim p) df nm A=dM 4 5 (fun n=>lU s (nm.n 1) (nm.n 2) (nm.n 3) n++[mk (some (n+4)) (.binOp .neq (nm.n 3) (tm (n+3)) (.const (BV p df)) 0)]) A bp:=by cases p<;>first|rfl|cases hp
  rw[Ja]at hn IF ⊢
  have hA5:=hA (n+5)
  have Vi:(A (n+5)).2<=a.tmps.size:=hn
  obtain⟨x,Ia,rfl⟩:∃ x,w.cell? ⟨B,O+off,none⟩=some (.int p.kind x)/\vv=.n x:=by
   obtain⟨cs,hc,hl⟩:=hr
   cases p
   case bool=>cases hp
   case uuid=>cases hp
   all_goals
    obtain⟨x,rfl,rfl,_⟩:=hl
    exact⟨x,hc 0 _ rfl,rfl⟩
  have Nh:BV p df=.int p.kind df:=by cases p<;>first|rfl|cases hp
  have I4:lw (.prim p) df (.n x)=(x==df):=by cases p<;>first|rfl|cases hp
  rw[I4]at IF Jt
  by_cases hx:x=df
  ·refine cD (q6 (n:=n) (k0:=k0) (off:=off) (y:=.int p.kind x) hs (fldB_ok hF) Ia (by omega) (fun a1 HX Ik h3=>?_) hk)
   have If:=HX.size
   refine bk (b:=false) (p:=x) (q:=df) (k:=p.kind) (by rw[aa];exact h3) (by rw[Nh];rfl) (.inr (.inr (.inr (.inr (.inr ⟨rfl,by simp[hx]⟩))))) (wpList_nil ⟨by rw[aa,ao (by omega)],.skip (Jt (by simp[hx]) _ w (HX.put _ (by omega)) (fun i hi=>by rw[al (by omega)];exact Ik i hi) (ac.refl _ _))⟩)
  ·refine cL (q6 (n:=n) (k0:=k0) (off:=off) (y:=.int p.kind x) hs (fldB_ok hF) Ia (by omega) (fun a1 HX Ik h3=>?_) hk)
   have If:=HX.size
   refine bk (b:=true) (p:=x) (q:=df) (k:=p.kind) (by rw[aa];exact h3) (by rw[Nh];rfl) (.inr (.inr (.inr (.inr (.inr ⟨rfl,by simp[hx]⟩))))) (wpList_nil ⟨by rw[aa,ao (by omega)],IF (by simp[hx]) _ w (n+5) (HX.put _ (by omega)) (fun i hi=>by rw[al (by omega)];exact Ik i hi) (ac.refl _ _) (by omega) rfl⟩)
 | str nul=>
  cases nul with
  | none=>cases Io
  | some q=>
   simp only[Bool.and_eq_true]at Io
   obtain⟨hF,Kj⟩:=Io
   obtain⟨el,Md⟩:∃ el,P.underlying (nm.n 3)=some (.pointer el):=by
    unfold vy at Kj
    split at Kj
    ·rename_i el h;exact⟨el,h⟩
    ·cases Kj
   have hA5:=hA (n+5)
   have Vi:(A (n+5)).2<=a.tmps.size:=hn
   obtain⟨mp,Ia,K2⟩:∃ mp,w.cell? ⟨B,O+off,none⟩=some (.pointer mp)/\vv.isNul=mp.isNone:=by
    obtain⟨cs,hc,hl⟩:=hr
    rcases hl with⟨rfl,rfl⟩|⟨l,b,o,rfl,_,_,rfl,_⟩
    ·exact⟨none,hc 0 _ rfl,rfl⟩
    ·exact⟨_,hc 0 _ rfl,rfl⟩
   have I4:lw (.str (some q)) df vv=vv.isNul:=rfl
   rw[I4,K2]at IF Jt
   cases mp with
   | none=>
    refine cD (q6 (n:=n) (k0:=k0) (off:=off) (y:=.pointer none) hs (fldB_ok hF) Ia (by omega) (fun a1 HX Ik h3=>?_) hk)
    have If:=HX.size
    refine kJ (m:=none) Md (by rw[aa];exact h3) (wpList_nil ⟨by rw[aa,ao (by omega)];rfl,.skip (Jt rfl _ w (HX.put _ (by omega)) (fun i hi=>by rw[al (by omega)];exact Ik i hi) (ac.refl _ _))⟩)
   | some p=>
    refine cL (q6 (n:=n) (k0:=k0) (off:=off) (y:=.pointer (some p)) hs (fldB_ok hF) Ia (by omega) (fun a1 HX Ik h3=>?_) hk)
    have If:=HX.size
    refine kJ (m:=some p) Md (by rw[aa];exact h3) (wpList_nil ⟨by rw[aa,ao (by omega)];rfl,IF rfl _ w (n+5) (HX.put _ (by omega)) (fun i hi=>by rw[al (by omega)];exact Ik i hi) (ac.refl _ _) (by omega) rfl⟩)
 | list nul esz e=>
  simp only[Bool.and_eq_true]at Io
  obtain⟨hF,Iu⟩:=Io
  obtain⟨el,Md⟩:∃ el,P.underlying (nm.n 3)=some (.slice el):=by
   unfold xt at Iu
   split at Iu
   ·rename_i el h;exact⟨el,h⟩
   ·cases Iu
  have hA6:=hA (n+6)
  have Xk:(A (n+6)).2<=a.tmps.size:=hn
  obtain⟨base,c,Ia⟩:∃ base c,w.cell? ⟨B,O+off,none⟩=some (.slice base vv.list.length c):=by
   rcases hr with⟨h1,rfl⟩|⟨xs,p,q,c,h1,_,_,_,_,rfl,_⟩
   ·exact⟨none,0,h1⟩
   ·exact⟨_,c,h1⟩
  have I4:lw (.list nul esz e) df vv=vv.list.isEmpty:=rfl
  rw[I4]at IF Jt
  have step:∀ (b:Bool) (R:Exit->Act->World->Prop),b=decide ((0:Int)<(vv.list.length:Int))->(∀ a',Pv n k0 k0 n a a'->(∀ i,i<n->a'.get i=a.get i)->a'.eval (tm (n+5))=.bool b->R .normal a' w) ->
    wpList P ((fun n=>lU s (nm.n 1) (nm.n 2) (nm.n 3) n++[bi (some (n+4)) .len [tm (n+3)] [nm.n 3] g.tInt,mk (some (n+5)) (.binOp .gtr g.tInt (tm (n+4)) (ki .i64 0) 0)]) n).toArray R ((fun n=>lU s (nm.n 1) (nm.n 2) (nm.n 3) n++[bi (some (n+4)) .len [tm (n+3)] [nm.n 3] g.tInt,mk (some (n+5)) (.binOp .gtr g.tInt (tm (n+4)) (ki .i64 0) 0)]) n) a w:=by
   intro b R hb hR
   refine q6 (n:=n) (k0:=k0) (off:=off) (y:=.slice base vv.list.length c) hs (fldB_ok hF) Ia (by omega) (fun a1 HX Ik h3=>?_) hk
   have If:=HX.size
   refine dV (base:=base) (n:=vv.list.length) (c:=c) (by rw[aa];exact h3) Md ?_
   refine bk (b:=b) (p:=(vv.list.length:Int)) (q:=0) (k:=.i64) (by rw[aa,ao (by omega)]) rfl (.inr (.inr (.inr (.inl ⟨rfl,hb⟩)))) (wpList_nil (hR _ ((HX.put _ (by omega)).put _ (by omega)) (fun i hi=>by rw[al (by omega),al (by omega)];exact Ik i hi) (by rw[aa,ao (by simp only[ab];omega)])))
  cases hl:vv.list with
  | nil=>
   rw[hl]at Jt
   exact cD (step false _ (by rw[hl];rfl) fun a1 HX Ik hb=>⟨hb,.skip (Jt rfl a1 w HX Ik (ac.refl _ _))⟩)
  | cons x xs=>
   rw[hl]at IF
   exact cL (step true _ (by rw[hl];simp) fun a1 HX Ik hb=>⟨hb,IF rfl a1 w (n+6) HX Ik (ac.refl _ _) (by omega) rfl⟩)
 | bytes _=>cases Io
 | struct nul toff fs=>
  cases nul with
  | some _=>cases Io
  | none=>
  cases toff with
  | none=>cases Io
  | some o=>
  simp only[Bool.and_eq_true]at Io
  obtain⟨hF,ML⟩:=Io
  have hF:=fldB_ok hF
  obtain⟨s0,KF,e1,e2,e3,e4,Ol,MX⟩:=xr ML
  have C:=K0.smC s0 KF
  obtain⟨cs,mm,vs,t,rfl,Ib,Ju,_,U4,Vj,_,LB⟩:=r9 Ol MX hr
  obtain⟨UE,hfd⟩:=qr w fs vs s0.ds Ol LB
  have O0:nw P (nm.n 3)=s0.sz:=by
   have h1:=hF.var.size w
   have h2:=C.var.size w
   rw[e3]at h2
   rw[h1]at h2
   simpa using h2
  have hA7:=hA (n+7)
  have hn7:(A (n+7)).2<=a.tmps.size:=hn
  have I4:lw (.struct none (some o) fs) df (.st vs t)=((s0.ds.all fun q=>qV q.2.1 q.2.2 ((cs[q.1]?).getD undef))&&mm.isNone):=by simp only[lw,V.fields,V.tags,hfd,Vj]
  rw[I4]at IF Jt
  have Wy:dq [mk (some n) (.move (tm s)),mk (some (n+1)) (.nilCheck (tm n)),mk (some (n+2)) (.fieldAddr (nm.n 1) (tm (n+1)) (nm.n 2)),mk (some (n+3)) (.load (nm.n 3) (tm (n+2))),cl (some (n+4)) (nm.n 7) [],cl (some (n+5)) (nm.n 8) [tm (n+3),tm (n+4)],mk (some (n+6)) (.unOp .not (nm.n 9) (tm (n+5)))]=[false,false,false,false,true,true,true]:=by
   simp[dq,tz,mk,cl,fQ,Op.operands,tm]
  have step:∀ (Q':Exit->Act->World->Prop),(∀ a' w',Pv n k0 k0 n a a'->(∀ i,i<n->a'.get i=a.get i)->ac (fun _=>False) w w'->a'.eval (tm (n+6))=.bool (!((s0.ds.all fun q=>qV q.2.1 q.2.2 ((cs[q.1]?).getD undef))&&mm.isNone))->Q' .normal a' w') ->
    aK P (yO 7 (fun n=>lU s (nm.n 1) (nm.n 2) (nm.n 3) n++[cl (some (n+4)) (nm.n 7) [],cl (some (n+5)) (nm.n 8) [tm (n+3),tm (n+4)],mk (some (n+6)) (.unOp .not (nm.n 9) (tm (n+5)))]) n).1 Q' a w:=by
   intro Q' hQ
   show aK P (.region 1 [mk (some n) (.move (tm s)),mk (some (n+1)) (.nilCheck (tm n)),mk (some (n+2)) (.fieldAddr (nm.n 1) (tm (n+1)) (nm.n 2)),mk (some (n+3)) (.load (nm.n 3) (tm (n+2))),cl (some (n+4)) (nm.n 7) [],cl (some (n+5)) (nm.n 8) [tm (n+3),tm (n+4)],mk (some (n+6)) (.unOp .not (nm.n 9) (tm (n+5)))].toArray true) Q' a w
   refine .drw (fun w'=>ac (fun _=>False) w w') ?_
   rw[Wy]
   simp only[cR,bZ]
   refine fq ?_
   rw[aa,hs]
   refine m3 (p:=⟨B,O,none⟩) (by rw[aa,ao (by omega)];rfl) (tl (B:=B) (O:=O) (by rw[aa,ao (by simp only[ab];omega)]) hF ?_)
   refine⟨.agg cs.toArray,fun w' hI=>?_,?_⟩
   ·have hl:=run_loadCells_list (P:=P) w' ⟨B,O+off,none⟩ cs (fun j v hj=>by rw[Addr.add_lit];exact hI.cell id (Ju j v hj))
    have key:∀ A:Act,A.eval (tm (n+2))=pt B (O+off)->(execOp A.eval (mk (some (n+3)) (.load (nm.n 3) (tm (n+2))))).run P w'=.ok (.value (.agg cs.toArray)) w':=fun A e=>by
     simp only[pt]at e
     have Ii:(sizeOf (nm.n 3)).run P w'=.ok cs.length w':=by rw[hF.var.size w',O0,Ib]
     simp[execOp,mk,e,Instr.loadAt,Instr.sureAddr,loadVar,hF.var.agg w',Ii,hl]
    exact key _ (by rw[aa,ao (by simp only[ab];omega)];rfl)
   have Ix:Pv n k0 k0 n a ((((a.put (some n) (pt B O)).put (some (n+1)) (.pointer (some ⟨B,O,none⟩))).put (some (n+2)) (.pointer (some ⟨B,O+off,none⟩))).put (some (n+3)) (.agg cs.toArray)):=((((Pv.refl _ _ _ _ _).put _ (by omega)).put _ (by omega)).put _ (by omega)).put _ (by omega)
   have QP:∀ i,i<n->((((a.put (some n) (pt B O)).put (some (n+1)) (.pointer (some ⟨B,O,none⟩))).put (some (n+2)) (.pointer (some ⟨B,O+off,none⟩))).put (some (n+3)) (.agg cs.toArray)).get i=a.get i:=fun i hi=>by rw[al (by omega),al (by omega),al (by omega),al (by omega)]
   have XQ:((((a.put (some n) (pt B O)).put (some (n+1)) (.pointer (some ⟨B,O,none⟩))).put (some (n+2)) (.pointer (some ⟨B,O+off,none⟩))).put (some (n+3)) (.agg cs.toArray)).get (n+3)=.agg cs.toArray:=ao (by simp only[ab];omega)
   show eg P _ Q' _ ((((a.put (some n) (pt B O)).put (some (n+1)) (.pointer (some ⟨B,O,none⟩))).put (some (n+2)) (.pointer (some ⟨B,O+off,none⟩))).put (some (n+3)) (.agg cs.toArray)) w.drew
   generalize(((a.put (some n) (pt B O)).put (some (n+1)) (.pointer (some ⟨B,O,none⟩))).put (some (n+2)) (.pointer (some ⟨B,O+off,none⟩))).put (some (n+3)) (.agg cs.toArray)=a4 at Ix QP XQ ⊢
   have Kb:=Ix.size
   have JW:ac (fun _=>False) w w.drew:=ac.drew _ _
   refine⟨JW,fP (vs:=([]:List Value).toArray) rfl (e1 ▸ C.dE) rfl (e1 ▸ C.dC w.drew) fun e w1 hR=>?_⟩
   obtain⟨Ir,z,rfl,QE,hz2,P1⟩:=hR
   refine⟨_,rfl,JW.trans Ir,fP (vs:=([.agg cs.toArray,.agg z.toArray]:List Value).toArray) rfl (e2 ▸ C.sE) ?_ (e2 ▸ C.sC w1 cs z mm Ib QE (e4 ▸ U4) hz2 P1 UE) fun e w2 hR=>?_⟩
   ·simp only[List.map_cons,List.map_nil,aa]
    rw[al (by omega),ao (by omega),XQ]
   obtain⟨Ic,rfl⟩:=hR
   have IY:ac (fun _=>False) w w2:=(JW.trans Ir).trans Ic
   refine⟨_,rfl,IY,?_⟩
   refine CK (b:=(s0.ds.all fun q=>qV q.2.1 q.2.2 ((cs[q.1]?).getD undef))&&mm.isNone) (by rw[aa,ao (by simp only[ab];omega)]) ⟨IY,hQ _ w2 (((Ix.put _ (by omega)).put _ (by omega)).put _ (by omega)) (fun i hi=>by rw[al (by omega),al (by omega),al (by omega)];exact QP i hi) IY (by rw[aa,ao (by simp only[ab];omega)])⟩
  cases hb:((s0.ds.all fun q=>qV q.2.1 q.2.2 ((cs[q.1]?).getD undef))&&mm.isNone) with
  | true=>
   rw[hb]at Jt step
   exact .seq (R:=Exit.then (fun a' w'=>aK P (.cond (tm (n+6)) (A (n+7)).1 .skip) (Exit.then K Q) a' w') (Exit.then K Q)) (step _ fun a1 w1 HX Ik Ir he=>.condF he (.skip (Jt rfl a1 w1 HX Ik Ir))) (fun a' w' h=>h) (fun e a w he hq=>by rw[cq he]at hq;exact hq)
  | false=>
   rw[hb]at IF step
   exact .seq (R:=Exit.then (fun a' w'=>aK P (.cond (tm (n+6)) (A (n+7)).1 .skip) (Exit.then K Q) a' w') (Exit.then K Q)) (step _ fun a1 w1 HX Ik Ir he=>.condT he (IF rfl a1 w1 (n+7) HX Ik Ir (by omega) rfl)) (fun a' w' h=>h) (fun e a w he hq=>by rw[cq he]at hq;exact hq)
end
end Go.Proofs.YtpoeajgpacfpoaaGreatDoor.Kx