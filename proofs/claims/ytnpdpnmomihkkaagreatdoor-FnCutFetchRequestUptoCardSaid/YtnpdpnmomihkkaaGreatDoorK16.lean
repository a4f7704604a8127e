/- messages, part 16 -/
import Derived.Test.YtnpdpnmomihkkaaGreatDoorK14
import Derived.Test.YtnpdpnmomihkkaaGreatDoorK15
import Derived.Test.YtnpdpnmomihkkaaGreatDoorRows
import Derived.Deep.Slices
import Derived.Carry

namespace Go.Proofs.YtnpdpnmomihkkaaGreatDoor.Kx
open Go
section
open Go
set_option maxRecDepth 4000
def Iz (p:UInt32 × Bs):Nat × Bs:=(p.1.toNat,p.2)
theorem ub (t:Tr):t.tags=t.raw.map Iz:=by cases t;rfl
section
variable {P:Program} {S:SN}
end
end
section
open Go
set_option maxRecDepth 4000
section
variable {P:Program} {S:SN}
section
variable {I:World->Prop} {K:Act->Prop} {r:List Oper} {n:Nat} {a:Act} {w:World} {l:List (Nat × Value)} {Q:Exit->Act->World->Prop}
theorem x9 {ops:Array Oper}{C:World->Prop}{Q:Act->Prop}(h:St n a l){d f:Nat}{args:List Operand}{vs:List Value}{v:Value}(hf:Ent P f)(J4:∀ (n:Nat) (a:Act),St n a l->args.map a.eval=vs)(hc:∀ w,C w->Calls P f vs.toArray w λe w'=>e=.returned v/\C w')(hd:d<n)
  (c:∀ a',St n a' ((d,v)::l)->wpQuiet P ops C Q r a'):wpQuiet P ops C Q (cl (some d) f args::r) a:=by
 show if _ then _ else _
 rw[ax (by simp[Region.wanted,cl,mk])]
 refine⟨v,λw hC=>?_,c _ (h.put v hd)⟩
 unfold Oper.quietAt
 have:(execOp a.eval (cl (some d) f args)).run P w=.ok (.enter f vs.toArray) w:=by
  have he:a.eval (.func f)=.func (.func f) #[] #[]:=rfl
  have ha:=J4 n a h
  have Qy:(args.map a.eval).toArray=vs.toArray:=by rw[ha]
  simp only[cl,execOp,mk,resolve,he,Deferred.ofValue,invoke,Sem.run_bind,Sem.run_pure,Result.andThen_ok,Array.empty_append,Array.append_empty,List.map_toArray,Qy]
  exact hf _ _
 rw[this]
 exact⟨rfl,hc w hC⟩
theorem qV (h:St n a l){d:Nat}{x:Operand}{v:Value}(hx:Hd l x v):(execOp a.eval (mk (some d) (.assign x))).run P w=.ok (.value v) w:=by simp[execOp,mk,hx n a h]
theorem pN (h:St n a l){d i:Nat}{x:Operand}{vs:Array Value}{v:Value}(hx:Hd l x (.tuple vs))(hv:vs[i]?=some v):(execOp a.eval (mk (some d) (.extract x i))).run P w=.ok (.value v) w:=by
 simp[execOp,mk,hx n a h,Instr.extract,hv]
theorem Dh (h:St n a l){d:Nat}{x:Operand}{A B:Nat}{k k':IntKind}{m:Int}(hx:Hd l x (.int k m))(hA:P.underlying A=some (.int k))(hB:P.underlying B=some (.int k')):(execOp a.eval (mk (some d) (.convert A B x))).run P w=.ok (.value (.int k' (k'.wrap m))) w:=by
 simp[execOp,mk,hx n a h,convert,run_underlying hA,run_underlying hB,Conv.intToInt]
theorem EU (h:St n a l){d:Nat}{x y:Operand}{o:BinOp}{T:Nat}{k k2:IntKind}{p q:Int}{v:Value}(hx:Hd l x (.int k p))(hy:Hd l y (.int k2 q))(Jl:(binOp o T (.int k p) (.int k2 q)).run P w=.ok v w):(execOp a.eval (mk (some d) (.binOp o T x y 0))).run P w=.ok (.value v) w:=by
 have he:(eqGuard o T x y (.int k p) (.int k2 q)).run P w=.ok () w:=by
  unfold eqGuard
  cases o<;>simp
 simp only[execOp,mk,hx n a h,hy n a h,Sem.run_bind,he,Result.andThen_ok,Jl,Sem.run_pure]
theorem wh (h:St n a l){d:Nat}{x y:Operand}{F E m c i:Nat}{base:Option Addr}(hx:Hd l x (.slice base m c))(hy:Hd l y (.int .i64 (i:Nat)))(hF:P.underlying F=some (.slice E))(hs:∀ w,(sizeOf E).run P w=.ok 1 w)(hi:i<=m)(hm:m<=c)(hb:∀ p,base=some p->p.spot=none):(execOp a.eval (mk (some d) (.slice F x none (some y) none))).run P w=.ok (.value (.slice base i c)) w:=by
 have e1:=hx n a h
 have e2:=hy n a h
 have h3:i<=c:=am hi hm
 cases base with
 | none=>simp[execOp,mk,e1,e2,Instr.sliceAt,Instr.slice,run_underlying hF,Instr.sliceBounds,Instr.sliceBound,asIntOf,hs,h3]
 | some p=>
  have:=hb p rfl
  obtain⟨b,o,s⟩:=p
  simp only at this
  subst this
  simp[execOp,mk,e1,e2,Instr.sliceAt,Instr.slice,run_underlying hF,Instr.sliceBounds,Instr.sliceBound,asIntOf,hs,h3,Addr.add]
end
def DA (P:Program)(f:Nat)(args:List Value)(w:World):Prop:=Calls P f args.toArray w λe w'=>∃ b,e=.returned (.bool b)/\br (λ_=>False) w w'
theorem jr {_f n t:Nat}{a:Act}{w w':World}{l:List (Nat × Value)}{b:Bool}(h:St n a l)(hv:l.lookup t=some (.bool b))(hk:br (λ_=>False) w w'):a.defers=[]/\(∃ b,Ending.returned (cE [t] a)=.returned (.bool b)/\br (λ_=>False) w w'):=
 iH (RR:=λe w'=>∃ b,e=.returned (.bool b)/\br (λ_=>False) w w') h hv ⟨b,rfl,hk⟩
theorem zD (T:RefT P S)(hfn:FnIs P S.fZ4 7 [2] (csZ4 S)){cs:List Value}{p:UInt32 × Bs}(w:World)(ht:jh w cs p):DA P S.fZ4 [.agg cs.toArray] w:=by
 obtain⟨v,rfl,hv⟩:=ht
 obtain⟨base,c,hf,_⟩:=hv.form
 subst hf
 refine fb T.mixed hfn ab _ ab λa h=>?_
 unfold csZ4
 have hk:br (λ_=>False) w (w.alloc (.cells [.int .u32 (p.1.toNat:Int),.slice base p.2.length c].toArray S.tG (0,0))):=br.alloc _ _ _
 have hc:=dA w [.int .u32 (p.1.toNat:Int),.slice base p.2.length c] S.tG
 refine bI (cq (fy h (cs:=[.int .u32 (p.1.toNat:Int),.slice base p.2.length c]) (.t rfl) aa λa h=>b5 h .c aa λa h=>wpList_nil ?_))
 generalize w.alloc (.cells [.int .u32 (p.1.toNat:Int),.slice base p.2.length c].toArray S.tG (0,0))=w1 at hk hc ⊢
 refine bI (bI (cq (cH h (.t rfl) T.g1 aa λa h=>ce h (.t rfl) T.g1.var (hc.at (j:=1) rfl) aa λa h=>dP h (.t rfl) T.oct.und aa λa h=>cy h rfl (.t rfl) .i aa λa h=>wpList_nil ?_)))
 refine cA h rfl (λ_=>?_) (λ_=>?_)
 ·exact bI (cq (b5 h .c aa λa h=>wpList_nil (.ret (jr (_f:=S.fZ4) h rfl hk))))
 ·exact .skip (bI (cq (b5 h .c aa λa h=>wpList_nil (.ret (jr (_f:=S.fZ4) h rfl hk)))))
theorem zH (T:RefT P S)(h4:FnIs P S.fZ4 7 [2] (csZ4 S))(hfn:FnIs P S.fZ3 18 [2] (csZ3 S)){gv:Value}{u:List (UInt32 × Bs)}(W:World)(hu:fi W 2 (jh W) gv u):DA P S.fZ3 [gv] W:=by
 obtain⟨base,c,hf,Oa,P8,Jq⟩:=hu.form
 subst hf
 refine fb T.mixed hfn ab _ ab λa h=>?_
 unfold csZ3
 refine bI (cq (b5 h .c aa λa h=>wpList_nil ?_))
 refine bI (bI (cq (b9 h (.t rfl) aa λa h=>?_)))
 refine dP h (.t rfl) T.dGs aa λa h=>cy h rfl (.t rfl) .i aa λa h=>wpList_nil ?_
 refine cA h rfl (λ_=>bI (cq (b5 h .c aa λa h=>wpList_nil (.ret (jr (_f:=S.fZ3) h rfl (br.refl _ _)))))) (λ_=>.skip ?_)
 refine bI (bI (cq (b9 h (.t rfl) aa λa h=>?_)))
 refine dP h (.t rfl) T.dGs aa λa h=>b9 h .i aa λa h=>wpList_nil ?_
 refine fY (λm a' w'=>∃ i:Nat,i+m=u.length/\br (λ_=>False) W w'/\St 18 a' [(0,.slice base u.length c),(8,.slice base u.length c),(9,.int .i64 (u.length:Int)),(10,.int .i64 (i:Int))]) u.length
  ⟨u.length,ae _,0,by omega,br.refl _ _,h.pick ⟨rfl,rfl,rfl,rfl,trivial⟩⟩ ?_
 rintro m a w hm ⟨i,Ou,hk,h⟩
 refine bI (cq (cy h rfl (.t rfl) (.t rfl) aa λa h=>wpList_nil ?_))
 refine iU h rfl (λhb=>?_) (λhb=>?_)
 ·have IU:i<u.length:=by simp[cg]at hb;omega
  refine .skip ?_
  rcases Jq with rfl|⟨b,o,rfl,Jq⟩
  ·simp at IU
  obtain⟨cs,MT,Js,MG⟩:=Jq i u[i] (aq IU)
  have RI:(i:Int)+1<=9223372036854775807:=by simp only[maxLen]at P8;omega
  obtain⟨tv,rfl,Jo⟩:=MG
  refine bI (.block (bI (cq ?_)))
  refine fw h (sz:=2) (.t rfl) (.t rfl) IU T.dGs T.vG.size aa λa h=>dK h (cs:=[.int .u32 (u[i].1.toNat:Int),tv]) (.t rfl) T.vG (λj x hj=>hk.cell id (Js j x hj)) aa λa h=>?_
  refine gP h (T.zG w) aa λa h=>?_
  have Pd:=oU (w:=w) (T:=S.tG) (z:=.agg #[.int .u32 0,bR]) (cs:=[.int .u32 (u[i].1.toNat:Int),tv]) rfl
  have Jv:∀ x∈[Value.int .u32 (u[i].1.toNat:Int),tv],x.oneCell'=true:=by
   intro x hx
   simp only[aI,bd,or_false]at hx
   rcases hx with rfl|rfl
   ·rfl
   ·obtain⟨_,_,rfl,_⟩:=Jo.form;rfl
  refine ix h (cs:=[.int .u32 (u[i].1.toNat:Int),tv]) (.t rfl) (.t rfl) (by simp[Value.cells]) T.vG.size (bO w _) rfl Jv (wpList_nil ?_)
  obtain⟨IV,JA⟩:=Pd
  generalize(w.alloc (.cells (Value.agg #[.int .u32 0,bR]).cells S.tG (0,0))).setRow w.heap.size ([.int .u32 (u[i].1.toNat:Int),tv]:List Value).toArray=w2 at IV JA ⊢
  have J0:=hk.trans IV
  refine bI (cq (dK h (cs:=[.int .u32 (u[i].1.toNat:Int),tv]) (.t rfl) T.vG JA aa λa h=>cX h h4.ent (vs:=[.agg [.int .u32 (u[i].1.toNat:Int),tv].toArray]) (λn a h=>by
   simp only[List.map_cons,List.map_nil]
   rw[Hd.t (l:=_) (i:=14) rfl n a h]) (zD T h4 w2 ⟨tv,rfl,Jo.keep J0⟩) aa λe w3 hR=>?_))
  obtain⟨b4,rfl,IZ⟩:=hR
  have Kd:=J0.trans IZ
  refine⟨_,rfl,λa h=>rR h (.t rfl) aa λa h=>wpList_nil ?_⟩
  refine cA h rfl (λ_=>bI (cq (b5 h .c aa λa h=>wpList_nil (.ret (jr (_f:=S.fZ3) h rfl Kd))))) (λ_=>.skip ?_)
  refine cq (e7 h (.t rfl) .i ab (eL w3) aa λa h=>?_)
  have hw:IntKind.i64.wrap ((i:Int)+1)=((i+1:Nat):Int):=by simp[IntKind.wrap,IntKind.bits,IntKind.signed];omega
  rw[hw]at h
  refine b9 h (.t rfl) aa λa h=>wpList_nil ?_
  exact⟨m-1,by omega,by omega,i+1,by omega,Kd,h.pick ⟨rfl,rfl,rfl,rfl,trivial⟩⟩
 ·refine .exit ?_
  exact bI (cq (b5 h .c aa λa h=>wpList_nil (.ret (jr (_f:=S.fZ3) h rfl hk))))
theorem zI (T:RefT P S)(h4:FnIs P S.fZ4 7 [2] (csZ4 S))(h3:FnIs P S.fZ3 18 [2] (csZ3 S))(hfn:FnIs P S.fZ2 15 [2] (csZ2 S)){k:Nat}{cs:List Value}{t:Tr}(w:World)(ht:TrRp w k cs t):DA P S.fZ2 [.agg cs.toArray] w:=by
 cases k with
 | zero=>exact ht.elim
 | succ k=>
 obtain⟨sv,lv,uv,rfl,hs,hl,hu⟩:=ht
 obtain⟨sb,sc,hsf,_⟩:=hs.form
 obtain⟨lb,lc,hlf,_⟩:=hl.form
 subst hsf
 subst hlf
 refine fb T.mixed hfn ab _ ab λa h=>?_
 unfold csZ2
 have hk:br (λ_=>False) w (w.alloc (.cells [.int .i64 t.num,.slice sb t.octets.length sc,.bool t.null,.slice lb t.list.length lc,uv].toArray S.tT (0,0))):=br.alloc _ _ _
 have hc:=dA w [.int .i64 t.num,.slice sb t.octets.length sc,.bool t.null,.slice lb t.list.length lc,uv] S.tT
 refine bI (cq (fy h (cs:=[.int .i64 t.num,.slice sb t.octets.length sc,.bool t.null,.slice lb t.list.length lc,uv]) (.t rfl) aa λa h=>b5 h .c aa λa h=>wpList_nil ?_))
 generalize w.alloc (.cells [.int .i64 t.num,.slice sb t.octets.length sc,.bool t.null,.slice lb t.list.length lc,uv].toArray S.tT (0,0))=w1 at hk hc ⊢
 refine bI (bI (cq (cH h (.t rfl) T.t1 aa λa h=>ce h (.t rfl) T.t1.var (hc.at (j:=1) rfl) aa λa h=>dP h (.t rfl) T.oct.und aa λa h=>cy h rfl (.t rfl) .i aa λa h=>wpList_nil ?_)))
 refine cA h rfl (λ_=>bI (cq (b5 h .c aa λa h=>wpList_nil (.ret (jr (_f:=S.fZ2) h rfl hk))))) (λ_=>.skip ?_)
 refine bI (bI (cq (cH h (.t rfl) T.t3 aa λa h=>ce h (.t rfl) T.t3.var (hc.at (j:=3) rfl) aa λa h=>dP h (.t rfl) T.dTs aa λa h=>cy h rfl (.t rfl) .i aa λa h=>wpList_nil ?_)))
 refine cA h rfl (λ_=>bI (cq (b5 h .c aa λa h=>wpList_nil (.ret (jr (_f:=S.fZ2) h rfl hk))))) (λ_=>.skip ?_)
 refine bI (bI (cq (cH h (.t rfl) T.t4 aa λa h=>ce h (.t rfl) T.t4.var (hc.at (j:=4) rfl) aa λa h=>cX h h3.ent (vs:=[uv]) (λn a h=>by
  simp only[List.map_cons,List.map_nil]
  rw[Hd.t (l:=_) (i:=12) rfl n a h]) (zH T h4 h3 w1 (hu.imp (λ_ _ _ hh=>bB.kn hk hh) λ_ _ hh=>hh.far (dW.of hk))) aa λe w2 hR=>?_)))
 obtain⟨b3,rfl,IV⟩:=hR
 have J0:=hk.trans IV
 refine⟨_,rfl,λa h=>rR h (.t rfl) aa λa h=>wpList_nil ?_⟩
 refine cA h rfl (λ_=>bI (cq (b5 h .c aa λa h=>wpList_nil (.ret (jr (_f:=S.fZ2) h rfl J0))))) (λ_=>.skip ?_)
 exact bI (cq (b5 h .c aa λa h=>wpList_nil (.ret (jr (_f:=S.fZ2) h rfl J0))))
end
end
section
open Go
set_option maxRecDepth 4000
structure LawC (P:Program)(S:SN)(N:LN)(gErr most:Nat)(flex:Int)(sf:SFs)(out:Int->Bs->Option Bs)(okIn:Int->Bs->Prop):Prop where
 tab:RefT P S
 dU16:P.underlying S.tU16=some (.int .u16) \/ S.tU16=999999
 zE:Ent P S.fZ2
 zC:∀ (w:World) (k:Nat) (cs:List Value) (t:Tr),TrRp w k cs t->DA P S.fZ2 [.agg cs.toArray] w
 mE:Ent P N.fM
 mC:∀ w,Calls P N.fM ([]:List Value).toArray w λe w'=>e=.returned (.int .i64 (most:Int))/\br (λ_=>False) w w'
 bE:Ent P N.fB
 bC:MsgBC P N.fB flex sf
 vE:Ent P N.fV
 vC:∀ (x:Nat) (w:World),x<256->Calls P N.fV [.int .u8 (x:Int),.int .i64 (most:Int)].toArray w λe w'=>e=.returned (.int .i64 ((x%(most+1):Nat):Int))/\br (λ_=>False) w w'
 wE:Ent P S.fWrite
 wC:∀ (W:World) (ver:Int) (k:Nat) (cs:List Value) (t:Tr) (fv:Value),ge W sf fv->TrRp W k cs t->(bU ver (oT flex ver) sf t).length<=fq->Calls P S.fWrite [.agg [fv,.int .i64 flex].toArray,.int .i64 ver,.agg cs.toArray].toArray W (de S.tU8 (bU ver (oT flex ver) sf t) W)
 aE:Ent P N.fA
 aC:AgC P N.fA gErr out okIn
 sE:S.fSame=999999 \/ Ent P S.fSame
 sC:S.fSame=999999 \/ ∀ (w:World) (va vb:Value) (la lb:Bs),en w (λ_=>False) va la->en w (λ_=>False) vb lb->la.length<=maxLen->Calls P S.fSame [va,vb].toArray w λe w'=>e=.returned (.bool (decide (la=lb)))/\br (λ_=>False) w w'
section
variable {P:Program} {S:SN} {N:LN} {gErr most:Nat} {flex:Int} {sf:SFs} {out:Int->Bs->Option Bs} {okIn:Int->Bs->Prop}
def TrueC (W:World)(e:Ending)(w':World):Prop:=e=.returned (.bool true)/\br (λ_=>False) W w'
theorem p5 {n t:Nat}{a:Act}{W w':World}{l:List (Nat × Value)}{v:Value}(h:St n a l)(hv:l.lookup t=some v)(hb:v=.bool true)(hk:br (λ_=>False) W w'):a.defers=[]/\TrueC W (.returned (cE [t] a)) w':=
 iH (RR:=TrueC W) h hv ⟨by rw[hb],hk⟩
theorem yB {w:World}{v:Value}{bs:Bs}{base:Option Addr}{c:Nat}(h:en w (λ_=>False) v bs)(hv:v=.slice base bs.length c){k:Nat}(hk:k<=bs.length):en w (λ_=>False) (.slice base k c) (bs.take k)/\bs.length<=c/\∀ p,base=some p->p.spot=none:=by
 rcases h with⟨rfl,rfl⟩|⟨b,o,c',rfl,h1,h2,h3,h4,h5⟩
 ·simp only[Value.slice.injEq]at hv
  obtain⟨rfl,_,rfl⟩:=hv
  obtain rfl:k=0:=by simpa using hk
  exact⟨.inl ⟨rfl,rfl⟩,by simp,λp hp=>by cases hp⟩
 ·simp only[Value.slice.injEq]at hv
  obtain⟨rfl,_,rfl⟩:=hv
  refine⟨.inr ⟨b,o,c',by rw[aG,Nat.min_eq_left hk],h1,h2,by rw[aG];omega,h4,λi x hi=>?_⟩,h3,λp hp=>by obtain rfl:=au hp;rfl⟩
  have YV:i<k:=by
   rcases bm i k with h|h
   ·exact h
   ·rw[aX,al aa]at hi;cases hi
  rw[aX,ax YV]at hi
  exact h5 i x hi
theorem ze (L:LawC P S N gErr most flex sf out okIn)(hU:S.tU16≠999999){f:Nat}(hfn:FnIs P f 56 [6] (cLcu S N)){x0 x2:Nat}(hx:x0<256)(hx2:x2<65536){W:World}{k:Nat}{cs:List Value}{t:Tr}(ht:TrRp W k cs t)(herr:ErrAt gErr W){ver:Int}(Mx:ver=((x0%(most+1):Nat):Int))
  (IT:(bU ver (oT flex ver) sf t).length<=fq) (Jf:okIn ver (bU ver (oT flex ver) sf t)) (KQ:out ver (bU ver (oT flex ver) sf t)=some (bU ver (oT flex ver) sf t))
  (MS:∀ j,j<(bU ver (oT flex ver) sf t).length->okIn ver ((bU ver (oT flex ver) sf t).take j)/\out ver ((bU ver (oT flex ver) sf t).take j)=none):Calls P f [.int .u8 (x0:Int),.agg cs.toArray,.int .u16 (x2:Int)].toArray W (TrueC W):=by
 have T:=L.tab
 have Lt:=ht.len
 have XQ:=L.dU16.resolve_right hU
 refine fb T.mixed hfn ab _ ab λa h=>?_
 unfold cLcu
 have Jd:br (λ_=>False) W (W.alloc (.cells cs.toArray S.tT (0,0))):=br.alloc _ _ _
 have JC:=dA W cs S.tT
 refine bI (cq (fy h (cs:=cs) (.t rfl) aa λa h=>b5 h .c aa λa h=>wpList_nil ?_))
 generalize W.alloc (.cells cs.toArray S.tT (0,0))=w1 at Jd JC ⊢
 refine bI (bI (cq (dK h (cs:=cs) (.t rfl) (by rw[Lt];exact T.vT) JC aa λa h=>cX h L.zE (vs:=[.agg cs.toArray]) (λn a h=>by
  simp only[List.map_cons,List.map_nil]
  rw[Hd.t (l:=_) (i:=13) rfl n a h]) (L.zC w1 k cs t (ht.far (dW.of Jd))) aa λe w2 hR=>?_)))
 obtain⟨b,rfl,IV⟩:=hR
 refine⟨_,rfl,λa h=>rR h (.t rfl) aa λa h=>wpList_nil ?_⟩
 have J0:=Jd.trans IV
 refine cA h rfl (λ_=>bI (cq (b5 h .c aa λa h=>wpList_nil (.ret (p5 h rfl rfl J0))))) (λ_=>.skip ?_)
 refine bI (cq (cX h L.mE (vs:=[]) (λ_ _ _=>rfl) (L.mC w2) aa λe w3 hR=>?_))
 obtain⟨rfl,IZ⟩:=hR
 refine⟨_,rfl,λa h=>b5 h (.t rfl) aa λa h=>wpList_nil ?_⟩
 have Kd:=J0.trans IZ
 refine bI (bI (cq (b9 h (.t rfl) aa λa h=>cy h rfl (.t rfl) .i aa λa h=>wpList_nil ?_)))
 refine cA h rfl (λhb=>by simp[cg]at hb;omega) (λ_=>.skip ?_)
 have MV:bB w3 W.heap.size 0 cs:=bB.kn (IV.trans IZ) JC
 have h:St 56 a [(0,.int .u8 (x0:Int)),(2,.int .u16 (x2:Int)),(4,pt W.heap.size 0),(7,.int .i64 (most:Int))]:=h.pick ⟨rfl,rfl,rfl,rfl,trivial⟩
 refine bI (uF [true,false,false,true,false,true,true] (λw'=>br (λ_=>False) w3 w') (by kernel_rfl) ?_)
 show iR P _ [mk (some 20) (.move (tm 0)),mk (some 21) (.move (tm 7)),mk (some 23) (.load S.tT (tm 4))] a
  λaf=>gF P _ _ [cl (some 19) N.fB [],cl (some 22) N.fV [(tm 20),(tm 21)],cl (some 24) S.fWrite [(tm 19),(tm 22),(tm 23)],mk (some 8) (.assign (tm 24))] af w3.drew
 refine eQ h (.t rfl) aa λa h=>eQ h (.t rfl) aa λa h=>iz h (cs:=cs) (.t rfl) (by rw[Lt];exact T.vT) (λw' hI=>bB.kn hI MV) aa λa h=>lw ?_
 have LH:br (λ_=>False) w3 w3.drew:=br.drew _ _
 refine eC h LH L.bE (vs:=[]) (λ_ _ _=>rfl) (L.bC _) aa λe w4 hR=>?_
 obtain⟨fv,rfl,J9,Jm⟩:=hR
 have KL:=LH.trans Jm
 refine⟨_,rfl,λa h=>eC h KL L.vE (vs:=[.int .u8 (x0:Int),.int .i64 (most:Int)]) (λn a h=>by
  simp only[List.map_cons,List.map_nil]
  rw[Hd.t (l:=_) (i:=20) rfl n a h,Hd.t (l:=_) (i:=21) rfl n a h]) (L.vC x0 w4 hx) aa λe w5 hR=>?_⟩
 obtain⟨rfl,JZ⟩:=hR
 rw[<- Mx]
 have Kw:=KL.trans JZ
 refine⟨_,rfl,λa h=>eC h Kw L.wE (vs:=[.agg [fv,.int .i64 flex].toArray,.int .i64 ver,.agg cs.toArray]) (λn a h=>by
  simp only[List.map_cons,List.map_nil]
  rw[Hd.t (l:=_) (i:=19) rfl n a h,Hd.t (l:=_) (i:=22) rfl n a h,Hd.t (l:=_) (i:=23) rfl n a h]) (L.wC w5 ver k cs t fv (J9.kn JZ) (ht.far (dW.of (Kd.trans Kw))) IT) aa λe w6 hR=>?_⟩
 obtain⟨v,rfl,hd,Lu⟩:=hR
 have L2:=Kw.trans Lu
 refine⟨_,rfl,λa h=>iM h L2 (.t rfl) aa λa h=>lq L2 ?_⟩
 have Pk:=Kd.trans L2
 have Q4:en w6 (λ_=>False) v (bU ver (oT flex ver) sf t):=hd.sl
 generalize bU ver (oT flex ver) sf t=bs at IT Jf KQ MS Q4 hd
 have h:St 56 a [(0,.int .u8 (x0:Int)),(2,.int .u16 (x2:Int)),(7,.int .i64 (most:Int)),(8,v)]:=h.pick ⟨rfl,rfl,rfl,rfl,trivial⟩
 refine bI (cq (b9 h (.t rfl) aa λa h=>b9 h (.t rfl) aa λa h=>cX h L.vE (vs:=[.int .u8 (x0:Int),.int .i64 (most:Int)]) (λn a h=>by
  simp only[List.map_cons,List.map_nil]
  rw[Hd.t (l:=_) (i:=26) rfl n a h,Hd.t (l:=_) (i:=27) rfl n a h]) (L.vC x0 w6 hx) aa λe w7 hR=>?_))
 obtain⟨rfl,QG⟩:=hR
 rw[<- Mx]
 have TJ:=Pk.trans QG
 refine⟨_,rfl,λa h=>b9 h (.t rfl) aa λa h=>cX h L.aE (vs:=[.int .i64 ver,v]) (λn a h=>by
  simp only[List.map_cons,List.map_nil]
  rw[Hd.t (l:=_) (i:=28) rfl n a h,Hd.t (l:=_) (i:=29) rfl n a h]) (L.aC w7 ver v bs (Q4.keep QG) (herr.keep TJ id) Jf) aa λe w8 hR=>?_⟩
 obtain⟨y,b,rfl,Pj,_,KZ⟩:=hR
 obtain⟨rfl,hy⟩:=KZ bs KQ
 refine⟨_,rfl,λa h=>b9 h (.t rfl) aa λa h=>mu h (.t rfl) rfl aa λa h=>mu h (.t rfl) rfl aa λa h=>b5 h (.t rfl) aa λa h=>b5 h (.t rfl) aa λa h=>wpList_nil ?_⟩
 have RF:=TJ.trans Pj
 have Yy:en w8 (λ_=>False) v bs:=(Q4.keep QG).keep Pj
 have h:St 56 a [(0,.int .u8 (x0:Int)),(2,.int .u16 (x2:Int)),(7,.int .i64 (most:Int)),(8,v),(10,.bool true)]:=h.pick ⟨rfl,rfl,rfl,rfl,rfl,trivial⟩
 obtain⟨base,c,VE,_⟩:=Yy.form
 subst VE
 refine bI (bI (cq (b9 h (.t rfl) aa λa h=>dP h (.t rfl) T.oct.und aa λa h=>cy h rfl (.t rfl) .i aa λa h=>wpList_nil ?_)))
 refine cA h rfl (λ_=>bI (cq (b9 h (.t rfl) aa λa h=>b5 h (.t rfl) aa λa h=>wpList_nil (.ret (p5 h rfl rfl RF))))) (λhb=>.skip ?_)
 have Sl:bs.length≠0:=by
  intro h0
  rw[h0]at hb
  simp[cg]at hb
 have K6:x2%bs.length<bs.length:=Nat.mod_lt _ aa
 obtain⟨Jo,Sh,OS⟩:=yB Yy rfl (Nat.le_of_lt K6)
 obtain⟨Wu,Tm⟩:=MS _ K6
 have VC:IntKind.i64.wrap ((x2:Nat):Int)=((x2:Nat):Int):=by simp[IntKind.wrap,IntKind.bits,IntKind.signed];omega
 have Rv:∀ w:World,(binOp .rem S.tInt (.int .i64 ((x2:Nat):Int)) (.int .i64 ((bs.length:Nat):Int))).run P w=.ok (.int .i64 ((x2%bs.length:Nat):Int)) w:=λw=>by
  rw[xL aa,<- Int.ofNat_tmod]
 have SO:∀ w:World,Calls P N.fV [.int .u8 (x0:Int),.int .i64 (most:Int)].toArray w λe w'=>e=.returned (.int .i64 ver)/\br (λ_=>False) w w':=λw=>by rw[Mx];exact L.vC x0 w hx
 refine bI (.drq (λw'=>br (λ_=>False) w8 w') (br.drew _ _) ?_)
 refine eq h (λw' hC=>eb h (.t rfl)) aa λa h=>eq h (λw' hC=>eb h (.t rfl)) aa λa h=>?_
 refine x9 (v:=.int .i64 ver) h L.vE (vs:=[.int .u8 (x0:Int),.int .i64 (most:Int)]) (λn a h=>by
  simp only[List.map_cons,List.map_nil]
  rw[Hd.t (l:=_) (i:=38) rfl n a h,Hd.t (l:=_) (i:=39) rfl n a h]) (λw hC=>(SO w).mono λe w' hR=>⟨hR.1,hC.trans hR.2⟩) aa λa h=>?_
 refine eq h (λw' hC=>eb h (.t rfl)) aa λa h=>eq h (λw' hC=>eb h (.t rfl)) aa λa h=>eq h (λw' hC=>Dh h (.t rfl) XQ T.dInt) aa λa h=>?_
 rw[VC]at h
 refine eq h (λw' hC=>eb h (.t rfl)) aa λa h=>pB h rfl (by simp[Region.wanted,bi]) (λw' hC=>wi h (.t rfl) T.oct.und) aa λa h=>eq h (λw' hC=>EU h (.t rfl) (.t rfl) (Rv w')) aa λa h=>eq h (λw' hC=>wh h (.t rfl) (.t rfl) T.oct.und T.vU8.size (Nat.le_of_lt K6) Sh OS) aa λa h=>?_
 refine x9 (v:=.tuple #[bR,.bool false]) h L.aE (vs:=[.int .i64 ver,.slice base (x2%bs.length) c]) (λn a h=>by
  simp only[List.map_cons,List.map_nil]
  rw[Hd.t (l:=_) (i:=40) rfl n a h,Hd.t (l:=_) (i:=47) rfl n a h]) (λw hC=>(L.aC w ver _ _ (Jo.keep hC) (herr.keep (RF.trans hC) id) Wu).mono λe w' hR=>by
   obtain⟨y2,b2,rfl,KX,JR,_⟩:=hR
   obtain⟨rfl,rfl⟩:=JR Tm
   exact⟨rfl,hC.trans KX⟩) aa λa h=>?_
 refine eq h (λw' hC=>eb h (.t rfl)) aa λa h=>eq h (λw' hC=>pN h (.t rfl) rfl) aa λa h=>eq h (λw' hC=>pN h (.t rfl) rfl) aa λa h=>eq h (λw' hC=>qV h (.t rfl)) aa λa h=>eq h (λw' hC=>qV h (.t rfl)) aa λa h=>lp λw10 hJ10=>?_
 have h:St 56 a [(10,.bool true),(12,.bool false)]:=h.pick ⟨rfl,rfl,trivial⟩
 refine bI (cq (b9 h (.t rfl) aa λa h=>b9 h (.t rfl) aa λa h=>jJ h rfl rfl rfl aa (.t rfl) aa λa h=>?_))
 refine ox h rfl rfl rfl aa (v:=.bool true) (by
  have e:=Hd.t (l:=_) (i:=53) (v:=.bool false) rfl _ a h
  simp[execOp,mk,e,Op.unary]) aa λa h=>?_
 refine dZ h (.t rfl) (.t rfl) .c aa λa h=>b5 h (.t rfl) aa λa h=>wpList_nil (.ret ?_)
 exact p5 h rfl ab (RF.trans hJ10)
end
end
theorem ll {x:Nat}(h:x<34359738368):(uvar x).length<=5:=by
 simp only[uvar,dD]
 repeat' split
 all_goals first|(simp;done)|(exfalso;omega)
theorem pA {α:Type}(f:α->Bs)(b:Nat):∀ (l:List α),(∀ x∈l,(f x).length<=b)->((l.map f).flatten).length<=l.length*b
 | [],_=>by simp
 | x::r,h=>by
  have h1:=h x (aB ..)
  have h2:=pA f b r λy hy=>h y (aA _ hy)
  simp only[List.map_cons,List.flatten_cons,ad,List.length_cons]
  rw[bk]
  omega
theorem AC (null:Bool)(l:Bs):(gn null l).length<=bX/\(gn null l).length<=l.length:=by
 unfold gn
 split
 ·simp
 ·rw[aG];omega
theorem sk (fx null:Bool){n k:Nat}(hn:n<=bX)(hk:k<=4):(js fx null n k).length<=5:=by
 have hu:(uvar (n+1)).length<=5:=ll (by simp only[bX]at hn;omega)
 unfold js
 split<;>split<;>first|exact hu|(rw[dx];omega)|(simp;done)
theorem ng (fx null:Bool){k:Nat}(l:Bs)(hk:k<=4):(gm fx null k l).length<=5+bX/\(gm fx null k l).length<=5+l.length:=by
 obtain⟨a,b⟩:=AC null l
 have:=sk fx null (k:=k) a hk
 simp only[gm,ad]
 omega
theorem yH (kind:Nat):da kind<=8:=by
 unfold da
 repeat' split
 all_goals omega
def Fw (kind p:Nat):Nat:=if kind=0 then 1 else if kind=7 then 16 else if kind=8 \/ kind=9 then 5+bX else if kind=10 then p else da kind
def I4 (kind of p:Nat):Nat:=if kind=11 then 5+bX*Fw of p else if kind=10 then 1+p else Fw kind p
theorem sh {kind p:Nat}(null fx:Bool){pt:Tr->Bs}(hp:∀ t,(pt t).length<=p)(t:Tr):(gk kind null fx pt t).length<=Fw kind p:=by
 unfold gk Fw
 by_cases h0:kind=0
 ·rw[ax h0,ax h0];simp
 rw[al h0,al h0]
 by_cases h7:kind=7
 ·rw[ax h7,ax h7,lT];omega
 rw[al h7,al h7]
 by_cases h8:kind=8
 ·rw[ax h8,ax (.inl h8)];exact(ng fx null _ aa).1
 rw[al h8]
 by_cases h9:kind=9
 ·rw[ax h9,ax (.inr h9)];exact(ng fx null _ aa).1
 rw[al h9,al (show ¬(kind=8 \/ kind=9) from λh=>h.elim h8 h9)]
 by_cases Lm:kind=10
 ·rw[ax Lm,ax Lm];exact hp t
 ·rw[al Lm,al Lm,dx];exact ae _
theorem pI (null:Bool)(t:Tr):(eR null t).length<=bX:=by
 unfold eR
 split
 ·simp
 ·rw[aG];omega
theorem Df {kind of p:Nat}(nul ver:Int)(fx:Bool){pt:Tr->Bs}(hp:∀ t,(pt t).length<=p)(t:Tr):(fQ kind nul of ver fx pt t).length<=I4 kind of p:=by
 unfold fQ I4
 by_cases Ld:kind=11
 ·rw[ax Ld,ax Ld,ad]
  have hl:=pI (t.null&&cF nul ver) t
  have h1:=sk fx (t.null&&cF nul ver) (k:=4) hl aa
  have h2:=pA (gk of false fx pt) (Fw of p) (eR (t.null&&cF nul ver) t) λx _=>sh false fx hp x
  have h3:=bn (Fw of p) hl
  omega
 rw[al Ld,al Ld]
 by_cases Lm:kind=10
 ·rw[ax Lm]
  by_cases hn:kind=10/\0<=nul
  ·rw[ax hn]
   have:=hp t
   split<;>simp<;>omega
  ·rw[al hn]
   have:=sh (kind:=kind) (t.null&&cF nul ver) fx hp t
   have e:Fw kind p=p:=by subst Lm;rfl
   omega
 ·rw[al (λh=>Lm h.1),al Lm]
  exact sh _ fx hp t
theorem EF (p:Nat × Bs)(h:p.1<4294967296):(jT (p.1,p.2.take bX)).length<=10+bX:=by
 have h1:(uvar p.1).length<=5:=ll aa
 have h2:=ii p.2
 have h3:(uvar (p.2.take bX).length).length<=5:=ll (by simp only[bX]at h2 ⊢;omega)
 simp only[jT,ad]
 omega
def zN:List (UInt32 × Bs)->Nat
 | []=>0
 | p::r=>1+p.2.length+zN r
mutual
def Tr.wt:Tr->Nat
 | .mk _ s _ l u=>1+s.length+wtL l+zN u
def wtL:List Tr->Nat
 | []=>0
 | t::r=>t.wt+wtL r
end
theorem tk (t:Tr):t.wt=1+t.octets.length+wtL t.list+zN t.raw:=by cases t;simp[Tr.wt,Tr.octets,Tr.list,Tr.raw]
theorem tq (n:Nat):∀ l:List Tr,wtL (l.take n)<=wtL l
 | []=>by simp
 | t::r=>by
  cases n with
  | zero=>simp[wtL]
  | succ n=>
   have:=tq n r
   simp only[List.take_succ_cons,wtL]
   omega
theorem xk:∀ (l:List Tr) (i:Nat) (t:Tr),l[i]?=some t->t.wt<=wtL l
 | [],_,_,h=>by simp at h
 | x::r,0,t,h=>by
  simp only[aV,aM]at h
  subst h
  simp only[wtL];omega
 | x::r,i+1,t,h=>by
  have:=xk r i t (by simpa using h)
  simp only[wtL];omega
theorem FX (t:Tr)(i:Nat):(t.at i).wt<=t.wt:=by
 have h:=tk t
 unfold Tr.at
 rw[List.getD_eq_getElem?_getD]
 cases hx:t.list[i]? with
 | none=>
  have:(Tr.zero).wt=1:=by simp[tk,Tr.zero,Tr.octets,Tr.list,Tr.raw,wtL,zN]
  simp only[Option.getD_none]
  omega
 | some x=>
  have:=xk t.list i x hx
  simp only[Option.getD_some]
  omega
theorem Av (f:Tr->Bs)(k:Nat):∀ (l:List Tr),(∀ x∈l,(f x).length<=k*x.wt)->((l.map f).flatten).length<=k*wtL l
 | [],_=>by simp
 | x::r,h=>by
  have h1:=h x (aB ..)
  have h2:=Av f k r λy hy=>h y (aA _ hy)
  simp only[List.map_cons,List.flatten_cons,ad,wtL]
  rw[Nat.mul_add]
  omega
def kV (kind p:Nat):Nat:=if kind=10 then p else 16
def kF (kind of p:Nat):Nat:=if kind=11 then 5+kV of p else if kind=10 then 1+p else 16
theorem vl (t:Tr):1+t.octets.length<=t.wt:=by have:=tk t;omega
theorem vY {kind p:Nat}(null fx:Bool){pt:Tr->Bs}(hp:∀ t,(pt t).length<=p*t.wt)(t:Tr):(gk kind null fx pt t).length<=kV kind p*t.wt:=by
 have hw:=vl t
 by_cases Lm:kind=10
 ·subst Lm
  exact hp t
 have e:kV kind p=16:=by unfold kV;rw[al Lm]
 rw[e]
 unfold gk
 split
 ·simp;omega
 split
 ·rw[lT];omega
 split
 ·have:=(ng fx null (k:=2) t.octets aa).2;omega
 split
 ·have:=(ng fx null (k:=4) t.octets aa).2;omega
 rw[dx]
 have:=yH kind
 omega
theorem ES {kind of p:Nat}(nul ver:Int)(fx:Bool){pt:Tr->Bs}(hp:∀ t,(pt t).length<=p*t.wt)(t:Tr):(fQ kind nul of ver fx pt t).length<=kF kind of p*t.wt:=by
 have hw:=vl t
 unfold fQ kF
 by_cases Ld:kind=11
 ·rw[ax Ld,ax Ld,ad]
  have hl:=pI (t.null&&cF nul ver) t
  have h1:=sk fx (t.null&&cF nul ver) (k:=4) hl aa
  have h2:=Av (gk of false fx pt) (kV of p) (eR (t.null&&cF nul ver) t) λx _=>vY false fx hp x
  have h3:wtL (eR (t.null&&cF nul ver) t)<=t.wt:=by
   have h4:=tq bX t.list
   have h5:=tk t
   unfold eR
   split
   ·simp[wtL]
   ·omega
  have h4:=Nat.mul_le_mul_left (kV of p) h3
  rw[bk]
  omega
 rw[al Ld,al Ld]
 by_cases Lm:kind=10
 ·rw[ax Lm]
  have:=hp t
  rw[bk]
  by_cases hn:kind=10/\0<=nul
  ·rw[ax hn]
   split<;>simp<;>omega
  ·rw[al hn]
   have:=vY (kind:=kind) (t.null&&cF nul ver) fx hp t
   have e:kV kind p=p:=by subst Lm;rfl
   rw[e]at this
   omega
 ·rw[al (λh=>Lm h.1),al Lm]
  have:=vY (kind:=kind) (t.null&&cF nul ver) fx hp t
  have e:kV kind p=16:=by unfold kV;rw[al Lm]
  rw[e]at this
  exact this
def ph:List (Nat × Bs)->Nat
 | []=>0
 | p::r=>1+p.2.length+ph r
theorem xj (k:Nat)(v:Bs):∀ l,ph (dq k v l)<=1+v.length+ph l
 | []=>by simp[dq,ph]
 | (j,u)::r=>by
  have:=xj k v r
  simp only[dq]
  split
  ·simp[ph]
  ·split
   ·simp only[ph];omega
   ·simp only[ph];omega
theorem pg (n:Nat):∀ (l acc:List (Nat × Bs)),ph (jo n l acc)<=ph l+ph acc
 | [],acc=>by simp[jo,ph]
 | (k,v)::r,acc=>by
  simp only[jo,ph]
  split
  ·have:=pg n r acc;omega
  ·have h1:=pg n r (dq k v acc)
   have h2:=xj k v acc
   omega
theorem tl (n:Nat):∀ l:List (Nat × Bs),ph (l.take n)<=ph l
 | []=>by simp
 | p::r=>by
  cases n with
  | zero=>simp[ph]
  | succ n=>
   have:=tl n r
   simp only[List.take_succ_cons,ph]
   omega
theorem xi:∀ u:List (UInt32 × Bs),ph (u.map λp=>(p.1.toNat,p.2))=zN u
 | []=>rfl
 | p::r=>by simp only[List.map_cons,ph,zN,xi r]
theorem C6 (n:Nat)(t:Tr):ph (eV n t.tags)<=zN t.raw:=by
 have h1:=pg n (t.tags.take bX) []
 have h2:=tl bX t.tags
 have h3:ph t.tags=zN t.raw:=by cases t with|mk a b c d e=>exact xi e
 simp only[ph]at h1
 unfold eV
 omega
theorem xz:∀ (l:List (Nat × Bs)),(∀ x∈l,x.1<4294967296)->((l.map λp=>jT (p.1,p.2.take bX)).flatten).length<=10*ph l
 | [],_=>by simp
 | p::r,h=>by
  have h1:(uvar p.1).length<=5:=ll (by have:=h p (aB ..);omega)
  have h2:=ii p.2
  have h2':(p.2.take bX).length<=p.2.length:=by rw[aG];omega
  have h3:(uvar (p.2.take bX).length).length<=5:=ll (by simp only[bX]at h2 ⊢;omega)
  have h4:=xz r λy hy=>h y (aA _ hy)
  have h5:(jT (p.1,p.2.take bX)).length<=10+p.2.length:=by
   simp only[jT,ad]
   omega
  simp only[List.map_cons,List.flatten_cons,ad,ph]
  omega
def okInL (hf:Bool)(flexN:Nat)(fs:Fds)(most:Nat)(x:Int)(l:Bs):Prop:=(∃ v:Nat,v<=most/\x=(v:Int))/\l.length<=fq/\ij hf flexN fs x (kY l)≠.stuck/\∀ bs,againOut false hf flexN fs x l=some bs->bs.length<=fq
section
variable {P:Program} {S:SN} {N:LN} {gErr T flexN:Nat} {hf:Bool} {fs:Fds} {toff:Option Nat} {z:Array Value} {fN fS fR fA:Nat}
theorem lawC_of (RT:RefT P S)(M:MsgC P gErr S.tU8 false hf flexN fs toff T z fN fS fR fA){tI16 tErr fMV ntAg ntV ntSm ntM ntMV most:Nat}(hI:P.underlying tI16=some (.int .i16))(Pz:∃ ms,P.underlying tErr=some (.interface ms))(hU:P.underlying S.tU16=some (.int .u16) \/ S.tU16=999999)
  (Zy:FnIs P N.fA ntAg [4,5] (cAgain tI16 S.tInt S.tSl tErr fN fS fR fA)) (WD:19<=ntAg) (hV:FnIs P N.fV ntV [4] (cVer S.tU8 S.tInt)) (hnV:10<=ntV) (UH:S.fSame=999999 \/ FnIs P S.fSame ntSm [4] (cSame S.tSl S.tU8 S.tInt)) (W9:26<=ntSm)
  (hM:FnIs P N.fM ntM [0] (cMax tI16 S.tInt fN fMV)) (hnM:4<=ntM) (Zm:FnIs P fMV ntMV [2] (cMaxV (most:Int))) (WA:3<=ntMV) (Lq:most<32768)
  (h4:FnIs P S.fZ4 7 [2] (csZ4 S)) (h3:FnIs P S.fZ3 18 [2] (csZ3 S)) (h2:FnIs P S.fZ2 15 [2] (csZ2 S)) {flex:Int} {sf:SFs} (hB:Ent P N.fB/\MsgBC P N.fB flex sf)
  (Ze:FnIs P S.fWrite 21 [6] (csWr S)) (Ss:Ent P S.fPart) (UK:r3 P S sf):LawC P S N gErr most flex sf (λx l=>againOut false hf flexN fs x l) (okInL hf flexN fs most) where
 tab:=RT
 dU16:=hU
 zE:=h2.ent
 zC w k cs t ht:=zI RT h4 h3 h2 w ht
 mE:=hM.ent
 mC w:=yZ RT.mixed hI RT.dInt Lq hM hnM M.newE ((M.newC w).mono λe w' h=>⟨h.1,h.2.1⟩) Zm.ent λw=>wK RT.mixed Zm WA
 bE:=hB.1
 bC:=hB.2
 vE:=hV.ent
 vC x w hx:=yw RT.mixed RT.dU8 RT.dInt hx Lq hV hnV
 wE:=Ze.ent
 wC W ver k cs t fv J9 ht hlim:=zV RT Ze Ss UK W J9 ht hlim
 aE:=Zy.ent
 aC:=by
  obtain⟨ms,Pz⟩:=Pz
  intro w x srcv l hs he Jf
  obtain⟨⟨v,hv,rfl⟩,IT,MP,hlim⟩:=Jf
  have hw:IntKind.i16.wrap (v:Int)=v:=by simp[IntKind.wrap,IntKind.bits,IntKind.signed];omega
  have:=vf RT.mixed M RT.oct hI RT.dInt Pz Zy WD (x:=(v:Int)) hs IT he (by rw[hw];exact MP) (by rw[hw];exact hlim)
  rw[hw]at this
  exact this
 sE:=UH.imp id λh=>h.ent
 sC:=UH.imp id λh=>λ_ _ _ _ _ ha hb Pg=>pF RT.mixed RT.oct RT.vU8 h W9 ha hb Pg
variable {most:Nat} {flex:Int} {sf:SFs}
end
section
open Go Go.ChangeShapes Go.WideShapes Go.RowKit Go.Deep
def Iw (P:Program)(t n:Nat):Bool:=match P.underlying t with
 | some (.struct fs)=>fs.size==n
 | _=>false
theorem Ax {P:Program}{t n:Nat}(h:Iw P t n=true){fs:Array Field}(hf:P.underlying t=some (.struct fs)):fs.size=n:=by
 unfold Iw at h
 rw[hf]at h
 simpa using h
structure TreT (P:Program)(S:SN):Prop where
 tab:RefT P S
 cT:P.cellsOf S.tT=5
 cG:P.cellsOf S.tG=2
 cI:P.cellsOf S.tI64=1
 cSl:P.cellsOf S.tSl=1
 cB:P.cellsOf S.tB=1
 cTs:P.cellsOf S.tTs=1
 cGs:P.cellsOf S.tGs=1
 cU:P.cellsOf S.tU32=1
 c8:P.cellsOf S.tU8=1
 dB:P.underlying S.tB=some .bool
 nT:Iw P S.tT 5=true
 nG:Iw P S.tG 2=true
section
variable {H:Type} {enc:TypeId × Value->H} {P:Program} {S:SN} {W:World}
theorem qP {a:Addr}{v:Value}(h:W.cell? a=some v):a.spot=none/\a.block<W.heap.size:=by
 obtain⟨b,o,s⟩:=a
 cases s with
 | none=>exact⟨rfl,e8 h⟩
 | some s=>
  simp[World.cell?]at h
  split at h<;>cases h
theorem qo (d:DataW H):1<=Rows.uptoBulk d:=by
 cases d with
 | lit l=>cases l<;>simp[Rows.uptoBulk]
 | _=>simp[Rows.uptoBulk]
theorem oD:∀ l:List (DataW H),l.length<=Rows.uptoBulkAll l
 | []=>by simp
 | d::r=>by
  have h1:=qo d
  have h2:=oD r
  simp only[Rows.uptoBulkAll,List.length_cons]
  omega
theorem rf (T:TreT P S){fuel:Nat}{v:Value}{x:DataW H × List MemPlace}(h:DataW.trod enc P W 0 (λ_=>true) true fuel S.tSl [v]=some x):∃ l:Bs,kR W v l/\l.length+1<=Rows.uptoBulk x.1:=by
 rcases open_ints T.tab.oct.und T.tab.dU8 T.c8 h with⟨Js,rfl⟩|⟨a,len,cap,zs,Js,_,hl,hm,PO,rfl,IS,hw⟩
 ·simp only[List.cons.injEq,and_true]at Js
  exact⟨[],.inl ⟨none,Js,rfl⟩,by simp[Rows.uptoBulk]⟩
 ·simp only[List.cons.injEq,and_true]at Js
  subst Js
  have PO:zs.length=cap:=by simpa using PO
  have IT:((zs.take len).map λz=>UInt8.ofNat z.toNat).length=len:=by simp only[aJ,aG];omega
  refine⟨(zs.take len).map λz=>UInt8.ofNat z.toNat,?_,?_⟩
  ·by_cases h0:cap=0
   ·obtain rfl:len=0:=by omega
    subst h0
    exact .inl ⟨_,rfl,by simp⟩
   ·have MW:=IS 0 aa
    have e0:a.add 0=a:=rfl
    rw[e0]at MW
    obtain⟨hs,IU⟩:=qP MW
    obtain⟨b,o,s⟩:=a
    simp only at hs
    subst hs
    refine .inr (.inr ⟨b,o,cap,by rw[IT],id,IU,by rw[IT];exact hl,hm,λi x hx=>?_⟩)
    simp only[aD,aK]at hx
    obtain⟨z,hz,rfl⟩:=hx
    have hi:i<len:=by
     rcases bm i len with h|h
     ·exact h
     ·rw[aX,al aa]at hz;cases hz
    rw[aX,ax hi]at hz
    have P2:=hw z (bc hz)
    have P2:0<=z/\z<256:=by simp[Lit.wf,IntKind.min,IntKind.max,IntKind.bits,IntKind.signed]at P2;omega
    have PH:=IS i aa
    rw[add_plain]at PH
    rw[PH]
    have e1:zs.getD i 0=z:=by simp[List.getD,hz]
    have e2:(UInt8.ofNat z.toNat).toNat=z.toNat:=UInt8.toNat_ofNat_of_lt (by simpa using(by omega:z.toNat<256))
    rw[e1,e2,Int.toNat_of_nonneg P2.1]
  ·rw[IT]
   have h1:=oD (lits (H:=H) .u8 (zs.take len))
   have h2:(lits (H:=H) .u8 (zs.take len)).length=len:=by simp only[lits,aJ,aG];omega
   simp only[Rows.uptoBulk]
   omega
theorem ET {α:Type}{El:List Value->α->Prop}{sz len cap:Nat}{a:Addr}(Jc:0<sz)(hl:len<=cap)(hm:cap<=maxLen)(wt:α->Nat)(D:Nat->Nat)(h:∀ i,i<cap->∃ cs',W.cells? 0 (a.add (i*sz)) sz=some cs'/\(i<len->∃ x,El cs' x/\wt x<=D i)) :
  ∃ xs:List α,fi W sz El (.slice (some a) len cap) xs/\xs.length=len/\∀ i x,xs[i]?=some x->wt x<=D i:=by
 by_cases h0:cap=0
 ·obtain rfl:len=0:=by omega
  subst h0
  exact⟨[],.inl ⟨_,rfl,rfl⟩,rfl,λi x hx=>by simp at hx⟩
 ·obtain⟨cs0,MW,_⟩:=h 0 aa
  obtain⟨_,P9,Sg⟩:=World.cells?_some MW
  have h1:=Sg 0 Jc
  rw[aq aa]at h1
  have e0:(a.add (0*sz)).add 0=a:=by rw[Nat.zero_mul];rfl
  rw[e0]at h1
  obtain⟨hs,IU⟩:=qP h1
  obtain⟨b,o,s⟩:=a
  simp only at hs
  subst hs
  have LY:∀ i:Fin len,∃ x,(∃ cs',W.cells? 0 ((⟨b,o,none⟩:Addr).add (i.val*sz)) sz=some cs'/\El cs' x)/\wt x<=D i.val:=λi=>by
   obtain⟨cs',e1,e2⟩:=h i.val aa
   obtain⟨x,e3,e4⟩:=e2 i.isLt
   exact⟨x,⟨cs',e1,e3⟩,e4⟩
  let f:Fin len->α:=λi=>Classical.choose (LY i)
  have hf:∀ i:Fin len,(∃ cs',W.cells? 0 ((⟨b,o,none⟩:Addr).add (i.val*sz)) sz=some cs'/\El cs' (f i))/\wt (f i)<=D i.val:=λi=>Classical.choose_spec (LY i)
  have KR:∀ i x,(List.ofFn f)[i]?=some x->∃ hi:i<len,x=f ⟨i,hi⟩:=λi x hx=>by
   obtain⟨hi,e⟩:=ah.1 hx
   have MO:i<len:=by simpa using hi
   exact⟨MO,by rw[<- e];simp⟩
  refine⟨List.ofFn f,.inr ⟨b,o,cap,by rw[List.length_ofFn],by rw[List.length_ofFn];exact hl,hm,λi x hx=>?_⟩,List.length_ofFn ..,λi x hx=>?_⟩
  ·obtain⟨hi,rfl⟩:=KR i x hx
   obtain⟨⟨cs',e1,e2⟩,_⟩:=hf ⟨i,hi⟩
   obtain⟨_,e3,e4⟩:=World.cells?_some e1
   refine⟨cs',e3,λj v hj=>?_,e2⟩
   have:=e4 j (by have:=(ah.1 hj).1;omega)
   rw[hj,add_plain,add_plain]at this
   rw[<- this]
  ·obtain⟨hi,rfl⟩:=KR i x hx
   exact(hf ⟨i,hi⟩).2
theorem B1 (T:TreT P S){fuel:Nat}{cs:List Value}{x:DataW H × List MemPlace}(h:DataW.trod enc P W 0 (λ_=>true) true fuel S.tG cs=some x):∃ p,jh W cs p/\1+p.2.length<=Rows.uptoBulk x.1:=by
 obtain⟨fs,f0,hu,Xs,o0,ty0⟩:=T.tab.g0.fld
 obtain⟨fs',f1,Oh,N6,o1,ty1⟩:=T.tab.g1.fld
 obtain rfl:fs=fs':=by rw[hu]at Oh;simpa using Oh
 obtain⟨xs,n,rfl,rfl,MT,PS,J9⟩:=DataW.trod_struct hu h
 rw[T.cG]at MT
 rw[Ax T.nG hu]at PS
 match cs,MT,xs,PS with
 | [c0,c1],_,[y0,y1],_=>
  have h0:=J9 0 f0 Xs
  have h1:=J9 1 f1 N6
  rw[o0,ty0,T.cU]at h0
  rw[o1,ty1,T.cSl]at h1
  simp only[List.drop_zero,List.take_succ_cons,List.take_zero,aV]at h0
  simp only[List.drop_succ_cons,List.drop_zero,List.take_succ_cons,List.take_zero,List.getElem?_cons_succ,aV]at h1
  obtain⟨m,e0,_,hw⟩:=DataW.trod_int T.tab.dU32 h0
  obtain⟨l,hl,hb⟩:=rf T h1
  simp only[List.cons.injEq,and_true]at e0
  have hm:0<=m/\m<4294967296:=by simp[Lit.wf,IntKind.min,IntKind.max,IntKind.bits,IntKind.signed]at hw;omega
  refine⟨(UInt32.ofNat m.toNat,l),⟨c1,?_,hl⟩,?_⟩
  ·have e2:(UInt32.ofNat m.toNat).toNat=m.toNat:=UInt32.toNat_ofNat_of_lt (by simpa using(by omega:m.toNat<4294967296))
   simp only[e2,Int.toNat_of_nonneg hm.1]
   rw[e0]
  ·simp only[Rows.uptoBulk,List.map_cons,List.map_nil,Rows.uptoBulkAll]
   omega
theorem uB {α:Type}{e t sz:Nat}(VR:P.underlying t=some (.slice e))(PI:P.cellsOf e=sz)(Jc:0<sz){El:List Value->α->Prop}(wt:α->Nat){fuel:Nat}{v:Value}{x:DataW H × List MemPlace}(h:DataW.trod enc P W 0 (λ_=>true) true fuel t [v]=some x)
  (LP:∀ (n:Nat) (cs:List Value) (y:DataW H × List MemPlace),n<fuel->DataW.trod enc P W 0 (λ_=>true) true n e cs=some y->∃ a,El cs a/\wt a<=Rows.uptoBulk y.1) :
  ∃ (xs:List α) (ds:List (DataW H)),fi W sz El v xs/\Rows.uptoBulkAll ds+1<=Rows.uptoBulk x.1/\xs.length=ds.length/\∀ (i:Nat) (a:α) (d:DataW H),xs[i]?=some a->ds[i]?=some d->wt a<=Rows.uptoBulk d:=by
 rcases DataW.trod_slice VR h with⟨e3,rfl⟩|⟨a,len,cap,elems,rest,n,rfl,e3,rfl,_,hl,hm,IT,he,Rr,_⟩
 ·simp only[List.cons.injEq,and_true]at e3
  exact⟨[],[],.inl ⟨none,e3,rfl⟩,by simp[Rows.uptoBulk,Rows.uptoBulkAll],rfl,λi a d hi=>by simp at hi⟩
 simp only[List.cons.injEq,and_true]at e3
 subst e3
 obtain⟨M4,hr⟩:=Rr rfl
 rw[PI]at he hr
 obtain⟨xs,Jq,PS,Of⟩:=ET (W:=W) (El:=El) (sz:=sz) (a:=a) Jc hl hm wt (λi=>match elems[i]? with|some y=>Rows.uptoBulk y.1|none=>0) (λi hi=>by
  by_cases Pl:i<len
  ·have h1:=he i Pl
   rw[aq aa]at h1
   obtain⟨cs',h2,h3⟩:=Option.bind_eq_some_iff.1 h1
   obtain⟨b,h4,h5⟩:=LP n cs' _ (Nat.lt_succ_self n) h3
   refine⟨cs',h2,λ_=>⟨b,h4,?_⟩⟩
   rw[aq aa]
   exact h5
  ·have h1:=hr (i-len) aa
   rw[aq aa,show len+(i-len)=i by omega]at h1
   obtain⟨cs',h2,_⟩:=Option.bind_eq_some_iff.1 h1
   exact⟨cs',h2,λh=>absurd h Pl⟩)
 refine⟨xs,elems.map (·.1),Jq,by simp only[Rows.uptoBulk];omega,by rw[PS,aJ,IT],λi b d hb hd=>?_⟩
 have:=Of i b hb
 rw[aD,aK]at hd
 obtain⟨y,hy,rfl⟩:=hd
 simpa[hy]using this
theorem zO:∀ (l:List Tr) (ds:List (DataW H)),l.length=ds.length->(∀ (i:Nat) (x:Tr) (d:DataW H),l[i]?=some x->ds[i]?=some d->x.wt<=Rows.uptoBulk d)->wtL l<=Rows.uptoBulkAll ds
 | [],_,_,_=>by simp[wtL]
 | t::r,[],h,_=>by simp at h
 | t::r,d::ds,h,hh=>by
  have h0:=hh 0 t d rfl rfl
  have h1:=zO r ds (by simpa using h) λi x y hx hy=>hh (i+1) x y (by simpa using hx) (by simpa using hy)
  simp only[wtL,Rows.uptoBulkAll]
  omega
theorem zL:∀ (l:List (UInt32 × Bs)) (ds:List (DataW H)),l.length=ds.length->(∀ (i:Nat) (x:UInt32 × Bs) (d:DataW H),l[i]?=some x->ds[i]?=some d->1+x.2.length<=Rows.uptoBulk d)->zN l<=Rows.uptoBulkAll ds
 | [],_,_,_=>by simp[zN]
 | t::r,[],h,_=>by simp at h
 | t::r,d::ds,h,hh=>by
  have h0:=hh 0 t d rfl rfl
  have h1:=zL r ds (by simpa using h) λi x y hx hy=>hh (i+1) x y (by simpa using hx) (by simpa using hy)
  simp only[zN,Rows.uptoBulkAll]
  omega
theorem yV (T:TreT P S):∀ (fuel:Nat) (cs:List Value) (x:DataW H × List MemPlace),DataW.trod enc P W 0 (λ_=>true) true fuel S.tT cs=some x->∃ t,TrRp W fuel cs t/\t.wt<=Rows.uptoBulk x.1:=by
 intro fuel
 induction fuel using Nat.strongRecOn with
 | _ fuel ih=>
 intro cs x h
 obtain⟨fs,f0,hu,Xs,o0,ty0⟩:=T.tab.t0.fld
 obtain⟨fs1,f1,Nj,N6,o1,ty1⟩:=T.tab.t1.fld
 obtain⟨fs2,f2,PX,NM,o2,ty2⟩:=T.tab.t2.fld
 obtain⟨fs3,f3,Y3,Nf,o3,ty3⟩:=T.tab.t3.fld
 obtain⟨fs4,f4,Y2,Ny,o4,ty4⟩:=T.tab.t4.fld
 obtain rfl:fs=fs1:=by rw[hu]at Nj;simpa using Nj
 obtain rfl:fs=fs2:=by rw[hu]at PX;simpa using PX
 obtain rfl:fs=fs3:=by rw[hu]at Y3;simpa using Y3
 obtain rfl:fs=fs4:=by rw[hu]at Y2;simpa using Y2
 obtain⟨xs,n,rfl,rfl,MT,PS,J9⟩:=DataW.trod_struct hu h
 rw[T.cT]at MT
 rw[Ax T.nT hu]at PS
 match cs,MT,xs,PS with
 | [c0,c1,c2,c3,c4],_,[y0,y1,y2,y3,y4],_=>
  have h0:=J9 0 f0 Xs
  have h1:=J9 1 f1 N6
  have h2:=J9 2 f2 NM
  have h3:=J9 3 f3 Nf
  have h4:=J9 4 f4 Ny
  rw[o0,ty0,T.cI]at h0
  rw[o1,ty1,T.cSl]at h1
  rw[o2,ty2,T.cB]at h2
  rw[o3,ty3,T.cTs]at h3
  rw[o4,ty4,T.cGs]at h4
  simp only[List.drop_zero,List.drop_succ_cons,List.take_succ_cons,List.take_zero,aV,List.getElem?_cons_succ]at h0 h1 h2 h3 h4
  obtain⟨m,e0,ey0,_⟩:=DataW.trod_int T.tab.dI64 h0
  obtain⟨l,hl,J2⟩:=rf T h1
  obtain⟨nl,e2,ey2⟩:=DataW.trod_bool T.dB h2
  simp only[List.cons.injEq,and_true]at e0 e2
  obtain⟨ts,ds3,hts,Mp,Oq,Nh⟩:=uB (El:=TrRp W n) T.tab.dTs T.cT aa Tr.wt h3 λn' cs y hn hy=>by
   obtain⟨t,ht,hw⟩:=ih n' aa cs y hy
   exact⟨t,ht.up aa,hw⟩
  obtain⟨us,ds4,LD,Vs,S6,SL⟩:=uB (El:=jh W) T.tab.dGs T.cG aa (λp:UInt32 × Bs=>1+p.2.length) h4 λn' cs y _ hy=>B1 T hy
  have hwL:=zO ts ds3 Oq Nh
  have hwU:=zL us ds4 S6 SL
  refine⟨.mk m l nl ts us,⟨c1,c3,c4,?_,hl,hts,LD⟩,?_⟩
  ·rw[e0,e2];rfl
  ·have b0:=qo y0.1
   have b2:=qo y2.1
   simp only[Tr.wt,Rows.uptoBulk,List.map_cons,List.map_nil,Rows.uptoBulkAll]
   omega
theorem ve (T:TreT P S){base:Nat}{v:Value}{d:DataW H}{p:List MemPlace}(hval:Value.okWide P W .any base S.tT v)(h:DataW.Trod enc P W 0 (λ_=>true) true S.tT v d p):∃ (k:Nat) (cs:List Value) (t:Tr),v=.agg cs.toArray/\TrRp W k cs t/\t.wt<=Rows.uptoBulk d:=by
 obtain⟨fs,f0,hu,_⟩:=T.tab.t0.fld
 obtain⟨cs,rfl,_⟩:=okWide_struct hu hval
 obtain⟨fuel,hf⟩:=h
 obtain⟨t,ht,hw⟩:=yV T fuel _ _ hf
 exact⟨fuel,cs.toList,t,by simp,by simpa[Value.cells]using ht,hw⟩
theorem br.below {W W':World}(h:br (λ_=>False) W W'):Below W.heap.size W W':=⟨h.os,h.tape,h.output,h.size,λi hi=>h.block i hi id⟩
theorem rowT (T:TreT P S)(Kh:laidOutB P=true)(Wf:P.readableRec S.tT=true)(IU:S.tT<P.types.size){f:FuncId}{fn:Func}{s:ChangeSpec}{tX tB:TypeId}(ND:fn.params.toList=[tX,S.tT])(Nn:fn.resultTypes=#[tB])(hX:P.underlying tX=some (.int .u8))(hB:P.underlying tB=some .bool)
  (hv:s.vars=[]) (hs:∀ d1 d2:DataW H,s.fn H [d1,d2]={ results:=[.lit (.bool true)],args:=[d1,d2] }) {base:Nat} {args:Array Value} {ds gs:List (DataW H)} {before:List MemPlace}
  (hval:∀ (j:Nat) t v,fn.params[j]?=some t->args[j]?=some v->Value.okWide P W .any base t v) (hW:DataW.Whole enc P fn.params.toList s.vars false W args.toList ds gs before)
  (Pw:∀ (x0 k:Nat) (cs:List Value) (t:Tr),x0<256->TrRp W k cs t->t.wt<=Rows.uptoBulkAll (ds++gs)->Calls P f [.int .u8 (x0:Int),.agg cs.toArray].toArray W (TrueC W)) :
  Calls P f args W λe W'=>∃ v,e=.returned v/\s.post enc P fn false true false false W args v W':=by
 have UC:=hW
 obtain⟨p,q,Yf,hV,rfl,hfz,S2⟩:=hW
 have hA:DataW.TrodAll enc P W 0 (λ_=>true) true fn.params.toList args.toList ds p:=Yf
 have Q9:∀ j,fn.params[j]?=([tX,S.tT]:List TypeId)[j]?:=λj=>by rw[<- ND,Array.getElem?_toList]
 rw[ND]at hA
 obtain⟨v0,v1,d0,d1,p0,p1,rfl,rfl,rfl,h0,h1⟩:=trodAll_two hA
 rw[hv]at hV
 obtain⟨rfl,rfl⟩:=trodVars_none hV
 obtain⟨n,rfl,rfl,rfl,hn⟩:=open_int hX (hval 0 tX v0 (by rw[Q9];rfl) rfl) h0
 obtain⟨k,cs,t,rfl,ht,Of⟩:=ve T (hval 1 S.tT v1 (by rw[Q9];rfl) rfl) h1
 have hn':0<=n/\n<256:=by
  simp[Lit.wf,IntKind.min,IntKind.max,IntKind.bits,IntKind.signed]at hn
  omega
 have e:n=((n.toNat:Nat):Int):=by omega
 have MT:=Pw n.toNat k cs t aa ht (by simp only[aS,aF,Rows.uptoBulkAll];omega)
 rw[<- e]at MT
 refine MT.mono λe W' ⟨he,hk⟩=>?_
 subst he
 refine⟨_,rfl,_,_,_,[],p1,[],UC,?_,?_,?_,hk.butNone _,λh=>by cases h⟩
 ·rw[Nn]
  simp only[aL,hs]
  exact trodAll_mk1 (shut_bool hB true)
 ·rw[ND]
  simp only[aL,hs]
  have:=trodAll_mk2 (p:=[]) (shut_int (enc:=enc) (w:=W') (base:=0) (spare:=λb=>decide (b<W.heap.size)) (held:=true) hX hn) (Below.trod Kh Wf IU h1 hk.below λx hx=>by
   have:=UC.lt x (by simp[hx])
   simpa using this)
  simpa using this
 ·rw[hv]
  simp only[aL,hs]
  rfl
theorem rowU (T:TreT P S)(Kh:laidOutB P=true)(Wf:P.readableRec S.tT=true)(IU:S.tT<P.types.size){f:FuncId}{fn:Func}{s:ChangeSpec}{tX tY tB:TypeId}(ND:fn.params.toList=[tX,S.tT,tY])(Nn:fn.resultTypes=#[tB])(hX:P.underlying tX=some (.int .u8))(hY:P.underlying tY=some (.int .u16))(hB:P.underlying tB=some .bool)
  (hv:s.vars=[]) (hs:∀ d1 d2 d3:DataW H,s.fn H [d1,d2,d3]={ results:=[.lit (.bool true)],args:=[d1,d2,d3] }) {base:Nat} {args:Array Value} {ds gs:List (DataW H)} {before:List MemPlace}
  (hval:∀ (j:Nat) t v,fn.params[j]?=some t->args[j]?=some v->Value.okWide P W .any base t v) (hW:DataW.Whole enc P fn.params.toList s.vars false W args.toList ds gs before)
  (Pw:∀ (x0 x2 k:Nat) (cs:List Value) (t:Tr),x0<256->x2<65536->TrRp W k cs t->t.wt<=Rows.uptoBulkAll (ds++gs)->Calls P f [.int .u8 (x0:Int),.agg cs.toArray,.int .u16 (x2:Int)].toArray W (TrueC W)) :
  Calls P f args W λe W'=>∃ v,e=.returned v/\s.post enc P fn false true false false W args v W':=by
 have UC:=hW
 obtain⟨p,q,Yf,hV,rfl,hfz,S2⟩:=hW
 have hA:DataW.TrodAll enc P W 0 (λ_=>true) true fn.params.toList args.toList ds p:=Yf
 have Q9:∀ j,fn.params[j]?=([tX,S.tT,tY]:List TypeId)[j]?:=λj=>by rw[<- ND,Array.getElem?_toList]
 rw[ND]at hA
 obtain⟨v0,v1,v2,d0,d1,d2,p0,p1,p2,rfl,rfl,rfl,h0,h1,h2⟩:=trodAll_three hA
 rw[hv]at hV
 obtain⟨rfl,rfl⟩:=trodVars_none hV
 obtain⟨n,rfl,rfl,rfl,hn⟩:=open_int hX (hval 0 tX v0 (by rw[Q9];rfl) rfl) h0
 obtain⟨m,rfl,rfl,rfl,hm⟩:=open_int hY (hval 2 tY v2 (by rw[Q9];rfl) rfl) h2
 obtain⟨k,cs,t,rfl,ht,Of⟩:=ve T (hval 1 S.tT v1 (by rw[Q9];rfl) rfl) h1
 have hn':0<=n/\n<256:=by
  simp[Lit.wf,IntKind.min,IntKind.max,IntKind.bits,IntKind.signed]at hn
  omega
 have S5:0<=m/\m<65536:=by
  simp[Lit.wf,IntKind.min,IntKind.max,IntKind.bits,IntKind.signed]at hm
  omega
 have e:n=((n.toNat:Nat):Int):=by omega
 have e':m=((m.toNat:Nat):Int):=by omega
 have MT:=Pw n.toNat m.toNat k cs t aa aa ht (by simp only[aS,aF,Rows.uptoBulkAll];omega)
 rw[<- e,<- e']at MT
 refine MT.mono λe W' ⟨he,hk⟩=>?_
 subst he
 refine⟨_,rfl,_,_,_,[],p1,[],UC,?_,?_,?_,hk.butNone _,λh=>by cases h⟩
 ·rw[Nn]
  simp only[aL,hs]
  exact trodAll_mk1 (shut_bool hB true)
 ·rw[ND]
  simp only[aL,hs]
  have:=trodAll_mk3 (p:=[]) (p'':=[]) (shut_int (enc:=enc) (w:=W') (base:=0) (spare:=λb=>decide (b<W.heap.size)) (held:=true) hX hn) (Below.trod Kh Wf IU h1 hk.below λx hx=>by
   have:=UC.lt x (by simp[hx])
   simpa using this) (shut_int (enc:=enc) (w:=W') (base:=0) (spare:=λb=>decide (b<W.heap.size)) (held:=true) hY hm)
  simpa using this
 ·rw[hv]
  simp only[aL,hs]
  rfl
end
end
theorem px:∀ (f x:Nat),(dD f x).length<=f+1
 | 0,x=>by simp[dD]
 | f+1,x=>by
  simp only[dD]
  split
  ·simp
  ·have:=px f (x/128)
   simp only[List.length_cons];omega
theorem nS (x:Nat):(uvar x).length<=10:=px 9 x
def z4:List (Nat × Bs)->Nat
 | []=>0
 | p::r=>20+p.2.length+z4 r
theorem De (p:Nat × Bs):(jT p).length<=20+p.2.length:=by
 have h1:=nS p.1
 have h2:=nS p.2.length
 simp only[jT,ad]
 omega
theorem qT (a b:List (Nat × Bs)):(dh (a++b)).length=(dh a).length+(dh b).length:=by simp[dh]
theorem m3 (n:Nat)(l:List (Nat × Bs)):eY (n+1) l=eY n l++l.filter λp=>p.1==n:=by
 simp[eY,List.range_succ]
theorem qQ (p:Nat × Bs)(r:List (Nat × Bs)):∀ n,(dh (eY n (p::r))).length<=(if p.1<n then(jT p).length else 0)+(dh (eY n r)).length
 | 0=>by simp[eY,dh]
 | n+1=>by
  have ih:=qQ p r n
  rw[m3,m3,qT,qT]
  by_cases hp:p.1=n
  ·rw[List.filter_cons_of_pos (by simpa using hp)]
   have e:dh (p::r.filter λq=>q.1==n)=jT p++dh (r.filter λq=>q.1==n):=rfl
   rw[e,ad]
   rw[al aa]at ih
   rw[ax aa]
   omega
  ·rw[List.filter_cons_of_neg (by simpa using hp)]
   split
   ·split at ih<;>omega
   ·rw[al aa]at ih
    omega
theorem uf:∀ n,eY n []=[]
 | 0=>rfl
 | n+1=>by rw[m3,uf n];rfl
theorem xA (n:Nat):∀ l,(dh (eY n l)).length<=z4 l
 | []=>by rw[uf];simp[dh,z4]
 | p::r=>by
  have h1:=qQ p r n
  have h2:=xA n r
  have h3:=De p
  simp only[z4]
  split at h1<;>omega
def yl:Nat:=10 + bX*(10+bX)
theorem sj (fx:Bool)(n:Nat)(tg:List (Nat × Bs))(t:Tr):(iY fx n tg t.tags).length<=yl+z4 tg/\(iY fx n tg t.tags).length<=20*t.wt+z4 tg:=by
 obtain⟨_,h2,h3⟩:=si n t
 have hw:=tk t
 have hu:=C6 n t
 have hs:=xA n tg
 unfold iY yl
 split
 ·have h4:=nS ((eY n tg).length+(eV n t.tags).length)
  have h5:=pA (λp:Nat × Bs=>jT (p.1,p.2.take bX)) (10+bX) (eV n t.tags) λx hx=>EF x (h2 x hx)
  have h6:=bn (10+bX) h3
  have h7:=xz (eV n t.tags) h2
  have e:dh ((eV n t.tags).map λp=>(p.1,p.2.take bX))=((eV n t.tags).map λp=>jT (p.1,p.2.take bX)).flatten:=by
   simp only[dh,List.map_map]
   rfl
  simp only[ad]
  rw[e]
  omega
 ·simp
def BE:SFs->Nat
 | .nil=>0
 | .cons kind _ _ _ _ _ of sub r=>20+I4 kind of (BE sub+yl)+BE r
def Em:SFs->Nat
 | .nil=>0
 | .cons kind _ _ _ _ _ of sub r=>20+kF kind of (Em sub+20)+Em r
theorem DH (ver:Int)(fx:Bool):∀ (sf:SFs) (i:Nat) (t:Tr),(ea ver fx sf i t).length+z4 (sTgd ver fx sf i t)<=BE sf
 | .nil,_,_=>by simp[ea,sTgd,z4]
 | .cons kind lo hi nul tag df of sub r,i,t=>by
  have hr:=DH ver fx r (i+1) t
  have JY:∀ t',(ea ver fx sub 0 t'++iY fx (bH sub) (sTgd ver fx sub 0 t') t'.tags).length<=BE sub+yl:=λt'=>by
   have h1:=DH ver fx sub 0 t'
   have h2:=(sj fx (bH sub) (sTgd ver fx sub 0 t') t').1
   rw[ad]
   omega
  have hf:=Df (kind:=kind) (of:=of) nul ver fx JY (t.at i)
  simp only[ea,sTgd,BE,ad]
  by_cases ht:tag<0
  ·rw[al (show ¬(0<=tag/\_) from λh=>by have:=h.1;omega),aF]
   split
   ·omega
   ·simp only[List.length_nil];omega
  ·rw[al (show ¬(tag<0/\_) from λh=>ht h.1),List.length_nil]
   split
   ·simp only[aS,aF,z4];omega
   ·simp only[aF];omega
theorem ER (ver:Int)(fx:Bool):∀ (sf:SFs) (i:Nat) (t:Tr),(ea ver fx sf i t).length+z4 (sTgd ver fx sf i t)<=Em sf*t.wt
 | .nil,_,_=>by simp[ea,sTgd,z4]
 | .cons kind lo hi nul tag df of sub r,i,t=>by
  have hr:=ER ver fx r (i+1) t
  have hw:=vl t
  have JY:∀ t',(ea ver fx sub 0 t'++iY fx (bH sub) (sTgd ver fx sub 0 t') t'.tags).length<=(Em sub+20)*t'.wt:=λt'=>by
   have h1:=ER ver fx sub 0 t'
   have h2:=(sj fx (bH sub) (sTgd ver fx sub 0 t') t').2
   rw[ad,bk]
   omega
  have hf:=ES (kind:=kind) (of:=of) nul ver fx JY (t.at i)
  have hm:=Nat.mul_le_mul_left (kF kind of (Em sub+20)) (FX t i)
  simp only[ea,sTgd,Em,ad]
  rw[bk,bk]
  by_cases ht:tag<0
  ·rw[al (show ¬(0<=tag/\_) from λh=>by have:=h.1;omega),aF]
   split
   ·omega
   ·simp only[List.length_nil];omega
  ·rw[al (show ¬(tag<0/\_) from λh=>ht h.1),List.length_nil]
   split
   ·simp only[aS,aF,z4];omega
   ·simp only[aF];omega
theorem AB (ver:Int)(fx:Bool)(sf:SFs)(t:Tr):(bU ver fx sf t).length<=(Em sf+20)*t.wt:=by
 have h1:=ER ver fx sf 0 t
 have h2:=(sj fx (bH sf) (sTgd ver fx sf 0 t) t).2
 simp only[bU,ad]
 rw[bk]
 omega
def sQ (hf:Bool)(flexN most:Nat)(flex:Int)(fs:Fds)(sf:SFs):Bool:=nj fs&&(List.range (most+1)).all λv=>fitGFds (v:Int) (oT flex (v:Int)) fs sf&&((hf&&decide ((flexN:Int)<=(v:Int)))==oT flex (v:Int))
theorem Dx {hf:Bool}{flexN most:Nat}{flex:Int}{fs:Fds}{sf:SFs}(h:sQ hf flexN most flex fs sf=true){v:Nat}(hv:v<=most):(fitGFds (v:Int) (oT flex (v:Int)) fs sf&&nj fs)=true/\(hf&&decide ((flexN:Int)<=(v:Int)))=oT flex (v:Int):=by
 simp only[sQ,ac]at h
 have:=aT.1 h.2 v (by simp;omega)
 simp only[ac,ar]at this
 exact⟨by simp[this.1,h.1],this.2⟩
section
variable {P:Program} {S:SN} {N:LN} {gErr flexN:Nat} {hf:Bool} {fs:Fds} {most:Nat} {flex:Int} {sf:SFs}
def Ik (most:Nat)(fs:Fds):Bool:=cutFds fs&&(List.range (most+1)).all λv=>FR (v:Int) fs
theorem cut_lawG (L:LawC P S N gErr most flex sf (λx l=>againOut false hf flexN fs x l) (okInL hf flexN fs most))(KC:(sQ hf flexN most flex fs sf&&Ik most fs)=true)(hU:(S.tU16 != 999999)=true){f:Nat}(hfn:FnIs P f 56 [6] (cLcu S N)){x0 x2:Nat}(hx:x0<256)(hx2:x2<65536){W:World}{k:Nat}{cs:List Value}{t:Tr}(ht:TrRp W k cs t)(herr:ErrAt gErr W)
  (IT:∀ v:Nat,(bU (v:Int) (oT flex (v:Int)) sf t).length<r5):Calls P f [.int .u8 (x0:Int),.agg cs.toArray,.int .u16 (x2:Int)].toArray W (TrueC W):=by
 simp only[ac,Ik]at KC
 obtain⟨KC,MS,Xb⟩:=KC
 have hv:x0%(most+1)<=most:=by have:=Nat.mod_lt x0 (show 0<most+1 by omega);omega
 have hh:=aT.1 Xb (x0%(most+1)) (by simp;omega)
 obtain⟨h1,h2⟩:=Dx KC hv
 have hl:=IT (x0%(most+1))
 have M7:(bU ((x0%(most+1):Nat):Int) (oT flex ((x0%(most+1):Nat):Int)) sf t).length<=fq:=by simp only[r5]at hl;simp only[fq];omega
 have ha:=wX h2 h1 t hl
 refine ze L (by simpa using hU) hfn hx hx2 ht herr rfl M7 ⟨⟨_,hv,rfl⟩,M7,?_,λbs MY=>?_⟩ ha λj hj=>?_
 ·obtain⟨v,nl,e,_⟩:=qk h2 h1 t hl
  rw[e]
  intro hh
  cases hh
 ·rw[ha]at MY
  rw[<- au MY]
  exact M7
 ·obtain⟨c1,c2⟩:=Cd h2 h1 MS hh t hl j hj
  refine⟨⟨⟨_,hv,rfl⟩,by rw[aG];omega,c1,λbs MY=>?_⟩,c2⟩
  rw[c2]at MY
  cases MY
theorem k_limG {sf:SFs}(h:decide ((Em sf+20)*1048576<r5)=true){t:Tr}(hw:t.wt<=1048576)(ver:Int)(fx:Bool):(bU ver fx sf t).length<r5:=
 Nat.lt_of_le_of_lt (AB ver fx sf t) (Nat.lt_of_le_of_lt (Nat.mul_le_mul_left _ hw) (of_decide_eq_true h))
end
