/-
  PLAIN LAWS AND CONTRACTS of messages, part 6.
-/
import Derived.Test.YtpoeajgpacfpoaaGreatDoorK4
import Derived.Laws.IdiomStrings

namespace Go.Proofs.YtpoeajgpacfpoaaGreatDoor.Kx
open Go
structure Kn where
 tRS:Nat
 tSl:Nat
 tB:Nat
 tInt:Nat
 tU8:Nat
 tI8:Nat
 tI16:Nat
 tU16:Nat
 tI32:Nat
 tU32:Nat
 tI64:Nat
 tU64:Nat
 tStr:Nat
 tUuid:Nat
 tBE:Nat
 tErr:Nat
 gBE:Nat
 gErr:Nat
 fU16:Nat
 fU32:Nat
 fU64:Nat
 fUv:Nat
 fR64:Nat
def gW (K:Kn)(s n:Nat):List Oper:=[mk (some n) (.move (tm s)),mk (some (n+1)) (.nilCheck (tm n)),mk (some (n+2)) (.fieldAddr K.tRS (tm (n+1)) 0),mk (some (n+3)) (.load K.tSl (tm (n+2)))]
def y9 (K:Kn)(k:Nat)(A B:GC):GC:=dM 5 6 (fun n=>gW K 0 n++[bi (some (n+4)) .len [tm (n+3)] [K.tSl] K.tInt,mk (some (n+5)) (.binOp .lss K.tInt (tm (n+4)) (ki .i64 k) 0)]) A B
def qj (K:Kn)(s:Nat)(z:Value):GC:=gS [ay 3 fun n=>[mk (some n) (.move (tm 0)),mk (some (n+1)) (.nilCheck (tm n)),mk (some (n+2)) (.fieldAddr K.tRS (tm (n+1)) 1),mk none (.store K.tB (tm (n+2)) (.const (.bool true)))],
 ay 3 fun n=>[mk (some n) (.move (tm 0)),mk (some (n+1)) (.nilCheck (tm n)),mk (some (n+2)) (.fieldAddr K.tRS (tm (n+1)) 0),mk none (.store K.tSl (tm (n+2)) (.const (.slice none 0 0)))],aR s z,aS .ret]
def rn (K:Kn)(z:Value):GC:=qj K 2 z
def As (K:Kn)(k:Nat):GC:=ay 8 fun n=>mk (some n) (.move (tm 0))::(gW K 0 (n+1)++[mk (some (n+5)) (.slice K.tSl (tm (n+4)) (some (ki .i64 k)) none none),mk (some (n+6)) (.nilCheck (tm n)),mk (some (n+7)) (.fieldAddr K.tRS (tm (n+6)) 0),mk none (.store K.tSl (tm (n+7)) (tm (n+5)))])
def mw (K:Kn)(l:Nat):GC:=ay 9 fun n=>mk (some n) (.move (tm 0))::(gW K 0 (n+1)++[mk (some (n+5)) (.move (tm l)),mk (some (n+6)) (.slice K.tSl (tm (n+4)) (some (tm (n+5))) none none),mk (some (n+7)) (.nilCheck (tm n)),mk (some (n+8)) (.fieldAddr K.tRS (tm (n+7)) 0),mk none (.store K.tSl (tm (n+8)) (tm (n+6)))])
structure KT (P:Program)(g:G)(K:Kn):Prop where
 mixed:P.follows .mixedOrders=true
 f0:bw P K.tRS 0 K.tSl 0 false 1
 f1:bw P K.tRS 1 K.tB 1 false 1
 sl:P.underlying K.tSl=some (.slice K.tU8)
 u8:bc P K.tU8 false 1
 dU8:P.underlying K.tU8=some (.int .u8)
 dI8:b7 K.tI8=true->P.underlying K.tI8=some (.int .i8)
 dI16:P.underlying K.tI16=some (.int .i16)
 dI32:P.underlying K.tI32=some (.int .i32)
 dU32:P.underlying K.tU32=some (.int .u32)
 dInt:P.underlying K.tInt=some (.int .i64)
section
variable {P:Program} {g:G} {K:Kn} {T S R:Nat} {r:RS} {x n:Nat} {KK:Act->World->Prop} {Q:Exit->Act->World->Prop} {a:Act} {w:World}
def zt (w:World)(T S R:Nat)(v:Value)(r:RS):Prop:=w.heap[R]?=some (.cells #[v,.bool r.bad] T (0,0))/\bD w S v r
theorem bD.len {v:Value}(h:bD w S v r):∃ base c,v=.slice base r.src.length c/\(base=none->r.src=[]/\c=0/\r.nl=true)/\r.src.length<=c/\c<=maxLen/\∀ b,base=some b->∃ o,b=⟨S,o,none⟩/\r.nl=false/\S<w.heap.size/\ez w S o r.src:=by
 rcases h with⟨h1,h2,h3⟩|⟨o,c,h1,h2,h3,h4,h5,h6⟩
 ·exact⟨none,0,by rw[h1,h2];rfl,fun _=>⟨h2,rfl,h3⟩,by rw[h2];simp,by simp,fun b hb=>(by cases hb)⟩
 ·exact⟨some ⟨S,o,none⟩,c,h1,fun h=>(by cases h),h3,h4,fun b hb=>(by cases hb;exact⟨o,rfl,h2,h5,h6⟩)⟩
theorem iP (kt:KT P g K){ops:Array Oper}{l:List Oper}{s:Nat}{v:Value}(hs:a.get s=pt R 0)(hR:zt w T S R v r)(hn:n+4<=a.tmps.size)(h:∀ a',Pv n 0 0 n a a'->a'.get (n+3)=v->wpList P ops Q l a' w):wpList P ops Q (gW K s n++l) a w:=by
 have hc:w.cell? ⟨R,0+0,none⟩=some v:=by simp[World.cell?,hR.1]
 show wpList P ops Q (mk (some n) (.move (tm s))::mk (some (n+1)) (.nilCheck (tm n))::mk (some (n+2)) (.fieldAddr K.tRS (tm (n+1)) 0)::mk (some (n+3)) (.load K.tSl (tm (n+2)))::l) a w
 refine ah ?_
 rw[aa,hs]
 refine aG (by rw[aa,ao (by omega)];rfl) ?_
 refine bN (by rw[aa,ao (by simp only[ab];omega)]) kt.f0 ?_
 refine bg (by rw[aa,ao (by simp only[ab];omega)]) (kt.f0.var.agg _) hc ?_
 exact h _ (((((Pv.refl _ _ _ _ _).put _ (by omega)).put _ (by omega)).put _ (by omega)).put _ (by omega)) (ao (by simp only[ab];omega))
theorem Aq (kt:KT P g K){v:Value}{k:Nat}{A B:GC}(h0:a.get 0=pt R 0)(hR:zt w T S R v r)(hn:n+6<=a.tmps.size)
  (h:∀ a',Pv n 0 0 n a a'->if r.src.length<k then aK P (A (n+6)).1 Q a' w else aK P (B (A (n+6)).2).1 Q a' w):aK P (y9 K k A B n).1 Q a w:=by
 obtain⟨base,c,hv,_⟩:=hR.2.len
 subst hv
 have key:∀ (b:Bool) (K':Act->World->Prop),b=decide ((r.src.length:Int)<(k:Int))->(∀ a',a'.eval (tm (n+5))=.bool b->Pv n 0 0 n a a'->K' a' w) ->
   wpList P (gW K 0 n++[bi (some (n+4)) .len [tm (n+3)] [K.tSl] K.tInt,mk (some (n+5)) (.binOp .lss K.tInt (tm (n+4)) (ki .i64 k) 0)]).toArray (Exit.then K' Q) (gW K 0 n++[bi (some (n+4)) .len [tm (n+3)] [K.tSl] K.tInt,mk (some (n+5)) (.binOp .lss K.tInt (tm (n+4)) (ki .i64 k) 0)]) a w:=by
  intro b K' hb hK
  refine iP kt h0 hR (by omega) fun a1 HX Ig=>?_
  have If:=HX.size
  refine dV (by rw[aa,Ig]) kt.sl ?_
  refine bk (b:=b) (p:=(r.src.length:Int)) (q:=k) (k:=.i64) (by rw[aa,ao (by omega)]) rfl (.inr (.inr (.inl ⟨rfl,hb⟩))) (wpList_nil (hK _ (by rw[aa,ao (by simp only[ab];omega)]) ((HX.put _ (by omega)).put _ (by omega))))
 by_cases Id:r.src.length<k
 ·refine cL (key true _ (by simp;omega) fun a' he hp=>⟨he,?_⟩)
  have:=h a' hp
  rwa [if_pos Id]at this
 ·refine cD (key false _ (by simp;omega) fun a' he hp=>⟨he,?_⟩)
  have:=h a' hp
  rwa [if_neg Id]at this
theorem rl (kt:KT P g K){v z:Value}{E:Act->World->Prop}{N:Act->World->Prop}(h0:a.get 0=pt R 0)(hR:zt w T S R v r)(_hRS:S≠R)(hn:n+6<=a.tmps.size){s:Nat}(Uh:s<n)
  (h:∀ a' w',a'.defers=a.defers->a'.get s=z->cy w' T S R .fail->ac (·=R) w w'->E a' w'):aK P (qj K s z n).1 (Rt N E) a w:=by
 refine aY (ad (aq (ah ?_)))
 rw[aa,h0]
 refine aG (by rw[aa,ao (by omega)];rfl) ?_
 refine bN (by rw[aa,ao (by simp only[ab];omega)]) kt.f1 ?_
 refine bm (cur:=#[v,.bool r.bad]) (t:=T) (v:=.bool true) (vs:=[.bool true]) (by rw[aa,ao (by simp only[ab];omega)]) rfl rfl (kt.f1.var.size _) hR.1 (by simp) (fun u hu=>by simp at hu;rw[hu];rfl) (wpList_nil ?_)
 have e1:aD #[v,.bool r.bad] (0+1) [.bool true]=#[v,.bool true]:=by simp[aD]
 rw[e1]
 have HX:Pv n 0 0 n a (((a.put (some n) (pt R 0)).put (some (n+1)) (.pointer (some ⟨R,0,none⟩))).put (some (n+2)) (.pointer (some ⟨R,0+1,none⟩))):=(((Pv.refl _ _ _ _ _).put _ (by omega)).put _ (by omega)).put _ (by omega)
 generalize((a.put (some n) (pt R 0)).put (some (n+1)) (.pointer (some ⟨R,0,none⟩))).put (some (n+2)) (.pointer (some ⟨R,0+1,none⟩))=a1 at HX ⊢
 have If:=HX.size
 have Ly:(w.setRow R #[v,.bool true]).heap[R]?=some (.cells #[v,.bool true] T (0,0)):=setRow_heap _ _ _ _ _ _ hR.1
 rw[show(ay 3 (fun n=>[mk (some n) (.move (tm 0)),mk (some (n+1)) (.nilCheck (tm n)),mk (some (n+2)) (.fieldAddr K.tRS (tm (n+1)) 1),mk none (.store K.tB (tm (n+2)) (.const (.bool true)))]) n).2=n+3 from rfl]
 refine ad (aq (ah ?_))
 rw[aa,HX.get 0 (by omega) (.inr ⟨by omega,by omega⟩),h0]
 refine aG (by rw[aa,ao (by omega)];rfl) ?_
 refine bN (by rw[aa,ao (by simp only[ab];omega)]) kt.f0 ?_
 refine bm (cur:=#[v,.bool true]) (t:=T) (v:=.slice none 0 0) (vs:=[.slice none 0 0]) (by rw[aa,ao (by simp only[ab];omega)]) rfl rfl (kt.f0.var.size _) Ly (by simp) (fun u hu=>by simp at hu;rw[hu];rfl) (wpList_nil ?_)
 have e2:aD #[v,.bool true] (0+0) [.slice none 0 0]=#[.slice none 0 0,.bool true]:=by simp[aD]
 rw[e2]
 refine ad (cV (x:=s) (m:=0) (k0:=0) (.inl rfl) (by simp only[ab];omega) fun a2 HZ Ij=>?_)
 refine ad (.ret (h a2 _ ?_ Ij ?_ ?_))
 ·rw[HZ.defers];simp only[aj];exact HX.defers
 ·exact⟨.slice none 0 0,setRow_heap _ _ _ _ _ _ Ly,.inl ⟨rfl,rfl,rfl⟩⟩
 ·exact(ac.setRow (fun k=>k=R) _ _ _ rfl).trans (ac.setRow (fun k=>k=R) _ _ _ rfl)
theorem sX (kt:KT P g K){v z:Value}{E:Act->World->Prop}{N:Act->World->Prop}(h0:a.get 0=pt R 0)(hR:zt w T S R v r)(hRS:S≠R)(hn:n+6<=a.tmps.size)(Uh:2<n)
  (h:∀ a' w',a'.defers=a.defers->a'.get 2=z->cy w' T S R .fail->ac (·=R) w w'->E a' w'):aK P (rn K z n).1 (Rt N E) a w:=rl kt h0 hR hRS hn Uh h
def fY (v:Value)(k:Nat):Value:=
 match v with
 | .slice base n c=>.slice (if c=k then base else base.map (·.add k)) (n-k) (c-k)
 | v=>v
theorem bD.cut {v:Value}{k:Nat}(h:bD w S v r)(hk:k<=r.src.length):bD w S (fY v k) ⟨r.src.drop k,r.bad,r.nl⟩:=by
 rcases h with⟨h1,h2,h3⟩|⟨o,c,h1,h2,h3,h4,h5,h6⟩
 ·have:k=0:=by rw[h2]at hk;simpa using hk
  subst this
  refine .inl ⟨by rw[h1];rfl,by simp[h2],h3⟩
 ·subst h1
  by_cases hc:c=k
  ·refine .inr ⟨o,c-k,?_,h2,by simp;omega,by omega,h5,?_⟩
   ·simp[fY,hc]
   ·have:r.src.length=k:=by omega
    intro i x hi
    simp[this]at hi
  ·refine .inr ⟨o+k,c-k,?_,h2,by simp;omega,by omega,h5,fun i x hi=>?_⟩
   ·simp[fY,hc,Addr.add_lit]
   ·have:=h6 (k+i) x (by simpa using hi)
    rwa [<- Nat.add_assoc]at this
theorem mX (kt:KT P g K){ops:Array Oper}{l:List Oper}{d:Option Nat}{y lo:Operand}{v:Value}{k:Nat}(hy:a.eval y=v)(hv:bD w S v r)(Jk:a.eval lo=.int .i64 k)(hk:k<=r.src.length)
  (h:wpList P ops Q l (a.put d (fY v k)) w):wpList P ops Q (mk d (.slice K.tSl y (some lo) none none)::l) a w:=by
 refine aB ?_ h
 obtain⟨base,c,LH,Wg,M8,Kt,hb⟩:=hv.len
 subst LH
 have hs:=kt.u8.size w
 have Ir:k<=c:=by omega
 have Jo:¬ ((k:Int)<0):=by omega
 simp[execOp,mk,hy,Jk,Instr.sliceAt,Instr.slice,run_underlying kt.sl,Instr.sliceBounds,Instr.sliceBound,asIntOf,hs,hk,fY]
theorem GF (kt:KT P g K){v:Value}{k:Nat}(h0:a.get 0=pt R 0)(hR:zt w T S R v r)(hk:k<=r.src.length)(hRS:S≠R)(hn:n+8<=a.tmps.size)(h0n:0<n)
  (h:∀ a',Pv n 0 0 n a a'->cy (w.setRow R #[fY v k,.bool r.bad]) T S R ⟨r.src.drop k,r.bad,r.nl⟩->KK a' (w.setRow R #[fY v k,.bool r.bad])):aK P (As K k n).1 (Exit.then KK Q) a w:=by
 refine aq (ah ?_)
 rw[aa,h0]
 refine iP kt (v:=v) (by rw[al (by omega)];exact h0) hR (by simp only[ab];omega) fun a1 HX Ig=>?_
 have If:=HX.size
 rw[ab]at If
 have Oh:a1.get n=pt R 0:=by rw[HX.get n (by omega) (.inr ⟨by omega,by omega⟩),ao (by omega)]
 have Kz:Pv n 0 0 n a a1:=((Pv.refl n 0 0 n a).put (pt R 0) (by omega)).trans ⟨HX.size,HX.defers,fun s hs hh=>HX.get s (by omega) (.inr ⟨by omega,by omega⟩)⟩
 refine mX kt (k:=k) (by rw[aa];exact Ig) hR.2 rfl hk ?_
 refine aG (by rw[aa,al (by omega),Oh];rfl) ?_
 refine bN (by rw[aa,ao (by simp only[ab];omega)]) kt.f0 ?_
 obtain⟨WH,WF⟩:=jE (hR.2.cut hk)
 refine bm (cur:=#[v,.bool r.bad]) (t:=T) (v:=fY v k) (vs:=[fY v k]) (by rw[aa,ao (by simp only[ab];omega)]) (by rw[aa,al (by omega),al (by omega),ao (by omega)]) (by rw[WF]) (kt.f0.var.size _) hR.1 (by simp)
  (fun u hu=>by simp at hu;rw[hu];exact WH) (wpList_nil ?_)
 have e1:aD #[v,.bool r.bad] (0+0) [fY v k]=#[fY v k,.bool r.bad]:=by simp[aD]
 rw[e1]
 refine h _ (((Kz.put _ (by omega)).put _ (by omega)).put _ (by omega)) ⟨_,setRow_heap _ _ _ _ _ _ hR.1,(hR.2.cut hk).keep (ac.setRow (fun k=>k=R) _ _ _ rfl) hRS⟩
end
section
variable {P:Program} {g:G} {K:Kn} {T S R:Nat} {r:RS} {x n:Nat} {KK:Act->World->Prop} {Q:Exit->Act->World->Prop} {a:Act} {w:World}
theorem k7 (I:World->Prop):∀ (l1 l2:List Oper) (a:Act) (K':Act->Prop),eT P I l1 a (fun a'=>eT P I l2 a' K')->eT P I (l1++l2) a K'
 | [],_,_,_,h=>h
 | _::l1,l2,_a,K',⟨v,h1,h2⟩=>⟨v,h1,k7 I l1 l2 _ K' h2⟩
theorem fq {I:World->Prop}{d:Nat}{y:Operand}{l:List Oper}{K':Act->Prop}(h:eT P I l (a.put (some d) (a.eval y)) K'):eT P I (mk (some d) (.move y)::l) a K':=⟨_,fun _ _=>rfl,h⟩
theorem m3 {I:World->Prop}{d:Nat}{y:Operand}{p:Addr}{l:List Oper}{K':Act->Prop}(hy:a.eval y=.pointer (some p))(h:eT P I l (a.put (some d) (.pointer (some p))) K'):eT P I (mk (some d) (.nilCheck y)::l) a K':=
 ⟨_,fun w _=>by simp[execOp,mk,hy],h⟩
theorem tl {I:World->Prop}{d:Nat}{y:Operand}{F TT k B O off sz:Nat}{agg:Bool}{l:List Oper}{K':Act->Prop}(hy:a.eval y=.pointer (some ⟨B,O,none⟩))(hF:bw P TT k F off agg sz)
  (h:eT P I l (a.put (some d) (.pointer (some ⟨B,O+off,none⟩))) K'):eT P I (mk (some d) (.fieldAddr TT y k)::l) a K':=by
 obtain⟨fs,f,h1,h2,h3,h4⟩:=hF.fld
 obtain⟨q,rfl⟩:∃ q,sz=q+1:=⟨sz-1,by have:=hF.pos;omega⟩
 have Ii:∀ w,(sizeOf f.type).run P w=.ok (q+1) w:=fun w=>by rw[h4];exact hF.var.size w
 exact⟨_,fun w _=>by simp[execOp,mk,hy,Instr.fieldAt,run_underlying h1,h2,h3,fieldPlace,Ii,Instr.sureAddr,Addr.add_lit],h⟩
theorem eL {I:World->Prop}{d:Nat}{y:Operand}{F:Nat}{p:Addr}{v:Value}{l:List Oper}{K':Act->Prop}(hy:a.eval y=.pointer (some p))(hF:∀ w,(isAgg F).run P w=.ok false w)(hv:∀ w,I w->w.cell? p=some v)
  (h:eT P I l (a.put (some d) v) K'):eT P I (mk (some d) (.load F y)::l) a K':=
 ⟨_,fun w hI=>by simp[execOp,mk,hy,Instr.loadAt,Instr.sureAddr,loadVar,hF,load,hv w hI,Sem.run],h⟩
theorem gQ {I:World->Prop}{d:Nat}{y z:Operand}{F E' b o m c i sz:Nat}{k:IntKind}{l:List Oper}{K':Act->Prop}(hy:a.eval y=.slice (some ⟨b,o,none⟩) m c)(hz:a.eval z=.int k i)(hi:i<m)(hF:P.underlying F=some (.slice E'))
  (hs:∀ w,(sizeOf E').run P w=.ok sz w) (h:eT P I l (a.put (some d) (.pointer (some ⟨b,o+i*sz,none⟩))) K'):eT P I (mk (some d) (.indexAddr F y z)::l) a K':=
 ⟨_,fun w _=>by simp[execOp,mk,hy,hz,Instr.indexAt,asIntOf,run_underlying hF,hs,hi,Addr.add_lit],h⟩
theorem qo {I:World->Prop}{d:Nat}{y:Operand}{A B:Nat}{k k':IntKind}{m:Int}{l:List Oper}{K':Act->Prop}(hy:a.eval y=.int k m)(hA:P.underlying A=some (.int k))(hB:P.underlying B=some (.int k'))
  (h:eT P I l (a.put (some d) (.int k' (k'.wrap m))) K'):eT P I (mk (some d) (.convert A B y)::l) a K':=
 ⟨_,fun w _=>by simp[execOp,mk,hy,convert,run_underlying hA,run_underlying hB,Conv.intToInt],h⟩
theorem oh {I:World->Prop}{d:Nat}{op:BinOp}{A:Nat}{y z:Operand}{k k2:IntKind}{m m2:Int}{v:Value}{l:List Oper}{K':Act->Prop}(hy:a.eval y=.int k m)(hz:a.eval z=.int k2 m2)
  (O6:∀ w,(binOp op A (.int k m) (.int k2 m2)).run P w=.ok v w) (h:eT P I l (a.put (some d) v) K'):eT P I (mk (some d) (.binOp op A y z 0)::l) a K':=by
 refine⟨v,fun w _=>?_,h⟩
 have he:(eqGuard op A y z (.int k m) (.int k2 m2)).run P w=.ok () w:=by
  unfold eqGuard
  cases op<;>simp
 simp only[execOp,mk,hy,hz,Sem.run_bind,he,Result.andThen_ok,O6,Sem.run_pure]
def uk (k:IntKind):Prop:=k=.u16 \/ k=.u32 \/ k=.u64
theorem fI {k:IntKind}(hk:uk k){m:Nat}(h:m<2^k.bits):k.wrap (m:Int)=m:=by
 rcases hk with rfl|rfl|rfl<;>simp[IntKind.wrap,IntKind.bits,IntKind.signed]at h ⊢<;>omega
theorem ut {k:IntKind}(hk:uk k){A:Nat}{b s:Nat}(hb:b<256)(hs:s+8<=k.bits)(w:World):(binOp .shl A (.int k (b:Int)) (.int .u64 (s:Int))).run P w=.ok (.int k ((b*2^s:Nat):Int)) w:=by
 have h1:¬ ((s:Int)<0):=by omega
 have h2:min s k.bits=s:=by omega
 have h3:b*2^s<2^k.bits:=by
  have:2^(s+8)<=2^k.bits:=Nat.pow_le_pow_right (by omega) hs
  rw[Nat.pow_add]at this
  have h4:b*2^s<2^s*2^8:=by
   rw[Nat.mul_comm]
   exact Nat.mul_lt_mul_of_pos_left (by omega) (Nat.two_pow_pos s)
  omega
 have h5:((b:Int)*2^s)=((b*2^s:Nat):Int):=by simp
 simp only[binOp,Op.shift,h1,if_false,Int.toNat_natCast,h2,h5,fI hk h3,Sem.run_pure]
theorem xI {k:IntKind}(hk:uk k){A:Nat}{acc b s:Nat}(ha:acc<2^s)(hb:b<256)(hs:s+8<=k.bits)(w:World):(binOp .or A (.int k (acc:Int)) (.int k ((b*2^s:Nat):Int))).run P w=.ok (.int k ((b*2^s+acc:Nat):Int)) w:=by
 have hp:2^(s+8)<=2^k.bits:=Nat.pow_le_pow_right (by omega) hs
 rw[Nat.pow_add]at hp
 have h4:b*2^s+2^s<=2^s*2^8:=by
  have:(b+1)*2^s<=256*2^s:=Nat.mul_le_mul_right _ (by omega)
  rw[Nat.add_mul,Nat.one_mul]at this
  omega
 have h3:b*2^s+acc<2^k.bits:=by omega
 have e1:BitVec.ofInt k.bits (acc:Int)=BitVec.ofNat k.bits acc:=by simp
 have e2:BitVec.ofInt k.bits ((b*2^s:Nat):Int)=BitVec.ofNat k.bits (b*2^s):=BitVec.ofInt_natCast ..
 have e3:acc ||| b*2^s=b*2^s+acc:=by
  rw[Nat.or_comm,Nat.mul_comm,<- Nat.two_pow_add_eq_or_of_lt ha]
 have e4:(BitVec.ofNat k.bits acc ||| BitVec.ofNat k.bits (b*2^s)).toNat=b*2^s+acc:=by
  rw[BitVec.toNat_or,BitVec.toNat_ofNat,BitVec.toNat_ofNat,Nat.mod_eq_of_lt (by omega),Nat.mod_eq_of_lt (by omega),e3]
 have J0:(k≠k)=False:=by simp
 simp only[binOp,J0,if_false,Op.intBits,e1,e2,e4,fI hk h3,Sem.run_pure]
def zg (K:Kn)(tK n acc i s:Nat):List Oper:=[mk (some n) (.move (tm 1)),mk (some (n+1)) (.indexAddr K.tSl (tm n) (ki .i64 i)),mk (some (n+2)) (.load K.tU8 (tm (n+1))),mk (some (n+3)) (.convert K.tU8 tK (tm (n+2))),
 mk (some (n+4)) (.binOp .shl tK (tm (n+3)) (ki .u64 s) 0),mk (some (n+5)) (.binOp .or tK (tm acc) (tm (n+4)) 0)]
def lE (K:Kn)(tK k:Nat):Nat->Nat->Nat->List Oper
 | 0,_,_=>[]
 | m+1,j,n=>zg K tK n (n-1) (k-1-j) (8*j)++lE K tK k m (j+1) (n+6)
def jN (K:Kn)(tK k:Nat):List Oper:=[mk (some 8) (.move (tm 1)),mk (some 9) (.indexAddr K.tSl (tm 8) (ki .i64 ((k-1:Nat):Int))),mk (some 10) (.load K.tU8 (tm 9)),mk (some 11) (.convert K.tU8 tK (tm 10))]++lE K tK k (k-1) 1 12
def gBig (K:Kn)(tK:Nat)(kind:IntKind)(k:Nat):Code:=
 sq [rg [mk (some 2) (.box K.tBE (tm 0)),mk (some 4) (.assign (ki kind 0))],
  rg [mk (some 5) (.move (tm 1)),mk (some 6) (.indexAddr K.tSl (tm 5) (ki .i64 ((k-1:Nat):Int))),mk (some 7) (.load K.tU8 (tm 6))],
  .region 1 (jN K tK k++[mk (some 4) (.assign (tm (12+6*(k-1)-1)))]).toArray true,.ret]
theorem oK (b:UInt8)(l:Bs):cv (b::l)=b.toNat*256^l.length+cv l:=by
 have h:∀ (l:Bs) (a:Nat),l.foldl (fun a b=>a*256+b.toNat) a=a*256^l.length+l.foldl (fun a b=>a*256+b.toNat) 0:=by
  intro l
  induction l with
  | nil=>intro a;simp
  | cons b l ih=>
   intro a
   simp only[List.foldl_cons,List.length_cons]
   rw[ih,ih (0*256+b.toNat)]
   rw[Nat.pow_succ,Nat.add_mul,Nat.zero_mul,Nat.zero_add,Nat.mul_assoc,Nat.mul_comm 256 (256^l.length)]
   omega
 simp only[cv,List.foldl_cons]
 rw[h]
 simp
theorem tZ (l:Bs):cv l<256^l.length:=by
 induction l with
 | nil=>simp[cv]
 | cons b l ih=>
  rw[oK,List.length_cons,Nat.pow_succ]
  have:=UInt8.toNat_lt b
  have h:(b.toNat+1)*256^l.length<=256*256^l.length:=Nat.mul_le_mul_right _ (by omega)
  rw[Nat.add_mul,Nat.one_mul]at h
  omega
theorem r3 (kt:KT P g K){tK k:Nat}{kind:IntKind}(Jn:uk kind)(hK:P.underlying tK=some (.int kind)){I:World->Prop}{o len c:Nat}{src:Bs}(hI:∀ w,I w->ez w S o src)(Ib:len=src.length)(hk:k<=src.length)(hb:8*k<=kind.bits) :
  ∀ (m j n:Nat) (a:Act) (K':Act->Prop),m+j=k->1<=j->12<=n->n+6*m<=a.tmps.size->a.get 1=.slice (some ⟨S,o,none⟩) len c->a.get (n-1)=.int kind ((cv ((src.take k).drop (k-j)):Nat):Int) ->
   (∀ a',a'.tmps.size=a.tmps.size->a'.defers=a.defers->a'.get (n+6*m-1)=.int kind ((cv (src.take k):Nat):Int)->K' a')->eT P I (lE K tK k m j n) a K'
 | 0,j,n,a,K',hm,hj,hn,hs,h1,K6,h=>by
  have:j=k:=by omega
  subst this
  exact h a rfl rfl (by simpa using K6)
 | m+1,j,n,a,K',hm,hj,hn,hs,h1,K6,h=>by
  refine k7 I _ _ a K' ?_
  have Vw:k-1-j<src.length:=by omega
  obtain⟨b,JT⟩:∃ b,src[k-1-j]?=some b:=⟨src[k-1-j],by simp[Vw]⟩
  have NS:=UInt8.toNat_lt b
  have MH:IntKind.wrap kind (b.toNat:Int)=b.toNat:=fI Jn (by rcases Jn with rfl|rfl|rfl<;>simp[IntKind.bits]<;>omega)
  have Me:(src.take k).drop (k-(j+1))=b::(src.take k).drop (k-j):=by
   have e:k-(j+1)=k-1-j:=by omega
   have hl:k-1-j<(src.take k).length:=by simp;omega
   rw[e,List.drop_eq_getElem_cons hl]
   congr 1
   ·have:=(List.getElem?_eq_some_iff.1 JT).2
    simpa using this
   ·congr 1
    omega
  have M7:((src.take k).drop (k-j)).length=j:=by simp;omega
  have Q2:cv ((src.take k).drop (k-j))<2^(8*j):=by
   have:=tZ ((src.take k).drop (k-j))
   rw[M7]at this
   have e:(256:Nat)^j=2^(8*j):=by rw[Nat.pow_mul]
   omega
  unfold zg
  refine fq ?_
  rw[aa,h1]
  refine gQ (i:=k-1-j) (k:=.i64) (sz:=1) (by rw[aa,ao (by omega)]) rfl (by omega) kt.sl (fun w=>kt.u8.size w) ?_
  refine eL (v:=.int .u8 (b.toNat:Int)) (by rw[aa,ao (by simp only[ab];omega)]) (fun w=>kt.u8.agg w) (fun w hw=>by rw[Nat.mul_one];exact hI w hw _ b JT) ?_
  refine qo (k:=.u8) (k':=kind) (m:=(b.toNat:Int)) (by rw[aa,ao (by simp only[ab];omega)]) kt.dU8 hK ?_
  rw[MH]
  refine oh (k:=kind) (k2:=.u64) (m:=(b.toNat:Int)) (m2:=((8*j:Nat):Int)) (by rw[aa,ao (by simp only[ab];omega)]) rfl (fun w=>ut Jn NS (by omega) w) ?_
  refine oh (k:=kind) (k2:=kind) (by rw[aa,al (by omega),al (by omega),al (by omega),al (by omega),al (by omega)];exact K6) (by rw[aa,ao (by simp only[ab];omega)])
   (fun w=>xI Jn Q2 NS (by omega) w) ?_
  show eT P I (lE K tK k m (j+1) (n+6)) _ K'
  refine r3 (c:=c) kt Jn hK hI Ib hk hb m (j+1) (n+6) _ K' (by omega) (by omega) (by omega) (by simp only[ab];omega) ?_ ?_ fun a' KY hd' I0=>h a' (by rw[KY];simp only[ab]) (by rw[hd'];simp only[aj]) (by rw[show n+6*(m+1)-1=n+6+6*m-1 by omega];exact I0)
  ·rw[al (by omega),al (by omega),al (by omega),al (by omega),al (by omega),al (by omega)];exact h1
  ·rw[show n+6-1=n+5 by omega,ao (by simp only[ab];omega),Me,oK,M7]
   have e:(256:Nat)^j=2^(8*j):=by rw[Nat.pow_mul]
   rw[e]
theorem A6 (kt:KT P g K){tK k:Nat}{kind:IntKind}(Jn:uk kind)(hK:P.underlying tK=some (.int kind)){I:World->Prop}{o len c:Nat}{src:Bs}(hI:∀ w,I w->ez w S o src)(Ib:len=src.length)(hk:k<=src.length)(Jo:0<k)(hb:8*k<=kind.bits)
  {K':Act->Prop} (hs:12+6*(k-1)<=a.tmps.size) (h1:a.get 1=.slice (some ⟨S,o,none⟩) len c)
  (h:∀ a',a'.tmps.size=a.tmps.size->a'.defers=a.defers->a'.get (12+6*(k-1)-1)=.int kind ((cv (src.take k):Nat):Int)->K' a'):eT P I (jN K tK k) a K':=by
 refine k7 I _ _ a K' ?_
 have Vw:k-1<src.length:=by omega
 obtain⟨b,JT⟩:∃ b,src[k-1]?=some b:=⟨src[k-1],by simp[Vw]⟩
 have NS:=UInt8.toNat_lt b
 have MH:IntKind.wrap kind (b.toNat:Int)=b.toNat:=fI Jn (by rcases Jn with rfl|rfl|rfl<;>simp[IntKind.bits]<;>omega)
 have Me:(src.take k).drop (k-1)=[b]:=by
  have hl:k-1<(src.take k).length:=by simp;omega
  rw[List.drop_eq_getElem_cons hl]
  congr 1
  ·have:=(List.getElem?_eq_some_iff.1 JT).2
   simpa using this
  ·apply List.drop_eq_nil_of_le
   simp
   omega
 refine fq ?_
 rw[aa,h1]
 refine gQ (i:=k-1) (k:=.i64) (sz:=1) (by rw[aa,ao (by omega)]) rfl (by omega) kt.sl (fun w=>kt.u8.size w) ?_
 refine eL (v:=.int .u8 (b.toNat:Int)) (by rw[aa,ao (by simp only[ab];omega)]) (fun w=>kt.u8.agg w) (fun w hw=>by rw[Nat.mul_one];exact hI w hw _ b JT) ?_
 refine qo (k:=.u8) (k':=kind) (m:=(b.toNat:Int)) (by rw[aa,ao (by simp only[ab];omega)]) kt.dU8 hK ?_
 rw[MH]
 show eT P I (lE K tK k (k-1) 1 12) _ K'
 refine r3 (c:=c) kt Jn hK hI Ib hk hb (k-1) 1 12 _ K' (by omega) (by omega) (by omega) (by simp only[ab];omega) ?_ ?_ fun a' KY hd' I0=>h a' (by rw[KY];simp only[ab]) (by rw[hd'];simp only[aj]) I0
 ·rw[al (by omega),al (by omega),al (by omega),al (by omega)];exact h1
 ·rw[show 12-1=11 from rfl,ao (by simp only[ab];omega),Me]
  simp[cv]
theorem pi (kt:KT P g K){f ntmps tK k:Nat}{kind:IntKind}(hfn:FnIs P f ntmps [4] (gBig K tK kind k))(Iv:12+6*(k-1)<=ntmps)(Jn:uk kind)(hK:P.underlying tK=some (.int kind))(Jo:0<k)(hb:8*k<=kind.bits)(_hbe:bc P K.tBE true 0)
  (RL:∃ fl,dq (jN K tK k++[mk (some 4) (.assign (tm (12+6*(k-1)-1)))])=fl/\cR (jN K tK k++[mk (some 4) (.assign (tm (12+6*(k-1)-1)))]) fl=jN K tK k/\bZ (jN K tK k++[mk (some 4) (.assign (tm (12+6*(k-1)-1)))]) fl=[mk (some 4) (.assign (tm (12+6*(k-1)-1)))])
  {v:Value} (J3:bD w S v r) (Ib:k<=r.src.length):Calls P f #[.agg #[],v] w fun e w'=>e=.returned (.int kind ((cv (r.src.take k):Nat):Int))/\ac (fun _=>False) w w':=by
 obtain⟨o,c,hv,Jj,M8,Kt,Wu,Jw⟩:∃ o c,v=.slice (some ⟨S,o,none⟩) r.src.length c/\r.nl=false/\r.src.length<=c/\c<=maxLen/\S<w.heap.size/\ez w S o r.src:=by
  rcases J3 with⟨_,h2,_⟩|h
  ·rw[h2]at Ib;simp at Ib;omega
  ·exact h
 subst hv
 refine hfn.calls kt.mixed (by simp) ?_
 have Ii:=ck #[.agg #[],.slice (some ⟨S,o,none⟩) r.src.length c] ntmps (by show 2<=ntmps;omega)
 have Jp:({ tmps:=#[.agg #[],.slice (some ⟨S,o,none⟩) r.src.length c]++Array.replicate (ntmps-(#[Value.agg #[],.slice (some ⟨S,o,none⟩) r.src.length c]:Array Value).size) undef,defers:=[] }:Act).get 0=.agg #[]:=by rw[b9 _ _ _ (by simp)];rfl
 have Ig:({ tmps:=#[.agg #[],.slice (some ⟨S,o,none⟩) r.src.length c]++Array.replicate (ntmps-(#[Value.agg #[],.slice (some ⟨S,o,none⟩) r.src.length c]:Array Value).size) undef,defers:=[] }:Act).get 1=.slice (some ⟨S,o,none⟩) r.src.length c:=by rw[b9 _ _ _ (by simp)];rfl
 have Kh:({ tmps:=#[.agg #[],.slice (some ⟨S,o,none⟩) r.src.length c]++Array.replicate (ntmps-(#[Value.agg #[],.slice (some ⟨S,o,none⟩) r.src.length c]:Array Value).size) undef,defers:=[] }:Act).defers=[]:=rfl
 have hsz':({ tmps:=#[.agg #[],.slice (some ⟨S,o,none⟩) r.src.length c]++Array.replicate (ntmps-(#[Value.agg #[],.slice (some ⟨S,o,none⟩) r.src.length c]:Array Value).size) undef,defers:=[] }:Act).tmps.size=ntmps:=Ii
 generalize({ tmps:=#[.agg #[],.slice (some ⟨S,o,none⟩) r.src.length c]++Array.replicate (ntmps-(#[Value.agg #[],.slice (some ⟨S,o,none⟩) r.src.length c]:Array Value).size) undef,defers:=[] }:Act)=a at Jp Ig Kh hsz' ⊢
 have Vs:k-1<r.src.length:=by omega
 obtain⟨b,JT⟩:∃ b,r.src[k-1]?=some b:=⟨r.src[k-1],by simp[Vs]⟩
 unfold gBig
 refine az (aq ?_)
 refine aB (v:=.pointer (some ⟨w.heap.size,0,none⟩)) (w':=w.alloc (.cells #[] K.tBE (0,0))) ?_ (ak (wpList_nil ?_))
 ·have:a.eval (tm 0)=.agg #[]:=Jp
  simp[execOp,mk,this,Instr.box,newVar,newRow,newObj,Sem.run,Value.cells]
 have Ir:ac (fun _=>False) w (w.alloc (.cells #[] K.tBE (0,0))):=ac.alloc _ _ _
 have If:((a.put (some 2) (.pointer (some ⟨w.heap.size,0,none⟩))).put (some 4) ((a.put (some 2) (.pointer (some ⟨w.heap.size,0,none⟩))).eval (ki kind 0))).tmps.size=ntmps:=by simp only[ab];exact hsz'
 have NK:((a.put (some 2) (.pointer (some ⟨w.heap.size,0,none⟩))).put (some 4) ((a.put (some 2) (.pointer (some ⟨w.heap.size,0,none⟩))).eval (ki kind 0))).get 1=.slice (some ⟨S,o,none⟩) r.src.length c:=by rw[al (by omega),al (by omega)];exact Ig
 have Ks:((a.put (some 2) (.pointer (some ⟨w.heap.size,0,none⟩))).put (some 4) ((a.put (some 2) (.pointer (some ⟨w.heap.size,0,none⟩))).eval (ki kind 0))).defers=[]:=by simp only[aj];exact Kh
 generalize((a.put (some 2) (.pointer (some ⟨w.heap.size,0,none⟩))).put (some 4) ((a.put (some 2) (.pointer (some ⟨w.heap.size,0,none⟩))).eval (ki kind 0)))=a1 at If NK Ks ⊢
 have N8:ez (w.alloc (.cells #[] K.tBE (0,0))) S o r.src:=Jw.keep Ir id
 generalize w.alloc (.cells #[] K.tBE (0,0))=w1 at Ir N8 ⊢
 refine az (aq (ah ?_))
 rw[aa,NK]
 refine bS (i:=k-1) (k:=.i64) (sz:=1) (by rw[aa,ao (by omega)]) rfl (by omega) kt.sl (kt.u8.size _) ?_
 refine bg (v:=.int .u8 (b.toNat:Int)) (by rw[aa,ao (by simp only[ab];omega)]) (kt.u8.agg _) (by rw[Nat.mul_one];exact N8 _ b JT) (wpList_nil ?_)
 have Iw:(((a1.put (some 5) (.slice (some ⟨S,o,none⟩) r.src.length c)).put (some 6) (.pointer (some ⟨S,o+(k-1)*1,none⟩))).put (some 7) (.int .u8 (b.toNat:Int))).tmps.size=ntmps:=by simp only[ab];exact If
 have Ij:(((a1.put (some 5) (.slice (some ⟨S,o,none⟩) r.src.length c)).put (some 6) (.pointer (some ⟨S,o+(k-1)*1,none⟩))).put (some 7) (.int .u8 (b.toNat:Int))).get 1=.slice (some ⟨S,o,none⟩) r.src.length c:=by rw[al (by omega),al (by omega),al (by omega)];exact NK
 have IG:(((a1.put (some 5) (.slice (some ⟨S,o,none⟩) r.src.length c)).put (some 6) (.pointer (some ⟨S,o+(k-1)*1,none⟩))).put (some 7) (.int .u8 (b.toNat:Int))).defers=[]:=by simp only[aj];exact Ks
 generalize(((a1.put (some 5) (.slice (some ⟨S,o,none⟩) r.src.length c)).put (some 6) (.pointer (some ⟨S,o+(k-1)*1,none⟩))).put (some 7) (.int .u8 (b.toNat:Int)))=a2 at Iw Ij IG ⊢
 obtain⟨fl,Lb,OB,MR⟩:=RL
 refine az (.drw (fun w'=>ez w' S o r.src) ?_)
 rw[Lb,OB,MR]
 refine A6 (c:=c) kt Jn hK (fun _ h=>h) rfl Ib Jo hb (by rw[Iw];exact Iv) Ij fun a3 IJ J9 I2=>?_
 have JW:ac (fun _=>False) w1 w1.drew:=ac.drew _ _
 have JN:ez w1.drew S o r.src:=N8.keep JW id
 refine⟨JN,?_⟩
 have hr:(execOp a3.eval (mk (some 4) (.assign (tm (12+6*(k-1)-1))))).run P w1.drew=.ok (.value (a3.eval (tm (12+6*(k-1)-1)))) w1.drew:=rfl
 unfold Oper.wp
 rw[hr]
 refine⟨JN,.ret ⟨?_,?_,Ir.trans JW⟩⟩
 ·show(a3.put (some 4) _).defers=[]
  rw[aj,J9];exact IG
 ·show Ending.returned (bj [4] (a3.put (some 4) (a3.eval (tm (12+6*(k-1)-1)))))=_
  simp only[bj]
  rw[ao (by omega),aa,I2]
end
def ru (K:Kn)(z:Value)(k:Nat)(Rd F:GC):Code:=(gS [aR 2 z,y9 K k (rn K z) bp,Rd,As K k,F,aS .ret] 4).1
def Bn (K:Kn):GC:=ay 6 fun n=>gW K 0 n++[mk (some (n+4)) (.indexAddr K.tSl (tm (n+3)) (ki .i64 0)),mk (some (n+5)) (.load K.tU8 (tm (n+4))),mk (some 3) (.assign (tm (n+5)))]
def yB (K:Kn):GC:=ay 7 fun n=>gW K 0 n++[mk (some (n+4)) (.indexAddr K.tSl (tm (n+3)) (ki .i64 0)),mk (some (n+5)) (.load K.tU8 (tm (n+4))),mk (some (n+6)) (.binOp .neq K.tU8 (tm (n+5)) (ki .u8 0) 0),mk (some 3) (.assign (tm (n+6)))]
def mM (K:Kn)(f:Nat)(conv:Option (Nat × Nat))(n:Nat):List Oper:=
 mk (some n) (.load K.tBE (.global K.gBE))::(gW K 0 (n+1)++(cl (some (n+5)) f [tm n,tm (n+4)] ::
  (match conv with|some (A,B)=>[mk (some (n+6)) (.convert A B (tm (n+5))),mk (some 3) (.assign (tm (n+6)))]|none=>[mk (some 3) (.assign (tm (n+5)))])))
def CO (K:Kn)(f:Nat)(conv:Option (Nat × Nat)):GC:=fun n=>(.region 1 (mM K f conv n).toArray true,n+(match conv with|some _=>7|none=>6))
def Bm (A B:Nat):GC:=ay 2 fun n=>[mk (some n) (.move (tm 3)),mk (some (n+1)) (.convert A B (tm n)),mk (some 2) (.assign (tm (n+1)))]
section
variable {P:Program} {g:G} {K:Kn} {T S R:Nat} {r:RS} {x n:Nat} {KK:Act->World->Prop} {Q:Exit->Act->World->Prop} {a:Act} {w:World}
def lG (T S R k:Nat)(r:RS)(w:World)(z fv:Value)(e:Ending)(w':World):Prop:=
 (if r.src.length<k then e=.returned z/\cy w' T S R .fail else e=.returned fv/\cy w' T S R ⟨r.src.drop k,r.bad,r.nl⟩)/\ac (·=R) w w'
theorem qh (kt:KT P g K){f ntmps kr k:Nat}{z rv fv:Value}{Rd F:GC}(hfn:FnIs P f ntmps [2] (ru K z k Rd F))(hRn:(Rd 16).2=16+kr)(Iv:16+kr+8<=ntmps)(hR:cy w T S R r)(hRS:S≠R)
  (hRd:k<=r.src.length->∀ (v:Value) (a:Act) (K':Act->World->Prop) (Q':Exit->Act->World->Prop),zt w T S R v r->a.get 0=pt R 0->a.tmps.size=ntmps->(∀ a' w',Pv 3 0 0 16 a a'->a'.get 3=rv->ac (fun _=>False) w w'->K' a' w')->aK P (Rd 16).1 (Exit.then K' Q') a w)
  (hF:k<=r.src.length->∀ (a:Act) (w':World) (K':Act->World->Prop) (Q':Exit->Act->World->Prop),a.get 3=rv->a.tmps.size=ntmps->(∀ a',a'.defers=a.defers->a'.get 2=fv->K' a' w')->aK P (F (16+kr+8)).1 (Exit.then K' Q') a w') :
  Calls P f #[pt R 0] w (lG T S R k r w z fv):=by
 refine hfn.calls kt.mixed (by simp) ?_
 have Ii:=ck #[pt R 0] ntmps (by show 1<=ntmps;omega)
 have Jp:({ tmps:=#[pt R 0]++Array.replicate (ntmps-(#[pt R 0]:Array Value).size) undef,defers:=[] }:Act).get 0=pt R 0:=by rw[b9 _ _ _ (by simp)];rfl
 have Kh:({ tmps:=#[pt R 0]++Array.replicate (ntmps-(#[pt R 0]:Array Value).size) undef,defers:=[] }:Act).defers=[]:=rfl
 have hsz':({ tmps:=#[pt R 0]++Array.replicate (ntmps-(#[pt R 0]:Array Value).size) undef,defers:=[] }:Act).tmps.size=ntmps:=Ii
 generalize({ tmps:=#[pt R 0]++Array.replicate (ntmps-(#[pt R 0]:Array Value).size) undef,defers:=[] }:Act)=a at Jp Kh hsz' ⊢
 obtain⟨v,hv⟩:=hR
 refine aY (ad (cV (x:=2) (m:=0) (k0:=0) (.inl rfl) (by omega) fun a1 HX Ig=>?_))
 have If:=HX.size
 have Sw:a1.get 0=pt R 0:=(HX.get 0 (by omega) (.inr ⟨by omega,by omega⟩)).trans Jp
 rw[show(aR 2 z 4).2=4 from rfl]
 refine ad ?_
 rw[aO]
 refine Aq kt Sw hv (by omega) fun a2 HZ=>?_
 have Iw:=HZ.size
 have Mw:a2.get 0=pt R 0:=(HZ.get 0 (by omega) (.inr ⟨by omega,by omega⟩)).trans Sw
 by_cases Id:r.src.length<k
 ·rw[if_pos Id]
  refine sX kt Mw hv hRS (by omega) (by omega) fun a3 w3 J9 I2 IT Il=>⟨by rw[J9,HZ.defers,HX.defers];exact Kh,?_⟩
  refine⟨?_,Il⟩
  rw[if_pos Id]
  exact⟨by simp only[bj];rw[I2],IT⟩
 ·rw[if_neg Id]
  have hk:k<=r.src.length:=by omega
  refine .skip ?_
  show LW P [Rd,As K k,F,aS .ret] 16 _ a2 w
  refine ad (hRd hk v a2 _ _ hv Mw (by omega) fun a3 w3 Ie I2 Il=>?_)
  have IJ:=Ie.size
  rw[hRn]
  have Nf:zt w3 T S R v r:=by
   have Ua:R<w.heap.size:=(Array.getElem?_eq_some_iff.1 hv.1).1
   exact⟨by rw[Il.block R Ua id];exact hv.1,hv.2.keep Il id⟩
  have JC:a3.get 0=pt R 0:=(Ie.get 0 (by omega) (.inr ⟨by omega,by omega⟩)).trans Mw
  refine ad (GF kt JC Nf hk hRS (by omega) (by omega) fun a4 Ix IS=>?_)
  have Kb:=Ix.size
  rw[show(As K k (16+kr)).2=16+kr+8 from rfl]
  refine ad (hF hk a4 _ _ _ ((Ix.get 3 (by omega) (.inr ⟨by omega,by omega⟩)).trans I2) (by omega) fun a5 MC Kg=>ad (.ret ?_))
  refine⟨by rw[MC,Ix.defers,Ie.defers,HZ.defers,HX.defers];exact Kh,?_,(Il.mono fun _ _ h=>h.elim).trans (ac.setRow (fun k=>k=R) _ _ _ rfl)⟩
  rw[if_neg Id]
  exact⟨by simp only[bj];rw[Kg],IS⟩
theorem nu {v:Value}(h:bD w S v r)(hk:0<r.src.length):∃ o c,v=.slice (some ⟨S,o,none⟩) r.src.length c/\ez w S o r.src:=by
 rcases h with⟨_,h2,_⟩|⟨o,c,h1,_,_,_,_,h6⟩
 ·rw[h2]at hk;simp at hk
 ·exact⟨o,c,h1,h6⟩
theorem CN (kt:KT P g K){_ntmps:Nat}{b:UInt8}{t:Bs}(hb:r.src=b::t){v:Value}(hv:zt w T S R v r)(h0:a.get 0=pt R 0)(hn:n+6<=a.tmps.size)(OS:3<n)
  (h:∀ a',Pv 3 0 0 n a a'->a'.get 3=.int .u8 (b.toNat:Int)->KK a' w):aK P (Bn K n).1 (Exit.then KK Q) a w:=by
 obtain⟨o,c,rfl,Jw⟩:=nu hv.2 (by rw[hb];simp)
 refine aq (iP kt h0 hv (by omega) fun a1 HX Ig=>?_)
 have If:=HX.size
 refine bS (i:=0) (k:=.i64) (sz:=1) (by rw[aa,Ig]) rfl (by rw[hb];simp) kt.sl (kt.u8.size _) ?_
 refine bg (v:=.int .u8 (b.toNat:Int)) (by rw[aa,ao (by omega)]) (kt.u8.agg _) (by have:=Jw 0 b (by rw[hb];rfl);simpa using this) (ak (wpList_nil ?_))
 rw[aa,ao (by simp only[ab];omega)]
 have hp:Pv 3 0 0 n a a1:=⟨HX.size,HX.defers,fun s hs hh=>HX.get s (by omega) (.inr ⟨by omega,by omega⟩)⟩
 exact h _ (((hp.put _ (by omega)).put _ (by omega)).put _ (by omega)) (ao (by simp only[ab];omega))
theorem Ar (kt:KT P g K){b:UInt8}{t:Bs}(hb:r.src=b::t){v:Value}(hv:zt w T S R v r)(h0:a.get 0=pt R 0)(hn:n+7<=a.tmps.size)(OS:3<n)
  (h:∀ a',Pv 3 0 0 n a a'->a'.get 3=.bool (decide ((b.toNat:Int)≠0))->KK a' w):aK P (yB K n).1 (Exit.then KK Q) a w:=by
 obtain⟨o,c,rfl,Jw⟩:=nu hv.2 (by rw[hb];simp)
 refine aq (iP kt h0 hv (by omega) fun a1 HX Ig=>?_)
 have If:=HX.size
 refine bS (i:=0) (k:=.i64) (sz:=1) (by rw[aa,Ig]) rfl (by rw[hb];simp) kt.sl (kt.u8.size _) ?_
 refine bg (v:=.int .u8 (b.toNat:Int)) (by rw[aa,ao (by omega)]) (kt.u8.agg _) (by have:=Jw 0 b (by rw[hb];rfl);simpa using this) ?_
 refine bk (b:=decide ((b.toNat:Int)≠0)) (p:=(b.toNat:Int)) (q:=0) (k:=.u8) (by rw[aa,ao (by simp only[ab];omega)]) rfl (.inr (.inr (.inr (.inr (.inr ⟨rfl,rfl⟩))))) (ak (wpList_nil ?_))
 rw[aa,ao (by simp only[ab];omega)]
 have hp:Pv 3 0 0 n a a1:=⟨HX.size,HX.defers,fun s hs hh=>HX.get s (by omega) (.inr ⟨by omega,by omega⟩)⟩
 exact h _ ((((hp.put _ (by omega)).put _ (by omega)).put _ (by omega)).put _ (by omega)) (ao (by simp only[ab];omega))
theorem CM {A B:Nat}{k k':IntKind}{m:Int}(hA:P.underlying A=some (.int k))(hB:P.underlying B=some (.int k'))(h3:a.get 3=.int k m)(hn:n+2<=a.tmps.size)(Uh:2<n)(h:∀ a',a'.defers=a.defers->a'.get 2=.int k' (k'.wrap m)->KK a' w):aK P (Bm A B n).1 (Exit.then KK Q) a w:=by
 refine aq (ah ?_)
 rw[aa,h3]
 refine aL (by rw[aa,ao (by omega)]) hA hB (ak (wpList_nil ?_))
 rw[aa,ao (by simp only[ab];omega)]
 exact h _ (by simp only[aj]) (ao (by simp only[ab];omega))
theorem E0 (kt:KT P g K){I:World->Prop}{s:Nat}{v:Value}{l:List Oper}{K':Act->Prop}(hs:a.get s=pt R 0)(hI:∀ w,I w->w.cell? ⟨R,0,none⟩=some v)(hn:n+4<=a.tmps.size)(h:∀ a',Pv n 0 0 n a a'->a'.get (n+3)=v->eT P I l a' K'):eT P I (gW K s n++l) a K':=by
 show eT P I (mk (some n) (.move (tm s))::mk (some (n+1)) (.nilCheck (tm n))::mk (some (n+2)) (.fieldAddr K.tRS (tm (n+1)) 0)::mk (some (n+3)) (.load K.tSl (tm (n+2)))::l) a K'
 refine fq ?_
 rw[aa,hs]
 refine m3 (by rw[aa,ao (by omega)];rfl) ?_
 refine tl (by rw[aa,ao (by simp only[ab];omega)]) kt.f0 ?_
 refine eL (by rw[aa,ao (by simp only[ab];omega)]) kt.f0.var.agg hI ?_
 exact h _ (((((Pv.refl _ _ _ _ _).put _ (by omega)).put _ (by omega)).put _ (by omega)).put _ (by omega)) (ao (by simp only[ab];omega))
theorem Bl (kt:KT P g K){f k:Nat}{kind:IntKind}{conv:Option (Nat × Nat)}{rv:Value}{v:Value}(SQ:bc P K.tBE true 0)(TM:Ent P f)(hf:∀ w':World,bD w' S v r->Calls P f #[.agg #[],v] w' fun e w''=>e=.returned (.int kind ((cv (r.src.take k):Nat):Int))/\ac (fun _=>False) w' w'')
  (Po:match conv with
   | some (A,B)=>∃ k',P.underlying A=some (.int kind)/\P.underlying B=some (.int k')/\rv=.int k' (k'.wrap ((cv (r.src.take k):Nat):Int))
   | none=>rv=.int kind ((cv (r.src.take k):Nat):Int))
  (hv:zt w T S R v r) (h0:a.get 0=pt R 0) (hn:16+7<=a.tmps.size)
  (h:∀ a' w',Pv 3 0 0 16 a a'->a'.get 3=rv->ac (fun _=>False) w w'->KK a' w'):aK P (CO K f conv 16).1 (Exit.then KK Q) a w:=by
 have S1:∃ fl,dq (mM K f conv 16)=fl/\cR (mM K f conv 16) fl=mk (some 16) (.load K.tBE (.global K.gBE))::(gW K 0 17++[])/\bZ (mM K f conv 16) fl=cl (some 21) f [tm 16,tm 20] ::
   (match conv with|some (A,B)=>[mk (some 22) (.convert A B (tm 21)),mk (some 3) (.assign (tm 22))]|none=>[mk (some 3) (.assign (tm 21))]):=by
  cases conv with
  | none=>exact⟨[false,false,false,false,false,true,true],rfl,rfl,rfl⟩
  | some q=>exact⟨[false,false,false,false,false,true,true,true],rfl,rfl,rfl⟩
 obtain⟨fl,h1,h2,h3⟩:=S1
 have Ia:w.cell? ⟨R,0,none⟩=some v:=by simp[World.cell?,hv.1]
 refine .drw (fun w'=>w'.cell? ⟨R,0,none⟩=some v) ?_
 rw[h1,h2,h3]
 refine⟨.agg #[],fun w' _=>?_,?_⟩
 ·have he:a.eval (.global K.gBE)=.pointer (some ⟨K.gBE,0,none⟩):=rfl
  have hl:=run_loadCells_list (P:=P) w' ⟨K.gBE,0,none⟩ [] (fun j v hj=>by simp at hj)
  simp only[List.length_nil]at hl
  simp[execOp,mk,he,Instr.loadAt,Instr.sureAddr,loadVar,SQ.agg,SQ.size,hl]
 ·show eT P _ (gW K 0 17++[]) (a.put (some 16) (.agg #[])) _
  have Pf:Pv 3 0 0 16 a (a.put (some 16) (.agg #[])):=(Pv.refl _ _ _ _ _).put _ (by omega)
  refine E0 kt (v:=v) (by rw[al (by omega)];exact h0) (fun _ h=>h) (by simp only[ab];omega) fun a1 HX Ig=>?_
  have If:=HX.size
  rw[ab]at If
  have VB:a1.get 16=.agg #[]:=by rw[HX.get 16 (by omega) (.inr ⟨by omega,by omega⟩),ao (by omega)]
  have Kz:Pv 3 0 0 16 a a1:=Pf.trans ⟨HX.size,HX.defers,fun s hs hh=>HX.get s (by omega) (.inr ⟨by omega,by omega⟩)⟩
  have JW:ac (fun _=>False) w w.drew:=ac.drew _ _
  refine⟨JW.cell id Ia,?_⟩
  refine fP (vs:=#[.agg #[],v]) rfl TM (by simp[aa,VB,Ig]) (hf w.drew (hv.2.keep JW id)) fun e w2 hR=>?_
  obtain⟨he,Ic⟩:=hR
  have IY:ac (fun _=>False) w w2:=JW.trans Ic
  refine⟨_,he,?_⟩
  cases conv with
  | none=>
   subst Po
   refine⟨IY.cell id Ia,?_⟩
   have hr:(execOp (a1.put (some 21) (.int kind ((cv (r.src.take k):Nat):Int))).eval (mk (some 3) (.assign (tm 21)))).run P w2=.ok (.value ((a1.put (some 21) (.int kind ((cv (r.src.take k):Nat):Int))).eval (tm 21))) w2:=rfl
   unfold Oper.wp
   rw[hr]
   refine⟨IY.cell id Ia,h _ w2 ((Kz.put _ (by omega)).put _ (by omega)) ?_ IY⟩
   show((a1.put (some 21) _).put (some 3) _).get 3=_
   rw[ao (by simp only[ab];omega),aa,ao (by omega)]
  | some q=>
   obtain⟨A,B⟩:=q
   obtain⟨k',hA,hB,rfl⟩:=Po
   refine⟨IY.cell id Ia,?_⟩
   have e21:(a1.put (some 21) (.int kind ((cv (r.src.take k):Nat):Int))).eval (tm 21)=.int kind ((cv (r.src.take k):Nat):Int):=by rw[aa,ao (by omega)]
   have hr:(execOp (a1.put (some 21) (.int kind ((cv (r.src.take k):Nat):Int))).eval (mk (some 22) (.convert A B (tm 21)))).run P w2=.ok (.value (.int k' (k'.wrap ((cv (r.src.take k):Nat):Int)))) w2:=by
    simp[execOp,mk,e21,convert,run_underlying hA,run_underlying hB,Conv.intToInt]
   unfold Oper.wp
   rw[hr]
   refine⟨IY.cell id Ia,?_⟩
   have Rx:(execOp ((a1.put (some 21) (.int kind ((cv (r.src.take k):Nat):Int))).put (some 22) (.int k' (k'.wrap ((cv (r.src.take k):Nat):Int)))).eval (mk (some 3) (.assign (tm 22)))).run P w2=.ok (.value (((a1.put (some 21) (.int kind ((cv (r.src.take k):Nat):Int))).put (some 22) (.int k' (k'.wrap ((cv (r.src.take k):Nat):Int)))).eval (tm 22))) w2:=rfl
   unfold Oper.wp
   show Oper.upon P _ _ _ _ _
   rw[show(mk (some 22) (Op.convert A B (tm 21))).dst=some 22 from rfl,Rx]
   refine⟨IY.cell id Ia,h _ w2 (((Kz.put _ (by omega)).put _ (by omega)).put _ (by omega)) ?_ IY⟩
   show(((a1.put (some 21) _).put (some 22) _).put (some 3) _).get 3=_
   rw[ao (by simp only[ab];omega),aa,ao (by simp only[ab];omega)]
end
def RdOk (P:Program)(T:Nat)(p:PF)(f:Nat):Prop:=
 Ent P f/\∀ (w:World) (S R:Nat) (r:RS),cy w T S R r->S≠R->Calls P f #[pt R 0] w fun e w'=>
  ∃ v,e=.returned v/\cy w' T S R (p.run r).2/\ac (·=R) w w'/\∀ X:Nat->Prop,(∀ k,X k->k<w.heap.size)->¬ X S->gT w' X (gK p) v.cells.toList (p.run r).1
theorem wL {k:IntKind}(hk:k=.i8 \/ k=.i16 \/ k=.i32 \/ k=.i64){m:Nat}(h:m<2^k.bits):k.wrap (m:Int)=kF k.bits m:=by
 rcases hk with rfl|rfl|rfl|rfl
 ·simp only[IntKind.bits]at h
  by_cases h2:m<128
  ·have e:¬ ((m:Int)%256 ≥ 128):=by omega
   simp[IntKind.wrap,IntKind.bits,IntKind.signed,kF,h2]
   omega
  ·simp[IntKind.wrap,IntKind.bits,IntKind.signed,kF,h2]
   omega
 ·simp only[IntKind.bits]at h
  by_cases h2:m<32768
  ·have e:¬ ((m:Int)%65536 ≥ 32768):=by omega
   simp[IntKind.wrap,IntKind.bits,IntKind.signed,kF,h2]
   omega
  ·simp[IntKind.wrap,IntKind.bits,IntKind.signed,kF,h2]
   omega
 ·simp only[IntKind.bits]at h
  by_cases h2:m<2147483648
  ·have e:¬ ((m:Int)%4294967296 ≥ 2147483648):=by omega
   simp[IntKind.wrap,IntKind.bits,IntKind.signed,kF,h2]
   omega
  ·simp[IntKind.wrap,IntKind.bits,IntKind.signed,kF,h2]
   omega
 ·simp only[IntKind.bits]at h
  by_cases h2:m<9223372036854775808
  ·have e:¬ ((m:Int)%18446744073709551616 ≥ 9223372036854775808):=by omega
   simp[IntKind.wrap,IntKind.bits,IntKind.signed,kF,h2]
   omega
  ·simp[IntKind.wrap,IntKind.bits,IntKind.signed,kF,h2]
   omega
section
variable {P:Program} {g:G} {K:Kn} {T:Nat}
def cI8 (K:Kn):Code:=ru K (.int .i8 0) 1 (Bn K) (Bm K.tU8 K.tI8)
def cBool (K:Kn):Code:=ru K (.bool false) 1 (yB K) (b6 3 2)
def cI16 (K:Kn):Code:=ru K (.int .i16 0) 2 (CO K K.fU16 (some (K.tU16,K.tI16))) (b6 3 2)
def cI32 (K:Kn):Code:=ru K (.int .i32 0) 4 (CO K K.fU32 (some (K.tU32,K.tI32))) (b6 3 2)
theorem sW {rv:Value}{a:Act}{w:World}{n:Nat}{KK:Act->World->Prop}{Q:Exit->Act->World->Prop}(h3:a.get 3=rv)(hn:n+1<=a.tmps.size)(Uh:2<n)(h:∀ a',a'.defers=a.defers->a'.get 2=rv->KK a' w):aK P (b6 3 2 n).1 (Exit.then KK Q) a w:=
 e7 (x:=2) (m:=0) (k0:=0) (.inl rfl) (Nat.le_refl _) (by omega) (by omega) (by omega) fun a' hp hg=>h a' hp.defers (hg.trans h3)
theorem qR {k:Nat}{r:RS}(h:r.src.length<k):rI k r=(kF (8*k) 0,.fail):=by simp[rI,rU,h]
theorem uy {k:Nat}{r:RS}(h:k<=r.src.length):rI k r=(kF (8*k) (cv (r.src.take k)),⟨r.src.drop k,r.bad,r.nl⟩):=by
 have:¬ r.src.length<k:=by omega
 simp[rI,rU,this]
theorem kW {k:Nat}{l:Bs}(h:k<=l.length):cv (l.take k)<256^k:=by
 have:=tZ (l.take k)
 rwa [List.length_take,Nat.min_eq_left h]at this
theorem rdOk_int {p:cY}{k:Nat}{kind:IntKind}(hp:(p=.i8/\k=1) \/ (p=.i16/\k=2) \/ (p=.i32/\k=4) \/ (p=.i64/\k=8))(Jn:p.kind=kind){w w':World}{S R:Nat}{r:RS}{e:Ending}
  (h:lG T S R k r w (.int kind 0) (.int kind (kind.wrap ((cv (r.src.take k):Nat):Int))) e w') :
  e=.returned (.int kind (rI k r).1)/\cy w' T S R (rI k r).2/\ac (·=R) w w'/\∀ X:Nat->Prop,gT w' X (.prim p) (Value.int kind (rI k r).1).cells.toList (.n (rI k r).1):=by
 obtain⟨h1,h2⟩:=h
 have hb:kind.bits=8*k/\(kind=.i8 \/ kind=.i16 \/ kind=.i32 \/ kind=.i64):=by
  rcases hp with⟨rfl,rfl⟩|⟨rfl,rfl⟩|⟨rfl,rfl⟩|⟨rfl,rfl⟩<;>subst Jn<;>simp[cY.kind,IntKind.bits]
 have JS:∀ m:Nat,m<256^k->p.fits (kF (8*k) m):=by
  intro m hm
  rcases hp with⟨rfl,rfl⟩|⟨rfl,rfl⟩|⟨rfl,rfl⟩|⟨rfl,rfl⟩<;>simp[cY.fits,kF]at hm ⊢<;>split<;>omega
 have NC:∀ x:Int,p.fits x->∀ X:Nat->Prop,gT w' X (.prim p) (Value.int kind x).cells.toList (.n x):=by
  intro x hx X
  rcases hp with⟨rfl,rfl⟩|⟨rfl,rfl⟩|⟨rfl,rfl⟩|⟨rfl,rfl⟩<;>subst Jn<;>exact⟨x,rfl,rfl,hx⟩
 by_cases Id:r.src.length<k
 ·rw[if_pos Id]at h1
  rw[qR Id]
  have h0:kF (8*k) 0=0:=by
   rcases hp with⟨_,rfl⟩|⟨_,rfl⟩|⟨_,rfl⟩|⟨_,rfl⟩<;>simp[kF]
  refine⟨by rw[h0];exact h1.1,h1.2,h2,fun X=>NC _ (JS 0 (by
   rcases hp with⟨_,rfl⟩|⟨_,rfl⟩|⟨_,rfl⟩|⟨_,rfl⟩<;>simp)) X⟩
 ·rw[if_neg Id]at h1
  have hk:k<=r.src.length:=by omega
  have hm:=kW hk
  rw[uy hk]
  have hw:kind.wrap ((cv (r.src.take k):Nat):Int)=kF (8*k) (cv (r.src.take k)):=by
   rw[wL hb.2 (by rw[hb.1,Nat.pow_mul];exact hm),hb.1]
  rw[hw]at h1
  exact⟨h1.1,h1.2,h2,fun X=>NC _ (JS _ hm) X⟩
theorem ia {l:Bs}(h:1<=l.length):∃ b t,l=b::t:=by
 cases l with
 | nil=>simp at h
 | cons b t=>exact⟨b,t,rfl⟩
theorem GH (kt:KT P g K)(h8k:b7 K.tI8=true){f ntmps:Nat}(hfn:FnIs P f ntmps [2] (cI8 K))(Iv:32<=ntmps){w:World}{S R:Nat}{r:RS}(hR:cy w T S R r)(hRS:S≠R) :
  Calls P f #[pt R 0] w (lG T S R 1 r w (.int .i8 0) (.int .i8 (IntKind.wrap .i8 ((cv (r.src.take 1):Nat):Int)))):=by
 refine qh kt (kr:=6) (rv:=.int .u8 ((cv (r.src.take 1):Nat):Int)) hfn rfl (by omega) hR hRS (fun hk v a K' Q' hv h0 hs h=>?_) (fun hk a w' K' Q' h3 hs h=>?_)
 ·obtain⟨b,t,hb⟩:=ia hk
  refine CN (_ntmps:=ntmps) kt hb hv h0 (by omega) (by omega) fun a' hp hg=>h a' w hp ?_ (ac.refl _ _)
  rw[hg,hb]
  simp[cv]
 ·exact CM kt.dU8 (kt.dI8 h8k) h3 (by omega) (by omega) h
theorem rdOk_bool (kt:KT P g K){f ntmps:Nat}(hfn:FnIs P f ntmps [2] (cBool K))(Iv:32<=ntmps):RdOk P T .bool f:=by
 refine⟨hfn.ent,fun w S R r hR hRS=>?_⟩
 have hc:=qh (T:=T) kt (kr:=7) (k:=1) (z:=.bool false) (rv:=.bool (decide ((cv (r.src.take 1):Int)≠0))) (fv:=.bool (decide ((cv (r.src.take 1):Int)≠0))) hfn rfl (by omega) hR hRS (fun hk v a K' Q' hv h0 hs h=>?_) (fun hk a w' K' Q' h3 hs h=>?_)
 ·refine hc.mono fun e w' h=>?_
  obtain⟨h1,h2⟩:=h
  by_cases Id:r.src.length<1
  ·rw[if_pos Id]at h1
   have hn:r.src=[]:=by cases hh:r.src with|nil=>rfl|cons b t=>rw[hh]at Id;simp at Id
   have Im:PF.run .bool r=(.n 0,.fail):=by simp[PF.run,qS,hn]
   rw[Im]
   exact⟨_,h1.1,h1.2,h2,fun X _ _=>⟨false,rfl,rfl⟩⟩
  ·rw[if_neg Id]at h1
   obtain⟨b,t,hb⟩:=ia (show 1<=r.src.length by omega)
   have hu:cv (r.src.take 1)=b.toNat:=by rw[hb];simp[cv]
   have Im:PF.run .bool r=(.n (if b.toNat=0 then 0 else 1),⟨r.src.drop 1,r.bad,r.nl⟩):=by simp[PF.run,qS,hb]
   rw[Im]
   refine⟨_,h1.1,h1.2,h2,fun X _ _=>⟨_,rfl,?_⟩⟩
   rw[hu]
   by_cases h0:b.toNat=0<;>simp[h0]
 ·obtain⟨b,t,hb⟩:=ia hk
  refine Ar kt hb hv h0 (by omega) (by omega) fun a' hp hg=>h a' w hp ?_ (ac.refl _ _)
  rw[hg,hb]
  simp[cv]
 ·exact sW h3 (by omega) (by omega) h
end
structure KSub (P:Program)(g:G)(K:Kn)(T:Nat):Prop where
 e16:b7 (g.rd .i16)=true->Ent P (g.rd .i16)
 c16:b7 (g.rd .i16)=true->∀ (w:World) (S R:Nat) (r:RS),cy w T S R r->S≠R->Calls P (g.rd .i16) #[pt R 0] w fun e w'=>e=.returned (.int .i16 (rI 2 r).1)/\cy w' T S R (rI 2 r).2/\ac (·=R) w w'
 e32:b7 (g.rd .i32)=true->Ent P (g.rd .i32)
 c32:b7 (g.rd .i32)=true->∀ (w:World) (S R:Nat) (r:RS),cy w T S R r->S≠R->Calls P (g.rd .i32) #[pt R 0] w fun e w'=>e=.returned (.int .i32 (rI 4 r).1)/\cy w' T S R (rI 4 r).2/\ac (·=R) w w'
 eU:b7 g.uv=true->Ent P g.uv
 cU:b7 g.uv=true->∀ (w:World) (S R:Nat) (r:RS),cy w T S R r->S≠R->Calls P g.uv #[pt R 0] w fun e w'=>e=.returned (.int .u32 (b5 r).1)/\cy w' T S R (b5 r).2/\ac (·=R) w w'
 eS:b7 g.span=true->Ent P g.span
 cS:b7 g.span=true->∀ (w:World) (S R:Nat) (r:RS) (k:Int),cy w T S R r->S≠R->Calls P g.span #[pt R 0,.int .i64 k] w fun e w'=>
  ∃ v,e=.returned v/\cy w' T S R (bt k r).2/\ac (·=R) w w'/\bD w' S v ⟨(bt k r).1.octets,false,(bt k r).1.isNul⟩
 dStr:P.underlying K.tStr=some .string
 vStr:bc P K.tStr false 1
 zStr:∀ w,(zeroValue K.tStr).run P w=.ok (.string ⟨#[]⟩) w
def nS (f:Nat):GC:=ay 2 fun n=>[mk (some n) (.move (tm 0)),cl (some (n+1)) f [tm n],mk (some 3) (.assign (tm (n+1)))]
def ls (g:G)(A B:Nat)(k:IntKind):GC:=ay 4 fun n=>[mk (some n) (.move (tm 0)),cl (some (n+1)) g.uv [tm n],mk (some (n+2)) (.convert A B (tm (n+1))),mk (some (n+3)) (.binOp .sub B (tm (n+2)) (ki k 1) 0),mk (some 3) (.assign (tm (n+3)))]
def nO (g:G)(A B n:Nat):List Oper:=[mk (some n) (.move (tm 0)),mk (some (n+1)) (.move (tm 3)),mk (some (n+2)) (.convert A B (tm (n+1))),cl (some (n+3)) g.span [tm n,tm (n+2)]]
def pY (g:G)(n:Nat):List Oper:=[mk (some n) (.move (tm 0)),mk (some (n+1)) (.move (tm 3)),cl (some (n+2)) g.span [tm n,tm (n+1)]]
def cStr (g:G)(K:Kn):Code:=(gS [aR 2 (.string ⟨#[]⟩),nS (g.rd .i16),ay 5 fun n=>nO g K.tI16 K.tInt n++[mk (some (n+4)) (.convert K.tSl K.tStr (tm (n+3))),mk (some 2) (.assign (tm (n+4)))],aS .ret] 4).1
def cCStr (g:G)(K:Kn):Code:=(gS [aR 2 (.string ⟨#[]⟩),ls g K.tU32 K.tInt .i64,ay 4 fun n=>pY g n++[mk (some (n+3)) (.convert K.tSl K.tStr (tm (n+2))),mk (some 2) (.assign (tm (n+3)))],aS .ret] 4).1
def sY (T:Nat)(k:IntKind)(z:Value):GC:=dM 1 2 (fun n=>[mk (some n) (.move (tm 3)),mk (some (n+1)) (.binOp .lss T (tm n) (ki k 0) 0)]) (gS [aR 2 z,aS .ret]) bp
def yA (K:Kn)(T:Nat)(k:IntKind):GC:=dM 1 2 (fun n=>[mk (some n) (.move (tm 3)),mk (some (n+1)) (.binOp .eql T (tm n) (ki k (-1)) 0)]) (gS [ay 1 fun n=>[mk (some n) (.buildSlice K.tSl 0 #[]),mk (some 2) (.assign (tm n))],aS .ret]) bp
def cNStr (g:G)(K:Kn):Code:=(gS [aR 2 (.pointer none),nS (g.rd .i16),sY K.tI16 .i16 (.pointer none),ay 5 fun n=>nO g K.tI16 K.tInt n++[mk (some (n+4)) (.convert K.tSl K.tStr (tm (n+3))),mk (some 4) (.alloc K.tStr),mk none (.store K.tStr (tm 4) (tm (n+4)))],
 ay 0 fun _=>[mk (some 2) (.assign (tm 4))],aS .ret] 5).1
def cCNStr (g:G)(K:Kn):Code:=(gS [aR 2 (.pointer none),ls g K.tU32 K.tInt .i64,sY K.tInt .i64 (.pointer none),ay 4 fun n=>pY g n++[mk (some (n+3)) (.convert K.tSl K.tStr (tm (n+2))),mk (some 4) (.alloc K.tStr),mk none (.store K.tStr (tm 4) (tm (n+3)))],
 ay 0 fun _=>[mk (some 2) (.assign (tm 4))],aS .ret] 5).1
def E2 (g:G)(K:Kn):Code:=(gS [aR 2 (.slice none 0 0),nS (g.rd .i32),yA K K.tI32 .i32,ay 4 fun n=>nO g K.tI32 K.tInt n++[mk (some 2) (.assign (tm (n+3)))],aS .ret] 4).1
def AB (g:G)(K:Kn):Code:=(gS [aR 2 (.slice none 0 0),ls g K.tU32 K.tInt .i64,yA K K.tInt .i64,ay 3 fun n=>pY g n++[mk (some 2) (.assign (tm (n+2)))],aS .ret] 4).1
def AA (g:G)(K:Kn):Code:=(gS [aR 2 (.slice none 0 0),nS (g.rd .i32),sY K.tI32 .i32 (.slice none 0 0),ay 4 fun n=>nO g K.tI32 K.tInt n++[mk (some 4) (.assign (tm (n+3)))],b6 4 2,aS .ret] 5).1
section
variable {P:Program} {g:G} {K:Kn} {T S R:Nat} {r:RS} {n:Nat} {KK:Act->World->Prop} {Q:Exit->Act->World->Prop} {a:Act} {w:World}
theorem rk {f:Nat}{v:Value}{r':RS}(hE:Ent P f)(hC:Calls P f #[pt R 0] w fun e w'=>e=.returned v/\cy w' T S R r'/\ac (·=R) w w')(h0:a.get 0=pt R 0)(hn:n+2<=a.tmps.size)(OS:3<n)
  (h:∀ a' w',Pv 3 0 0 n a a'->a'.get 3=v->cy w' T S R r'->ac (·=R) w w'->KK a' w'):aK P (nS f n).1 (Exit.then KK Q) a w:=by
 refine aq (ah ?_)
 rw[aa,h0]
 refine aN (vs:=#[pt R 0]) hE (by simp[aa,ao (show n<a.tmps.size by omega)]) hC fun e w' hR=>⟨_,hR.1,ak (wpList_nil ?_)⟩
 rw[aa,ao (by simp only[ab];omega)]
 exact h _ w' (((((Pv.refl _ _ _ _ _).put _ (by omega)).put _ (by omega)).put _ (by omega))) (ao (by simp only[ab];omega)) hR.2.1 hR.2.2
theorem kH (ks:KSub P g K T)(Kv:b7 g.span=true){ops:Array Oper}{l:List Oper}{A B:Nat}{k:IntKind}{x:Int}(_hk:k=.i16 \/ k=.i32)(hA:P.underlying A=some (.int k))(hB:P.underlying B=some (.int .i64))(hx:-2147483648<=x/\x<2147483648)(h0:a.get 0=pt R 0)(h3:a.get 3=.int k x)(hR:cy w T S R r)(hRS:S≠R)
  (hn:n+4<=a.tmps.size) (OS:3<n)
  (h:∀ a' w' v,Pv n 0 0 n a a'->a'.get (n+3)=v->cy w' T S R (bt x r).2->ac (·=R) w w'->bD w' S v ⟨(bt x r).1.octets,false,(bt x r).1.isNul⟩->wpList P ops Q l a' w'):wpList P ops Q (nO g A B n++l) a w:=by
 show wpList P ops Q (mk (some n) (.move (tm 0))::mk (some (n+1)) (.move (tm 3))::mk (some (n+2)) (.convert A B (tm (n+1)))::cl (some (n+3)) g.span [tm n,tm (n+2)]::l) a w
 refine ah ?_
 rw[aa,h0]
 refine ah ?_
 rw[aa,al (by omega),h3]
 have hw:IntKind.i64.wrap x=x:=by simp[IntKind.wrap,IntKind.bits,IntKind.signed];omega
 refine aL (k:=k) (k':=.i64) (by rw[aa,ao (by simp only[ab];omega)]) hA hB ?_
 rw[hw]
 refine aN (vs:=#[pt R 0,.int .i64 x]) (ks.eS Kv) ?_ (ks.cS Kv w S R r x hR hRS) fun e w' JD=>?_
 ·simp only[List.map_cons,List.map_nil,aa]
  rw[ao (by simp only[ab];omega),al (show n≠n+2 by omega),al (show n≠n+1 by omega),ao (by omega)]
 ·obtain⟨v,he,h1,h2,h4⟩:=JD
  exact⟨v,he,h _ w' v (((((Pv.refl _ _ _ _ _).put _ (by omega)).put _ (by omega)).put _ (by omega)).put _ (by omega)) (ao (by simp only[ab];omega)) h1 h2 h4⟩
theorem mW (ks:KSub P g K T)(Kv:b7 g.span=true){ops:Array Oper}{l:List Oper}{x:Int}(h0:a.get 0=pt R 0)(h3:a.get 3=.int .i64 x)(hR:cy w T S R r)(hRS:S≠R)(hn:n+3<=a.tmps.size)(OS:3<n)
  (h:∀ a' w' v,Pv n 0 0 n a a'->a'.get (n+2)=v->cy w' T S R (bt x r).2->ac (·=R) w w'->bD w' S v ⟨(bt x r).1.octets,false,(bt x r).1.isNul⟩->wpList P ops Q l a' w'):wpList P ops Q (pY g n++l) a w:=by
 show wpList P ops Q (mk (some n) (.move (tm 0))::mk (some (n+1)) (.move (tm 3))::cl (some (n+2)) g.span [tm n,tm (n+1)]::l) a w
 refine ah ?_
 rw[aa,h0]
 refine ah ?_
 rw[aa,al (by omega),h3]
 refine aN (vs:=#[pt R 0,.int .i64 x]) (ks.eS Kv) ?_ (ks.cS Kv w S R r x hR hRS) fun e w' JD=>?_
 ·simp only[List.map_cons,List.map_nil,aa]
  rw[ao (by simp only[ab];omega),al (show n≠n+1 by omega),ao (by omega)]
 ·obtain⟨v,he,h1,h2,h4⟩:=JD
  exact⟨v,he,h _ w' v ((((Pv.refl _ _ _ _ _).put _ (by omega)).put _ (by omega)).put _ (by omega)) (ao (by simp only[ab];omega)) h1 h2 h4⟩
theorem js (kt:KT P g K)(ks:KSub P g K T){ops:Array Oper}{l:List Oper}{d:Option Nat}{y:Operand}{v:Value}{r':RS}(hy:a.eval y=v)(hv:bD w S v r')(h:wpList P ops Q l (a.put d (.string ⟨r'.src.toArray⟩)) w):wpList P ops Q (mk d (.convert K.tSl K.tStr y)::l) a w:=by
 refine aB ?_ h
 have hr:(convert K.tSl K.tStr v).run P w=.ok (.string ⟨r'.src.toArray⟩) w:=by
  rcases hv with⟨rfl,h2,_⟩|⟨o,c,rfl,_,_,_,_,h6⟩
  ·rw[run_convert_bytes_string w K.tSl K.tStr K.tU8 none 0 0 kt.sl kt.dU8 ks.dStr,h2]
   simp[Conv.bytesToString]
   rfl
  ·exact run_convert_bytes_back w K.tSl K.tStr K.tU8 ⟨S,o,none⟩ c r'.src kt.sl kt.dU8 ks.dStr fun j hj=>by
    have:=h6 j r'.src[j] (by simp[hj])
    rw[Addr.add_lit]
    exact this
 simp only[execOp,mk,hy,Sem.run_bind,hr,Result.andThen_ok,Sem.run_pure]
theorem jf {X:Nat->Prop}{nul:Option Nat}{v:Value}{x:Int}(hS:¬ X S)(h:bD w S v ⟨(bt x r).1.octets,false,(bt x r).1.isNul⟩):gT w X (.bytes nul) v.cells.toList (bt x r).1:=by
 rcases h with⟨rfl,h2,h3⟩|⟨o,c,rfl,h2,h3,h4,h5,h6⟩
 ·refine .inl ⟨rfl,?_⟩
  simp only at h3
  cases hh:(bt x r).1<;>rw[hh]at h3<;>first|rfl|cases h3
 ·refine .inr ⟨(bt x r).1.octets,S,o,c,rfl,hS,h5,h3,h4,h6,?_⟩
  simp only at h2
  have PD:(bt x r).1=.nul \/ ∃ l,(bt x r).1=.s l:=by
   unfold bt
   split
   ·exact .inl rfl
   ·split
    ·exact .inl rfl
    ·exact .inr ⟨_,rfl⟩
  rcases PD with hh|⟨l,hh⟩
  ·rw[hh]at h2;cases h2
  ·rw[hh];rfl
theorem lf (x:Int)(hs:cy w T S R r):(bt x r).1.octets.length<=maxLen:=by
 obtain⟨v,_,hv⟩:=hs
 obtain⟨base,c,_,_,h1,h2,_⟩:=hv.len
 unfold bt
 split
 ·simp[V.octets]
 ·split
  ·simp[V.octets]
  ·simp[V.octets];omega
end
def FnIsC (P:Program)(f ntmps s t:Nat)(d:Code):Prop:=
 ∃ fn c, P.funcs[f]? = some fn /\ fn.body = some c /\ bK c = d /\ fn.ntmps = ntmps /\ fn.results = #[ResultVar.cell s t] /\ (fn.name == "runtime.NumGoroutine") = false
theorem FnIsC.ent {P:Program}{f n s t:Nat}{d:Code}(h:FnIsC P f n s t d):Ent P f:=by
 obtain⟨fn,c,hf,hb,_,_,_,hg⟩:=h
 have I0 : ¬ fn.name = "runtime.NumGoroutine" := by simpa using hg
 intro args w
 simp[callFunc,hf,I0,hb]
theorem FnIsC.calls {P:Program}(hm:P.follows .mixedOrders=true){f n s t:Nat}{d:Code}(h:FnIsC P f n s t d){args:Array Value}{w:World}{R:Ending->World->Prop}
  (hw:aK P d (Rt (fun _ _=>False) (fun a w=>a.defers=[]/\∃ p v,a.get s=.pointer (some p)/\(loadVar t p).run P w=.ok v w/\R (.returned v) w)) { tmps:=args++Array.replicate (n-args.size) undef,defers:=[] } w):Calls P f args w R:=by
 obtain⟨fn,c,hf,hb,rfl,rfl,hr,_⟩:=h
 refine lB hm hf hb rfl (.mono hw fun e a w hq=>?_)
 cases e<;>first|exact hq.elim|skip
 obtain⟨hd,p,v,hp,hl,hR⟩:=hq
 refine⟨hd,v,?_,hR⟩
 have hg:a.tmps[s]?.getD undef=.pointer (some p):=by
  have h2:a.tmps.getD s undef=.pointer (some p):=hp
  rwa [Array.getD_eq_getD_getElem?]at h2
 unfold results
 rw[hr]
 simp[hg,asAddr,hl]
def xf (g:G)(K:Kn):List Oper:=[mk (some 4) (.slice K.tUuid (tm 3) none none none),mk (some 5) (.move (tm 0)),cl (some 6) g.span [tm 5,ki .i64 16],bi (some 7) .copy [tm 4,tm 6] [K.tSl,K.tSl] K.tInt]
def cUuid (g:G)(K:Kn):Code:=sq [rg [mk (some 2) (.alloc K.tUuid)],rg [mk (some 3) (.alloc K.tUuid)],.region 1 (xf g K).toArray true,rg [mk (some 8) (.load K.tUuid (tm 3)),mk none (.store K.tUuid (tm 2) (tm 8))],.ret]
def cRdTags (g:G)(K:Kn):Code:=sq [rg [mk (some 2) (.alloc g.tTags)],rg [mk (some 3) (.alloc g.tTags)],.seq (rg [mk (some 7) (.move (tm 0)),cl (some 8) g.uv [tm 7],mk (some 4) (.assign (tm 8))])
 (.block 0 (.loop (.seq (.seq (rg [mk (some 9) (.move (tm 4)),mk (some 10) (.binOp .gtr K.tU32 (tm 9) (ki .u32 0) 0)]) (.cond (tm 10) .skip (.exit 0)))
  (.seq (.block 1 (.seq (rg [mk (some 13) (.move (tm 0)),cl (some 14) g.uv [tm 13],mk (some 15) (.move (tm 0)),cl (some 16) g.uv [tm 15],mk (some 5) (.assign (tm 14)),mk (some 6) (.assign (tm 16))])
   (rg [mk (some 17) (.move (tm 5)),mk (some 18) (.move (tm 0)),mk (some 19) (.move (tm 6)),mk (some 20) (.convert K.tU32 K.tInt (tm 19)),cl (some 21) g.span [tm 18,tm 20],cl (some 22) g.set [tm 3,tm 17,tm 21]])))
   (rg [mk (some 11) (.move (tm 4)),mk (some 12) (.binOp .sub K.tU32 (tm 11) (ki .u32 1) 0),mk (some 4) (.assign (tm 12))]))))),
 rg [mk (some 23) (.load g.tTags (tm 3)),mk none (.store g.tTags (tm 2) (tm 23))],.ret]
section
variable {P:Program} {g:G} {K:Kn}
theorem q3 {o:Oper}{a:Act}{w w':World}{v:Value}{K':Act->World->Prop}{Q':Exit->Act->World->Prop}(h:(execOp a.eval o).run P w=.ok (.value v) w')(hn:K' (a.put o.dst v) w'):o.wp P a w K' Q':=by
 unfold Oper.wp;rw[h];exact hn
theorem li {w:World}{dT sT ty elem:TypeId}{b o dLen dCap sLen sCap:Nat}{p:Addr}{cs:List Value}{cur:Array Value}{te:TypeId}
  (hu:P.underlying dT=some (.slice elem)) (hs:∀ w,(sizeOf elem).run P w=.ok 1 w) (hn:Nat.min sLen dLen=cs.length)
  (J3:∀ j v,cs[j]?=some v->w.cell? (p.add j)=some v) (hb:w.heap[b]?=some (.cells cur te (0,0))) (ho:o+cs.length<=cur.size) (h1:∀ v∈cs,v.oneCell'=true) :
  (Builtin.copy_ #[dT,sT] ty #[.slice (some ⟨b,o,none⟩) dLen dCap,.slice (some p) sLen sCap]).run P w=.ok (goInt cs.length) (w.setRow b (aD cur o cs)):=by
 have hl:=run_loadCells_list (P:=P) w p cs J3
 have IN:=run_storeCells_at P b o te cs 0 cur w hb (by simpa using ho) h1
 simp only[Nat.add_zero]at IN
 simp[Builtin.copy_,run_underlying hu,Builtin.lenOf,Builtin.firstCells,hs,hn,hl,IN,aD]
theorem lj {w:World}{dT sT ty elem:TypeId}{d a:Option Addr}{dLen dCap sLen sCap:Nat}(hu:P.underlying dT=some (.slice elem))(hs:∀ w,(sizeOf elem).run P w=.ok 1 w)(hn:Nat.min sLen dLen=0) :
  (Builtin.copy_ #[dT,sT] ty #[.slice d dLen dCap,.slice a sLen sCap]).run P w=.ok (goInt 0) w:=by
 have hl:∀ (x:Addr),(loadCells x 0).run P w=.ok #[] w:=fun x=>by simpa using run_loadCells_list (P:=P) w x [] (by simp)
 cases d<;>cases a<;>simp[Builtin.copy_,run_underlying hu,Builtin.lenOf,Builtin.firstCells,hs,hn,storeCells,hl]
theorem lp {l:List UInt8}:∀ u∈l.map (fun b=>Value.int .u8 (b.toNat:Int)),u.oneCell'=true:=by
 intro u hu
 obtain⟨b,_,rfl⟩:=List.mem_map.1 hu
 rfl
theorem m8 {F p n:Nat}{w:World}{cs:List Value}(hV:bc P F true n)(hn:cs.length=n)(hb:w.heap[p]?=some (.cells cs.toArray F (0,0))):(loadVar F ⟨p,0,none⟩).run P w=.ok (.agg cs.toArray) w:=by
 have hl:=run_loadCells_list (P:=P) w ⟨p,0,none⟩ cs (fun j u hj=>by
  rw[Addr.add_lit]
  simp[World.cell?,hb,hj])
 simp[loadVar,hV.agg w,hV.size w,<- hn,hl]
theorem cy.keepNl {X:Nat->Prop}{w w':World}{T S R:Nat}{r:RS}(h:cy w T S R r)(hk:ac X w w')(hS:r.nl=false->¬ X S)(hR:¬ X R):cy w' T S R r:=by
 have Id:=h.lt
 obtain⟨v,hb,hs⟩:=h
 refine⟨v,by rw[hk.block R Id hR];exact hb,?_⟩
 rcases hs with hs|⟨o,c,h1,h2,h3⟩
 ·exact .inl hs
 ·exact bD.keep (.inr ⟨o,c,h1,h2,h3⟩) hk (hS h2)
theorem rdOk_uuid {T:Nat}(kt:KT P g K)(ks:KSub P g K T)(Kv:b7 g.span=true)(hV:bc P K.tUuid true 16)(hz:∀ w,(zeroValue K.tUuid).run P w=.ok (.agg (Array.replicate 16 (.int .u8 0))) w)(hA:P.underlying K.tUuid=some (.array 16 K.tU8))
  {f ntmps:Nat} (hfn:FnIsC P f ntmps 2 K.tUuid (cUuid g K)) (Iv:9<=ntmps):RdOk P T .uuid f:=by
 refine⟨hfn.ent,fun w S R r hR hRS=>hfn.calls kt.mixed ?_⟩
 have hsz':({ tmps:=#[pt R 0]++Array.replicate (ntmps-(#[pt R 0]:Array Value).size) undef,defers:=[] }:Act).tmps.size=ntmps:=ck #[pt R 0] ntmps (by show 1<=ntmps;omega)
 have Jp:({ tmps:=#[pt R 0]++Array.replicate (ntmps-(#[pt R 0]:Array Value).size) undef,defers:=[] }:Act).get 0=pt R 0:=by rw[b9 _ _ _ (by simp)];rfl
 have Kh:({ tmps:=#[pt R 0]++Array.replicate (ntmps-(#[pt R 0]:Array Value).size) undef,defers:=[] }:Act).defers=[]:=rfl
 generalize({ tmps:=#[pt R 0]++Array.replicate (ntmps-(#[pt R 0]:Array Value).size) undef,defers:=[] }:Act)=a at Jp Kh hsz' ⊢
 have Ua:=hR.lt
 unfold cUuid
 refine az (aq (cZ (hz w) (wpList_nil ?_)))
 refine az (aq (cZ (hz _) (wpList_nil ?_)))
 let Z:Obj:=.cells (Value.agg (Array.replicate 16 (.int .u8 0))).cells K.tUuid (0,0)
 have KN:ac (fun _=>False) w ((w.alloc Z).alloc Z):=(ac.alloc _ _ _).trans (ac.alloc _ _ _)
 have IK:((w.alloc Z).alloc Z).heap[w.heap.size]?=some Z:=by rw[bu (by simp)];exact heap_alloc_new _ _
 have LL:((w.alloc Z).alloc Z).heap[w.heap.size+1]?=some Z:=by
  have:=heap_alloc_new (w.alloc Z) Z
  rw[show(w.alloc Z).heap.size=w.heap.size+1 by simp]at this
  exact this
 have PA:((w.alloc Z).alloc Z).heap.size=w.heap.size+2:=by simp
 have UC:(w.alloc Z).heap.size=w.heap.size+1:=by simp
 show aK P _ _ ((a.put (some 2) (.pointer (some ⟨w.heap.size,0,none⟩))).put (some 3) (.pointer (some ⟨(w.alloc Z).heap.size,0,none⟩))) ((w.alloc Z).alloc Z)
 rw[UC]
 generalize(w.alloc Z).alloc Z=w2 at KN IK LL PA ⊢
 have e0:((a.put (some 2) (.pointer (some ⟨w.heap.size,0,none⟩))).put (some 3) (.pointer (some ⟨w.heap.size+1,0,none⟩))).get 0=pt R 0:=by rw[al (by omega),al (by omega)];exact Jp
 have e2:((a.put (some 2) (.pointer (some ⟨w.heap.size,0,none⟩))).put (some 3) (.pointer (some ⟨w.heap.size+1,0,none⟩))).get 2=pt w.heap.size 0:=by rw[al (by omega),ao (by omega)];rfl
 have e3:((a.put (some 2) (.pointer (some ⟨w.heap.size,0,none⟩))).put (some 3) (.pointer (some ⟨w.heap.size+1,0,none⟩))).get 3=pt (w.heap.size+1) 0:=by rw[ao (by simp only[ab];omega)];rfl
 have es:((a.put (some 2) (.pointer (some ⟨w.heap.size,0,none⟩))).put (some 3) (.pointer (some ⟨w.heap.size+1,0,none⟩))).tmps.size=ntmps:=by simp only[ab];exact hsz'
 have ed:((a.put (some 2) (.pointer (some ⟨w.heap.size,0,none⟩))).put (some 3) (.pointer (some ⟨w.heap.size+1,0,none⟩))).defers=[]:=by simp only[aj];exact Kh
 generalize(a.put (some 2) (.pointer (some ⟨w.heap.size,0,none⟩))).put (some 3) (.pointer (some ⟨w.heap.size+1,0,none⟩))=a2 at e0 e2 e3 es ed ⊢
 have JD:cy w2 T S R r:=hR.keep KN id id
 have Jk:dq (xf g K)=[false,false,true,true]:=by kernel_rfl
 let res:List UInt8:=if r.src.length<16 then List.replicate 16 0 else r.src.take 16
 have MM:res.length=16:=by
  show(if r.src.length<16 then List.replicate 16 (0:UInt8)else r.src.take 16).length=16
  split<;>simp<;>omega
 refine az (.mono (R:=Rt (fun a' w'=>a'.get 2=pt w.heap.size 0/\a'.get 3=pt (w.heap.size+1) 0/\a'.tmps.size=ntmps/\a'.defers=[]/\cy w' T S R (PF.run .uuid r).2/\ac (·=R) w w'/\w'.heap[w.heap.size]?=some Z /\
   w'.heap[w.heap.size+1]?=some (.cells (res.map fun b=>.int .u8 (b.toNat:Int)).toArray K.tUuid (0,0))/\w.heap.size+2<=w'.heap.size) fun _ _=>False) ?_ fun e a5 w5 hq=>?_)
 ·refine .drw (fun _=>True) ?_
  rw[Jk]
  show eT P _ [mk (some 4) (.slice K.tUuid (tm 3) none none none),mk (some 5) (.move (tm 0))] a2 fun af=>eg P _ _ [cl (some 6) g.span [tm 5,ki .i64 16],bi (some 7) .copy [tm 4,tm 6] [K.tSl,K.tSl] K.tInt] af w2.drew
  refine⟨.slice (some ⟨w.heap.size+1,0,none⟩) 16 16,fun w' _=>?_,?_⟩
  ·have e3':a2.eval (tm 3)=.pointer (some ⟨w.heap.size+1,0,none⟩):=e3
   simp[execOp,mk,e3',Instr.sliceAt,run_underlying hA,Instr.sureAddr,Instr.sliceBounds,kt.u8.size w',Addr.add_lit]
  refine⟨pt R 0,fun w' _=>?_,⟨trivial,?_⟩⟩
  ·have:(a2.put (some 4) (.slice (some ⟨w.heap.size+1,0,none⟩) 16 16)).eval (tm 0)=pt R 0:=by rw[aa,al (by omega)];exact e0
   exact congrArg (fun v=>Result.ok (Next.value v) w') this
  ·have JW:ac (fun _=>False) w2 w2.drew:=ac.drew _ _
   refine fP (vs:=#[pt R 0,.int .i64 16]) rfl (ks.eS Kv) ?_ (ks.cS Kv w2.drew S R r 16 (JD.keep JW id id) hRS) fun e w3 hR3=>?_
   ·have h5:=db (a2.put (some 4) (.slice (some ⟨w.heap.size+1,0,none⟩) 16 16)) 5 (pt R 0) (by simp only[ab];omega)
    exact congrArg (fun v=>#[v,Value.int .i64 16]) h5
   obtain⟨v,he,IT,Il,hv⟩:=hR3
   refine⟨v,he,trivial,?_⟩
   have Jx:ac (·=R) w w3:=(KN.mono fun _ _ h=>h.elim).trans ((JW.mono fun _ _ h=>h.elim).trans Il)
   have P1:=Il.size
   have hzd:w2.drew.heap.size=w2.heap.size:=rfl
   have SS:w3.heap[w.heap.size]?=some Z:=by rw[Il.block _ (by omega) (by omega)];exact IK
   have M1:w3.heap[w.heap.size+1]?=some Z:=by rw[Il.block _ (by omega) (by omega)];exact LL
   have g2:(((a2.put (some 4) (.slice (some ⟨w.heap.size+1,0,none⟩) 16 16)).put (some 5) (pt R 0)).put (some 6) v).get 2=pt w.heap.size 0:=by rw[al (by omega),al (by omega),al (by omega)];exact e2
   have g3:(((a2.put (some 4) (.slice (some ⟨w.heap.size+1,0,none⟩) 16 16)).put (some 5) (pt R 0)).put (some 6) v).get 3=pt (w.heap.size+1) 0:=by rw[al (by omega),al (by omega),al (by omega)];exact e3
   have g4:(((a2.put (some 4) (.slice (some ⟨w.heap.size+1,0,none⟩) 16 16)).put (some 5) (pt R 0)).put (some 6) v).eval (tm 4)=.slice (some ⟨w.heap.size+1,0,none⟩) 16 16:=by rw[aa,al (by omega),al (by omega),ao (by omega)]
   have g6:(((a2.put (some 4) (.slice (some ⟨w.heap.size+1,0,none⟩) 16 16)).put (some 5) (pt R 0)).put (some 6) v).eval (tm 6)=v:=by rw[aa,ao (by simp only[ab];omega)]
   have Im:∀ (x:Value) (w':World),(Builtin.copy_ #[K.tSl,K.tSl] K.tInt #[.slice (some ⟨w.heap.size+1,0,none⟩) 16 16,v]).run P w3=.ok x w' ->
     (execOp (((a2.put (some 4) (.slice (some ⟨w.heap.size+1,0,none⟩) 16 16)).put (some 5) (pt R 0)).put (some 6) v).eval (bi (some 7) .copy [tm 4,tm 6] [K.tSl,K.tSl] K.tInt)).run P w3=.ok (.value x) w':=by
    intro x w' hx
    simp[execOp,bi,resolve,invoke,g4,g6,builtin,hx]
   by_cases Id:r.src.length<16
   ·-- too few
    have PD:bt 16 r=(.nul,.fail):=by simp only[bt];rw[if_pos (.inl (by omega))]
    rw[PD]at hv IT
    have N3:res=List.replicate 16 0:=if_pos Id
    have Mi:∃ d c,v=.slice d 0 c:=by
     rcases hv with⟨rfl,_⟩|⟨o,c,hv,hn,_⟩
     ·exact⟨_,_,rfl⟩
     ·exact⟨_,c,hv⟩
    obtain⟨d,c,rfl⟩:=Mi
    refine q3 (Im _ _ (lj kt.sl kt.u8.size (by simp))) ⟨trivial,?_⟩
    refine⟨?_,?_,?_,?_,?_,Jx,SS,?_,by omega⟩
    ·show Act.get (Act.put _ (some 7) _) 2=_
     rw[al (by omega)];exact g2
    ·show Act.get (Act.put _ (some 7) _) 3=_
     rw[al (by omega)];exact g3
    ·simp only[ab];exact es
    ·simp only[aj];exact ed
    ·simp only[PF.run];rw[if_pos Id];exact IT
    ·rw[M1,N3]
     rfl
   ·have Vb:r.nl=false/\S<w.heap.size:=by
     obtain⟨vv,_,hs⟩:=hR
     rcases hs with⟨_,h2,_⟩|⟨_,_,_,h2,_,_,h3,_⟩
     ·rw[h2]at Id;simp at Id
     ·exact⟨h2,h3⟩
    obtain⟨Jj,Wu⟩:=Vb
    have PD:bt 16 r=(.s (r.src.take 16),⟨r.src.drop 16,r.bad,r.nl⟩):=by
     simp only[bt];rw[if_neg (by omega),Jj];rfl
    rw[PD]at hv IT
    have N3:res=r.src.take 16:=if_neg Id
    have K4:(r.src.take 16).length=16:=by simp;omega
    rcases hv with⟨rfl,h2,_⟩|⟨o,c,rfl,_,_,_,_,Jw⟩
    ·simp only[V.octets]at h2;rw[h2]at K4;simp at K4
    ·simp only[V.octets]at Jw
     have Iz:∀ j u,((r.src.take 16).map fun b=>Value.int .u8 (b.toNat:Int))[j]?=some u->w3.cell? ((⟨S,o,none⟩:Addr).add j)=some u:=by
      intro j u hj
      rw[Addr.add_lit]
      simp only[List.getElem?_map,Option.map_eq_some_iff]at hj
      obtain⟨b,hb,rfl⟩:=hj
      exact Jw j b hb
     have Iy:=li (P:=P) (dT:=K.tSl) (sT:=K.tSl) (ty:=K.tInt) (o:=0) (dLen:=16) (dCap:=16) (sLen:=(r.src.take 16).length) (sCap:=c) kt.sl kt.u8.size (by rw[List.length_map,K4];rfl) Iz M1 (by rw[List.length_map,K4];simp[Value.cells]) lp
     have It:ac (·=w.heap.size+1) w3 (w3.setRow (w.heap.size+1) (aD (Value.agg (Array.replicate 16 (.int .u8 0))).cells 0 ((r.src.take 16).map fun b=>Value.int .u8 (b.toNat:Int)))):=ac.setRow _ _ _ _ rfl
     refine q3 (Im _ _ Iy) ⟨trivial,?_⟩
     refine⟨?_,?_,?_,?_,?_,?_,?_,?_,?_⟩
     ·show Act.get (Act.put _ (some 7) _) 2=_
      rw[al (by omega)];exact g2
     ·show Act.get (Act.put _ (some 7) _) 3=_
      rw[al (by omega)];exact g3
     ·simp only[ab];exact es
     ·simp only[aj];exact ed
     ·simp only[PF.run];rw[if_neg Id];exact IT.keep It (by omega) (by omega)
     ·refine⟨It.os.trans Jx.os,It.tape.trans Jx.tape,It.output.trans Jx.output,by have:=It.size;omega,fun i hi hx=>?_⟩
      rw[It.block i (by omega) (by omega),Jx.block i hi hx]
     ·rw[It.block _ (by omega) (by omega)];exact SS
     ·rw[setRow_heap _ _ _ _ _ _ M1,N3,dy (by rw[List.length_map,K4];simp[Value.cells])]
     ·have:=It.size;omega
 ·cases e<;>first|exact hq.elim|skip
  obtain⟨h2,h3,hs,hd,Lt,hk,OK,Wf,P0⟩:=hq
  refine az (aq ?_)
  have K4:((res.map fun b=>Value.int .u8 (b.toNat:Int))).length=16:=by rw[List.length_map];exact MM
  refine eC (b:=_) (o:=0) (cs:=res.map fun b=>Value.int .u8 (b.toNat:Int)) (by rw[aa];exact h3) (hV.agg _) (by rw[K4];exact hV.size _) ?_ ?_
  ·intro j v hj
   simp only[World.cell?,Wf,Nat.zero_add,List.getElem?_toArray]
   simp[hj]
  refine bm (g:=_) (o:=0) (cur:=(Value.agg (Array.replicate 16 (.int .u8 0))).cells) (t:=K.tUuid) (vs:=res.map fun b=>Value.int .u8 (b.toNat:Int)) (by rw[aa,al (by omega)];exact h2) (by rw[aa,ao (by omega)]) rfl (by rw[K4];exact hV.size _) OK (by rw[K4];simp[Value.cells]) lp (wpList_nil ?_)
  refine az (.ret ?_)
  have It:ac (·=w.heap.size) w5 (w5.setRow w.heap.size (aD (Value.agg (Array.replicate 16 (.int .u8 0))).cells 0 (res.map fun b=>Value.int .u8 (b.toNat:Int)))):=ac.setRow _ _ _ _ rfl
  have QT:=setRow_heap w5 _ _ (aD (Value.agg (Array.replicate 16 (.int .u8 0))).cells 0 (res.map fun b=>Value.int .u8 (b.toNat:Int))) _ _ OK
  rw[dy (by rw[K4];simp[Value.cells])]at It QT ⊢
  refine⟨by simp only[aj];exact hd,⟨w.heap.size,0,none⟩,_,by rw[al (by omega)];exact h2,m8 hV K4 QT,_,rfl,Lt.keepNl It (fun Jj hS=>?_) (by omega),?_,?_⟩
  ·simp only[PF.run]at Jj
   split at Jj
   ·cases Jj
   ·obtain⟨vv,_,KY⟩:=hR
    rcases KY with⟨_,_,h7⟩|⟨_,_,_,_,_,_,h3,_⟩
    ·rw[h7]at Jj;cases Jj
    ·omega
  ·refine⟨It.os.trans hk.os,It.tape.trans hk.tape,It.output.trans hk.output,by have:=It.size;omega,fun i hi hx=>?_⟩
   rw[It.block i (by omega) (by omega),hk.block i hi hx]
  ·intro X _ _
   refine⟨res,MM,by simp[Value.cells],?_⟩
   show(PF.run .uuid r).1=.s res
   simp only[PF.run]
   by_cases Id:r.src.length<16
   ·rw[if_pos Id];exact congrArg V.s (if_pos Id).symm
   ·rw[if_neg Id];exact congrArg V.s (if_neg Id).symm
end
def oy (K:Kn)(i n:Nat):List Oper:=[mk (some n) (.move (tm 0)),mk (some (n+1)) (.indexAddr K.tSl (tm n) (ki .i64 i)),mk (some (n+2)) (.load K.tU8 (tm (n+1)))]
def py (K:Kn)(k:Nat):GC:=dM 2 3 (fun n=>[mk (some n) (.move (tm 0)),bi (some (n+1)) .len [tm n] [K.tSl] K.tInt,mk (some (n+2)) (.binOp .lss K.tInt (tm (n+1)) (ki .i64 k) 0)]) (aS (.goto 0)) bp
def rZ (K:Kn):GC:=ay 5 fun n=>oy K 0 n++[mk (some (n+3)) (.binOp .and K.tU8 (tm (n+2)) (ki .u8 127) 0),mk (some (n+4)) (.convert K.tU8 K.tU32 (tm (n+3))),mk (some 4) (.assign (tm (n+4)))]
def zL (i:Nat):GC:=gS [ay 1 fun n=>[mk (some n) (.move (tm 4)),mk (some 2) (.assign (tm n)),mk (some 3) (.assign (ki .i64 i))],aS .ret]
def kX (K:Kn)(i:Nat):GC:=dM 4 5 (fun n=>oy K i n++[mk (some (n+3)) (.binOp .and K.tU8 (tm (n+2)) (ki .u8 128) 0),mk (some (n+4)) (.binOp .eql K.tU8 (tm (n+3)) (ki .u8 0) 0)]) (zL (i+1)) (py K (i+2))
def ni (K:Kn)(i s:Nat):GC:=ay 8 fun n=>mk (some n) (.move (tm 4))::(oy K i (n+1)++[mk (some (n+4)) (.binOp .and K.tU8 (tm (n+3)) (ki .u8 127) 0),mk (some (n+5)) (.convert K.tU8 K.tU32 (tm (n+4))),mk (some (n+6)) (.binOp .shl K.tU32 (tm (n+5)) (ki .u64 s) 0),mk (some (n+7)) (.binOp .or K.tU32 (tm n) (tm (n+6)) 0),mk (some 4) (.assign (tm (n+7)))])
def xi (K:Kn):GC:=ay 7 fun n=>mk (some n) (.move (tm 4))::(oy K 4 (n+1)++[mk (some (n+4)) (.convert K.tU8 K.tU32 (tm (n+3))),mk (some (n+5)) (.binOp .shl K.tU32 (tm (n+4)) (ki .u64 28) 0),mk (some (n+6)) (.binOp .or K.tU32 (tm n) (tm (n+5)) 0),mk (some 4) (.assign (tm (n+6)))])
def B6 (K:Kn):GC:=dM 3 4 (fun n=>oy K 4 n++[mk (some (n+3)) (.binOp .leq K.tU8 (tm (n+2)) (ki .u8 15) 0)]) (zL 5) bp
def B7 (K:Kn):List GC:=[aR 4 (.int .u32 0),aR 5 (.int .i64 0),py K 1,rZ K,kX K 0,ni K 1 7,kX K 1,ni K 2 14,kX K 2,ni K 3 21,kX K 3,xi K,B6 K,aR 5 (.int .i64 (-5)),aS (.label 0),
 ay 1 fun n=>[mk (some n) (.move (tm 5)),mk (some 2) (.assign (ki .u32 0)),mk (some 3) (.assign (tm n))],aS .ret]
def cUvIn (K:Kn):Code:=.seq (rg [mk (some 2) (.assign (ki .u32 0)),mk (some 3) (.assign (ki .i64 0))]) (.scope (sq (gL (B7 K) 6).1))
def cUv (K:Kn):Code:=(gS [aR 2 (.int .u32 0),
 ay 7 fun n=>gW K 0 n++[cl (some (n+4)) K.fUv [tm (n+3)],mk (some 5) (.move (tm (n+4))),mk (some (n+5)) (.extract (tm 5) 0),mk (some (n+6)) (.extract (tm 5) 1),mk (some 3) (.assign (tm (n+5))),mk (some 4) (.assign (tm (n+6)))],
 dM 1 2 (fun n=>[mk (some n) (.move (tm 4)),mk (some (n+1)) (.binOp .leq K.tInt (tm n) (ki .i64 0) 0)]) (rn K (.int .u32 0)) bp,mw K 4,b6 3 2,aS .ret] 6).1
end Go.Proofs.YtpoeajgpacfpoaaGreatDoor.Kx