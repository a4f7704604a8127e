/-
  PLAIN LAWS AND CONTRACTS of messages, part 6.
-/
import Derived.Test.YtbgklecbmhaadaaGreatDoorK4
import Derived.Laws.IdiomStrings

namespace Go.Proofs.YtbgklecbmhaadaaGreatDoor.Kx
open Go
structure Kn where
 tRS:Nat
 tSl:Nat
 tB:Nat
 tInt:Nat
 tU8:Nat
 tI8:Nat
 tI16:Nat
 tU16:Nat
 tI32:Nat
 tU32:Nat
 tI64:Nat
 tU64:Nat
 tStr:Nat
 tUuid:Nat
 tBE:Nat
 tErr:Nat
 gBE:Nat
 gErr:Nat
 fU16:Nat
 fU32:Nat
 fU64:Nat
 fUv:Nat
 fR64:Nat
def iW (K:Kn)(s n:Nat):List Oper:=[mk (some n) (.move (tm s)),mk (some (n+1)) (.nilCheck (tm n)),mk (some (n+2)) (.fieldAddr K.tRS (tm (n+1)) 0),mk (some (n+3)) (.load K.tSl (tm (n+2)))]
def zy (K:Kn)(k:Nat)(A B:GC):GC:=ej 5 6 (fun n=>iW K 0 n++[bi (some (n+4)) .len [tm (n+3)] [K.tSl] K.tInt,mk (some (n+5)) (.binOp .lss K.tInt (tm (n+4)) (ki .i64 k) 0)]) A B
def q4 (K:Kn)(s:Nat)(z:Value):GC:=gS [aA 3 fun n=>[mk (some n) (.move (tm 0)),mk (some (n+1)) (.nilCheck (tm n)),mk (some (n+2)) (.fieldAddr K.tRS (tm (n+1)) 1),mk none (.store K.tB (tm (n+2)) (.const (.bool true)))],
 aA 3 fun n=>[mk (some n) (.move (tm 0)),mk (some (n+1)) (.nilCheck (tm n)),mk (some (n+2)) (.fieldAddr K.tRS (tm (n+1)) 0),mk none (.store K.tSl (tm (n+2)) (.const (.slice none 0 0)))],aU s z,aY .ret]
def rS (K:Kn)(z:Value):GC:=q4 K 2 z
def Ba (K:Kn)(k:Nat):GC:=aA 8 fun n=>mk (some n) (.move (tm 0))::(iW K 0 (n+1)++[mk (some (n+5)) (.slice K.tSl (tm (n+4)) (some (ki .i64 k)) none none),mk (some (n+6)) (.nilCheck (tm n)),mk (some (n+7)) (.fieldAddr K.tRS (tm (n+6)) 0),mk none (.store K.tSl (tm (n+7)) (tm (n+5)))])
def mq (K:Kn)(l:Nat):GC:=aA 9 fun n=>mk (some n) (.move (tm 0))::(iW K 0 (n+1)++[mk (some (n+5)) (.move (tm l)),mk (some (n+6)) (.slice K.tSl (tm (n+4)) (some (tm (n+5))) none none),mk (some (n+7)) (.nilCheck (tm n)),mk (some (n+8)) (.fieldAddr K.tRS (tm (n+7)) 0),mk none (.store K.tSl (tm (n+8)) (tm (n+6)))])
structure KT (P:Program)(g:G)(K:Kn):Prop where
 mixed:P.follows .mixedOrders=true
 f0:bp P K.tRS 0 K.tSl 0 false 1
 f1:bp P K.tRS 1 K.tB 1 false 1
 sl:P.underlying K.tSl=some (.slice K.tU8)
 u8:bd P K.tU8 false 1
 dU8:P.underlying K.tU8=some (.int .u8)
 dI8:bL K.tI8=true->P.underlying K.tI8=some (.int .i8)
 dI16:P.underlying K.tI16=some (.int .i16)
 dI32:P.underlying K.tI32=some (.int .i32)
 dU32:P.underlying K.tU32=some (.int .u32)
 dInt:P.underlying K.tInt=some (.int .i64)
section
variable {P:Program} {g:G} {K:Kn} {T S R:Nat} {r:RS} {x n:Nat} {KK:Act->World->Prop} {Q:Exit->Act->World->Prop} {a:Act} {w:World}
def Br (w:World)(T S R:Nat)(v:Value)(r:RS):Prop:=w.heap[R]?=some (.cells #[v,.bool r.bad] T (0,0))/\bQ w S v r
theorem bQ.len {v:Value}(h:bQ w S v r):∃ base c,v=.slice base r.src.length c/\(base=none->r.src=[]/\c=0/\r.nl=true)/\r.src.length<=c/\c<=maxLen/\∀ b,base=some b->∃ o,b=⟨S,o,none⟩/\r.nl=false/\S<w.heap.size/\fP w S o r.src:=by
 rcases h with⟨h1,h2,h3⟩|⟨o,c,h1,h2,h3,h4,h5,h6⟩
 ·exact⟨none,0,by rw[h1,h2];rfl,fun _=>⟨h2,rfl,h3⟩,by rw[h2];simp,by simp,fun b hb=>(by cases hb)⟩
 ·exact⟨some ⟨S,o,none⟩,c,h1,fun h=>(by cases h),h3,h4,fun b hb=>(by cases hb;exact⟨o,rfl,h2,h5,h6⟩)⟩
theorem kz (kt:KT P g K){ops:Array Oper}{l:List Oper}{s:Nat}{v:Value}(hs:a.get s=pt R 0)(hR:Br w T S R v r)(hn:n+4<=a.tmps.size)(h:∀ a',Pv n 0 0 n a a'->a'.get (n+3)=v->wpList P ops Q l a' w):wpList P ops Q (iW K s n++l) a w:=by
 have hc:w.cell? ⟨R,0+0,none⟩=some v:=by simp[World.cell?,hR.1]
 show wpList P ops Q (mk (some n) (.move (tm s))::mk (some (n+1)) (.nilCheck (tm n))::mk (some (n+2)) (.fieldAddr K.tRS (tm (n+1)) 0)::mk (some (n+3)) (.load K.tSl (tm (n+2)))::l) a w
 refine ag ?_
 rw[aa,hs]
 refine aL (by rw[aa,am (by omega)];rfl) ?_
 refine bR (by rw[aa,am (by simp only[ab];omega)]) kt.f0 ?_
 refine b5 (by rw[aa,am (by simp only[ab];omega)]) (kt.f0.var.agg _) hc ?_
 exact h _ (((((Pv.refl _ _ _ _ _).put _ (by omega)).put _ (by omega)).put _ (by omega)).put _ (by omega)) (am (by simp only[ab];omega))
theorem AY (kt:KT P g K){v:Value}{k:Nat}{A B:GC}(h0:a.get 0=pt R 0)(hR:Br w T S R v r)(hn:n+6<=a.tmps.size)
  (h:∀ a',Pv n 0 0 n a a'->if r.src.length<k then aQ P (A (n+6)).1 Q a' w else aQ P (B (A (n+6)).2).1 Q a' w):aQ P (zy K k A B n).1 Q a w:=by
 obtain⟨base,c,hv,_⟩:=hR.2.len
 subst hv
 have key:∀ (b:Bool) (K':Act->World->Prop),b=decide ((r.src.length:Int)<(k:Int))->(∀ a',a'.eval (tm (n+5))=.bool b->Pv n 0 0 n a a'->K' a' w) ->
   wpList P (iW K 0 n++[bi (some (n+4)) .len [tm (n+3)] [K.tSl] K.tInt,mk (some (n+5)) (.binOp .lss K.tInt (tm (n+4)) (ki .i64 k) 0)]).toArray (Exit.then K' Q) (iW K 0 n++[bi (some (n+4)) .len [tm (n+3)] [K.tSl] K.tInt,mk (some (n+5)) (.binOp .lss K.tInt (tm (n+4)) (ki .i64 k) 0)]) a w:=by
  intro b K' hb hK
  refine kz kt h0 hR (by omega) fun a1 Gk Gv=>?_
  have Gu:=Gk.size
  refine en (by rw[aa,Gv]) kt.sl ?_
  refine bt (b:=b) (p:=(r.src.length:Int)) (q:=k) (k:=.i64) (by rw[aa,am (by omega)]) rfl (.inr (.inr (.inl ⟨rfl,hb⟩))) (wpList_nil (hK _ (by rw[aa,am (by simp only[ab];omega)]) ((Gk.put _ (by omega)).put _ (by omega))))
 by_cases Gq:r.src.length<k
 ·refine dt (key true _ (by simp;omega) fun a' he hp=>⟨he,?_⟩)
  have:=h a' hp
  rwa [if_pos Gq]at this
 ·refine dg (key false _ (by simp;omega) fun a' he hp=>⟨he,?_⟩)
  have:=h a' hp
  rwa [if_neg Gq]at this
theorem rR (kt:KT P g K){v z:Value}{E:Act->World->Prop}{N:Act->World->Prop}(h0:a.get 0=pt R 0)(hR:Br w T S R v r)(_hRS:S≠R)(hn:n+6<=a.tmps.size){s:Nat}(Vi:s<n)
  (h:∀ a' w',a'.defers=a.defers->a'.get s=z->cQ w' T S R .fail->ac (·=R) w w'->E a' w'):aQ P (q4 K s z n).1 (Rt N E) a w:=by
 refine bm (ad (au (ag ?_)))
 rw[aa,h0]
 refine aL (by rw[aa,am (by omega)];rfl) ?_
 refine bR (by rw[aa,am (by simp only[ab];omega)]) kt.f1 ?_
 refine bw (cur:=#[v,.bool r.bad]) (t:=T) (v:=.bool true) (vs:=[.bool true]) (by rw[aa,am (by simp only[ab];omega)]) rfl rfl (kt.f1.var.size _) hR.1 (by simp) (fun u hu=>by simp at hu;rw[hu];rfl) (wpList_nil ?_)
 have e1:aI #[v,.bool r.bad] (0+1) [.bool true]=#[v,.bool true]:=by simp[aI]
 rw[e1]
 have Gk:Pv n 0 0 n a (((a.put (some n) (pt R 0)).put (some (n+1)) (.pointer (some ⟨R,0,none⟩))).put (some (n+2)) (.pointer (some ⟨R,0+1,none⟩))):=(((Pv.refl _ _ _ _ _).put _ (by omega)).put _ (by omega)).put _ (by omega)
 generalize((a.put (some n) (pt R 0)).put (some (n+1)) (.pointer (some ⟨R,0,none⟩))).put (some (n+2)) (.pointer (some ⟨R,0+1,none⟩))=a1 at Gk ⊢
 have Gu:=Gk.size
 have JL:(w.setRow R #[v,.bool true]).heap[R]?=some (.cells #[v,.bool true] T (0,0)):=setRow_heap _ _ _ _ _ _ hR.1
 rw[show(aA 3 (fun n=>[mk (some n) (.move (tm 0)),mk (some (n+1)) (.nilCheck (tm n)),mk (some (n+2)) (.fieldAddr K.tRS (tm (n+1)) 1),mk none (.store K.tB (tm (n+2)) (.const (.bool true)))]) n).2=n+3 from rfl]
 refine ad (au (ag ?_))
 rw[aa,Gk.get 0 (by omega) (.inr ⟨by omega,by omega⟩),h0]
 refine aL (by rw[aa,am (by omega)];rfl) ?_
 refine bR (by rw[aa,am (by simp only[ab];omega)]) kt.f0 ?_
 refine bw (cur:=#[v,.bool true]) (t:=T) (v:=.slice none 0 0) (vs:=[.slice none 0 0]) (by rw[aa,am (by simp only[ab];omega)]) rfl rfl (kt.f0.var.size _) JL (by simp) (fun u hu=>by simp at hu;rw[hu];rfl) (wpList_nil ?_)
 have e2:aI #[v,.bool true] (0+0) [.slice none 0 0]=#[.slice none 0 0,.bool true]:=by simp[aI]
 rw[e2]
 refine ad (dH (x:=s) (m:=0) (k0:=0) (.inl rfl) (by simp only[ab];omega) fun a2 Gm G2=>?_)
 refine ad (.ret (h a2 _ ?_ G2 ?_ ?_))
 ·rw[Gm.defers];simp only[ai];exact Gk.defers
 ·exact⟨.slice none 0 0,setRow_heap _ _ _ _ _ _ JL,.inl ⟨rfl,rfl,rfl⟩⟩
 ·exact(ac.setRow (fun k=>k=R) _ _ _ rfl).trans (ac.setRow (fun k=>k=R) _ _ _ rfl)
theorem tZ (kt:KT P g K){v z:Value}{E:Act->World->Prop}{N:Act->World->Prop}(h0:a.get 0=pt R 0)(hR:Br w T S R v r)(hRS:S≠R)(hn:n+6<=a.tmps.size)(Vi:2<n)
  (h:∀ a' w',a'.defers=a.defers->a'.get 2=z->cQ w' T S R .fail->ac (·=R) w w'->E a' w'):aQ P (rS K z n).1 (Rt N E) a w:=rR kt h0 hR hRS hn Vi h
def gD (v:Value)(k:Nat):Value:=
 match v with
 | .slice base n c=>.slice (if c=k then base else base.map (·.add k)) (n-k) (c-k)
 | v=>v
theorem bQ.cut {v:Value}{k:Nat}(h:bQ w S v r)(hk:k<=r.src.length):bQ w S (gD v k) ⟨r.src.drop k,r.bad,r.nl⟩:=by
 rcases h with⟨h1,h2,h3⟩|⟨o,c,h1,h2,h3,h4,h5,h6⟩
 ·have:k=0:=by rw[h2]at hk;simpa using hk
  subst this
  refine .inl ⟨by rw[h1];rfl,by simp[h2],h3⟩
 ·subst h1
  by_cases hc:c=k
  ·refine .inr ⟨o,c-k,?_,h2,by simp;omega,by omega,h5,?_⟩
   ·simp[gD,hc]
   ·have:r.src.length=k:=by omega
    intro i x hi
    simp[this]at hi
  ·refine .inr ⟨o+k,c-k,?_,h2,by simp;omega,by omega,h5,fun i x hi=>?_⟩
   ·simp[gD,hc,Addr.add_lit]
   ·have:=h6 (k+i) x (by simpa using hi)
    rwa [<- Nat.add_assoc]at this
theorem nj (kt:KT P g K){ops:Array Oper}{l:List Oper}{d:Option Nat}{y lo:Operand}{v:Value}{k:Nat}(hy:a.eval y=v)(hv:bQ w S v r)(HG:a.eval lo=.int .i64 k)(hk:k<=r.src.length)
  (h:wpList P ops Q l (a.put d (gD v k)) w):wpList P ops Q (mk d (.slice K.tSl y (some lo) none none)::l) a w:=by
 refine aD ?_ h
 obtain⟨base,c,J5,P7,Lk,IK,hb⟩:=hv.len
 subst J5
 have hs:=kt.u8.size w
 have Gy:k<=c:=by omega
 have Hk:¬ ((k:Int)<0):=by omega
 simp[execOp,mk,hy,HG,Instr.sliceAt,Instr.slice,run_underlying kt.sl,Instr.sliceBounds,Instr.sliceBound,asIntOf,hs,hk,gD]
theorem FB (kt:KT P g K){v:Value}{k:Nat}(h0:a.get 0=pt R 0)(hR:Br w T S R v r)(hk:k<=r.src.length)(hRS:S≠R)(hn:n+8<=a.tmps.size)(h0n:0<n)
  (h:∀ a',Pv n 0 0 n a a'->cQ (w.setRow R #[gD v k,.bool r.bad]) T S R ⟨r.src.drop k,r.bad,r.nl⟩->KK a' (w.setRow R #[gD v k,.bool r.bad])):aQ P (Ba K k n).1 (Exit.then KK Q) a w:=by
 refine au (ag ?_)
 rw[aa,h0]
 refine kz kt (v:=v) (by rw[ak (by omega)];exact h0) hR (by simp only[ab];omega) fun a1 Gk Gv=>?_
 have Gu:=Gk.size
 rw[ab]at Gu
 have MG:a1.get n=pt R 0:=by rw[Gk.get n (by omega) (.inr ⟨by omega,by omega⟩),am (by omega)]
 have IG:Pv n 0 0 n a a1:=((Pv.refl n 0 0 n a).put (pt R 0) (by omega)).trans ⟨Gk.size,Gk.defers,fun s hs hh=>Gk.get s (by omega) (.inr ⟨by omega,by omega⟩)⟩
 refine nj kt (k:=k) (by rw[aa];exact Gv) hR.2 rfl hk ?_
 refine aL (by rw[aa,ak (by omega),MG];rfl) ?_
 refine bR (by rw[aa,am (by simp only[ab];omega)]) kt.f0 ?_
 obtain⟨Vl,Vj⟩:=jK (hR.2.cut hk)
 refine bw (cur:=#[v,.bool r.bad]) (t:=T) (v:=gD v k) (vs:=[gD v k]) (by rw[aa,am (by simp only[ab];omega)]) (by rw[aa,ak (by omega),ak (by omega),am (by omega)]) (by rw[Vj]) (kt.f0.var.size _) hR.1 (by simp)
  (fun u hu=>by simp at hu;rw[hu];exact Vl) (wpList_nil ?_)
 have e1:aI #[v,.bool r.bad] (0+0) [gD v k]=#[gD v k,.bool r.bad]:=by simp[aI]
 rw[e1]
 refine h _ (((IG.put _ (by omega)).put _ (by omega)).put _ (by omega)) ⟨_,setRow_heap _ _ _ _ _ _ hR.1,(hR.2.cut hk).keep (ac.setRow (fun k=>k=R) _ _ _ rfl) hRS⟩
end
section
variable {P:Program} {g:G} {K:Kn} {T S R:Nat} {r:RS} {x n:Nat} {KK:Act->World->Prop} {Q:Exit->Act->World->Prop} {a:Act} {w:World}
theorem kM (I:World->Prop):∀ (l1 l2:List Oper) (a:Act) (K':Act->Prop),gn P I l1 a (fun a'=>gn P I l2 a' K')->gn P I (l1++l2) a K'
 | [],_,_,_,h=>h
 | _::l1,l2,_a,K',⟨v,h1,h2⟩=>⟨v,h1,kM I l1 l2 _ K' h2⟩
theorem fO {I:World->Prop}{d:Nat}{y:Operand}{l:List Oper}{K':Act->Prop}(h:gn P I l (a.put (some d) (a.eval y)) K'):gn P I (mk (some d) (.move y)::l) a K':=⟨_,fun _ _=>rfl,h⟩
theorem mw {I:World->Prop}{d:Nat}{y:Operand}{p:Addr}{l:List Oper}{K':Act->Prop}(hy:a.eval y=.pointer (some p))(h:gn P I l (a.put (some d) (.pointer (some p))) K'):gn P I (mk (some d) (.nilCheck y)::l) a K':=
 ⟨_,fun w _=>by simp[execOp,mk,hy],h⟩
theorem ui {I:World->Prop}{d:Nat}{y:Operand}{F TT k B O off sz:Nat}{agg:Bool}{l:List Oper}{K':Act->Prop}(hy:a.eval y=.pointer (some ⟨B,O,none⟩))(hF:bp P TT k F off agg sz)
  (h:gn P I l (a.put (some d) (.pointer (some ⟨B,O+off,none⟩))) K'):gn P I (mk (some d) (.fieldAddr TT y k)::l) a K':=by
 obtain⟨fs,f,h1,h2,h3,h4⟩:=hF.fld
 obtain⟨q,rfl⟩:∃ q,sz=q+1:=⟨sz-1,by have:=hF.pos;omega⟩
 have G0:∀ w,(sizeOf f.type).run P w=.ok (q+1) w:=fun w=>by rw[h4];exact hF.var.size w
 exact⟨_,fun w _=>by simp[execOp,mk,hy,Instr.fieldAt,run_underlying h1,h2,h3,fieldPlace,G0,Instr.sureAddr,Addr.add_lit],h⟩
theorem eQ {I:World->Prop}{d:Nat}{y:Operand}{F:Nat}{p:Addr}{v:Value}{l:List Oper}{K':Act->Prop}(hy:a.eval y=.pointer (some p))(hF:∀ w,(isAgg F).run P w=.ok false w)(hv:∀ w,I w->w.cell? p=some v)
  (h:gn P I l (a.put (some d) v) K'):gn P I (mk (some d) (.load F y)::l) a K':=
 ⟨_,fun w hI=>by simp[execOp,mk,hy,Instr.loadAt,Instr.sureAddr,loadVar,hF,load,hv w hI,Sem.run],h⟩
theorem iu {I:World->Prop}{d:Nat}{y z:Operand}{F E' b o m c i sz:Nat}{k:IntKind}{l:List Oper}{K':Act->Prop}(hy:a.eval y=.slice (some ⟨b,o,none⟩) m c)(hz:a.eval z=.int k i)(hi:i<m)(hF:P.underlying F=some (.slice E'))
  (hs:∀ w,(sizeOf E').run P w=.ok sz w) (h:gn P I l (a.put (some d) (.pointer (some ⟨b,o+i*sz,none⟩))) K'):gn P I (mk (some d) (.indexAddr F y z)::l) a K':=
 ⟨_,fun w _=>by simp[execOp,mk,hy,hz,Instr.indexAt,asIntOf,run_underlying hF,hs,hi,Addr.add_lit],h⟩
theorem vh {I:World->Prop}{d:Nat}{y:Operand}{A B:Nat}{k k':IntKind}{m:Int}{l:List Oper}{K':Act->Prop}(hy:a.eval y=.int k m)(hA:P.underlying A=some (.int k))(hB:P.underlying B=some (.int k'))
  (h:gn P I l (a.put (some d) (.int k' (k'.wrap m))) K'):gn P I (mk (some d) (.convert A B y)::l) a K':=
 ⟨_,fun w _=>by simp[execOp,mk,hy,convert,run_underlying hA,run_underlying hB,Conv.intToInt],h⟩
theorem qC {I:World->Prop}{d:Nat}{op:BinOp}{A:Nat}{y z:Operand}{k k2:IntKind}{m m2:Int}{v:Value}{l:List Oper}{K':Act->Prop}(hy:a.eval y=.int k m)(hz:a.eval z=.int k2 m2)
  (Nk:∀ w,(binOp op A (.int k m) (.int k2 m2)).run P w=.ok v w) (h:gn P I l (a.put (some d) v) K'):gn P I (mk (some d) (.binOp op A y z 0)::l) a K':=by
 refine⟨v,fun w _=>?_,h⟩
 have he:(eqGuard op A y z (.int k m) (.int k2 m2)).run P w=.ok () w:=by
  unfold eqGuard
  cases op<;>simp
 simp only[execOp,mk,hy,hz,Sem.run_bind,he,Result.andThen_ok,Nk,Sem.run_pure]
def uk (k:IntKind):Prop:=k=.u16 \/ k=.u32 \/ k=.u64
theorem gk {k:IntKind}(hk:uk k){m:Nat}(h:m<2^k.bits):k.wrap (m:Int)=m:=by
 rcases hk with rfl|rfl|rfl<;>simp[IntKind.wrap,IntKind.bits,IntKind.signed]at h ⊢<;>omega
theorem uS {k:IntKind}(hk:uk k){A:Nat}{b s:Nat}(hb:b<256)(hs:s+8<=k.bits)(w:World):(binOp .shl A (.int k (b:Int)) (.int .u64 (s:Int))).run P w=.ok (.int k ((b*2^s:Nat):Int)) w:=by
 have h1:¬ ((s:Int)<0):=by omega
 have h2:min s k.bits=s:=by omega
 have h3:b*2^s<2^k.bits:=by
  have:2^(s+8)<=2^k.bits:=Nat.pow_le_pow_right (by omega) hs
  rw[Nat.pow_add]at this
  have h4:b*2^s<2^s*2^8:=by
   rw[Nat.mul_comm]
   exact Nat.mul_lt_mul_of_pos_left (by omega) (Nat.two_pow_pos s)
  omega
 have h5:((b:Int)*2^s)=((b*2^s:Nat):Int):=by simp
 simp only[binOp,Op.shift,h1,if_false,Int.toNat_natCast,h2,h5,gk hk h3,Sem.run_pure]
theorem yo {k:IntKind}(hk:uk k){A:Nat}{acc b s:Nat}(ha:acc<2^s)(hb:b<256)(hs:s+8<=k.bits)(w:World):(binOp .or A (.int k (acc:Int)) (.int k ((b*2^s:Nat):Int))).run P w=.ok (.int k ((b*2^s+acc:Nat):Int)) w:=by
 have hp:2^(s+8)<=2^k.bits:=Nat.pow_le_pow_right (by omega) hs
 rw[Nat.pow_add]at hp
 have h4:b*2^s+2^s<=2^s*2^8:=by
  have:(b+1)*2^s<=256*2^s:=Nat.mul_le_mul_right _ (by omega)
  rw[Nat.add_mul,Nat.one_mul]at this
  omega
 have h3:b*2^s+acc<2^k.bits:=by omega
 have e1:BitVec.ofInt k.bits (acc:Int)=BitVec.ofNat k.bits acc:=by simp
 have e2:BitVec.ofInt k.bits ((b*2^s:Nat):Int)=BitVec.ofNat k.bits (b*2^s):=BitVec.ofInt_natCast ..
 have e3:acc ||| b*2^s=b*2^s+acc:=by
  rw[Nat.or_comm,Nat.mul_comm,<- Nat.two_pow_add_eq_or_of_lt ha]
 have e4:(BitVec.ofNat k.bits acc ||| BitVec.ofNat k.bits (b*2^s)).toNat=b*2^s+acc:=by
  rw[BitVec.toNat_or,BitVec.toNat_ofNat,BitVec.toNat_ofNat,Nat.mod_eq_of_lt (by omega),Nat.mod_eq_of_lt (by omega),e3]
 have HM:(k≠k)=False:=by simp
 simp only[binOp,HM,if_false,Op.intBits,e1,e2,e4,gk hk h3,Sem.run_pure]
def Aa (K:Kn)(tK n acc i s:Nat):List Oper:=[mk (some n) (.move (tm 1)),mk (some (n+1)) (.indexAddr K.tSl (tm n) (ki .i64 i)),mk (some (n+2)) (.load K.tU8 (tm (n+1))),mk (some (n+3)) (.convert K.tU8 tK (tm (n+2))),
 mk (some (n+4)) (.binOp .shl tK (tm (n+3)) (ki .u64 s) 0),mk (some (n+5)) (.binOp .or tK (tm acc) (tm (n+4)) 0)]
def lF (K:Kn)(tK k:Nat):Nat->Nat->Nat->List Oper
 | 0,_,_=>[]
 | m+1,j,n=>Aa K tK n (n-1) (k-1-j) (8*j)++lF K tK k m (j+1) (n+6)
def jT (K:Kn)(tK k:Nat):List Oper:=[mk (some 8) (.move (tm 1)),mk (some 9) (.indexAddr K.tSl (tm 8) (ki .i64 ((k-1:Nat):Int))),mk (some 10) (.load K.tU8 (tm 9)),mk (some 11) (.convert K.tU8 tK (tm 10))]++lF K tK k (k-1) 1 12
def gBig (K:Kn)(tK:Nat)(kind:IntKind)(k:Nat):Code:=
 sq [rg [mk (some 2) (.box K.tBE (tm 0)),mk (some 4) (.assign (ki kind 0))],
  rg [mk (some 5) (.move (tm 1)),mk (some 6) (.indexAddr K.tSl (tm 5) (ki .i64 ((k-1:Nat):Int))),mk (some 7) (.load K.tU8 (tm 6))],
  .region 1 (jT K tK k++[mk (some 4) (.assign (tm (12+6*(k-1)-1)))]).toArray true,.ret]
theorem oO (b:UInt8)(l:Bs):cX (b::l)=b.toNat*256^l.length+cX l:=by
 have h:∀ (l:Bs) (a:Nat),l.foldl (fun a b=>a*256+b.toNat) a=a*256^l.length+l.foldl (fun a b=>a*256+b.toNat) 0:=by
  intro l
  induction l with
  | nil=>intro a;simp
  | cons b l ih=>
   intro a
   simp only[List.foldl_cons,List.length_cons]
   rw[ih,ih (0*256+b.toNat)]
   rw[Nat.pow_succ,Nat.add_mul,Nat.zero_mul,Nat.zero_add,Nat.mul_assoc,Nat.mul_comm 256 (256^l.length)]
   omega
 simp only[cX,List.foldl_cons]
 rw[h]
 simp
theorem pK (l:Bs):cX l<256^l.length:=by
 induction l with
 | nil=>simp[cX]
 | cons b l ih=>
  rw[oO,List.length_cons,Nat.pow_succ]
  have:=UInt8.toNat_lt b
  have h:(b.toNat+1)*256^l.length<=256*256^l.length:=Nat.mul_le_mul_right _ (by omega)
  rw[Nat.add_mul,Nat.one_mul]at h
  omega
theorem sa (kt:KT P g K){tK k:Nat}{kind:IntKind}(H4:uk kind)(hK:P.underlying tK=some (.int kind)){I:World->Prop}{o len c:Nat}{src:Bs}(hI:∀ w,I w->fP w S o src)(Gp:len=src.length)(hk:k<=src.length)(hb:8*k<=kind.bits) :
  ∀ (m j n:Nat) (a:Act) (K':Act->Prop),m+j=k->1<=j->12<=n->n+6*m<=a.tmps.size->a.get 1=.slice (some ⟨S,o,none⟩) len c->a.get (n-1)=.int kind ((cX ((src.take k).drop (k-j)):Nat):Int) ->
   (∀ a',a'.tmps.size=a.tmps.size->a'.defers=a.defers->a'.get (n+6*m-1)=.int kind ((cX (src.take k):Nat):Int)->K' a')->gn P I (lF K tK k m j n) a K'
 | 0,j,n,a,K',hm,hj,hn,hs,h1,IL,h=>by
  have:j=k:=by omega
  subst this
  exact h a rfl rfl (by simpa using IL)
 | m+1,j,n,a,K',hm,hj,hn,hs,h1,IL,h=>by
  refine kM I _ _ a K' ?_
  have TQ:k-1-j<src.length:=by omega
  obtain⟨b,HZ⟩:∃ b,src[k-1-j]?=some b:=⟨src[k-1-j],by simp[TQ]⟩
  have M1:=UInt8.toNat_lt b
  have Lo:IntKind.wrap kind (b.toNat:Int)=b.toNat:=gk H4 (by rcases H4 with rfl|rfl|rfl<;>simp[IntKind.bits]<;>omega)
  have Ju:(src.take k).drop (k-(j+1))=b::(src.take k).drop (k-j):=by
   have e:k-(j+1)=k-1-j:=by omega
   have hl:k-1-j<(src.take k).length:=by simp;omega
   rw[e,List.drop_eq_getElem_cons hl]
   congr 1
   ·have:=(List.getElem?_eq_some_iff.1 HZ).2
    simpa using this
   ·congr 1
    omega
  have K1:((src.take k).drop (k-j)).length=j:=by simp;omega
  have Pe:cX ((src.take k).drop (k-j))<2^(8*j):=by
   have:=pK ((src.take k).drop (k-j))
   rw[K1]at this
   have e:(256:Nat)^j=2^(8*j):=by rw[Nat.pow_mul]
   omega
  unfold Aa
  refine fO ?_
  rw[aa,h1]
  refine iu (i:=k-1-j) (k:=.i64) (sz:=1) (by rw[aa,am (by omega)]) rfl (by omega) kt.sl (fun w=>kt.u8.size w) ?_
  refine eQ (v:=.int .u8 (b.toNat:Int)) (by rw[aa,am (by simp only[ab];omega)]) (fun w=>kt.u8.agg w) (fun w hw=>by rw[Nat.mul_one];exact hI w hw _ b HZ) ?_
  refine vh (k:=.u8) (k':=kind) (m:=(b.toNat:Int)) (by rw[aa,am (by simp only[ab];omega)]) kt.dU8 hK ?_
  rw[Lo]
  refine qC (k:=kind) (k2:=.u64) (m:=(b.toNat:Int)) (m2:=((8*j:Nat):Int)) (by rw[aa,am (by simp only[ab];omega)]) rfl (fun w=>uS H4 M1 (by omega) w) ?_
  refine qC (k:=kind) (k2:=kind) (by rw[aa,ak (by omega),ak (by omega),ak (by omega),ak (by omega),ak (by omega)];exact IL) (by rw[aa,am (by simp only[ab];omega)])
   (fun w=>yo H4 Pe M1 (by omega) w) ?_
  show gn P I (lF K tK k m (j+1) (n+6)) _ K'
  refine sa (c:=c) kt H4 hK hI Gp hk hb m (j+1) (n+6) _ K' (by omega) (by omega) (by omega) (by simp only[ab];omega) ?_ ?_ fun a' hs' hd' GA=>h a' (by rw[hs'];simp only[ab]) (by rw[hd'];simp only[ai]) (by rw[show n+6*(m+1)-1=n+6+6*m-1 by omega];exact GA)
  ·rw[ak (by omega),ak (by omega),ak (by omega),ak (by omega),ak (by omega),ak (by omega)];exact h1
  ·rw[show n+6-1=n+5 by omega,am (by simp only[ab];omega),Ju,oO,K1]
   have e:(256:Nat)^j=2^(8*j):=by rw[Nat.pow_mul]
   rw[e]
theorem Bi (kt:KT P g K){tK k:Nat}{kind:IntKind}(H4:uk kind)(hK:P.underlying tK=some (.int kind)){I:World->Prop}{o len c:Nat}{src:Bs}(hI:∀ w,I w->fP w S o src)(Gp:len=src.length)(hk:k<=src.length)(Hk:0<k)(hb:8*k<=kind.bits)
  {K':Act->Prop} (hs:12+6*(k-1)<=a.tmps.size) (h1:a.get 1=.slice (some ⟨S,o,none⟩) len c)
  (h:∀ a',a'.tmps.size=a.tmps.size->a'.defers=a.defers->a'.get (12+6*(k-1)-1)=.int kind ((cX (src.take k):Nat):Int)->K' a'):gn P I (jT K tK k) a K':=by
 refine kM I _ _ a K' ?_
 have TQ:k-1<src.length:=by omega
 obtain⟨b,HZ⟩:∃ b,src[k-1]?=some b:=⟨src[k-1],by simp[TQ]⟩
 have M1:=UInt8.toNat_lt b
 have Lo:IntKind.wrap kind (b.toNat:Int)=b.toNat:=gk H4 (by rcases H4 with rfl|rfl|rfl<;>simp[IntKind.bits]<;>omega)
 have Ju:(src.take k).drop (k-1)=[b]:=by
  have hl:k-1<(src.take k).length:=by simp;omega
  rw[List.drop_eq_getElem_cons hl]
  congr 1
  ·have:=(List.getElem?_eq_some_iff.1 HZ).2
   simpa using this
  ·apply List.drop_eq_nil_of_le
   simp
   omega
 refine fO ?_
 rw[aa,h1]
 refine iu (i:=k-1) (k:=.i64) (sz:=1) (by rw[aa,am (by omega)]) rfl (by omega) kt.sl (fun w=>kt.u8.size w) ?_
 refine eQ (v:=.int .u8 (b.toNat:Int)) (by rw[aa,am (by simp only[ab];omega)]) (fun w=>kt.u8.agg w) (fun w hw=>by rw[Nat.mul_one];exact hI w hw _ b HZ) ?_
 refine vh (k:=.u8) (k':=kind) (m:=(b.toNat:Int)) (by rw[aa,am (by simp only[ab];omega)]) kt.dU8 hK ?_
 rw[Lo]
 show gn P I (lF K tK k (k-1) 1 12) _ K'
 refine sa (c:=c) kt H4 hK hI Gp hk hb (k-1) 1 12 _ K' (by omega) (by omega) (by omega) (by simp only[ab];omega) ?_ ?_ fun a' hs' hd' GA=>h a' (by rw[hs'];simp only[ab]) (by rw[hd'];simp only[ai]) GA
 ·rw[ak (by omega),ak (by omega),ak (by omega),ak (by omega)];exact h1
 ·rw[show 12-1=11 from rfl,am (by simp only[ab];omega),Ju]
  simp[cX]
theorem pu (kt:KT P g K){f ntmps tK k:Nat}{kind:IntKind}(hfn:FnIs P f ntmps [4] (gBig K tK kind k))(G8:12+6*(k-1)<=ntmps)(H4:uk kind)(hK:P.underlying tK=some (.int kind))(Hk:0<k)(hb:8*k<=kind.bits)(_hbe:bd P K.tBE true 0)
  (Qv:∃ fl,dW (jT K tK k++[mk (some 4) (.assign (tm (12+6*(k-1)-1)))])=fl/\dD (jT K tK k++[mk (some 4) (.assign (tm (12+6*(k-1)-1)))]) fl=jT K tK k/\cq (jT K tK k++[mk (some 4) (.assign (tm (12+6*(k-1)-1)))]) fl=[mk (some 4) (.assign (tm (12+6*(k-1)-1)))])
  {v:Value} (Ic:bQ w S v r) (Gp:k<=r.src.length):Calls P f #[.agg #[],v] w fun e w'=>e=.returned (.int kind ((cX (r.src.take k):Nat):Int))/\ac (fun _=>False) w w':=by
 obtain⟨o,c,hv,Hi,Lk,IK,Wf,KN⟩:∃ o c,v=.slice (some ⟨S,o,none⟩) r.src.length c/\r.nl=false/\r.src.length<=c/\c<=maxLen/\S<w.heap.size/\fP w S o r.src:=by
  rcases Ic with⟨_,h2,_⟩|h
  ·rw[h2]at Gp;simp at Gp;omega
  ·exact h
 subst hv
 refine hfn.calls kt.mixed (by simp) ?_
 have G0:=cH #[.agg #[],.slice (some ⟨S,o,none⟩) r.src.length c] ntmps (by show 2<=ntmps;omega)
 have HS:({ tmps:=#[.agg #[],.slice (some ⟨S,o,none⟩) r.src.length c]++Array.replicate (ntmps-(#[Value.agg #[],.slice (some ⟨S,o,none⟩) r.src.length c]:Array Value).size) undef,defers:=[] }:Act).get 0=.agg #[]:=by rw[bX _ _ _ (by simp)];rfl
 have Gv:({ tmps:=#[.agg #[],.slice (some ⟨S,o,none⟩) r.src.length c]++Array.replicate (ntmps-(#[Value.agg #[],.slice (some ⟨S,o,none⟩) r.src.length c]:Array Value).size) undef,defers:=[] }:Act).get 1=.slice (some ⟨S,o,none⟩) r.src.length c:=by rw[bX _ _ _ (by simp)];rfl
 have IC:({ tmps:=#[.agg #[],.slice (some ⟨S,o,none⟩) r.src.length c]++Array.replicate (ntmps-(#[Value.agg #[],.slice (some ⟨S,o,none⟩) r.src.length c]:Array Value).size) undef,defers:=[] }:Act).defers=[]:=rfl
 have hsz':({ tmps:=#[.agg #[],.slice (some ⟨S,o,none⟩) r.src.length c]++Array.replicate (ntmps-(#[Value.agg #[],.slice (some ⟨S,o,none⟩) r.src.length c]:Array Value).size) undef,defers:=[] }:Act).tmps.size=ntmps:=G0
 generalize({ tmps:=#[.agg #[],.slice (some ⟨S,o,none⟩) r.src.length c]++Array.replicate (ntmps-(#[Value.agg #[],.slice (some ⟨S,o,none⟩) r.src.length c]:Array Value).size) undef,defers:=[] }:Act)=a at HS Gv IC hsz' ⊢
 have TK:k-1<r.src.length:=by omega
 obtain⟨b,HZ⟩:∃ b,r.src[k-1]?=some b:=⟨r.src[k-1],by simp[TK]⟩
 unfold gBig
 refine az (au ?_)
 refine aD (v:=.pointer (some ⟨w.heap.size,0,none⟩)) (w':=w.alloc (.cells #[] K.tBE (0,0))) ?_ (aj (wpList_nil ?_))
 ·have:a.eval (tm 0)=.agg #[]:=HS
  simp[execOp,mk,this,Instr.box,newVar,newRow,newObj,Sem.run,Value.cells]
 have Gy:ac (fun _=>False) w (w.alloc (.cells #[] K.tBE (0,0))):=ac.alloc _ _ _
 have Gu:((a.put (some 2) (.pointer (some ⟨w.heap.size,0,none⟩))).put (some 4) ((a.put (some 2) (.pointer (some ⟨w.heap.size,0,none⟩))).eval (ki kind 0))).tmps.size=ntmps:=by simp only[ab];exact hsz'
 have Ms:((a.put (some 2) (.pointer (some ⟨w.heap.size,0,none⟩))).put (some 4) ((a.put (some 2) (.pointer (some ⟨w.heap.size,0,none⟩))).eval (ki kind 0))).get 1=.slice (some ⟨S,o,none⟩) r.src.length c:=by rw[ak (by omega),ak (by omega)];exact Gv
 have Jg:((a.put (some 2) (.pointer (some ⟨w.heap.size,0,none⟩))).put (some 4) ((a.put (some 2) (.pointer (some ⟨w.heap.size,0,none⟩))).eval (ki kind 0))).defers=[]:=by simp only[ai];exact IC
 generalize((a.put (some 2) (.pointer (some ⟨w.heap.size,0,none⟩))).put (some 4) ((a.put (some 2) (.pointer (some ⟨w.heap.size,0,none⟩))).eval (ki kind 0)))=a1 at Gu Ms Jg ⊢
 have Mh:fP (w.alloc (.cells #[] K.tBE (0,0))) S o r.src:=KN.keep Gy id
 generalize w.alloc (.cells #[] K.tBE (0,0))=w1 at Gy Mh ⊢
 refine az (au (ag ?_))
 rw[aa,Ms]
 refine cz (i:=k-1) (k:=.i64) (sz:=1) (by rw[aa,am (by omega)]) rfl (by omega) kt.sl (kt.u8.size _) ?_
 refine b5 (v:=.int .u8 (b.toNat:Int)) (by rw[aa,am (by simp only[ab];omega)]) (kt.u8.agg _) (by rw[Nat.mul_one];exact Mh _ b HZ) (wpList_nil ?_)
 have G9:(((a1.put (some 5) (.slice (some ⟨S,o,none⟩) r.src.length c)).put (some 6) (.pointer (some ⟨S,o+(k-1)*1,none⟩))).put (some 7) (.int .u8 (b.toNat:Int))).tmps.size=ntmps:=by simp only[ab];exact Gu
 have G2:(((a1.put (some 5) (.slice (some ⟨S,o,none⟩) r.src.length c)).put (some 6) (.pointer (some ⟨S,o+(k-1)*1,none⟩))).put (some 7) (.int .u8 (b.toNat:Int))).get 1=.slice (some ⟨S,o,none⟩) r.src.length c:=by rw[ak (by omega),ak (by omega),ak (by omega)];exact Ms
 have H7:(((a1.put (some 5) (.slice (some ⟨S,o,none⟩) r.src.length c)).put (some 6) (.pointer (some ⟨S,o+(k-1)*1,none⟩))).put (some 7) (.int .u8 (b.toNat:Int))).defers=[]:=by simp only[ai];exact Jg
 generalize(((a1.put (some 5) (.slice (some ⟨S,o,none⟩) r.src.length c)).put (some 6) (.pointer (some ⟨S,o+(k-1)*1,none⟩))).put (some 7) (.int .u8 (b.toNat:Int)))=a2 at G9 G2 H7 ⊢
 obtain⟨fl,Jq,Mm,Lx⟩:=Qv
 refine az (.drw (fun w'=>fP w' S o r.src) ?_)
 rw[Jq,Mm,Lx]
 refine Bi (c:=c) kt H4 hK (fun _ h=>h) rfl Gp Hk hb (by rw[G9];exact G8) G2 fun a3 Hh H6 GI=>?_
 have HK:ac (fun _=>False) w1 w1.drew:=ac.drew _ _
 have Iq:fP w1.drew S o r.src:=Mh.keep HK id
 refine⟨Iq,?_⟩
 have hr:(execOp a3.eval (mk (some 4) (.assign (tm (12+6*(k-1)-1))))).run P w1.drew=.ok (.value (a3.eval (tm (12+6*(k-1)-1)))) w1.drew:=rfl
 unfold Oper.wp
 rw[hr]
 refine⟨Iq,.ret ⟨?_,?_,Gy.trans HK⟩⟩
 ·show(a3.put (some 4) _).defers=[]
  rw[ai,H6];exact H7
 ·show Ending.returned (bj [4] (a3.put (some 4) (a3.eval (tm (12+6*(k-1)-1)))))=_
  simp only[bj]
  rw[am (by omega),aa,GI]
end
def vf (K:Kn)(z:Value)(k:Nat)(Rd F:GC):Code:=(gS [aU 2 z,zy K k (rS K z) b6,Rd,Ba K k,F,aY .ret] 4).1
def mO (K:Kn)(f:Nat)(conv:Option (Nat × Nat))(n:Nat):List Oper:=
 mk (some n) (.load K.tBE (.global K.gBE))::(iW K 0 (n+1)++(cl (some (n+5)) f [tm n,tm (n+4)] ::
  (match conv with|some (A,B)=>[mk (some (n+6)) (.convert A B (tm (n+5))),mk (some 3) (.assign (tm (n+6)))]|none=>[mk (some 3) (.assign (tm (n+5)))])))
def AZ (K:Kn)(f:Nat)(conv:Option (Nat × Nat)):GC:=fun n=>(.region 1 (mO K f conv n).toArray true,n+(match conv with|some _=>7|none=>6))
section
variable {P:Program} {g:G} {K:Kn} {T S R:Nat} {r:RS} {x n:Nat} {KK:Act->World->Prop} {Q:Exit->Act->World->Prop} {a:Act} {w:World}
def lI (T S R k:Nat)(r:RS)(w:World)(z fv:Value)(e:Ending)(w':World):Prop:=
 (if r.src.length<k then e=.returned z/\cQ w' T S R .fail else e=.returned fv/\cQ w' T S R ⟨r.src.drop k,r.bad,r.nl⟩)/\ac (·=R) w w'
theorem tV (kt:KT P g K){f ntmps kr k:Nat}{z rv fv:Value}{Rd F:GC}(hfn:FnIs P f ntmps [2] (vf K z k Rd F))(hRn:(Rd 16).2=16+kr)(G8:16+kr+8<=ntmps)(hR:cQ w T S R r)(hRS:S≠R)
  (hRd:k<=r.src.length->∀ (v:Value) (a:Act) (K':Act->World->Prop) (Q':Exit->Act->World->Prop),Br w T S R v r->a.get 0=pt R 0->a.tmps.size=ntmps->(∀ a' w',Pv 3 0 0 16 a a'->a'.get 3=rv->ac (fun _=>False) w w'->K' a' w')->aQ P (Rd 16).1 (Exit.then K' Q') a w)
  (hF:k<=r.src.length->∀ (a:Act) (w':World) (K':Act->World->Prop) (Q':Exit->Act->World->Prop),a.get 3=rv->a.tmps.size=ntmps->(∀ a',a'.defers=a.defers->a'.get 2=fv->K' a' w')->aQ P (F (16+kr+8)).1 (Exit.then K' Q') a w') :
  Calls P f #[pt R 0] w (lI T S R k r w z fv):=by
 refine hfn.calls kt.mixed (by simp) ?_
 have G0:=cH #[pt R 0] ntmps (by show 1<=ntmps;omega)
 have HS:({ tmps:=#[pt R 0]++Array.replicate (ntmps-(#[pt R 0]:Array Value).size) undef,defers:=[] }:Act).get 0=pt R 0:=by rw[bX _ _ _ (by simp)];rfl
 have IC:({ tmps:=#[pt R 0]++Array.replicate (ntmps-(#[pt R 0]:Array Value).size) undef,defers:=[] }:Act).defers=[]:=rfl
 have hsz':({ tmps:=#[pt R 0]++Array.replicate (ntmps-(#[pt R 0]:Array Value).size) undef,defers:=[] }:Act).tmps.size=ntmps:=G0
 generalize({ tmps:=#[pt R 0]++Array.replicate (ntmps-(#[pt R 0]:Array Value).size) undef,defers:=[] }:Act)=a at HS IC hsz' ⊢
 obtain⟨v,hv⟩:=hR
 refine bm (ad (dH (x:=2) (m:=0) (k0:=0) (.inl rfl) (by omega) fun a1 Gk Gv=>?_))
 have Gu:=Gk.size
 have QN:a1.get 0=pt R 0:=(Gk.get 0 (by omega) (.inr ⟨by omega,by omega⟩)).trans HS
 rw[show(aU 2 z 4).2=4 from rfl]
 refine ad ?_
 rw[aV]
 refine AY kt QN hv (by omega) fun a2 Gm=>?_
 have G9:=Gm.size
 have KU:a2.get 0=pt R 0:=(Gm.get 0 (by omega) (.inr ⟨by omega,by omega⟩)).trans QN
 by_cases Gq:r.src.length<k
 ·rw[if_pos Gq]
  refine tZ kt KU hv hRS (by omega) (by omega) fun a3 w3 H6 GI HA Gx=>⟨by rw[H6,Gm.defers,Gk.defers];exact IC,?_⟩
  refine⟨?_,Gx⟩
  rw[if_pos Gq]
  exact⟨by simp only[bj];rw[GI],HA⟩
 ·rw[if_neg Gq]
  have hk:k<=r.src.length:=by omega
  refine .skip ?_
  show LW P [Rd,Ba K k,F,aY .ret] 16 _ a2 w
  refine ad (hRd hk v a2 _ _ hv KU (by omega) fun a3 w3 Gt GI Gx=>?_)
  have Hh:=Gt.size
  rw[hRn]
  have LA:Br w3 T S R v r:=by
   have UT:R<w.heap.size:=(Array.getElem?_eq_some_iff.1 hv.1).1
   exact⟨by rw[Gx.block R UT id];exact hv.1,hv.2.keep Gx id⟩
  have HV:a3.get 0=pt R 0:=(Gt.get 0 (by omega) (.inr ⟨by omega,by omega⟩)).trans KU
  refine ad (FB kt HV LA hk hRS (by omega) (by omega) fun a4 GD H0=>?_)
  have IP:=GD.size
  rw[show(Ba K k (16+kr)).2=16+kr+8 from rfl]
  refine ad (hF hk a4 _ _ _ ((GD.get 3 (by omega) (.inr ⟨by omega,by omega⟩)).trans GI) (by omega) fun a5 LK II=>ad (.ret ?_))
  refine⟨by rw[LK,GD.defers,Gt.defers,Gm.defers,Gk.defers];exact IC,?_,(Gx.mono fun _ _ h=>h.elim).trans (ac.setRow (fun k=>k=R) _ _ _ rfl)⟩
  rw[if_neg Gq]
  exact⟨by simp only[bj];rw[II],H0⟩
theorem xR {v:Value}(h:bQ w S v r)(hk:0<r.src.length):∃ o c,v=.slice (some ⟨S,o,none⟩) r.src.length c/\fP w S o r.src:=by
 rcases h with⟨_,h2,_⟩|⟨o,c,h1,_,_,_,_,h6⟩
 ·rw[h2]at hk;simp at hk
 ·exact⟨o,c,h1,h6⟩
theorem Dh (kt:KT P g K){I:World->Prop}{s:Nat}{v:Value}{l:List Oper}{K':Act->Prop}(hs:a.get s=pt R 0)(hI:∀ w,I w->w.cell? ⟨R,0,none⟩=some v)(hn:n+4<=a.tmps.size)(h:∀ a',Pv n 0 0 n a a'->a'.get (n+3)=v->gn P I l a' K'):gn P I (iW K s n++l) a K':=by
 show gn P I (mk (some n) (.move (tm s))::mk (some (n+1)) (.nilCheck (tm n))::mk (some (n+2)) (.fieldAddr K.tRS (tm (n+1)) 0)::mk (some (n+3)) (.load K.tSl (tm (n+2)))::l) a K'
 refine fO ?_
 rw[aa,hs]
 refine mw (by rw[aa,am (by omega)];rfl) ?_
 refine ui (by rw[aa,am (by simp only[ab];omega)]) kt.f0 ?_
 refine eQ (by rw[aa,am (by simp only[ab];omega)]) kt.f0.var.agg hI ?_
 exact h _ (((((Pv.refl _ _ _ _ _).put _ (by omega)).put _ (by omega)).put _ (by omega)).put _ (by omega)) (am (by simp only[ab];omega))
theorem zw (kt:KT P g K){f k:Nat}{kind:IntKind}{conv:Option (Nat × Nat)}{rv:Value}{v:Value}(Ru:bd P K.tBE true 0)(Sg:Ent P f)(hf:∀ w':World,bQ w' S v r->Calls P f #[.agg #[],v] w' fun e w''=>e=.returned (.int kind ((cX (r.src.take k):Nat):Int))/\ac (fun _=>False) w' w'')
  (NO:match conv with
   | some (A,B)=>∃ k',P.underlying A=some (.int kind)/\P.underlying B=some (.int k')/\rv=.int k' (k'.wrap ((cX (r.src.take k):Nat):Int))
   | none=>rv=.int kind ((cX (r.src.take k):Nat):Int))
  (hv:Br w T S R v r) (h0:a.get 0=pt R 0) (hn:16+7<=a.tmps.size)
  (h:∀ a' w',Pv 3 0 0 16 a a'->a'.get 3=rv->ac (fun _=>False) w w'->KK a' w'):aQ P (AZ K f conv 16).1 (Exit.then KK Q) a w:=by
 have QP:∃ fl,dW (mO K f conv 16)=fl/\dD (mO K f conv 16) fl=mk (some 16) (.load K.tBE (.global K.gBE))::(iW K 0 17++[])/\cq (mO K f conv 16) fl=cl (some 21) f [tm 16,tm 20] ::
   (match conv with|some (A,B)=>[mk (some 22) (.convert A B (tm 21)),mk (some 3) (.assign (tm 22))]|none=>[mk (some 3) (.assign (tm 21))]):=by
  cases conv with
  | none=>exact⟨[false,false,false,false,false,true,true],rfl,rfl,rfl⟩
  | some q=>exact⟨[false,false,false,false,false,true,true,true],rfl,rfl,rfl⟩
 obtain⟨fl,h1,h2,h3⟩:=QP
 have Gn:w.cell? ⟨R,0,none⟩=some v:=by simp[World.cell?,hv.1]
 refine .drw (fun w'=>w'.cell? ⟨R,0,none⟩=some v) ?_
 rw[h1,h2,h3]
 refine⟨.agg #[],fun w' _=>?_,?_⟩
 ·have he:a.eval (.global K.gBE)=.pointer (some ⟨K.gBE,0,none⟩):=rfl
  have hl:=run_loadCells_list (P:=P) w' ⟨K.gBE,0,none⟩ [] (fun j v hj=>by simp at hj)
  simp only[List.length_nil]at hl
  simp[execOp,mk,he,Instr.loadAt,Instr.sureAddr,loadVar,Ru.agg,Ru.size,hl]
 ·show gn P _ (iW K 0 17++[]) (a.put (some 16) (.agg #[])) _
  have NE:Pv 3 0 0 16 a (a.put (some 16) (.agg #[])):=(Pv.refl _ _ _ _ _).put _ (by omega)
  refine Dh kt (v:=v) (by rw[ak (by omega)];exact h0) (fun _ h=>h) (by simp only[ab];omega) fun a1 Gk Gv=>?_
  have Gu:=Gk.size
  rw[ab]at Gu
  have Ug:a1.get 16=.agg #[]:=by rw[Gk.get 16 (by omega) (.inr ⟨by omega,by omega⟩),am (by omega)]
  have IG:Pv 3 0 0 16 a a1:=NE.trans ⟨Gk.size,Gk.defers,fun s hs hh=>Gk.get s (by omega) (.inr ⟨by omega,by omega⟩)⟩
  have HK:ac (fun _=>False) w w.drew:=ac.drew _ _
  refine⟨HK.cell id Gn,?_⟩
  refine ig (vs:=#[.agg #[],v]) rfl Sg (by simp[aa,Ug,Gv]) (hf w.drew (hv.2.keep HK id)) fun e w2 hR=>?_
  obtain⟨he,Gs⟩:=hR
  have GN:ac (fun _=>False) w w2:=HK.trans Gs
  refine⟨_,he,?_⟩
  cases conv with
  | none=>
   subst NO
   refine⟨GN.cell id Gn,?_⟩
   have hr:(execOp (a1.put (some 21) (.int kind ((cX (r.src.take k):Nat):Int))).eval (mk (some 3) (.assign (tm 21)))).run P w2=.ok (.value ((a1.put (some 21) (.int kind ((cX (r.src.take k):Nat):Int))).eval (tm 21))) w2:=rfl
   unfold Oper.wp
   rw[hr]
   refine⟨GN.cell id Gn,h _ w2 ((IG.put _ (by omega)).put _ (by omega)) ?_ GN⟩
   show((a1.put (some 21) _).put (some 3) _).get 3=_
   rw[am (by simp only[ab];omega),aa,am (by omega)]
  | some q=>
   obtain⟨A,B⟩:=q
   obtain⟨k',hA,hB,rfl⟩:=NO
   refine⟨GN.cell id Gn,?_⟩
   have e21:(a1.put (some 21) (.int kind ((cX (r.src.take k):Nat):Int))).eval (tm 21)=.int kind ((cX (r.src.take k):Nat):Int):=by rw[aa,am (by omega)]
   have hr:(execOp (a1.put (some 21) (.int kind ((cX (r.src.take k):Nat):Int))).eval (mk (some 22) (.convert A B (tm 21)))).run P w2=.ok (.value (.int k' (k'.wrap ((cX (r.src.take k):Nat):Int)))) w2:=by
    simp[execOp,mk,e21,convert,run_underlying hA,run_underlying hB,Conv.intToInt]
   unfold Oper.wp
   rw[hr]
   refine⟨GN.cell id Gn,?_⟩
   have PY:(execOp ((a1.put (some 21) (.int kind ((cX (r.src.take k):Nat):Int))).put (some 22) (.int k' (k'.wrap ((cX (r.src.take k):Nat):Int)))).eval (mk (some 3) (.assign (tm 22)))).run P w2=.ok (.value (((a1.put (some 21) (.int kind ((cX (r.src.take k):Nat):Int))).put (some 22) (.int k' (k'.wrap ((cX (r.src.take k):Nat):Int)))).eval (tm 22))) w2:=rfl
   unfold Oper.wp
   show Oper.upon P _ _ _ _ _
   rw[show(mk (some 22) (Op.convert A B (tm 21))).dst=some 22 from rfl,PY]
   refine⟨GN.cell id Gn,h _ w2 (((IG.put _ (by omega)).put _ (by omega)).put _ (by omega)) ?_ GN⟩
   show(((a1.put (some 21) _).put (some 22) _).put (some 3) _).get 3=_
   rw[am (by simp only[ab];omega),aa,am (by simp only[ab];omega)]
end
def RdOk (P:Program)(T:Nat)(p:PF)(f:Nat):Prop:=
 Ent P f/\∀ (w:World) (S R:Nat) (r:RS),cQ w T S R r->S≠R->Calls P f #[pt R 0] w fun e w'=>
  ∃ v,e=.returned v/\cQ w' T S R (p.run r).2/\ac (·=R) w w'/\∀ X:Nat->Prop,(∀ k,X k->k<w.heap.size)->¬ X S->iv w' X (iE p) v.cells.toList (p.run r).1
theorem xo {k:IntKind}(hk:k=.i8 \/ k=.i16 \/ k=.i32 \/ k=.i64){m:Nat}(h:m<2^k.bits):k.wrap (m:Int)=j8 k.bits m:=by
 rcases hk with rfl|rfl|rfl|rfl
 ·simp only[IntKind.bits]at h
  by_cases h2:m<128
  ·have e:¬ ((m:Int)%256 ≥ 128):=by omega
   simp[IntKind.wrap,IntKind.bits,IntKind.signed,j8,h2]
   omega
  ·simp[IntKind.wrap,IntKind.bits,IntKind.signed,j8,h2]
   omega
 ·simp only[IntKind.bits]at h
  by_cases h2:m<32768
  ·have e:¬ ((m:Int)%65536 ≥ 32768):=by omega
   simp[IntKind.wrap,IntKind.bits,IntKind.signed,j8,h2]
   omega
  ·simp[IntKind.wrap,IntKind.bits,IntKind.signed,j8,h2]
   omega
 ·simp only[IntKind.bits]at h
  by_cases h2:m<2147483648
  ·have e:¬ ((m:Int)%4294967296 ≥ 2147483648):=by omega
   simp[IntKind.wrap,IntKind.bits,IntKind.signed,j8,h2]
   omega
  ·simp[IntKind.wrap,IntKind.bits,IntKind.signed,j8,h2]
   omega
 ·simp only[IntKind.bits]at h
  by_cases h2:m<9223372036854775808
  ·have e:¬ ((m:Int)%18446744073709551616 ≥ 9223372036854775808):=by omega
   simp[IntKind.wrap,IntKind.bits,IntKind.signed,j8,h2]
   omega
  ·simp[IntKind.wrap,IntKind.bits,IntKind.signed,j8,h2]
   omega
section
variable {P:Program} {g:G} {K:Kn} {T:Nat}
def cI16 (K:Kn):Code:=vf K (.int .i16 0) 2 (AZ K K.fU16 (some (K.tU16,K.tI16))) (bB 3 2)
def cU16 (K:Kn):Code:=vf K (.int .u16 0) 2 (AZ K K.fU16 none) (bB 3 2)
def cI32 (K:Kn):Code:=vf K (.int .i32 0) 4 (AZ K K.fU32 (some (K.tU32,K.tI32))) (bB 3 2)
theorem tY {rv:Value}{a:Act}{w:World}{n:Nat}{KK:Act->World->Prop}{Q:Exit->Act->World->Prop}(h3:a.get 3=rv)(hn:n+1<=a.tmps.size)(Vi:2<n)(h:∀ a',a'.defers=a.defers->a'.get 2=rv->KK a' w):aQ P (bB 3 2 n).1 (Exit.then KK Q) a w:=
 eH (x:=2) (m:=0) (k0:=0) (.inl rfl) (Nat.le_refl _) (by omega) (by omega) (by omega) fun a' hp hg=>h a' hp.defers (hg.trans h3)
theorem rC {k:Nat}{r:RS}(h:r.src.length<k):rI k r=(j8 (8*k) 0,.fail):=by simp[rI,rU,h]
theorem uU {k:Nat}{r:RS}(h:k<=r.src.length):rI k r=(j8 (8*k) (cX (r.src.take k)),⟨r.src.drop k,r.bad,r.nl⟩):=by
 have:¬ r.src.length<k:=by omega
 simp[rI,rU,this]
theorem jh {k:Nat}{l:Bs}(h:k<=l.length):cX (l.take k)<256^k:=by
 have:=pK (l.take k)
 rwa [List.length_take,Nat.min_eq_left h]at this
theorem rdOk_int {p:cP}{k:Nat}{kind:IntKind}(hp:(p=.i8/\k=1) \/ (p=.i16/\k=2) \/ (p=.i32/\k=4) \/ (p=.i64/\k=8))(H4:p.kind=kind){w w':World}{S R:Nat}{r:RS}{e:Ending}
  (h:lI T S R k r w (.int kind 0) (.int kind (kind.wrap ((cX (r.src.take k):Nat):Int))) e w') :
  e=.returned (.int kind (rI k r).1)/\cQ w' T S R (rI k r).2/\ac (·=R) w w'/\∀ X:Nat->Prop,iv w' X (.prim p) (Value.int kind (rI k r).1).cells.toList (.n (rI k r).1):=by
 obtain⟨h1,h2⟩:=h
 have hb:kind.bits=8*k/\(kind=.i8 \/ kind=.i16 \/ kind=.i32 \/ kind=.i64):=by
  rcases hp with⟨rfl,rfl⟩|⟨rfl,rfl⟩|⟨rfl,rfl⟩|⟨rfl,rfl⟩<;>subst H4<;>simp[cP.kind,IntKind.bits]
 have Il:∀ m:Nat,m<256^k->p.fits (j8 (8*k) m):=by
  intro m hm
  rcases hp with⟨rfl,rfl⟩|⟨rfl,rfl⟩|⟨rfl,rfl⟩|⟨rfl,rfl⟩<;>simp[cP.fits,j8]at hm ⊢<;>split<;>omega
 have Mn:∀ x:Int,p.fits x->∀ X:Nat->Prop,iv w' X (.prim p) (Value.int kind x).cells.toList (.n x):=by
  intro x hx X
  rcases hp with⟨rfl,rfl⟩|⟨rfl,rfl⟩|⟨rfl,rfl⟩|⟨rfl,rfl⟩<;>subst H4<;>exact⟨x,rfl,rfl,hx⟩
 by_cases Gq:r.src.length<k
 ·rw[if_pos Gq]at h1
  rw[rC Gq]
  have h0:j8 (8*k) 0=0:=by
   rcases hp with⟨_,rfl⟩|⟨_,rfl⟩|⟨_,rfl⟩|⟨_,rfl⟩<;>simp[j8]
  refine⟨by rw[h0];exact h1.1,h1.2,h2,fun X=>Mn _ (Il 0 (by
   rcases hp with⟨_,rfl⟩|⟨_,rfl⟩|⟨_,rfl⟩|⟨_,rfl⟩<;>simp)) X⟩
 ·rw[if_neg Gq]at h1
  have hk:k<=r.src.length:=by omega
  have hm:=jh hk
  rw[uU hk]
  have hw:kind.wrap ((cX (r.src.take k):Nat):Int)=j8 (8*k) (cX (r.src.take k)):=by
   rw[xo hb.2 (by rw[hb.1,Nat.pow_mul];exact hm),hb.1]
  rw[hw]at h1
  exact⟨h1.1,h1.2,h2,fun X=>Mn _ (Il _ hm) X⟩
theorem lk {l:Bs}(h:1<=l.length):∃ b t,l=b::t:=by
 cases l with
 | nil=>simp at h
 | cons b t=>exact⟨b,t,rfl⟩
end
structure KSub (P:Program)(g:G)(K:Kn)(T:Nat):Prop where
 e16:bL (g.rd .i16)=true->Ent P (g.rd .i16)
 c16:bL (g.rd .i16)=true->∀ (w:World) (S R:Nat) (r:RS),cQ w T S R r->S≠R->Calls P (g.rd .i16) #[pt R 0] w fun e w'=>e=.returned (.int .i16 (rI 2 r).1)/\cQ w' T S R (rI 2 r).2/\ac (·=R) w w'
 e32:bL (g.rd .i32)=true->Ent P (g.rd .i32)
 c32:bL (g.rd .i32)=true->∀ (w:World) (S R:Nat) (r:RS),cQ w T S R r->S≠R->Calls P (g.rd .i32) #[pt R 0] w fun e w'=>e=.returned (.int .i32 (rI 4 r).1)/\cQ w' T S R (rI 4 r).2/\ac (·=R) w w'
 eU:bL g.uv=true->Ent P g.uv
 cU:bL g.uv=true->∀ (w:World) (S R:Nat) (r:RS),cQ w T S R r->S≠R->Calls P g.uv #[pt R 0] w fun e w'=>e=.returned (.int .u32 (bD r).1)/\cQ w' T S R (bD r).2/\ac (·=R) w w'
 eS:bL g.span=true->Ent P g.span
 cS:bL g.span=true->∀ (w:World) (S R:Nat) (r:RS) (k:Int),cQ w T S R r->S≠R->Calls P g.span #[pt R 0,.int .i64 k] w fun e w'=>
  ∃ v,e=.returned v/\cQ w' T S R (b9 k r).2/\ac (·=R) w w'/\bQ w' S v ⟨(b9 k r).1.octets,false,(b9 k r).1.isNul⟩
 dStr:P.underlying K.tStr=some .string
 vStr:bd P K.tStr false 1
 zStr:∀ w,(zeroValue K.tStr).run P w=.ok (.string ⟨#[]⟩) w
def q3 (f:Nat):GC:=aA 2 fun n=>[mk (some n) (.move (tm 0)),cl (some (n+1)) f [tm n],mk (some 3) (.assign (tm (n+1)))]
def nW (g:G)(A B:Nat)(k:IntKind):GC:=aA 4 fun n=>[mk (some n) (.move (tm 0)),cl (some (n+1)) g.uv [tm n],mk (some (n+2)) (.convert A B (tm (n+1))),mk (some (n+3)) (.binOp .sub B (tm (n+2)) (ki k 1) 0),mk (some 3) (.assign (tm (n+3)))]
def qu (g:G)(A B n:Nat):List Oper:=[mk (some n) (.move (tm 0)),mk (some (n+1)) (.move (tm 3)),mk (some (n+2)) (.convert A B (tm (n+1))),cl (some (n+3)) g.span [tm n,tm (n+2)]]
def t9 (g:G)(n:Nat):List Oper:=[mk (some n) (.move (tm 0)),mk (some (n+1)) (.move (tm 3)),cl (some (n+2)) g.span [tm n,tm (n+1)]]
def cStr (g:G)(K:Kn):Code:=(gS [aU 2 (.string ⟨#[]⟩),q3 (g.rd .i16),aA 5 fun n=>qu g K.tI16 K.tInt n++[mk (some (n+4)) (.convert K.tSl K.tStr (tm (n+3))),mk (some 2) (.assign (tm (n+4)))],aY .ret] 4).1
def cCStr (g:G)(K:Kn):Code:=(gS [aU 2 (.string ⟨#[]⟩),nW g K.tU32 K.tInt .i64,aA 4 fun n=>t9 g n++[mk (some (n+3)) (.convert K.tSl K.tStr (tm (n+2))),mk (some 2) (.assign (tm (n+3)))],aY .ret] 4).1
def De (T:Nat)(k:IntKind)(z:Value):GC:=ej 1 2 (fun n=>[mk (some n) (.move (tm 3)),mk (some (n+1)) (.binOp .lss T (tm n) (ki k 0) 0)]) (gS [aU 2 z,aY .ret]) b6
def z1 (K:Kn)(T:Nat)(k:IntKind):GC:=ej 1 2 (fun n=>[mk (some n) (.move (tm 3)),mk (some (n+1)) (.binOp .eql T (tm n) (ki k (-1)) 0)]) (gS [aA 1 fun n=>[mk (some n) (.buildSlice K.tSl 0 #[]),mk (some 2) (.assign (tm n))],aY .ret]) b6
def Dj (g:G)(K:Kn):Code:=(gS [aU 2 (.slice none 0 0),q3 (g.rd .i32),z1 K K.tI32 .i32,aA 4 fun n=>qu g K.tI32 K.tInt n++[mk (some 2) (.assign (tm (n+3)))],aY .ret] 4).1
def Bl (g:G)(K:Kn):Code:=(gS [aU 2 (.slice none 0 0),nW g K.tU32 K.tInt .i64,z1 K K.tInt .i64,aA 3 fun n=>t9 g n++[mk (some 2) (.assign (tm (n+2)))],aY .ret] 4).1
def Bk (g:G)(K:Kn):Code:=(gS [aU 2 (.slice none 0 0),q3 (g.rd .i32),De K.tI32 .i32 (.slice none 0 0),aA 4 fun n=>qu g K.tI32 K.tInt n++[mk (some 4) (.assign (tm (n+3)))],bB 4 2,aY .ret] 5).1
section
variable {P:Program} {g:G} {K:Kn} {T S R:Nat} {r:RS} {n:Nat} {KK:Act->World->Prop} {Q:Exit->Act->World->Prop} {a:Act} {w:World}
theorem uY {f:Nat}{v:Value}{r':RS}(hE:Ent P f)(hC:Calls P f #[pt R 0] w fun e w'=>e=.returned v/\cQ w' T S R r'/\ac (·=R) w w')(h0:a.get 0=pt R 0)(hn:n+2<=a.tmps.size)(Po:3<n)
  (h:∀ a' w',Pv 3 0 0 n a a'->a'.get 3=v->cQ w' T S R r'->ac (·=R) w w'->KK a' w'):aQ P (q3 f n).1 (Exit.then KK Q) a w:=by
 refine au (ag ?_)
 rw[aa,h0]
 refine aR (vs:=#[pt R 0]) hE (by simp[aa,am (show n<a.tmps.size by omega)]) hC fun e w' hR=>⟨_,hR.1,aj (wpList_nil ?_)⟩
 rw[aa,am (by simp only[ab];omega)]
 exact h _ w' (((((Pv.refl _ _ _ _ _).put _ (by omega)).put _ (by omega)).put _ (by omega))) (am (by simp only[ab];omega)) hR.2.1 hR.2.2
theorem ni (ks:KSub P g K T)(J2:bL g.span=true){ops:Array Oper}{l:List Oper}{A B:Nat}{k:IntKind}{x:Int}(_hk:k=.i16 \/ k=.i32)(hA:P.underlying A=some (.int k))(hB:P.underlying B=some (.int .i64))(hx:-2147483648<=x/\x<2147483648)(h0:a.get 0=pt R 0)(h3:a.get 3=.int k x)(hR:cQ w T S R r)(hRS:S≠R)
  (hn:n+4<=a.tmps.size) (Po:3<n)
  (h:∀ a' w' v,Pv n 0 0 n a a'->a'.get (n+3)=v->cQ w' T S R (b9 x r).2->ac (·=R) w w'->bQ w' S v ⟨(b9 x r).1.octets,false,(b9 x r).1.isNul⟩->wpList P ops Q l a' w'):wpList P ops Q (qu g A B n++l) a w:=by
 show wpList P ops Q (mk (some n) (.move (tm 0))::mk (some (n+1)) (.move (tm 3))::mk (some (n+2)) (.convert A B (tm (n+1)))::cl (some (n+3)) g.span [tm n,tm (n+2)]::l) a w
 refine ag ?_
 rw[aa,h0]
 refine ag ?_
 rw[aa,ak (by omega),h3]
 have hw:IntKind.i64.wrap x=x:=by simp[IntKind.wrap,IntKind.bits,IntKind.signed];omega
 refine aT (k:=k) (k':=.i64) (by rw[aa,am (by simp only[ab];omega)]) hA hB ?_
 rw[hw]
 refine aR (vs:=#[pt R 0,.int .i64 x]) (ks.eS J2) ?_ (ks.cS J2 w S R r x hR hRS) fun e w' HP=>?_
 ·simp only[List.map_cons,List.map_nil,aa]
  rw[am (by simp only[ab];omega),ak (show n≠n+2 by omega),ak (show n≠n+1 by omega),am (by omega)]
 ·obtain⟨v,he,h1,h2,h4⟩:=HP
  exact⟨v,he,h _ w' v (((((Pv.refl _ _ _ _ _).put _ (by omega)).put _ (by omega)).put _ (by omega)).put _ (by omega)) (am (by simp only[ab];omega)) h1 h2 h4⟩
theorem qS (ks:KSub P g K T)(J2:bL g.span=true){ops:Array Oper}{l:List Oper}{x:Int}(h0:a.get 0=pt R 0)(h3:a.get 3=.int .i64 x)(hR:cQ w T S R r)(hRS:S≠R)(hn:n+3<=a.tmps.size)(Po:3<n)
  (h:∀ a' w' v,Pv n 0 0 n a a'->a'.get (n+2)=v->cQ w' T S R (b9 x r).2->ac (·=R) w w'->bQ w' S v ⟨(b9 x r).1.octets,false,(b9 x r).1.isNul⟩->wpList P ops Q l a' w'):wpList P ops Q (t9 g n++l) a w:=by
 show wpList P ops Q (mk (some n) (.move (tm 0))::mk (some (n+1)) (.move (tm 3))::cl (some (n+2)) g.span [tm n,tm (n+1)]::l) a w
 refine ag ?_
 rw[aa,h0]
 refine ag ?_
 rw[aa,ak (by omega),h3]
 refine aR (vs:=#[pt R 0,.int .i64 x]) (ks.eS J2) ?_ (ks.cS J2 w S R r x hR hRS) fun e w' HP=>?_
 ·simp only[List.map_cons,List.map_nil,aa]
  rw[am (by simp only[ab];omega),ak (show n≠n+1 by omega),am (by omega)]
 ·obtain⟨v,he,h1,h2,h4⟩:=HP
  exact⟨v,he,h _ w' v ((((Pv.refl _ _ _ _ _).put _ (by omega)).put _ (by omega)).put _ (by omega)) (am (by simp only[ab];omega)) h1 h2 h4⟩
theorem mf (kt:KT P g K)(ks:KSub P g K T){ops:Array Oper}{l:List Oper}{d:Option Nat}{y:Operand}{v:Value}{r':RS}(hy:a.eval y=v)(hv:bQ w S v r')(h:wpList P ops Q l (a.put d (.string ⟨r'.src.toArray⟩)) w):wpList P ops Q (mk d (.convert K.tSl K.tStr y)::l) a w:=by
 refine aD ?_ h
 have hr:(convert K.tSl K.tStr v).run P w=.ok (.string ⟨r'.src.toArray⟩) w:=by
  rcases hv with⟨rfl,h2,_⟩|⟨o,c,rfl,_,_,_,_,h6⟩
  ·rw[run_convert_bytes_string w K.tSl K.tStr K.tU8 none 0 0 kt.sl kt.dU8 ks.dStr,h2]
   simp[Conv.bytesToString]
   rfl
  ·exact run_convert_bytes_back w K.tSl K.tStr K.tU8 ⟨S,o,none⟩ c r'.src kt.sl kt.dU8 ks.dStr fun j hj=>by
    have:=h6 j r'.src[j] (by simp[hj])
    rw[Addr.add_lit]
    exact this
 simp only[execOp,mk,hy,Sem.run_bind,hr,Result.andThen_ok,Sem.run_pure]
theorem jq {X:Nat->Prop}{nul:Option Nat}{v:Value}{x:Int}(hS:¬ X S)(h:bQ w S v ⟨(b9 x r).1.octets,false,(b9 x r).1.isNul⟩):iv w X (.bytes nul) v.cells.toList (b9 x r).1:=by
 rcases h with⟨rfl,h2,h3⟩|⟨o,c,rfl,h2,h3,h4,h5,h6⟩
 ·refine .inl ⟨rfl,?_⟩
  simp only at h3
  cases hh:(b9 x r).1<;>rw[hh]at h3<;>first|rfl|cases h3
 ·refine .inr ⟨(b9 x r).1.octets,S,o,c,rfl,hS,h5,h3,h4,h6,?_⟩
  simp only at h2
  have SU:(b9 x r).1=.nul \/ ∃ l,(b9 x r).1=.s l:=by
   unfold b9
   split
   ·exact .inl rfl
   ·split
    ·exact .inl rfl
    ·exact .inr ⟨_,rfl⟩
  rcases SU with hh|⟨l,hh⟩
  ·rw[hh]at h2;cases h2
  ·rw[hh];rfl
theorem rq (x:Int)(hs:cQ w T S R r):(b9 x r).1.octets.length<=maxLen:=by
 obtain⟨v,_,hv⟩:=hs
 obtain⟨base,c,_,_,h1,h2,_⟩:=hv.len
 unfold b9
 split
 ·simp[V.octets]
 ·split
  ·simp[V.octets]
  ·simp[V.octets];omega
end
def FnIsC (P:Program)(f ntmps s t:Nat)(d:Code):Prop:=
 ∃ fn c, P.funcs[f]? = some fn /\ fn.body = some c /\ nCode c = d /\ fn.ntmps = ntmps /\ fn.results = #[ResultVar.cell s t] /\ (fn.name == "runtime.NumGoroutine") = false
theorem FnIsC.ent {P:Program}{f n s t:Nat}{d:Code}(h:FnIsC P f n s t d):Ent P f:=by
 obtain⟨fn,c,hf,hb,_,_,_,hg⟩:=h
 have GA : ¬ fn.name = "runtime.NumGoroutine" := by simpa using hg
 intro args w
 simp[callFunc,hf,GA,hb]
theorem FnIsC.calls {P:Program}(hm:P.follows .mixedOrders=true){f n s t:Nat}{d:Code}(h:FnIsC P f n s t d){args:Array Value}{w:World}{R:Ending->World->Prop}
  (hw:aQ P d (Rt (fun _ _=>False) (fun a w=>a.defers=[]/\∃ p v,a.get s=.pointer (some p)/\(loadVar t p).run P w=.ok v w/\R (.returned v) w)) { tmps:=args++Array.replicate (n-args.size) undef,defers:=[] } w):Calls P f args w R:=by
 obtain⟨fn,c,hf,hb,rfl,rfl,hr,_⟩:=h
 refine lE hm hf hb rfl (.mono hw fun e a w hq=>?_)
 cases e<;>first|exact hq.elim|skip
 obtain⟨hd,p,v,hp,hl,hR⟩:=hq
 refine⟨hd,v,?_,hR⟩
 have hg:a.tmps[s]?.getD undef=.pointer (some p):=by
  have h2:a.tmps.getD s undef=.pointer (some p):=hp
  rwa [Array.getD_eq_getD_getElem?]at h2
 unfold results
 rw[hr]
 simp[hg,asAddr,hl]
def cRdTags (g:G)(K:Kn):Code:=sq [rg [mk (some 2) (.alloc g.tTags)],rg [mk (some 3) (.alloc g.tTags)],.seq (rg [mk (some 7) (.move (tm 0)),cl (some 8) g.uv [tm 7],mk (some 4) (.assign (tm 8))])
 (.block 0 (.loop (.seq (.seq (rg [mk (some 9) (.move (tm 4)),mk (some 10) (.binOp .gtr K.tU32 (tm 9) (ki .u32 0) 0)]) (.cond (tm 10) .skip (.exit 0)))
  (.seq (.block 1 (.seq (rg [mk (some 13) (.move (tm 0)),cl (some 14) g.uv [tm 13],mk (some 15) (.move (tm 0)),cl (some 16) g.uv [tm 15],mk (some 5) (.assign (tm 14)),mk (some 6) (.assign (tm 16))])
   (rg [mk (some 17) (.move (tm 5)),mk (some 18) (.move (tm 0)),mk (some 19) (.move (tm 6)),mk (some 20) (.convert K.tU32 K.tInt (tm 19)),cl (some 21) g.span [tm 18,tm 20],cl (some 22) g.set [tm 3,tm 17,tm 21]])))
   (rg [mk (some 11) (.move (tm 4)),mk (some 12) (.binOp .sub K.tU32 (tm 11) (ki .u32 1) 0),mk (some 4) (.assign (tm 12))]))))),
 rg [mk (some 23) (.load g.tTags (tm 3)),mk none (.store g.tTags (tm 2) (tm 23))],.ret]
section
variable {P:Program} {g:G} {K:Kn}
theorem qi {w:World}{dT sT ty elem:TypeId}{b o dLen dCap sLen sCap:Nat}{p:Addr}{cs:List Value}{cur:Array Value}{te:TypeId}
  (hu:P.underlying dT=some (.slice elem)) (hs:∀ w,(sizeOf elem).run P w=.ok 1 w) (hn:Nat.min sLen dLen=cs.length)
  (Ic:∀ j v,cs[j]?=some v->w.cell? (p.add j)=some v) (hb:w.heap[b]?=some (.cells cur te (0,0))) (ho:o+cs.length<=cur.size) (h1:∀ v∈cs,v.oneCell'=true) :
  (Builtin.copy_ #[dT,sT] ty #[.slice (some ⟨b,o,none⟩) dLen dCap,.slice (some p) sLen sCap]).run P w=.ok (goInt cs.length) (w.setRow b (aI cur o cs)):=by
 have hl:=run_loadCells_list (P:=P) w p cs Ic
 have Hl:=run_storeCells_at P b o te cs 0 cur w hb (by simpa using ho) h1
 simp only[Nat.add_zero]at Hl
 simp[Builtin.copy_,run_underlying hu,Builtin.lenOf,Builtin.firstCells,hs,hn,hl,Hl,aI]
theorem qj {w:World}{dT sT ty elem:TypeId}{d a:Option Addr}{dLen dCap sLen sCap:Nat}(hu:P.underlying dT=some (.slice elem))(hs:∀ w,(sizeOf elem).run P w=.ok 1 w)(hn:Nat.min sLen dLen=0) :
  (Builtin.copy_ #[dT,sT] ty #[.slice d dLen dCap,.slice a sLen sCap]).run P w=.ok (goInt 0) w:=by
 have hl:∀ (x:Addr),(loadCells x 0).run P w=.ok #[] w:=fun x=>by simpa using run_loadCells_list (P:=P) w x [] (by simp)
 cases d<;>cases a<;>simp[Builtin.copy_,run_underlying hu,Builtin.lenOf,Builtin.firstCells,hs,hn,storeCells,hl]
theorem qt {l:List UInt8}:∀ u∈l.map (fun b=>Value.int .u8 (b.toNat:Int)),u.oneCell'=true:=by
 intro u hu
 obtain⟨b,_,rfl⟩:=List.mem_map.1 hu
 rfl
end
def o6 (K:Kn)(i n:Nat):List Oper:=[mk (some n) (.move (tm 0)),mk (some (n+1)) (.indexAddr K.tSl (tm n) (ki .i64 i)),mk (some (n+2)) (.load K.tU8 (tm (n+1)))]
def pN (K:Kn)(k:Nat):GC:=ej 2 3 (fun n=>[mk (some n) (.move (tm 0)),bi (some (n+1)) .len [tm n] [K.tSl] K.tInt,mk (some (n+2)) (.binOp .lss K.tInt (tm (n+1)) (ki .i64 k) 0)]) (aY (.goto 0)) b6
def sH (K:Kn):GC:=aA 5 fun n=>o6 K 0 n++[mk (some (n+3)) (.binOp .and K.tU8 (tm (n+2)) (ki .u8 127) 0),mk (some (n+4)) (.convert K.tU8 K.tU32 (tm (n+3))),mk (some 4) (.assign (tm (n+4)))]
def A5 (i:Nat):GC:=gS [aA 1 fun n=>[mk (some n) (.move (tm 4)),mk (some 2) (.assign (tm n)),mk (some 3) (.assign (ki .i64 i))],aY .ret]
def ll (K:Kn)(i:Nat):GC:=ej 4 5 (fun n=>o6 K i n++[mk (some (n+3)) (.binOp .and K.tU8 (tm (n+2)) (ki .u8 128) 0),mk (some (n+4)) (.binOp .eql K.tU8 (tm (n+3)) (ki .u8 0) 0)]) (A5 (i+1)) (pN K (i+2))
def ny (K:Kn)(i s:Nat):GC:=aA 8 fun n=>mk (some n) (.move (tm 4))::(o6 K i (n+1)++[mk (some (n+4)) (.binOp .and K.tU8 (tm (n+3)) (ki .u8 127) 0),mk (some (n+5)) (.convert K.tU8 K.tU32 (tm (n+4))),mk (some (n+6)) (.binOp .shl K.tU32 (tm (n+5)) (ki .u64 s) 0),mk (some (n+7)) (.binOp .or K.tU32 (tm n) (tm (n+6)) 0),mk (some 4) (.assign (tm (n+7)))])
def xI (K:Kn):GC:=aA 7 fun n=>mk (some n) (.move (tm 4))::(o6 K 4 (n+1)++[mk (some (n+4)) (.convert K.tU8 K.tU32 (tm (n+3))),mk (some (n+5)) (.binOp .shl K.tU32 (tm (n+4)) (ki .u64 28) 0),mk (some (n+6)) (.binOp .or K.tU32 (tm n) (tm (n+5)) 0),mk (some 4) (.assign (tm (n+6)))])
def Cp (K:Kn):GC:=ej 3 4 (fun n=>o6 K 4 n++[mk (some (n+3)) (.binOp .leq K.tU8 (tm (n+2)) (ki .u8 15) 0)]) (A5 5) b6
def Cq (K:Kn):List GC:=[aU 4 (.int .u32 0),aU 5 (.int .i64 0),pN K 1,sH K,ll K 0,ny K 1 7,ll K 1,ny K 2 14,ll K 2,ny K 3 21,ll K 3,xI K,Cp K,aU 5 (.int .i64 (-5)),aY (.label 0),
 aA 1 fun n=>[mk (some n) (.move (tm 5)),mk (some 2) (.assign (ki .u32 0)),mk (some 3) (.assign (tm n))],aY .ret]
def cUvIn (K:Kn):Code:=.seq (rg [mk (some 2) (.assign (ki .u32 0)),mk (some 3) (.assign (ki .i64 0))]) (.scope (sq (gL (Cq K) 6).1))
def cUv (K:Kn):Code:=(gS [aU 2 (.int .u32 0),
 aA 7 fun n=>iW K 0 n++[cl (some (n+4)) K.fUv [tm (n+3)],mk (some 5) (.move (tm (n+4))),mk (some (n+5)) (.extract (tm 5) 0),mk (some (n+6)) (.extract (tm 5) 1),mk (some 3) (.assign (tm (n+5))),mk (some 4) (.assign (tm (n+6)))],
 ej 1 2 (fun n=>[mk (some n) (.move (tm 4)),mk (some (n+1)) (.binOp .leq K.tInt (tm n) (ki .i64 0) 0)]) (rS K (.int .u32 0)) b6,mq K 4,bB 3 2,aY .ret] 6).1
end Go.Proofs.YtbgklecbmhaadaaGreatDoor.Kx